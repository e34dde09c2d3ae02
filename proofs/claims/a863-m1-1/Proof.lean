import JvmDerived
import JvmDerived.Pilot.@@N@@Statement
import JvmDerived.Pilot.@@N@@Code
set_option linter.unusedVariables false
set_option linter.unusedSimpArgs false
set_option maxRecDepth 65536
namespace Jvm.Pilot.@@N@@
open Jvm Jvm.ClassFile Sem Op Lib Jvm.Free Jvm.Stand Jvm.LawKit Jvm.RoadKit Bundle Jvm.Pilot.@@N@@.Jvm.D
section OwnKit
variable {p : Program} {l : Launch} {e : Env} {R : Room} {s : State} {m : MethodId} {args : Array Value} {below : List Frame} {meth : Method} {c : Code} {T : State} {locs : List Loc} {cells slots : Nat}
theorem own_retI (X : Stand p l e R s m args below meth c T locs cells slots) (hx : p.tables.exec = Jvm.exec) {pc : Nat} {Ls : Array Slot} {z : Int32} {rest : List Value} (hret : meth.sig.returnType = some .int) (hd : decode c.code pc = .ok (.ireturn, 1)) {fs : List Frame}
    (hl : ∀ (f : JFrame) (acts : List Action), f.method = m → f.locked = none → f.entered = [] → (doReturn e (T.setTop f) acts (some (.int z))).1 = T.setFrames fs) : Steps p.tables e below (T.setTop (mkF m pc Ls (.int z :: rest))) (T.setFrames fs) := by
  have hm' : T.vm.method? m = some meth := X.method'
  have hn : narrow .int (.int z) = .int z := rfl
  show Steps p.tables e below (T.setTop { method := m, pc := pc, locals := Ls, stack := _ :: rest, locked := none }) _
  jvm_step X.here [X.here.top, hx, hd, hm', hret, hn]
  first | (intro acts; rw [hl _ acts rfl rfl rfl]) | rw [hl _ _ rfl rfl rfl]
  exact Steps.refl _
/-- where the run stands, with the same writes and figures as at X -/
abbrev own_like (_ : Stand p l e R s m args below meth c T locs cells slots) (T' : State) : Prop := Stand p l e R s m args below meth c T' locs cells slots
end OwnKit
theorem own_Llt {a b : Int64} (h : a < b) : ifCond.holds .lt (lcmpW a b) = true ∧ ifCond.holds .ge (lcmpW a b) = false ∧ ifCond.holds .gt (lcmpW b a) = true ∧ ifCond.holds .le (lcmpW b a) = false := by
  simp only [if0]
  exact ⟨(tlt ((lw_lt a b).mpr h)).1, (tlt ((lw_lt a b).mpr h)).2.1, (tlt ((lw_gt b a).mpr h)).2.2.1, (tlt ((lw_gt b a).mpr h)).2.2.2⟩
theorem own_Lnl {a b : Int64} (h : ¬ a < b) : ifCond.holds .lt (lcmpW a b) = false ∧ ifCond.holds .ge (lcmpW a b) = true ∧ ifCond.holds .gt (lcmpW b a) = false ∧ ifCond.holds .le (lcmpW b a) = true := by
  simp only [if0]
  have h1 : ¬ lcmpW a b < 0 := fun q => h ((lw_lt a b).mp q)
  have h2 : ¬ 0 < lcmpW b a := fun q => h ((lw_gt b a).mp q)
  exact ⟨(flt h1).1, (flt h1).2.1, (flt h2).2.2.1, (flt h2).2.2.2⟩
theorem own_Leq {a b : Int64} (h : a = b) : ifCond.holds .eq (lcmpW a b) = true ∧ ifCond.holds .ne (lcmpW a b) = false := by
  simp only [if0]
  exact teq ((lw_eq a b).mpr h)
theorem own_Lne {a b : Int64} (h : ¬ a = b) : ifCond.holds .eq (lcmpW a b) = false ∧ ifCond.holds .ne (lcmpW a b) = true := by
  simp only [if0]
  exact feq fun q => h ((lw_eq a b).mp q)
theorem own_StaK {Z : State} {h h' : Heap} {C n d : String} {v : Value} {ws : List Addr} (F : Sta Z h C n d v) (K : Keep h h' ws) (q : ∀ x ∈ ws, ∃ c : Cell, h[x]? = some c ∧ c.vm.isStatics = false) : Sta Z h' C n d v := by
  obtain ⟨cf, i, k, f, st, cell, h1, h2, h3, h4, h5, h6, h7⟩ := F
  refine ⟨cf, i, k, f, st, cell, h1, h2, h3, h4, K.2.1 st cell h5 (fun hm => ?_), h6, h7⟩
  obtain ⟨c, e1, e2⟩ := q _ hm
  rw [h5] at e1
  cases e1
  rw [h6] at e2
  cases e2
theorem own_ExaS {Z : State} {h : Heap} {a : Addr} {C : String} (E : Exa Z h a C) : ∃ c : Cell, h[a]? = some c ∧ c.vm.isStatics = false := by
  obtain ⟨c, k, e1, -, -, e2, -⟩ := E
  exact ⟨c, e1, e2⟩
/-- a boolean as the JVM's int -/
def own_b (b : Bool) : Int32 := if b then 1 else 0
theorem own_b_t : own_b true = 1 := rfl
theorem own_b_f : own_b false = 0 := rfl
theorem own_b0 {b : Bool} : own_b b = 0 ↔ b = false := by cases b <;> decide
theorem own_b_inj {b c : Bool} : own_b b = own_b c ↔ b = c := by cases b <;> cases c <;> decide
theorem own_leafT {b : Bool} (h : b = true) : (some (.int (nar .boolean (1 : Int32))) : Option Value) = some (.int (own_b b)) := by subst h; rfl
theorem own_leafF {b : Bool} (h : b = false) : (some (.int (nar .boolean (0 : Int32))) : Option Value) = some (.int (own_b b)) := by subst h; rfl
theorem own_bt {b : Bool} (h : b = true) : (1 : Int32) = own_b b := by subst h; rfl
theorem own_bf {b : Bool} (h : b = false) : (0 : Int32) = own_b b := by subst h; rfl
theorem own_b_nar (b : Bool) : nar .boolean (own_b b) = own_b b := by cases b <;> rfl
theorem own_wS {Z : State} {a0 : Array Value} (hw : ∀ d ∈ tables_1, d.before a0 Z = true) : ∀ a ∈ Bundle.stringAtoms, a.before a0 Z = true := by
  intro d hd
  simp only [Bundle.stringAtoms, List.mem_cons, List.not_mem_nil, or_false] at hd
  rcases hd with rfl | rfl | rfl | rfl | rfl | rfl | rfl
  · exact (hw _ (List.mem_of_getElem? (i := 6) rfl))
  · exact (hw _ (List.mem_of_getElem? (i := 14) rfl))
  · exact (hw _ (List.mem_of_getElem? (i := 18) rfl))
  · exact (hw _ (List.mem_of_getElem? (i := 27) rfl))
  · exact (hw _ (List.mem_of_getElem? (i := 29) rfl))
  · exact (hw _ (List.mem_of_getElem? (i := 39) rfl))
  · exact (hw _ (List.mem_of_getElem? (i := 40) rfl))
abbrev own_EL : List (String × Nat) := consts_1
theorem own_EW {Z : State} {a0 : Array Value} (hw : ∀ d ∈ tables_1, d.before a0 Z = true) : EW Z a0 own_EL := (EW.cons (hw _ (List.mem_of_getElem? (i := 67) rfl)) (by decide) (EW.cons (hw _ (List.mem_of_getElem? (i := 38) rfl)) (by decide) EW.nil))
theorem own_SafeArv {Z : State} {EL : List (String × Nat)} {vm : Vm} {h : Heap} {a : Addr} {k : ClassId} {ty : FieldType} {z : Int32} {vs : List Value} {dv : Value} (hal : Z.vm.Alike vm) (F : Arv Z h a k ty z vs dv) (ht : ty ≠ .byte) : Safe Z EL vm h a := by
  obtain ⟨c, A, -⟩ := F
  exact Safe.arr hal A ht
theorem own_backSE {p : Program} {l : Launch} {e : Env} {R : Room} {s : State} {args : Array Value} {below : List Frame} {Z : State} {a0 : Array Value} {EL : List (String × Nat)} {h : Heap} {vm0 : Vm} {y : MethodName} {bytes : ByteArray} {maxL : Nat} {ret : Option FieldType} {rm : Room} {len W : Nat} {as' : Array Value} {Q : Option Value → Heap → List Loc → Prop} {E : Vm → Prop}
    (hM : MetFree l y (head1 [Cond.code y bytes maxL ret] rm) (fun a U => a = as' ∧ Z.Warmed39 U.vm ∧ U.heap = h ∧ CHv Z EL U.vm h ∧ E U.vm) (fun _ _ _ _ _ => True) (fun _ U o U' => ∃ v L, o = .returned v ∧ Q v U'.heap L ∧ CHr Z EL U.vm U.heap U'.vm U'.heap ∧ ReturnedEndW U o U' L rm.cells rm.slots))
    (hZ : Z.Warmed39 vm0) (wc : (Cond.code y bytes maxL ret).before a0 Z = true) (wz : (Cond.initialized y.cls).before a0 Z = true) (hf : rm.frames + 1 ≤ R.frames) (hl : W + (maxL + 11) + rm.locals ≤ R.locals) (hEL : EW Z a0 EL) (H : CHv Z EL vm0 h) (hE : ∀ vm1, CHr Z EL vm0 h vm1 h → E vm1) :
    BackS l R p e below (s.setVm vm0) args y len W (fun A a => a = as' ∧ A.U.heap = h ∧ A.cells + rm.cells ≤ R.cells ∧ A.slots + rm.slots ≤ R.slots)
      (fun A _ v B => ∃ L, Q v B.U.heap L ∧ B.locs = A.locs ++ L ∧ B.cells = A.cells + rm.cells ∧ B.slots = A.slots + rm.slots ∧ CHr Z EL vm0 h B.U.vm B.U.heap) := by
  refine BackS.of_freeW (bytes := bytes) (maxL := maxL) (ret := ret) (E := fun _ first o t L k n => (k = rm.cells ∧ n = rm.slots) ∧ (∃ v, o = .returned v ∧ Q v t.heap L) ∧ CHr Z EL first.vm first.heap t.vm t.heap) hM hf hl ?_ ?_ (fun _ _ _ _ _ _ _ _ _ => trivial) ?_ ?_
  · intro m meth c A a Y hp
    have hU : Z.Warmed39 A.U.vm := wtrans (s := s.setVm vm0) hZ Y.warmed
    refine ⟨?_, mv hU wc, mv hU wz, hp.2.2⟩
    show (Cond.and _ .tt).before a A.U = true
    rw [Cond.before_and, mv hU wc]; rfl
  · intro m meth c A a g mk Y hp
    have q := CHv.at Y hZ hEL H
    exact ⟨hp.1, wtrans (s := s.setVm vm0) hZ Y.warmed, hp.2.1, q.1, hE _ q⟩
  · rintro _ _ _ _ ⟨v, L, h1, h2, h3, h4⟩
    exact ⟨L, _, _, h4, ⟨rfl, rfl⟩, ⟨v, h1, h2⟩, h3⟩
  · rintro m meth c A a g mk v t L k n Y hp - - ⟨⟨e1, e2⟩, ⟨v', e3, e4⟩, e5⟩
    cases e3
    subst e1 e2
    refine ⟨L, e4, rfl, rfl, rfl, (CHv.at Y hZ hEL H).trans ?_⟩
    rw [← hp.2.1]
    exact e5
theorem own_ArvS {Z : State} {h : Heap} {a : Addr} {k : ClassId} {ty : FieldType} {z : Int32} {vs : List Value} {dv : Value} (F : Arv Z h a k ty z vs dv) : ∃ c : Cell, h[a]? = some c ∧ c.vm.isStatics = false := by
  obtain ⟨c, A, -⟩ := F
  refine ⟨c, A.1, ?_⟩
  have q := A.2.1.1
  cases hv : c.vm <;> first | rfl | exact absurd hv (q _)
def own_lo (c : Int32) : Int32 := c.toInt8.toInt32
theorem own_lolo (c : Int32) : nar .byte (c.toInt8.toInt32) = own_lo c := by
  show ((c.toInt8.toInt32).toInt8).toInt32 = c.toInt8.toInt32
  rw [Int8.toInt8_toInt32]
def own_c0 (x : Int32) : Int32 := nar .char ((((x.toUInt32 >>> ((2 : Int32) &&& 31).toUInt32).toInt32) &&& (255 : Int32)).toUInt32.toUInt16.toUInt32.toInt32)
def own_c1 (x : Int32) : Int32 := nar .char ((((x.toUInt32 >>> ((10 : Int32) &&& 31).toUInt32).toInt32) &&& (255 : Int32)).toUInt32.toUInt16.toUInt32.toInt32)
theorem own_m8 (y : Int32) : nar .char ((y &&& (255 : Int32)).toUInt32.toUInt16.toUInt32.toInt32) = y &&& (255 : Int32) ∧ 0 ≤ (y &&& (255 : Int32)).toInt ∧ (y &&& (255 : Int32)).toInt ≤ 255 := by
  have m := c_mask y (255 : Int32) 8 (by decide) (by decide)
  have a := c_i2c (y &&& (255 : Int32))
  have b := c_i2c ((y &&& (255 : Int32)).toUInt32.toUInt16.toUInt32.toInt32)
  refine ⟨Int32.toInt_inj.mp ?_, by omega, by omega⟩
  show (((y &&& (255 : Int32)).toUInt32.toUInt16.toUInt32.toInt32).toUInt32.toUInt16.toUInt32.toInt32).toInt = _
  omega
theorem own_char8 (z : Int32) (h : 0 ≤ z.toInt ∧ z.toInt ≤ 255) : nar .char z = z := by
  have a := c_i2c z
  exact Int32.toInt_inj.mp (show (z.toUInt32.toUInt16.toUInt32.toInt32).toInt = z.toInt by omega)
theorem own_r0 (x : Int32) : 0 ≤ (own_c0 x).toInt ∧ (own_c0 x).toInt ≤ 255 := by unfold own_c0; have q := own_m8 ((x.toUInt32 >>> ((2 : Int32) &&& 31).toUInt32).toInt32); rw [q.1]; exact q.2
theorem own_r1 (x : Int32) : 0 ≤ (own_c1 x).toInt ∧ (own_c1 x).toInt ≤ 255 := by unfold own_c1; have q := own_m8 ((x.toUInt32 >>> ((10 : Int32) &&& 31).toUInt32).toInt32); rw [q.1]; exact q.2
theorem own_lat {z : Int32} (h : 0 ≤ z.toInt ∧ z.toInt ≤ 255) : ¬ (255 : Int32) < nar .char z := by
  rw [own_char8 z h, Int32.lt_iff_toInt_lt]
  have : (255 : Int32).toInt = 255 := rfl
  omega
theorem own_lo42 {z : Int32} (h : 0 ≤ z.toInt ∧ z.toInt ≤ 255) : own_lo (nar .char z) = (42 : Int32) ↔ z = (42 : Int32) := by
  rw [own_char8 z h, ← Int32.toInt_inj, ← Int32.toInt_inj]
  have a := c_i2b z
  have b : (own_lo z).toInt = z.toInt8.toInt32.toInt := rfl
  have c : (42 : Int32).toInt = 42 := rfl
  omega
def own_n (x : Int32) : Int32 := if (x &&& (3 : Int32)) = (0 : Int32) then (1 : Int32) else if (x &&& (3 : Int32)) = (1 : Int32) then (1 : Int32) else if (x &&& (3 : Int32)) = (2 : Int32) then (2 : Int32) else (0 : Int32)
def own_vs (x : Int32) : List Value := if (x &&& (3 : Int32)) = (0 : Int32) then [.int (own_lo (42 : Int32))] else if (x &&& (3 : Int32)) = (1 : Int32) then [.int (own_lo (nar .char (own_c0 x)))] else if (x &&& (3 : Int32)) = (2 : Int32) then [.int (own_lo (nar .char (own_c0 x))), .int (own_lo (nar .char (own_c1 x)))] else []
def own_z (x : Int32) : Int32 := if (x &&& (3 : Int32)) = (0 : Int32) then own_lo (42 : Int32) else own_lo (nar .char (own_c0 x))
def own_star (x : Int32) : Bool := decide ((x &&& (3 : Int32)) = (0 : Int32) ∨ ((x &&& (3 : Int32)) = (1 : Int32) ∧ own_c0 x = (42 : Int32)))
theorem own_hd (x : Int32) : (own_n x = (1 : Int32) ∧ own_vs x = [.int (own_z x)]) ∨ ¬ own_n x = (1 : Int32) := by
  unfold own_n own_vs own_z
  by_cases h0 : (x &&& (3 : Int32)) = (0 : Int32)
  · rw [if_pos h0, if_pos h0, if_pos h0]; exact Or.inl ⟨rfl, rfl⟩
  · rw [if_neg h0, if_neg h0, if_neg h0]
    by_cases h1 : (x &&& (3 : Int32)) = (1 : Int32)
    · rw [if_pos h1, if_pos h1]; exact Or.inl ⟨rfl, rfl⟩
    · rw [if_neg h1]
      by_cases h2 : (x &&& (3 : Int32)) = (2 : Int32)
      · rw [if_pos h2]; exact Or.inr (by decide)
      · rw [if_neg h2]; exact Or.inr (by decide)
theorem own_st (x : Int32) : decide (own_n x = (1 : Int32) ∧ own_z x = (42 : Int32)) = own_star x := by
  unfold own_star
  rw [decide_eq_decide]
  unfold own_n own_z
  by_cases h0 : (x &&& (3 : Int32)) = (0 : Int32)
  · rw [if_pos h0, if_pos h0]; exact ⟨fun _ => Or.inl h0, fun _ => ⟨rfl, by decide⟩⟩
  · rw [if_neg h0, if_neg h0]
    by_cases h1 : (x &&& (3 : Int32)) = (1 : Int32)
    · rw [if_pos h1, own_lo42 (own_r0 x)]; exact ⟨fun q => Or.inr ⟨h1, q.2⟩, fun q => ⟨rfl, (q.resolve_left h0).2⟩⟩
    · rw [if_neg h1]
      have hn : ¬ (if (x &&& (3 : Int32)) = (2 : Int32) then (2 : Int32) else (0 : Int32)) = (1 : Int32) := by split <;> decide
      exact ⟨fun q => absurd q.1 hn, fun q => absurd (q.resolve_left h0).1 h1⟩
def own_sp (a b : Bool) : Int32 := if b then own_b (!a) else own_b (!a) + (1 : Int32)
theorem own_plain (a b : Bool) : own_sp a b = own_b (!a) + own_b (!b) := by cases a <;> cases b <;> decide
theorem own_ne_same {Z : State} {h : Heap} {a o t l : Addr} {k1 k2 : ClassId} {n1 n2 : Int32} {v1 v2 : List Value} (F : Fld Z h a "java/lang/String" "value" "[B" (.ref t)) (G : Fld Z h o "java/lang/String" "value" "[B" (.ref l)) (A : Arv Z h t k1 .byte n1 v1 (.int (0 : Int32))) (B : Arv Z h l k2 .byte n2 v2 (.int (0 : Int32)))
    (q : n1.toNatClampNeg ≠ n2.toNatClampNeg ∨ ∃ i, i < n1.toNatClampNeg ∧ v1.getD i (.int (0 : Int32)) ≠ v2.getD i (.int (0 : Int32))) : ¬ a = o := Fld.ne F G fun e => arv_ne A B q (Value.ref.inj e)
theorem own_len_ne {Z : State} {h : Heap} {t : Addr} {k : ClassId} {n : Int32} {vs : List Value} (A : Arv Z h t k .byte n vs (.int (0 : Int32))) (hn : ¬ n = (1 : Int32)) : n.toNatClampNeg ≠ (1 : Int32).toNatClampNeg := fun e => by
  obtain ⟨c, -, -, -, h0, -⟩ := A
  have a := nat_of h0
  have b : (1 : Int32).toInt = 1 := rfl
  have d : (1 : Int32).toNatClampNeg = 1 := rfl
  exact hn (Int32.toInt_inj.mp (by omega))
theorem own_d10_0 : decode jdk_30_method_1_code 0 = .ok (.aload_n 0, 1) := by decide +kernel
theorem own_d10_1 : decode jdk_30_method_1_code 1 = .ok (.invokespecial 1, 3) := by decide +kernel
theorem own_d10_4 : decode jdk_30_method_1_code 4 = .ok (.return_, 1) := by decide +kernel
theorem own_ef10 (m : MethodId) (x0 : Addr) : entryFrame m #[(.ref x0)] 1 = mkF m 0 #[.val (.ref x0)] [] := by first | (simp [entryFrame, mkF, argsToLocals, Value.category]; done) | rfl
def own_Q10 (Z : State) (a : Addr) (h0 : Heap) (n0 : Nat) (v : Option Value) (h : Heap) (L : List Loc) : Prop := v = none ∧ L = [] ∧ h = h0
theorem own_pn0 : plainName "java/lang/Record" = true := by first | (simp [plainName, overriddenIn]; done) | decide +kernel
set_option maxHeartbeats 40000000 in
theorem own_rm10 (l : Launch) (Z : State) (a0 : Array Value) (hw : ∀ d ∈ tables_1, d.before a0 Z = true) (ws : List Jvm.Cond) (a : Addr) (h0 : Heap) (n0 : Nat) (Z0 : n0 ≤ h0.size) :
    MetFree l (⟨"java/lang/Record", "<init>", "()V"⟩ : MethodName) (head1 (Jvm.Cond.code (⟨"java/lang/Record", "<init>", "()V"⟩ : MethodName) jdk_30_method_1_code 1 none :: ws) ({ frames := 1, cells := 0, slots := 0, locals := 12 } : Room)) (fun argv U => argv = #[(.ref a)] ∧ Z.Warmed39 U.vm ∧ U.heap = h0) (fun _ _ _ _ _ => True) (fun _ U o U' => ∃ v L, o = .returned v ∧ own_Q10 Z a h0 n0 v U'.heap L ∧ FrameEnd U o U' L ({ frames := 1, cells := 0, slots := 0, locals := 12 } : Room).cells ({ frames := 1, cells := 0, slots := 0, locals := 12 } : Room).slots) := by
  refine MetFree.of_bodySF (plainFor_of_name own_pn0) hisR ?_
  intro p e s m args below meth c s₁ Bd hml0 hP hK
  obtain ⟨rfl, hZ, hh⟩ := hP
  have hx := Bd.exec
  have hby := Bd.bytes
  have hml : c.maxLocals = 1 := hml0
  have hown : s.vm.findClass "java/lang/Record" = some m.cls := findClass_of_methodNamed Bd.named
  have hnm := (name_of_methodNamed Bd.named Bd.method).1
  have X0 : Stand p l e ({ frames := 1, cells := 0, slots := 0, locals := 12 } : Room) s m #[(.ref a)] below meth c s₁ [] 0 0 := Stand.of_body Bd
  have e0 : s₁.heap = h0 := by rw [← hh, Bd.state]; rfl
  have N0 := Fr.nil n0
  have pre0 : ∀ t, Steps p.tables e below (s₁.setTop (mkF m 0 #[.val (.ref a)] [])) t → Steps p.tables e below (s₁.setTop (entryFrame m #[(.ref a)] 1)) t := fun t k => castTop (own_ef10 m a) k
  have S1 : ∀ t, Steps p.tables e below (s₁.setTop (mkF m 1 #[.val (.ref a)] [(.ref a)])) t → Steps p.tables e below (s₁.setTop (entryFrame m #[(.ref a)] 1)) t := fun t kt => by
    refine pre0 t ?_
    show Steps p.tables e below (s₁.setTop (mkF m 0 #[.val (.ref a)] [])) t
    refine XS.aloadN X0.here hx rfl (hb hby own_d10_0) rfl rfl ?_
    exact kt
  obtain ⟨T2, X2, e2, st2⟩ := initO X0 hx hZ hown (hw _ (List.mem_of_getElem? (i := 52) rfl)) (hw _ (List.mem_of_getElem? (i := 24) rfl)) (hw _ (List.mem_of_getElem? (i := 25) rfl)) e0 (g := (mkF m 1 #[.val (.ref a)] [(.ref a)])) rfl (by rw [hml]; rfl) rfl (hb hby own_d10_1) (by decide) (W := 0) (by show 2 * 0 + _ ≤ _; exact Nat.le_of_eq rfl) (by decide)
  have S3 : ∀ t, Steps p.tables e below (T2.setTop (mkF m 4 #[.val (.ref a)] [])) t → Steps p.tables e below (s₁.setTop (entryFrame m #[(.ref a)] 1)) t := fun t kt => S1 t (st2 _ kt)
  obtain ⟨fs, hr, hrun, hended, hW, hsame⟩ := X2.leave (v := none) (fun _ => rfl)
  refine ⟨_, _, S3 _ ?_, hrun, hended, _, _, rfl, ?_, ⟨_, rfl⟩, hW, hsame.mono (by decide) (by decide)⟩
  · show Steps p.tables e below (T2.setTop (mkF m 4 #[.val (.ref a)] [])) _
    exact X2.returnOut hx Bd.returns (hb hby own_d10_4) hr
  · show own_Q10 Z a h0 n0 _ T2.heap _
    rw [e2]
    exact ⟨rfl, rfl, rfl⟩
theorem own_d15_0 : decode method_2_code 0 = .ok (.iload_n 0, 1) := by decide +kernel
theorem own_d15_1 : decode method_2_code 1 = .ok (.iconst 2, 1) := by decide +kernel
theorem own_d15_2 : decode method_2_code 2 = .ok (.iushr, 1) := by decide +kernel
theorem own_d15_3 : decode method_2_code 3 = .ok (.sipush 255, 3) := by decide +kernel
theorem own_d15_6 : decode method_2_code 6 = .ok (.iand, 1) := by decide +kernel
theorem own_d15_7 : decode method_2_code 7 = .ok (.i2c, 1) := by decide +kernel
theorem own_d15_8 : decode method_2_code 8 = .ok (.ireturn, 1) := by decide +kernel
theorem own_ef15 (m : MethodId) (x0 : Int32) : entryFrame m #[(.int x0)] 1 = mkF m 0 #[.val (.int x0)] [] := by first | (simp [entryFrame, mkF, argsToLocals, Value.category]; done) | rfl
def own_Q15 (Z : State) (xx : Int32) (h0 : Heap) (n0 : Nat) (v : Option Value) (h : Heap) (L : List Loc) : Prop := v = some (.int (own_c0 xx)) ∧ L = [] ∧ h = h0
theorem own_pn1 : plainName "com/example/splode/splode/document/MediaRangeSpecificityPinLaw" = true := by first | (simp [plainName, overriddenIn]; done) | decide +kernel
set_option maxHeartbeats 40000000 in
theorem own_rm15 (l : Launch) (Z : State) (a0 : Array Value) (hw : ∀ d ∈ tables_1, d.before a0 Z = true) (ws : List Jvm.Cond) (xx : Int32) (h0 : Heap) (n0 : Nat) (Z0 : n0 ≤ h0.size) :
    MetFree l (⟨"com/example/splode/splode/document/MediaRangeSpecificityPinLaw", "c0", "(I)C"⟩ : MethodName) (head1 (Jvm.Cond.code (⟨"com/example/splode/splode/document/MediaRangeSpecificityPinLaw", "c0", "(I)C"⟩ : MethodName) method_2_code 1 (some .char) :: ws) ({ frames := 0, cells := 0, slots := 0, locals := 0 } : Room)) (fun argv U => argv = #[(.int xx)] ∧ Z.Warmed39 U.vm ∧ U.heap = h0) (fun _ _ _ _ _ => True) (fun _ U o U' => ∃ v L, o = .returned v ∧ own_Q15 Z xx h0 n0 v U'.heap L ∧ FrameEnd U o U' L ({ frames := 0, cells := 0, slots := 0, locals := 0 } : Room).cells ({ frames := 0, cells := 0, slots := 0, locals := 0 } : Room).slots) := by
  refine MetFree.of_bodySF (plainFor_of_name own_pn1) hisR ?_
  intro p e s m args below meth c s₁ Bd hml0 hP hK
  obtain ⟨rfl, hZ, hh⟩ := hP
  have hx := Bd.exec
  have hby := Bd.bytes
  have hml : c.maxLocals = 1 := hml0
  have hown : s.vm.findClass "com/example/splode/splode/document/MediaRangeSpecificityPinLaw" = some m.cls := findClass_of_methodNamed Bd.named
  have hnm := (name_of_methodNamed Bd.named Bd.method).1
  have X0 : Stand p l e ({ frames := 0, cells := 0, slots := 0, locals := 0 } : Room) s m #[(.int xx)] below meth c s₁ [] 0 0 := Stand.of_body Bd
  have e0 : s₁.heap = h0 := by rw [← hh, Bd.state]; rfl
  have N0 := Fr.nil n0
  have pre0 : ∀ t, Steps p.tables e below (s₁.setTop (mkF m 0 #[.val (.int xx)] [])) t → Steps p.tables e below (s₁.setTop (entryFrame m #[(.int xx)] 1)) t := fun t k => castTop (own_ef15 m xx) k
  have S1 : ∀ t, Steps p.tables e below (s₁.setTop (mkF m 8 #[.val (.int xx)] [(.int ((((xx.toUInt32 >>> ((2 : Int32) &&& 31).toUInt32).toInt32) &&& (255 : Int32)).toUInt32.toUInt16.toUInt32.toInt32))])) t → Steps p.tables e below (s₁.setTop (entryFrame m #[(.int xx)] 1)) t := fun t kt => by
    refine pre0 t ?_
    show Steps p.tables e below (s₁.setTop (mkF m 0 #[.val (.int xx)] [])) t
    refine XS.iloadN X0.here hx rfl (hb hby own_d15_0) rfl ?_
    show Steps p.tables e below (s₁.setTop (mkF m 1 #[.val (.int xx)] [(.int xx)])) t
    refine XS.iconst X0.here hx rfl (hb hby own_d15_1) ?_
    show Steps p.tables e below (s₁.setTop (mkF m 2 #[.val (.int xx)] [(.int (2 : Int32)), (.int xx)])) t
    refine XS.iushr X0.here hx rfl (hb hby own_d15_2) rfl ?_
    show Steps p.tables e below (s₁.setTop (mkF m 3 #[.val (.int xx)] [(.int ((xx.toUInt32 >>> ((2 : Int32) &&& 31).toUInt32).toInt32))])) t
    refine XS.sipush X0.here hx rfl (hb hby own_d15_3) ?_
    show Steps p.tables e below (s₁.setTop (mkF m 6 #[.val (.int xx)] [(.int (255 : Int32)), (.int ((xx.toUInt32 >>> ((2 : Int32) &&& 31).toUInt32).toInt32))])) t
    refine XS.iand X0.here hx rfl (hb hby own_d15_6) rfl ?_
    show Steps p.tables e below (s₁.setTop (mkF m 7 #[.val (.int xx)] [(.int (((xx.toUInt32 >>> ((2 : Int32) &&& 31).toUInt32).toInt32) &&& (255 : Int32)))])) t
    refine XS.i2c X0.here hx rfl (hb hby own_d15_7) rfl ?_
    exact kt
  obtain ⟨fs, hr, hrun, hended, hW, hsame⟩ := X0.leave (v := some (.int (nar .char ((((xx.toUInt32 >>> ((2 : Int32) &&& 31).toUInt32).toInt32) &&& (255 : Int32)).toUInt32.toUInt16.toUInt32.toInt32)))) (fun h => by rw [Bd.returns] at h; cases h)
  refine ⟨_, _, S1 _ ?_, hrun, hended, _, _, rfl, ?_, ⟨_, rfl⟩, hW, hsame.mono (by decide) (by decide)⟩
  · show Steps p.tables e below (s₁.setTop (mkF m 8 #[.val (.int xx)] [(.int ((((xx.toUInt32 >>> ((2 : Int32) &&& 31).toUInt32).toInt32) &&& (255 : Int32)).toUInt32.toUInt16.toUInt32.toInt32))])) _
    exact retN X0 hx (t := .char) Bd.returns (by simp) (hb hby own_d15_8) hr
  · show own_Q15 Z xx h0 n0 _ s₁.heap _
    rw [e0]
    exact ⟨rfl, rfl, rfl⟩
theorem own_d16_0 : decode method_3_code 0 = .ok (.iload_n 0, 1) := by decide +kernel
theorem own_d16_1 : decode method_3_code 1 = .ok (.bipush 10, 2) := by decide +kernel
theorem own_d16_3 : decode method_3_code 3 = .ok (.iushr, 1) := by decide +kernel
theorem own_d16_4 : decode method_3_code 4 = .ok (.sipush 255, 3) := by decide +kernel
theorem own_d16_7 : decode method_3_code 7 = .ok (.iand, 1) := by decide +kernel
theorem own_d16_8 : decode method_3_code 8 = .ok (.i2c, 1) := by decide +kernel
theorem own_d16_9 : decode method_3_code 9 = .ok (.ireturn, 1) := by decide +kernel
theorem own_ef16 (m : MethodId) (x0 : Int32) : entryFrame m #[(.int x0)] 1 = mkF m 0 #[.val (.int x0)] [] := by first | (simp [entryFrame, mkF, argsToLocals, Value.category]; done) | rfl
def own_Q16 (Z : State) (xx : Int32) (h0 : Heap) (n0 : Nat) (v : Option Value) (h : Heap) (L : List Loc) : Prop := v = some (.int (own_c1 xx)) ∧ L = [] ∧ h = h0
set_option maxHeartbeats 40000000 in
theorem own_rm16 (l : Launch) (Z : State) (a0 : Array Value) (hw : ∀ d ∈ tables_1, d.before a0 Z = true) (ws : List Jvm.Cond) (xx : Int32) (h0 : Heap) (n0 : Nat) (Z0 : n0 ≤ h0.size) :
    MetFree l (⟨"com/example/splode/splode/document/MediaRangeSpecificityPinLaw", "c1", "(I)C"⟩ : MethodName) (head1 (Jvm.Cond.code (⟨"com/example/splode/splode/document/MediaRangeSpecificityPinLaw", "c1", "(I)C"⟩ : MethodName) method_3_code 1 (some .char) :: ws) ({ frames := 0, cells := 0, slots := 0, locals := 0 } : Room)) (fun argv U => argv = #[(.int xx)] ∧ Z.Warmed39 U.vm ∧ U.heap = h0) (fun _ _ _ _ _ => True) (fun _ U o U' => ∃ v L, o = .returned v ∧ own_Q16 Z xx h0 n0 v U'.heap L ∧ FrameEnd U o U' L ({ frames := 0, cells := 0, slots := 0, locals := 0 } : Room).cells ({ frames := 0, cells := 0, slots := 0, locals := 0 } : Room).slots) := by
  refine MetFree.of_bodySF (plainFor_of_name own_pn1) hisR ?_
  intro p e s m args below meth c s₁ Bd hml0 hP hK
  obtain ⟨rfl, hZ, hh⟩ := hP
  have hx := Bd.exec
  have hby := Bd.bytes
  have hml : c.maxLocals = 1 := hml0
  have hown : s.vm.findClass "com/example/splode/splode/document/MediaRangeSpecificityPinLaw" = some m.cls := findClass_of_methodNamed Bd.named
  have hnm := (name_of_methodNamed Bd.named Bd.method).1
  have X0 : Stand p l e ({ frames := 0, cells := 0, slots := 0, locals := 0 } : Room) s m #[(.int xx)] below meth c s₁ [] 0 0 := Stand.of_body Bd
  have e0 : s₁.heap = h0 := by rw [← hh, Bd.state]; rfl
  have N0 := Fr.nil n0
  have pre0 : ∀ t, Steps p.tables e below (s₁.setTop (mkF m 0 #[.val (.int xx)] [])) t → Steps p.tables e below (s₁.setTop (entryFrame m #[(.int xx)] 1)) t := fun t k => castTop (own_ef16 m xx) k
  have S1 : ∀ t, Steps p.tables e below (s₁.setTop (mkF m 9 #[.val (.int xx)] [(.int ((((xx.toUInt32 >>> ((10 : Int32) &&& 31).toUInt32).toInt32) &&& (255 : Int32)).toUInt32.toUInt16.toUInt32.toInt32))])) t → Steps p.tables e below (s₁.setTop (entryFrame m #[(.int xx)] 1)) t := fun t kt => by
    refine pre0 t ?_
    show Steps p.tables e below (s₁.setTop (mkF m 0 #[.val (.int xx)] [])) t
    refine XS.iloadN X0.here hx rfl (hb hby own_d16_0) rfl ?_
    show Steps p.tables e below (s₁.setTop (mkF m 1 #[.val (.int xx)] [(.int xx)])) t
    refine XS.bipush X0.here hx rfl (hb hby own_d16_1) ?_
    show Steps p.tables e below (s₁.setTop (mkF m 3 #[.val (.int xx)] [(.int (10 : Int32)), (.int xx)])) t
    refine XS.iushr X0.here hx rfl (hb hby own_d16_3) rfl ?_
    show Steps p.tables e below (s₁.setTop (mkF m 4 #[.val (.int xx)] [(.int ((xx.toUInt32 >>> ((10 : Int32) &&& 31).toUInt32).toInt32))])) t
    refine XS.sipush X0.here hx rfl (hb hby own_d16_4) ?_
    show Steps p.tables e below (s₁.setTop (mkF m 7 #[.val (.int xx)] [(.int (255 : Int32)), (.int ((xx.toUInt32 >>> ((10 : Int32) &&& 31).toUInt32).toInt32))])) t
    refine XS.iand X0.here hx rfl (hb hby own_d16_7) rfl ?_
    show Steps p.tables e below (s₁.setTop (mkF m 8 #[.val (.int xx)] [(.int (((xx.toUInt32 >>> ((10 : Int32) &&& 31).toUInt32).toInt32) &&& (255 : Int32)))])) t
    refine XS.i2c X0.here hx rfl (hb hby own_d16_8) rfl ?_
    exact kt
  obtain ⟨fs, hr, hrun, hended, hW, hsame⟩ := X0.leave (v := some (.int (nar .char ((((xx.toUInt32 >>> ((10 : Int32) &&& 31).toUInt32).toInt32) &&& (255 : Int32)).toUInt32.toUInt16.toUInt32.toInt32)))) (fun h => by rw [Bd.returns] at h; cases h)
  refine ⟨_, _, S1 _ ?_, hrun, hended, _, _, rfl, ?_, ⟨_, rfl⟩, hW, hsame.mono (by decide) (by decide)⟩
  · show Steps p.tables e below (s₁.setTop (mkF m 9 #[.val (.int xx)] [(.int ((((xx.toUInt32 >>> ((10 : Int32) &&& 31).toUInt32).toInt32) &&& (255 : Int32)).toUInt32.toUInt16.toUInt32.toInt32))])) _
    exact retN X0 hx (t := .char) Bd.returns (by simp) (hb hby own_d16_9) hr
  · show own_Q16 Z xx h0 n0 _ s₁.heap _
    rw [e0]
    exact ⟨rfl, rfl, rfl⟩
theorem own_pd0 : parseMethodDescriptor "(I)C" = some ⟨[.int], some .char⟩ := by decide +kernel
theorem own_d11_0 : decode method_5_code 0 = .ok (.iload_n 0, 1) := by decide +kernel
theorem own_d11_1 : decode method_5_code 1 = .ok (.iconst 3, 1) := by decide +kernel
theorem own_d11_2 : decode method_5_code 2 = .ok (.iand, 1) := by decide +kernel
theorem own_d11_3 : decode method_5_code 3 = .ok (.istore_n 1, 1) := by decide +kernel
theorem own_d11_4 : decode method_5_code 4 = .ok (.iload_n 1, 1) := by decide +kernel
theorem own_d11_5 : decode method_5_code 5 = .ok (.ifCond .ne 5, 3) := by decide +kernel
theorem own_d11_8 : decode method_5_code 8 = .ok (.iconst 1, 1) := by decide +kernel
theorem own_d11_9 : decode method_5_code 9 = .ok (.ireturn, 1) := by decide +kernel
theorem own_d11_10 : decode method_5_code 10 = .ok (.iload_n 1, 1) := by decide +kernel
theorem own_d11_11 : decode method_5_code 11 = .ok (.iconst 1, 1) := by decide +kernel
theorem own_d11_12 : decode method_5_code 12 = .ok (.if_icmp .ne 18, 3) := by decide +kernel
theorem own_d11_15 : decode method_5_code 15 = .ok (.iload_n 0, 1) := by decide +kernel
theorem own_d11_16 : decode method_5_code 16 = .ok (.invokestatic 13, 3) := by decide +kernel
theorem own_d11_19 : decode method_5_code 19 = .ok (.bipush 42, 2) := by decide +kernel
theorem own_d11_21 : decode method_5_code 21 = .ok (.if_icmp .ne 7, 3) := by decide +kernel
theorem own_d11_24 : decode method_5_code 24 = .ok (.iconst 1, 1) := by decide +kernel
theorem own_d11_25 : decode method_5_code 25 = .ok (.goto 4, 3) := by decide +kernel
theorem own_d11_28 : decode method_5_code 28 = .ok (.iconst 0, 1) := by decide +kernel
theorem own_d11_29 : decode method_5_code 29 = .ok (.ireturn, 1) := by decide +kernel
theorem own_d11_30 : decode method_5_code 30 = .ok (.iconst 0, 1) := by decide +kernel
theorem own_d11_31 : decode method_5_code 31 = .ok (.ireturn, 1) := by decide +kernel
theorem own_ef11 (m : MethodId) (x0 : Int32) : entryFrame m #[(.int x0)] 2 = mkF m 0 #[.val (.int x0), .unset] [] := by first | (simp [entryFrame, mkF, argsToLocals, Value.category]; done) | rfl
def own_Q11 (Z : State) (xx : Int32) (h0 : Heap) (n0 : Nat) (v : Option Value) (h : Heap) (L : List Loc) : Prop := v = some (.int (own_b (own_star xx))) ∧ L = [] ∧ h = h0
set_option maxHeartbeats 40000000 in
theorem own_rm11 (l : Launch) (Z : State) (a0 : Array Value) (hw : ∀ d ∈ tables_1, d.before a0 Z = true) (ws : List Jvm.Cond) (xx : Int32) (h0 : Heap) (n0 : Nat) (Z0 : n0 ≤ h0.size) :
    MetFree l (⟨"com/example/splode/splode/document/MediaRangeSpecificityPinLaw", "isStar", "(I)Z"⟩ : MethodName) (head1 (Jvm.Cond.code (⟨"com/example/splode/splode/document/MediaRangeSpecificityPinLaw", "isStar", "(I)Z"⟩ : MethodName) method_5_code 2 (some .boolean) :: ws) ({ frames := 1, cells := 0, slots := 0, locals := 12 } : Room)) (fun argv U => argv = #[(.int xx)] ∧ Z.Warmed39 U.vm ∧ U.heap = h0) (fun _ _ _ _ _ => True) (fun _ U o U' => ∃ v L, o = .returned v ∧ own_Q11 Z xx h0 n0 v U'.heap L ∧ FrameEnd U o U' L ({ frames := 1, cells := 0, slots := 0, locals := 12 } : Room).cells ({ frames := 1, cells := 0, slots := 0, locals := 12 } : Room).slots) := by
  refine MetFree.of_bodySF (plainFor_of_name own_pn1) hisR ?_
  intro p e s m args below meth c s₁ Bd hml0 hP hK
  obtain ⟨rfl, hZ, hh⟩ := hP
  have hx := Bd.exec
  have hby := Bd.bytes
  have hml : c.maxLocals = 2 := hml0
  have hown : s.vm.findClass "com/example/splode/splode/document/MediaRangeSpecificityPinLaw" = some m.cls := findClass_of_methodNamed Bd.named
  have hnm := (name_of_methodNamed Bd.named Bd.method).1
  have X0 : Stand p l e ({ frames := 1, cells := 0, slots := 0, locals := 12 } : Room) s m #[(.int xx)] below meth c s₁ [] 0 0 := Stand.of_body Bd
  have e0 : s₁.heap = h0 := by rw [← hh, Bd.state]; rfl
  have N0 := Fr.nil n0
  have pre0 : ∀ t, Steps p.tables e below (s₁.setTop (mkF m 0 #[.val (.int xx), .unset] [])) t → Steps p.tables e below (s₁.setTop (entryFrame m #[(.int xx)] 2)) t := fun t k => castTop (own_ef11 m xx) k
  have S1 : ∀ t, Steps p.tables e below (s₁.setTop (mkF m 5 #[.val (.int xx), .val (.int (xx &&& (3 : Int32)))] [(.int (xx &&& (3 : Int32)))])) t → Steps p.tables e below (s₁.setTop (entryFrame m #[(.int xx)] 2)) t := fun t kt => by
    refine pre0 t ?_
    show Steps p.tables e below (s₁.setTop (mkF m 0 #[.val (.int xx), .unset] [])) t
    refine XS.iloadN X0.here hx rfl (hb hby own_d11_0) rfl ?_
    show Steps p.tables e below (s₁.setTop (mkF m 1 #[.val (.int xx), .unset] [(.int xx)])) t
    refine XS.iconst X0.here hx rfl (hb hby own_d11_1) ?_
    show Steps p.tables e below (s₁.setTop (mkF m 2 #[.val (.int xx), .unset] [(.int (3 : Int32)), (.int xx)])) t
    refine XS.iand X0.here hx rfl (hb hby own_d11_2) rfl ?_
    show Steps p.tables e below (s₁.setTop (mkF m 3 #[.val (.int xx), .unset] [(.int (xx &&& (3 : Int32)))])) t
    refine XS.istoreN X0.here hx rfl (hb hby own_d11_3) rfl (l' := #[.val (.int xx), .val (.int (xx &&& (3 : Int32)))]) rfl ?_
    show Steps p.tables e below (s₁.setTop (mkF m 4 #[.val (.int xx), .val (.int (xx &&& (3 : Int32)))] [])) t
    refine XS.iloadN X0.here hx rfl (hb hby own_d11_4) rfl ?_
    exact kt
  by_cases hc5 : (xx &&& (3 : Int32)) = (0 : Int32)
  · skip
    have S2 : ∀ t, Steps p.tables e below (s₁.setTop (mkF m 9 #[.val (.int xx), .val (.int (xx &&& (3 : Int32)))] [(.int (1 : Int32))])) t → Steps p.tables e below (s₁.setTop (entryFrame m #[(.int xx)] 2)) t := fun t kt => by
      refine S1 t ?_
      show Steps p.tables e below (s₁.setTop (mkF m 5 #[.val (.int xx), .val (.int (xx &&& (3 : Int32)))] [(.int (xx &&& (3 : Int32)))])) t
      refine XS.ifNo X0.here hx rfl (hb hby own_d11_5) rfl ((if0 _ _).trans (teq hc5).2) ?_
      show Steps p.tables e below (s₁.setTop (mkF m 8 #[.val (.int xx), .val (.int (xx &&& (3 : Int32)))] [])) t
      refine XS.iconst X0.here hx rfl (hb hby own_d11_8) ?_
      exact kt
    obtain ⟨fs, hr, hrun, hended, hW, hsame⟩ := X0.leave (v := some (.int (nar .boolean (1 : Int32)))) (fun h => by rw [Bd.returns] at h; cases h)
    refine ⟨_, _, S2 _ ?_, hrun, hended, _, _, rfl, ?_, ⟨_, rfl⟩, hW, hsame.mono (by decide) (by decide)⟩
    · show Steps p.tables e below (s₁.setTop (mkF m 9 #[.val (.int xx), .val (.int (xx &&& (3 : Int32)))] [(.int (1 : Int32))])) _
      exact retN X0 hx (t := .boolean) Bd.returns (by simp) (hb hby own_d11_9) hr
    · show own_Q11 Z xx h0 n0 _ s₁.heap _
      rw [e0]
      exact ⟨own_leafT (by first | (simp only [own_star, decide_true, decide_false, not_true_eq_false, not_false_eq_true, and_true, true_and, and_false, false_and, and_self, or_true, true_or, or_false, false_or, or_self, if_true, if_false, Bool.not_true, Bool.not_false, Bool.and_true, Bool.true_and, Bool.and_false, Bool.false_and, *]; done) | (simp only [own_star, decide_true, decide_false, not_true_eq_false, not_false_eq_true, and_true, true_and, and_false, false_and, and_self, or_true, true_or, or_false, false_or, or_self, if_true, if_false, Bool.not_true, Bool.not_false, Bool.and_true, Bool.true_and, Bool.and_false, Bool.false_and, *]; decide)), rfl, rfl⟩
  · skip
    have S3 : ∀ t, Steps p.tables e below (s₁.setTop (mkF m 12 #[.val (.int xx), .val (.int (xx &&& (3 : Int32)))] [(.int (1 : Int32)), (.int (xx &&& (3 : Int32)))])) t → Steps p.tables e below (s₁.setTop (entryFrame m #[(.int xx)] 2)) t := fun t kt => by
      refine S1 t ?_
      show Steps p.tables e below (s₁.setTop (mkF m 5 #[.val (.int xx), .val (.int (xx &&& (3 : Int32)))] [(.int (xx &&& (3 : Int32)))])) t
      refine XS.ifYes X0.here hx rfl (pc0 := 5) (pc' := 10) rfl (hb hby own_d11_5) rfl ((if0 _ _).trans (feq hc5).2) (by decide) (by decide) ?_
      show Steps p.tables e below (s₁.setTop (mkF m 10 #[.val (.int xx), .val (.int (xx &&& (3 : Int32)))] [])) t
      refine XS.iloadN X0.here hx rfl (hb hby own_d11_10) rfl ?_
      show Steps p.tables e below (s₁.setTop (mkF m 11 #[.val (.int xx), .val (.int (xx &&& (3 : Int32)))] [(.int (xx &&& (3 : Int32)))])) t
      refine XS.iconst X0.here hx rfl (hb hby own_d11_11) ?_
      exact kt
    by_cases hc12 : (xx &&& (3 : Int32)) = (1 : Int32)
    · skip
      have S5 : ∀ t, Steps p.tables e below (s₁.setTop (mkF m 16 #[.val (.int xx), .val (.int (xx &&& (3 : Int32)))] [(.int xx)])) t → Steps p.tables e below (s₁.setTop (entryFrame m #[(.int xx)] 2)) t := fun t kt => by
        refine S3 t ?_
        show Steps p.tables e below (s₁.setTop (mkF m 12 #[.val (.int xx), .val (.int (xx &&& (3 : Int32)))] [(.int (1 : Int32)), (.int (xx &&& (3 : Int32)))])) t
        refine XS.icmpNo X0.here hx rfl (hb hby own_d11_12) rfl (teq hc12).2 ?_
        show Steps p.tables e below (s₁.setTop (mkF m 15 #[.val (.int xx), .val (.int (xx &&& (3 : Int32)))] [])) t
        refine XS.iloadN X0.here hx rfl (hb hby own_d11_15) rfl ?_
        exact kt
      obtain ⟨_, _, ⟨T6, L6, k6, n6⟩, -, X6, ⟨Lc6, hQ6, l6, y6, z6⟩, st6⟩ := Jvm.LawKit.callS X0 hx (y := (⟨"com/example/splode/splode/document/MediaRangeSpecificityPinLaw", "c0", "(I)C"⟩ : MethodName)) hown (mvT hZ (hw _ (List.mem_of_getElem? (i := 76) rfl))) (mvT hZ (hw _ (List.mem_of_getElem? (i := 77) rfl))) (mvT hZ (hw _ (List.mem_of_getElem? (i := 2) rfl))) (mvT hZ (hw _ (List.mem_of_getElem? (i := 78) rfl))) (by decide) (backOf (W := 0) (own_rm15 l Z a0 hw [] (xx) h0 n0 Z0) hZ (hw _ (List.mem_of_getElem? (i := 78) rfl)) (hw _ (List.mem_of_getElem? (i := 2) rfl)) (by decide) (by decide)) (g := (mkF m 16 #[.val (.int xx), .val (.int (xx &&& (3 : Int32)))] [(.int xx)])) rfl (by rw [hml]; rfl) (argsL := [(.int xx)]) (rest := []) (lenOf own_pd0 rfl) rfl (by show 2 * 0 + _ ≤ _; exact Nat.le_of_eq rfl) (hb hby own_d11_16) (fun _ _ => ⟨rfl, e0, (by decide : 0 + 0 ≤ _), (by decide : 0 + 0 ≤ _)⟩)
      dsimp only [Pt.U, Pt.locs, Pt.cells, Pt.slots] at X6 l6 y6 z6 st6 hQ6
      subst l6 y6 z6
      obtain ⟨rfl, rfl, eq4⟩ := hQ6
      try rw [List.append_nil] at X6
      have S7 : ∀ t, Steps p.tables e below (T6.setTop (mkF m 19 #[.val (.int xx), .val (.int (xx &&& (3 : Int32)))] [(.int (own_c0 xx))])) t → Steps p.tables e below (s₁.setTop (entryFrame m #[(.int xx)] 2)) t := fun t kt => S5 t (st6 _ kt)
      have S8 : ∀ t, Steps p.tables e below (T6.setTop (mkF m 21 #[.val (.int xx), .val (.int (xx &&& (3 : Int32)))] [(.int (42 : Int32)), (.int (own_c0 xx))])) t → Steps p.tables e below (s₁.setTop (entryFrame m #[(.int xx)] 2)) t := fun t kt => by
        refine S7 t ?_
        show Steps p.tables e below (T6.setTop (mkF m 19 #[.val (.int xx), .val (.int (xx &&& (3 : Int32)))] [(.int (own_c0 xx))])) t
        refine XS.bipush X6.here hx rfl (hb hby own_d11_19) ?_
        exact kt
      by_cases hc21 : (own_c0 xx) = (42 : Int32)
      · skip
        have S9 : ∀ t, Steps p.tables e below (T6.setTop (mkF m 29 #[.val (.int xx), .val (.int (xx &&& (3 : Int32)))] [(.int (1 : Int32))])) t → Steps p.tables e below (s₁.setTop (entryFrame m #[(.int xx)] 2)) t := fun t kt => by
          refine S8 t ?_
          show Steps p.tables e below (T6.setTop (mkF m 21 #[.val (.int xx), .val (.int (xx &&& (3 : Int32)))] [(.int (42 : Int32)), (.int (own_c0 xx))])) t
          refine XS.icmpNo X6.here hx rfl (hb hby own_d11_21) rfl (teq hc21).2 ?_
          show Steps p.tables e below (T6.setTop (mkF m 24 #[.val (.int xx), .val (.int (xx &&& (3 : Int32)))] [])) t
          refine XS.iconst X6.here hx rfl (hb hby own_d11_24) ?_
          show Steps p.tables e below (T6.setTop (mkF m 25 #[.val (.int xx), .val (.int (xx &&& (3 : Int32)))] [(.int (1 : Int32))])) t
          refine XS.goto X6.here hx rfl (pc0 := 25) (pc' := 29) rfl (hb hby own_d11_25) (by decide) (by decide) ?_
          exact kt
        obtain ⟨fs, hr, hrun, hended, hW, hsame⟩ := X6.leave (v := some (.int (nar .boolean (1 : Int32)))) (fun h => by rw [Bd.returns] at h; cases h)
        refine ⟨_, _, S9 _ ?_, hrun, hended, _, _, rfl, ?_, ⟨_, rfl⟩, hW, hsame.mono (by decide) (by decide)⟩
        · show Steps p.tables e below (T6.setTop (mkF m 29 #[.val (.int xx), .val (.int (xx &&& (3 : Int32)))] [(.int (1 : Int32))])) _
          exact retN X6 hx (t := .boolean) Bd.returns (by simp) (hb hby own_d11_29) hr
        · show own_Q11 Z xx h0 n0 _ T6.heap _
          rw [eq4]
          exact ⟨own_leafT (by first | (simp only [own_star, decide_true, decide_false, not_true_eq_false, not_false_eq_true, and_true, true_and, and_false, false_and, and_self, or_true, true_or, or_false, false_or, or_self, if_true, if_false, Bool.not_true, Bool.not_false, Bool.and_true, Bool.true_and, Bool.and_false, Bool.false_and, *]; done) | (simp only [own_star, decide_true, decide_false, not_true_eq_false, not_false_eq_true, and_true, true_and, and_false, false_and, and_self, or_true, true_or, or_false, false_or, or_self, if_true, if_false, Bool.not_true, Bool.not_false, Bool.and_true, Bool.true_and, Bool.and_false, Bool.false_and, *]; decide)), rfl, rfl⟩
      · skip
        have S10 : ∀ t, Steps p.tables e below (T6.setTop (mkF m 29 #[.val (.int xx), .val (.int (xx &&& (3 : Int32)))] [(.int (0 : Int32))])) t → Steps p.tables e below (s₁.setTop (entryFrame m #[(.int xx)] 2)) t := fun t kt => by
          refine S8 t ?_
          show Steps p.tables e below (T6.setTop (mkF m 21 #[.val (.int xx), .val (.int (xx &&& (3 : Int32)))] [(.int (42 : Int32)), (.int (own_c0 xx))])) t
          refine XS.icmpYes X6.here hx rfl (pc0 := 21) (pc' := 28) rfl (hb hby own_d11_21) rfl (feq hc21).2 (by decide) (by decide) ?_
          show Steps p.tables e below (T6.setTop (mkF m 28 #[.val (.int xx), .val (.int (xx &&& (3 : Int32)))] [])) t
          refine XS.iconst X6.here hx rfl (hb hby own_d11_28) ?_
          exact kt
        obtain ⟨fs, hr, hrun, hended, hW, hsame⟩ := X6.leave (v := some (.int (nar .boolean (0 : Int32)))) (fun h => by rw [Bd.returns] at h; cases h)
        refine ⟨_, _, S10 _ ?_, hrun, hended, _, _, rfl, ?_, ⟨_, rfl⟩, hW, hsame.mono (by decide) (by decide)⟩
        · show Steps p.tables e below (T6.setTop (mkF m 29 #[.val (.int xx), .val (.int (xx &&& (3 : Int32)))] [(.int (0 : Int32))])) _
          exact retN X6 hx (t := .boolean) Bd.returns (by simp) (hb hby own_d11_29) hr
        · show own_Q11 Z xx h0 n0 _ T6.heap _
          rw [eq4]
          exact ⟨own_leafF (by first | (simp only [own_star, decide_true, decide_false, not_true_eq_false, not_false_eq_true, and_true, true_and, and_false, false_and, and_self, or_true, true_or, or_false, false_or, or_self, if_true, if_false, Bool.not_true, Bool.not_false, Bool.and_true, Bool.true_and, Bool.and_false, Bool.false_and, *]; done) | (simp only [own_star, decide_true, decide_false, not_true_eq_false, not_false_eq_true, and_true, true_and, and_false, false_and, and_self, or_true, true_or, or_false, false_or, or_self, if_true, if_false, Bool.not_true, Bool.not_false, Bool.and_true, Bool.true_and, Bool.and_false, Bool.false_and, *]; decide)), rfl, rfl⟩
    · skip
      have S11 : ∀ t, Steps p.tables e below (s₁.setTop (mkF m 31 #[.val (.int xx), .val (.int (xx &&& (3 : Int32)))] [(.int (0 : Int32))])) t → Steps p.tables e below (s₁.setTop (entryFrame m #[(.int xx)] 2)) t := fun t kt => by
        refine S3 t ?_
        show Steps p.tables e below (s₁.setTop (mkF m 12 #[.val (.int xx), .val (.int (xx &&& (3 : Int32)))] [(.int (1 : Int32)), (.int (xx &&& (3 : Int32)))])) t
        refine XS.icmpYes X0.here hx rfl (pc0 := 12) (pc' := 30) rfl (hb hby own_d11_12) rfl (feq hc12).2 (by decide) (by decide) ?_
        show Steps p.tables e below (s₁.setTop (mkF m 30 #[.val (.int xx), .val (.int (xx &&& (3 : Int32)))] [])) t
        refine XS.iconst X0.here hx rfl (hb hby own_d11_30) ?_
        exact kt
      obtain ⟨fs, hr, hrun, hended, hW, hsame⟩ := X0.leave (v := some (.int (nar .boolean (0 : Int32)))) (fun h => by rw [Bd.returns] at h; cases h)
      refine ⟨_, _, S11 _ ?_, hrun, hended, _, _, rfl, ?_, ⟨_, rfl⟩, hW, hsame.mono (by decide) (by decide)⟩
      · show Steps p.tables e below (s₁.setTop (mkF m 31 #[.val (.int xx), .val (.int (xx &&& (3 : Int32)))] [(.int (0 : Int32))])) _
        exact retN X0 hx (t := .boolean) Bd.returns (by simp) (hb hby own_d11_31) hr
      · show own_Q11 Z xx h0 n0 _ s₁.heap _
        rw [e0]
        exact ⟨own_leafF (by first | (simp only [own_star, decide_true, decide_false, not_true_eq_false, not_false_eq_true, and_true, true_and, and_false, false_and, and_self, or_true, true_or, or_false, false_or, or_self, if_true, if_false, Bool.not_true, Bool.not_false, Bool.and_true, Bool.true_and, Bool.and_false, Bool.false_and, *]; done) | (simp only [own_star, decide_true, decide_false, not_true_eq_false, not_false_eq_true, and_true, true_and, and_false, false_and, and_self, or_true, true_or, or_false, false_or, or_self, if_true, if_false, Bool.not_true, Bool.not_false, Bool.and_true, Bool.true_and, Bool.and_false, Bool.false_and, *]; decide)), rfl, rfl⟩
theorem own_pd1 : parseMethodDescriptor "()V" = some ⟨[], none⟩ := by decide +kernel
theorem own_d9_0 : decode prog_34_method_1_code 0 = .ok (.aload_n 0, 1) := by decide +kernel
theorem own_d9_1 : decode prog_34_method_1_code 1 = .ok (.invokespecial 1, 3) := by decide +kernel
theorem own_d9_4 : decode prog_34_method_1_code 4 = .ok (.aload_n 0, 1) := by decide +kernel
theorem own_d9_5 : decode prog_34_method_1_code 5 = .ok (.aload_n 1, 1) := by decide +kernel
theorem own_d9_6 : decode prog_34_method_1_code 6 = .ok (.putfield 7, 3) := by decide +kernel
theorem own_d9_9 : decode prog_34_method_1_code 9 = .ok (.aload_n 0, 1) := by decide +kernel
theorem own_d9_10 : decode prog_34_method_1_code 10 = .ok (.aload_n 2, 1) := by decide +kernel
theorem own_d9_11 : decode prog_34_method_1_code 11 = .ok (.putfield 13, 3) := by decide +kernel
theorem own_d9_14 : decode prog_34_method_1_code 14 = .ok (.aload_n 0, 1) := by decide +kernel
theorem own_d9_15 : decode prog_34_method_1_code 15 = .ok (.aload_n 3, 1) := by decide +kernel
theorem own_d9_16 : decode prog_34_method_1_code 16 = .ok (.putfield 16, 3) := by decide +kernel
theorem own_d9_19 : decode prog_34_method_1_code 19 = .ok (.return_, 1) := by decide +kernel
theorem own_ef9 (m : MethodId) (x0 : Addr) (x1 : Addr) (x2 : Addr) : entryFrame m #[(.ref x0), (.ref x1), (.ref x2), .null] 4 = mkF m 0 #[.val (.ref x0), .val (.ref x1), .val (.ref x2), .val .null] [] := by first | (simp [entryFrame, mkF, argsToLocals, Value.category]; done) | rfl
def own_Q9 (Z : State) (a : Addr) (s1 : Addr) (s2 : Addr) (u0 : Value) (u1 : Value) (u2 : Value) (h0 : Heap) (n0 : Nat) (v : Option Value) (h : Heap) (L : List Loc) : Prop := v = none ∧ Fr n0 L ∧ Keep h0 h [a] ∧ Exa Z h a "com/example/splode/splode/document/MediaRange" ∧ Fld Z h a "com/example/splode/splode/document/MediaRange" "type" "Ljava/lang/String;" (.ref s1) ∧ Fld Z h a "com/example/splode/splode/document/MediaRange" "subtype" "Ljava/lang/String;" (.ref s2) ∧ Fld Z h a "com/example/splode/splode/document/MediaRange" "parameters" "Ljava/util/Map;" .null
theorem own_pn2 : plainName "com/example/splode/splode/document/MediaRange" = true := by first | (simp [plainName, overriddenIn]; done) | decide +kernel
set_option maxHeartbeats 40000000 in
theorem own_rm9 (l : Launch) (Z : State) (a0 : Array Value) (hw : ∀ d ∈ tables_1, d.before a0 Z = true) (ws : List Jvm.Cond) (a : Addr) (s1 : Addr) (s2 : Addr) (u0 : Value) (u1 : Value) (u2 : Value) (h0 : Heap) (n0 : Nat) (Z0 : n0 ≤ h0.size) (E_a : Exa Z h0 a "com/example/splode/splode/document/MediaRange") (g_a : n0 ≤ a) (F_type : Fld Z h0 a "com/example/splode/splode/document/MediaRange" "type" "Ljava/lang/String;" u0) (F_subtype : Fld Z h0 a "com/example/splode/splode/document/MediaRange" "subtype" "Ljava/lang/String;" u1) (F_parameters : Fld Z h0 a "com/example/splode/splode/document/MediaRange" "parameters" "Ljava/util/Map;" u2) :
    MetFree l (⟨"com/example/splode/splode/document/MediaRange", "<init>", "(Ljava/lang/String;Ljava/lang/String;Ljava/util/Map;)V"⟩ : MethodName) (head1 (Jvm.Cond.code (⟨"com/example/splode/splode/document/MediaRange", "<init>", "(Ljava/lang/String;Ljava/lang/String;Ljava/util/Map;)V"⟩ : MethodName) prog_34_method_1_code 4 none :: ws) ({ frames := 2, cells := 0, slots := 0, locals := 24 } : Room)) (fun argv U => argv = #[(.ref a), (.ref s1), (.ref s2), .null] ∧ Z.Warmed39 U.vm ∧ U.heap = h0) (fun _ _ _ _ _ => True) (fun _ U o U' => ∃ v L, o = .returned v ∧ own_Q9 Z a s1 s2 u0 u1 u2 h0 n0 v U'.heap L ∧ FrameEnd U o U' L ({ frames := 2, cells := 0, slots := 0, locals := 24 } : Room).cells ({ frames := 2, cells := 0, slots := 0, locals := 24 } : Room).slots) := by
  refine MetFree.of_bodySF (plainFor_of_name own_pn2) hisR ?_
  intro p e s m args below meth c s₁ Bd hml0 hP hK
  obtain ⟨rfl, hZ, hh⟩ := hP
  have hx := Bd.exec
  have hby := Bd.bytes
  have hml : c.maxLocals = 4 := hml0
  have hown : s.vm.findClass "com/example/splode/splode/document/MediaRange" = some m.cls := findClass_of_methodNamed Bd.named
  have hnm := (name_of_methodNamed Bd.named Bd.method).1
  have X0 : Stand p l e ({ frames := 2, cells := 0, slots := 0, locals := 24 } : Room) s m #[(.ref a), (.ref s1), (.ref s2), .null] below meth c s₁ [] 0 0 := Stand.of_body Bd
  have e0 : s₁.heap = h0 := by rw [← hh, Bd.state]; rfl
  have N0 := Fr.nil n0
  have pre0 : ∀ t, Steps p.tables e below (s₁.setTop (mkF m 0 #[.val (.ref a), .val (.ref s1), .val (.ref s2), .val .null] [])) t → Steps p.tables e below (s₁.setTop (entryFrame m #[(.ref a), (.ref s1), (.ref s2), .null] 4)) t := fun t k => castTop (own_ef9 m a s1 s2) k
  have S2 : ∀ t, Steps p.tables e below (s₁.setTop (mkF m 1 #[.val (.ref a), .val (.ref s1), .val (.ref s2), .val .null] [(.ref a)])) t → Steps p.tables e below (s₁.setTop (entryFrame m #[(.ref a), (.ref s1), (.ref s2), .null] 4)) t := fun t kt => by
    refine pre0 t ?_
    show Steps p.tables e below (s₁.setTop (mkF m 0 #[.val (.ref a), .val (.ref s1), .val (.ref s2), .val .null] [])) t
    refine XS.aloadN X0.here hx rfl (hb hby own_d9_0) rfl rfl ?_
    exact kt
  obtain ⟨_, _, ⟨T3, L3, k3, n3⟩, -, X3, ⟨Lc3, hQ3, l3, y3, z3⟩, st3⟩ := X0.specialBack hx (y := (⟨"java/lang/Record", "<init>", "()V"⟩ : MethodName)) rfl hown (mvT hZ (hw _ (List.mem_of_getElem? (i := 47) rfl))) (mvT hZ (hw _ (List.mem_of_getElem? (i := 48) rfl))) (mvT hZ (hw _ (List.mem_of_getElem? (i := 51) rfl))) (by decide) (backOf (W := 0) (own_rm10 l Z a0 hw [] (a) h0 n0 Z0) hZ (hw _ (List.mem_of_getElem? (i := 51) rfl)) (hw _ (List.mem_of_getElem? (i := 50) rfl)) (by decide) (by decide)) (g := (mkF m 1 #[.val (.ref a), .val (.ref s1), .val (.ref s2), .val .null] [(.ref a)])) rfl (by rw [hml]; rfl) (Steps.refl _) (a := a) (argsL := []) (rest := []) (lenOf own_pd1 rfl) rfl (by show 2 * 0 + _ ≤ _; exact Nat.le_of_eq rfl) (hb hby own_d9_1) (fun _ _ => ⟨rfl, e0, (by decide : 0 + 0 ≤ _), (by decide : 0 + 0 ≤ _)⟩)
  dsimp only [Pt.U, Pt.locs, Pt.cells, Pt.slots] at X3 l3 y3 z3 st3 hQ3
  subst l3 y3 z3
  obtain ⟨rfl, rfl, eq1⟩ := hQ3
  try rw [List.append_nil] at X3
  have S4 : ∀ t, Steps p.tables e below (T3.setTop (mkF m 4 #[.val (.ref a), .val (.ref s1), .val (.ref s2), .val .null] [])) t → Steps p.tables e below (s₁.setTop (entryFrame m #[(.ref a), (.ref s1), (.ref s2), .null] 4)) t := fun t kt => S2 t (st3.trans kt)
  have S5 : ∀ t, Steps p.tables e below (T3.setTop (mkF m 6 #[.val (.ref a), .val (.ref s1), .val (.ref s2), .val .null] [(.ref s1), (.ref a)])) t → Steps p.tables e below (s₁.setTop (entryFrame m #[(.ref a), (.ref s1), (.ref s2), .null] 4)) t := fun t kt => by
    refine S4 t ?_
    show Steps p.tables e below (T3.setTop (mkF m 4 #[.val (.ref a), .val (.ref s1), .val (.ref s2), .val .null] [])) t
    refine XS.aloadN X3.here hx rfl (hb hby own_d9_4) rfl rfl ?_
    show Steps p.tables e below (T3.setTop (mkF m 5 #[.val (.ref a), .val (.ref s1), .val (.ref s2), .val .null] [(.ref a)])) t
    refine XS.aloadN X3.here hx rfl (hb hby own_d9_5) rfl rfl ?_
    exact kt
  obtain ⟨T6, h6, X6, e6, W6, st6⟩ := putF X3 hx hZ hown (host := "") (Or.inl (hw _ (List.mem_of_getElem? (i := 53) rfl))) Via.refl eq1 F_type E_a (Or.inr ⟨(hw _ (List.mem_of_getElem? (i := 54) rfl)), rfl, hnm⟩) (hw _ (List.mem_of_getElem? (i := 42) rfl)) (ty := (.object "java/lang/String")) (by decide) rfl rfl (g := (mkF m 6 #[.val (.ref a), .val (.ref s1), .val (.ref s2), .val .null] [(.ref s1), (.ref a)])) rfl rfl (hb hby own_d9_6)
  have S7 : ∀ t, Steps p.tables e below (T6.setTop (mkF m 9 #[.val (.ref a), .val (.ref s1), .val (.ref s2), .val .null] [])) t → Steps p.tables e below (s₁.setTop (entryFrame m #[(.ref a), (.ref s1), (.ref s2), .null] 4)) t := fun t kt => S5 t (st6 _ kt)
  have F8 := E_a.wr W6
  have F9 := F_type.same W6
  have F10 := F_subtype.other W6 (Or.inr (slot_ne (Or.inr (hw _ (List.mem_of_getElem? (i := 56) rfl))) (Or.inr (hw _ (List.mem_of_getElem? (i := 54) rfl))) (by decide) (t := (.object "java/lang/String")) (t' := (.object "java/lang/String")) (by decide) (by decide)))
  have F11 := F_parameters.other W6 (Or.inr (slot_ne (Or.inr (hw _ (List.mem_of_getElem? (i := 58) rfl))) (Or.inr (hw _ (List.mem_of_getElem? (i := 54) rfl))) (by decide) (t := (.object "java/util/Map")) (t' := (.object "java/lang/String")) (by decide) (by decide)))
  have N12 := Fr.snoc X6 N0 g_a
  have K13 : Keep h0 h6 [a] := (Keep.refl h0 [a]).wr W6 (Or.inl (List.mem_of_getElem? (i := 0) rfl))
  have S14 : ∀ t, Steps p.tables e below (T6.setTop (mkF m 11 #[.val (.ref a), .val (.ref s1), .val (.ref s2), .val .null] [(.ref s2), (.ref a)])) t → Steps p.tables e below (s₁.setTop (entryFrame m #[(.ref a), (.ref s1), (.ref s2), .null] 4)) t := fun t kt => by
    refine S7 t ?_
    show Steps p.tables e below (T6.setTop (mkF m 9 #[.val (.ref a), .val (.ref s1), .val (.ref s2), .val .null] [])) t
    refine XS.aloadN X6.here hx rfl (hb hby own_d9_9) rfl rfl ?_
    show Steps p.tables e below (T6.setTop (mkF m 10 #[.val (.ref a), .val (.ref s1), .val (.ref s2), .val .null] [(.ref a)])) t
    refine XS.aloadN X6.here hx rfl (hb hby own_d9_10) rfl rfl ?_
    exact kt
  obtain ⟨T15, h15, X15, e15, W15, st15⟩ := putF X6 hx hZ hown (host := "") (Or.inl (hw _ (List.mem_of_getElem? (i := 55) rfl))) Via.refl e6 F10 F8 (Or.inr ⟨(hw _ (List.mem_of_getElem? (i := 56) rfl)), rfl, hnm⟩) (hw _ (List.mem_of_getElem? (i := 42) rfl)) (ty := (.object "java/lang/String")) (by decide) rfl rfl (g := (mkF m 11 #[.val (.ref a), .val (.ref s1), .val (.ref s2), .val .null] [(.ref s2), (.ref a)])) rfl rfl (hb hby own_d9_11)
  have S16 : ∀ t, Steps p.tables e below (T15.setTop (mkF m 14 #[.val (.ref a), .val (.ref s1), .val (.ref s2), .val .null] [])) t → Steps p.tables e below (s₁.setTop (entryFrame m #[(.ref a), (.ref s1), (.ref s2), .null] 4)) t := fun t kt => S14 t (st15 _ kt)
  have F17 := F8.wr W15
  have F18 := F9.other W15 (Or.inr (slot_ne (Or.inr (hw _ (List.mem_of_getElem? (i := 54) rfl))) (Or.inr (hw _ (List.mem_of_getElem? (i := 56) rfl))) (by decide) (t := (.object "java/lang/String")) (t' := (.object "java/lang/String")) (by decide) (by decide)))
  have F19 := F10.same W15
  have F20 := F11.other W15 (Or.inr (slot_ne (Or.inr (hw _ (List.mem_of_getElem? (i := 58) rfl))) (Or.inr (hw _ (List.mem_of_getElem? (i := 56) rfl))) (by decide) (t := (.object "java/util/Map")) (t' := (.object "java/lang/String")) (by decide) (by decide)))
  have N21 := Fr.snoc X15 N12 g_a
  have K22 : Keep h0 h15 [a] := K13.wr W15 (Or.inl (List.mem_of_getElem? (i := 0) rfl))
  have S23 : ∀ t, Steps p.tables e below (T15.setTop (mkF m 16 #[.val (.ref a), .val (.ref s1), .val (.ref s2), .val .null] [.null, (.ref a)])) t → Steps p.tables e below (s₁.setTop (entryFrame m #[(.ref a), (.ref s1), (.ref s2), .null] 4)) t := fun t kt => by
    refine S16 t ?_
    show Steps p.tables e below (T15.setTop (mkF m 14 #[.val (.ref a), .val (.ref s1), .val (.ref s2), .val .null] [])) t
    refine XS.aloadN X15.here hx rfl (hb hby own_d9_14) rfl rfl ?_
    show Steps p.tables e below (T15.setTop (mkF m 15 #[.val (.ref a), .val (.ref s1), .val (.ref s2), .val .null] [(.ref a)])) t
    refine XS.aloadN X15.here hx rfl (hb hby own_d9_15) rfl rfl ?_
    exact kt
  obtain ⟨T24, h24, X24, e24, W24, st24⟩ := putF X15 hx hZ hown (host := "") (Or.inl (hw _ (List.mem_of_getElem? (i := 57) rfl))) Via.refl e15 F20 F17 (Or.inr ⟨(hw _ (List.mem_of_getElem? (i := 58) rfl)), rfl, hnm⟩) (hw _ (List.mem_of_getElem? (i := 42) rfl)) (ty := (.object "java/util/Map")) (by decide) rfl rfl (g := (mkF m 16 #[.val (.ref a), .val (.ref s1), .val (.ref s2), .val .null] [.null, (.ref a)])) rfl rfl (hb hby own_d9_16)
  have S25 : ∀ t, Steps p.tables e below (T24.setTop (mkF m 19 #[.val (.ref a), .val (.ref s1), .val (.ref s2), .val .null] [])) t → Steps p.tables e below (s₁.setTop (entryFrame m #[(.ref a), (.ref s1), (.ref s2), .null] 4)) t := fun t kt => S23 t (st24 _ kt)
  have F26 := F17.wr W24
  have F27 := F18.other W24 (Or.inr (slot_ne (Or.inr (hw _ (List.mem_of_getElem? (i := 54) rfl))) (Or.inr (hw _ (List.mem_of_getElem? (i := 58) rfl))) (by decide) (t := (.object "java/lang/String")) (t' := (.object "java/util/Map")) (by decide) (by decide)))
  have F28 := F19.other W24 (Or.inr (slot_ne (Or.inr (hw _ (List.mem_of_getElem? (i := 56) rfl))) (Or.inr (hw _ (List.mem_of_getElem? (i := 58) rfl))) (by decide) (t := (.object "java/lang/String")) (t' := (.object "java/util/Map")) (by decide) (by decide)))
  have F29 := F20.same W24
  have N30 := Fr.snoc X24 N21 g_a
  have K31 : Keep h0 h24 [a] := K22.wr W24 (Or.inl (List.mem_of_getElem? (i := 0) rfl))
  obtain ⟨fs, hr, hrun, hended, hW, hsame⟩ := X24.leave (v := none) (fun _ => rfl)
  refine ⟨_, _, S25 _ ?_, hrun, hended, _, _, rfl, ?_, ⟨_, rfl⟩, hW, hsame.mono (by decide) (by decide)⟩
  · show Steps p.tables e below (T24.setTop (mkF m 19 #[.val (.ref a), .val (.ref s1), .val (.ref s2), .val .null] [])) _
    exact X24.returnOut hx Bd.returns (hb hby own_d9_19) hr
  · show own_Q9 Z a s1 s2 u0 u1 u2 h0 n0 _ T24.heap _
    rw [e24]
    exact ⟨rfl, N30, K31, F26, F27, F28, F29⟩
theorem own_d18_0 : decode jdk_52_method_21_code 0 = .ok (.iconst 0, 1) := by decide +kernel
theorem own_d18_1 : decode jdk_52_method_21_code 1 = .ok (.istore 5, 2) := by decide +kernel
theorem own_d18_3 : decode jdk_52_method_21_code 3 = .ok (.iload 5, 2) := by decide +kernel
theorem own_d18_5 : decode jdk_52_method_21_code 5 = .ok (.iload 4, 2) := by decide +kernel
theorem own_d18_7 : decode jdk_52_method_21_code 7 = .ok (.if_icmp .ge 37, 3) := by decide +kernel
theorem own_d18_10 : decode jdk_52_method_21_code 10 = .ok (.aload_n 0, 1) := by decide +kernel
theorem own_d18_11 : decode jdk_52_method_21_code 11 = .ok (.iload_n 1, 1) := by decide +kernel
theorem own_d18_12 : decode jdk_52_method_21_code 12 = .ok (.caload, 1) := by decide +kernel
theorem own_d18_13 : decode jdk_52_method_21_code 13 = .ok (.istore 6, 2) := by decide +kernel
theorem own_d18_15 : decode jdk_52_method_21_code 15 = .ok (.iload 6, 2) := by decide +kernel
theorem own_d18_17 : decode jdk_52_method_21_code 17 = .ok (.sipush 255, 3) := by decide +kernel
theorem own_d18_20 : decode jdk_52_method_21_code 20 = .ok (.if_icmp .le 6, 3) := by decide +kernel
theorem own_d18_26 : decode jdk_52_method_21_code 26 = .ok (.aload_n 2, 1) := by decide +kernel
theorem own_d18_27 : decode jdk_52_method_21_code 27 = .ok (.iload_n 3, 1) := by decide +kernel
theorem own_d18_28 : decode jdk_52_method_21_code 28 = .ok (.iload 6, 2) := by decide +kernel
theorem own_d18_30 : decode jdk_52_method_21_code 30 = .ok (.i2b, 1) := by decide +kernel
theorem own_d18_31 : decode jdk_52_method_21_code 31 = .ok (.bastore, 1) := by decide +kernel
theorem own_d18_32 : decode jdk_52_method_21_code 32 = .ok (.iinc 1 1, 3) := by decide +kernel
theorem own_d18_35 : decode jdk_52_method_21_code 35 = .ok (.iinc 3 1, 3) := by decide +kernel
theorem own_d18_38 : decode jdk_52_method_21_code 38 = .ok (.iinc 5 1, 3) := by decide +kernel
theorem own_d18_41 : decode jdk_52_method_21_code 41 = .ok (.goto (-38), 3) := by decide +kernel
theorem own_d18_44 : decode jdk_52_method_21_code 44 = .ok (.iload 4, 2) := by decide +kernel
theorem own_d18_46 : decode jdk_52_method_21_code 46 = .ok (.ireturn, 1) := by decide +kernel
theorem own_ef18k1 (m : MethodId) (x0 : Addr) (x1 : Int32) (x2 : Addr) (x3 : Int32) (x4 : Int32) : entryFrame m #[(.ref x0), (.int x1), (.ref x2), (.int x3), (.int x4)] 7 = mkF m 0 #[.val (.ref x0), .val (.int x1), .val (.ref x2), .val (.int x3), .val (.int x4), .unset, .unset] [] := by first | (simp [entryFrame, mkF, argsToLocals, Value.category]; done) | rfl
def own_Q18k1 (Z : State) (b : Addr) (tb : Addr) (c0 : Int32) (kb : ClassId) (kt : ClassId) (h0 : Heap) (n0 : Nat) (v : Option Value) (h : Heap) (L : List Loc) : Prop := v = some (.int (1 : Int32)) ∧ Fr n0 L ∧ Keep h0 h [tb] ∧ Arv Z h tb kt .byte (1 : Int32) [(.int (own_lo c0))] (.int (0 : Int32))
theorem own_pn3 : plainName "java/lang/StringUTF16" = true := by first | (simp [plainName, overriddenIn]; done) | decide +kernel
set_option maxHeartbeats 40000000 in
theorem own_rm18k1 (l : Launch) (Z : State) (a0 : Array Value) (hw : ∀ d ∈ tables_1, d.before a0 Z = true) (ws : List Jvm.Cond) (b : Addr) (tb : Addr) (c0 : Int32) (kb : ClassId) (kt : ClassId) (h0 : Heap) (n0 : Nat) (Z0 : n0 ≤ h0.size) (V_b : Arv Z h0 b kb .char (1 : Int32) [(.int c0)] (.int (0 : Int32))) (V_t : Arv Z h0 tb kt .byte (1 : Int32) [(.int (0 : Int32))] (.int (0 : Int32))) (g_tb : n0 ≤ tb) (ne_b_tb : b ≠ tb) (hl0 : ¬ (255 : Int32) < c0) :
    MetFree l (⟨"java/lang/StringUTF16", "compress", "([CI[BII)I"⟩ : MethodName) (head1 (Jvm.Cond.code (⟨"java/lang/StringUTF16", "compress", "([CI[BII)I"⟩ : MethodName) jdk_52_method_21_code 7 (some .int) :: ws) ({ frames := 0, cells := 0, slots := 0, locals := 0 } : Room)) (fun argv U => argv = #[(.ref b), (.int (0 : Int32)), (.ref tb), (.int (0 : Int32)), (.int (1 : Int32))] ∧ Z.Warmed39 U.vm ∧ U.heap = h0) (fun _ _ _ _ _ => True) (fun _ U o U' => ∃ v L, o = .returned v ∧ own_Q18k1 Z b tb c0 kb kt h0 n0 v U'.heap L ∧ FrameEnd U o U' L ({ frames := 0, cells := 0, slots := 0, locals := 0 } : Room).cells ({ frames := 0, cells := 0, slots := 0, locals := 0 } : Room).slots) := by
  refine MetFree.of_bodySF (plainFor_of_name own_pn3) hisR ?_
  intro p e s m args below meth c s₁ Bd hml0 hP hK
  obtain ⟨rfl, hZ, hh⟩ := hP
  have hx := Bd.exec
  have hby := Bd.bytes
  have hml : c.maxLocals = 7 := hml0
  have hown : s.vm.findClass "java/lang/StringUTF16" = some m.cls := findClass_of_methodNamed Bd.named
  have hnm := (name_of_methodNamed Bd.named Bd.method).1
  have X0 : Stand p l e ({ frames := 0, cells := 0, slots := 0, locals := 0 } : Room) s m #[(.ref b), (.int (0 : Int32)), (.ref tb), (.int (0 : Int32)), (.int (1 : Int32))] below meth c s₁ [] 0 0 := Stand.of_body Bd
  have e0 : s₁.heap = h0 := by rw [← hh, Bd.state]; rfl
  have N0 := Fr.nil n0
  have pre0 : ∀ t, Steps p.tables e below (s₁.setTop (mkF m 0 #[.val (.ref b), .val (.int (0 : Int32)), .val (.ref tb), .val (.int (0 : Int32)), .val (.int (1 : Int32)), .unset, .unset] [])) t → Steps p.tables e below (s₁.setTop (entryFrame m #[(.ref b), (.int (0 : Int32)), (.ref tb), (.int (0 : Int32)), (.int (1 : Int32))] 7)) t := fun t k => castTop (own_ef18k1 m b (0 : Int32) tb (0 : Int32) (1 : Int32)) k
  have S1 : ∀ t, Steps p.tables e below (s₁.setTop (mkF m 7 #[.val (.ref b), .val (.int (0 : Int32)), .val (.ref tb), .val (.int (0 : Int32)), .val (.int (1 : Int32)), .val (.int (0 : Int32)), .unset] [(.int (1 : Int32)), (.int (0 : Int32))])) t → Steps p.tables e below (s₁.setTop (entryFrame m #[(.ref b), (.int (0 : Int32)), (.ref tb), (.int (0 : Int32)), (.int (1 : Int32))] 7)) t := fun t kt => by
    refine pre0 t ?_
    show Steps p.tables e below (s₁.setTop (mkF m 0 #[.val (.ref b), .val (.int (0 : Int32)), .val (.ref tb), .val (.int (0 : Int32)), .val (.int (1 : Int32)), .unset, .unset] [])) t
    refine XS.iconst X0.here hx rfl (hb hby own_d18_0) ?_
    show Steps p.tables e below (s₁.setTop (mkF m 1 #[.val (.ref b), .val (.int (0 : Int32)), .val (.ref tb), .val (.int (0 : Int32)), .val (.int (1 : Int32)), .unset, .unset] [(.int (0 : Int32))])) t
    refine XS.istore X0.here hx rfl (hb hby own_d18_1) rfl (l' := #[.val (.ref b), .val (.int (0 : Int32)), .val (.ref tb), .val (.int (0 : Int32)), .val (.int (1 : Int32)), .val (.int (0 : Int32)), .unset]) rfl ?_
    show Steps p.tables e below (s₁.setTop (mkF m 3 #[.val (.ref b), .val (.int (0 : Int32)), .val (.ref tb), .val (.int (0 : Int32)), .val (.int (1 : Int32)), .val (.int (0 : Int32)), .unset] [])) t
    refine XS.iload X0.here hx rfl (hb hby own_d18_3) rfl ?_
    show Steps p.tables e below (s₁.setTop (mkF m 5 #[.val (.ref b), .val (.int (0 : Int32)), .val (.ref tb), .val (.int (0 : Int32)), .val (.int (1 : Int32)), .val (.int (0 : Int32)), .unset] [(.int (0 : Int32))])) t
    refine XS.iload X0.here hx rfl (hb hby own_d18_5) rfl ?_
    exact kt
  have hc7_2 : (0 : Int32) < (1 : Int32) := by decide
  have S4 : ∀ t, Steps p.tables e below (s₁.setTop (mkF m 12 #[.val (.ref b), .val (.int (0 : Int32)), .val (.ref tb), .val (.int (0 : Int32)), .val (.int (1 : Int32)), .val (.int (0 : Int32)), .unset] [(.int (0 : Int32)), (.ref b)])) t → Steps p.tables e below (s₁.setTop (entryFrame m #[(.ref b), (.int (0 : Int32)), (.ref tb), (.int (0 : Int32)), (.int (1 : Int32))] 7)) t := fun t kt => by
    refine S1 t ?_
    show Steps p.tables e below (s₁.setTop (mkF m 7 #[.val (.ref b), .val (.int (0 : Int32)), .val (.ref tb), .val (.int (0 : Int32)), .val (.int (1 : Int32)), .val (.int (0 : Int32)), .unset] [(.int (1 : Int32)), (.int (0 : Int32))])) t
    refine XS.icmpNo X0.here hx rfl (hb hby own_d18_7) rfl (tlt hc7_2).2.1 ?_
    show Steps p.tables e below (s₁.setTop (mkF m 10 #[.val (.ref b), .val (.int (0 : Int32)), .val (.ref tb), .val (.int (0 : Int32)), .val (.int (1 : Int32)), .val (.int (0 : Int32)), .unset] [])) t
    refine XS.aloadN X0.here hx rfl (hb hby own_d18_10) rfl rfl ?_
    show Steps p.tables e below (s₁.setTop (mkF m 11 #[.val (.ref b), .val (.int (0 : Int32)), .val (.ref tb), .val (.int (0 : Int32)), .val (.int (1 : Int32)), .val (.int (0 : Int32)), .unset] [(.ref b)])) t
    refine XS.iloadN X0.here hx rfl (hb hby own_d18_11) rfl ?_
    exact kt
  obtain ⟨cl3, Ar3, -, Sz3, Nn3, Hh3, -⟩ := id V_b
  have hin3 : ¬ ((0 : Int32) < 0 ∨ cl3.slots.size ≤ ((0 : Int32)).toNatClampNeg) := inb_of Sz3 ⟨by decide, by decide⟩
  have S5 : ∀ t, Steps p.tables e below (s₁.setTop (mkF m 20 #[.val (.ref b), .val (.int (0 : Int32)), .val (.ref tb), .val (.int (0 : Int32)), .val (.int (1 : Int32)), .val (.int (0 : Int32)), .val (.int c0)] [(.int (255 : Int32)), (.int c0)])) t → Steps p.tables e below (s₁.setTop (entryFrame m #[(.ref b), (.int (0 : Int32)), (.ref tb), (.int (0 : Int32)), (.int (1 : Int32))] 7)) t := fun t kt => by
    refine S4 t ?_
    show Steps p.tables e below (s₁.setTop (mkF m 12 #[.val (.ref b), .val (.int (0 : Int32)), .val (.ref tb), .val (.int (0 : Int32)), .val (.int (1 : Int32)), .val (.int (0 : Int32)), .unset] [(.int (0 : Int32)), (.ref b)])) t
    refine X0.caload hx (j := (0 : Int32)) (v := (.int c0)) (by rw [e0]; exact Ar3.1) (State.isArrayOf_alike hZ.alike Ar3.2.1) Ar3.2.2 hin3 (Has.at Hh3 hin3 rfl) (g := (mkF m 12 #[.val (.ref b), .val (.int (0 : Int32)), .val (.ref tb), .val (.int (0 : Int32)), .val (.int (1 : Int32)), .val (.int (0 : Int32)), .unset] [(.int (0 : Int32)), (.ref b)])) rfl rfl (hb hby own_d18_12) _ ?_
    show Steps p.tables e below (s₁.setTop (mkF m 13 #[.val (.ref b), .val (.int (0 : Int32)), .val (.ref tb), .val (.int (0 : Int32)), .val (.int (1 : Int32)), .val (.int (0 : Int32)), .unset] [(.int c0)])) t
    refine XS.istore X0.here hx rfl (hb hby own_d18_13) rfl (l' := #[.val (.ref b), .val (.int (0 : Int32)), .val (.ref tb), .val (.int (0 : Int32)), .val (.int (1 : Int32)), .val (.int (0 : Int32)), .val (.int c0)]) rfl ?_
    show Steps p.tables e below (s₁.setTop (mkF m 15 #[.val (.ref b), .val (.int (0 : Int32)), .val (.ref tb), .val (.int (0 : Int32)), .val (.int (1 : Int32)), .val (.int (0 : Int32)), .val (.int c0)] [])) t
    refine XS.iload X0.here hx rfl (hb hby own_d18_15) rfl ?_
    show Steps p.tables e below (s₁.setTop (mkF m 17 #[.val (.ref b), .val (.int (0 : Int32)), .val (.ref tb), .val (.int (0 : Int32)), .val (.int (1 : Int32)), .val (.int (0 : Int32)), .val (.int c0)] [(.int c0)])) t
    refine XS.sipush X0.here hx rfl (hb hby own_d18_17) ?_
    exact kt
  have hc20_6 : ¬ ((255 : Int32) < c0) := hl0
  have S7 : ∀ t, Steps p.tables e below (s₁.setTop (mkF m 31 #[.val (.ref b), .val (.int (0 : Int32)), .val (.ref tb), .val (.int (0 : Int32)), .val (.int (1 : Int32)), .val (.int (0 : Int32)), .val (.int c0)] [(.int (c0.toInt8.toInt32)), (.int (0 : Int32)), (.ref tb)])) t → Steps p.tables e below (s₁.setTop (entryFrame m #[(.ref b), (.int (0 : Int32)), (.ref tb), (.int (0 : Int32)), (.int (1 : Int32))] 7)) t := fun t kt => by
    refine S5 t ?_
    show Steps p.tables e below (s₁.setTop (mkF m 20 #[.val (.ref b), .val (.int (0 : Int32)), .val (.ref tb), .val (.int (0 : Int32)), .val (.int (1 : Int32)), .val (.int (0 : Int32)), .val (.int c0)] [(.int (255 : Int32)), (.int c0)])) t
    refine XS.icmpYes X0.here hx rfl (pc0 := 20) (pc' := 26) rfl (hb hby own_d18_20) rfl (flt hc20_6).2.2.2 (by decide) (by decide) ?_
    show Steps p.tables e below (s₁.setTop (mkF m 26 #[.val (.ref b), .val (.int (0 : Int32)), .val (.ref tb), .val (.int (0 : Int32)), .val (.int (1 : Int32)), .val (.int (0 : Int32)), .val (.int c0)] [])) t
    refine XS.aloadN X0.here hx rfl (hb hby own_d18_26) rfl rfl ?_
    show Steps p.tables e below (s₁.setTop (mkF m 27 #[.val (.ref b), .val (.int (0 : Int32)), .val (.ref tb), .val (.int (0 : Int32)), .val (.int (1 : Int32)), .val (.int (0 : Int32)), .val (.int c0)] [(.ref tb)])) t
    refine XS.iloadN X0.here hx rfl (hb hby own_d18_27) rfl ?_
    show Steps p.tables e below (s₁.setTop (mkF m 28 #[.val (.ref b), .val (.int (0 : Int32)), .val (.ref tb), .val (.int (0 : Int32)), .val (.int (1 : Int32)), .val (.int (0 : Int32)), .val (.int c0)] [(.int (0 : Int32)), (.ref tb)])) t
    refine XS.iload X0.here hx rfl (hb hby own_d18_28) rfl ?_
    show Steps p.tables e below (s₁.setTop (mkF m 30 #[.val (.ref b), .val (.int (0 : Int32)), .val (.ref tb), .val (.int (0 : Int32)), .val (.int (1 : Int32)), .val (.int (0 : Int32)), .val (.int c0)] [(.int c0), (.int (0 : Int32)), (.ref tb)])) t
    refine XS.i2b X0.here hx rfl (hb hby own_d18_30) rfl ?_
    exact kt
  obtain ⟨cl8, Ar8, q8, Sz8, Nn8, Hh8, Gg8⟩ := id V_t
  have hin8 : ¬ ((0 : Int32) < 0 ∨ cl8.slots.size ≤ ((0 : Int32)).toNatClampNeg) := inb_of Sz8 ⟨by decide, by decide⟩
  obtain ⟨T9, h9, X9, e9, W9, st9⟩ := stB X0 hx hZ e0 Ar8 (j := (0 : Int32)) hin8 (g := (mkF m 31 #[.val (.ref b), .val (.int (0 : Int32)), .val (.ref tb), .val (.int (0 : Int32)), .val (.int (1 : Int32)), .val (.int (0 : Int32)), .val (.int c0)] [(.int (c0.toInt8.toInt32)), (.int (0 : Int32)), (.ref tb)])) rfl rfl (hb hby own_d18_31)
  have S10 : ∀ t, Steps p.tables e below (T9.setTop (mkF m 32 #[.val (.ref b), .val (.int (0 : Int32)), .val (.ref tb), .val (.int (0 : Int32)), .val (.int (1 : Int32)), .val (.int (0 : Int32)), .val (.int c0)] [])) t → Steps p.tables e below (s₁.setTop (entryFrame m #[(.ref b), (.int (0 : Int32)), (.ref tb), (.int (0 : Int32)), (.int (1 : Int32))] 7)) t := fun t kt => S7 t (st9 _ kt)
  have V11 := Arv.set Ar8 q8 Sz8 Nn8 Hh8 Gg8 (fits_nar_byte _) W9 0 rfl (Nat.le_of_ble_eq_true rfl)
  have F12 := V_b.other W9 ne_b_tb
  have N13 := Fr.snoc X9 N0 g_tb
  have K14 : Keep h0 h9 [tb] := (Keep.refl h0 [tb]).wr W9 (Or.inl (List.mem_of_getElem? (i := 0) rfl))
  have S15 : ∀ t, Steps p.tables e below (T9.setTop (mkF m 7 #[.val (.ref b), .val (.int (1 : Int32)), .val (.ref tb), .val (.int (1 : Int32)), .val (.int (1 : Int32)), .val (.int (1 : Int32)), .val (.int c0)] [(.int (1 : Int32)), (.int (1 : Int32))])) t → Steps p.tables e below (s₁.setTop (entryFrame m #[(.ref b), (.int (0 : Int32)), (.ref tb), (.int (0 : Int32)), (.int (1 : Int32))] 7)) t := fun t kt => by
    refine S10 t ?_
    show Steps p.tables e below (T9.setTop (mkF m 32 #[.val (.ref b), .val (.int (0 : Int32)), .val (.ref tb), .val (.int (0 : Int32)), .val (.int (1 : Int32)), .val (.int (0 : Int32)), .val (.int c0)] [])) t
    refine XS.iinc X9.here hx rfl (hb hby own_d18_32) rfl (l' := #[.val (.ref b), .val (.int (1 : Int32)), .val (.ref tb), .val (.int (0 : Int32)), .val (.int (1 : Int32)), .val (.int (0 : Int32)), .val (.int c0)]) rfl ?_
    show Steps p.tables e below (T9.setTop (mkF m 35 #[.val (.ref b), .val (.int (1 : Int32)), .val (.ref tb), .val (.int (0 : Int32)), .val (.int (1 : Int32)), .val (.int (0 : Int32)), .val (.int c0)] [])) t
    refine XS.iinc X9.here hx rfl (hb hby own_d18_35) rfl (l' := #[.val (.ref b), .val (.int (1 : Int32)), .val (.ref tb), .val (.int (1 : Int32)), .val (.int (1 : Int32)), .val (.int (0 : Int32)), .val (.int c0)]) rfl ?_
    show Steps p.tables e below (T9.setTop (mkF m 38 #[.val (.ref b), .val (.int (1 : Int32)), .val (.ref tb), .val (.int (1 : Int32)), .val (.int (1 : Int32)), .val (.int (0 : Int32)), .val (.int c0)] [])) t
    refine XS.iinc X9.here hx rfl (hb hby own_d18_38) rfl (l' := #[.val (.ref b), .val (.int (1 : Int32)), .val (.ref tb), .val (.int (1 : Int32)), .val (.int (1 : Int32)), .val (.int (1 : Int32)), .val (.int c0)]) rfl ?_
    show Steps p.tables e below (T9.setTop (mkF m 41 #[.val (.ref b), .val (.int (1 : Int32)), .val (.ref tb), .val (.int (1 : Int32)), .val (.int (1 : Int32)), .val (.int (1 : Int32)), .val (.int c0)] [])) t
    refine XS.goto X9.here hx rfl (pc0 := 41) (pc' := 3) rfl (hb hby own_d18_41) (by decide) (by decide) ?_
    show Steps p.tables e below (T9.setTop (mkF m 3 #[.val (.ref b), .val (.int (1 : Int32)), .val (.ref tb), .val (.int (1 : Int32)), .val (.int (1 : Int32)), .val (.int (1 : Int32)), .val (.int c0)] [])) t
    refine XS.iload X9.here hx rfl (hb hby own_d18_3) rfl ?_
    show Steps p.tables e below (T9.setTop (mkF m 5 #[.val (.ref b), .val (.int (1 : Int32)), .val (.ref tb), .val (.int (1 : Int32)), .val (.int (1 : Int32)), .val (.int (1 : Int32)), .val (.int c0)] [(.int (1 : Int32))])) t
    refine XS.iload X9.here hx rfl (hb hby own_d18_5) rfl ?_
    exact kt
  have hc7_16 : ¬ ((1 : Int32) < (1 : Int32)) := by decide
  have S17 : ∀ t, Steps p.tables e below (T9.setTop (mkF m 46 #[.val (.ref b), .val (.int (1 : Int32)), .val (.ref tb), .val (.int (1 : Int32)), .val (.int (1 : Int32)), .val (.int (1 : Int32)), .val (.int c0)] [(.int (1 : Int32))])) t → Steps p.tables e below (s₁.setTop (entryFrame m #[(.ref b), (.int (0 : Int32)), (.ref tb), (.int (0 : Int32)), (.int (1 : Int32))] 7)) t := fun t kt => by
    refine S15 t ?_
    show Steps p.tables e below (T9.setTop (mkF m 7 #[.val (.ref b), .val (.int (1 : Int32)), .val (.ref tb), .val (.int (1 : Int32)), .val (.int (1 : Int32)), .val (.int (1 : Int32)), .val (.int c0)] [(.int (1 : Int32)), (.int (1 : Int32))])) t
    refine XS.icmpYes X9.here hx rfl (pc0 := 7) (pc' := 44) rfl (hb hby own_d18_7) rfl (flt hc7_16).2.1 (by decide) (by decide) ?_
    show Steps p.tables e below (T9.setTop (mkF m 44 #[.val (.ref b), .val (.int (1 : Int32)), .val (.ref tb), .val (.int (1 : Int32)), .val (.int (1 : Int32)), .val (.int (1 : Int32)), .val (.int c0)] [])) t
    refine XS.iload X9.here hx rfl (hb hby own_d18_44) rfl ?_
    exact kt
  obtain ⟨fs, hr, hrun, hended, hW, hsame⟩ := X9.leave (v := some (.int (1 : Int32))) (fun h => by rw [Bd.returns] at h; cases h)
  refine ⟨_, _, S17 _ ?_, hrun, hended, _, _, rfl, ?_, ⟨_, rfl⟩, hW, hsame.mono (by decide) (by decide)⟩
  · show Steps p.tables e below (T9.setTop (mkF m 46 #[.val (.ref b), .val (.int (1 : Int32)), .val (.ref tb), .val (.int (1 : Int32)), .val (.int (1 : Int32)), .val (.int (1 : Int32)), .val (.int c0)] [(.int (1 : Int32))])) _
    exact own_retI X9 hx Bd.returns (hb hby own_d18_46) hr
  · show own_Q18k1 Z b tb c0 kb kt h0 n0 _ T9.heap _
    rw [e9]
    exact ⟨rfl, N13, K14, (by have q : Arv Z h9 tb kt .byte (1 : Int32) [(.int (nar .byte (c0.toInt8.toInt32)))] (.int (0 : Int32)) := V11; simp only [own_lolo] at q; exact q)⟩
theorem own_d19_0 : decode jdk_52_method_15_code 0 = .ok (.iload_n 1, 1) := by decide +kernel
theorem own_d19_1 : decode jdk_52_method_15_code 1 = .ok (.aload_n 0, 1) := by decide +kernel
theorem own_d19_2 : decode jdk_52_method_15_code 2 = .ok (.arraylength, 1) := by decide +kernel
theorem own_d19_3 : decode jdk_52_method_15_code 3 = .ok (.isub, 1) := by decide +kernel
theorem own_d19_4 : decode jdk_52_method_15_code 4 = .ok (.bipush 31, 2) := by decide +kernel
theorem own_d19_6 : decode jdk_52_method_15_code 6 = .ok (.iushr, 1) := by decide +kernel
theorem own_d19_7 : decode jdk_52_method_15_code 7 = .ok (.i2b, 1) := by decide +kernel
theorem own_d19_8 : decode jdk_52_method_15_code 8 = .ok (.ireturn, 1) := by decide +kernel
theorem own_ef19k1 (m : MethodId) (x0 : Addr) (x1 : Int32) : entryFrame m #[(.ref x0), (.int x1)] 2 = mkF m 0 #[.val (.ref x0), .val (.int x1)] [] := by first | (simp [entryFrame, mkF, argsToLocals, Value.category]; done) | rfl
def own_Q19k1 (Z : State) (tb : Addr) (c0 : Int32) (kt : ClassId) (h0 : Heap) (n0 : Nat) (v : Option Value) (h : Heap) (L : List Loc) : Prop := v = some (.int (0 : Int32)) ∧ L = [] ∧ h = h0
set_option maxHeartbeats 40000000 in
theorem own_rm19k1 (l : Launch) (Z : State) (a0 : Array Value) (hw : ∀ d ∈ tables_1, d.before a0 Z = true) (ws : List Jvm.Cond) (tb : Addr) (c0 : Int32) (kt : ClassId) (h0 : Heap) (n0 : Nat) (Z0 : n0 ≤ h0.size) (V_t : Arv Z h0 tb kt .byte (1 : Int32) [(.int (own_lo c0))] (.int (0 : Int32))) :
    MetFree l (⟨"java/lang/StringUTF16", "coderFromArrayLen", "([BI)B"⟩ : MethodName) (head1 (Jvm.Cond.code (⟨"java/lang/StringUTF16", "coderFromArrayLen", "([BI)B"⟩ : MethodName) jdk_52_method_15_code 2 (some .byte) :: ws) ({ frames := 0, cells := 0, slots := 0, locals := 0 } : Room)) (fun argv U => argv = #[(.ref tb), (.int (1 : Int32))] ∧ Z.Warmed39 U.vm ∧ U.heap = h0) (fun _ _ _ _ _ => True) (fun _ U o U' => ∃ v L, o = .returned v ∧ own_Q19k1 Z tb c0 kt h0 n0 v U'.heap L ∧ FrameEnd U o U' L ({ frames := 0, cells := 0, slots := 0, locals := 0 } : Room).cells ({ frames := 0, cells := 0, slots := 0, locals := 0 } : Room).slots) := by
  refine MetFree.of_bodySF (plainFor_of_name own_pn3) hisR ?_
  intro p e s m args below meth c s₁ Bd hml0 hP hK
  obtain ⟨rfl, hZ, hh⟩ := hP
  have hx := Bd.exec
  have hby := Bd.bytes
  have hml : c.maxLocals = 2 := hml0
  have hown : s.vm.findClass "java/lang/StringUTF16" = some m.cls := findClass_of_methodNamed Bd.named
  have hnm := (name_of_methodNamed Bd.named Bd.method).1
  have X0 : Stand p l e ({ frames := 0, cells := 0, slots := 0, locals := 0 } : Room) s m #[(.ref tb), (.int (1 : Int32))] below meth c s₁ [] 0 0 := Stand.of_body Bd
  have e0 : s₁.heap = h0 := by rw [← hh, Bd.state]; rfl
  have N0 := Fr.nil n0
  have pre0 : ∀ t, Steps p.tables e below (s₁.setTop (mkF m 0 #[.val (.ref tb), .val (.int (1 : Int32))] [])) t → Steps p.tables e below (s₁.setTop (entryFrame m #[(.ref tb), (.int (1 : Int32))] 2)) t := fun t k => castTop (own_ef19k1 m tb (1 : Int32)) k
  have S1 : ∀ t, Steps p.tables e below (s₁.setTop (mkF m 2 #[.val (.ref tb), .val (.int (1 : Int32))] [(.ref tb), (.int (1 : Int32))])) t → Steps p.tables e below (s₁.setTop (entryFrame m #[(.ref tb), (.int (1 : Int32))] 2)) t := fun t kt => by
    refine pre0 t ?_
    show Steps p.tables e below (s₁.setTop (mkF m 0 #[.val (.ref tb), .val (.int (1 : Int32))] [])) t
    refine XS.iloadN X0.here hx rfl (hb hby own_d19_0) rfl ?_
    show Steps p.tables e below (s₁.setTop (mkF m 1 #[.val (.ref tb), .val (.int (1 : Int32))] [(.int (1 : Int32))])) t
    refine XS.aloadN X0.here hx rfl (hb hby own_d19_1) rfl rfl ?_
    exact kt
  obtain ⟨cl2, Ar2, -, Sz2, Nn2, -, -⟩ := id V_t
  have S3 : ∀ t, Steps p.tables e below (s₁.setTop (mkF m 8 #[.val (.ref tb), .val (.int (1 : Int32))] [(.int ((((0 : Int32).toUInt32 >>> ((31 : Int32) &&& 31).toUInt32).toInt32).toInt8.toInt32))])) t → Steps p.tables e below (s₁.setTop (entryFrame m #[(.ref tb), (.int (1 : Int32))] 2)) t := fun t kt => by
    refine S1 t ?_
    show Steps p.tables e below (s₁.setTop (mkF m 2 #[.val (.ref tb), .val (.int (1 : Int32))] [(.ref tb), (.int (1 : Int32))])) t
    refine X0.arraylength hx (by rw [e0]; exact Ar2.1) (State.isArrayOf_alike hZ.alike Ar2.2.1) (g := (mkF m 2 #[.val (.ref tb), .val (.int (1 : Int32))] [(.ref tb), (.int (1 : Int32))])) rfl rfl (hb hby own_d19_2) _ ?_
    rw [len_of Sz2 Nn2]
    show Steps p.tables e below (s₁.setTop (mkF m 3 #[.val (.ref tb), .val (.int (1 : Int32))] [(.int (1 : Int32)), (.int (1 : Int32))])) t
    refine XS.isub X0.here hx rfl (hb hby own_d19_3) rfl ?_
    show Steps p.tables e below (s₁.setTop (mkF m 4 #[.val (.ref tb), .val (.int (1 : Int32))] [(.int (0 : Int32))])) t
    refine XS.bipush X0.here hx rfl (hb hby own_d19_4) ?_
    show Steps p.tables e below (s₁.setTop (mkF m 6 #[.val (.ref tb), .val (.int (1 : Int32))] [(.int (31 : Int32)), (.int (0 : Int32))])) t
    refine XS.iushr X0.here hx rfl (hb hby own_d19_6) rfl ?_
    show Steps p.tables e below (s₁.setTop (mkF m 7 #[.val (.ref tb), .val (.int (1 : Int32))] [(.int (((0 : Int32).toUInt32 >>> ((31 : Int32) &&& 31).toUInt32).toInt32))])) t
    refine XS.i2b X0.here hx rfl (hb hby own_d19_7) rfl ?_
    exact kt
  obtain ⟨fs, hr, hrun, hended, hW, hsame⟩ := X0.leave (v := some (.int (nar .byte ((((0 : Int32).toUInt32 >>> ((31 : Int32) &&& 31).toUInt32).toInt32).toInt8.toInt32)))) (fun h => by rw [Bd.returns] at h; cases h)
  refine ⟨_, _, S3 _ ?_, hrun, hended, _, _, rfl, ?_, ⟨_, rfl⟩, hW, hsame.mono (by decide) (by decide)⟩
  · show Steps p.tables e below (s₁.setTop (mkF m 8 #[.val (.ref tb), .val (.int (1 : Int32))] [(.int ((((0 : Int32).toUInt32 >>> ((31 : Int32) &&& 31).toUInt32).toInt32).toInt8.toInt32))])) _
    exact retN X0 hx (t := .byte) Bd.returns (by simp) (hb hby own_d19_8) hr
  · show own_Q19k1 Z tb c0 kt h0 n0 _ s₁.heap _
    rw [e0]
    exact ⟨rfl, rfl, rfl⟩
theorem own_pd2 : parseMethodDescriptor "([CI[BII)I" = some ⟨[(.array .char), .int, (.array .byte), .int, .int], some .int⟩ := by decide +kernel
theorem own_d17_0 : decode jdk_52_method_16_code 0 = .ok (.iload_n 2, 1) := by decide +kernel
theorem own_d17_1 : decode jdk_52_method_16_code 1 = .ok (.newarray .byte, 2) := by decide +kernel
theorem own_d17_3 : decode jdk_52_method_16_code 3 = .ok (.astore_n 3, 1) := by decide +kernel
theorem own_d17_4 : decode jdk_52_method_16_code 4 = .ok (.aload_n 0, 1) := by decide +kernel
theorem own_d17_5 : decode jdk_52_method_16_code 5 = .ok (.iload_n 1, 1) := by decide +kernel
theorem own_d17_6 : decode jdk_52_method_16_code 6 = .ok (.aload_n 3, 1) := by decide +kernel
theorem own_d17_7 : decode jdk_52_method_16_code 7 = .ok (.iconst 0, 1) := by decide +kernel
theorem own_d17_8 : decode jdk_52_method_16_code 8 = .ok (.iload_n 2, 1) := by decide +kernel
theorem own_d17_9 : decode jdk_52_method_16_code 9 = .ok (.invokestatic 115, 3) := by decide +kernel
theorem own_d17_12 : decode jdk_52_method_16_code 12 = .ok (.istore 4, 2) := by decide +kernel
theorem own_d17_14 : decode jdk_52_method_16_code 14 = .ok (.iload 4, 2) := by decide +kernel
theorem own_d17_16 : decode jdk_52_method_16_code 16 = .ok (.iload_n 2, 1) := by decide +kernel
theorem own_d17_17 : decode jdk_52_method_16_code 17 = .ok (.if_icmp .eq 40, 3) := by decide +kernel
theorem own_d17_57 : decode jdk_52_method_16_code 57 = .ok (.aload_n 3, 1) := by decide +kernel
theorem own_d17_58 : decode jdk_52_method_16_code 58 = .ok (.areturn, 1) := by decide +kernel
theorem own_ef17k1 (m : MethodId) (x0 : Addr) (x1 : Int32) (x2 : Int32) : entryFrame m #[(.ref x0), (.int x1), (.int x2)] 6 = mkF m 0 #[.val (.ref x0), .val (.int x1), .val (.int x2), .unset, .unset, .unset] [] := by first | (simp [entryFrame, mkF, argsToLocals, Value.category]; done) | rfl
def own_Q17k1 (Z : State) (b : Addr) (c0 : Int32) (kb : ClassId) (h0 : Heap) (n0 : Nat) (v : Option Value) (h : Heap) (L : List Loc) : Prop := ∃ (tb : Addr) (kt : ClassId), v = some (.ref tb) ∧ Fr n0 L ∧ n0 ≤ tb ∧ h0.size ≤ tb ∧ Keep h0 h [] ∧ Arv Z h tb kt .byte (1 : Int32) [(.int (own_lo c0))] (.int (0 : Int32))
set_option maxHeartbeats 40000000 in
theorem own_rm17k1 (l : Launch) (Z : State) (a0 : Array Value) (hw : ∀ d ∈ tables_1, d.before a0 Z = true) (ws : List Jvm.Cond) (b : Addr) (c0 : Int32) (kb : ClassId) (h0 : Heap) (n0 : Nat) (Z0 : n0 ≤ h0.size) (V_b : Arv Z h0 b kb .char (1 : Int32) [(.int c0)] (.int (0 : Int32))) (hl0 : ¬ (255 : Int32) < c0) :
    MetFree l (⟨"java/lang/StringUTF16", "compress", "([CII)[B"⟩ : MethodName) (head1 (Jvm.Cond.code (⟨"java/lang/StringUTF16", "compress", "([CII)[B"⟩ : MethodName) jdk_52_method_16_code 6 (some (.array .byte)) :: ws) ({ frames := 1, cells := 1, slots := 1, locals := 18 } : Room)) (fun argv U => argv = #[(.ref b), (.int (0 : Int32)), (.int (1 : Int32))] ∧ Z.Warmed39 U.vm ∧ U.heap = h0) (fun _ _ _ _ _ => True) (fun _ U o U' => ∃ v L, o = .returned v ∧ own_Q17k1 Z b c0 kb h0 n0 v U'.heap L ∧ FrameEnd U o U' L ({ frames := 1, cells := 1, slots := 1, locals := 18 } : Room).cells ({ frames := 1, cells := 1, slots := 1, locals := 18 } : Room).slots) := by
  refine MetFree.of_bodySF (plainFor_of_name own_pn3) hisR ?_
  intro p e s m args below meth c s₁ Bd hml0 hP hK
  obtain ⟨rfl, hZ, hh⟩ := hP
  have hx := Bd.exec
  have hby := Bd.bytes
  have hml : c.maxLocals = 6 := hml0
  have hown : s.vm.findClass "java/lang/StringUTF16" = some m.cls := findClass_of_methodNamed Bd.named
  have hnm := (name_of_methodNamed Bd.named Bd.method).1
  have X0 : Stand p l e ({ frames := 1, cells := 1, slots := 1, locals := 18 } : Room) s m #[(.ref b), (.int (0 : Int32)), (.int (1 : Int32))] below meth c s₁ [] 0 0 := Stand.of_body Bd
  have e0 : s₁.heap = h0 := by rw [← hh, Bd.state]; rfl
  have N0 := Fr.nil n0
  have pre0 : ∀ t, Steps p.tables e below (s₁.setTop (mkF m 0 #[.val (.ref b), .val (.int (0 : Int32)), .val (.int (1 : Int32)), .unset, .unset, .unset] [])) t → Steps p.tables e below (s₁.setTop (entryFrame m #[(.ref b), (.int (0 : Int32)), (.int (1 : Int32))] 6)) t := fun t k => castTop (own_ef17k1 m b (0 : Int32) (1 : Int32)) k
  have S1 : ∀ t, Steps p.tables e below (s₁.setTop (mkF m 1 #[.val (.ref b), .val (.int (0 : Int32)), .val (.int (1 : Int32)), .unset, .unset, .unset] [(.int (1 : Int32))])) t → Steps p.tables e below (s₁.setTop (entryFrame m #[(.ref b), (.int (0 : Int32)), (.int (1 : Int32))] 6)) t := fun t kt => by
    refine pre0 t ?_
    show Steps p.tables e below (s₁.setTop (mkF m 0 #[.val (.ref b), .val (.int (0 : Int32)), .val (.int (1 : Int32)), .unset, .unset, .unset] [])) t
    refine XS.iloadN X0.here hx rfl (hb hby own_d17_0) rfl ?_
    exact kt
  obtain ⟨T2, h2, k2, X2, e2, E2, A2, st2⟩ := newP X0 hx hZ (hw _ (List.mem_of_getElem? (i := 18) rfl)) e0 (g := (mkF m 1 #[.val (.ref b), .val (.int (0 : Int32)), .val (.int (1 : Int32)), .unset, .unset, .unset] [(.int (1 : Int32))])) rfl (hb hby own_d17_1) rfl (by decide) (cap := 1) (by decide) (by decide) (by decide) (by decide)
  obtain ⟨b2, g2⟩ : ∃ z, z = h0.size := ⟨_, rfl⟩
  rw [← g2] at A2 st2
  have S3 : ∀ t, Steps p.tables e below (T2.setTop (mkF m 3 #[.val (.ref b), .val (.int (0 : Int32)), .val (.int (1 : Int32)), .unset, .unset, .unset] [(.ref b2)])) t → Steps p.tables e below (s₁.setTop (entryFrame m #[(.ref b), (.int (0 : Int32)), (.int (1 : Int32))] 6)) t := fun t kt => S1 t (st2 _ kt)
  have g_b2 : n0 ≤ b2 := Nat.le_trans Z0 (Nat.le_of_eq g2.symm)
  have sz_b2 : h0.size ≤ b2 := Nat.le_trans (Keep.refl h0 []).1 (Nat.le_of_eq g2.symm)
  have ne_b_b2 : b ≠ b2 := Nat.ne_of_lt (Nat.lt_of_lt_of_le V_b.lt (Nat.le_of_eq g2.symm))
  have F4 := V_b.ext E2
  have K5 : Keep h0 h2 [] := (Keep.refl h0 []).ext E2
  have V6 : Arv Z h2 b2 k2 .byte (1 : Int32) [(.int (0 : Int32))] (.int (0 : Int32)) := (Arv.new A2 (by decide)).pad (pad_rep [] (.int (0 : Int32)) 1)
  have S9 : ∀ t, Steps p.tables e below (T2.setTop (mkF m 9 #[.val (.ref b), .val (.int (0 : Int32)), .val (.int (1 : Int32)), .val (.ref b2), .unset, .unset] [(.int (1 : Int32)), (.int (0 : Int32)), (.ref b2), (.int (0 : Int32)), (.ref b)])) t → Steps p.tables e below (s₁.setTop (entryFrame m #[(.ref b), (.int (0 : Int32)), (.int (1 : Int32))] 6)) t := fun t kt => by
    refine S3 t ?_
    show Steps p.tables e below (T2.setTop (mkF m 3 #[.val (.ref b), .val (.int (0 : Int32)), .val (.int (1 : Int32)), .unset, .unset, .unset] [(.ref b2)])) t
    refine XS.astoreN X2.here hx rfl (hb hby own_d17_3) rfl rfl (l' := #[.val (.ref b), .val (.int (0 : Int32)), .val (.int (1 : Int32)), .val (.ref b2), .unset, .unset]) rfl ?_
    show Steps p.tables e below (T2.setTop (mkF m 4 #[.val (.ref b), .val (.int (0 : Int32)), .val (.int (1 : Int32)), .val (.ref b2), .unset, .unset] [])) t
    refine XS.aloadN X2.here hx rfl (hb hby own_d17_4) rfl rfl ?_
    show Steps p.tables e below (T2.setTop (mkF m 5 #[.val (.ref b), .val (.int (0 : Int32)), .val (.int (1 : Int32)), .val (.ref b2), .unset, .unset] [(.ref b)])) t
    refine XS.iloadN X2.here hx rfl (hb hby own_d17_5) rfl ?_
    show Steps p.tables e below (T2.setTop (mkF m 6 #[.val (.ref b), .val (.int (0 : Int32)), .val (.int (1 : Int32)), .val (.ref b2), .unset, .unset] [(.int (0 : Int32)), (.ref b)])) t
    refine XS.aloadN X2.here hx rfl (hb hby own_d17_6) rfl rfl ?_
    show Steps p.tables e below (T2.setTop (mkF m 7 #[.val (.ref b), .val (.int (0 : Int32)), .val (.int (1 : Int32)), .val (.ref b2), .unset, .unset] [(.ref b2), (.int (0 : Int32)), (.ref b)])) t
    refine XS.iconst X2.here hx rfl (hb hby own_d17_7) ?_
    show Steps p.tables e below (T2.setTop (mkF m 8 #[.val (.ref b), .val (.int (0 : Int32)), .val (.int (1 : Int32)), .val (.ref b2), .unset, .unset] [(.int (0 : Int32)), (.ref b2), (.int (0 : Int32)), (.ref b)])) t
    refine XS.iloadN X2.here hx rfl (hb hby own_d17_8) rfl ?_
    exact kt
  obtain ⟨_, _, ⟨T10, L10, k10, n10⟩, -, X10, ⟨Lc10, hQ10, l10, y10, z10⟩, st10⟩ := Jvm.LawKit.callS X2 hx (y := (⟨"java/lang/StringUTF16", "compress", "([CI[BII)I"⟩ : MethodName)) hown (mvT hZ (hw _ (List.mem_of_getElem? (i := 86) rfl))) (mvT hZ (hw _ (List.mem_of_getElem? (i := 87) rfl))) (mvT hZ (hw _ (List.mem_of_getElem? (i := 84) rfl))) (mvT hZ (hw _ (List.mem_of_getElem? (i := 88) rfl))) (by decide) (backOf (W := 0) (own_rm18k1 l Z a0 hw [] (b) (b2) (c0) (kb) (k2) h2 n0 (Nat.le_trans Z0 K5.1) F4 V6 g_b2 ne_b_b2 hl0) hZ (hw _ (List.mem_of_getElem? (i := 88) rfl)) (hw _ (List.mem_of_getElem? (i := 84) rfl)) (by decide) (by decide)) (g := (mkF m 9 #[.val (.ref b), .val (.int (0 : Int32)), .val (.int (1 : Int32)), .val (.ref b2), .unset, .unset] [(.int (1 : Int32)), (.int (0 : Int32)), (.ref b2), (.int (0 : Int32)), (.ref b)])) rfl (by rw [hml]; rfl) (argsL := [(.ref b), (.int (0 : Int32)), (.ref b2), (.int (0 : Int32)), (.int (1 : Int32))]) (rest := []) (lenOf own_pd2 rfl) rfl (by show 2 * 0 + _ ≤ _; exact Nat.le_of_eq rfl) (hb hby own_d17_9) (fun _ _ => ⟨rfl, e2, (by decide : 1 + 0 ≤ _), (by decide : 1 + 0 ≤ _)⟩)
  dsimp only [Pt.U, Pt.locs, Pt.cells, Pt.slots] at X10 l10 y10 z10 st10 hQ10
  subst l10 y10 z10
  obtain ⟨rfl, Nq10, Kc7, Vc7⟩ := hQ10
  have N11 := Fr.app N0 Nq10
  have S12 : ∀ t, Steps p.tables e below (T10.setTop (mkF m 12 #[.val (.ref b), .val (.int (0 : Int32)), .val (.int (1 : Int32)), .val (.ref b2), .unset, .unset] [(.int (1 : Int32))])) t → Steps p.tables e below (s₁.setTop (entryFrame m #[(.ref b), (.int (0 : Int32)), (.int (1 : Int32))] 6)) t := fun t kt => S9 t (st10 _ kt)
  have F13 := F4.keep Kc7 (ninS ne_b_b2 nin0)
  have K14 : Keep h0 T10.heap [] := K5.trans Kc7 (allS (Or.inr sz_b2) all0)
  have S15 : ∀ t, Steps p.tables e below (T10.setTop (mkF m 17 #[.val (.ref b), .val (.int (0 : Int32)), .val (.int (1 : Int32)), .val (.ref b2), .val (.int (1 : Int32)), .unset] [(.int (1 : Int32)), (.int (1 : Int32))])) t → Steps p.tables e below (s₁.setTop (entryFrame m #[(.ref b), (.int (0 : Int32)), (.int (1 : Int32))] 6)) t := fun t kt => by
    refine S12 t ?_
    show Steps p.tables e below (T10.setTop (mkF m 12 #[.val (.ref b), .val (.int (0 : Int32)), .val (.int (1 : Int32)), .val (.ref b2), .unset, .unset] [(.int (1 : Int32))])) t
    refine XS.istore X10.here hx rfl (hb hby own_d17_12) rfl (l' := #[.val (.ref b), .val (.int (0 : Int32)), .val (.int (1 : Int32)), .val (.ref b2), .val (.int (1 : Int32)), .unset]) rfl ?_
    show Steps p.tables e below (T10.setTop (mkF m 14 #[.val (.ref b), .val (.int (0 : Int32)), .val (.int (1 : Int32)), .val (.ref b2), .val (.int (1 : Int32)), .unset] [])) t
    refine XS.iload X10.here hx rfl (hb hby own_d17_14) rfl ?_
    show Steps p.tables e below (T10.setTop (mkF m 16 #[.val (.ref b), .val (.int (0 : Int32)), .val (.int (1 : Int32)), .val (.ref b2), .val (.int (1 : Int32)), .unset] [(.int (1 : Int32))])) t
    refine XS.iloadN X10.here hx rfl (hb hby own_d17_16) rfl ?_
    exact kt
  have hc17_16 : (1 : Int32) = (1 : Int32) := by decide
  have S17 : ∀ t, Steps p.tables e below (T10.setTop (mkF m 58 #[.val (.ref b), .val (.int (0 : Int32)), .val (.int (1 : Int32)), .val (.ref b2), .val (.int (1 : Int32)), .unset] [(.ref b2)])) t → Steps p.tables e below (s₁.setTop (entryFrame m #[(.ref b), (.int (0 : Int32)), (.int (1 : Int32))] 6)) t := fun t kt => by
    refine S15 t ?_
    show Steps p.tables e below (T10.setTop (mkF m 17 #[.val (.ref b), .val (.int (0 : Int32)), .val (.int (1 : Int32)), .val (.ref b2), .val (.int (1 : Int32)), .unset] [(.int (1 : Int32)), (.int (1 : Int32))])) t
    refine XS.icmpYes X10.here hx rfl (pc0 := 17) (pc' := 57) rfl (hb hby own_d17_17) rfl (teq hc17_16).1 (by decide) (by decide) ?_
    show Steps p.tables e below (T10.setTop (mkF m 57 #[.val (.ref b), .val (.int (0 : Int32)), .val (.int (1 : Int32)), .val (.ref b2), .val (.int (1 : Int32)), .unset] [])) t
    refine XS.aloadN X10.here hx rfl (hb hby own_d17_57) rfl rfl ?_
    exact kt
  obtain ⟨fs, hr, hrun, hended, hW, hsame⟩ := X10.leave (v := some (.ref b2)) (fun h => by rw [Bd.returns] at h; cases h)
  refine ⟨_, _, S17 _ ?_, hrun, hended, _, _, rfl, ?_, ⟨_, rfl⟩, hW, hsame.mono (by decide) (by decide)⟩
  · show Steps p.tables e below (T10.setTop (mkF m 58 #[.val (.ref b), .val (.int (0 : Int32)), .val (.int (1 : Int32)), .val (.ref b2), .val (.int (1 : Int32)), .unset] [(.ref b2)])) _
    jvm_step X10.here [X10.here.top, hx, (hb hby own_d17_58), X10.method', Bd.returns, Value.isRef, FieldType.isReference]
    first | (intro acts; rw [hr _ acts rfl rfl rfl]) | rw [hr _ _ rfl rfl rfl]
    exact Steps.refl _
  · show own_Q17k1 Z b c0 kb h0 n0 _ T10.heap _
    exact ⟨b2, k2, rfl, N11, g_b2, sz_b2, K14, Vc7⟩
theorem own_pd3 : parseMethodDescriptor "([CII)[B" = some ⟨[(.array .char), .int, .int], some (.array .byte)⟩ := by decide +kernel
theorem own_pd4 : parseMethodDescriptor "([BI)B" = some ⟨[(.array .byte), .int], some .byte⟩ := by decide +kernel
theorem own_d8_0 : decode jdk_42_method_149_code 0 = .ok (.aload_n 0, 1) := by decide +kernel
theorem own_d8_1 : decode jdk_42_method_149_code 1 = .ok (.invokespecial 1, 3) := by decide +kernel
theorem own_d8_4 : decode jdk_42_method_149_code 4 = .ok (.iload_n 3, 1) := by decide +kernel
theorem own_d8_5 : decode jdk_42_method_149_code 5 = .ok (.ifCond .ne 22, 3) := by decide +kernel
theorem own_d8_27 : decode jdk_42_method_149_code 27 = .ok (.getstatic 38, 3) := by decide +kernel
theorem own_d8_30 : decode jdk_42_method_149_code 30 = .ok (.ifCond .eq 28, 3) := by decide +kernel
theorem own_d8_33 : decode jdk_42_method_149_code 33 = .ok (.aload_n 1, 1) := by decide +kernel
theorem own_d8_34 : decode jdk_42_method_149_code 34 = .ok (.iload_n 2, 1) := by decide +kernel
theorem own_d8_35 : decode jdk_42_method_149_code 35 = .ok (.iload_n 3, 1) := by decide +kernel
theorem own_d8_36 : decode jdk_42_method_149_code 36 = .ok (.invokestatic 177, 3) := by decide +kernel
theorem own_d8_39 : decode jdk_42_method_149_code 39 = .ok (.astore 5, 2) := by decide +kernel
theorem own_d8_41 : decode jdk_42_method_149_code 41 = .ok (.aload_n 0, 1) := by decide +kernel
theorem own_d8_42 : decode jdk_42_method_149_code 42 = .ok (.aload 5, 2) := by decide +kernel
theorem own_d8_44 : decode jdk_42_method_149_code 44 = .ok (.iload_n 3, 1) := by decide +kernel
theorem own_d8_45 : decode jdk_42_method_149_code 45 = .ok (.invokestatic 47, 3) := by decide +kernel
theorem own_d8_48 : decode jdk_42_method_149_code 48 = .ok (.putfield 15, 3) := by decide +kernel
theorem own_d8_51 : decode jdk_42_method_149_code 51 = .ok (.aload_n 0, 1) := by decide +kernel
theorem own_d8_52 : decode jdk_42_method_149_code 52 = .ok (.aload 5, 2) := by decide +kernel
theorem own_d8_54 : decode jdk_42_method_149_code 54 = .ok (.putfield 9, 3) := by decide +kernel
theorem own_d8_57 : decode jdk_42_method_149_code 57 = .ok (.return_, 1) := by decide +kernel
theorem own_ef8k1 (m : MethodId) (x0 : Addr) (x1 : Addr) (x2 : Int32) (x3 : Int32) : entryFrame m #[(.ref x0), (.ref x1), (.int x2), (.int x3), .null] 6 = mkF m 0 #[.val (.ref x0), .val (.ref x1), .val (.int x2), .val (.int x3), .val .null, .unset] [] := by first | (simp [entryFrame, mkF, argsToLocals, Value.category]; done) | rfl
def own_Q8k1 (Z : State) (a : Addr) (b : Addr) (c0 : Int32) (kb : ClassId) (cs : Int32) (uv : Value) (uc : Value) (h0 : Heap) (n0 : Nat) (v : Option Value) (h : Heap) (L : List Loc) : Prop := v = none ∧ Fr n0 L ∧ Keep h0 h [a] ∧ Exa Z h a "java/lang/String" ∧ Fld Z h a "java/lang/String" "coder" "B" (.int (0 : Int32)) ∧ ∃ (tb : Addr) (kt : ClassId), n0 ≤ tb ∧ h0.size ≤ tb ∧ a ≠ tb ∧ Fld Z h a "java/lang/String" "value" "[B" (.ref tb) ∧ Arv Z h tb kt .byte (1 : Int32) [(.int (own_lo c0))] (.int (0 : Int32))
theorem own_pn4 : plainName "java/lang/String" = true := by first | (simp [plainName, overriddenIn]; done) | decide +kernel
set_option maxHeartbeats 40000000 in
theorem own_rm8k1 (l : Launch) (Z : State) (a0 : Array Value) (hw : ∀ d ∈ tables_1, d.before a0 Z = true) (ws : List Jvm.Cond) (a : Addr) (b : Addr) (c0 : Int32) (kb : ClassId) (cs : Int32) (uv : Value) (uc : Value) (h0 : Heap) (n0 : Nat) (Z0 : n0 ≤ h0.size) (E_a : Exa Z h0 a "java/lang/String") (g_a : n0 ≤ a) (F_value : Fld Z h0 a "java/lang/String" "value" "[B" uv) (F_coder : Fld Z h0 a "java/lang/String" "coder" "B" uc) (S_CS : Sta Z h0 "java/lang/String" "COMPACT_STRINGS" "Z" (.int cs)) (hcs : ¬ cs = (0 : Int32)) (V_b : Arv Z h0 b kb .char (1 : Int32) [(.int c0)] (.int (0 : Int32))) (hl0 : ¬ (255 : Int32) < c0) :
    MetFree l (⟨"java/lang/String", "<init>", "([CIILjava/lang/Void;)V"⟩ : MethodName) (head1 (Jvm.Cond.code (⟨"java/lang/String", "<init>", "([CIILjava/lang/Void;)V"⟩ : MethodName) jdk_42_method_149_code 6 none :: ws) ({ frames := 2, cells := 1, slots := 1, locals := 35 } : Room)) (fun argv U => argv = #[(.ref a), (.ref b), (.int (0 : Int32)), (.int (1 : Int32)), .null] ∧ Z.Warmed39 U.vm ∧ U.heap = h0) (fun _ _ _ _ _ => True) (fun _ U o U' => ∃ v L, o = .returned v ∧ own_Q8k1 Z a b c0 kb cs uv uc h0 n0 v U'.heap L ∧ FrameEnd U o U' L ({ frames := 2, cells := 1, slots := 1, locals := 35 } : Room).cells ({ frames := 2, cells := 1, slots := 1, locals := 35 } : Room).slots) := by
  refine MetFree.of_bodySF (plainFor_of_name own_pn4) hisR ?_
  intro p e s m args below meth c s₁ Bd hml0 hP hK
  obtain ⟨rfl, hZ, hh⟩ := hP
  have hx := Bd.exec
  have hby := Bd.bytes
  have hml : c.maxLocals = 6 := hml0
  have hown : s.vm.findClass "java/lang/String" = some m.cls := findClass_of_methodNamed Bd.named
  have hnm := (name_of_methodNamed Bd.named Bd.method).1
  have X0 : Stand p l e ({ frames := 2, cells := 1, slots := 1, locals := 35 } : Room) s m #[(.ref a), (.ref b), (.int (0 : Int32)), (.int (1 : Int32)), .null] below meth c s₁ [] 0 0 := Stand.of_body Bd
  have e0 : s₁.heap = h0 := by rw [← hh, Bd.state]; rfl
  have N0 := Fr.nil n0
  have pre0 : ∀ t, Steps p.tables e below (s₁.setTop (mkF m 0 #[.val (.ref a), .val (.ref b), .val (.int (0 : Int32)), .val (.int (1 : Int32)), .val .null, .unset] [])) t → Steps p.tables e below (s₁.setTop (entryFrame m #[(.ref a), (.ref b), (.int (0 : Int32)), (.int (1 : Int32)), .null] 6)) t := fun t k => castTop (own_ef8k1 m a b (0 : Int32) (1 : Int32)) k
  have S1 : ∀ t, Steps p.tables e below (s₁.setTop (mkF m 1 #[.val (.ref a), .val (.ref b), .val (.int (0 : Int32)), .val (.int (1 : Int32)), .val .null, .unset] [(.ref a)])) t → Steps p.tables e below (s₁.setTop (entryFrame m #[(.ref a), (.ref b), (.int (0 : Int32)), (.int (1 : Int32)), .null] 6)) t := fun t kt => by
    refine pre0 t ?_
    show Steps p.tables e below (s₁.setTop (mkF m 0 #[.val (.ref a), .val (.ref b), .val (.int (0 : Int32)), .val (.int (1 : Int32)), .val .null, .unset] [])) t
    refine XS.aloadN X0.here hx rfl (hb hby own_d8_0) rfl rfl ?_
    exact kt
  obtain ⟨T2, X2, e2, st2⟩ := initO X0 hx hZ hown (hw _ (List.mem_of_getElem? (i := 23) rfl)) (hw _ (List.mem_of_getElem? (i := 24) rfl)) (hw _ (List.mem_of_getElem? (i := 25) rfl)) e0 (g := (mkF m 1 #[.val (.ref a), .val (.ref b), .val (.int (0 : Int32)), .val (.int (1 : Int32)), .val .null, .unset] [(.ref a)])) rfl (by rw [hml]; rfl) rfl (hb hby own_d8_1) (by decide) (W := 0) (by show 2 * 0 + _ ≤ _; exact Nat.le_of_eq rfl) (by decide)
  have S3 : ∀ t, Steps p.tables e below (T2.setTop (mkF m 4 #[.val (.ref a), .val (.ref b), .val (.int (0 : Int32)), .val (.int (1 : Int32)), .val .null, .unset] [])) t → Steps p.tables e below (s₁.setTop (entryFrame m #[(.ref a), (.ref b), (.int (0 : Int32)), (.int (1 : Int32)), .null] 6)) t := fun t kt => S1 t (st2 _ kt)
  have S4 : ∀ t, Steps p.tables e below (T2.setTop (mkF m 5 #[.val (.ref a), .val (.ref b), .val (.int (0 : Int32)), .val (.int (1 : Int32)), .val .null, .unset] [(.int (1 : Int32))])) t → Steps p.tables e below (s₁.setTop (entryFrame m #[(.ref a), (.ref b), (.int (0 : Int32)), (.int (1 : Int32)), .null] 6)) t := fun t kt => by
    refine S3 t ?_
    show Steps p.tables e below (T2.setTop (mkF m 4 #[.val (.ref a), .val (.ref b), .val (.int (0 : Int32)), .val (.int (1 : Int32)), .val .null, .unset] [])) t
    refine XS.iloadN X2.here hx rfl (hb hby own_d8_4) rfl ?_
    exact kt
  have hc5_5 : ¬ ((1 : Int32) = (0 : Int32)) := by decide
  have S6 : ∀ t, Steps p.tables e below (T2.setTop (mkF m 27 #[.val (.ref a), .val (.ref b), .val (.int (0 : Int32)), .val (.int (1 : Int32)), .val .null, .unset] [])) t → Steps p.tables e below (s₁.setTop (entryFrame m #[(.ref a), (.ref b), (.int (0 : Int32)), (.int (1 : Int32)), .null] 6)) t := fun t kt => by
    refine S4 t ?_
    show Steps p.tables e below (T2.setTop (mkF m 5 #[.val (.ref a), .val (.ref b), .val (.int (0 : Int32)), .val (.int (1 : Int32)), .val .null, .unset] [(.int (1 : Int32))])) t
    refine XS.ifYes X2.here hx rfl (pc0 := 5) (pc' := 27) rfl (hb hby own_d8_5) rfl ((if0 _ _).trans (feq hc5_5).2) (by decide) (by decide) ?_
    exact kt
  obtain ⟨T7, X7, e7, st7⟩ := getS2 X2 hx hZ hown (host := "") (Or.inl (hw _ (List.mem_of_getElem? (i := 8) rfl))) Via.refl e2 S_CS (g := (mkF m 27 #[.val (.ref a), .val (.ref b), .val (.int (0 : Int32)), .val (.int (1 : Int32)), .val .null, .unset] [])) rfl (hb hby own_d8_27)
  have S8 : ∀ t, Steps p.tables e below (T7.setTop (mkF m 30 #[.val (.ref a), .val (.ref b), .val (.int (0 : Int32)), .val (.int (1 : Int32)), .val .null, .unset] [(.int cs)])) t → Steps p.tables e below (s₁.setTop (entryFrame m #[(.ref a), (.ref b), (.int (0 : Int32)), (.int (1 : Int32)), .null] 6)) t := fun t kt => S6 t (st7 _ kt)
  have hc30_9 : ¬ (cs = (0 : Int32)) := hcs
  have S12 : ∀ t, Steps p.tables e below (T7.setTop (mkF m 36 #[.val (.ref a), .val (.ref b), .val (.int (0 : Int32)), .val (.int (1 : Int32)), .val .null, .unset] [(.int (1 : Int32)), (.int (0 : Int32)), (.ref b)])) t → Steps p.tables e below (s₁.setTop (entryFrame m #[(.ref a), (.ref b), (.int (0 : Int32)), (.int (1 : Int32)), .null] 6)) t := fun t kt => by
    refine S8 t ?_
    show Steps p.tables e below (T7.setTop (mkF m 30 #[.val (.ref a), .val (.ref b), .val (.int (0 : Int32)), .val (.int (1 : Int32)), .val .null, .unset] [(.int cs)])) t
    refine XS.ifNo X7.here hx rfl (hb hby own_d8_30) rfl ((if0 _ _).trans (feq hc30_9).1) ?_
    show Steps p.tables e below (T7.setTop (mkF m 33 #[.val (.ref a), .val (.ref b), .val (.int (0 : Int32)), .val (.int (1 : Int32)), .val .null, .unset] [])) t
    refine XS.aloadN X7.here hx rfl (hb hby own_d8_33) rfl rfl ?_
    show Steps p.tables e below (T7.setTop (mkF m 34 #[.val (.ref a), .val (.ref b), .val (.int (0 : Int32)), .val (.int (1 : Int32)), .val .null, .unset] [(.ref b)])) t
    refine XS.iloadN X7.here hx rfl (hb hby own_d8_34) rfl ?_
    show Steps p.tables e below (T7.setTop (mkF m 35 #[.val (.ref a), .val (.ref b), .val (.int (0 : Int32)), .val (.int (1 : Int32)), .val .null, .unset] [(.int (0 : Int32)), (.ref b)])) t
    refine XS.iloadN X7.here hx rfl (hb hby own_d8_35) rfl ?_
    exact kt
  obtain ⟨_, _, ⟨T13, L13, k13, n13⟩, -, X13, ⟨Lc13, hQ13, l13, y13, z13⟩, st13⟩ := Jvm.LawKit.callS X7 hx (y := (⟨"java/lang/StringUTF16", "compress", "([CII)[B"⟩ : MethodName)) hown (mvT hZ (hw _ (List.mem_of_getElem? (i := 82) rfl))) (mvT hZ (hw _ (List.mem_of_getElem? (i := 83) rfl))) (mvT hZ (hw _ (List.mem_of_getElem? (i := 84) rfl))) (mvT hZ (hw _ (List.mem_of_getElem? (i := 85) rfl))) (by decide) (backOf (W := 0) (own_rm17k1 l Z a0 hw [] (b) (c0) (kb) h0 n0 Z0 V_b hl0) hZ (hw _ (List.mem_of_getElem? (i := 85) rfl)) (hw _ (List.mem_of_getElem? (i := 84) rfl)) (by decide) (by decide)) (g := (mkF m 36 #[.val (.ref a), .val (.ref b), .val (.int (0 : Int32)), .val (.int (1 : Int32)), .val .null, .unset] [(.int (1 : Int32)), (.int (0 : Int32)), (.ref b)])) rfl (by rw [hml]; rfl) (argsL := [(.ref b), (.int (0 : Int32)), (.int (1 : Int32))]) (rest := []) (lenOf own_pd3 rfl) rfl (by show 2 * 0 + _ ≤ _; exact Nat.le_of_eq rfl) (hb hby own_d8_36) (fun _ _ => ⟨rfl, e7, (by decide : 0 + 1 ≤ _), (by decide : 0 + 1 ≤ _)⟩)
  dsimp only [Pt.U, Pt.locs, Pt.cells, Pt.slots] at X13 l13 y13 z13 st13 hQ13
  subst l13 y13 z13
  obtain ⟨tb10, kt10, rfl, Nq13, gt10, sz10, Kc10, Vc10⟩ := hQ13
  have N14 := Fr.app N0 Nq13
  have S15 : ∀ t, Steps p.tables e below (T13.setTop (mkF m 39 #[.val (.ref a), .val (.ref b), .val (.int (0 : Int32)), .val (.int (1 : Int32)), .val .null, .unset] [(.ref tb10)])) t → Steps p.tables e below (s₁.setTop (entryFrame m #[(.ref a), (.ref b), (.int (0 : Int32)), (.int (1 : Int32)), .null] 6)) t := fun t kt => S12 t (st13 _ kt)
  have F16 := E_a.keep Kc10
  have F17 := F_value.keep Kc10 nin0
  have F18 := F_coder.keep Kc10 nin0
  have F19 := own_StaK S_CS Kc10 all0
  have F20 := V_b.keep Kc10 nin0
  have K21 : Keep h0 T13.heap [a] := (Keep.refl h0 [a]).trans Kc10 all0
  have ne_a_tb10 : a ≠ tb10 := Nat.ne_of_lt (Nat.lt_of_lt_of_le E_a.lt sz10)
  have ne_b_tb10 : b ≠ tb10 := Nat.ne_of_lt (Nat.lt_of_lt_of_le V_b.lt sz10)
  have S23 : ∀ t, Steps p.tables e below (T13.setTop (mkF m 45 #[.val (.ref a), .val (.ref b), .val (.int (0 : Int32)), .val (.int (1 : Int32)), .val .null, .val (.ref tb10)] [(.int (1 : Int32)), (.ref tb10), (.ref a)])) t → Steps p.tables e below (s₁.setTop (entryFrame m #[(.ref a), (.ref b), (.int (0 : Int32)), (.int (1 : Int32)), .null] 6)) t := fun t kt => by
    refine S15 t ?_
    show Steps p.tables e below (T13.setTop (mkF m 39 #[.val (.ref a), .val (.ref b), .val (.int (0 : Int32)), .val (.int (1 : Int32)), .val .null, .unset] [(.ref tb10)])) t
    refine XS.astore X13.here hx rfl (hb hby own_d8_39) rfl rfl (l' := #[.val (.ref a), .val (.ref b), .val (.int (0 : Int32)), .val (.int (1 : Int32)), .val .null, .val (.ref tb10)]) rfl ?_
    show Steps p.tables e below (T13.setTop (mkF m 41 #[.val (.ref a), .val (.ref b), .val (.int (0 : Int32)), .val (.int (1 : Int32)), .val .null, .val (.ref tb10)] [])) t
    refine XS.aloadN X13.here hx rfl (hb hby own_d8_41) rfl rfl ?_
    show Steps p.tables e below (T13.setTop (mkF m 42 #[.val (.ref a), .val (.ref b), .val (.int (0 : Int32)), .val (.int (1 : Int32)), .val .null, .val (.ref tb10)] [(.ref a)])) t
    refine XS.aload X13.here hx rfl (hb hby own_d8_42) rfl rfl ?_
    show Steps p.tables e below (T13.setTop (mkF m 44 #[.val (.ref a), .val (.ref b), .val (.int (0 : Int32)), .val (.int (1 : Int32)), .val .null, .val (.ref tb10)] [(.ref tb10), (.ref a)])) t
    refine XS.iloadN X13.here hx rfl (hb hby own_d8_44) rfl ?_
    exact kt
  obtain ⟨_, _, ⟨T24, L24, k24, n24⟩, -, X24, ⟨Lc24, hQ24, l24, y24, z24⟩, st24⟩ := Jvm.LawKit.callS X13 hx (y := (⟨"java/lang/StringUTF16", "coderFromArrayLen", "([BI)B"⟩ : MethodName)) hown (mvT hZ (hw _ (List.mem_of_getElem? (i := 89) rfl))) (mvT hZ (hw _ (List.mem_of_getElem? (i := 90) rfl))) (mvT hZ (hw _ (List.mem_of_getElem? (i := 84) rfl))) (mvT hZ (hw _ (List.mem_of_getElem? (i := 91) rfl))) (by decide) (backOf (W := 1) (own_rm19k1 l Z a0 hw [] (tb10) (c0) (kt10) T13.heap n0 (Nat.le_trans Z0 K21.1) Vc10) hZ (hw _ (List.mem_of_getElem? (i := 91) rfl)) (hw _ (List.mem_of_getElem? (i := 84) rfl)) (by decide) (by decide)) (g := (mkF m 45 #[.val (.ref a), .val (.ref b), .val (.int (0 : Int32)), .val (.int (1 : Int32)), .val .null, .val (.ref tb10)] [(.int (1 : Int32)), (.ref tb10), (.ref a)])) rfl (by rw [hml]; rfl) (argsL := [(.ref tb10), (.int (1 : Int32))]) (rest := [(.ref a)]) (lenOf own_pd4 rfl) rfl (by show 2 * 0 + _ ≤ _; exact Nat.le_of_eq rfl) (hb hby own_d8_45) (fun _ _ => ⟨rfl, rfl, (by decide : 1 + 0 ≤ _), (by decide : 1 + 0 ≤ _)⟩)
  dsimp only [Pt.U, Pt.locs, Pt.cells, Pt.slots] at X24 l24 y24 z24 st24 hQ24
  subst l24 y24 z24
  obtain ⟨rfl, rfl, eq22⟩ := hQ24
  try rw [List.append_nil] at X24
  have S25 : ∀ t, Steps p.tables e below (T24.setTop (mkF m 48 #[.val (.ref a), .val (.ref b), .val (.int (0 : Int32)), .val (.int (1 : Int32)), .val .null, .val (.ref tb10)] [(.int (0 : Int32)), (.ref a)])) t → Steps p.tables e below (s₁.setTop (entryFrame m #[(.ref a), (.ref b), (.int (0 : Int32)), (.int (1 : Int32)), .null] 6)) t := fun t kt => S23 t (st24 _ kt)
  obtain ⟨T26, h26, X26, e26, W26, st26⟩ := putFN X24 hx hZ hown (hw _ (List.mem_of_getElem? (i := 28) rfl)) Via.refl (eq22.trans rfl) F18 F16 (Or.inr ⟨(hw _ (List.mem_of_getElem? (i := 29) rfl)), rfl, hnm⟩) (hw _ (List.mem_of_getElem? (i := 14) rfl)) (ty := .byte) (v' := (.int (0 : Int32))) (by decide) rfl (by decide) (g := (mkF m 48 #[.val (.ref a), .val (.ref b), .val (.int (0 : Int32)), .val (.int (1 : Int32)), .val .null, .val (.ref tb10)] [(.int (0 : Int32)), (.ref a)])) rfl rfl (hb hby own_d8_48)
  have S27 : ∀ t, Steps p.tables e below (T26.setTop (mkF m 51 #[.val (.ref a), .val (.ref b), .val (.int (0 : Int32)), .val (.int (1 : Int32)), .val .null, .val (.ref tb10)] [])) t → Steps p.tables e below (s₁.setTop (entryFrame m #[(.ref a), (.ref b), (.int (0 : Int32)), (.int (1 : Int32)), .null] 6)) t := fun t kt => S25 t (st26 _ kt)
  have F28 := F16.wr W26
  have F29 := F17.other W26 (Or.inr (slot_ne (Or.inr (hw _ (List.mem_of_getElem? (i := 27) rfl))) (Or.inr (hw _ (List.mem_of_getElem? (i := 29) rfl))) (by decide) (t := (.array .byte)) (t' := .byte) (by decide) (by decide)))
  have F30 := F18.same W26
  have F31 := F19.wr W26
  have F32 := F20.other W26 (Ne.symm (Exa.neArv F16 F20 (hw _ (List.mem_of_getElem? (i := 14) rfl))))
  have F33 := Vc10.other W26 (Ne.symm ne_a_tb10)
  have N34 := Fr.snoc X26 N14 g_a
  have K35 : Keep h0 h26 [a] := K21.wr W26 (Or.inl (List.mem_of_getElem? (i := 0) rfl))
  have S36 : ∀ t, Steps p.tables e below (T26.setTop (mkF m 54 #[.val (.ref a), .val (.ref b), .val (.int (0 : Int32)), .val (.int (1 : Int32)), .val .null, .val (.ref tb10)] [(.ref tb10), (.ref a)])) t → Steps p.tables e below (s₁.setTop (entryFrame m #[(.ref a), (.ref b), (.int (0 : Int32)), (.int (1 : Int32)), .null] 6)) t := fun t kt => by
    refine S27 t ?_
    show Steps p.tables e below (T26.setTop (mkF m 51 #[.val (.ref a), .val (.ref b), .val (.int (0 : Int32)), .val (.int (1 : Int32)), .val .null, .val (.ref tb10)] [])) t
    refine XS.aloadN X26.here hx rfl (hb hby own_d8_51) rfl rfl ?_
    show Steps p.tables e below (T26.setTop (mkF m 52 #[.val (.ref a), .val (.ref b), .val (.int (0 : Int32)), .val (.int (1 : Int32)), .val .null, .val (.ref tb10)] [(.ref a)])) t
    refine XS.aload X26.here hx rfl (hb hby own_d8_52) rfl rfl ?_
    exact kt
  obtain ⟨T37, h37, X37, e37, W37, st37⟩ := putF X26 hx hZ hown (host := "") (Or.inl (hw _ (List.mem_of_getElem? (i := 26) rfl))) Via.refl e26 F29 F28 (Or.inr ⟨(hw _ (List.mem_of_getElem? (i := 27) rfl)), rfl, hnm⟩) (hw _ (List.mem_of_getElem? (i := 14) rfl)) (ty := (.array .byte)) (by decide) rfl rfl (g := (mkF m 54 #[.val (.ref a), .val (.ref b), .val (.int (0 : Int32)), .val (.int (1 : Int32)), .val .null, .val (.ref tb10)] [(.ref tb10), (.ref a)])) rfl rfl (hb hby own_d8_54)
  have S38 : ∀ t, Steps p.tables e below (T37.setTop (mkF m 57 #[.val (.ref a), .val (.ref b), .val (.int (0 : Int32)), .val (.int (1 : Int32)), .val .null, .val (.ref tb10)] [])) t → Steps p.tables e below (s₁.setTop (entryFrame m #[(.ref a), (.ref b), (.int (0 : Int32)), (.int (1 : Int32)), .null] 6)) t := fun t kt => S36 t (st37 _ kt)
  have F39 := F28.wr W37
  have F40 := F29.same W37
  have F41 := F30.other W37 (Or.inr (slot_ne (Or.inr (hw _ (List.mem_of_getElem? (i := 29) rfl))) (Or.inr (hw _ (List.mem_of_getElem? (i := 27) rfl))) (by decide) (t := .byte) (t' := (.array .byte)) (by decide) (by decide)))
  have F42 := F31.wr W37
  have F43 := F32.other W37 (Ne.symm (Exa.neArv F28 F32 (hw _ (List.mem_of_getElem? (i := 14) rfl))))
  have F44 := F33.other W37 (Ne.symm ne_a_tb10)
  have N45 := Fr.snoc X37 N34 g_a
  have K46 : Keep h0 h37 [a] := K35.wr W37 (Or.inl (List.mem_of_getElem? (i := 0) rfl))
  obtain ⟨fs, hr, hrun, hended, hW, hsame⟩ := X37.leave (v := none) (fun _ => rfl)
  refine ⟨_, _, S38 _ ?_, hrun, hended, _, _, rfl, ?_, ⟨_, rfl⟩, hW, hsame.mono (by decide) (by decide)⟩
  · show Steps p.tables e below (T37.setTop (mkF m 57 #[.val (.ref a), .val (.ref b), .val (.int (0 : Int32)), .val (.int (1 : Int32)), .val .null, .val (.ref tb10)] [])) _
    exact X37.returnOut hx Bd.returns (hb hby own_d8_57) hr
  · show own_Q8k1 Z a b c0 kb cs uv uc h0 n0 _ T37.heap _
    rw [e37]
    exact ⟨rfl, N45, K46, F39, F41, tb10, kt10, gt10, (Nat.le_trans (Keep.refl h0 [a]).1 sz10), ne_a_tb10, F40, F44⟩
theorem own_pd5 : parseMethodDescriptor "([CIILjava/lang/Void;)V" = some ⟨[(.array .char), .int, .int, (.object "java/lang/Void")], none⟩ := by decide +kernel
theorem own_d7_0 : decode jdk_42_method_3_code 0 = .ok (.aload_n 0, 1) := by decide +kernel
theorem own_d7_1 : decode jdk_42_method_3_code 1 = .ok (.aload_n 1, 1) := by decide +kernel
theorem own_d7_2 : decode jdk_42_method_3_code 2 = .ok (.iconst 0, 1) := by decide +kernel
theorem own_d7_3 : decode jdk_42_method_3_code 3 = .ok (.aload_n 1, 1) := by decide +kernel
theorem own_d7_4 : decode jdk_42_method_3_code 4 = .ok (.arraylength, 1) := by decide +kernel
theorem own_d7_5 : decode jdk_42_method_3_code 5 = .ok (.aconst_null, 1) := by decide +kernel
theorem own_d7_6 : decode jdk_42_method_3_code 6 = .ok (.invokespecial 27, 3) := by decide +kernel
theorem own_d7_9 : decode jdk_42_method_3_code 9 = .ok (.return_, 1) := by decide +kernel
theorem own_ef7k1 (m : MethodId) (x0 : Addr) (x1 : Addr) : entryFrame m #[(.ref x0), (.ref x1)] 2 = mkF m 0 #[.val (.ref x0), .val (.ref x1)] [] := by first | (simp [entryFrame, mkF, argsToLocals, Value.category]; done) | rfl
def own_Q7k1 (Z : State) (a : Addr) (b : Addr) (c0 : Int32) (kb : ClassId) (cs : Int32) (uv : Value) (uc : Value) (h0 : Heap) (n0 : Nat) (v : Option Value) (h : Heap) (L : List Loc) : Prop := v = none ∧ Fr n0 L ∧ Keep h0 h [a] ∧ Exa Z h a "java/lang/String" ∧ Fld Z h a "java/lang/String" "coder" "B" (.int (0 : Int32)) ∧ ∃ (tb : Addr) (kt : ClassId), n0 ≤ tb ∧ h0.size ≤ tb ∧ a ≠ tb ∧ Fld Z h a "java/lang/String" "value" "[B" (.ref tb) ∧ Arv Z h tb kt .byte (1 : Int32) [(.int (own_lo c0))] (.int (0 : Int32))
set_option maxHeartbeats 40000000 in
theorem own_rm7k1 (l : Launch) (Z : State) (a0 : Array Value) (hw : ∀ d ∈ tables_1, d.before a0 Z = true) (ws : List Jvm.Cond) (a : Addr) (b : Addr) (c0 : Int32) (kb : ClassId) (cs : Int32) (uv : Value) (uc : Value) (h0 : Heap) (n0 : Nat) (Z0 : n0 ≤ h0.size) (E_a : Exa Z h0 a "java/lang/String") (g_a : n0 ≤ a) (F_value : Fld Z h0 a "java/lang/String" "value" "[B" uv) (F_coder : Fld Z h0 a "java/lang/String" "coder" "B" uc) (S_CS : Sta Z h0 "java/lang/String" "COMPACT_STRINGS" "Z" (.int cs)) (hcs : ¬ cs = (0 : Int32)) (V_b : Arv Z h0 b kb .char (1 : Int32) [(.int c0)] (.int (0 : Int32))) (hl0 : ¬ (255 : Int32) < c0) :
    MetFree l (⟨"java/lang/String", "<init>", "([C)V"⟩ : MethodName) (head1 (Jvm.Cond.code (⟨"java/lang/String", "<init>", "([C)V"⟩ : MethodName) jdk_42_method_3_code 2 none :: ws) ({ frames := 3, cells := 1, slots := 1, locals := 52 } : Room)) (fun argv U => argv = #[(.ref a), (.ref b)] ∧ Z.Warmed39 U.vm ∧ U.heap = h0) (fun _ _ _ _ _ => True) (fun _ U o U' => ∃ v L, o = .returned v ∧ own_Q7k1 Z a b c0 kb cs uv uc h0 n0 v U'.heap L ∧ FrameEnd U o U' L ({ frames := 3, cells := 1, slots := 1, locals := 52 } : Room).cells ({ frames := 3, cells := 1, slots := 1, locals := 52 } : Room).slots) := by
  refine MetFree.of_bodySF (plainFor_of_name own_pn4) hisR ?_
  intro p e s m args below meth c s₁ Bd hml0 hP hK
  obtain ⟨rfl, hZ, hh⟩ := hP
  have hx := Bd.exec
  have hby := Bd.bytes
  have hml : c.maxLocals = 2 := hml0
  have hown : s.vm.findClass "java/lang/String" = some m.cls := findClass_of_methodNamed Bd.named
  have hnm := (name_of_methodNamed Bd.named Bd.method).1
  have X0 : Stand p l e ({ frames := 3, cells := 1, slots := 1, locals := 52 } : Room) s m #[(.ref a), (.ref b)] below meth c s₁ [] 0 0 := Stand.of_body Bd
  have e0 : s₁.heap = h0 := by rw [← hh, Bd.state]; rfl
  have N0 := Fr.nil n0
  have pre0 : ∀ t, Steps p.tables e below (s₁.setTop (mkF m 0 #[.val (.ref a), .val (.ref b)] [])) t → Steps p.tables e below (s₁.setTop (entryFrame m #[(.ref a), (.ref b)] 2)) t := fun t k => castTop (own_ef7k1 m a b) k
  have S1 : ∀ t, Steps p.tables e below (s₁.setTop (mkF m 4 #[.val (.ref a), .val (.ref b)] [(.ref b), (.int (0 : Int32)), (.ref b), (.ref a)])) t → Steps p.tables e below (s₁.setTop (entryFrame m #[(.ref a), (.ref b)] 2)) t := fun t kt => by
    refine pre0 t ?_
    show Steps p.tables e below (s₁.setTop (mkF m 0 #[.val (.ref a), .val (.ref b)] [])) t
    refine XS.aloadN X0.here hx rfl (hb hby own_d7_0) rfl rfl ?_
    show Steps p.tables e below (s₁.setTop (mkF m 1 #[.val (.ref a), .val (.ref b)] [(.ref a)])) t
    refine XS.aloadN X0.here hx rfl (hb hby own_d7_1) rfl rfl ?_
    show Steps p.tables e below (s₁.setTop (mkF m 2 #[.val (.ref a), .val (.ref b)] [(.ref b), (.ref a)])) t
    refine XS.iconst X0.here hx rfl (hb hby own_d7_2) ?_
    show Steps p.tables e below (s₁.setTop (mkF m 3 #[.val (.ref a), .val (.ref b)] [(.int (0 : Int32)), (.ref b), (.ref a)])) t
    refine XS.aloadN X0.here hx rfl (hb hby own_d7_3) rfl rfl ?_
    exact kt
  obtain ⟨cl2, Ar2, -, Sz2, Nn2, -, -⟩ := id V_b
  have S5 : ∀ t, Steps p.tables e below (s₁.setTop (mkF m 6 #[.val (.ref a), .val (.ref b)] [.null, (.int (1 : Int32)), (.int (0 : Int32)), (.ref b), (.ref a)])) t → Steps p.tables e below (s₁.setTop (entryFrame m #[(.ref a), (.ref b)] 2)) t := fun t kt => by
    refine S1 t ?_
    show Steps p.tables e below (s₁.setTop (mkF m 4 #[.val (.ref a), .val (.ref b)] [(.ref b), (.int (0 : Int32)), (.ref b), (.ref a)])) t
    refine X0.arraylength hx (by rw [e0]; exact Ar2.1) (State.isArrayOf_alike hZ.alike Ar2.2.1) (g := (mkF m 4 #[.val (.ref a), .val (.ref b)] [(.ref b), (.int (0 : Int32)), (.ref b), (.ref a)])) rfl rfl (hb hby own_d7_4) _ ?_
    rw [len_of Sz2 Nn2]
    show Steps p.tables e below (s₁.setTop (mkF m 5 #[.val (.ref a), .val (.ref b)] [(.int (1 : Int32)), (.int (0 : Int32)), (.ref b), (.ref a)])) t
    refine XS.aconstNull X0.here hx rfl (hb hby own_d7_5) ?_
    exact kt
  obtain ⟨_, _, ⟨T6, L6, k6, n6⟩, -, X6, ⟨Lc6, hQ6, l6, y6, z6⟩, st6⟩ := X0.specialBack hx (y := (⟨"java/lang/String", "<init>", "([CIILjava/lang/Void;)V"⟩ : MethodName)) rfl hown (mvT hZ (hw _ (List.mem_of_getElem? (i := 35) rfl))) (mvT hZ (hw _ (List.mem_of_getElem? (i := 36) rfl))) (mvT hZ (hw _ (List.mem_of_getElem? (i := 37) rfl))) (by decide) (backOf (W := 0) (own_rm8k1 l Z a0 hw [] (a) (b) (c0) (kb) (cs) (uv) (uc) h0 n0 Z0 E_a g_a F_value F_coder S_CS hcs V_b hl0) hZ (hw _ (List.mem_of_getElem? (i := 37) rfl)) (hw _ (List.mem_of_getElem? (i := 6) rfl)) (by decide) (by decide)) (g := (mkF m 6 #[.val (.ref a), .val (.ref b)] [.null, (.int (1 : Int32)), (.int (0 : Int32)), (.ref b), (.ref a)])) rfl (by rw [hml]; rfl) (Steps.refl _) (a := a) (argsL := [(.ref b), (.int (0 : Int32)), (.int (1 : Int32)), .null]) (rest := []) (lenOf own_pd5 rfl) rfl (by show 2 * 0 + _ ≤ _; exact Nat.le_of_eq rfl) (hb hby own_d7_6) (fun _ _ => ⟨rfl, e0, (by decide : 0 + 1 ≤ _), (by decide : 0 + 1 ≤ _)⟩)
  dsimp only [Pt.U, Pt.locs, Pt.cells, Pt.slots] at X6 l6 y6 z6 st6 hQ6
  subst l6 y6 z6
  obtain ⟨rfl, Nq6, Kc3, Ec3, Cc3, tb3, kt3, gt3, sz3, nat3, Fv3, Va3⟩ := hQ6
  have N7 := Fr.app N0 Nq6
  have S8 : ∀ t, Steps p.tables e below (T6.setTop (mkF m 9 #[.val (.ref a), .val (.ref b)] [])) t → Steps p.tables e below (s₁.setTop (entryFrame m #[(.ref a), (.ref b)] 2)) t := fun t kt => S5 t (st6.trans kt)
  have F9 := E_a.keep Kc3
  have F10 := own_StaK S_CS Kc3 (allS (own_ExaS E_a) all0)
  have F11 := V_b.keep Kc3 (ninS (Ne.symm (Exa.neArv E_a V_b (hw _ (List.mem_of_getElem? (i := 14) rfl)))) nin0)
  have K12 : Keep h0 T6.heap [a] := (Keep.refl h0 [a]).trans Kc3 (allS (Or.inl (List.mem_of_getElem? (i := 0) rfl)) all0)
  have ne_b_tb3 : b ≠ tb3 := Nat.ne_of_lt (Nat.lt_of_lt_of_le V_b.lt sz3)
  obtain ⟨fs, hr, hrun, hended, hW, hsame⟩ := X6.leave (v := none) (fun _ => rfl)
  refine ⟨_, _, S8 _ ?_, hrun, hended, _, _, rfl, ?_, ⟨_, rfl⟩, hW, hsame.mono (by decide) (by decide)⟩
  · show Steps p.tables e below (T6.setTop (mkF m 9 #[.val (.ref a), .val (.ref b)] [])) _
    exact X6.returnOut hx Bd.returns (hb hby own_d7_9) hr
  · show own_Q7k1 Z a b c0 kb cs uv uc h0 n0 _ T6.heap _
    exact ⟨rfl, N7, K12, Ec3, Cc3, tb3, kt3, gt3, (Nat.le_trans (Keep.refl h0 [a]).1 sz3), nat3, Fv3, Va3⟩
theorem own_ef18k2 (m : MethodId) (x0 : Addr) (x1 : Int32) (x2 : Addr) (x3 : Int32) (x4 : Int32) : entryFrame m #[(.ref x0), (.int x1), (.ref x2), (.int x3), (.int x4)] 7 = mkF m 0 #[.val (.ref x0), .val (.int x1), .val (.ref x2), .val (.int x3), .val (.int x4), .unset, .unset] [] := by first | (simp [entryFrame, mkF, argsToLocals, Value.category]; done) | rfl
def own_Q18k2 (Z : State) (b : Addr) (tb : Addr) (c0 : Int32) (c1 : Int32) (kb : ClassId) (kt : ClassId) (h0 : Heap) (n0 : Nat) (v : Option Value) (h : Heap) (L : List Loc) : Prop := v = some (.int (2 : Int32)) ∧ Fr n0 L ∧ Keep h0 h [tb] ∧ Arv Z h tb kt .byte (2 : Int32) [(.int (own_lo c0)), (.int (own_lo c1))] (.int (0 : Int32))
set_option maxHeartbeats 40000000 in
theorem own_rm18k2 (l : Launch) (Z : State) (a0 : Array Value) (hw : ∀ d ∈ tables_1, d.before a0 Z = true) (ws : List Jvm.Cond) (b : Addr) (tb : Addr) (c0 : Int32) (c1 : Int32) (kb : ClassId) (kt : ClassId) (h0 : Heap) (n0 : Nat) (Z0 : n0 ≤ h0.size) (V_b : Arv Z h0 b kb .char (2 : Int32) [(.int c0), (.int c1)] (.int (0 : Int32))) (V_t : Arv Z h0 tb kt .byte (2 : Int32) [(.int (0 : Int32)), (.int (0 : Int32))] (.int (0 : Int32))) (g_tb : n0 ≤ tb) (ne_b_tb : b ≠ tb) (hl0 : ¬ (255 : Int32) < c0) (hl1 : ¬ (255 : Int32) < c1) :
    MetFree l (⟨"java/lang/StringUTF16", "compress", "([CI[BII)I"⟩ : MethodName) (head1 (Jvm.Cond.code (⟨"java/lang/StringUTF16", "compress", "([CI[BII)I"⟩ : MethodName) jdk_52_method_21_code 7 (some .int) :: ws) ({ frames := 0, cells := 0, slots := 0, locals := 0 } : Room)) (fun argv U => argv = #[(.ref b), (.int (0 : Int32)), (.ref tb), (.int (0 : Int32)), (.int (2 : Int32))] ∧ Z.Warmed39 U.vm ∧ U.heap = h0) (fun _ _ _ _ _ => True) (fun _ U o U' => ∃ v L, o = .returned v ∧ own_Q18k2 Z b tb c0 c1 kb kt h0 n0 v U'.heap L ∧ FrameEnd U o U' L ({ frames := 0, cells := 0, slots := 0, locals := 0 } : Room).cells ({ frames := 0, cells := 0, slots := 0, locals := 0 } : Room).slots) := by
  refine MetFree.of_bodySF (plainFor_of_name own_pn3) hisR ?_
  intro p e s m args below meth c s₁ Bd hml0 hP hK
  obtain ⟨rfl, hZ, hh⟩ := hP
  have hx := Bd.exec
  have hby := Bd.bytes
  have hml : c.maxLocals = 7 := hml0
  have hown : s.vm.findClass "java/lang/StringUTF16" = some m.cls := findClass_of_methodNamed Bd.named
  have hnm := (name_of_methodNamed Bd.named Bd.method).1
  have X0 : Stand p l e ({ frames := 0, cells := 0, slots := 0, locals := 0 } : Room) s m #[(.ref b), (.int (0 : Int32)), (.ref tb), (.int (0 : Int32)), (.int (2 : Int32))] below meth c s₁ [] 0 0 := Stand.of_body Bd
  have e0 : s₁.heap = h0 := by rw [← hh, Bd.state]; rfl
  have N0 := Fr.nil n0
  have pre0 : ∀ t, Steps p.tables e below (s₁.setTop (mkF m 0 #[.val (.ref b), .val (.int (0 : Int32)), .val (.ref tb), .val (.int (0 : Int32)), .val (.int (2 : Int32)), .unset, .unset] [])) t → Steps p.tables e below (s₁.setTop (entryFrame m #[(.ref b), (.int (0 : Int32)), (.ref tb), (.int (0 : Int32)), (.int (2 : Int32))] 7)) t := fun t k => castTop (own_ef18k2 m b (0 : Int32) tb (0 : Int32) (2 : Int32)) k
  have S1 : ∀ t, Steps p.tables e below (s₁.setTop (mkF m 7 #[.val (.ref b), .val (.int (0 : Int32)), .val (.ref tb), .val (.int (0 : Int32)), .val (.int (2 : Int32)), .val (.int (0 : Int32)), .unset] [(.int (2 : Int32)), (.int (0 : Int32))])) t → Steps p.tables e below (s₁.setTop (entryFrame m #[(.ref b), (.int (0 : Int32)), (.ref tb), (.int (0 : Int32)), (.int (2 : Int32))] 7)) t := fun t kt => by
    refine pre0 t ?_
    show Steps p.tables e below (s₁.setTop (mkF m 0 #[.val (.ref b), .val (.int (0 : Int32)), .val (.ref tb), .val (.int (0 : Int32)), .val (.int (2 : Int32)), .unset, .unset] [])) t
    refine XS.iconst X0.here hx rfl (hb hby own_d18_0) ?_
    show Steps p.tables e below (s₁.setTop (mkF m 1 #[.val (.ref b), .val (.int (0 : Int32)), .val (.ref tb), .val (.int (0 : Int32)), .val (.int (2 : Int32)), .unset, .unset] [(.int (0 : Int32))])) t
    refine XS.istore X0.here hx rfl (hb hby own_d18_1) rfl (l' := #[.val (.ref b), .val (.int (0 : Int32)), .val (.ref tb), .val (.int (0 : Int32)), .val (.int (2 : Int32)), .val (.int (0 : Int32)), .unset]) rfl ?_
    show Steps p.tables e below (s₁.setTop (mkF m 3 #[.val (.ref b), .val (.int (0 : Int32)), .val (.ref tb), .val (.int (0 : Int32)), .val (.int (2 : Int32)), .val (.int (0 : Int32)), .unset] [])) t
    refine XS.iload X0.here hx rfl (hb hby own_d18_3) rfl ?_
    show Steps p.tables e below (s₁.setTop (mkF m 5 #[.val (.ref b), .val (.int (0 : Int32)), .val (.ref tb), .val (.int (0 : Int32)), .val (.int (2 : Int32)), .val (.int (0 : Int32)), .unset] [(.int (0 : Int32))])) t
    refine XS.iload X0.here hx rfl (hb hby own_d18_5) rfl ?_
    exact kt
  have hc7_2 : (0 : Int32) < (2 : Int32) := by decide
  have S4 : ∀ t, Steps p.tables e below (s₁.setTop (mkF m 12 #[.val (.ref b), .val (.int (0 : Int32)), .val (.ref tb), .val (.int (0 : Int32)), .val (.int (2 : Int32)), .val (.int (0 : Int32)), .unset] [(.int (0 : Int32)), (.ref b)])) t → Steps p.tables e below (s₁.setTop (entryFrame m #[(.ref b), (.int (0 : Int32)), (.ref tb), (.int (0 : Int32)), (.int (2 : Int32))] 7)) t := fun t kt => by
    refine S1 t ?_
    show Steps p.tables e below (s₁.setTop (mkF m 7 #[.val (.ref b), .val (.int (0 : Int32)), .val (.ref tb), .val (.int (0 : Int32)), .val (.int (2 : Int32)), .val (.int (0 : Int32)), .unset] [(.int (2 : Int32)), (.int (0 : Int32))])) t
    refine XS.icmpNo X0.here hx rfl (hb hby own_d18_7) rfl (tlt hc7_2).2.1 ?_
    show Steps p.tables e below (s₁.setTop (mkF m 10 #[.val (.ref b), .val (.int (0 : Int32)), .val (.ref tb), .val (.int (0 : Int32)), .val (.int (2 : Int32)), .val (.int (0 : Int32)), .unset] [])) t
    refine XS.aloadN X0.here hx rfl (hb hby own_d18_10) rfl rfl ?_
    show Steps p.tables e below (s₁.setTop (mkF m 11 #[.val (.ref b), .val (.int (0 : Int32)), .val (.ref tb), .val (.int (0 : Int32)), .val (.int (2 : Int32)), .val (.int (0 : Int32)), .unset] [(.ref b)])) t
    refine XS.iloadN X0.here hx rfl (hb hby own_d18_11) rfl ?_
    exact kt
  obtain ⟨cl3, Ar3, -, Sz3, Nn3, Hh3, -⟩ := id V_b
  have hin3 : ¬ ((0 : Int32) < 0 ∨ cl3.slots.size ≤ ((0 : Int32)).toNatClampNeg) := inb_of Sz3 ⟨by decide, by decide⟩
  have S5 : ∀ t, Steps p.tables e below (s₁.setTop (mkF m 20 #[.val (.ref b), .val (.int (0 : Int32)), .val (.ref tb), .val (.int (0 : Int32)), .val (.int (2 : Int32)), .val (.int (0 : Int32)), .val (.int c0)] [(.int (255 : Int32)), (.int c0)])) t → Steps p.tables e below (s₁.setTop (entryFrame m #[(.ref b), (.int (0 : Int32)), (.ref tb), (.int (0 : Int32)), (.int (2 : Int32))] 7)) t := fun t kt => by
    refine S4 t ?_
    show Steps p.tables e below (s₁.setTop (mkF m 12 #[.val (.ref b), .val (.int (0 : Int32)), .val (.ref tb), .val (.int (0 : Int32)), .val (.int (2 : Int32)), .val (.int (0 : Int32)), .unset] [(.int (0 : Int32)), (.ref b)])) t
    refine X0.caload hx (j := (0 : Int32)) (v := (.int c0)) (by rw [e0]; exact Ar3.1) (State.isArrayOf_alike hZ.alike Ar3.2.1) Ar3.2.2 hin3 (Has.at Hh3 hin3 rfl) (g := (mkF m 12 #[.val (.ref b), .val (.int (0 : Int32)), .val (.ref tb), .val (.int (0 : Int32)), .val (.int (2 : Int32)), .val (.int (0 : Int32)), .unset] [(.int (0 : Int32)), (.ref b)])) rfl rfl (hb hby own_d18_12) _ ?_
    show Steps p.tables e below (s₁.setTop (mkF m 13 #[.val (.ref b), .val (.int (0 : Int32)), .val (.ref tb), .val (.int (0 : Int32)), .val (.int (2 : Int32)), .val (.int (0 : Int32)), .unset] [(.int c0)])) t
    refine XS.istore X0.here hx rfl (hb hby own_d18_13) rfl (l' := #[.val (.ref b), .val (.int (0 : Int32)), .val (.ref tb), .val (.int (0 : Int32)), .val (.int (2 : Int32)), .val (.int (0 : Int32)), .val (.int c0)]) rfl ?_
    show Steps p.tables e below (s₁.setTop (mkF m 15 #[.val (.ref b), .val (.int (0 : Int32)), .val (.ref tb), .val (.int (0 : Int32)), .val (.int (2 : Int32)), .val (.int (0 : Int32)), .val (.int c0)] [])) t
    refine XS.iload X0.here hx rfl (hb hby own_d18_15) rfl ?_
    show Steps p.tables e below (s₁.setTop (mkF m 17 #[.val (.ref b), .val (.int (0 : Int32)), .val (.ref tb), .val (.int (0 : Int32)), .val (.int (2 : Int32)), .val (.int (0 : Int32)), .val (.int c0)] [(.int c0)])) t
    refine XS.sipush X0.here hx rfl (hb hby own_d18_17) ?_
    exact kt
  have hc20_6 : ¬ ((255 : Int32) < c0) := hl0
  have S7 : ∀ t, Steps p.tables e below (s₁.setTop (mkF m 31 #[.val (.ref b), .val (.int (0 : Int32)), .val (.ref tb), .val (.int (0 : Int32)), .val (.int (2 : Int32)), .val (.int (0 : Int32)), .val (.int c0)] [(.int (c0.toInt8.toInt32)), (.int (0 : Int32)), (.ref tb)])) t → Steps p.tables e below (s₁.setTop (entryFrame m #[(.ref b), (.int (0 : Int32)), (.ref tb), (.int (0 : Int32)), (.int (2 : Int32))] 7)) t := fun t kt => by
    refine S5 t ?_
    show Steps p.tables e below (s₁.setTop (mkF m 20 #[.val (.ref b), .val (.int (0 : Int32)), .val (.ref tb), .val (.int (0 : Int32)), .val (.int (2 : Int32)), .val (.int (0 : Int32)), .val (.int c0)] [(.int (255 : Int32)), (.int c0)])) t
    refine XS.icmpYes X0.here hx rfl (pc0 := 20) (pc' := 26) rfl (hb hby own_d18_20) rfl (flt hc20_6).2.2.2 (by decide) (by decide) ?_
    show Steps p.tables e below (s₁.setTop (mkF m 26 #[.val (.ref b), .val (.int (0 : Int32)), .val (.ref tb), .val (.int (0 : Int32)), .val (.int (2 : Int32)), .val (.int (0 : Int32)), .val (.int c0)] [])) t
    refine XS.aloadN X0.here hx rfl (hb hby own_d18_26) rfl rfl ?_
    show Steps p.tables e below (s₁.setTop (mkF m 27 #[.val (.ref b), .val (.int (0 : Int32)), .val (.ref tb), .val (.int (0 : Int32)), .val (.int (2 : Int32)), .val (.int (0 : Int32)), .val (.int c0)] [(.ref tb)])) t
    refine XS.iloadN X0.here hx rfl (hb hby own_d18_27) rfl ?_
    show Steps p.tables e below (s₁.setTop (mkF m 28 #[.val (.ref b), .val (.int (0 : Int32)), .val (.ref tb), .val (.int (0 : Int32)), .val (.int (2 : Int32)), .val (.int (0 : Int32)), .val (.int c0)] [(.int (0 : Int32)), (.ref tb)])) t
    refine XS.iload X0.here hx rfl (hb hby own_d18_28) rfl ?_
    show Steps p.tables e below (s₁.setTop (mkF m 30 #[.val (.ref b), .val (.int (0 : Int32)), .val (.ref tb), .val (.int (0 : Int32)), .val (.int (2 : Int32)), .val (.int (0 : Int32)), .val (.int c0)] [(.int c0), (.int (0 : Int32)), (.ref tb)])) t
    refine XS.i2b X0.here hx rfl (hb hby own_d18_30) rfl ?_
    exact kt
  obtain ⟨cl8, Ar8, q8, Sz8, Nn8, Hh8, Gg8⟩ := id V_t
  have hin8 : ¬ ((0 : Int32) < 0 ∨ cl8.slots.size ≤ ((0 : Int32)).toNatClampNeg) := inb_of Sz8 ⟨by decide, by decide⟩
  obtain ⟨T9, h9, X9, e9, W9, st9⟩ := stB X0 hx hZ e0 Ar8 (j := (0 : Int32)) hin8 (g := (mkF m 31 #[.val (.ref b), .val (.int (0 : Int32)), .val (.ref tb), .val (.int (0 : Int32)), .val (.int (2 : Int32)), .val (.int (0 : Int32)), .val (.int c0)] [(.int (c0.toInt8.toInt32)), (.int (0 : Int32)), (.ref tb)])) rfl rfl (hb hby own_d18_31)
  have S10 : ∀ t, Steps p.tables e below (T9.setTop (mkF m 32 #[.val (.ref b), .val (.int (0 : Int32)), .val (.ref tb), .val (.int (0 : Int32)), .val (.int (2 : Int32)), .val (.int (0 : Int32)), .val (.int c0)] [])) t → Steps p.tables e below (s₁.setTop (entryFrame m #[(.ref b), (.int (0 : Int32)), (.ref tb), (.int (0 : Int32)), (.int (2 : Int32))] 7)) t := fun t kt => S7 t (st9 _ kt)
  have V11 := Arv.set Ar8 q8 Sz8 Nn8 Hh8 Gg8 (fits_nar_byte _) W9 0 rfl (Nat.le_of_ble_eq_true rfl)
  have F12 := V_b.other W9 ne_b_tb
  have N13 := Fr.snoc X9 N0 g_tb
  have K14 : Keep h0 h9 [tb] := (Keep.refl h0 [tb]).wr W9 (Or.inl (List.mem_of_getElem? (i := 0) rfl))
  have S15 : ∀ t, Steps p.tables e below (T9.setTop (mkF m 7 #[.val (.ref b), .val (.int (1 : Int32)), .val (.ref tb), .val (.int (1 : Int32)), .val (.int (2 : Int32)), .val (.int (1 : Int32)), .val (.int c0)] [(.int (2 : Int32)), (.int (1 : Int32))])) t → Steps p.tables e below (s₁.setTop (entryFrame m #[(.ref b), (.int (0 : Int32)), (.ref tb), (.int (0 : Int32)), (.int (2 : Int32))] 7)) t := fun t kt => by
    refine S10 t ?_
    show Steps p.tables e below (T9.setTop (mkF m 32 #[.val (.ref b), .val (.int (0 : Int32)), .val (.ref tb), .val (.int (0 : Int32)), .val (.int (2 : Int32)), .val (.int (0 : Int32)), .val (.int c0)] [])) t
    refine XS.iinc X9.here hx rfl (hb hby own_d18_32) rfl (l' := #[.val (.ref b), .val (.int (1 : Int32)), .val (.ref tb), .val (.int (0 : Int32)), .val (.int (2 : Int32)), .val (.int (0 : Int32)), .val (.int c0)]) rfl ?_
    show Steps p.tables e below (T9.setTop (mkF m 35 #[.val (.ref b), .val (.int (1 : Int32)), .val (.ref tb), .val (.int (0 : Int32)), .val (.int (2 : Int32)), .val (.int (0 : Int32)), .val (.int c0)] [])) t
    refine XS.iinc X9.here hx rfl (hb hby own_d18_35) rfl (l' := #[.val (.ref b), .val (.int (1 : Int32)), .val (.ref tb), .val (.int (1 : Int32)), .val (.int (2 : Int32)), .val (.int (0 : Int32)), .val (.int c0)]) rfl ?_
    show Steps p.tables e below (T9.setTop (mkF m 38 #[.val (.ref b), .val (.int (1 : Int32)), .val (.ref tb), .val (.int (1 : Int32)), .val (.int (2 : Int32)), .val (.int (0 : Int32)), .val (.int c0)] [])) t
    refine XS.iinc X9.here hx rfl (hb hby own_d18_38) rfl (l' := #[.val (.ref b), .val (.int (1 : Int32)), .val (.ref tb), .val (.int (1 : Int32)), .val (.int (2 : Int32)), .val (.int (1 : Int32)), .val (.int c0)]) rfl ?_
    show Steps p.tables e below (T9.setTop (mkF m 41 #[.val (.ref b), .val (.int (1 : Int32)), .val (.ref tb), .val (.int (1 : Int32)), .val (.int (2 : Int32)), .val (.int (1 : Int32)), .val (.int c0)] [])) t
    refine XS.goto X9.here hx rfl (pc0 := 41) (pc' := 3) rfl (hb hby own_d18_41) (by decide) (by decide) ?_
    show Steps p.tables e below (T9.setTop (mkF m 3 #[.val (.ref b), .val (.int (1 : Int32)), .val (.ref tb), .val (.int (1 : Int32)), .val (.int (2 : Int32)), .val (.int (1 : Int32)), .val (.int c0)] [])) t
    refine XS.iload X9.here hx rfl (hb hby own_d18_3) rfl ?_
    show Steps p.tables e below (T9.setTop (mkF m 5 #[.val (.ref b), .val (.int (1 : Int32)), .val (.ref tb), .val (.int (1 : Int32)), .val (.int (2 : Int32)), .val (.int (1 : Int32)), .val (.int c0)] [(.int (1 : Int32))])) t
    refine XS.iload X9.here hx rfl (hb hby own_d18_5) rfl ?_
    exact kt
  have hc7_16 : (1 : Int32) < (2 : Int32) := by decide
  have S18 : ∀ t, Steps p.tables e below (T9.setTop (mkF m 12 #[.val (.ref b), .val (.int (1 : Int32)), .val (.ref tb), .val (.int (1 : Int32)), .val (.int (2 : Int32)), .val (.int (1 : Int32)), .val (.int c0)] [(.int (1 : Int32)), (.ref b)])) t → Steps p.tables e below (s₁.setTop (entryFrame m #[(.ref b), (.int (0 : Int32)), (.ref tb), (.int (0 : Int32)), (.int (2 : Int32))] 7)) t := fun t kt => by
    refine S15 t ?_
    show Steps p.tables e below (T9.setTop (mkF m 7 #[.val (.ref b), .val (.int (1 : Int32)), .val (.ref tb), .val (.int (1 : Int32)), .val (.int (2 : Int32)), .val (.int (1 : Int32)), .val (.int c0)] [(.int (2 : Int32)), (.int (1 : Int32))])) t
    refine XS.icmpNo X9.here hx rfl (hb hby own_d18_7) rfl (tlt hc7_16).2.1 ?_
    show Steps p.tables e below (T9.setTop (mkF m 10 #[.val (.ref b), .val (.int (1 : Int32)), .val (.ref tb), .val (.int (1 : Int32)), .val (.int (2 : Int32)), .val (.int (1 : Int32)), .val (.int c0)] [])) t
    refine XS.aloadN X9.here hx rfl (hb hby own_d18_10) rfl rfl ?_
    show Steps p.tables e below (T9.setTop (mkF m 11 #[.val (.ref b), .val (.int (1 : Int32)), .val (.ref tb), .val (.int (1 : Int32)), .val (.int (2 : Int32)), .val (.int (1 : Int32)), .val (.int c0)] [(.ref b)])) t
    refine XS.iloadN X9.here hx rfl (hb hby own_d18_11) rfl ?_
    exact kt
  obtain ⟨cl17, Ar17, -, Sz17, Nn17, Hh17, -⟩ := id F12
  have hin17 : ¬ ((1 : Int32) < 0 ∨ cl17.slots.size ≤ ((1 : Int32)).toNatClampNeg) := inb_of Sz17 ⟨by decide, by decide⟩
  have S19 : ∀ t, Steps p.tables e below (T9.setTop (mkF m 20 #[.val (.ref b), .val (.int (1 : Int32)), .val (.ref tb), .val (.int (1 : Int32)), .val (.int (2 : Int32)), .val (.int (1 : Int32)), .val (.int c1)] [(.int (255 : Int32)), (.int c1)])) t → Steps p.tables e below (s₁.setTop (entryFrame m #[(.ref b), (.int (0 : Int32)), (.ref tb), (.int (0 : Int32)), (.int (2 : Int32))] 7)) t := fun t kt => by
    refine S18 t ?_
    show Steps p.tables e below (T9.setTop (mkF m 12 #[.val (.ref b), .val (.int (1 : Int32)), .val (.ref tb), .val (.int (1 : Int32)), .val (.int (2 : Int32)), .val (.int (1 : Int32)), .val (.int c0)] [(.int (1 : Int32)), (.ref b)])) t
    refine X9.caload hx (j := (1 : Int32)) (v := (.int c1)) (by rw [e9]; exact Ar17.1) (State.isArrayOf_alike hZ.alike Ar17.2.1) Ar17.2.2 hin17 (Has.at Hh17 hin17 rfl) (g := (mkF m 12 #[.val (.ref b), .val (.int (1 : Int32)), .val (.ref tb), .val (.int (1 : Int32)), .val (.int (2 : Int32)), .val (.int (1 : Int32)), .val (.int c0)] [(.int (1 : Int32)), (.ref b)])) rfl rfl (hb hby own_d18_12) _ ?_
    show Steps p.tables e below (T9.setTop (mkF m 13 #[.val (.ref b), .val (.int (1 : Int32)), .val (.ref tb), .val (.int (1 : Int32)), .val (.int (2 : Int32)), .val (.int (1 : Int32)), .val (.int c0)] [(.int c1)])) t
    refine XS.istore X9.here hx rfl (hb hby own_d18_13) rfl (l' := #[.val (.ref b), .val (.int (1 : Int32)), .val (.ref tb), .val (.int (1 : Int32)), .val (.int (2 : Int32)), .val (.int (1 : Int32)), .val (.int c1)]) rfl ?_
    show Steps p.tables e below (T9.setTop (mkF m 15 #[.val (.ref b), .val (.int (1 : Int32)), .val (.ref tb), .val (.int (1 : Int32)), .val (.int (2 : Int32)), .val (.int (1 : Int32)), .val (.int c1)] [])) t
    refine XS.iload X9.here hx rfl (hb hby own_d18_15) rfl ?_
    show Steps p.tables e below (T9.setTop (mkF m 17 #[.val (.ref b), .val (.int (1 : Int32)), .val (.ref tb), .val (.int (1 : Int32)), .val (.int (2 : Int32)), .val (.int (1 : Int32)), .val (.int c1)] [(.int c1)])) t
    refine XS.sipush X9.here hx rfl (hb hby own_d18_17) ?_
    exact kt
  have hc20_20 : ¬ ((255 : Int32) < c1) := hl1
  have S21 : ∀ t, Steps p.tables e below (T9.setTop (mkF m 31 #[.val (.ref b), .val (.int (1 : Int32)), .val (.ref tb), .val (.int (1 : Int32)), .val (.int (2 : Int32)), .val (.int (1 : Int32)), .val (.int c1)] [(.int (c1.toInt8.toInt32)), (.int (1 : Int32)), (.ref tb)])) t → Steps p.tables e below (s₁.setTop (entryFrame m #[(.ref b), (.int (0 : Int32)), (.ref tb), (.int (0 : Int32)), (.int (2 : Int32))] 7)) t := fun t kt => by
    refine S19 t ?_
    show Steps p.tables e below (T9.setTop (mkF m 20 #[.val (.ref b), .val (.int (1 : Int32)), .val (.ref tb), .val (.int (1 : Int32)), .val (.int (2 : Int32)), .val (.int (1 : Int32)), .val (.int c1)] [(.int (255 : Int32)), (.int c1)])) t
    refine XS.icmpYes X9.here hx rfl (pc0 := 20) (pc' := 26) rfl (hb hby own_d18_20) rfl (flt hc20_20).2.2.2 (by decide) (by decide) ?_
    show Steps p.tables e below (T9.setTop (mkF m 26 #[.val (.ref b), .val (.int (1 : Int32)), .val (.ref tb), .val (.int (1 : Int32)), .val (.int (2 : Int32)), .val (.int (1 : Int32)), .val (.int c1)] [])) t
    refine XS.aloadN X9.here hx rfl (hb hby own_d18_26) rfl rfl ?_
    show Steps p.tables e below (T9.setTop (mkF m 27 #[.val (.ref b), .val (.int (1 : Int32)), .val (.ref tb), .val (.int (1 : Int32)), .val (.int (2 : Int32)), .val (.int (1 : Int32)), .val (.int c1)] [(.ref tb)])) t
    refine XS.iloadN X9.here hx rfl (hb hby own_d18_27) rfl ?_
    show Steps p.tables e below (T9.setTop (mkF m 28 #[.val (.ref b), .val (.int (1 : Int32)), .val (.ref tb), .val (.int (1 : Int32)), .val (.int (2 : Int32)), .val (.int (1 : Int32)), .val (.int c1)] [(.int (1 : Int32)), (.ref tb)])) t
    refine XS.iload X9.here hx rfl (hb hby own_d18_28) rfl ?_
    show Steps p.tables e below (T9.setTop (mkF m 30 #[.val (.ref b), .val (.int (1 : Int32)), .val (.ref tb), .val (.int (1 : Int32)), .val (.int (2 : Int32)), .val (.int (1 : Int32)), .val (.int c1)] [(.int c1), (.int (1 : Int32)), (.ref tb)])) t
    refine XS.i2b X9.here hx rfl (hb hby own_d18_30) rfl ?_
    exact kt
  obtain ⟨cl22, Ar22, q22, Sz22, Nn22, Hh22, Gg22⟩ := id V11
  have hin22 : ¬ ((1 : Int32) < 0 ∨ cl22.slots.size ≤ ((1 : Int32)).toNatClampNeg) := inb_of Sz22 ⟨by decide, by decide⟩
  obtain ⟨T23, h23, X23, e23, W23, st23⟩ := stB X9 hx hZ e9 Ar22 (j := (1 : Int32)) hin22 (g := (mkF m 31 #[.val (.ref b), .val (.int (1 : Int32)), .val (.ref tb), .val (.int (1 : Int32)), .val (.int (2 : Int32)), .val (.int (1 : Int32)), .val (.int c1)] [(.int (c1.toInt8.toInt32)), (.int (1 : Int32)), (.ref tb)])) rfl rfl (hb hby own_d18_31)
  have S24 : ∀ t, Steps p.tables e below (T23.setTop (mkF m 32 #[.val (.ref b), .val (.int (1 : Int32)), .val (.ref tb), .val (.int (1 : Int32)), .val (.int (2 : Int32)), .val (.int (1 : Int32)), .val (.int c1)] [])) t → Steps p.tables e below (s₁.setTop (entryFrame m #[(.ref b), (.int (0 : Int32)), (.ref tb), (.int (0 : Int32)), (.int (2 : Int32))] 7)) t := fun t kt => S21 t (st23 _ kt)
  have V25 := Arv.set Ar22 q22 Sz22 Nn22 Hh22 Gg22 (fits_nar_byte _) W23 1 rfl (Nat.le_of_ble_eq_true rfl)
  have F26 := F12.other W23 ne_b_tb
  have N27 := Fr.snoc X23 N13 g_tb
  have K28 : Keep h0 h23 [tb] := K14.wr W23 (Or.inl (List.mem_of_getElem? (i := 0) rfl))
  have S29 : ∀ t, Steps p.tables e below (T23.setTop (mkF m 7 #[.val (.ref b), .val (.int (2 : Int32)), .val (.ref tb), .val (.int (2 : Int32)), .val (.int (2 : Int32)), .val (.int (2 : Int32)), .val (.int c1)] [(.int (2 : Int32)), (.int (2 : Int32))])) t → Steps p.tables e below (s₁.setTop (entryFrame m #[(.ref b), (.int (0 : Int32)), (.ref tb), (.int (0 : Int32)), (.int (2 : Int32))] 7)) t := fun t kt => by
    refine S24 t ?_
    show Steps p.tables e below (T23.setTop (mkF m 32 #[.val (.ref b), .val (.int (1 : Int32)), .val (.ref tb), .val (.int (1 : Int32)), .val (.int (2 : Int32)), .val (.int (1 : Int32)), .val (.int c1)] [])) t
    refine XS.iinc X23.here hx rfl (hb hby own_d18_32) rfl (l' := #[.val (.ref b), .val (.int (2 : Int32)), .val (.ref tb), .val (.int (1 : Int32)), .val (.int (2 : Int32)), .val (.int (1 : Int32)), .val (.int c1)]) rfl ?_
    show Steps p.tables e below (T23.setTop (mkF m 35 #[.val (.ref b), .val (.int (2 : Int32)), .val (.ref tb), .val (.int (1 : Int32)), .val (.int (2 : Int32)), .val (.int (1 : Int32)), .val (.int c1)] [])) t
    refine XS.iinc X23.here hx rfl (hb hby own_d18_35) rfl (l' := #[.val (.ref b), .val (.int (2 : Int32)), .val (.ref tb), .val (.int (2 : Int32)), .val (.int (2 : Int32)), .val (.int (1 : Int32)), .val (.int c1)]) rfl ?_
    show Steps p.tables e below (T23.setTop (mkF m 38 #[.val (.ref b), .val (.int (2 : Int32)), .val (.ref tb), .val (.int (2 : Int32)), .val (.int (2 : Int32)), .val (.int (1 : Int32)), .val (.int c1)] [])) t
    refine XS.iinc X23.here hx rfl (hb hby own_d18_38) rfl (l' := #[.val (.ref b), .val (.int (2 : Int32)), .val (.ref tb), .val (.int (2 : Int32)), .val (.int (2 : Int32)), .val (.int (2 : Int32)), .val (.int c1)]) rfl ?_
    show Steps p.tables e below (T23.setTop (mkF m 41 #[.val (.ref b), .val (.int (2 : Int32)), .val (.ref tb), .val (.int (2 : Int32)), .val (.int (2 : Int32)), .val (.int (2 : Int32)), .val (.int c1)] [])) t
    refine XS.goto X23.here hx rfl (pc0 := 41) (pc' := 3) rfl (hb hby own_d18_41) (by decide) (by decide) ?_
    show Steps p.tables e below (T23.setTop (mkF m 3 #[.val (.ref b), .val (.int (2 : Int32)), .val (.ref tb), .val (.int (2 : Int32)), .val (.int (2 : Int32)), .val (.int (2 : Int32)), .val (.int c1)] [])) t
    refine XS.iload X23.here hx rfl (hb hby own_d18_3) rfl ?_
    show Steps p.tables e below (T23.setTop (mkF m 5 #[.val (.ref b), .val (.int (2 : Int32)), .val (.ref tb), .val (.int (2 : Int32)), .val (.int (2 : Int32)), .val (.int (2 : Int32)), .val (.int c1)] [(.int (2 : Int32))])) t
    refine XS.iload X23.here hx rfl (hb hby own_d18_5) rfl ?_
    exact kt
  have hc7_30 : ¬ ((2 : Int32) < (2 : Int32)) := by decide
  have S31 : ∀ t, Steps p.tables e below (T23.setTop (mkF m 46 #[.val (.ref b), .val (.int (2 : Int32)), .val (.ref tb), .val (.int (2 : Int32)), .val (.int (2 : Int32)), .val (.int (2 : Int32)), .val (.int c1)] [(.int (2 : Int32))])) t → Steps p.tables e below (s₁.setTop (entryFrame m #[(.ref b), (.int (0 : Int32)), (.ref tb), (.int (0 : Int32)), (.int (2 : Int32))] 7)) t := fun t kt => by
    refine S29 t ?_
    show Steps p.tables e below (T23.setTop (mkF m 7 #[.val (.ref b), .val (.int (2 : Int32)), .val (.ref tb), .val (.int (2 : Int32)), .val (.int (2 : Int32)), .val (.int (2 : Int32)), .val (.int c1)] [(.int (2 : Int32)), (.int (2 : Int32))])) t
    refine XS.icmpYes X23.here hx rfl (pc0 := 7) (pc' := 44) rfl (hb hby own_d18_7) rfl (flt hc7_30).2.1 (by decide) (by decide) ?_
    show Steps p.tables e below (T23.setTop (mkF m 44 #[.val (.ref b), .val (.int (2 : Int32)), .val (.ref tb), .val (.int (2 : Int32)), .val (.int (2 : Int32)), .val (.int (2 : Int32)), .val (.int c1)] [])) t
    refine XS.iload X23.here hx rfl (hb hby own_d18_44) rfl ?_
    exact kt
  obtain ⟨fs, hr, hrun, hended, hW, hsame⟩ := X23.leave (v := some (.int (2 : Int32))) (fun h => by rw [Bd.returns] at h; cases h)
  refine ⟨_, _, S31 _ ?_, hrun, hended, _, _, rfl, ?_, ⟨_, rfl⟩, hW, hsame.mono (by decide) (by decide)⟩
  · show Steps p.tables e below (T23.setTop (mkF m 46 #[.val (.ref b), .val (.int (2 : Int32)), .val (.ref tb), .val (.int (2 : Int32)), .val (.int (2 : Int32)), .val (.int (2 : Int32)), .val (.int c1)] [(.int (2 : Int32))])) _
    exact own_retI X23 hx Bd.returns (hb hby own_d18_46) hr
  · show own_Q18k2 Z b tb c0 c1 kb kt h0 n0 _ T23.heap _
    rw [e23]
    exact ⟨rfl, N27, K28, (by have q : Arv Z h23 tb kt .byte (2 : Int32) [(.int (nar .byte (c0.toInt8.toInt32))), (.int (nar .byte (c1.toInt8.toInt32)))] (.int (0 : Int32)) := V25; simp only [own_lolo] at q; exact q)⟩
theorem own_ef19k2 (m : MethodId) (x0 : Addr) (x1 : Int32) : entryFrame m #[(.ref x0), (.int x1)] 2 = mkF m 0 #[.val (.ref x0), .val (.int x1)] [] := by first | (simp [entryFrame, mkF, argsToLocals, Value.category]; done) | rfl
def own_Q19k2 (Z : State) (tb : Addr) (c0 : Int32) (c1 : Int32) (kt : ClassId) (h0 : Heap) (n0 : Nat) (v : Option Value) (h : Heap) (L : List Loc) : Prop := v = some (.int (0 : Int32)) ∧ L = [] ∧ h = h0
set_option maxHeartbeats 40000000 in
theorem own_rm19k2 (l : Launch) (Z : State) (a0 : Array Value) (hw : ∀ d ∈ tables_1, d.before a0 Z = true) (ws : List Jvm.Cond) (tb : Addr) (c0 : Int32) (c1 : Int32) (kt : ClassId) (h0 : Heap) (n0 : Nat) (Z0 : n0 ≤ h0.size) (V_t : Arv Z h0 tb kt .byte (2 : Int32) [(.int (own_lo c0)), (.int (own_lo c1))] (.int (0 : Int32))) :
    MetFree l (⟨"java/lang/StringUTF16", "coderFromArrayLen", "([BI)B"⟩ : MethodName) (head1 (Jvm.Cond.code (⟨"java/lang/StringUTF16", "coderFromArrayLen", "([BI)B"⟩ : MethodName) jdk_52_method_15_code 2 (some .byte) :: ws) ({ frames := 0, cells := 0, slots := 0, locals := 0 } : Room)) (fun argv U => argv = #[(.ref tb), (.int (2 : Int32))] ∧ Z.Warmed39 U.vm ∧ U.heap = h0) (fun _ _ _ _ _ => True) (fun _ U o U' => ∃ v L, o = .returned v ∧ own_Q19k2 Z tb c0 c1 kt h0 n0 v U'.heap L ∧ FrameEnd U o U' L ({ frames := 0, cells := 0, slots := 0, locals := 0 } : Room).cells ({ frames := 0, cells := 0, slots := 0, locals := 0 } : Room).slots) := by
  refine MetFree.of_bodySF (plainFor_of_name own_pn3) hisR ?_
  intro p e s m args below meth c s₁ Bd hml0 hP hK
  obtain ⟨rfl, hZ, hh⟩ := hP
  have hx := Bd.exec
  have hby := Bd.bytes
  have hml : c.maxLocals = 2 := hml0
  have hown : s.vm.findClass "java/lang/StringUTF16" = some m.cls := findClass_of_methodNamed Bd.named
  have hnm := (name_of_methodNamed Bd.named Bd.method).1
  have X0 : Stand p l e ({ frames := 0, cells := 0, slots := 0, locals := 0 } : Room) s m #[(.ref tb), (.int (2 : Int32))] below meth c s₁ [] 0 0 := Stand.of_body Bd
  have e0 : s₁.heap = h0 := by rw [← hh, Bd.state]; rfl
  have N0 := Fr.nil n0
  have pre0 : ∀ t, Steps p.tables e below (s₁.setTop (mkF m 0 #[.val (.ref tb), .val (.int (2 : Int32))] [])) t → Steps p.tables e below (s₁.setTop (entryFrame m #[(.ref tb), (.int (2 : Int32))] 2)) t := fun t k => castTop (own_ef19k2 m tb (2 : Int32)) k
  have S1 : ∀ t, Steps p.tables e below (s₁.setTop (mkF m 2 #[.val (.ref tb), .val (.int (2 : Int32))] [(.ref tb), (.int (2 : Int32))])) t → Steps p.tables e below (s₁.setTop (entryFrame m #[(.ref tb), (.int (2 : Int32))] 2)) t := fun t kt => by
    refine pre0 t ?_
    show Steps p.tables e below (s₁.setTop (mkF m 0 #[.val (.ref tb), .val (.int (2 : Int32))] [])) t
    refine XS.iloadN X0.here hx rfl (hb hby own_d19_0) rfl ?_
    show Steps p.tables e below (s₁.setTop (mkF m 1 #[.val (.ref tb), .val (.int (2 : Int32))] [(.int (2 : Int32))])) t
    refine XS.aloadN X0.here hx rfl (hb hby own_d19_1) rfl rfl ?_
    exact kt
  obtain ⟨cl2, Ar2, -, Sz2, Nn2, -, -⟩ := id V_t
  have S3 : ∀ t, Steps p.tables e below (s₁.setTop (mkF m 8 #[.val (.ref tb), .val (.int (2 : Int32))] [(.int ((((0 : Int32).toUInt32 >>> ((31 : Int32) &&& 31).toUInt32).toInt32).toInt8.toInt32))])) t → Steps p.tables e below (s₁.setTop (entryFrame m #[(.ref tb), (.int (2 : Int32))] 2)) t := fun t kt => by
    refine S1 t ?_
    show Steps p.tables e below (s₁.setTop (mkF m 2 #[.val (.ref tb), .val (.int (2 : Int32))] [(.ref tb), (.int (2 : Int32))])) t
    refine X0.arraylength hx (by rw [e0]; exact Ar2.1) (State.isArrayOf_alike hZ.alike Ar2.2.1) (g := (mkF m 2 #[.val (.ref tb), .val (.int (2 : Int32))] [(.ref tb), (.int (2 : Int32))])) rfl rfl (hb hby own_d19_2) _ ?_
    rw [len_of Sz2 Nn2]
    show Steps p.tables e below (s₁.setTop (mkF m 3 #[.val (.ref tb), .val (.int (2 : Int32))] [(.int (2 : Int32)), (.int (2 : Int32))])) t
    refine XS.isub X0.here hx rfl (hb hby own_d19_3) rfl ?_
    show Steps p.tables e below (s₁.setTop (mkF m 4 #[.val (.ref tb), .val (.int (2 : Int32))] [(.int (0 : Int32))])) t
    refine XS.bipush X0.here hx rfl (hb hby own_d19_4) ?_
    show Steps p.tables e below (s₁.setTop (mkF m 6 #[.val (.ref tb), .val (.int (2 : Int32))] [(.int (31 : Int32)), (.int (0 : Int32))])) t
    refine XS.iushr X0.here hx rfl (hb hby own_d19_6) rfl ?_
    show Steps p.tables e below (s₁.setTop (mkF m 7 #[.val (.ref tb), .val (.int (2 : Int32))] [(.int (((0 : Int32).toUInt32 >>> ((31 : Int32) &&& 31).toUInt32).toInt32))])) t
    refine XS.i2b X0.here hx rfl (hb hby own_d19_7) rfl ?_
    exact kt
  obtain ⟨fs, hr, hrun, hended, hW, hsame⟩ := X0.leave (v := some (.int (nar .byte ((((0 : Int32).toUInt32 >>> ((31 : Int32) &&& 31).toUInt32).toInt32).toInt8.toInt32)))) (fun h => by rw [Bd.returns] at h; cases h)
  refine ⟨_, _, S3 _ ?_, hrun, hended, _, _, rfl, ?_, ⟨_, rfl⟩, hW, hsame.mono (by decide) (by decide)⟩
  · show Steps p.tables e below (s₁.setTop (mkF m 8 #[.val (.ref tb), .val (.int (2 : Int32))] [(.int ((((0 : Int32).toUInt32 >>> ((31 : Int32) &&& 31).toUInt32).toInt32).toInt8.toInt32))])) _
    exact retN X0 hx (t := .byte) Bd.returns (by simp) (hb hby own_d19_8) hr
  · show own_Q19k2 Z tb c0 c1 kt h0 n0 _ s₁.heap _
    rw [e0]
    exact ⟨rfl, rfl, rfl⟩
theorem own_ef17k2 (m : MethodId) (x0 : Addr) (x1 : Int32) (x2 : Int32) : entryFrame m #[(.ref x0), (.int x1), (.int x2)] 6 = mkF m 0 #[.val (.ref x0), .val (.int x1), .val (.int x2), .unset, .unset, .unset] [] := by first | (simp [entryFrame, mkF, argsToLocals, Value.category]; done) | rfl
def own_Q17k2 (Z : State) (b : Addr) (c0 : Int32) (c1 : Int32) (kb : ClassId) (h0 : Heap) (n0 : Nat) (v : Option Value) (h : Heap) (L : List Loc) : Prop := ∃ (tb : Addr) (kt : ClassId), v = some (.ref tb) ∧ Fr n0 L ∧ n0 ≤ tb ∧ h0.size ≤ tb ∧ Keep h0 h [] ∧ Arv Z h tb kt .byte (2 : Int32) [(.int (own_lo c0)), (.int (own_lo c1))] (.int (0 : Int32))
set_option maxHeartbeats 40000000 in
theorem own_rm17k2 (l : Launch) (Z : State) (a0 : Array Value) (hw : ∀ d ∈ tables_1, d.before a0 Z = true) (ws : List Jvm.Cond) (b : Addr) (c0 : Int32) (c1 : Int32) (kb : ClassId) (h0 : Heap) (n0 : Nat) (Z0 : n0 ≤ h0.size) (V_b : Arv Z h0 b kb .char (2 : Int32) [(.int c0), (.int c1)] (.int (0 : Int32))) (hl0 : ¬ (255 : Int32) < c0) (hl1 : ¬ (255 : Int32) < c1) :
    MetFree l (⟨"java/lang/StringUTF16", "compress", "([CII)[B"⟩ : MethodName) (head1 (Jvm.Cond.code (⟨"java/lang/StringUTF16", "compress", "([CII)[B"⟩ : MethodName) jdk_52_method_16_code 6 (some (.array .byte)) :: ws) ({ frames := 1, cells := 1, slots := 2, locals := 18 } : Room)) (fun argv U => argv = #[(.ref b), (.int (0 : Int32)), (.int (2 : Int32))] ∧ Z.Warmed39 U.vm ∧ U.heap = h0) (fun _ _ _ _ _ => True) (fun _ U o U' => ∃ v L, o = .returned v ∧ own_Q17k2 Z b c0 c1 kb h0 n0 v U'.heap L ∧ FrameEnd U o U' L ({ frames := 1, cells := 1, slots := 2, locals := 18 } : Room).cells ({ frames := 1, cells := 1, slots := 2, locals := 18 } : Room).slots) := by
  refine MetFree.of_bodySF (plainFor_of_name own_pn3) hisR ?_
  intro p e s m args below meth c s₁ Bd hml0 hP hK
  obtain ⟨rfl, hZ, hh⟩ := hP
  have hx := Bd.exec
  have hby := Bd.bytes
  have hml : c.maxLocals = 6 := hml0
  have hown : s.vm.findClass "java/lang/StringUTF16" = some m.cls := findClass_of_methodNamed Bd.named
  have hnm := (name_of_methodNamed Bd.named Bd.method).1
  have X0 : Stand p l e ({ frames := 1, cells := 1, slots := 2, locals := 18 } : Room) s m #[(.ref b), (.int (0 : Int32)), (.int (2 : Int32))] below meth c s₁ [] 0 0 := Stand.of_body Bd
  have e0 : s₁.heap = h0 := by rw [← hh, Bd.state]; rfl
  have N0 := Fr.nil n0
  have pre0 : ∀ t, Steps p.tables e below (s₁.setTop (mkF m 0 #[.val (.ref b), .val (.int (0 : Int32)), .val (.int (2 : Int32)), .unset, .unset, .unset] [])) t → Steps p.tables e below (s₁.setTop (entryFrame m #[(.ref b), (.int (0 : Int32)), (.int (2 : Int32))] 6)) t := fun t k => castTop (own_ef17k2 m b (0 : Int32) (2 : Int32)) k
  have S1 : ∀ t, Steps p.tables e below (s₁.setTop (mkF m 1 #[.val (.ref b), .val (.int (0 : Int32)), .val (.int (2 : Int32)), .unset, .unset, .unset] [(.int (2 : Int32))])) t → Steps p.tables e below (s₁.setTop (entryFrame m #[(.ref b), (.int (0 : Int32)), (.int (2 : Int32))] 6)) t := fun t kt => by
    refine pre0 t ?_
    show Steps p.tables e below (s₁.setTop (mkF m 0 #[.val (.ref b), .val (.int (0 : Int32)), .val (.int (2 : Int32)), .unset, .unset, .unset] [])) t
    refine XS.iloadN X0.here hx rfl (hb hby own_d17_0) rfl ?_
    exact kt
  obtain ⟨T2, h2, k2, X2, e2, E2, A2, st2⟩ := newP X0 hx hZ (hw _ (List.mem_of_getElem? (i := 18) rfl)) e0 (g := (mkF m 1 #[.val (.ref b), .val (.int (0 : Int32)), .val (.int (2 : Int32)), .unset, .unset, .unset] [(.int (2 : Int32))])) rfl (hb hby own_d17_1) rfl (by decide) (cap := 2) (by decide) (by decide) (by decide) (by decide)
  obtain ⟨b2, g2⟩ : ∃ z, z = h0.size := ⟨_, rfl⟩
  rw [← g2] at A2 st2
  have S3 : ∀ t, Steps p.tables e below (T2.setTop (mkF m 3 #[.val (.ref b), .val (.int (0 : Int32)), .val (.int (2 : Int32)), .unset, .unset, .unset] [(.ref b2)])) t → Steps p.tables e below (s₁.setTop (entryFrame m #[(.ref b), (.int (0 : Int32)), (.int (2 : Int32))] 6)) t := fun t kt => S1 t (st2 _ kt)
  have g_b2 : n0 ≤ b2 := Nat.le_trans Z0 (Nat.le_of_eq g2.symm)
  have sz_b2 : h0.size ≤ b2 := Nat.le_trans (Keep.refl h0 []).1 (Nat.le_of_eq g2.symm)
  have ne_b_b2 : b ≠ b2 := Nat.ne_of_lt (Nat.lt_of_lt_of_le V_b.lt (Nat.le_of_eq g2.symm))
  have F4 := V_b.ext E2
  have K5 : Keep h0 h2 [] := (Keep.refl h0 []).ext E2
  have V6 : Arv Z h2 b2 k2 .byte (2 : Int32) [(.int (0 : Int32)), (.int (0 : Int32))] (.int (0 : Int32)) := (Arv.new A2 (by decide)).pad (pad_rep [] (.int (0 : Int32)) 2)
  have S9 : ∀ t, Steps p.tables e below (T2.setTop (mkF m 9 #[.val (.ref b), .val (.int (0 : Int32)), .val (.int (2 : Int32)), .val (.ref b2), .unset, .unset] [(.int (2 : Int32)), (.int (0 : Int32)), (.ref b2), (.int (0 : Int32)), (.ref b)])) t → Steps p.tables e below (s₁.setTop (entryFrame m #[(.ref b), (.int (0 : Int32)), (.int (2 : Int32))] 6)) t := fun t kt => by
    refine S3 t ?_
    show Steps p.tables e below (T2.setTop (mkF m 3 #[.val (.ref b), .val (.int (0 : Int32)), .val (.int (2 : Int32)), .unset, .unset, .unset] [(.ref b2)])) t
    refine XS.astoreN X2.here hx rfl (hb hby own_d17_3) rfl rfl (l' := #[.val (.ref b), .val (.int (0 : Int32)), .val (.int (2 : Int32)), .val (.ref b2), .unset, .unset]) rfl ?_
    show Steps p.tables e below (T2.setTop (mkF m 4 #[.val (.ref b), .val (.int (0 : Int32)), .val (.int (2 : Int32)), .val (.ref b2), .unset, .unset] [])) t
    refine XS.aloadN X2.here hx rfl (hb hby own_d17_4) rfl rfl ?_
    show Steps p.tables e below (T2.setTop (mkF m 5 #[.val (.ref b), .val (.int (0 : Int32)), .val (.int (2 : Int32)), .val (.ref b2), .unset, .unset] [(.ref b)])) t
    refine XS.iloadN X2.here hx rfl (hb hby own_d17_5) rfl ?_
    show Steps p.tables e below (T2.setTop (mkF m 6 #[.val (.ref b), .val (.int (0 : Int32)), .val (.int (2 : Int32)), .val (.ref b2), .unset, .unset] [(.int (0 : Int32)), (.ref b)])) t
    refine XS.aloadN X2.here hx rfl (hb hby own_d17_6) rfl rfl ?_
    show Steps p.tables e below (T2.setTop (mkF m 7 #[.val (.ref b), .val (.int (0 : Int32)), .val (.int (2 : Int32)), .val (.ref b2), .unset, .unset] [(.ref b2), (.int (0 : Int32)), (.ref b)])) t
    refine XS.iconst X2.here hx rfl (hb hby own_d17_7) ?_
    show Steps p.tables e below (T2.setTop (mkF m 8 #[.val (.ref b), .val (.int (0 : Int32)), .val (.int (2 : Int32)), .val (.ref b2), .unset, .unset] [(.int (0 : Int32)), (.ref b2), (.int (0 : Int32)), (.ref b)])) t
    refine XS.iloadN X2.here hx rfl (hb hby own_d17_8) rfl ?_
    exact kt
  obtain ⟨_, _, ⟨T10, L10, k10, n10⟩, -, X10, ⟨Lc10, hQ10, l10, y10, z10⟩, st10⟩ := Jvm.LawKit.callS X2 hx (y := (⟨"java/lang/StringUTF16", "compress", "([CI[BII)I"⟩ : MethodName)) hown (mvT hZ (hw _ (List.mem_of_getElem? (i := 86) rfl))) (mvT hZ (hw _ (List.mem_of_getElem? (i := 87) rfl))) (mvT hZ (hw _ (List.mem_of_getElem? (i := 84) rfl))) (mvT hZ (hw _ (List.mem_of_getElem? (i := 88) rfl))) (by decide) (backOf (W := 0) (own_rm18k2 l Z a0 hw [] (b) (b2) (c0) (c1) (kb) (k2) h2 n0 (Nat.le_trans Z0 K5.1) F4 V6 g_b2 ne_b_b2 hl0 hl1) hZ (hw _ (List.mem_of_getElem? (i := 88) rfl)) (hw _ (List.mem_of_getElem? (i := 84) rfl)) (by decide) (by decide)) (g := (mkF m 9 #[.val (.ref b), .val (.int (0 : Int32)), .val (.int (2 : Int32)), .val (.ref b2), .unset, .unset] [(.int (2 : Int32)), (.int (0 : Int32)), (.ref b2), (.int (0 : Int32)), (.ref b)])) rfl (by rw [hml]; rfl) (argsL := [(.ref b), (.int (0 : Int32)), (.ref b2), (.int (0 : Int32)), (.int (2 : Int32))]) (rest := []) (lenOf own_pd2 rfl) rfl (by show 2 * 0 + _ ≤ _; exact Nat.le_of_eq rfl) (hb hby own_d17_9) (fun _ _ => ⟨rfl, e2, (by decide : 1 + 0 ≤ _), (by decide : 2 + 0 ≤ _)⟩)
  dsimp only [Pt.U, Pt.locs, Pt.cells, Pt.slots] at X10 l10 y10 z10 st10 hQ10
  subst l10 y10 z10
  obtain ⟨rfl, Nq10, Kc7, Vc7⟩ := hQ10
  have N11 := Fr.app N0 Nq10
  have S12 : ∀ t, Steps p.tables e below (T10.setTop (mkF m 12 #[.val (.ref b), .val (.int (0 : Int32)), .val (.int (2 : Int32)), .val (.ref b2), .unset, .unset] [(.int (2 : Int32))])) t → Steps p.tables e below (s₁.setTop (entryFrame m #[(.ref b), (.int (0 : Int32)), (.int (2 : Int32))] 6)) t := fun t kt => S9 t (st10 _ kt)
  have F13 := F4.keep Kc7 (ninS ne_b_b2 nin0)
  have K14 : Keep h0 T10.heap [] := K5.trans Kc7 (allS (Or.inr sz_b2) all0)
  have S15 : ∀ t, Steps p.tables e below (T10.setTop (mkF m 17 #[.val (.ref b), .val (.int (0 : Int32)), .val (.int (2 : Int32)), .val (.ref b2), .val (.int (2 : Int32)), .unset] [(.int (2 : Int32)), (.int (2 : Int32))])) t → Steps p.tables e below (s₁.setTop (entryFrame m #[(.ref b), (.int (0 : Int32)), (.int (2 : Int32))] 6)) t := fun t kt => by
    refine S12 t ?_
    show Steps p.tables e below (T10.setTop (mkF m 12 #[.val (.ref b), .val (.int (0 : Int32)), .val (.int (2 : Int32)), .val (.ref b2), .unset, .unset] [(.int (2 : Int32))])) t
    refine XS.istore X10.here hx rfl (hb hby own_d17_12) rfl (l' := #[.val (.ref b), .val (.int (0 : Int32)), .val (.int (2 : Int32)), .val (.ref b2), .val (.int (2 : Int32)), .unset]) rfl ?_
    show Steps p.tables e below (T10.setTop (mkF m 14 #[.val (.ref b), .val (.int (0 : Int32)), .val (.int (2 : Int32)), .val (.ref b2), .val (.int (2 : Int32)), .unset] [])) t
    refine XS.iload X10.here hx rfl (hb hby own_d17_14) rfl ?_
    show Steps p.tables e below (T10.setTop (mkF m 16 #[.val (.ref b), .val (.int (0 : Int32)), .val (.int (2 : Int32)), .val (.ref b2), .val (.int (2 : Int32)), .unset] [(.int (2 : Int32))])) t
    refine XS.iloadN X10.here hx rfl (hb hby own_d17_16) rfl ?_
    exact kt
  have hc17_16 : (2 : Int32) = (2 : Int32) := by decide
  have S17 : ∀ t, Steps p.tables e below (T10.setTop (mkF m 58 #[.val (.ref b), .val (.int (0 : Int32)), .val (.int (2 : Int32)), .val (.ref b2), .val (.int (2 : Int32)), .unset] [(.ref b2)])) t → Steps p.tables e below (s₁.setTop (entryFrame m #[(.ref b), (.int (0 : Int32)), (.int (2 : Int32))] 6)) t := fun t kt => by
    refine S15 t ?_
    show Steps p.tables e below (T10.setTop (mkF m 17 #[.val (.ref b), .val (.int (0 : Int32)), .val (.int (2 : Int32)), .val (.ref b2), .val (.int (2 : Int32)), .unset] [(.int (2 : Int32)), (.int (2 : Int32))])) t
    refine XS.icmpYes X10.here hx rfl (pc0 := 17) (pc' := 57) rfl (hb hby own_d17_17) rfl (teq hc17_16).1 (by decide) (by decide) ?_
    show Steps p.tables e below (T10.setTop (mkF m 57 #[.val (.ref b), .val (.int (0 : Int32)), .val (.int (2 : Int32)), .val (.ref b2), .val (.int (2 : Int32)), .unset] [])) t
    refine XS.aloadN X10.here hx rfl (hb hby own_d17_57) rfl rfl ?_
    exact kt
  obtain ⟨fs, hr, hrun, hended, hW, hsame⟩ := X10.leave (v := some (.ref b2)) (fun h => by rw [Bd.returns] at h; cases h)
  refine ⟨_, _, S17 _ ?_, hrun, hended, _, _, rfl, ?_, ⟨_, rfl⟩, hW, hsame.mono (by decide) (by decide)⟩
  · show Steps p.tables e below (T10.setTop (mkF m 58 #[.val (.ref b), .val (.int (0 : Int32)), .val (.int (2 : Int32)), .val (.ref b2), .val (.int (2 : Int32)), .unset] [(.ref b2)])) _
    jvm_step X10.here [X10.here.top, hx, (hb hby own_d17_58), X10.method', Bd.returns, Value.isRef, FieldType.isReference]
    first | (intro acts; rw [hr _ acts rfl rfl rfl]) | rw [hr _ _ rfl rfl rfl]
    exact Steps.refl _
  · show own_Q17k2 Z b c0 c1 kb h0 n0 _ T10.heap _
    exact ⟨b2, k2, rfl, N11, g_b2, sz_b2, K14, Vc7⟩
theorem own_ef8k2 (m : MethodId) (x0 : Addr) (x1 : Addr) (x2 : Int32) (x3 : Int32) : entryFrame m #[(.ref x0), (.ref x1), (.int x2), (.int x3), .null] 6 = mkF m 0 #[.val (.ref x0), .val (.ref x1), .val (.int x2), .val (.int x3), .val .null, .unset] [] := by first | (simp [entryFrame, mkF, argsToLocals, Value.category]; done) | rfl
def own_Q8k2 (Z : State) (a : Addr) (b : Addr) (c0 : Int32) (c1 : Int32) (kb : ClassId) (cs : Int32) (uv : Value) (uc : Value) (h0 : Heap) (n0 : Nat) (v : Option Value) (h : Heap) (L : List Loc) : Prop := v = none ∧ Fr n0 L ∧ Keep h0 h [a] ∧ Exa Z h a "java/lang/String" ∧ Fld Z h a "java/lang/String" "coder" "B" (.int (0 : Int32)) ∧ ∃ (tb : Addr) (kt : ClassId), n0 ≤ tb ∧ h0.size ≤ tb ∧ a ≠ tb ∧ Fld Z h a "java/lang/String" "value" "[B" (.ref tb) ∧ Arv Z h tb kt .byte (2 : Int32) [(.int (own_lo c0)), (.int (own_lo c1))] (.int (0 : Int32))
set_option maxHeartbeats 40000000 in
theorem own_rm8k2 (l : Launch) (Z : State) (a0 : Array Value) (hw : ∀ d ∈ tables_1, d.before a0 Z = true) (ws : List Jvm.Cond) (a : Addr) (b : Addr) (c0 : Int32) (c1 : Int32) (kb : ClassId) (cs : Int32) (uv : Value) (uc : Value) (h0 : Heap) (n0 : Nat) (Z0 : n0 ≤ h0.size) (E_a : Exa Z h0 a "java/lang/String") (g_a : n0 ≤ a) (F_value : Fld Z h0 a "java/lang/String" "value" "[B" uv) (F_coder : Fld Z h0 a "java/lang/String" "coder" "B" uc) (S_CS : Sta Z h0 "java/lang/String" "COMPACT_STRINGS" "Z" (.int cs)) (hcs : ¬ cs = (0 : Int32)) (V_b : Arv Z h0 b kb .char (2 : Int32) [(.int c0), (.int c1)] (.int (0 : Int32))) (hl0 : ¬ (255 : Int32) < c0) (hl1 : ¬ (255 : Int32) < c1) :
    MetFree l (⟨"java/lang/String", "<init>", "([CIILjava/lang/Void;)V"⟩ : MethodName) (head1 (Jvm.Cond.code (⟨"java/lang/String", "<init>", "([CIILjava/lang/Void;)V"⟩ : MethodName) jdk_42_method_149_code 6 none :: ws) ({ frames := 2, cells := 1, slots := 2, locals := 35 } : Room)) (fun argv U => argv = #[(.ref a), (.ref b), (.int (0 : Int32)), (.int (2 : Int32)), .null] ∧ Z.Warmed39 U.vm ∧ U.heap = h0) (fun _ _ _ _ _ => True) (fun _ U o U' => ∃ v L, o = .returned v ∧ own_Q8k2 Z a b c0 c1 kb cs uv uc h0 n0 v U'.heap L ∧ FrameEnd U o U' L ({ frames := 2, cells := 1, slots := 2, locals := 35 } : Room).cells ({ frames := 2, cells := 1, slots := 2, locals := 35 } : Room).slots) := by
  refine MetFree.of_bodySF (plainFor_of_name own_pn4) hisR ?_
  intro p e s m args below meth c s₁ Bd hml0 hP hK
  obtain ⟨rfl, hZ, hh⟩ := hP
  have hx := Bd.exec
  have hby := Bd.bytes
  have hml : c.maxLocals = 6 := hml0
  have hown : s.vm.findClass "java/lang/String" = some m.cls := findClass_of_methodNamed Bd.named
  have hnm := (name_of_methodNamed Bd.named Bd.method).1
  have X0 : Stand p l e ({ frames := 2, cells := 1, slots := 2, locals := 35 } : Room) s m #[(.ref a), (.ref b), (.int (0 : Int32)), (.int (2 : Int32)), .null] below meth c s₁ [] 0 0 := Stand.of_body Bd
  have e0 : s₁.heap = h0 := by rw [← hh, Bd.state]; rfl
  have N0 := Fr.nil n0
  have pre0 : ∀ t, Steps p.tables e below (s₁.setTop (mkF m 0 #[.val (.ref a), .val (.ref b), .val (.int (0 : Int32)), .val (.int (2 : Int32)), .val .null, .unset] [])) t → Steps p.tables e below (s₁.setTop (entryFrame m #[(.ref a), (.ref b), (.int (0 : Int32)), (.int (2 : Int32)), .null] 6)) t := fun t k => castTop (own_ef8k2 m a b (0 : Int32) (2 : Int32)) k
  have S1 : ∀ t, Steps p.tables e below (s₁.setTop (mkF m 1 #[.val (.ref a), .val (.ref b), .val (.int (0 : Int32)), .val (.int (2 : Int32)), .val .null, .unset] [(.ref a)])) t → Steps p.tables e below (s₁.setTop (entryFrame m #[(.ref a), (.ref b), (.int (0 : Int32)), (.int (2 : Int32)), .null] 6)) t := fun t kt => by
    refine pre0 t ?_
    show Steps p.tables e below (s₁.setTop (mkF m 0 #[.val (.ref a), .val (.ref b), .val (.int (0 : Int32)), .val (.int (2 : Int32)), .val .null, .unset] [])) t
    refine XS.aloadN X0.here hx rfl (hb hby own_d8_0) rfl rfl ?_
    exact kt
  obtain ⟨T2, X2, e2, st2⟩ := initO X0 hx hZ hown (hw _ (List.mem_of_getElem? (i := 23) rfl)) (hw _ (List.mem_of_getElem? (i := 24) rfl)) (hw _ (List.mem_of_getElem? (i := 25) rfl)) e0 (g := (mkF m 1 #[.val (.ref a), .val (.ref b), .val (.int (0 : Int32)), .val (.int (2 : Int32)), .val .null, .unset] [(.ref a)])) rfl (by rw [hml]; rfl) rfl (hb hby own_d8_1) (by decide) (W := 0) (by show 2 * 0 + _ ≤ _; exact Nat.le_of_eq rfl) (by decide)
  have S3 : ∀ t, Steps p.tables e below (T2.setTop (mkF m 4 #[.val (.ref a), .val (.ref b), .val (.int (0 : Int32)), .val (.int (2 : Int32)), .val .null, .unset] [])) t → Steps p.tables e below (s₁.setTop (entryFrame m #[(.ref a), (.ref b), (.int (0 : Int32)), (.int (2 : Int32)), .null] 6)) t := fun t kt => S1 t (st2 _ kt)
  have S4 : ∀ t, Steps p.tables e below (T2.setTop (mkF m 5 #[.val (.ref a), .val (.ref b), .val (.int (0 : Int32)), .val (.int (2 : Int32)), .val .null, .unset] [(.int (2 : Int32))])) t → Steps p.tables e below (s₁.setTop (entryFrame m #[(.ref a), (.ref b), (.int (0 : Int32)), (.int (2 : Int32)), .null] 6)) t := fun t kt => by
    refine S3 t ?_
    show Steps p.tables e below (T2.setTop (mkF m 4 #[.val (.ref a), .val (.ref b), .val (.int (0 : Int32)), .val (.int (2 : Int32)), .val .null, .unset] [])) t
    refine XS.iloadN X2.here hx rfl (hb hby own_d8_4) rfl ?_
    exact kt
  have hc5_5 : ¬ ((2 : Int32) = (0 : Int32)) := by decide
  have S6 : ∀ t, Steps p.tables e below (T2.setTop (mkF m 27 #[.val (.ref a), .val (.ref b), .val (.int (0 : Int32)), .val (.int (2 : Int32)), .val .null, .unset] [])) t → Steps p.tables e below (s₁.setTop (entryFrame m #[(.ref a), (.ref b), (.int (0 : Int32)), (.int (2 : Int32)), .null] 6)) t := fun t kt => by
    refine S4 t ?_
    show Steps p.tables e below (T2.setTop (mkF m 5 #[.val (.ref a), .val (.ref b), .val (.int (0 : Int32)), .val (.int (2 : Int32)), .val .null, .unset] [(.int (2 : Int32))])) t
    refine XS.ifYes X2.here hx rfl (pc0 := 5) (pc' := 27) rfl (hb hby own_d8_5) rfl ((if0 _ _).trans (feq hc5_5).2) (by decide) (by decide) ?_
    exact kt
  obtain ⟨T7, X7, e7, st7⟩ := getS2 X2 hx hZ hown (host := "") (Or.inl (hw _ (List.mem_of_getElem? (i := 8) rfl))) Via.refl e2 S_CS (g := (mkF m 27 #[.val (.ref a), .val (.ref b), .val (.int (0 : Int32)), .val (.int (2 : Int32)), .val .null, .unset] [])) rfl (hb hby own_d8_27)
  have S8 : ∀ t, Steps p.tables e below (T7.setTop (mkF m 30 #[.val (.ref a), .val (.ref b), .val (.int (0 : Int32)), .val (.int (2 : Int32)), .val .null, .unset] [(.int cs)])) t → Steps p.tables e below (s₁.setTop (entryFrame m #[(.ref a), (.ref b), (.int (0 : Int32)), (.int (2 : Int32)), .null] 6)) t := fun t kt => S6 t (st7 _ kt)
  have hc30_9 : ¬ (cs = (0 : Int32)) := hcs
  have S12 : ∀ t, Steps p.tables e below (T7.setTop (mkF m 36 #[.val (.ref a), .val (.ref b), .val (.int (0 : Int32)), .val (.int (2 : Int32)), .val .null, .unset] [(.int (2 : Int32)), (.int (0 : Int32)), (.ref b)])) t → Steps p.tables e below (s₁.setTop (entryFrame m #[(.ref a), (.ref b), (.int (0 : Int32)), (.int (2 : Int32)), .null] 6)) t := fun t kt => by
    refine S8 t ?_
    show Steps p.tables e below (T7.setTop (mkF m 30 #[.val (.ref a), .val (.ref b), .val (.int (0 : Int32)), .val (.int (2 : Int32)), .val .null, .unset] [(.int cs)])) t
    refine XS.ifNo X7.here hx rfl (hb hby own_d8_30) rfl ((if0 _ _).trans (feq hc30_9).1) ?_
    show Steps p.tables e below (T7.setTop (mkF m 33 #[.val (.ref a), .val (.ref b), .val (.int (0 : Int32)), .val (.int (2 : Int32)), .val .null, .unset] [])) t
    refine XS.aloadN X7.here hx rfl (hb hby own_d8_33) rfl rfl ?_
    show Steps p.tables e below (T7.setTop (mkF m 34 #[.val (.ref a), .val (.ref b), .val (.int (0 : Int32)), .val (.int (2 : Int32)), .val .null, .unset] [(.ref b)])) t
    refine XS.iloadN X7.here hx rfl (hb hby own_d8_34) rfl ?_
    show Steps p.tables e below (T7.setTop (mkF m 35 #[.val (.ref a), .val (.ref b), .val (.int (0 : Int32)), .val (.int (2 : Int32)), .val .null, .unset] [(.int (0 : Int32)), (.ref b)])) t
    refine XS.iloadN X7.here hx rfl (hb hby own_d8_35) rfl ?_
    exact kt
  obtain ⟨_, _, ⟨T13, L13, k13, n13⟩, -, X13, ⟨Lc13, hQ13, l13, y13, z13⟩, st13⟩ := Jvm.LawKit.callS X7 hx (y := (⟨"java/lang/StringUTF16", "compress", "([CII)[B"⟩ : MethodName)) hown (mvT hZ (hw _ (List.mem_of_getElem? (i := 82) rfl))) (mvT hZ (hw _ (List.mem_of_getElem? (i := 83) rfl))) (mvT hZ (hw _ (List.mem_of_getElem? (i := 84) rfl))) (mvT hZ (hw _ (List.mem_of_getElem? (i := 85) rfl))) (by decide) (backOf (W := 0) (own_rm17k2 l Z a0 hw [] (b) (c0) (c1) (kb) h0 n0 Z0 V_b hl0 hl1) hZ (hw _ (List.mem_of_getElem? (i := 85) rfl)) (hw _ (List.mem_of_getElem? (i := 84) rfl)) (by decide) (by decide)) (g := (mkF m 36 #[.val (.ref a), .val (.ref b), .val (.int (0 : Int32)), .val (.int (2 : Int32)), .val .null, .unset] [(.int (2 : Int32)), (.int (0 : Int32)), (.ref b)])) rfl (by rw [hml]; rfl) (argsL := [(.ref b), (.int (0 : Int32)), (.int (2 : Int32))]) (rest := []) (lenOf own_pd3 rfl) rfl (by show 2 * 0 + _ ≤ _; exact Nat.le_of_eq rfl) (hb hby own_d8_36) (fun _ _ => ⟨rfl, e7, (by decide : 0 + 1 ≤ _), (by decide : 0 + 2 ≤ _)⟩)
  dsimp only [Pt.U, Pt.locs, Pt.cells, Pt.slots] at X13 l13 y13 z13 st13 hQ13
  subst l13 y13 z13
  obtain ⟨tb10, kt10, rfl, Nq13, gt10, sz10, Kc10, Vc10⟩ := hQ13
  have N14 := Fr.app N0 Nq13
  have S15 : ∀ t, Steps p.tables e below (T13.setTop (mkF m 39 #[.val (.ref a), .val (.ref b), .val (.int (0 : Int32)), .val (.int (2 : Int32)), .val .null, .unset] [(.ref tb10)])) t → Steps p.tables e below (s₁.setTop (entryFrame m #[(.ref a), (.ref b), (.int (0 : Int32)), (.int (2 : Int32)), .null] 6)) t := fun t kt => S12 t (st13 _ kt)
  have F16 := E_a.keep Kc10
  have F17 := F_value.keep Kc10 nin0
  have F18 := F_coder.keep Kc10 nin0
  have F19 := own_StaK S_CS Kc10 all0
  have F20 := V_b.keep Kc10 nin0
  have K21 : Keep h0 T13.heap [a] := (Keep.refl h0 [a]).trans Kc10 all0
  have ne_a_tb10 : a ≠ tb10 := Nat.ne_of_lt (Nat.lt_of_lt_of_le E_a.lt sz10)
  have ne_b_tb10 : b ≠ tb10 := Nat.ne_of_lt (Nat.lt_of_lt_of_le V_b.lt sz10)
  have S23 : ∀ t, Steps p.tables e below (T13.setTop (mkF m 45 #[.val (.ref a), .val (.ref b), .val (.int (0 : Int32)), .val (.int (2 : Int32)), .val .null, .val (.ref tb10)] [(.int (2 : Int32)), (.ref tb10), (.ref a)])) t → Steps p.tables e below (s₁.setTop (entryFrame m #[(.ref a), (.ref b), (.int (0 : Int32)), (.int (2 : Int32)), .null] 6)) t := fun t kt => by
    refine S15 t ?_
    show Steps p.tables e below (T13.setTop (mkF m 39 #[.val (.ref a), .val (.ref b), .val (.int (0 : Int32)), .val (.int (2 : Int32)), .val .null, .unset] [(.ref tb10)])) t
    refine XS.astore X13.here hx rfl (hb hby own_d8_39) rfl rfl (l' := #[.val (.ref a), .val (.ref b), .val (.int (0 : Int32)), .val (.int (2 : Int32)), .val .null, .val (.ref tb10)]) rfl ?_
    show Steps p.tables e below (T13.setTop (mkF m 41 #[.val (.ref a), .val (.ref b), .val (.int (0 : Int32)), .val (.int (2 : Int32)), .val .null, .val (.ref tb10)] [])) t
    refine XS.aloadN X13.here hx rfl (hb hby own_d8_41) rfl rfl ?_
    show Steps p.tables e below (T13.setTop (mkF m 42 #[.val (.ref a), .val (.ref b), .val (.int (0 : Int32)), .val (.int (2 : Int32)), .val .null, .val (.ref tb10)] [(.ref a)])) t
    refine XS.aload X13.here hx rfl (hb hby own_d8_42) rfl rfl ?_
    show Steps p.tables e below (T13.setTop (mkF m 44 #[.val (.ref a), .val (.ref b), .val (.int (0 : Int32)), .val (.int (2 : Int32)), .val .null, .val (.ref tb10)] [(.ref tb10), (.ref a)])) t
    refine XS.iloadN X13.here hx rfl (hb hby own_d8_44) rfl ?_
    exact kt
  obtain ⟨_, _, ⟨T24, L24, k24, n24⟩, -, X24, ⟨Lc24, hQ24, l24, y24, z24⟩, st24⟩ := Jvm.LawKit.callS X13 hx (y := (⟨"java/lang/StringUTF16", "coderFromArrayLen", "([BI)B"⟩ : MethodName)) hown (mvT hZ (hw _ (List.mem_of_getElem? (i := 89) rfl))) (mvT hZ (hw _ (List.mem_of_getElem? (i := 90) rfl))) (mvT hZ (hw _ (List.mem_of_getElem? (i := 84) rfl))) (mvT hZ (hw _ (List.mem_of_getElem? (i := 91) rfl))) (by decide) (backOf (W := 1) (own_rm19k2 l Z a0 hw [] (tb10) (c0) (c1) (kt10) T13.heap n0 (Nat.le_trans Z0 K21.1) Vc10) hZ (hw _ (List.mem_of_getElem? (i := 91) rfl)) (hw _ (List.mem_of_getElem? (i := 84) rfl)) (by decide) (by decide)) (g := (mkF m 45 #[.val (.ref a), .val (.ref b), .val (.int (0 : Int32)), .val (.int (2 : Int32)), .val .null, .val (.ref tb10)] [(.int (2 : Int32)), (.ref tb10), (.ref a)])) rfl (by rw [hml]; rfl) (argsL := [(.ref tb10), (.int (2 : Int32))]) (rest := [(.ref a)]) (lenOf own_pd4 rfl) rfl (by show 2 * 0 + _ ≤ _; exact Nat.le_of_eq rfl) (hb hby own_d8_45) (fun _ _ => ⟨rfl, rfl, (by decide : 1 + 0 ≤ _), (by decide : 2 + 0 ≤ _)⟩)
  dsimp only [Pt.U, Pt.locs, Pt.cells, Pt.slots] at X24 l24 y24 z24 st24 hQ24
  subst l24 y24 z24
  obtain ⟨rfl, rfl, eq22⟩ := hQ24
  try rw [List.append_nil] at X24
  have S25 : ∀ t, Steps p.tables e below (T24.setTop (mkF m 48 #[.val (.ref a), .val (.ref b), .val (.int (0 : Int32)), .val (.int (2 : Int32)), .val .null, .val (.ref tb10)] [(.int (0 : Int32)), (.ref a)])) t → Steps p.tables e below (s₁.setTop (entryFrame m #[(.ref a), (.ref b), (.int (0 : Int32)), (.int (2 : Int32)), .null] 6)) t := fun t kt => S23 t (st24 _ kt)
  obtain ⟨T26, h26, X26, e26, W26, st26⟩ := putFN X24 hx hZ hown (hw _ (List.mem_of_getElem? (i := 28) rfl)) Via.refl (eq22.trans rfl) F18 F16 (Or.inr ⟨(hw _ (List.mem_of_getElem? (i := 29) rfl)), rfl, hnm⟩) (hw _ (List.mem_of_getElem? (i := 14) rfl)) (ty := .byte) (v' := (.int (0 : Int32))) (by decide) rfl (by decide) (g := (mkF m 48 #[.val (.ref a), .val (.ref b), .val (.int (0 : Int32)), .val (.int (2 : Int32)), .val .null, .val (.ref tb10)] [(.int (0 : Int32)), (.ref a)])) rfl rfl (hb hby own_d8_48)
  have S27 : ∀ t, Steps p.tables e below (T26.setTop (mkF m 51 #[.val (.ref a), .val (.ref b), .val (.int (0 : Int32)), .val (.int (2 : Int32)), .val .null, .val (.ref tb10)] [])) t → Steps p.tables e below (s₁.setTop (entryFrame m #[(.ref a), (.ref b), (.int (0 : Int32)), (.int (2 : Int32)), .null] 6)) t := fun t kt => S25 t (st26 _ kt)
  have F28 := F16.wr W26
  have F29 := F17.other W26 (Or.inr (slot_ne (Or.inr (hw _ (List.mem_of_getElem? (i := 27) rfl))) (Or.inr (hw _ (List.mem_of_getElem? (i := 29) rfl))) (by decide) (t := (.array .byte)) (t' := .byte) (by decide) (by decide)))
  have F30 := F18.same W26
  have F31 := F19.wr W26
  have F32 := F20.other W26 (Ne.symm (Exa.neArv F16 F20 (hw _ (List.mem_of_getElem? (i := 14) rfl))))
  have F33 := Vc10.other W26 (Ne.symm ne_a_tb10)
  have N34 := Fr.snoc X26 N14 g_a
  have K35 : Keep h0 h26 [a] := K21.wr W26 (Or.inl (List.mem_of_getElem? (i := 0) rfl))
  have S36 : ∀ t, Steps p.tables e below (T26.setTop (mkF m 54 #[.val (.ref a), .val (.ref b), .val (.int (0 : Int32)), .val (.int (2 : Int32)), .val .null, .val (.ref tb10)] [(.ref tb10), (.ref a)])) t → Steps p.tables e below (s₁.setTop (entryFrame m #[(.ref a), (.ref b), (.int (0 : Int32)), (.int (2 : Int32)), .null] 6)) t := fun t kt => by
    refine S27 t ?_
    show Steps p.tables e below (T26.setTop (mkF m 51 #[.val (.ref a), .val (.ref b), .val (.int (0 : Int32)), .val (.int (2 : Int32)), .val .null, .val (.ref tb10)] [])) t
    refine XS.aloadN X26.here hx rfl (hb hby own_d8_51) rfl rfl ?_
    show Steps p.tables e below (T26.setTop (mkF m 52 #[.val (.ref a), .val (.ref b), .val (.int (0 : Int32)), .val (.int (2 : Int32)), .val .null, .val (.ref tb10)] [(.ref a)])) t
    refine XS.aload X26.here hx rfl (hb hby own_d8_52) rfl rfl ?_
    exact kt
  obtain ⟨T37, h37, X37, e37, W37, st37⟩ := putF X26 hx hZ hown (host := "") (Or.inl (hw _ (List.mem_of_getElem? (i := 26) rfl))) Via.refl e26 F29 F28 (Or.inr ⟨(hw _ (List.mem_of_getElem? (i := 27) rfl)), rfl, hnm⟩) (hw _ (List.mem_of_getElem? (i := 14) rfl)) (ty := (.array .byte)) (by decide) rfl rfl (g := (mkF m 54 #[.val (.ref a), .val (.ref b), .val (.int (0 : Int32)), .val (.int (2 : Int32)), .val .null, .val (.ref tb10)] [(.ref tb10), (.ref a)])) rfl rfl (hb hby own_d8_54)
  have S38 : ∀ t, Steps p.tables e below (T37.setTop (mkF m 57 #[.val (.ref a), .val (.ref b), .val (.int (0 : Int32)), .val (.int (2 : Int32)), .val .null, .val (.ref tb10)] [])) t → Steps p.tables e below (s₁.setTop (entryFrame m #[(.ref a), (.ref b), (.int (0 : Int32)), (.int (2 : Int32)), .null] 6)) t := fun t kt => S36 t (st37 _ kt)
  have F39 := F28.wr W37
  have F40 := F29.same W37
  have F41 := F30.other W37 (Or.inr (slot_ne (Or.inr (hw _ (List.mem_of_getElem? (i := 29) rfl))) (Or.inr (hw _ (List.mem_of_getElem? (i := 27) rfl))) (by decide) (t := .byte) (t' := (.array .byte)) (by decide) (by decide)))
  have F42 := F31.wr W37
  have F43 := F32.other W37 (Ne.symm (Exa.neArv F28 F32 (hw _ (List.mem_of_getElem? (i := 14) rfl))))
  have F44 := F33.other W37 (Ne.symm ne_a_tb10)
  have N45 := Fr.snoc X37 N34 g_a
  have K46 : Keep h0 h37 [a] := K35.wr W37 (Or.inl (List.mem_of_getElem? (i := 0) rfl))
  obtain ⟨fs, hr, hrun, hended, hW, hsame⟩ := X37.leave (v := none) (fun _ => rfl)
  refine ⟨_, _, S38 _ ?_, hrun, hended, _, _, rfl, ?_, ⟨_, rfl⟩, hW, hsame.mono (by decide) (by decide)⟩
  · show Steps p.tables e below (T37.setTop (mkF m 57 #[.val (.ref a), .val (.ref b), .val (.int (0 : Int32)), .val (.int (2 : Int32)), .val .null, .val (.ref tb10)] [])) _
    exact X37.returnOut hx Bd.returns (hb hby own_d8_57) hr
  · show own_Q8k2 Z a b c0 c1 kb cs uv uc h0 n0 _ T37.heap _
    rw [e37]
    exact ⟨rfl, N45, K46, F39, F41, tb10, kt10, gt10, (Nat.le_trans (Keep.refl h0 [a]).1 sz10), ne_a_tb10, F40, F44⟩
theorem own_ef7k2 (m : MethodId) (x0 : Addr) (x1 : Addr) : entryFrame m #[(.ref x0), (.ref x1)] 2 = mkF m 0 #[.val (.ref x0), .val (.ref x1)] [] := by first | (simp [entryFrame, mkF, argsToLocals, Value.category]; done) | rfl
def own_Q7k2 (Z : State) (a : Addr) (b : Addr) (c0 : Int32) (c1 : Int32) (kb : ClassId) (cs : Int32) (uv : Value) (uc : Value) (h0 : Heap) (n0 : Nat) (v : Option Value) (h : Heap) (L : List Loc) : Prop := v = none ∧ Fr n0 L ∧ Keep h0 h [a] ∧ Exa Z h a "java/lang/String" ∧ Fld Z h a "java/lang/String" "coder" "B" (.int (0 : Int32)) ∧ ∃ (tb : Addr) (kt : ClassId), n0 ≤ tb ∧ h0.size ≤ tb ∧ a ≠ tb ∧ Fld Z h a "java/lang/String" "value" "[B" (.ref tb) ∧ Arv Z h tb kt .byte (2 : Int32) [(.int (own_lo c0)), (.int (own_lo c1))] (.int (0 : Int32))
set_option maxHeartbeats 40000000 in
theorem own_rm7k2 (l : Launch) (Z : State) (a0 : Array Value) (hw : ∀ d ∈ tables_1, d.before a0 Z = true) (ws : List Jvm.Cond) (a : Addr) (b : Addr) (c0 : Int32) (c1 : Int32) (kb : ClassId) (cs : Int32) (uv : Value) (uc : Value) (h0 : Heap) (n0 : Nat) (Z0 : n0 ≤ h0.size) (E_a : Exa Z h0 a "java/lang/String") (g_a : n0 ≤ a) (F_value : Fld Z h0 a "java/lang/String" "value" "[B" uv) (F_coder : Fld Z h0 a "java/lang/String" "coder" "B" uc) (S_CS : Sta Z h0 "java/lang/String" "COMPACT_STRINGS" "Z" (.int cs)) (hcs : ¬ cs = (0 : Int32)) (V_b : Arv Z h0 b kb .char (2 : Int32) [(.int c0), (.int c1)] (.int (0 : Int32))) (hl0 : ¬ (255 : Int32) < c0) (hl1 : ¬ (255 : Int32) < c1) :
    MetFree l (⟨"java/lang/String", "<init>", "([C)V"⟩ : MethodName) (head1 (Jvm.Cond.code (⟨"java/lang/String", "<init>", "([C)V"⟩ : MethodName) jdk_42_method_3_code 2 none :: ws) ({ frames := 3, cells := 1, slots := 2, locals := 52 } : Room)) (fun argv U => argv = #[(.ref a), (.ref b)] ∧ Z.Warmed39 U.vm ∧ U.heap = h0) (fun _ _ _ _ _ => True) (fun _ U o U' => ∃ v L, o = .returned v ∧ own_Q7k2 Z a b c0 c1 kb cs uv uc h0 n0 v U'.heap L ∧ FrameEnd U o U' L ({ frames := 3, cells := 1, slots := 2, locals := 52 } : Room).cells ({ frames := 3, cells := 1, slots := 2, locals := 52 } : Room).slots) := by
  refine MetFree.of_bodySF (plainFor_of_name own_pn4) hisR ?_
  intro p e s m args below meth c s₁ Bd hml0 hP hK
  obtain ⟨rfl, hZ, hh⟩ := hP
  have hx := Bd.exec
  have hby := Bd.bytes
  have hml : c.maxLocals = 2 := hml0
  have hown : s.vm.findClass "java/lang/String" = some m.cls := findClass_of_methodNamed Bd.named
  have hnm := (name_of_methodNamed Bd.named Bd.method).1
  have X0 : Stand p l e ({ frames := 3, cells := 1, slots := 2, locals := 52 } : Room) s m #[(.ref a), (.ref b)] below meth c s₁ [] 0 0 := Stand.of_body Bd
  have e0 : s₁.heap = h0 := by rw [← hh, Bd.state]; rfl
  have N0 := Fr.nil n0
  have pre0 : ∀ t, Steps p.tables e below (s₁.setTop (mkF m 0 #[.val (.ref a), .val (.ref b)] [])) t → Steps p.tables e below (s₁.setTop (entryFrame m #[(.ref a), (.ref b)] 2)) t := fun t k => castTop (own_ef7k2 m a b) k
  have S1 : ∀ t, Steps p.tables e below (s₁.setTop (mkF m 4 #[.val (.ref a), .val (.ref b)] [(.ref b), (.int (0 : Int32)), (.ref b), (.ref a)])) t → Steps p.tables e below (s₁.setTop (entryFrame m #[(.ref a), (.ref b)] 2)) t := fun t kt => by
    refine pre0 t ?_
    show Steps p.tables e below (s₁.setTop (mkF m 0 #[.val (.ref a), .val (.ref b)] [])) t
    refine XS.aloadN X0.here hx rfl (hb hby own_d7_0) rfl rfl ?_
    show Steps p.tables e below (s₁.setTop (mkF m 1 #[.val (.ref a), .val (.ref b)] [(.ref a)])) t
    refine XS.aloadN X0.here hx rfl (hb hby own_d7_1) rfl rfl ?_
    show Steps p.tables e below (s₁.setTop (mkF m 2 #[.val (.ref a), .val (.ref b)] [(.ref b), (.ref a)])) t
    refine XS.iconst X0.here hx rfl (hb hby own_d7_2) ?_
    show Steps p.tables e below (s₁.setTop (mkF m 3 #[.val (.ref a), .val (.ref b)] [(.int (0 : Int32)), (.ref b), (.ref a)])) t
    refine XS.aloadN X0.here hx rfl (hb hby own_d7_3) rfl rfl ?_
    exact kt
  obtain ⟨cl2, Ar2, -, Sz2, Nn2, -, -⟩ := id V_b
  have S5 : ∀ t, Steps p.tables e below (s₁.setTop (mkF m 6 #[.val (.ref a), .val (.ref b)] [.null, (.int (2 : Int32)), (.int (0 : Int32)), (.ref b), (.ref a)])) t → Steps p.tables e below (s₁.setTop (entryFrame m #[(.ref a), (.ref b)] 2)) t := fun t kt => by
    refine S1 t ?_
    show Steps p.tables e below (s₁.setTop (mkF m 4 #[.val (.ref a), .val (.ref b)] [(.ref b), (.int (0 : Int32)), (.ref b), (.ref a)])) t
    refine X0.arraylength hx (by rw [e0]; exact Ar2.1) (State.isArrayOf_alike hZ.alike Ar2.2.1) (g := (mkF m 4 #[.val (.ref a), .val (.ref b)] [(.ref b), (.int (0 : Int32)), (.ref b), (.ref a)])) rfl rfl (hb hby own_d7_4) _ ?_
    rw [len_of Sz2 Nn2]
    show Steps p.tables e below (s₁.setTop (mkF m 5 #[.val (.ref a), .val (.ref b)] [(.int (2 : Int32)), (.int (0 : Int32)), (.ref b), (.ref a)])) t
    refine XS.aconstNull X0.here hx rfl (hb hby own_d7_5) ?_
    exact kt
  obtain ⟨_, _, ⟨T6, L6, k6, n6⟩, -, X6, ⟨Lc6, hQ6, l6, y6, z6⟩, st6⟩ := X0.specialBack hx (y := (⟨"java/lang/String", "<init>", "([CIILjava/lang/Void;)V"⟩ : MethodName)) rfl hown (mvT hZ (hw _ (List.mem_of_getElem? (i := 35) rfl))) (mvT hZ (hw _ (List.mem_of_getElem? (i := 36) rfl))) (mvT hZ (hw _ (List.mem_of_getElem? (i := 37) rfl))) (by decide) (backOf (W := 0) (own_rm8k2 l Z a0 hw [] (a) (b) (c0) (c1) (kb) (cs) (uv) (uc) h0 n0 Z0 E_a g_a F_value F_coder S_CS hcs V_b hl0 hl1) hZ (hw _ (List.mem_of_getElem? (i := 37) rfl)) (hw _ (List.mem_of_getElem? (i := 6) rfl)) (by decide) (by decide)) (g := (mkF m 6 #[.val (.ref a), .val (.ref b)] [.null, (.int (2 : Int32)), (.int (0 : Int32)), (.ref b), (.ref a)])) rfl (by rw [hml]; rfl) (Steps.refl _) (a := a) (argsL := [(.ref b), (.int (0 : Int32)), (.int (2 : Int32)), .null]) (rest := []) (lenOf own_pd5 rfl) rfl (by show 2 * 0 + _ ≤ _; exact Nat.le_of_eq rfl) (hb hby own_d7_6) (fun _ _ => ⟨rfl, e0, (by decide : 0 + 1 ≤ _), (by decide : 0 + 2 ≤ _)⟩)
  dsimp only [Pt.U, Pt.locs, Pt.cells, Pt.slots] at X6 l6 y6 z6 st6 hQ6
  subst l6 y6 z6
  obtain ⟨rfl, Nq6, Kc3, Ec3, Cc3, tb3, kt3, gt3, sz3, nat3, Fv3, Va3⟩ := hQ6
  have N7 := Fr.app N0 Nq6
  have S8 : ∀ t, Steps p.tables e below (T6.setTop (mkF m 9 #[.val (.ref a), .val (.ref b)] [])) t → Steps p.tables e below (s₁.setTop (entryFrame m #[(.ref a), (.ref b)] 2)) t := fun t kt => S5 t (st6.trans kt)
  have F9 := E_a.keep Kc3
  have F10 := own_StaK S_CS Kc3 (allS (own_ExaS E_a) all0)
  have F11 := V_b.keep Kc3 (ninS (Ne.symm (Exa.neArv E_a V_b (hw _ (List.mem_of_getElem? (i := 14) rfl)))) nin0)
  have K12 : Keep h0 T6.heap [a] := (Keep.refl h0 [a]).trans Kc3 (allS (Or.inl (List.mem_of_getElem? (i := 0) rfl)) all0)
  have ne_b_tb3 : b ≠ tb3 := Nat.ne_of_lt (Nat.lt_of_lt_of_le V_b.lt sz3)
  obtain ⟨fs, hr, hrun, hended, hW, hsame⟩ := X6.leave (v := none) (fun _ => rfl)
  refine ⟨_, _, S8 _ ?_, hrun, hended, _, _, rfl, ?_, ⟨_, rfl⟩, hW, hsame.mono (by decide) (by decide)⟩
  · show Steps p.tables e below (T6.setTop (mkF m 9 #[.val (.ref a), .val (.ref b)] [])) _
    exact X6.returnOut hx Bd.returns (hb hby own_d7_9) hr
  · show own_Q7k2 Z a b c0 c1 kb cs uv uc h0 n0 _ T6.heap _
    exact ⟨rfl, N7, K12, Ec3, Cc3, tb3, kt3, gt3, (Nat.le_trans (Keep.refl h0 [a]).1 sz3), nat3, Fv3, Va3⟩
theorem own_d8_8 : decode jdk_42_method_149_code 8 = .ok (.aload_n 0, 1) := by decide +kernel
theorem own_d8_9 : decode jdk_42_method_149_code 9 = .ok (.ldc 7, 2) := by decide +kernel
theorem own_d8_11 : decode jdk_42_method_149_code 11 = .ok (.getfield 9, 3) := by decide +kernel
theorem own_d8_14 : decode jdk_42_method_149_code 14 = .ok (.putfield 9, 3) := by decide +kernel
theorem own_d8_17 : decode jdk_42_method_149_code 17 = .ok (.aload_n 0, 1) := by decide +kernel
theorem own_d8_18 : decode jdk_42_method_149_code 18 = .ok (.ldc 7, 2) := by decide +kernel
theorem own_d8_20 : decode jdk_42_method_149_code 20 = .ok (.getfield 15, 3) := by decide +kernel
theorem own_d8_23 : decode jdk_42_method_149_code 23 = .ok (.putfield 15, 3) := by decide +kernel
theorem own_d8_26 : decode jdk_42_method_149_code 26 = .ok (.return_, 1) := by decide +kernel
theorem own_ef8k0 (m : MethodId) (x0 : Addr) (x1 : Addr) (x2 : Int32) (x3 : Int32) : entryFrame m #[(.ref x0), (.ref x1), (.int x2), (.int x3), .null] 6 = mkF m 0 #[.val (.ref x0), .val (.ref x1), .val (.int x2), .val (.int x3), .val .null, .unset] [] := by first | (simp [entryFrame, mkF, argsToLocals, Value.category]; done) | rfl
def own_Q8k0 (Z : State) (a : Addr) (b : Addr) (uv : Value) (uc : Value) (h0 : Heap) (n0 : Nat) (v : Option Value) (h : Heap) (L : List Loc) : Prop := v = none ∧ Fr n0 L ∧ Keep h0 h [a] ∧ Exa Z h a "java/lang/String" ∧ Fld Z h a "java/lang/String" "coder" "B" (.int (0 : Int32)) ∧ ∃ (tb : Addr) (kt : ClassId), a ≠ tb ∧ Fld Z h a "java/lang/String" "value" "[B" (.ref tb) ∧ Arv Z h tb kt .byte (0 : Int32) [] (.int (0 : Int32))
set_option maxHeartbeats 40000000 in
theorem own_rm8k0 (l : Launch) (Z : State) (a0 : Array Value) (hw : ∀ d ∈ tables_1, d.before a0 Z = true) (ws : List Jvm.Cond) (a : Addr) (b : Addr) (uv : Value) (uc : Value) (h0 : Heap) (n0 : Nat) (Z0 : n0 ≤ h0.size) (E_a : Exa Z h0 a "java/lang/String") (g_a : n0 ≤ a) (F_value : Fld Z h0 a "java/lang/String" "value" "[B" uv) (F_coder : Fld Z h0 a "java/lang/String" "coder" "B" uc) :
    MetFree l (⟨"java/lang/String", "<init>", "([CIILjava/lang/Void;)V"⟩ : MethodName) (head1 (Jvm.Cond.code (⟨"java/lang/String", "<init>", "([CIILjava/lang/Void;)V"⟩ : MethodName) jdk_42_method_149_code 6 none :: ws) ({ frames := 1, cells := 4, slots := 8, locals := 12 } : Room)) (fun argv U => argv = #[(.ref a), (.ref b), (.int (0 : Int32)), (.int (0 : Int32)), .null] ∧ Z.Warmed39 U.vm ∧ U.heap = h0 ∧ CHv Z own_EL U.vm h0 ∧ Safe Z own_EL U.vm h0 a) (fun _ _ _ _ _ => True) (fun _ U o U' => ∃ v L, o = .returned v ∧ own_Q8k0 Z a b uv uc h0 n0 v U'.heap L ∧ CHr Z own_EL U.vm U.heap U'.vm U'.heap ∧ ReturnedEndW U o U' L ({ frames := 1, cells := 4, slots := 8, locals := 12 } : Room).cells ({ frames := 1, cells := 4, slots := 8, locals := 12 } : Room).slots) := by
  refine MetFree.of_bodySF (plainFor_of_name own_pn4) hisR ?_
  intro p e s m args below meth c s₁ Bd hml0 hP hK
  obtain ⟨rfl, hZ, hh, hC0, Sf_a⟩ := hP
  have hx := Bd.exec
  have hby := Bd.bytes
  have hml : c.maxLocals = 6 := hml0
  have hown : s.vm.findClass "java/lang/String" = some m.cls := findClass_of_methodNamed Bd.named
  have hnm := (name_of_methodNamed Bd.named Bd.method).1
  have X0 : Stand p l e ({ frames := 1, cells := 4, slots := 8, locals := 12 } : Room) (s.setVm s.vm) m #[(.ref a), (.ref b), (.int (0 : Int32)), (.int (0 : Int32)), .null] below meth c s₁ [] 0 0 := Stand.of_body Bd
  have e0 : s₁.heap = h0 := by rw [← hh, Bd.state]; rfl
  have N0 := Fr.nil n0
  have pre0 : ∀ t, Steps p.tables e below (s₁.setTop (mkF m 0 #[.val (.ref a), .val (.ref b), .val (.int (0 : Int32)), .val (.int (0 : Int32)), .val .null, .unset] [])) t → Steps p.tables e below (s₁.setTop (entryFrame m #[(.ref a), (.ref b), (.int (0 : Int32)), (.int (0 : Int32)), .null] 6)) t := fun t k => castTop (own_ef8k0 m a b (0 : Int32) (0 : Int32)) k
  have CR0 : CHr Z own_EL s.vm h0 s.vm h0 := CHr.refl hC0
  have hEL := own_EW hw
  have hS0 : s.Since s.vm h0.size := (State.WarmedH.refl s).since _
  have wS := own_wS hw
  have S1 : ∀ t, Steps p.tables e below (s₁.setTop (mkF m 1 #[.val (.ref a), .val (.ref b), .val (.int (0 : Int32)), .val (.int (0 : Int32)), .val .null, .unset] [(.ref a)])) t → Steps p.tables e below (s₁.setTop (entryFrame m #[(.ref a), (.ref b), (.int (0 : Int32)), (.int (0 : Int32)), .null] 6)) t := fun t kt => by
    refine pre0 t ?_
    show Steps p.tables e below (s₁.setTop (mkF m 0 #[.val (.ref a), .val (.ref b), .val (.int (0 : Int32)), .val (.int (0 : Int32)), .val .null, .unset] [])) t
    refine XS.aloadN X0.here hx rfl (hb hby own_d8_0) rfl rfl ?_
    exact kt
  obtain ⟨T2, X2, e2, st2⟩ := initO X0 hx hZ hown (hw _ (List.mem_of_getElem? (i := 23) rfl)) (hw _ (List.mem_of_getElem? (i := 24) rfl)) (hw _ (List.mem_of_getElem? (i := 25) rfl)) e0 (g := (mkF m 1 #[.val (.ref a), .val (.ref b), .val (.int (0 : Int32)), .val (.int (0 : Int32)), .val .null, .unset] [(.ref a)])) rfl (by rw [hml]; rfl) rfl (hb hby own_d8_1) (by decide) (W := 0) (by show 2 * 0 + _ ≤ _; exact Nat.le_of_eq rfl) (by decide)
  have S3 : ∀ t, Steps p.tables e below (T2.setTop (mkF m 4 #[.val (.ref a), .val (.ref b), .val (.int (0 : Int32)), .val (.int (0 : Int32)), .val .null, .unset] [])) t → Steps p.tables e below (s₁.setTop (entryFrame m #[(.ref a), (.ref b), (.int (0 : Int32)), (.int (0 : Int32)), .null] 6)) t := fun t kt => S1 t (st2 _ kt)
  have S4 : ∀ t, Steps p.tables e below (T2.setTop (mkF m 5 #[.val (.ref a), .val (.ref b), .val (.int (0 : Int32)), .val (.int (0 : Int32)), .val .null, .unset] [(.int (0 : Int32))])) t → Steps p.tables e below (s₁.setTop (entryFrame m #[(.ref a), (.ref b), (.int (0 : Int32)), (.int (0 : Int32)), .null] 6)) t := fun t kt => by
    refine S3 t ?_
    show Steps p.tables e below (T2.setTop (mkF m 4 #[.val (.ref a), .val (.ref b), .val (.int (0 : Int32)), .val (.int (0 : Int32)), .val .null, .unset] [])) t
    refine XS.iloadN X2.here hx rfl (hb hby own_d8_4) rfl ?_
    exact kt
  have hc5_5 : (0 : Int32) = (0 : Int32) := by decide
  have S6 : ∀ t, Steps p.tables e below (T2.setTop (mkF m 9 #[.val (.ref a), .val (.ref b), .val (.int (0 : Int32)), .val (.int (0 : Int32)), .val .null, .unset] [(.ref a)])) t → Steps p.tables e below (s₁.setTop (entryFrame m #[(.ref a), (.ref b), (.int (0 : Int32)), (.int (0 : Int32)), .null] 6)) t := fun t kt => by
    refine S4 t ?_
    show Steps p.tables e below (T2.setTop (mkF m 5 #[.val (.ref a), .val (.ref b), .val (.int (0 : Int32)), .val (.int (0 : Int32)), .val .null, .unset] [(.int (0 : Int32))])) t
    refine XS.ifNo X2.here hx rfl (hb hby own_d8_5) rfl ((if0 _ _).trans (teq hc5_5).2) ?_
    show Steps p.tables e below (T2.setTop (mkF m 8 #[.val (.ref a), .val (.ref b), .val (.int (0 : Int32)), .val (.int (0 : Int32)), .val .null, .unset] [])) t
    refine XS.aloadN X2.here hx rfl (hb hby own_d8_8) rfl rfl ?_
    exact kt
  obtain ⟨lit7, T7, h7, k7, lby7, kb7, X7, e7, E7, hS7, hk7, hZ7, ho7, LE7, LC7, LV7, LA7, -, -, hC7, -, hNe7, st7⟩ := ldcCH (EL := own_EL) (z := (0 : Int32)) (vs := []) X2 hx hZ hown (hw _ (List.mem_of_getElem? (i := 38) rfl)) wS e2 hS0 (Nat.le_refl _) hEL (List.mem_of_getElem? (i := 1) rfl) CR0.1 ⟨by decide, by decide⟩ (by decide) (by decide) (g := (mkF m 9 #[.val (.ref a), .val (.ref b), .val (.int (0 : Int32)), .val (.int (0 : Int32)), .val .null, .unset] [(.ref a)])) rfl (hb hby own_d8_9) (n := 0) (by decide) (by decide) (by decide) (by decide)
  have S8 : ∀ t, Steps p.tables e below (T7.setTop (mkF m 11 #[.val (.ref a), .val (.ref b), .val (.int (0 : Int32)), .val (.int (0 : Int32)), .val .null, .unset] [(.ref lit7), (.ref a)])) t → Steps p.tables e below (s₁.setTop (entryFrame m #[(.ref a), (.ref b), (.int (0 : Int32)), (.int (0 : Int32)), .null] 6)) t := fun t kt => S6 t (st7 _ kt)
  have Sf9 := hC7.safe (E_a.lt) Sf_a
  have CR10 := CR0.trans hC7
  have ne_a_lit7 := (hNe7 _ Sf9).1
  have ne_a_lby7 := (hNe7 _ Sf9).2
  have F11 := E_a.ext E7
  have F12 := F_value.ext E7
  have F13 := F_coder.ext E7
  have K14 : Keep h0 h7 [a] := (Keep.refl h0 [a]).ext E7
  obtain ⟨T15, X15, e15, st15⟩ := getF X7 hx hZ7 ho7 (host := "") (Or.inl (hw _ (List.mem_of_getElem? (i := 26) rfl))) Via.refl e7 LV7 (g := (mkF m 11 #[.val (.ref a), .val (.ref b), .val (.int (0 : Int32)), .val (.int (0 : Int32)), .val .null, .unset] [(.ref lit7), (.ref a)])) rfl rfl (hb hby own_d8_11)
  have S16 : ∀ t, Steps p.tables e below (T15.setTop (mkF m 14 #[.val (.ref a), .val (.ref b), .val (.int (0 : Int32)), .val (.int (0 : Int32)), .val .null, .unset] [(.ref lby7), (.ref a)])) t → Steps p.tables e below (s₁.setTop (entryFrame m #[(.ref a), (.ref b), (.int (0 : Int32)), (.int (0 : Int32)), .null] 6)) t := fun t kt => S8 t (st15 _ kt)
  obtain ⟨T17, h17, X17, e17, W17, st17⟩ := putF X15 hx hZ7 ho7 (host := "") (Or.inl (hw _ (List.mem_of_getElem? (i := 26) rfl))) Via.refl e15 F12 F11 (Or.inr ⟨(hw _ (List.mem_of_getElem? (i := 27) rfl)), rfl, hnm⟩) (hw _ (List.mem_of_getElem? (i := 14) rfl)) (ty := (.array .byte)) (by decide) rfl rfl (g := (mkF m 14 #[.val (.ref a), .val (.ref b), .val (.int (0 : Int32)), .val (.int (0 : Int32)), .val .null, .unset] [(.ref lby7), (.ref a)])) rfl rfl (hb hby own_d8_14)
  have S18 : ∀ t, Steps p.tables e below (T17.setTop (mkF m 17 #[.val (.ref a), .val (.ref b), .val (.int (0 : Int32)), .val (.int (0 : Int32)), .val .null, .unset] [])) t → Steps p.tables e below (s₁.setTop (entryFrame m #[(.ref a), (.ref b), (.int (0 : Int32)), (.int (0 : Int32)), .null] 6)) t := fun t kt => S16 t (st17 _ kt)
  have Sf19 := Safe.wr W17 Sf9 CR10.1 Sf9
  have CR20 := CR10.trans (CHr.wr W17 Sf9 CR10.1)
  have F21 := F11.wr W17
  have F22 := F12.same W17
  have F23 := F13.other W17 (Or.inr (slot_ne (Or.inr (hw _ (List.mem_of_getElem? (i := 29) rfl))) (Or.inr (hw _ (List.mem_of_getElem? (i := 27) rfl))) (by decide) (t := .byte) (t' := (.array .byte)) (by decide) (by decide)))
  have F24 := LE7.wr W17
  have F25 := LC7.other W17 (Or.inl (Ne.symm ne_a_lit7))
  have F26 := LV7.other W17 (Or.inl (Ne.symm ne_a_lit7))
  have F27 := LA7.other W17 (Ne.symm ne_a_lby7)
  have N28 := Fr.snoc X17 N0 g_a
  have K29 : Keep h0 h17 [a] := K14.wr W17 (Or.inl (List.mem_of_getElem? (i := 0) rfl))
  have S30 : ∀ t, Steps p.tables e below (T17.setTop (mkF m 18 #[.val (.ref a), .val (.ref b), .val (.int (0 : Int32)), .val (.int (0 : Int32)), .val .null, .unset] [(.ref a)])) t → Steps p.tables e below (s₁.setTop (entryFrame m #[(.ref a), (.ref b), (.int (0 : Int32)), (.int (0 : Int32)), .null] 6)) t := fun t kt => by
    refine S18 t ?_
    show Steps p.tables e below (T17.setTop (mkF m 17 #[.val (.ref a), .val (.ref b), .val (.int (0 : Int32)), .val (.int (0 : Int32)), .val .null, .unset] [])) t
    refine XS.aloadN X17.here hx rfl (hb hby own_d8_17) rfl rfl ?_
    exact kt
  obtain ⟨lit31, T31, h31, k31, lby31, kb31, X31, e31, E31, hS31, hk31, hZ31, ho31, LE31, LC31, LV31, LA31, -, -, hC31, -, hNe31, st31⟩ := ldcCH (EL := own_EL) (z := (0 : Int32)) (vs := []) X17 hx hZ7 ho7 (hw _ (List.mem_of_getElem? (i := 38) rfl)) wS e17 hS7 (Nat.le_trans hk7 (Keep.of_wr W17).1) hEL (List.mem_of_getElem? (i := 1) rfl) CR20.1 ⟨by decide, by decide⟩ (by decide) (by decide) (g := (mkF m 18 #[.val (.ref a), .val (.ref b), .val (.int (0 : Int32)), .val (.int (0 : Int32)), .val .null, .unset] [(.ref a)])) rfl (hb hby own_d8_18) (n := 0) (by decide) (by decide) (by decide) (by decide)
  have S32 : ∀ t, Steps p.tables e below (T31.setTop (mkF m 20 #[.val (.ref a), .val (.ref b), .val (.int (0 : Int32)), .val (.int (0 : Int32)), .val .null, .unset] [(.ref lit31), (.ref a)])) t → Steps p.tables e below (s₁.setTop (entryFrame m #[(.ref a), (.ref b), (.int (0 : Int32)), (.int (0 : Int32)), .null] 6)) t := fun t kt => S30 t (st31 _ kt)
  have Sf33 := hC31.safe (F21.lt) Sf19
  have CR34 := CR20.trans hC31
  have ne_a_lit31 := (hNe31 _ Sf33).1
  have ne_a_lby31 := (hNe31 _ Sf33).2
  have F35 := F21.ext E31
  have F36 := F22.ext E31
  have F37 := F23.ext E31
  have F38 := F24.ext E31
  have F39 := F25.ext E31
  have F40 := F26.ext E31
  have F41 := F27.ext E31
  have K42 : Keep h0 h31 [a] := K29.ext E31
  obtain ⟨T43, X43, e43, st43⟩ := getF X31 hx hZ31 ho31 (host := "") (Or.inl (hw _ (List.mem_of_getElem? (i := 28) rfl))) Via.refl e31 LC31 (g := (mkF m 20 #[.val (.ref a), .val (.ref b), .val (.int (0 : Int32)), .val (.int (0 : Int32)), .val .null, .unset] [(.ref lit31), (.ref a)])) rfl rfl (hb hby own_d8_20)
  have S44 : ∀ t, Steps p.tables e below (T43.setTop (mkF m 23 #[.val (.ref a), .val (.ref b), .val (.int (0 : Int32)), .val (.int (0 : Int32)), .val .null, .unset] [(.int (0 : Int32)), (.ref a)])) t → Steps p.tables e below (s₁.setTop (entryFrame m #[(.ref a), (.ref b), (.int (0 : Int32)), (.int (0 : Int32)), .null] 6)) t := fun t kt => S32 t (st43 _ kt)
  obtain ⟨T45, h45, X45, e45, W45, st45⟩ := putFN X43 hx hZ31 ho31 (hw _ (List.mem_of_getElem? (i := 28) rfl)) Via.refl e43 F37 F35 (Or.inr ⟨(hw _ (List.mem_of_getElem? (i := 29) rfl)), rfl, hnm⟩) (hw _ (List.mem_of_getElem? (i := 14) rfl)) (ty := .byte) (v' := (.int (0 : Int32))) (by decide) rfl (by decide) (g := (mkF m 23 #[.val (.ref a), .val (.ref b), .val (.int (0 : Int32)), .val (.int (0 : Int32)), .val .null, .unset] [(.int (0 : Int32)), (.ref a)])) rfl rfl (hb hby own_d8_23)
  have S46 : ∀ t, Steps p.tables e below (T45.setTop (mkF m 26 #[.val (.ref a), .val (.ref b), .val (.int (0 : Int32)), .val (.int (0 : Int32)), .val .null, .unset] [])) t → Steps p.tables e below (s₁.setTop (entryFrame m #[(.ref a), (.ref b), (.int (0 : Int32)), (.int (0 : Int32)), .null] 6)) t := fun t kt => S44 t (st45 _ kt)
  have Sf47 := Safe.wr W45 Sf33 CR34.1 Sf33
  have CR48 := CR34.trans (CHr.wr W45 Sf33 CR34.1)
  have F49 := F35.wr W45
  have F50 := F36.other W45 (Or.inr (slot_ne (Or.inr (hw _ (List.mem_of_getElem? (i := 27) rfl))) (Or.inr (hw _ (List.mem_of_getElem? (i := 29) rfl))) (by decide) (t := (.array .byte)) (t' := .byte) (by decide) (by decide)))
  have F51 := F37.same W45
  have F52 := F38.wr W45
  have F53 := F39.other W45 (Or.inl (Ne.symm ne_a_lit7))
  have F54 := F40.other W45 (Or.inl (Ne.symm ne_a_lit7))
  have F55 := F41.other W45 (Ne.symm ne_a_lby7)
  have F56 := LE31.wr W45
  have F57 := LC31.other W45 (Or.inl (Ne.symm ne_a_lit31))
  have F58 := LV31.other W45 (Or.inl (Ne.symm ne_a_lit31))
  have F59 := LA31.other W45 (Ne.symm ne_a_lby31)
  have N60 := Fr.snoc X45 N28 g_a
  have K61 : Keep h0 h45 [a] := K42.wr W45 (Or.inl (List.mem_of_getElem? (i := 0) rfl))
  obtain ⟨fs, hr, hrun, hended, -, hW, hBk, hsame⟩ := X45.leaveW hS31 (by rw [e45]; exact (Nat.le_trans hk31 (Keep.of_wr W45).1)) (v := none) (fun _ => rfl)
  refine ⟨_, _, S46 _ ?_, hrun, hended, _, _, rfl, ?_, (by show CHr Z own_EL s.vm s.heap T45.vm T45.heap; rw [hh, e45]; exact CR48.trans (CHv.at X45 hZ31 hEL CR48.1)), ⟨_, rfl⟩, hW, hBk, hsame.mono (by decide) (by decide)⟩
  · show Steps p.tables e below (T45.setTop (mkF m 26 #[.val (.ref a), .val (.ref b), .val (.int (0 : Int32)), .val (.int (0 : Int32)), .val .null, .unset] [])) _
    exact X45.returnOut hx Bd.returns (hb hby own_d8_26) hr
  · show own_Q8k0 Z a b uv uc h0 n0 _ T45.heap _
    rw [e45]
    exact ⟨rfl, N60, K61, F49, F51, lby7, kb7, ne_a_lby7, F50, F55⟩
theorem own_ef7k0 (m : MethodId) (x0 : Addr) (x1 : Addr) : entryFrame m #[(.ref x0), (.ref x1)] 2 = mkF m 0 #[.val (.ref x0), .val (.ref x1)] [] := by first | (simp [entryFrame, mkF, argsToLocals, Value.category]; done) | rfl
def own_Q7k0 (Z : State) (a : Addr) (b : Addr) (kb : ClassId) (uv : Value) (uc : Value) (h0 : Heap) (n0 : Nat) (v : Option Value) (h : Heap) (L : List Loc) : Prop := v = none ∧ Fr n0 L ∧ Keep h0 h [a] ∧ Exa Z h a "java/lang/String" ∧ Fld Z h a "java/lang/String" "coder" "B" (.int (0 : Int32)) ∧ ∃ (tb : Addr) (kt : ClassId), a ≠ tb ∧ Fld Z h a "java/lang/String" "value" "[B" (.ref tb) ∧ Arv Z h tb kt .byte (0 : Int32) [] (.int (0 : Int32))
set_option maxHeartbeats 40000000 in
theorem own_rm7k0 (l : Launch) (Z : State) (a0 : Array Value) (hw : ∀ d ∈ tables_1, d.before a0 Z = true) (ws : List Jvm.Cond) (a : Addr) (b : Addr) (kb : ClassId) (uv : Value) (uc : Value) (h0 : Heap) (n0 : Nat) (Z0 : n0 ≤ h0.size) (E_a : Exa Z h0 a "java/lang/String") (g_a : n0 ≤ a) (F_value : Fld Z h0 a "java/lang/String" "value" "[B" uv) (F_coder : Fld Z h0 a "java/lang/String" "coder" "B" uc) (V_b : Arv Z h0 b kb .char (0 : Int32) [] (.int (0 : Int32))) :
    MetFree l (⟨"java/lang/String", "<init>", "([C)V"⟩ : MethodName) (head1 (Jvm.Cond.code (⟨"java/lang/String", "<init>", "([C)V"⟩ : MethodName) jdk_42_method_3_code 2 none :: ws) ({ frames := 2, cells := 4, slots := 8, locals := 29 } : Room)) (fun argv U => argv = #[(.ref a), (.ref b)] ∧ Z.Warmed39 U.vm ∧ U.heap = h0 ∧ CHv Z own_EL U.vm h0 ∧ Safe Z own_EL U.vm h0 a) (fun _ _ _ _ _ => True) (fun _ U o U' => ∃ v L, o = .returned v ∧ own_Q7k0 Z a b kb uv uc h0 n0 v U'.heap L ∧ CHr Z own_EL U.vm U.heap U'.vm U'.heap ∧ ReturnedEndW U o U' L ({ frames := 2, cells := 4, slots := 8, locals := 29 } : Room).cells ({ frames := 2, cells := 4, slots := 8, locals := 29 } : Room).slots) := by
  refine MetFree.of_bodySF (plainFor_of_name own_pn4) hisR ?_
  intro p e s m args below meth c s₁ Bd hml0 hP hK
  obtain ⟨rfl, hZ, hh, hC0, Sf_a⟩ := hP
  have hx := Bd.exec
  have hby := Bd.bytes
  have hml : c.maxLocals = 2 := hml0
  have hown : s.vm.findClass "java/lang/String" = some m.cls := findClass_of_methodNamed Bd.named
  have hnm := (name_of_methodNamed Bd.named Bd.method).1
  have X0 : Stand p l e ({ frames := 2, cells := 4, slots := 8, locals := 29 } : Room) (s.setVm s.vm) m #[(.ref a), (.ref b)] below meth c s₁ [] 0 0 := Stand.of_body Bd
  have e0 : s₁.heap = h0 := by rw [← hh, Bd.state]; rfl
  have N0 := Fr.nil n0
  have pre0 : ∀ t, Steps p.tables e below (s₁.setTop (mkF m 0 #[.val (.ref a), .val (.ref b)] [])) t → Steps p.tables e below (s₁.setTop (entryFrame m #[(.ref a), (.ref b)] 2)) t := fun t k => castTop (own_ef7k0 m a b) k
  have CR0 : CHr Z own_EL s.vm h0 s.vm h0 := CHr.refl hC0
  have hEL := own_EW hw
  have hS0 : s.Since s.vm h0.size := (State.WarmedH.refl s).since _
  have wS := own_wS hw
  have S1 : ∀ t, Steps p.tables e below (s₁.setTop (mkF m 4 #[.val (.ref a), .val (.ref b)] [(.ref b), (.int (0 : Int32)), (.ref b), (.ref a)])) t → Steps p.tables e below (s₁.setTop (entryFrame m #[(.ref a), (.ref b)] 2)) t := fun t kt => by
    refine pre0 t ?_
    show Steps p.tables e below (s₁.setTop (mkF m 0 #[.val (.ref a), .val (.ref b)] [])) t
    refine XS.aloadN X0.here hx rfl (hb hby own_d7_0) rfl rfl ?_
    show Steps p.tables e below (s₁.setTop (mkF m 1 #[.val (.ref a), .val (.ref b)] [(.ref a)])) t
    refine XS.aloadN X0.here hx rfl (hb hby own_d7_1) rfl rfl ?_
    show Steps p.tables e below (s₁.setTop (mkF m 2 #[.val (.ref a), .val (.ref b)] [(.ref b), (.ref a)])) t
    refine XS.iconst X0.here hx rfl (hb hby own_d7_2) ?_
    show Steps p.tables e below (s₁.setTop (mkF m 3 #[.val (.ref a), .val (.ref b)] [(.int (0 : Int32)), (.ref b), (.ref a)])) t
    refine XS.aloadN X0.here hx rfl (hb hby own_d7_3) rfl rfl ?_
    exact kt
  obtain ⟨cl2, Ar2, -, Sz2, Nn2, -, -⟩ := id V_b
  have S5 : ∀ t, Steps p.tables e below (s₁.setTop (mkF m 6 #[.val (.ref a), .val (.ref b)] [.null, (.int (0 : Int32)), (.int (0 : Int32)), (.ref b), (.ref a)])) t → Steps p.tables e below (s₁.setTop (entryFrame m #[(.ref a), (.ref b)] 2)) t := fun t kt => by
    refine S1 t ?_
    show Steps p.tables e below (s₁.setTop (mkF m 4 #[.val (.ref a), .val (.ref b)] [(.ref b), (.int (0 : Int32)), (.ref b), (.ref a)])) t
    refine X0.arraylength hx (by rw [e0]; exact Ar2.1) (State.isArrayOf_alike hZ.alike Ar2.2.1) (g := (mkF m 4 #[.val (.ref a), .val (.ref b)] [(.ref b), (.int (0 : Int32)), (.ref b), (.ref a)])) rfl rfl (hb hby own_d7_4) _ ?_
    rw [len_of Sz2 Nn2]
    show Steps p.tables e below (s₁.setTop (mkF m 5 #[.val (.ref a), .val (.ref b)] [(.int (0 : Int32)), (.int (0 : Int32)), (.ref b), (.ref a)])) t
    refine XS.aconstNull X0.here hx rfl (hb hby own_d7_5) ?_
    exact kt
  obtain ⟨_, _, ⟨T6, L6, k6, n6⟩, -, X6_, hSr6, hgr6, ⟨Lc6, hQ6, l6, y6, z6, hCr6⟩, st6⟩ := X0.specialBackS hx (y := (⟨"java/lang/String", "<init>", "([CIILjava/lang/Void;)V"⟩ : MethodName)) rfl hown (mvT hZ (hw _ (List.mem_of_getElem? (i := 35) rfl))) (mvT hZ (hw _ (List.mem_of_getElem? (i := 36) rfl))) (mvT hZ (hw _ (List.mem_of_getElem? (i := 37) rfl))) (by decide) (own_backSE (EL := own_EL) (s := s) (vm0 := s.vm) (W := 0) (own_rm8k0 l Z a0 hw [] (a) (b) (uv) (uc) h0 n0 Z0 E_a g_a F_value F_coder) hZ (hw _ (List.mem_of_getElem? (i := 37) rfl)) (hw _ (List.mem_of_getElem? (i := 6) rfl)) (by decide) (by decide) hEL CR0.1 (fun _ A => A.safe (E_a.lt) Sf_a)) (g := (mkF m 6 #[.val (.ref a), .val (.ref b)] [.null, (.int (0 : Int32)), (.int (0 : Int32)), (.ref b), (.ref a)])) rfl (by rw [hml]; rfl) (Steps.refl _) (a := a) (argsL := [(.ref b), (.int (0 : Int32)), (.int (0 : Int32)), .null]) (rest := []) (lenOf own_pd5 rfl) rfl (by show 2 * 0 + _ ≤ _; exact Nat.le_of_eq rfl) (hb hby own_d7_6) (fun _ _ => ⟨rfl, e0, (by decide : 0 + 4 ≤ _), (by decide : 0 + 8 ≤ _)⟩)
  dsimp only [Pt.U, Pt.locs, Pt.cells, Pt.slots] at X6_ hSr6 hgr6 l6 y6 z6 hCr6 st6 hQ6
  subst l6 y6 z6
  obtain ⟨X6, hS6, hZ6, ho6⟩ := rebS hS0 (by rw [e0]; exact (Nat.le_refl _)) X6_ hSr6 hgr6 hZ hown
  obtain ⟨rfl, Nq6, Kc3, Ec3, Cc3, tb3, kt3, nat3, Fv3, Va3⟩ := hQ6
  have N7 := Fr.app N0 Nq6
  have S8 : ∀ t, Steps p.tables e below (T6.setTop (mkF m 9 #[.val (.ref a), .val (.ref b)] [])) t → Steps p.tables e below (s₁.setTop (entryFrame m #[(.ref a), (.ref b)] 2)) t := fun t kt => S5 t (st6.trans kt)
  have Sf9 := hCr6.safe (E_a.lt) Sf_a
  have CR10 := CR0.trans hCr6
  have F11 := E_a.keep Kc3
  have F12 := V_b.keep Kc3 (ninS (Ne.symm (Exa.neArv E_a V_b (hw _ (List.mem_of_getElem? (i := 14) rfl)))) nin0)
  have K13 : Keep h0 T6.heap [a] := (Keep.refl h0 [a]).trans Kc3 (allS (Or.inl (List.mem_of_getElem? (i := 0) rfl)) all0)
  obtain ⟨fs, hr, hrun, hended, -, hW, hBk, hsame⟩ := X6.leaveW hS6 ((Nat.le_refl _)) (v := none) (fun _ => rfl)
  refine ⟨_, _, S8 _ ?_, hrun, hended, _, _, rfl, ?_, (by show CHr Z own_EL s.vm s.heap T6.vm T6.heap; rw [hh]; exact CR10.trans (CHv.at X6 hZ6 hEL CR10.1)), ⟨_, rfl⟩, hW, hBk, hsame.mono (by decide) (by decide)⟩
  · show Steps p.tables e below (T6.setTop (mkF m 9 #[.val (.ref a), .val (.ref b)] [])) _
    exact X6.returnOut hx Bd.returns (hb hby own_d7_9) hr
  · show own_Q7k0 Z a b kb uv uc h0 n0 _ T6.heap _
    exact ⟨rfl, N7, K13, Ec3, Cc3, tb3, kt3, nat3, Fv3, Va3⟩
theorem own_d3_0 : decode jdk_43_method_3_code 0 = .ok (.iload_n 0, 1) := by decide +kernel
theorem own_d3_1 : decode jdk_43_method_3_code 1 = .ok (.sipush 255, 3) := by decide +kernel
theorem own_d3_4 : decode jdk_43_method_3_code 4 = .ok (.if_icmp .gt 7, 3) := by decide +kernel
theorem own_d3_7 : decode jdk_43_method_3_code 7 = .ok (.iconst 1, 1) := by decide +kernel
theorem own_d3_8 : decode jdk_43_method_3_code 8 = .ok (.goto 4, 3) := by decide +kernel
theorem own_d3_12 : decode jdk_43_method_3_code 12 = .ok (.ireturn, 1) := by decide +kernel
theorem own_ef3 (m : MethodId) (x0 : Int32) : entryFrame m #[(.int x0)] 1 = mkF m 0 #[.val (.int x0)] [] := by first | (simp [entryFrame, mkF, argsToLocals, Value.category]; done) | rfl
def own_Q3 (Z : State)  (h0 : Heap) (n0 : Nat) (v : Option Value) (h : Heap) (L : List Loc) : Prop := v = some (.int (1 : Int32)) ∧ L = [] ∧ h = h0
theorem own_pn5 : plainName "java/lang/StringLatin1" = true := by first | (simp [plainName, overriddenIn]; done) | decide +kernel
set_option maxHeartbeats 40000000 in
theorem own_rm3 (l : Launch) (Z : State) (a0 : Array Value) (hw : ∀ d ∈ tables_1, d.before a0 Z = true) (ws : List Jvm.Cond)  (h0 : Heap) (n0 : Nat) (Z0 : n0 ≤ h0.size) :
    MetFree l (⟨"java/lang/StringLatin1", "canEncode", "(C)Z"⟩ : MethodName) (head1 (Jvm.Cond.code (⟨"java/lang/StringLatin1", "canEncode", "(C)Z"⟩ : MethodName) jdk_43_method_3_code 1 (some .boolean) :: ws) ({ frames := 0, cells := 0, slots := 0, locals := 0 } : Room)) (fun argv U => argv = #[(.int (42 : Int32))] ∧ Z.Warmed39 U.vm ∧ U.heap = h0) (fun _ _ _ _ _ => True) (fun _ U o U' => ∃ v L, o = .returned v ∧ own_Q3 Z  h0 n0 v U'.heap L ∧ FrameEnd U o U' L ({ frames := 0, cells := 0, slots := 0, locals := 0 } : Room).cells ({ frames := 0, cells := 0, slots := 0, locals := 0 } : Room).slots) := by
  refine MetFree.of_bodySF (plainFor_of_name own_pn5) hisR ?_
  intro p e s m args below meth c s₁ Bd hml0 hP hK
  obtain ⟨rfl, hZ, hh⟩ := hP
  have hx := Bd.exec
  have hby := Bd.bytes
  have hml : c.maxLocals = 1 := hml0
  have hown : s.vm.findClass "java/lang/StringLatin1" = some m.cls := findClass_of_methodNamed Bd.named
  have hnm := (name_of_methodNamed Bd.named Bd.method).1
  have X0 : Stand p l e ({ frames := 0, cells := 0, slots := 0, locals := 0 } : Room) s m #[(.int (42 : Int32))] below meth c s₁ [] 0 0 := Stand.of_body Bd
  have e0 : s₁.heap = h0 := by rw [← hh, Bd.state]; rfl
  have N0 := Fr.nil n0
  have pre0 : ∀ t, Steps p.tables e below (s₁.setTop (mkF m 0 #[.val (.int (42 : Int32))] [])) t → Steps p.tables e below (s₁.setTop (entryFrame m #[(.int (42 : Int32))] 1)) t := fun t k => castTop (own_ef3 m (42 : Int32)) k
  have S1 : ∀ t, Steps p.tables e below (s₁.setTop (mkF m 4 #[.val (.int (42 : Int32))] [(.int (255 : Int32)), (.int (42 : Int32))])) t → Steps p.tables e below (s₁.setTop (entryFrame m #[(.int (42 : Int32))] 1)) t := fun t kt => by
    refine pre0 t ?_
    show Steps p.tables e below (s₁.setTop (mkF m 0 #[.val (.int (42 : Int32))] [])) t
    refine XS.iloadN X0.here hx rfl (hb hby own_d3_0) rfl ?_
    show Steps p.tables e below (s₁.setTop (mkF m 1 #[.val (.int (42 : Int32))] [(.int (42 : Int32))])) t
    refine XS.sipush X0.here hx rfl (hb hby own_d3_1) ?_
    exact kt
  have hc4_2 : ¬ ((255 : Int32) < (42 : Int32)) := by decide
  have S3 : ∀ t, Steps p.tables e below (s₁.setTop (mkF m 12 #[.val (.int (42 : Int32))] [(.int (1 : Int32))])) t → Steps p.tables e below (s₁.setTop (entryFrame m #[(.int (42 : Int32))] 1)) t := fun t kt => by
    refine S1 t ?_
    show Steps p.tables e below (s₁.setTop (mkF m 4 #[.val (.int (42 : Int32))] [(.int (255 : Int32)), (.int (42 : Int32))])) t
    refine XS.icmpNo X0.here hx rfl (hb hby own_d3_4) rfl (flt hc4_2).2.2.1 ?_
    show Steps p.tables e below (s₁.setTop (mkF m 7 #[.val (.int (42 : Int32))] [])) t
    refine XS.iconst X0.here hx rfl (hb hby own_d3_7) ?_
    show Steps p.tables e below (s₁.setTop (mkF m 8 #[.val (.int (42 : Int32))] [(.int (1 : Int32))])) t
    refine XS.goto X0.here hx rfl (pc0 := 8) (pc' := 12) rfl (hb hby own_d3_8) (by decide) (by decide) ?_
    exact kt
  obtain ⟨fs, hr, hrun, hended, hW, hsame⟩ := X0.leave (v := some (.int (nar .boolean (1 : Int32)))) (fun h => by rw [Bd.returns] at h; cases h)
  refine ⟨_, _, S3 _ ?_, hrun, hended, _, _, rfl, ?_, ⟨_, rfl⟩, hW, hsame.mono (by decide) (by decide)⟩
  · show Steps p.tables e below (s₁.setTop (mkF m 12 #[.val (.int (42 : Int32))] [(.int (1 : Int32))])) _
    exact retN X0 hx (t := .boolean) Bd.returns (by simp) (hb hby own_d3_12) hr
  · show own_Q3 Z  h0 n0 _ s₁.heap _
    rw [e0]
    exact ⟨rfl, rfl, rfl⟩
theorem own_d4_0 : decode jdk_43_method_46_code 0 = .ok (.iconst 1, 1) := by decide +kernel
theorem own_d4_1 : decode jdk_43_method_46_code 1 = .ok (.newarray .byte, 2) := by decide +kernel
theorem own_d4_3 : decode jdk_43_method_46_code 3 = .ok (.dup, 1) := by decide +kernel
theorem own_d4_4 : decode jdk_43_method_46_code 4 = .ok (.iconst 0, 1) := by decide +kernel
theorem own_d4_5 : decode jdk_43_method_46_code 5 = .ok (.iload_n 0, 1) := by decide +kernel
theorem own_d4_6 : decode jdk_43_method_46_code 6 = .ok (.i2b, 1) := by decide +kernel
theorem own_d4_7 : decode jdk_43_method_46_code 7 = .ok (.bastore, 1) := by decide +kernel
theorem own_d4_8 : decode jdk_43_method_46_code 8 = .ok (.areturn, 1) := by decide +kernel
theorem own_ef4 (m : MethodId) (x0 : Int32) : entryFrame m #[(.int x0)] 1 = mkF m 0 #[.val (.int x0)] [] := by first | (simp [entryFrame, mkF, argsToLocals, Value.category]; done) | rfl
def own_Q4 (Z : State)  (h0 : Heap) (n0 : Nat) (v : Option Value) (h : Heap) (L : List Loc) : Prop := ∃ (tb : Addr) (kt : ClassId), v = some (.ref tb) ∧ Fr n0 L ∧ n0 ≤ tb ∧ h0.size ≤ tb ∧ Keep h0 h [] ∧ Arv Z h tb kt .byte (1 : Int32) [(.int (own_lo (42 : Int32)))] (.int (0 : Int32))
set_option maxHeartbeats 40000000 in
theorem own_rm4 (l : Launch) (Z : State) (a0 : Array Value) (hw : ∀ d ∈ tables_1, d.before a0 Z = true) (ws : List Jvm.Cond)  (h0 : Heap) (n0 : Nat) (Z0 : n0 ≤ h0.size) :
    MetFree l (⟨"java/lang/StringLatin1", "toBytes", "(C)[B"⟩ : MethodName) (head1 (Jvm.Cond.code (⟨"java/lang/StringLatin1", "toBytes", "(C)[B"⟩ : MethodName) jdk_43_method_46_code 1 (some (.array .byte)) :: ws) ({ frames := 0, cells := 1, slots := 1, locals := 0 } : Room)) (fun argv U => argv = #[(.int (42 : Int32))] ∧ Z.Warmed39 U.vm ∧ U.heap = h0) (fun _ _ _ _ _ => True) (fun _ U o U' => ∃ v L, o = .returned v ∧ own_Q4 Z  h0 n0 v U'.heap L ∧ FrameEnd U o U' L ({ frames := 0, cells := 1, slots := 1, locals := 0 } : Room).cells ({ frames := 0, cells := 1, slots := 1, locals := 0 } : Room).slots) := by
  refine MetFree.of_bodySF (plainFor_of_name own_pn5) hisR ?_
  intro p e s m args below meth c s₁ Bd hml0 hP hK
  obtain ⟨rfl, hZ, hh⟩ := hP
  have hx := Bd.exec
  have hby := Bd.bytes
  have hml : c.maxLocals = 1 := hml0
  have hown : s.vm.findClass "java/lang/StringLatin1" = some m.cls := findClass_of_methodNamed Bd.named
  have hnm := (name_of_methodNamed Bd.named Bd.method).1
  have X0 : Stand p l e ({ frames := 0, cells := 1, slots := 1, locals := 0 } : Room) s m #[(.int (42 : Int32))] below meth c s₁ [] 0 0 := Stand.of_body Bd
  have e0 : s₁.heap = h0 := by rw [← hh, Bd.state]; rfl
  have N0 := Fr.nil n0
  have pre0 : ∀ t, Steps p.tables e below (s₁.setTop (mkF m 0 #[.val (.int (42 : Int32))] [])) t → Steps p.tables e below (s₁.setTop (entryFrame m #[(.int (42 : Int32))] 1)) t := fun t k => castTop (own_ef4 m (42 : Int32)) k
  have S1 : ∀ t, Steps p.tables e below (s₁.setTop (mkF m 1 #[.val (.int (42 : Int32))] [(.int (1 : Int32))])) t → Steps p.tables e below (s₁.setTop (entryFrame m #[(.int (42 : Int32))] 1)) t := fun t kt => by
    refine pre0 t ?_
    show Steps p.tables e below (s₁.setTop (mkF m 0 #[.val (.int (42 : Int32))] [])) t
    refine XS.iconst X0.here hx rfl (hb hby own_d4_0) ?_
    exact kt
  obtain ⟨T2, h2, k2, X2, e2, E2, A2, st2⟩ := newP X0 hx hZ (hw _ (List.mem_of_getElem? (i := 18) rfl)) e0 (g := (mkF m 1 #[.val (.int (42 : Int32))] [(.int (1 : Int32))])) rfl (hb hby own_d4_1) rfl (by decide) (cap := 1) (by decide) (by decide) (by decide) (by decide)
  obtain ⟨b2, g2⟩ : ∃ z, z = h0.size := ⟨_, rfl⟩
  rw [← g2] at A2 st2
  have S3 : ∀ t, Steps p.tables e below (T2.setTop (mkF m 3 #[.val (.int (42 : Int32))] [(.ref b2)])) t → Steps p.tables e below (s₁.setTop (entryFrame m #[(.int (42 : Int32))] 1)) t := fun t kt => S1 t (st2 _ kt)
  have g_b2 : n0 ≤ b2 := Nat.le_trans Z0 (Nat.le_of_eq g2.symm)
  have sz_b2 : h0.size ≤ b2 := Nat.le_trans (Keep.refl h0 []).1 (Nat.le_of_eq g2.symm)
  have K4 : Keep h0 h2 [] := (Keep.refl h0 []).ext E2
  have V5 : Arv Z h2 b2 k2 .byte (1 : Int32) [(.int (0 : Int32))] (.int (0 : Int32)) := (Arv.new A2 (by decide)).pad (pad_rep [] (.int (0 : Int32)) 1)
  have S6 : ∀ t, Steps p.tables e below (T2.setTop (mkF m 7 #[.val (.int (42 : Int32))] [(.int ((42 : Int32).toInt8.toInt32)), (.int (0 : Int32)), (.ref b2), (.ref b2)])) t → Steps p.tables e below (s₁.setTop (entryFrame m #[(.int (42 : Int32))] 1)) t := fun t kt => by
    refine S3 t ?_
    show Steps p.tables e below (T2.setTop (mkF m 3 #[.val (.int (42 : Int32))] [(.ref b2)])) t
    refine XS.dup X2.here hx rfl (hb hby own_d4_3) rfl rfl ?_
    show Steps p.tables e below (T2.setTop (mkF m 4 #[.val (.int (42 : Int32))] [(.ref b2), (.ref b2)])) t
    refine XS.iconst X2.here hx rfl (hb hby own_d4_4) ?_
    show Steps p.tables e below (T2.setTop (mkF m 5 #[.val (.int (42 : Int32))] [(.int (0 : Int32)), (.ref b2), (.ref b2)])) t
    refine XS.iloadN X2.here hx rfl (hb hby own_d4_5) rfl ?_
    show Steps p.tables e below (T2.setTop (mkF m 6 #[.val (.int (42 : Int32))] [(.int (42 : Int32)), (.int (0 : Int32)), (.ref b2), (.ref b2)])) t
    refine XS.i2b X2.here hx rfl (hb hby own_d4_6) rfl ?_
    exact kt
  obtain ⟨cl7, Ar7, q7, Sz7, Nn7, Hh7, Gg7⟩ := id V5
  have hin7 : ¬ ((0 : Int32) < 0 ∨ cl7.slots.size ≤ ((0 : Int32)).toNatClampNeg) := inb_of Sz7 ⟨by decide, by decide⟩
  obtain ⟨T8, h8, X8, e8, W8, st8⟩ := stB X2 hx hZ e2 Ar7 (j := (0 : Int32)) hin7 (g := (mkF m 7 #[.val (.int (42 : Int32))] [(.int ((42 : Int32).toInt8.toInt32)), (.int (0 : Int32)), (.ref b2), (.ref b2)])) rfl rfl (hb hby own_d4_7)
  have S9 : ∀ t, Steps p.tables e below (T8.setTop (mkF m 8 #[.val (.int (42 : Int32))] [(.ref b2)])) t → Steps p.tables e below (s₁.setTop (entryFrame m #[(.int (42 : Int32))] 1)) t := fun t kt => S6 t (st8 _ kt)
  have V10 := Arv.set Ar7 q7 Sz7 Nn7 Hh7 Gg7 (fits_nar_byte _) W8 0 rfl (Nat.le_of_ble_eq_true rfl)
  have N11 := Fr.snoc X8 N0 g_b2
  have K12 : Keep h0 h8 [] := K4.wr W8 (Or.inr sz_b2)
  obtain ⟨fs, hr, hrun, hended, hW, hsame⟩ := X8.leave (v := some (.ref b2)) (fun h => by rw [Bd.returns] at h; cases h)
  refine ⟨_, _, S9 _ ?_, hrun, hended, _, _, rfl, ?_, ⟨_, rfl⟩, hW, hsame.mono (by decide) (by decide)⟩
  · show Steps p.tables e below (T8.setTop (mkF m 8 #[.val (.int (42 : Int32))] [(.ref b2)])) _
    jvm_step X8.here [X8.here.top, hx, (hb hby own_d4_8), X8.method', Bd.returns, Value.isRef, FieldType.isReference]
    first | (intro acts; rw [hr _ acts rfl rfl rfl]) | rw [hr _ _ rfl rfl rfl]
    exact Steps.refl _
  · show own_Q4 Z  h0 n0 _ T8.heap _
    rw [e8]
    exact ⟨b2, k2, rfl, N11, g_b2, sz_b2, K12, (by have q : Arv Z h8 b2 k2 .byte (1 : Int32) [(.int (nar .byte ((42 : Int32).toInt8.toInt32)))] (.int (0 : Int32)) := V10; simp only [own_lolo] at q; exact q)⟩
theorem own_d5_0 : decode jdk_42_method_151_code 0 = .ok (.aload_n 0, 1) := by decide +kernel
theorem own_d5_1 : decode jdk_42_method_151_code 1 = .ok (.invokespecial 1, 3) := by decide +kernel
theorem own_d5_4 : decode jdk_42_method_151_code 4 = .ok (.aload_n 0, 1) := by decide +kernel
theorem own_d5_5 : decode jdk_42_method_151_code 5 = .ok (.aload_n 1, 1) := by decide +kernel
theorem own_d5_6 : decode jdk_42_method_151_code 6 = .ok (.putfield 9, 3) := by decide +kernel
theorem own_d5_9 : decode jdk_42_method_151_code 9 = .ok (.aload_n 0, 1) := by decide +kernel
theorem own_d5_10 : decode jdk_42_method_151_code 10 = .ok (.iload_n 2, 1) := by decide +kernel
theorem own_d5_11 : decode jdk_42_method_151_code 11 = .ok (.putfield 15, 3) := by decide +kernel
theorem own_d5_14 : decode jdk_42_method_151_code 14 = .ok (.return_, 1) := by decide +kernel
theorem own_ef5 (m : MethodId) (x0 : Addr) (x1 : Addr) (x2 : Int32) : entryFrame m #[(.ref x0), (.ref x1), (.int x2)] 3 = mkF m 0 #[.val (.ref x0), .val (.ref x1), .val (.int x2)] [] := by first | (simp [entryFrame, mkF, argsToLocals, Value.category]; done) | rfl
def own_Q5 (Z : State) (a : Addr) (tb : Addr) (uv : Value) (uc : Value) (h0 : Heap) (n0 : Nat) (v : Option Value) (h : Heap) (L : List Loc) : Prop := v = none ∧ Fr n0 L ∧ Keep h0 h [a] ∧ Exa Z h a "java/lang/String" ∧ Fld Z h a "java/lang/String" "coder" "B" (.int (0 : Int32)) ∧ Fld Z h a "java/lang/String" "value" "[B" (.ref tb)
set_option maxHeartbeats 40000000 in
theorem own_rm5 (l : Launch) (Z : State) (a0 : Array Value) (hw : ∀ d ∈ tables_1, d.before a0 Z = true) (ws : List Jvm.Cond) (a : Addr) (tb : Addr) (uv : Value) (uc : Value) (h0 : Heap) (n0 : Nat) (Z0 : n0 ≤ h0.size) (E_a : Exa Z h0 a "java/lang/String") (g_a : n0 ≤ a) (F_value : Fld Z h0 a "java/lang/String" "value" "[B" uv) (F_coder : Fld Z h0 a "java/lang/String" "coder" "B" uc) :
    MetFree l (⟨"java/lang/String", "<init>", "([BB)V"⟩ : MethodName) (head1 (Jvm.Cond.code (⟨"java/lang/String", "<init>", "([BB)V"⟩ : MethodName) jdk_42_method_151_code 3 none :: ws) ({ frames := 1, cells := 0, slots := 0, locals := 12 } : Room)) (fun argv U => argv = #[(.ref a), (.ref tb), (.int (0 : Int32))] ∧ Z.Warmed39 U.vm ∧ U.heap = h0) (fun _ _ _ _ _ => True) (fun _ U o U' => ∃ v L, o = .returned v ∧ own_Q5 Z a tb uv uc h0 n0 v U'.heap L ∧ FrameEnd U o U' L ({ frames := 1, cells := 0, slots := 0, locals := 12 } : Room).cells ({ frames := 1, cells := 0, slots := 0, locals := 12 } : Room).slots) := by
  refine MetFree.of_bodySF (plainFor_of_name own_pn4) hisR ?_
  intro p e s m args below meth c s₁ Bd hml0 hP hK
  obtain ⟨rfl, hZ, hh⟩ := hP
  have hx := Bd.exec
  have hby := Bd.bytes
  have hml : c.maxLocals = 3 := hml0
  have hown : s.vm.findClass "java/lang/String" = some m.cls := findClass_of_methodNamed Bd.named
  have hnm := (name_of_methodNamed Bd.named Bd.method).1
  have X0 : Stand p l e ({ frames := 1, cells := 0, slots := 0, locals := 12 } : Room) s m #[(.ref a), (.ref tb), (.int (0 : Int32))] below meth c s₁ [] 0 0 := Stand.of_body Bd
  have e0 : s₁.heap = h0 := by rw [← hh, Bd.state]; rfl
  have N0 := Fr.nil n0
  have pre0 : ∀ t, Steps p.tables e below (s₁.setTop (mkF m 0 #[.val (.ref a), .val (.ref tb), .val (.int (0 : Int32))] [])) t → Steps p.tables e below (s₁.setTop (entryFrame m #[(.ref a), (.ref tb), (.int (0 : Int32))] 3)) t := fun t k => castTop (own_ef5 m a tb (0 : Int32)) k
  have S1 : ∀ t, Steps p.tables e below (s₁.setTop (mkF m 1 #[.val (.ref a), .val (.ref tb), .val (.int (0 : Int32))] [(.ref a)])) t → Steps p.tables e below (s₁.setTop (entryFrame m #[(.ref a), (.ref tb), (.int (0 : Int32))] 3)) t := fun t kt => by
    refine pre0 t ?_
    show Steps p.tables e below (s₁.setTop (mkF m 0 #[.val (.ref a), .val (.ref tb), .val (.int (0 : Int32))] [])) t
    refine XS.aloadN X0.here hx rfl (hb hby own_d5_0) rfl rfl ?_
    exact kt
  obtain ⟨T2, X2, e2, st2⟩ := initO X0 hx hZ hown (hw _ (List.mem_of_getElem? (i := 23) rfl)) (hw _ (List.mem_of_getElem? (i := 24) rfl)) (hw _ (List.mem_of_getElem? (i := 25) rfl)) e0 (g := (mkF m 1 #[.val (.ref a), .val (.ref tb), .val (.int (0 : Int32))] [(.ref a)])) rfl (by rw [hml]; rfl) rfl (hb hby own_d5_1) (by decide) (W := 0) (by show 2 * 0 + _ ≤ _; exact Nat.le_of_eq rfl) (by decide)
  have S3 : ∀ t, Steps p.tables e below (T2.setTop (mkF m 4 #[.val (.ref a), .val (.ref tb), .val (.int (0 : Int32))] [])) t → Steps p.tables e below (s₁.setTop (entryFrame m #[(.ref a), (.ref tb), (.int (0 : Int32))] 3)) t := fun t kt => S1 t (st2 _ kt)
  have S4 : ∀ t, Steps p.tables e below (T2.setTop (mkF m 6 #[.val (.ref a), .val (.ref tb), .val (.int (0 : Int32))] [(.ref tb), (.ref a)])) t → Steps p.tables e below (s₁.setTop (entryFrame m #[(.ref a), (.ref tb), (.int (0 : Int32))] 3)) t := fun t kt => by
    refine S3 t ?_
    show Steps p.tables e below (T2.setTop (mkF m 4 #[.val (.ref a), .val (.ref tb), .val (.int (0 : Int32))] [])) t
    refine XS.aloadN X2.here hx rfl (hb hby own_d5_4) rfl rfl ?_
    show Steps p.tables e below (T2.setTop (mkF m 5 #[.val (.ref a), .val (.ref tb), .val (.int (0 : Int32))] [(.ref a)])) t
    refine XS.aloadN X2.here hx rfl (hb hby own_d5_5) rfl rfl ?_
    exact kt
  obtain ⟨T5, h5, X5, e5, W5, st5⟩ := putF X2 hx hZ hown (host := "") (Or.inl (hw _ (List.mem_of_getElem? (i := 26) rfl))) Via.refl e2 F_value E_a (Or.inr ⟨(hw _ (List.mem_of_getElem? (i := 27) rfl)), rfl, hnm⟩) (hw _ (List.mem_of_getElem? (i := 14) rfl)) (ty := (.array .byte)) (by decide) rfl rfl (g := (mkF m 6 #[.val (.ref a), .val (.ref tb), .val (.int (0 : Int32))] [(.ref tb), (.ref a)])) rfl rfl (hb hby own_d5_6)
  have S6 : ∀ t, Steps p.tables e below (T5.setTop (mkF m 9 #[.val (.ref a), .val (.ref tb), .val (.int (0 : Int32))] [])) t → Steps p.tables e below (s₁.setTop (entryFrame m #[(.ref a), (.ref tb), (.int (0 : Int32))] 3)) t := fun t kt => S4 t (st5 _ kt)
  have F7 := E_a.wr W5
  have F8 := F_value.same W5
  have F9 := F_coder.other W5 (Or.inr (slot_ne (Or.inr (hw _ (List.mem_of_getElem? (i := 29) rfl))) (Or.inr (hw _ (List.mem_of_getElem? (i := 27) rfl))) (by decide) (t := .byte) (t' := (.array .byte)) (by decide) (by decide)))
  have N10 := Fr.snoc X5 N0 g_a
  have K11 : Keep h0 h5 [a] := (Keep.refl h0 [a]).wr W5 (Or.inl (List.mem_of_getElem? (i := 0) rfl))
  have S12 : ∀ t, Steps p.tables e below (T5.setTop (mkF m 11 #[.val (.ref a), .val (.ref tb), .val (.int (0 : Int32))] [(.int (0 : Int32)), (.ref a)])) t → Steps p.tables e below (s₁.setTop (entryFrame m #[(.ref a), (.ref tb), (.int (0 : Int32))] 3)) t := fun t kt => by
    refine S6 t ?_
    show Steps p.tables e below (T5.setTop (mkF m 9 #[.val (.ref a), .val (.ref tb), .val (.int (0 : Int32))] [])) t
    refine XS.aloadN X5.here hx rfl (hb hby own_d5_9) rfl rfl ?_
    show Steps p.tables e below (T5.setTop (mkF m 10 #[.val (.ref a), .val (.ref tb), .val (.int (0 : Int32))] [(.ref a)])) t
    refine XS.iloadN X5.here hx rfl (hb hby own_d5_10) rfl ?_
    exact kt
  obtain ⟨T13, h13, X13, e13, W13, st13⟩ := putFN X5 hx hZ hown (hw _ (List.mem_of_getElem? (i := 28) rfl)) Via.refl e5 F9 F7 (Or.inr ⟨(hw _ (List.mem_of_getElem? (i := 29) rfl)), rfl, hnm⟩) (hw _ (List.mem_of_getElem? (i := 14) rfl)) (ty := .byte) (v' := (.int (0 : Int32))) (by decide) rfl (by decide) (g := (mkF m 11 #[.val (.ref a), .val (.ref tb), .val (.int (0 : Int32))] [(.int (0 : Int32)), (.ref a)])) rfl rfl (hb hby own_d5_11)
  have S14 : ∀ t, Steps p.tables e below (T13.setTop (mkF m 14 #[.val (.ref a), .val (.ref tb), .val (.int (0 : Int32))] [])) t → Steps p.tables e below (s₁.setTop (entryFrame m #[(.ref a), (.ref tb), (.int (0 : Int32))] 3)) t := fun t kt => S12 t (st13 _ kt)
  have F15 := F7.wr W13
  have F16 := F8.other W13 (Or.inr (slot_ne (Or.inr (hw _ (List.mem_of_getElem? (i := 27) rfl))) (Or.inr (hw _ (List.mem_of_getElem? (i := 29) rfl))) (by decide) (t := (.array .byte)) (t' := .byte) (by decide) (by decide)))
  have F17 := F9.same W13
  have N18 := Fr.snoc X13 N10 g_a
  have K19 : Keep h0 h13 [a] := K11.wr W13 (Or.inl (List.mem_of_getElem? (i := 0) rfl))
  obtain ⟨fs, hr, hrun, hended, hW, hsame⟩ := X13.leave (v := none) (fun _ => rfl)
  refine ⟨_, _, S14 _ ?_, hrun, hended, _, _, rfl, ?_, ⟨_, rfl⟩, hW, hsame.mono (by decide) (by decide)⟩
  · show Steps p.tables e below (T13.setTop (mkF m 14 #[.val (.ref a), .val (.ref tb), .val (.int (0 : Int32))] [])) _
    exact X13.returnOut hx Bd.returns (hb hby own_d5_14) hr
  · show own_Q5 Z a tb uv uc h0 n0 _ T13.heap _
    rw [e13]
    exact ⟨rfl, N18, K19, F15, F17, F16⟩
theorem own_pd6 : parseMethodDescriptor "(C)Z" = some ⟨[.char], some .boolean⟩ := by decide +kernel
theorem own_pd7 : parseMethodDescriptor "(C)[B" = some ⟨[.char], some (.array .byte)⟩ := by decide +kernel
theorem own_pd8 : parseMethodDescriptor "([BB)V" = some ⟨[(.array .byte), .byte], none⟩ := by decide +kernel
theorem own_d2_0 : decode jdk_42_method_139_code 0 = .ok (.getstatic 38, 3) := by decide +kernel
theorem own_d2_3 : decode jdk_42_method_139_code 3 = .ok (.ifCond .eq 23, 3) := by decide +kernel
theorem own_d2_6 : decode jdk_42_method_139_code 6 = .ok (.iload_n 0, 1) := by decide +kernel
theorem own_d2_7 : decode jdk_42_method_139_code 7 = .ok (.invokestatic 1015, 3) := by decide +kernel
theorem own_d2_10 : decode jdk_42_method_139_code 10 = .ok (.ifCond .eq 16, 3) := by decide +kernel
theorem own_d2_13 : decode jdk_42_method_139_code 13 = .ok (.new 10, 3) := by decide +kernel
theorem own_d2_16 : decode jdk_42_method_139_code 16 = .ok (.dup, 1) := by decide +kernel
theorem own_d2_17 : decode jdk_42_method_139_code 17 = .ok (.iload_n 0, 1) := by decide +kernel
theorem own_d2_18 : decode jdk_42_method_139_code 18 = .ok (.invokestatic 1018, 3) := by decide +kernel
theorem own_d2_21 : decode jdk_42_method_139_code 21 = .ok (.iconst 0, 1) := by decide +kernel
theorem own_d2_22 : decode jdk_42_method_139_code 22 = .ok (.invokespecial 209, 3) := by decide +kernel
theorem own_d2_25 : decode jdk_42_method_139_code 25 = .ok (.areturn, 1) := by decide +kernel
theorem own_ef2 (m : MethodId) (x0 : Int32) : entryFrame m #[(.int x0)] 1 = mkF m 0 #[.val (.int x0)] [] := by first | (simp [entryFrame, mkF, argsToLocals, Value.category]; done) | rfl
def own_Q2 (Z : State) (cs : Int32) (h0 : Heap) (n0 : Nat) (v : Option Value) (h : Heap) (L : List Loc) : Prop := ∃ (r tb : Addr) (kt : ClassId), v = some (.ref r) ∧ Fr n0 L ∧ Keep h0 h [] ∧ Exa Z h r "java/lang/String" ∧ Fld Z h r "java/lang/String" "coder" "B" (.int (0 : Int32)) ∧ Fld Z h r "java/lang/String" "value" "[B" (.ref tb) ∧ Arv Z h tb kt .byte (1 : Int32) [(.int (own_lo (42 : Int32)))] (.int (0 : Int32))
set_option maxHeartbeats 40000000 in
theorem own_rm2 (l : Launch) (Z : State) (a0 : Array Value) (hw : ∀ d ∈ tables_1, d.before a0 Z = true) (ws : List Jvm.Cond) (cs : Int32) (h0 : Heap) (n0 : Nat) (Z0 : n0 ≤ h0.size) (S_CS : Sta Z h0 "java/lang/String" "COMPACT_STRINGS" "Z" (.int cs)) (hcs : ¬ cs = (0 : Int32)) :
    MetFree l (⟨"java/lang/String", "valueOf", "(C)Ljava/lang/String;"⟩ : MethodName) (head1 (Jvm.Cond.code (⟨"java/lang/String", "valueOf", "(C)Ljava/lang/String;"⟩ : MethodName) jdk_42_method_139_code 1 (some (.object "java/lang/String")) :: ws) ({ frames := 2, cells := 2, slots := 5, locals := 27 } : Room)) (fun argv U => argv = #[(.int (42 : Int32))] ∧ Z.Warmed39 U.vm ∧ U.heap = h0) (fun _ _ _ _ _ => True) (fun _ U o U' => ∃ v L, o = .returned v ∧ own_Q2 Z cs h0 n0 v U'.heap L ∧ FrameEnd U o U' L ({ frames := 2, cells := 2, slots := 5, locals := 27 } : Room).cells ({ frames := 2, cells := 2, slots := 5, locals := 27 } : Room).slots) := by
  refine MetFree.of_bodySF (plainFor_of_name own_pn4) hisR ?_
  intro p e s m args below meth c s₁ Bd hml0 hP hK
  obtain ⟨rfl, hZ, hh⟩ := hP
  have hx := Bd.exec
  have hby := Bd.bytes
  have hml : c.maxLocals = 1 := hml0
  have hown : s.vm.findClass "java/lang/String" = some m.cls := findClass_of_methodNamed Bd.named
  have hnm := (name_of_methodNamed Bd.named Bd.method).1
  have X0 : Stand p l e ({ frames := 2, cells := 2, slots := 5, locals := 27 } : Room) s m #[(.int (42 : Int32))] below meth c s₁ [] 0 0 := Stand.of_body Bd
  have e0 : s₁.heap = h0 := by rw [← hh, Bd.state]; rfl
  have N0 := Fr.nil n0
  have pre0 : ∀ t, Steps p.tables e below (s₁.setTop (mkF m 0 #[.val (.int (42 : Int32))] [])) t → Steps p.tables e below (s₁.setTop (entryFrame m #[(.int (42 : Int32))] 1)) t := fun t k => castTop (own_ef2 m (42 : Int32)) k
  obtain ⟨T1, X1, e1, st1⟩ := getS2 X0 hx hZ hown (host := "") (Or.inl (hw _ (List.mem_of_getElem? (i := 8) rfl))) Via.refl e0 S_CS (g := (mkF m 0 #[.val (.int (42 : Int32))] [])) rfl (hb hby own_d2_0)
  have S2 : ∀ t, Steps p.tables e below (T1.setTop (mkF m 3 #[.val (.int (42 : Int32))] [(.int cs)])) t → Steps p.tables e below (s₁.setTop (entryFrame m #[(.int (42 : Int32))] 1)) t := fun t kt => pre0 t (st1 _ kt)
  have hc3_3 : ¬ (cs = (0 : Int32)) := hcs
  have S5 : ∀ t, Steps p.tables e below (T1.setTop (mkF m 7 #[.val (.int (42 : Int32))] [(.int (42 : Int32))])) t → Steps p.tables e below (s₁.setTop (entryFrame m #[(.int (42 : Int32))] 1)) t := fun t kt => by
    refine S2 t ?_
    show Steps p.tables e below (T1.setTop (mkF m 3 #[.val (.int (42 : Int32))] [(.int cs)])) t
    refine XS.ifNo X1.here hx rfl (hb hby own_d2_3) rfl ((if0 _ _).trans (feq hc3_3).1) ?_
    show Steps p.tables e below (T1.setTop (mkF m 6 #[.val (.int (42 : Int32))] [])) t
    refine XS.iloadN X1.here hx rfl (hb hby own_d2_6) rfl ?_
    exact kt
  obtain ⟨_, _, ⟨T6, L6, k6, n6⟩, -, X6, ⟨Lc6, hQ6, l6, y6, z6⟩, st6⟩ := Jvm.LawKit.callS X1 hx (y := (⟨"java/lang/StringLatin1", "canEncode", "(C)Z"⟩ : MethodName)) hown (mvT hZ (hw _ (List.mem_of_getElem? (i := 9) rfl))) (mvT hZ (hw _ (List.mem_of_getElem? (i := 10) rfl))) (mvT hZ (hw _ (List.mem_of_getElem? (i := 11) rfl))) (mvT hZ (hw _ (List.mem_of_getElem? (i := 12) rfl))) (by decide) (backOf (W := 0) (own_rm3 l Z a0 hw []  h0 n0 Z0) hZ (hw _ (List.mem_of_getElem? (i := 12) rfl)) (hw _ (List.mem_of_getElem? (i := 11) rfl)) (by decide) (by decide)) (g := (mkF m 7 #[.val (.int (42 : Int32))] [(.int (42 : Int32))])) rfl (by rw [hml]; rfl) (argsL := [(.int (42 : Int32))]) (rest := []) (lenOf own_pd6 rfl) rfl (by show 2 * 0 + _ ≤ _; exact Nat.le_of_eq rfl) (hb hby own_d2_7) (fun _ _ => ⟨rfl, e1, (by decide : 0 + 0 ≤ _), (by decide : 0 + 0 ≤ _)⟩)
  dsimp only [Pt.U, Pt.locs, Pt.cells, Pt.slots] at X6 l6 y6 z6 st6 hQ6
  subst l6 y6 z6
  obtain ⟨rfl, rfl, eq4⟩ := hQ6
  try rw [List.append_nil] at X6
  have S7 : ∀ t, Steps p.tables e below (T6.setTop (mkF m 10 #[.val (.int (42 : Int32))] [(.int (1 : Int32))])) t → Steps p.tables e below (s₁.setTop (entryFrame m #[(.int (42 : Int32))] 1)) t := fun t kt => S5 t (st6 _ kt)
  have hc10_8 : ¬ ((1 : Int32) = (0 : Int32)) := by decide
  have S9 : ∀ t, Steps p.tables e below (T6.setTop (mkF m 13 #[.val (.int (42 : Int32))] [])) t → Steps p.tables e below (s₁.setTop (entryFrame m #[(.int (42 : Int32))] 1)) t := fun t kt => by
    refine S7 t ?_
    show Steps p.tables e below (T6.setTop (mkF m 10 #[.val (.int (42 : Int32))] [(.int (1 : Int32))])) t
    refine XS.ifNo X6.here hx rfl (hb hby own_d2_10) rfl ((if0 _ _).trans (feq hc10_8).1) ?_
    exact kt
  obtain ⟨T10, h10, X10, e10, E10, A10, D10, -, st10⟩ := newO X6 hx hZ hown (hw _ (List.mem_of_getElem? (i := 13) rfl)) (hw _ (List.mem_of_getElem? (i := 14) rfl)) (hw _ (List.mem_of_getElem? (i := 6) rfl)) eq4 (g := (mkF m 13 #[.val (.int (42 : Int32))] [])) rfl (hb hby own_d2_13) (by decide) (by decide)
  obtain ⟨b10, g10⟩ : ∃ z, z = h0.size := ⟨_, rfl⟩
  rw [← g10] at A10 D10 st10
  have S11 : ∀ t, Steps p.tables e below (T10.setTop (mkF m 16 #[.val (.int (42 : Int32))] [(.ref b10)])) t → Steps p.tables e below (s₁.setTop (entryFrame m #[(.int (42 : Int32))] 1)) t := fun t kt => S9 t (st10 _ kt)
  have g_b10 : n0 ≤ b10 := Nat.le_trans Z0 (Nat.le_of_eq g10.symm)
  have sz_b10 : h0.size ≤ b10 := Nat.le_trans (Keep.refl h0 []).1 (Nat.le_of_eq g10.symm)
  have F12 := S_CS.ext E10
  have K13 : Keep h0 h10 [] := (Keep.refl h0 []).ext E10
  have F14 : Fld Z h10 b10 "java/lang/String" "value" "[B" .null := D10 (Or.inr (hw _ (List.mem_of_getElem? (i := 27) rfl))) (ty := (.array .byte)) (by decide)
  have F15 : Fld Z h10 b10 "java/lang/String" "coder" "B" (.int (0 : Int32)) := D10 (Or.inr (hw _ (List.mem_of_getElem? (i := 29) rfl))) (ty := .byte) (by decide)
  have S18 : ∀ t, Steps p.tables e below (T10.setTop (mkF m 18 #[.val (.int (42 : Int32))] [(.int (42 : Int32)), (.ref b10), (.ref b10)])) t → Steps p.tables e below (s₁.setTop (entryFrame m #[(.int (42 : Int32))] 1)) t := fun t kt => by
    refine S11 t ?_
    show Steps p.tables e below (T10.setTop (mkF m 16 #[.val (.int (42 : Int32))] [(.ref b10)])) t
    refine XS.dup X10.here hx rfl (hb hby own_d2_16) rfl rfl ?_
    show Steps p.tables e below (T10.setTop (mkF m 17 #[.val (.int (42 : Int32))] [(.ref b10), (.ref b10)])) t
    refine XS.iloadN X10.here hx rfl (hb hby own_d2_17) rfl ?_
    exact kt
  obtain ⟨_, _, ⟨T19, L19, k19, n19⟩, -, X19, ⟨Lc19, hQ19, l19, y19, z19⟩, st19⟩ := Jvm.LawKit.callS X10 hx (y := (⟨"java/lang/StringLatin1", "toBytes", "(C)[B"⟩ : MethodName)) hown (mvT hZ (hw _ (List.mem_of_getElem? (i := 15) rfl))) (mvT hZ (hw _ (List.mem_of_getElem? (i := 16) rfl))) (mvT hZ (hw _ (List.mem_of_getElem? (i := 11) rfl))) (mvT hZ (hw _ (List.mem_of_getElem? (i := 17) rfl))) (by decide) (backOf (W := 2) (own_rm4 l Z a0 hw []  h10 n0 (Nat.le_trans Z0 K13.1) ) hZ (hw _ (List.mem_of_getElem? (i := 17) rfl)) (hw _ (List.mem_of_getElem? (i := 11) rfl)) (by decide) (by decide)) (g := (mkF m 18 #[.val (.int (42 : Int32))] [(.int (42 : Int32)), (.ref b10), (.ref b10)])) rfl (by rw [hml]; rfl) (argsL := [(.int (42 : Int32))]) (rest := [(.ref b10), (.ref b10)]) (lenOf own_pd7 rfl) rfl (by show 2 * 0 + _ ≤ _; exact Nat.le_of_eq rfl) (hb hby own_d2_18) (fun _ _ => ⟨rfl, e10, (by decide : 1 + 1 ≤ _), (by decide : 4 + 1 ≤ _)⟩)
  dsimp only [Pt.U, Pt.locs, Pt.cells, Pt.slots] at X19 l19 y19 z19 st19 hQ19
  subst l19 y19 z19
  obtain ⟨tb16, kt16, rfl, Nq19, gt16, sz16, Kc16, Vc16⟩ := hQ19
  have N20 := Fr.app N0 Nq19
  have S21 : ∀ t, Steps p.tables e below (T19.setTop (mkF m 21 #[.val (.int (42 : Int32))] [(.ref tb16), (.ref b10), (.ref b10)])) t → Steps p.tables e below (s₁.setTop (entryFrame m #[(.int (42 : Int32))] 1)) t := fun t kt => S18 t (st19 _ kt)
  have F22 := own_StaK F12 Kc16 all0
  have F23 := A10.keep Kc16
  have F24 := F14.keep Kc16 nin0
  have F25 := F15.keep Kc16 nin0
  have K26 : Keep h0 T19.heap [] := K13.trans Kc16 all0
  have ne_b10_tb16 : b10 ≠ tb16 := Nat.ne_of_lt (Nat.lt_of_lt_of_le A10.lt sz16)
  have S29 : ∀ t, Steps p.tables e below (T19.setTop (mkF m 22 #[.val (.int (42 : Int32))] [(.int (0 : Int32)), (.ref tb16), (.ref b10), (.ref b10)])) t → Steps p.tables e below (s₁.setTop (entryFrame m #[(.int (42 : Int32))] 1)) t := fun t kt => by
    refine S21 t ?_
    show Steps p.tables e below (T19.setTop (mkF m 21 #[.val (.int (42 : Int32))] [(.ref tb16), (.ref b10), (.ref b10)])) t
    refine XS.iconst X19.here hx rfl (hb hby own_d2_21) ?_
    exact kt
  obtain ⟨_, _, ⟨T30, L30, k30, n30⟩, -, X30, ⟨Lc30, hQ30, l30, y30, z30⟩, st30⟩ := X19.specialBack hx (y := (⟨"java/lang/String", "<init>", "([BB)V"⟩ : MethodName)) rfl hown (mvT hZ (hw _ (List.mem_of_getElem? (i := 19) rfl))) (mvT hZ (hw _ (List.mem_of_getElem? (i := 20) rfl))) (mvT hZ (hw _ (List.mem_of_getElem? (i := 22) rfl))) (by decide) (backOf (W := 1) (own_rm5 l Z a0 hw [] (b10) (tb16) (.null) ((.int (0 : Int32))) T19.heap n0 (Nat.le_trans Z0 K26.1) F23 g_b10 F24 F25) hZ (hw _ (List.mem_of_getElem? (i := 22) rfl)) (hw _ (List.mem_of_getElem? (i := 6) rfl)) (by decide) (by decide)) (g := (mkF m 22 #[.val (.int (42 : Int32))] [(.int (0 : Int32)), (.ref tb16), (.ref b10), (.ref b10)])) rfl (by rw [hml]; rfl) (Steps.refl _) (a := b10) (argsL := [(.ref tb16), (.int (0 : Int32))]) (rest := [(.ref b10)]) (lenOf own_pd8 rfl) rfl (by show 2 * 0 + _ ≤ _; exact Nat.le_of_eq rfl) (hb hby own_d2_22) (fun _ _ => ⟨rfl, rfl, (by decide : 2 + 0 ≤ _), (by decide : 5 + 0 ≤ _)⟩)
  dsimp only [Pt.U, Pt.locs, Pt.cells, Pt.slots] at X30 l30 y30 z30 st30 hQ30
  subst l30 y30 z30
  obtain ⟨rfl, Nq30, Kc27, Ec27, Cc27, Fv27⟩ := hQ30
  have N31 := Fr.app N20 Nq30
  have S32 : ∀ t, Steps p.tables e below (T30.setTop (mkF m 25 #[.val (.int (42 : Int32))] [(.ref b10)])) t → Steps p.tables e below (s₁.setTop (entryFrame m #[(.int (42 : Int32))] 1)) t := fun t kt => S29 t (st30.trans kt)
  have F33 := own_StaK F22 Kc27 (allS (own_ExaS F23) all0)
  have F34 := F23.keep Kc27
  have F35 := Vc16.keep Kc27 (ninS (Ne.symm ne_b10_tb16) nin0)
  have K36 : Keep h0 T30.heap [] := K26.trans Kc27 (allS (Or.inr sz_b10) all0)
  obtain ⟨fs, hr, hrun, hended, hW, hsame⟩ := X30.leave (v := some (.ref b10)) (fun h => by rw [Bd.returns] at h; cases h)
  refine ⟨_, _, S32 _ ?_, hrun, hended, _, _, rfl, ?_, ⟨_, rfl⟩, hW, hsame.mono (by decide) (by decide)⟩
  · show Steps p.tables e below (T30.setTop (mkF m 25 #[.val (.int (42 : Int32))] [(.ref b10)])) _
    jvm_step X30.here [X30.here.top, hx, (hb hby own_d2_25), X30.method', Bd.returns, Value.isRef, FieldType.isReference]
    first | (intro acts; rw [hr _ acts rfl rfl rfl]) | rw [hr _ _ rfl rfl rfl]
    exact Steps.refl _
  · show own_Q2 Z cs h0 n0 _ T30.heap _
    exact ⟨b10, tb16, kt16, rfl, N31, K36, Ec27, Cc27, Fv27, F35⟩
theorem own_pd9 : parseMethodDescriptor "(C)Ljava/lang/String;" = some ⟨[.char], some (.object "java/lang/String")⟩ := by decide +kernel
theorem own_pd10 : parseMethodDescriptor "([C)V" = some ⟨[(.array .char)], none⟩ := by decide +kernel
theorem own_d1_0 : decode method_4_code 0 = .ok (.iload_n 0, 1) := by decide +kernel
theorem own_d1_1 : decode method_4_code 1 = .ok (.iconst 3, 1) := by decide +kernel
theorem own_d1_2 : decode method_4_code 2 = .ok (.iand, 1) := by decide +kernel
theorem own_d1_3 : decode method_4_code 3 = .ok (.istore_n 1, 1) := by decide +kernel
theorem own_d1_4 : decode method_4_code 4 = .ok (.iload_n 1, 1) := by decide +kernel
theorem own_d1_5 : decode method_4_code 5 = .ok (.ifCond .ne 9, 3) := by decide +kernel
theorem own_d1_8 : decode method_4_code 8 = .ok (.bipush 42, 2) := by decide +kernel
theorem own_d1_10 : decode method_4_code 10 = .ok (.invokestatic 7, 3) := by decide +kernel
theorem own_d1_13 : decode method_4_code 13 = .ok (.areturn, 1) := by decide +kernel
theorem own_d1_14 : decode method_4_code 14 = .ok (.iload_n 1, 1) := by decide +kernel
theorem own_d1_15 : decode method_4_code 15 = .ok (.iconst 1, 1) := by decide +kernel
theorem own_d1_16 : decode method_4_code 16 = .ok (.if_icmp .ne 23, 3) := by decide +kernel
theorem own_d1_19 : decode method_4_code 19 = .ok (.iconst 1, 1) := by decide +kernel
theorem own_d1_20 : decode method_4_code 20 = .ok (.newarray .char, 2) := by decide +kernel
theorem own_d1_22 : decode method_4_code 22 = .ok (.astore_n 2, 1) := by decide +kernel
theorem own_d1_23 : decode method_4_code 23 = .ok (.aload_n 2, 1) := by decide +kernel
theorem own_d1_24 : decode method_4_code 24 = .ok (.iconst 0, 1) := by decide +kernel
theorem own_d1_25 : decode method_4_code 25 = .ok (.iload_n 0, 1) := by decide +kernel
theorem own_d1_26 : decode method_4_code 26 = .ok (.invokestatic 13, 3) := by decide +kernel
theorem own_d1_29 : decode method_4_code 29 = .ok (.castore, 1) := by decide +kernel
theorem own_d1_30 : decode method_4_code 30 = .ok (.new 8, 3) := by decide +kernel
theorem own_d1_33 : decode method_4_code 33 = .ok (.dup, 1) := by decide +kernel
theorem own_d1_34 : decode method_4_code 34 = .ok (.aload_n 2, 1) := by decide +kernel
theorem own_d1_35 : decode method_4_code 35 = .ok (.invokespecial 19, 3) := by decide +kernel
theorem own_d1_38 : decode method_4_code 38 = .ok (.areturn, 1) := by decide +kernel
theorem own_d1_39 : decode method_4_code 39 = .ok (.iload_n 1, 1) := by decide +kernel
theorem own_d1_40 : decode method_4_code 40 = .ok (.iconst 2, 1) := by decide +kernel
theorem own_d1_41 : decode method_4_code 41 = .ok (.if_icmp .ne 30, 3) := by decide +kernel
theorem own_d1_44 : decode method_4_code 44 = .ok (.iconst 2, 1) := by decide +kernel
theorem own_d1_45 : decode method_4_code 45 = .ok (.newarray .char, 2) := by decide +kernel
theorem own_d1_47 : decode method_4_code 47 = .ok (.astore_n 2, 1) := by decide +kernel
theorem own_d1_48 : decode method_4_code 48 = .ok (.aload_n 2, 1) := by decide +kernel
theorem own_d1_49 : decode method_4_code 49 = .ok (.iconst 0, 1) := by decide +kernel
theorem own_d1_50 : decode method_4_code 50 = .ok (.iload_n 0, 1) := by decide +kernel
theorem own_d1_51 : decode method_4_code 51 = .ok (.invokestatic 13, 3) := by decide +kernel
theorem own_d1_54 : decode method_4_code 54 = .ok (.castore, 1) := by decide +kernel
theorem own_d1_55 : decode method_4_code 55 = .ok (.aload_n 2, 1) := by decide +kernel
theorem own_d1_56 : decode method_4_code 56 = .ok (.iconst 1, 1) := by decide +kernel
theorem own_d1_57 : decode method_4_code 57 = .ok (.iload_n 0, 1) := by decide +kernel
theorem own_d1_58 : decode method_4_code 58 = .ok (.invokestatic 22, 3) := by decide +kernel
theorem own_d1_61 : decode method_4_code 61 = .ok (.castore, 1) := by decide +kernel
theorem own_d1_62 : decode method_4_code 62 = .ok (.new 8, 3) := by decide +kernel
theorem own_d1_65 : decode method_4_code 65 = .ok (.dup, 1) := by decide +kernel
theorem own_d1_66 : decode method_4_code 66 = .ok (.aload_n 2, 1) := by decide +kernel
theorem own_d1_67 : decode method_4_code 67 = .ok (.invokespecial 19, 3) := by decide +kernel
theorem own_d1_70 : decode method_4_code 70 = .ok (.areturn, 1) := by decide +kernel
theorem own_d1_71 : decode method_4_code 71 = .ok (.iconst 0, 1) := by decide +kernel
theorem own_d1_72 : decode method_4_code 72 = .ok (.newarray .char, 2) := by decide +kernel
theorem own_d1_74 : decode method_4_code 74 = .ok (.astore_n 2, 1) := by decide +kernel
theorem own_d1_75 : decode method_4_code 75 = .ok (.new 8, 3) := by decide +kernel
theorem own_d1_78 : decode method_4_code 78 = .ok (.dup, 1) := by decide +kernel
theorem own_d1_79 : decode method_4_code 79 = .ok (.aload_n 2, 1) := by decide +kernel
theorem own_d1_80 : decode method_4_code 80 = .ok (.invokespecial 19, 3) := by decide +kernel
theorem own_d1_83 : decode method_4_code 83 = .ok (.areturn, 1) := by decide +kernel
theorem own_ef1 (m : MethodId) (x0 : Int32) : entryFrame m #[(.int x0)] 3 = mkF m 0 #[.val (.int x0), .unset, .unset] [] := by first | (simp [entryFrame, mkF, argsToLocals, Value.category]; done) | rfl
def own_Q1 (Z : State) (xx : Int32) (cs : Int32) (h0 : Heap) (n0 : Nat) (v : Option Value) (h : Heap) (L : List Loc) : Prop := ∃ (r tb : Addr) (kt : ClassId), v = some (.ref r) ∧ Fr n0 L ∧ Keep h0 h [] ∧ Exa Z h r "java/lang/String" ∧ Fld Z h r "java/lang/String" "coder" "B" (.int (0 : Int32)) ∧ Fld Z h r "java/lang/String" "value" "[B" (.ref tb) ∧ Arv Z h tb kt .byte (own_n xx) (own_vs xx) (.int (0 : Int32))
set_option maxHeartbeats 40000000 in
theorem own_rm1 (l : Launch) (Z : State) (a0 : Array Value) (hw : ∀ d ∈ tables_1, d.before a0 Z = true) (ws : List Jvm.Cond) (xx : Int32) (cs : Int32) (h0 : Heap) (n0 : Nat) (Z0 : n0 ≤ h0.size) (S_CS : Sta Z h0 "java/lang/String" "COMPACT_STRINGS" "Z" (.int cs)) (hcs : ¬ cs = (0 : Int32)) :
    MetFree l (⟨"com/example/splode/splode/document/MediaRangeSpecificityPinLaw", "str", "(I)Ljava/lang/String;"⟩ : MethodName) (head1 (Jvm.Cond.code (⟨"com/example/splode/splode/document/MediaRangeSpecificityPinLaw", "str", "(I)Ljava/lang/String;"⟩ : MethodName) method_4_code 3 (some (.object "java/lang/String")) :: ws) ({ frames := 4, cells := 6, slots := 12, locals := 66 } : Room)) (fun argv U => argv = #[(.int xx)] ∧ Z.Warmed39 U.vm ∧ U.heap = h0 ∧ CHv Z own_EL U.vm h0) (fun _ _ _ _ _ => True) (fun _ U o U' => ∃ v L, o = .returned v ∧ own_Q1 Z xx cs h0 n0 v U'.heap L ∧ CHr Z own_EL U.vm U.heap U'.vm U'.heap ∧ ReturnedEndW U o U' L ({ frames := 4, cells := 6, slots := 12, locals := 66 } : Room).cells ({ frames := 4, cells := 6, slots := 12, locals := 66 } : Room).slots) := by
  refine MetFree.of_bodySF (plainFor_of_name own_pn1) hisR ?_
  intro p e s m args below meth c s₁ Bd hml0 hP hK
  obtain ⟨rfl, hZ, hh, hC0⟩ := hP
  have hx := Bd.exec
  have hby := Bd.bytes
  have hml : c.maxLocals = 3 := hml0
  have hown : s.vm.findClass "com/example/splode/splode/document/MediaRangeSpecificityPinLaw" = some m.cls := findClass_of_methodNamed Bd.named
  have hnm := (name_of_methodNamed Bd.named Bd.method).1
  have X0 : Stand p l e ({ frames := 4, cells := 6, slots := 12, locals := 66 } : Room) (s.setVm s.vm) m #[(.int xx)] below meth c s₁ [] 0 0 := Stand.of_body Bd
  have e0 : s₁.heap = h0 := by rw [← hh, Bd.state]; rfl
  have N0 := Fr.nil n0
  have pre0 : ∀ t, Steps p.tables e below (s₁.setTop (mkF m 0 #[.val (.int xx), .unset, .unset] [])) t → Steps p.tables e below (s₁.setTop (entryFrame m #[(.int xx)] 3)) t := fun t k => castTop (own_ef1 m xx) k
  have CR0 : CHr Z own_EL s.vm h0 s.vm h0 := CHr.refl hC0
  have hEL := own_EW hw
  have hS0 : s.Since s.vm h0.size := (State.WarmedH.refl s).since _
  have wS := own_wS hw
  have S1 : ∀ t, Steps p.tables e below (s₁.setTop (mkF m 5 #[.val (.int xx), .val (.int (xx &&& (3 : Int32))), .unset] [(.int (xx &&& (3 : Int32)))])) t → Steps p.tables e below (s₁.setTop (entryFrame m #[(.int xx)] 3)) t := fun t kt => by
    refine pre0 t ?_
    show Steps p.tables e below (s₁.setTop (mkF m 0 #[.val (.int xx), .unset, .unset] [])) t
    refine XS.iloadN X0.here hx rfl (hb hby own_d1_0) rfl ?_
    show Steps p.tables e below (s₁.setTop (mkF m 1 #[.val (.int xx), .unset, .unset] [(.int xx)])) t
    refine XS.iconst X0.here hx rfl (hb hby own_d1_1) ?_
    show Steps p.tables e below (s₁.setTop (mkF m 2 #[.val (.int xx), .unset, .unset] [(.int (3 : Int32)), (.int xx)])) t
    refine XS.iand X0.here hx rfl (hb hby own_d1_2) rfl ?_
    show Steps p.tables e below (s₁.setTop (mkF m 3 #[.val (.int xx), .unset, .unset] [(.int (xx &&& (3 : Int32)))])) t
    refine XS.istoreN X0.here hx rfl (hb hby own_d1_3) rfl (l' := #[.val (.int xx), .val (.int (xx &&& (3 : Int32))), .unset]) rfl ?_
    show Steps p.tables e below (s₁.setTop (mkF m 4 #[.val (.int xx), .val (.int (xx &&& (3 : Int32))), .unset] [])) t
    refine XS.iloadN X0.here hx rfl (hb hby own_d1_4) rfl ?_
    exact kt
  by_cases hc5 : (xx &&& (3 : Int32)) = (0 : Int32)
  · skip
    have S4 : ∀ t, Steps p.tables e below (s₁.setTop (mkF m 10 #[.val (.int xx), .val (.int (xx &&& (3 : Int32))), .unset] [(.int (42 : Int32))])) t → Steps p.tables e below (s₁.setTop (entryFrame m #[(.int xx)] 3)) t := fun t kt => by
      refine S1 t ?_
      show Steps p.tables e below (s₁.setTop (mkF m 5 #[.val (.int xx), .val (.int (xx &&& (3 : Int32))), .unset] [(.int (xx &&& (3 : Int32)))])) t
      refine XS.ifNo X0.here hx rfl (hb hby own_d1_5) rfl ((if0 _ _).trans (teq hc5).2) ?_
      show Steps p.tables e below (s₁.setTop (mkF m 8 #[.val (.int xx), .val (.int (xx &&& (3 : Int32))), .unset] [])) t
      refine XS.bipush X0.here hx rfl (hb hby own_d1_8) ?_
      exact kt
    obtain ⟨_, _, ⟨T5, L5, k5, n5⟩, -, X5, ⟨Lc5, hQ5, l5, y5, z5⟩, st5⟩ := Jvm.LawKit.callS X0 hx (y := (⟨"java/lang/String", "valueOf", "(C)Ljava/lang/String;"⟩ : MethodName)) hown (mvT hZ (hw _ (List.mem_of_getElem? (i := 4) rfl))) (mvT hZ (hw _ (List.mem_of_getElem? (i := 5) rfl))) (mvT hZ (hw _ (List.mem_of_getElem? (i := 6) rfl))) (mvT hZ (hw _ (List.mem_of_getElem? (i := 7) rfl))) (by decide) (backOf (W := 0) (own_rm2 l Z a0 hw [] (cs) h0 n0 Z0 S_CS hcs) hZ (hw _ (List.mem_of_getElem? (i := 7) rfl)) (hw _ (List.mem_of_getElem? (i := 6) rfl)) (by decide) (by decide)) (g := (mkF m 10 #[.val (.int xx), .val (.int (xx &&& (3 : Int32))), .unset] [(.int (42 : Int32))])) rfl (by rw [hml]; rfl) (argsL := [(.int (42 : Int32))]) (rest := []) (lenOf own_pd9 rfl) rfl (by show 2 * 0 + _ ≤ _; exact Nat.le_of_eq rfl) (hb hby own_d1_10) (fun _ _ => ⟨rfl, e0, (by decide : 0 + 2 ≤ _), (by decide : 0 + 5 ≤ _)⟩)
    dsimp only [Pt.U, Pt.locs, Pt.cells, Pt.slots] at X5 l5 y5 z5 st5 hQ5
    subst l5 y5 z5
    obtain ⟨r2, tb2, kt2, rfl, Nq5, Kc2, Ec2, Cc2, Fv2, Va2⟩ := hQ5
    have N6 := Fr.app N0 Nq5
    have S7 : ∀ t, Steps p.tables e below (T5.setTop (mkF m 13 #[.val (.int xx), .val (.int (xx &&& (3 : Int32))), .unset] [(.ref r2)])) t → Steps p.tables e below (s₁.setTop (entryFrame m #[(.int xx)] 3)) t := fun t kt => S4 t (st5 _ kt)
    have CR8 := CR0.trans (CHr.keep Kc2 all0 CR0.1)
    have F9 := own_StaK S_CS Kc2 all0
    have K10 : Keep h0 T5.heap [] := (Keep.refl h0 []).trans Kc2 all0
    obtain ⟨fs, hr, hrun, hended, -, hW, hBk, hsame⟩ := X5.leaveW hS0 ((Nat.le_trans (Nat.le_refl _) Kc2.1)) (v := some (.ref r2)) (fun h => by rw [Bd.returns] at h; cases h)
    refine ⟨_, _, S7 _ ?_, hrun, hended, _, _, rfl, ?_, (by show CHr Z own_EL s.vm s.heap T5.vm T5.heap; rw [hh]; exact CR8.trans (CHv.at X5 hZ hEL CR8.1)), ⟨_, rfl⟩, hW, hBk, hsame.mono (by decide) (by decide)⟩
    · show Steps p.tables e below (T5.setTop (mkF m 13 #[.val (.int xx), .val (.int (xx &&& (3 : Int32))), .unset] [(.ref r2)])) _
      jvm_step X5.here [X5.here.top, hx, (hb hby own_d1_13), X5.method', Bd.returns, Value.isRef, FieldType.isReference]
      first | (intro acts; rw [hr _ acts rfl rfl rfl]) | rw [hr _ _ rfl rfl rfl]
      exact Steps.refl _
    · show own_Q1 Z xx cs h0 n0 _ T5.heap _
      exact ⟨r2, tb2, kt2, rfl, N6, K10, Ec2, Cc2, Fv2, (by unfold own_n own_vs; rw [if_pos hc5, if_pos hc5]; exact Va2)⟩
  · skip
    have S11 : ∀ t, Steps p.tables e below (s₁.setTop (mkF m 16 #[.val (.int xx), .val (.int (xx &&& (3 : Int32))), .unset] [(.int (1 : Int32)), (.int (xx &&& (3 : Int32)))])) t → Steps p.tables e below (s₁.setTop (entryFrame m #[(.int xx)] 3)) t := fun t kt => by
      refine S1 t ?_
      show Steps p.tables e below (s₁.setTop (mkF m 5 #[.val (.int xx), .val (.int (xx &&& (3 : Int32))), .unset] [(.int (xx &&& (3 : Int32)))])) t
      refine XS.ifYes X0.here hx rfl (pc0 := 5) (pc' := 14) rfl (hb hby own_d1_5) rfl ((if0 _ _).trans (feq hc5).2) (by decide) (by decide) ?_
      show Steps p.tables e below (s₁.setTop (mkF m 14 #[.val (.int xx), .val (.int (xx &&& (3 : Int32))), .unset] [])) t
      refine XS.iloadN X0.here hx rfl (hb hby own_d1_14) rfl ?_
      show Steps p.tables e below (s₁.setTop (mkF m 15 #[.val (.int xx), .val (.int (xx &&& (3 : Int32))), .unset] [(.int (xx &&& (3 : Int32)))])) t
      refine XS.iconst X0.here hx rfl (hb hby own_d1_15) ?_
      exact kt
    by_cases hc16 : (xx &&& (3 : Int32)) = (1 : Int32)
    · skip
      have S12 : ∀ t, Steps p.tables e below (s₁.setTop (mkF m 20 #[.val (.int xx), .val (.int (xx &&& (3 : Int32))), .unset] [(.int (1 : Int32))])) t → Steps p.tables e below (s₁.setTop (entryFrame m #[(.int xx)] 3)) t := fun t kt => by
        refine S11 t ?_
        show Steps p.tables e below (s₁.setTop (mkF m 16 #[.val (.int xx), .val (.int (xx &&& (3 : Int32))), .unset] [(.int (1 : Int32)), (.int (xx &&& (3 : Int32)))])) t
        refine XS.icmpNo X0.here hx rfl (hb hby own_d1_16) rfl (teq hc16).2 ?_
        show Steps p.tables e below (s₁.setTop (mkF m 19 #[.val (.int xx), .val (.int (xx &&& (3 : Int32))), .unset] [])) t
        refine XS.iconst X0.here hx rfl (hb hby own_d1_19) ?_
        exact kt
      obtain ⟨T13, h13, k13, X13, e13, E13, A13, st13⟩ := newP X0 hx hZ (hw _ (List.mem_of_getElem? (i := 30) rfl)) e0 (g := (mkF m 20 #[.val (.int xx), .val (.int (xx &&& (3 : Int32))), .unset] [(.int (1 : Int32))])) rfl (hb hby own_d1_20) rfl (by decide) (cap := 1) (by decide) (by decide) (by decide) (by decide)
      obtain ⟨b13, g13⟩ : ∃ z, z = h0.size := ⟨_, rfl⟩
      rw [← g13] at A13 st13
      have S14 : ∀ t, Steps p.tables e below (T13.setTop (mkF m 22 #[.val (.int xx), .val (.int (xx &&& (3 : Int32))), .unset] [(.ref b13)])) t → Steps p.tables e below (s₁.setTop (entryFrame m #[(.int xx)] 3)) t := fun t kt => S12 t (st13 _ kt)
      have Sf_b13 : Safe Z own_EL s.vm h13 b13 := Safe.ext E13 CR0.1 (Safe.new (Nat.le_of_eq g13.symm))
      have CR15 := CR0.trans (CHr.ext E13 CR0.1)
      have g_b13 : n0 ≤ b13 := Nat.le_trans Z0 (Nat.le_of_eq g13.symm)
      have sz_b13 : h0.size ≤ b13 := Nat.le_trans (Keep.refl h0 []).1 (Nat.le_of_eq g13.symm)
      have F16 := S_CS.ext E13
      have K17 : Keep h0 h13 [] := (Keep.refl h0 []).ext E13
      have V18 : Arv Z h13 b13 k13 .char (1 : Int32) [(.int (0 : Int32))] (.int (0 : Int32)) := (Arv.new A13 (by decide)).pad (pad_rep [] (.int (0 : Int32)) 1)
      have S20 : ∀ t, Steps p.tables e below (T13.setTop (mkF m 26 #[.val (.int xx), .val (.int (xx &&& (3 : Int32))), .val (.ref b13)] [(.int xx), (.int (0 : Int32)), (.ref b13)])) t → Steps p.tables e below (s₁.setTop (entryFrame m #[(.int xx)] 3)) t := fun t kt => by
        refine S14 t ?_
        show Steps p.tables e below (T13.setTop (mkF m 22 #[.val (.int xx), .val (.int (xx &&& (3 : Int32))), .unset] [(.ref b13)])) t
        refine XS.astoreN X13.here hx rfl (hb hby own_d1_22) rfl rfl (l' := #[.val (.int xx), .val (.int (xx &&& (3 : Int32))), .val (.ref b13)]) rfl ?_
        show Steps p.tables e below (T13.setTop (mkF m 23 #[.val (.int xx), .val (.int (xx &&& (3 : Int32))), .val (.ref b13)] [])) t
        refine XS.aloadN X13.here hx rfl (hb hby own_d1_23) rfl rfl ?_
        show Steps p.tables e below (T13.setTop (mkF m 24 #[.val (.int xx), .val (.int (xx &&& (3 : Int32))), .val (.ref b13)] [(.ref b13)])) t
        refine XS.iconst X13.here hx rfl (hb hby own_d1_24) ?_
        show Steps p.tables e below (T13.setTop (mkF m 25 #[.val (.int xx), .val (.int (xx &&& (3 : Int32))), .val (.ref b13)] [(.int (0 : Int32)), (.ref b13)])) t
        refine XS.iloadN X13.here hx rfl (hb hby own_d1_25) rfl ?_
        exact kt
      obtain ⟨_, _, ⟨T21, L21, k21, n21⟩, -, X21, ⟨Lc21, hQ21, l21, y21, z21⟩, st21⟩ := Jvm.LawKit.callS X13 hx (y := (⟨"com/example/splode/splode/document/MediaRangeSpecificityPinLaw", "c0", "(I)C"⟩ : MethodName)) hown (mvT hZ (hw _ (List.mem_of_getElem? (i := 76) rfl))) (mvT hZ (hw _ (List.mem_of_getElem? (i := 77) rfl))) (mvT hZ (hw _ (List.mem_of_getElem? (i := 2) rfl))) (mvT hZ (hw _ (List.mem_of_getElem? (i := 78) rfl))) (by decide) (backOf (W := 2) (own_rm15 l Z a0 hw [] (xx) h13 n0 (Nat.le_trans Z0 K17.1)) hZ (hw _ (List.mem_of_getElem? (i := 78) rfl)) (hw _ (List.mem_of_getElem? (i := 2) rfl)) (by decide) (by decide)) (g := (mkF m 26 #[.val (.int xx), .val (.int (xx &&& (3 : Int32))), .val (.ref b13)] [(.int xx), (.int (0 : Int32)), (.ref b13)])) rfl (by rw [hml]; rfl) (argsL := [(.int xx)]) (rest := [(.int (0 : Int32)), (.ref b13)]) (lenOf own_pd0 rfl) rfl (by show 2 * 0 + _ ≤ _; exact Nat.le_of_eq rfl) (hb hby own_d1_26) (fun _ _ => ⟨rfl, e13, (by decide : 1 + 0 ≤ _), (by decide : 1 + 0 ≤ _)⟩)
      dsimp only [Pt.U, Pt.locs, Pt.cells, Pt.slots] at X21 l21 y21 z21 st21 hQ21
      subst l21 y21 z21
      obtain ⟨rfl, rfl, eq19⟩ := hQ21
      try rw [List.append_nil] at X21
      have S22 : ∀ t, Steps p.tables e below (T21.setTop (mkF m 29 #[.val (.int xx), .val (.int (xx &&& (3 : Int32))), .val (.ref b13)] [(.int (own_c0 xx)), (.int (0 : Int32)), (.ref b13)])) t → Steps p.tables e below (s₁.setTop (entryFrame m #[(.int xx)] 3)) t := fun t kt => S20 t (st21 _ kt)
      obtain ⟨cl23, Ar23, q23, Sz23, Nn23, Hh23, Gg23⟩ := id V18
      have hin23 : ¬ ((0 : Int32) < 0 ∨ cl23.slots.size ≤ ((0 : Int32)).toNatClampNeg) := inb_of Sz23 ⟨by decide, by decide⟩
      obtain ⟨T24, h24, X24, e24, W24, st24⟩ := stC X21 hx hZ eq19 Ar23 (j := (0 : Int32)) hin23 (g := (mkF m 29 #[.val (.int xx), .val (.int (xx &&& (3 : Int32))), .val (.ref b13)] [(.int (own_c0 xx)), (.int (0 : Int32)), (.ref b13)])) rfl rfl (hb hby own_d1_29)
      have S25 : ∀ t, Steps p.tables e below (T24.setTop (mkF m 30 #[.val (.int xx), .val (.int (xx &&& (3 : Int32))), .val (.ref b13)] [])) t → Steps p.tables e below (s₁.setTop (entryFrame m #[(.int xx)] 3)) t := fun t kt => S22 t (st24 _ kt)
      have V26 := Arv.set Ar23 q23 Sz23 Nn23 Hh23 Gg23 (fits_nar_char _) W24 0 rfl (Nat.le_of_ble_eq_true rfl)
      have Sf27 := Safe.wr W24 Sf_b13 CR15.1 Sf_b13
      have CR28 := CR15.trans (CHr.wr W24 Sf_b13 CR15.1)
      have F29 := F16.wr W24
      have N30 := Fr.snoc X24 N0 g_b13
      have K31 : Keep h0 h24 [] := K17.wr W24 (Or.inr sz_b13)
      obtain ⟨T32, h32, X32, e32, E32, A32, D32, -, st32⟩ := newO X24 hx hZ hown (hw _ (List.mem_of_getElem? (i := 31) rfl)) (hw _ (List.mem_of_getElem? (i := 14) rfl)) (hw _ (List.mem_of_getElem? (i := 6) rfl)) e24 (g := (mkF m 30 #[.val (.int xx), .val (.int (xx &&& (3 : Int32))), .val (.ref b13)] [])) rfl (hb hby own_d1_30) (by decide) (by decide)
      obtain ⟨b32, g32⟩ : ∃ z, z = h24.size := ⟨_, rfl⟩
      rw [← g32] at A32 D32 st32
      have S33 : ∀ t, Steps p.tables e below (T32.setTop (mkF m 33 #[.val (.int xx), .val (.int (xx &&& (3 : Int32))), .val (.ref b13)] [(.ref b32)])) t → Steps p.tables e below (s₁.setTop (entryFrame m #[(.int xx)] 3)) t := fun t kt => S25 t (st32 _ kt)
      have Sf_b32 : Safe Z own_EL s.vm h32 b32 := Safe.ext E32 CR28.1 (Safe.new (Nat.le_of_eq g32.symm))
      have Sf34 := Safe.ext E32 CR28.1 Sf27
      have CR35 := CR28.trans (CHr.ext E32 CR28.1)
      have g_b32 : n0 ≤ b32 := Nat.le_trans (Nat.le_trans Z0 K31.1) (Nat.le_of_eq g32.symm)
      have sz_b32 : h0.size ≤ b32 := Nat.le_trans K31.1 (Nat.le_of_eq g32.symm)
      have ne_b13_b32 : b13 ≠ b32 := Nat.ne_of_lt (Nat.lt_of_lt_of_le V26.lt (Nat.le_of_eq g32.symm))
      have F36 := F29.ext E32
      have F37 := V26.ext E32
      have K38 : Keep h0 h32 [] := K31.ext E32
      have F39 : Fld Z h32 b32 "java/lang/String" "value" "[B" .null := D32 (Or.inr (hw _ (List.mem_of_getElem? (i := 27) rfl))) (ty := (.array .byte)) (by decide)
      have F40 : Fld Z h32 b32 "java/lang/String" "coder" "B" (.int (0 : Int32)) := D32 (Or.inr (hw _ (List.mem_of_getElem? (i := 29) rfl))) (ty := .byte) (by decide)
      have S43 : ∀ t, Steps p.tables e below (T32.setTop (mkF m 35 #[.val (.int xx), .val (.int (xx &&& (3 : Int32))), .val (.ref b13)] [(.ref b13), (.ref b32), (.ref b32)])) t → Steps p.tables e below (s₁.setTop (entryFrame m #[(.int xx)] 3)) t := fun t kt => by
        refine S33 t ?_
        show Steps p.tables e below (T32.setTop (mkF m 33 #[.val (.int xx), .val (.int (xx &&& (3 : Int32))), .val (.ref b13)] [(.ref b32)])) t
        refine XS.dup X32.here hx rfl (hb hby own_d1_33) rfl rfl ?_
        show Steps p.tables e below (T32.setTop (mkF m 34 #[.val (.int xx), .val (.int (xx &&& (3 : Int32))), .val (.ref b13)] [(.ref b32), (.ref b32)])) t
        refine XS.aloadN X32.here hx rfl (hb hby own_d1_34) rfl rfl ?_
        exact kt
      obtain ⟨_, _, ⟨T44, L44, k44, n44⟩, -, X44, ⟨Lc44, hQ44, l44, y44, z44⟩, st44⟩ := X32.specialBack hx (y := (⟨"java/lang/String", "<init>", "([C)V"⟩ : MethodName)) rfl hown (mvT hZ (hw _ (List.mem_of_getElem? (i := 32) rfl))) (mvT hZ (hw _ (List.mem_of_getElem? (i := 33) rfl))) (mvT hZ (hw _ (List.mem_of_getElem? (i := 34) rfl))) (by decide) (backOf (W := 1) (own_rm7k1 l Z a0 hw [] (b32) (b13) ((nar .char (own_c0 xx))) (k13) (cs) (.null) ((.int (0 : Int32))) h32 n0 (Nat.le_trans Z0 K38.1) A32 g_b32 F39 F40 F36 hcs F37 (own_lat (own_r0 xx))) hZ (hw _ (List.mem_of_getElem? (i := 34) rfl)) (hw _ (List.mem_of_getElem? (i := 6) rfl)) (by decide) (by decide)) (g := (mkF m 35 #[.val (.int xx), .val (.int (xx &&& (3 : Int32))), .val (.ref b13)] [(.ref b13), (.ref b32), (.ref b32)])) rfl (by rw [hml]; rfl) (Steps.refl _) (a := b32) (argsL := [(.ref b13)]) (rest := [(.ref b32)]) (lenOf own_pd10 rfl) rfl (by show 2 * 0 + _ ≤ _; exact Nat.le_of_eq rfl) (hb hby own_d1_35) (fun _ _ => ⟨rfl, e32, (by decide : 2 + 1 ≤ _), (by decide : 5 + 1 ≤ _)⟩)
      dsimp only [Pt.U, Pt.locs, Pt.cells, Pt.slots] at X44 l44 y44 z44 st44 hQ44
      subst l44 y44 z44
      obtain ⟨rfl, Nq44, Kc41, Ec41, Cc41, tb41, kt41, gt41, sz41, nat41, Fv41, Va41⟩ := hQ44
      have N45 := Fr.app N30 Nq44
      have S46 : ∀ t, Steps p.tables e below (T44.setTop (mkF m 38 #[.val (.int xx), .val (.int (xx &&& (3 : Int32))), .val (.ref b13)] [(.ref b32)])) t → Steps p.tables e below (s₁.setTop (entryFrame m #[(.int xx)] 3)) t := fun t kt => S43 t (st44.trans kt)
      have Sf47 := Safe.keep Kc41 (allS Sf_b32 all0) CR35.1 Sf34
      have Sf48 := Safe.keep Kc41 (allS Sf_b32 all0) CR35.1 Sf_b32
      have CR49 := CR35.trans (CHr.keep Kc41 (allS Sf_b32 all0) CR35.1)
      have F50 := own_StaK F36 Kc41 (allS (own_ExaS A32) all0)
      have F51 := F37.keep Kc41 (ninS ne_b13_b32 nin0)
      have F52 := A32.keep Kc41
      have K53 : Keep h0 T44.heap [] := K38.trans Kc41 (allS (Or.inr sz_b32) all0)
      have ne_b13_tb41 : b13 ≠ tb41 := Nat.ne_of_lt (Nat.lt_of_lt_of_le F37.lt sz41)
      obtain ⟨fs, hr, hrun, hended, -, hW, hBk, hsame⟩ := X44.leaveW hS0 ((Nat.le_trans (Nat.le_trans (Nat.le_trans (Nat.le_trans (Nat.le_refl _) E13.1) (Keep.of_wr W24).1) E32.1) Kc41.1)) (v := some (.ref b32)) (fun h => by rw [Bd.returns] at h; cases h)
      refine ⟨_, _, S46 _ ?_, hrun, hended, _, _, rfl, ?_, (by show CHr Z own_EL s.vm s.heap T44.vm T44.heap; rw [hh]; exact CR49.trans (CHv.at X44 hZ hEL CR49.1)), ⟨_, rfl⟩, hW, hBk, hsame.mono (by decide) (by decide)⟩
      · show Steps p.tables e below (T44.setTop (mkF m 38 #[.val (.int xx), .val (.int (xx &&& (3 : Int32))), .val (.ref b13)] [(.ref b32)])) _
        jvm_step X44.here [X44.here.top, hx, (hb hby own_d1_38), X44.method', Bd.returns, Value.isRef, FieldType.isReference]
        first | (intro acts; rw [hr _ acts rfl rfl rfl]) | rw [hr _ _ rfl rfl rfl]
        exact Steps.refl _
      · show own_Q1 Z xx cs h0 n0 _ T44.heap _
        exact ⟨b32, tb41, kt41, rfl, N45, K53, Ec41, Cc41, Fv41, (by unfold own_n own_vs; rw [if_neg hc5, if_pos hc16, if_neg hc5, if_pos hc16]; exact Va41)⟩
    · skip
      have S54 : ∀ t, Steps p.tables e below (s₁.setTop (mkF m 41 #[.val (.int xx), .val (.int (xx &&& (3 : Int32))), .unset] [(.int (2 : Int32)), (.int (xx &&& (3 : Int32)))])) t → Steps p.tables e below (s₁.setTop (entryFrame m #[(.int xx)] 3)) t := fun t kt => by
        refine S11 t ?_
        show Steps p.tables e below (s₁.setTop (mkF m 16 #[.val (.int xx), .val (.int (xx &&& (3 : Int32))), .unset] [(.int (1 : Int32)), (.int (xx &&& (3 : Int32)))])) t
        refine XS.icmpYes X0.here hx rfl (pc0 := 16) (pc' := 39) rfl (hb hby own_d1_16) rfl (feq hc16).2 (by decide) (by decide) ?_
        show Steps p.tables e below (s₁.setTop (mkF m 39 #[.val (.int xx), .val (.int (xx &&& (3 : Int32))), .unset] [])) t
        refine XS.iloadN X0.here hx rfl (hb hby own_d1_39) rfl ?_
        show Steps p.tables e below (s₁.setTop (mkF m 40 #[.val (.int xx), .val (.int (xx &&& (3 : Int32))), .unset] [(.int (xx &&& (3 : Int32)))])) t
        refine XS.iconst X0.here hx rfl (hb hby own_d1_40) ?_
        exact kt
      by_cases hc41 : (xx &&& (3 : Int32)) = (2 : Int32)
      · skip
        have S55 : ∀ t, Steps p.tables e below (s₁.setTop (mkF m 45 #[.val (.int xx), .val (.int (xx &&& (3 : Int32))), .unset] [(.int (2 : Int32))])) t → Steps p.tables e below (s₁.setTop (entryFrame m #[(.int xx)] 3)) t := fun t kt => by
          refine S54 t ?_
          show Steps p.tables e below (s₁.setTop (mkF m 41 #[.val (.int xx), .val (.int (xx &&& (3 : Int32))), .unset] [(.int (2 : Int32)), (.int (xx &&& (3 : Int32)))])) t
          refine XS.icmpNo X0.here hx rfl (hb hby own_d1_41) rfl (teq hc41).2 ?_
          show Steps p.tables e below (s₁.setTop (mkF m 44 #[.val (.int xx), .val (.int (xx &&& (3 : Int32))), .unset] [])) t
          refine XS.iconst X0.here hx rfl (hb hby own_d1_44) ?_
          exact kt
        obtain ⟨T56, h56, k56, X56, e56, E56, A56, st56⟩ := newP X0 hx hZ (hw _ (List.mem_of_getElem? (i := 30) rfl)) e0 (g := (mkF m 45 #[.val (.int xx), .val (.int (xx &&& (3 : Int32))), .unset] [(.int (2 : Int32))])) rfl (hb hby own_d1_45) rfl (by decide) (cap := 2) (by decide) (by decide) (by decide) (by decide)
        obtain ⟨b56, g56⟩ : ∃ z, z = h0.size := ⟨_, rfl⟩
        rw [← g56] at A56 st56
        have S57 : ∀ t, Steps p.tables e below (T56.setTop (mkF m 47 #[.val (.int xx), .val (.int (xx &&& (3 : Int32))), .unset] [(.ref b56)])) t → Steps p.tables e below (s₁.setTop (entryFrame m #[(.int xx)] 3)) t := fun t kt => S55 t (st56 _ kt)
        have Sf_b56 : Safe Z own_EL s.vm h56 b56 := Safe.ext E56 CR0.1 (Safe.new (Nat.le_of_eq g56.symm))
        have CR58 := CR0.trans (CHr.ext E56 CR0.1)
        have g_b56 : n0 ≤ b56 := Nat.le_trans Z0 (Nat.le_of_eq g56.symm)
        have sz_b56 : h0.size ≤ b56 := Nat.le_trans (Keep.refl h0 []).1 (Nat.le_of_eq g56.symm)
        have F59 := S_CS.ext E56
        have K60 : Keep h0 h56 [] := (Keep.refl h0 []).ext E56
        have V61 : Arv Z h56 b56 k56 .char (2 : Int32) [(.int (0 : Int32)), (.int (0 : Int32))] (.int (0 : Int32)) := (Arv.new A56 (by decide)).pad (pad_rep [] (.int (0 : Int32)) 2)
        have S63 : ∀ t, Steps p.tables e below (T56.setTop (mkF m 51 #[.val (.int xx), .val (.int (xx &&& (3 : Int32))), .val (.ref b56)] [(.int xx), (.int (0 : Int32)), (.ref b56)])) t → Steps p.tables e below (s₁.setTop (entryFrame m #[(.int xx)] 3)) t := fun t kt => by
          refine S57 t ?_
          show Steps p.tables e below (T56.setTop (mkF m 47 #[.val (.int xx), .val (.int (xx &&& (3 : Int32))), .unset] [(.ref b56)])) t
          refine XS.astoreN X56.here hx rfl (hb hby own_d1_47) rfl rfl (l' := #[.val (.int xx), .val (.int (xx &&& (3 : Int32))), .val (.ref b56)]) rfl ?_
          show Steps p.tables e below (T56.setTop (mkF m 48 #[.val (.int xx), .val (.int (xx &&& (3 : Int32))), .val (.ref b56)] [])) t
          refine XS.aloadN X56.here hx rfl (hb hby own_d1_48) rfl rfl ?_
          show Steps p.tables e below (T56.setTop (mkF m 49 #[.val (.int xx), .val (.int (xx &&& (3 : Int32))), .val (.ref b56)] [(.ref b56)])) t
          refine XS.iconst X56.here hx rfl (hb hby own_d1_49) ?_
          show Steps p.tables e below (T56.setTop (mkF m 50 #[.val (.int xx), .val (.int (xx &&& (3 : Int32))), .val (.ref b56)] [(.int (0 : Int32)), (.ref b56)])) t
          refine XS.iloadN X56.here hx rfl (hb hby own_d1_50) rfl ?_
          exact kt
        obtain ⟨_, _, ⟨T64, L64, k64, n64⟩, -, X64, ⟨Lc64, hQ64, l64, y64, z64⟩, st64⟩ := Jvm.LawKit.callS X56 hx (y := (⟨"com/example/splode/splode/document/MediaRangeSpecificityPinLaw", "c0", "(I)C"⟩ : MethodName)) hown (mvT hZ (hw _ (List.mem_of_getElem? (i := 76) rfl))) (mvT hZ (hw _ (List.mem_of_getElem? (i := 77) rfl))) (mvT hZ (hw _ (List.mem_of_getElem? (i := 2) rfl))) (mvT hZ (hw _ (List.mem_of_getElem? (i := 78) rfl))) (by decide) (backOf (W := 2) (own_rm15 l Z a0 hw [] (xx) h56 n0 (Nat.le_trans Z0 K60.1)) hZ (hw _ (List.mem_of_getElem? (i := 78) rfl)) (hw _ (List.mem_of_getElem? (i := 2) rfl)) (by decide) (by decide)) (g := (mkF m 51 #[.val (.int xx), .val (.int (xx &&& (3 : Int32))), .val (.ref b56)] [(.int xx), (.int (0 : Int32)), (.ref b56)])) rfl (by rw [hml]; rfl) (argsL := [(.int xx)]) (rest := [(.int (0 : Int32)), (.ref b56)]) (lenOf own_pd0 rfl) rfl (by show 2 * 0 + _ ≤ _; exact Nat.le_of_eq rfl) (hb hby own_d1_51) (fun _ _ => ⟨rfl, e56, (by decide : 1 + 0 ≤ _), (by decide : 2 + 0 ≤ _)⟩)
        dsimp only [Pt.U, Pt.locs, Pt.cells, Pt.slots] at X64 l64 y64 z64 st64 hQ64
        subst l64 y64 z64
        obtain ⟨rfl, rfl, eq62⟩ := hQ64
        try rw [List.append_nil] at X64
        have S65 : ∀ t, Steps p.tables e below (T64.setTop (mkF m 54 #[.val (.int xx), .val (.int (xx &&& (3 : Int32))), .val (.ref b56)] [(.int (own_c0 xx)), (.int (0 : Int32)), (.ref b56)])) t → Steps p.tables e below (s₁.setTop (entryFrame m #[(.int xx)] 3)) t := fun t kt => S63 t (st64 _ kt)
        obtain ⟨cl66, Ar66, q66, Sz66, Nn66, Hh66, Gg66⟩ := id V61
        have hin66 : ¬ ((0 : Int32) < 0 ∨ cl66.slots.size ≤ ((0 : Int32)).toNatClampNeg) := inb_of Sz66 ⟨by decide, by decide⟩
        obtain ⟨T67, h67, X67, e67, W67, st67⟩ := stC X64 hx hZ eq62 Ar66 (j := (0 : Int32)) hin66 (g := (mkF m 54 #[.val (.int xx), .val (.int (xx &&& (3 : Int32))), .val (.ref b56)] [(.int (own_c0 xx)), (.int (0 : Int32)), (.ref b56)])) rfl rfl (hb hby own_d1_54)
        have S68 : ∀ t, Steps p.tables e below (T67.setTop (mkF m 55 #[.val (.int xx), .val (.int (xx &&& (3 : Int32))), .val (.ref b56)] [])) t → Steps p.tables e below (s₁.setTop (entryFrame m #[(.int xx)] 3)) t := fun t kt => S65 t (st67 _ kt)
        have V69 := Arv.set Ar66 q66 Sz66 Nn66 Hh66 Gg66 (fits_nar_char _) W67 0 rfl (Nat.le_of_ble_eq_true rfl)
        have Sf70 := Safe.wr W67 Sf_b56 CR58.1 Sf_b56
        have CR71 := CR58.trans (CHr.wr W67 Sf_b56 CR58.1)
        have F72 := F59.wr W67
        have N73 := Fr.snoc X67 N0 g_b56
        have K74 : Keep h0 h67 [] := K60.wr W67 (Or.inr sz_b56)
        have S76 : ∀ t, Steps p.tables e below (T67.setTop (mkF m 58 #[.val (.int xx), .val (.int (xx &&& (3 : Int32))), .val (.ref b56)] [(.int xx), (.int (1 : Int32)), (.ref b56)])) t → Steps p.tables e below (s₁.setTop (entryFrame m #[(.int xx)] 3)) t := fun t kt => by
          refine S68 t ?_
          show Steps p.tables e below (T67.setTop (mkF m 55 #[.val (.int xx), .val (.int (xx &&& (3 : Int32))), .val (.ref b56)] [])) t
          refine XS.aloadN X67.here hx rfl (hb hby own_d1_55) rfl rfl ?_
          show Steps p.tables e below (T67.setTop (mkF m 56 #[.val (.int xx), .val (.int (xx &&& (3 : Int32))), .val (.ref b56)] [(.ref b56)])) t
          refine XS.iconst X67.here hx rfl (hb hby own_d1_56) ?_
          show Steps p.tables e below (T67.setTop (mkF m 57 #[.val (.int xx), .val (.int (xx &&& (3 : Int32))), .val (.ref b56)] [(.int (1 : Int32)), (.ref b56)])) t
          refine XS.iloadN X67.here hx rfl (hb hby own_d1_57) rfl ?_
          exact kt
        obtain ⟨_, _, ⟨T77, L77, k77, n77⟩, -, X77, ⟨Lc77, hQ77, l77, y77, z77⟩, st77⟩ := Jvm.LawKit.callS X67 hx (y := (⟨"com/example/splode/splode/document/MediaRangeSpecificityPinLaw", "c1", "(I)C"⟩ : MethodName)) hown (mvT hZ (hw _ (List.mem_of_getElem? (i := 79) rfl))) (mvT hZ (hw _ (List.mem_of_getElem? (i := 80) rfl))) (mvT hZ (hw _ (List.mem_of_getElem? (i := 2) rfl))) (mvT hZ (hw _ (List.mem_of_getElem? (i := 81) rfl))) (by decide) (backOf (W := 2) (own_rm16 l Z a0 hw [] (xx) h67 n0 (Nat.le_trans Z0 K74.1)) hZ (hw _ (List.mem_of_getElem? (i := 81) rfl)) (hw _ (List.mem_of_getElem? (i := 2) rfl)) (by decide) (by decide)) (g := (mkF m 58 #[.val (.int xx), .val (.int (xx &&& (3 : Int32))), .val (.ref b56)] [(.int xx), (.int (1 : Int32)), (.ref b56)])) rfl (by rw [hml]; rfl) (argsL := [(.int xx)]) (rest := [(.int (1 : Int32)), (.ref b56)]) (lenOf own_pd0 rfl) rfl (by show 2 * 0 + _ ≤ _; exact Nat.le_of_eq rfl) (hb hby own_d1_58) (fun _ _ => ⟨rfl, e67, (by decide : 1 + 0 ≤ _), (by decide : 2 + 0 ≤ _)⟩)
        dsimp only [Pt.U, Pt.locs, Pt.cells, Pt.slots] at X77 l77 y77 z77 st77 hQ77
        subst l77 y77 z77
        obtain ⟨rfl, rfl, eq75⟩ := hQ77
        try rw [List.append_nil] at X77
        have S78 : ∀ t, Steps p.tables e below (T77.setTop (mkF m 61 #[.val (.int xx), .val (.int (xx &&& (3 : Int32))), .val (.ref b56)] [(.int (own_c1 xx)), (.int (1 : Int32)), (.ref b56)])) t → Steps p.tables e below (s₁.setTop (entryFrame m #[(.int xx)] 3)) t := fun t kt => S76 t (st77 _ kt)
        obtain ⟨cl79, Ar79, q79, Sz79, Nn79, Hh79, Gg79⟩ := id V69
        have hin79 : ¬ ((1 : Int32) < 0 ∨ cl79.slots.size ≤ ((1 : Int32)).toNatClampNeg) := inb_of Sz79 ⟨by decide, by decide⟩
        obtain ⟨T80, h80, X80, e80, W80, st80⟩ := stC X77 hx hZ eq75 Ar79 (j := (1 : Int32)) hin79 (g := (mkF m 61 #[.val (.int xx), .val (.int (xx &&& (3 : Int32))), .val (.ref b56)] [(.int (own_c1 xx)), (.int (1 : Int32)), (.ref b56)])) rfl rfl (hb hby own_d1_61)
        have S81 : ∀ t, Steps p.tables e below (T80.setTop (mkF m 62 #[.val (.int xx), .val (.int (xx &&& (3 : Int32))), .val (.ref b56)] [])) t → Steps p.tables e below (s₁.setTop (entryFrame m #[(.int xx)] 3)) t := fun t kt => S78 t (st80 _ kt)
        have V82 := Arv.set Ar79 q79 Sz79 Nn79 Hh79 Gg79 (fits_nar_char _) W80 1 rfl (Nat.le_of_ble_eq_true rfl)
        have Sf83 := Safe.wr W80 Sf70 CR71.1 Sf70
        have CR84 := CR71.trans (CHr.wr W80 Sf70 CR71.1)
        have F85 := F72.wr W80
        have N86 := Fr.snoc X80 N73 g_b56
        have K87 : Keep h0 h80 [] := K74.wr W80 (Or.inr sz_b56)
        obtain ⟨T88, h88, X88, e88, E88, A88, D88, -, st88⟩ := newO X80 hx hZ hown (hw _ (List.mem_of_getElem? (i := 31) rfl)) (hw _ (List.mem_of_getElem? (i := 14) rfl)) (hw _ (List.mem_of_getElem? (i := 6) rfl)) e80 (g := (mkF m 62 #[.val (.int xx), .val (.int (xx &&& (3 : Int32))), .val (.ref b56)] [])) rfl (hb hby own_d1_62) (by decide) (by decide)
        obtain ⟨b88, g88⟩ : ∃ z, z = h80.size := ⟨_, rfl⟩
        rw [← g88] at A88 D88 st88
        have S89 : ∀ t, Steps p.tables e below (T88.setTop (mkF m 65 #[.val (.int xx), .val (.int (xx &&& (3 : Int32))), .val (.ref b56)] [(.ref b88)])) t → Steps p.tables e below (s₁.setTop (entryFrame m #[(.int xx)] 3)) t := fun t kt => S81 t (st88 _ kt)
        have Sf_b88 : Safe Z own_EL s.vm h88 b88 := Safe.ext E88 CR84.1 (Safe.new (Nat.le_of_eq g88.symm))
        have Sf90 := Safe.ext E88 CR84.1 Sf83
        have CR91 := CR84.trans (CHr.ext E88 CR84.1)
        have g_b88 : n0 ≤ b88 := Nat.le_trans (Nat.le_trans Z0 K87.1) (Nat.le_of_eq g88.symm)
        have sz_b88 : h0.size ≤ b88 := Nat.le_trans K87.1 (Nat.le_of_eq g88.symm)
        have ne_b56_b88 : b56 ≠ b88 := Nat.ne_of_lt (Nat.lt_of_lt_of_le V82.lt (Nat.le_of_eq g88.symm))
        have F92 := F85.ext E88
        have F93 := V82.ext E88
        have K94 : Keep h0 h88 [] := K87.ext E88
        have F95 : Fld Z h88 b88 "java/lang/String" "value" "[B" .null := D88 (Or.inr (hw _ (List.mem_of_getElem? (i := 27) rfl))) (ty := (.array .byte)) (by decide)
        have F96 : Fld Z h88 b88 "java/lang/String" "coder" "B" (.int (0 : Int32)) := D88 (Or.inr (hw _ (List.mem_of_getElem? (i := 29) rfl))) (ty := .byte) (by decide)
        have S99 : ∀ t, Steps p.tables e below (T88.setTop (mkF m 67 #[.val (.int xx), .val (.int (xx &&& (3 : Int32))), .val (.ref b56)] [(.ref b56), (.ref b88), (.ref b88)])) t → Steps p.tables e below (s₁.setTop (entryFrame m #[(.int xx)] 3)) t := fun t kt => by
          refine S89 t ?_
          show Steps p.tables e below (T88.setTop (mkF m 65 #[.val (.int xx), .val (.int (xx &&& (3 : Int32))), .val (.ref b56)] [(.ref b88)])) t
          refine XS.dup X88.here hx rfl (hb hby own_d1_65) rfl rfl ?_
          show Steps p.tables e below (T88.setTop (mkF m 66 #[.val (.int xx), .val (.int (xx &&& (3 : Int32))), .val (.ref b56)] [(.ref b88), (.ref b88)])) t
          refine XS.aloadN X88.here hx rfl (hb hby own_d1_66) rfl rfl ?_
          exact kt
        obtain ⟨_, _, ⟨T100, L100, k100, n100⟩, -, X100, ⟨Lc100, hQ100, l100, y100, z100⟩, st100⟩ := X88.specialBack hx (y := (⟨"java/lang/String", "<init>", "([C)V"⟩ : MethodName)) rfl hown (mvT hZ (hw _ (List.mem_of_getElem? (i := 32) rfl))) (mvT hZ (hw _ (List.mem_of_getElem? (i := 33) rfl))) (mvT hZ (hw _ (List.mem_of_getElem? (i := 34) rfl))) (by decide) (backOf (W := 1) (own_rm7k2 l Z a0 hw [] (b88) (b56) ((nar .char (own_c0 xx))) ((nar .char (own_c1 xx))) (k56) (cs) (.null) ((.int (0 : Int32))) h88 n0 (Nat.le_trans Z0 K94.1) A88 g_b88 F95 F96 F92 hcs F93 (own_lat (own_r0 xx)) (own_lat (own_r1 xx))) hZ (hw _ (List.mem_of_getElem? (i := 34) rfl)) (hw _ (List.mem_of_getElem? (i := 6) rfl)) (by decide) (by decide)) (g := (mkF m 67 #[.val (.int xx), .val (.int (xx &&& (3 : Int32))), .val (.ref b56)] [(.ref b56), (.ref b88), (.ref b88)])) rfl (by rw [hml]; rfl) (Steps.refl _) (a := b88) (argsL := [(.ref b56)]) (rest := [(.ref b88)]) (lenOf own_pd10 rfl) rfl (by show 2 * 0 + _ ≤ _; exact Nat.le_of_eq rfl) (hb hby own_d1_67) (fun _ _ => ⟨rfl, e88, (by decide : 2 + 1 ≤ _), (by decide : 6 + 2 ≤ _)⟩)
        dsimp only [Pt.U, Pt.locs, Pt.cells, Pt.slots] at X100 l100 y100 z100 st100 hQ100
        subst l100 y100 z100
        obtain ⟨rfl, Nq100, Kc97, Ec97, Cc97, tb97, kt97, gt97, sz97, nat97, Fv97, Va97⟩ := hQ100
        have N101 := Fr.app N86 Nq100
        have S102 : ∀ t, Steps p.tables e below (T100.setTop (mkF m 70 #[.val (.int xx), .val (.int (xx &&& (3 : Int32))), .val (.ref b56)] [(.ref b88)])) t → Steps p.tables e below (s₁.setTop (entryFrame m #[(.int xx)] 3)) t := fun t kt => S99 t (st100.trans kt)
        have Sf103 := Safe.keep Kc97 (allS Sf_b88 all0) CR91.1 Sf90
        have Sf104 := Safe.keep Kc97 (allS Sf_b88 all0) CR91.1 Sf_b88
        have CR105 := CR91.trans (CHr.keep Kc97 (allS Sf_b88 all0) CR91.1)
        have F106 := own_StaK F92 Kc97 (allS (own_ExaS A88) all0)
        have F107 := F93.keep Kc97 (ninS ne_b56_b88 nin0)
        have F108 := A88.keep Kc97
        have K109 : Keep h0 T100.heap [] := K94.trans Kc97 (allS (Or.inr sz_b88) all0)
        have ne_b56_tb97 : b56 ≠ tb97 := Nat.ne_of_lt (Nat.lt_of_lt_of_le F93.lt sz97)
        obtain ⟨fs, hr, hrun, hended, -, hW, hBk, hsame⟩ := X100.leaveW hS0 ((Nat.le_trans (Nat.le_trans (Nat.le_trans (Nat.le_trans (Nat.le_trans (Nat.le_refl _) E56.1) (Keep.of_wr W67).1) (Keep.of_wr W80).1) E88.1) Kc97.1)) (v := some (.ref b88)) (fun h => by rw [Bd.returns] at h; cases h)
        refine ⟨_, _, S102 _ ?_, hrun, hended, _, _, rfl, ?_, (by show CHr Z own_EL s.vm s.heap T100.vm T100.heap; rw [hh]; exact CR105.trans (CHv.at X100 hZ hEL CR105.1)), ⟨_, rfl⟩, hW, hBk, hsame.mono (by decide) (by decide)⟩
        · show Steps p.tables e below (T100.setTop (mkF m 70 #[.val (.int xx), .val (.int (xx &&& (3 : Int32))), .val (.ref b56)] [(.ref b88)])) _
          jvm_step X100.here [X100.here.top, hx, (hb hby own_d1_70), X100.method', Bd.returns, Value.isRef, FieldType.isReference]
          first | (intro acts; rw [hr _ acts rfl rfl rfl]) | rw [hr _ _ rfl rfl rfl]
          exact Steps.refl _
        · show own_Q1 Z xx cs h0 n0 _ T100.heap _
          exact ⟨b88, tb97, kt97, rfl, N101, K109, Ec97, Cc97, Fv97, (by unfold own_n own_vs; rw [if_neg hc5, if_neg hc16, if_pos hc41, if_neg hc5, if_neg hc16, if_pos hc41]; exact Va97)⟩
      · skip
        have S110 : ∀ t, Steps p.tables e below (s₁.setTop (mkF m 72 #[.val (.int xx), .val (.int (xx &&& (3 : Int32))), .unset] [(.int (0 : Int32))])) t → Steps p.tables e below (s₁.setTop (entryFrame m #[(.int xx)] 3)) t := fun t kt => by
          refine S54 t ?_
          show Steps p.tables e below (s₁.setTop (mkF m 41 #[.val (.int xx), .val (.int (xx &&& (3 : Int32))), .unset] [(.int (2 : Int32)), (.int (xx &&& (3 : Int32)))])) t
          refine XS.icmpYes X0.here hx rfl (pc0 := 41) (pc' := 71) rfl (hb hby own_d1_41) rfl (feq hc41).2 (by decide) (by decide) ?_
          show Steps p.tables e below (s₁.setTop (mkF m 71 #[.val (.int xx), .val (.int (xx &&& (3 : Int32))), .unset] [])) t
          refine XS.iconst X0.here hx rfl (hb hby own_d1_71) ?_
          exact kt
        obtain ⟨T111, h111, k111, X111, e111, E111, A111, st111⟩ := newP X0 hx hZ (hw _ (List.mem_of_getElem? (i := 30) rfl)) e0 (g := (mkF m 72 #[.val (.int xx), .val (.int (xx &&& (3 : Int32))), .unset] [(.int (0 : Int32))])) rfl (hb hby own_d1_72) rfl (by decide) (cap := 0) (by decide) (by decide) (by decide) (by decide)
        obtain ⟨b111, g111⟩ : ∃ z, z = h0.size := ⟨_, rfl⟩
        rw [← g111] at A111 st111
        have S112 : ∀ t, Steps p.tables e below (T111.setTop (mkF m 74 #[.val (.int xx), .val (.int (xx &&& (3 : Int32))), .unset] [(.ref b111)])) t → Steps p.tables e below (s₁.setTop (entryFrame m #[(.int xx)] 3)) t := fun t kt => S110 t (st111 _ kt)
        have Sf_b111 : Safe Z own_EL s.vm h111 b111 := Safe.ext E111 CR0.1 (Safe.new (Nat.le_of_eq g111.symm))
        have CR113 := CR0.trans (CHr.ext E111 CR0.1)
        have g_b111 : n0 ≤ b111 := Nat.le_trans Z0 (Nat.le_of_eq g111.symm)
        have sz_b111 : h0.size ≤ b111 := Nat.le_trans (Keep.refl h0 []).1 (Nat.le_of_eq g111.symm)
        have F114 := S_CS.ext E111
        have K115 : Keep h0 h111 [] := (Keep.refl h0 []).ext E111
        have V116 : Arv Z h111 b111 k111 .char (0 : Int32) [] (.int (0 : Int32)) := Arv.new A111 (by decide)
        have S117 : ∀ t, Steps p.tables e below (T111.setTop (mkF m 75 #[.val (.int xx), .val (.int (xx &&& (3 : Int32))), .val (.ref b111)] [])) t → Steps p.tables e below (s₁.setTop (entryFrame m #[(.int xx)] 3)) t := fun t kt => by
          refine S112 t ?_
          show Steps p.tables e below (T111.setTop (mkF m 74 #[.val (.int xx), .val (.int (xx &&& (3 : Int32))), .unset] [(.ref b111)])) t
          refine XS.astoreN X111.here hx rfl (hb hby own_d1_74) rfl rfl (l' := #[.val (.int xx), .val (.int (xx &&& (3 : Int32))), .val (.ref b111)]) rfl ?_
          exact kt
        obtain ⟨T118, h118, X118, e118, E118, A118, D118, -, st118⟩ := newO X111 hx hZ hown (hw _ (List.mem_of_getElem? (i := 31) rfl)) (hw _ (List.mem_of_getElem? (i := 14) rfl)) (hw _ (List.mem_of_getElem? (i := 6) rfl)) e111 (g := (mkF m 75 #[.val (.int xx), .val (.int (xx &&& (3 : Int32))), .val (.ref b111)] [])) rfl (hb hby own_d1_75) (by decide) (by decide)
        obtain ⟨b118, g118⟩ : ∃ z, z = h111.size := ⟨_, rfl⟩
        rw [← g118] at A118 D118 st118
        have S119 : ∀ t, Steps p.tables e below (T118.setTop (mkF m 78 #[.val (.int xx), .val (.int (xx &&& (3 : Int32))), .val (.ref b111)] [(.ref b118)])) t → Steps p.tables e below (s₁.setTop (entryFrame m #[(.int xx)] 3)) t := fun t kt => S117 t (st118 _ kt)
        have Sf_b118 : Safe Z own_EL s.vm h118 b118 := Safe.ext E118 CR113.1 (Safe.new (Nat.le_of_eq g118.symm))
        have Sf120 := Safe.ext E118 CR113.1 Sf_b111
        have CR121 := CR113.trans (CHr.ext E118 CR113.1)
        have g_b118 : n0 ≤ b118 := Nat.le_trans (Nat.le_trans Z0 K115.1) (Nat.le_of_eq g118.symm)
        have sz_b118 : h0.size ≤ b118 := Nat.le_trans K115.1 (Nat.le_of_eq g118.symm)
        have ne_b111_b118 : b111 ≠ b118 := Nat.ne_of_lt (Nat.lt_of_lt_of_le V116.lt (Nat.le_of_eq g118.symm))
        have F122 := F114.ext E118
        have F123 := V116.ext E118
        have K124 : Keep h0 h118 [] := K115.ext E118
        have F125 : Fld Z h118 b118 "java/lang/String" "value" "[B" .null := D118 (Or.inr (hw _ (List.mem_of_getElem? (i := 27) rfl))) (ty := (.array .byte)) (by decide)
        have F126 : Fld Z h118 b118 "java/lang/String" "coder" "B" (.int (0 : Int32)) := D118 (Or.inr (hw _ (List.mem_of_getElem? (i := 29) rfl))) (ty := .byte) (by decide)
        have S129 : ∀ t, Steps p.tables e below (T118.setTop (mkF m 80 #[.val (.int xx), .val (.int (xx &&& (3 : Int32))), .val (.ref b111)] [(.ref b111), (.ref b118), (.ref b118)])) t → Steps p.tables e below (s₁.setTop (entryFrame m #[(.int xx)] 3)) t := fun t kt => by
          refine S119 t ?_
          show Steps p.tables e below (T118.setTop (mkF m 78 #[.val (.int xx), .val (.int (xx &&& (3 : Int32))), .val (.ref b111)] [(.ref b118)])) t
          refine XS.dup X118.here hx rfl (hb hby own_d1_78) rfl rfl ?_
          show Steps p.tables e below (T118.setTop (mkF m 79 #[.val (.int xx), .val (.int (xx &&& (3 : Int32))), .val (.ref b111)] [(.ref b118), (.ref b118)])) t
          refine XS.aloadN X118.here hx rfl (hb hby own_d1_79) rfl rfl ?_
          exact kt
        obtain ⟨_, _, ⟨T130, L130, k130, n130⟩, -, X130_, hSr130, hgr130, ⟨Lc130, hQ130, l130, y130, z130, hCr130⟩, st130⟩ := X118.specialBackS hx (y := (⟨"java/lang/String", "<init>", "([C)V"⟩ : MethodName)) rfl hown (mvT hZ (hw _ (List.mem_of_getElem? (i := 32) rfl))) (mvT hZ (hw _ (List.mem_of_getElem? (i := 33) rfl))) (mvT hZ (hw _ (List.mem_of_getElem? (i := 34) rfl))) (by decide) (own_backSE (EL := own_EL) (s := s) (vm0 := s.vm) (W := 1) (own_rm7k0 l Z a0 hw [] (b118) (b111) (k111) (.null) ((.int (0 : Int32))) h118 n0 (Nat.le_trans Z0 K124.1) A118 g_b118 F125 F126 F123) hZ (hw _ (List.mem_of_getElem? (i := 34) rfl)) (hw _ (List.mem_of_getElem? (i := 6) rfl)) (by decide) (by decide) hEL CR121.1 (fun _ A => A.safe (A118.lt) Sf_b118)) (g := (mkF m 80 #[.val (.int xx), .val (.int (xx &&& (3 : Int32))), .val (.ref b111)] [(.ref b111), (.ref b118), (.ref b118)])) rfl (by rw [hml]; rfl) (Steps.refl _) (a := b118) (argsL := [(.ref b111)]) (rest := [(.ref b118)]) (lenOf own_pd10 rfl) rfl (by show 2 * 0 + _ ≤ _; exact Nat.le_of_eq rfl) (hb hby own_d1_80) (fun _ _ => ⟨rfl, e118, (by decide : 2 + 4 ≤ _), (by decide : 4 + 8 ≤ _)⟩)
        dsimp only [Pt.U, Pt.locs, Pt.cells, Pt.slots] at X130_ hSr130 hgr130 l130 y130 z130 hCr130 st130 hQ130
        subst l130 y130 z130
        obtain ⟨X130, hS130, hZ130, ho130⟩ := rebS hS0 (by rw [e118]; exact (Nat.le_trans (Nat.le_trans (Nat.le_refl _) E111.1) E118.1)) X130_ hSr130 hgr130 hZ hown
        obtain ⟨rfl, Nq130, Kc127, Ec127, Cc127, tb127, kt127, nat127, Fv127, Va127⟩ := hQ130
        have N131 := Fr.app N0 Nq130
        have S132 : ∀ t, Steps p.tables e below (T130.setTop (mkF m 83 #[.val (.int xx), .val (.int (xx &&& (3 : Int32))), .val (.ref b111)] [(.ref b118)])) t → Steps p.tables e below (s₁.setTop (entryFrame m #[(.int xx)] 3)) t := fun t kt => S129 t (st130.trans kt)
        have Sf133 := hCr130.safe (F123.lt) Sf120
        have Sf134 := hCr130.safe (A118.lt) Sf_b118
        have CR135 := CR121.trans hCr130
        have F136 := own_StaK F122 Kc127 (allS (own_ExaS A118) all0)
        have F137 := F123.keep Kc127 (ninS ne_b111_b118 nin0)
        have F138 := A118.keep Kc127
        have K139 : Keep h0 T130.heap [] := K124.trans Kc127 (allS (Or.inr sz_b118) all0)
        obtain ⟨fs, hr, hrun, hended, -, hW, hBk, hsame⟩ := X130.leaveW hS130 ((Nat.le_refl _)) (v := some (.ref b118)) (fun h => by rw [Bd.returns] at h; cases h)
        refine ⟨_, _, S132 _ ?_, hrun, hended, _, _, rfl, ?_, (by show CHr Z own_EL s.vm s.heap T130.vm T130.heap; rw [hh]; exact CR135.trans (CHv.at X130 hZ130 hEL CR135.1)), ⟨_, rfl⟩, hW, hBk, hsame.mono (by decide) (by decide)⟩
        · show Steps p.tables e below (T130.setTop (mkF m 83 #[.val (.int xx), .val (.int (xx &&& (3 : Int32))), .val (.ref b111)] [(.ref b118)])) _
          jvm_step X130.here [X130.here.top, hx, (hb hby own_d1_83), X130.method', Bd.returns, Value.isRef, FieldType.isReference]
          first | (intro acts; rw [hr _ acts rfl rfl rfl]) | rw [hr _ _ rfl rfl rfl]
          exact Steps.refl _
        · show own_Q1 Z xx cs h0 n0 _ T130.heap _
          exact ⟨b118, tb127, kt127, rfl, N131, K139, Ec127, Cc127, Fv127, (by unfold own_n own_vs; rw [if_neg hc5, if_neg hc16, if_neg hc41, if_neg hc5, if_neg hc16, if_neg hc41]; exact Va127)⟩
theorem own_d14_0 : decode jdk_43_method_13_code 0 = .ok (.aload_n 0, 1) := by decide +kernel
theorem own_d14_1 : decode jdk_43_method_13_code 1 = .ok (.arraylength, 1) := by decide +kernel
theorem own_d14_2 : decode jdk_43_method_13_code 2 = .ok (.aload_n 1, 1) := by decide +kernel
theorem own_d14_3 : decode jdk_43_method_13_code 3 = .ok (.arraylength, 1) := by decide +kernel
theorem own_d14_4 : decode jdk_43_method_13_code 4 = .ok (.if_icmp .ne 30, 3) := by decide +kernel
theorem own_d14_7 : decode jdk_43_method_13_code 7 = .ok (.iconst 0, 1) := by decide +kernel
theorem own_d14_8 : decode jdk_43_method_13_code 8 = .ok (.istore_n 2, 1) := by decide +kernel
theorem own_d14_9 : decode jdk_43_method_13_code 9 = .ok (.iload_n 2, 1) := by decide +kernel
theorem own_d14_10 : decode jdk_43_method_13_code 10 = .ok (.aload_n 0, 1) := by decide +kernel
theorem own_d14_11 : decode jdk_43_method_13_code 11 = .ok (.arraylength, 1) := by decide +kernel
theorem own_d14_12 : decode jdk_43_method_13_code 12 = .ok (.if_icmp .ge 20, 3) := by decide +kernel
theorem own_d14_15 : decode jdk_43_method_13_code 15 = .ok (.aload_n 0, 1) := by decide +kernel
theorem own_d14_16 : decode jdk_43_method_13_code 16 = .ok (.iload_n 2, 1) := by decide +kernel
theorem own_d14_17 : decode jdk_43_method_13_code 17 = .ok (.baload, 1) := by decide +kernel
theorem own_d14_18 : decode jdk_43_method_13_code 18 = .ok (.aload_n 1, 1) := by decide +kernel
theorem own_d14_19 : decode jdk_43_method_13_code 19 = .ok (.iload_n 2, 1) := by decide +kernel
theorem own_d14_20 : decode jdk_43_method_13_code 20 = .ok (.baload, 1) := by decide +kernel
theorem own_d14_21 : decode jdk_43_method_13_code 21 = .ok (.if_icmp .eq 5, 3) := by decide +kernel
theorem own_d14_24 : decode jdk_43_method_13_code 24 = .ok (.iconst 0, 1) := by decide +kernel
theorem own_d14_25 : decode jdk_43_method_13_code 25 = .ok (.ireturn, 1) := by decide +kernel
theorem own_d14_26 : decode jdk_43_method_13_code 26 = .ok (.iinc 2 1, 3) := by decide +kernel
theorem own_d14_29 : decode jdk_43_method_13_code 29 = .ok (.goto (-20), 3) := by decide +kernel
theorem own_d14_32 : decode jdk_43_method_13_code 32 = .ok (.iconst 1, 1) := by decide +kernel
theorem own_d14_33 : decode jdk_43_method_13_code 33 = .ok (.ireturn, 1) := by decide +kernel
theorem own_ef14o (m : MethodId) (x0 : Addr) (x1 : Addr) : entryFrame m #[(.ref x0), (.ref x1)] 3 = mkF m 0 #[.val (.ref x0), .val (.ref x1), .unset] [] := by first | (simp [entryFrame, mkF, argsToLocals, Value.category]; done) | rfl
def own_Q14o (Z : State) (tb : Addr) (lb : Addr) (zt : Int32) (kt : ClassId) (kl : ClassId) (h0 : Heap) (n0 : Nat) (v : Option Value) (h : Heap) (L : List Loc) : Prop := v = some (.int (own_b (decide (zt = (42 : Int32))))) ∧ L = [] ∧ h = h0
set_option maxHeartbeats 40000000 in
theorem own_rm14o (l : Launch) (Z : State) (a0 : Array Value) (hw : ∀ d ∈ tables_1, d.before a0 Z = true) (ws : List Jvm.Cond) (tb : Addr) (lb : Addr) (zt : Int32) (kt : ClassId) (kl : ClassId) (h0 : Heap) (n0 : Nat) (Z0 : n0 ≤ h0.size) (V_t : Arv Z h0 tb kt .byte (1 : Int32) [(.int zt)] (.int (0 : Int32))) (V_l : Arv Z h0 lb kl .byte (1 : Int32) [(.int (42 : Int32))] (.int (0 : Int32))) :
    MetFree l (⟨"java/lang/StringLatin1", "equals", "([B[B)Z"⟩ : MethodName) (head1 (Jvm.Cond.code (⟨"java/lang/StringLatin1", "equals", "([B[B)Z"⟩ : MethodName) jdk_43_method_13_code 3 (some .boolean) :: ws) ({ frames := 0, cells := 0, slots := 0, locals := 0 } : Room)) (fun argv U => argv = #[(.ref tb), (.ref lb)] ∧ Z.Warmed39 U.vm ∧ U.heap = h0) (fun _ _ _ _ _ => True) (fun _ U o U' => ∃ v L, o = .returned v ∧ own_Q14o Z tb lb zt kt kl h0 n0 v U'.heap L ∧ FrameEnd U o U' L ({ frames := 0, cells := 0, slots := 0, locals := 0 } : Room).cells ({ frames := 0, cells := 0, slots := 0, locals := 0 } : Room).slots) := by
  refine MetFree.of_bodySF (plainFor_of_name own_pn5) hisR ?_
  intro p e s m args below meth c s₁ Bd hml0 hP hK
  obtain ⟨rfl, hZ, hh⟩ := hP
  have hx := Bd.exec
  have hby := Bd.bytes
  have hml : c.maxLocals = 3 := hml0
  have hown : s.vm.findClass "java/lang/StringLatin1" = some m.cls := findClass_of_methodNamed Bd.named
  have hnm := (name_of_methodNamed Bd.named Bd.method).1
  have X0 : Stand p l e ({ frames := 0, cells := 0, slots := 0, locals := 0 } : Room) s m #[(.ref tb), (.ref lb)] below meth c s₁ [] 0 0 := Stand.of_body Bd
  have e0 : s₁.heap = h0 := by rw [← hh, Bd.state]; rfl
  have N0 := Fr.nil n0
  have pre0 : ∀ t, Steps p.tables e below (s₁.setTop (mkF m 0 #[.val (.ref tb), .val (.ref lb), .unset] [])) t → Steps p.tables e below (s₁.setTop (entryFrame m #[(.ref tb), (.ref lb)] 3)) t := fun t k => castTop (own_ef14o m tb lb) k
  have S1 : ∀ t, Steps p.tables e below (s₁.setTop (mkF m 1 #[.val (.ref tb), .val (.ref lb), .unset] [(.ref tb)])) t → Steps p.tables e below (s₁.setTop (entryFrame m #[(.ref tb), (.ref lb)] 3)) t := fun t kt => by
    refine pre0 t ?_
    show Steps p.tables e below (s₁.setTop (mkF m 0 #[.val (.ref tb), .val (.ref lb), .unset] [])) t
    refine XS.aloadN X0.here hx rfl (hb hby own_d14_0) rfl rfl ?_
    exact kt
  obtain ⟨cl2, Ar2, -, Sz2, Nn2, -, -⟩ := id V_t
  have S3 : ∀ t, Steps p.tables e below (s₁.setTop (mkF m 3 #[.val (.ref tb), .val (.ref lb), .unset] [(.ref lb), (.int (1 : Int32))])) t → Steps p.tables e below (s₁.setTop (entryFrame m #[(.ref tb), (.ref lb)] 3)) t := fun t kt => by
    refine S1 t ?_
    show Steps p.tables e below (s₁.setTop (mkF m 1 #[.val (.ref tb), .val (.ref lb), .unset] [(.ref tb)])) t
    refine X0.arraylength hx (by rw [e0]; exact Ar2.1) (State.isArrayOf_alike hZ.alike Ar2.2.1) (g := (mkF m 1 #[.val (.ref tb), .val (.ref lb), .unset] [(.ref tb)])) rfl rfl (hb hby own_d14_1) _ ?_
    rw [len_of Sz2 Nn2]
    show Steps p.tables e below (s₁.setTop (mkF m 2 #[.val (.ref tb), .val (.ref lb), .unset] [(.int (1 : Int32))])) t
    refine XS.aloadN X0.here hx rfl (hb hby own_d14_2) rfl rfl ?_
    exact kt
  obtain ⟨cl4, Ar4, -, Sz4, Nn4, -, -⟩ := id V_l
  have S5 : ∀ t, Steps p.tables e below (s₁.setTop (mkF m 4 #[.val (.ref tb), .val (.ref lb), .unset] [(.int (1 : Int32)), (.int (1 : Int32))])) t → Steps p.tables e below (s₁.setTop (entryFrame m #[(.ref tb), (.ref lb)] 3)) t := fun t kt => by
    refine S3 t ?_
    show Steps p.tables e below (s₁.setTop (mkF m 3 #[.val (.ref tb), .val (.ref lb), .unset] [(.ref lb), (.int (1 : Int32))])) t
    refine X0.arraylength hx (by rw [e0]; exact Ar4.1) (State.isArrayOf_alike hZ.alike Ar4.2.1) (g := (mkF m 3 #[.val (.ref tb), .val (.ref lb), .unset] [(.ref lb), (.int (1 : Int32))])) rfl rfl (hb hby own_d14_3) _ ?_
    rw [len_of Sz4 Nn4]
    exact kt
  have hc4_6 : (1 : Int32) = (1 : Int32) := by decide
  have S7 : ∀ t, Steps p.tables e below (s₁.setTop (mkF m 11 #[.val (.ref tb), .val (.ref lb), .val (.int (0 : Int32))] [(.ref tb), (.int (0 : Int32))])) t → Steps p.tables e below (s₁.setTop (entryFrame m #[(.ref tb), (.ref lb)] 3)) t := fun t kt => by
    refine S5 t ?_
    show Steps p.tables e below (s₁.setTop (mkF m 4 #[.val (.ref tb), .val (.ref lb), .unset] [(.int (1 : Int32)), (.int (1 : Int32))])) t
    refine XS.icmpNo X0.here hx rfl (hb hby own_d14_4) rfl (teq hc4_6).2 ?_
    show Steps p.tables e below (s₁.setTop (mkF m 7 #[.val (.ref tb), .val (.ref lb), .unset] [])) t
    refine XS.iconst X0.here hx rfl (hb hby own_d14_7) ?_
    show Steps p.tables e below (s₁.setTop (mkF m 8 #[.val (.ref tb), .val (.ref lb), .unset] [(.int (0 : Int32))])) t
    refine XS.istoreN X0.here hx rfl (hb hby own_d14_8) rfl (l' := #[.val (.ref tb), .val (.ref lb), .val (.int (0 : Int32))]) rfl ?_
    show Steps p.tables e below (s₁.setTop (mkF m 9 #[.val (.ref tb), .val (.ref lb), .val (.int (0 : Int32))] [])) t
    refine XS.iloadN X0.here hx rfl (hb hby own_d14_9) rfl ?_
    show Steps p.tables e below (s₁.setTop (mkF m 10 #[.val (.ref tb), .val (.ref lb), .val (.int (0 : Int32))] [(.int (0 : Int32))])) t
    refine XS.aloadN X0.here hx rfl (hb hby own_d14_10) rfl rfl ?_
    exact kt
  obtain ⟨cl8, Ar8, -, Sz8, Nn8, -, -⟩ := id V_t
  have S9 : ∀ t, Steps p.tables e below (s₁.setTop (mkF m 12 #[.val (.ref tb), .val (.ref lb), .val (.int (0 : Int32))] [(.int (1 : Int32)), (.int (0 : Int32))])) t → Steps p.tables e below (s₁.setTop (entryFrame m #[(.ref tb), (.ref lb)] 3)) t := fun t kt => by
    refine S7 t ?_
    show Steps p.tables e below (s₁.setTop (mkF m 11 #[.val (.ref tb), .val (.ref lb), .val (.int (0 : Int32))] [(.ref tb), (.int (0 : Int32))])) t
    refine X0.arraylength hx (by rw [e0]; exact Ar8.1) (State.isArrayOf_alike hZ.alike Ar8.2.1) (g := (mkF m 11 #[.val (.ref tb), .val (.ref lb), .val (.int (0 : Int32))] [(.ref tb), (.int (0 : Int32))])) rfl rfl (hb hby own_d14_11) _ ?_
    rw [len_of Sz8 Nn8]
    exact kt
  have hc12_10 : (0 : Int32) < (1 : Int32) := by decide
  have S12 : ∀ t, Steps p.tables e below (s₁.setTop (mkF m 17 #[.val (.ref tb), .val (.ref lb), .val (.int (0 : Int32))] [(.int (0 : Int32)), (.ref tb)])) t → Steps p.tables e below (s₁.setTop (entryFrame m #[(.ref tb), (.ref lb)] 3)) t := fun t kt => by
    refine S9 t ?_
    show Steps p.tables e below (s₁.setTop (mkF m 12 #[.val (.ref tb), .val (.ref lb), .val (.int (0 : Int32))] [(.int (1 : Int32)), (.int (0 : Int32))])) t
    refine XS.icmpNo X0.here hx rfl (hb hby own_d14_12) rfl (tlt hc12_10).2.1 ?_
    show Steps p.tables e below (s₁.setTop (mkF m 15 #[.val (.ref tb), .val (.ref lb), .val (.int (0 : Int32))] [])) t
    refine XS.aloadN X0.here hx rfl (hb hby own_d14_15) rfl rfl ?_
    show Steps p.tables e below (s₁.setTop (mkF m 16 #[.val (.ref tb), .val (.ref lb), .val (.int (0 : Int32))] [(.ref tb)])) t
    refine XS.iloadN X0.here hx rfl (hb hby own_d14_16) rfl ?_
    exact kt
  obtain ⟨cl11, Ar11, -, Sz11, Nn11, Hh11, -⟩ := id V_t
  have hin11 : ¬ ((0 : Int32) < 0 ∨ cl11.slots.size ≤ ((0 : Int32)).toNatClampNeg) := inb_of Sz11 ⟨by decide, by decide⟩
  have S14 : ∀ t, Steps p.tables e below (s₁.setTop (mkF m 20 #[.val (.ref tb), .val (.ref lb), .val (.int (0 : Int32))] [(.int (0 : Int32)), (.ref lb), (.int zt)])) t → Steps p.tables e below (s₁.setTop (entryFrame m #[(.ref tb), (.ref lb)] 3)) t := fun t kt => by
    refine S12 t ?_
    show Steps p.tables e below (s₁.setTop (mkF m 17 #[.val (.ref tb), .val (.ref lb), .val (.int (0 : Int32))] [(.int (0 : Int32)), (.ref tb)])) t
    refine X0.baloadBytes hx (j := (0 : Int32)) (v := (.int zt)) (by rw [e0]; exact Ar11.1) (State.isArrayOf_alike hZ.alike Ar11.2.1) Ar11.2.2 hin11 (Has.at Hh11 hin11 rfl) (g := (mkF m 17 #[.val (.ref tb), .val (.ref lb), .val (.int (0 : Int32))] [(.int (0 : Int32)), (.ref tb)])) rfl rfl (hb hby own_d14_17) _ ?_
    show Steps p.tables e below (s₁.setTop (mkF m 18 #[.val (.ref tb), .val (.ref lb), .val (.int (0 : Int32))] [(.int zt)])) t
    refine XS.aloadN X0.here hx rfl (hb hby own_d14_18) rfl rfl ?_
    show Steps p.tables e below (s₁.setTop (mkF m 19 #[.val (.ref tb), .val (.ref lb), .val (.int (0 : Int32))] [(.ref lb), (.int zt)])) t
    refine XS.iloadN X0.here hx rfl (hb hby own_d14_19) rfl ?_
    exact kt
  obtain ⟨cl13, Ar13, -, Sz13, Nn13, Hh13, -⟩ := id V_l
  have hin13 : ¬ ((0 : Int32) < 0 ∨ cl13.slots.size ≤ ((0 : Int32)).toNatClampNeg) := inb_of Sz13 ⟨by decide, by decide⟩
  have S15 : ∀ t, Steps p.tables e below (s₁.setTop (mkF m 21 #[.val (.ref tb), .val (.ref lb), .val (.int (0 : Int32))] [(.int (42 : Int32)), (.int zt)])) t → Steps p.tables e below (s₁.setTop (entryFrame m #[(.ref tb), (.ref lb)] 3)) t := fun t kt => by
    refine S14 t ?_
    show Steps p.tables e below (s₁.setTop (mkF m 20 #[.val (.ref tb), .val (.ref lb), .val (.int (0 : Int32))] [(.int (0 : Int32)), (.ref lb), (.int zt)])) t
    refine X0.baloadBytes hx (j := (0 : Int32)) (v := (.int (42 : Int32))) (by rw [e0]; exact Ar13.1) (State.isArrayOf_alike hZ.alike Ar13.2.1) Ar13.2.2 hin13 (Has.at Hh13 hin13 rfl) (g := (mkF m 20 #[.val (.ref tb), .val (.ref lb), .val (.int (0 : Int32))] [(.int (0 : Int32)), (.ref lb), (.int zt)])) rfl rfl (hb hby own_d14_20) _ ?_
    exact kt
  by_cases hc21 : zt = (42 : Int32)
  · skip
    have S16 : ∀ t, Steps p.tables e below (s₁.setTop (mkF m 11 #[.val (.ref tb), .val (.ref lb), .val (.int (1 : Int32))] [(.ref tb), (.int (1 : Int32))])) t → Steps p.tables e below (s₁.setTop (entryFrame m #[(.ref tb), (.ref lb)] 3)) t := fun t kt => by
      refine S15 t ?_
      show Steps p.tables e below (s₁.setTop (mkF m 21 #[.val (.ref tb), .val (.ref lb), .val (.int (0 : Int32))] [(.int (42 : Int32)), (.int zt)])) t
      refine XS.icmpYes X0.here hx rfl (pc0 := 21) (pc' := 26) rfl (hb hby own_d14_21) rfl (teq hc21).1 (by decide) (by decide) ?_
      show Steps p.tables e below (s₁.setTop (mkF m 26 #[.val (.ref tb), .val (.ref lb), .val (.int (0 : Int32))] [])) t
      refine XS.iinc X0.here hx rfl (hb hby own_d14_26) rfl (l' := #[.val (.ref tb), .val (.ref lb), .val (.int (1 : Int32))]) rfl ?_
      show Steps p.tables e below (s₁.setTop (mkF m 29 #[.val (.ref tb), .val (.ref lb), .val (.int (1 : Int32))] [])) t
      refine XS.goto X0.here hx rfl (pc0 := 29) (pc' := 9) rfl (hb hby own_d14_29) (by decide) (by decide) ?_
      show Steps p.tables e below (s₁.setTop (mkF m 9 #[.val (.ref tb), .val (.ref lb), .val (.int (1 : Int32))] [])) t
      refine XS.iloadN X0.here hx rfl (hb hby own_d14_9) rfl ?_
      show Steps p.tables e below (s₁.setTop (mkF m 10 #[.val (.ref tb), .val (.ref lb), .val (.int (1 : Int32))] [(.int (1 : Int32))])) t
      refine XS.aloadN X0.here hx rfl (hb hby own_d14_10) rfl rfl ?_
      exact kt
    obtain ⟨cl17, Ar17, -, Sz17, Nn17, -, -⟩ := id V_t
    have S18 : ∀ t, Steps p.tables e below (s₁.setTop (mkF m 12 #[.val (.ref tb), .val (.ref lb), .val (.int (1 : Int32))] [(.int (1 : Int32)), (.int (1 : Int32))])) t → Steps p.tables e below (s₁.setTop (entryFrame m #[(.ref tb), (.ref lb)] 3)) t := fun t kt => by
      refine S16 t ?_
      show Steps p.tables e below (s₁.setTop (mkF m 11 #[.val (.ref tb), .val (.ref lb), .val (.int (1 : Int32))] [(.ref tb), (.int (1 : Int32))])) t
      refine X0.arraylength hx (by rw [e0]; exact Ar17.1) (State.isArrayOf_alike hZ.alike Ar17.2.1) (g := (mkF m 11 #[.val (.ref tb), .val (.ref lb), .val (.int (1 : Int32))] [(.ref tb), (.int (1 : Int32))])) rfl rfl (hb hby own_d14_11) _ ?_
      rw [len_of Sz17 Nn17]
      exact kt
    have hc12_19 : ¬ ((1 : Int32) < (1 : Int32)) := by decide
    have S20 : ∀ t, Steps p.tables e below (s₁.setTop (mkF m 33 #[.val (.ref tb), .val (.ref lb), .val (.int (1 : Int32))] [(.int (1 : Int32))])) t → Steps p.tables e below (s₁.setTop (entryFrame m #[(.ref tb), (.ref lb)] 3)) t := fun t kt => by
      refine S18 t ?_
      show Steps p.tables e below (s₁.setTop (mkF m 12 #[.val (.ref tb), .val (.ref lb), .val (.int (1 : Int32))] [(.int (1 : Int32)), (.int (1 : Int32))])) t
      refine XS.icmpYes X0.here hx rfl (pc0 := 12) (pc' := 32) rfl (hb hby own_d14_12) rfl (flt hc12_19).2.1 (by decide) (by decide) ?_
      show Steps p.tables e below (s₁.setTop (mkF m 32 #[.val (.ref tb), .val (.ref lb), .val (.int (1 : Int32))] [])) t
      refine XS.iconst X0.here hx rfl (hb hby own_d14_32) ?_
      exact kt
    obtain ⟨fs, hr, hrun, hended, hW, hsame⟩ := X0.leave (v := some (.int (nar .boolean (1 : Int32)))) (fun h => by rw [Bd.returns] at h; cases h)
    refine ⟨_, _, S20 _ ?_, hrun, hended, _, _, rfl, ?_, ⟨_, rfl⟩, hW, hsame.mono (by decide) (by decide)⟩
    · show Steps p.tables e below (s₁.setTop (mkF m 33 #[.val (.ref tb), .val (.ref lb), .val (.int (1 : Int32))] [(.int (1 : Int32))])) _
      exact retN X0 hx (t := .boolean) Bd.returns (by simp) (hb hby own_d14_33) hr
    · show own_Q14o Z tb lb zt kt kl h0 n0 _ s₁.heap _
      rw [e0]
      exact ⟨own_leafT (by first | (simp only [decide_true, decide_false, not_true_eq_false, not_false_eq_true, and_true, true_and, and_false, false_and, and_self, or_true, true_or, or_false, false_or, or_self, if_true, if_false, Bool.not_true, Bool.not_false, Bool.and_true, Bool.true_and, Bool.and_false, Bool.false_and, *]; done) | (simp only [decide_true, decide_false, not_true_eq_false, not_false_eq_true, and_true, true_and, and_false, false_and, and_self, or_true, true_or, or_false, false_or, or_self, if_true, if_false, Bool.not_true, Bool.not_false, Bool.and_true, Bool.true_and, Bool.and_false, Bool.false_and, *]; decide)), rfl, rfl⟩
  · skip
    have S21 : ∀ t, Steps p.tables e below (s₁.setTop (mkF m 25 #[.val (.ref tb), .val (.ref lb), .val (.int (0 : Int32))] [(.int (0 : Int32))])) t → Steps p.tables e below (s₁.setTop (entryFrame m #[(.ref tb), (.ref lb)] 3)) t := fun t kt => by
      refine S15 t ?_
      show Steps p.tables e below (s₁.setTop (mkF m 21 #[.val (.ref tb), .val (.ref lb), .val (.int (0 : Int32))] [(.int (42 : Int32)), (.int zt)])) t
      refine XS.icmpNo X0.here hx rfl (hb hby own_d14_21) rfl (feq hc21).1 ?_
      show Steps p.tables e below (s₁.setTop (mkF m 24 #[.val (.ref tb), .val (.ref lb), .val (.int (0 : Int32))] [])) t
      refine XS.iconst X0.here hx rfl (hb hby own_d14_24) ?_
      exact kt
    obtain ⟨fs, hr, hrun, hended, hW, hsame⟩ := X0.leave (v := some (.int (nar .boolean (0 : Int32)))) (fun h => by rw [Bd.returns] at h; cases h)
    refine ⟨_, _, S21 _ ?_, hrun, hended, _, _, rfl, ?_, ⟨_, rfl⟩, hW, hsame.mono (by decide) (by decide)⟩
    · show Steps p.tables e below (s₁.setTop (mkF m 25 #[.val (.ref tb), .val (.ref lb), .val (.int (0 : Int32))] [(.int (0 : Int32))])) _
      exact retN X0 hx (t := .boolean) Bd.returns (by simp) (hb hby own_d14_25) hr
    · show own_Q14o Z tb lb zt kt kl h0 n0 _ s₁.heap _
      rw [e0]
      exact ⟨own_leafF (by first | (simp only [decide_true, decide_false, not_true_eq_false, not_false_eq_true, and_true, true_and, and_false, false_and, and_self, or_true, true_or, or_false, false_or, or_self, if_true, if_false, Bool.not_true, Bool.not_false, Bool.and_true, Bool.true_and, Bool.and_false, Bool.false_and, *]; done) | (simp only [decide_true, decide_false, not_true_eq_false, not_false_eq_true, and_true, true_and, and_false, false_and, and_self, or_true, true_or, or_false, false_or, or_self, if_true, if_false, Bool.not_true, Bool.not_false, Bool.and_true, Bool.true_and, Bool.and_false, Bool.false_and, *]; decide)), rfl, rfl⟩
theorem own_d14_34 : decode jdk_43_method_13_code 34 = .ok (.iconst 0, 1) := by decide +kernel
theorem own_d14_35 : decode jdk_43_method_13_code 35 = .ok (.ireturn, 1) := by decide +kernel
theorem own_ef14n (m : MethodId) (x0 : Addr) (x1 : Addr) : entryFrame m #[(.ref x0), (.ref x1)] 3 = mkF m 0 #[.val (.ref x0), .val (.ref x1), .unset] [] := by first | (simp [entryFrame, mkF, argsToLocals, Value.category]; done) | rfl
def own_Q14n (Z : State) (tb : Addr) (lb : Addr) (nt : Int32) (vt : List Value) (kt : ClassId) (kl : ClassId) (h0 : Heap) (n0 : Nat) (v : Option Value) (h : Heap) (L : List Loc) : Prop := v = some (.int (0 : Int32)) ∧ L = [] ∧ h = h0
set_option maxHeartbeats 40000000 in
theorem own_rm14n (l : Launch) (Z : State) (a0 : Array Value) (hw : ∀ d ∈ tables_1, d.before a0 Z = true) (ws : List Jvm.Cond) (tb : Addr) (lb : Addr) (nt : Int32) (vt : List Value) (kt : ClassId) (kl : ClassId) (h0 : Heap) (n0 : Nat) (Z0 : n0 ≤ h0.size) (V_t : Arv Z h0 tb kt .byte nt vt (.int (0 : Int32))) (V_l : Arv Z h0 lb kl .byte (1 : Int32) [(.int (42 : Int32))] (.int (0 : Int32))) (hn1 : ¬ nt = (1 : Int32)) :
    MetFree l (⟨"java/lang/StringLatin1", "equals", "([B[B)Z"⟩ : MethodName) (head1 (Jvm.Cond.code (⟨"java/lang/StringLatin1", "equals", "([B[B)Z"⟩ : MethodName) jdk_43_method_13_code 3 (some .boolean) :: ws) ({ frames := 0, cells := 0, slots := 0, locals := 0 } : Room)) (fun argv U => argv = #[(.ref tb), (.ref lb)] ∧ Z.Warmed39 U.vm ∧ U.heap = h0) (fun _ _ _ _ _ => True) (fun _ U o U' => ∃ v L, o = .returned v ∧ own_Q14n Z tb lb nt vt kt kl h0 n0 v U'.heap L ∧ FrameEnd U o U' L ({ frames := 0, cells := 0, slots := 0, locals := 0 } : Room).cells ({ frames := 0, cells := 0, slots := 0, locals := 0 } : Room).slots) := by
  refine MetFree.of_bodySF (plainFor_of_name own_pn5) hisR ?_
  intro p e s m args below meth c s₁ Bd hml0 hP hK
  obtain ⟨rfl, hZ, hh⟩ := hP
  have hx := Bd.exec
  have hby := Bd.bytes
  have hml : c.maxLocals = 3 := hml0
  have hown : s.vm.findClass "java/lang/StringLatin1" = some m.cls := findClass_of_methodNamed Bd.named
  have hnm := (name_of_methodNamed Bd.named Bd.method).1
  have X0 : Stand p l e ({ frames := 0, cells := 0, slots := 0, locals := 0 } : Room) s m #[(.ref tb), (.ref lb)] below meth c s₁ [] 0 0 := Stand.of_body Bd
  have e0 : s₁.heap = h0 := by rw [← hh, Bd.state]; rfl
  have N0 := Fr.nil n0
  have pre0 : ∀ t, Steps p.tables e below (s₁.setTop (mkF m 0 #[.val (.ref tb), .val (.ref lb), .unset] [])) t → Steps p.tables e below (s₁.setTop (entryFrame m #[(.ref tb), (.ref lb)] 3)) t := fun t k => castTop (own_ef14n m tb lb) k
  have S1 : ∀ t, Steps p.tables e below (s₁.setTop (mkF m 1 #[.val (.ref tb), .val (.ref lb), .unset] [(.ref tb)])) t → Steps p.tables e below (s₁.setTop (entryFrame m #[(.ref tb), (.ref lb)] 3)) t := fun t kt => by
    refine pre0 t ?_
    show Steps p.tables e below (s₁.setTop (mkF m 0 #[.val (.ref tb), .val (.ref lb), .unset] [])) t
    refine XS.aloadN X0.here hx rfl (hb hby own_d14_0) rfl rfl ?_
    exact kt
  obtain ⟨cl2, Ar2, -, Sz2, Nn2, -, -⟩ := id V_t
  have S3 : ∀ t, Steps p.tables e below (s₁.setTop (mkF m 3 #[.val (.ref tb), .val (.ref lb), .unset] [(.ref lb), (.int nt)])) t → Steps p.tables e below (s₁.setTop (entryFrame m #[(.ref tb), (.ref lb)] 3)) t := fun t kt => by
    refine S1 t ?_
    show Steps p.tables e below (s₁.setTop (mkF m 1 #[.val (.ref tb), .val (.ref lb), .unset] [(.ref tb)])) t
    refine X0.arraylength hx (by rw [e0]; exact Ar2.1) (State.isArrayOf_alike hZ.alike Ar2.2.1) (g := (mkF m 1 #[.val (.ref tb), .val (.ref lb), .unset] [(.ref tb)])) rfl rfl (hb hby own_d14_1) _ ?_
    rw [len_of Sz2 Nn2]
    show Steps p.tables e below (s₁.setTop (mkF m 2 #[.val (.ref tb), .val (.ref lb), .unset] [(.int nt)])) t
    refine XS.aloadN X0.here hx rfl (hb hby own_d14_2) rfl rfl ?_
    exact kt
  obtain ⟨cl4, Ar4, -, Sz4, Nn4, -, -⟩ := id V_l
  have S5 : ∀ t, Steps p.tables e below (s₁.setTop (mkF m 4 #[.val (.ref tb), .val (.ref lb), .unset] [(.int (1 : Int32)), (.int nt)])) t → Steps p.tables e below (s₁.setTop (entryFrame m #[(.ref tb), (.ref lb)] 3)) t := fun t kt => by
    refine S3 t ?_
    show Steps p.tables e below (s₁.setTop (mkF m 3 #[.val (.ref tb), .val (.ref lb), .unset] [(.ref lb), (.int nt)])) t
    refine X0.arraylength hx (by rw [e0]; exact Ar4.1) (State.isArrayOf_alike hZ.alike Ar4.2.1) (g := (mkF m 3 #[.val (.ref tb), .val (.ref lb), .unset] [(.ref lb), (.int nt)])) rfl rfl (hb hby own_d14_3) _ ?_
    rw [len_of Sz4 Nn4]
    exact kt
  have hc4_6 : ¬ (nt = (1 : Int32)) := hn1
  have S7 : ∀ t, Steps p.tables e below (s₁.setTop (mkF m 35 #[.val (.ref tb), .val (.ref lb), .unset] [(.int (0 : Int32))])) t → Steps p.tables e below (s₁.setTop (entryFrame m #[(.ref tb), (.ref lb)] 3)) t := fun t kt => by
    refine S5 t ?_
    show Steps p.tables e below (s₁.setTop (mkF m 4 #[.val (.ref tb), .val (.ref lb), .unset] [(.int (1 : Int32)), (.int nt)])) t
    refine XS.icmpYes X0.here hx rfl (pc0 := 4) (pc' := 34) rfl (hb hby own_d14_4) rfl (feq hc4_6).2 (by decide) (by decide) ?_
    show Steps p.tables e below (s₁.setTop (mkF m 34 #[.val (.ref tb), .val (.ref lb), .unset] [])) t
    refine XS.iconst X0.here hx rfl (hb hby own_d14_34) ?_
    exact kt
  obtain ⟨fs, hr, hrun, hended, hW, hsame⟩ := X0.leave (v := some (.int (nar .boolean (0 : Int32)))) (fun h => by rw [Bd.returns] at h; cases h)
  refine ⟨_, _, S7 _ ?_, hrun, hended, _, _, rfl, ?_, ⟨_, rfl⟩, hW, hsame.mono (by decide) (by decide)⟩
  · show Steps p.tables e below (s₁.setTop (mkF m 35 #[.val (.ref tb), .val (.ref lb), .unset] [(.int (0 : Int32))])) _
    exact retN X0 hx (t := .boolean) Bd.returns (by simp) (hb hby own_d14_35) hr
  · show own_Q14n Z tb lb nt vt kt kl h0 n0 _ s₁.heap _
    rw [e0]
    exact ⟨rfl, rfl, rfl⟩
theorem own_pd11 : parseMethodDescriptor "([B[B)Z" = some ⟨[(.array .byte), (.array .byte)], some .boolean⟩ := by decide +kernel
theorem own_d13_0 : decode jdk_42_method_66_code 0 = .ok (.aload_n 0, 1) := by decide +kernel
theorem own_d13_1 : decode jdk_42_method_66_code 1 = .ok (.aload_n 1, 1) := by decide +kernel
theorem own_d13_2 : decode jdk_42_method_66_code 2 = .ok (.if_acmp .ne 5, 3) := by decide +kernel
theorem own_d13_5 : decode jdk_42_method_66_code 5 = .ok (.iconst 1, 1) := by decide +kernel
theorem own_d13_6 : decode jdk_42_method_66_code 6 = .ok (.ireturn, 1) := by decide +kernel
theorem own_d13_7 : decode jdk_42_method_66_code 7 = .ok (.aload_n 1, 1) := by decide +kernel
theorem own_d13_8 : decode jdk_42_method_66_code 8 = .ok (.instanceof 10, 3) := by decide +kernel
theorem own_d13_11 : decode jdk_42_method_66_code 11 = .ok (.ifCond .eq 43, 3) := by decide +kernel
theorem own_d13_14 : decode jdk_42_method_66_code 14 = .ok (.aload_n 1, 1) := by decide +kernel
theorem own_d13_15 : decode jdk_42_method_66_code 15 = .ok (.checkcast 10, 3) := by decide +kernel
theorem own_d13_18 : decode jdk_42_method_66_code 18 = .ok (.astore_n 2, 1) := by decide +kernel
theorem own_d13_19 : decode jdk_42_method_66_code 19 = .ok (.getstatic 38, 3) := by decide +kernel
theorem own_d13_22 : decode jdk_42_method_66_code 22 = .ok (.ifCond .eq 14, 3) := by decide +kernel
theorem own_d13_25 : decode jdk_42_method_66_code 25 = .ok (.aload_n 0, 1) := by decide +kernel
theorem own_d13_26 : decode jdk_42_method_66_code 26 = .ok (.getfield 15, 3) := by decide +kernel
theorem own_d13_29 : decode jdk_42_method_66_code 29 = .ok (.aload_n 2, 1) := by decide +kernel
theorem own_d13_30 : decode jdk_42_method_66_code 30 = .ok (.getfield 15, 3) := by decide +kernel
theorem own_d13_33 : decode jdk_42_method_66_code 33 = .ok (.if_icmp .ne 21, 3) := by decide +kernel
theorem own_d13_36 : decode jdk_42_method_66_code 36 = .ok (.aload_n 0, 1) := by decide +kernel
theorem own_d13_37 : decode jdk_42_method_66_code 37 = .ok (.getfield 9, 3) := by decide +kernel
theorem own_d13_40 : decode jdk_42_method_66_code 40 = .ok (.aload_n 2, 1) := by decide +kernel
theorem own_d13_41 : decode jdk_42_method_66_code 41 = .ok (.getfield 9, 3) := by decide +kernel
theorem own_d13_44 : decode jdk_42_method_66_code 44 = .ok (.invokestatic 541, 3) := by decide +kernel
theorem own_d13_47 : decode jdk_42_method_66_code 47 = .ok (.ifCond .eq 7, 3) := by decide +kernel
theorem own_d13_50 : decode jdk_42_method_66_code 50 = .ok (.iconst 1, 1) := by decide +kernel
theorem own_d13_51 : decode jdk_42_method_66_code 51 = .ok (.goto 4, 3) := by decide +kernel
theorem own_d13_54 : decode jdk_42_method_66_code 54 = .ok (.iconst 0, 1) := by decide +kernel
theorem own_d13_55 : decode jdk_42_method_66_code 55 = .ok (.ireturn, 1) := by decide +kernel
theorem own_ef13o (m : MethodId) (x0 : Addr) (x1 : Addr) : entryFrame m #[(.ref x0), (.ref x1)] 3 = mkF m 0 #[.val (.ref x0), .val (.ref x1), .unset] [] := by first | (simp [entryFrame, mkF, argsToLocals, Value.category]; done) | rfl
def own_Q13o (Z : State) (a : Addr) (o_ : Addr) (cs : Int32) (tb : Addr) (lb : Addr) (zt : Int32) (kt : ClassId) (kl : ClassId) (h0 : Heap) (n0 : Nat) (v : Option Value) (h : Heap) (L : List Loc) : Prop := v = some (.int (own_b (decide (zt = (42 : Int32))))) ∧ L = [] ∧ h = h0
set_option maxHeartbeats 40000000 in
theorem own_rm13o (l : Launch) (Z : State) (a0 : Array Value) (hw : ∀ d ∈ tables_1, d.before a0 Z = true) (ws : List Jvm.Cond) (a : Addr) (o_ : Addr) (cs : Int32) (tb : Addr) (lb : Addr) (zt : Int32) (kt : ClassId) (kl : ClassId) (h0 : Heap) (n0 : Nat) (Z0 : n0 ≤ h0.size) (S_CS : Sta Z h0 "java/lang/String" "COMPACT_STRINGS" "Z" (.int cs)) (hcs : ¬ cs = (0 : Int32)) (E_a : Exa Z h0 a "java/lang/String") (C_a : Fld Z h0 a "java/lang/String" "coder" "B" (.int (0 : Int32))) (E_o_ : Exa Z h0 o_ "java/lang/String") (C_o_ : Fld Z h0 o_ "java/lang/String" "coder" "B" (.int (0 : Int32))) (W_a : Fld Z h0 a "java/lang/String" "value" "[B" (.ref tb)) (W_o_ : Fld Z h0 o_ "java/lang/String" "value" "[B" (.ref lb)) (V_t : Arv Z h0 tb kt .byte (1 : Int32) [(.int zt)] (.int (0 : Int32))) (V_l : Arv Z h0 lb kl .byte (1 : Int32) [(.int (42 : Int32))] (.int (0 : Int32))) :
    MetFree l (⟨"java/lang/String", "equals", "(Ljava/lang/Object;)Z"⟩ : MethodName) (head1 (Jvm.Cond.code (⟨"java/lang/String", "equals", "(Ljava/lang/Object;)Z"⟩ : MethodName) jdk_42_method_66_code 3 (some .boolean) :: ws) ({ frames := 1, cells := 0, slots := 0, locals := 14 } : Room)) (fun argv U => argv = #[(.ref a), (.ref o_)] ∧ Z.Warmed39 U.vm ∧ U.heap = h0) (fun _ _ _ _ _ => True) (fun _ U o U' => ∃ v L, o = .returned v ∧ own_Q13o Z a o_ cs tb lb zt kt kl h0 n0 v U'.heap L ∧ FrameEnd U o U' L ({ frames := 1, cells := 0, slots := 0, locals := 14 } : Room).cells ({ frames := 1, cells := 0, slots := 0, locals := 14 } : Room).slots) := by
  refine MetFree.of_bodySF (plainFor_of_name own_pn4) hisR ?_
  intro p e s m args below meth c s₁ Bd hml0 hP hK
  obtain ⟨rfl, hZ, hh⟩ := hP
  have hx := Bd.exec
  have hby := Bd.bytes
  have hml : c.maxLocals = 3 := hml0
  have hown : s.vm.findClass "java/lang/String" = some m.cls := findClass_of_methodNamed Bd.named
  have hnm := (name_of_methodNamed Bd.named Bd.method).1
  have X0 : Stand p l e ({ frames := 1, cells := 0, slots := 0, locals := 14 } : Room) s m #[(.ref a), (.ref o_)] below meth c s₁ [] 0 0 := Stand.of_body Bd
  have e0 : s₁.heap = h0 := by rw [← hh, Bd.state]; rfl
  have N0 := Fr.nil n0
  have pre0 : ∀ t, Steps p.tables e below (s₁.setTop (mkF m 0 #[.val (.ref a), .val (.ref o_), .unset] [])) t → Steps p.tables e below (s₁.setTop (entryFrame m #[(.ref a), (.ref o_)] 3)) t := fun t k => castTop (own_ef13o m a o_) k
  have S1 : ∀ t, Steps p.tables e below (s₁.setTop (mkF m 2 #[.val (.ref a), .val (.ref o_), .unset] [(.ref o_), (.ref a)])) t → Steps p.tables e below (s₁.setTop (entryFrame m #[(.ref a), (.ref o_)] 3)) t := fun t kt => by
    refine pre0 t ?_
    show Steps p.tables e below (s₁.setTop (mkF m 0 #[.val (.ref a), .val (.ref o_), .unset] [])) t
    refine XS.aloadN X0.here hx rfl (hb hby own_d13_0) rfl rfl ?_
    show Steps p.tables e below (s₁.setTop (mkF m 1 #[.val (.ref a), .val (.ref o_), .unset] [(.ref a)])) t
    refine XS.aloadN X0.here hx rfl (hb hby own_d13_1) rfl rfl ?_
    exact kt
  by_cases hc2 : a = o_
  · skip
    have S2 : ∀ t, Steps p.tables e below (s₁.setTop (mkF m 6 #[.val (.ref a), .val (.ref o_), .unset] [(.int (1 : Int32))])) t → Steps p.tables e below (s₁.setTop (entryFrame m #[(.ref a), (.ref o_)] 3)) t := fun t kt => by
      refine S1 t ?_
      show Steps p.tables e below (s₁.setTop (mkF m 2 #[.val (.ref a), .val (.ref o_), .unset] [(.ref o_), (.ref a)])) t
      refine Jvm.RoadKit.acmp (g := (mkF m 2 #[.val (.ref a), .val (.ref o_), .unset] [(.ref o_), (.ref a)])) X0 hx rfl rfl rfl (pc0 := 2) (pc' := 5) (same := true) rfl (hb hby own_d13_2) rfl (decide_eq_true (congrArg Value.ref hc2)) (by decide) (by decide) ?_
      show Steps p.tables e below (s₁.setTop (mkF m 5 #[.val (.ref a), .val (.ref o_), .unset] [])) t
      refine XS.iconst X0.here hx rfl (hb hby own_d13_5) ?_
      exact kt
    obtain ⟨fs, hr, hrun, hended, hW, hsame⟩ := X0.leave (v := some (.int (nar .boolean (1 : Int32)))) (fun h => by rw [Bd.returns] at h; cases h)
    refine ⟨_, _, S2 _ ?_, hrun, hended, _, _, rfl, ?_, ⟨_, rfl⟩, hW, hsame.mono (by decide) (by decide)⟩
    · show Steps p.tables e below (s₁.setTop (mkF m 6 #[.val (.ref a), .val (.ref o_), .unset] [(.int (1 : Int32))])) _
      exact retN X0 hx (t := .boolean) Bd.returns (by simp) (hb hby own_d13_6) hr
    · show own_Q13o Z a o_ cs tb lb zt kt kl h0 n0 _ s₁.heap _
      rw [e0]
      exact ⟨own_leafT (decide_eq_true (Decidable.byContradiction fun q => own_ne_same W_a W_o_ V_t V_l (Or.inr ⟨0, by decide, fun e => q (Value.int.inj e)⟩) hc2)), rfl, rfl⟩
  · skip
    have S3 : ∀ t, Steps p.tables e below (s₁.setTop (mkF m 8 #[.val (.ref a), .val (.ref o_), .unset] [(.ref o_)])) t → Steps p.tables e below (s₁.setTop (entryFrame m #[(.ref a), (.ref o_)] 3)) t := fun t kt => by
      refine S1 t ?_
      show Steps p.tables e below (s₁.setTop (mkF m 2 #[.val (.ref a), .val (.ref o_), .unset] [(.ref o_), (.ref a)])) t
      refine Jvm.RoadKit.acmp (g := (mkF m 2 #[.val (.ref a), .val (.ref o_), .unset] [(.ref o_), (.ref a)])) X0 hx rfl rfl rfl (pc0 := 2) (pc' := 7) (same := false) rfl (hb hby own_d13_2) rfl (decide_eq_false fun q => hc2 (Value.ref.inj q)) (by decide) (by decide) ?_
      show Steps p.tables e below (s₁.setTop (mkF m 7 #[.val (.ref a), .val (.ref o_), .unset] [])) t
      refine XS.aloadN X0.here hx rfl (hb hby own_d13_7) rfl rfl ?_
      exact kt
    obtain ⟨T4, X4, e4, st4⟩ := instY X0 hx hZ hown (hw _ (List.mem_of_getElem? (i := 13) rfl)) e0 (Ins.self E_o_) (g := (mkF m 8 #[.val (.ref a), .val (.ref o_), .unset] [(.ref o_)])) rfl rfl (hb hby own_d13_8)
    have S5 : ∀ t, Steps p.tables e below (T4.setTop (mkF m 11 #[.val (.ref a), .val (.ref o_), .unset] [(.int (1 : Int32))])) t → Steps p.tables e below (s₁.setTop (entryFrame m #[(.ref a), (.ref o_)] 3)) t := fun t kt => S3 t (st4 _ kt)
    have hc11_6 : ¬ ((1 : Int32) = (0 : Int32)) := by decide
    have S7 : ∀ t, Steps p.tables e below (T4.setTop (mkF m 15 #[.val (.ref a), .val (.ref o_), .unset] [(.ref o_)])) t → Steps p.tables e below (s₁.setTop (entryFrame m #[(.ref a), (.ref o_)] 3)) t := fun t kt => by
      refine S5 t ?_
      show Steps p.tables e below (T4.setTop (mkF m 11 #[.val (.ref a), .val (.ref o_), .unset] [(.int (1 : Int32))])) t
      refine XS.ifNo X4.here hx rfl (hb hby own_d13_11) rfl ((if0 _ _).trans (feq hc11_6).1) ?_
      show Steps p.tables e below (T4.setTop (mkF m 14 #[.val (.ref a), .val (.ref o_), .unset] [])) t
      refine XS.aloadN X4.here hx rfl (hb hby own_d13_14) rfl rfl ?_
      exact kt
    obtain ⟨T8, X8, e8, st8⟩ := castY X4 hx hZ hown (hw _ (List.mem_of_getElem? (i := 13) rfl)) e4 (Ins.self E_o_) (g := (mkF m 15 #[.val (.ref a), .val (.ref o_), .unset] [(.ref o_)])) rfl rfl (hb hby own_d13_15)
    have S9 : ∀ t, Steps p.tables e below (T8.setTop (mkF m 18 #[.val (.ref a), .val (.ref o_), .unset] [(.ref o_)])) t → Steps p.tables e below (s₁.setTop (entryFrame m #[(.ref a), (.ref o_)] 3)) t := fun t kt => S7 t (st8 _ kt)
    have S10 : ∀ t, Steps p.tables e below (T8.setTop (mkF m 19 #[.val (.ref a), .val (.ref o_), .val (.ref o_)] [])) t → Steps p.tables e below (s₁.setTop (entryFrame m #[(.ref a), (.ref o_)] 3)) t := fun t kt => by
      refine S9 t ?_
      show Steps p.tables e below (T8.setTop (mkF m 18 #[.val (.ref a), .val (.ref o_), .unset] [(.ref o_)])) t
      refine XS.astoreN X8.here hx rfl (hb hby own_d13_18) rfl rfl (l' := #[.val (.ref a), .val (.ref o_), .val (.ref o_)]) rfl ?_
      exact kt
    obtain ⟨T11, X11, e11, st11⟩ := getS2 X8 hx hZ hown (host := "") (Or.inl (hw _ (List.mem_of_getElem? (i := 8) rfl))) Via.refl e8 S_CS (g := (mkF m 19 #[.val (.ref a), .val (.ref o_), .val (.ref o_)] [])) rfl (hb hby own_d13_19)
    have S12 : ∀ t, Steps p.tables e below (T11.setTop (mkF m 22 #[.val (.ref a), .val (.ref o_), .val (.ref o_)] [(.int cs)])) t → Steps p.tables e below (s₁.setTop (entryFrame m #[(.ref a), (.ref o_)] 3)) t := fun t kt => S10 t (st11 _ kt)
    have hc22_13 : ¬ (cs = (0 : Int32)) := hcs
    have S14 : ∀ t, Steps p.tables e below (T11.setTop (mkF m 26 #[.val (.ref a), .val (.ref o_), .val (.ref o_)] [(.ref a)])) t → Steps p.tables e below (s₁.setTop (entryFrame m #[(.ref a), (.ref o_)] 3)) t := fun t kt => by
      refine S12 t ?_
      show Steps p.tables e below (T11.setTop (mkF m 22 #[.val (.ref a), .val (.ref o_), .val (.ref o_)] [(.int cs)])) t
      refine XS.ifNo X11.here hx rfl (hb hby own_d13_22) rfl ((if0 _ _).trans (feq hc22_13).1) ?_
      show Steps p.tables e below (T11.setTop (mkF m 25 #[.val (.ref a), .val (.ref o_), .val (.ref o_)] [])) t
      refine XS.aloadN X11.here hx rfl (hb hby own_d13_25) rfl rfl ?_
      exact kt
    obtain ⟨T15, X15, e15, st15⟩ := getF X11 hx hZ hown (host := "") (Or.inl (hw _ (List.mem_of_getElem? (i := 28) rfl))) Via.refl e11 C_a (g := (mkF m 26 #[.val (.ref a), .val (.ref o_), .val (.ref o_)] [(.ref a)])) rfl rfl (hb hby own_d13_26)
    have S16 : ∀ t, Steps p.tables e below (T15.setTop (mkF m 29 #[.val (.ref a), .val (.ref o_), .val (.ref o_)] [(.int (0 : Int32))])) t → Steps p.tables e below (s₁.setTop (entryFrame m #[(.ref a), (.ref o_)] 3)) t := fun t kt => S14 t (st15 _ kt)
    have S17 : ∀ t, Steps p.tables e below (T15.setTop (mkF m 30 #[.val (.ref a), .val (.ref o_), .val (.ref o_)] [(.ref o_), (.int (0 : Int32))])) t → Steps p.tables e below (s₁.setTop (entryFrame m #[(.ref a), (.ref o_)] 3)) t := fun t kt => by
      refine S16 t ?_
      show Steps p.tables e below (T15.setTop (mkF m 29 #[.val (.ref a), .val (.ref o_), .val (.ref o_)] [(.int (0 : Int32))])) t
      refine XS.aloadN X15.here hx rfl (hb hby own_d13_29) rfl rfl ?_
      exact kt
    obtain ⟨T18, X18, e18, st18⟩ := getF X15 hx hZ hown (host := "") (Or.inl (hw _ (List.mem_of_getElem? (i := 28) rfl))) Via.refl e15 C_o_ (g := (mkF m 30 #[.val (.ref a), .val (.ref o_), .val (.ref o_)] [(.ref o_), (.int (0 : Int32))])) rfl rfl (hb hby own_d13_30)
    have S19 : ∀ t, Steps p.tables e below (T18.setTop (mkF m 33 #[.val (.ref a), .val (.ref o_), .val (.ref o_)] [(.int (0 : Int32)), (.int (0 : Int32))])) t → Steps p.tables e below (s₁.setTop (entryFrame m #[(.ref a), (.ref o_)] 3)) t := fun t kt => S17 t (st18 _ kt)
    have hc33_20 : (0 : Int32) = (0 : Int32) := by decide
    have S21 : ∀ t, Steps p.tables e below (T18.setTop (mkF m 37 #[.val (.ref a), .val (.ref o_), .val (.ref o_)] [(.ref a)])) t → Steps p.tables e below (s₁.setTop (entryFrame m #[(.ref a), (.ref o_)] 3)) t := fun t kt => by
      refine S19 t ?_
      show Steps p.tables e below (T18.setTop (mkF m 33 #[.val (.ref a), .val (.ref o_), .val (.ref o_)] [(.int (0 : Int32)), (.int (0 : Int32))])) t
      refine XS.icmpNo X18.here hx rfl (hb hby own_d13_33) rfl (teq hc33_20).2 ?_
      show Steps p.tables e below (T18.setTop (mkF m 36 #[.val (.ref a), .val (.ref o_), .val (.ref o_)] [])) t
      refine XS.aloadN X18.here hx rfl (hb hby own_d13_36) rfl rfl ?_
      exact kt
    obtain ⟨T22, X22, e22, st22⟩ := getF X18 hx hZ hown (host := "") (Or.inl (hw _ (List.mem_of_getElem? (i := 26) rfl))) Via.refl e18 W_a (g := (mkF m 37 #[.val (.ref a), .val (.ref o_), .val (.ref o_)] [(.ref a)])) rfl rfl (hb hby own_d13_37)
    have S23 : ∀ t, Steps p.tables e below (T22.setTop (mkF m 40 #[.val (.ref a), .val (.ref o_), .val (.ref o_)] [(.ref tb)])) t → Steps p.tables e below (s₁.setTop (entryFrame m #[(.ref a), (.ref o_)] 3)) t := fun t kt => S21 t (st22 _ kt)
    have S24 : ∀ t, Steps p.tables e below (T22.setTop (mkF m 41 #[.val (.ref a), .val (.ref o_), .val (.ref o_)] [(.ref o_), (.ref tb)])) t → Steps p.tables e below (s₁.setTop (entryFrame m #[(.ref a), (.ref o_)] 3)) t := fun t kt => by
      refine S23 t ?_
      show Steps p.tables e below (T22.setTop (mkF m 40 #[.val (.ref a), .val (.ref o_), .val (.ref o_)] [(.ref tb)])) t
      refine XS.aloadN X22.here hx rfl (hb hby own_d13_40) rfl rfl ?_
      exact kt
    obtain ⟨T25, X25, e25, st25⟩ := getF X22 hx hZ hown (host := "") (Or.inl (hw _ (List.mem_of_getElem? (i := 26) rfl))) Via.refl e22 W_o_ (g := (mkF m 41 #[.val (.ref a), .val (.ref o_), .val (.ref o_)] [(.ref o_), (.ref tb)])) rfl rfl (hb hby own_d13_41)
    have S26 : ∀ t, Steps p.tables e below (T25.setTop (mkF m 44 #[.val (.ref a), .val (.ref o_), .val (.ref o_)] [(.ref lb), (.ref tb)])) t → Steps p.tables e below (s₁.setTop (entryFrame m #[(.ref a), (.ref o_)] 3)) t := fun t kt => S24 t (st25 _ kt)
    obtain ⟨_, _, ⟨T28, L28, k28, n28⟩, -, X28, ⟨Lc28, hQ28, l28, y28, z28⟩, st28⟩ := Jvm.LawKit.callS X25 hx (y := (⟨"java/lang/StringLatin1", "equals", "([B[B)Z"⟩ : MethodName)) hown (mvT hZ (hw _ (List.mem_of_getElem? (i := 73) rfl))) (mvT hZ (hw _ (List.mem_of_getElem? (i := 74) rfl))) (mvT hZ (hw _ (List.mem_of_getElem? (i := 11) rfl))) (mvT hZ (hw _ (List.mem_of_getElem? (i := 75) rfl))) (by decide) (backOf (W := 0) (own_rm14o l Z a0 hw [] (tb) (lb) (zt) (kt) (kl) h0 n0 Z0 V_t V_l) hZ (hw _ (List.mem_of_getElem? (i := 75) rfl)) (hw _ (List.mem_of_getElem? (i := 11) rfl)) (by decide) (by decide)) (g := (mkF m 44 #[.val (.ref a), .val (.ref o_), .val (.ref o_)] [(.ref lb), (.ref tb)])) rfl (by rw [hml]; rfl) (argsL := [(.ref tb), (.ref lb)]) (rest := []) (lenOf own_pd11 rfl) rfl (by show 2 * 0 + _ ≤ _; exact Nat.le_of_eq rfl) (hb hby own_d13_44) (fun _ _ => ⟨rfl, e25, (by decide : 0 + 0 ≤ _), (by decide : 0 + 0 ≤ _)⟩)
    dsimp only [Pt.U, Pt.locs, Pt.cells, Pt.slots] at X28 l28 y28 z28 st28 hQ28
    subst l28 y28 z28
    obtain ⟨rfl, rfl, eq27⟩ := hQ28
    try rw [List.append_nil] at X28
    have S29 : ∀ t, Steps p.tables e below (T28.setTop (mkF m 47 #[.val (.ref a), .val (.ref o_), .val (.ref o_)] [(.int (own_b (decide (zt = (42 : Int32)))))])) t → Steps p.tables e below (s₁.setTop (entryFrame m #[(.ref a), (.ref o_)] 3)) t := fun t kt => S26 t (st28 _ kt)
    by_cases hc47 : (own_b (decide (zt = (42 : Int32)))) = (0 : Int32)
    · skip
      have S30 : ∀ t, Steps p.tables e below (T28.setTop (mkF m 55 #[.val (.ref a), .val (.ref o_), .val (.ref o_)] [(.int (0 : Int32))])) t → Steps p.tables e below (s₁.setTop (entryFrame m #[(.ref a), (.ref o_)] 3)) t := fun t kt => by
        refine S29 t ?_
        show Steps p.tables e below (T28.setTop (mkF m 47 #[.val (.ref a), .val (.ref o_), .val (.ref o_)] [(.int (own_b (decide (zt = (42 : Int32)))))])) t
        refine XS.ifYes X28.here hx rfl (pc0 := 47) (pc' := 54) rfl (hb hby own_d13_47) rfl ((if0 _ _).trans (teq hc47).1) (by decide) (by decide) ?_
        show Steps p.tables e below (T28.setTop (mkF m 54 #[.val (.ref a), .val (.ref o_), .val (.ref o_)] [])) t
        refine XS.iconst X28.here hx rfl (hb hby own_d13_54) ?_
        exact kt
      obtain ⟨fs, hr, hrun, hended, hW, hsame⟩ := X28.leave (v := some (.int (nar .boolean (0 : Int32)))) (fun h => by rw [Bd.returns] at h; cases h)
      refine ⟨_, _, S30 _ ?_, hrun, hended, _, _, rfl, ?_, ⟨_, rfl⟩, hW, hsame.mono (by decide) (by decide)⟩
      · show Steps p.tables e below (T28.setTop (mkF m 55 #[.val (.ref a), .val (.ref o_), .val (.ref o_)] [(.int (0 : Int32))])) _
        exact retN X28 hx (t := .boolean) Bd.returns (by simp) (hb hby own_d13_55) hr
      · show own_Q13o Z a o_ cs tb lb zt kt kl h0 n0 _ T28.heap _
        rw [eq27]
        exact ⟨own_leafF (own_b0.mp hc47), rfl, rfl⟩
    · skip
      have S31 : ∀ t, Steps p.tables e below (T28.setTop (mkF m 55 #[.val (.ref a), .val (.ref o_), .val (.ref o_)] [(.int (1 : Int32))])) t → Steps p.tables e below (s₁.setTop (entryFrame m #[(.ref a), (.ref o_)] 3)) t := fun t kt => by
        refine S29 t ?_
        show Steps p.tables e below (T28.setTop (mkF m 47 #[.val (.ref a), .val (.ref o_), .val (.ref o_)] [(.int (own_b (decide (zt = (42 : Int32)))))])) t
        refine XS.ifNo X28.here hx rfl (hb hby own_d13_47) rfl ((if0 _ _).trans (feq hc47).1) ?_
        show Steps p.tables e below (T28.setTop (mkF m 50 #[.val (.ref a), .val (.ref o_), .val (.ref o_)] [])) t
        refine XS.iconst X28.here hx rfl (hb hby own_d13_50) ?_
        show Steps p.tables e below (T28.setTop (mkF m 51 #[.val (.ref a), .val (.ref o_), .val (.ref o_)] [(.int (1 : Int32))])) t
        refine XS.goto X28.here hx rfl (pc0 := 51) (pc' := 55) rfl (hb hby own_d13_51) (by decide) (by decide) ?_
        exact kt
      obtain ⟨fs, hr, hrun, hended, hW, hsame⟩ := X28.leave (v := some (.int (nar .boolean (1 : Int32)))) (fun h => by rw [Bd.returns] at h; cases h)
      refine ⟨_, _, S31 _ ?_, hrun, hended, _, _, rfl, ?_, ⟨_, rfl⟩, hW, hsame.mono (by decide) (by decide)⟩
      · show Steps p.tables e below (T28.setTop (mkF m 55 #[.val (.ref a), .val (.ref o_), .val (.ref o_)] [(.int (1 : Int32))])) _
        exact retN X28 hx (t := .boolean) Bd.returns (by simp) (hb hby own_d13_55) hr
      · show own_Q13o Z a o_ cs tb lb zt kt kl h0 n0 _ T28.heap _
        rw [eq27]
        exact ⟨own_leafT (by simpa using fun q => hc47 (own_b0.mpr (decide_eq_false q))), rfl, rfl⟩
theorem own_ef13n (m : MethodId) (x0 : Addr) (x1 : Addr) : entryFrame m #[(.ref x0), (.ref x1)] 3 = mkF m 0 #[.val (.ref x0), .val (.ref x1), .unset] [] := by first | (simp [entryFrame, mkF, argsToLocals, Value.category]; done) | rfl
def own_Q13n (Z : State) (a : Addr) (o_ : Addr) (cs : Int32) (tb : Addr) (lb : Addr) (nt : Int32) (vt : List Value) (kt : ClassId) (kl : ClassId) (h0 : Heap) (n0 : Nat) (v : Option Value) (h : Heap) (L : List Loc) : Prop := v = some (.int (0 : Int32)) ∧ L = [] ∧ h = h0
set_option maxHeartbeats 40000000 in
theorem own_rm13n (l : Launch) (Z : State) (a0 : Array Value) (hw : ∀ d ∈ tables_1, d.before a0 Z = true) (ws : List Jvm.Cond) (a : Addr) (o_ : Addr) (cs : Int32) (tb : Addr) (lb : Addr) (nt : Int32) (vt : List Value) (kt : ClassId) (kl : ClassId) (h0 : Heap) (n0 : Nat) (Z0 : n0 ≤ h0.size) (S_CS : Sta Z h0 "java/lang/String" "COMPACT_STRINGS" "Z" (.int cs)) (hcs : ¬ cs = (0 : Int32)) (E_a : Exa Z h0 a "java/lang/String") (C_a : Fld Z h0 a "java/lang/String" "coder" "B" (.int (0 : Int32))) (E_o_ : Exa Z h0 o_ "java/lang/String") (C_o_ : Fld Z h0 o_ "java/lang/String" "coder" "B" (.int (0 : Int32))) (W_a : Fld Z h0 a "java/lang/String" "value" "[B" (.ref tb)) (W_o_ : Fld Z h0 o_ "java/lang/String" "value" "[B" (.ref lb)) (V_t : Arv Z h0 tb kt .byte nt vt (.int (0 : Int32))) (V_l : Arv Z h0 lb kl .byte (1 : Int32) [(.int (42 : Int32))] (.int (0 : Int32))) (hn1 : ¬ nt = (1 : Int32)) :
    MetFree l (⟨"java/lang/String", "equals", "(Ljava/lang/Object;)Z"⟩ : MethodName) (head1 (Jvm.Cond.code (⟨"java/lang/String", "equals", "(Ljava/lang/Object;)Z"⟩ : MethodName) jdk_42_method_66_code 3 (some .boolean) :: ws) ({ frames := 1, cells := 0, slots := 0, locals := 14 } : Room)) (fun argv U => argv = #[(.ref a), (.ref o_)] ∧ Z.Warmed39 U.vm ∧ U.heap = h0) (fun _ _ _ _ _ => True) (fun _ U o U' => ∃ v L, o = .returned v ∧ own_Q13n Z a o_ cs tb lb nt vt kt kl h0 n0 v U'.heap L ∧ FrameEnd U o U' L ({ frames := 1, cells := 0, slots := 0, locals := 14 } : Room).cells ({ frames := 1, cells := 0, slots := 0, locals := 14 } : Room).slots) := by
  refine MetFree.of_bodySF (plainFor_of_name own_pn4) hisR ?_
  intro p e s m args below meth c s₁ Bd hml0 hP hK
  obtain ⟨rfl, hZ, hh⟩ := hP
  have hx := Bd.exec
  have hby := Bd.bytes
  have hml : c.maxLocals = 3 := hml0
  have hown : s.vm.findClass "java/lang/String" = some m.cls := findClass_of_methodNamed Bd.named
  have hnm := (name_of_methodNamed Bd.named Bd.method).1
  have X0 : Stand p l e ({ frames := 1, cells := 0, slots := 0, locals := 14 } : Room) s m #[(.ref a), (.ref o_)] below meth c s₁ [] 0 0 := Stand.of_body Bd
  have e0 : s₁.heap = h0 := by rw [← hh, Bd.state]; rfl
  have N0 := Fr.nil n0
  have pre0 : ∀ t, Steps p.tables e below (s₁.setTop (mkF m 0 #[.val (.ref a), .val (.ref o_), .unset] [])) t → Steps p.tables e below (s₁.setTop (entryFrame m #[(.ref a), (.ref o_)] 3)) t := fun t k => castTop (own_ef13n m a o_) k
  have S1 : ∀ t, Steps p.tables e below (s₁.setTop (mkF m 2 #[.val (.ref a), .val (.ref o_), .unset] [(.ref o_), (.ref a)])) t → Steps p.tables e below (s₁.setTop (entryFrame m #[(.ref a), (.ref o_)] 3)) t := fun t kt => by
    refine pre0 t ?_
    show Steps p.tables e below (s₁.setTop (mkF m 0 #[.val (.ref a), .val (.ref o_), .unset] [])) t
    refine XS.aloadN X0.here hx rfl (hb hby own_d13_0) rfl rfl ?_
    show Steps p.tables e below (s₁.setTop (mkF m 1 #[.val (.ref a), .val (.ref o_), .unset] [(.ref a)])) t
    refine XS.aloadN X0.here hx rfl (hb hby own_d13_1) rfl rfl ?_
    exact kt
  have hc2_2 : ¬ (a = o_) := own_ne_same W_a W_o_ V_t V_l (Or.inl (own_len_ne V_t hn1))
  have S3 : ∀ t, Steps p.tables e below (s₁.setTop (mkF m 8 #[.val (.ref a), .val (.ref o_), .unset] [(.ref o_)])) t → Steps p.tables e below (s₁.setTop (entryFrame m #[(.ref a), (.ref o_)] 3)) t := fun t kt => by
    refine S1 t ?_
    show Steps p.tables e below (s₁.setTop (mkF m 2 #[.val (.ref a), .val (.ref o_), .unset] [(.ref o_), (.ref a)])) t
    refine Jvm.RoadKit.acmp (g := (mkF m 2 #[.val (.ref a), .val (.ref o_), .unset] [(.ref o_), (.ref a)])) X0 hx rfl rfl rfl (pc0 := 2) (pc' := 7) (same := false) rfl (hb hby own_d13_2) rfl (decide_eq_false fun q => hc2_2 (Value.ref.inj q)) (by decide) (by decide) ?_
    show Steps p.tables e below (s₁.setTop (mkF m 7 #[.val (.ref a), .val (.ref o_), .unset] [])) t
    refine XS.aloadN X0.here hx rfl (hb hby own_d13_7) rfl rfl ?_
    exact kt
  obtain ⟨T4, X4, e4, st4⟩ := instY X0 hx hZ hown (hw _ (List.mem_of_getElem? (i := 13) rfl)) e0 (Ins.self E_o_) (g := (mkF m 8 #[.val (.ref a), .val (.ref o_), .unset] [(.ref o_)])) rfl rfl (hb hby own_d13_8)
  have S5 : ∀ t, Steps p.tables e below (T4.setTop (mkF m 11 #[.val (.ref a), .val (.ref o_), .unset] [(.int (1 : Int32))])) t → Steps p.tables e below (s₁.setTop (entryFrame m #[(.ref a), (.ref o_)] 3)) t := fun t kt => S3 t (st4 _ kt)
  have hc11_6 : ¬ ((1 : Int32) = (0 : Int32)) := by decide
  have S7 : ∀ t, Steps p.tables e below (T4.setTop (mkF m 15 #[.val (.ref a), .val (.ref o_), .unset] [(.ref o_)])) t → Steps p.tables e below (s₁.setTop (entryFrame m #[(.ref a), (.ref o_)] 3)) t := fun t kt => by
    refine S5 t ?_
    show Steps p.tables e below (T4.setTop (mkF m 11 #[.val (.ref a), .val (.ref o_), .unset] [(.int (1 : Int32))])) t
    refine XS.ifNo X4.here hx rfl (hb hby own_d13_11) rfl ((if0 _ _).trans (feq hc11_6).1) ?_
    show Steps p.tables e below (T4.setTop (mkF m 14 #[.val (.ref a), .val (.ref o_), .unset] [])) t
    refine XS.aloadN X4.here hx rfl (hb hby own_d13_14) rfl rfl ?_
    exact kt
  obtain ⟨T8, X8, e8, st8⟩ := castY X4 hx hZ hown (hw _ (List.mem_of_getElem? (i := 13) rfl)) e4 (Ins.self E_o_) (g := (mkF m 15 #[.val (.ref a), .val (.ref o_), .unset] [(.ref o_)])) rfl rfl (hb hby own_d13_15)
  have S9 : ∀ t, Steps p.tables e below (T8.setTop (mkF m 18 #[.val (.ref a), .val (.ref o_), .unset] [(.ref o_)])) t → Steps p.tables e below (s₁.setTop (entryFrame m #[(.ref a), (.ref o_)] 3)) t := fun t kt => S7 t (st8 _ kt)
  have S10 : ∀ t, Steps p.tables e below (T8.setTop (mkF m 19 #[.val (.ref a), .val (.ref o_), .val (.ref o_)] [])) t → Steps p.tables e below (s₁.setTop (entryFrame m #[(.ref a), (.ref o_)] 3)) t := fun t kt => by
    refine S9 t ?_
    show Steps p.tables e below (T8.setTop (mkF m 18 #[.val (.ref a), .val (.ref o_), .unset] [(.ref o_)])) t
    refine XS.astoreN X8.here hx rfl (hb hby own_d13_18) rfl rfl (l' := #[.val (.ref a), .val (.ref o_), .val (.ref o_)]) rfl ?_
    exact kt
  obtain ⟨T11, X11, e11, st11⟩ := getS2 X8 hx hZ hown (host := "") (Or.inl (hw _ (List.mem_of_getElem? (i := 8) rfl))) Via.refl e8 S_CS (g := (mkF m 19 #[.val (.ref a), .val (.ref o_), .val (.ref o_)] [])) rfl (hb hby own_d13_19)
  have S12 : ∀ t, Steps p.tables e below (T11.setTop (mkF m 22 #[.val (.ref a), .val (.ref o_), .val (.ref o_)] [(.int cs)])) t → Steps p.tables e below (s₁.setTop (entryFrame m #[(.ref a), (.ref o_)] 3)) t := fun t kt => S10 t (st11 _ kt)
  have hc22_13 : ¬ (cs = (0 : Int32)) := hcs
  have S14 : ∀ t, Steps p.tables e below (T11.setTop (mkF m 26 #[.val (.ref a), .val (.ref o_), .val (.ref o_)] [(.ref a)])) t → Steps p.tables e below (s₁.setTop (entryFrame m #[(.ref a), (.ref o_)] 3)) t := fun t kt => by
    refine S12 t ?_
    show Steps p.tables e below (T11.setTop (mkF m 22 #[.val (.ref a), .val (.ref o_), .val (.ref o_)] [(.int cs)])) t
    refine XS.ifNo X11.here hx rfl (hb hby own_d13_22) rfl ((if0 _ _).trans (feq hc22_13).1) ?_
    show Steps p.tables e below (T11.setTop (mkF m 25 #[.val (.ref a), .val (.ref o_), .val (.ref o_)] [])) t
    refine XS.aloadN X11.here hx rfl (hb hby own_d13_25) rfl rfl ?_
    exact kt
  obtain ⟨T15, X15, e15, st15⟩ := getF X11 hx hZ hown (host := "") (Or.inl (hw _ (List.mem_of_getElem? (i := 28) rfl))) Via.refl e11 C_a (g := (mkF m 26 #[.val (.ref a), .val (.ref o_), .val (.ref o_)] [(.ref a)])) rfl rfl (hb hby own_d13_26)
  have S16 : ∀ t, Steps p.tables e below (T15.setTop (mkF m 29 #[.val (.ref a), .val (.ref o_), .val (.ref o_)] [(.int (0 : Int32))])) t → Steps p.tables e below (s₁.setTop (entryFrame m #[(.ref a), (.ref o_)] 3)) t := fun t kt => S14 t (st15 _ kt)
  have S17 : ∀ t, Steps p.tables e below (T15.setTop (mkF m 30 #[.val (.ref a), .val (.ref o_), .val (.ref o_)] [(.ref o_), (.int (0 : Int32))])) t → Steps p.tables e below (s₁.setTop (entryFrame m #[(.ref a), (.ref o_)] 3)) t := fun t kt => by
    refine S16 t ?_
    show Steps p.tables e below (T15.setTop (mkF m 29 #[.val (.ref a), .val (.ref o_), .val (.ref o_)] [(.int (0 : Int32))])) t
    refine XS.aloadN X15.here hx rfl (hb hby own_d13_29) rfl rfl ?_
    exact kt
  obtain ⟨T18, X18, e18, st18⟩ := getF X15 hx hZ hown (host := "") (Or.inl (hw _ (List.mem_of_getElem? (i := 28) rfl))) Via.refl e15 C_o_ (g := (mkF m 30 #[.val (.ref a), .val (.ref o_), .val (.ref o_)] [(.ref o_), (.int (0 : Int32))])) rfl rfl (hb hby own_d13_30)
  have S19 : ∀ t, Steps p.tables e below (T18.setTop (mkF m 33 #[.val (.ref a), .val (.ref o_), .val (.ref o_)] [(.int (0 : Int32)), (.int (0 : Int32))])) t → Steps p.tables e below (s₁.setTop (entryFrame m #[(.ref a), (.ref o_)] 3)) t := fun t kt => S17 t (st18 _ kt)
  have hc33_20 : (0 : Int32) = (0 : Int32) := by decide
  have S21 : ∀ t, Steps p.tables e below (T18.setTop (mkF m 37 #[.val (.ref a), .val (.ref o_), .val (.ref o_)] [(.ref a)])) t → Steps p.tables e below (s₁.setTop (entryFrame m #[(.ref a), (.ref o_)] 3)) t := fun t kt => by
    refine S19 t ?_
    show Steps p.tables e below (T18.setTop (mkF m 33 #[.val (.ref a), .val (.ref o_), .val (.ref o_)] [(.int (0 : Int32)), (.int (0 : Int32))])) t
    refine XS.icmpNo X18.here hx rfl (hb hby own_d13_33) rfl (teq hc33_20).2 ?_
    show Steps p.tables e below (T18.setTop (mkF m 36 #[.val (.ref a), .val (.ref o_), .val (.ref o_)] [])) t
    refine XS.aloadN X18.here hx rfl (hb hby own_d13_36) rfl rfl ?_
    exact kt
  obtain ⟨T22, X22, e22, st22⟩ := getF X18 hx hZ hown (host := "") (Or.inl (hw _ (List.mem_of_getElem? (i := 26) rfl))) Via.refl e18 W_a (g := (mkF m 37 #[.val (.ref a), .val (.ref o_), .val (.ref o_)] [(.ref a)])) rfl rfl (hb hby own_d13_37)
  have S23 : ∀ t, Steps p.tables e below (T22.setTop (mkF m 40 #[.val (.ref a), .val (.ref o_), .val (.ref o_)] [(.ref tb)])) t → Steps p.tables e below (s₁.setTop (entryFrame m #[(.ref a), (.ref o_)] 3)) t := fun t kt => S21 t (st22 _ kt)
  have S24 : ∀ t, Steps p.tables e below (T22.setTop (mkF m 41 #[.val (.ref a), .val (.ref o_), .val (.ref o_)] [(.ref o_), (.ref tb)])) t → Steps p.tables e below (s₁.setTop (entryFrame m #[(.ref a), (.ref o_)] 3)) t := fun t kt => by
    refine S23 t ?_
    show Steps p.tables e below (T22.setTop (mkF m 40 #[.val (.ref a), .val (.ref o_), .val (.ref o_)] [(.ref tb)])) t
    refine XS.aloadN X22.here hx rfl (hb hby own_d13_40) rfl rfl ?_
    exact kt
  obtain ⟨T25, X25, e25, st25⟩ := getF X22 hx hZ hown (host := "") (Or.inl (hw _ (List.mem_of_getElem? (i := 26) rfl))) Via.refl e22 W_o_ (g := (mkF m 41 #[.val (.ref a), .val (.ref o_), .val (.ref o_)] [(.ref o_), (.ref tb)])) rfl rfl (hb hby own_d13_41)
  have S26 : ∀ t, Steps p.tables e below (T25.setTop (mkF m 44 #[.val (.ref a), .val (.ref o_), .val (.ref o_)] [(.ref lb), (.ref tb)])) t → Steps p.tables e below (s₁.setTop (entryFrame m #[(.ref a), (.ref o_)] 3)) t := fun t kt => S24 t (st25 _ kt)
  obtain ⟨_, _, ⟨T28, L28, k28, n28⟩, -, X28, ⟨Lc28, hQ28, l28, y28, z28⟩, st28⟩ := Jvm.LawKit.callS X25 hx (y := (⟨"java/lang/StringLatin1", "equals", "([B[B)Z"⟩ : MethodName)) hown (mvT hZ (hw _ (List.mem_of_getElem? (i := 73) rfl))) (mvT hZ (hw _ (List.mem_of_getElem? (i := 74) rfl))) (mvT hZ (hw _ (List.mem_of_getElem? (i := 11) rfl))) (mvT hZ (hw _ (List.mem_of_getElem? (i := 75) rfl))) (by decide) (backOf (W := 0) (own_rm14n l Z a0 hw [] (tb) (lb) (nt) (vt) (kt) (kl) h0 n0 Z0 V_t V_l hn1) hZ (hw _ (List.mem_of_getElem? (i := 75) rfl)) (hw _ (List.mem_of_getElem? (i := 11) rfl)) (by decide) (by decide)) (g := (mkF m 44 #[.val (.ref a), .val (.ref o_), .val (.ref o_)] [(.ref lb), (.ref tb)])) rfl (by rw [hml]; rfl) (argsL := [(.ref tb), (.ref lb)]) (rest := []) (lenOf own_pd11 rfl) rfl (by show 2 * 0 + _ ≤ _; exact Nat.le_of_eq rfl) (hb hby own_d13_44) (fun _ _ => ⟨rfl, e25, (by decide : 0 + 0 ≤ _), (by decide : 0 + 0 ≤ _)⟩)
  dsimp only [Pt.U, Pt.locs, Pt.cells, Pt.slots] at X28 l28 y28 z28 st28 hQ28
  subst l28 y28 z28
  obtain ⟨rfl, rfl, eq27⟩ := hQ28
  try rw [List.append_nil] at X28
  have S29 : ∀ t, Steps p.tables e below (T28.setTop (mkF m 47 #[.val (.ref a), .val (.ref o_), .val (.ref o_)] [(.int (0 : Int32))])) t → Steps p.tables e below (s₁.setTop (entryFrame m #[(.ref a), (.ref o_)] 3)) t := fun t kt => S26 t (st28 _ kt)
  have hc47_30 : (0 : Int32) = (0 : Int32) := by decide
  have S31 : ∀ t, Steps p.tables e below (T28.setTop (mkF m 55 #[.val (.ref a), .val (.ref o_), .val (.ref o_)] [(.int (0 : Int32))])) t → Steps p.tables e below (s₁.setTop (entryFrame m #[(.ref a), (.ref o_)] 3)) t := fun t kt => by
    refine S29 t ?_
    show Steps p.tables e below (T28.setTop (mkF m 47 #[.val (.ref a), .val (.ref o_), .val (.ref o_)] [(.int (0 : Int32))])) t
    refine XS.ifYes X28.here hx rfl (pc0 := 47) (pc' := 54) rfl (hb hby own_d13_47) rfl ((if0 _ _).trans (teq hc47_30).1) (by decide) (by decide) ?_
    show Steps p.tables e below (T28.setTop (mkF m 54 #[.val (.ref a), .val (.ref o_), .val (.ref o_)] [])) t
    refine XS.iconst X28.here hx rfl (hb hby own_d13_54) ?_
    exact kt
  obtain ⟨fs, hr, hrun, hended, hW, hsame⟩ := X28.leave (v := some (.int (nar .boolean (0 : Int32)))) (fun h => by rw [Bd.returns] at h; cases h)
  refine ⟨_, _, S31 _ ?_, hrun, hended, _, _, rfl, ?_, ⟨_, rfl⟩, hW, hsame.mono (by decide) (by decide)⟩
  · show Steps p.tables e below (T28.setTop (mkF m 55 #[.val (.ref a), .val (.ref o_), .val (.ref o_)] [(.int (0 : Int32))])) _
    exact retN X28 hx (t := .boolean) Bd.returns (by simp) (hb hby own_d13_55) hr
  · show own_Q13n Z a o_ cs tb lb nt vt kt kl h0 n0 _ T28.heap _
    rw [eq27]
    exact ⟨rfl, rfl, rfl⟩
theorem own_pd12 : parseMethodDescriptor "(Ljava/lang/Object;)Z" = some ⟨[(.object "java/lang/Object")], some .boolean⟩ := by decide +kernel
theorem own_d12_0 : decode prog_34_method_3_code 0 = .ok (.aload_n 0, 1) := by decide +kernel
theorem own_d12_1 : decode prog_34_method_3_code 1 = .ok (.getfield 7, 3) := by decide +kernel
theorem own_d12_4 : decode prog_34_method_3_code 4 = .ok (.ldc 71, 2) := by decide +kernel
theorem own_d12_6 : decode prog_34_method_3_code 6 = .ok (.invokevirtual 73, 3) := by decide +kernel
theorem own_d12_9 : decode prog_34_method_3_code 9 = .ok (.ifCond .eq 7, 3) := by decide +kernel
theorem own_d12_12 : decode prog_34_method_3_code 12 = .ok (.iconst 0, 1) := by decide +kernel
theorem own_d12_13 : decode prog_34_method_3_code 13 = .ok (.goto 4, 3) := by decide +kernel
theorem own_d12_16 : decode prog_34_method_3_code 16 = .ok (.iconst 1, 1) := by decide +kernel
theorem own_d12_17 : decode prog_34_method_3_code 17 = .ok (.istore_n 1, 1) := by decide +kernel
theorem own_d12_18 : decode prog_34_method_3_code 18 = .ok (.aload_n 0, 1) := by decide +kernel
theorem own_d12_19 : decode prog_34_method_3_code 19 = .ok (.getfield 13, 3) := by decide +kernel
theorem own_d12_22 : decode prog_34_method_3_code 22 = .ok (.ldc 71, 2) := by decide +kernel
theorem own_d12_24 : decode prog_34_method_3_code 24 = .ok (.invokevirtual 73, 3) := by decide +kernel
theorem own_d12_27 : decode prog_34_method_3_code 27 = .ok (.ifCond .eq 7, 3) := by decide +kernel
theorem own_d12_30 : decode prog_34_method_3_code 30 = .ok (.iload_n 1, 1) := by decide +kernel
theorem own_d12_31 : decode prog_34_method_3_code 31 = .ok (.goto 6, 3) := by decide +kernel
theorem own_d12_34 : decode prog_34_method_3_code 34 = .ok (.iload_n 1, 1) := by decide +kernel
theorem own_d12_35 : decode prog_34_method_3_code 35 = .ok (.iconst 1, 1) := by decide +kernel
theorem own_d12_36 : decode prog_34_method_3_code 36 = .ok (.iadd, 1) := by decide +kernel
theorem own_d12_37 : decode prog_34_method_3_code 37 = .ok (.ireturn, 1) := by decide +kernel
theorem own_ef12 (m : MethodId) (x0 : Addr) : entryFrame m #[(.ref x0)] 2 = mkF m 0 #[.val (.ref x0), .unset] [] := by first | (simp [entryFrame, mkF, argsToLocals, Value.category]; done) | rfl
def own_Q12 (Z : State) (a : Addr) (cs : Int32) (rA : Addr) (tbA : Addr) (kA : ClassId) (nA : Int32) (vA : List Value) (zA : Int32) (rB : Addr) (tbB : Addr) (kB : ClassId) (nB : Int32) (vB : List Value) (zB : Int32) (h0 : Heap) (n0 : Nat) (v : Option Value) (h : Heap) (L : List Loc) : Prop := v = some (.int (own_sp (decide (nA = (1 : Int32) ∧ zA = (42 : Int32))) (decide (nB = (1 : Int32) ∧ zB = (42 : Int32))))) ∧ Fr n0 L ∧ Keep h0 h []
set_option maxHeartbeats 40000000 in
theorem own_rm12 (l : Launch) (Z : State) (a0 : Array Value) (hw : ∀ d ∈ tables_1, d.before a0 Z = true) (ws : List Jvm.Cond) (a : Addr) (cs : Int32) (rA : Addr) (tbA : Addr) (kA : ClassId) (nA : Int32) (vA : List Value) (zA : Int32) (rB : Addr) (tbB : Addr) (kB : ClassId) (nB : Int32) (vB : List Value) (zB : Int32) (h0 : Heap) (n0 : Nat) (Z0 : n0 ≤ h0.size) (S_CS : Sta Z h0 "java/lang/String" "COMPACT_STRINGS" "Z" (.int cs)) (hcs : ¬ cs = (0 : Int32)) (F_type : Fld Z h0 a "com/example/splode/splode/document/MediaRange" "type" "Ljava/lang/String;" (.ref rA)) (F_sub : Fld Z h0 a "com/example/splode/splode/document/MediaRange" "subtype" "Ljava/lang/String;" (.ref rB)) (E_rA : Exa Z h0 rA "java/lang/String") (C_rA : Fld Z h0 rA "java/lang/String" "coder" "B" (.int (0 : Int32))) (W_rA : Fld Z h0 rA "java/lang/String" "value" "[B" (.ref tbA)) (V_A : Arv Z h0 tbA kA .byte nA vA (.int (0 : Int32))) (HA : (nA = (1 : Int32) ∧ vA = [.int zA]) ∨ ¬ nA = (1 : Int32)) (E_rB : Exa Z h0 rB "java/lang/String") (C_rB : Fld Z h0 rB "java/lang/String" "coder" "B" (.int (0 : Int32))) (W_rB : Fld Z h0 rB "java/lang/String" "value" "[B" (.ref tbB)) (V_B : Arv Z h0 tbB kB .byte nB vB (.int (0 : Int32))) (HB : (nB = (1 : Int32) ∧ vB = [.int zB]) ∨ ¬ nB = (1 : Int32)) :
    MetFree l (⟨"com/example/splode/splode/document/MediaRange", "specificity", "()I"⟩ : MethodName) (head1 (Jvm.Cond.code (⟨"com/example/splode/splode/document/MediaRange", "specificity", "()I"⟩ : MethodName) prog_34_method_3_code 2 (some .int) :: ws) ({ frames := 2, cells := 4, slots := 16, locals := 28 } : Room)) (fun argv U => argv = #[(.ref a)] ∧ Z.Warmed39 U.vm ∧ U.heap = h0 ∧ CHv Z own_EL U.vm h0) (fun _ _ _ _ _ => True) (fun _ U o U' => ∃ v L, o = .returned v ∧ own_Q12 Z a cs rA tbA kA nA vA zA rB tbB kB nB vB zB h0 n0 v U'.heap L ∧ CHr Z own_EL U.vm U.heap U'.vm U'.heap ∧ ReturnedEndW U o U' L ({ frames := 2, cells := 4, slots := 16, locals := 28 } : Room).cells ({ frames := 2, cells := 4, slots := 16, locals := 28 } : Room).slots) := by
  refine MetFree.of_bodySF (plainFor_of_name own_pn2) hisR ?_
  intro p e s m args below meth c s₁ Bd hml0 hP hK
  obtain ⟨rfl, hZ, hh, hC0⟩ := hP
  have hx := Bd.exec
  have hby := Bd.bytes
  have hml : c.maxLocals = 2 := hml0
  have hown : s.vm.findClass "com/example/splode/splode/document/MediaRange" = some m.cls := findClass_of_methodNamed Bd.named
  have hnm := (name_of_methodNamed Bd.named Bd.method).1
  have X0 : Stand p l e ({ frames := 2, cells := 4, slots := 16, locals := 28 } : Room) (s.setVm s.vm) m #[(.ref a)] below meth c s₁ [] 0 0 := Stand.of_body Bd
  have e0 : s₁.heap = h0 := by rw [← hh, Bd.state]; rfl
  have N0 := Fr.nil n0
  have pre0 : ∀ t, Steps p.tables e below (s₁.setTop (mkF m 0 #[.val (.ref a), .unset] [])) t → Steps p.tables e below (s₁.setTop (entryFrame m #[(.ref a)] 2)) t := fun t k => castTop (own_ef12 m a) k
  have CR0 : CHr Z own_EL s.vm h0 s.vm h0 := CHr.refl hC0
  have hEL := own_EW hw
  have hS0 : s.Since s.vm h0.size := (State.WarmedH.refl s).since _
  have wS := own_wS hw
  by_cases hLA : nA = (1 : Int32)
  · skip
    have V1A : Arv Z h0 tbA kA .byte (1 : Int32) [(.int zA)] (.int (0 : Int32)) := by
      have e := (HA.resolve_right (fun n => n hLA))
      have v := V_A
      rw [e.1, e.2] at v
      exact v
    by_cases hLB : nB = (1 : Int32)
    · skip
      have V1B : Arv Z h0 tbB kB .byte (1 : Int32) [(.int zB)] (.int (0 : Int32)) := by
        have e := (HB.resolve_right (fun n => n hLB))
        have v := V_B
        rw [e.1, e.2] at v
        exact v
      have S1 : ∀ t, Steps p.tables e below (s₁.setTop (mkF m 1 #[.val (.ref a), .unset] [(.ref a)])) t → Steps p.tables e below (s₁.setTop (entryFrame m #[(.ref a)] 2)) t := fun t kt => by
        refine pre0 t ?_
        show Steps p.tables e below (s₁.setTop (mkF m 0 #[.val (.ref a), .unset] [])) t
        refine XS.aloadN X0.here hx rfl (hb hby own_d12_0) rfl rfl ?_
        exact kt
      obtain ⟨T2, X2, e2, st2⟩ := getF X0 hx hZ hown (host := "") (Or.inl (hw _ (List.mem_of_getElem? (i := 53) rfl))) Via.refl e0 F_type (g := (mkF m 1 #[.val (.ref a), .unset] [(.ref a)])) rfl rfl (hb hby own_d12_1)
      have S3 : ∀ t, Steps p.tables e below (T2.setTop (mkF m 4 #[.val (.ref a), .unset] [(.ref rA)])) t → Steps p.tables e below (s₁.setTop (entryFrame m #[(.ref a)] 2)) t := fun t kt => S1 t (st2 _ kt)
      obtain ⟨lit4, T4, h4, k4, lby4, kb4, X4, e4, E4, hS4, hk4, hZ4, ho4, LE4, LC4, LV4, LA4, -, -, hC4, -, hNe4, st4⟩ := ldcCH (EL := own_EL) (z := (1 : Int32)) (vs := [(.int (42 : Int32))]) X2 hx hZ hown (hw _ (List.mem_of_getElem? (i := 67) rfl)) wS e2 hS0 (Nat.le_refl _) hEL (List.mem_of_getElem? (i := 0) rfl) CR0.1 ⟨by decide, by decide⟩ (by decide) (by decide) (g := (mkF m 4 #[.val (.ref a), .unset] [(.ref rA)])) rfl (hb hby own_d12_4) (n := 4) (by decide) (by decide) (by decide) (by decide)
      have S5 : ∀ t, Steps p.tables e below (T4.setTop (mkF m 6 #[.val (.ref a), .unset] [(.ref lit4), (.ref rA)])) t → Steps p.tables e below (s₁.setTop (entryFrame m #[(.ref a)] 2)) t := fun t kt => S3 t (st4 _ kt)
      have CR6 := CR0.trans hC4
      have F7 := S_CS.ext E4
      have F8 := F_type.ext E4
      have F9 := F_sub.ext E4
      have F10 := E_rA.ext E4
      have F11 := C_rA.ext E4
      have F12 := W_rA.ext E4
      have F13 := V1A.ext E4
      have F14 := E_rB.ext E4
      have F15 := C_rB.ext E4
      have F16 := W_rB.ext E4
      have F17 := V1B.ext E4
      have K18 : Keep h0 h4 [] := (Keep.refl h0 []).ext E4
      obtain ⟨cq20, kq20, q20a, q20b, q20c⟩ := isOf hZ4 e4 F10
      obtain ⟨_, _, ⟨T20, L20, k20, n20⟩, -, X20, ⟨Lc20, hQ20, l20, y20, z20⟩, st20⟩ := X4.virtualBack hx (y := (⟨"java/lang/String", "equals", "(Ljava/lang/Object;)Z"⟩ : MethodName)) (z := (⟨"java/lang/String", "equals", "(Ljava/lang/Object;)Z"⟩ : MethodName)) ho4 (mvT hZ4 (hw _ (List.mem_of_getElem? (i := 68) rfl))) (mvT hZ4 (hw _ (List.mem_of_getElem? (i := 69) rfl))) (notFace_of_selects (args := #[]) (mvT hZ4 (hw _ (List.mem_of_getElem? (i := 71) rfl)))) (mvT hZ4 (hw _ (List.mem_of_getElem? (i := 71) rfl))) (mvT hZ4 (hw _ (List.mem_of_getElem? (i := 70) rfl))) (by decide) (backOf (W := 0) (own_rm13o l Z a0 hw [] (rA) (lit4) (cs) (tbA) (lby4) (zA) (kA) (kb4) h4 n0 (Nat.le_trans Z0 K18.1) F7 hcs F10 F11 LE4 LC4 F12 LV4 F13 LA4) hZ4 (hw _ (List.mem_of_getElem? (i := 72) rfl)) (hw _ (List.mem_of_getElem? (i := 6) rfl)) (by decide) (by decide)) q20a q20c (g := (mkF m 6 #[.val (.ref a), .unset] [(.ref lit4), (.ref rA)])) rfl (by rw [hml]; rfl) (Steps.refl _) (argsL := [(.ref lit4)]) (rest := []) (lenOf own_pd12 rfl) rfl (by show 2 * 0 + _ ≤ _; exact Nat.le_of_eq rfl) (hb hby own_d12_6) (fun _ _ => ⟨rfl, e4, (by decide : 2 + 0 ≤ _), (by decide : 8 + 0 ≤ _)⟩)
      dsimp only [Pt.U, Pt.locs, Pt.cells, Pt.slots] at X20 l20 y20 z20 st20 hQ20
      subst l20 y20 z20
      obtain ⟨rfl, rfl, eq19⟩ := hQ20
      try rw [List.append_nil] at X20
      have S21 : ∀ t, Steps p.tables e below (T20.setTop (mkF m 9 #[.val (.ref a), .unset] [(.int (own_b (decide (zA = (42 : Int32)))))])) t → Steps p.tables e below (s₁.setTop (entryFrame m #[(.ref a)] 2)) t := fun t kt => S5 t (st20.trans kt)
      by_cases hc9 : (own_b (decide (zA = (42 : Int32)))) = (0 : Int32)
      · skip
        have S22 : ∀ t, Steps p.tables e below (T20.setTop (mkF m 19 #[.val (.ref a), .val (.int (1 : Int32))] [(.ref a)])) t → Steps p.tables e below (s₁.setTop (entryFrame m #[(.ref a)] 2)) t := fun t kt => by
          refine S21 t ?_
          show Steps p.tables e below (T20.setTop (mkF m 9 #[.val (.ref a), .unset] [(.int (own_b (decide (zA = (42 : Int32)))))])) t
          refine XS.ifYes X20.here hx rfl (pc0 := 9) (pc' := 16) rfl (hb hby own_d12_9) rfl ((if0 _ _).trans (teq hc9).1) (by decide) (by decide) ?_
          show Steps p.tables e below (T20.setTop (mkF m 16 #[.val (.ref a), .unset] [])) t
          refine XS.iconst X20.here hx rfl (hb hby own_d12_16) ?_
          show Steps p.tables e below (T20.setTop (mkF m 17 #[.val (.ref a), .unset] [(.int (1 : Int32))])) t
          refine XS.istoreN X20.here hx rfl (hb hby own_d12_17) rfl (l' := #[.val (.ref a), .val (.int (1 : Int32))]) rfl ?_
          show Steps p.tables e below (T20.setTop (mkF m 18 #[.val (.ref a), .val (.int (1 : Int32))] [])) t
          refine XS.aloadN X20.here hx rfl (hb hby own_d12_18) rfl rfl ?_
          exact kt
        obtain ⟨T23, X23, e23, st23⟩ := getF X20 hx hZ4 ho4 (host := "") (Or.inl (hw _ (List.mem_of_getElem? (i := 55) rfl))) Via.refl eq19 F9 (g := (mkF m 19 #[.val (.ref a), .val (.int (1 : Int32))] [(.ref a)])) rfl rfl (hb hby own_d12_19)
        have S24 : ∀ t, Steps p.tables e below (T23.setTop (mkF m 22 #[.val (.ref a), .val (.int (1 : Int32))] [(.ref rB)])) t → Steps p.tables e below (s₁.setTop (entryFrame m #[(.ref a)] 2)) t := fun t kt => S22 t (st23 _ kt)
        obtain ⟨lit25, T25, h25, k25, lby25, kb25, X25, e25, E25, hS25, hk25, hZ25, ho25, LE25, LC25, LV25, LA25, -, -, hC25, -, hNe25, st25⟩ := ldcCH (EL := own_EL) (z := (1 : Int32)) (vs := [(.int (42 : Int32))]) X23 hx hZ4 ho4 (hw _ (List.mem_of_getElem? (i := 67) rfl)) wS e23 hS4 hk4 hEL (List.mem_of_getElem? (i := 0) rfl) CR6.1 ⟨by decide, by decide⟩ (by decide) (by decide) (g := (mkF m 22 #[.val (.ref a), .val (.int (1 : Int32))] [(.ref rB)])) rfl (hb hby own_d12_22) (n := 4) (by decide) (by decide) (by decide) (by decide)
        have S26 : ∀ t, Steps p.tables e below (T25.setTop (mkF m 24 #[.val (.ref a), .val (.int (1 : Int32))] [(.ref lit25), (.ref rB)])) t → Steps p.tables e below (s₁.setTop (entryFrame m #[(.ref a)] 2)) t := fun t kt => S24 t (st25 _ kt)
        have CR27 := CR6.trans hC25
        have F28 := F7.ext E25
        have F29 := F8.ext E25
        have F30 := F9.ext E25
        have F31 := F10.ext E25
        have F32 := F11.ext E25
        have F33 := F12.ext E25
        have F34 := F13.ext E25
        have F35 := F14.ext E25
        have F36 := F15.ext E25
        have F37 := F16.ext E25
        have F38 := F17.ext E25
        have F39 := LE4.ext E25
        have F40 := LC4.ext E25
        have F41 := LV4.ext E25
        have F42 := LA4.ext E25
        have K43 : Keep h0 h25 [] := K18.ext E25
        obtain ⟨cq45, kq45, q45a, q45b, q45c⟩ := isOf hZ25 e25 F35
        obtain ⟨_, _, ⟨T45, L45, k45, n45⟩, -, X45, ⟨Lc45, hQ45, l45, y45, z45⟩, st45⟩ := X25.virtualBack hx (y := (⟨"java/lang/String", "equals", "(Ljava/lang/Object;)Z"⟩ : MethodName)) (z := (⟨"java/lang/String", "equals", "(Ljava/lang/Object;)Z"⟩ : MethodName)) ho25 (mvT hZ25 (hw _ (List.mem_of_getElem? (i := 68) rfl))) (mvT hZ25 (hw _ (List.mem_of_getElem? (i := 69) rfl))) (notFace_of_selects (args := #[]) (mvT hZ25 (hw _ (List.mem_of_getElem? (i := 71) rfl)))) (mvT hZ25 (hw _ (List.mem_of_getElem? (i := 71) rfl))) (mvT hZ25 (hw _ (List.mem_of_getElem? (i := 70) rfl))) (by decide) (backOf (W := 0) (own_rm13o l Z a0 hw [] (rB) (lit25) (cs) (tbB) (lby25) (zB) (kB) (kb25) h25 n0 (Nat.le_trans Z0 K43.1) F28 hcs F35 F36 LE25 LC25 F37 LV25 F38 LA25) hZ25 (hw _ (List.mem_of_getElem? (i := 72) rfl)) (hw _ (List.mem_of_getElem? (i := 6) rfl)) (by decide) (by decide)) q45a q45c (g := (mkF m 24 #[.val (.ref a), .val (.int (1 : Int32))] [(.ref lit25), (.ref rB)])) rfl (by rw [hml]; rfl) (Steps.refl _) (argsL := [(.ref lit25)]) (rest := []) (lenOf own_pd12 rfl) rfl (by show 2 * 0 + _ ≤ _; exact Nat.le_of_eq rfl) (hb hby own_d12_24) (fun _ _ => ⟨rfl, e25, (by decide : 4 + 0 ≤ _), (by decide : 16 + 0 ≤ _)⟩)
        dsimp only [Pt.U, Pt.locs, Pt.cells, Pt.slots] at X45 l45 y45 z45 st45 hQ45
        subst l45 y45 z45
        obtain ⟨rfl, rfl, eq44⟩ := hQ45
        try rw [List.append_nil] at X45
        have S46 : ∀ t, Steps p.tables e below (T45.setTop (mkF m 27 #[.val (.ref a), .val (.int (1 : Int32))] [(.int (own_b (decide (zB = (42 : Int32)))))])) t → Steps p.tables e below (s₁.setTop (entryFrame m #[(.ref a)] 2)) t := fun t kt => S26 t (st45.trans kt)
        by_cases hc27 : (own_b (decide (zB = (42 : Int32)))) = (0 : Int32)
        · skip
          have S47 : ∀ t, Steps p.tables e below (T45.setTop (mkF m 37 #[.val (.ref a), .val (.int (1 : Int32))] [(.int (2 : Int32))])) t → Steps p.tables e below (s₁.setTop (entryFrame m #[(.ref a)] 2)) t := fun t kt => by
            refine S46 t ?_
            show Steps p.tables e below (T45.setTop (mkF m 27 #[.val (.ref a), .val (.int (1 : Int32))] [(.int (own_b (decide (zB = (42 : Int32)))))])) t
            refine XS.ifYes X45.here hx rfl (pc0 := 27) (pc' := 34) rfl (hb hby own_d12_27) rfl ((if0 _ _).trans (teq hc27).1) (by decide) (by decide) ?_
            show Steps p.tables e below (T45.setTop (mkF m 34 #[.val (.ref a), .val (.int (1 : Int32))] [])) t
            refine XS.iloadN X45.here hx rfl (hb hby own_d12_34) rfl ?_
            show Steps p.tables e below (T45.setTop (mkF m 35 #[.val (.ref a), .val (.int (1 : Int32))] [(.int (1 : Int32))])) t
            refine XS.iconst X45.here hx rfl (hb hby own_d12_35) ?_
            show Steps p.tables e below (T45.setTop (mkF m 36 #[.val (.ref a), .val (.int (1 : Int32))] [(.int (1 : Int32)), (.int (1 : Int32))])) t
            refine XS.iadd X45.here hx rfl (hb hby own_d12_36) rfl ?_
            exact kt
          obtain ⟨fs, hr, hrun, hended, -, hW, hBk, hsame⟩ := X45.leaveW hS25 (by rw [eq44]; exact hk25) (v := some (.int (2 : Int32))) (fun h => by rw [Bd.returns] at h; cases h)
          refine ⟨_, _, S47 _ ?_, hrun, hended, _, _, rfl, ?_, (by show CHr Z own_EL s.vm s.heap T45.vm T45.heap; rw [hh, eq44]; exact CR27.trans (CHv.at X45 hZ25 hEL CR27.1)), ⟨_, rfl⟩, hW, hBk, hsame.mono (by decide) (by decide)⟩
          · show Steps p.tables e below (T45.setTop (mkF m 37 #[.val (.ref a), .val (.int (1 : Int32))] [(.int (2 : Int32))])) _
            exact own_retI X45 hx Bd.returns (hb hby own_d12_37) hr
          · show own_Q12 Z a cs rA tbA kA nA vA zA rB tbB kB nB vB zB h0 n0 _ T45.heap _
            rw [eq44]
            exact ⟨by first | (simp_all [own_sp, own_b]; done) | (simp_all [own_sp, own_b]; decide), N0, K43⟩
        · skip
          have S48 : ∀ t, Steps p.tables e below (T45.setTop (mkF m 37 #[.val (.ref a), .val (.int (1 : Int32))] [(.int (1 : Int32))])) t → Steps p.tables e below (s₁.setTop (entryFrame m #[(.ref a)] 2)) t := fun t kt => by
            refine S46 t ?_
            show Steps p.tables e below (T45.setTop (mkF m 27 #[.val (.ref a), .val (.int (1 : Int32))] [(.int (own_b (decide (zB = (42 : Int32)))))])) t
            refine XS.ifNo X45.here hx rfl (hb hby own_d12_27) rfl ((if0 _ _).trans (feq hc27).1) ?_
            show Steps p.tables e below (T45.setTop (mkF m 30 #[.val (.ref a), .val (.int (1 : Int32))] [])) t
            refine XS.iloadN X45.here hx rfl (hb hby own_d12_30) rfl ?_
            show Steps p.tables e below (T45.setTop (mkF m 31 #[.val (.ref a), .val (.int (1 : Int32))] [(.int (1 : Int32))])) t
            refine XS.goto X45.here hx rfl (pc0 := 31) (pc' := 37) rfl (hb hby own_d12_31) (by decide) (by decide) ?_
            exact kt
          obtain ⟨fs, hr, hrun, hended, -, hW, hBk, hsame⟩ := X45.leaveW hS25 (by rw [eq44]; exact hk25) (v := some (.int (1 : Int32))) (fun h => by rw [Bd.returns] at h; cases h)
          refine ⟨_, _, S48 _ ?_, hrun, hended, _, _, rfl, ?_, (by show CHr Z own_EL s.vm s.heap T45.vm T45.heap; rw [hh, eq44]; exact CR27.trans (CHv.at X45 hZ25 hEL CR27.1)), ⟨_, rfl⟩, hW, hBk, hsame.mono (by decide) (by decide)⟩
          · show Steps p.tables e below (T45.setTop (mkF m 37 #[.val (.ref a), .val (.int (1 : Int32))] [(.int (1 : Int32))])) _
            exact own_retI X45 hx Bd.returns (hb hby own_d12_37) hr
          · show own_Q12 Z a cs rA tbA kA nA vA zA rB tbB kB nB vB zB h0 n0 _ T45.heap _
            rw [eq44]
            exact ⟨by first | (simp_all [own_sp, own_b]; done) | (simp_all [own_sp, own_b]; decide), N0, K43⟩
      · skip
        have S49 : ∀ t, Steps p.tables e below (T20.setTop (mkF m 19 #[.val (.ref a), .val (.int (0 : Int32))] [(.ref a)])) t → Steps p.tables e below (s₁.setTop (entryFrame m #[(.ref a)] 2)) t := fun t kt => by
          refine S21 t ?_
          show Steps p.tables e below (T20.setTop (mkF m 9 #[.val (.ref a), .unset] [(.int (own_b (decide (zA = (42 : Int32)))))])) t
          refine XS.ifNo X20.here hx rfl (hb hby own_d12_9) rfl ((if0 _ _).trans (feq hc9).1) ?_
          show Steps p.tables e below (T20.setTop (mkF m 12 #[.val (.ref a), .unset] [])) t
          refine XS.iconst X20.here hx rfl (hb hby own_d12_12) ?_
          show Steps p.tables e below (T20.setTop (mkF m 13 #[.val (.ref a), .unset] [(.int (0 : Int32))])) t
          refine XS.goto X20.here hx rfl (pc0 := 13) (pc' := 17) rfl (hb hby own_d12_13) (by decide) (by decide) ?_
          show Steps p.tables e below (T20.setTop (mkF m 17 #[.val (.ref a), .unset] [(.int (0 : Int32))])) t
          refine XS.istoreN X20.here hx rfl (hb hby own_d12_17) rfl (l' := #[.val (.ref a), .val (.int (0 : Int32))]) rfl ?_
          show Steps p.tables e below (T20.setTop (mkF m 18 #[.val (.ref a), .val (.int (0 : Int32))] [])) t
          refine XS.aloadN X20.here hx rfl (hb hby own_d12_18) rfl rfl ?_
          exact kt
        obtain ⟨T50, X50, e50, st50⟩ := getF X20 hx hZ4 ho4 (host := "") (Or.inl (hw _ (List.mem_of_getElem? (i := 55) rfl))) Via.refl eq19 F9 (g := (mkF m 19 #[.val (.ref a), .val (.int (0 : Int32))] [(.ref a)])) rfl rfl (hb hby own_d12_19)
        have S51 : ∀ t, Steps p.tables e below (T50.setTop (mkF m 22 #[.val (.ref a), .val (.int (0 : Int32))] [(.ref rB)])) t → Steps p.tables e below (s₁.setTop (entryFrame m #[(.ref a)] 2)) t := fun t kt => S49 t (st50 _ kt)
        obtain ⟨lit52, T52, h52, k52, lby52, kb52, X52, e52, E52, hS52, hk52, hZ52, ho52, LE52, LC52, LV52, LA52, -, -, hC52, -, hNe52, st52⟩ := ldcCH (EL := own_EL) (z := (1 : Int32)) (vs := [(.int (42 : Int32))]) X50 hx hZ4 ho4 (hw _ (List.mem_of_getElem? (i := 67) rfl)) wS e50 hS4 hk4 hEL (List.mem_of_getElem? (i := 0) rfl) CR6.1 ⟨by decide, by decide⟩ (by decide) (by decide) (g := (mkF m 22 #[.val (.ref a), .val (.int (0 : Int32))] [(.ref rB)])) rfl (hb hby own_d12_22) (n := 4) (by decide) (by decide) (by decide) (by decide)
        have S53 : ∀ t, Steps p.tables e below (T52.setTop (mkF m 24 #[.val (.ref a), .val (.int (0 : Int32))] [(.ref lit52), (.ref rB)])) t → Steps p.tables e below (s₁.setTop (entryFrame m #[(.ref a)] 2)) t := fun t kt => S51 t (st52 _ kt)
        have CR54 := CR6.trans hC52
        have F55 := F7.ext E52
        have F56 := F8.ext E52
        have F57 := F9.ext E52
        have F58 := F10.ext E52
        have F59 := F11.ext E52
        have F60 := F12.ext E52
        have F61 := F13.ext E52
        have F62 := F14.ext E52
        have F63 := F15.ext E52
        have F64 := F16.ext E52
        have F65 := F17.ext E52
        have F66 := LE4.ext E52
        have F67 := LC4.ext E52
        have F68 := LV4.ext E52
        have F69 := LA4.ext E52
        have K70 : Keep h0 h52 [] := K18.ext E52
        obtain ⟨cq72, kq72, q72a, q72b, q72c⟩ := isOf hZ52 e52 F62
        obtain ⟨_, _, ⟨T72, L72, k72, n72⟩, -, X72, ⟨Lc72, hQ72, l72, y72, z72⟩, st72⟩ := X52.virtualBack hx (y := (⟨"java/lang/String", "equals", "(Ljava/lang/Object;)Z"⟩ : MethodName)) (z := (⟨"java/lang/String", "equals", "(Ljava/lang/Object;)Z"⟩ : MethodName)) ho52 (mvT hZ52 (hw _ (List.mem_of_getElem? (i := 68) rfl))) (mvT hZ52 (hw _ (List.mem_of_getElem? (i := 69) rfl))) (notFace_of_selects (args := #[]) (mvT hZ52 (hw _ (List.mem_of_getElem? (i := 71) rfl)))) (mvT hZ52 (hw _ (List.mem_of_getElem? (i := 71) rfl))) (mvT hZ52 (hw _ (List.mem_of_getElem? (i := 70) rfl))) (by decide) (backOf (W := 0) (own_rm13o l Z a0 hw [] (rB) (lit52) (cs) (tbB) (lby52) (zB) (kB) (kb52) h52 n0 (Nat.le_trans Z0 K70.1) F55 hcs F62 F63 LE52 LC52 F64 LV52 F65 LA52) hZ52 (hw _ (List.mem_of_getElem? (i := 72) rfl)) (hw _ (List.mem_of_getElem? (i := 6) rfl)) (by decide) (by decide)) q72a q72c (g := (mkF m 24 #[.val (.ref a), .val (.int (0 : Int32))] [(.ref lit52), (.ref rB)])) rfl (by rw [hml]; rfl) (Steps.refl _) (argsL := [(.ref lit52)]) (rest := []) (lenOf own_pd12 rfl) rfl (by show 2 * 0 + _ ≤ _; exact Nat.le_of_eq rfl) (hb hby own_d12_24) (fun _ _ => ⟨rfl, e52, (by decide : 4 + 0 ≤ _), (by decide : 16 + 0 ≤ _)⟩)
        dsimp only [Pt.U, Pt.locs, Pt.cells, Pt.slots] at X72 l72 y72 z72 st72 hQ72
        subst l72 y72 z72
        obtain ⟨rfl, rfl, eq71⟩ := hQ72
        try rw [List.append_nil] at X72
        have S73 : ∀ t, Steps p.tables e below (T72.setTop (mkF m 27 #[.val (.ref a), .val (.int (0 : Int32))] [(.int (own_b (decide (zB = (42 : Int32)))))])) t → Steps p.tables e below (s₁.setTop (entryFrame m #[(.ref a)] 2)) t := fun t kt => S53 t (st72.trans kt)
        by_cases hc27 : (own_b (decide (zB = (42 : Int32)))) = (0 : Int32)
        · skip
          have S74 : ∀ t, Steps p.tables e below (T72.setTop (mkF m 37 #[.val (.ref a), .val (.int (0 : Int32))] [(.int (1 : Int32))])) t → Steps p.tables e below (s₁.setTop (entryFrame m #[(.ref a)] 2)) t := fun t kt => by
            refine S73 t ?_
            show Steps p.tables e below (T72.setTop (mkF m 27 #[.val (.ref a), .val (.int (0 : Int32))] [(.int (own_b (decide (zB = (42 : Int32)))))])) t
            refine XS.ifYes X72.here hx rfl (pc0 := 27) (pc' := 34) rfl (hb hby own_d12_27) rfl ((if0 _ _).trans (teq hc27).1) (by decide) (by decide) ?_
            show Steps p.tables e below (T72.setTop (mkF m 34 #[.val (.ref a), .val (.int (0 : Int32))] [])) t
            refine XS.iloadN X72.here hx rfl (hb hby own_d12_34) rfl ?_
            show Steps p.tables e below (T72.setTop (mkF m 35 #[.val (.ref a), .val (.int (0 : Int32))] [(.int (0 : Int32))])) t
            refine XS.iconst X72.here hx rfl (hb hby own_d12_35) ?_
            show Steps p.tables e below (T72.setTop (mkF m 36 #[.val (.ref a), .val (.int (0 : Int32))] [(.int (1 : Int32)), (.int (0 : Int32))])) t
            refine XS.iadd X72.here hx rfl (hb hby own_d12_36) rfl ?_
            exact kt
          obtain ⟨fs, hr, hrun, hended, -, hW, hBk, hsame⟩ := X72.leaveW hS52 (by rw [eq71]; exact hk52) (v := some (.int (1 : Int32))) (fun h => by rw [Bd.returns] at h; cases h)
          refine ⟨_, _, S74 _ ?_, hrun, hended, _, _, rfl, ?_, (by show CHr Z own_EL s.vm s.heap T72.vm T72.heap; rw [hh, eq71]; exact CR54.trans (CHv.at X72 hZ52 hEL CR54.1)), ⟨_, rfl⟩, hW, hBk, hsame.mono (by decide) (by decide)⟩
          · show Steps p.tables e below (T72.setTop (mkF m 37 #[.val (.ref a), .val (.int (0 : Int32))] [(.int (1 : Int32))])) _
            exact own_retI X72 hx Bd.returns (hb hby own_d12_37) hr
          · show own_Q12 Z a cs rA tbA kA nA vA zA rB tbB kB nB vB zB h0 n0 _ T72.heap _
            rw [eq71]
            exact ⟨by first | (simp_all [own_sp, own_b]; done) | (simp_all [own_sp, own_b]; decide), N0, K70⟩
        · skip
          have S75 : ∀ t, Steps p.tables e below (T72.setTop (mkF m 37 #[.val (.ref a), .val (.int (0 : Int32))] [(.int (0 : Int32))])) t → Steps p.tables e below (s₁.setTop (entryFrame m #[(.ref a)] 2)) t := fun t kt => by
            refine S73 t ?_
            show Steps p.tables e below (T72.setTop (mkF m 27 #[.val (.ref a), .val (.int (0 : Int32))] [(.int (own_b (decide (zB = (42 : Int32)))))])) t
            refine XS.ifNo X72.here hx rfl (hb hby own_d12_27) rfl ((if0 _ _).trans (feq hc27).1) ?_
            show Steps p.tables e below (T72.setTop (mkF m 30 #[.val (.ref a), .val (.int (0 : Int32))] [])) t
            refine XS.iloadN X72.here hx rfl (hb hby own_d12_30) rfl ?_
            show Steps p.tables e below (T72.setTop (mkF m 31 #[.val (.ref a), .val (.int (0 : Int32))] [(.int (0 : Int32))])) t
            refine XS.goto X72.here hx rfl (pc0 := 31) (pc' := 37) rfl (hb hby own_d12_31) (by decide) (by decide) ?_
            exact kt
          obtain ⟨fs, hr, hrun, hended, -, hW, hBk, hsame⟩ := X72.leaveW hS52 (by rw [eq71]; exact hk52) (v := some (.int (0 : Int32))) (fun h => by rw [Bd.returns] at h; cases h)
          refine ⟨_, _, S75 _ ?_, hrun, hended, _, _, rfl, ?_, (by show CHr Z own_EL s.vm s.heap T72.vm T72.heap; rw [hh, eq71]; exact CR54.trans (CHv.at X72 hZ52 hEL CR54.1)), ⟨_, rfl⟩, hW, hBk, hsame.mono (by decide) (by decide)⟩
          · show Steps p.tables e below (T72.setTop (mkF m 37 #[.val (.ref a), .val (.int (0 : Int32))] [(.int (0 : Int32))])) _
            exact own_retI X72 hx Bd.returns (hb hby own_d12_37) hr
          · show own_Q12 Z a cs rA tbA kA nA vA zA rB tbB kB nB vB zB h0 n0 _ T72.heap _
            rw [eq71]
            exact ⟨by first | (simp_all [own_sp, own_b]; done) | (simp_all [own_sp, own_b]; decide), N0, K70⟩
    · skip
      have S76 : ∀ t, Steps p.tables e below (s₁.setTop (mkF m 1 #[.val (.ref a), .unset] [(.ref a)])) t → Steps p.tables e below (s₁.setTop (entryFrame m #[(.ref a)] 2)) t := fun t kt => by
        refine pre0 t ?_
        show Steps p.tables e below (s₁.setTop (mkF m 0 #[.val (.ref a), .unset] [])) t
        refine XS.aloadN X0.here hx rfl (hb hby own_d12_0) rfl rfl ?_
        exact kt
      obtain ⟨T77, X77, e77, st77⟩ := getF X0 hx hZ hown (host := "") (Or.inl (hw _ (List.mem_of_getElem? (i := 53) rfl))) Via.refl e0 F_type (g := (mkF m 1 #[.val (.ref a), .unset] [(.ref a)])) rfl rfl (hb hby own_d12_1)
      have S78 : ∀ t, Steps p.tables e below (T77.setTop (mkF m 4 #[.val (.ref a), .unset] [(.ref rA)])) t → Steps p.tables e below (s₁.setTop (entryFrame m #[(.ref a)] 2)) t := fun t kt => S76 t (st77 _ kt)
      obtain ⟨lit79, T79, h79, k79, lby79, kb79, X79, e79, E79, hS79, hk79, hZ79, ho79, LE79, LC79, LV79, LA79, -, -, hC79, -, hNe79, st79⟩ := ldcCH (EL := own_EL) (z := (1 : Int32)) (vs := [(.int (42 : Int32))]) X77 hx hZ hown (hw _ (List.mem_of_getElem? (i := 67) rfl)) wS e77 hS0 (Nat.le_refl _) hEL (List.mem_of_getElem? (i := 0) rfl) CR0.1 ⟨by decide, by decide⟩ (by decide) (by decide) (g := (mkF m 4 #[.val (.ref a), .unset] [(.ref rA)])) rfl (hb hby own_d12_4) (n := 4) (by decide) (by decide) (by decide) (by decide)
      have S80 : ∀ t, Steps p.tables e below (T79.setTop (mkF m 6 #[.val (.ref a), .unset] [(.ref lit79), (.ref rA)])) t → Steps p.tables e below (s₁.setTop (entryFrame m #[(.ref a)] 2)) t := fun t kt => S78 t (st79 _ kt)
      have CR81 := CR0.trans hC79
      have F82 := S_CS.ext E79
      have F83 := F_type.ext E79
      have F84 := F_sub.ext E79
      have F85 := E_rA.ext E79
      have F86 := C_rA.ext E79
      have F87 := W_rA.ext E79
      have F88 := V1A.ext E79
      have F89 := E_rB.ext E79
      have F90 := C_rB.ext E79
      have F91 := W_rB.ext E79
      have F92 := V_B.ext E79
      have K93 : Keep h0 h79 [] := (Keep.refl h0 []).ext E79
      obtain ⟨cq95, kq95, q95a, q95b, q95c⟩ := isOf hZ79 e79 F85
      obtain ⟨_, _, ⟨T95, L95, k95, n95⟩, -, X95, ⟨Lc95, hQ95, l95, y95, z95⟩, st95⟩ := X79.virtualBack hx (y := (⟨"java/lang/String", "equals", "(Ljava/lang/Object;)Z"⟩ : MethodName)) (z := (⟨"java/lang/String", "equals", "(Ljava/lang/Object;)Z"⟩ : MethodName)) ho79 (mvT hZ79 (hw _ (List.mem_of_getElem? (i := 68) rfl))) (mvT hZ79 (hw _ (List.mem_of_getElem? (i := 69) rfl))) (notFace_of_selects (args := #[]) (mvT hZ79 (hw _ (List.mem_of_getElem? (i := 71) rfl)))) (mvT hZ79 (hw _ (List.mem_of_getElem? (i := 71) rfl))) (mvT hZ79 (hw _ (List.mem_of_getElem? (i := 70) rfl))) (by decide) (backOf (W := 0) (own_rm13o l Z a0 hw [] (rA) (lit79) (cs) (tbA) (lby79) (zA) (kA) (kb79) h79 n0 (Nat.le_trans Z0 K93.1) F82 hcs F85 F86 LE79 LC79 F87 LV79 F88 LA79) hZ79 (hw _ (List.mem_of_getElem? (i := 72) rfl)) (hw _ (List.mem_of_getElem? (i := 6) rfl)) (by decide) (by decide)) q95a q95c (g := (mkF m 6 #[.val (.ref a), .unset] [(.ref lit79), (.ref rA)])) rfl (by rw [hml]; rfl) (Steps.refl _) (argsL := [(.ref lit79)]) (rest := []) (lenOf own_pd12 rfl) rfl (by show 2 * 0 + _ ≤ _; exact Nat.le_of_eq rfl) (hb hby own_d12_6) (fun _ _ => ⟨rfl, e79, (by decide : 2 + 0 ≤ _), (by decide : 8 + 0 ≤ _)⟩)
      dsimp only [Pt.U, Pt.locs, Pt.cells, Pt.slots] at X95 l95 y95 z95 st95 hQ95
      subst l95 y95 z95
      obtain ⟨rfl, rfl, eq94⟩ := hQ95
      try rw [List.append_nil] at X95
      have S96 : ∀ t, Steps p.tables e below (T95.setTop (mkF m 9 #[.val (.ref a), .unset] [(.int (own_b (decide (zA = (42 : Int32)))))])) t → Steps p.tables e below (s₁.setTop (entryFrame m #[(.ref a)] 2)) t := fun t kt => S80 t (st95.trans kt)
      by_cases hc9 : (own_b (decide (zA = (42 : Int32)))) = (0 : Int32)
      · skip
        have S97 : ∀ t, Steps p.tables e below (T95.setTop (mkF m 19 #[.val (.ref a), .val (.int (1 : Int32))] [(.ref a)])) t → Steps p.tables e below (s₁.setTop (entryFrame m #[(.ref a)] 2)) t := fun t kt => by
          refine S96 t ?_
          show Steps p.tables e below (T95.setTop (mkF m 9 #[.val (.ref a), .unset] [(.int (own_b (decide (zA = (42 : Int32)))))])) t
          refine XS.ifYes X95.here hx rfl (pc0 := 9) (pc' := 16) rfl (hb hby own_d12_9) rfl ((if0 _ _).trans (teq hc9).1) (by decide) (by decide) ?_
          show Steps p.tables e below (T95.setTop (mkF m 16 #[.val (.ref a), .unset] [])) t
          refine XS.iconst X95.here hx rfl (hb hby own_d12_16) ?_
          show Steps p.tables e below (T95.setTop (mkF m 17 #[.val (.ref a), .unset] [(.int (1 : Int32))])) t
          refine XS.istoreN X95.here hx rfl (hb hby own_d12_17) rfl (l' := #[.val (.ref a), .val (.int (1 : Int32))]) rfl ?_
          show Steps p.tables e below (T95.setTop (mkF m 18 #[.val (.ref a), .val (.int (1 : Int32))] [])) t
          refine XS.aloadN X95.here hx rfl (hb hby own_d12_18) rfl rfl ?_
          exact kt
        obtain ⟨T98, X98, e98, st98⟩ := getF X95 hx hZ79 ho79 (host := "") (Or.inl (hw _ (List.mem_of_getElem? (i := 55) rfl))) Via.refl eq94 F84 (g := (mkF m 19 #[.val (.ref a), .val (.int (1 : Int32))] [(.ref a)])) rfl rfl (hb hby own_d12_19)
        have S99 : ∀ t, Steps p.tables e below (T98.setTop (mkF m 22 #[.val (.ref a), .val (.int (1 : Int32))] [(.ref rB)])) t → Steps p.tables e below (s₁.setTop (entryFrame m #[(.ref a)] 2)) t := fun t kt => S97 t (st98 _ kt)
        obtain ⟨lit100, T100, h100, k100, lby100, kb100, X100, e100, E100, hS100, hk100, hZ100, ho100, LE100, LC100, LV100, LA100, -, -, hC100, -, hNe100, st100⟩ := ldcCH (EL := own_EL) (z := (1 : Int32)) (vs := [(.int (42 : Int32))]) X98 hx hZ79 ho79 (hw _ (List.mem_of_getElem? (i := 67) rfl)) wS e98 hS79 hk79 hEL (List.mem_of_getElem? (i := 0) rfl) CR81.1 ⟨by decide, by decide⟩ (by decide) (by decide) (g := (mkF m 22 #[.val (.ref a), .val (.int (1 : Int32))] [(.ref rB)])) rfl (hb hby own_d12_22) (n := 4) (by decide) (by decide) (by decide) (by decide)
        have S101 : ∀ t, Steps p.tables e below (T100.setTop (mkF m 24 #[.val (.ref a), .val (.int (1 : Int32))] [(.ref lit100), (.ref rB)])) t → Steps p.tables e below (s₁.setTop (entryFrame m #[(.ref a)] 2)) t := fun t kt => S99 t (st100 _ kt)
        have CR102 := CR81.trans hC100
        have F103 := F82.ext E100
        have F104 := F83.ext E100
        have F105 := F84.ext E100
        have F106 := F85.ext E100
        have F107 := F86.ext E100
        have F108 := F87.ext E100
        have F109 := F88.ext E100
        have F110 := F89.ext E100
        have F111 := F90.ext E100
        have F112 := F91.ext E100
        have F113 := F92.ext E100
        have F114 := LE79.ext E100
        have F115 := LC79.ext E100
        have F116 := LV79.ext E100
        have F117 := LA79.ext E100
        have K118 : Keep h0 h100 [] := K93.ext E100
        obtain ⟨cq120, kq120, q120a, q120b, q120c⟩ := isOf hZ100 e100 F110
        obtain ⟨_, _, ⟨T120, L120, k120, n120⟩, -, X120, ⟨Lc120, hQ120, l120, y120, z120⟩, st120⟩ := X100.virtualBack hx (y := (⟨"java/lang/String", "equals", "(Ljava/lang/Object;)Z"⟩ : MethodName)) (z := (⟨"java/lang/String", "equals", "(Ljava/lang/Object;)Z"⟩ : MethodName)) ho100 (mvT hZ100 (hw _ (List.mem_of_getElem? (i := 68) rfl))) (mvT hZ100 (hw _ (List.mem_of_getElem? (i := 69) rfl))) (notFace_of_selects (args := #[]) (mvT hZ100 (hw _ (List.mem_of_getElem? (i := 71) rfl)))) (mvT hZ100 (hw _ (List.mem_of_getElem? (i := 71) rfl))) (mvT hZ100 (hw _ (List.mem_of_getElem? (i := 70) rfl))) (by decide) (backOf (W := 0) (own_rm13n l Z a0 hw [] (rB) (lit100) (cs) (tbB) (lby100) (nB) (vB) (kB) (kb100) h100 n0 (Nat.le_trans Z0 K118.1) F103 hcs F110 F111 LE100 LC100 F112 LV100 F113 LA100 hLB) hZ100 (hw _ (List.mem_of_getElem? (i := 72) rfl)) (hw _ (List.mem_of_getElem? (i := 6) rfl)) (by decide) (by decide)) q120a q120c (g := (mkF m 24 #[.val (.ref a), .val (.int (1 : Int32))] [(.ref lit100), (.ref rB)])) rfl (by rw [hml]; rfl) (Steps.refl _) (argsL := [(.ref lit100)]) (rest := []) (lenOf own_pd12 rfl) rfl (by show 2 * 0 + _ ≤ _; exact Nat.le_of_eq rfl) (hb hby own_d12_24) (fun _ _ => ⟨rfl, e100, (by decide : 4 + 0 ≤ _), (by decide : 16 + 0 ≤ _)⟩)
        dsimp only [Pt.U, Pt.locs, Pt.cells, Pt.slots] at X120 l120 y120 z120 st120 hQ120
        subst l120 y120 z120
        obtain ⟨rfl, rfl, eq119⟩ := hQ120
        try rw [List.append_nil] at X120
        have S121 : ∀ t, Steps p.tables e below (T120.setTop (mkF m 27 #[.val (.ref a), .val (.int (1 : Int32))] [(.int (0 : Int32))])) t → Steps p.tables e below (s₁.setTop (entryFrame m #[(.ref a)] 2)) t := fun t kt => S101 t (st120.trans kt)
        have hc27_122 : (0 : Int32) = (0 : Int32) := by decide
        have S123 : ∀ t, Steps p.tables e below (T120.setTop (mkF m 37 #[.val (.ref a), .val (.int (1 : Int32))] [(.int (2 : Int32))])) t → Steps p.tables e below (s₁.setTop (entryFrame m #[(.ref a)] 2)) t := fun t kt => by
          refine S121 t ?_
          show Steps p.tables e below (T120.setTop (mkF m 27 #[.val (.ref a), .val (.int (1 : Int32))] [(.int (0 : Int32))])) t
          refine XS.ifYes X120.here hx rfl (pc0 := 27) (pc' := 34) rfl (hb hby own_d12_27) rfl ((if0 _ _).trans (teq hc27_122).1) (by decide) (by decide) ?_
          show Steps p.tables e below (T120.setTop (mkF m 34 #[.val (.ref a), .val (.int (1 : Int32))] [])) t
          refine XS.iloadN X120.here hx rfl (hb hby own_d12_34) rfl ?_
          show Steps p.tables e below (T120.setTop (mkF m 35 #[.val (.ref a), .val (.int (1 : Int32))] [(.int (1 : Int32))])) t
          refine XS.iconst X120.here hx rfl (hb hby own_d12_35) ?_
          show Steps p.tables e below (T120.setTop (mkF m 36 #[.val (.ref a), .val (.int (1 : Int32))] [(.int (1 : Int32)), (.int (1 : Int32))])) t
          refine XS.iadd X120.here hx rfl (hb hby own_d12_36) rfl ?_
          exact kt
        obtain ⟨fs, hr, hrun, hended, -, hW, hBk, hsame⟩ := X120.leaveW hS100 (by rw [eq119]; exact hk100) (v := some (.int (2 : Int32))) (fun h => by rw [Bd.returns] at h; cases h)
        refine ⟨_, _, S123 _ ?_, hrun, hended, _, _, rfl, ?_, (by show CHr Z own_EL s.vm s.heap T120.vm T120.heap; rw [hh, eq119]; exact CR102.trans (CHv.at X120 hZ100 hEL CR102.1)), ⟨_, rfl⟩, hW, hBk, hsame.mono (by decide) (by decide)⟩
        · show Steps p.tables e below (T120.setTop (mkF m 37 #[.val (.ref a), .val (.int (1 : Int32))] [(.int (2 : Int32))])) _
          exact own_retI X120 hx Bd.returns (hb hby own_d12_37) hr
        · show own_Q12 Z a cs rA tbA kA nA vA zA rB tbB kB nB vB zB h0 n0 _ T120.heap _
          rw [eq119]
          exact ⟨by first | (simp_all [own_sp, own_b]; done) | (simp_all [own_sp, own_b]; decide), N0, K118⟩
      · skip
        have S124 : ∀ t, Steps p.tables e below (T95.setTop (mkF m 19 #[.val (.ref a), .val (.int (0 : Int32))] [(.ref a)])) t → Steps p.tables e below (s₁.setTop (entryFrame m #[(.ref a)] 2)) t := fun t kt => by
          refine S96 t ?_
          show Steps p.tables e below (T95.setTop (mkF m 9 #[.val (.ref a), .unset] [(.int (own_b (decide (zA = (42 : Int32)))))])) t
          refine XS.ifNo X95.here hx rfl (hb hby own_d12_9) rfl ((if0 _ _).trans (feq hc9).1) ?_
          show Steps p.tables e below (T95.setTop (mkF m 12 #[.val (.ref a), .unset] [])) t
          refine XS.iconst X95.here hx rfl (hb hby own_d12_12) ?_
          show Steps p.tables e below (T95.setTop (mkF m 13 #[.val (.ref a), .unset] [(.int (0 : Int32))])) t
          refine XS.goto X95.here hx rfl (pc0 := 13) (pc' := 17) rfl (hb hby own_d12_13) (by decide) (by decide) ?_
          show Steps p.tables e below (T95.setTop (mkF m 17 #[.val (.ref a), .unset] [(.int (0 : Int32))])) t
          refine XS.istoreN X95.here hx rfl (hb hby own_d12_17) rfl (l' := #[.val (.ref a), .val (.int (0 : Int32))]) rfl ?_
          show Steps p.tables e below (T95.setTop (mkF m 18 #[.val (.ref a), .val (.int (0 : Int32))] [])) t
          refine XS.aloadN X95.here hx rfl (hb hby own_d12_18) rfl rfl ?_
          exact kt
        obtain ⟨T125, X125, e125, st125⟩ := getF X95 hx hZ79 ho79 (host := "") (Or.inl (hw _ (List.mem_of_getElem? (i := 55) rfl))) Via.refl eq94 F84 (g := (mkF m 19 #[.val (.ref a), .val (.int (0 : Int32))] [(.ref a)])) rfl rfl (hb hby own_d12_19)
        have S126 : ∀ t, Steps p.tables e below (T125.setTop (mkF m 22 #[.val (.ref a), .val (.int (0 : Int32))] [(.ref rB)])) t → Steps p.tables e below (s₁.setTop (entryFrame m #[(.ref a)] 2)) t := fun t kt => S124 t (st125 _ kt)
        obtain ⟨lit127, T127, h127, k127, lby127, kb127, X127, e127, E127, hS127, hk127, hZ127, ho127, LE127, LC127, LV127, LA127, -, -, hC127, -, hNe127, st127⟩ := ldcCH (EL := own_EL) (z := (1 : Int32)) (vs := [(.int (42 : Int32))]) X125 hx hZ79 ho79 (hw _ (List.mem_of_getElem? (i := 67) rfl)) wS e125 hS79 hk79 hEL (List.mem_of_getElem? (i := 0) rfl) CR81.1 ⟨by decide, by decide⟩ (by decide) (by decide) (g := (mkF m 22 #[.val (.ref a), .val (.int (0 : Int32))] [(.ref rB)])) rfl (hb hby own_d12_22) (n := 4) (by decide) (by decide) (by decide) (by decide)
        have S128 : ∀ t, Steps p.tables e below (T127.setTop (mkF m 24 #[.val (.ref a), .val (.int (0 : Int32))] [(.ref lit127), (.ref rB)])) t → Steps p.tables e below (s₁.setTop (entryFrame m #[(.ref a)] 2)) t := fun t kt => S126 t (st127 _ kt)
        have CR129 := CR81.trans hC127
        have F130 := F82.ext E127
        have F131 := F83.ext E127
        have F132 := F84.ext E127
        have F133 := F85.ext E127
        have F134 := F86.ext E127
        have F135 := F87.ext E127
        have F136 := F88.ext E127
        have F137 := F89.ext E127
        have F138 := F90.ext E127
        have F139 := F91.ext E127
        have F140 := F92.ext E127
        have F141 := LE79.ext E127
        have F142 := LC79.ext E127
        have F143 := LV79.ext E127
        have F144 := LA79.ext E127
        have K145 : Keep h0 h127 [] := K93.ext E127
        obtain ⟨cq147, kq147, q147a, q147b, q147c⟩ := isOf hZ127 e127 F137
        obtain ⟨_, _, ⟨T147, L147, k147, n147⟩, -, X147, ⟨Lc147, hQ147, l147, y147, z147⟩, st147⟩ := X127.virtualBack hx (y := (⟨"java/lang/String", "equals", "(Ljava/lang/Object;)Z"⟩ : MethodName)) (z := (⟨"java/lang/String", "equals", "(Ljava/lang/Object;)Z"⟩ : MethodName)) ho127 (mvT hZ127 (hw _ (List.mem_of_getElem? (i := 68) rfl))) (mvT hZ127 (hw _ (List.mem_of_getElem? (i := 69) rfl))) (notFace_of_selects (args := #[]) (mvT hZ127 (hw _ (List.mem_of_getElem? (i := 71) rfl)))) (mvT hZ127 (hw _ (List.mem_of_getElem? (i := 71) rfl))) (mvT hZ127 (hw _ (List.mem_of_getElem? (i := 70) rfl))) (by decide) (backOf (W := 0) (own_rm13n l Z a0 hw [] (rB) (lit127) (cs) (tbB) (lby127) (nB) (vB) (kB) (kb127) h127 n0 (Nat.le_trans Z0 K145.1) F130 hcs F137 F138 LE127 LC127 F139 LV127 F140 LA127 hLB) hZ127 (hw _ (List.mem_of_getElem? (i := 72) rfl)) (hw _ (List.mem_of_getElem? (i := 6) rfl)) (by decide) (by decide)) q147a q147c (g := (mkF m 24 #[.val (.ref a), .val (.int (0 : Int32))] [(.ref lit127), (.ref rB)])) rfl (by rw [hml]; rfl) (Steps.refl _) (argsL := [(.ref lit127)]) (rest := []) (lenOf own_pd12 rfl) rfl (by show 2 * 0 + _ ≤ _; exact Nat.le_of_eq rfl) (hb hby own_d12_24) (fun _ _ => ⟨rfl, e127, (by decide : 4 + 0 ≤ _), (by decide : 16 + 0 ≤ _)⟩)
        dsimp only [Pt.U, Pt.locs, Pt.cells, Pt.slots] at X147 l147 y147 z147 st147 hQ147
        subst l147 y147 z147
        obtain ⟨rfl, rfl, eq146⟩ := hQ147
        try rw [List.append_nil] at X147
        have S148 : ∀ t, Steps p.tables e below (T147.setTop (mkF m 27 #[.val (.ref a), .val (.int (0 : Int32))] [(.int (0 : Int32))])) t → Steps p.tables e below (s₁.setTop (entryFrame m #[(.ref a)] 2)) t := fun t kt => S128 t (st147.trans kt)
        have hc27_149 : (0 : Int32) = (0 : Int32) := by decide
        have S150 : ∀ t, Steps p.tables e below (T147.setTop (mkF m 37 #[.val (.ref a), .val (.int (0 : Int32))] [(.int (1 : Int32))])) t → Steps p.tables e below (s₁.setTop (entryFrame m #[(.ref a)] 2)) t := fun t kt => by
          refine S148 t ?_
          show Steps p.tables e below (T147.setTop (mkF m 27 #[.val (.ref a), .val (.int (0 : Int32))] [(.int (0 : Int32))])) t
          refine XS.ifYes X147.here hx rfl (pc0 := 27) (pc' := 34) rfl (hb hby own_d12_27) rfl ((if0 _ _).trans (teq hc27_149).1) (by decide) (by decide) ?_
          show Steps p.tables e below (T147.setTop (mkF m 34 #[.val (.ref a), .val (.int (0 : Int32))] [])) t
          refine XS.iloadN X147.here hx rfl (hb hby own_d12_34) rfl ?_
          show Steps p.tables e below (T147.setTop (mkF m 35 #[.val (.ref a), .val (.int (0 : Int32))] [(.int (0 : Int32))])) t
          refine XS.iconst X147.here hx rfl (hb hby own_d12_35) ?_
          show Steps p.tables e below (T147.setTop (mkF m 36 #[.val (.ref a), .val (.int (0 : Int32))] [(.int (1 : Int32)), (.int (0 : Int32))])) t
          refine XS.iadd X147.here hx rfl (hb hby own_d12_36) rfl ?_
          exact kt
        obtain ⟨fs, hr, hrun, hended, -, hW, hBk, hsame⟩ := X147.leaveW hS127 (by rw [eq146]; exact hk127) (v := some (.int (1 : Int32))) (fun h => by rw [Bd.returns] at h; cases h)
        refine ⟨_, _, S150 _ ?_, hrun, hended, _, _, rfl, ?_, (by show CHr Z own_EL s.vm s.heap T147.vm T147.heap; rw [hh, eq146]; exact CR129.trans (CHv.at X147 hZ127 hEL CR129.1)), ⟨_, rfl⟩, hW, hBk, hsame.mono (by decide) (by decide)⟩
        · show Steps p.tables e below (T147.setTop (mkF m 37 #[.val (.ref a), .val (.int (0 : Int32))] [(.int (1 : Int32))])) _
          exact own_retI X147 hx Bd.returns (hb hby own_d12_37) hr
        · show own_Q12 Z a cs rA tbA kA nA vA zA rB tbB kB nB vB zB h0 n0 _ T147.heap _
          rw [eq146]
          exact ⟨by first | (simp_all [own_sp, own_b]; done) | (simp_all [own_sp, own_b]; decide), N0, K145⟩
  · skip
    by_cases hLB : nB = (1 : Int32)
    · skip
      have V1B : Arv Z h0 tbB kB .byte (1 : Int32) [(.int zB)] (.int (0 : Int32)) := by
        have e := (HB.resolve_right (fun n => n hLB))
        have v := V_B
        rw [e.1, e.2] at v
        exact v
      have S151 : ∀ t, Steps p.tables e below (s₁.setTop (mkF m 1 #[.val (.ref a), .unset] [(.ref a)])) t → Steps p.tables e below (s₁.setTop (entryFrame m #[(.ref a)] 2)) t := fun t kt => by
        refine pre0 t ?_
        show Steps p.tables e below (s₁.setTop (mkF m 0 #[.val (.ref a), .unset] [])) t
        refine XS.aloadN X0.here hx rfl (hb hby own_d12_0) rfl rfl ?_
        exact kt
      obtain ⟨T152, X152, e152, st152⟩ := getF X0 hx hZ hown (host := "") (Or.inl (hw _ (List.mem_of_getElem? (i := 53) rfl))) Via.refl e0 F_type (g := (mkF m 1 #[.val (.ref a), .unset] [(.ref a)])) rfl rfl (hb hby own_d12_1)
      have S153 : ∀ t, Steps p.tables e below (T152.setTop (mkF m 4 #[.val (.ref a), .unset] [(.ref rA)])) t → Steps p.tables e below (s₁.setTop (entryFrame m #[(.ref a)] 2)) t := fun t kt => S151 t (st152 _ kt)
      obtain ⟨lit154, T154, h154, k154, lby154, kb154, X154, e154, E154, hS154, hk154, hZ154, ho154, LE154, LC154, LV154, LA154, -, -, hC154, -, hNe154, st154⟩ := ldcCH (EL := own_EL) (z := (1 : Int32)) (vs := [(.int (42 : Int32))]) X152 hx hZ hown (hw _ (List.mem_of_getElem? (i := 67) rfl)) wS e152 hS0 (Nat.le_refl _) hEL (List.mem_of_getElem? (i := 0) rfl) CR0.1 ⟨by decide, by decide⟩ (by decide) (by decide) (g := (mkF m 4 #[.val (.ref a), .unset] [(.ref rA)])) rfl (hb hby own_d12_4) (n := 4) (by decide) (by decide) (by decide) (by decide)
      have S155 : ∀ t, Steps p.tables e below (T154.setTop (mkF m 6 #[.val (.ref a), .unset] [(.ref lit154), (.ref rA)])) t → Steps p.tables e below (s₁.setTop (entryFrame m #[(.ref a)] 2)) t := fun t kt => S153 t (st154 _ kt)
      have CR156 := CR0.trans hC154
      have F157 := S_CS.ext E154
      have F158 := F_type.ext E154
      have F159 := F_sub.ext E154
      have F160 := E_rA.ext E154
      have F161 := C_rA.ext E154
      have F162 := W_rA.ext E154
      have F163 := V_A.ext E154
      have F164 := E_rB.ext E154
      have F165 := C_rB.ext E154
      have F166 := W_rB.ext E154
      have F167 := V1B.ext E154
      have K168 : Keep h0 h154 [] := (Keep.refl h0 []).ext E154
      obtain ⟨cq170, kq170, q170a, q170b, q170c⟩ := isOf hZ154 e154 F160
      obtain ⟨_, _, ⟨T170, L170, k170, n170⟩, -, X170, ⟨Lc170, hQ170, l170, y170, z170⟩, st170⟩ := X154.virtualBack hx (y := (⟨"java/lang/String", "equals", "(Ljava/lang/Object;)Z"⟩ : MethodName)) (z := (⟨"java/lang/String", "equals", "(Ljava/lang/Object;)Z"⟩ : MethodName)) ho154 (mvT hZ154 (hw _ (List.mem_of_getElem? (i := 68) rfl))) (mvT hZ154 (hw _ (List.mem_of_getElem? (i := 69) rfl))) (notFace_of_selects (args := #[]) (mvT hZ154 (hw _ (List.mem_of_getElem? (i := 71) rfl)))) (mvT hZ154 (hw _ (List.mem_of_getElem? (i := 71) rfl))) (mvT hZ154 (hw _ (List.mem_of_getElem? (i := 70) rfl))) (by decide) (backOf (W := 0) (own_rm13n l Z a0 hw [] (rA) (lit154) (cs) (tbA) (lby154) (nA) (vA) (kA) (kb154) h154 n0 (Nat.le_trans Z0 K168.1) F157 hcs F160 F161 LE154 LC154 F162 LV154 F163 LA154 hLA) hZ154 (hw _ (List.mem_of_getElem? (i := 72) rfl)) (hw _ (List.mem_of_getElem? (i := 6) rfl)) (by decide) (by decide)) q170a q170c (g := (mkF m 6 #[.val (.ref a), .unset] [(.ref lit154), (.ref rA)])) rfl (by rw [hml]; rfl) (Steps.refl _) (argsL := [(.ref lit154)]) (rest := []) (lenOf own_pd12 rfl) rfl (by show 2 * 0 + _ ≤ _; exact Nat.le_of_eq rfl) (hb hby own_d12_6) (fun _ _ => ⟨rfl, e154, (by decide : 2 + 0 ≤ _), (by decide : 8 + 0 ≤ _)⟩)
      dsimp only [Pt.U, Pt.locs, Pt.cells, Pt.slots] at X170 l170 y170 z170 st170 hQ170
      subst l170 y170 z170
      obtain ⟨rfl, rfl, eq169⟩ := hQ170
      try rw [List.append_nil] at X170
      have S171 : ∀ t, Steps p.tables e below (T170.setTop (mkF m 9 #[.val (.ref a), .unset] [(.int (0 : Int32))])) t → Steps p.tables e below (s₁.setTop (entryFrame m #[(.ref a)] 2)) t := fun t kt => S155 t (st170.trans kt)
      have hc9_172 : (0 : Int32) = (0 : Int32) := by decide
      have S173 : ∀ t, Steps p.tables e below (T170.setTop (mkF m 19 #[.val (.ref a), .val (.int (1 : Int32))] [(.ref a)])) t → Steps p.tables e below (s₁.setTop (entryFrame m #[(.ref a)] 2)) t := fun t kt => by
        refine S171 t ?_
        show Steps p.tables e below (T170.setTop (mkF m 9 #[.val (.ref a), .unset] [(.int (0 : Int32))])) t
        refine XS.ifYes X170.here hx rfl (pc0 := 9) (pc' := 16) rfl (hb hby own_d12_9) rfl ((if0 _ _).trans (teq hc9_172).1) (by decide) (by decide) ?_
        show Steps p.tables e below (T170.setTop (mkF m 16 #[.val (.ref a), .unset] [])) t
        refine XS.iconst X170.here hx rfl (hb hby own_d12_16) ?_
        show Steps p.tables e below (T170.setTop (mkF m 17 #[.val (.ref a), .unset] [(.int (1 : Int32))])) t
        refine XS.istoreN X170.here hx rfl (hb hby own_d12_17) rfl (l' := #[.val (.ref a), .val (.int (1 : Int32))]) rfl ?_
        show Steps p.tables e below (T170.setTop (mkF m 18 #[.val (.ref a), .val (.int (1 : Int32))] [])) t
        refine XS.aloadN X170.here hx rfl (hb hby own_d12_18) rfl rfl ?_
        exact kt
      obtain ⟨T174, X174, e174, st174⟩ := getF X170 hx hZ154 ho154 (host := "") (Or.inl (hw _ (List.mem_of_getElem? (i := 55) rfl))) Via.refl eq169 F159 (g := (mkF m 19 #[.val (.ref a), .val (.int (1 : Int32))] [(.ref a)])) rfl rfl (hb hby own_d12_19)
      have S175 : ∀ t, Steps p.tables e below (T174.setTop (mkF m 22 #[.val (.ref a), .val (.int (1 : Int32))] [(.ref rB)])) t → Steps p.tables e below (s₁.setTop (entryFrame m #[(.ref a)] 2)) t := fun t kt => S173 t (st174 _ kt)
      obtain ⟨lit176, T176, h176, k176, lby176, kb176, X176, e176, E176, hS176, hk176, hZ176, ho176, LE176, LC176, LV176, LA176, -, -, hC176, -, hNe176, st176⟩ := ldcCH (EL := own_EL) (z := (1 : Int32)) (vs := [(.int (42 : Int32))]) X174 hx hZ154 ho154 (hw _ (List.mem_of_getElem? (i := 67) rfl)) wS e174 hS154 hk154 hEL (List.mem_of_getElem? (i := 0) rfl) CR156.1 ⟨by decide, by decide⟩ (by decide) (by decide) (g := (mkF m 22 #[.val (.ref a), .val (.int (1 : Int32))] [(.ref rB)])) rfl (hb hby own_d12_22) (n := 4) (by decide) (by decide) (by decide) (by decide)
      have S177 : ∀ t, Steps p.tables e below (T176.setTop (mkF m 24 #[.val (.ref a), .val (.int (1 : Int32))] [(.ref lit176), (.ref rB)])) t → Steps p.tables e below (s₁.setTop (entryFrame m #[(.ref a)] 2)) t := fun t kt => S175 t (st176 _ kt)
      have CR178 := CR156.trans hC176
      have F179 := F157.ext E176
      have F180 := F158.ext E176
      have F181 := F159.ext E176
      have F182 := F160.ext E176
      have F183 := F161.ext E176
      have F184 := F162.ext E176
      have F185 := F163.ext E176
      have F186 := F164.ext E176
      have F187 := F165.ext E176
      have F188 := F166.ext E176
      have F189 := F167.ext E176
      have F190 := LE154.ext E176
      have F191 := LC154.ext E176
      have F192 := LV154.ext E176
      have F193 := LA154.ext E176
      have K194 : Keep h0 h176 [] := K168.ext E176
      obtain ⟨cq196, kq196, q196a, q196b, q196c⟩ := isOf hZ176 e176 F186
      obtain ⟨_, _, ⟨T196, L196, k196, n196⟩, -, X196, ⟨Lc196, hQ196, l196, y196, z196⟩, st196⟩ := X176.virtualBack hx (y := (⟨"java/lang/String", "equals", "(Ljava/lang/Object;)Z"⟩ : MethodName)) (z := (⟨"java/lang/String", "equals", "(Ljava/lang/Object;)Z"⟩ : MethodName)) ho176 (mvT hZ176 (hw _ (List.mem_of_getElem? (i := 68) rfl))) (mvT hZ176 (hw _ (List.mem_of_getElem? (i := 69) rfl))) (notFace_of_selects (args := #[]) (mvT hZ176 (hw _ (List.mem_of_getElem? (i := 71) rfl)))) (mvT hZ176 (hw _ (List.mem_of_getElem? (i := 71) rfl))) (mvT hZ176 (hw _ (List.mem_of_getElem? (i := 70) rfl))) (by decide) (backOf (W := 0) (own_rm13o l Z a0 hw [] (rB) (lit176) (cs) (tbB) (lby176) (zB) (kB) (kb176) h176 n0 (Nat.le_trans Z0 K194.1) F179 hcs F186 F187 LE176 LC176 F188 LV176 F189 LA176) hZ176 (hw _ (List.mem_of_getElem? (i := 72) rfl)) (hw _ (List.mem_of_getElem? (i := 6) rfl)) (by decide) (by decide)) q196a q196c (g := (mkF m 24 #[.val (.ref a), .val (.int (1 : Int32))] [(.ref lit176), (.ref rB)])) rfl (by rw [hml]; rfl) (Steps.refl _) (argsL := [(.ref lit176)]) (rest := []) (lenOf own_pd12 rfl) rfl (by show 2 * 0 + _ ≤ _; exact Nat.le_of_eq rfl) (hb hby own_d12_24) (fun _ _ => ⟨rfl, e176, (by decide : 4 + 0 ≤ _), (by decide : 16 + 0 ≤ _)⟩)
      dsimp only [Pt.U, Pt.locs, Pt.cells, Pt.slots] at X196 l196 y196 z196 st196 hQ196
      subst l196 y196 z196
      obtain ⟨rfl, rfl, eq195⟩ := hQ196
      try rw [List.append_nil] at X196
      have S197 : ∀ t, Steps p.tables e below (T196.setTop (mkF m 27 #[.val (.ref a), .val (.int (1 : Int32))] [(.int (own_b (decide (zB = (42 : Int32)))))])) t → Steps p.tables e below (s₁.setTop (entryFrame m #[(.ref a)] 2)) t := fun t kt => S177 t (st196.trans kt)
      by_cases hc27 : (own_b (decide (zB = (42 : Int32)))) = (0 : Int32)
      · skip
        have S198 : ∀ t, Steps p.tables e below (T196.setTop (mkF m 37 #[.val (.ref a), .val (.int (1 : Int32))] [(.int (2 : Int32))])) t → Steps p.tables e below (s₁.setTop (entryFrame m #[(.ref a)] 2)) t := fun t kt => by
          refine S197 t ?_
          show Steps p.tables e below (T196.setTop (mkF m 27 #[.val (.ref a), .val (.int (1 : Int32))] [(.int (own_b (decide (zB = (42 : Int32)))))])) t
          refine XS.ifYes X196.here hx rfl (pc0 := 27) (pc' := 34) rfl (hb hby own_d12_27) rfl ((if0 _ _).trans (teq hc27).1) (by decide) (by decide) ?_
          show Steps p.tables e below (T196.setTop (mkF m 34 #[.val (.ref a), .val (.int (1 : Int32))] [])) t
          refine XS.iloadN X196.here hx rfl (hb hby own_d12_34) rfl ?_
          show Steps p.tables e below (T196.setTop (mkF m 35 #[.val (.ref a), .val (.int (1 : Int32))] [(.int (1 : Int32))])) t
          refine XS.iconst X196.here hx rfl (hb hby own_d12_35) ?_
          show Steps p.tables e below (T196.setTop (mkF m 36 #[.val (.ref a), .val (.int (1 : Int32))] [(.int (1 : Int32)), (.int (1 : Int32))])) t
          refine XS.iadd X196.here hx rfl (hb hby own_d12_36) rfl ?_
          exact kt
        obtain ⟨fs, hr, hrun, hended, -, hW, hBk, hsame⟩ := X196.leaveW hS176 (by rw [eq195]; exact hk176) (v := some (.int (2 : Int32))) (fun h => by rw [Bd.returns] at h; cases h)
        refine ⟨_, _, S198 _ ?_, hrun, hended, _, _, rfl, ?_, (by show CHr Z own_EL s.vm s.heap T196.vm T196.heap; rw [hh, eq195]; exact CR178.trans (CHv.at X196 hZ176 hEL CR178.1)), ⟨_, rfl⟩, hW, hBk, hsame.mono (by decide) (by decide)⟩
        · show Steps p.tables e below (T196.setTop (mkF m 37 #[.val (.ref a), .val (.int (1 : Int32))] [(.int (2 : Int32))])) _
          exact own_retI X196 hx Bd.returns (hb hby own_d12_37) hr
        · show own_Q12 Z a cs rA tbA kA nA vA zA rB tbB kB nB vB zB h0 n0 _ T196.heap _
          rw [eq195]
          exact ⟨by first | (simp_all [own_sp, own_b]; done) | (simp_all [own_sp, own_b]; decide), N0, K194⟩
      · skip
        have S199 : ∀ t, Steps p.tables e below (T196.setTop (mkF m 37 #[.val (.ref a), .val (.int (1 : Int32))] [(.int (1 : Int32))])) t → Steps p.tables e below (s₁.setTop (entryFrame m #[(.ref a)] 2)) t := fun t kt => by
          refine S197 t ?_
          show Steps p.tables e below (T196.setTop (mkF m 27 #[.val (.ref a), .val (.int (1 : Int32))] [(.int (own_b (decide (zB = (42 : Int32)))))])) t
          refine XS.ifNo X196.here hx rfl (hb hby own_d12_27) rfl ((if0 _ _).trans (feq hc27).1) ?_
          show Steps p.tables e below (T196.setTop (mkF m 30 #[.val (.ref a), .val (.int (1 : Int32))] [])) t
          refine XS.iloadN X196.here hx rfl (hb hby own_d12_30) rfl ?_
          show Steps p.tables e below (T196.setTop (mkF m 31 #[.val (.ref a), .val (.int (1 : Int32))] [(.int (1 : Int32))])) t
          refine XS.goto X196.here hx rfl (pc0 := 31) (pc' := 37) rfl (hb hby own_d12_31) (by decide) (by decide) ?_
          exact kt
        obtain ⟨fs, hr, hrun, hended, -, hW, hBk, hsame⟩ := X196.leaveW hS176 (by rw [eq195]; exact hk176) (v := some (.int (1 : Int32))) (fun h => by rw [Bd.returns] at h; cases h)
        refine ⟨_, _, S199 _ ?_, hrun, hended, _, _, rfl, ?_, (by show CHr Z own_EL s.vm s.heap T196.vm T196.heap; rw [hh, eq195]; exact CR178.trans (CHv.at X196 hZ176 hEL CR178.1)), ⟨_, rfl⟩, hW, hBk, hsame.mono (by decide) (by decide)⟩
        · show Steps p.tables e below (T196.setTop (mkF m 37 #[.val (.ref a), .val (.int (1 : Int32))] [(.int (1 : Int32))])) _
          exact own_retI X196 hx Bd.returns (hb hby own_d12_37) hr
        · show own_Q12 Z a cs rA tbA kA nA vA zA rB tbB kB nB vB zB h0 n0 _ T196.heap _
          rw [eq195]
          exact ⟨by first | (simp_all [own_sp, own_b]; done) | (simp_all [own_sp, own_b]; decide), N0, K194⟩
    · skip
      have S200 : ∀ t, Steps p.tables e below (s₁.setTop (mkF m 1 #[.val (.ref a), .unset] [(.ref a)])) t → Steps p.tables e below (s₁.setTop (entryFrame m #[(.ref a)] 2)) t := fun t kt => by
        refine pre0 t ?_
        show Steps p.tables e below (s₁.setTop (mkF m 0 #[.val (.ref a), .unset] [])) t
        refine XS.aloadN X0.here hx rfl (hb hby own_d12_0) rfl rfl ?_
        exact kt
      obtain ⟨T201, X201, e201, st201⟩ := getF X0 hx hZ hown (host := "") (Or.inl (hw _ (List.mem_of_getElem? (i := 53) rfl))) Via.refl e0 F_type (g := (mkF m 1 #[.val (.ref a), .unset] [(.ref a)])) rfl rfl (hb hby own_d12_1)
      have S202 : ∀ t, Steps p.tables e below (T201.setTop (mkF m 4 #[.val (.ref a), .unset] [(.ref rA)])) t → Steps p.tables e below (s₁.setTop (entryFrame m #[(.ref a)] 2)) t := fun t kt => S200 t (st201 _ kt)
      obtain ⟨lit203, T203, h203, k203, lby203, kb203, X203, e203, E203, hS203, hk203, hZ203, ho203, LE203, LC203, LV203, LA203, -, -, hC203, -, hNe203, st203⟩ := ldcCH (EL := own_EL) (z := (1 : Int32)) (vs := [(.int (42 : Int32))]) X201 hx hZ hown (hw _ (List.mem_of_getElem? (i := 67) rfl)) wS e201 hS0 (Nat.le_refl _) hEL (List.mem_of_getElem? (i := 0) rfl) CR0.1 ⟨by decide, by decide⟩ (by decide) (by decide) (g := (mkF m 4 #[.val (.ref a), .unset] [(.ref rA)])) rfl (hb hby own_d12_4) (n := 4) (by decide) (by decide) (by decide) (by decide)
      have S204 : ∀ t, Steps p.tables e below (T203.setTop (mkF m 6 #[.val (.ref a), .unset] [(.ref lit203), (.ref rA)])) t → Steps p.tables e below (s₁.setTop (entryFrame m #[(.ref a)] 2)) t := fun t kt => S202 t (st203 _ kt)
      have CR205 := CR0.trans hC203
      have F206 := S_CS.ext E203
      have F207 := F_type.ext E203
      have F208 := F_sub.ext E203
      have F209 := E_rA.ext E203
      have F210 := C_rA.ext E203
      have F211 := W_rA.ext E203
      have F212 := V_A.ext E203
      have F213 := E_rB.ext E203
      have F214 := C_rB.ext E203
      have F215 := W_rB.ext E203
      have F216 := V_B.ext E203
      have K217 : Keep h0 h203 [] := (Keep.refl h0 []).ext E203
      obtain ⟨cq219, kq219, q219a, q219b, q219c⟩ := isOf hZ203 e203 F209
      obtain ⟨_, _, ⟨T219, L219, k219, n219⟩, -, X219, ⟨Lc219, hQ219, l219, y219, z219⟩, st219⟩ := X203.virtualBack hx (y := (⟨"java/lang/String", "equals", "(Ljava/lang/Object;)Z"⟩ : MethodName)) (z := (⟨"java/lang/String", "equals", "(Ljava/lang/Object;)Z"⟩ : MethodName)) ho203 (mvT hZ203 (hw _ (List.mem_of_getElem? (i := 68) rfl))) (mvT hZ203 (hw _ (List.mem_of_getElem? (i := 69) rfl))) (notFace_of_selects (args := #[]) (mvT hZ203 (hw _ (List.mem_of_getElem? (i := 71) rfl)))) (mvT hZ203 (hw _ (List.mem_of_getElem? (i := 71) rfl))) (mvT hZ203 (hw _ (List.mem_of_getElem? (i := 70) rfl))) (by decide) (backOf (W := 0) (own_rm13n l Z a0 hw [] (rA) (lit203) (cs) (tbA) (lby203) (nA) (vA) (kA) (kb203) h203 n0 (Nat.le_trans Z0 K217.1) F206 hcs F209 F210 LE203 LC203 F211 LV203 F212 LA203 hLA) hZ203 (hw _ (List.mem_of_getElem? (i := 72) rfl)) (hw _ (List.mem_of_getElem? (i := 6) rfl)) (by decide) (by decide)) q219a q219c (g := (mkF m 6 #[.val (.ref a), .unset] [(.ref lit203), (.ref rA)])) rfl (by rw [hml]; rfl) (Steps.refl _) (argsL := [(.ref lit203)]) (rest := []) (lenOf own_pd12 rfl) rfl (by show 2 * 0 + _ ≤ _; exact Nat.le_of_eq rfl) (hb hby own_d12_6) (fun _ _ => ⟨rfl, e203, (by decide : 2 + 0 ≤ _), (by decide : 8 + 0 ≤ _)⟩)
      dsimp only [Pt.U, Pt.locs, Pt.cells, Pt.slots] at X219 l219 y219 z219 st219 hQ219
      subst l219 y219 z219
      obtain ⟨rfl, rfl, eq218⟩ := hQ219
      try rw [List.append_nil] at X219
      have S220 : ∀ t, Steps p.tables e below (T219.setTop (mkF m 9 #[.val (.ref a), .unset] [(.int (0 : Int32))])) t → Steps p.tables e below (s₁.setTop (entryFrame m #[(.ref a)] 2)) t := fun t kt => S204 t (st219.trans kt)
      have hc9_221 : (0 : Int32) = (0 : Int32) := by decide
      have S222 : ∀ t, Steps p.tables e below (T219.setTop (mkF m 19 #[.val (.ref a), .val (.int (1 : Int32))] [(.ref a)])) t → Steps p.tables e below (s₁.setTop (entryFrame m #[(.ref a)] 2)) t := fun t kt => by
        refine S220 t ?_
        show Steps p.tables e below (T219.setTop (mkF m 9 #[.val (.ref a), .unset] [(.int (0 : Int32))])) t
        refine XS.ifYes X219.here hx rfl (pc0 := 9) (pc' := 16) rfl (hb hby own_d12_9) rfl ((if0 _ _).trans (teq hc9_221).1) (by decide) (by decide) ?_
        show Steps p.tables e below (T219.setTop (mkF m 16 #[.val (.ref a), .unset] [])) t
        refine XS.iconst X219.here hx rfl (hb hby own_d12_16) ?_
        show Steps p.tables e below (T219.setTop (mkF m 17 #[.val (.ref a), .unset] [(.int (1 : Int32))])) t
        refine XS.istoreN X219.here hx rfl (hb hby own_d12_17) rfl (l' := #[.val (.ref a), .val (.int (1 : Int32))]) rfl ?_
        show Steps p.tables e below (T219.setTop (mkF m 18 #[.val (.ref a), .val (.int (1 : Int32))] [])) t
        refine XS.aloadN X219.here hx rfl (hb hby own_d12_18) rfl rfl ?_
        exact kt
      obtain ⟨T223, X223, e223, st223⟩ := getF X219 hx hZ203 ho203 (host := "") (Or.inl (hw _ (List.mem_of_getElem? (i := 55) rfl))) Via.refl eq218 F208 (g := (mkF m 19 #[.val (.ref a), .val (.int (1 : Int32))] [(.ref a)])) rfl rfl (hb hby own_d12_19)
      have S224 : ∀ t, Steps p.tables e below (T223.setTop (mkF m 22 #[.val (.ref a), .val (.int (1 : Int32))] [(.ref rB)])) t → Steps p.tables e below (s₁.setTop (entryFrame m #[(.ref a)] 2)) t := fun t kt => S222 t (st223 _ kt)
      obtain ⟨lit225, T225, h225, k225, lby225, kb225, X225, e225, E225, hS225, hk225, hZ225, ho225, LE225, LC225, LV225, LA225, -, -, hC225, -, hNe225, st225⟩ := ldcCH (EL := own_EL) (z := (1 : Int32)) (vs := [(.int (42 : Int32))]) X223 hx hZ203 ho203 (hw _ (List.mem_of_getElem? (i := 67) rfl)) wS e223 hS203 hk203 hEL (List.mem_of_getElem? (i := 0) rfl) CR205.1 ⟨by decide, by decide⟩ (by decide) (by decide) (g := (mkF m 22 #[.val (.ref a), .val (.int (1 : Int32))] [(.ref rB)])) rfl (hb hby own_d12_22) (n := 4) (by decide) (by decide) (by decide) (by decide)
      have S226 : ∀ t, Steps p.tables e below (T225.setTop (mkF m 24 #[.val (.ref a), .val (.int (1 : Int32))] [(.ref lit225), (.ref rB)])) t → Steps p.tables e below (s₁.setTop (entryFrame m #[(.ref a)] 2)) t := fun t kt => S224 t (st225 _ kt)
      have CR227 := CR205.trans hC225
      have F228 := F206.ext E225
      have F229 := F207.ext E225
      have F230 := F208.ext E225
      have F231 := F209.ext E225
      have F232 := F210.ext E225
      have F233 := F211.ext E225
      have F234 := F212.ext E225
      have F235 := F213.ext E225
      have F236 := F214.ext E225
      have F237 := F215.ext E225
      have F238 := F216.ext E225
      have F239 := LE203.ext E225
      have F240 := LC203.ext E225
      have F241 := LV203.ext E225
      have F242 := LA203.ext E225
      have K243 : Keep h0 h225 [] := K217.ext E225
      obtain ⟨cq245, kq245, q245a, q245b, q245c⟩ := isOf hZ225 e225 F235
      obtain ⟨_, _, ⟨T245, L245, k245, n245⟩, -, X245, ⟨Lc245, hQ245, l245, y245, z245⟩, st245⟩ := X225.virtualBack hx (y := (⟨"java/lang/String", "equals", "(Ljava/lang/Object;)Z"⟩ : MethodName)) (z := (⟨"java/lang/String", "equals", "(Ljava/lang/Object;)Z"⟩ : MethodName)) ho225 (mvT hZ225 (hw _ (List.mem_of_getElem? (i := 68) rfl))) (mvT hZ225 (hw _ (List.mem_of_getElem? (i := 69) rfl))) (notFace_of_selects (args := #[]) (mvT hZ225 (hw _ (List.mem_of_getElem? (i := 71) rfl)))) (mvT hZ225 (hw _ (List.mem_of_getElem? (i := 71) rfl))) (mvT hZ225 (hw _ (List.mem_of_getElem? (i := 70) rfl))) (by decide) (backOf (W := 0) (own_rm13n l Z a0 hw [] (rB) (lit225) (cs) (tbB) (lby225) (nB) (vB) (kB) (kb225) h225 n0 (Nat.le_trans Z0 K243.1) F228 hcs F235 F236 LE225 LC225 F237 LV225 F238 LA225 hLB) hZ225 (hw _ (List.mem_of_getElem? (i := 72) rfl)) (hw _ (List.mem_of_getElem? (i := 6) rfl)) (by decide) (by decide)) q245a q245c (g := (mkF m 24 #[.val (.ref a), .val (.int (1 : Int32))] [(.ref lit225), (.ref rB)])) rfl (by rw [hml]; rfl) (Steps.refl _) (argsL := [(.ref lit225)]) (rest := []) (lenOf own_pd12 rfl) rfl (by show 2 * 0 + _ ≤ _; exact Nat.le_of_eq rfl) (hb hby own_d12_24) (fun _ _ => ⟨rfl, e225, (by decide : 4 + 0 ≤ _), (by decide : 16 + 0 ≤ _)⟩)
      dsimp only [Pt.U, Pt.locs, Pt.cells, Pt.slots] at X245 l245 y245 z245 st245 hQ245
      subst l245 y245 z245
      obtain ⟨rfl, rfl, eq244⟩ := hQ245
      try rw [List.append_nil] at X245
      have S246 : ∀ t, Steps p.tables e below (T245.setTop (mkF m 27 #[.val (.ref a), .val (.int (1 : Int32))] [(.int (0 : Int32))])) t → Steps p.tables e below (s₁.setTop (entryFrame m #[(.ref a)] 2)) t := fun t kt => S226 t (st245.trans kt)
      have hc27_247 : (0 : Int32) = (0 : Int32) := by decide
      have S248 : ∀ t, Steps p.tables e below (T245.setTop (mkF m 37 #[.val (.ref a), .val (.int (1 : Int32))] [(.int (2 : Int32))])) t → Steps p.tables e below (s₁.setTop (entryFrame m #[(.ref a)] 2)) t := fun t kt => by
        refine S246 t ?_
        show Steps p.tables e below (T245.setTop (mkF m 27 #[.val (.ref a), .val (.int (1 : Int32))] [(.int (0 : Int32))])) t
        refine XS.ifYes X245.here hx rfl (pc0 := 27) (pc' := 34) rfl (hb hby own_d12_27) rfl ((if0 _ _).trans (teq hc27_247).1) (by decide) (by decide) ?_
        show Steps p.tables e below (T245.setTop (mkF m 34 #[.val (.ref a), .val (.int (1 : Int32))] [])) t
        refine XS.iloadN X245.here hx rfl (hb hby own_d12_34) rfl ?_
        show Steps p.tables e below (T245.setTop (mkF m 35 #[.val (.ref a), .val (.int (1 : Int32))] [(.int (1 : Int32))])) t
        refine XS.iconst X245.here hx rfl (hb hby own_d12_35) ?_
        show Steps p.tables e below (T245.setTop (mkF m 36 #[.val (.ref a), .val (.int (1 : Int32))] [(.int (1 : Int32)), (.int (1 : Int32))])) t
        refine XS.iadd X245.here hx rfl (hb hby own_d12_36) rfl ?_
        exact kt
      obtain ⟨fs, hr, hrun, hended, -, hW, hBk, hsame⟩ := X245.leaveW hS225 (by rw [eq244]; exact hk225) (v := some (.int (2 : Int32))) (fun h => by rw [Bd.returns] at h; cases h)
      refine ⟨_, _, S248 _ ?_, hrun, hended, _, _, rfl, ?_, (by show CHr Z own_EL s.vm s.heap T245.vm T245.heap; rw [hh, eq244]; exact CR227.trans (CHv.at X245 hZ225 hEL CR227.1)), ⟨_, rfl⟩, hW, hBk, hsame.mono (by decide) (by decide)⟩
      · show Steps p.tables e below (T245.setTop (mkF m 37 #[.val (.ref a), .val (.int (1 : Int32))] [(.int (2 : Int32))])) _
        exact own_retI X245 hx Bd.returns (hb hby own_d12_37) hr
      · show own_Q12 Z a cs rA tbA kA nA vA zA rB tbB kB nB vB zB h0 n0 _ T245.heap _
        rw [eq244]
        exact ⟨by first | (simp_all [own_sp, own_b]; done) | (simp_all [own_sp, own_b]; decide), N0, K243⟩
theorem own_pd13 : parseMethodDescriptor "(I)Ljava/lang/String;" = some ⟨[.int], some (.object "java/lang/String")⟩ := by decide +kernel
theorem own_pd14 : parseMethodDescriptor "(Ljava/lang/String;Ljava/lang/String;Ljava/util/Map;)V" = some ⟨[(.object "java/lang/String"), (.object "java/lang/String"), (.object "java/util/Map")], none⟩ := by decide +kernel
theorem own_pd15 : parseMethodDescriptor "(I)Z" = some ⟨[.int], some .boolean⟩ := by decide +kernel
theorem own_pd16 : parseMethodDescriptor "()I" = some ⟨[], some .int⟩ := by decide +kernel
theorem own_ef0 (m : MethodId) (x0 : Int32) (x1 : Int32) : entryFrame m #[(.int x0), (.int x1)] maxLocals = mkF m 0 #[.val (.int x0), .val (.int x1), .unset, .unset, .unset, .unset] [] := by first | (simp [entryFrame, mkF, argsToLocals, Value.category, maxLocals]; done) | rfl
def own_Q0 (Z : State) (t_ : Int32) (s_ : Int32) (cs : Int32) (h0 : Heap) (n0 : Nat) (v : Option Value) (h : Heap) (L : List Loc) : Prop := v = some (.int (1 : Int32)) ∧ Fr n0 L
set_option maxHeartbeats 40000000 in
theorem own_rm0 (l : Launch) (Z : State) (a0 : Array Value) (hw : ∀ d ∈ tables_1, d.before a0 Z = true) (ws : List Jvm.Cond) (t_ : Int32) (s_ : Int32) (cs : Int32) (h0 : Heap) (n0 : Nat) (Z0 : n0 ≤ h0.size) (S_CS : Sta Z h0 "java/lang/String" "COMPACT_STRINGS" "Z" (.int cs)) (hcs : ¬ cs = (0 : Int32)) :
    MetFree l x (head1 (Jvm.Cond.code x code maxLocals ret :: ws) room_1) (fun argv U => argv = #[(.int t_), (.int s_)] ∧ Z.Warmed39 U.vm ∧ U.heap = h0 ∧ CHv Z own_EL U.vm h0) (fun _ _ _ _ _ => True) (fun _ U o U' => ∃ v L, o = .returned v ∧ own_Q0 Z t_ s_ cs h0 n0 v U'.heap L ∧ CHr Z own_EL U.vm U.heap U'.vm U'.heap ∧ ReturnedEndW U o U' L room_1.cells room_1.slots) := by
  refine MetFree.of_bodySF (plainFor_of_name own_pn1) hisR ?_
  intro p e s m args below meth c s₁ Bd hml0 hP hK
  obtain ⟨rfl, hZ, hh, hC0⟩ := hP
  have hx := Bd.exec
  have hby := Bd.bytes
  have hml : c.maxLocals = 6 := hml0
  have hown : s.vm.findClass "com/example/splode/splode/document/MediaRangeSpecificityPinLaw" = some m.cls := findClass_of_methodNamed Bd.named
  have hnm := (name_of_methodNamed Bd.named Bd.method).1
  have X0 : Stand p l e room_1 (s.setVm s.vm) m #[(.int t_), (.int s_)] below meth c s₁ [] 0 0 := Stand.of_body Bd
  have e0 : s₁.heap = h0 := by rw [← hh, Bd.state]; rfl
  have N0 := Fr.nil n0
  have pre0 : ∀ t, Steps p.tables e below (s₁.setTop (mkF m 0 #[.val (.int t_), .val (.int s_), .unset, .unset, .unset, .unset] [])) t → Steps p.tables e below (s₁.setTop (entryFrame m #[(.int t_), (.int s_)] maxLocals)) t := fun t k => castTop (own_ef0 m t_ s_) k
  have CR0 : CHr Z own_EL s.vm h0 s.vm h0 := CHr.refl hC0
  have hEL := own_EW hw
  have hS0 : s.Since s.vm h0.size := (State.WarmedH.refl s).since _
  have wS := own_wS hw
  have S3 : ∀ t, Steps p.tables e below (s₁.setTop (mkF m 1 #[.val (.int t_), .val (.int s_), .unset, .unset, .unset, .unset] [(.int t_)])) t → Steps p.tables e below (s₁.setTop (entryFrame m #[(.int t_), (.int s_)] maxLocals)) t := fun t kt => by
    refine pre0 t ?_
    show Steps p.tables e below (s₁.setTop (mkF m 0 #[.val (.int t_), .val (.int s_), .unset, .unset, .unset, .unset] [])) t
    refine XS.iloadN X0.here hx rfl (hb hby at_0) rfl ?_
    exact kt
  obtain ⟨_, _, ⟨T4, L4, k4, n4⟩, -, X4_, hSr4, hgr4, ⟨Lc4, hQ4, l4, y4, z4, hCr4⟩, st4⟩ := callSS X0 hx (y := (⟨"com/example/splode/splode/document/MediaRangeSpecificityPinLaw", "str", "(I)Ljava/lang/String;"⟩ : MethodName)) hown (mvT hZ (hw _ (List.mem_of_getElem? (i := 0) rfl))) (mvT hZ (hw _ (List.mem_of_getElem? (i := 1) rfl))) (mvT hZ (hw _ (List.mem_of_getElem? (i := 2) rfl))) (mvT hZ (hw _ (List.mem_of_getElem? (i := 3) rfl))) (by decide) (backOfSH (EL := own_EL) (s := s) (vm0 := s.vm) (W := 0) (own_rm1 l Z a0 hw [] (t_) (cs) h0 n0 Z0 S_CS hcs) hZ (hw _ (List.mem_of_getElem? (i := 3) rfl)) (hw _ (List.mem_of_getElem? (i := 2) rfl)) (by decide) (by decide) hEL CR0.1) (g := (mkF m 1 #[.val (.int t_), .val (.int s_), .unset, .unset, .unset, .unset] [(.int t_)])) rfl (by rw [hml]; rfl) (argsL := [(.int t_)]) (rest := []) (lenOf own_pd13 rfl) rfl (by show 2 * 0 + _ ≤ _; exact Nat.le_of_eq rfl) (hb hby at_1) (fun _ _ => ⟨rfl, e0, (by decide : 0 + 6 ≤ _), (by decide : 0 + 12 ≤ _)⟩)
  dsimp only [Pt.U, Pt.locs, Pt.cells, Pt.slots] at X4_ hSr4 hgr4 l4 y4 z4 hCr4 st4 hQ4
  subst l4 y4 z4
  obtain ⟨X4, hS4, hZ4, ho4⟩ := rebS hS0 (by rw [e0]; exact (Nat.le_refl _)) X4_ hSr4 hgr4 hZ hown
  obtain ⟨r1, tb1, kt1, rfl, Nq4, Kc1, Ec1, Cc1, Fv1, Va1⟩ := hQ4
  have N5 := Fr.app N0 Nq4
  have S6 : ∀ t, Steps p.tables e below (T4.setTop (mkF m 4 #[.val (.int t_), .val (.int s_), .unset, .unset, .unset, .unset] [(.ref r1)])) t → Steps p.tables e below (s₁.setTop (entryFrame m #[(.int t_), (.int s_)] maxLocals)) t := fun t kt => S3 t (st4.trans kt)
  have CR7 := CR0.trans hCr4
  have F8 := own_StaK S_CS Kc1 all0
  have K9 : Keep h0 T4.heap [] := (Keep.refl h0 []).trans Kc1 all0
  have S12 : ∀ t, Steps p.tables e below (T4.setTop (mkF m 6 #[.val (.int t_), .val (.int s_), .val (.ref r1), .unset, .unset, .unset] [(.int s_)])) t → Steps p.tables e below (s₁.setTop (entryFrame m #[(.int t_), (.int s_)] maxLocals)) t := fun t kt => by
    refine S6 t ?_
    show Steps p.tables e below (T4.setTop (mkF m 4 #[.val (.int t_), .val (.int s_), .unset, .unset, .unset, .unset] [(.ref r1)])) t
    refine XS.astoreN X4.here hx rfl (hb hby at_4) rfl rfl (l' := #[.val (.int t_), .val (.int s_), .val (.ref r1), .unset, .unset, .unset]) rfl ?_
    show Steps p.tables e below (T4.setTop (mkF m 5 #[.val (.int t_), .val (.int s_), .val (.ref r1), .unset, .unset, .unset] [])) t
    refine XS.iloadN X4.here hx rfl (hb hby at_5) rfl ?_
    exact kt
  obtain ⟨_, _, ⟨T13, L13, k13, n13⟩, -, X13_, hSr13, hgr13, ⟨Lc13, hQ13, l13, y13, z13, hCr13⟩, st13⟩ := callSS X4 hx (y := (⟨"com/example/splode/splode/document/MediaRangeSpecificityPinLaw", "str", "(I)Ljava/lang/String;"⟩ : MethodName)) ho4 (mvT hZ4 (hw _ (List.mem_of_getElem? (i := 0) rfl))) (mvT hZ4 (hw _ (List.mem_of_getElem? (i := 1) rfl))) (mvT hZ4 (hw _ (List.mem_of_getElem? (i := 2) rfl))) (mvT hZ4 (hw _ (List.mem_of_getElem? (i := 3) rfl))) (by decide) (backOfSH (EL := own_EL) (s := s) (vm0 := T4.vm) (W := 0) (own_rm1 l Z a0 hw [] (s_) (cs) T4.heap n0 (Nat.le_trans Z0 K9.1) F8 hcs) hZ4 (hw _ (List.mem_of_getElem? (i := 3) rfl)) (hw _ (List.mem_of_getElem? (i := 2) rfl)) (by decide) (by decide) hEL CR7.1) (g := (mkF m 6 #[.val (.int t_), .val (.int s_), .val (.ref r1), .unset, .unset, .unset] [(.int s_)])) rfl (by rw [hml]; rfl) (argsL := [(.int s_)]) (rest := []) (lenOf own_pd13 rfl) rfl (by show 2 * 0 + _ ≤ _; exact Nat.le_of_eq rfl) (hb hby at_6) (fun _ _ => ⟨rfl, rfl, (by decide : 6 + 6 ≤ _), (by decide : 12 + 12 ≤ _)⟩)
  dsimp only [Pt.U, Pt.locs, Pt.cells, Pt.slots] at X13_ hSr13 hgr13 l13 y13 z13 hCr13 st13 hQ13
  subst l13 y13 z13
  obtain ⟨X13, hS13, hZ13, ho13⟩ := rebS hS4 ((Nat.le_refl _)) X13_ hSr13 hgr13 hZ4 ho4
  obtain ⟨r10, tb10, kt10, rfl, Nq13, Kc10, Ec10, Cc10, Fv10, Va10⟩ := hQ13
  have N14 := Fr.app N5 Nq13
  have S15 : ∀ t, Steps p.tables e below (T13.setTop (mkF m 9 #[.val (.int t_), .val (.int s_), .val (.ref r1), .unset, .unset, .unset] [(.ref r10)])) t → Steps p.tables e below (s₁.setTop (entryFrame m #[(.int t_), (.int s_)] maxLocals)) t := fun t kt => S12 t (st13.trans kt)
  have CR16 := CR7.trans hCr13
  have F17 := own_StaK F8 Kc10 all0
  have F18 := Ec1.keep Kc10
  have F19 := Cc1.keep Kc10 nin0
  have F20 := Fv1.keep Kc10 nin0
  have F21 := Va1.keep Kc10 nin0
  have K22 : Keep h0 T13.heap [] := K9.trans Kc10 all0
  have S23 : ∀ t, Steps p.tables e below (T13.setTop (mkF m 10 #[.val (.int t_), .val (.int s_), .val (.ref r1), .val (.ref r10), .unset, .unset] [])) t → Steps p.tables e below (s₁.setTop (entryFrame m #[(.int t_), (.int s_)] maxLocals)) t := fun t kt => by
    refine S15 t ?_
    show Steps p.tables e below (T13.setTop (mkF m 9 #[.val (.int t_), .val (.int s_), .val (.ref r1), .unset, .unset, .unset] [(.ref r10)])) t
    refine XS.astoreN X13.here hx rfl (hb hby at_9) rfl rfl (l' := #[.val (.int t_), .val (.int s_), .val (.ref r1), .val (.ref r10), .unset, .unset]) rfl ?_
    exact kt
  obtain ⟨T24, h24, X24, e24, E24, A24, D24, -, st24⟩ := newO X13 hx hZ13 ho13 (hw _ (List.mem_of_getElem? (i := 41) rfl)) (hw _ (List.mem_of_getElem? (i := 42) rfl)) (hw _ (List.mem_of_getElem? (i := 43) rfl)) rfl (g := (mkF m 10 #[.val (.int t_), .val (.int s_), .val (.ref r1), .val (.ref r10), .unset, .unset] [])) rfl (hb hby at_10) (by decide) (by decide)
  obtain ⟨b24, g24⟩ : ∃ z, z = T13.heap.size := ⟨_, rfl⟩
  rw [← g24] at A24 D24 st24
  have S25 : ∀ t, Steps p.tables e below (T24.setTop (mkF m 13 #[.val (.int t_), .val (.int s_), .val (.ref r1), .val (.ref r10), .unset, .unset] [(.ref b24)])) t → Steps p.tables e below (s₁.setTop (entryFrame m #[(.int t_), (.int s_)] maxLocals)) t := fun t kt => S23 t (st24 _ kt)
  have Sf_b24 : Safe Z own_EL T13.vm h24 b24 := Safe.ext E24 CR16.1 (Safe.new (Nat.le_of_eq g24.symm))
  have CR26 := CR16.trans (CHr.ext E24 CR16.1)
  have g_b24 : n0 ≤ b24 := Nat.le_trans (Nat.le_trans Z0 K22.1) (Nat.le_of_eq g24.symm)
  have sz_b24 : h0.size ≤ b24 := Nat.le_trans K22.1 (Nat.le_of_eq g24.symm)
  have ne_r1_b24 : r1 ≠ b24 := Nat.ne_of_lt (Nat.lt_of_lt_of_le F18.lt (Nat.le_of_eq g24.symm))
  have ne_tb1_b24 : tb1 ≠ b24 := Nat.ne_of_lt (Nat.lt_of_lt_of_le F21.lt (Nat.le_of_eq g24.symm))
  have ne_r10_b24 : r10 ≠ b24 := Nat.ne_of_lt (Nat.lt_of_lt_of_le Ec10.lt (Nat.le_of_eq g24.symm))
  have ne_tb10_b24 : tb10 ≠ b24 := Nat.ne_of_lt (Nat.lt_of_lt_of_le Va10.lt (Nat.le_of_eq g24.symm))
  have F27 := F17.ext E24
  have F28 := F18.ext E24
  have F29 := F19.ext E24
  have F30 := F20.ext E24
  have F31 := F21.ext E24
  have F32 := Ec10.ext E24
  have F33 := Cc10.ext E24
  have F34 := Fv10.ext E24
  have F35 := Va10.ext E24
  have K36 : Keep h0 h24 [] := K22.ext E24
  have F37 : Fld Z h24 b24 "com/example/splode/splode/document/MediaRange" "type" "Ljava/lang/String;" .null := D24 (Or.inr (hw _ (List.mem_of_getElem? (i := 54) rfl))) (ty := (.object "java/lang/String")) (by decide)
  have F38 : Fld Z h24 b24 "com/example/splode/splode/document/MediaRange" "subtype" "Ljava/lang/String;" .null := D24 (Or.inr (hw _ (List.mem_of_getElem? (i := 56) rfl))) (ty := (.object "java/lang/String")) (by decide)
  have F39 : Fld Z h24 b24 "com/example/splode/splode/document/MediaRange" "parameters" "Ljava/util/Map;" .null := D24 (Or.inr (hw _ (List.mem_of_getElem? (i := 58) rfl))) (ty := (.object "java/util/Map")) (by decide)
  have S42 : ∀ t, Steps p.tables e below (T24.setTop (mkF m 17 #[.val (.int t_), .val (.int s_), .val (.ref r1), .val (.ref r10), .unset, .unset] [.null, (.ref r10), (.ref r1), (.ref b24), (.ref b24)])) t → Steps p.tables e below (s₁.setTop (entryFrame m #[(.int t_), (.int s_)] maxLocals)) t := fun t kt => by
    refine S25 t ?_
    show Steps p.tables e below (T24.setTop (mkF m 13 #[.val (.int t_), .val (.int s_), .val (.ref r1), .val (.ref r10), .unset, .unset] [(.ref b24)])) t
    refine XS.dup X24.here hx rfl (hb hby at_13) rfl rfl ?_
    show Steps p.tables e below (T24.setTop (mkF m 14 #[.val (.int t_), .val (.int s_), .val (.ref r1), .val (.ref r10), .unset, .unset] [(.ref b24), (.ref b24)])) t
    refine XS.aloadN X24.here hx rfl (hb hby at_14) rfl rfl ?_
    show Steps p.tables e below (T24.setTop (mkF m 15 #[.val (.int t_), .val (.int s_), .val (.ref r1), .val (.ref r10), .unset, .unset] [(.ref r1), (.ref b24), (.ref b24)])) t
    refine XS.aloadN X24.here hx rfl (hb hby at_15) rfl rfl ?_
    show Steps p.tables e below (T24.setTop (mkF m 16 #[.val (.int t_), .val (.int s_), .val (.ref r1), .val (.ref r10), .unset, .unset] [(.ref r10), (.ref r1), (.ref b24), (.ref b24)])) t
    refine XS.aconstNull X24.here hx rfl (hb hby at_16) ?_
    exact kt
  obtain ⟨_, _, ⟨T43, L43, k43, n43⟩, -, X43, ⟨Lc43, hQ43, l43, y43, z43⟩, st43⟩ := X24.specialBack hx (y := (⟨"com/example/splode/splode/document/MediaRange", "<init>", "(Ljava/lang/String;Ljava/lang/String;Ljava/util/Map;)V"⟩ : MethodName)) rfl ho13 (mvT hZ13 (hw _ (List.mem_of_getElem? (i := 44) rfl))) (mvT hZ13 (hw _ (List.mem_of_getElem? (i := 45) rfl))) (mvT hZ13 (hw _ (List.mem_of_getElem? (i := 46) rfl))) (by decide) (backOf (W := 1) (own_rm9 l Z a0 hw [] (b24) (r1) (r10) (.null) (.null) (.null) h24 n0 (Nat.le_trans Z0 K36.1) A24 g_b24 F37 F38 F39) hZ13 (hw _ (List.mem_of_getElem? (i := 46) rfl)) (hw _ (List.mem_of_getElem? (i := 43) rfl)) (by decide) (by decide)) (g := (mkF m 17 #[.val (.int t_), .val (.int s_), .val (.ref r1), .val (.ref r10), .unset, .unset] [.null, (.ref r10), (.ref r1), (.ref b24), (.ref b24)])) rfl (by rw [hml]; rfl) (Steps.refl _) (a := b24) (argsL := [(.ref r1), (.ref r10), .null]) (rest := [(.ref b24)]) (lenOf own_pd14 rfl) rfl (by show 2 * 0 + _ ≤ _; exact Nat.le_of_eq rfl) (hb hby at_17) (fun _ _ => ⟨rfl, e24, (by decide : 13 + 0 ≤ _), (by decide : 27 + 0 ≤ _)⟩)
  dsimp only [Pt.U, Pt.locs, Pt.cells, Pt.slots] at X43 l43 y43 z43 st43 hQ43
  subst l43 y43 z43
  obtain ⟨rfl, Nq43, Kc40, Ec40, Fc40_type, Fc40_subtype, Fc40_parameters⟩ := hQ43
  have N44 := Fr.app N14 Nq43
  have S45 : ∀ t, Steps p.tables e below (T43.setTop (mkF m 20 #[.val (.int t_), .val (.int s_), .val (.ref r1), .val (.ref r10), .unset, .unset] [(.ref b24)])) t → Steps p.tables e below (s₁.setTop (entryFrame m #[(.int t_), (.int s_)] maxLocals)) t := fun t kt => S42 t (st43.trans kt)
  have Sf46 := Safe.keep Kc40 (allS Sf_b24 all0) CR26.1 Sf_b24
  have CR47 := CR26.trans (CHr.keep Kc40 (allS Sf_b24 all0) CR26.1)
  have F48 := own_StaK F27 Kc40 (allS (own_ExaS A24) all0)
  have F49 := F28.keep Kc40
  have F50 := F29.keep Kc40 (ninS ne_r1_b24 nin0)
  have F51 := F30.keep Kc40 (ninS ne_r1_b24 nin0)
  have F52 := F31.keep Kc40 (ninS ne_tb1_b24 nin0)
  have F53 := F32.keep Kc40
  have F54 := F33.keep Kc40 (ninS ne_r10_b24 nin0)
  have F55 := F34.keep Kc40 (ninS ne_r10_b24 nin0)
  have F56 := F35.keep Kc40 (ninS ne_tb10_b24 nin0)
  have F57 := A24.keep Kc40
  have K58 : Keep h0 T43.heap [] := K36.trans Kc40 (allS (Or.inr sz_b24) all0)
  have S59 : ∀ t, Steps p.tables e below (T43.setTop (mkF m 22 #[.val (.int t_), .val (.int s_), .val (.ref r1), .val (.ref r10), .val (.ref b24), .unset] [])) t → Steps p.tables e below (s₁.setTop (entryFrame m #[(.int t_), (.int s_)] maxLocals)) t := fun t kt => by
    refine S45 t ?_
    show Steps p.tables e below (T43.setTop (mkF m 20 #[.val (.int t_), .val (.int s_), .val (.ref r1), .val (.ref r10), .unset, .unset] [(.ref b24)])) t
    refine XS.astore X43.here hx rfl (hb hby at_20) rfl rfl (l' := #[.val (.int t_), .val (.int s_), .val (.ref r1), .val (.ref r10), .val (.ref b24), .unset]) rfl ?_
    exact kt
  obtain ⟨T60, e1, X60, e60, hr22, S60⟩ : ∃ (T' : State) (e1 : Int32), own_like X43 T' ∧ T'.heap = T43.heap ∧ (e1 = own_b (!own_star t_)) ∧ (∀ t, Steps p.tables e below (T'.setTop (mkF m 34 #[.val (.int t_), .val (.int s_), .val (.ref r1), .val (.ref r10), .val (.ref b24), .unset] [(.int e1)])) t → Steps p.tables e below (s₁.setTop (entryFrame m #[(.int t_), (.int s_)] maxLocals)) t) := by
    have S62 : ∀ t, Steps p.tables e below (T43.setTop (mkF m 23 #[.val (.int t_), .val (.int s_), .val (.ref r1), .val (.ref r10), .val (.ref b24), .unset] [(.int t_)])) t → Steps p.tables e below (s₁.setTop (entryFrame m #[(.int t_), (.int s_)] maxLocals)) t := fun t kt => by
      refine S59 t ?_
      show Steps p.tables e below (T43.setTop (mkF m 22 #[.val (.int t_), .val (.int s_), .val (.ref r1), .val (.ref r10), .val (.ref b24), .unset] [])) t
      refine XS.iloadN X43.here hx rfl (hb hby at_22) rfl ?_
      exact kt
    obtain ⟨_, _, ⟨T63, L63, k63, n63⟩, -, X63, ⟨Lc63, hQ63, l63, y63, z63⟩, st63⟩ := Jvm.LawKit.callS X43 hx (y := (⟨"com/example/splode/splode/document/MediaRangeSpecificityPinLaw", "isStar", "(I)Z"⟩ : MethodName)) ho13 (mvT hZ13 (hw _ (List.mem_of_getElem? (i := 59) rfl))) (mvT hZ13 (hw _ (List.mem_of_getElem? (i := 60) rfl))) (mvT hZ13 (hw _ (List.mem_of_getElem? (i := 2) rfl))) (mvT hZ13 (hw _ (List.mem_of_getElem? (i := 61) rfl))) (by decide) (backOf (W := 0) (own_rm11 l Z a0 hw [] (t_) T43.heap n0 (Nat.le_trans Z0 K58.1)) hZ13 (hw _ (List.mem_of_getElem? (i := 61) rfl)) (hw _ (List.mem_of_getElem? (i := 2) rfl)) (by decide) (by decide)) (g := (mkF m 23 #[.val (.int t_), .val (.int s_), .val (.ref r1), .val (.ref r10), .val (.ref b24), .unset] [(.int t_)])) rfl (by rw [hml]; rfl) (argsL := [(.int t_)]) (rest := []) (lenOf own_pd15 rfl) rfl (by show 2 * 0 + _ ≤ _; exact Nat.le_of_eq rfl) (hb hby at_23) (fun _ _ => ⟨rfl, rfl, (by decide : 13 + 0 ≤ _), (by decide : 27 + 0 ≤ _)⟩)
    dsimp only [Pt.U, Pt.locs, Pt.cells, Pt.slots] at X63 l63 y63 z63 st63 hQ63
    subst l63 y63 z63
    obtain ⟨rfl, rfl, eq61⟩ := hQ63
    try rw [List.append_nil] at X63
    have S64 : ∀ t, Steps p.tables e below (T63.setTop (mkF m 26 #[.val (.int t_), .val (.int s_), .val (.ref r1), .val (.ref r10), .val (.ref b24), .unset] [(.int (own_b (own_star t_)))])) t → Steps p.tables e below (s₁.setTop (entryFrame m #[(.int t_), (.int s_)] maxLocals)) t := fun t kt => S62 t (st63 _ kt)
    by_cases hc26 : (own_b (own_star t_)) = (0 : Int32)
    · skip
      have S65 : ∀ t, Steps p.tables e below (T63.setTop (mkF m 34 #[.val (.int t_), .val (.int s_), .val (.ref r1), .val (.ref r10), .val (.ref b24), .unset] [(.int (1 : Int32))])) t → Steps p.tables e below (s₁.setTop (entryFrame m #[(.int t_), (.int s_)] maxLocals)) t := fun t kt => by
        refine S64 t ?_
        show Steps p.tables e below (T63.setTop (mkF m 26 #[.val (.int t_), .val (.int s_), .val (.ref r1), .val (.ref r10), .val (.ref b24), .unset] [(.int (own_b (own_star t_)))])) t
        refine XS.ifYes X63.here hx rfl (pc0 := 26) (pc' := 33) rfl (hb hby at_26) rfl ((if0 _ _).trans (teq hc26).1) (by decide) (by decide) ?_
        show Steps p.tables e below (T63.setTop (mkF m 33 #[.val (.int t_), .val (.int s_), .val (.ref r1), .val (.ref r10), .val (.ref b24), .unset] [])) t
        refine XS.iconst X63.here hx rfl (hb hby at_33) ?_
        exact kt
      exact ⟨T63, ((1 : Int32)), X63, (eq61.trans rfl), (by cases hs : own_star t_ <;> simp_all [own_b]), S65⟩
    · skip
      have S66 : ∀ t, Steps p.tables e below (T63.setTop (mkF m 34 #[.val (.int t_), .val (.int s_), .val (.ref r1), .val (.ref r10), .val (.ref b24), .unset] [(.int (0 : Int32))])) t → Steps p.tables e below (s₁.setTop (entryFrame m #[(.int t_), (.int s_)] maxLocals)) t := fun t kt => by
        refine S64 t ?_
        show Steps p.tables e below (T63.setTop (mkF m 26 #[.val (.int t_), .val (.int s_), .val (.ref r1), .val (.ref r10), .val (.ref b24), .unset] [(.int (own_b (own_star t_)))])) t
        refine XS.ifNo X63.here hx rfl (hb hby at_26) rfl ((if0 _ _).trans (feq hc26).1) ?_
        show Steps p.tables e below (T63.setTop (mkF m 29 #[.val (.int t_), .val (.int s_), .val (.ref r1), .val (.ref r10), .val (.ref b24), .unset] [])) t
        refine XS.iconst X63.here hx rfl (hb hby at_29) ?_
        show Steps p.tables e below (T63.setTop (mkF m 30 #[.val (.int t_), .val (.int s_), .val (.ref r1), .val (.ref r10), .val (.ref b24), .unset] [(.int (0 : Int32))])) t
        refine XS.goto X63.here hx rfl (pc0 := 30) (pc' := 34) rfl (hb hby at_30) (by decide) (by decide) ?_
        exact kt
      exact ⟨T63, ((0 : Int32)), X63, (eq61.trans rfl), (by cases hs : own_star t_ <;> simp_all [own_b]), S66⟩
  obtain ⟨T67, e2, X67, e67, hr34, S67⟩ : ∃ (T' : State) (e2 : Int32), own_like X60 T' ∧ T'.heap = T43.heap ∧ (e2 = own_b (!own_star s_)) ∧ (∀ t, Steps p.tables e below (T'.setTop (mkF m 46 #[.val (.int t_), .val (.int s_), .val (.ref r1), .val (.ref r10), .val (.ref b24), .unset] [(.int e2), (.int e1)])) t → Steps p.tables e below (s₁.setTop (entryFrame m #[(.int t_), (.int s_)] maxLocals)) t) := by
    have S69 : ∀ t, Steps p.tables e below (T60.setTop (mkF m 35 #[.val (.int t_), .val (.int s_), .val (.ref r1), .val (.ref r10), .val (.ref b24), .unset] [(.int s_), (.int e1)])) t → Steps p.tables e below (s₁.setTop (entryFrame m #[(.int t_), (.int s_)] maxLocals)) t := fun t kt => by
      refine S60 t ?_
      show Steps p.tables e below (T60.setTop (mkF m 34 #[.val (.int t_), .val (.int s_), .val (.ref r1), .val (.ref r10), .val (.ref b24), .unset] [(.int e1)])) t
      refine XS.iloadN X60.here hx rfl (hb hby at_34) rfl ?_
      exact kt
    obtain ⟨_, _, ⟨T70, L70, k70, n70⟩, -, X70, ⟨Lc70, hQ70, l70, y70, z70⟩, st70⟩ := Jvm.LawKit.callS X60 hx (y := (⟨"com/example/splode/splode/document/MediaRangeSpecificityPinLaw", "isStar", "(I)Z"⟩ : MethodName)) ho13 (mvT hZ13 (hw _ (List.mem_of_getElem? (i := 59) rfl))) (mvT hZ13 (hw _ (List.mem_of_getElem? (i := 60) rfl))) (mvT hZ13 (hw _ (List.mem_of_getElem? (i := 2) rfl))) (mvT hZ13 (hw _ (List.mem_of_getElem? (i := 61) rfl))) (by decide) (backOf (W := 1) (own_rm11 l Z a0 hw [] (s_) T43.heap n0 (Nat.le_trans Z0 K58.1)) hZ13 (hw _ (List.mem_of_getElem? (i := 61) rfl)) (hw _ (List.mem_of_getElem? (i := 2) rfl)) (by decide) (by decide)) (g := (mkF m 35 #[.val (.int t_), .val (.int s_), .val (.ref r1), .val (.ref r10), .val (.ref b24), .unset] [(.int s_), (.int e1)])) rfl (by rw [hml]; rfl) (argsL := [(.int s_)]) (rest := [(.int e1)]) (lenOf own_pd15 rfl) rfl (by show 2 * 0 + _ ≤ _; exact Nat.le_of_eq rfl) (hb hby at_35) (fun _ _ => ⟨rfl, e60, (by decide : 13 + 0 ≤ _), (by decide : 27 + 0 ≤ _)⟩)
    dsimp only [Pt.U, Pt.locs, Pt.cells, Pt.slots] at X70 l70 y70 z70 st70 hQ70
    subst l70 y70 z70
    obtain ⟨rfl, rfl, eq68⟩ := hQ70
    try rw [List.append_nil] at X70
    have S71 : ∀ t, Steps p.tables e below (T70.setTop (mkF m 38 #[.val (.int t_), .val (.int s_), .val (.ref r1), .val (.ref r10), .val (.ref b24), .unset] [(.int (own_b (own_star s_))), (.int e1)])) t → Steps p.tables e below (s₁.setTop (entryFrame m #[(.int t_), (.int s_)] maxLocals)) t := fun t kt => S69 t (st70 _ kt)
    by_cases hc38 : (own_b (own_star s_)) = (0 : Int32)
    · skip
      have S72 : ∀ t, Steps p.tables e below (T70.setTop (mkF m 46 #[.val (.int t_), .val (.int s_), .val (.ref r1), .val (.ref r10), .val (.ref b24), .unset] [(.int (1 : Int32)), (.int e1)])) t → Steps p.tables e below (s₁.setTop (entryFrame m #[(.int t_), (.int s_)] maxLocals)) t := fun t kt => by
        refine S71 t ?_
        show Steps p.tables e below (T70.setTop (mkF m 38 #[.val (.int t_), .val (.int s_), .val (.ref r1), .val (.ref r10), .val (.ref b24), .unset] [(.int (own_b (own_star s_))), (.int e1)])) t
        refine XS.ifYes X70.here hx rfl (pc0 := 38) (pc' := 45) rfl (hb hby at_38) rfl ((if0 _ _).trans (teq hc38).1) (by decide) (by decide) ?_
        show Steps p.tables e below (T70.setTop (mkF m 45 #[.val (.int t_), .val (.int s_), .val (.ref r1), .val (.ref r10), .val (.ref b24), .unset] [(.int e1)])) t
        refine XS.iconst X70.here hx rfl (hb hby at_45) ?_
        exact kt
      exact ⟨T70, ((1 : Int32)), X70, eq68, (by cases hs : own_star s_ <;> simp_all [own_b]), S72⟩
    · skip
      have S73 : ∀ t, Steps p.tables e below (T70.setTop (mkF m 46 #[.val (.int t_), .val (.int s_), .val (.ref r1), .val (.ref r10), .val (.ref b24), .unset] [(.int (0 : Int32)), (.int e1)])) t → Steps p.tables e below (s₁.setTop (entryFrame m #[(.int t_), (.int s_)] maxLocals)) t := fun t kt => by
        refine S71 t ?_
        show Steps p.tables e below (T70.setTop (mkF m 38 #[.val (.int t_), .val (.int s_), .val (.ref r1), .val (.ref r10), .val (.ref b24), .unset] [(.int (own_b (own_star s_))), (.int e1)])) t
        refine XS.ifNo X70.here hx rfl (hb hby at_38) rfl ((if0 _ _).trans (feq hc38).1) ?_
        show Steps p.tables e below (T70.setTop (mkF m 41 #[.val (.int t_), .val (.int s_), .val (.ref r1), .val (.ref r10), .val (.ref b24), .unset] [(.int e1)])) t
        refine XS.iconst X70.here hx rfl (hb hby at_41) ?_
        show Steps p.tables e below (T70.setTop (mkF m 42 #[.val (.int t_), .val (.int s_), .val (.ref r1), .val (.ref r10), .val (.ref b24), .unset] [(.int (0 : Int32)), (.int e1)])) t
        refine XS.goto X70.here hx rfl (pc0 := 42) (pc' := 46) rfl (hb hby at_42) (by decide) (by decide) ?_
        exact kt
      exact ⟨T70, ((0 : Int32)), X70, eq68, (by cases hs : own_star s_ <;> simp_all [own_b]), S73⟩
  have S76 : ∀ t, Steps p.tables e below (T67.setTop (mkF m 51 #[.val (.int t_), .val (.int s_), .val (.ref r1), .val (.ref r10), .val (.ref b24), .val (.int (e1 + e2))] [(.ref b24)])) t → Steps p.tables e below (s₁.setTop (entryFrame m #[(.int t_), (.int s_)] maxLocals)) t := fun t kt => by
    refine S67 t ?_
    show Steps p.tables e below (T67.setTop (mkF m 46 #[.val (.int t_), .val (.int s_), .val (.ref r1), .val (.ref r10), .val (.ref b24), .unset] [(.int e2), (.int e1)])) t
    refine XS.iadd X67.here hx rfl (hb hby at_46) rfl ?_
    show Steps p.tables e below (T67.setTop (mkF m 47 #[.val (.int t_), .val (.int s_), .val (.ref r1), .val (.ref r10), .val (.ref b24), .unset] [(.int (e1 + e2))])) t
    refine XS.istore X67.here hx rfl (hb hby at_47) rfl (l' := #[.val (.int t_), .val (.int s_), .val (.ref r1), .val (.ref r10), .val (.ref b24), .val (.int (e1 + e2))]) rfl ?_
    show Steps p.tables e below (T67.setTop (mkF m 49 #[.val (.int t_), .val (.int s_), .val (.ref r1), .val (.ref r10), .val (.ref b24), .val (.int (e1 + e2))] [])) t
    refine XS.aload X67.here hx rfl (hb hby at_49) rfl rfl ?_
    exact kt
  obtain ⟨cq77, kq77, q77a, q77b, q77c⟩ := isOf hZ13 e67 F57
  obtain ⟨_, _, ⟨T77, L77, k77, n77⟩, -, X77_, hSr77, hgr77, ⟨Lc77, hQ77, l77, y77, z77, hCr77⟩, st77⟩ := X67.virtualBackS hx (y := (⟨"com/example/splode/splode/document/MediaRange", "specificity", "()I"⟩ : MethodName)) (z := (⟨"com/example/splode/splode/document/MediaRange", "specificity", "()I"⟩ : MethodName)) ho13 (mvT hZ13 (hw _ (List.mem_of_getElem? (i := 62) rfl))) (mvT hZ13 (hw _ (List.mem_of_getElem? (i := 63) rfl))) (notFace_of_selects (args := #[]) (mvT hZ13 (hw _ (List.mem_of_getElem? (i := 65) rfl)))) (mvT hZ13 (hw _ (List.mem_of_getElem? (i := 65) rfl))) (mvT hZ13 (hw _ (List.mem_of_getElem? (i := 64) rfl))) (by decide) (backOfSH (EL := own_EL) (s := s) (vm0 := T13.vm) (W := 0) (own_rm12 l Z a0 hw [] (b24) (cs) (r1) (tb1) (kt1) (own_n t_) (own_vs t_) (own_z t_) (r10) (tb10) (kt10) (own_n s_) (own_vs s_) (own_z s_) T43.heap n0 (Nat.le_trans Z0 K58.1) F48 hcs Fc40_type Fc40_subtype F49 F50 F51 F52 (own_hd t_) F53 F54 F55 F56 (own_hd s_)) hZ13 (hw _ (List.mem_of_getElem? (i := 66) rfl)) (hw _ (List.mem_of_getElem? (i := 43) rfl)) (by decide) (by decide) hEL CR47.1) q77a q77c (g := (mkF m 51 #[.val (.int t_), .val (.int s_), .val (.ref r1), .val (.ref r10), .val (.ref b24), .val (.int (e1 + e2))] [(.ref b24)])) rfl (by rw [hml]; rfl) (Steps.refl _) (argsL := []) (rest := []) (lenOf own_pd16 rfl) rfl (by show 2 * 0 + _ ≤ _; exact Nat.le_of_eq rfl) (hb hby at_51) (fun _ _ => ⟨rfl, e67, (by decide : 13 + 4 ≤ _), (by decide : 27 + 16 ≤ _)⟩)
  dsimp only [Pt.U, Pt.locs, Pt.cells, Pt.slots] at X77_ hSr77 hgr77 l77 y77 z77 hCr77 st77 hQ77
  subst l77 y77 z77
  obtain ⟨X77, hS77, hZ77, ho77⟩ := rebS hS13 (by rw [e67]; exact (Nat.le_trans (Nat.le_trans (Nat.le_refl _) E24.1) Kc40.1)) X77_ hSr77 hgr77 hZ13 ho13
  obtain ⟨rfl, Nq77, Kc74⟩ := hQ77
  have N78 := Fr.app N44 Nq77
  have S79 : ∀ t, Steps p.tables e below (T77.setTop (mkF m 54 #[.val (.int t_), .val (.int s_), .val (.ref r1), .val (.ref r10), .val (.ref b24), .val (.int (e1 + e2))] [(.int (own_sp (decide (own_n t_ = (1 : Int32) ∧ own_z t_ = (42 : Int32))) (decide (own_n s_ = (1 : Int32) ∧ own_z s_ = (42 : Int32)))))])) t → Steps p.tables e below (s₁.setTop (entryFrame m #[(.int t_), (.int s_)] maxLocals)) t := fun t kt => S76 t (st77.trans kt)
  have Sf80 := hCr77.safe (F57.lt) Sf46
  have CR81 := CR47.trans hCr77
  have F82 := own_StaK F48 Kc74 all0
  have F83 := F49.keep Kc74
  have F84 := F50.keep Kc74 nin0
  have F85 := F51.keep Kc74 nin0
  have F86 := F52.keep Kc74 nin0
  have F87 := F53.keep Kc74
  have F88 := F54.keep Kc74 nin0
  have F89 := F55.keep Kc74 nin0
  have F90 := F56.keep Kc74 nin0
  have F91 := F57.keep Kc74
  have F92 := Fc40_type.keep Kc74 nin0
  have F93 := Fc40_subtype.keep Kc74 nin0
  have F94 := Fc40_parameters.keep Kc74 nin0
  have K95 : Keep h0 T77.heap [] := K58.trans Kc74 all0
  have S96 : ∀ t, Steps p.tables e below (T77.setTop (mkF m 56 #[.val (.int t_), .val (.int s_), .val (.ref r1), .val (.ref r10), .val (.ref b24), .val (.int (e1 + e2))] [(.int (e1 + e2)), (.int (own_sp (decide (own_n t_ = (1 : Int32) ∧ own_z t_ = (42 : Int32))) (decide (own_n s_ = (1 : Int32) ∧ own_z s_ = (42 : Int32)))))])) t → Steps p.tables e below (s₁.setTop (entryFrame m #[(.int t_), (.int s_)] maxLocals)) t := fun t kt => by
    refine S79 t ?_
    show Steps p.tables e below (T77.setTop (mkF m 54 #[.val (.int t_), .val (.int s_), .val (.ref r1), .val (.ref r10), .val (.ref b24), .val (.int (e1 + e2))] [(.int (own_sp (decide (own_n t_ = (1 : Int32) ∧ own_z t_ = (42 : Int32))) (decide (own_n s_ = (1 : Int32) ∧ own_z s_ = (42 : Int32)))))])) t
    refine XS.iload X77.here hx rfl (hb hby at_54) rfl ?_
    exact kt
  have hc56_97 : (own_sp (decide (own_n t_ = (1 : Int32) ∧ own_z t_ = (42 : Int32))) (decide (own_n s_ = (1 : Int32) ∧ own_z s_ = (42 : Int32)))) = (e1 + e2) := by rw [hr22, hr34, own_plain, own_st, own_st]
  have S98 : ∀ t, Steps p.tables e below (T77.setTop (mkF m 64 #[.val (.int t_), .val (.int s_), .val (.ref r1), .val (.ref r10), .val (.ref b24), .val (.int (e1 + e2))] [(.int (1 : Int32))])) t → Steps p.tables e below (s₁.setTop (entryFrame m #[(.int t_), (.int s_)] maxLocals)) t := fun t kt => by
    refine S96 t ?_
    show Steps p.tables e below (T77.setTop (mkF m 56 #[.val (.int t_), .val (.int s_), .val (.ref r1), .val (.ref r10), .val (.ref b24), .val (.int (e1 + e2))] [(.int (e1 + e2)), (.int (own_sp (decide (own_n t_ = (1 : Int32) ∧ own_z t_ = (42 : Int32))) (decide (own_n s_ = (1 : Int32) ∧ own_z s_ = (42 : Int32)))))])) t
    refine XS.icmpNo X77.here hx rfl (hb hby at_56) rfl (teq hc56_97).2 ?_
    show Steps p.tables e below (T77.setTop (mkF m 59 #[.val (.int t_), .val (.int s_), .val (.ref r1), .val (.ref r10), .val (.ref b24), .val (.int (e1 + e2))] [])) t
    refine XS.iconst X77.here hx rfl (hb hby at_59) ?_
    show Steps p.tables e below (T77.setTop (mkF m 60 #[.val (.int t_), .val (.int s_), .val (.ref r1), .val (.ref r10), .val (.ref b24), .val (.int (e1 + e2))] [(.int (1 : Int32))])) t
    refine XS.goto X77.here hx rfl (pc0 := 60) (pc' := 64) rfl (hb hby at_60) (by decide) (by decide) ?_
    exact kt
  obtain ⟨fs, hr, hrun, hended, -, hW, hBk, hsame⟩ := X77.leaveW hS77 ((Nat.le_refl _)) (v := some (.int (nar .boolean (1 : Int32)))) (fun h => by rw [Bd.returns] at h; cases h)
  refine ⟨_, _, S98 _ ?_, hrun, hended, _, _, rfl, ?_, (by show CHr Z own_EL s.vm s.heap T77.vm T77.heap; rw [hh]; exact CR81.trans (CHv.at X77 hZ77 hEL CR81.1)), ⟨_, rfl⟩, hW, hBk, hsame.mono (by decide) (by decide)⟩
  · show Steps p.tables e below (T77.setTop (mkF m 64 #[.val (.int t_), .val (.int s_), .val (.ref r1), .val (.ref r10), .val (.ref b24), .val (.int (e1 + e2))] [(.int (1 : Int32))])) _
    exact retN X77 hx (t := .boolean) Bd.returns (by simp) (hb hby at_64) hr
  · show own_Q0 Z t_ s_ cs h0 n0 _ T77.heap _
    exact ⟨rfl, N78⟩
set_option maxHeartbeats 40000000 in
theorem own_comes {Post : Tables → Env → Array Value → State → Outcome → State → Prop} (hpost : ∀ tb e args s v u, (limb_1_1.after args s (.returned v) u = true ∧ limb_1_2.after args s (.returned v) u = true ∧ True) → FramedW s (.returned v) u (Jvm.fieldLocs frame_1_writes args s ++ Jvm.arrayLocs frame_1_arrays args s ++ Jvm.staticLocs frame_1_statics s) 32 2176 → Post tb e args s (.returned v) u) :
    ArmFor flags0 classFile x code maxLocals ret World_1 tables_1 room_1 Calls_1 rest_1 Pre_1 Post := by
  intro l hfl _ _ p e ha hc hk s m args below hf hA hF happ hP
  obtain ⟨hcalls, hrest, hpre⟩ := hP
  obtain ⟨-, -, -, hnamed, -, -, -, hat⟩ := (Spec.applies_iff hf).mp happ
  obtain ⟨hg, hn⟩ := and_e (Cond.before_iff.mp (show (Jvm.Cond.and given_1 narrow_1).before args s = true from hpre))
  obtain ⟨g1, g2⟩ := and_e hg
  obtain ⟨g3, g4⟩ := and_e g2
  obtain ⟨w0, w1, rfl⟩ : ∃ w0 w1 : Value, args = #[w0, w1] := by
    have hs : args.size = 2 := by simpa [Cond.value, given_1] using g1
    obtain ⟨L⟩ := args
    match L, hs with
    | [w0, w1], _ => exact ⟨w0, w1, rfl⟩
  have hw := fun d (hd : d ∈ tables_1) => atoms_spec (ws := Jvm.Cond.code x code maxLocals ret :: tables_1) hat d (List.mem_cons_of_mem _ hd)
  have hfit : Fit s := fun {y c} hc i hi => by
    obtain ⟨ha, rfl⟩ := Array.getElem?_eq_some_iff.mp hc
    have q := List.all_eq_true.mp ((Array.all_eq_true_iff_forall_mem.mp hF) _ (Array.getElem_mem ha)) i (List.mem_range.mpr hi)
    simpa [Array.getElem?_eq_getElem hi] using q
  obtain ⟨hsets, hown0⟩ := atoms_of _ (rest_1_c_eq ▸ (show rest_1_c.before _ s = true from hrest))
  have hr0 := Cond.before_iff.mp hown0
  obtain ⟨i0, ei0⟩ := is_v g3
  obtain rfl : w0 = (.int i0) := Option.some.inj ei0
  obtain ⟨i1, ei1⟩ := is_v g4
  obtain rfl : w1 = (.int i1) := Option.some.inj ei1
  obtain ⟨icS, eS⟩ := is_v (Cond.before_iff.mp (hsets _ (List.mem_of_getElem? (i := 1) rfl)))
  have S_CSs : Sta s s.heap "java/lang/String" "COMPACT_STRINGS" "Z" (.int icS) := Sta.start eS (Or.inl (hsets _ (List.mem_of_getElem? (i := 0) rfl)))
  have hcs0 : ¬ icS = (0 : Int32) := gotF (Cond.eq_ints eS rfl) (not_v (Cond.before_iff.mp (hsets _ (List.mem_of_getElem? (i := 2) rfl))))
  have hCH : CHv s own_EL s.vm s.heap := CHv.start (own_EW hw) (fun q hq => hcalls.1 q hq) (by first | exact (hsets _ (List.mem_of_getElem? (i := 2) rfl)) | exact Cond.before_iff.mpr (Cond.before_iff.mp (hsets _ (List.mem_of_getElem? (i := 2) rfl)))) (hw _ (List.mem_of_getElem? (i := 18) rfl)) (hw _ (List.mem_of_getElem? (i := 14) rfl))
  obtain ⟨n, o, h1, h2, h3, _, L, rfl, ⟨rfl, N⟩, -, hq⟩ := own_rm0 l s _ hw tables_1 i0 i1 icS s.heap s.heap.size (Nat.le_refl _) S_CSs hcs0 p e ha hc hk s m _ below hf ((Spec.applies_iff_loose hf).mp happ).1 ⟨rfl, State.Warmed39.refl s, rfl, hCH⟩ trivial
  refine ⟨n, _, h1, h2, h3, hpost _ _ _ _ _ _ ⟨Cond.after_iff.mpr rfl, Cond.after_iff.mpr (eq_i res_at (Term.int_eval (1)) rfl), trivial⟩ ⟨hq.1, hq.2.1, hq.2.2.1, (hq.2.2.2.sift fun y hy => Or.inr (N y hy)).mono (by decide) (by decide)⟩⟩
theorem main_1_1 : Claimed_1_1 := own_comes fun _ _ _ _ _ _ h hF => ⟨h.1, hF⟩
theorem main_1_2 : Claimed_1_2 := own_comes fun _ _ _ _ _ _ h hF => ⟨h.2.1, hF⟩
end Jvm.Pilot.@@N@@
namespace Jvm.Pilot.@@N@@
open Jvm Jvm.ClassFile Sem Op Lib Jvm.Free Jvm.Stand Jvm.Pilot.@@N@@.Jvm.D
/-! MADE BY PROGRAM (witnessworld.py) out of the Statement's table words and the real class files: 21 classes; the members and pool entries that the words name. The judged class is class 1, her method 5. -/
namespace start1
open Jvm.ClassFile
def u (s : String) : CpInfo := .utf8 (stringToUtf16 s)
/-- a pool by its gaps: so many unusable entries, then the entry; so many at the end -/
def gap : Nat → List CpInfo → List CpInfo
  | 0, r => r
  | n + 1, r => .unusable :: gap n r
def poolList (es : List (Nat × CpInfo)) (last : Nat) : List CpInfo := es.foldr (fun e r => gap e.1 (e.2 :: r)) (gap last [])
def pool (es : List (Nat × CpInfo)) (last : Nat) : Array CpInfo := ⟨poolList es last⟩
def fileOf (pool : Array CpInfo) (this : Nat) (attrs : Array Attribute := #[]) (ms : Array MethodInfo := #[]) (fl : Nat := 33) (sup : Nat := 0) (ifs : Array Nat := #[]) (fds : Array FieldInfo := #[]) : ClassFile where
  minorVersion := 0
  majorVersion := 65
  constantPool := pool
  accessFlags := fl
  thisClass := this
  superClass := sup
  interfaces := ifs
  fields := fds
  methods := ms
  attributes := attrs
def plain (name : String) (sup : Option ClassId) : Class where
  name := name
  kind := .ordinary
  loader := none
  accessFlags := 33
  super := sup
  interfaces := #[]
  cf := none
  fields := #[]
  methods := #[]
  instanceTypes := #[]
  staticTypes := #[]
  resolved := #[]
  callSites := []
  init := .initialized
  statics := none
  mirror := none

def pool0 : Array CpInfo := pool [(5, u "<init>"), (0, u "()V"), (1, .class_ 10), (1, u "java/lang/Object")] 113

def k0c0 : Code := { maxStack := 0, maxLocals := 1, code := object_method_1_code, exceptionTable := #[], attributes := #[] }
def k0m0 : Method := { name := "<init>", desc := "()V", sig := { parameters := [], returnType := none }, accessFlags := 1, code := some k0c0 }
/-- java/lang/Object -/
def k0 : Class := { plain "java/lang/Object" none with
  accessFlags := 33
  interfaces := #[]
  cf := some (fileOf pool0 8 #[] #[{ accessFlags := 1, nameIndex := 5, descriptorIndex := 6, attributes := #[] }] 33 0 #[] #[])
  fields := #[]
  methods := #[k0m0]
  instanceTypes := #[]
  staticTypes := #[]
  resolved := Array.replicate 124 none
  statics := none }

def pool1 : Array CpInfo := pool [(2, .class_ 4), (1, u "java/lang/Object"), (0, u "<init>"), (0, u "()V"), (0, .methodref 8 9), (0, .class_ 10), (0, .nameAndType 11 12), (0, u "java/lang/String"), (0, u "valueOf"), (0, u "(C)Ljava/lang/String;"), (0, .methodref 14 15), (0, .class_ 16), (0, .nameAndType 17 18), (0, u "com/example/splode/splode/document/MediaRangeSpecificityPinLaw"), (0, u "c0"), (0, u "(I)C"), (0, .methodref 8 20), (0, .nameAndType 5 21), (0, u "([C)V"), (0, .methodref 14 23), (0, .nameAndType 24 18), (0, u "c1"), (0, .methodref 14 26), (0, .nameAndType 27 28), (0, u "str"), (0, u "(I)Ljava/lang/String;"), (0, .class_ 30), (0, u "com/example/splode/splode/document/MediaRange"), (0, .methodref 29 32), (0, .nameAndType 5 33), (0, u "(Ljava/lang/String;Ljava/lang/String;Ljava/util/Map;)V"), (0, .methodref 14 35), (0, .nameAndType 36 37), (0, u "isStar"), (0, u "(I)Z"), (0, .methodref 29 39), (0, .nameAndType 40 41), (0, u "specificity"), (0, u "()I"), (3, u "law"), (0, u "(II)Z")] 2

def k1m0 : Method := { name := "<init>", desc := "()V", sig := { parameters := [], returnType := none }, accessFlags := 2, code := none }
def k1c1 : Code := { maxStack := 2, maxLocals := 1, code := method_2_code, exceptionTable := #[], attributes := #[] }
def k1m1 : Method := { name := "c0", desc := "(I)C", sig := { parameters := [.int], returnType := some .char }, accessFlags := 10, code := some k1c1 }
def k1c2 : Code := { maxStack := 2, maxLocals := 1, code := method_3_code, exceptionTable := #[], attributes := #[] }
def k1m2 : Method := { name := "c1", desc := "(I)C", sig := { parameters := [.int], returnType := some .char }, accessFlags := 10, code := some k1c2 }
def k1c3 : Code := { maxStack := 3, maxLocals := 3, code := method_4_code, exceptionTable := #[], attributes := #[] }
def k1m3 : Method := { name := "str", desc := "(I)Ljava/lang/String;", sig := { parameters := [.int], returnType := some (.object "java/lang/String") }, accessFlags := 10, code := some k1c3 }
def k1c4 : Code := { maxStack := 2, maxLocals := 2, code := method_5_code, exceptionTable := #[], attributes := #[] }
def k1m4 : Method := { name := "isStar", desc := "(I)Z", sig := { parameters := [.int], returnType := some .boolean }, accessFlags := 10, code := some k1c4 }
def k1c5 : Code := { maxStack := 5, maxLocals := 6, code := code, exceptionTable := #[], attributes := #[] }
def k1m5 : Method := { name := "law", desc := "(II)Z", sig := { parameters := [.int, .int], returnType := some .boolean }, accessFlags := 9, code := some k1c5 }
/-- com/example/splode/splode/document/MediaRangeSpecificityPinLaw -/
def k1 : Class := { plain "com/example/splode/splode/document/MediaRangeSpecificityPinLaw" (some 0) with
  accessFlags := 49
  interfaces := #[]
  cf := some (fileOf pool1 14 #[] #[{ accessFlags := 2, nameIndex := 5, descriptorIndex := 6, attributes := #[] }, { accessFlags := 10, nameIndex := 17, descriptorIndex := 18, attributes := #[] }, { accessFlags := 10, nameIndex := 24, descriptorIndex := 18, attributes := #[] }, { accessFlags := 10, nameIndex := 27, descriptorIndex := 28, attributes := #[] }, { accessFlags := 10, nameIndex := 36, descriptorIndex := 37, attributes := #[] }, { accessFlags := 9, nameIndex := 45, descriptorIndex := 46, attributes := #[] }] 49 2 #[] #[])
  fields := #[]
  methods := #[k1m0, k1m1, k1m2, k1m3, k1m4, k1m5]
  instanceTypes := #[]
  staticTypes := #[]
  resolved := Array.replicate 49 none
  statics := none }

def pool2 : Array CpInfo := pool [(1, .class_ 2), (0, u "java/io/Serializable"), (0, .class_ 4), (0, u "java/lang/Object")] 2

/-- java/io/Serializable -/
def k2 : Class := { plain "java/io/Serializable" (some 0) with
  accessFlags := 1537
  interfaces := #[]
  cf := some (fileOf pool2 1 #[] #[] 1537 3 #[] #[])
  fields := #[]
  methods := #[]
  instanceTypes := #[]
  staticTypes := #[]
  resolved := Array.replicate 7 none
  statics := none }

def pool3 : Array CpInfo := pool [(1, .class_ 2), (0, u "java/lang/Comparable"), (0, .class_ 4), (0, u "java/lang/Object")] 7

/-- java/lang/Comparable -/
def k3 : Class := { plain "java/lang/Comparable" (some 0) with
  accessFlags := 1537
  interfaces := #[]
  cf := some (fileOf pool3 1 #[] #[] 1537 3 #[] #[])
  fields := #[]
  methods := #[]
  instanceTypes := #[]
  staticTypes := #[]
  resolved := Array.replicate 12 none
  statics := none }

def pool4 : Array CpInfo := pool [(2, .class_ 4), (1, u "java/lang/CharSequence"), (42, .class_ 48), (0, u "java/lang/CharSequence$1CodePointIterator"), (10, .class_ 60), (0, u "java/lang/CharSequence$1CharIterator"), (5, .class_ 67), (0, u "java/lang/Object")] 63

/-- java/lang/CharSequence -/
def k4 : Class := { plain "java/lang/CharSequence" (some 0) with
  accessFlags := 1537
  interfaces := #[]
  cf := some (fileOf pool4 2 #[.nestMembers #[47, 59]] #[] 1537 66 #[] #[])
  fields := #[]
  methods := #[]
  instanceTypes := #[]
  staticTypes := #[]
  resolved := Array.replicate 131 none
  statics := none }

def pool5 : Array CpInfo := pool [(1, .class_ 2), (0, u "java/lang/constant/Constable"), (0, .class_ 4), (0, u "java/lang/Object")] 6

/-- java/lang/constant/Constable -/
def k5 : Class := { plain "java/lang/constant/Constable" (some 0) with
  accessFlags := 1537
  interfaces := #[]
  cf := some (fileOf pool5 1 #[] #[] 1537 3 #[] #[])
  fields := #[]
  methods := #[]
  instanceTypes := #[]
  staticTypes := #[]
  resolved := Array.replicate 11 none
  statics := none }

def pool6 : Array CpInfo := pool [(1, .class_ 2), (0, u "java/lang/constant/ConstantDesc"), (0, .class_ 4), (0, u "java/lang/Object")] 32

/-- java/lang/constant/ConstantDesc -/
def k6 : Class := { plain "java/lang/constant/ConstantDesc" (some 0) with
  accessFlags := 1537
  interfaces := #[]
  cf := some (fileOf pool6 1 #[] #[] 1537 3 #[] #[])
  fields := #[]
  methods := #[]
  instanceTypes := #[]
  staticTypes := #[]
  resolved := Array.replicate 37 none
  statics := none }

def pool7 : Array CpInfo := pool [(1, .methodref 2 3), (0, .class_ 4), (0, .nameAndType 5 6), (0, u "java/lang/Object"), (0, u "<init>"), (0, u "()V"), (0, .string 8), (0, u ""), (0, .fieldref 10 11), (0, .class_ 12), (0, .nameAndType 13 14), (0, u "java/lang/String"), (0, u "value"), (0, u "[B"), (0, .fieldref 10 16), (0, .nameAndType 17 18), (0, u "coder"), (0, u "B"), (2, u "hash"), (0, u "I"), (2, u "hashIsZero"), (0, u "Z"), (0, .methodref 10 28), (0, .nameAndType 5 29), (0, u "([CIILjava/lang/Void;)V"), (8, .fieldref 10 39), (0, .nameAndType 40 26), (0, u "COMPACT_STRINGS"), (1, .class_ 44), (1, u "java/lang/StringUTF16"), (0, u "compress"), (1, .methodref 42 48), (0, .nameAndType 49 50), (0, u "coderFromArrayLen"), (0, u "([BI)B"), (2, u "toBytes"), (53, .class_ 109), (1, u "java/lang/StringLatin1"), (67, .methodref 42 178), (0, .nameAndType 45 179), (0, u "([CII)[B"), (29, .methodref 10 210), (0, .nameAndType 5 211), (0, u "([BB)V"), (157, u "(C)Z"), (171, .methodref 107 542), (0, .nameAndType 543 544), (0, u "equals"), (0, u "([B[B)Z"), (28, u "(Ljava/lang/Object;)Z"), (1, .class_ 576), (0, u "java/lang/CharSequence"), (22, u "CASE_INSENSITIVE_ORDER"), (0, u "Ljava/util/Comparator;"), (181, u "valueOf"), (0, u "(C)Ljava/lang/String;"), (226, u "([C)V"), (4, .methodref 107 1016), (0, .nameAndType 1017 369), (0, u "canEncode"), (0, .methodref 107 1019), (0, .nameAndType 53 1020), (0, u "(C)[B"), (80, u "serialPersistentFields"), (0, u "[Ljava/io/ObjectStreamField;"), (0, .class_ 1104), (0, u "java/lang/String$CaseInsensitiveComparator"), (1, .class_ 1107), (0, u "java/io/Serializable"), (0, .class_ 1109), (0, u "java/lang/Comparable"), (0, .class_ 1111), (0, u "java/lang/constant/Constable"), (0, .class_ 1113), (0, u "java/lang/constant/ConstantDesc"), (2, u "serialVersionUID"), (0, u "J"), (3, u "REPL"), (0, u "C"), (2, u "LATIN1"), (1, u "UTF16")] 323

def k7m0 : Method := { name := "<init>", desc := "()V", sig := { parameters := [], returnType := none }, accessFlags := 1, code := none }
def k7c1 : Code := { maxStack := 5, maxLocals := 2, code := jdk_42_method_3_code, exceptionTable := #[], attributes := #[] }
def k7m1 : Method := { name := "<init>", desc := "([C)V", sig := { parameters := [(.array .char)], returnType := none }, accessFlags := 1, code := some k7c1 }
def k7c2 : Code := { maxStack := 2, maxLocals := 3, code := jdk_42_method_66_code, exceptionTable := #[], attributes := #[] }
def k7m2 : Method := { name := "equals", desc := "(Ljava/lang/Object;)Z", sig := { parameters := [(.object "java/lang/Object")], returnType := some .boolean }, accessFlags := 1, code := some k7c2 }
def k7c3 : Code := { maxStack := 4, maxLocals := 1, code := jdk_42_method_139_code, exceptionTable := #[], attributes := #[] }
def k7m3 : Method := { name := "valueOf", desc := "(C)Ljava/lang/String;", sig := { parameters := [.char], returnType := some (.object "java/lang/String") }, accessFlags := 9, code := some k7c3 }
def k7c4 : Code := { maxStack := 4, maxLocals := 6, code := jdk_42_method_149_code, exceptionTable := #[], attributes := #[] }
def k7m4 : Method := { name := "<init>", desc := "([CIILjava/lang/Void;)V", sig := { parameters := [(.array .char), .int, .int, (.object "java/lang/Void")], returnType := none }, accessFlags := 2, code := some k7c4 }
def k7c5 : Code := { maxStack := 2, maxLocals := 3, code := jdk_42_method_151_code, exceptionTable := #[], attributes := #[] }
def k7m5 : Method := { name := "<init>", desc := "([BB)V", sig := { parameters := [(.array .byte), .byte], returnType := none }, accessFlags := 0, code := some k7c5 }
/-- java/lang/String -/
def k7 : Class := { plain "java/lang/String" (some 0) with
  accessFlags := 49
  interfaces := #[2, 3, 4, 5, 6]
  cf := some (fileOf pool7 10 #[.nestMembers #[1103]] #[{ accessFlags := 1, nameIndex := 5, descriptorIndex := 6, attributes := #[] }, { accessFlags := 1, nameIndex := 5, descriptorIndex := 1010, attributes := #[] }, { accessFlags := 1, nameIndex := 543, descriptorIndex := 573, attributes := #[] }, { accessFlags := 9, nameIndex := 782, descriptorIndex := 783, attributes := #[] }, { accessFlags := 2, nameIndex := 5, descriptorIndex := 29, attributes := #[] }, { accessFlags := 0, nameIndex := 5, descriptorIndex := 211, attributes := #[] }] 49 2 #[1106, 1108, 575, 1110, 1112] #[{ accessFlags := 18, nameIndex := 13, descriptorIndex := 14, attributes := #[] }, { accessFlags := 18, nameIndex := 17, descriptorIndex := 18, attributes := #[] }, { accessFlags := 2, nameIndex := 21, descriptorIndex := 22, attributes := #[] }, { accessFlags := 2, nameIndex := 25, descriptorIndex := 26, attributes := #[] }, { accessFlags := 26, nameIndex := 1116, descriptorIndex := 1117, attributes := #[] }, { accessFlags := 24, nameIndex := 40, descriptorIndex := 26, attributes := #[] }, { accessFlags := 26, nameIndex := 1101, descriptorIndex := 1102, attributes := #[] }, { accessFlags := 26, nameIndex := 1121, descriptorIndex := 1122, attributes := #[] }, { accessFlags := 25, nameIndex := 599, descriptorIndex := 600, attributes := #[] }, { accessFlags := 24, nameIndex := 1125, descriptorIndex := 18, attributes := #[] }, { accessFlags := 24, nameIndex := 1127, descriptorIndex := 18, attributes := #[] }])
  fields := #[{ name := "value", type := (.array .byte), accessFlags := 18, slot := 0, constantValue := 0 }, { name := "coder", type := .byte, accessFlags := 18, slot := 1, constantValue := 0 }, { name := "hash", type := .int, accessFlags := 2, slot := 2, constantValue := 0 }, { name := "hashIsZero", type := .boolean, accessFlags := 2, slot := 3, constantValue := 0 }, { name := "serialVersionUID", type := .long, accessFlags := 26, slot := 0, constantValue := 0 }, { name := "COMPACT_STRINGS", type := .boolean, accessFlags := 24, slot := 1, constantValue := 0 }, { name := "serialPersistentFields", type := (.array (.object "java/io/ObjectStreamField")), accessFlags := 26, slot := 2, constantValue := 0 }, { name := "REPL", type := .char, accessFlags := 26, slot := 3, constantValue := 0 }, { name := "CASE_INSENSITIVE_ORDER", type := (.object "java/util/Comparator"), accessFlags := 25, slot := 4, constantValue := 0 }, { name := "LATIN1", type := .byte, accessFlags := 24, slot := 5, constantValue := 0 }, { name := "UTF16", type := .byte, accessFlags := 24, slot := 6, constantValue := 0 }]
  methods := #[k7m0, k7m1, k7m2, k7m3, k7m4, k7m5]
  instanceTypes := #[(.array .byte), .byte, .int, .boolean]
  staticTypes := #[.long, .boolean, (.array (.object "java/io/ObjectStreamField")), .char, (.object "java/util/Comparator"), .byte, .byte]
  resolved := Array.replicate 1451 none
  statics := some 0 }

def pool8 : Array CpInfo := pool [(4, .class_ 6), (1, u "java/lang/Object"), (0, u "<init>"), (0, u "()V"), (5, .class_ 16), (1, u "java/lang/StringLatin1"), (73, u "canEncode"), (14, u "(C)Z"), (15, u "$assertionsDisabled"), (0, u "Z"), (98, .class_ 223), (1, u "java/lang/StringLatin1$LinesSpliterator"), (57, u "equals"), (0, u "([B[B)Z"), (97, u "toBytes"), (1, u "(C)[B"), (7, .class_ 391), (0, u "java/lang/StringLatin1$CharsSpliterator")] 3

def k8m0 : Method := { name := "<init>", desc := "()V", sig := { parameters := [], returnType := none }, accessFlags := 0, code := none }
def k8c1 : Code := { maxStack := 2, maxLocals := 1, code := jdk_43_method_3_code, exceptionTable := #[], attributes := #[] }
def k8m1 : Method := { name := "canEncode", desc := "(C)Z", sig := { parameters := [.char], returnType := some .boolean }, accessFlags := 9, code := some k8c1 }
def k8c2 : Code := { maxStack := 3, maxLocals := 3, code := jdk_43_method_13_code, exceptionTable := #[], attributes := #[] }
def k8m2 : Method := { name := "equals", desc := "([B[B)Z", sig := { parameters := [(.array .byte), (.array .byte)], returnType := some .boolean }, accessFlags := 9, code := some k8c2 }
def k8c3 : Code := { maxStack := 4, maxLocals := 1, code := jdk_43_method_46_code, exceptionTable := #[], attributes := #[] }
def k8m3 : Method := { name := "toBytes", desc := "(C)[B", sig := { parameters := [.char], returnType := some (.array .byte) }, accessFlags := 9, code := some k8c3 }
/-- java/lang/StringLatin1 -/
def k8 : Class := { plain "java/lang/StringLatin1" (some 0) with
  accessFlags := 48
  interfaces := #[]
  cf := some (fileOf pool8 14 #[.nestMembers #[390, 221]] #[{ accessFlags := 0, nameIndex := 7, descriptorIndex := 8, attributes := #[] }, { accessFlags := 9, nameIndex := 90, descriptorIndex := 105, attributes := #[] }, { accessFlags := 9, nameIndex := 281, descriptorIndex := 282, attributes := #[] }, { accessFlags := 9, nameIndex := 380, descriptorIndex := 382, attributes := #[] }] 48 4 #[] #[{ accessFlags := 4120, nameIndex := 121, descriptorIndex := 122, attributes := #[] }])
  fields := #[{ name := "$assertionsDisabled", type := .boolean, accessFlags := 4120, slot := 0, constantValue := 0 }]
  methods := #[k8m0, k8m1, k8m2, k8m3]
  instanceTypes := #[]
  staticTypes := #[.boolean]
  resolved := Array.replicate 395 none
  statics := none }

def pool9 : Array CpInfo := pool [(1, .methodref 2 3), (0, .class_ 4), (0, .nameAndType 5 6), (0, u "java/lang/Object"), (0, u "<init>"), (0, u "()V"), (0, .class_ 8), (0, u "java/lang/Record")] 13

def k9c0 : Code := { maxStack := 1, maxLocals := 1, code := jdk_30_method_1_code, exceptionTable := #[], attributes := #[] }
def k9m0 : Method := { name := "<init>", desc := "()V", sig := { parameters := [], returnType := none }, accessFlags := 4, code := some k9c0 }
/-- java/lang/Record -/
def k9 : Class := { plain "java/lang/Record" (some 0) with
  accessFlags := 1057
  interfaces := #[]
  cf := some (fileOf pool9 7 #[] #[{ accessFlags := 4, nameIndex := 5, descriptorIndex := 6, attributes := #[] }] 1057 2 #[] #[])
  fields := #[]
  methods := #[k9m0]
  instanceTypes := #[]
  staticTypes := #[]
  resolved := Array.replicate 22 none
  statics := none }

def pool10 : Array CpInfo := pool [(1, .methodref 2 3), (0, .class_ 4), (0, .nameAndType 5 6), (0, u "java/lang/Record"), (0, u "<init>"), (0, u "()V"), (0, .fieldref 8 9), (0, .class_ 10), (0, .nameAndType 11 12), (0, u "com/example/splode/splode/document/MediaRange"), (0, u "type"), (0, u "Ljava/lang/String;"), (0, .fieldref 8 14), (0, .nameAndType 15 12), (0, u "subtype"), (0, .fieldref 8 17), (0, .nameAndType 18 19), (0, u "parameters"), (0, u "Ljava/util/Map;"), (0, .class_ 21), (0, u "com/example/splode/splode/document/MediaRange$Reader"), (27, .class_ 51), (1, u "java/lang/String"), (18, u "(Ljava/lang/String;Ljava/lang/String;Ljava/util/Map;)V"), (0, .string 72), (0, u "*"), (0, .methodref 49 74), (0, .nameAndType 75 76), (0, u "equals"), (0, u "(Ljava/lang/Object;)Z"), (63, u "TOKEN_CHARACTERS"), (10, u "specificity"), (0, u "()I")] 29

def k10c0 : Code := { maxStack := 2, maxLocals := 4, code := prog_34_method_1_code, exceptionTable := #[], attributes := #[] }
def k10m0 : Method := { name := "<init>", desc := "(Ljava/lang/String;Ljava/lang/String;Ljava/util/Map;)V", sig := { parameters := [(.object "java/lang/String"), (.object "java/lang/String"), (.object "java/util/Map")], returnType := none }, accessFlags := 1, code := some k10c0 }
def k10c1 : Code := { maxStack := 2, maxLocals := 2, code := prog_34_method_3_code, exceptionTable := #[], attributes := #[] }
def k10m1 : Method := { name := "specificity", desc := "()I", sig := { parameters := [], returnType := some .int }, accessFlags := 1, code := some k10c1 }
/-- com/example/splode/splode/document/MediaRange -/
def k10 : Class := { plain "com/example/splode/splode/document/MediaRange" (some 9) with
  accessFlags := 49
  interfaces := #[]
  cf := some (fileOf pool10 8 #[.nestMembers #[20]] #[{ accessFlags := 1, nameIndex := 5, descriptorIndex := 70, attributes := #[] }, { accessFlags := 1, nameIndex := 151, descriptorIndex := 152, attributes := #[] }] 49 2 #[] #[{ accessFlags := 18, nameIndex := 11, descriptorIndex := 12, attributes := #[] }, { accessFlags := 18, nameIndex := 15, descriptorIndex := 12, attributes := #[] }, { accessFlags := 18, nameIndex := 18, descriptorIndex := 19, attributes := #[] }, { accessFlags := 26, nameIndex := 140, descriptorIndex := 12, attributes := #[] }])
  fields := #[{ name := "type", type := (.object "java/lang/String"), accessFlags := 18, slot := 0, constantValue := 0 }, { name := "subtype", type := (.object "java/lang/String"), accessFlags := 18, slot := 1, constantValue := 0 }, { name := "parameters", type := (.object "java/util/Map"), accessFlags := 18, slot := 2, constantValue := 0 }, { name := "TOKEN_CHARACTERS", type := (.object "java/lang/String"), accessFlags := 26, slot := 0, constantValue := 0 }]
  methods := #[k10m0, k10m1]
  instanceTypes := #[(.object "java/lang/String"), (.object "java/lang/String"), (.object "java/util/Map")]
  staticTypes := #[(.object "java/lang/String")]
  resolved := Array.replicate 182 none
  statics := none }

def pool11 : Array CpInfo := pool [(6, .class_ 8), (1, u "java/lang/Object"), (0, u "<init>"), (0, u "()V"), (1, .class_ 14), (1, u "java/lang/StringUTF16"), (31, u "$assertionsDisabled"), (0, u "Z"), (13, u "HI_BYTE_SHIFT"), (0, u "I"), (2, u "LO_BYTE_SHIFT"), (49, .methodref 12 116), (0, .nameAndType 117 118), (0, u "compress"), (0, u "([CI[BII)I"), (3, u "([CII)[B"), (138, u "coderFromArrayLen"), (0, u "([BI)B"), (106, .class_ 371), (1, u "java/lang/StringUTF16$LinesSpliterator"), (58, u "MAX_LENGTH"), (196, .class_ 628), (0, u "java/lang/StringUTF16$CodePointsSpliterator"), (0, .class_ 630), (0, u "java/lang/StringUTF16$CharsSpliterator")] 4

def k11m0 : Method := { name := "<init>", desc := "()V", sig := { parameters := [], returnType := none }, accessFlags := 0, code := none }
def k11c1 : Code := { maxStack := 2, maxLocals := 2, code := jdk_52_method_15_code, exceptionTable := #[], attributes := #[] }
def k11m1 : Method := { name := "coderFromArrayLen", desc := "([BI)B", sig := { parameters := [(.array .byte), .int], returnType := some .byte }, accessFlags := 8, code := some k11c1 }
def k11c2 : Code := { maxStack := 5, maxLocals := 6, code := jdk_52_method_16_code, exceptionTable := #[], attributes := #[] }
def k11m2 : Method := { name := "compress", desc := "([CII)[B", sig := { parameters := [(.array .char), .int, .int], returnType := some (.array .byte) }, accessFlags := 9, code := some k11c2 }
def k11c3 : Code := { maxStack := 3, maxLocals := 7, code := jdk_52_method_21_code, exceptionTable := #[], attributes := #[] }
def k11m3 : Method := { name := "compress", desc := "([CI[BII)I", sig := { parameters := [(.array .char), .int, (.array .byte), .int, .int], returnType := some .int }, accessFlags := 9, code := some k11c3 }
/-- java/lang/StringUTF16 -/
def k11 : Class := { plain "java/lang/StringUTF16" (some 0) with
  accessFlags := 48
  interfaces := #[]
  cf := some (fileOf pool11 12 #[.nestMembers #[627, 629, 369]] #[{ accessFlags := 0, nameIndex := 9, descriptorIndex := 10, attributes := #[] }, { accessFlags := 8, nameIndex := 261, descriptorIndex := 262, attributes := #[] }, { accessFlags := 9, nameIndex := 117, descriptorIndex := 122, attributes := #[] }, { accessFlags := 9, nameIndex := 117, descriptorIndex := 118, attributes := #[] }] 48 6 #[] #[{ accessFlags := 26, nameIndex := 61, descriptorIndex := 62, attributes := #[] }, { accessFlags := 26, nameIndex := 65, descriptorIndex := 62, attributes := #[] }, { accessFlags := 24, nameIndex := 430, descriptorIndex := 62, attributes := #[] }, { accessFlags := 4120, nameIndex := 46, descriptorIndex := 47, attributes := #[] }])
  fields := #[{ name := "HI_BYTE_SHIFT", type := .int, accessFlags := 26, slot := 0, constantValue := 0 }, { name := "LO_BYTE_SHIFT", type := .int, accessFlags := 26, slot := 1, constantValue := 0 }, { name := "MAX_LENGTH", type := .int, accessFlags := 24, slot := 2, constantValue := 0 }, { name := "$assertionsDisabled", type := .boolean, accessFlags := 4120, slot := 3, constantValue := 0 }]
  methods := #[k11m0, k11m1, k11m2, k11m3]
  instanceTypes := #[]
  staticTypes := #[.int, .int, .int, .boolean]
  resolved := Array.replicate 635 none
  statics := none }

def pool12 : Array CpInfo := pool [(2, .class_ 4), (1, u "java/lang/Object"), (0, u "<init>"), (0, u "()V"), (17, .class_ 26), (1, u "jdk/internal/util/Preconditions"), (28, .class_ 56), (0, u "jdk/internal/util/Preconditions$4"), (57, .class_ 115), (0, u "jdk/internal/util/Preconditions$1"), (7, u "SIOOBE_FORMATTER"), (0, u "Ljava/util/function/BiFunction;"), (0, .class_ 126), (0, u "jdk/internal/util/Preconditions$2"), (3, u "AIOOBE_FORMATTER"), (0, .class_ 132), (0, u "jdk/internal/util/Preconditions$3"), (3, u "IOOBE_FORMATTER")] 57

def k12m0 : Method := { name := "<init>", desc := "()V", sig := { parameters := [], returnType := none }, accessFlags := 1, code := none }
/-- jdk/internal/util/Preconditions -/
def k12 : Class := { plain "jdk/internal/util/Preconditions" (some 0) with
  accessFlags := 33
  interfaces := #[]
  cf := some (fileOf pool12 24 #[.nestMembers #[55, 131, 125, 114]] #[{ accessFlags := 1, nameIndex := 5, descriptorIndex := 6, attributes := #[] }] 33 2 #[] #[{ accessFlags := 25, nameIndex := 123, descriptorIndex := 124, attributes := #[] }, { accessFlags := 25, nameIndex := 130, descriptorIndex := 124, attributes := #[] }, { accessFlags := 25, nameIndex := 136, descriptorIndex := 124, attributes := #[] }])
  fields := #[{ name := "SIOOBE_FORMATTER", type := (.object "java/util/function/BiFunction"), accessFlags := 25, slot := 0, constantValue := 0 }, { name := "AIOOBE_FORMATTER", type := (.object "java/util/function/BiFunction"), accessFlags := 25, slot := 1, constantValue := 0 }, { name := "IOOBE_FORMATTER", type := (.object "java/util/function/BiFunction"), accessFlags := 25, slot := 2, constantValue := 0 }]
  methods := #[k12m0]
  instanceTypes := #[]
  staticTypes := #[(.object "java/util/function/BiFunction"), (.object "java/util/function/BiFunction"), (.object "java/util/function/BiFunction")]
  resolved := Array.replicate 194 none
  statics := some 1 }

def pool13 : Array CpInfo := pool [(9, u "<init>"), (6, .class_ 18), (1, u "java/lang/Object"), (0, u "()V"), (1, .class_ 23), (1, u "jdk/internal/util/ArraysSupport"), (0, u "LOG2_ARRAY_LONG_INDEX_SCALE"), (0, u "I"), (2, u "U"), (0, u "Ljdk/internal/misc/Unsafe;"), (8, u "BIG_ENDIAN"), (0, u "Z"), (8, u "LOG2_BYTE_BIT_SIZE"), (4, u "LOG2_ARRAY_INT_INDEX_SCALE"), (54, u "JLA"), (0, u "Ljdk/internal/access/JavaLangAccess;"), (11, u "LOG2_ARRAY_BOOLEAN_INDEX_SCALE"), (9, u "LOG2_ARRAY_BYTE_INDEX_SCALE"), (5, u "LOG2_ARRAY_CHAR_INDEX_SCALE"), (5, u "LOG2_ARRAY_SHORT_INDEX_SCALE"), (18, u "LOG2_ARRAY_FLOAT_INDEX_SCALE"), (24, u "LOG2_ARRAY_DOUBLE_INDEX_SCALE"), (89, u "T_BOOLEAN"), (2, u "T_CHAR"), (1, u "T_FLOAT"), (1, u "T_DOUBLE"), (1, u "T_BYTE"), (1, u "T_SHORT"), (1, u "T_INT"), (1, u "T_LONG"), (1, u "SOFT_MAX_ARRAY_LENGTH")] 83

def k13m0 : Method := { name := "<init>", desc := "()V", sig := { parameters := [], returnType := none }, accessFlags := 2, code := none }
/-- jdk/internal/util/ArraysSupport -/
def k13 : Class := { plain "jdk/internal/util/ArraysSupport" (some 0) with
  accessFlags := 33
  interfaces := #[]
  cf := some (fileOf pool13 21 #[] #[{ accessFlags := 2, nameIndex := 9, descriptorIndex := 19, attributes := #[] }] 33 16 #[] #[{ accessFlags := 24, nameIndex := 28, descriptorIndex := 29, attributes := #[] }, { accessFlags := 26, nameIndex := 38, descriptorIndex := 39, attributes := #[] }, { accessFlags := 25, nameIndex := 121, descriptorIndex := 25, attributes := #[] }, { accessFlags := 25, nameIndex := 131, descriptorIndex := 25, attributes := #[] }, { accessFlags := 25, nameIndex := 137, descriptorIndex := 25, attributes := #[] }, { accessFlags := 25, nameIndex := 143, descriptorIndex := 25, attributes := #[] }, { accessFlags := 25, nameIndex := 53, descriptorIndex := 25, attributes := #[] }, { accessFlags := 25, nameIndex := 24, descriptorIndex := 25, attributes := #[] }, { accessFlags := 25, nameIndex := 162, descriptorIndex := 25, attributes := #[] }, { accessFlags := 25, nameIndex := 187, descriptorIndex := 25, attributes := #[] }, { accessFlags := 26, nameIndex := 48, descriptorIndex := 25, attributes := #[] }, { accessFlags := 25, nameIndex := 277, descriptorIndex := 25, attributes := #[] }, { accessFlags := 25, nameIndex := 280, descriptorIndex := 25, attributes := #[] }, { accessFlags := 25, nameIndex := 282, descriptorIndex := 25, attributes := #[] }, { accessFlags := 25, nameIndex := 284, descriptorIndex := 25, attributes := #[] }, { accessFlags := 25, nameIndex := 286, descriptorIndex := 25, attributes := #[] }, { accessFlags := 25, nameIndex := 288, descriptorIndex := 25, attributes := #[] }, { accessFlags := 25, nameIndex := 290, descriptorIndex := 25, attributes := #[] }, { accessFlags := 25, nameIndex := 292, descriptorIndex := 25, attributes := #[] }, { accessFlags := 26, nameIndex := 108, descriptorIndex := 109, attributes := #[] }, { accessFlags := 25, nameIndex := 294, descriptorIndex := 25, attributes := #[] }])
  fields := #[{ name := "U", type := (.object "jdk/internal/misc/Unsafe"), accessFlags := 24, slot := 0, constantValue := 0 }, { name := "BIG_ENDIAN", type := .boolean, accessFlags := 26, slot := 1, constantValue := 0 }, { name := "LOG2_ARRAY_BOOLEAN_INDEX_SCALE", type := .int, accessFlags := 25, slot := 2, constantValue := 0 }, { name := "LOG2_ARRAY_BYTE_INDEX_SCALE", type := .int, accessFlags := 25, slot := 3, constantValue := 0 }, { name := "LOG2_ARRAY_CHAR_INDEX_SCALE", type := .int, accessFlags := 25, slot := 4, constantValue := 0 }, { name := "LOG2_ARRAY_SHORT_INDEX_SCALE", type := .int, accessFlags := 25, slot := 5, constantValue := 0 }, { name := "LOG2_ARRAY_INT_INDEX_SCALE", type := .int, accessFlags := 25, slot := 6, constantValue := 0 }, { name := "LOG2_ARRAY_LONG_INDEX_SCALE", type := .int, accessFlags := 25, slot := 7, constantValue := 0 }, { name := "LOG2_ARRAY_FLOAT_INDEX_SCALE", type := .int, accessFlags := 25, slot := 8, constantValue := 0 }, { name := "LOG2_ARRAY_DOUBLE_INDEX_SCALE", type := .int, accessFlags := 25, slot := 9, constantValue := 0 }, { name := "LOG2_BYTE_BIT_SIZE", type := .int, accessFlags := 26, slot := 10, constantValue := 0 }, { name := "T_BOOLEAN", type := .int, accessFlags := 25, slot := 11, constantValue := 0 }, { name := "T_CHAR", type := .int, accessFlags := 25, slot := 12, constantValue := 0 }, { name := "T_FLOAT", type := .int, accessFlags := 25, slot := 13, constantValue := 0 }, { name := "T_DOUBLE", type := .int, accessFlags := 25, slot := 14, constantValue := 0 }, { name := "T_BYTE", type := .int, accessFlags := 25, slot := 15, constantValue := 0 }, { name := "T_SHORT", type := .int, accessFlags := 25, slot := 16, constantValue := 0 }, { name := "T_INT", type := .int, accessFlags := 25, slot := 17, constantValue := 0 }, { name := "T_LONG", type := .int, accessFlags := 25, slot := 18, constantValue := 0 }, { name := "JLA", type := (.object "jdk/internal/access/JavaLangAccess"), accessFlags := 26, slot := 19, constantValue := 0 }, { name := "SOFT_MAX_ARRAY_LENGTH", type := .int, accessFlags := 25, slot := 20, constantValue := 0 }]
  methods := #[k13m0]
  instanceTypes := #[]
  staticTypes := #[(.object "jdk/internal/misc/Unsafe"), .boolean, .int, .int, .int, .int, .int, .int, .int, .int, .int, .int, .int, .int, .int, .int, .int, .int, .int, (.object "jdk/internal/access/JavaLangAccess"), .int]
  resolved := Array.replicate 378 none
  statics := none }

def pool14 : Array CpInfo := pool [(1, u "java/lang/Cloneable"), (0, .class_ 1), (0, u "java/lang/Object"), (0, .class_ 3)] 3

/-- java/lang/Cloneable -/
def k14 : Class := { plain "java/lang/Cloneable" (some 0) with
  accessFlags := 1537
  interfaces := #[]
  cf := some (fileOf pool14 2 #[] #[] 1537 4 #[] #[])
  fields := #[]
  methods := #[]
  instanceTypes := #[]
  staticTypes := #[]
  resolved := Array.replicate 8 none
  statics := none }

/-- the primitive byte -/
def k15 : Class := { plain "byte" none with kind := .primitive 'B', accessFlags := 0x411 }
/-- [B -/
def k16 : Class := { plain "[B" (some 0) with kind := .array 15 .byte, interfaces := #[14, 2], accessFlags := 1041 }

/-- the primitive char -/
def k17 : Class := { plain "char" none with kind := .primitive 'C', accessFlags := 0x411 }
/-- [C -/
def k18 : Class := { plain "[C" (some 0) with kind := .array 17 .char, interfaces := #[14, 2], accessFlags := 1041 }

/-- the primitive int -/
def k19 : Class := { plain "int" none with kind := .primitive 'I', accessFlags := 0x411 }
/-- [I -/
def k20 : Class := { plain "[I" (some 0) with kind := .array 19 .int, interfaces := #[14, 2], accessFlags := 1041 }

def heap : Heap := #[{ cls := 7, slots := #[.long 0, .int 1, .null, .int 0, .null, .int 0, .int 0], vm := .statics 7 },
  { cls := 12, slots := #[.null, .null, .null], vm := .statics 12 }]
def classes : Array Class := #[k0, k1, k2, k3, k4, k5, k6, k7, k8, k9, k10, k11, k12, k13, k14, k15, k16, k17, k18, k19, k20]
def interned : List (Array UInt16 × Addr) := []
def slotsUsed : Nat := 10
def theMethod : MethodId := ⟨1, 5⟩
def args0 : Array Value := #[.int 1, .int 2]
def aboutOver (below : List Frame) : State where
  vm := { classes := classes, interned := interned.toArray }
  heap := heap
  slotsUsed := slotsUsed
  threads := #[{ frames := .invoking theMethod args0 :: below }]
def below0 : List Frame := [.native { method := ⟨0, 0⟩, args := #[] }]
def about1 : State := aboutOver below0
def p0 : Program := .bare "" "" ""
def e0 : Env := launch0.env 0 0 0
theorem w_frames : about1.frames = Frame.invoking theMethod args0 :: below0 := rfl
set_option maxRecDepth 65536 in
theorem w_args : argsFit about1.vm theMethod args0 = true := by decide +kernel
set_option maxRecDepth 65536 in
theorem w_heap : heapFits about1 = true := by decide +kernel
set_option maxRecDepth 65536 in
theorem w_runnable : about1.curStatus? = some .runnable := by decide +kernel
set_option maxRecDepth 65536 in
theorem w_alone : about1.alone = true := by decide +kernel
set_option maxRecDepth 65536 in
theorem w_named : about1.methodNamed? x = some theMethod := by decide +kernel
set_option maxRecDepth 65536 in
theorem w_hears : about1.hears theMethod below0 = true := by decide +kernel
set_option maxRecDepth 65536 in
theorem w_ripe : about1.ripe theMethod args0 below0 = true := by decide +kernel
theorem w_running : about1.status = .running := rfl
set_option maxRecDepth 65536 in
theorem w_room : about1.hasRoom e0.platform room_1 = true :=
  launch0.hasRoom_least _ room_1 (by decide +kernel) (by decide +kernel) (by decide +kernel) (by decide +kernel) (by decide +kernel) (by decide +kernel)
theorem allAtoms_all (ts : List Jvm.Cond) (a : Array Jvm.Value) (st : Jvm.State) : (allAtoms ts).before a st = ts.all (fun c => c.before a st) := by
  induction ts with
  | nil => rfl
  | cons c t ih =>
    show (Jvm.Cond.and c (allAtoms t)).before a st = _
    rw [Jvm.Cond.before_and, ih, List.all_cons]
def words1 : List Jvm.Cond := Jvm.Cond.code x code maxLocals ret :: tables_1
/-- a 'code' word, met by the world's own term for the bytes: nothing is compared byte by byte -/
theorem code_word {y : MethodName} {bytes : ByteArray} {mx : Nat} {rt : Option FieldType} {a : Array Value} {s : State} {m : MethodId} {meth : Method} {c : Code} (h1 : s.methodNamed? y = some m) (h2 : s.vm.method? m = some meth) (h3 : meth.code = some c) (h4 : c.code = bytes)
    (h5 : (c.maxLocals == mx && c.exceptionTable.isEmpty && decide (c.maxStack ≤ mostOperands) && decide (meth.sig.returnType = rt) && !meth.locks && decide (parseMethodDescriptor y.desc = some meth.sig)) = true) : (Jvm.Cond.code y bytes mx rt).before a s = true := by
  simp only [Bool.and_eq_true, beq_iff_eq, Bool.not_eq_true', decide_eq_true_eq] at h5
  obtain ⟨⟨⟨⟨⟨g1, g2⟩, g3⟩, g4⟩, g5⟩, g6⟩ := h5
  simp [Cond.before, Cond.holds, Cond.value, h1, h2, h3, h4, g1, g2, g3, g4, g5, g6]
def isCode : Jvm.Cond → Bool
  | .code _ _ _ _ => true
  | _ => false
theorem all_split {L : List Jvm.Cond} {P : Jvm.Cond → Bool} (h1 : L.all (fun c => isCode c || P c) = true) (h2 : ∀ c ∈ L.filter isCode, P c = true) : L.all P = true := by
  refine List.all_eq_true.mpr fun c hc => ?_
  have h := List.all_eq_true.mp h1 c hc
  rcases Bool.eq_false_or_eq_true (isCode c) with hi | hi
  · exact h2 c (List.mem_filter.mpr ⟨hc, hi⟩)
  · simpa [hi] using h
set_option maxRecDepth 65536 in
theorem w_c0 : (Jvm.Cond.code x code maxLocals ret).before args0 about1 = true := code_word (m := ⟨1, 5⟩) (meth := k1m5) (c := k1c5) (by decide +kernel) rfl rfl rfl (by decide +kernel)
set_option maxRecDepth 65536 in
theorem w_c1 : (Jvm.Cond.code ({ cls := "com/example/splode/splode/document/MediaRangeSpecificityPinLaw", name := "str", desc := "(I)Ljava/lang/String;" } : Jvm.MethodName) method_4_code (3 : Nat) (Option.some (Jvm.ClassFile.FieldType.object "java/lang/String"))).before args0 about1 = true := code_word (m := ⟨1, 3⟩) (meth := k1m3) (c := k1c3) (by decide +kernel) rfl rfl rfl (by decide +kernel)
set_option maxRecDepth 65536 in
theorem w_c2 : (Jvm.Cond.code ({ cls := "java/lang/String", name := "valueOf", desc := "(C)Ljava/lang/String;" } : Jvm.MethodName) jdk_42_method_139_code (1 : Nat) (Option.some (Jvm.ClassFile.FieldType.object "java/lang/String"))).before args0 about1 = true := code_word (m := ⟨7, 3⟩) (meth := k7m3) (c := k7c3) (by decide +kernel) rfl rfl rfl (by decide +kernel)
set_option maxRecDepth 65536 in
theorem w_c3 : (Jvm.Cond.code ({ cls := "java/lang/StringLatin1", name := "canEncode", desc := "(C)Z" } : Jvm.MethodName) jdk_43_method_3_code (1 : Nat) (Option.some Jvm.ClassFile.FieldType.boolean)).before args0 about1 = true := code_word (m := ⟨8, 1⟩) (meth := k8m1) (c := k8c1) (by decide +kernel) rfl rfl rfl (by decide +kernel)
set_option maxRecDepth 65536 in
theorem w_c4 : (Jvm.Cond.code ({ cls := "java/lang/StringLatin1", name := "toBytes", desc := "(C)[B" } : Jvm.MethodName) jdk_43_method_46_code (1 : Nat) (Option.some (Jvm.ClassFile.FieldType.array Jvm.ClassFile.FieldType.byte))).before args0 about1 = true := code_word (m := ⟨8, 3⟩) (meth := k8m3) (c := k8c3) (by decide +kernel) rfl rfl rfl (by decide +kernel)
set_option maxRecDepth 65536 in
theorem w_c5 : (Jvm.Cond.code ({ cls := "java/lang/String", name := "<init>", desc := "([BB)V" } : Jvm.MethodName) jdk_42_method_151_code (3 : Nat) (Option.none : Option Jvm.ClassFile.FieldType)).before args0 about1 = true := code_word (m := ⟨7, 5⟩) (meth := k7m5) (c := k7c5) (by decide +kernel) rfl rfl rfl (by decide +kernel)
set_option maxRecDepth 65536 in
theorem w_c6 : (Jvm.Cond.code ({ cls := "java/lang/Object", name := "<init>", desc := "()V" } : Jvm.MethodName) object_method_1_code (1 : Nat) (Option.none : Option Jvm.ClassFile.FieldType)).before args0 about1 = true := code_word (m := ⟨0, 0⟩) (meth := k0m0) (c := k0c0) (by decide +kernel) rfl rfl rfl (by decide +kernel)
set_option maxRecDepth 65536 in
theorem w_c7 : (Jvm.Cond.code ({ cls := "java/lang/String", name := "<init>", desc := "([C)V" } : Jvm.MethodName) jdk_42_method_3_code (2 : Nat) (Option.none : Option Jvm.ClassFile.FieldType)).before args0 about1 = true := code_word (m := ⟨7, 1⟩) (meth := k7m1) (c := k7c1) (by decide +kernel) rfl rfl rfl (by decide +kernel)
set_option maxRecDepth 65536 in
theorem w_c8 : (Jvm.Cond.code ({ cls := "java/lang/String", name := "<init>", desc := "([CIILjava/lang/Void;)V" } : Jvm.MethodName) jdk_42_method_149_code (6 : Nat) (Option.none : Option Jvm.ClassFile.FieldType)).before args0 about1 = true := code_word (m := ⟨7, 4⟩) (meth := k7m4) (c := k7c4) (by decide +kernel) rfl rfl rfl (by decide +kernel)
set_option maxRecDepth 65536 in
theorem w_c9 : (Jvm.Cond.code ({ cls := "com/example/splode/splode/document/MediaRange", name := "<init>", desc := "(Ljava/lang/String;Ljava/lang/String;Ljava/util/Map;)V" } : Jvm.MethodName) prog_34_method_1_code (4 : Nat) (Option.none : Option Jvm.ClassFile.FieldType)).before args0 about1 = true := code_word (m := ⟨10, 0⟩) (meth := k10m0) (c := k10c0) (by decide +kernel) rfl rfl rfl (by decide +kernel)
set_option maxRecDepth 65536 in
theorem w_c10 : (Jvm.Cond.code ({ cls := "java/lang/Record", name := "<init>", desc := "()V" } : Jvm.MethodName) jdk_30_method_1_code (1 : Nat) (Option.none : Option Jvm.ClassFile.FieldType)).before args0 about1 = true := code_word (m := ⟨9, 0⟩) (meth := k9m0) (c := k9c0) (by decide +kernel) rfl rfl rfl (by decide +kernel)
set_option maxRecDepth 65536 in
theorem w_c11 : (Jvm.Cond.code ({ cls := "com/example/splode/splode/document/MediaRangeSpecificityPinLaw", name := "isStar", desc := "(I)Z" } : Jvm.MethodName) method_5_code (2 : Nat) (Option.some Jvm.ClassFile.FieldType.boolean)).before args0 about1 = true := code_word (m := ⟨1, 4⟩) (meth := k1m4) (c := k1c4) (by decide +kernel) rfl rfl rfl (by decide +kernel)
set_option maxRecDepth 65536 in
theorem w_c12 : (Jvm.Cond.code ({ cls := "com/example/splode/splode/document/MediaRange", name := "specificity", desc := "()I" } : Jvm.MethodName) prog_34_method_3_code (2 : Nat) (Option.some Jvm.ClassFile.FieldType.int)).before args0 about1 = true := code_word (m := ⟨10, 1⟩) (meth := k10m1) (c := k10c1) (by decide +kernel) rfl rfl rfl (by decide +kernel)
set_option maxRecDepth 65536 in
theorem w_c13 : (Jvm.Cond.code ({ cls := "java/lang/String", name := "equals", desc := "(Ljava/lang/Object;)Z" } : Jvm.MethodName) jdk_42_method_66_code (3 : Nat) (Option.some Jvm.ClassFile.FieldType.boolean)).before args0 about1 = true := code_word (m := ⟨7, 2⟩) (meth := k7m2) (c := k7c2) (by decide +kernel) rfl rfl rfl (by decide +kernel)
set_option maxRecDepth 65536 in
theorem w_c14 : (Jvm.Cond.code ({ cls := "java/lang/StringLatin1", name := "equals", desc := "([B[B)Z" } : Jvm.MethodName) jdk_43_method_13_code (3 : Nat) (Option.some Jvm.ClassFile.FieldType.boolean)).before args0 about1 = true := code_word (m := ⟨8, 2⟩) (meth := k8m2) (c := k8c2) (by decide +kernel) rfl rfl rfl (by decide +kernel)
set_option maxRecDepth 65536 in
theorem w_c15 : (Jvm.Cond.code ({ cls := "com/example/splode/splode/document/MediaRangeSpecificityPinLaw", name := "c0", desc := "(I)C" } : Jvm.MethodName) method_2_code (1 : Nat) (Option.some Jvm.ClassFile.FieldType.char)).before args0 about1 = true := code_word (m := ⟨1, 1⟩) (meth := k1m1) (c := k1c1) (by decide +kernel) rfl rfl rfl (by decide +kernel)
set_option maxRecDepth 65536 in
theorem w_c16 : (Jvm.Cond.code ({ cls := "com/example/splode/splode/document/MediaRangeSpecificityPinLaw", name := "c1", desc := "(I)C" } : Jvm.MethodName) method_3_code (1 : Nat) (Option.some Jvm.ClassFile.FieldType.char)).before args0 about1 = true := code_word (m := ⟨1, 2⟩) (meth := k1m2) (c := k1c2) (by decide +kernel) rfl rfl rfl (by decide +kernel)
set_option maxRecDepth 65536 in
theorem w_c17 : (Jvm.Cond.code ({ cls := "java/lang/StringUTF16", name := "compress", desc := "([CII)[B" } : Jvm.MethodName) jdk_52_method_16_code (6 : Nat) (Option.some (Jvm.ClassFile.FieldType.array Jvm.ClassFile.FieldType.byte))).before args0 about1 = true := code_word (m := ⟨11, 2⟩) (meth := k11m2) (c := k11c2) (by decide +kernel) rfl rfl rfl (by decide +kernel)
set_option maxRecDepth 65536 in
theorem w_c18 : (Jvm.Cond.code ({ cls := "java/lang/StringUTF16", name := "compress", desc := "([CI[BII)I" } : Jvm.MethodName) jdk_52_method_21_code (7 : Nat) (Option.some Jvm.ClassFile.FieldType.int)).before args0 about1 = true := code_word (m := ⟨11, 3⟩) (meth := k11m3) (c := k11c3) (by decide +kernel) rfl rfl rfl (by decide +kernel)
set_option maxRecDepth 65536 in
theorem w_c19 : (Jvm.Cond.code ({ cls := "java/lang/StringUTF16", name := "coderFromArrayLen", desc := "([BI)B" } : Jvm.MethodName) jdk_52_method_15_code (2 : Nat) (Option.some Jvm.ClassFile.FieldType.byte)).before args0 about1 = true := code_word (m := ⟨11, 1⟩) (meth := k11m1) (c := k11c1) (by decide +kernel) rfl rfl rfl (by decide +kernel)
def codes1 : List Jvm.Cond := [Jvm.Cond.code x code maxLocals ret, Jvm.Cond.code ({ cls := "com/example/splode/splode/document/MediaRangeSpecificityPinLaw", name := "str", desc := "(I)Ljava/lang/String;" } : Jvm.MethodName) method_4_code (3 : Nat) (Option.some (Jvm.ClassFile.FieldType.object "java/lang/String")), Jvm.Cond.code ({ cls := "java/lang/String", name := "valueOf", desc := "(C)Ljava/lang/String;" } : Jvm.MethodName) jdk_42_method_139_code (1 : Nat) (Option.some (Jvm.ClassFile.FieldType.object "java/lang/String")), Jvm.Cond.code ({ cls := "java/lang/StringLatin1", name := "canEncode", desc := "(C)Z" } : Jvm.MethodName) jdk_43_method_3_code (1 : Nat) (Option.some Jvm.ClassFile.FieldType.boolean), Jvm.Cond.code ({ cls := "java/lang/StringLatin1", name := "toBytes", desc := "(C)[B" } : Jvm.MethodName) jdk_43_method_46_code (1 : Nat) (Option.some (Jvm.ClassFile.FieldType.array Jvm.ClassFile.FieldType.byte)), Jvm.Cond.code ({ cls := "java/lang/String", name := "<init>", desc := "([BB)V" } : Jvm.MethodName) jdk_42_method_151_code (3 : Nat) (Option.none : Option Jvm.ClassFile.FieldType), Jvm.Cond.code ({ cls := "java/lang/Object", name := "<init>", desc := "()V" } : Jvm.MethodName) object_method_1_code (1 : Nat) (Option.none : Option Jvm.ClassFile.FieldType), Jvm.Cond.code ({ cls := "java/lang/String", name := "<init>", desc := "([C)V" } : Jvm.MethodName) jdk_42_method_3_code (2 : Nat) (Option.none : Option Jvm.ClassFile.FieldType), Jvm.Cond.code ({ cls := "java/lang/String", name := "<init>", desc := "([CIILjava/lang/Void;)V" } : Jvm.MethodName) jdk_42_method_149_code (6 : Nat) (Option.none : Option Jvm.ClassFile.FieldType), Jvm.Cond.code ({ cls := "com/example/splode/splode/document/MediaRange", name := "<init>", desc := "(Ljava/lang/String;Ljava/lang/String;Ljava/util/Map;)V" } : Jvm.MethodName) prog_34_method_1_code (4 : Nat) (Option.none : Option Jvm.ClassFile.FieldType), Jvm.Cond.code ({ cls := "java/lang/Record", name := "<init>", desc := "()V" } : Jvm.MethodName) jdk_30_method_1_code (1 : Nat) (Option.none : Option Jvm.ClassFile.FieldType), Jvm.Cond.code ({ cls := "com/example/splode/splode/document/MediaRangeSpecificityPinLaw", name := "isStar", desc := "(I)Z" } : Jvm.MethodName) method_5_code (2 : Nat) (Option.some Jvm.ClassFile.FieldType.boolean), Jvm.Cond.code ({ cls := "com/example/splode/splode/document/MediaRange", name := "specificity", desc := "()I" } : Jvm.MethodName) prog_34_method_3_code (2 : Nat) (Option.some Jvm.ClassFile.FieldType.int), Jvm.Cond.code ({ cls := "java/lang/String", name := "equals", desc := "(Ljava/lang/Object;)Z" } : Jvm.MethodName) jdk_42_method_66_code (3 : Nat) (Option.some Jvm.ClassFile.FieldType.boolean), Jvm.Cond.code ({ cls := "java/lang/StringLatin1", name := "equals", desc := "([B[B)Z" } : Jvm.MethodName) jdk_43_method_13_code (3 : Nat) (Option.some Jvm.ClassFile.FieldType.boolean), Jvm.Cond.code ({ cls := "com/example/splode/splode/document/MediaRangeSpecificityPinLaw", name := "c0", desc := "(I)C" } : Jvm.MethodName) method_2_code (1 : Nat) (Option.some Jvm.ClassFile.FieldType.char), Jvm.Cond.code ({ cls := "com/example/splode/splode/document/MediaRangeSpecificityPinLaw", name := "c1", desc := "(I)C" } : Jvm.MethodName) method_3_code (1 : Nat) (Option.some Jvm.ClassFile.FieldType.char), Jvm.Cond.code ({ cls := "java/lang/StringUTF16", name := "compress", desc := "([CII)[B" } : Jvm.MethodName) jdk_52_method_16_code (6 : Nat) (Option.some (Jvm.ClassFile.FieldType.array Jvm.ClassFile.FieldType.byte)), Jvm.Cond.code ({ cls := "java/lang/StringUTF16", name := "compress", desc := "([CI[BII)I" } : Jvm.MethodName) jdk_52_method_21_code (7 : Nat) (Option.some Jvm.ClassFile.FieldType.int), Jvm.Cond.code ({ cls := "java/lang/StringUTF16", name := "coderFromArrayLen", desc := "([BI)B" } : Jvm.MethodName) jdk_52_method_15_code (2 : Nat) (Option.some Jvm.ClassFile.FieldType.byte)]
set_option maxRecDepth 65536 in
theorem codes_eq : words1.filter isCode = codes1 := rfl
theorem w_codes : ∀ c ∈ words1.filter isCode, c.before args0 about1 = true := by
  rw [codes_eq]
  intro c hc
  simp only [codes1, List.mem_cons, List.not_mem_nil, or_false] at hc
  rcases hc with rfl | rfl | rfl | rfl | rfl | rfl | rfl | rfl | rfl | rfl | rfl | rfl | rfl | rfl | rfl | rfl | rfl | rfl | rfl | rfl
  · exact w_c0
  · exact w_c1
  · exact w_c2
  · exact w_c3
  · exact w_c4
  · exact w_c5
  · exact w_c6
  · exact w_c7
  · exact w_c8
  · exact w_c9
  · exact w_c10
  · exact w_c11
  · exact w_c12
  · exact w_c13
  · exact w_c14
  · exact w_c15
  · exact w_c16
  · exact w_c17
  · exact w_c18
  · exact w_c19
set_option maxRecDepth 65536 in
theorem w_t1 : (words1.take 24).all (fun c => isCode c || c.before args0 about1) = true := by decide +kernel
set_option maxRecDepth 65536 in
theorem w_t2 : ((words1.drop 24).take 24).all (fun c => isCode c || c.before args0 about1) = true := by decide +kernel
set_option maxRecDepth 65536 in
theorem w_t3 : (((words1.drop 24).drop 24).take 24).all (fun c => isCode c || c.before args0 about1) = true := by decide +kernel
set_option maxRecDepth 65536 in
theorem w_t4 : (((words1.drop 24).drop 24).drop 24).all (fun c => isCode c || c.before args0 about1) = true := by decide +kernel
theorem w_tables : (allAtoms (Jvm.Cond.code x code maxLocals ret :: tables_1)).before args0 about1 = true := by
  rw [allAtoms_all]
  show words1.all (fun c => c.before args0 about1) = true
  refine all_split ?_ w_codes
  rw [← List.take_append_drop 24 words1, List.all_append, w_t1, ← List.take_append_drop 24 (words1.drop 24), List.all_append, w_t2, ← List.take_append_drop 24 ((words1.drop 24).drop 24), List.all_append, w_t3, w_t4]
  rfl
set_option maxRecDepth 65536 in
theorem w_rest : rest_1_c.before args0 about1 = true := by decide +kernel
set_option maxRecDepth 65536 in
theorem w_case : (Jvm.Cond.and given_1 narrow_1).before args0 about1 = true := by decide +kernel
set_option maxRecDepth 65536 in
theorem w_consts : constsHeld consts_1 about1 := Jvm.Lit.constsHeldB_iff.mp (by decide +kernel)
theorem w_applies : (headSpec (Jvm.Cond.code x code maxLocals ret :: tables_1) room_1).applies x e0.platform about1 = true :=
  (Spec.applies_iff w_frames).mpr ⟨w_running, w_runnable, w_alone, w_named, w_hears, w_ripe, w_room, w_tables⟩
theorem atStart : AtStart classFile x code maxLocals ret World_1 tables_1 room_1 Calls_1 rest_1 Pre_1 launch0 p0 e0 about1 theMethod args0 below0 :=
  ⟨lists_1, trivial, launch0.admits_env _ _ _, launch0.least_env, fairChoices_fair.cas, fairChoices_fair.clock, w_frames, w_args, w_heap, w_applies, ⟨w_consts, trivial⟩, w_rest, w_case⟩
end start1
theorem witness_1 : WitnessClaimed_1 := ⟨start1.p0, start1.e0, start1.about1, start1.theMethod, start1.args0, start1.below0, start1.atStart⟩
end Jvm.Pilot.@@N@@
