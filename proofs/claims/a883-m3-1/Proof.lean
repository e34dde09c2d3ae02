import JvmDerived
import JvmDerived.Pilot.@@N@@Statement
import JvmDerived.Pilot.@@N@@Code
set_option linter.unusedVariables false
set_option linter.unusedSimpArgs false
set_option maxRecDepth 65536
namespace Jvm.Pilot.@@N@@
open Jvm Jvm.ClassFile Sem Op Lib Jvm.Free Jvm.Stand Jvm.LawKit Jvm.RoadKit Bundle Jvm.Pilot.@@N@@.Jvm.D
section OwnKit
variable {p : Program} {l : Launch} {e : Env} {R : Room} {s : State} {m : MethodId} {args : Array Value} {below : List Frame} {meth : Method} {c : Code} {T : State} {locs : List Loc} {cells slots : Nat}
theorem own_retI (X : Stand p l e R s m args below meth c T locs cells slots) (hx : p.tables.exec = Jvm.exec) {pc : Nat} {Ls : Array Slot} {z : Int32} {rest : List Value} (hret : meth.sig.returnType = some .int) (hd : decode c.code pc = .ok (.ireturn, 1)) {fs : List Frame}
    (hl : ∀ (f : JFrame) (acts : List Action), f.method = m → f.locked = none → f.entered = [] → (doReturn e (T.setTop f) acts (some (.int z))).1 = T.setFrames fs) : Steps p.tables e below (T.setTop (mkF m pc Ls (.int z :: rest))) (T.setFrames fs) := by
  have hm' : T.vm.method? m = some meth := X.method'
  have hn : narrow .int (.int z) = .int z := rfl
  show Steps p.tables e below (T.setTop { method := m, pc := pc, locals := Ls, stack := _ :: rest, locked := none }) _
  jvm_step X.here [X.here.top, hx, hd, hm', hret, hn]
  first | (intro acts; rw [hl _ acts rfl rfl rfl]) | rw [hl _ _ rfl rfl rfl]
  exact Steps.refl _
/-- where the run stands, with the same writes and figures as at X -/
abbrev own_like (_ : Stand p l e R s m args below meth c T locs cells slots) (T' : State) : Prop := Stand p l e R s m args below meth c T' locs cells slots
end OwnKit
theorem own_Llt {a b : Int64} (h : a < b) : ifCond.holds .lt (lcmpW a b) = true ∧ ifCond.holds .ge (lcmpW a b) = false ∧ ifCond.holds .gt (lcmpW b a) = true ∧ ifCond.holds .le (lcmpW b a) = false := by
  simp only [if0]
  exact ⟨(tlt ((lw_lt a b).mpr h)).1, (tlt ((lw_lt a b).mpr h)).2.1, (tlt ((lw_gt b a).mpr h)).2.2.1, (tlt ((lw_gt b a).mpr h)).2.2.2⟩
theorem own_Lnl {a b : Int64} (h : ¬ a < b) : ifCond.holds .lt (lcmpW a b) = false ∧ ifCond.holds .ge (lcmpW a b) = true ∧ ifCond.holds .gt (lcmpW b a) = false ∧ ifCond.holds .le (lcmpW b a) = true := by
  simp only [if0]
  have h1 : ¬ lcmpW a b < 0 := fun q => h ((lw_lt a b).mp q)
  have h2 : ¬ 0 < lcmpW b a := fun q => h ((lw_gt b a).mp q)
  exact ⟨(flt h1).1, (flt h1).2.1, (flt h2).2.2.1, (flt h2).2.2.2⟩
theorem own_Leq {a b : Int64} (h : a = b) : ifCond.holds .eq (lcmpW a b) = true ∧ ifCond.holds .ne (lcmpW a b) = false := by
  simp only [if0]
  exact teq ((lw_eq a b).mpr h)
theorem own_Lne {a b : Int64} (h : ¬ a = b) : ifCond.holds .eq (lcmpW a b) = false ∧ ifCond.holds .ne (lcmpW a b) = true := by
  simp only [if0]
  exact feq fun q => h ((lw_eq a b).mp q)
theorem own_StaK {Z : State} {h h' : Heap} {C n d : String} {v : Value} {ws : List Addr} (F : Sta Z h C n d v) (K : Keep h h' ws) (q : ∀ x ∈ ws, ∃ c : Cell, h[x]? = some c ∧ c.vm.isStatics = false) : Sta Z h' C n d v := by
  obtain ⟨cf, i, k, f, st, cell, h1, h2, h3, h4, h5, h6, h7⟩ := F
  refine ⟨cf, i, k, f, st, cell, h1, h2, h3, h4, K.2.1 st cell h5 (fun hm => ?_), h6, h7⟩
  obtain ⟨c, e1, e2⟩ := q _ hm
  rw [h5] at e1
  cases e1
  rw [h6] at e2
  cases e2
theorem own_ExaS {Z : State} {h : Heap} {a : Addr} {C : String} (E : Exa Z h a C) : ∃ c : Cell, h[a]? = some c ∧ c.vm.isStatics = false := by
  obtain ⟨c, k, e1, -, -, e2, -⟩ := E
  exact ⟨c, e1, e2⟩
/-- a boolean as the JVM's int -/
def own_b (b : Bool) : Int32 := if b then 1 else 0
theorem own_b_t : own_b true = 1 := rfl
theorem own_b_f : own_b false = 0 := rfl
theorem own_b0 {b : Bool} : own_b b = 0 ↔ b = false := by cases b <;> decide
theorem own_b_inj {b c : Bool} : own_b b = own_b c ↔ b = c := by cases b <;> cases c <;> decide
theorem own_leafT {b : Bool} (h : b = true) : (some (.int (nar .boolean (1 : Int32))) : Option Value) = some (.int (own_b b)) := by subst h; rfl
theorem own_leafF {b : Bool} (h : b = false) : (some (.int (nar .boolean (0 : Int32))) : Option Value) = some (.int (own_b b)) := by subst h; rfl
theorem own_bt {b : Bool} (h : b = true) : (1 : Int32) = own_b b := by subst h; rfl
theorem own_bf {b : Bool} (h : b = false) : (0 : Int32) = own_b b := by subst h; rfl
theorem own_b_nar (b : Bool) : nar .boolean (own_b b) = own_b b := by cases b <;> rfl
theorem own_ArvS {Z : State} {h : Heap} {a : Addr} {k : ClassId} {ty : FieldType} {z : Int32} {vs : List Value} {dv : Value} (F : Arv Z h a k ty z vs dv) : ∃ c : Cell, h[a]? = some c ∧ c.vm.isStatics = false := by
  obtain ⟨c, A, -⟩ := F
  refine ⟨c, A.1, ?_⟩
  have q := A.2.1.1
  cases hv : c.vm <;> first | rfl | exact absurd hv (q _)
def own_kp (x w : Int64) : Bool := decide (x < (w * (64 : Int64)))
def own_rf (x u : Int64) : Bool := decide (x < (0 : Int64) ∨ ¬ (u / (64 : Int64)) < (x / (64 : Int64)))
theorem own_z1 (x : Int64) : own_b (own_kp x (0 : Int64)) = own_b (decide (x < (0 : Int64))) := by
  rw [own_b_inj]; unfold own_kp; rw [show (0 : Int64) * (64 : Int64) = 0 by decide]
theorem own_plain (x u : Int64) : own_b (own_kp x (((u &&& (4611686018427387903 : Int64)) / (64 : Int64)) + (1 : Int64))) = own_b (own_rf x (u &&& (4611686018427387903 : Int64))) := by
  rw [own_b_inj]
  unfold own_kp own_rf
  have m := c_maskL u (4611686018427387903 : Int64) 62 (by decide) (by decide)
  have m0 : 0 ≤ (u &&& (4611686018427387903 : Int64)).toInt ∧ (u &&& (4611686018427387903 : Int64)).toInt < 4611686018427387904 := by omega
  generalize (u &&& (4611686018427387903 : Int64)) = a at m0 ⊢
  rw [decide_eq_decide, Int64.lt_iff_toInt_lt, Int64.lt_iff_toInt_lt, Int64.lt_iff_toInt_lt]
  have d1 := (c_ldiv a 64 64 rfl (by decide)).1 m0.1
  have d2 := c_ldiv x 64 64 rfl (by decide)
  have s1 := c_ladd (a / 64) 1
  have r1 := rng64 (a / 64 + 1)
  have s2 := c_lmul (a / 64 + 1) 64
  have r2 := rng64 ((a / 64 + 1) * 64)
  have z1 : (1 : Int64).toInt = 1 := rfl
  have z64 : (64 : Int64).toInt = 64 := rfl
  have z0 : (0 : Int64).toInt = 0 := rfl
  rw [z64] at s2
  have e1 : (a / 64 + 1).toInt = a.toInt / 64 + 1 := by omega
  rw [e1] at s2
  have e2 : ((a / 64 + 1) * 64).toInt = (a.toInt / 64 + 1) * 64 := by omega
  rw [e2, z0, d1]
  by_cases hx : x.toInt < 0
  · simp only [hx, true_or, iff_true]
    omega
  · have d3 := d2.1 (by omega)
    rw [d3]
    omega
theorem own_d1_0 : decode prog_5_method_1_code 0 = .ok (.aload_n 0, 1) := by decide +kernel
theorem own_d1_1 : decode prog_5_method_1_code 1 = .ok (.invokespecial 1, 3) := by decide +kernel
theorem own_d1_4 : decode prog_5_method_1_code 4 = .ok (.aload_n 0, 1) := by decide +kernel
theorem own_d1_5 : decode prog_5_method_1_code 5 = .ok (.iconst 1, 1) := by decide +kernel
theorem own_d1_6 : decode prog_5_method_1_code 6 = .ok (.newarray .long, 2) := by decide +kernel
theorem own_d1_8 : decode prog_5_method_1_code 8 = .ok (.putfield 7, 3) := by decide +kernel
theorem own_d1_11 : decode prog_5_method_1_code 11 = .ok (.aload_n 0, 1) := by decide +kernel
theorem own_d1_12 : decode prog_5_method_1_code 12 = .ok (.iconst 1, 1) := by decide +kernel
theorem own_d1_13 : decode prog_5_method_1_code 13 = .ok (.newarray .long, 2) := by decide +kernel
theorem own_d1_15 : decode prog_5_method_1_code 15 = .ok (.putfield 13, 3) := by decide +kernel
theorem own_d1_18 : decode prog_5_method_1_code 18 = .ok (.aload_n 0, 1) := by decide +kernel
theorem own_d1_19 : decode prog_5_method_1_code 19 = .ok (.iconst 1, 1) := by decide +kernel
theorem own_d1_20 : decode prog_5_method_1_code 20 = .ok (.newarray .long, 2) := by decide +kernel
theorem own_d1_22 : decode prog_5_method_1_code 22 = .ok (.putfield 16, 3) := by decide +kernel
theorem own_d1_25 : decode prog_5_method_1_code 25 = .ok (.aload_n 0, 1) := by decide +kernel
theorem own_d1_26 : decode prog_5_method_1_code 26 = .ok (.iload_n 1, 1) := by decide +kernel
theorem own_d1_27 : decode prog_5_method_1_code 27 = .ok (.newarray .int, 2) := by decide +kernel
theorem own_d1_29 : decode prog_5_method_1_code 29 = .ok (.putfield 19, 3) := by decide +kernel
theorem own_d1_32 : decode prog_5_method_1_code 32 = .ok (.aload_n 0, 1) := by decide +kernel
theorem own_d1_33 : decode prog_5_method_1_code 33 = .ok (.iload_n 1, 1) := by decide +kernel
theorem own_d1_34 : decode prog_5_method_1_code 34 = .ok (.newarray .boolean, 2) := by decide +kernel
theorem own_d1_36 : decode prog_5_method_1_code 36 = .ok (.putfield 23, 3) := by decide +kernel
theorem own_d1_39 : decode prog_5_method_1_code 39 = .ok (.return_, 1) := by decide +kernel
theorem own_ef1 (m : MethodId) (x0 : Addr) (x1 : Int32) : entryFrame m #[(.ref x0), (.int x1)] 2 = mkF m 0 #[.val (.ref x0), .val (.int x1)] [] := by first | (simp [entryFrame, mkF, argsToLocals, Value.category]; done) | rfl
def own_Q1 (Z : State) (a : Addr) (n : Int32) (h0 : Heap) (n0 : Nat) (v : Option Value) (h : Heap) (L : List Loc) : Prop := v = none ∧ Fr n0 L ∧ Keep h0 h [a] ∧ Exa Z h a "com/example/siteward/siteward/assignment/LoadListing" ∧ Fld Z h a "com/example/siteward/siteward/assignment/LoadListing" "words" "J" (.long (0 : Int64)) ∧ Fld Z h a "com/example/siteward/siteward/assignment/LoadListing" "count" "I" (.int (0 : Int32)) ∧ Fld Z h a "com/example/siteward/siteward/assignment/LoadListing" "size" "I" (.int (0 : Int32)) ∧ Fld Z h a "com/example/siteward/siteward/assignment/LoadListing" "asBits" "Z" (.int (0 : Int32)) ∧ Fld Z h a "com/example/siteward/siteward/assignment/LoadListing" "unit" "J" (.long (0 : Int64)) ∧ ∃ (lb : Addr) (kk : ClassId), n0 ≤ lb ∧ h0.size ≤ lb ∧ a ≠ lb ∧ Fld Z h a "com/example/siteward/siteward/assignment/LoadListing" "loads" "[J" (.ref lb) ∧ Arv Z h lb kk .long (1 : Int32) [(.long (0 : Int64))] (.long (0 : Int64))
theorem own_pn0 : plainName "com/example/siteward/siteward/assignment/LoadListing" = true := by first | (simp [plainName, overriddenIn]; done) | decide +kernel
set_option maxHeartbeats 40000000 in
theorem own_rm1 (l : Launch) (Z : State) (a0 : Array Value) (hw : ∀ d ∈ tables_1, d.before a0 Z = true) (ws : List Jvm.Cond) (a : Addr) (n : Int32) (h0 : Heap) (n0 : Nat) (Z0 : n0 ≤ h0.size) (E_a : Exa Z h0 a "com/example/siteward/siteward/assignment/LoadListing") (g_a : n0 ≤ a) (F_loads : Fld Z h0 a "com/example/siteward/siteward/assignment/LoadListing" "loads" "[J" .null) (F_merged : Fld Z h0 a "com/example/siteward/siteward/assignment/LoadListing" "merged" "[J" .null) (F_bits : Fld Z h0 a "com/example/siteward/siteward/assignment/LoadListing" "bits" "[J" .null) (F_listed : Fld Z h0 a "com/example/siteward/siteward/assignment/LoadListing" "listed" "[I" .null) (F_isListed : Fld Z h0 a "com/example/siteward/siteward/assignment/LoadListing" "isListed" "[Z" .null) (F_words : Fld Z h0 a "com/example/siteward/siteward/assignment/LoadListing" "words" "J" (.long (0 : Int64))) (F_count : Fld Z h0 a "com/example/siteward/siteward/assignment/LoadListing" "count" "I" (.int (0 : Int32))) (F_size : Fld Z h0 a "com/example/siteward/siteward/assignment/LoadListing" "size" "I" (.int (0 : Int32))) (F_asBits : Fld Z h0 a "com/example/siteward/siteward/assignment/LoadListing" "asBits" "Z" (.int (0 : Int32))) (F_unit : Fld Z h0 a "com/example/siteward/siteward/assignment/LoadListing" "unit" "J" (.long (0 : Int64))) (hn0 : ¬ n < (0 : Int32)) (hn4 : n.toNatClampNeg ≤ 4) :
    MetFree l (⟨"com/example/siteward/siteward/assignment/LoadListing", "<init>", "(I)V"⟩ : MethodName) (head1 (Jvm.Cond.code (⟨"com/example/siteward/siteward/assignment/LoadListing", "<init>", "(I)V"⟩ : MethodName) prog_5_method_1_code 2 none :: ws) ({ frames := 1, cells := 5, slots := 11, locals := 12 } : Room)) (fun argv U => argv = #[(.ref a), (.int n)] ∧ Z.Warmed39 U.vm ∧ U.heap = h0) (fun _ _ _ _ _ => True) (fun _ U o U' => ∃ v L, o = .returned v ∧ own_Q1 Z a n h0 n0 v U'.heap L ∧ FrameEnd U o U' L ({ frames := 1, cells := 5, slots := 11, locals := 12 } : Room).cells ({ frames := 1, cells := 5, slots := 11, locals := 12 } : Room).slots) := by
  refine MetFree.of_bodySF (plainFor_of_name own_pn0) hisR ?_
  intro p e s m args below meth c s₁ Bd hml0 hP hK
  obtain ⟨rfl, hZ, hh⟩ := hP
  have hx := Bd.exec
  have hby := Bd.bytes
  have hml : c.maxLocals = 2 := hml0
  have hown : s.vm.findClass "com/example/siteward/siteward/assignment/LoadListing" = some m.cls := findClass_of_methodNamed Bd.named
  have hnm := (name_of_methodNamed Bd.named Bd.method).1
  have X0 : Stand p l e ({ frames := 1, cells := 5, slots := 11, locals := 12 } : Room) s m #[(.ref a), (.int n)] below meth c s₁ [] 0 0 := Stand.of_body Bd
  have e0 : s₁.heap = h0 := by rw [← hh, Bd.state]; rfl
  have N0 := Fr.nil n0
  have pre0 : ∀ t, Steps p.tables e below (s₁.setTop (mkF m 0 #[.val (.ref a), .val (.int n)] [])) t → Steps p.tables e below (s₁.setTop (entryFrame m #[(.ref a), (.int n)] 2)) t := fun t k => castTop (own_ef1 m a n) k
  have S1 : ∀ t, Steps p.tables e below (s₁.setTop (mkF m 1 #[.val (.ref a), .val (.int n)] [(.ref a)])) t → Steps p.tables e below (s₁.setTop (entryFrame m #[(.ref a), (.int n)] 2)) t := fun t kt => by
    refine pre0 t ?_
    show Steps p.tables e below (s₁.setTop (mkF m 0 #[.val (.ref a), .val (.int n)] [])) t
    refine XS.aloadN X0.here hx rfl (hb hby own_d1_0) rfl rfl ?_
    exact kt
  obtain ⟨T2, X2, e2, st2⟩ := initO X0 hx hZ hown (hw _ (List.mem_of_getElem? (i := 6) rfl)) (hw _ (List.mem_of_getElem? (i := 7) rfl)) (hw _ (List.mem_of_getElem? (i := 8) rfl)) e0 (g := (mkF m 1 #[.val (.ref a), .val (.int n)] [(.ref a)])) rfl (by rw [hml]; rfl) rfl (hb hby own_d1_1) (by decide) (W := 0) (by show 2 * 0 + _ ≤ _; exact Nat.le_of_eq rfl) (by decide)
  have S3 : ∀ t, Steps p.tables e below (T2.setTop (mkF m 4 #[.val (.ref a), .val (.int n)] [])) t → Steps p.tables e below (s₁.setTop (entryFrame m #[(.ref a), (.int n)] 2)) t := fun t kt => S1 t (st2 _ kt)
  have S4 : ∀ t, Steps p.tables e below (T2.setTop (mkF m 6 #[.val (.ref a), .val (.int n)] [(.int (1 : Int32)), (.ref a)])) t → Steps p.tables e below (s₁.setTop (entryFrame m #[(.ref a), (.int n)] 2)) t := fun t kt => by
    refine S3 t ?_
    show Steps p.tables e below (T2.setTop (mkF m 4 #[.val (.ref a), .val (.int n)] [])) t
    refine XS.aloadN X2.here hx rfl (hb hby own_d1_4) rfl rfl ?_
    show Steps p.tables e below (T2.setTop (mkF m 5 #[.val (.ref a), .val (.int n)] [(.ref a)])) t
    refine XS.iconst X2.here hx rfl (hb hby own_d1_5) ?_
    exact kt
  obtain ⟨T5, h5, k5, X5, e5, E5, A5, st5⟩ := newP X2 hx hZ (hw _ (List.mem_of_getElem? (i := 9) rfl)) e2 (g := (mkF m 6 #[.val (.ref a), .val (.int n)] [(.int (1 : Int32)), (.ref a)])) rfl (hb hby own_d1_6) rfl (by decide) (cap := 1) (by decide) (by decide) (by decide) (by decide)
  obtain ⟨b5, g5⟩ : ∃ z, z = h0.size := ⟨_, rfl⟩
  rw [← g5] at A5 st5
  have S6 : ∀ t, Steps p.tables e below (T5.setTop (mkF m 8 #[.val (.ref a), .val (.int n)] [(.ref b5), (.ref a)])) t → Steps p.tables e below (s₁.setTop (entryFrame m #[(.ref a), (.int n)] 2)) t := fun t kt => S4 t (st5 _ kt)
  have g_b5 : n0 ≤ b5 := Nat.le_trans Z0 (Nat.le_of_eq g5.symm)
  have sz_b5 : h0.size ≤ b5 := Nat.le_trans (Keep.refl h0 [a]).1 (Nat.le_of_eq g5.symm)
  have ne_a_b5 : a ≠ b5 := Nat.ne_of_lt (Nat.lt_of_lt_of_le E_a.lt (Nat.le_of_eq g5.symm))
  have F7 := E_a.ext E5
  have F8 := F_loads.ext E5
  have F9 := F_merged.ext E5
  have F10 := F_bits.ext E5
  have F11 := F_listed.ext E5
  have F12 := F_isListed.ext E5
  have F13 := F_words.ext E5
  have F14 := F_count.ext E5
  have F15 := F_size.ext E5
  have F16 := F_asBits.ext E5
  have F17 := F_unit.ext E5
  have K18 : Keep h0 h5 [a] := (Keep.refl h0 [a]).ext E5
  have V19 : Arv Z h5 b5 k5 .long (1 : Int32) [(.long (0 : Int64))] (.long (0 : Int64)) := (Arv.new A5 (by decide)).pad (pad_rep [] (.long (0 : Int64)) 1)
  obtain ⟨T20, h20, X20, e20, W20, st20⟩ := putF X5 hx hZ hown (host := "") (Or.inl (hw _ (List.mem_of_getElem? (i := 10) rfl))) Via.refl e5 F8 F7 (Or.inl (hw _ (List.mem_of_getElem? (i := 11) rfl))) (hw _ (List.mem_of_getElem? (i := 1) rfl)) (ty := (.array .long)) (by decide) rfl rfl (g := (mkF m 8 #[.val (.ref a), .val (.int n)] [(.ref b5), (.ref a)])) rfl rfl (hb hby own_d1_8)
  have S21 : ∀ t, Steps p.tables e below (T20.setTop (mkF m 11 #[.val (.ref a), .val (.int n)] [])) t → Steps p.tables e below (s₁.setTop (entryFrame m #[(.ref a), (.int n)] 2)) t := fun t kt => S6 t (st20 _ kt)
  have F22 := F7.wr W20
  have F23 := F8.same W20
  have F24 := F9.other W20 (Or.inr (slot_ne (Or.inl (hw _ (List.mem_of_getElem? (i := 13) rfl))) (Or.inl (hw _ (List.mem_of_getElem? (i := 11) rfl))) (by decide) (t := (.array .long)) (t' := (.array .long)) (by decide) (by decide)))
  have F25 := F10.other W20 (Or.inr (slot_ne (Or.inl (hw _ (List.mem_of_getElem? (i := 15) rfl))) (Or.inl (hw _ (List.mem_of_getElem? (i := 11) rfl))) (by decide) (t := (.array .long)) (t' := (.array .long)) (by decide) (by decide)))
  have F26 := F11.other W20 (Or.inr (slot_ne (Or.inr (hw _ (List.mem_of_getElem? (i := 18) rfl))) (Or.inl (hw _ (List.mem_of_getElem? (i := 11) rfl))) (by decide) (t := (.array .int)) (t' := (.array .long)) (by decide) (by decide)))
  have F27 := F12.other W20 (Or.inr (slot_ne (Or.inr (hw _ (List.mem_of_getElem? (i := 21) rfl))) (Or.inl (hw _ (List.mem_of_getElem? (i := 11) rfl))) (by decide) (t := (.array .boolean)) (t' := (.array .long)) (by decide) (by decide)))
  have F28 := F13.other W20 (Or.inr (slot_ne (Or.inl (hw _ (List.mem_of_getElem? (i := 28) rfl))) (Or.inl (hw _ (List.mem_of_getElem? (i := 11) rfl))) (by decide) (t := .long) (t' := (.array .long)) (by decide) (by decide)))
  have F29 := F14.other W20 (Or.inr (slot_ne (Or.inl (hw _ (List.mem_of_getElem? (i := 37) rfl))) (Or.inl (hw _ (List.mem_of_getElem? (i := 11) rfl))) (by decide) (t := .int) (t' := (.array .long)) (by decide) (by decide)))
  have F30 := F15.other W20 (Or.inr (slot_ne (Or.inl (hw _ (List.mem_of_getElem? (i := 39) rfl))) (Or.inl (hw _ (List.mem_of_getElem? (i := 11) rfl))) (by decide) (t := .int) (t' := (.array .long)) (by decide) (by decide)))
  have F31 := F16.other W20 (Or.inr (slot_ne (Or.inl (hw _ (List.mem_of_getElem? (i := 41) rfl))) (Or.inl (hw _ (List.mem_of_getElem? (i := 11) rfl))) (by decide) (t := .boolean) (t' := (.array .long)) (by decide) (by decide)))
  have F32 := F17.other W20 (Or.inr (slot_ne (Or.inl (hw _ (List.mem_of_getElem? (i := 46) rfl))) (Or.inl (hw _ (List.mem_of_getElem? (i := 11) rfl))) (by decide) (t := .long) (t' := (.array .long)) (by decide) (by decide)))
  have F33 := V19.other W20 (Ne.symm ne_a_b5)
  have N34 := Fr.snoc X20 N0 g_a
  have K35 : Keep h0 h20 [a] := K18.wr W20 (Or.inl (List.mem_of_getElem? (i := 0) rfl))
  have S36 : ∀ t, Steps p.tables e below (T20.setTop (mkF m 13 #[.val (.ref a), .val (.int n)] [(.int (1 : Int32)), (.ref a)])) t → Steps p.tables e below (s₁.setTop (entryFrame m #[(.ref a), (.int n)] 2)) t := fun t kt => by
    refine S21 t ?_
    show Steps p.tables e below (T20.setTop (mkF m 11 #[.val (.ref a), .val (.int n)] [])) t
    refine XS.aloadN X20.here hx rfl (hb hby own_d1_11) rfl rfl ?_
    show Steps p.tables e below (T20.setTop (mkF m 12 #[.val (.ref a), .val (.int n)] [(.ref a)])) t
    refine XS.iconst X20.here hx rfl (hb hby own_d1_12) ?_
    exact kt
  obtain ⟨T37, h37, k37, X37, e37, E37, A37, st37⟩ := newP X20 hx hZ (hw _ (List.mem_of_getElem? (i := 9) rfl)) e20 (g := (mkF m 13 #[.val (.ref a), .val (.int n)] [(.int (1 : Int32)), (.ref a)])) rfl (hb hby own_d1_13) rfl (by decide) (cap := 1) (by decide) (by decide) (by decide) (by decide)
  obtain ⟨b37, g37⟩ : ∃ z, z = h20.size := ⟨_, rfl⟩
  rw [← g37] at A37 st37
  have S38 : ∀ t, Steps p.tables e below (T37.setTop (mkF m 15 #[.val (.ref a), .val (.int n)] [(.ref b37), (.ref a)])) t → Steps p.tables e below (s₁.setTop (entryFrame m #[(.ref a), (.int n)] 2)) t := fun t kt => S36 t (st37 _ kt)
  have g_b37 : n0 ≤ b37 := Nat.le_trans (Nat.le_trans Z0 K35.1) (Nat.le_of_eq g37.symm)
  have sz_b37 : h0.size ≤ b37 := Nat.le_trans K35.1 (Nat.le_of_eq g37.symm)
  have ne_a_b37 : a ≠ b37 := Nat.ne_of_lt (Nat.lt_of_lt_of_le F22.lt (Nat.le_of_eq g37.symm))
  have ne_b5_b37 : b5 ≠ b37 := Nat.ne_of_lt (Nat.lt_of_lt_of_le F33.lt (Nat.le_of_eq g37.symm))
  have F39 := F22.ext E37
  have F40 := F23.ext E37
  have F41 := F24.ext E37
  have F42 := F25.ext E37
  have F43 := F26.ext E37
  have F44 := F27.ext E37
  have F45 := F28.ext E37
  have F46 := F29.ext E37
  have F47 := F30.ext E37
  have F48 := F31.ext E37
  have F49 := F32.ext E37
  have F50 := F33.ext E37
  have K51 : Keep h0 h37 [a] := K35.ext E37
  have V52 : Arv Z h37 b37 k37 .long (1 : Int32) [(.long (0 : Int64))] (.long (0 : Int64)) := (Arv.new A37 (by decide)).pad (pad_rep [] (.long (0 : Int64)) 1)
  obtain ⟨T53, h53, X53, e53, W53, st53⟩ := putF X37 hx hZ hown (host := "") (Or.inl (hw _ (List.mem_of_getElem? (i := 12) rfl))) Via.refl e37 F41 F39 (Or.inl (hw _ (List.mem_of_getElem? (i := 13) rfl))) (hw _ (List.mem_of_getElem? (i := 1) rfl)) (ty := (.array .long)) (by decide) rfl rfl (g := (mkF m 15 #[.val (.ref a), .val (.int n)] [(.ref b37), (.ref a)])) rfl rfl (hb hby own_d1_15)
  have S54 : ∀ t, Steps p.tables e below (T53.setTop (mkF m 18 #[.val (.ref a), .val (.int n)] [])) t → Steps p.tables e below (s₁.setTop (entryFrame m #[(.ref a), (.int n)] 2)) t := fun t kt => S38 t (st53 _ kt)
  have F55 := F39.wr W53
  have F56 := F40.other W53 (Or.inr (slot_ne (Or.inl (hw _ (List.mem_of_getElem? (i := 11) rfl))) (Or.inl (hw _ (List.mem_of_getElem? (i := 13) rfl))) (by decide) (t := (.array .long)) (t' := (.array .long)) (by decide) (by decide)))
  have F57 := F41.same W53
  have F58 := F42.other W53 (Or.inr (slot_ne (Or.inl (hw _ (List.mem_of_getElem? (i := 15) rfl))) (Or.inl (hw _ (List.mem_of_getElem? (i := 13) rfl))) (by decide) (t := (.array .long)) (t' := (.array .long)) (by decide) (by decide)))
  have F59 := F43.other W53 (Or.inr (slot_ne (Or.inr (hw _ (List.mem_of_getElem? (i := 18) rfl))) (Or.inl (hw _ (List.mem_of_getElem? (i := 13) rfl))) (by decide) (t := (.array .int)) (t' := (.array .long)) (by decide) (by decide)))
  have F60 := F44.other W53 (Or.inr (slot_ne (Or.inr (hw _ (List.mem_of_getElem? (i := 21) rfl))) (Or.inl (hw _ (List.mem_of_getElem? (i := 13) rfl))) (by decide) (t := (.array .boolean)) (t' := (.array .long)) (by decide) (by decide)))
  have F61 := F45.other W53 (Or.inr (slot_ne (Or.inl (hw _ (List.mem_of_getElem? (i := 28) rfl))) (Or.inl (hw _ (List.mem_of_getElem? (i := 13) rfl))) (by decide) (t := .long) (t' := (.array .long)) (by decide) (by decide)))
  have F62 := F46.other W53 (Or.inr (slot_ne (Or.inl (hw _ (List.mem_of_getElem? (i := 37) rfl))) (Or.inl (hw _ (List.mem_of_getElem? (i := 13) rfl))) (by decide) (t := .int) (t' := (.array .long)) (by decide) (by decide)))
  have F63 := F47.other W53 (Or.inr (slot_ne (Or.inl (hw _ (List.mem_of_getElem? (i := 39) rfl))) (Or.inl (hw _ (List.mem_of_getElem? (i := 13) rfl))) (by decide) (t := .int) (t' := (.array .long)) (by decide) (by decide)))
  have F64 := F48.other W53 (Or.inr (slot_ne (Or.inl (hw _ (List.mem_of_getElem? (i := 41) rfl))) (Or.inl (hw _ (List.mem_of_getElem? (i := 13) rfl))) (by decide) (t := .boolean) (t' := (.array .long)) (by decide) (by decide)))
  have F65 := F49.other W53 (Or.inr (slot_ne (Or.inl (hw _ (List.mem_of_getElem? (i := 46) rfl))) (Or.inl (hw _ (List.mem_of_getElem? (i := 13) rfl))) (by decide) (t := .long) (t' := (.array .long)) (by decide) (by decide)))
  have F66 := F50.other W53 (Ne.symm ne_a_b5)
  have F67 := V52.other W53 (Ne.symm ne_a_b37)
  have N68 := Fr.snoc X53 N34 g_a
  have K69 : Keep h0 h53 [a] := K51.wr W53 (Or.inl (List.mem_of_getElem? (i := 0) rfl))
  have S70 : ∀ t, Steps p.tables e below (T53.setTop (mkF m 20 #[.val (.ref a), .val (.int n)] [(.int (1 : Int32)), (.ref a)])) t → Steps p.tables e below (s₁.setTop (entryFrame m #[(.ref a), (.int n)] 2)) t := fun t kt => by
    refine S54 t ?_
    show Steps p.tables e below (T53.setTop (mkF m 18 #[.val (.ref a), .val (.int n)] [])) t
    refine XS.aloadN X53.here hx rfl (hb hby own_d1_18) rfl rfl ?_
    show Steps p.tables e below (T53.setTop (mkF m 19 #[.val (.ref a), .val (.int n)] [(.ref a)])) t
    refine XS.iconst X53.here hx rfl (hb hby own_d1_19) ?_
    exact kt
  obtain ⟨T71, h71, k71, X71, e71, E71, A71, st71⟩ := newP X53 hx hZ (hw _ (List.mem_of_getElem? (i := 9) rfl)) e53 (g := (mkF m 20 #[.val (.ref a), .val (.int n)] [(.int (1 : Int32)), (.ref a)])) rfl (hb hby own_d1_20) rfl (by decide) (cap := 1) (by decide) (by decide) (by decide) (by decide)
  obtain ⟨b71, g71⟩ : ∃ z, z = h53.size := ⟨_, rfl⟩
  rw [← g71] at A71 st71
  have S72 : ∀ t, Steps p.tables e below (T71.setTop (mkF m 22 #[.val (.ref a), .val (.int n)] [(.ref b71), (.ref a)])) t → Steps p.tables e below (s₁.setTop (entryFrame m #[(.ref a), (.int n)] 2)) t := fun t kt => S70 t (st71 _ kt)
  have g_b71 : n0 ≤ b71 := Nat.le_trans (Nat.le_trans Z0 K69.1) (Nat.le_of_eq g71.symm)
  have sz_b71 : h0.size ≤ b71 := Nat.le_trans K69.1 (Nat.le_of_eq g71.symm)
  have ne_a_b71 : a ≠ b71 := Nat.ne_of_lt (Nat.lt_of_lt_of_le F55.lt (Nat.le_of_eq g71.symm))
  have ne_b5_b71 : b5 ≠ b71 := Nat.ne_of_lt (Nat.lt_of_lt_of_le F66.lt (Nat.le_of_eq g71.symm))
  have ne_b37_b71 : b37 ≠ b71 := Nat.ne_of_lt (Nat.lt_of_lt_of_le F67.lt (Nat.le_of_eq g71.symm))
  have F73 := F55.ext E71
  have F74 := F56.ext E71
  have F75 := F57.ext E71
  have F76 := F58.ext E71
  have F77 := F59.ext E71
  have F78 := F60.ext E71
  have F79 := F61.ext E71
  have F80 := F62.ext E71
  have F81 := F63.ext E71
  have F82 := F64.ext E71
  have F83 := F65.ext E71
  have F84 := F66.ext E71
  have F85 := F67.ext E71
  have K86 : Keep h0 h71 [a] := K69.ext E71
  have V87 : Arv Z h71 b71 k71 .long (1 : Int32) [(.long (0 : Int64))] (.long (0 : Int64)) := (Arv.new A71 (by decide)).pad (pad_rep [] (.long (0 : Int64)) 1)
  obtain ⟨T88, h88, X88, e88, W88, st88⟩ := putF X71 hx hZ hown (host := "") (Or.inl (hw _ (List.mem_of_getElem? (i := 14) rfl))) Via.refl e71 F76 F73 (Or.inl (hw _ (List.mem_of_getElem? (i := 15) rfl))) (hw _ (List.mem_of_getElem? (i := 1) rfl)) (ty := (.array .long)) (by decide) rfl rfl (g := (mkF m 22 #[.val (.ref a), .val (.int n)] [(.ref b71), (.ref a)])) rfl rfl (hb hby own_d1_22)
  have S89 : ∀ t, Steps p.tables e below (T88.setTop (mkF m 25 #[.val (.ref a), .val (.int n)] [])) t → Steps p.tables e below (s₁.setTop (entryFrame m #[(.ref a), (.int n)] 2)) t := fun t kt => S72 t (st88 _ kt)
  have F90 := F73.wr W88
  have F91 := F74.other W88 (Or.inr (slot_ne (Or.inl (hw _ (List.mem_of_getElem? (i := 11) rfl))) (Or.inl (hw _ (List.mem_of_getElem? (i := 15) rfl))) (by decide) (t := (.array .long)) (t' := (.array .long)) (by decide) (by decide)))
  have F92 := F75.other W88 (Or.inr (slot_ne (Or.inl (hw _ (List.mem_of_getElem? (i := 13) rfl))) (Or.inl (hw _ (List.mem_of_getElem? (i := 15) rfl))) (by decide) (t := (.array .long)) (t' := (.array .long)) (by decide) (by decide)))
  have F93 := F76.same W88
  have F94 := F77.other W88 (Or.inr (slot_ne (Or.inr (hw _ (List.mem_of_getElem? (i := 18) rfl))) (Or.inl (hw _ (List.mem_of_getElem? (i := 15) rfl))) (by decide) (t := (.array .int)) (t' := (.array .long)) (by decide) (by decide)))
  have F95 := F78.other W88 (Or.inr (slot_ne (Or.inr (hw _ (List.mem_of_getElem? (i := 21) rfl))) (Or.inl (hw _ (List.mem_of_getElem? (i := 15) rfl))) (by decide) (t := (.array .boolean)) (t' := (.array .long)) (by decide) (by decide)))
  have F96 := F79.other W88 (Or.inr (slot_ne (Or.inl (hw _ (List.mem_of_getElem? (i := 28) rfl))) (Or.inl (hw _ (List.mem_of_getElem? (i := 15) rfl))) (by decide) (t := .long) (t' := (.array .long)) (by decide) (by decide)))
  have F97 := F80.other W88 (Or.inr (slot_ne (Or.inl (hw _ (List.mem_of_getElem? (i := 37) rfl))) (Or.inl (hw _ (List.mem_of_getElem? (i := 15) rfl))) (by decide) (t := .int) (t' := (.array .long)) (by decide) (by decide)))
  have F98 := F81.other W88 (Or.inr (slot_ne (Or.inl (hw _ (List.mem_of_getElem? (i := 39) rfl))) (Or.inl (hw _ (List.mem_of_getElem? (i := 15) rfl))) (by decide) (t := .int) (t' := (.array .long)) (by decide) (by decide)))
  have F99 := F82.other W88 (Or.inr (slot_ne (Or.inl (hw _ (List.mem_of_getElem? (i := 41) rfl))) (Or.inl (hw _ (List.mem_of_getElem? (i := 15) rfl))) (by decide) (t := .boolean) (t' := (.array .long)) (by decide) (by decide)))
  have F100 := F83.other W88 (Or.inr (slot_ne (Or.inl (hw _ (List.mem_of_getElem? (i := 46) rfl))) (Or.inl (hw _ (List.mem_of_getElem? (i := 15) rfl))) (by decide) (t := .long) (t' := (.array .long)) (by decide) (by decide)))
  have F101 := F84.other W88 (Ne.symm ne_a_b5)
  have F102 := F85.other W88 (Ne.symm ne_a_b37)
  have F103 := V87.other W88 (Ne.symm ne_a_b71)
  have N104 := Fr.snoc X88 N68 g_a
  have K105 : Keep h0 h88 [a] := K86.wr W88 (Or.inl (List.mem_of_getElem? (i := 0) rfl))
  have S106 : ∀ t, Steps p.tables e below (T88.setTop (mkF m 27 #[.val (.ref a), .val (.int n)] [(.int n), (.ref a)])) t → Steps p.tables e below (s₁.setTop (entryFrame m #[(.ref a), (.int n)] 2)) t := fun t kt => by
    refine S89 t ?_
    show Steps p.tables e below (T88.setTop (mkF m 25 #[.val (.ref a), .val (.int n)] [])) t
    refine XS.aloadN X88.here hx rfl (hb hby own_d1_25) rfl rfl ?_
    show Steps p.tables e below (T88.setTop (mkF m 26 #[.val (.ref a), .val (.int n)] [(.ref a)])) t
    refine XS.iloadN X88.here hx rfl (hb hby own_d1_26) rfl ?_
    exact kt
  obtain ⟨T107, h107, k107, X107, e107, E107, A107, st107⟩ := newP X88 hx hZ (hw _ (List.mem_of_getElem? (i := 16) rfl)) e88 (g := (mkF m 27 #[.val (.ref a), .val (.int n)] [(.int n), (.ref a)])) rfl (hb hby own_d1_27) rfl hn0 (cap := 4) hn4 (by decide) (by decide) (by decide)
  obtain ⟨b107, g107⟩ : ∃ z, z = h88.size := ⟨_, rfl⟩
  rw [← g107] at A107 st107
  have S108 : ∀ t, Steps p.tables e below (T107.setTop (mkF m 29 #[.val (.ref a), .val (.int n)] [(.ref b107), (.ref a)])) t → Steps p.tables e below (s₁.setTop (entryFrame m #[(.ref a), (.int n)] 2)) t := fun t kt => S106 t (st107 _ kt)
  have g_b107 : n0 ≤ b107 := Nat.le_trans (Nat.le_trans Z0 K105.1) (Nat.le_of_eq g107.symm)
  have sz_b107 : h0.size ≤ b107 := Nat.le_trans K105.1 (Nat.le_of_eq g107.symm)
  have ne_a_b107 : a ≠ b107 := Nat.ne_of_lt (Nat.lt_of_lt_of_le F90.lt (Nat.le_of_eq g107.symm))
  have ne_b5_b107 : b5 ≠ b107 := Nat.ne_of_lt (Nat.lt_of_lt_of_le F101.lt (Nat.le_of_eq g107.symm))
  have ne_b37_b107 : b37 ≠ b107 := Nat.ne_of_lt (Nat.lt_of_lt_of_le F102.lt (Nat.le_of_eq g107.symm))
  have ne_b71_b107 : b71 ≠ b107 := Nat.ne_of_lt (Nat.lt_of_lt_of_le F103.lt (Nat.le_of_eq g107.symm))
  have F109 := F90.ext E107
  have F110 := F91.ext E107
  have F111 := F92.ext E107
  have F112 := F93.ext E107
  have F113 := F94.ext E107
  have F114 := F95.ext E107
  have F115 := F96.ext E107
  have F116 := F97.ext E107
  have F117 := F98.ext E107
  have F118 := F99.ext E107
  have F119 := F100.ext E107
  have F120 := F101.ext E107
  have F121 := F102.ext E107
  have F122 := F103.ext E107
  have K123 : Keep h0 h107 [a] := K105.ext E107
  have V124 : Arv Z h107 b107 k107 .int n [] (.int (0 : Int32)) := Arv.new A107 hn0
  obtain ⟨T125, h125, X125, e125, W125, st125⟩ := putF X107 hx hZ hown (host := "") (Or.inl (hw _ (List.mem_of_getElem? (i := 17) rfl))) Via.refl e107 F113 F109 (Or.inr ⟨(hw _ (List.mem_of_getElem? (i := 18) rfl)), rfl, hnm⟩) (hw _ (List.mem_of_getElem? (i := 1) rfl)) (ty := (.array .int)) (by decide) rfl rfl (g := (mkF m 29 #[.val (.ref a), .val (.int n)] [(.ref b107), (.ref a)])) rfl rfl (hb hby own_d1_29)
  have S126 : ∀ t, Steps p.tables e below (T125.setTop (mkF m 32 #[.val (.ref a), .val (.int n)] [])) t → Steps p.tables e below (s₁.setTop (entryFrame m #[(.ref a), (.int n)] 2)) t := fun t kt => S108 t (st125 _ kt)
  have F127 := F109.wr W125
  have F128 := F110.other W125 (Or.inr (slot_ne (Or.inl (hw _ (List.mem_of_getElem? (i := 11) rfl))) (Or.inr (hw _ (List.mem_of_getElem? (i := 18) rfl))) (by decide) (t := (.array .long)) (t' := (.array .int)) (by decide) (by decide)))
  have F129 := F111.other W125 (Or.inr (slot_ne (Or.inl (hw _ (List.mem_of_getElem? (i := 13) rfl))) (Or.inr (hw _ (List.mem_of_getElem? (i := 18) rfl))) (by decide) (t := (.array .long)) (t' := (.array .int)) (by decide) (by decide)))
  have F130 := F112.other W125 (Or.inr (slot_ne (Or.inl (hw _ (List.mem_of_getElem? (i := 15) rfl))) (Or.inr (hw _ (List.mem_of_getElem? (i := 18) rfl))) (by decide) (t := (.array .long)) (t' := (.array .int)) (by decide) (by decide)))
  have F131 := F113.same W125
  have F132 := F114.other W125 (Or.inr (slot_ne (Or.inr (hw _ (List.mem_of_getElem? (i := 21) rfl))) (Or.inr (hw _ (List.mem_of_getElem? (i := 18) rfl))) (by decide) (t := (.array .boolean)) (t' := (.array .int)) (by decide) (by decide)))
  have F133 := F115.other W125 (Or.inr (slot_ne (Or.inl (hw _ (List.mem_of_getElem? (i := 28) rfl))) (Or.inr (hw _ (List.mem_of_getElem? (i := 18) rfl))) (by decide) (t := .long) (t' := (.array .int)) (by decide) (by decide)))
  have F134 := F116.other W125 (Or.inr (slot_ne (Or.inl (hw _ (List.mem_of_getElem? (i := 37) rfl))) (Or.inr (hw _ (List.mem_of_getElem? (i := 18) rfl))) (by decide) (t := .int) (t' := (.array .int)) (by decide) (by decide)))
  have F135 := F117.other W125 (Or.inr (slot_ne (Or.inl (hw _ (List.mem_of_getElem? (i := 39) rfl))) (Or.inr (hw _ (List.mem_of_getElem? (i := 18) rfl))) (by decide) (t := .int) (t' := (.array .int)) (by decide) (by decide)))
  have F136 := F118.other W125 (Or.inr (slot_ne (Or.inl (hw _ (List.mem_of_getElem? (i := 41) rfl))) (Or.inr (hw _ (List.mem_of_getElem? (i := 18) rfl))) (by decide) (t := .boolean) (t' := (.array .int)) (by decide) (by decide)))
  have F137 := F119.other W125 (Or.inr (slot_ne (Or.inl (hw _ (List.mem_of_getElem? (i := 46) rfl))) (Or.inr (hw _ (List.mem_of_getElem? (i := 18) rfl))) (by decide) (t := .long) (t' := (.array .int)) (by decide) (by decide)))
  have F138 := F120.other W125 (Ne.symm ne_a_b5)
  have F139 := F121.other W125 (Ne.symm ne_a_b37)
  have F140 := F122.other W125 (Ne.symm ne_a_b71)
  have F141 := V124.other W125 (Ne.symm ne_a_b107)
  have N142 := Fr.snoc X125 N104 g_a
  have K143 : Keep h0 h125 [a] := K123.wr W125 (Or.inl (List.mem_of_getElem? (i := 0) rfl))
  have S144 : ∀ t, Steps p.tables e below (T125.setTop (mkF m 34 #[.val (.ref a), .val (.int n)] [(.int n), (.ref a)])) t → Steps p.tables e below (s₁.setTop (entryFrame m #[(.ref a), (.int n)] 2)) t := fun t kt => by
    refine S126 t ?_
    show Steps p.tables e below (T125.setTop (mkF m 32 #[.val (.ref a), .val (.int n)] [])) t
    refine XS.aloadN X125.here hx rfl (hb hby own_d1_32) rfl rfl ?_
    show Steps p.tables e below (T125.setTop (mkF m 33 #[.val (.ref a), .val (.int n)] [(.ref a)])) t
    refine XS.iloadN X125.here hx rfl (hb hby own_d1_33) rfl ?_
    exact kt
  obtain ⟨T145, h145, k145, X145, e145, E145, A145, st145⟩ := newP X125 hx hZ (hw _ (List.mem_of_getElem? (i := 19) rfl)) e125 (g := (mkF m 34 #[.val (.ref a), .val (.int n)] [(.int n), (.ref a)])) rfl (hb hby own_d1_34) rfl hn0 (cap := 4) hn4 (by decide) (by decide) (by decide)
  obtain ⟨b145, g145⟩ : ∃ z, z = h125.size := ⟨_, rfl⟩
  rw [← g145] at A145 st145
  have S146 : ∀ t, Steps p.tables e below (T145.setTop (mkF m 36 #[.val (.ref a), .val (.int n)] [(.ref b145), (.ref a)])) t → Steps p.tables e below (s₁.setTop (entryFrame m #[(.ref a), (.int n)] 2)) t := fun t kt => S144 t (st145 _ kt)
  have g_b145 : n0 ≤ b145 := Nat.le_trans (Nat.le_trans Z0 K143.1) (Nat.le_of_eq g145.symm)
  have sz_b145 : h0.size ≤ b145 := Nat.le_trans K143.1 (Nat.le_of_eq g145.symm)
  have ne_a_b145 : a ≠ b145 := Nat.ne_of_lt (Nat.lt_of_lt_of_le F127.lt (Nat.le_of_eq g145.symm))
  have ne_b5_b145 : b5 ≠ b145 := Nat.ne_of_lt (Nat.lt_of_lt_of_le F138.lt (Nat.le_of_eq g145.symm))
  have ne_b37_b145 : b37 ≠ b145 := Nat.ne_of_lt (Nat.lt_of_lt_of_le F139.lt (Nat.le_of_eq g145.symm))
  have ne_b71_b145 : b71 ≠ b145 := Nat.ne_of_lt (Nat.lt_of_lt_of_le F140.lt (Nat.le_of_eq g145.symm))
  have ne_b107_b145 : b107 ≠ b145 := Nat.ne_of_lt (Nat.lt_of_lt_of_le F141.lt (Nat.le_of_eq g145.symm))
  have F147 := F127.ext E145
  have F148 := F128.ext E145
  have F149 := F129.ext E145
  have F150 := F130.ext E145
  have F151 := F131.ext E145
  have F152 := F132.ext E145
  have F153 := F133.ext E145
  have F154 := F134.ext E145
  have F155 := F135.ext E145
  have F156 := F136.ext E145
  have F157 := F137.ext E145
  have F158 := F138.ext E145
  have F159 := F139.ext E145
  have F160 := F140.ext E145
  have F161 := F141.ext E145
  have K162 : Keep h0 h145 [a] := K143.ext E145
  have V163 : Arv Z h145 b145 k145 .boolean n [] (.int (0 : Int32)) := Arv.new A145 hn0
  obtain ⟨T164, h164, X164, e164, W164, st164⟩ := putF X145 hx hZ hown (host := "") (Or.inl (hw _ (List.mem_of_getElem? (i := 20) rfl))) Via.refl e145 F152 F147 (Or.inr ⟨(hw _ (List.mem_of_getElem? (i := 21) rfl)), rfl, hnm⟩) (hw _ (List.mem_of_getElem? (i := 1) rfl)) (ty := (.array .boolean)) (by decide) rfl rfl (g := (mkF m 36 #[.val (.ref a), .val (.int n)] [(.ref b145), (.ref a)])) rfl rfl (hb hby own_d1_36)
  have S165 : ∀ t, Steps p.tables e below (T164.setTop (mkF m 39 #[.val (.ref a), .val (.int n)] [])) t → Steps p.tables e below (s₁.setTop (entryFrame m #[(.ref a), (.int n)] 2)) t := fun t kt => S146 t (st164 _ kt)
  have F166 := F147.wr W164
  have F167 := F148.other W164 (Or.inr (slot_ne (Or.inl (hw _ (List.mem_of_getElem? (i := 11) rfl))) (Or.inr (hw _ (List.mem_of_getElem? (i := 21) rfl))) (by decide) (t := (.array .long)) (t' := (.array .boolean)) (by decide) (by decide)))
  have F168 := F149.other W164 (Or.inr (slot_ne (Or.inl (hw _ (List.mem_of_getElem? (i := 13) rfl))) (Or.inr (hw _ (List.mem_of_getElem? (i := 21) rfl))) (by decide) (t := (.array .long)) (t' := (.array .boolean)) (by decide) (by decide)))
  have F169 := F150.other W164 (Or.inr (slot_ne (Or.inl (hw _ (List.mem_of_getElem? (i := 15) rfl))) (Or.inr (hw _ (List.mem_of_getElem? (i := 21) rfl))) (by decide) (t := (.array .long)) (t' := (.array .boolean)) (by decide) (by decide)))
  have F170 := F151.other W164 (Or.inr (slot_ne (Or.inr (hw _ (List.mem_of_getElem? (i := 18) rfl))) (Or.inr (hw _ (List.mem_of_getElem? (i := 21) rfl))) (by decide) (t := (.array .int)) (t' := (.array .boolean)) (by decide) (by decide)))
  have F171 := F152.same W164
  have F172 := F153.other W164 (Or.inr (slot_ne (Or.inl (hw _ (List.mem_of_getElem? (i := 28) rfl))) (Or.inr (hw _ (List.mem_of_getElem? (i := 21) rfl))) (by decide) (t := .long) (t' := (.array .boolean)) (by decide) (by decide)))
  have F173 := F154.other W164 (Or.inr (slot_ne (Or.inl (hw _ (List.mem_of_getElem? (i := 37) rfl))) (Or.inr (hw _ (List.mem_of_getElem? (i := 21) rfl))) (by decide) (t := .int) (t' := (.array .boolean)) (by decide) (by decide)))
  have F174 := F155.other W164 (Or.inr (slot_ne (Or.inl (hw _ (List.mem_of_getElem? (i := 39) rfl))) (Or.inr (hw _ (List.mem_of_getElem? (i := 21) rfl))) (by decide) (t := .int) (t' := (.array .boolean)) (by decide) (by decide)))
  have F175 := F156.other W164 (Or.inr (slot_ne (Or.inl (hw _ (List.mem_of_getElem? (i := 41) rfl))) (Or.inr (hw _ (List.mem_of_getElem? (i := 21) rfl))) (by decide) (t := .boolean) (t' := (.array .boolean)) (by decide) (by decide)))
  have F176 := F157.other W164 (Or.inr (slot_ne (Or.inl (hw _ (List.mem_of_getElem? (i := 46) rfl))) (Or.inr (hw _ (List.mem_of_getElem? (i := 21) rfl))) (by decide) (t := .long) (t' := (.array .boolean)) (by decide) (by decide)))
  have F177 := F158.other W164 (Ne.symm ne_a_b5)
  have F178 := F159.other W164 (Ne.symm ne_a_b37)
  have F179 := F160.other W164 (Ne.symm ne_a_b71)
  have F180 := F161.other W164 (Ne.symm ne_a_b107)
  have F181 := V163.other W164 (Ne.symm ne_a_b145)
  have N182 := Fr.snoc X164 N142 g_a
  have K183 : Keep h0 h164 [a] := K162.wr W164 (Or.inl (List.mem_of_getElem? (i := 0) rfl))
  obtain ⟨fs, hr, hrun, hended, hW, hsame⟩ := X164.leave (v := none) (fun _ => rfl)
  refine ⟨_, _, S165 _ ?_, hrun, hended, _, _, rfl, ?_, ⟨_, rfl⟩, hW, hsame.mono (by decide) (by decide)⟩
  · show Steps p.tables e below (T164.setTop (mkF m 39 #[.val (.ref a), .val (.int n)] [])) _
    exact X164.returnOut hx Bd.returns (hb hby own_d1_39) hr
  · show own_Q1 Z a n h0 n0 _ T164.heap _
    rw [e164]
    exact ⟨rfl, N182, K183, F166, F172, F173, F174, F175, F176, b5, k5, g_b5, sz_b5, ne_a_b5, F167, F177⟩
theorem own_d5_0 : decode prog_5_method_2_code 0 = .ok (.lload_n 0, 1) := by decide +kernel
theorem own_d5_1 : decode prog_5_method_2_code 1 = .ok (.ldc2_w 29, 3) := by decide +kernel
theorem own_d5_4 : decode prog_5_method_2_code 4 = .ok (.ldiv, 1) := by decide +kernel
theorem own_d5_5 : decode prog_5_method_2_code 5 = .ok (.lconst 1, 1) := by decide +kernel
theorem own_d5_6 : decode prog_5_method_2_code 6 = .ok (.ladd, 1) := by decide +kernel
theorem own_d5_7 : decode prog_5_method_2_code 7 = .ok (.lreturn, 1) := by decide +kernel
theorem own_ef5 (m : MethodId) (x0 : Int64) : entryFrame m #[(.long x0)] 2 = mkF m 0 #[.val (.long x0), .second] [] := by first | (simp [entryFrame, mkF, argsToLocals, Value.category]; done) | rfl
def own_Q5 (Z : State) (u : Int64) (h0 : Heap) (n0 : Nat) (v : Option Value) (h : Heap) (L : List Loc) : Prop := v = some (.long ((u / (64 : Int64)) + (1 : Int64))) ∧ L = [] ∧ h = h0
set_option maxHeartbeats 40000000 in
theorem own_rm5 (l : Launch) (Z : State) (a0 : Array Value) (hw : ∀ d ∈ tables_1, d.before a0 Z = true) (ws : List Jvm.Cond) (u : Int64) (h0 : Heap) (n0 : Nat) (Z0 : n0 ≤ h0.size) :
    MetFree l (⟨"com/example/siteward/siteward/assignment/LoadListing", "words", "(J)J"⟩ : MethodName) (head1 (Jvm.Cond.code (⟨"com/example/siteward/siteward/assignment/LoadListing", "words", "(J)J"⟩ : MethodName) prog_5_method_2_code 2 (some .long) :: ws) ({ frames := 0, cells := 0, slots := 0, locals := 0 } : Room)) (fun argv U => argv = #[(.long u)] ∧ Z.Warmed39 U.vm ∧ U.heap = h0) (fun _ _ _ _ _ => True) (fun _ U o U' => ∃ v L, o = .returned v ∧ own_Q5 Z u h0 n0 v U'.heap L ∧ FrameEnd U o U' L ({ frames := 0, cells := 0, slots := 0, locals := 0 } : Room).cells ({ frames := 0, cells := 0, slots := 0, locals := 0 } : Room).slots) := by
  refine MetFree.of_bodySF (plainFor_of_name own_pn0) hisR ?_
  intro p e s m args below meth c s₁ Bd hml0 hP hK
  obtain ⟨rfl, hZ, hh⟩ := hP
  have hx := Bd.exec
  have hby := Bd.bytes
  have hml : c.maxLocals = 2 := hml0
  have hown : s.vm.findClass "com/example/siteward/siteward/assignment/LoadListing" = some m.cls := findClass_of_methodNamed Bd.named
  have hnm := (name_of_methodNamed Bd.named Bd.method).1
  have X0 : Stand p l e ({ frames := 0, cells := 0, slots := 0, locals := 0 } : Room) s m #[(.long u)] below meth c s₁ [] 0 0 := Stand.of_body Bd
  have e0 : s₁.heap = h0 := by rw [← hh, Bd.state]; rfl
  have N0 := Fr.nil n0
  have pre0 : ∀ t, Steps p.tables e below (s₁.setTop (mkF m 0 #[.val (.long u), .second] [])) t → Steps p.tables e below (s₁.setTop (entryFrame m #[(.long u)] 2)) t := fun t k => castTop (own_ef5 m u) k
  have S1 : ∀ t, Steps p.tables e below (s₁.setTop (mkF m 7 #[.val (.long u), .second] [(.long ((u / (64 : Int64)) + (1 : Int64)))])) t → Steps p.tables e below (s₁.setTop (entryFrame m #[(.long u)] 2)) t := fun t kt => by
    refine pre0 t ?_
    show Steps p.tables e below (s₁.setTop (mkF m 0 #[.val (.long u), .second] [])) t
    refine XS.lloadN X0.here hx rfl (hb hby own_d5_0) rfl ?_
    show Steps p.tables e below (s₁.setTop (mkF m 1 #[.val (.long u), .second] [(.long u)])) t
    refine X0.ldc2Long hx hown (mvT hZ (hw _ (List.mem_of_getElem? (i := 29) rfl))) (g := (mkF m 1 #[.val (.long u), .second] [(.long u)])) rfl (hb hby own_d5_1) _ ?_
    show Steps p.tables e below (s₁.setTop (mkF m 4 #[.val (.long u), .second] [(.long (64 : Int64)), (.long u)])) t
    refine XS.ldiv X0.here hx rfl (hb hby own_d5_4) rfl (by decide) ?_
    show Steps p.tables e below (s₁.setTop (mkF m 5 #[.val (.long u), .second] [(.long (u / (64 : Int64)))])) t
    refine XS.lconst X0.here hx rfl (hb hby own_d5_5) ?_
    show Steps p.tables e below (s₁.setTop (mkF m 6 #[.val (.long u), .second] [(.long (1 : Int64)), (.long (u / (64 : Int64)))])) t
    refine XS.ladd X0.here hx rfl (hb hby own_d5_6) rfl ?_
    exact kt
  obtain ⟨fs, hr, hrun, hended, hW, hsame⟩ := X0.leave (v := some (.long ((u / (64 : Int64)) + (1 : Int64)))) (fun h => by rw [Bd.returns] at h; cases h)
  refine ⟨_, _, S1 _ ?_, hrun, hended, _, _, rfl, ?_, ⟨_, rfl⟩, hW, hsame.mono (by decide) (by decide)⟩
  · show Steps p.tables e below (s₁.setTop (mkF m 7 #[.val (.long u), .second] [(.long ((u / (64 : Int64)) + (1 : Int64)))])) _
    exact X0.lreturnOut hx Bd.returns (hb hby own_d5_7) hr
  · show own_Q5 Z u h0 n0 _ s₁.heap _
    rw [e0]
    exact ⟨rfl, rfl, rfl⟩
theorem own_d6_0 : decode method_3_code 0 = .ok (.lload_n 0, 1) := by decide +kernel
theorem own_d6_1 : decode method_3_code 1 = .ok (.lconst 0, 1) := by decide +kernel
theorem own_d6_2 : decode method_3_code 2 = .ok (.lcmp, 1) := by decide +kernel
theorem own_d6_3 : decode method_3_code 3 = .ok (.ifCond .ge 5, 3) := by decide +kernel
theorem own_d6_6 : decode method_3_code 6 = .ok (.iconst 1, 1) := by decide +kernel
theorem own_d6_7 : decode method_3_code 7 = .ok (.ireturn, 1) := by decide +kernel
theorem own_d6_8 : decode method_3_code 8 = .ok (.lload_n 0, 1) := by decide +kernel
theorem own_d6_9 : decode method_3_code 9 = .ok (.ldc2_w 30, 3) := by decide +kernel
theorem own_d6_12 : decode method_3_code 12 = .ok (.ldiv, 1) := by decide +kernel
theorem own_d6_13 : decode method_3_code 13 = .ok (.lload_n 2, 1) := by decide +kernel
theorem own_d6_14 : decode method_3_code 14 = .ok (.ldc2_w 30, 3) := by decide +kernel
theorem own_d6_17 : decode method_3_code 17 = .ok (.ldiv, 1) := by decide +kernel
theorem own_d6_18 : decode method_3_code 18 = .ok (.lcmp, 1) := by decide +kernel
theorem own_d6_19 : decode method_3_code 19 = .ok (.ifCond .gt 7, 3) := by decide +kernel
theorem own_d6_22 : decode method_3_code 22 = .ok (.iconst 1, 1) := by decide +kernel
theorem own_d6_23 : decode method_3_code 23 = .ok (.goto 4, 3) := by decide +kernel
theorem own_d6_26 : decode method_3_code 26 = .ok (.iconst 0, 1) := by decide +kernel
theorem own_d6_27 : decode method_3_code 27 = .ok (.ireturn, 1) := by decide +kernel
theorem own_ef6 (m : MethodId) (x0 : Int64) (x1 : Int64) : entryFrame m #[(.long x0), (.long x1)] 4 = mkF m 0 #[.val (.long x0), .second, .val (.long x1), .second] [] := by first | (simp [entryFrame, mkF, argsToLocals, Value.category]; done) | rfl
def own_Q6 (Z : State) (xx : Int64) (u : Int64) (h0 : Heap) (n0 : Nat) (v : Option Value) (h : Heap) (L : List Loc) : Prop := v = some (.int (own_b (own_rf xx u))) ∧ L = [] ∧ h = h0
theorem own_pn1 : plainName "com/example/siteward/siteward/assignment/LoadListingKeepsPinLaw" = true := by first | (simp [plainName, overriddenIn]; done) | decide +kernel
set_option maxHeartbeats 40000000 in
theorem own_rm6 (l : Launch) (Z : State) (a0 : Array Value) (hw : ∀ d ∈ tables_1, d.before a0 Z = true) (ws : List Jvm.Cond) (xx : Int64) (u : Int64) (h0 : Heap) (n0 : Nat) (Z0 : n0 ≤ h0.size) :
    MetFree l (⟨"com/example/siteward/siteward/assignment/LoadListingKeepsPinLaw", "ref", "(JJ)Z"⟩ : MethodName) (head1 (Jvm.Cond.code (⟨"com/example/siteward/siteward/assignment/LoadListingKeepsPinLaw", "ref", "(JJ)Z"⟩ : MethodName) method_3_code 4 (some .boolean) :: ws) ({ frames := 0, cells := 0, slots := 0, locals := 0 } : Room)) (fun argv U => argv = #[(.long xx), (.long u)] ∧ Z.Warmed39 U.vm ∧ U.heap = h0) (fun _ _ _ _ _ => True) (fun _ U o U' => ∃ v L, o = .returned v ∧ own_Q6 Z xx u h0 n0 v U'.heap L ∧ FrameEnd U o U' L ({ frames := 0, cells := 0, slots := 0, locals := 0 } : Room).cells ({ frames := 0, cells := 0, slots := 0, locals := 0 } : Room).slots) := by
  refine MetFree.of_bodySF (plainFor_of_name own_pn1) hisR ?_
  intro p e s m args below meth c s₁ Bd hml0 hP hK
  obtain ⟨rfl, hZ, hh⟩ := hP
  have hx := Bd.exec
  have hby := Bd.bytes
  have hml : c.maxLocals = 4 := hml0
  have hown : s.vm.findClass "com/example/siteward/siteward/assignment/LoadListingKeepsPinLaw" = some m.cls := findClass_of_methodNamed Bd.named
  have hnm := (name_of_methodNamed Bd.named Bd.method).1
  have X0 : Stand p l e ({ frames := 0, cells := 0, slots := 0, locals := 0 } : Room) s m #[(.long xx), (.long u)] below meth c s₁ [] 0 0 := Stand.of_body Bd
  have e0 : s₁.heap = h0 := by rw [← hh, Bd.state]; rfl
  have N0 := Fr.nil n0
  have pre0 : ∀ t, Steps p.tables e below (s₁.setTop (mkF m 0 #[.val (.long xx), .second, .val (.long u), .second] [])) t → Steps p.tables e below (s₁.setTop (entryFrame m #[(.long xx), (.long u)] 4)) t := fun t k => castTop (own_ef6 m xx u) k
  have S1 : ∀ t, Steps p.tables e below (s₁.setTop (mkF m 3 #[.val (.long xx), .second, .val (.long u), .second] [(.int (lcmpW xx (0 : Int64)))])) t → Steps p.tables e below (s₁.setTop (entryFrame m #[(.long xx), (.long u)] 4)) t := fun t kt => by
    refine pre0 t ?_
    show Steps p.tables e below (s₁.setTop (mkF m 0 #[.val (.long xx), .second, .val (.long u), .second] [])) t
    refine XS.lloadN X0.here hx rfl (hb hby own_d6_0) rfl ?_
    show Steps p.tables e below (s₁.setTop (mkF m 1 #[.val (.long xx), .second, .val (.long u), .second] [(.long xx)])) t
    refine XS.lconst X0.here hx rfl (hb hby own_d6_1) ?_
    show Steps p.tables e below (s₁.setTop (mkF m 2 #[.val (.long xx), .second, .val (.long u), .second] [(.long (0 : Int64)), (.long xx)])) t
    refine XS.lcmp X0.here hx rfl (hb hby own_d6_2) rfl ?_
    exact kt
  by_cases hc3 : xx < (0 : Int64)
  · skip
    have S2 : ∀ t, Steps p.tables e below (s₁.setTop (mkF m 7 #[.val (.long xx), .second, .val (.long u), .second] [(.int (1 : Int32))])) t → Steps p.tables e below (s₁.setTop (entryFrame m #[(.long xx), (.long u)] 4)) t := fun t kt => by
      refine S1 t ?_
      show Steps p.tables e below (s₁.setTop (mkF m 3 #[.val (.long xx), .second, .val (.long u), .second] [(.int (lcmpW xx (0 : Int64)))])) t
      refine XS.ifNo X0.here hx rfl (hb hby own_d6_3) rfl (own_Llt hc3).2.1 ?_
      show Steps p.tables e below (s₁.setTop (mkF m 6 #[.val (.long xx), .second, .val (.long u), .second] [])) t
      refine XS.iconst X0.here hx rfl (hb hby own_d6_6) ?_
      exact kt
    obtain ⟨fs, hr, hrun, hended, hW, hsame⟩ := X0.leave (v := some (.int (nar .boolean (1 : Int32)))) (fun h => by rw [Bd.returns] at h; cases h)
    refine ⟨_, _, S2 _ ?_, hrun, hended, _, _, rfl, ?_, ⟨_, rfl⟩, hW, hsame.mono (by decide) (by decide)⟩
    · show Steps p.tables e below (s₁.setTop (mkF m 7 #[.val (.long xx), .second, .val (.long u), .second] [(.int (1 : Int32))])) _
      exact retN X0 hx (t := .boolean) Bd.returns (by simp) (hb hby own_d6_7) hr
    · show own_Q6 Z xx u h0 n0 _ s₁.heap _
      rw [e0]
      exact ⟨own_leafT (by simp only [own_rf, decide_true, decide_false, not_true_eq_false, not_false_eq_true, and_true, true_and, and_false, false_and, and_self, or_true, true_or, or_false, false_or, or_self, if_true, if_false, Bool.not_true, Bool.not_false, Bool.and_true, Bool.true_and, Bool.and_false, Bool.false_and, *]), rfl, rfl⟩
  · skip
    have S3 : ∀ t, Steps p.tables e below (s₁.setTop (mkF m 19 #[.val (.long xx), .second, .val (.long u), .second] [(.int (lcmpW (xx / (64 : Int64)) (u / (64 : Int64))))])) t → Steps p.tables e below (s₁.setTop (entryFrame m #[(.long xx), (.long u)] 4)) t := fun t kt => by
      refine S1 t ?_
      show Steps p.tables e below (s₁.setTop (mkF m 3 #[.val (.long xx), .second, .val (.long u), .second] [(.int (lcmpW xx (0 : Int64)))])) t
      refine XS.ifYes X0.here hx rfl (pc0 := 3) (pc' := 8) rfl (hb hby own_d6_3) rfl (own_Lnl hc3).2.1 (by decide) (by decide) ?_
      show Steps p.tables e below (s₁.setTop (mkF m 8 #[.val (.long xx), .second, .val (.long u), .second] [])) t
      refine XS.lloadN X0.here hx rfl (hb hby own_d6_8) rfl ?_
      show Steps p.tables e below (s₁.setTop (mkF m 9 #[.val (.long xx), .second, .val (.long u), .second] [(.long xx)])) t
      refine X0.ldc2Long hx hown (mvT hZ (hw _ (List.mem_of_getElem? (i := 51) rfl))) (g := (mkF m 9 #[.val (.long xx), .second, .val (.long u), .second] [(.long xx)])) rfl (hb hby own_d6_9) _ ?_
      show Steps p.tables e below (s₁.setTop (mkF m 12 #[.val (.long xx), .second, .val (.long u), .second] [(.long (64 : Int64)), (.long xx)])) t
      refine XS.ldiv X0.here hx rfl (hb hby own_d6_12) rfl (by decide) ?_
      show Steps p.tables e below (s₁.setTop (mkF m 13 #[.val (.long xx), .second, .val (.long u), .second] [(.long (xx / (64 : Int64)))])) t
      refine XS.lloadN X0.here hx rfl (hb hby own_d6_13) rfl ?_
      show Steps p.tables e below (s₁.setTop (mkF m 14 #[.val (.long xx), .second, .val (.long u), .second] [(.long u), (.long (xx / (64 : Int64)))])) t
      refine X0.ldc2Long hx hown (mvT hZ (hw _ (List.mem_of_getElem? (i := 51) rfl))) (g := (mkF m 14 #[.val (.long xx), .second, .val (.long u), .second] [(.long u), (.long (xx / (64 : Int64)))])) rfl (hb hby own_d6_14) _ ?_
      show Steps p.tables e below (s₁.setTop (mkF m 17 #[.val (.long xx), .second, .val (.long u), .second] [(.long (64 : Int64)), (.long u), (.long (xx / (64 : Int64)))])) t
      refine XS.ldiv X0.here hx rfl (hb hby own_d6_17) rfl (by decide) ?_
      show Steps p.tables e below (s₁.setTop (mkF m 18 #[.val (.long xx), .second, .val (.long u), .second] [(.long (u / (64 : Int64))), (.long (xx / (64 : Int64)))])) t
      refine XS.lcmp X0.here hx rfl (hb hby own_d6_18) rfl ?_
      exact kt
    by_cases hc19 : (u / (64 : Int64)) < (xx / (64 : Int64))
    · skip
      have S4 : ∀ t, Steps p.tables e below (s₁.setTop (mkF m 27 #[.val (.long xx), .second, .val (.long u), .second] [(.int (0 : Int32))])) t → Steps p.tables e below (s₁.setTop (entryFrame m #[(.long xx), (.long u)] 4)) t := fun t kt => by
        refine S3 t ?_
        show Steps p.tables e below (s₁.setTop (mkF m 19 #[.val (.long xx), .second, .val (.long u), .second] [(.int (lcmpW (xx / (64 : Int64)) (u / (64 : Int64))))])) t
        refine XS.ifYes X0.here hx rfl (pc0 := 19) (pc' := 26) rfl (hb hby own_d6_19) rfl (own_Llt hc19).2.2.1 (by decide) (by decide) ?_
        show Steps p.tables e below (s₁.setTop (mkF m 26 #[.val (.long xx), .second, .val (.long u), .second] [])) t
        refine XS.iconst X0.here hx rfl (hb hby own_d6_26) ?_
        exact kt
      obtain ⟨fs, hr, hrun, hended, hW, hsame⟩ := X0.leave (v := some (.int (nar .boolean (0 : Int32)))) (fun h => by rw [Bd.returns] at h; cases h)
      refine ⟨_, _, S4 _ ?_, hrun, hended, _, _, rfl, ?_, ⟨_, rfl⟩, hW, hsame.mono (by decide) (by decide)⟩
      · show Steps p.tables e below (s₁.setTop (mkF m 27 #[.val (.long xx), .second, .val (.long u), .second] [(.int (0 : Int32))])) _
        exact retN X0 hx (t := .boolean) Bd.returns (by simp) (hb hby own_d6_27) hr
      · show own_Q6 Z xx u h0 n0 _ s₁.heap _
        rw [e0]
        exact ⟨own_leafF (by simp only [own_rf, decide_true, decide_false, not_true_eq_false, not_false_eq_true, and_true, true_and, and_false, false_and, and_self, or_true, true_or, or_false, false_or, or_self, if_true, if_false, Bool.not_true, Bool.not_false, Bool.and_true, Bool.true_and, Bool.and_false, Bool.false_and, *]), rfl, rfl⟩
    · skip
      have S5 : ∀ t, Steps p.tables e below (s₁.setTop (mkF m 27 #[.val (.long xx), .second, .val (.long u), .second] [(.int (1 : Int32))])) t → Steps p.tables e below (s₁.setTop (entryFrame m #[(.long xx), (.long u)] 4)) t := fun t kt => by
        refine S3 t ?_
        show Steps p.tables e below (s₁.setTop (mkF m 19 #[.val (.long xx), .second, .val (.long u), .second] [(.int (lcmpW (xx / (64 : Int64)) (u / (64 : Int64))))])) t
        refine XS.ifNo X0.here hx rfl (hb hby own_d6_19) rfl (own_Lnl hc19).2.2.1 ?_
        show Steps p.tables e below (s₁.setTop (mkF m 22 #[.val (.long xx), .second, .val (.long u), .second] [])) t
        refine XS.iconst X0.here hx rfl (hb hby own_d6_22) ?_
        show Steps p.tables e below (s₁.setTop (mkF m 23 #[.val (.long xx), .second, .val (.long u), .second] [(.int (1 : Int32))])) t
        refine XS.goto X0.here hx rfl (pc0 := 23) (pc' := 27) rfl (hb hby own_d6_23) (by decide) (by decide) ?_
        exact kt
      obtain ⟨fs, hr, hrun, hended, hW, hsame⟩ := X0.leave (v := some (.int (nar .boolean (1 : Int32)))) (fun h => by rw [Bd.returns] at h; cases h)
      refine ⟨_, _, S5 _ ?_, hrun, hended, _, _, rfl, ?_, ⟨_, rfl⟩, hW, hsame.mono (by decide) (by decide)⟩
      · show Steps p.tables e below (s₁.setTop (mkF m 27 #[.val (.long xx), .second, .val (.long u), .second] [(.int (1 : Int32))])) _
        exact retN X0 hx (t := .boolean) Bd.returns (by simp) (hb hby own_d6_27) hr
      · show own_Q6 Z xx u h0 n0 _ s₁.heap _
        rw [e0]
        exact ⟨own_leafT (by simp only [own_rf, decide_true, decide_false, not_true_eq_false, not_false_eq_true, and_true, true_and, and_false, false_and, and_self, or_true, true_or, or_false, false_or, or_self, if_true, if_false, Bool.not_true, Bool.not_false, Bool.and_true, Bool.true_and, Bool.and_false, Bool.false_and, *]), rfl, rfl⟩
theorem own_d3_0 : decode prog_5_method_12_code 0 = .ok (.lload_n 1, 1) := by decide +kernel
theorem own_d3_1 : decode prog_5_method_12_code 1 = .ok (.aload_n 0, 1) := by decide +kernel
theorem own_d3_2 : decode prog_5_method_12_code 2 = .ok (.getfield 56, 3) := by decide +kernel
theorem own_d3_5 : decode prog_5_method_12_code 5 = .ok (.ldc2_w 29, 3) := by decide +kernel
theorem own_d3_8 : decode prog_5_method_12_code 8 = .ok (.lmul, 1) := by decide +kernel
theorem own_d3_9 : decode prog_5_method_12_code 9 = .ok (.lcmp, 1) := by decide +kernel
theorem own_d3_10 : decode prog_5_method_12_code 10 = .ok (.ifCond .ge 7, 3) := by decide +kernel
theorem own_d3_13 : decode prog_5_method_12_code 13 = .ok (.iconst 1, 1) := by decide +kernel
theorem own_d3_14 : decode prog_5_method_12_code 14 = .ok (.goto 4, 3) := by decide +kernel
theorem own_d3_17 : decode prog_5_method_12_code 17 = .ok (.iconst 0, 1) := by decide +kernel
theorem own_d3_18 : decode prog_5_method_12_code 18 = .ok (.ireturn, 1) := by decide +kernel
theorem own_ef3 (m : MethodId) (x0 : Addr) (x1 : Int64) : entryFrame m #[(.ref x0), (.long x1)] 3 = mkF m 0 #[.val (.ref x0), .val (.long x1), .second] [] := by first | (simp [entryFrame, mkF, argsToLocals, Value.category]; done) | rfl
def own_Q3 (Z : State) (a : Addr) (xx : Int64) (wds : Int64) (h0 : Heap) (n0 : Nat) (v : Option Value) (h : Heap) (L : List Loc) : Prop := v = some (.int (own_b (own_kp xx wds))) ∧ L = [] ∧ h = h0
set_option maxHeartbeats 40000000 in
theorem own_rm3 (l : Launch) (Z : State) (a0 : Array Value) (hw : ∀ d ∈ tables_1, d.before a0 Z = true) (ws : List Jvm.Cond) (a : Addr) (xx : Int64) (wds : Int64) (h0 : Heap) (n0 : Nat) (Z0 : n0 ≤ h0.size) (F_words : Fld Z h0 a "com/example/siteward/siteward/assignment/LoadListing" "words" "J" (.long wds)) :
    MetFree l (⟨"com/example/siteward/siteward/assignment/LoadListing", "keeps", "(J)Z"⟩ : MethodName) (head1 (Jvm.Cond.code (⟨"com/example/siteward/siteward/assignment/LoadListing", "keeps", "(J)Z"⟩ : MethodName) prog_5_method_12_code 3 (some .boolean) :: ws) ({ frames := 0, cells := 0, slots := 0, locals := 0 } : Room)) (fun argv U => argv = #[(.ref a), (.long xx)] ∧ Z.Warmed39 U.vm ∧ U.heap = h0) (fun _ _ _ _ _ => True) (fun _ U o U' => ∃ v L, o = .returned v ∧ own_Q3 Z a xx wds h0 n0 v U'.heap L ∧ FrameEnd U o U' L ({ frames := 0, cells := 0, slots := 0, locals := 0 } : Room).cells ({ frames := 0, cells := 0, slots := 0, locals := 0 } : Room).slots) := by
  refine MetFree.of_bodySF (plainFor_of_name own_pn0) hisR ?_
  intro p e s m args below meth c s₁ Bd hml0 hP hK
  obtain ⟨rfl, hZ, hh⟩ := hP
  have hx := Bd.exec
  have hby := Bd.bytes
  have hml : c.maxLocals = 3 := hml0
  have hown : s.vm.findClass "com/example/siteward/siteward/assignment/LoadListing" = some m.cls := findClass_of_methodNamed Bd.named
  have hnm := (name_of_methodNamed Bd.named Bd.method).1
  have X0 : Stand p l e ({ frames := 0, cells := 0, slots := 0, locals := 0 } : Room) s m #[(.ref a), (.long xx)] below meth c s₁ [] 0 0 := Stand.of_body Bd
  have e0 : s₁.heap = h0 := by rw [← hh, Bd.state]; rfl
  have N0 := Fr.nil n0
  have pre0 : ∀ t, Steps p.tables e below (s₁.setTop (mkF m 0 #[.val (.ref a), .val (.long xx), .second] [])) t → Steps p.tables e below (s₁.setTop (entryFrame m #[(.ref a), (.long xx)] 3)) t := fun t k => castTop (own_ef3 m a xx) k
  have S1 : ∀ t, Steps p.tables e below (s₁.setTop (mkF m 2 #[.val (.ref a), .val (.long xx), .second] [(.ref a), (.long xx)])) t → Steps p.tables e below (s₁.setTop (entryFrame m #[(.ref a), (.long xx)] 3)) t := fun t kt => by
    refine pre0 t ?_
    show Steps p.tables e below (s₁.setTop (mkF m 0 #[.val (.ref a), .val (.long xx), .second] [])) t
    refine XS.lloadN X0.here hx rfl (hb hby own_d3_0) rfl ?_
    show Steps p.tables e below (s₁.setTop (mkF m 1 #[.val (.ref a), .val (.long xx), .second] [(.long xx)])) t
    refine XS.aloadN X0.here hx rfl (hb hby own_d3_1) rfl rfl ?_
    exact kt
  obtain ⟨T2, X2, e2, st2⟩ := getF X0 hx hZ hown (host := "") (Or.inl (hw _ (List.mem_of_getElem? (i := 27) rfl))) Via.refl e0 F_words (g := (mkF m 2 #[.val (.ref a), .val (.long xx), .second] [(.ref a), (.long xx)])) rfl rfl (hb hby own_d3_2)
  have S3 : ∀ t, Steps p.tables e below (T2.setTop (mkF m 5 #[.val (.ref a), .val (.long xx), .second] [(.long wds), (.long xx)])) t → Steps p.tables e below (s₁.setTop (entryFrame m #[(.ref a), (.long xx)] 3)) t := fun t kt => S1 t (st2 _ kt)
  have S4 : ∀ t, Steps p.tables e below (T2.setTop (mkF m 10 #[.val (.ref a), .val (.long xx), .second] [(.int (lcmpW xx (wds * (64 : Int64))))])) t → Steps p.tables e below (s₁.setTop (entryFrame m #[(.ref a), (.long xx)] 3)) t := fun t kt => by
    refine S3 t ?_
    show Steps p.tables e below (T2.setTop (mkF m 5 #[.val (.ref a), .val (.long xx), .second] [(.long wds), (.long xx)])) t
    refine X2.ldc2Long hx hown (mvT hZ (hw _ (List.mem_of_getElem? (i := 29) rfl))) (g := (mkF m 5 #[.val (.ref a), .val (.long xx), .second] [(.long wds), (.long xx)])) rfl (hb hby own_d3_5) _ ?_
    show Steps p.tables e below (T2.setTop (mkF m 8 #[.val (.ref a), .val (.long xx), .second] [(.long (64 : Int64)), (.long wds), (.long xx)])) t
    refine XS.lmul X2.here hx rfl (hb hby own_d3_8) rfl ?_
    show Steps p.tables e below (T2.setTop (mkF m 9 #[.val (.ref a), .val (.long xx), .second] [(.long (wds * (64 : Int64))), (.long xx)])) t
    refine XS.lcmp X2.here hx rfl (hb hby own_d3_9) rfl ?_
    exact kt
  by_cases hc10 : xx < (wds * (64 : Int64))
  · skip
    have S5 : ∀ t, Steps p.tables e below (T2.setTop (mkF m 18 #[.val (.ref a), .val (.long xx), .second] [(.int (1 : Int32))])) t → Steps p.tables e below (s₁.setTop (entryFrame m #[(.ref a), (.long xx)] 3)) t := fun t kt => by
      refine S4 t ?_
      show Steps p.tables e below (T2.setTop (mkF m 10 #[.val (.ref a), .val (.long xx), .second] [(.int (lcmpW xx (wds * (64 : Int64))))])) t
      refine XS.ifNo X2.here hx rfl (hb hby own_d3_10) rfl (own_Llt hc10).2.1 ?_
      show Steps p.tables e below (T2.setTop (mkF m 13 #[.val (.ref a), .val (.long xx), .second] [])) t
      refine XS.iconst X2.here hx rfl (hb hby own_d3_13) ?_
      show Steps p.tables e below (T2.setTop (mkF m 14 #[.val (.ref a), .val (.long xx), .second] [(.int (1 : Int32))])) t
      refine XS.goto X2.here hx rfl (pc0 := 14) (pc' := 18) rfl (hb hby own_d3_14) (by decide) (by decide) ?_
      exact kt
    obtain ⟨fs, hr, hrun, hended, hW, hsame⟩ := X2.leave (v := some (.int (nar .boolean (1 : Int32)))) (fun h => by rw [Bd.returns] at h; cases h)
    refine ⟨_, _, S5 _ ?_, hrun, hended, _, _, rfl, ?_, ⟨_, rfl⟩, hW, hsame.mono (by decide) (by decide)⟩
    · show Steps p.tables e below (T2.setTop (mkF m 18 #[.val (.ref a), .val (.long xx), .second] [(.int (1 : Int32))])) _
      exact retN X2 hx (t := .boolean) Bd.returns (by simp) (hb hby own_d3_18) hr
    · show own_Q3 Z a xx wds h0 n0 _ T2.heap _
      rw [e2]
      exact ⟨own_leafT (by simp only [own_kp, decide_true, decide_false, not_true_eq_false, not_false_eq_true, and_true, true_and, and_false, false_and, and_self, or_true, true_or, or_false, false_or, or_self, if_true, if_false, Bool.not_true, Bool.not_false, Bool.and_true, Bool.true_and, Bool.and_false, Bool.false_and, *]), rfl, rfl⟩
  · skip
    have S6 : ∀ t, Steps p.tables e below (T2.setTop (mkF m 18 #[.val (.ref a), .val (.long xx), .second] [(.int (0 : Int32))])) t → Steps p.tables e below (s₁.setTop (entryFrame m #[(.ref a), (.long xx)] 3)) t := fun t kt => by
      refine S4 t ?_
      show Steps p.tables e below (T2.setTop (mkF m 10 #[.val (.ref a), .val (.long xx), .second] [(.int (lcmpW xx (wds * (64 : Int64))))])) t
      refine XS.ifYes X2.here hx rfl (pc0 := 10) (pc' := 17) rfl (hb hby own_d3_10) rfl (own_Lnl hc10).2.1 (by decide) (by decide) ?_
      show Steps p.tables e below (T2.setTop (mkF m 17 #[.val (.ref a), .val (.long xx), .second] [])) t
      refine XS.iconst X2.here hx rfl (hb hby own_d3_17) ?_
      exact kt
    obtain ⟨fs, hr, hrun, hended, hW, hsame⟩ := X2.leave (v := some (.int (nar .boolean (0 : Int32)))) (fun h => by rw [Bd.returns] at h; cases h)
    refine ⟨_, _, S6 _ ?_, hrun, hended, _, _, rfl, ?_, ⟨_, rfl⟩, hW, hsame.mono (by decide) (by decide)⟩
    · show Steps p.tables e below (T2.setTop (mkF m 18 #[.val (.ref a), .val (.long xx), .second] [(.int (0 : Int32))])) _
      exact retN X2 hx (t := .boolean) Bd.returns (by simp) (hb hby own_d3_18) hr
    · show own_Q3 Z a xx wds h0 n0 _ T2.heap _
      rw [e2]
      exact ⟨own_leafF (by simp only [own_kp, decide_true, decide_false, not_true_eq_false, not_false_eq_true, and_true, true_and, and_false, false_and, and_self, or_true, true_or, or_false, false_or, or_self, if_true, if_false, Bool.not_true, Bool.not_false, Bool.and_true, Bool.true_and, Bool.and_false, Bool.false_and, *]), rfl, rfl⟩
theorem own_pd0 : parseMethodDescriptor "(J)J" = some ⟨[.long], some .long⟩ := by decide +kernel
theorem own_d4_0 : decode prog_5_method_4_code 0 = .ok (.iconst 0, 1) := by decide +kernel
theorem own_d4_1 : decode prog_5_method_4_code 1 = .ok (.istore 5, 2) := by decide +kernel
theorem own_d4_3 : decode prog_5_method_4_code 3 = .ok (.iload 5, 2) := by decide +kernel
theorem own_d4_5 : decode prog_5_method_4_code 5 = .ok (.aload_n 0, 1) := by decide +kernel
theorem own_d4_6 : decode prog_5_method_4_code 6 = .ok (.getfield 45, 3) := by decide +kernel
theorem own_d4_9 : decode prog_5_method_4_code 9 = .ok (.if_icmp .ge 22, 3) := by decide +kernel
theorem own_d4_31 : decode prog_5_method_4_code 31 = .ok (.aload_n 0, 1) := by decide +kernel
theorem own_d4_32 : decode prog_5_method_4_code 32 = .ok (.iconst 0, 1) := by decide +kernel
theorem own_d4_33 : decode prog_5_method_4_code 33 = .ok (.putfield 45, 3) := by decide +kernel
theorem own_d4_36 : decode prog_5_method_4_code 36 = .ok (.aload_n 0, 1) := by decide +kernel
theorem own_d4_37 : decode prog_5_method_4_code 37 = .ok (.getfield 7, 3) := by decide +kernel
theorem own_d4_40 : decode prog_5_method_4_code 40 = .ok (.iconst 0, 1) := by decide +kernel
theorem own_d4_41 : decode prog_5_method_4_code 41 = .ok (.lconst 0, 1) := by decide +kernel
theorem own_d4_42 : decode prog_5_method_4_code 42 = .ok (.lastore, 1) := by decide +kernel
theorem own_d4_43 : decode prog_5_method_4_code 43 = .ok (.aload_n 0, 1) := by decide +kernel
theorem own_d4_44 : decode prog_5_method_4_code 44 = .ok (.iconst 1, 1) := by decide +kernel
theorem own_d4_45 : decode prog_5_method_4_code 45 = .ok (.putfield 49, 3) := by decide +kernel
theorem own_d4_48 : decode prog_5_method_4_code 48 = .ok (.aload_n 0, 1) := by decide +kernel
theorem own_d4_49 : decode prog_5_method_4_code 49 = .ok (.iconst 0, 1) := by decide +kernel
theorem own_d4_50 : decode prog_5_method_4_code 50 = .ok (.putfield 52, 3) := by decide +kernel
theorem own_d4_53 : decode prog_5_method_4_code 53 = .ok (.aload_n 0, 1) := by decide +kernel
theorem own_d4_54 : decode prog_5_method_4_code 54 = .ok (.lload_n 3, 1) := by decide +kernel
theorem own_d4_55 : decode prog_5_method_4_code 55 = .ok (.invokestatic 31, 3) := by decide +kernel
theorem own_d4_58 : decode prog_5_method_4_code 58 = .ok (.putfield 56, 3) := by decide +kernel
theorem own_d4_61 : decode prog_5_method_4_code 61 = .ok (.aload_n 0, 1) := by decide +kernel
theorem own_d4_62 : decode prog_5_method_4_code 62 = .ok (.lload_n 1, 1) := by decide +kernel
theorem own_d4_63 : decode prog_5_method_4_code 63 = .ok (.putfield 59, 3) := by decide +kernel
theorem own_d4_66 : decode prog_5_method_4_code 66 = .ok (.return_, 1) := by decide +kernel
theorem own_ef4 (m : MethodId) (x0 : Addr) (x1 : Int64) (x2 : Int64) : entryFrame m #[(.ref x0), (.long x1), (.long x2)] 6 = mkF m 0 #[.val (.ref x0), .val (.long x1), .second, .val (.long x2), .second, .unset] [] := by first | (simp [entryFrame, mkF, argsToLocals, Value.category]; done) | rfl
def own_Q4 (Z : State) (a : Addr) (un : Int64) (u : Int64) (lb : Addr) (kk : ClassId) (us : Value) (ub : Value) (uw : Value) (uu : Value) (h0 : Heap) (n0 : Nat) (v : Option Value) (h : Heap) (L : List Loc) : Prop := v = none ∧ Fr n0 L ∧ Keep h0 h [a, lb] ∧ Exa Z h a "com/example/siteward/siteward/assignment/LoadListing" ∧ Fld Z h a "com/example/siteward/siteward/assignment/LoadListing" "loads" "[J" (.ref lb) ∧ Arv Z h lb kk .long (1 : Int32) [(.long (0 : Int64))] (.long (0 : Int64)) ∧ Fld Z h a "com/example/siteward/siteward/assignment/LoadListing" "count" "I" (.int (0 : Int32)) ∧ Fld Z h a "com/example/siteward/siteward/assignment/LoadListing" "size" "I" (.int (1 : Int32)) ∧ Fld Z h a "com/example/siteward/siteward/assignment/LoadListing" "asBits" "Z" (.int (nar .boolean (0 : Int32))) ∧ Fld Z h a "com/example/siteward/siteward/assignment/LoadListing" "words" "J" (.long ((u / (64 : Int64)) + (1 : Int64))) ∧ Fld Z h a "com/example/siteward/siteward/assignment/LoadListing" "unit" "J" (.long un)
set_option maxHeartbeats 40000000 in
theorem own_rm4 (l : Launch) (Z : State) (a0 : Array Value) (hw : ∀ d ∈ tables_1, d.before a0 Z = true) (ws : List Jvm.Cond) (a : Addr) (un : Int64) (u : Int64) (lb : Addr) (kk : ClassId) (us : Value) (ub : Value) (uw : Value) (uu : Value) (h0 : Heap) (n0 : Nat) (Z0 : n0 ≤ h0.size) (E_a : Exa Z h0 a "com/example/siteward/siteward/assignment/LoadListing") (g_a : n0 ≤ a) (g_lb : n0 ≤ lb) (ne_a_lb : a ≠ lb) (F_loads : Fld Z h0 a "com/example/siteward/siteward/assignment/LoadListing" "loads" "[J" (.ref lb)) (V_lb : Arv Z h0 lb kk .long (1 : Int32) [(.long (0 : Int64))] (.long (0 : Int64))) (F_count : Fld Z h0 a "com/example/siteward/siteward/assignment/LoadListing" "count" "I" (.int (0 : Int32))) (F_size : Fld Z h0 a "com/example/siteward/siteward/assignment/LoadListing" "size" "I" us) (F_asBits : Fld Z h0 a "com/example/siteward/siteward/assignment/LoadListing" "asBits" "Z" ub) (F_words : Fld Z h0 a "com/example/siteward/siteward/assignment/LoadListing" "words" "J" uw) (F_unit : Fld Z h0 a "com/example/siteward/siteward/assignment/LoadListing" "unit" "J" uu) :
    MetFree l (⟨"com/example/siteward/siteward/assignment/LoadListing", "start", "(JJ)V"⟩ : MethodName) (head1 (Jvm.Cond.code (⟨"com/example/siteward/siteward/assignment/LoadListing", "start", "(JJ)V"⟩ : MethodName) prog_5_method_4_code 6 none :: ws) ({ frames := 1, cells := 0, slots := 0, locals := 14 } : Room)) (fun argv U => argv = #[(.ref a), (.long un), (.long u)] ∧ Z.Warmed39 U.vm ∧ U.heap = h0) (fun _ _ _ _ _ => True) (fun _ U o U' => ∃ v L, o = .returned v ∧ own_Q4 Z a un u lb kk us ub uw uu h0 n0 v U'.heap L ∧ FrameEnd U o U' L ({ frames := 1, cells := 0, slots := 0, locals := 14 } : Room).cells ({ frames := 1, cells := 0, slots := 0, locals := 14 } : Room).slots) := by
  refine MetFree.of_bodySF (plainFor_of_name own_pn0) hisR ?_
  intro p e s m args below meth c s₁ Bd hml0 hP hK
  obtain ⟨rfl, hZ, hh⟩ := hP
  have hx := Bd.exec
  have hby := Bd.bytes
  have hml : c.maxLocals = 6 := hml0
  have hown : s.vm.findClass "com/example/siteward/siteward/assignment/LoadListing" = some m.cls := findClass_of_methodNamed Bd.named
  have hnm := (name_of_methodNamed Bd.named Bd.method).1
  have X0 : Stand p l e ({ frames := 1, cells := 0, slots := 0, locals := 14 } : Room) s m #[(.ref a), (.long un), (.long u)] below meth c s₁ [] 0 0 := Stand.of_body Bd
  have e0 : s₁.heap = h0 := by rw [← hh, Bd.state]; rfl
  have N0 := Fr.nil n0
  have pre0 : ∀ t, Steps p.tables e below (s₁.setTop (mkF m 0 #[.val (.ref a), .val (.long un), .second, .val (.long u), .second, .unset] [])) t → Steps p.tables e below (s₁.setTop (entryFrame m #[(.ref a), (.long un), (.long u)] 6)) t := fun t k => castTop (own_ef4 m a un u) k
  have S1 : ∀ t, Steps p.tables e below (s₁.setTop (mkF m 6 #[.val (.ref a), .val (.long un), .second, .val (.long u), .second, .val (.int (0 : Int32))] [(.ref a), (.int (0 : Int32))])) t → Steps p.tables e below (s₁.setTop (entryFrame m #[(.ref a), (.long un), (.long u)] 6)) t := fun t kt => by
    refine pre0 t ?_
    show Steps p.tables e below (s₁.setTop (mkF m 0 #[.val (.ref a), .val (.long un), .second, .val (.long u), .second, .unset] [])) t
    refine XS.iconst X0.here hx rfl (hb hby own_d4_0) ?_
    show Steps p.tables e below (s₁.setTop (mkF m 1 #[.val (.ref a), .val (.long un), .second, .val (.long u), .second, .unset] [(.int (0 : Int32))])) t
    refine XS.istore X0.here hx rfl (hb hby own_d4_1) rfl (l' := #[.val (.ref a), .val (.long un), .second, .val (.long u), .second, .val (.int (0 : Int32))]) rfl ?_
    show Steps p.tables e below (s₁.setTop (mkF m 3 #[.val (.ref a), .val (.long un), .second, .val (.long u), .second, .val (.int (0 : Int32))] [])) t
    refine XS.iload X0.here hx rfl (hb hby own_d4_3) rfl ?_
    show Steps p.tables e below (s₁.setTop (mkF m 5 #[.val (.ref a), .val (.long un), .second, .val (.long u), .second, .val (.int (0 : Int32))] [(.int (0 : Int32))])) t
    refine XS.aloadN X0.here hx rfl (hb hby own_d4_5) rfl rfl ?_
    exact kt
  obtain ⟨T2, X2, e2, st2⟩ := getF X0 hx hZ hown (host := "") (Or.inl (hw _ (List.mem_of_getElem? (i := 36) rfl))) Via.refl e0 F_count (g := (mkF m 6 #[.val (.ref a), .val (.long un), .second, .val (.long u), .second, .val (.int (0 : Int32))] [(.ref a), (.int (0 : Int32))])) rfl rfl (hb hby own_d4_6)
  have S3 : ∀ t, Steps p.tables e below (T2.setTop (mkF m 9 #[.val (.ref a), .val (.long un), .second, .val (.long u), .second, .val (.int (0 : Int32))] [(.int (0 : Int32)), (.int (0 : Int32))])) t → Steps p.tables e below (s₁.setTop (entryFrame m #[(.ref a), (.long un), (.long u)] 6)) t := fun t kt => S1 t (st2 _ kt)
  have hc9_4 : ¬ ((0 : Int32) < (0 : Int32)) := by decide
  have S5 : ∀ t, Steps p.tables e below (T2.setTop (mkF m 33 #[.val (.ref a), .val (.long un), .second, .val (.long u), .second, .val (.int (0 : Int32))] [(.int (0 : Int32)), (.ref a)])) t → Steps p.tables e below (s₁.setTop (entryFrame m #[(.ref a), (.long un), (.long u)] 6)) t := fun t kt => by
    refine S3 t ?_
    show Steps p.tables e below (T2.setTop (mkF m 9 #[.val (.ref a), .val (.long un), .second, .val (.long u), .second, .val (.int (0 : Int32))] [(.int (0 : Int32)), (.int (0 : Int32))])) t
    refine XS.icmpYes X2.here hx rfl (pc0 := 9) (pc' := 31) rfl (hb hby own_d4_9) rfl (flt hc9_4).2.1 (by decide) (by decide) ?_
    show Steps p.tables e below (T2.setTop (mkF m 31 #[.val (.ref a), .val (.long un), .second, .val (.long u), .second, .val (.int (0 : Int32))] [])) t
    refine XS.aloadN X2.here hx rfl (hb hby own_d4_31) rfl rfl ?_
    show Steps p.tables e below (T2.setTop (mkF m 32 #[.val (.ref a), .val (.long un), .second, .val (.long u), .second, .val (.int (0 : Int32))] [(.ref a)])) t
    refine XS.iconst X2.here hx rfl (hb hby own_d4_32) ?_
    exact kt
  obtain ⟨T6, h6, X6, e6, W6, st6⟩ := putF X2 hx hZ hown (host := "") (Or.inl (hw _ (List.mem_of_getElem? (i := 36) rfl))) Via.refl e2 F_count E_a (Or.inl (hw _ (List.mem_of_getElem? (i := 37) rfl))) (hw _ (List.mem_of_getElem? (i := 1) rfl)) (ty := .int) (by decide) rfl rfl (g := (mkF m 33 #[.val (.ref a), .val (.long un), .second, .val (.long u), .second, .val (.int (0 : Int32))] [(.int (0 : Int32)), (.ref a)])) rfl rfl (hb hby own_d4_33)
  have S7 : ∀ t, Steps p.tables e below (T6.setTop (mkF m 36 #[.val (.ref a), .val (.long un), .second, .val (.long u), .second, .val (.int (0 : Int32))] [])) t → Steps p.tables e below (s₁.setTop (entryFrame m #[(.ref a), (.long un), (.long u)] 6)) t := fun t kt => S5 t (st6 _ kt)
  have F8 := E_a.wr W6
  have F9 := F_loads.other W6 (Or.inr (slot_ne (Or.inl (hw _ (List.mem_of_getElem? (i := 11) rfl))) (Or.inl (hw _ (List.mem_of_getElem? (i := 37) rfl))) (by decide) (t := (.array .long)) (t' := .int) (by decide) (by decide)))
  have F10 := F_count.same W6
  have F11 := V_lb.other W6 (Ne.symm ne_a_lb)
  have F12 := F_size.other W6 (Or.inr (slot_ne (Or.inl (hw _ (List.mem_of_getElem? (i := 39) rfl))) (Or.inl (hw _ (List.mem_of_getElem? (i := 37) rfl))) (by decide) (t := .int) (t' := .int) (by decide) (by decide)))
  have F13 := F_asBits.other W6 (Or.inr (slot_ne (Or.inl (hw _ (List.mem_of_getElem? (i := 41) rfl))) (Or.inl (hw _ (List.mem_of_getElem? (i := 37) rfl))) (by decide) (t := .boolean) (t' := .int) (by decide) (by decide)))
  have F14 := F_words.other W6 (Or.inr (slot_ne (Or.inl (hw _ (List.mem_of_getElem? (i := 28) rfl))) (Or.inl (hw _ (List.mem_of_getElem? (i := 37) rfl))) (by decide) (t := .long) (t' := .int) (by decide) (by decide)))
  have F15 := F_unit.other W6 (Or.inr (slot_ne (Or.inl (hw _ (List.mem_of_getElem? (i := 46) rfl))) (Or.inl (hw _ (List.mem_of_getElem? (i := 37) rfl))) (by decide) (t := .long) (t' := .int) (by decide) (by decide)))
  have N16 := Fr.snoc X6 N0 g_a
  have K17 : Keep h0 h6 [a, lb] := (Keep.refl h0 [a, lb]).wr W6 (Or.inl (List.mem_of_getElem? (i := 0) rfl))
  have S18 : ∀ t, Steps p.tables e below (T6.setTop (mkF m 37 #[.val (.ref a), .val (.long un), .second, .val (.long u), .second, .val (.int (0 : Int32))] [(.ref a)])) t → Steps p.tables e below (s₁.setTop (entryFrame m #[(.ref a), (.long un), (.long u)] 6)) t := fun t kt => by
    refine S7 t ?_
    show Steps p.tables e below (T6.setTop (mkF m 36 #[.val (.ref a), .val (.long un), .second, .val (.long u), .second, .val (.int (0 : Int32))] [])) t
    refine XS.aloadN X6.here hx rfl (hb hby own_d4_36) rfl rfl ?_
    exact kt
  obtain ⟨T19, X19, e19, st19⟩ := getF X6 hx hZ hown (host := "") (Or.inl (hw _ (List.mem_of_getElem? (i := 10) rfl))) Via.refl e6 F9 (g := (mkF m 37 #[.val (.ref a), .val (.long un), .second, .val (.long u), .second, .val (.int (0 : Int32))] [(.ref a)])) rfl rfl (hb hby own_d4_37)
  have S20 : ∀ t, Steps p.tables e below (T19.setTop (mkF m 40 #[.val (.ref a), .val (.long un), .second, .val (.long u), .second, .val (.int (0 : Int32))] [(.ref lb)])) t → Steps p.tables e below (s₁.setTop (entryFrame m #[(.ref a), (.long un), (.long u)] 6)) t := fun t kt => S18 t (st19 _ kt)
  have S21 : ∀ t, Steps p.tables e below (T19.setTop (mkF m 42 #[.val (.ref a), .val (.long un), .second, .val (.long u), .second, .val (.int (0 : Int32))] [(.long (0 : Int64)), (.int (0 : Int32)), (.ref lb)])) t → Steps p.tables e below (s₁.setTop (entryFrame m #[(.ref a), (.long un), (.long u)] 6)) t := fun t kt => by
    refine S20 t ?_
    show Steps p.tables e below (T19.setTop (mkF m 40 #[.val (.ref a), .val (.long un), .second, .val (.long u), .second, .val (.int (0 : Int32))] [(.ref lb)])) t
    refine XS.iconst X19.here hx rfl (hb hby own_d4_40) ?_
    show Steps p.tables e below (T19.setTop (mkF m 41 #[.val (.ref a), .val (.long un), .second, .val (.long u), .second, .val (.int (0 : Int32))] [(.int (0 : Int32)), (.ref lb)])) t
    refine XS.lconst X19.here hx rfl (hb hby own_d4_41) ?_
    exact kt
  obtain ⟨cl22, Ar22, q22, Sz22, Nn22, Hh22, Gg22⟩ := F11
  have hin22 : ¬ ((0 : Int32) < 0 ∨ cl22.slots.size ≤ ((0 : Int32)).toNatClampNeg) := inb_of Sz22 ⟨by decide, by decide⟩
  obtain ⟨T23, h23, X23, e23, W23, st23⟩ := stJ X19 hx hZ e19 Ar22 (j := (0 : Int32)) hin22 (g := (mkF m 42 #[.val (.ref a), .val (.long un), .second, .val (.long u), .second, .val (.int (0 : Int32))] [(.long (0 : Int64)), (.int (0 : Int32)), (.ref lb)])) rfl rfl (hb hby own_d4_42)
  have S24 : ∀ t, Steps p.tables e below (T23.setTop (mkF m 43 #[.val (.ref a), .val (.long un), .second, .val (.long u), .second, .val (.int (0 : Int32))] [])) t → Steps p.tables e below (s₁.setTop (entryFrame m #[(.ref a), (.long un), (.long u)] 6)) t := fun t kt => S21 t (st23 _ kt)
  have V25 := Arv.set Ar22 q22 Sz22 Nn22 Hh22 Gg22 rfl W23 0 rfl (Nat.le_of_ble_eq_true rfl)
  have F26 := F8.wr W23
  have F27 := F9.other W23 (Or.inl ne_a_lb)
  have F28 := F10.other W23 (Or.inl ne_a_lb)
  have F29 := F12.other W23 (Or.inl ne_a_lb)
  have F30 := F13.other W23 (Or.inl ne_a_lb)
  have F31 := F14.other W23 (Or.inl ne_a_lb)
  have F32 := F15.other W23 (Or.inl ne_a_lb)
  have N33 := Fr.snoc X23 N16 g_lb
  have K34 : Keep h0 h23 [a, lb] := K17.wr W23 (Or.inl (List.mem_of_getElem? (i := 1) rfl))
  have S35 : ∀ t, Steps p.tables e below (T23.setTop (mkF m 45 #[.val (.ref a), .val (.long un), .second, .val (.long u), .second, .val (.int (0 : Int32))] [(.int (1 : Int32)), (.ref a)])) t → Steps p.tables e below (s₁.setTop (entryFrame m #[(.ref a), (.long un), (.long u)] 6)) t := fun t kt => by
    refine S24 t ?_
    show Steps p.tables e below (T23.setTop (mkF m 43 #[.val (.ref a), .val (.long un), .second, .val (.long u), .second, .val (.int (0 : Int32))] [])) t
    refine XS.aloadN X23.here hx rfl (hb hby own_d4_43) rfl rfl ?_
    show Steps p.tables e below (T23.setTop (mkF m 44 #[.val (.ref a), .val (.long un), .second, .val (.long u), .second, .val (.int (0 : Int32))] [(.ref a)])) t
    refine XS.iconst X23.here hx rfl (hb hby own_d4_44) ?_
    exact kt
  obtain ⟨T36, h36, X36, e36, W36, st36⟩ := putF X23 hx hZ hown (host := "") (Or.inl (hw _ (List.mem_of_getElem? (i := 38) rfl))) Via.refl e23 F29 F26 (Or.inl (hw _ (List.mem_of_getElem? (i := 39) rfl))) (hw _ (List.mem_of_getElem? (i := 1) rfl)) (ty := .int) (by decide) rfl rfl (g := (mkF m 45 #[.val (.ref a), .val (.long un), .second, .val (.long u), .second, .val (.int (0 : Int32))] [(.int (1 : Int32)), (.ref a)])) rfl rfl (hb hby own_d4_45)
  have S37 : ∀ t, Steps p.tables e below (T36.setTop (mkF m 48 #[.val (.ref a), .val (.long un), .second, .val (.long u), .second, .val (.int (0 : Int32))] [])) t → Steps p.tables e below (s₁.setTop (entryFrame m #[(.ref a), (.long un), (.long u)] 6)) t := fun t kt => S35 t (st36 _ kt)
  have F38 := F26.wr W36
  have F39 := F27.other W36 (Or.inr (slot_ne (Or.inl (hw _ (List.mem_of_getElem? (i := 11) rfl))) (Or.inl (hw _ (List.mem_of_getElem? (i := 39) rfl))) (by decide) (t := (.array .long)) (t' := .int) (by decide) (by decide)))
  have F40 := F28.other W36 (Or.inr (slot_ne (Or.inl (hw _ (List.mem_of_getElem? (i := 37) rfl))) (Or.inl (hw _ (List.mem_of_getElem? (i := 39) rfl))) (by decide) (t := .int) (t' := .int) (by decide) (by decide)))
  have F41 := F29.same W36
  have F42 := F30.other W36 (Or.inr (slot_ne (Or.inl (hw _ (List.mem_of_getElem? (i := 41) rfl))) (Or.inl (hw _ (List.mem_of_getElem? (i := 39) rfl))) (by decide) (t := .boolean) (t' := .int) (by decide) (by decide)))
  have F43 := F31.other W36 (Or.inr (slot_ne (Or.inl (hw _ (List.mem_of_getElem? (i := 28) rfl))) (Or.inl (hw _ (List.mem_of_getElem? (i := 39) rfl))) (by decide) (t := .long) (t' := .int) (by decide) (by decide)))
  have F44 := F32.other W36 (Or.inr (slot_ne (Or.inl (hw _ (List.mem_of_getElem? (i := 46) rfl))) (Or.inl (hw _ (List.mem_of_getElem? (i := 39) rfl))) (by decide) (t := .long) (t' := .int) (by decide) (by decide)))
  have F45 := V25.other W36 (Ne.symm ne_a_lb)
  have N46 := Fr.snoc X36 N33 g_a
  have K47 : Keep h0 h36 [a, lb] := K34.wr W36 (Or.inl (List.mem_of_getElem? (i := 0) rfl))
  have S48 : ∀ t, Steps p.tables e below (T36.setTop (mkF m 50 #[.val (.ref a), .val (.long un), .second, .val (.long u), .second, .val (.int (0 : Int32))] [(.int (0 : Int32)), (.ref a)])) t → Steps p.tables e below (s₁.setTop (entryFrame m #[(.ref a), (.long un), (.long u)] 6)) t := fun t kt => by
    refine S37 t ?_
    show Steps p.tables e below (T36.setTop (mkF m 48 #[.val (.ref a), .val (.long un), .second, .val (.long u), .second, .val (.int (0 : Int32))] [])) t
    refine XS.aloadN X36.here hx rfl (hb hby own_d4_48) rfl rfl ?_
    show Steps p.tables e below (T36.setTop (mkF m 49 #[.val (.ref a), .val (.long un), .second, .val (.long u), .second, .val (.int (0 : Int32))] [(.ref a)])) t
    refine XS.iconst X36.here hx rfl (hb hby own_d4_49) ?_
    exact kt
  obtain ⟨T49, h49, X49, e49, W49, st49⟩ := putFN X36 hx hZ hown (hw _ (List.mem_of_getElem? (i := 40) rfl)) Via.refl e36 F42 F38 (Or.inl (hw _ (List.mem_of_getElem? (i := 41) rfl))) (hw _ (List.mem_of_getElem? (i := 1) rfl)) (ty := .boolean) (v' := (.int (nar .boolean (0 : Int32)))) (by decide) rfl (fits_nar_bool _) (g := (mkF m 50 #[.val (.ref a), .val (.long un), .second, .val (.long u), .second, .val (.int (0 : Int32))] [(.int (0 : Int32)), (.ref a)])) rfl rfl (hb hby own_d4_50)
  have S50 : ∀ t, Steps p.tables e below (T49.setTop (mkF m 53 #[.val (.ref a), .val (.long un), .second, .val (.long u), .second, .val (.int (0 : Int32))] [])) t → Steps p.tables e below (s₁.setTop (entryFrame m #[(.ref a), (.long un), (.long u)] 6)) t := fun t kt => S48 t (st49 _ kt)
  have F51 := F38.wr W49
  have F52 := F39.other W49 (Or.inr (slot_ne (Or.inl (hw _ (List.mem_of_getElem? (i := 11) rfl))) (Or.inl (hw _ (List.mem_of_getElem? (i := 41) rfl))) (by decide) (t := (.array .long)) (t' := .boolean) (by decide) (by decide)))
  have F53 := F40.other W49 (Or.inr (slot_ne (Or.inl (hw _ (List.mem_of_getElem? (i := 37) rfl))) (Or.inl (hw _ (List.mem_of_getElem? (i := 41) rfl))) (by decide) (t := .int) (t' := .boolean) (by decide) (by decide)))
  have F54 := F41.other W49 (Or.inr (slot_ne (Or.inl (hw _ (List.mem_of_getElem? (i := 39) rfl))) (Or.inl (hw _ (List.mem_of_getElem? (i := 41) rfl))) (by decide) (t := .int) (t' := .boolean) (by decide) (by decide)))
  have F55 := F42.same W49
  have F56 := F43.other W49 (Or.inr (slot_ne (Or.inl (hw _ (List.mem_of_getElem? (i := 28) rfl))) (Or.inl (hw _ (List.mem_of_getElem? (i := 41) rfl))) (by decide) (t := .long) (t' := .boolean) (by decide) (by decide)))
  have F57 := F44.other W49 (Or.inr (slot_ne (Or.inl (hw _ (List.mem_of_getElem? (i := 46) rfl))) (Or.inl (hw _ (List.mem_of_getElem? (i := 41) rfl))) (by decide) (t := .long) (t' := .boolean) (by decide) (by decide)))
  have F58 := F45.other W49 (Ne.symm ne_a_lb)
  have N59 := Fr.snoc X49 N46 g_a
  have K60 : Keep h0 h49 [a, lb] := K47.wr W49 (Or.inl (List.mem_of_getElem? (i := 0) rfl))
  have S62 : ∀ t, Steps p.tables e below (T49.setTop (mkF m 55 #[.val (.ref a), .val (.long un), .second, .val (.long u), .second, .val (.int (0 : Int32))] [(.long u), (.ref a)])) t → Steps p.tables e below (s₁.setTop (entryFrame m #[(.ref a), (.long un), (.long u)] 6)) t := fun t kt => by
    refine S50 t ?_
    show Steps p.tables e below (T49.setTop (mkF m 53 #[.val (.ref a), .val (.long un), .second, .val (.long u), .second, .val (.int (0 : Int32))] [])) t
    refine XS.aloadN X49.here hx rfl (hb hby own_d4_53) rfl rfl ?_
    show Steps p.tables e below (T49.setTop (mkF m 54 #[.val (.ref a), .val (.long un), .second, .val (.long u), .second, .val (.int (0 : Int32))] [(.ref a)])) t
    refine XS.lloadN X49.here hx rfl (hb hby own_d4_54) rfl ?_
    exact kt
  obtain ⟨_, _, ⟨T63, L63, k63, n63⟩, -, X63, ⟨Lc63, hQ63, l63, y63, z63⟩, st63⟩ := Jvm.LawKit.callS X49 hx (y := (⟨"com/example/siteward/siteward/assignment/LoadListing", "words", "(J)J"⟩ : MethodName)) hown (mvT hZ (hw _ (List.mem_of_getElem? (i := 42) rfl))) (mvT hZ (hw _ (List.mem_of_getElem? (i := 43) rfl))) (mvT hZ (hw _ (List.mem_of_getElem? (i := 2) rfl))) (mvT hZ (hw _ (List.mem_of_getElem? (i := 44) rfl))) (by decide) (backOf (W := 1) (own_rm5 l Z a0 hw [] (u) h49 n0 (Nat.le_trans Z0 K60.1)) hZ (hw _ (List.mem_of_getElem? (i := 44) rfl)) (hw _ (List.mem_of_getElem? (i := 2) rfl)) (by decide) (by decide)) (g := (mkF m 55 #[.val (.ref a), .val (.long un), .second, .val (.long u), .second, .val (.int (0 : Int32))] [(.long u), (.ref a)])) rfl (by rw [hml]; rfl) (argsL := [(.long u)]) (rest := [(.ref a)]) (lenOf own_pd0 rfl) rfl (by show 2 * 0 + _ ≤ _; exact Nat.le_of_eq rfl) (hb hby own_d4_55) (fun _ _ => ⟨rfl, e49, (by decide : 0 + 0 ≤ _), (by decide : 0 + 0 ≤ _)⟩)
  dsimp only [Pt.U, Pt.locs, Pt.cells, Pt.slots] at X63 l63 y63 z63 st63 hQ63
  subst l63 y63 z63
  obtain ⟨rfl, rfl, eq61⟩ := hQ63
  try rw [List.append_nil] at X63
  have S64 : ∀ t, Steps p.tables e below (T63.setTop (mkF m 58 #[.val (.ref a), .val (.long un), .second, .val (.long u), .second, .val (.int (0 : Int32))] [(.long ((u / (64 : Int64)) + (1 : Int64))), (.ref a)])) t → Steps p.tables e below (s₁.setTop (entryFrame m #[(.ref a), (.long un), (.long u)] 6)) t := fun t kt => S62 t (st63 _ kt)
  obtain ⟨T65, h65, X65, e65, W65, st65⟩ := putF X63 hx hZ hown (host := "") (Or.inl (hw _ (List.mem_of_getElem? (i := 27) rfl))) Via.refl eq61 F56 F51 (Or.inl (hw _ (List.mem_of_getElem? (i := 28) rfl))) (hw _ (List.mem_of_getElem? (i := 1) rfl)) (ty := .long) (by decide) rfl rfl (g := (mkF m 58 #[.val (.ref a), .val (.long un), .second, .val (.long u), .second, .val (.int (0 : Int32))] [(.long ((u / (64 : Int64)) + (1 : Int64))), (.ref a)])) rfl rfl (hb hby own_d4_58)
  have S66 : ∀ t, Steps p.tables e below (T65.setTop (mkF m 61 #[.val (.ref a), .val (.long un), .second, .val (.long u), .second, .val (.int (0 : Int32))] [])) t → Steps p.tables e below (s₁.setTop (entryFrame m #[(.ref a), (.long un), (.long u)] 6)) t := fun t kt => S64 t (st65 _ kt)
  have F67 := F51.wr W65
  have F68 := F52.other W65 (Or.inr (slot_ne (Or.inl (hw _ (List.mem_of_getElem? (i := 11) rfl))) (Or.inl (hw _ (List.mem_of_getElem? (i := 28) rfl))) (by decide) (t := (.array .long)) (t' := .long) (by decide) (by decide)))
  have F69 := F53.other W65 (Or.inr (slot_ne (Or.inl (hw _ (List.mem_of_getElem? (i := 37) rfl))) (Or.inl (hw _ (List.mem_of_getElem? (i := 28) rfl))) (by decide) (t := .int) (t' := .long) (by decide) (by decide)))
  have F70 := F54.other W65 (Or.inr (slot_ne (Or.inl (hw _ (List.mem_of_getElem? (i := 39) rfl))) (Or.inl (hw _ (List.mem_of_getElem? (i := 28) rfl))) (by decide) (t := .int) (t' := .long) (by decide) (by decide)))
  have F71 := F55.other W65 (Or.inr (slot_ne (Or.inl (hw _ (List.mem_of_getElem? (i := 41) rfl))) (Or.inl (hw _ (List.mem_of_getElem? (i := 28) rfl))) (by decide) (t := .boolean) (t' := .long) (by decide) (by decide)))
  have F72 := F56.same W65
  have F73 := F57.other W65 (Or.inr (slot_ne (Or.inl (hw _ (List.mem_of_getElem? (i := 46) rfl))) (Or.inl (hw _ (List.mem_of_getElem? (i := 28) rfl))) (by decide) (t := .long) (t' := .long) (by decide) (by decide)))
  have F74 := F58.other W65 (Ne.symm ne_a_lb)
  have N75 := Fr.snoc X65 N59 g_a
  have K76 : Keep h0 h65 [a, lb] := K60.wr W65 (Or.inl (List.mem_of_getElem? (i := 0) rfl))
  have S77 : ∀ t, Steps p.tables e below (T65.setTop (mkF m 63 #[.val (.ref a), .val (.long un), .second, .val (.long u), .second, .val (.int (0 : Int32))] [(.long un), (.ref a)])) t → Steps p.tables e below (s₁.setTop (entryFrame m #[(.ref a), (.long un), (.long u)] 6)) t := fun t kt => by
    refine S66 t ?_
    show Steps p.tables e below (T65.setTop (mkF m 61 #[.val (.ref a), .val (.long un), .second, .val (.long u), .second, .val (.int (0 : Int32))] [])) t
    refine XS.aloadN X65.here hx rfl (hb hby own_d4_61) rfl rfl ?_
    show Steps p.tables e below (T65.setTop (mkF m 62 #[.val (.ref a), .val (.long un), .second, .val (.long u), .second, .val (.int (0 : Int32))] [(.ref a)])) t
    refine XS.lloadN X65.here hx rfl (hb hby own_d4_62) rfl ?_
    exact kt
  obtain ⟨T78, h78, X78, e78, W78, st78⟩ := putF X65 hx hZ hown (host := "") (Or.inl (hw _ (List.mem_of_getElem? (i := 45) rfl))) Via.refl e65 F73 F67 (Or.inl (hw _ (List.mem_of_getElem? (i := 46) rfl))) (hw _ (List.mem_of_getElem? (i := 1) rfl)) (ty := .long) (by decide) rfl rfl (g := (mkF m 63 #[.val (.ref a), .val (.long un), .second, .val (.long u), .second, .val (.int (0 : Int32))] [(.long un), (.ref a)])) rfl rfl (hb hby own_d4_63)
  have S79 : ∀ t, Steps p.tables e below (T78.setTop (mkF m 66 #[.val (.ref a), .val (.long un), .second, .val (.long u), .second, .val (.int (0 : Int32))] [])) t → Steps p.tables e below (s₁.setTop (entryFrame m #[(.ref a), (.long un), (.long u)] 6)) t := fun t kt => S77 t (st78 _ kt)
  have F80 := F67.wr W78
  have F81 := F68.other W78 (Or.inr (slot_ne (Or.inl (hw _ (List.mem_of_getElem? (i := 11) rfl))) (Or.inl (hw _ (List.mem_of_getElem? (i := 46) rfl))) (by decide) (t := (.array .long)) (t' := .long) (by decide) (by decide)))
  have F82 := F69.other W78 (Or.inr (slot_ne (Or.inl (hw _ (List.mem_of_getElem? (i := 37) rfl))) (Or.inl (hw _ (List.mem_of_getElem? (i := 46) rfl))) (by decide) (t := .int) (t' := .long) (by decide) (by decide)))
  have F83 := F70.other W78 (Or.inr (slot_ne (Or.inl (hw _ (List.mem_of_getElem? (i := 39) rfl))) (Or.inl (hw _ (List.mem_of_getElem? (i := 46) rfl))) (by decide) (t := .int) (t' := .long) (by decide) (by decide)))
  have F84 := F71.other W78 (Or.inr (slot_ne (Or.inl (hw _ (List.mem_of_getElem? (i := 41) rfl))) (Or.inl (hw _ (List.mem_of_getElem? (i := 46) rfl))) (by decide) (t := .boolean) (t' := .long) (by decide) (by decide)))
  have F85 := F72.other W78 (Or.inr (slot_ne (Or.inl (hw _ (List.mem_of_getElem? (i := 28) rfl))) (Or.inl (hw _ (List.mem_of_getElem? (i := 46) rfl))) (by decide) (t := .long) (t' := .long) (by decide) (by decide)))
  have F86 := F73.same W78
  have F87 := F74.other W78 (Ne.symm ne_a_lb)
  have N88 := Fr.snoc X78 N75 g_a
  have K89 : Keep h0 h78 [a, lb] := K76.wr W78 (Or.inl (List.mem_of_getElem? (i := 0) rfl))
  obtain ⟨fs, hr, hrun, hended, hW, hsame⟩ := X78.leave (v := none) (fun _ => rfl)
  refine ⟨_, _, S79 _ ?_, hrun, hended, _, _, rfl, ?_, ⟨_, rfl⟩, hW, hsame.mono (by decide) (by decide)⟩
  · show Steps p.tables e below (T78.setTop (mkF m 66 #[.val (.ref a), .val (.long un), .second, .val (.long u), .second, .val (.int (0 : Int32))] [])) _
    exact X78.returnOut hx Bd.returns (hb hby own_d4_66) hr
  · show own_Q4 Z a un u lb kk us ub uw uu h0 n0 _ T78.heap _
    rw [e78]
    exact ⟨rfl, N88, K89, F80, F81, F87, F82, F83, F84, F85, F86⟩
theorem own_len (k : Int32) : ¬ ((1 : Int32) + (k &&& (3 : Int32))) < (0 : Int32) ∧ ((1 : Int32) + (k &&& (3 : Int32))).toNatClampNeg ≤ 4 := by
  have m := c_mask k (3 : Int32) 2 (by decide) (by decide)
  have a := c_iadd (1 : Int32) (k &&& (3 : Int32))
  have r := rng32 ((1 : Int32) + (k &&& (3 : Int32)))
  have z1 : (1 : Int32).toInt = 1 := rfl
  have z0 : (0 : Int32).toInt = 0 := rfl
  have e : ¬ ((1 : Int32) + (k &&& (3 : Int32))) < (0 : Int32) := by rw [Int32.lt_iff_toInt_lt]; omega
  refine ⟨e, ?_⟩
  have n := nat_of e
  omega
theorem own_pd1 : parseMethodDescriptor "(I)V" = some ⟨[.int], none⟩ := by decide +kernel
theorem own_pd2 : parseMethodDescriptor "(J)Z" = some ⟨[.long], some .boolean⟩ := by decide +kernel
theorem own_pd3 : parseMethodDescriptor "(JJ)V" = some ⟨[.long, .long], none⟩ := by decide +kernel
theorem own_pd4 : parseMethodDescriptor "(JJ)Z" = some ⟨[.long, .long], some .boolean⟩ := by decide +kernel
theorem own_ef0 (m : MethodId) (x0 : Int64) (x1 : Int64) (x2 : Int64) (x3 : Int64) (x4 : Int32) : entryFrame m #[(.long x0), (.long x1), (.long x2), (.long x3), (.int x4)] maxLocals = mkF m 0 #[.val (.long x0), .second, .val (.long x1), .second, .val (.long x2), .second, .val (.long x3), .second, .val (.int x4), .unset, .unset, .unset, .unset, .unset, .unset, .unset, .unset, .unset, .unset] [] := by first | (simp [entryFrame, mkF, argsToLocals, Value.category, maxLocals]; done) | rfl
def own_Q0 (Z : State) (xx : Int64) (u1 : Int64) (u2 : Int64) (unit : Int64) (k_ : Int32) (h0 : Heap) (n0 : Nat) (v : Option Value) (h : Heap) (L : List Loc) : Prop := v = some (.int (1 : Int32)) ∧ Fr n0 L
set_option maxHeartbeats 40000000 in
theorem own_rm0 (l : Launch) (Z : State) (a0 : Array Value) (hw : ∀ d ∈ tables_1, d.before a0 Z = true) (ws : List Jvm.Cond) (xx : Int64) (u1 : Int64) (u2 : Int64) (unit : Int64) (k_ : Int32) (h0 : Heap) (n0 : Nat) (Z0 : n0 ≤ h0.size) :
    MetFree l x (head1 (Jvm.Cond.code x code maxLocals ret :: ws) room_1) (fun argv U => argv = #[(.long xx), (.long u1), (.long u2), (.long unit), (.int k_)] ∧ Z.Warmed39 U.vm ∧ U.heap = h0) (fun _ _ _ _ _ => True) (fun _ U o U' => ∃ v L, o = .returned v ∧ own_Q0 Z xx u1 u2 unit k_ h0 n0 v U'.heap L ∧ FrameEnd U o U' L room_1.cells room_1.slots) := by
  refine MetFree.of_bodySF (plainFor_of_name own_pn1) hisR ?_
  intro p e s m args below meth c s₁ Bd hml0 hP hK
  obtain ⟨rfl, hZ, hh⟩ := hP
  have hx := Bd.exec
  have hby := Bd.bytes
  have hml : c.maxLocals = 19 := hml0
  have hown : s.vm.findClass "com/example/siteward/siteward/assignment/LoadListingKeepsPinLaw" = some m.cls := findClass_of_methodNamed Bd.named
  have hnm := (name_of_methodNamed Bd.named Bd.method).1
  have X0 : Stand p l e room_1 s m #[(.long xx), (.long u1), (.long u2), (.long unit), (.int k_)] below meth c s₁ [] 0 0 := Stand.of_body Bd
  have e0 : s₁.heap = h0 := by rw [← hh, Bd.state]; rfl
  have N0 := Fr.nil n0
  have pre0 : ∀ t, Steps p.tables e below (s₁.setTop (mkF m 0 #[.val (.long xx), .second, .val (.long u1), .second, .val (.long u2), .second, .val (.long unit), .second, .val (.int k_), .unset, .unset, .unset, .unset, .unset, .unset, .unset, .unset, .unset, .unset] [])) t → Steps p.tables e below (s₁.setTop (entryFrame m #[(.long xx), (.long u1), (.long u2), (.long unit), (.int k_)] maxLocals)) t := fun t k => castTop (own_ef0 m xx u1 u2 unit k_) k
  obtain ⟨T1, h1, X1, e1, E1, A1, D1, -, st1⟩ := newO X0 hx hZ hown (hw _ (List.mem_of_getElem? (i := 0) rfl)) (hw _ (List.mem_of_getElem? (i := 1) rfl)) (hw _ (List.mem_of_getElem? (i := 2) rfl)) e0 (g := (mkF m 0 #[.val (.long xx), .second, .val (.long u1), .second, .val (.long u2), .second, .val (.long unit), .second, .val (.int k_), .unset, .unset, .unset, .unset, .unset, .unset, .unset, .unset, .unset, .unset] [])) rfl (hb hby at_0) (by decide) (by decide)
  obtain ⟨b1, g1⟩ : ∃ z, z = h0.size := ⟨_, rfl⟩
  rw [← g1] at A1 D1 st1
  have S2 : ∀ t, Steps p.tables e below (T1.setTop (mkF m 3 #[.val (.long xx), .second, .val (.long u1), .second, .val (.long u2), .second, .val (.long unit), .second, .val (.int k_), .unset, .unset, .unset, .unset, .unset, .unset, .unset, .unset, .unset, .unset] [(.ref b1)])) t → Steps p.tables e below (s₁.setTop (entryFrame m #[(.long xx), (.long u1), (.long u2), (.long unit), (.int k_)] maxLocals)) t := fun t kt => pre0 t (st1 _ kt)
  have g_b1 : n0 ≤ b1 := Nat.le_trans Z0 (Nat.le_of_eq g1.symm)
  have sz_b1 : h0.size ≤ b1 := Nat.le_trans (Keep.refl h0 []).1 (Nat.le_of_eq g1.symm)
  have K3 : Keep h0 h1 [] := (Keep.refl h0 []).ext E1
  have F4 : Fld Z h1 b1 "com/example/siteward/siteward/assignment/LoadListing" "loads" "[J" .null := D1 (Or.inl (hw _ (List.mem_of_getElem? (i := 11) rfl))) (ty := (.array .long)) (by decide)
  have F5 : Fld Z h1 b1 "com/example/siteward/siteward/assignment/LoadListing" "merged" "[J" .null := D1 (Or.inl (hw _ (List.mem_of_getElem? (i := 13) rfl))) (ty := (.array .long)) (by decide)
  have F6 : Fld Z h1 b1 "com/example/siteward/siteward/assignment/LoadListing" "bits" "[J" .null := D1 (Or.inl (hw _ (List.mem_of_getElem? (i := 15) rfl))) (ty := (.array .long)) (by decide)
  have F7 : Fld Z h1 b1 "com/example/siteward/siteward/assignment/LoadListing" "listed" "[I" .null := D1 (Or.inr (hw _ (List.mem_of_getElem? (i := 18) rfl))) (ty := (.array .int)) (by decide)
  have F8 : Fld Z h1 b1 "com/example/siteward/siteward/assignment/LoadListing" "isListed" "[Z" .null := D1 (Or.inr (hw _ (List.mem_of_getElem? (i := 21) rfl))) (ty := (.array .boolean)) (by decide)
  have F9 : Fld Z h1 b1 "com/example/siteward/siteward/assignment/LoadListing" "words" "J" (.long (0 : Int64)) := D1 (Or.inl (hw _ (List.mem_of_getElem? (i := 28) rfl))) (ty := .long) (by decide)
  have F10 : Fld Z h1 b1 "com/example/siteward/siteward/assignment/LoadListing" "count" "I" (.int (0 : Int32)) := D1 (Or.inl (hw _ (List.mem_of_getElem? (i := 37) rfl))) (ty := .int) (by decide)
  have F11 : Fld Z h1 b1 "com/example/siteward/siteward/assignment/LoadListing" "size" "I" (.int (0 : Int32)) := D1 (Or.inl (hw _ (List.mem_of_getElem? (i := 39) rfl))) (ty := .int) (by decide)
  have F12 : Fld Z h1 b1 "com/example/siteward/siteward/assignment/LoadListing" "asBits" "Z" (.int (0 : Int32)) := D1 (Or.inl (hw _ (List.mem_of_getElem? (i := 41) rfl))) (ty := .boolean) (by decide)
  have F13 : Fld Z h1 b1 "com/example/siteward/siteward/assignment/LoadListing" "unit" "J" (.long (0 : Int64)) := D1 (Or.inl (hw _ (List.mem_of_getElem? (i := 46) rfl))) (ty := .long) (by decide)
  have S15 : ∀ t, Steps p.tables e below (T1.setTop (mkF m 10 #[.val (.long xx), .second, .val (.long u1), .second, .val (.long u2), .second, .val (.long unit), .second, .val (.int k_), .unset, .unset, .unset, .unset, .unset, .unset, .unset, .unset, .unset, .unset] [(.int ((1 : Int32) + (k_ &&& (3 : Int32)))), (.ref b1), (.ref b1)])) t → Steps p.tables e below (s₁.setTop (entryFrame m #[(.long xx), (.long u1), (.long u2), (.long unit), (.int k_)] maxLocals)) t := fun t kt => by
    refine S2 t ?_
    show Steps p.tables e below (T1.setTop (mkF m 3 #[.val (.long xx), .second, .val (.long u1), .second, .val (.long u2), .second, .val (.long unit), .second, .val (.int k_), .unset, .unset, .unset, .unset, .unset, .unset, .unset, .unset, .unset, .unset] [(.ref b1)])) t
    refine XS.dup X1.here hx rfl (hb hby at_3) rfl rfl ?_
    show Steps p.tables e below (T1.setTop (mkF m 4 #[.val (.long xx), .second, .val (.long u1), .second, .val (.long u2), .second, .val (.long unit), .second, .val (.int k_), .unset, .unset, .unset, .unset, .unset, .unset, .unset, .unset, .unset, .unset] [(.ref b1), (.ref b1)])) t
    refine XS.iconst X1.here hx rfl (hb hby at_4) ?_
    show Steps p.tables e below (T1.setTop (mkF m 5 #[.val (.long xx), .second, .val (.long u1), .second, .val (.long u2), .second, .val (.long unit), .second, .val (.int k_), .unset, .unset, .unset, .unset, .unset, .unset, .unset, .unset, .unset, .unset] [(.int (1 : Int32)), (.ref b1), (.ref b1)])) t
    refine XS.iload X1.here hx rfl (hb hby at_5) rfl ?_
    show Steps p.tables e below (T1.setTop (mkF m 7 #[.val (.long xx), .second, .val (.long u1), .second, .val (.long u2), .second, .val (.long unit), .second, .val (.int k_), .unset, .unset, .unset, .unset, .unset, .unset, .unset, .unset, .unset, .unset] [(.int k_), (.int (1 : Int32)), (.ref b1), (.ref b1)])) t
    refine XS.iconst X1.here hx rfl (hb hby at_7) ?_
    show Steps p.tables e below (T1.setTop (mkF m 8 #[.val (.long xx), .second, .val (.long u1), .second, .val (.long u2), .second, .val (.long unit), .second, .val (.int k_), .unset, .unset, .unset, .unset, .unset, .unset, .unset, .unset, .unset, .unset] [(.int (3 : Int32)), (.int k_), (.int (1 : Int32)), (.ref b1), (.ref b1)])) t
    refine XS.iand X1.here hx rfl (hb hby at_8) rfl ?_
    show Steps p.tables e below (T1.setTop (mkF m 9 #[.val (.long xx), .second, .val (.long u1), .second, .val (.long u2), .second, .val (.long unit), .second, .val (.int k_), .unset, .unset, .unset, .unset, .unset, .unset, .unset, .unset, .unset, .unset] [(.int (k_ &&& (3 : Int32))), (.int (1 : Int32)), (.ref b1), (.ref b1)])) t
    refine XS.iadd X1.here hx rfl (hb hby at_9) rfl ?_
    exact kt
  have hn0_14 : ¬ ((1 : Int32) + (k_ &&& (3 : Int32))) < (0 : Int32) := (own_len k_).1
  have hn4_14 : (((1 : Int32) + (k_ &&& (3 : Int32)))).toNatClampNeg ≤ 4 := (own_len k_).2
  obtain ⟨_, _, ⟨T17, L17, k17, n17⟩, -, X17, ⟨Lc17, hQ17, l17, y17, z17⟩, st17⟩ := X1.specialBack hx (y := (⟨"com/example/siteward/siteward/assignment/LoadListing", "<init>", "(I)V"⟩ : MethodName)) rfl hown (mvT hZ (hw _ (List.mem_of_getElem? (i := 3) rfl))) (mvT hZ (hw _ (List.mem_of_getElem? (i := 4) rfl))) (mvT hZ (hw _ (List.mem_of_getElem? (i := 5) rfl))) (by decide) (backOf (W := 1) (own_rm1 l Z a0 hw [] (b1) (((1 : Int32) + (k_ &&& (3 : Int32)))) h1 n0 (Nat.le_trans Z0 K3.1) A1 g_b1 F4 F5 F6 F7 F8 F9 F10 F11 F12 F13 hn0_14 hn4_14) hZ (hw _ (List.mem_of_getElem? (i := 5) rfl)) (hw _ (List.mem_of_getElem? (i := 2) rfl)) (by decide) (by decide)) (g := (mkF m 10 #[.val (.long xx), .second, .val (.long u1), .second, .val (.long u2), .second, .val (.long unit), .second, .val (.int k_), .unset, .unset, .unset, .unset, .unset, .unset, .unset, .unset, .unset, .unset] [(.int ((1 : Int32) + (k_ &&& (3 : Int32)))), (.ref b1), (.ref b1)])) rfl (by rw [hml]; rfl) (Steps.refl _) (a := b1) (argsL := [(.int ((1 : Int32) + (k_ &&& (3 : Int32))))]) (rest := [(.ref b1)]) (lenOf own_pd1 rfl) rfl (by show 2 * 0 + _ ≤ _; exact Nat.le_of_eq rfl) (hb hby at_10) (fun _ _ => ⟨rfl, e1, (by decide : 1 + 5 ≤ _), (by decide : 12 + 11 ≤ _)⟩)
  dsimp only [Pt.U, Pt.locs, Pt.cells, Pt.slots] at X17 l17 y17 z17 st17 hQ17
  subst l17 y17 z17
  obtain ⟨rfl, Nq17, Kc14, Ec14, Fc14_words, Fc14_count, Fc14_size, Fc14_asBits, Fc14_unit, lb14, kk14, glb14, slb14, nelb14, Fl14, Va14⟩ := hQ17
  have N18 := Fr.app N0 Nq17
  have S19 : ∀ t, Steps p.tables e below (T17.setTop (mkF m 13 #[.val (.long xx), .second, .val (.long u1), .second, .val (.long u2), .second, .val (.long unit), .second, .val (.int k_), .unset, .unset, .unset, .unset, .unset, .unset, .unset, .unset, .unset, .unset] [(.ref b1)])) t → Steps p.tables e below (s₁.setTop (entryFrame m #[(.long xx), (.long u1), (.long u2), (.long unit), (.int k_)] maxLocals)) t := fun t kt => S15 t (st17.trans kt)
  have F20 := A1.keep Kc14
  have K21 : Keep h0 T17.heap [] := K3.trans Kc14 (allS (Or.inr sz_b1) all0)
  have S23 : ∀ t, Steps p.tables e below (T17.setTop (mkF m 18 #[.val (.long xx), .second, .val (.long u1), .second, .val (.long u2), .second, .val (.long unit), .second, .val (.int k_), .val (.ref b1), .unset, .unset, .unset, .unset, .unset, .unset, .unset, .unset, .unset] [(.long xx), (.ref b1)])) t → Steps p.tables e below (s₁.setTop (entryFrame m #[(.long xx), (.long u1), (.long u2), (.long unit), (.int k_)] maxLocals)) t := fun t kt => by
    refine S19 t ?_
    show Steps p.tables e below (T17.setTop (mkF m 13 #[.val (.long xx), .second, .val (.long u1), .second, .val (.long u2), .second, .val (.long unit), .second, .val (.int k_), .unset, .unset, .unset, .unset, .unset, .unset, .unset, .unset, .unset, .unset] [(.ref b1)])) t
    refine XS.astore X17.here hx rfl (hb hby at_13) rfl rfl (l' := #[.val (.long xx), .second, .val (.long u1), .second, .val (.long u2), .second, .val (.long unit), .second, .val (.int k_), .val (.ref b1), .unset, .unset, .unset, .unset, .unset, .unset, .unset, .unset, .unset]) rfl ?_
    show Steps p.tables e below (T17.setTop (mkF m 15 #[.val (.long xx), .second, .val (.long u1), .second, .val (.long u2), .second, .val (.long unit), .second, .val (.int k_), .val (.ref b1), .unset, .unset, .unset, .unset, .unset, .unset, .unset, .unset, .unset] [])) t
    refine XS.aload X17.here hx rfl (hb hby at_15) rfl rfl ?_
    show Steps p.tables e below (T17.setTop (mkF m 17 #[.val (.long xx), .second, .val (.long u1), .second, .val (.long u2), .second, .val (.long unit), .second, .val (.int k_), .val (.ref b1), .unset, .unset, .unset, .unset, .unset, .unset, .unset, .unset, .unset] [(.ref b1)])) t
    refine XS.lloadN X17.here hx rfl (hb hby at_17) rfl ?_
    exact kt
  obtain ⟨cq24, kq24, q24a, q24b, q24c⟩ := isOf hZ rfl F20
  obtain ⟨_, _, ⟨T24, L24, k24, n24⟩, -, X24, ⟨Lc24, hQ24, l24, y24, z24⟩, st24⟩ := X17.virtualBack hx (y := (⟨"com/example/siteward/siteward/assignment/LoadListing", "keeps", "(J)Z"⟩ : MethodName)) (z := (⟨"com/example/siteward/siteward/assignment/LoadListing", "keeps", "(J)Z"⟩ : MethodName)) hown (mvT hZ (hw _ (List.mem_of_getElem? (i := 22) rfl))) (mvT hZ (hw _ (List.mem_of_getElem? (i := 23) rfl))) (notFace_of_selects (args := #[]) (mvT hZ (hw _ (List.mem_of_getElem? (i := 25) rfl)))) (mvT hZ (hw _ (List.mem_of_getElem? (i := 25) rfl))) (mvT hZ (hw _ (List.mem_of_getElem? (i := 24) rfl))) (by decide) (backOf (W := 0) (own_rm3 l Z a0 hw [] (b1) (xx) ((0 : Int64)) T17.heap n0 (Nat.le_trans Z0 K21.1) Fc14_words) hZ (hw _ (List.mem_of_getElem? (i := 26) rfl)) (hw _ (List.mem_of_getElem? (i := 2) rfl)) (by decide) (by decide)) q24a q24c (g := (mkF m 18 #[.val (.long xx), .second, .val (.long u1), .second, .val (.long u2), .second, .val (.long unit), .second, .val (.int k_), .val (.ref b1), .unset, .unset, .unset, .unset, .unset, .unset, .unset, .unset, .unset] [(.long xx), (.ref b1)])) rfl (by rw [hml]; rfl) (Steps.refl _) (argsL := [(.long xx)]) (rest := []) (lenOf own_pd2 rfl) rfl (by show 2 * 0 + _ ≤ _; exact Nat.le_of_eq rfl) (hb hby at_18) (fun _ _ => ⟨rfl, rfl, (by decide : 6 + 0 ≤ _), (by decide : 23 + 0 ≤ _)⟩)
  dsimp only [Pt.U, Pt.locs, Pt.cells, Pt.slots] at X24 l24 y24 z24 st24 hQ24
  subst l24 y24 z24
  obtain ⟨rfl, rfl, eq22⟩ := hQ24
  try rw [List.append_nil] at X24
  have S25 : ∀ t, Steps p.tables e below (T24.setTop (mkF m 21 #[.val (.long xx), .second, .val (.long u1), .second, .val (.long u2), .second, .val (.long unit), .second, .val (.int k_), .val (.ref b1), .unset, .unset, .unset, .unset, .unset, .unset, .unset, .unset, .unset] [(.int (own_b (own_kp xx (0 : Int64))))])) t → Steps p.tables e below (s₁.setTop (entryFrame m #[(.long xx), (.long u1), (.long u2), (.long unit), (.int k_)] maxLocals)) t := fun t kt => S23 t (st24.trans kt)
  obtain ⟨T26, b0, X26, e26, hr21, S26⟩ : ∃ (T' : State) (b0 : Int32), own_like X24 T' ∧ T'.heap = T17.heap ∧ (b0 = own_b (decide (xx < (0 : Int64)))) ∧ (∀ t, Steps p.tables e below (T'.setTop (mkF m 32 #[.val (.long xx), .second, .val (.long u1), .second, .val (.long u2), .second, .val (.long unit), .second, .val (.int k_), .val (.ref b1), .unset, .unset, .unset, .unset, .unset, .unset, .unset, .unset, .unset] [(.int b0), (.int (own_b (own_kp xx (0 : Int64))))])) t → Steps p.tables e below (s₁.setTop (entryFrame m #[(.long xx), (.long u1), (.long u2), (.long unit), (.int k_)] maxLocals)) t) := by
    have S27 : ∀ t, Steps p.tables e below (T24.setTop (mkF m 24 #[.val (.long xx), .second, .val (.long u1), .second, .val (.long u2), .second, .val (.long unit), .second, .val (.int k_), .val (.ref b1), .unset, .unset, .unset, .unset, .unset, .unset, .unset, .unset, .unset] [(.int (lcmpW xx (0 : Int64))), (.int (own_b (own_kp xx (0 : Int64))))])) t → Steps p.tables e below (s₁.setTop (entryFrame m #[(.long xx), (.long u1), (.long u2), (.long unit), (.int k_)] maxLocals)) t := fun t kt => by
      refine S25 t ?_
      show Steps p.tables e below (T24.setTop (mkF m 21 #[.val (.long xx), .second, .val (.long u1), .second, .val (.long u2), .second, .val (.long unit), .second, .val (.int k_), .val (.ref b1), .unset, .unset, .unset, .unset, .unset, .unset, .unset, .unset, .unset] [(.int (own_b (own_kp xx (0 : Int64))))])) t
      refine XS.lloadN X24.here hx rfl (hb hby at_21) rfl ?_
      show Steps p.tables e below (T24.setTop (mkF m 22 #[.val (.long xx), .second, .val (.long u1), .second, .val (.long u2), .second, .val (.long unit), .second, .val (.int k_), .val (.ref b1), .unset, .unset, .unset, .unset, .unset, .unset, .unset, .unset, .unset] [(.long xx), (.int (own_b (own_kp xx (0 : Int64))))])) t
      refine XS.lconst X24.here hx rfl (hb hby at_22) ?_
      show Steps p.tables e below (T24.setTop (mkF m 23 #[.val (.long xx), .second, .val (.long u1), .second, .val (.long u2), .second, .val (.long unit), .second, .val (.int k_), .val (.ref b1), .unset, .unset, .unset, .unset, .unset, .unset, .unset, .unset, .unset] [(.long (0 : Int64)), (.long xx), (.int (own_b (own_kp xx (0 : Int64))))])) t
      refine XS.lcmp X24.here hx rfl (hb hby at_23) rfl ?_
      exact kt
    by_cases hc24 : xx < (0 : Int64)
    · skip
      have S28 : ∀ t, Steps p.tables e below (T24.setTop (mkF m 32 #[.val (.long xx), .second, .val (.long u1), .second, .val (.long u2), .second, .val (.long unit), .second, .val (.int k_), .val (.ref b1), .unset, .unset, .unset, .unset, .unset, .unset, .unset, .unset, .unset] [(.int (1 : Int32)), (.int (own_b (own_kp xx (0 : Int64))))])) t → Steps p.tables e below (s₁.setTop (entryFrame m #[(.long xx), (.long u1), (.long u2), (.long unit), (.int k_)] maxLocals)) t := fun t kt => by
        refine S27 t ?_
        show Steps p.tables e below (T24.setTop (mkF m 24 #[.val (.long xx), .second, .val (.long u1), .second, .val (.long u2), .second, .val (.long unit), .second, .val (.int k_), .val (.ref b1), .unset, .unset, .unset, .unset, .unset, .unset, .unset, .unset, .unset] [(.int (lcmpW xx (0 : Int64))), (.int (own_b (own_kp xx (0 : Int64))))])) t
        refine XS.ifNo X24.here hx rfl (hb hby at_24) rfl (own_Llt hc24).2.1 ?_
        show Steps p.tables e below (T24.setTop (mkF m 27 #[.val (.long xx), .second, .val (.long u1), .second, .val (.long u2), .second, .val (.long unit), .second, .val (.int k_), .val (.ref b1), .unset, .unset, .unset, .unset, .unset, .unset, .unset, .unset, .unset] [(.int (own_b (own_kp xx (0 : Int64))))])) t
        refine XS.iconst X24.here hx rfl (hb hby at_27) ?_
        show Steps p.tables e below (T24.setTop (mkF m 28 #[.val (.long xx), .second, .val (.long u1), .second, .val (.long u2), .second, .val (.long unit), .second, .val (.int k_), .val (.ref b1), .unset, .unset, .unset, .unset, .unset, .unset, .unset, .unset, .unset] [(.int (1 : Int32)), (.int (own_b (own_kp xx (0 : Int64))))])) t
        refine XS.goto X24.here hx rfl (pc0 := 28) (pc' := 32) rfl (hb hby at_28) (by decide) (by decide) ?_
        exact kt
      exact ⟨T24, ((1 : Int32)), X24, (eq22.trans rfl), (own_bt (by simp only [decide_true, decide_false, not_true_eq_false, not_false_eq_true, and_true, true_and, and_false, false_and, and_self, or_true, true_or, or_false, false_or, or_self, if_true, if_false, Bool.not_true, Bool.not_false, Bool.and_true, Bool.true_and, Bool.and_false, Bool.false_and, *])), S28⟩
    · skip
      have S29 : ∀ t, Steps p.tables e below (T24.setTop (mkF m 32 #[.val (.long xx), .second, .val (.long u1), .second, .val (.long u2), .second, .val (.long unit), .second, .val (.int k_), .val (.ref b1), .unset, .unset, .unset, .unset, .unset, .unset, .unset, .unset, .unset] [(.int (0 : Int32)), (.int (own_b (own_kp xx (0 : Int64))))])) t → Steps p.tables e below (s₁.setTop (entryFrame m #[(.long xx), (.long u1), (.long u2), (.long unit), (.int k_)] maxLocals)) t := fun t kt => by
        refine S27 t ?_
        show Steps p.tables e below (T24.setTop (mkF m 24 #[.val (.long xx), .second, .val (.long u1), .second, .val (.long u2), .second, .val (.long unit), .second, .val (.int k_), .val (.ref b1), .unset, .unset, .unset, .unset, .unset, .unset, .unset, .unset, .unset] [(.int (lcmpW xx (0 : Int64))), (.int (own_b (own_kp xx (0 : Int64))))])) t
        refine XS.ifYes X24.here hx rfl (pc0 := 24) (pc' := 31) rfl (hb hby at_24) rfl (own_Lnl hc24).2.1 (by decide) (by decide) ?_
        show Steps p.tables e below (T24.setTop (mkF m 31 #[.val (.long xx), .second, .val (.long u1), .second, .val (.long u2), .second, .val (.long unit), .second, .val (.int k_), .val (.ref b1), .unset, .unset, .unset, .unset, .unset, .unset, .unset, .unset, .unset] [(.int (own_b (own_kp xx (0 : Int64))))])) t
        refine XS.iconst X24.here hx rfl (hb hby at_31) ?_
        exact kt
      exact ⟨T24, ((0 : Int32)), X24, (eq22.trans rfl), (own_bf (by simp only [decide_true, decide_false, not_true_eq_false, not_false_eq_true, and_true, true_and, and_false, false_and, and_self, or_true, true_or, or_false, false_or, or_self, if_true, if_false, Bool.not_true, Bool.not_false, Bool.and_true, Bool.true_and, Bool.and_false, Bool.false_and, *])), S29⟩
  have hc32_30 : (own_b (own_kp xx (0 : Int64))) = b0 := by rw [hr21]; exact own_z1 xx
  have S33 : ∀ t, Steps p.tables e below (T26.setTop (mkF m 63 #[.val (.long xx), .second, .val (.long u1), .second, .val (.long u2), .second, .val (.long unit), .second, .val (.int k_), .val (.ref b1), .val (.int (1 : Int32)), .val (.long (u1 &&& (4611686018427387903 : Int64))), .second, .val (.long (u2 &&& (4611686018427387903 : Int64))), .second, .unset, .unset, .unset, .unset] [(.long (u1 &&& (4611686018427387903 : Int64))), (.long unit), (.ref b1)])) t → Steps p.tables e below (s₁.setTop (entryFrame m #[(.long xx), (.long u1), (.long u2), (.long unit), (.int k_)] maxLocals)) t := fun t kt => by
    refine S26 t ?_
    show Steps p.tables e below (T26.setTop (mkF m 32 #[.val (.long xx), .second, .val (.long u1), .second, .val (.long u2), .second, .val (.long unit), .second, .val (.int k_), .val (.ref b1), .unset, .unset, .unset, .unset, .unset, .unset, .unset, .unset, .unset] [(.int b0), (.int (own_b (own_kp xx (0 : Int64))))])) t
    refine XS.icmpNo X26.here hx rfl (hb hby at_32) rfl (teq hc32_30).2 ?_
    show Steps p.tables e below (T26.setTop (mkF m 35 #[.val (.long xx), .second, .val (.long u1), .second, .val (.long u2), .second, .val (.long unit), .second, .val (.int k_), .val (.ref b1), .unset, .unset, .unset, .unset, .unset, .unset, .unset, .unset, .unset] [])) t
    refine XS.iconst X26.here hx rfl (hb hby at_35) ?_
    show Steps p.tables e below (T26.setTop (mkF m 36 #[.val (.long xx), .second, .val (.long u1), .second, .val (.long u2), .second, .val (.long unit), .second, .val (.int k_), .val (.ref b1), .unset, .unset, .unset, .unset, .unset, .unset, .unset, .unset, .unset] [(.int (1 : Int32))])) t
    refine XS.goto X26.here hx rfl (pc0 := 36) (pc' := 40) rfl (hb hby at_36) (by decide) (by decide) ?_
    show Steps p.tables e below (T26.setTop (mkF m 40 #[.val (.long xx), .second, .val (.long u1), .second, .val (.long u2), .second, .val (.long unit), .second, .val (.int k_), .val (.ref b1), .unset, .unset, .unset, .unset, .unset, .unset, .unset, .unset, .unset] [(.int (1 : Int32))])) t
    refine XS.istore X26.here hx rfl (hb hby at_40) rfl (l' := #[.val (.long xx), .second, .val (.long u1), .second, .val (.long u2), .second, .val (.long unit), .second, .val (.int k_), .val (.ref b1), .val (.int (1 : Int32)), .unset, .unset, .unset, .unset, .unset, .unset, .unset, .unset]) rfl ?_
    show Steps p.tables e below (T26.setTop (mkF m 42 #[.val (.long xx), .second, .val (.long u1), .second, .val (.long u2), .second, .val (.long unit), .second, .val (.int k_), .val (.ref b1), .val (.int (1 : Int32)), .unset, .unset, .unset, .unset, .unset, .unset, .unset, .unset] [])) t
    refine XS.lloadN X26.here hx rfl (hb hby at_42) rfl ?_
    show Steps p.tables e below (T26.setTop (mkF m 43 #[.val (.long xx), .second, .val (.long u1), .second, .val (.long u2), .second, .val (.long unit), .second, .val (.int k_), .val (.ref b1), .val (.int (1 : Int32)), .unset, .unset, .unset, .unset, .unset, .unset, .unset, .unset] [(.long u1)])) t
    refine X26.ldc2Long hx hown (mvT hZ (hw _ (List.mem_of_getElem? (i := 30) rfl))) (g := (mkF m 43 #[.val (.long xx), .second, .val (.long u1), .second, .val (.long u2), .second, .val (.long unit), .second, .val (.int k_), .val (.ref b1), .val (.int (1 : Int32)), .unset, .unset, .unset, .unset, .unset, .unset, .unset, .unset] [(.long u1)])) rfl (hb hby at_43) _ ?_
    show Steps p.tables e below (T26.setTop (mkF m 46 #[.val (.long xx), .second, .val (.long u1), .second, .val (.long u2), .second, .val (.long unit), .second, .val (.int k_), .val (.ref b1), .val (.int (1 : Int32)), .unset, .unset, .unset, .unset, .unset, .unset, .unset, .unset] [(.long (4611686018427387903 : Int64)), (.long u1)])) t
    refine XS.land X26.here hx rfl (hb hby at_46) rfl ?_
    show Steps p.tables e below (T26.setTop (mkF m 47 #[.val (.long xx), .second, .val (.long u1), .second, .val (.long u2), .second, .val (.long unit), .second, .val (.int k_), .val (.ref b1), .val (.int (1 : Int32)), .unset, .unset, .unset, .unset, .unset, .unset, .unset, .unset] [(.long (u1 &&& (4611686018427387903 : Int64)))])) t
    refine XS.lstore X26.here hx rfl (hb hby at_47) rfl (l' := #[.val (.long xx), .second, .val (.long u1), .second, .val (.long u2), .second, .val (.long unit), .second, .val (.int k_), .val (.ref b1), .val (.int (1 : Int32)), .val (.long (u1 &&& (4611686018427387903 : Int64))), .second, .unset, .unset, .unset, .unset, .unset, .unset]) rfl ?_
    show Steps p.tables e below (T26.setTop (mkF m 49 #[.val (.long xx), .second, .val (.long u1), .second, .val (.long u2), .second, .val (.long unit), .second, .val (.int k_), .val (.ref b1), .val (.int (1 : Int32)), .val (.long (u1 &&& (4611686018427387903 : Int64))), .second, .unset, .unset, .unset, .unset, .unset, .unset] [])) t
    refine XS.lload X26.here hx rfl (hb hby at_49) rfl ?_
    show Steps p.tables e below (T26.setTop (mkF m 51 #[.val (.long xx), .second, .val (.long u1), .second, .val (.long u2), .second, .val (.long unit), .second, .val (.int k_), .val (.ref b1), .val (.int (1 : Int32)), .val (.long (u1 &&& (4611686018427387903 : Int64))), .second, .unset, .unset, .unset, .unset, .unset, .unset] [(.long u2)])) t
    refine X26.ldc2Long hx hown (mvT hZ (hw _ (List.mem_of_getElem? (i := 30) rfl))) (g := (mkF m 51 #[.val (.long xx), .second, .val (.long u1), .second, .val (.long u2), .second, .val (.long unit), .second, .val (.int k_), .val (.ref b1), .val (.int (1 : Int32)), .val (.long (u1 &&& (4611686018427387903 : Int64))), .second, .unset, .unset, .unset, .unset, .unset, .unset] [(.long u2)])) rfl (hb hby at_51) _ ?_
    show Steps p.tables e below (T26.setTop (mkF m 54 #[.val (.long xx), .second, .val (.long u1), .second, .val (.long u2), .second, .val (.long unit), .second, .val (.int k_), .val (.ref b1), .val (.int (1 : Int32)), .val (.long (u1 &&& (4611686018427387903 : Int64))), .second, .unset, .unset, .unset, .unset, .unset, .unset] [(.long (4611686018427387903 : Int64)), (.long u2)])) t
    refine XS.land X26.here hx rfl (hb hby at_54) rfl ?_
    show Steps p.tables e below (T26.setTop (mkF m 55 #[.val (.long xx), .second, .val (.long u1), .second, .val (.long u2), .second, .val (.long unit), .second, .val (.int k_), .val (.ref b1), .val (.int (1 : Int32)), .val (.long (u1 &&& (4611686018427387903 : Int64))), .second, .unset, .unset, .unset, .unset, .unset, .unset] [(.long (u2 &&& (4611686018427387903 : Int64)))])) t
    refine XS.lstore X26.here hx rfl (hb hby at_55) rfl (l' := #[.val (.long xx), .second, .val (.long u1), .second, .val (.long u2), .second, .val (.long unit), .second, .val (.int k_), .val (.ref b1), .val (.int (1 : Int32)), .val (.long (u1 &&& (4611686018427387903 : Int64))), .second, .val (.long (u2 &&& (4611686018427387903 : Int64))), .second, .unset, .unset, .unset, .unset]) rfl ?_
    show Steps p.tables e below (T26.setTop (mkF m 57 #[.val (.long xx), .second, .val (.long u1), .second, .val (.long u2), .second, .val (.long unit), .second, .val (.int k_), .val (.ref b1), .val (.int (1 : Int32)), .val (.long (u1 &&& (4611686018427387903 : Int64))), .second, .val (.long (u2 &&& (4611686018427387903 : Int64))), .second, .unset, .unset, .unset, .unset] [])) t
    refine XS.aload X26.here hx rfl (hb hby at_57) rfl rfl ?_
    show Steps p.tables e below (T26.setTop (mkF m 59 #[.val (.long xx), .second, .val (.long u1), .second, .val (.long u2), .second, .val (.long unit), .second, .val (.int k_), .val (.ref b1), .val (.int (1 : Int32)), .val (.long (u1 &&& (4611686018427387903 : Int64))), .second, .val (.long (u2 &&& (4611686018427387903 : Int64))), .second, .unset, .unset, .unset, .unset] [(.ref b1)])) t
    refine XS.lload X26.here hx rfl (hb hby at_59) rfl ?_
    show Steps p.tables e below (T26.setTop (mkF m 61 #[.val (.long xx), .second, .val (.long u1), .second, .val (.long u2), .second, .val (.long unit), .second, .val (.int k_), .val (.ref b1), .val (.int (1 : Int32)), .val (.long (u1 &&& (4611686018427387903 : Int64))), .second, .val (.long (u2 &&& (4611686018427387903 : Int64))), .second, .unset, .unset, .unset, .unset] [(.long unit), (.ref b1)])) t
    refine XS.lload X26.here hx rfl (hb hby at_61) rfl ?_
    exact kt
  obtain ⟨cq34, kq34, q34a, q34b, q34c⟩ := isOf hZ e26 F20
  obtain ⟨_, _, ⟨T34, L34, k34, n34⟩, -, X34, ⟨Lc34, hQ34, l34, y34, z34⟩, st34⟩ := X26.virtualBack hx (y := (⟨"com/example/siteward/siteward/assignment/LoadListing", "start", "(JJ)V"⟩ : MethodName)) (z := (⟨"com/example/siteward/siteward/assignment/LoadListing", "start", "(JJ)V"⟩ : MethodName)) hown (mvT hZ (hw _ (List.mem_of_getElem? (i := 31) rfl))) (mvT hZ (hw _ (List.mem_of_getElem? (i := 32) rfl))) (notFace_of_selects (args := #[]) (mvT hZ (hw _ (List.mem_of_getElem? (i := 34) rfl)))) (mvT hZ (hw _ (List.mem_of_getElem? (i := 34) rfl))) (mvT hZ (hw _ (List.mem_of_getElem? (i := 33) rfl))) (by decide) (backOf (W := 0) (own_rm4 l Z a0 hw [] (b1) (unit) ((u1 &&& (4611686018427387903 : Int64))) (lb14) (kk14) ((.int (0 : Int32))) ((.int (0 : Int32))) ((.long (0 : Int64))) ((.long (0 : Int64))) T17.heap n0 (Nat.le_trans Z0 K21.1) F20 g_b1 glb14 nelb14 Fl14 Va14 Fc14_count Fc14_size Fc14_asBits Fc14_words Fc14_unit) hZ (hw _ (List.mem_of_getElem? (i := 35) rfl)) (hw _ (List.mem_of_getElem? (i := 2) rfl)) (by decide) (by decide)) q34a q34c (g := (mkF m 63 #[.val (.long xx), .second, .val (.long u1), .second, .val (.long u2), .second, .val (.long unit), .second, .val (.int k_), .val (.ref b1), .val (.int (1 : Int32)), .val (.long (u1 &&& (4611686018427387903 : Int64))), .second, .val (.long (u2 &&& (4611686018427387903 : Int64))), .second, .unset, .unset, .unset, .unset] [(.long (u1 &&& (4611686018427387903 : Int64))), (.long unit), (.ref b1)])) rfl (by rw [hml]; rfl) (Steps.refl _) (argsL := [(.long unit), (.long (u1 &&& (4611686018427387903 : Int64)))]) (rest := []) (lenOf own_pd3 rfl) rfl (by show 2 * 0 + _ ≤ _; exact Nat.le_of_eq rfl) (hb hby at_63) (fun _ _ => ⟨rfl, e26, (by decide : 6 + 0 ≤ _), (by decide : 23 + 0 ≤ _)⟩)
  dsimp only [Pt.U, Pt.locs, Pt.cells, Pt.slots] at X34 l34 y34 z34 st34 hQ34
  subst l34 y34 z34
  obtain ⟨rfl, Nq34, Kc31, Ec31, Fl31, Va31, Fs31_count, Fs31_size, Fs31_asBits, Fs31_words, Fs31_unit⟩ := hQ34
  have N35 := Fr.app N18 Nq34
  have S36 : ∀ t, Steps p.tables e below (T34.setTop (mkF m 66 #[.val (.long xx), .second, .val (.long u1), .second, .val (.long u2), .second, .val (.long unit), .second, .val (.int k_), .val (.ref b1), .val (.int (1 : Int32)), .val (.long (u1 &&& (4611686018427387903 : Int64))), .second, .val (.long (u2 &&& (4611686018427387903 : Int64))), .second, .unset, .unset, .unset, .unset] [])) t → Steps p.tables e below (s₁.setTop (entryFrame m #[(.long xx), (.long u1), (.long u2), (.long unit), (.int k_)] maxLocals)) t := fun t kt => S33 t (st34.trans kt)
  have F37 := F20.keep Kc31
  have K38 : Keep h0 T34.heap [] := K21.trans Kc31 (allS (Or.inr sz_b1) (allS (Or.inr (Nat.le_trans K3.1 slb14)) all0))
  have S40 : ∀ t, Steps p.tables e below (T34.setTop (mkF m 71 #[.val (.long xx), .second, .val (.long u1), .second, .val (.long u2), .second, .val (.long unit), .second, .val (.int k_), .val (.ref b1), .val (.int (1 : Int32)), .val (.long (u1 &&& (4611686018427387903 : Int64))), .second, .val (.long (u2 &&& (4611686018427387903 : Int64))), .second, .unset, .unset, .unset, .unset] [(.long xx), (.ref b1), (.int (1 : Int32))])) t → Steps p.tables e below (s₁.setTop (entryFrame m #[(.long xx), (.long u1), (.long u2), (.long unit), (.int k_)] maxLocals)) t := fun t kt => by
    refine S36 t ?_
    show Steps p.tables e below (T34.setTop (mkF m 66 #[.val (.long xx), .second, .val (.long u1), .second, .val (.long u2), .second, .val (.long unit), .second, .val (.int k_), .val (.ref b1), .val (.int (1 : Int32)), .val (.long (u1 &&& (4611686018427387903 : Int64))), .second, .val (.long (u2 &&& (4611686018427387903 : Int64))), .second, .unset, .unset, .unset, .unset] [])) t
    refine XS.iload X34.here hx rfl (hb hby at_66) rfl ?_
    show Steps p.tables e below (T34.setTop (mkF m 68 #[.val (.long xx), .second, .val (.long u1), .second, .val (.long u2), .second, .val (.long unit), .second, .val (.int k_), .val (.ref b1), .val (.int (1 : Int32)), .val (.long (u1 &&& (4611686018427387903 : Int64))), .second, .val (.long (u2 &&& (4611686018427387903 : Int64))), .second, .unset, .unset, .unset, .unset] [(.int (1 : Int32))])) t
    refine XS.aload X34.here hx rfl (hb hby at_68) rfl rfl ?_
    show Steps p.tables e below (T34.setTop (mkF m 70 #[.val (.long xx), .second, .val (.long u1), .second, .val (.long u2), .second, .val (.long unit), .second, .val (.int k_), .val (.ref b1), .val (.int (1 : Int32)), .val (.long (u1 &&& (4611686018427387903 : Int64))), .second, .val (.long (u2 &&& (4611686018427387903 : Int64))), .second, .unset, .unset, .unset, .unset] [(.ref b1), (.int (1 : Int32))])) t
    refine XS.lloadN X34.here hx rfl (hb hby at_70) rfl ?_
    exact kt
  obtain ⟨cq41, kq41, q41a, q41b, q41c⟩ := isOf hZ rfl F37
  obtain ⟨_, _, ⟨T41, L41, k41, n41⟩, -, X41, ⟨Lc41, hQ41, l41, y41, z41⟩, st41⟩ := X34.virtualBack hx (y := (⟨"com/example/siteward/siteward/assignment/LoadListing", "keeps", "(J)Z"⟩ : MethodName)) (z := (⟨"com/example/siteward/siteward/assignment/LoadListing", "keeps", "(J)Z"⟩ : MethodName)) hown (mvT hZ (hw _ (List.mem_of_getElem? (i := 22) rfl))) (mvT hZ (hw _ (List.mem_of_getElem? (i := 23) rfl))) (notFace_of_selects (args := #[]) (mvT hZ (hw _ (List.mem_of_getElem? (i := 25) rfl)))) (mvT hZ (hw _ (List.mem_of_getElem? (i := 25) rfl))) (mvT hZ (hw _ (List.mem_of_getElem? (i := 24) rfl))) (by decide) (backOf (W := 1) (own_rm3 l Z a0 hw [] (b1) (xx) ((((u1 &&& (4611686018427387903 : Int64)) / (64 : Int64)) + (1 : Int64))) T34.heap n0 (Nat.le_trans Z0 K38.1) Fs31_words) hZ (hw _ (List.mem_of_getElem? (i := 26) rfl)) (hw _ (List.mem_of_getElem? (i := 2) rfl)) (by decide) (by decide)) q41a q41c (g := (mkF m 71 #[.val (.long xx), .second, .val (.long u1), .second, .val (.long u2), .second, .val (.long unit), .second, .val (.int k_), .val (.ref b1), .val (.int (1 : Int32)), .val (.long (u1 &&& (4611686018427387903 : Int64))), .second, .val (.long (u2 &&& (4611686018427387903 : Int64))), .second, .unset, .unset, .unset, .unset] [(.long xx), (.ref b1), (.int (1 : Int32))])) rfl (by rw [hml]; rfl) (Steps.refl _) (argsL := [(.long xx)]) (rest := [(.int (1 : Int32))]) (lenOf own_pd2 rfl) rfl (by show 2 * 0 + _ ≤ _; exact Nat.le_of_eq rfl) (hb hby at_71) (fun _ _ => ⟨rfl, rfl, (by decide : 6 + 0 ≤ _), (by decide : 23 + 0 ≤ _)⟩)
  dsimp only [Pt.U, Pt.locs, Pt.cells, Pt.slots] at X41 l41 y41 z41 st41 hQ41
  subst l41 y41 z41
  obtain ⟨rfl, rfl, eq39⟩ := hQ41
  try rw [List.append_nil] at X41
  have S42 : ∀ t, Steps p.tables e below (T41.setTop (mkF m 74 #[.val (.long xx), .second, .val (.long u1), .second, .val (.long u2), .second, .val (.long unit), .second, .val (.int k_), .val (.ref b1), .val (.int (1 : Int32)), .val (.long (u1 &&& (4611686018427387903 : Int64))), .second, .val (.long (u2 &&& (4611686018427387903 : Int64))), .second, .unset, .unset, .unset, .unset] [(.int (own_b (own_kp xx (((u1 &&& (4611686018427387903 : Int64)) / (64 : Int64)) + (1 : Int64))))), (.int (1 : Int32))])) t → Steps p.tables e below (s₁.setTop (entryFrame m #[(.long xx), (.long u1), (.long u2), (.long unit), (.int k_)] maxLocals)) t := fun t kt => S40 t (st41.trans kt)
  have S44 : ∀ t, Steps p.tables e below (T41.setTop (mkF m 77 #[.val (.long xx), .second, .val (.long u1), .second, .val (.long u2), .second, .val (.long unit), .second, .val (.int k_), .val (.ref b1), .val (.int (1 : Int32)), .val (.long (u1 &&& (4611686018427387903 : Int64))), .second, .val (.long (u2 &&& (4611686018427387903 : Int64))), .second, .unset, .unset, .unset, .unset] [(.long (u1 &&& (4611686018427387903 : Int64))), (.long xx), (.int (own_b (own_kp xx (((u1 &&& (4611686018427387903 : Int64)) / (64 : Int64)) + (1 : Int64))))), (.int (1 : Int32))])) t → Steps p.tables e below (s₁.setTop (entryFrame m #[(.long xx), (.long u1), (.long u2), (.long unit), (.int k_)] maxLocals)) t := fun t kt => by
    refine S42 t ?_
    show Steps p.tables e below (T41.setTop (mkF m 74 #[.val (.long xx), .second, .val (.long u1), .second, .val (.long u2), .second, .val (.long unit), .second, .val (.int k_), .val (.ref b1), .val (.int (1 : Int32)), .val (.long (u1 &&& (4611686018427387903 : Int64))), .second, .val (.long (u2 &&& (4611686018427387903 : Int64))), .second, .unset, .unset, .unset, .unset] [(.int (own_b (own_kp xx (((u1 &&& (4611686018427387903 : Int64)) / (64 : Int64)) + (1 : Int64))))), (.int (1 : Int32))])) t
    refine XS.lloadN X41.here hx rfl (hb hby at_74) rfl ?_
    show Steps p.tables e below (T41.setTop (mkF m 75 #[.val (.long xx), .second, .val (.long u1), .second, .val (.long u2), .second, .val (.long unit), .second, .val (.int k_), .val (.ref b1), .val (.int (1 : Int32)), .val (.long (u1 &&& (4611686018427387903 : Int64))), .second, .val (.long (u2 &&& (4611686018427387903 : Int64))), .second, .unset, .unset, .unset, .unset] [(.long xx), (.int (own_b (own_kp xx (((u1 &&& (4611686018427387903 : Int64)) / (64 : Int64)) + (1 : Int64))))), (.int (1 : Int32))])) t
    refine XS.lload X41.here hx rfl (hb hby at_75) rfl ?_
    exact kt
  obtain ⟨_, _, ⟨T45, L45, k45, n45⟩, -, X45, ⟨Lc45, hQ45, l45, y45, z45⟩, st45⟩ := Jvm.LawKit.callS X41 hx (y := (⟨"com/example/siteward/siteward/assignment/LoadListingKeepsPinLaw", "ref", "(JJ)Z"⟩ : MethodName)) hown (mvT hZ (hw _ (List.mem_of_getElem? (i := 47) rfl))) (mvT hZ (hw _ (List.mem_of_getElem? (i := 48) rfl))) (mvT hZ (hw _ (List.mem_of_getElem? (i := 49) rfl))) (mvT hZ (hw _ (List.mem_of_getElem? (i := 50) rfl))) (by decide) (backOf (W := 2) (own_rm6 l Z a0 hw [] (xx) ((u1 &&& (4611686018427387903 : Int64))) T34.heap n0 (Nat.le_trans Z0 K38.1)) hZ (hw _ (List.mem_of_getElem? (i := 50) rfl)) (hw _ (List.mem_of_getElem? (i := 49) rfl)) (by decide) (by decide)) (g := (mkF m 77 #[.val (.long xx), .second, .val (.long u1), .second, .val (.long u2), .second, .val (.long unit), .second, .val (.int k_), .val (.ref b1), .val (.int (1 : Int32)), .val (.long (u1 &&& (4611686018427387903 : Int64))), .second, .val (.long (u2 &&& (4611686018427387903 : Int64))), .second, .unset, .unset, .unset, .unset] [(.long (u1 &&& (4611686018427387903 : Int64))), (.long xx), (.int (own_b (own_kp xx (((u1 &&& (4611686018427387903 : Int64)) / (64 : Int64)) + (1 : Int64))))), (.int (1 : Int32))])) rfl (by rw [hml]; rfl) (argsL := [(.long xx), (.long (u1 &&& (4611686018427387903 : Int64)))]) (rest := [(.int (own_b (own_kp xx (((u1 &&& (4611686018427387903 : Int64)) / (64 : Int64)) + (1 : Int64))))), (.int (1 : Int32))]) (lenOf own_pd4 rfl) rfl (by show 2 * 0 + _ ≤ _; exact Nat.le_of_eq rfl) (hb hby at_77) (fun _ _ => ⟨rfl, (eq39.trans rfl), (by decide : 6 + 0 ≤ _), (by decide : 23 + 0 ≤ _)⟩)
  dsimp only [Pt.U, Pt.locs, Pt.cells, Pt.slots] at X45 l45 y45 z45 st45 hQ45
  subst l45 y45 z45
  obtain ⟨rfl, rfl, eq43⟩ := hQ45
  try rw [List.append_nil] at X45
  have S46 : ∀ t, Steps p.tables e below (T45.setTop (mkF m 80 #[.val (.long xx), .second, .val (.long u1), .second, .val (.long u2), .second, .val (.long unit), .second, .val (.int k_), .val (.ref b1), .val (.int (1 : Int32)), .val (.long (u1 &&& (4611686018427387903 : Int64))), .second, .val (.long (u2 &&& (4611686018427387903 : Int64))), .second, .unset, .unset, .unset, .unset] [(.int (own_b (own_rf xx (u1 &&& (4611686018427387903 : Int64))))), (.int (own_b (own_kp xx (((u1 &&& (4611686018427387903 : Int64)) / (64 : Int64)) + (1 : Int64))))), (.int (1 : Int32))])) t → Steps p.tables e below (s₁.setTop (entryFrame m #[(.long xx), (.long u1), (.long u2), (.long unit), (.int k_)] maxLocals)) t := fun t kt => S44 t (st45 _ kt)
  have hc80_47 : (own_b (own_kp xx (((u1 &&& (4611686018427387903 : Int64)) / (64 : Int64)) + (1 : Int64)))) = (own_b (own_rf xx (u1 &&& (4611686018427387903 : Int64)))) := own_plain _ _
  have S49 : ∀ t, Steps p.tables e below (T45.setTop (mkF m 115 #[.val (.long xx), .second, .val (.long u1), .second, .val (.long u2), .second, .val (.long unit), .second, .val (.int k_), .val (.ref b1), .val (.int ((1 : Int32) &&& (1 : Int32))), .val (.long (u1 &&& (4611686018427387903 : Int64))), .second, .val (.long (u2 &&& (4611686018427387903 : Int64))), .second, .val (.long ((((u1 &&& (4611686018427387903 : Int64)) ||| (63 : Int64)) + ((((k_.toUInt32 >>> ((2 : Int32) &&& 31).toUInt32).toInt32) &&& (3 : Int32)).toInt64)) - (1 : Int64))), .second, .unset, .unset] [(.long ((((u1 &&& (4611686018427387903 : Int64)) ||| (63 : Int64)) + ((((k_.toUInt32 >>> ((2 : Int32) &&& 31).toUInt32).toInt32) &&& (3 : Int32)).toInt64)) - (1 : Int64))), (.ref b1), (.int ((1 : Int32) &&& (1 : Int32)))])) t → Steps p.tables e below (s₁.setTop (entryFrame m #[(.long xx), (.long u1), (.long u2), (.long unit), (.int k_)] maxLocals)) t := fun t kt => by
    refine S46 t ?_
    show Steps p.tables e below (T45.setTop (mkF m 80 #[.val (.long xx), .second, .val (.long u1), .second, .val (.long u2), .second, .val (.long unit), .second, .val (.int k_), .val (.ref b1), .val (.int (1 : Int32)), .val (.long (u1 &&& (4611686018427387903 : Int64))), .second, .val (.long (u2 &&& (4611686018427387903 : Int64))), .second, .unset, .unset, .unset, .unset] [(.int (own_b (own_rf xx (u1 &&& (4611686018427387903 : Int64))))), (.int (own_b (own_kp xx (((u1 &&& (4611686018427387903 : Int64)) / (64 : Int64)) + (1 : Int64))))), (.int (1 : Int32))])) t
    refine XS.icmpNo X45.here hx rfl (hb hby at_80) rfl (teq hc80_47).2 ?_
    show Steps p.tables e below (T45.setTop (mkF m 83 #[.val (.long xx), .second, .val (.long u1), .second, .val (.long u2), .second, .val (.long unit), .second, .val (.int k_), .val (.ref b1), .val (.int (1 : Int32)), .val (.long (u1 &&& (4611686018427387903 : Int64))), .second, .val (.long (u2 &&& (4611686018427387903 : Int64))), .second, .unset, .unset, .unset, .unset] [(.int (1 : Int32))])) t
    refine XS.iconst X45.here hx rfl (hb hby at_83) ?_
    show Steps p.tables e below (T45.setTop (mkF m 84 #[.val (.long xx), .second, .val (.long u1), .second, .val (.long u2), .second, .val (.long unit), .second, .val (.int k_), .val (.ref b1), .val (.int (1 : Int32)), .val (.long (u1 &&& (4611686018427387903 : Int64))), .second, .val (.long (u2 &&& (4611686018427387903 : Int64))), .second, .unset, .unset, .unset, .unset] [(.int (1 : Int32)), (.int (1 : Int32))])) t
    refine XS.goto X45.here hx rfl (pc0 := 84) (pc' := 88) rfl (hb hby at_84) (by decide) (by decide) ?_
    show Steps p.tables e below (T45.setTop (mkF m 88 #[.val (.long xx), .second, .val (.long u1), .second, .val (.long u2), .second, .val (.long unit), .second, .val (.int k_), .val (.ref b1), .val (.int (1 : Int32)), .val (.long (u1 &&& (4611686018427387903 : Int64))), .second, .val (.long (u2 &&& (4611686018427387903 : Int64))), .second, .unset, .unset, .unset, .unset] [(.int (1 : Int32)), (.int (1 : Int32))])) t
    refine XS.iand X45.here hx rfl (hb hby at_88) rfl ?_
    show Steps p.tables e below (T45.setTop (mkF m 89 #[.val (.long xx), .second, .val (.long u1), .second, .val (.long u2), .second, .val (.long unit), .second, .val (.int k_), .val (.ref b1), .val (.int (1 : Int32)), .val (.long (u1 &&& (4611686018427387903 : Int64))), .second, .val (.long (u2 &&& (4611686018427387903 : Int64))), .second, .unset, .unset, .unset, .unset] [(.int ((1 : Int32) &&& (1 : Int32)))])) t
    refine XS.istore X45.here hx rfl (hb hby at_89) rfl (l' := #[.val (.long xx), .second, .val (.long u1), .second, .val (.long u2), .second, .val (.long unit), .second, .val (.int k_), .val (.ref b1), .val (.int ((1 : Int32) &&& (1 : Int32))), .val (.long (u1 &&& (4611686018427387903 : Int64))), .second, .val (.long (u2 &&& (4611686018427387903 : Int64))), .second, .unset, .unset, .unset, .unset]) rfl ?_
    show Steps p.tables e below (T45.setTop (mkF m 91 #[.val (.long xx), .second, .val (.long u1), .second, .val (.long u2), .second, .val (.long unit), .second, .val (.int k_), .val (.ref b1), .val (.int ((1 : Int32) &&& (1 : Int32))), .val (.long (u1 &&& (4611686018427387903 : Int64))), .second, .val (.long (u2 &&& (4611686018427387903 : Int64))), .second, .unset, .unset, .unset, .unset] [])) t
    refine XS.lload X45.here hx rfl (hb hby at_91) rfl ?_
    show Steps p.tables e below (T45.setTop (mkF m 93 #[.val (.long xx), .second, .val (.long u1), .second, .val (.long u2), .second, .val (.long unit), .second, .val (.int k_), .val (.ref b1), .val (.int ((1 : Int32) &&& (1 : Int32))), .val (.long (u1 &&& (4611686018427387903 : Int64))), .second, .val (.long (u2 &&& (4611686018427387903 : Int64))), .second, .unset, .unset, .unset, .unset] [(.long (u1 &&& (4611686018427387903 : Int64)))])) t
    refine X45.ldc2Long hx hown (mvT hZ (hw _ (List.mem_of_getElem? (i := 52) rfl))) (g := (mkF m 93 #[.val (.long xx), .second, .val (.long u1), .second, .val (.long u2), .second, .val (.long unit), .second, .val (.int k_), .val (.ref b1), .val (.int ((1 : Int32) &&& (1 : Int32))), .val (.long (u1 &&& (4611686018427387903 : Int64))), .second, .val (.long (u2 &&& (4611686018427387903 : Int64))), .second, .unset, .unset, .unset, .unset] [(.long (u1 &&& (4611686018427387903 : Int64)))])) rfl (hb hby at_93) _ ?_
    show Steps p.tables e below (T45.setTop (mkF m 96 #[.val (.long xx), .second, .val (.long u1), .second, .val (.long u2), .second, .val (.long unit), .second, .val (.int k_), .val (.ref b1), .val (.int ((1 : Int32) &&& (1 : Int32))), .val (.long (u1 &&& (4611686018427387903 : Int64))), .second, .val (.long (u2 &&& (4611686018427387903 : Int64))), .second, .unset, .unset, .unset, .unset] [(.long (63 : Int64)), (.long (u1 &&& (4611686018427387903 : Int64)))])) t
    refine XS.lor X45.here hx rfl (hb hby at_96) rfl ?_
    show Steps p.tables e below (T45.setTop (mkF m 97 #[.val (.long xx), .second, .val (.long u1), .second, .val (.long u2), .second, .val (.long unit), .second, .val (.int k_), .val (.ref b1), .val (.int ((1 : Int32) &&& (1 : Int32))), .val (.long (u1 &&& (4611686018427387903 : Int64))), .second, .val (.long (u2 &&& (4611686018427387903 : Int64))), .second, .unset, .unset, .unset, .unset] [(.long ((u1 &&& (4611686018427387903 : Int64)) ||| (63 : Int64)))])) t
    refine XS.iload X45.here hx rfl (hb hby at_97) rfl ?_
    show Steps p.tables e below (T45.setTop (mkF m 99 #[.val (.long xx), .second, .val (.long u1), .second, .val (.long u2), .second, .val (.long unit), .second, .val (.int k_), .val (.ref b1), .val (.int ((1 : Int32) &&& (1 : Int32))), .val (.long (u1 &&& (4611686018427387903 : Int64))), .second, .val (.long (u2 &&& (4611686018427387903 : Int64))), .second, .unset, .unset, .unset, .unset] [(.int k_), (.long ((u1 &&& (4611686018427387903 : Int64)) ||| (63 : Int64)))])) t
    refine XS.iconst X45.here hx rfl (hb hby at_99) ?_
    show Steps p.tables e below (T45.setTop (mkF m 100 #[.val (.long xx), .second, .val (.long u1), .second, .val (.long u2), .second, .val (.long unit), .second, .val (.int k_), .val (.ref b1), .val (.int ((1 : Int32) &&& (1 : Int32))), .val (.long (u1 &&& (4611686018427387903 : Int64))), .second, .val (.long (u2 &&& (4611686018427387903 : Int64))), .second, .unset, .unset, .unset, .unset] [(.int (2 : Int32)), (.int k_), (.long ((u1 &&& (4611686018427387903 : Int64)) ||| (63 : Int64)))])) t
    refine XS.iushr X45.here hx rfl (hb hby at_100) rfl ?_
    show Steps p.tables e below (T45.setTop (mkF m 101 #[.val (.long xx), .second, .val (.long u1), .second, .val (.long u2), .second, .val (.long unit), .second, .val (.int k_), .val (.ref b1), .val (.int ((1 : Int32) &&& (1 : Int32))), .val (.long (u1 &&& (4611686018427387903 : Int64))), .second, .val (.long (u2 &&& (4611686018427387903 : Int64))), .second, .unset, .unset, .unset, .unset] [(.int ((k_.toUInt32 >>> ((2 : Int32) &&& 31).toUInt32).toInt32)), (.long ((u1 &&& (4611686018427387903 : Int64)) ||| (63 : Int64)))])) t
    refine XS.iconst X45.here hx rfl (hb hby at_101) ?_
    show Steps p.tables e below (T45.setTop (mkF m 102 #[.val (.long xx), .second, .val (.long u1), .second, .val (.long u2), .second, .val (.long unit), .second, .val (.int k_), .val (.ref b1), .val (.int ((1 : Int32) &&& (1 : Int32))), .val (.long (u1 &&& (4611686018427387903 : Int64))), .second, .val (.long (u2 &&& (4611686018427387903 : Int64))), .second, .unset, .unset, .unset, .unset] [(.int (3 : Int32)), (.int ((k_.toUInt32 >>> ((2 : Int32) &&& 31).toUInt32).toInt32)), (.long ((u1 &&& (4611686018427387903 : Int64)) ||| (63 : Int64)))])) t
    refine XS.iand X45.here hx rfl (hb hby at_102) rfl ?_
    show Steps p.tables e below (T45.setTop (mkF m 103 #[.val (.long xx), .second, .val (.long u1), .second, .val (.long u2), .second, .val (.long unit), .second, .val (.int k_), .val (.ref b1), .val (.int ((1 : Int32) &&& (1 : Int32))), .val (.long (u1 &&& (4611686018427387903 : Int64))), .second, .val (.long (u2 &&& (4611686018427387903 : Int64))), .second, .unset, .unset, .unset, .unset] [(.int (((k_.toUInt32 >>> ((2 : Int32) &&& 31).toUInt32).toInt32) &&& (3 : Int32))), (.long ((u1 &&& (4611686018427387903 : Int64)) ||| (63 : Int64)))])) t
    refine XS.i2l X45.here hx rfl (hb hby at_103) rfl ?_
    show Steps p.tables e below (T45.setTop (mkF m 104 #[.val (.long xx), .second, .val (.long u1), .second, .val (.long u2), .second, .val (.long unit), .second, .val (.int k_), .val (.ref b1), .val (.int ((1 : Int32) &&& (1 : Int32))), .val (.long (u1 &&& (4611686018427387903 : Int64))), .second, .val (.long (u2 &&& (4611686018427387903 : Int64))), .second, .unset, .unset, .unset, .unset] [(.long ((((k_.toUInt32 >>> ((2 : Int32) &&& 31).toUInt32).toInt32) &&& (3 : Int32)).toInt64)), (.long ((u1 &&& (4611686018427387903 : Int64)) ||| (63 : Int64)))])) t
    refine XS.ladd X45.here hx rfl (hb hby at_104) rfl ?_
    show Steps p.tables e below (T45.setTop (mkF m 105 #[.val (.long xx), .second, .val (.long u1), .second, .val (.long u2), .second, .val (.long unit), .second, .val (.int k_), .val (.ref b1), .val (.int ((1 : Int32) &&& (1 : Int32))), .val (.long (u1 &&& (4611686018427387903 : Int64))), .second, .val (.long (u2 &&& (4611686018427387903 : Int64))), .second, .unset, .unset, .unset, .unset] [(.long (((u1 &&& (4611686018427387903 : Int64)) ||| (63 : Int64)) + ((((k_.toUInt32 >>> ((2 : Int32) &&& 31).toUInt32).toInt32) &&& (3 : Int32)).toInt64)))])) t
    refine XS.lconst X45.here hx rfl (hb hby at_105) ?_
    show Steps p.tables e below (T45.setTop (mkF m 106 #[.val (.long xx), .second, .val (.long u1), .second, .val (.long u2), .second, .val (.long unit), .second, .val (.int k_), .val (.ref b1), .val (.int ((1 : Int32) &&& (1 : Int32))), .val (.long (u1 &&& (4611686018427387903 : Int64))), .second, .val (.long (u2 &&& (4611686018427387903 : Int64))), .second, .unset, .unset, .unset, .unset] [(.long (1 : Int64)), (.long (((u1 &&& (4611686018427387903 : Int64)) ||| (63 : Int64)) + ((((k_.toUInt32 >>> ((2 : Int32) &&& 31).toUInt32).toInt32) &&& (3 : Int32)).toInt64)))])) t
    refine XS.lsub X45.here hx rfl (hb hby at_106) rfl ?_
    show Steps p.tables e below (T45.setTop (mkF m 107 #[.val (.long xx), .second, .val (.long u1), .second, .val (.long u2), .second, .val (.long unit), .second, .val (.int k_), .val (.ref b1), .val (.int ((1 : Int32) &&& (1 : Int32))), .val (.long (u1 &&& (4611686018427387903 : Int64))), .second, .val (.long (u2 &&& (4611686018427387903 : Int64))), .second, .unset, .unset, .unset, .unset] [(.long ((((u1 &&& (4611686018427387903 : Int64)) ||| (63 : Int64)) + ((((k_.toUInt32 >>> ((2 : Int32) &&& 31).toUInt32).toInt32) &&& (3 : Int32)).toInt64)) - (1 : Int64)))])) t
    refine XS.lstore X45.here hx rfl (hb hby at_107) rfl (l' := #[.val (.long xx), .second, .val (.long u1), .second, .val (.long u2), .second, .val (.long unit), .second, .val (.int k_), .val (.ref b1), .val (.int ((1 : Int32) &&& (1 : Int32))), .val (.long (u1 &&& (4611686018427387903 : Int64))), .second, .val (.long (u2 &&& (4611686018427387903 : Int64))), .second, .val (.long ((((u1 &&& (4611686018427387903 : Int64)) ||| (63 : Int64)) + ((((k_.toUInt32 >>> ((2 : Int32) &&& 31).toUInt32).toInt32) &&& (3 : Int32)).toInt64)) - (1 : Int64))), .second, .unset, .unset]) rfl ?_
    show Steps p.tables e below (T45.setTop (mkF m 109 #[.val (.long xx), .second, .val (.long u1), .second, .val (.long u2), .second, .val (.long unit), .second, .val (.int k_), .val (.ref b1), .val (.int ((1 : Int32) &&& (1 : Int32))), .val (.long (u1 &&& (4611686018427387903 : Int64))), .second, .val (.long (u2 &&& (4611686018427387903 : Int64))), .second, .val (.long ((((u1 &&& (4611686018427387903 : Int64)) ||| (63 : Int64)) + ((((k_.toUInt32 >>> ((2 : Int32) &&& 31).toUInt32).toInt32) &&& (3 : Int32)).toInt64)) - (1 : Int64))), .second, .unset, .unset] [])) t
    refine XS.iload X45.here hx rfl (hb hby at_109) rfl ?_
    show Steps p.tables e below (T45.setTop (mkF m 111 #[.val (.long xx), .second, .val (.long u1), .second, .val (.long u2), .second, .val (.long unit), .second, .val (.int k_), .val (.ref b1), .val (.int ((1 : Int32) &&& (1 : Int32))), .val (.long (u1 &&& (4611686018427387903 : Int64))), .second, .val (.long (u2 &&& (4611686018427387903 : Int64))), .second, .val (.long ((((u1 &&& (4611686018427387903 : Int64)) ||| (63 : Int64)) + ((((k_.toUInt32 >>> ((2 : Int32) &&& 31).toUInt32).toInt32) &&& (3 : Int32)).toInt64)) - (1 : Int64))), .second, .unset, .unset] [(.int ((1 : Int32) &&& (1 : Int32)))])) t
    refine XS.aload X45.here hx rfl (hb hby at_111) rfl rfl ?_
    show Steps p.tables e below (T45.setTop (mkF m 113 #[.val (.long xx), .second, .val (.long u1), .second, .val (.long u2), .second, .val (.long unit), .second, .val (.int k_), .val (.ref b1), .val (.int ((1 : Int32) &&& (1 : Int32))), .val (.long (u1 &&& (4611686018427387903 : Int64))), .second, .val (.long (u2 &&& (4611686018427387903 : Int64))), .second, .val (.long ((((u1 &&& (4611686018427387903 : Int64)) ||| (63 : Int64)) + ((((k_.toUInt32 >>> ((2 : Int32) &&& 31).toUInt32).toInt32) &&& (3 : Int32)).toInt64)) - (1 : Int64))), .second, .unset, .unset] [(.ref b1), (.int ((1 : Int32) &&& (1 : Int32)))])) t
    refine XS.lload X45.here hx rfl (hb hby at_113) rfl ?_
    exact kt
  obtain ⟨cq50, kq50, q50a, q50b, q50c⟩ := isOf hZ eq43 F37
  obtain ⟨_, _, ⟨T50, L50, k50, n50⟩, -, X50, ⟨Lc50, hQ50, l50, y50, z50⟩, st50⟩ := X45.virtualBack hx (y := (⟨"com/example/siteward/siteward/assignment/LoadListing", "keeps", "(J)Z"⟩ : MethodName)) (z := (⟨"com/example/siteward/siteward/assignment/LoadListing", "keeps", "(J)Z"⟩ : MethodName)) hown (mvT hZ (hw _ (List.mem_of_getElem? (i := 22) rfl))) (mvT hZ (hw _ (List.mem_of_getElem? (i := 23) rfl))) (notFace_of_selects (args := #[]) (mvT hZ (hw _ (List.mem_of_getElem? (i := 25) rfl)))) (mvT hZ (hw _ (List.mem_of_getElem? (i := 25) rfl))) (mvT hZ (hw _ (List.mem_of_getElem? (i := 24) rfl))) (by decide) (backOf (W := 1) (own_rm3 l Z a0 hw [] (b1) (((((u1 &&& (4611686018427387903 : Int64)) ||| (63 : Int64)) + ((((k_.toUInt32 >>> ((2 : Int32) &&& 31).toUInt32).toInt32) &&& (3 : Int32)).toInt64)) - (1 : Int64))) ((((u1 &&& (4611686018427387903 : Int64)) / (64 : Int64)) + (1 : Int64))) T34.heap n0 (Nat.le_trans Z0 K38.1) Fs31_words) hZ (hw _ (List.mem_of_getElem? (i := 26) rfl)) (hw _ (List.mem_of_getElem? (i := 2) rfl)) (by decide) (by decide)) q50a q50c (g := (mkF m 115 #[.val (.long xx), .second, .val (.long u1), .second, .val (.long u2), .second, .val (.long unit), .second, .val (.int k_), .val (.ref b1), .val (.int ((1 : Int32) &&& (1 : Int32))), .val (.long (u1 &&& (4611686018427387903 : Int64))), .second, .val (.long (u2 &&& (4611686018427387903 : Int64))), .second, .val (.long ((((u1 &&& (4611686018427387903 : Int64)) ||| (63 : Int64)) + ((((k_.toUInt32 >>> ((2 : Int32) &&& 31).toUInt32).toInt32) &&& (3 : Int32)).toInt64)) - (1 : Int64))), .second, .unset, .unset] [(.long ((((u1 &&& (4611686018427387903 : Int64)) ||| (63 : Int64)) + ((((k_.toUInt32 >>> ((2 : Int32) &&& 31).toUInt32).toInt32) &&& (3 : Int32)).toInt64)) - (1 : Int64))), (.ref b1), (.int ((1 : Int32) &&& (1 : Int32)))])) rfl (by rw [hml]; rfl) (Steps.refl _) (argsL := [(.long ((((u1 &&& (4611686018427387903 : Int64)) ||| (63 : Int64)) + ((((k_.toUInt32 >>> ((2 : Int32) &&& 31).toUInt32).toInt32) &&& (3 : Int32)).toInt64)) - (1 : Int64)))]) (rest := [(.int ((1 : Int32) &&& (1 : Int32)))]) (lenOf own_pd2 rfl) rfl (by show 2 * 0 + _ ≤ _; exact Nat.le_of_eq rfl) (hb hby at_115) (fun _ _ => ⟨rfl, eq43, (by decide : 6 + 0 ≤ _), (by decide : 23 + 0 ≤ _)⟩)
  dsimp only [Pt.U, Pt.locs, Pt.cells, Pt.slots] at X50 l50 y50 z50 st50 hQ50
  subst l50 y50 z50
  obtain ⟨rfl, rfl, eq48⟩ := hQ50
  try rw [List.append_nil] at X50
  have S51 : ∀ t, Steps p.tables e below (T50.setTop (mkF m 118 #[.val (.long xx), .second, .val (.long u1), .second, .val (.long u2), .second, .val (.long unit), .second, .val (.int k_), .val (.ref b1), .val (.int ((1 : Int32) &&& (1 : Int32))), .val (.long (u1 &&& (4611686018427387903 : Int64))), .second, .val (.long (u2 &&& (4611686018427387903 : Int64))), .second, .val (.long ((((u1 &&& (4611686018427387903 : Int64)) ||| (63 : Int64)) + ((((k_.toUInt32 >>> ((2 : Int32) &&& 31).toUInt32).toInt32) &&& (3 : Int32)).toInt64)) - (1 : Int64))), .second, .unset, .unset] [(.int (own_b (own_kp ((((u1 &&& (4611686018427387903 : Int64)) ||| (63 : Int64)) + ((((k_.toUInt32 >>> ((2 : Int32) &&& 31).toUInt32).toInt32) &&& (3 : Int32)).toInt64)) - (1 : Int64)) (((u1 &&& (4611686018427387903 : Int64)) / (64 : Int64)) + (1 : Int64))))), (.int ((1 : Int32) &&& (1 : Int32)))])) t → Steps p.tables e below (s₁.setTop (entryFrame m #[(.long xx), (.long u1), (.long u2), (.long unit), (.int k_)] maxLocals)) t := fun t kt => S49 t (st50.trans kt)
  have S53 : ∀ t, Steps p.tables e below (T50.setTop (mkF m 122 #[.val (.long xx), .second, .val (.long u1), .second, .val (.long u2), .second, .val (.long unit), .second, .val (.int k_), .val (.ref b1), .val (.int ((1 : Int32) &&& (1 : Int32))), .val (.long (u1 &&& (4611686018427387903 : Int64))), .second, .val (.long (u2 &&& (4611686018427387903 : Int64))), .second, .val (.long ((((u1 &&& (4611686018427387903 : Int64)) ||| (63 : Int64)) + ((((k_.toUInt32 >>> ((2 : Int32) &&& 31).toUInt32).toInt32) &&& (3 : Int32)).toInt64)) - (1 : Int64))), .second, .unset, .unset] [(.long (u1 &&& (4611686018427387903 : Int64))), (.long ((((u1 &&& (4611686018427387903 : Int64)) ||| (63 : Int64)) + ((((k_.toUInt32 >>> ((2 : Int32) &&& 31).toUInt32).toInt32) &&& (3 : Int32)).toInt64)) - (1 : Int64))), (.int (own_b (own_kp ((((u1 &&& (4611686018427387903 : Int64)) ||| (63 : Int64)) + ((((k_.toUInt32 >>> ((2 : Int32) &&& 31).toUInt32).toInt32) &&& (3 : Int32)).toInt64)) - (1 : Int64)) (((u1 &&& (4611686018427387903 : Int64)) / (64 : Int64)) + (1 : Int64))))), (.int ((1 : Int32) &&& (1 : Int32)))])) t → Steps p.tables e below (s₁.setTop (entryFrame m #[(.long xx), (.long u1), (.long u2), (.long unit), (.int k_)] maxLocals)) t := fun t kt => by
    refine S51 t ?_
    show Steps p.tables e below (T50.setTop (mkF m 118 #[.val (.long xx), .second, .val (.long u1), .second, .val (.long u2), .second, .val (.long unit), .second, .val (.int k_), .val (.ref b1), .val (.int ((1 : Int32) &&& (1 : Int32))), .val (.long (u1 &&& (4611686018427387903 : Int64))), .second, .val (.long (u2 &&& (4611686018427387903 : Int64))), .second, .val (.long ((((u1 &&& (4611686018427387903 : Int64)) ||| (63 : Int64)) + ((((k_.toUInt32 >>> ((2 : Int32) &&& 31).toUInt32).toInt32) &&& (3 : Int32)).toInt64)) - (1 : Int64))), .second, .unset, .unset] [(.int (own_b (own_kp ((((u1 &&& (4611686018427387903 : Int64)) ||| (63 : Int64)) + ((((k_.toUInt32 >>> ((2 : Int32) &&& 31).toUInt32).toInt32) &&& (3 : Int32)).toInt64)) - (1 : Int64)) (((u1 &&& (4611686018427387903 : Int64)) / (64 : Int64)) + (1 : Int64))))), (.int ((1 : Int32) &&& (1 : Int32)))])) t
    refine XS.lload X50.here hx rfl (hb hby at_118) rfl ?_
    show Steps p.tables e below (T50.setTop (mkF m 120 #[.val (.long xx), .second, .val (.long u1), .second, .val (.long u2), .second, .val (.long unit), .second, .val (.int k_), .val (.ref b1), .val (.int ((1 : Int32) &&& (1 : Int32))), .val (.long (u1 &&& (4611686018427387903 : Int64))), .second, .val (.long (u2 &&& (4611686018427387903 : Int64))), .second, .val (.long ((((u1 &&& (4611686018427387903 : Int64)) ||| (63 : Int64)) + ((((k_.toUInt32 >>> ((2 : Int32) &&& 31).toUInt32).toInt32) &&& (3 : Int32)).toInt64)) - (1 : Int64))), .second, .unset, .unset] [(.long ((((u1 &&& (4611686018427387903 : Int64)) ||| (63 : Int64)) + ((((k_.toUInt32 >>> ((2 : Int32) &&& 31).toUInt32).toInt32) &&& (3 : Int32)).toInt64)) - (1 : Int64))), (.int (own_b (own_kp ((((u1 &&& (4611686018427387903 : Int64)) ||| (63 : Int64)) + ((((k_.toUInt32 >>> ((2 : Int32) &&& 31).toUInt32).toInt32) &&& (3 : Int32)).toInt64)) - (1 : Int64)) (((u1 &&& (4611686018427387903 : Int64)) / (64 : Int64)) + (1 : Int64))))), (.int ((1 : Int32) &&& (1 : Int32)))])) t
    refine XS.lload X50.here hx rfl (hb hby at_120) rfl ?_
    exact kt
  obtain ⟨_, _, ⟨T54, L54, k54, n54⟩, -, X54, ⟨Lc54, hQ54, l54, y54, z54⟩, st54⟩ := Jvm.LawKit.callS X50 hx (y := (⟨"com/example/siteward/siteward/assignment/LoadListingKeepsPinLaw", "ref", "(JJ)Z"⟩ : MethodName)) hown (mvT hZ (hw _ (List.mem_of_getElem? (i := 47) rfl))) (mvT hZ (hw _ (List.mem_of_getElem? (i := 48) rfl))) (mvT hZ (hw _ (List.mem_of_getElem? (i := 49) rfl))) (mvT hZ (hw _ (List.mem_of_getElem? (i := 50) rfl))) (by decide) (backOf (W := 2) (own_rm6 l Z a0 hw [] (((((u1 &&& (4611686018427387903 : Int64)) ||| (63 : Int64)) + ((((k_.toUInt32 >>> ((2 : Int32) &&& 31).toUInt32).toInt32) &&& (3 : Int32)).toInt64)) - (1 : Int64))) ((u1 &&& (4611686018427387903 : Int64))) T34.heap n0 (Nat.le_trans Z0 K38.1)) hZ (hw _ (List.mem_of_getElem? (i := 50) rfl)) (hw _ (List.mem_of_getElem? (i := 49) rfl)) (by decide) (by decide)) (g := (mkF m 122 #[.val (.long xx), .second, .val (.long u1), .second, .val (.long u2), .second, .val (.long unit), .second, .val (.int k_), .val (.ref b1), .val (.int ((1 : Int32) &&& (1 : Int32))), .val (.long (u1 &&& (4611686018427387903 : Int64))), .second, .val (.long (u2 &&& (4611686018427387903 : Int64))), .second, .val (.long ((((u1 &&& (4611686018427387903 : Int64)) ||| (63 : Int64)) + ((((k_.toUInt32 >>> ((2 : Int32) &&& 31).toUInt32).toInt32) &&& (3 : Int32)).toInt64)) - (1 : Int64))), .second, .unset, .unset] [(.long (u1 &&& (4611686018427387903 : Int64))), (.long ((((u1 &&& (4611686018427387903 : Int64)) ||| (63 : Int64)) + ((((k_.toUInt32 >>> ((2 : Int32) &&& 31).toUInt32).toInt32) &&& (3 : Int32)).toInt64)) - (1 : Int64))), (.int (own_b (own_kp ((((u1 &&& (4611686018427387903 : Int64)) ||| (63 : Int64)) + ((((k_.toUInt32 >>> ((2 : Int32) &&& 31).toUInt32).toInt32) &&& (3 : Int32)).toInt64)) - (1 : Int64)) (((u1 &&& (4611686018427387903 : Int64)) / (64 : Int64)) + (1 : Int64))))), (.int ((1 : Int32) &&& (1 : Int32)))])) rfl (by rw [hml]; rfl) (argsL := [(.long ((((u1 &&& (4611686018427387903 : Int64)) ||| (63 : Int64)) + ((((k_.toUInt32 >>> ((2 : Int32) &&& 31).toUInt32).toInt32) &&& (3 : Int32)).toInt64)) - (1 : Int64))), (.long (u1 &&& (4611686018427387903 : Int64)))]) (rest := [(.int (own_b (own_kp ((((u1 &&& (4611686018427387903 : Int64)) ||| (63 : Int64)) + ((((k_.toUInt32 >>> ((2 : Int32) &&& 31).toUInt32).toInt32) &&& (3 : Int32)).toInt64)) - (1 : Int64)) (((u1 &&& (4611686018427387903 : Int64)) / (64 : Int64)) + (1 : Int64))))), (.int ((1 : Int32) &&& (1 : Int32)))]) (lenOf own_pd4 rfl) rfl (by show 2 * 0 + _ ≤ _; exact Nat.le_of_eq rfl) (hb hby at_122) (fun _ _ => ⟨rfl, eq48, (by decide : 6 + 0 ≤ _), (by decide : 23 + 0 ≤ _)⟩)
  dsimp only [Pt.U, Pt.locs, Pt.cells, Pt.slots] at X54 l54 y54 z54 st54 hQ54
  subst l54 y54 z54
  obtain ⟨rfl, rfl, eq52⟩ := hQ54
  try rw [List.append_nil] at X54
  have S55 : ∀ t, Steps p.tables e below (T54.setTop (mkF m 125 #[.val (.long xx), .second, .val (.long u1), .second, .val (.long u2), .second, .val (.long unit), .second, .val (.int k_), .val (.ref b1), .val (.int ((1 : Int32) &&& (1 : Int32))), .val (.long (u1 &&& (4611686018427387903 : Int64))), .second, .val (.long (u2 &&& (4611686018427387903 : Int64))), .second, .val (.long ((((u1 &&& (4611686018427387903 : Int64)) ||| (63 : Int64)) + ((((k_.toUInt32 >>> ((2 : Int32) &&& 31).toUInt32).toInt32) &&& (3 : Int32)).toInt64)) - (1 : Int64))), .second, .unset, .unset] [(.int (own_b (own_rf ((((u1 &&& (4611686018427387903 : Int64)) ||| (63 : Int64)) + ((((k_.toUInt32 >>> ((2 : Int32) &&& 31).toUInt32).toInt32) &&& (3 : Int32)).toInt64)) - (1 : Int64)) (u1 &&& (4611686018427387903 : Int64))))), (.int (own_b (own_kp ((((u1 &&& (4611686018427387903 : Int64)) ||| (63 : Int64)) + ((((k_.toUInt32 >>> ((2 : Int32) &&& 31).toUInt32).toInt32) &&& (3 : Int32)).toInt64)) - (1 : Int64)) (((u1 &&& (4611686018427387903 : Int64)) / (64 : Int64)) + (1 : Int64))))), (.int ((1 : Int32) &&& (1 : Int32)))])) t → Steps p.tables e below (s₁.setTop (entryFrame m #[(.long xx), (.long u1), (.long u2), (.long unit), (.int k_)] maxLocals)) t := fun t kt => S53 t (st54 _ kt)
  have hc125_56 : (own_b (own_kp ((((u1 &&& (4611686018427387903 : Int64)) ||| (63 : Int64)) + ((((k_.toUInt32 >>> ((2 : Int32) &&& 31).toUInt32).toInt32) &&& (3 : Int32)).toInt64)) - (1 : Int64)) (((u1 &&& (4611686018427387903 : Int64)) / (64 : Int64)) + (1 : Int64)))) = (own_b (own_rf ((((u1 &&& (4611686018427387903 : Int64)) ||| (63 : Int64)) + ((((k_.toUInt32 >>> ((2 : Int32) &&& 31).toUInt32).toInt32) &&& (3 : Int32)).toInt64)) - (1 : Int64)) (u1 &&& (4611686018427387903 : Int64)))) := own_plain _ _
  have S59 : ∀ t, Steps p.tables e below (T54.setTop (mkF m 142 #[.val (.long xx), .second, .val (.long u1), .second, .val (.long u2), .second, .val (.long unit), .second, .val (.int k_), .val (.ref b1), .val (.int (((1 : Int32) &&& (1 : Int32)) &&& (1 : Int32))), .val (.long (u1 &&& (4611686018427387903 : Int64))), .second, .val (.long (u2 &&& (4611686018427387903 : Int64))), .second, .val (.long ((((u1 &&& (4611686018427387903 : Int64)) ||| (63 : Int64)) + ((((k_.toUInt32 >>> ((2 : Int32) &&& 31).toUInt32).toInt32) &&& (3 : Int32)).toInt64)) - (1 : Int64))), .second, .unset, .unset] [(.long (u2 &&& (4611686018427387903 : Int64))), (.long unit), (.ref b1)])) t → Steps p.tables e below (s₁.setTop (entryFrame m #[(.long xx), (.long u1), (.long u2), (.long unit), (.int k_)] maxLocals)) t := fun t kt => by
    refine S55 t ?_
    show Steps p.tables e below (T54.setTop (mkF m 125 #[.val (.long xx), .second, .val (.long u1), .second, .val (.long u2), .second, .val (.long unit), .second, .val (.int k_), .val (.ref b1), .val (.int ((1 : Int32) &&& (1 : Int32))), .val (.long (u1 &&& (4611686018427387903 : Int64))), .second, .val (.long (u2 &&& (4611686018427387903 : Int64))), .second, .val (.long ((((u1 &&& (4611686018427387903 : Int64)) ||| (63 : Int64)) + ((((k_.toUInt32 >>> ((2 : Int32) &&& 31).toUInt32).toInt32) &&& (3 : Int32)).toInt64)) - (1 : Int64))), .second, .unset, .unset] [(.int (own_b (own_rf ((((u1 &&& (4611686018427387903 : Int64)) ||| (63 : Int64)) + ((((k_.toUInt32 >>> ((2 : Int32) &&& 31).toUInt32).toInt32) &&& (3 : Int32)).toInt64)) - (1 : Int64)) (u1 &&& (4611686018427387903 : Int64))))), (.int (own_b (own_kp ((((u1 &&& (4611686018427387903 : Int64)) ||| (63 : Int64)) + ((((k_.toUInt32 >>> ((2 : Int32) &&& 31).toUInt32).toInt32) &&& (3 : Int32)).toInt64)) - (1 : Int64)) (((u1 &&& (4611686018427387903 : Int64)) / (64 : Int64)) + (1 : Int64))))), (.int ((1 : Int32) &&& (1 : Int32)))])) t
    refine XS.icmpNo X54.here hx rfl (hb hby at_125) rfl (teq hc125_56).2 ?_
    show Steps p.tables e below (T54.setTop (mkF m 128 #[.val (.long xx), .second, .val (.long u1), .second, .val (.long u2), .second, .val (.long unit), .second, .val (.int k_), .val (.ref b1), .val (.int ((1 : Int32) &&& (1 : Int32))), .val (.long (u1 &&& (4611686018427387903 : Int64))), .second, .val (.long (u2 &&& (4611686018427387903 : Int64))), .second, .val (.long ((((u1 &&& (4611686018427387903 : Int64)) ||| (63 : Int64)) + ((((k_.toUInt32 >>> ((2 : Int32) &&& 31).toUInt32).toInt32) &&& (3 : Int32)).toInt64)) - (1 : Int64))), .second, .unset, .unset] [(.int ((1 : Int32) &&& (1 : Int32)))])) t
    refine XS.iconst X54.here hx rfl (hb hby at_128) ?_
    show Steps p.tables e below (T54.setTop (mkF m 129 #[.val (.long xx), .second, .val (.long u1), .second, .val (.long u2), .second, .val (.long unit), .second, .val (.int k_), .val (.ref b1), .val (.int ((1 : Int32) &&& (1 : Int32))), .val (.long (u1 &&& (4611686018427387903 : Int64))), .second, .val (.long (u2 &&& (4611686018427387903 : Int64))), .second, .val (.long ((((u1 &&& (4611686018427387903 : Int64)) ||| (63 : Int64)) + ((((k_.toUInt32 >>> ((2 : Int32) &&& 31).toUInt32).toInt32) &&& (3 : Int32)).toInt64)) - (1 : Int64))), .second, .unset, .unset] [(.int (1 : Int32)), (.int ((1 : Int32) &&& (1 : Int32)))])) t
    refine XS.goto X54.here hx rfl (pc0 := 129) (pc' := 133) rfl (hb hby at_129) (by decide) (by decide) ?_
    show Steps p.tables e below (T54.setTop (mkF m 133 #[.val (.long xx), .second, .val (.long u1), .second, .val (.long u2), .second, .val (.long unit), .second, .val (.int k_), .val (.ref b1), .val (.int ((1 : Int32) &&& (1 : Int32))), .val (.long (u1 &&& (4611686018427387903 : Int64))), .second, .val (.long (u2 &&& (4611686018427387903 : Int64))), .second, .val (.long ((((u1 &&& (4611686018427387903 : Int64)) ||| (63 : Int64)) + ((((k_.toUInt32 >>> ((2 : Int32) &&& 31).toUInt32).toInt32) &&& (3 : Int32)).toInt64)) - (1 : Int64))), .second, .unset, .unset] [(.int (1 : Int32)), (.int ((1 : Int32) &&& (1 : Int32)))])) t
    refine XS.iand X54.here hx rfl (hb hby at_133) rfl ?_
    show Steps p.tables e below (T54.setTop (mkF m 134 #[.val (.long xx), .second, .val (.long u1), .second, .val (.long u2), .second, .val (.long unit), .second, .val (.int k_), .val (.ref b1), .val (.int ((1 : Int32) &&& (1 : Int32))), .val (.long (u1 &&& (4611686018427387903 : Int64))), .second, .val (.long (u2 &&& (4611686018427387903 : Int64))), .second, .val (.long ((((u1 &&& (4611686018427387903 : Int64)) ||| (63 : Int64)) + ((((k_.toUInt32 >>> ((2 : Int32) &&& 31).toUInt32).toInt32) &&& (3 : Int32)).toInt64)) - (1 : Int64))), .second, .unset, .unset] [(.int (((1 : Int32) &&& (1 : Int32)) &&& (1 : Int32)))])) t
    refine XS.istore X54.here hx rfl (hb hby at_134) rfl (l' := #[.val (.long xx), .second, .val (.long u1), .second, .val (.long u2), .second, .val (.long unit), .second, .val (.int k_), .val (.ref b1), .val (.int (((1 : Int32) &&& (1 : Int32)) &&& (1 : Int32))), .val (.long (u1 &&& (4611686018427387903 : Int64))), .second, .val (.long (u2 &&& (4611686018427387903 : Int64))), .second, .val (.long ((((u1 &&& (4611686018427387903 : Int64)) ||| (63 : Int64)) + ((((k_.toUInt32 >>> ((2 : Int32) &&& 31).toUInt32).toInt32) &&& (3 : Int32)).toInt64)) - (1 : Int64))), .second, .unset, .unset]) rfl ?_
    show Steps p.tables e below (T54.setTop (mkF m 136 #[.val (.long xx), .second, .val (.long u1), .second, .val (.long u2), .second, .val (.long unit), .second, .val (.int k_), .val (.ref b1), .val (.int (((1 : Int32) &&& (1 : Int32)) &&& (1 : Int32))), .val (.long (u1 &&& (4611686018427387903 : Int64))), .second, .val (.long (u2 &&& (4611686018427387903 : Int64))), .second, .val (.long ((((u1 &&& (4611686018427387903 : Int64)) ||| (63 : Int64)) + ((((k_.toUInt32 >>> ((2 : Int32) &&& 31).toUInt32).toInt32) &&& (3 : Int32)).toInt64)) - (1 : Int64))), .second, .unset, .unset] [])) t
    refine XS.aload X54.here hx rfl (hb hby at_136) rfl rfl ?_
    show Steps p.tables e below (T54.setTop (mkF m 138 #[.val (.long xx), .second, .val (.long u1), .second, .val (.long u2), .second, .val (.long unit), .second, .val (.int k_), .val (.ref b1), .val (.int (((1 : Int32) &&& (1 : Int32)) &&& (1 : Int32))), .val (.long (u1 &&& (4611686018427387903 : Int64))), .second, .val (.long (u2 &&& (4611686018427387903 : Int64))), .second, .val (.long ((((u1 &&& (4611686018427387903 : Int64)) ||| (63 : Int64)) + ((((k_.toUInt32 >>> ((2 : Int32) &&& 31).toUInt32).toInt32) &&& (3 : Int32)).toInt64)) - (1 : Int64))), .second, .unset, .unset] [(.ref b1)])) t
    refine XS.lload X54.here hx rfl (hb hby at_138) rfl ?_
    show Steps p.tables e below (T54.setTop (mkF m 140 #[.val (.long xx), .second, .val (.long u1), .second, .val (.long u2), .second, .val (.long unit), .second, .val (.int k_), .val (.ref b1), .val (.int (((1 : Int32) &&& (1 : Int32)) &&& (1 : Int32))), .val (.long (u1 &&& (4611686018427387903 : Int64))), .second, .val (.long (u2 &&& (4611686018427387903 : Int64))), .second, .val (.long ((((u1 &&& (4611686018427387903 : Int64)) ||| (63 : Int64)) + ((((k_.toUInt32 >>> ((2 : Int32) &&& 31).toUInt32).toInt32) &&& (3 : Int32)).toInt64)) - (1 : Int64))), .second, .unset, .unset] [(.long unit), (.ref b1)])) t
    refine XS.lload X54.here hx rfl (hb hby at_140) rfl ?_
    exact kt
  obtain ⟨cq60, kq60, q60a, q60b, q60c⟩ := isOf hZ eq52 F37
  obtain ⟨_, _, ⟨T60, L60, k60, n60⟩, -, X60, ⟨Lc60, hQ60, l60, y60, z60⟩, st60⟩ := X54.virtualBack hx (y := (⟨"com/example/siteward/siteward/assignment/LoadListing", "start", "(JJ)V"⟩ : MethodName)) (z := (⟨"com/example/siteward/siteward/assignment/LoadListing", "start", "(JJ)V"⟩ : MethodName)) hown (mvT hZ (hw _ (List.mem_of_getElem? (i := 31) rfl))) (mvT hZ (hw _ (List.mem_of_getElem? (i := 32) rfl))) (notFace_of_selects (args := #[]) (mvT hZ (hw _ (List.mem_of_getElem? (i := 34) rfl)))) (mvT hZ (hw _ (List.mem_of_getElem? (i := 34) rfl))) (mvT hZ (hw _ (List.mem_of_getElem? (i := 33) rfl))) (by decide) (backOf (W := 0) (own_rm4 l Z a0 hw [] (b1) (unit) ((u2 &&& (4611686018427387903 : Int64))) (lb14) (kk14) ((.int (1 : Int32))) ((.int (nar .boolean (0 : Int32)))) ((.long (((u1 &&& (4611686018427387903 : Int64)) / (64 : Int64)) + (1 : Int64)))) ((.long unit)) T34.heap n0 (Nat.le_trans Z0 K38.1) F37 g_b1 glb14 nelb14 Fl31 Va31 Fs31_count Fs31_size Fs31_asBits Fs31_words Fs31_unit) hZ (hw _ (List.mem_of_getElem? (i := 35) rfl)) (hw _ (List.mem_of_getElem? (i := 2) rfl)) (by decide) (by decide)) q60a q60c (g := (mkF m 142 #[.val (.long xx), .second, .val (.long u1), .second, .val (.long u2), .second, .val (.long unit), .second, .val (.int k_), .val (.ref b1), .val (.int (((1 : Int32) &&& (1 : Int32)) &&& (1 : Int32))), .val (.long (u1 &&& (4611686018427387903 : Int64))), .second, .val (.long (u2 &&& (4611686018427387903 : Int64))), .second, .val (.long ((((u1 &&& (4611686018427387903 : Int64)) ||| (63 : Int64)) + ((((k_.toUInt32 >>> ((2 : Int32) &&& 31).toUInt32).toInt32) &&& (3 : Int32)).toInt64)) - (1 : Int64))), .second, .unset, .unset] [(.long (u2 &&& (4611686018427387903 : Int64))), (.long unit), (.ref b1)])) rfl (by rw [hml]; rfl) (Steps.refl _) (argsL := [(.long unit), (.long (u2 &&& (4611686018427387903 : Int64)))]) (rest := []) (lenOf own_pd3 rfl) rfl (by show 2 * 0 + _ ≤ _; exact Nat.le_of_eq rfl) (hb hby at_142) (fun _ _ => ⟨rfl, eq52, (by decide : 6 + 0 ≤ _), (by decide : 23 + 0 ≤ _)⟩)
  dsimp only [Pt.U, Pt.locs, Pt.cells, Pt.slots] at X60 l60 y60 z60 st60 hQ60
  subst l60 y60 z60
  obtain ⟨rfl, Nq60, Kc57, Ec57, Fl57, Va57, Fs57_count, Fs57_size, Fs57_asBits, Fs57_words, Fs57_unit⟩ := hQ60
  have N61 := Fr.app N35 Nq60
  have S62 : ∀ t, Steps p.tables e below (T60.setTop (mkF m 145 #[.val (.long xx), .second, .val (.long u1), .second, .val (.long u2), .second, .val (.long unit), .second, .val (.int k_), .val (.ref b1), .val (.int (((1 : Int32) &&& (1 : Int32)) &&& (1 : Int32))), .val (.long (u1 &&& (4611686018427387903 : Int64))), .second, .val (.long (u2 &&& (4611686018427387903 : Int64))), .second, .val (.long ((((u1 &&& (4611686018427387903 : Int64)) ||| (63 : Int64)) + ((((k_.toUInt32 >>> ((2 : Int32) &&& 31).toUInt32).toInt32) &&& (3 : Int32)).toInt64)) - (1 : Int64))), .second, .unset, .unset] [])) t → Steps p.tables e below (s₁.setTop (entryFrame m #[(.long xx), (.long u1), (.long u2), (.long unit), (.int k_)] maxLocals)) t := fun t kt => S59 t (st60.trans kt)
  have F63 := F37.keep Kc57
  have K64 : Keep h0 T60.heap [] := K38.trans Kc57 (allS (Or.inr sz_b1) (allS (Or.inr (Nat.le_trans K3.1 slb14)) all0))
  have S66 : ∀ t, Steps p.tables e below (T60.setTop (mkF m 150 #[.val (.long xx), .second, .val (.long u1), .second, .val (.long u2), .second, .val (.long unit), .second, .val (.int k_), .val (.ref b1), .val (.int (((1 : Int32) &&& (1 : Int32)) &&& (1 : Int32))), .val (.long (u1 &&& (4611686018427387903 : Int64))), .second, .val (.long (u2 &&& (4611686018427387903 : Int64))), .second, .val (.long ((((u1 &&& (4611686018427387903 : Int64)) ||| (63 : Int64)) + ((((k_.toUInt32 >>> ((2 : Int32) &&& 31).toUInt32).toInt32) &&& (3 : Int32)).toInt64)) - (1 : Int64))), .second, .unset, .unset] [(.long xx), (.ref b1), (.int (((1 : Int32) &&& (1 : Int32)) &&& (1 : Int32)))])) t → Steps p.tables e below (s₁.setTop (entryFrame m #[(.long xx), (.long u1), (.long u2), (.long unit), (.int k_)] maxLocals)) t := fun t kt => by
    refine S62 t ?_
    show Steps p.tables e below (T60.setTop (mkF m 145 #[.val (.long xx), .second, .val (.long u1), .second, .val (.long u2), .second, .val (.long unit), .second, .val (.int k_), .val (.ref b1), .val (.int (((1 : Int32) &&& (1 : Int32)) &&& (1 : Int32))), .val (.long (u1 &&& (4611686018427387903 : Int64))), .second, .val (.long (u2 &&& (4611686018427387903 : Int64))), .second, .val (.long ((((u1 &&& (4611686018427387903 : Int64)) ||| (63 : Int64)) + ((((k_.toUInt32 >>> ((2 : Int32) &&& 31).toUInt32).toInt32) &&& (3 : Int32)).toInt64)) - (1 : Int64))), .second, .unset, .unset] [])) t
    refine XS.iload X60.here hx rfl (hb hby at_145) rfl ?_
    show Steps p.tables e below (T60.setTop (mkF m 147 #[.val (.long xx), .second, .val (.long u1), .second, .val (.long u2), .second, .val (.long unit), .second, .val (.int k_), .val (.ref b1), .val (.int (((1 : Int32) &&& (1 : Int32)) &&& (1 : Int32))), .val (.long (u1 &&& (4611686018427387903 : Int64))), .second, .val (.long (u2 &&& (4611686018427387903 : Int64))), .second, .val (.long ((((u1 &&& (4611686018427387903 : Int64)) ||| (63 : Int64)) + ((((k_.toUInt32 >>> ((2 : Int32) &&& 31).toUInt32).toInt32) &&& (3 : Int32)).toInt64)) - (1 : Int64))), .second, .unset, .unset] [(.int (((1 : Int32) &&& (1 : Int32)) &&& (1 : Int32)))])) t
    refine XS.aload X60.here hx rfl (hb hby at_147) rfl rfl ?_
    show Steps p.tables e below (T60.setTop (mkF m 149 #[.val (.long xx), .second, .val (.long u1), .second, .val (.long u2), .second, .val (.long unit), .second, .val (.int k_), .val (.ref b1), .val (.int (((1 : Int32) &&& (1 : Int32)) &&& (1 : Int32))), .val (.long (u1 &&& (4611686018427387903 : Int64))), .second, .val (.long (u2 &&& (4611686018427387903 : Int64))), .second, .val (.long ((((u1 &&& (4611686018427387903 : Int64)) ||| (63 : Int64)) + ((((k_.toUInt32 >>> ((2 : Int32) &&& 31).toUInt32).toInt32) &&& (3 : Int32)).toInt64)) - (1 : Int64))), .second, .unset, .unset] [(.ref b1), (.int (((1 : Int32) &&& (1 : Int32)) &&& (1 : Int32)))])) t
    refine XS.lloadN X60.here hx rfl (hb hby at_149) rfl ?_
    exact kt
  obtain ⟨cq67, kq67, q67a, q67b, q67c⟩ := isOf hZ rfl F63
  obtain ⟨_, _, ⟨T67, L67, k67, n67⟩, -, X67, ⟨Lc67, hQ67, l67, y67, z67⟩, st67⟩ := X60.virtualBack hx (y := (⟨"com/example/siteward/siteward/assignment/LoadListing", "keeps", "(J)Z"⟩ : MethodName)) (z := (⟨"com/example/siteward/siteward/assignment/LoadListing", "keeps", "(J)Z"⟩ : MethodName)) hown (mvT hZ (hw _ (List.mem_of_getElem? (i := 22) rfl))) (mvT hZ (hw _ (List.mem_of_getElem? (i := 23) rfl))) (notFace_of_selects (args := #[]) (mvT hZ (hw _ (List.mem_of_getElem? (i := 25) rfl)))) (mvT hZ (hw _ (List.mem_of_getElem? (i := 25) rfl))) (mvT hZ (hw _ (List.mem_of_getElem? (i := 24) rfl))) (by decide) (backOf (W := 1) (own_rm3 l Z a0 hw [] (b1) (xx) ((((u2 &&& (4611686018427387903 : Int64)) / (64 : Int64)) + (1 : Int64))) T60.heap n0 (Nat.le_trans Z0 K64.1) Fs57_words) hZ (hw _ (List.mem_of_getElem? (i := 26) rfl)) (hw _ (List.mem_of_getElem? (i := 2) rfl)) (by decide) (by decide)) q67a q67c (g := (mkF m 150 #[.val (.long xx), .second, .val (.long u1), .second, .val (.long u2), .second, .val (.long unit), .second, .val (.int k_), .val (.ref b1), .val (.int (((1 : Int32) &&& (1 : Int32)) &&& (1 : Int32))), .val (.long (u1 &&& (4611686018427387903 : Int64))), .second, .val (.long (u2 &&& (4611686018427387903 : Int64))), .second, .val (.long ((((u1 &&& (4611686018427387903 : Int64)) ||| (63 : Int64)) + ((((k_.toUInt32 >>> ((2 : Int32) &&& 31).toUInt32).toInt32) &&& (3 : Int32)).toInt64)) - (1 : Int64))), .second, .unset, .unset] [(.long xx), (.ref b1), (.int (((1 : Int32) &&& (1 : Int32)) &&& (1 : Int32)))])) rfl (by rw [hml]; rfl) (Steps.refl _) (argsL := [(.long xx)]) (rest := [(.int (((1 : Int32) &&& (1 : Int32)) &&& (1 : Int32)))]) (lenOf own_pd2 rfl) rfl (by show 2 * 0 + _ ≤ _; exact Nat.le_of_eq rfl) (hb hby at_150) (fun _ _ => ⟨rfl, rfl, (by decide : 6 + 0 ≤ _), (by decide : 23 + 0 ≤ _)⟩)
  dsimp only [Pt.U, Pt.locs, Pt.cells, Pt.slots] at X67 l67 y67 z67 st67 hQ67
  subst l67 y67 z67
  obtain ⟨rfl, rfl, eq65⟩ := hQ67
  try rw [List.append_nil] at X67
  have S68 : ∀ t, Steps p.tables e below (T67.setTop (mkF m 153 #[.val (.long xx), .second, .val (.long u1), .second, .val (.long u2), .second, .val (.long unit), .second, .val (.int k_), .val (.ref b1), .val (.int (((1 : Int32) &&& (1 : Int32)) &&& (1 : Int32))), .val (.long (u1 &&& (4611686018427387903 : Int64))), .second, .val (.long (u2 &&& (4611686018427387903 : Int64))), .second, .val (.long ((((u1 &&& (4611686018427387903 : Int64)) ||| (63 : Int64)) + ((((k_.toUInt32 >>> ((2 : Int32) &&& 31).toUInt32).toInt32) &&& (3 : Int32)).toInt64)) - (1 : Int64))), .second, .unset, .unset] [(.int (own_b (own_kp xx (((u2 &&& (4611686018427387903 : Int64)) / (64 : Int64)) + (1 : Int64))))), (.int (((1 : Int32) &&& (1 : Int32)) &&& (1 : Int32)))])) t → Steps p.tables e below (s₁.setTop (entryFrame m #[(.long xx), (.long u1), (.long u2), (.long unit), (.int k_)] maxLocals)) t := fun t kt => S66 t (st67.trans kt)
  have S70 : ∀ t, Steps p.tables e below (T67.setTop (mkF m 156 #[.val (.long xx), .second, .val (.long u1), .second, .val (.long u2), .second, .val (.long unit), .second, .val (.int k_), .val (.ref b1), .val (.int (((1 : Int32) &&& (1 : Int32)) &&& (1 : Int32))), .val (.long (u1 &&& (4611686018427387903 : Int64))), .second, .val (.long (u2 &&& (4611686018427387903 : Int64))), .second, .val (.long ((((u1 &&& (4611686018427387903 : Int64)) ||| (63 : Int64)) + ((((k_.toUInt32 >>> ((2 : Int32) &&& 31).toUInt32).toInt32) &&& (3 : Int32)).toInt64)) - (1 : Int64))), .second, .unset, .unset] [(.long (u2 &&& (4611686018427387903 : Int64))), (.long xx), (.int (own_b (own_kp xx (((u2 &&& (4611686018427387903 : Int64)) / (64 : Int64)) + (1 : Int64))))), (.int (((1 : Int32) &&& (1 : Int32)) &&& (1 : Int32)))])) t → Steps p.tables e below (s₁.setTop (entryFrame m #[(.long xx), (.long u1), (.long u2), (.long unit), (.int k_)] maxLocals)) t := fun t kt => by
    refine S68 t ?_
    show Steps p.tables e below (T67.setTop (mkF m 153 #[.val (.long xx), .second, .val (.long u1), .second, .val (.long u2), .second, .val (.long unit), .second, .val (.int k_), .val (.ref b1), .val (.int (((1 : Int32) &&& (1 : Int32)) &&& (1 : Int32))), .val (.long (u1 &&& (4611686018427387903 : Int64))), .second, .val (.long (u2 &&& (4611686018427387903 : Int64))), .second, .val (.long ((((u1 &&& (4611686018427387903 : Int64)) ||| (63 : Int64)) + ((((k_.toUInt32 >>> ((2 : Int32) &&& 31).toUInt32).toInt32) &&& (3 : Int32)).toInt64)) - (1 : Int64))), .second, .unset, .unset] [(.int (own_b (own_kp xx (((u2 &&& (4611686018427387903 : Int64)) / (64 : Int64)) + (1 : Int64))))), (.int (((1 : Int32) &&& (1 : Int32)) &&& (1 : Int32)))])) t
    refine XS.lloadN X67.here hx rfl (hb hby at_153) rfl ?_
    show Steps p.tables e below (T67.setTop (mkF m 154 #[.val (.long xx), .second, .val (.long u1), .second, .val (.long u2), .second, .val (.long unit), .second, .val (.int k_), .val (.ref b1), .val (.int (((1 : Int32) &&& (1 : Int32)) &&& (1 : Int32))), .val (.long (u1 &&& (4611686018427387903 : Int64))), .second, .val (.long (u2 &&& (4611686018427387903 : Int64))), .second, .val (.long ((((u1 &&& (4611686018427387903 : Int64)) ||| (63 : Int64)) + ((((k_.toUInt32 >>> ((2 : Int32) &&& 31).toUInt32).toInt32) &&& (3 : Int32)).toInt64)) - (1 : Int64))), .second, .unset, .unset] [(.long xx), (.int (own_b (own_kp xx (((u2 &&& (4611686018427387903 : Int64)) / (64 : Int64)) + (1 : Int64))))), (.int (((1 : Int32) &&& (1 : Int32)) &&& (1 : Int32)))])) t
    refine XS.lload X67.here hx rfl (hb hby at_154) rfl ?_
    exact kt
  obtain ⟨_, _, ⟨T71, L71, k71, n71⟩, -, X71, ⟨Lc71, hQ71, l71, y71, z71⟩, st71⟩ := Jvm.LawKit.callS X67 hx (y := (⟨"com/example/siteward/siteward/assignment/LoadListingKeepsPinLaw", "ref", "(JJ)Z"⟩ : MethodName)) hown (mvT hZ (hw _ (List.mem_of_getElem? (i := 47) rfl))) (mvT hZ (hw _ (List.mem_of_getElem? (i := 48) rfl))) (mvT hZ (hw _ (List.mem_of_getElem? (i := 49) rfl))) (mvT hZ (hw _ (List.mem_of_getElem? (i := 50) rfl))) (by decide) (backOf (W := 2) (own_rm6 l Z a0 hw [] (xx) ((u2 &&& (4611686018427387903 : Int64))) T60.heap n0 (Nat.le_trans Z0 K64.1)) hZ (hw _ (List.mem_of_getElem? (i := 50) rfl)) (hw _ (List.mem_of_getElem? (i := 49) rfl)) (by decide) (by decide)) (g := (mkF m 156 #[.val (.long xx), .second, .val (.long u1), .second, .val (.long u2), .second, .val (.long unit), .second, .val (.int k_), .val (.ref b1), .val (.int (((1 : Int32) &&& (1 : Int32)) &&& (1 : Int32))), .val (.long (u1 &&& (4611686018427387903 : Int64))), .second, .val (.long (u2 &&& (4611686018427387903 : Int64))), .second, .val (.long ((((u1 &&& (4611686018427387903 : Int64)) ||| (63 : Int64)) + ((((k_.toUInt32 >>> ((2 : Int32) &&& 31).toUInt32).toInt32) &&& (3 : Int32)).toInt64)) - (1 : Int64))), .second, .unset, .unset] [(.long (u2 &&& (4611686018427387903 : Int64))), (.long xx), (.int (own_b (own_kp xx (((u2 &&& (4611686018427387903 : Int64)) / (64 : Int64)) + (1 : Int64))))), (.int (((1 : Int32) &&& (1 : Int32)) &&& (1 : Int32)))])) rfl (by rw [hml]; rfl) (argsL := [(.long xx), (.long (u2 &&& (4611686018427387903 : Int64)))]) (rest := [(.int (own_b (own_kp xx (((u2 &&& (4611686018427387903 : Int64)) / (64 : Int64)) + (1 : Int64))))), (.int (((1 : Int32) &&& (1 : Int32)) &&& (1 : Int32)))]) (lenOf own_pd4 rfl) rfl (by show 2 * 0 + _ ≤ _; exact Nat.le_of_eq rfl) (hb hby at_156) (fun _ _ => ⟨rfl, (eq65.trans rfl), (by decide : 6 + 0 ≤ _), (by decide : 23 + 0 ≤ _)⟩)
  dsimp only [Pt.U, Pt.locs, Pt.cells, Pt.slots] at X71 l71 y71 z71 st71 hQ71
  subst l71 y71 z71
  obtain ⟨rfl, rfl, eq69⟩ := hQ71
  try rw [List.append_nil] at X71
  have S72 : ∀ t, Steps p.tables e below (T71.setTop (mkF m 159 #[.val (.long xx), .second, .val (.long u1), .second, .val (.long u2), .second, .val (.long unit), .second, .val (.int k_), .val (.ref b1), .val (.int (((1 : Int32) &&& (1 : Int32)) &&& (1 : Int32))), .val (.long (u1 &&& (4611686018427387903 : Int64))), .second, .val (.long (u2 &&& (4611686018427387903 : Int64))), .second, .val (.long ((((u1 &&& (4611686018427387903 : Int64)) ||| (63 : Int64)) + ((((k_.toUInt32 >>> ((2 : Int32) &&& 31).toUInt32).toInt32) &&& (3 : Int32)).toInt64)) - (1 : Int64))), .second, .unset, .unset] [(.int (own_b (own_rf xx (u2 &&& (4611686018427387903 : Int64))))), (.int (own_b (own_kp xx (((u2 &&& (4611686018427387903 : Int64)) / (64 : Int64)) + (1 : Int64))))), (.int (((1 : Int32) &&& (1 : Int32)) &&& (1 : Int32)))])) t → Steps p.tables e below (s₁.setTop (entryFrame m #[(.long xx), (.long u1), (.long u2), (.long unit), (.int k_)] maxLocals)) t := fun t kt => S70 t (st71 _ kt)
  have hc159_73 : (own_b (own_kp xx (((u2 &&& (4611686018427387903 : Int64)) / (64 : Int64)) + (1 : Int64)))) = (own_b (own_rf xx (u2 &&& (4611686018427387903 : Int64)))) := own_plain _ _
  have S75 : ∀ t, Steps p.tables e below (T71.setTop (mkF m 176 #[.val (.long xx), .second, .val (.long u1), .second, .val (.long u2), .second, .val (.long unit), .second, .val (.int k_), .val (.ref b1), .val (.int ((((1 : Int32) &&& (1 : Int32)) &&& (1 : Int32)) &&& (1 : Int32))), .val (.long (u1 &&& (4611686018427387903 : Int64))), .second, .val (.long (u2 &&& (4611686018427387903 : Int64))), .second, .val (.long ((((u1 &&& (4611686018427387903 : Int64)) ||| (63 : Int64)) + ((((k_.toUInt32 >>> ((2 : Int32) &&& 31).toUInt32).toInt32) &&& (3 : Int32)).toInt64)) - (1 : Int64))), .second, .unset, .unset] [(.long ((((u1 &&& (4611686018427387903 : Int64)) ||| (63 : Int64)) + ((((k_.toUInt32 >>> ((2 : Int32) &&& 31).toUInt32).toInt32) &&& (3 : Int32)).toInt64)) - (1 : Int64))), (.ref b1), (.int ((((1 : Int32) &&& (1 : Int32)) &&& (1 : Int32)) &&& (1 : Int32)))])) t → Steps p.tables e below (s₁.setTop (entryFrame m #[(.long xx), (.long u1), (.long u2), (.long unit), (.int k_)] maxLocals)) t := fun t kt => by
    refine S72 t ?_
    show Steps p.tables e below (T71.setTop (mkF m 159 #[.val (.long xx), .second, .val (.long u1), .second, .val (.long u2), .second, .val (.long unit), .second, .val (.int k_), .val (.ref b1), .val (.int (((1 : Int32) &&& (1 : Int32)) &&& (1 : Int32))), .val (.long (u1 &&& (4611686018427387903 : Int64))), .second, .val (.long (u2 &&& (4611686018427387903 : Int64))), .second, .val (.long ((((u1 &&& (4611686018427387903 : Int64)) ||| (63 : Int64)) + ((((k_.toUInt32 >>> ((2 : Int32) &&& 31).toUInt32).toInt32) &&& (3 : Int32)).toInt64)) - (1 : Int64))), .second, .unset, .unset] [(.int (own_b (own_rf xx (u2 &&& (4611686018427387903 : Int64))))), (.int (own_b (own_kp xx (((u2 &&& (4611686018427387903 : Int64)) / (64 : Int64)) + (1 : Int64))))), (.int (((1 : Int32) &&& (1 : Int32)) &&& (1 : Int32)))])) t
    refine XS.icmpNo X71.here hx rfl (hb hby at_159) rfl (teq hc159_73).2 ?_
    show Steps p.tables e below (T71.setTop (mkF m 162 #[.val (.long xx), .second, .val (.long u1), .second, .val (.long u2), .second, .val (.long unit), .second, .val (.int k_), .val (.ref b1), .val (.int (((1 : Int32) &&& (1 : Int32)) &&& (1 : Int32))), .val (.long (u1 &&& (4611686018427387903 : Int64))), .second, .val (.long (u2 &&& (4611686018427387903 : Int64))), .second, .val (.long ((((u1 &&& (4611686018427387903 : Int64)) ||| (63 : Int64)) + ((((k_.toUInt32 >>> ((2 : Int32) &&& 31).toUInt32).toInt32) &&& (3 : Int32)).toInt64)) - (1 : Int64))), .second, .unset, .unset] [(.int (((1 : Int32) &&& (1 : Int32)) &&& (1 : Int32)))])) t
    refine XS.iconst X71.here hx rfl (hb hby at_162) ?_
    show Steps p.tables e below (T71.setTop (mkF m 163 #[.val (.long xx), .second, .val (.long u1), .second, .val (.long u2), .second, .val (.long unit), .second, .val (.int k_), .val (.ref b1), .val (.int (((1 : Int32) &&& (1 : Int32)) &&& (1 : Int32))), .val (.long (u1 &&& (4611686018427387903 : Int64))), .second, .val (.long (u2 &&& (4611686018427387903 : Int64))), .second, .val (.long ((((u1 &&& (4611686018427387903 : Int64)) ||| (63 : Int64)) + ((((k_.toUInt32 >>> ((2 : Int32) &&& 31).toUInt32).toInt32) &&& (3 : Int32)).toInt64)) - (1 : Int64))), .second, .unset, .unset] [(.int (1 : Int32)), (.int (((1 : Int32) &&& (1 : Int32)) &&& (1 : Int32)))])) t
    refine XS.goto X71.here hx rfl (pc0 := 163) (pc' := 167) rfl (hb hby at_163) (by decide) (by decide) ?_
    show Steps p.tables e below (T71.setTop (mkF m 167 #[.val (.long xx), .second, .val (.long u1), .second, .val (.long u2), .second, .val (.long unit), .second, .val (.int k_), .val (.ref b1), .val (.int (((1 : Int32) &&& (1 : Int32)) &&& (1 : Int32))), .val (.long (u1 &&& (4611686018427387903 : Int64))), .second, .val (.long (u2 &&& (4611686018427387903 : Int64))), .second, .val (.long ((((u1 &&& (4611686018427387903 : Int64)) ||| (63 : Int64)) + ((((k_.toUInt32 >>> ((2 : Int32) &&& 31).toUInt32).toInt32) &&& (3 : Int32)).toInt64)) - (1 : Int64))), .second, .unset, .unset] [(.int (1 : Int32)), (.int (((1 : Int32) &&& (1 : Int32)) &&& (1 : Int32)))])) t
    refine XS.iand X71.here hx rfl (hb hby at_167) rfl ?_
    show Steps p.tables e below (T71.setTop (mkF m 168 #[.val (.long xx), .second, .val (.long u1), .second, .val (.long u2), .second, .val (.long unit), .second, .val (.int k_), .val (.ref b1), .val (.int (((1 : Int32) &&& (1 : Int32)) &&& (1 : Int32))), .val (.long (u1 &&& (4611686018427387903 : Int64))), .second, .val (.long (u2 &&& (4611686018427387903 : Int64))), .second, .val (.long ((((u1 &&& (4611686018427387903 : Int64)) ||| (63 : Int64)) + ((((k_.toUInt32 >>> ((2 : Int32) &&& 31).toUInt32).toInt32) &&& (3 : Int32)).toInt64)) - (1 : Int64))), .second, .unset, .unset] [(.int ((((1 : Int32) &&& (1 : Int32)) &&& (1 : Int32)) &&& (1 : Int32)))])) t
    refine XS.istore X71.here hx rfl (hb hby at_168) rfl (l' := #[.val (.long xx), .second, .val (.long u1), .second, .val (.long u2), .second, .val (.long unit), .second, .val (.int k_), .val (.ref b1), .val (.int ((((1 : Int32) &&& (1 : Int32)) &&& (1 : Int32)) &&& (1 : Int32))), .val (.long (u1 &&& (4611686018427387903 : Int64))), .second, .val (.long (u2 &&& (4611686018427387903 : Int64))), .second, .val (.long ((((u1 &&& (4611686018427387903 : Int64)) ||| (63 : Int64)) + ((((k_.toUInt32 >>> ((2 : Int32) &&& 31).toUInt32).toInt32) &&& (3 : Int32)).toInt64)) - (1 : Int64))), .second, .unset, .unset]) rfl ?_
    show Steps p.tables e below (T71.setTop (mkF m 170 #[.val (.long xx), .second, .val (.long u1), .second, .val (.long u2), .second, .val (.long unit), .second, .val (.int k_), .val (.ref b1), .val (.int ((((1 : Int32) &&& (1 : Int32)) &&& (1 : Int32)) &&& (1 : Int32))), .val (.long (u1 &&& (4611686018427387903 : Int64))), .second, .val (.long (u2 &&& (4611686018427387903 : Int64))), .second, .val (.long ((((u1 &&& (4611686018427387903 : Int64)) ||| (63 : Int64)) + ((((k_.toUInt32 >>> ((2 : Int32) &&& 31).toUInt32).toInt32) &&& (3 : Int32)).toInt64)) - (1 : Int64))), .second, .unset, .unset] [])) t
    refine XS.iload X71.here hx rfl (hb hby at_170) rfl ?_
    show Steps p.tables e below (T71.setTop (mkF m 172 #[.val (.long xx), .second, .val (.long u1), .second, .val (.long u2), .second, .val (.long unit), .second, .val (.int k_), .val (.ref b1), .val (.int ((((1 : Int32) &&& (1 : Int32)) &&& (1 : Int32)) &&& (1 : Int32))), .val (.long (u1 &&& (4611686018427387903 : Int64))), .second, .val (.long (u2 &&& (4611686018427387903 : Int64))), .second, .val (.long ((((u1 &&& (4611686018427387903 : Int64)) ||| (63 : Int64)) + ((((k_.toUInt32 >>> ((2 : Int32) &&& 31).toUInt32).toInt32) &&& (3 : Int32)).toInt64)) - (1 : Int64))), .second, .unset, .unset] [(.int ((((1 : Int32) &&& (1 : Int32)) &&& (1 : Int32)) &&& (1 : Int32)))])) t
    refine XS.aload X71.here hx rfl (hb hby at_172) rfl rfl ?_
    show Steps p.tables e below (T71.setTop (mkF m 174 #[.val (.long xx), .second, .val (.long u1), .second, .val (.long u2), .second, .val (.long unit), .second, .val (.int k_), .val (.ref b1), .val (.int ((((1 : Int32) &&& (1 : Int32)) &&& (1 : Int32)) &&& (1 : Int32))), .val (.long (u1 &&& (4611686018427387903 : Int64))), .second, .val (.long (u2 &&& (4611686018427387903 : Int64))), .second, .val (.long ((((u1 &&& (4611686018427387903 : Int64)) ||| (63 : Int64)) + ((((k_.toUInt32 >>> ((2 : Int32) &&& 31).toUInt32).toInt32) &&& (3 : Int32)).toInt64)) - (1 : Int64))), .second, .unset, .unset] [(.ref b1), (.int ((((1 : Int32) &&& (1 : Int32)) &&& (1 : Int32)) &&& (1 : Int32)))])) t
    refine XS.lload X71.here hx rfl (hb hby at_174) rfl ?_
    exact kt
  obtain ⟨cq76, kq76, q76a, q76b, q76c⟩ := isOf hZ eq69 F63
  obtain ⟨_, _, ⟨T76, L76, k76, n76⟩, -, X76, ⟨Lc76, hQ76, l76, y76, z76⟩, st76⟩ := X71.virtualBack hx (y := (⟨"com/example/siteward/siteward/assignment/LoadListing", "keeps", "(J)Z"⟩ : MethodName)) (z := (⟨"com/example/siteward/siteward/assignment/LoadListing", "keeps", "(J)Z"⟩ : MethodName)) hown (mvT hZ (hw _ (List.mem_of_getElem? (i := 22) rfl))) (mvT hZ (hw _ (List.mem_of_getElem? (i := 23) rfl))) (notFace_of_selects (args := #[]) (mvT hZ (hw _ (List.mem_of_getElem? (i := 25) rfl)))) (mvT hZ (hw _ (List.mem_of_getElem? (i := 25) rfl))) (mvT hZ (hw _ (List.mem_of_getElem? (i := 24) rfl))) (by decide) (backOf (W := 1) (own_rm3 l Z a0 hw [] (b1) (((((u1 &&& (4611686018427387903 : Int64)) ||| (63 : Int64)) + ((((k_.toUInt32 >>> ((2 : Int32) &&& 31).toUInt32).toInt32) &&& (3 : Int32)).toInt64)) - (1 : Int64))) ((((u2 &&& (4611686018427387903 : Int64)) / (64 : Int64)) + (1 : Int64))) T60.heap n0 (Nat.le_trans Z0 K64.1) Fs57_words) hZ (hw _ (List.mem_of_getElem? (i := 26) rfl)) (hw _ (List.mem_of_getElem? (i := 2) rfl)) (by decide) (by decide)) q76a q76c (g := (mkF m 176 #[.val (.long xx), .second, .val (.long u1), .second, .val (.long u2), .second, .val (.long unit), .second, .val (.int k_), .val (.ref b1), .val (.int ((((1 : Int32) &&& (1 : Int32)) &&& (1 : Int32)) &&& (1 : Int32))), .val (.long (u1 &&& (4611686018427387903 : Int64))), .second, .val (.long (u2 &&& (4611686018427387903 : Int64))), .second, .val (.long ((((u1 &&& (4611686018427387903 : Int64)) ||| (63 : Int64)) + ((((k_.toUInt32 >>> ((2 : Int32) &&& 31).toUInt32).toInt32) &&& (3 : Int32)).toInt64)) - (1 : Int64))), .second, .unset, .unset] [(.long ((((u1 &&& (4611686018427387903 : Int64)) ||| (63 : Int64)) + ((((k_.toUInt32 >>> ((2 : Int32) &&& 31).toUInt32).toInt32) &&& (3 : Int32)).toInt64)) - (1 : Int64))), (.ref b1), (.int ((((1 : Int32) &&& (1 : Int32)) &&& (1 : Int32)) &&& (1 : Int32)))])) rfl (by rw [hml]; rfl) (Steps.refl _) (argsL := [(.long ((((u1 &&& (4611686018427387903 : Int64)) ||| (63 : Int64)) + ((((k_.toUInt32 >>> ((2 : Int32) &&& 31).toUInt32).toInt32) &&& (3 : Int32)).toInt64)) - (1 : Int64)))]) (rest := [(.int ((((1 : Int32) &&& (1 : Int32)) &&& (1 : Int32)) &&& (1 : Int32)))]) (lenOf own_pd2 rfl) rfl (by show 2 * 0 + _ ≤ _; exact Nat.le_of_eq rfl) (hb hby at_176) (fun _ _ => ⟨rfl, eq69, (by decide : 6 + 0 ≤ _), (by decide : 23 + 0 ≤ _)⟩)
  dsimp only [Pt.U, Pt.locs, Pt.cells, Pt.slots] at X76 l76 y76 z76 st76 hQ76
  subst l76 y76 z76
  obtain ⟨rfl, rfl, eq74⟩ := hQ76
  try rw [List.append_nil] at X76
  have S77 : ∀ t, Steps p.tables e below (T76.setTop (mkF m 179 #[.val (.long xx), .second, .val (.long u1), .second, .val (.long u2), .second, .val (.long unit), .second, .val (.int k_), .val (.ref b1), .val (.int ((((1 : Int32) &&& (1 : Int32)) &&& (1 : Int32)) &&& (1 : Int32))), .val (.long (u1 &&& (4611686018427387903 : Int64))), .second, .val (.long (u2 &&& (4611686018427387903 : Int64))), .second, .val (.long ((((u1 &&& (4611686018427387903 : Int64)) ||| (63 : Int64)) + ((((k_.toUInt32 >>> ((2 : Int32) &&& 31).toUInt32).toInt32) &&& (3 : Int32)).toInt64)) - (1 : Int64))), .second, .unset, .unset] [(.int (own_b (own_kp ((((u1 &&& (4611686018427387903 : Int64)) ||| (63 : Int64)) + ((((k_.toUInt32 >>> ((2 : Int32) &&& 31).toUInt32).toInt32) &&& (3 : Int32)).toInt64)) - (1 : Int64)) (((u2 &&& (4611686018427387903 : Int64)) / (64 : Int64)) + (1 : Int64))))), (.int ((((1 : Int32) &&& (1 : Int32)) &&& (1 : Int32)) &&& (1 : Int32)))])) t → Steps p.tables e below (s₁.setTop (entryFrame m #[(.long xx), (.long u1), (.long u2), (.long unit), (.int k_)] maxLocals)) t := fun t kt => S75 t (st76.trans kt)
  have S79 : ∀ t, Steps p.tables e below (T76.setTop (mkF m 183 #[.val (.long xx), .second, .val (.long u1), .second, .val (.long u2), .second, .val (.long unit), .second, .val (.int k_), .val (.ref b1), .val (.int ((((1 : Int32) &&& (1 : Int32)) &&& (1 : Int32)) &&& (1 : Int32))), .val (.long (u1 &&& (4611686018427387903 : Int64))), .second, .val (.long (u2 &&& (4611686018427387903 : Int64))), .second, .val (.long ((((u1 &&& (4611686018427387903 : Int64)) ||| (63 : Int64)) + ((((k_.toUInt32 >>> ((2 : Int32) &&& 31).toUInt32).toInt32) &&& (3 : Int32)).toInt64)) - (1 : Int64))), .second, .unset, .unset] [(.long (u2 &&& (4611686018427387903 : Int64))), (.long ((((u1 &&& (4611686018427387903 : Int64)) ||| (63 : Int64)) + ((((k_.toUInt32 >>> ((2 : Int32) &&& 31).toUInt32).toInt32) &&& (3 : Int32)).toInt64)) - (1 : Int64))), (.int (own_b (own_kp ((((u1 &&& (4611686018427387903 : Int64)) ||| (63 : Int64)) + ((((k_.toUInt32 >>> ((2 : Int32) &&& 31).toUInt32).toInt32) &&& (3 : Int32)).toInt64)) - (1 : Int64)) (((u2 &&& (4611686018427387903 : Int64)) / (64 : Int64)) + (1 : Int64))))), (.int ((((1 : Int32) &&& (1 : Int32)) &&& (1 : Int32)) &&& (1 : Int32)))])) t → Steps p.tables e below (s₁.setTop (entryFrame m #[(.long xx), (.long u1), (.long u2), (.long unit), (.int k_)] maxLocals)) t := fun t kt => by
    refine S77 t ?_
    show Steps p.tables e below (T76.setTop (mkF m 179 #[.val (.long xx), .second, .val (.long u1), .second, .val (.long u2), .second, .val (.long unit), .second, .val (.int k_), .val (.ref b1), .val (.int ((((1 : Int32) &&& (1 : Int32)) &&& (1 : Int32)) &&& (1 : Int32))), .val (.long (u1 &&& (4611686018427387903 : Int64))), .second, .val (.long (u2 &&& (4611686018427387903 : Int64))), .second, .val (.long ((((u1 &&& (4611686018427387903 : Int64)) ||| (63 : Int64)) + ((((k_.toUInt32 >>> ((2 : Int32) &&& 31).toUInt32).toInt32) &&& (3 : Int32)).toInt64)) - (1 : Int64))), .second, .unset, .unset] [(.int (own_b (own_kp ((((u1 &&& (4611686018427387903 : Int64)) ||| (63 : Int64)) + ((((k_.toUInt32 >>> ((2 : Int32) &&& 31).toUInt32).toInt32) &&& (3 : Int32)).toInt64)) - (1 : Int64)) (((u2 &&& (4611686018427387903 : Int64)) / (64 : Int64)) + (1 : Int64))))), (.int ((((1 : Int32) &&& (1 : Int32)) &&& (1 : Int32)) &&& (1 : Int32)))])) t
    refine XS.lload X76.here hx rfl (hb hby at_179) rfl ?_
    show Steps p.tables e below (T76.setTop (mkF m 181 #[.val (.long xx), .second, .val (.long u1), .second, .val (.long u2), .second, .val (.long unit), .second, .val (.int k_), .val (.ref b1), .val (.int ((((1 : Int32) &&& (1 : Int32)) &&& (1 : Int32)) &&& (1 : Int32))), .val (.long (u1 &&& (4611686018427387903 : Int64))), .second, .val (.long (u2 &&& (4611686018427387903 : Int64))), .second, .val (.long ((((u1 &&& (4611686018427387903 : Int64)) ||| (63 : Int64)) + ((((k_.toUInt32 >>> ((2 : Int32) &&& 31).toUInt32).toInt32) &&& (3 : Int32)).toInt64)) - (1 : Int64))), .second, .unset, .unset] [(.long ((((u1 &&& (4611686018427387903 : Int64)) ||| (63 : Int64)) + ((((k_.toUInt32 >>> ((2 : Int32) &&& 31).toUInt32).toInt32) &&& (3 : Int32)).toInt64)) - (1 : Int64))), (.int (own_b (own_kp ((((u1 &&& (4611686018427387903 : Int64)) ||| (63 : Int64)) + ((((k_.toUInt32 >>> ((2 : Int32) &&& 31).toUInt32).toInt32) &&& (3 : Int32)).toInt64)) - (1 : Int64)) (((u2 &&& (4611686018427387903 : Int64)) / (64 : Int64)) + (1 : Int64))))), (.int ((((1 : Int32) &&& (1 : Int32)) &&& (1 : Int32)) &&& (1 : Int32)))])) t
    refine XS.lload X76.here hx rfl (hb hby at_181) rfl ?_
    exact kt
  obtain ⟨_, _, ⟨T80, L80, k80, n80⟩, -, X80, ⟨Lc80, hQ80, l80, y80, z80⟩, st80⟩ := Jvm.LawKit.callS X76 hx (y := (⟨"com/example/siteward/siteward/assignment/LoadListingKeepsPinLaw", "ref", "(JJ)Z"⟩ : MethodName)) hown (mvT hZ (hw _ (List.mem_of_getElem? (i := 47) rfl))) (mvT hZ (hw _ (List.mem_of_getElem? (i := 48) rfl))) (mvT hZ (hw _ (List.mem_of_getElem? (i := 49) rfl))) (mvT hZ (hw _ (List.mem_of_getElem? (i := 50) rfl))) (by decide) (backOf (W := 2) (own_rm6 l Z a0 hw [] (((((u1 &&& (4611686018427387903 : Int64)) ||| (63 : Int64)) + ((((k_.toUInt32 >>> ((2 : Int32) &&& 31).toUInt32).toInt32) &&& (3 : Int32)).toInt64)) - (1 : Int64))) ((u2 &&& (4611686018427387903 : Int64))) T60.heap n0 (Nat.le_trans Z0 K64.1)) hZ (hw _ (List.mem_of_getElem? (i := 50) rfl)) (hw _ (List.mem_of_getElem? (i := 49) rfl)) (by decide) (by decide)) (g := (mkF m 183 #[.val (.long xx), .second, .val (.long u1), .second, .val (.long u2), .second, .val (.long unit), .second, .val (.int k_), .val (.ref b1), .val (.int ((((1 : Int32) &&& (1 : Int32)) &&& (1 : Int32)) &&& (1 : Int32))), .val (.long (u1 &&& (4611686018427387903 : Int64))), .second, .val (.long (u2 &&& (4611686018427387903 : Int64))), .second, .val (.long ((((u1 &&& (4611686018427387903 : Int64)) ||| (63 : Int64)) + ((((k_.toUInt32 >>> ((2 : Int32) &&& 31).toUInt32).toInt32) &&& (3 : Int32)).toInt64)) - (1 : Int64))), .second, .unset, .unset] [(.long (u2 &&& (4611686018427387903 : Int64))), (.long ((((u1 &&& (4611686018427387903 : Int64)) ||| (63 : Int64)) + ((((k_.toUInt32 >>> ((2 : Int32) &&& 31).toUInt32).toInt32) &&& (3 : Int32)).toInt64)) - (1 : Int64))), (.int (own_b (own_kp ((((u1 &&& (4611686018427387903 : Int64)) ||| (63 : Int64)) + ((((k_.toUInt32 >>> ((2 : Int32) &&& 31).toUInt32).toInt32) &&& (3 : Int32)).toInt64)) - (1 : Int64)) (((u2 &&& (4611686018427387903 : Int64)) / (64 : Int64)) + (1 : Int64))))), (.int ((((1 : Int32) &&& (1 : Int32)) &&& (1 : Int32)) &&& (1 : Int32)))])) rfl (by rw [hml]; rfl) (argsL := [(.long ((((u1 &&& (4611686018427387903 : Int64)) ||| (63 : Int64)) + ((((k_.toUInt32 >>> ((2 : Int32) &&& 31).toUInt32).toInt32) &&& (3 : Int32)).toInt64)) - (1 : Int64))), (.long (u2 &&& (4611686018427387903 : Int64)))]) (rest := [(.int (own_b (own_kp ((((u1 &&& (4611686018427387903 : Int64)) ||| (63 : Int64)) + ((((k_.toUInt32 >>> ((2 : Int32) &&& 31).toUInt32).toInt32) &&& (3 : Int32)).toInt64)) - (1 : Int64)) (((u2 &&& (4611686018427387903 : Int64)) / (64 : Int64)) + (1 : Int64))))), (.int ((((1 : Int32) &&& (1 : Int32)) &&& (1 : Int32)) &&& (1 : Int32)))]) (lenOf own_pd4 rfl) rfl (by show 2 * 0 + _ ≤ _; exact Nat.le_of_eq rfl) (hb hby at_183) (fun _ _ => ⟨rfl, eq74, (by decide : 6 + 0 ≤ _), (by decide : 23 + 0 ≤ _)⟩)
  dsimp only [Pt.U, Pt.locs, Pt.cells, Pt.slots] at X80 l80 y80 z80 st80 hQ80
  subst l80 y80 z80
  obtain ⟨rfl, rfl, eq78⟩ := hQ80
  try rw [List.append_nil] at X80
  have S81 : ∀ t, Steps p.tables e below (T80.setTop (mkF m 186 #[.val (.long xx), .second, .val (.long u1), .second, .val (.long u2), .second, .val (.long unit), .second, .val (.int k_), .val (.ref b1), .val (.int ((((1 : Int32) &&& (1 : Int32)) &&& (1 : Int32)) &&& (1 : Int32))), .val (.long (u1 &&& (4611686018427387903 : Int64))), .second, .val (.long (u2 &&& (4611686018427387903 : Int64))), .second, .val (.long ((((u1 &&& (4611686018427387903 : Int64)) ||| (63 : Int64)) + ((((k_.toUInt32 >>> ((2 : Int32) &&& 31).toUInt32).toInt32) &&& (3 : Int32)).toInt64)) - (1 : Int64))), .second, .unset, .unset] [(.int (own_b (own_rf ((((u1 &&& (4611686018427387903 : Int64)) ||| (63 : Int64)) + ((((k_.toUInt32 >>> ((2 : Int32) &&& 31).toUInt32).toInt32) &&& (3 : Int32)).toInt64)) - (1 : Int64)) (u2 &&& (4611686018427387903 : Int64))))), (.int (own_b (own_kp ((((u1 &&& (4611686018427387903 : Int64)) ||| (63 : Int64)) + ((((k_.toUInt32 >>> ((2 : Int32) &&& 31).toUInt32).toInt32) &&& (3 : Int32)).toInt64)) - (1 : Int64)) (((u2 &&& (4611686018427387903 : Int64)) / (64 : Int64)) + (1 : Int64))))), (.int ((((1 : Int32) &&& (1 : Int32)) &&& (1 : Int32)) &&& (1 : Int32)))])) t → Steps p.tables e below (s₁.setTop (entryFrame m #[(.long xx), (.long u1), (.long u2), (.long unit), (.int k_)] maxLocals)) t := fun t kt => S79 t (st80 _ kt)
  have hc186_82 : (own_b (own_kp ((((u1 &&& (4611686018427387903 : Int64)) ||| (63 : Int64)) + ((((k_.toUInt32 >>> ((2 : Int32) &&& 31).toUInt32).toInt32) &&& (3 : Int32)).toInt64)) - (1 : Int64)) (((u2 &&& (4611686018427387903 : Int64)) / (64 : Int64)) + (1 : Int64)))) = (own_b (own_rf ((((u1 &&& (4611686018427387903 : Int64)) ||| (63 : Int64)) + ((((k_.toUInt32 >>> ((2 : Int32) &&& 31).toUInt32).toInt32) &&& (3 : Int32)).toInt64)) - (1 : Int64)) (u2 &&& (4611686018427387903 : Int64)))) := own_plain _ _
  have S84 : ∀ t, Steps p.tables e below (T80.setTop (mkF m 221 #[.val (.long xx), .second, .val (.long u1), .second, .val (.long u2), .second, .val (.long unit), .second, .val (.int k_), .val (.ref b1), .val (.int (((((1 : Int32) &&& (1 : Int32)) &&& (1 : Int32)) &&& (1 : Int32)) &&& (1 : Int32))), .val (.long (u1 &&& (4611686018427387903 : Int64))), .second, .val (.long (u2 &&& (4611686018427387903 : Int64))), .second, .val (.long ((((u1 &&& (4611686018427387903 : Int64)) ||| (63 : Int64)) + ((((k_.toUInt32 >>> ((2 : Int32) &&& 31).toUInt32).toInt32) &&& (3 : Int32)).toInt64)) - (1 : Int64))), .second, .val (.long ((((u2 &&& (4611686018427387903 : Int64)) ||| (63 : Int64)) + ((((k_.toUInt32 >>> ((4 : Int32) &&& 31).toUInt32).toInt32) &&& (3 : Int32)).toInt64)) - (1 : Int64))), .second] [(.long ((((u2 &&& (4611686018427387903 : Int64)) ||| (63 : Int64)) + ((((k_.toUInt32 >>> ((4 : Int32) &&& 31).toUInt32).toInt32) &&& (3 : Int32)).toInt64)) - (1 : Int64))), (.ref b1), (.int (((((1 : Int32) &&& (1 : Int32)) &&& (1 : Int32)) &&& (1 : Int32)) &&& (1 : Int32)))])) t → Steps p.tables e below (s₁.setTop (entryFrame m #[(.long xx), (.long u1), (.long u2), (.long unit), (.int k_)] maxLocals)) t := fun t kt => by
    refine S81 t ?_
    show Steps p.tables e below (T80.setTop (mkF m 186 #[.val (.long xx), .second, .val (.long u1), .second, .val (.long u2), .second, .val (.long unit), .second, .val (.int k_), .val (.ref b1), .val (.int ((((1 : Int32) &&& (1 : Int32)) &&& (1 : Int32)) &&& (1 : Int32))), .val (.long (u1 &&& (4611686018427387903 : Int64))), .second, .val (.long (u2 &&& (4611686018427387903 : Int64))), .second, .val (.long ((((u1 &&& (4611686018427387903 : Int64)) ||| (63 : Int64)) + ((((k_.toUInt32 >>> ((2 : Int32) &&& 31).toUInt32).toInt32) &&& (3 : Int32)).toInt64)) - (1 : Int64))), .second, .unset, .unset] [(.int (own_b (own_rf ((((u1 &&& (4611686018427387903 : Int64)) ||| (63 : Int64)) + ((((k_.toUInt32 >>> ((2 : Int32) &&& 31).toUInt32).toInt32) &&& (3 : Int32)).toInt64)) - (1 : Int64)) (u2 &&& (4611686018427387903 : Int64))))), (.int (own_b (own_kp ((((u1 &&& (4611686018427387903 : Int64)) ||| (63 : Int64)) + ((((k_.toUInt32 >>> ((2 : Int32) &&& 31).toUInt32).toInt32) &&& (3 : Int32)).toInt64)) - (1 : Int64)) (((u2 &&& (4611686018427387903 : Int64)) / (64 : Int64)) + (1 : Int64))))), (.int ((((1 : Int32) &&& (1 : Int32)) &&& (1 : Int32)) &&& (1 : Int32)))])) t
    refine XS.icmpNo X80.here hx rfl (hb hby at_186) rfl (teq hc186_82).2 ?_
    show Steps p.tables e below (T80.setTop (mkF m 189 #[.val (.long xx), .second, .val (.long u1), .second, .val (.long u2), .second, .val (.long unit), .second, .val (.int k_), .val (.ref b1), .val (.int ((((1 : Int32) &&& (1 : Int32)) &&& (1 : Int32)) &&& (1 : Int32))), .val (.long (u1 &&& (4611686018427387903 : Int64))), .second, .val (.long (u2 &&& (4611686018427387903 : Int64))), .second, .val (.long ((((u1 &&& (4611686018427387903 : Int64)) ||| (63 : Int64)) + ((((k_.toUInt32 >>> ((2 : Int32) &&& 31).toUInt32).toInt32) &&& (3 : Int32)).toInt64)) - (1 : Int64))), .second, .unset, .unset] [(.int ((((1 : Int32) &&& (1 : Int32)) &&& (1 : Int32)) &&& (1 : Int32)))])) t
    refine XS.iconst X80.here hx rfl (hb hby at_189) ?_
    show Steps p.tables e below (T80.setTop (mkF m 190 #[.val (.long xx), .second, .val (.long u1), .second, .val (.long u2), .second, .val (.long unit), .second, .val (.int k_), .val (.ref b1), .val (.int ((((1 : Int32) &&& (1 : Int32)) &&& (1 : Int32)) &&& (1 : Int32))), .val (.long (u1 &&& (4611686018427387903 : Int64))), .second, .val (.long (u2 &&& (4611686018427387903 : Int64))), .second, .val (.long ((((u1 &&& (4611686018427387903 : Int64)) ||| (63 : Int64)) + ((((k_.toUInt32 >>> ((2 : Int32) &&& 31).toUInt32).toInt32) &&& (3 : Int32)).toInt64)) - (1 : Int64))), .second, .unset, .unset] [(.int (1 : Int32)), (.int ((((1 : Int32) &&& (1 : Int32)) &&& (1 : Int32)) &&& (1 : Int32)))])) t
    refine XS.goto X80.here hx rfl (pc0 := 190) (pc' := 194) rfl (hb hby at_190) (by decide) (by decide) ?_
    show Steps p.tables e below (T80.setTop (mkF m 194 #[.val (.long xx), .second, .val (.long u1), .second, .val (.long u2), .second, .val (.long unit), .second, .val (.int k_), .val (.ref b1), .val (.int ((((1 : Int32) &&& (1 : Int32)) &&& (1 : Int32)) &&& (1 : Int32))), .val (.long (u1 &&& (4611686018427387903 : Int64))), .second, .val (.long (u2 &&& (4611686018427387903 : Int64))), .second, .val (.long ((((u1 &&& (4611686018427387903 : Int64)) ||| (63 : Int64)) + ((((k_.toUInt32 >>> ((2 : Int32) &&& 31).toUInt32).toInt32) &&& (3 : Int32)).toInt64)) - (1 : Int64))), .second, .unset, .unset] [(.int (1 : Int32)), (.int ((((1 : Int32) &&& (1 : Int32)) &&& (1 : Int32)) &&& (1 : Int32)))])) t
    refine XS.iand X80.here hx rfl (hb hby at_194) rfl ?_
    show Steps p.tables e below (T80.setTop (mkF m 195 #[.val (.long xx), .second, .val (.long u1), .second, .val (.long u2), .second, .val (.long unit), .second, .val (.int k_), .val (.ref b1), .val (.int ((((1 : Int32) &&& (1 : Int32)) &&& (1 : Int32)) &&& (1 : Int32))), .val (.long (u1 &&& (4611686018427387903 : Int64))), .second, .val (.long (u2 &&& (4611686018427387903 : Int64))), .second, .val (.long ((((u1 &&& (4611686018427387903 : Int64)) ||| (63 : Int64)) + ((((k_.toUInt32 >>> ((2 : Int32) &&& 31).toUInt32).toInt32) &&& (3 : Int32)).toInt64)) - (1 : Int64))), .second, .unset, .unset] [(.int (((((1 : Int32) &&& (1 : Int32)) &&& (1 : Int32)) &&& (1 : Int32)) &&& (1 : Int32)))])) t
    refine XS.istore X80.here hx rfl (hb hby at_195) rfl (l' := #[.val (.long xx), .second, .val (.long u1), .second, .val (.long u2), .second, .val (.long unit), .second, .val (.int k_), .val (.ref b1), .val (.int (((((1 : Int32) &&& (1 : Int32)) &&& (1 : Int32)) &&& (1 : Int32)) &&& (1 : Int32))), .val (.long (u1 &&& (4611686018427387903 : Int64))), .second, .val (.long (u2 &&& (4611686018427387903 : Int64))), .second, .val (.long ((((u1 &&& (4611686018427387903 : Int64)) ||| (63 : Int64)) + ((((k_.toUInt32 >>> ((2 : Int32) &&& 31).toUInt32).toInt32) &&& (3 : Int32)).toInt64)) - (1 : Int64))), .second, .unset, .unset]) rfl ?_
    show Steps p.tables e below (T80.setTop (mkF m 197 #[.val (.long xx), .second, .val (.long u1), .second, .val (.long u2), .second, .val (.long unit), .second, .val (.int k_), .val (.ref b1), .val (.int (((((1 : Int32) &&& (1 : Int32)) &&& (1 : Int32)) &&& (1 : Int32)) &&& (1 : Int32))), .val (.long (u1 &&& (4611686018427387903 : Int64))), .second, .val (.long (u2 &&& (4611686018427387903 : Int64))), .second, .val (.long ((((u1 &&& (4611686018427387903 : Int64)) ||| (63 : Int64)) + ((((k_.toUInt32 >>> ((2 : Int32) &&& 31).toUInt32).toInt32) &&& (3 : Int32)).toInt64)) - (1 : Int64))), .second, .unset, .unset] [])) t
    refine XS.lload X80.here hx rfl (hb hby at_197) rfl ?_
    show Steps p.tables e below (T80.setTop (mkF m 199 #[.val (.long xx), .second, .val (.long u1), .second, .val (.long u2), .second, .val (.long unit), .second, .val (.int k_), .val (.ref b1), .val (.int (((((1 : Int32) &&& (1 : Int32)) &&& (1 : Int32)) &&& (1 : Int32)) &&& (1 : Int32))), .val (.long (u1 &&& (4611686018427387903 : Int64))), .second, .val (.long (u2 &&& (4611686018427387903 : Int64))), .second, .val (.long ((((u1 &&& (4611686018427387903 : Int64)) ||| (63 : Int64)) + ((((k_.toUInt32 >>> ((2 : Int32) &&& 31).toUInt32).toInt32) &&& (3 : Int32)).toInt64)) - (1 : Int64))), .second, .unset, .unset] [(.long (u2 &&& (4611686018427387903 : Int64)))])) t
    refine X80.ldc2Long hx hown (mvT hZ (hw _ (List.mem_of_getElem? (i := 52) rfl))) (g := (mkF m 199 #[.val (.long xx), .second, .val (.long u1), .second, .val (.long u2), .second, .val (.long unit), .second, .val (.int k_), .val (.ref b1), .val (.int (((((1 : Int32) &&& (1 : Int32)) &&& (1 : Int32)) &&& (1 : Int32)) &&& (1 : Int32))), .val (.long (u1 &&& (4611686018427387903 : Int64))), .second, .val (.long (u2 &&& (4611686018427387903 : Int64))), .second, .val (.long ((((u1 &&& (4611686018427387903 : Int64)) ||| (63 : Int64)) + ((((k_.toUInt32 >>> ((2 : Int32) &&& 31).toUInt32).toInt32) &&& (3 : Int32)).toInt64)) - (1 : Int64))), .second, .unset, .unset] [(.long (u2 &&& (4611686018427387903 : Int64)))])) rfl (hb hby at_199) _ ?_
    show Steps p.tables e below (T80.setTop (mkF m 202 #[.val (.long xx), .second, .val (.long u1), .second, .val (.long u2), .second, .val (.long unit), .second, .val (.int k_), .val (.ref b1), .val (.int (((((1 : Int32) &&& (1 : Int32)) &&& (1 : Int32)) &&& (1 : Int32)) &&& (1 : Int32))), .val (.long (u1 &&& (4611686018427387903 : Int64))), .second, .val (.long (u2 &&& (4611686018427387903 : Int64))), .second, .val (.long ((((u1 &&& (4611686018427387903 : Int64)) ||| (63 : Int64)) + ((((k_.toUInt32 >>> ((2 : Int32) &&& 31).toUInt32).toInt32) &&& (3 : Int32)).toInt64)) - (1 : Int64))), .second, .unset, .unset] [(.long (63 : Int64)), (.long (u2 &&& (4611686018427387903 : Int64)))])) t
    refine XS.lor X80.here hx rfl (hb hby at_202) rfl ?_
    show Steps p.tables e below (T80.setTop (mkF m 203 #[.val (.long xx), .second, .val (.long u1), .second, .val (.long u2), .second, .val (.long unit), .second, .val (.int k_), .val (.ref b1), .val (.int (((((1 : Int32) &&& (1 : Int32)) &&& (1 : Int32)) &&& (1 : Int32)) &&& (1 : Int32))), .val (.long (u1 &&& (4611686018427387903 : Int64))), .second, .val (.long (u2 &&& (4611686018427387903 : Int64))), .second, .val (.long ((((u1 &&& (4611686018427387903 : Int64)) ||| (63 : Int64)) + ((((k_.toUInt32 >>> ((2 : Int32) &&& 31).toUInt32).toInt32) &&& (3 : Int32)).toInt64)) - (1 : Int64))), .second, .unset, .unset] [(.long ((u2 &&& (4611686018427387903 : Int64)) ||| (63 : Int64)))])) t
    refine XS.iload X80.here hx rfl (hb hby at_203) rfl ?_
    show Steps p.tables e below (T80.setTop (mkF m 205 #[.val (.long xx), .second, .val (.long u1), .second, .val (.long u2), .second, .val (.long unit), .second, .val (.int k_), .val (.ref b1), .val (.int (((((1 : Int32) &&& (1 : Int32)) &&& (1 : Int32)) &&& (1 : Int32)) &&& (1 : Int32))), .val (.long (u1 &&& (4611686018427387903 : Int64))), .second, .val (.long (u2 &&& (4611686018427387903 : Int64))), .second, .val (.long ((((u1 &&& (4611686018427387903 : Int64)) ||| (63 : Int64)) + ((((k_.toUInt32 >>> ((2 : Int32) &&& 31).toUInt32).toInt32) &&& (3 : Int32)).toInt64)) - (1 : Int64))), .second, .unset, .unset] [(.int k_), (.long ((u2 &&& (4611686018427387903 : Int64)) ||| (63 : Int64)))])) t
    refine XS.iconst X80.here hx rfl (hb hby at_205) ?_
    show Steps p.tables e below (T80.setTop (mkF m 206 #[.val (.long xx), .second, .val (.long u1), .second, .val (.long u2), .second, .val (.long unit), .second, .val (.int k_), .val (.ref b1), .val (.int (((((1 : Int32) &&& (1 : Int32)) &&& (1 : Int32)) &&& (1 : Int32)) &&& (1 : Int32))), .val (.long (u1 &&& (4611686018427387903 : Int64))), .second, .val (.long (u2 &&& (4611686018427387903 : Int64))), .second, .val (.long ((((u1 &&& (4611686018427387903 : Int64)) ||| (63 : Int64)) + ((((k_.toUInt32 >>> ((2 : Int32) &&& 31).toUInt32).toInt32) &&& (3 : Int32)).toInt64)) - (1 : Int64))), .second, .unset, .unset] [(.int (4 : Int32)), (.int k_), (.long ((u2 &&& (4611686018427387903 : Int64)) ||| (63 : Int64)))])) t
    refine XS.iushr X80.here hx rfl (hb hby at_206) rfl ?_
    show Steps p.tables e below (T80.setTop (mkF m 207 #[.val (.long xx), .second, .val (.long u1), .second, .val (.long u2), .second, .val (.long unit), .second, .val (.int k_), .val (.ref b1), .val (.int (((((1 : Int32) &&& (1 : Int32)) &&& (1 : Int32)) &&& (1 : Int32)) &&& (1 : Int32))), .val (.long (u1 &&& (4611686018427387903 : Int64))), .second, .val (.long (u2 &&& (4611686018427387903 : Int64))), .second, .val (.long ((((u1 &&& (4611686018427387903 : Int64)) ||| (63 : Int64)) + ((((k_.toUInt32 >>> ((2 : Int32) &&& 31).toUInt32).toInt32) &&& (3 : Int32)).toInt64)) - (1 : Int64))), .second, .unset, .unset] [(.int ((k_.toUInt32 >>> ((4 : Int32) &&& 31).toUInt32).toInt32)), (.long ((u2 &&& (4611686018427387903 : Int64)) ||| (63 : Int64)))])) t
    refine XS.iconst X80.here hx rfl (hb hby at_207) ?_
    show Steps p.tables e below (T80.setTop (mkF m 208 #[.val (.long xx), .second, .val (.long u1), .second, .val (.long u2), .second, .val (.long unit), .second, .val (.int k_), .val (.ref b1), .val (.int (((((1 : Int32) &&& (1 : Int32)) &&& (1 : Int32)) &&& (1 : Int32)) &&& (1 : Int32))), .val (.long (u1 &&& (4611686018427387903 : Int64))), .second, .val (.long (u2 &&& (4611686018427387903 : Int64))), .second, .val (.long ((((u1 &&& (4611686018427387903 : Int64)) ||| (63 : Int64)) + ((((k_.toUInt32 >>> ((2 : Int32) &&& 31).toUInt32).toInt32) &&& (3 : Int32)).toInt64)) - (1 : Int64))), .second, .unset, .unset] [(.int (3 : Int32)), (.int ((k_.toUInt32 >>> ((4 : Int32) &&& 31).toUInt32).toInt32)), (.long ((u2 &&& (4611686018427387903 : Int64)) ||| (63 : Int64)))])) t
    refine XS.iand X80.here hx rfl (hb hby at_208) rfl ?_
    show Steps p.tables e below (T80.setTop (mkF m 209 #[.val (.long xx), .second, .val (.long u1), .second, .val (.long u2), .second, .val (.long unit), .second, .val (.int k_), .val (.ref b1), .val (.int (((((1 : Int32) &&& (1 : Int32)) &&& (1 : Int32)) &&& (1 : Int32)) &&& (1 : Int32))), .val (.long (u1 &&& (4611686018427387903 : Int64))), .second, .val (.long (u2 &&& (4611686018427387903 : Int64))), .second, .val (.long ((((u1 &&& (4611686018427387903 : Int64)) ||| (63 : Int64)) + ((((k_.toUInt32 >>> ((2 : Int32) &&& 31).toUInt32).toInt32) &&& (3 : Int32)).toInt64)) - (1 : Int64))), .second, .unset, .unset] [(.int (((k_.toUInt32 >>> ((4 : Int32) &&& 31).toUInt32).toInt32) &&& (3 : Int32))), (.long ((u2 &&& (4611686018427387903 : Int64)) ||| (63 : Int64)))])) t
    refine XS.i2l X80.here hx rfl (hb hby at_209) rfl ?_
    show Steps p.tables e below (T80.setTop (mkF m 210 #[.val (.long xx), .second, .val (.long u1), .second, .val (.long u2), .second, .val (.long unit), .second, .val (.int k_), .val (.ref b1), .val (.int (((((1 : Int32) &&& (1 : Int32)) &&& (1 : Int32)) &&& (1 : Int32)) &&& (1 : Int32))), .val (.long (u1 &&& (4611686018427387903 : Int64))), .second, .val (.long (u2 &&& (4611686018427387903 : Int64))), .second, .val (.long ((((u1 &&& (4611686018427387903 : Int64)) ||| (63 : Int64)) + ((((k_.toUInt32 >>> ((2 : Int32) &&& 31).toUInt32).toInt32) &&& (3 : Int32)).toInt64)) - (1 : Int64))), .second, .unset, .unset] [(.long ((((k_.toUInt32 >>> ((4 : Int32) &&& 31).toUInt32).toInt32) &&& (3 : Int32)).toInt64)), (.long ((u2 &&& (4611686018427387903 : Int64)) ||| (63 : Int64)))])) t
    refine XS.ladd X80.here hx rfl (hb hby at_210) rfl ?_
    show Steps p.tables e below (T80.setTop (mkF m 211 #[.val (.long xx), .second, .val (.long u1), .second, .val (.long u2), .second, .val (.long unit), .second, .val (.int k_), .val (.ref b1), .val (.int (((((1 : Int32) &&& (1 : Int32)) &&& (1 : Int32)) &&& (1 : Int32)) &&& (1 : Int32))), .val (.long (u1 &&& (4611686018427387903 : Int64))), .second, .val (.long (u2 &&& (4611686018427387903 : Int64))), .second, .val (.long ((((u1 &&& (4611686018427387903 : Int64)) ||| (63 : Int64)) + ((((k_.toUInt32 >>> ((2 : Int32) &&& 31).toUInt32).toInt32) &&& (3 : Int32)).toInt64)) - (1 : Int64))), .second, .unset, .unset] [(.long (((u2 &&& (4611686018427387903 : Int64)) ||| (63 : Int64)) + ((((k_.toUInt32 >>> ((4 : Int32) &&& 31).toUInt32).toInt32) &&& (3 : Int32)).toInt64)))])) t
    refine XS.lconst X80.here hx rfl (hb hby at_211) ?_
    show Steps p.tables e below (T80.setTop (mkF m 212 #[.val (.long xx), .second, .val (.long u1), .second, .val (.long u2), .second, .val (.long unit), .second, .val (.int k_), .val (.ref b1), .val (.int (((((1 : Int32) &&& (1 : Int32)) &&& (1 : Int32)) &&& (1 : Int32)) &&& (1 : Int32))), .val (.long (u1 &&& (4611686018427387903 : Int64))), .second, .val (.long (u2 &&& (4611686018427387903 : Int64))), .second, .val (.long ((((u1 &&& (4611686018427387903 : Int64)) ||| (63 : Int64)) + ((((k_.toUInt32 >>> ((2 : Int32) &&& 31).toUInt32).toInt32) &&& (3 : Int32)).toInt64)) - (1 : Int64))), .second, .unset, .unset] [(.long (1 : Int64)), (.long (((u2 &&& (4611686018427387903 : Int64)) ||| (63 : Int64)) + ((((k_.toUInt32 >>> ((4 : Int32) &&& 31).toUInt32).toInt32) &&& (3 : Int32)).toInt64)))])) t
    refine XS.lsub X80.here hx rfl (hb hby at_212) rfl ?_
    show Steps p.tables e below (T80.setTop (mkF m 213 #[.val (.long xx), .second, .val (.long u1), .second, .val (.long u2), .second, .val (.long unit), .second, .val (.int k_), .val (.ref b1), .val (.int (((((1 : Int32) &&& (1 : Int32)) &&& (1 : Int32)) &&& (1 : Int32)) &&& (1 : Int32))), .val (.long (u1 &&& (4611686018427387903 : Int64))), .second, .val (.long (u2 &&& (4611686018427387903 : Int64))), .second, .val (.long ((((u1 &&& (4611686018427387903 : Int64)) ||| (63 : Int64)) + ((((k_.toUInt32 >>> ((2 : Int32) &&& 31).toUInt32).toInt32) &&& (3 : Int32)).toInt64)) - (1 : Int64))), .second, .unset, .unset] [(.long ((((u2 &&& (4611686018427387903 : Int64)) ||| (63 : Int64)) + ((((k_.toUInt32 >>> ((4 : Int32) &&& 31).toUInt32).toInt32) &&& (3 : Int32)).toInt64)) - (1 : Int64)))])) t
    refine XS.lstore X80.here hx rfl (hb hby at_213) rfl (l' := #[.val (.long xx), .second, .val (.long u1), .second, .val (.long u2), .second, .val (.long unit), .second, .val (.int k_), .val (.ref b1), .val (.int (((((1 : Int32) &&& (1 : Int32)) &&& (1 : Int32)) &&& (1 : Int32)) &&& (1 : Int32))), .val (.long (u1 &&& (4611686018427387903 : Int64))), .second, .val (.long (u2 &&& (4611686018427387903 : Int64))), .second, .val (.long ((((u1 &&& (4611686018427387903 : Int64)) ||| (63 : Int64)) + ((((k_.toUInt32 >>> ((2 : Int32) &&& 31).toUInt32).toInt32) &&& (3 : Int32)).toInt64)) - (1 : Int64))), .second, .val (.long ((((u2 &&& (4611686018427387903 : Int64)) ||| (63 : Int64)) + ((((k_.toUInt32 >>> ((4 : Int32) &&& 31).toUInt32).toInt32) &&& (3 : Int32)).toInt64)) - (1 : Int64))), .second]) rfl ?_
    show Steps p.tables e below (T80.setTop (mkF m 215 #[.val (.long xx), .second, .val (.long u1), .second, .val (.long u2), .second, .val (.long unit), .second, .val (.int k_), .val (.ref b1), .val (.int (((((1 : Int32) &&& (1 : Int32)) &&& (1 : Int32)) &&& (1 : Int32)) &&& (1 : Int32))), .val (.long (u1 &&& (4611686018427387903 : Int64))), .second, .val (.long (u2 &&& (4611686018427387903 : Int64))), .second, .val (.long ((((u1 &&& (4611686018427387903 : Int64)) ||| (63 : Int64)) + ((((k_.toUInt32 >>> ((2 : Int32) &&& 31).toUInt32).toInt32) &&& (3 : Int32)).toInt64)) - (1 : Int64))), .second, .val (.long ((((u2 &&& (4611686018427387903 : Int64)) ||| (63 : Int64)) + ((((k_.toUInt32 >>> ((4 : Int32) &&& 31).toUInt32).toInt32) &&& (3 : Int32)).toInt64)) - (1 : Int64))), .second] [])) t
    refine XS.iload X80.here hx rfl (hb hby at_215) rfl ?_
    show Steps p.tables e below (T80.setTop (mkF m 217 #[.val (.long xx), .second, .val (.long u1), .second, .val (.long u2), .second, .val (.long unit), .second, .val (.int k_), .val (.ref b1), .val (.int (((((1 : Int32) &&& (1 : Int32)) &&& (1 : Int32)) &&& (1 : Int32)) &&& (1 : Int32))), .val (.long (u1 &&& (4611686018427387903 : Int64))), .second, .val (.long (u2 &&& (4611686018427387903 : Int64))), .second, .val (.long ((((u1 &&& (4611686018427387903 : Int64)) ||| (63 : Int64)) + ((((k_.toUInt32 >>> ((2 : Int32) &&& 31).toUInt32).toInt32) &&& (3 : Int32)).toInt64)) - (1 : Int64))), .second, .val (.long ((((u2 &&& (4611686018427387903 : Int64)) ||| (63 : Int64)) + ((((k_.toUInt32 >>> ((4 : Int32) &&& 31).toUInt32).toInt32) &&& (3 : Int32)).toInt64)) - (1 : Int64))), .second] [(.int (((((1 : Int32) &&& (1 : Int32)) &&& (1 : Int32)) &&& (1 : Int32)) &&& (1 : Int32)))])) t
    refine XS.aload X80.here hx rfl (hb hby at_217) rfl rfl ?_
    show Steps p.tables e below (T80.setTop (mkF m 219 #[.val (.long xx), .second, .val (.long u1), .second, .val (.long u2), .second, .val (.long unit), .second, .val (.int k_), .val (.ref b1), .val (.int (((((1 : Int32) &&& (1 : Int32)) &&& (1 : Int32)) &&& (1 : Int32)) &&& (1 : Int32))), .val (.long (u1 &&& (4611686018427387903 : Int64))), .second, .val (.long (u2 &&& (4611686018427387903 : Int64))), .second, .val (.long ((((u1 &&& (4611686018427387903 : Int64)) ||| (63 : Int64)) + ((((k_.toUInt32 >>> ((2 : Int32) &&& 31).toUInt32).toInt32) &&& (3 : Int32)).toInt64)) - (1 : Int64))), .second, .val (.long ((((u2 &&& (4611686018427387903 : Int64)) ||| (63 : Int64)) + ((((k_.toUInt32 >>> ((4 : Int32) &&& 31).toUInt32).toInt32) &&& (3 : Int32)).toInt64)) - (1 : Int64))), .second] [(.ref b1), (.int (((((1 : Int32) &&& (1 : Int32)) &&& (1 : Int32)) &&& (1 : Int32)) &&& (1 : Int32)))])) t
    refine XS.lload X80.here hx rfl (hb hby at_219) rfl ?_
    exact kt
  obtain ⟨cq85, kq85, q85a, q85b, q85c⟩ := isOf hZ eq78 F63
  obtain ⟨_, _, ⟨T85, L85, k85, n85⟩, -, X85, ⟨Lc85, hQ85, l85, y85, z85⟩, st85⟩ := X80.virtualBack hx (y := (⟨"com/example/siteward/siteward/assignment/LoadListing", "keeps", "(J)Z"⟩ : MethodName)) (z := (⟨"com/example/siteward/siteward/assignment/LoadListing", "keeps", "(J)Z"⟩ : MethodName)) hown (mvT hZ (hw _ (List.mem_of_getElem? (i := 22) rfl))) (mvT hZ (hw _ (List.mem_of_getElem? (i := 23) rfl))) (notFace_of_selects (args := #[]) (mvT hZ (hw _ (List.mem_of_getElem? (i := 25) rfl)))) (mvT hZ (hw _ (List.mem_of_getElem? (i := 25) rfl))) (mvT hZ (hw _ (List.mem_of_getElem? (i := 24) rfl))) (by decide) (backOf (W := 1) (own_rm3 l Z a0 hw [] (b1) (((((u2 &&& (4611686018427387903 : Int64)) ||| (63 : Int64)) + ((((k_.toUInt32 >>> ((4 : Int32) &&& 31).toUInt32).toInt32) &&& (3 : Int32)).toInt64)) - (1 : Int64))) ((((u2 &&& (4611686018427387903 : Int64)) / (64 : Int64)) + (1 : Int64))) T60.heap n0 (Nat.le_trans Z0 K64.1) Fs57_words) hZ (hw _ (List.mem_of_getElem? (i := 26) rfl)) (hw _ (List.mem_of_getElem? (i := 2) rfl)) (by decide) (by decide)) q85a q85c (g := (mkF m 221 #[.val (.long xx), .second, .val (.long u1), .second, .val (.long u2), .second, .val (.long unit), .second, .val (.int k_), .val (.ref b1), .val (.int (((((1 : Int32) &&& (1 : Int32)) &&& (1 : Int32)) &&& (1 : Int32)) &&& (1 : Int32))), .val (.long (u1 &&& (4611686018427387903 : Int64))), .second, .val (.long (u2 &&& (4611686018427387903 : Int64))), .second, .val (.long ((((u1 &&& (4611686018427387903 : Int64)) ||| (63 : Int64)) + ((((k_.toUInt32 >>> ((2 : Int32) &&& 31).toUInt32).toInt32) &&& (3 : Int32)).toInt64)) - (1 : Int64))), .second, .val (.long ((((u2 &&& (4611686018427387903 : Int64)) ||| (63 : Int64)) + ((((k_.toUInt32 >>> ((4 : Int32) &&& 31).toUInt32).toInt32) &&& (3 : Int32)).toInt64)) - (1 : Int64))), .second] [(.long ((((u2 &&& (4611686018427387903 : Int64)) ||| (63 : Int64)) + ((((k_.toUInt32 >>> ((4 : Int32) &&& 31).toUInt32).toInt32) &&& (3 : Int32)).toInt64)) - (1 : Int64))), (.ref b1), (.int (((((1 : Int32) &&& (1 : Int32)) &&& (1 : Int32)) &&& (1 : Int32)) &&& (1 : Int32)))])) rfl (by rw [hml]; rfl) (Steps.refl _) (argsL := [(.long ((((u2 &&& (4611686018427387903 : Int64)) ||| (63 : Int64)) + ((((k_.toUInt32 >>> ((4 : Int32) &&& 31).toUInt32).toInt32) &&& (3 : Int32)).toInt64)) - (1 : Int64)))]) (rest := [(.int (((((1 : Int32) &&& (1 : Int32)) &&& (1 : Int32)) &&& (1 : Int32)) &&& (1 : Int32)))]) (lenOf own_pd2 rfl) rfl (by show 2 * 0 + _ ≤ _; exact Nat.le_of_eq rfl) (hb hby at_221) (fun _ _ => ⟨rfl, eq78, (by decide : 6 + 0 ≤ _), (by decide : 23 + 0 ≤ _)⟩)
  dsimp only [Pt.U, Pt.locs, Pt.cells, Pt.slots] at X85 l85 y85 z85 st85 hQ85
  subst l85 y85 z85
  obtain ⟨rfl, rfl, eq83⟩ := hQ85
  try rw [List.append_nil] at X85
  have S86 : ∀ t, Steps p.tables e below (T85.setTop (mkF m 224 #[.val (.long xx), .second, .val (.long u1), .second, .val (.long u2), .second, .val (.long unit), .second, .val (.int k_), .val (.ref b1), .val (.int (((((1 : Int32) &&& (1 : Int32)) &&& (1 : Int32)) &&& (1 : Int32)) &&& (1 : Int32))), .val (.long (u1 &&& (4611686018427387903 : Int64))), .second, .val (.long (u2 &&& (4611686018427387903 : Int64))), .second, .val (.long ((((u1 &&& (4611686018427387903 : Int64)) ||| (63 : Int64)) + ((((k_.toUInt32 >>> ((2 : Int32) &&& 31).toUInt32).toInt32) &&& (3 : Int32)).toInt64)) - (1 : Int64))), .second, .val (.long ((((u2 &&& (4611686018427387903 : Int64)) ||| (63 : Int64)) + ((((k_.toUInt32 >>> ((4 : Int32) &&& 31).toUInt32).toInt32) &&& (3 : Int32)).toInt64)) - (1 : Int64))), .second] [(.int (own_b (own_kp ((((u2 &&& (4611686018427387903 : Int64)) ||| (63 : Int64)) + ((((k_.toUInt32 >>> ((4 : Int32) &&& 31).toUInt32).toInt32) &&& (3 : Int32)).toInt64)) - (1 : Int64)) (((u2 &&& (4611686018427387903 : Int64)) / (64 : Int64)) + (1 : Int64))))), (.int (((((1 : Int32) &&& (1 : Int32)) &&& (1 : Int32)) &&& (1 : Int32)) &&& (1 : Int32)))])) t → Steps p.tables e below (s₁.setTop (entryFrame m #[(.long xx), (.long u1), (.long u2), (.long unit), (.int k_)] maxLocals)) t := fun t kt => S84 t (st85.trans kt)
  have S88 : ∀ t, Steps p.tables e below (T85.setTop (mkF m 228 #[.val (.long xx), .second, .val (.long u1), .second, .val (.long u2), .second, .val (.long unit), .second, .val (.int k_), .val (.ref b1), .val (.int (((((1 : Int32) &&& (1 : Int32)) &&& (1 : Int32)) &&& (1 : Int32)) &&& (1 : Int32))), .val (.long (u1 &&& (4611686018427387903 : Int64))), .second, .val (.long (u2 &&& (4611686018427387903 : Int64))), .second, .val (.long ((((u1 &&& (4611686018427387903 : Int64)) ||| (63 : Int64)) + ((((k_.toUInt32 >>> ((2 : Int32) &&& 31).toUInt32).toInt32) &&& (3 : Int32)).toInt64)) - (1 : Int64))), .second, .val (.long ((((u2 &&& (4611686018427387903 : Int64)) ||| (63 : Int64)) + ((((k_.toUInt32 >>> ((4 : Int32) &&& 31).toUInt32).toInt32) &&& (3 : Int32)).toInt64)) - (1 : Int64))), .second] [(.long (u2 &&& (4611686018427387903 : Int64))), (.long ((((u2 &&& (4611686018427387903 : Int64)) ||| (63 : Int64)) + ((((k_.toUInt32 >>> ((4 : Int32) &&& 31).toUInt32).toInt32) &&& (3 : Int32)).toInt64)) - (1 : Int64))), (.int (own_b (own_kp ((((u2 &&& (4611686018427387903 : Int64)) ||| (63 : Int64)) + ((((k_.toUInt32 >>> ((4 : Int32) &&& 31).toUInt32).toInt32) &&& (3 : Int32)).toInt64)) - (1 : Int64)) (((u2 &&& (4611686018427387903 : Int64)) / (64 : Int64)) + (1 : Int64))))), (.int (((((1 : Int32) &&& (1 : Int32)) &&& (1 : Int32)) &&& (1 : Int32)) &&& (1 : Int32)))])) t → Steps p.tables e below (s₁.setTop (entryFrame m #[(.long xx), (.long u1), (.long u2), (.long unit), (.int k_)] maxLocals)) t := fun t kt => by
    refine S86 t ?_
    show Steps p.tables e below (T85.setTop (mkF m 224 #[.val (.long xx), .second, .val (.long u1), .second, .val (.long u2), .second, .val (.long unit), .second, .val (.int k_), .val (.ref b1), .val (.int (((((1 : Int32) &&& (1 : Int32)) &&& (1 : Int32)) &&& (1 : Int32)) &&& (1 : Int32))), .val (.long (u1 &&& (4611686018427387903 : Int64))), .second, .val (.long (u2 &&& (4611686018427387903 : Int64))), .second, .val (.long ((((u1 &&& (4611686018427387903 : Int64)) ||| (63 : Int64)) + ((((k_.toUInt32 >>> ((2 : Int32) &&& 31).toUInt32).toInt32) &&& (3 : Int32)).toInt64)) - (1 : Int64))), .second, .val (.long ((((u2 &&& (4611686018427387903 : Int64)) ||| (63 : Int64)) + ((((k_.toUInt32 >>> ((4 : Int32) &&& 31).toUInt32).toInt32) &&& (3 : Int32)).toInt64)) - (1 : Int64))), .second] [(.int (own_b (own_kp ((((u2 &&& (4611686018427387903 : Int64)) ||| (63 : Int64)) + ((((k_.toUInt32 >>> ((4 : Int32) &&& 31).toUInt32).toInt32) &&& (3 : Int32)).toInt64)) - (1 : Int64)) (((u2 &&& (4611686018427387903 : Int64)) / (64 : Int64)) + (1 : Int64))))), (.int (((((1 : Int32) &&& (1 : Int32)) &&& (1 : Int32)) &&& (1 : Int32)) &&& (1 : Int32)))])) t
    refine XS.lload X85.here hx rfl (hb hby at_224) rfl ?_
    show Steps p.tables e below (T85.setTop (mkF m 226 #[.val (.long xx), .second, .val (.long u1), .second, .val (.long u2), .second, .val (.long unit), .second, .val (.int k_), .val (.ref b1), .val (.int (((((1 : Int32) &&& (1 : Int32)) &&& (1 : Int32)) &&& (1 : Int32)) &&& (1 : Int32))), .val (.long (u1 &&& (4611686018427387903 : Int64))), .second, .val (.long (u2 &&& (4611686018427387903 : Int64))), .second, .val (.long ((((u1 &&& (4611686018427387903 : Int64)) ||| (63 : Int64)) + ((((k_.toUInt32 >>> ((2 : Int32) &&& 31).toUInt32).toInt32) &&& (3 : Int32)).toInt64)) - (1 : Int64))), .second, .val (.long ((((u2 &&& (4611686018427387903 : Int64)) ||| (63 : Int64)) + ((((k_.toUInt32 >>> ((4 : Int32) &&& 31).toUInt32).toInt32) &&& (3 : Int32)).toInt64)) - (1 : Int64))), .second] [(.long ((((u2 &&& (4611686018427387903 : Int64)) ||| (63 : Int64)) + ((((k_.toUInt32 >>> ((4 : Int32) &&& 31).toUInt32).toInt32) &&& (3 : Int32)).toInt64)) - (1 : Int64))), (.int (own_b (own_kp ((((u2 &&& (4611686018427387903 : Int64)) ||| (63 : Int64)) + ((((k_.toUInt32 >>> ((4 : Int32) &&& 31).toUInt32).toInt32) &&& (3 : Int32)).toInt64)) - (1 : Int64)) (((u2 &&& (4611686018427387903 : Int64)) / (64 : Int64)) + (1 : Int64))))), (.int (((((1 : Int32) &&& (1 : Int32)) &&& (1 : Int32)) &&& (1 : Int32)) &&& (1 : Int32)))])) t
    refine XS.lload X85.here hx rfl (hb hby at_226) rfl ?_
    exact kt
  obtain ⟨_, _, ⟨T89, L89, k89, n89⟩, -, X89, ⟨Lc89, hQ89, l89, y89, z89⟩, st89⟩ := Jvm.LawKit.callS X85 hx (y := (⟨"com/example/siteward/siteward/assignment/LoadListingKeepsPinLaw", "ref", "(JJ)Z"⟩ : MethodName)) hown (mvT hZ (hw _ (List.mem_of_getElem? (i := 47) rfl))) (mvT hZ (hw _ (List.mem_of_getElem? (i := 48) rfl))) (mvT hZ (hw _ (List.mem_of_getElem? (i := 49) rfl))) (mvT hZ (hw _ (List.mem_of_getElem? (i := 50) rfl))) (by decide) (backOf (W := 2) (own_rm6 l Z a0 hw [] (((((u2 &&& (4611686018427387903 : Int64)) ||| (63 : Int64)) + ((((k_.toUInt32 >>> ((4 : Int32) &&& 31).toUInt32).toInt32) &&& (3 : Int32)).toInt64)) - (1 : Int64))) ((u2 &&& (4611686018427387903 : Int64))) T60.heap n0 (Nat.le_trans Z0 K64.1)) hZ (hw _ (List.mem_of_getElem? (i := 50) rfl)) (hw _ (List.mem_of_getElem? (i := 49) rfl)) (by decide) (by decide)) (g := (mkF m 228 #[.val (.long xx), .second, .val (.long u1), .second, .val (.long u2), .second, .val (.long unit), .second, .val (.int k_), .val (.ref b1), .val (.int (((((1 : Int32) &&& (1 : Int32)) &&& (1 : Int32)) &&& (1 : Int32)) &&& (1 : Int32))), .val (.long (u1 &&& (4611686018427387903 : Int64))), .second, .val (.long (u2 &&& (4611686018427387903 : Int64))), .second, .val (.long ((((u1 &&& (4611686018427387903 : Int64)) ||| (63 : Int64)) + ((((k_.toUInt32 >>> ((2 : Int32) &&& 31).toUInt32).toInt32) &&& (3 : Int32)).toInt64)) - (1 : Int64))), .second, .val (.long ((((u2 &&& (4611686018427387903 : Int64)) ||| (63 : Int64)) + ((((k_.toUInt32 >>> ((4 : Int32) &&& 31).toUInt32).toInt32) &&& (3 : Int32)).toInt64)) - (1 : Int64))), .second] [(.long (u2 &&& (4611686018427387903 : Int64))), (.long ((((u2 &&& (4611686018427387903 : Int64)) ||| (63 : Int64)) + ((((k_.toUInt32 >>> ((4 : Int32) &&& 31).toUInt32).toInt32) &&& (3 : Int32)).toInt64)) - (1 : Int64))), (.int (own_b (own_kp ((((u2 &&& (4611686018427387903 : Int64)) ||| (63 : Int64)) + ((((k_.toUInt32 >>> ((4 : Int32) &&& 31).toUInt32).toInt32) &&& (3 : Int32)).toInt64)) - (1 : Int64)) (((u2 &&& (4611686018427387903 : Int64)) / (64 : Int64)) + (1 : Int64))))), (.int (((((1 : Int32) &&& (1 : Int32)) &&& (1 : Int32)) &&& (1 : Int32)) &&& (1 : Int32)))])) rfl (by rw [hml]; rfl) (argsL := [(.long ((((u2 &&& (4611686018427387903 : Int64)) ||| (63 : Int64)) + ((((k_.toUInt32 >>> ((4 : Int32) &&& 31).toUInt32).toInt32) &&& (3 : Int32)).toInt64)) - (1 : Int64))), (.long (u2 &&& (4611686018427387903 : Int64)))]) (rest := [(.int (own_b (own_kp ((((u2 &&& (4611686018427387903 : Int64)) ||| (63 : Int64)) + ((((k_.toUInt32 >>> ((4 : Int32) &&& 31).toUInt32).toInt32) &&& (3 : Int32)).toInt64)) - (1 : Int64)) (((u2 &&& (4611686018427387903 : Int64)) / (64 : Int64)) + (1 : Int64))))), (.int (((((1 : Int32) &&& (1 : Int32)) &&& (1 : Int32)) &&& (1 : Int32)) &&& (1 : Int32)))]) (lenOf own_pd4 rfl) rfl (by show 2 * 0 + _ ≤ _; exact Nat.le_of_eq rfl) (hb hby at_228) (fun _ _ => ⟨rfl, eq83, (by decide : 6 + 0 ≤ _), (by decide : 23 + 0 ≤ _)⟩)
  dsimp only [Pt.U, Pt.locs, Pt.cells, Pt.slots] at X89 l89 y89 z89 st89 hQ89
  subst l89 y89 z89
  obtain ⟨rfl, rfl, eq87⟩ := hQ89
  try rw [List.append_nil] at X89
  have S90 : ∀ t, Steps p.tables e below (T89.setTop (mkF m 231 #[.val (.long xx), .second, .val (.long u1), .second, .val (.long u2), .second, .val (.long unit), .second, .val (.int k_), .val (.ref b1), .val (.int (((((1 : Int32) &&& (1 : Int32)) &&& (1 : Int32)) &&& (1 : Int32)) &&& (1 : Int32))), .val (.long (u1 &&& (4611686018427387903 : Int64))), .second, .val (.long (u2 &&& (4611686018427387903 : Int64))), .second, .val (.long ((((u1 &&& (4611686018427387903 : Int64)) ||| (63 : Int64)) + ((((k_.toUInt32 >>> ((2 : Int32) &&& 31).toUInt32).toInt32) &&& (3 : Int32)).toInt64)) - (1 : Int64))), .second, .val (.long ((((u2 &&& (4611686018427387903 : Int64)) ||| (63 : Int64)) + ((((k_.toUInt32 >>> ((4 : Int32) &&& 31).toUInt32).toInt32) &&& (3 : Int32)).toInt64)) - (1 : Int64))), .second] [(.int (own_b (own_rf ((((u2 &&& (4611686018427387903 : Int64)) ||| (63 : Int64)) + ((((k_.toUInt32 >>> ((4 : Int32) &&& 31).toUInt32).toInt32) &&& (3 : Int32)).toInt64)) - (1 : Int64)) (u2 &&& (4611686018427387903 : Int64))))), (.int (own_b (own_kp ((((u2 &&& (4611686018427387903 : Int64)) ||| (63 : Int64)) + ((((k_.toUInt32 >>> ((4 : Int32) &&& 31).toUInt32).toInt32) &&& (3 : Int32)).toInt64)) - (1 : Int64)) (((u2 &&& (4611686018427387903 : Int64)) / (64 : Int64)) + (1 : Int64))))), (.int (((((1 : Int32) &&& (1 : Int32)) &&& (1 : Int32)) &&& (1 : Int32)) &&& (1 : Int32)))])) t → Steps p.tables e below (s₁.setTop (entryFrame m #[(.long xx), (.long u1), (.long u2), (.long unit), (.int k_)] maxLocals)) t := fun t kt => S88 t (st89 _ kt)
  have hc231_91 : (own_b (own_kp ((((u2 &&& (4611686018427387903 : Int64)) ||| (63 : Int64)) + ((((k_.toUInt32 >>> ((4 : Int32) &&& 31).toUInt32).toInt32) &&& (3 : Int32)).toInt64)) - (1 : Int64)) (((u2 &&& (4611686018427387903 : Int64)) / (64 : Int64)) + (1 : Int64)))) = (own_b (own_rf ((((u2 &&& (4611686018427387903 : Int64)) ||| (63 : Int64)) + ((((k_.toUInt32 >>> ((4 : Int32) &&& 31).toUInt32).toInt32) &&& (3 : Int32)).toInt64)) - (1 : Int64)) (u2 &&& (4611686018427387903 : Int64)))) := own_plain _ _
  have S92 : ∀ t, Steps p.tables e below (T89.setTop (mkF m 244 #[.val (.long xx), .second, .val (.long u1), .second, .val (.long u2), .second, .val (.long unit), .second, .val (.int k_), .val (.ref b1), .val (.int ((((((1 : Int32) &&& (1 : Int32)) &&& (1 : Int32)) &&& (1 : Int32)) &&& (1 : Int32)) &&& (1 : Int32))), .val (.long (u1 &&& (4611686018427387903 : Int64))), .second, .val (.long (u2 &&& (4611686018427387903 : Int64))), .second, .val (.long ((((u1 &&& (4611686018427387903 : Int64)) ||| (63 : Int64)) + ((((k_.toUInt32 >>> ((2 : Int32) &&& 31).toUInt32).toInt32) &&& (3 : Int32)).toInt64)) - (1 : Int64))), .second, .val (.long ((((u2 &&& (4611686018427387903 : Int64)) ||| (63 : Int64)) + ((((k_.toUInt32 >>> ((4 : Int32) &&& 31).toUInt32).toInt32) &&& (3 : Int32)).toInt64)) - (1 : Int64))), .second] [(.int ((((((1 : Int32) &&& (1 : Int32)) &&& (1 : Int32)) &&& (1 : Int32)) &&& (1 : Int32)) &&& (1 : Int32)))])) t → Steps p.tables e below (s₁.setTop (entryFrame m #[(.long xx), (.long u1), (.long u2), (.long unit), (.int k_)] maxLocals)) t := fun t kt => by
    refine S90 t ?_
    show Steps p.tables e below (T89.setTop (mkF m 231 #[.val (.long xx), .second, .val (.long u1), .second, .val (.long u2), .second, .val (.long unit), .second, .val (.int k_), .val (.ref b1), .val (.int (((((1 : Int32) &&& (1 : Int32)) &&& (1 : Int32)) &&& (1 : Int32)) &&& (1 : Int32))), .val (.long (u1 &&& (4611686018427387903 : Int64))), .second, .val (.long (u2 &&& (4611686018427387903 : Int64))), .second, .val (.long ((((u1 &&& (4611686018427387903 : Int64)) ||| (63 : Int64)) + ((((k_.toUInt32 >>> ((2 : Int32) &&& 31).toUInt32).toInt32) &&& (3 : Int32)).toInt64)) - (1 : Int64))), .second, .val (.long ((((u2 &&& (4611686018427387903 : Int64)) ||| (63 : Int64)) + ((((k_.toUInt32 >>> ((4 : Int32) &&& 31).toUInt32).toInt32) &&& (3 : Int32)).toInt64)) - (1 : Int64))), .second] [(.int (own_b (own_rf ((((u2 &&& (4611686018427387903 : Int64)) ||| (63 : Int64)) + ((((k_.toUInt32 >>> ((4 : Int32) &&& 31).toUInt32).toInt32) &&& (3 : Int32)).toInt64)) - (1 : Int64)) (u2 &&& (4611686018427387903 : Int64))))), (.int (own_b (own_kp ((((u2 &&& (4611686018427387903 : Int64)) ||| (63 : Int64)) + ((((k_.toUInt32 >>> ((4 : Int32) &&& 31).toUInt32).toInt32) &&& (3 : Int32)).toInt64)) - (1 : Int64)) (((u2 &&& (4611686018427387903 : Int64)) / (64 : Int64)) + (1 : Int64))))), (.int (((((1 : Int32) &&& (1 : Int32)) &&& (1 : Int32)) &&& (1 : Int32)) &&& (1 : Int32)))])) t
    refine XS.icmpNo X89.here hx rfl (hb hby at_231) rfl (teq hc231_91).2 ?_
    show Steps p.tables e below (T89.setTop (mkF m 234 #[.val (.long xx), .second, .val (.long u1), .second, .val (.long u2), .second, .val (.long unit), .second, .val (.int k_), .val (.ref b1), .val (.int (((((1 : Int32) &&& (1 : Int32)) &&& (1 : Int32)) &&& (1 : Int32)) &&& (1 : Int32))), .val (.long (u1 &&& (4611686018427387903 : Int64))), .second, .val (.long (u2 &&& (4611686018427387903 : Int64))), .second, .val (.long ((((u1 &&& (4611686018427387903 : Int64)) ||| (63 : Int64)) + ((((k_.toUInt32 >>> ((2 : Int32) &&& 31).toUInt32).toInt32) &&& (3 : Int32)).toInt64)) - (1 : Int64))), .second, .val (.long ((((u2 &&& (4611686018427387903 : Int64)) ||| (63 : Int64)) + ((((k_.toUInt32 >>> ((4 : Int32) &&& 31).toUInt32).toInt32) &&& (3 : Int32)).toInt64)) - (1 : Int64))), .second] [(.int (((((1 : Int32) &&& (1 : Int32)) &&& (1 : Int32)) &&& (1 : Int32)) &&& (1 : Int32)))])) t
    refine XS.iconst X89.here hx rfl (hb hby at_234) ?_
    show Steps p.tables e below (T89.setTop (mkF m 235 #[.val (.long xx), .second, .val (.long u1), .second, .val (.long u2), .second, .val (.long unit), .second, .val (.int k_), .val (.ref b1), .val (.int (((((1 : Int32) &&& (1 : Int32)) &&& (1 : Int32)) &&& (1 : Int32)) &&& (1 : Int32))), .val (.long (u1 &&& (4611686018427387903 : Int64))), .second, .val (.long (u2 &&& (4611686018427387903 : Int64))), .second, .val (.long ((((u1 &&& (4611686018427387903 : Int64)) ||| (63 : Int64)) + ((((k_.toUInt32 >>> ((2 : Int32) &&& 31).toUInt32).toInt32) &&& (3 : Int32)).toInt64)) - (1 : Int64))), .second, .val (.long ((((u2 &&& (4611686018427387903 : Int64)) ||| (63 : Int64)) + ((((k_.toUInt32 >>> ((4 : Int32) &&& 31).toUInt32).toInt32) &&& (3 : Int32)).toInt64)) - (1 : Int64))), .second] [(.int (1 : Int32)), (.int (((((1 : Int32) &&& (1 : Int32)) &&& (1 : Int32)) &&& (1 : Int32)) &&& (1 : Int32)))])) t
    refine XS.goto X89.here hx rfl (pc0 := 235) (pc' := 239) rfl (hb hby at_235) (by decide) (by decide) ?_
    show Steps p.tables e below (T89.setTop (mkF m 239 #[.val (.long xx), .second, .val (.long u1), .second, .val (.long u2), .second, .val (.long unit), .second, .val (.int k_), .val (.ref b1), .val (.int (((((1 : Int32) &&& (1 : Int32)) &&& (1 : Int32)) &&& (1 : Int32)) &&& (1 : Int32))), .val (.long (u1 &&& (4611686018427387903 : Int64))), .second, .val (.long (u2 &&& (4611686018427387903 : Int64))), .second, .val (.long ((((u1 &&& (4611686018427387903 : Int64)) ||| (63 : Int64)) + ((((k_.toUInt32 >>> ((2 : Int32) &&& 31).toUInt32).toInt32) &&& (3 : Int32)).toInt64)) - (1 : Int64))), .second, .val (.long ((((u2 &&& (4611686018427387903 : Int64)) ||| (63 : Int64)) + ((((k_.toUInt32 >>> ((4 : Int32) &&& 31).toUInt32).toInt32) &&& (3 : Int32)).toInt64)) - (1 : Int64))), .second] [(.int (1 : Int32)), (.int (((((1 : Int32) &&& (1 : Int32)) &&& (1 : Int32)) &&& (1 : Int32)) &&& (1 : Int32)))])) t
    refine XS.iand X89.here hx rfl (hb hby at_239) rfl ?_
    show Steps p.tables e below (T89.setTop (mkF m 240 #[.val (.long xx), .second, .val (.long u1), .second, .val (.long u2), .second, .val (.long unit), .second, .val (.int k_), .val (.ref b1), .val (.int (((((1 : Int32) &&& (1 : Int32)) &&& (1 : Int32)) &&& (1 : Int32)) &&& (1 : Int32))), .val (.long (u1 &&& (4611686018427387903 : Int64))), .second, .val (.long (u2 &&& (4611686018427387903 : Int64))), .second, .val (.long ((((u1 &&& (4611686018427387903 : Int64)) ||| (63 : Int64)) + ((((k_.toUInt32 >>> ((2 : Int32) &&& 31).toUInt32).toInt32) &&& (3 : Int32)).toInt64)) - (1 : Int64))), .second, .val (.long ((((u2 &&& (4611686018427387903 : Int64)) ||| (63 : Int64)) + ((((k_.toUInt32 >>> ((4 : Int32) &&& 31).toUInt32).toInt32) &&& (3 : Int32)).toInt64)) - (1 : Int64))), .second] [(.int ((((((1 : Int32) &&& (1 : Int32)) &&& (1 : Int32)) &&& (1 : Int32)) &&& (1 : Int32)) &&& (1 : Int32)))])) t
    refine XS.istore X89.here hx rfl (hb hby at_240) rfl (l' := #[.val (.long xx), .second, .val (.long u1), .second, .val (.long u2), .second, .val (.long unit), .second, .val (.int k_), .val (.ref b1), .val (.int ((((((1 : Int32) &&& (1 : Int32)) &&& (1 : Int32)) &&& (1 : Int32)) &&& (1 : Int32)) &&& (1 : Int32))), .val (.long (u1 &&& (4611686018427387903 : Int64))), .second, .val (.long (u2 &&& (4611686018427387903 : Int64))), .second, .val (.long ((((u1 &&& (4611686018427387903 : Int64)) ||| (63 : Int64)) + ((((k_.toUInt32 >>> ((2 : Int32) &&& 31).toUInt32).toInt32) &&& (3 : Int32)).toInt64)) - (1 : Int64))), .second, .val (.long ((((u2 &&& (4611686018427387903 : Int64)) ||| (63 : Int64)) + ((((k_.toUInt32 >>> ((4 : Int32) &&& 31).toUInt32).toInt32) &&& (3 : Int32)).toInt64)) - (1 : Int64))), .second]) rfl ?_
    show Steps p.tables e below (T89.setTop (mkF m 242 #[.val (.long xx), .second, .val (.long u1), .second, .val (.long u2), .second, .val (.long unit), .second, .val (.int k_), .val (.ref b1), .val (.int ((((((1 : Int32) &&& (1 : Int32)) &&& (1 : Int32)) &&& (1 : Int32)) &&& (1 : Int32)) &&& (1 : Int32))), .val (.long (u1 &&& (4611686018427387903 : Int64))), .second, .val (.long (u2 &&& (4611686018427387903 : Int64))), .second, .val (.long ((((u1 &&& (4611686018427387903 : Int64)) ||| (63 : Int64)) + ((((k_.toUInt32 >>> ((2 : Int32) &&& 31).toUInt32).toInt32) &&& (3 : Int32)).toInt64)) - (1 : Int64))), .second, .val (.long ((((u2 &&& (4611686018427387903 : Int64)) ||| (63 : Int64)) + ((((k_.toUInt32 >>> ((4 : Int32) &&& 31).toUInt32).toInt32) &&& (3 : Int32)).toInt64)) - (1 : Int64))), .second] [])) t
    refine XS.iload X89.here hx rfl (hb hby at_242) rfl ?_
    exact kt
  obtain ⟨fs, hr, hrun, hended, hW, hsame⟩ := X89.leave (v := some (.int (nar .boolean ((((((1 : Int32) &&& (1 : Int32)) &&& (1 : Int32)) &&& (1 : Int32)) &&& (1 : Int32)) &&& (1 : Int32))))) (fun h => by rw [Bd.returns] at h; cases h)
  refine ⟨_, _, S92 _ ?_, hrun, hended, _, _, rfl, ?_, ⟨_, rfl⟩, hW, hsame.mono (by decide) (by decide)⟩
  · show Steps p.tables e below (T89.setTop (mkF m 244 #[.val (.long xx), .second, .val (.long u1), .second, .val (.long u2), .second, .val (.long unit), .second, .val (.int k_), .val (.ref b1), .val (.int ((((((1 : Int32) &&& (1 : Int32)) &&& (1 : Int32)) &&& (1 : Int32)) &&& (1 : Int32)) &&& (1 : Int32))), .val (.long (u1 &&& (4611686018427387903 : Int64))), .second, .val (.long (u2 &&& (4611686018427387903 : Int64))), .second, .val (.long ((((u1 &&& (4611686018427387903 : Int64)) ||| (63 : Int64)) + ((((k_.toUInt32 >>> ((2 : Int32) &&& 31).toUInt32).toInt32) &&& (3 : Int32)).toInt64)) - (1 : Int64))), .second, .val (.long ((((u2 &&& (4611686018427387903 : Int64)) ||| (63 : Int64)) + ((((k_.toUInt32 >>> ((4 : Int32) &&& 31).toUInt32).toInt32) &&& (3 : Int32)).toInt64)) - (1 : Int64))), .second] [(.int ((((((1 : Int32) &&& (1 : Int32)) &&& (1 : Int32)) &&& (1 : Int32)) &&& (1 : Int32)) &&& (1 : Int32)))])) _
    exact retN X89 hx (t := .boolean) Bd.returns (by simp) (hb hby at_244) hr
  · show own_Q0 Z xx u1 u2 unit k_ h0 n0 _ T89.heap _
    rw [eq87]
    exact ⟨by decide, N61⟩
set_option maxHeartbeats 40000000 in
theorem own_comes {Post : Tables → Env → Array Value → State → Outcome → State → Prop} (hpost : ∀ tb e args s v u, (limb_1_1.after args s (.returned v) u = true ∧ limb_1_2.after args s (.returned v) u = true ∧ True) → FrameEnd s (.returned v) u (Jvm.fieldLocs frame_1_writes args s ++ Jvm.arrayLocs frame_1_arrays args s ++ Jvm.staticLocs frame_1_statics s) 24 128 → Post tb e args s (.returned v) u) :
    ArmFor flags0 classFile x code maxLocals ret World_1 tables_1 room_1 Calls_1 rest_1 Pre_1 Post := by
  intro l hfl _ _ p e ha hc hk s m args below hf hA hF happ hP
  obtain ⟨hcalls, hrest, hpre⟩ := hP
  obtain ⟨-, -, -, hnamed, -, -, -, hat⟩ := (Spec.applies_iff hf).mp happ
  obtain ⟨hg, hn⟩ := and_e (Cond.before_iff.mp (show (Jvm.Cond.and given_1 narrow_1).before args s = true from hpre))
  obtain ⟨g1, g2⟩ := and_e hg
  obtain ⟨g3, g4⟩ := and_e g2
  obtain ⟨g5, g6⟩ := and_e g4
  obtain ⟨g7, g8⟩ := and_e g6
  obtain ⟨g9, g10⟩ := and_e g8
  obtain ⟨w0, w1, w2, w3, w4, rfl⟩ : ∃ w0 w1 w2 w3 w4 : Value, args = #[w0, w1, w2, w3, w4] := by
    have hs : args.size = 5 := by simpa [Cond.value, given_1] using g1
    obtain ⟨L⟩ := args
    match L, hs with
    | [w0, w1, w2, w3, w4], _ => exact ⟨w0, w1, w2, w3, w4, rfl⟩
  have hw := fun d (hd : d ∈ tables_1) => atoms_spec (ws := Jvm.Cond.code x code maxLocals ret :: tables_1) hat d (List.mem_cons_of_mem _ hd)
  have hfit : Fit s := fun {y c} hc i hi => by
    obtain ⟨ha, rfl⟩ := Array.getElem?_eq_some_iff.mp hc
    have q := List.all_eq_true.mp ((Array.all_eq_true_iff_forall_mem.mp hF) _ (Array.getElem_mem ha)) i (List.mem_range.mpr hi)
    simpa [Array.getElem?_eq_getElem hi] using q
  obtain ⟨i0, ei0⟩ := isL_v g3
  obtain rfl : w0 = (.long i0) := Option.some.inj ei0
  obtain ⟨i1, ei1⟩ := isL_v g5
  obtain rfl : w1 = (.long i1) := Option.some.inj ei1
  obtain ⟨i2, ei2⟩ := isL_v g7
  obtain rfl : w2 = (.long i2) := Option.some.inj ei2
  obtain ⟨i3, ei3⟩ := isL_v g9
  obtain rfl : w3 = (.long i3) := Option.some.inj ei3
  obtain ⟨i4, ei4⟩ := is_v g10
  obtain rfl : w4 = (.int i4) := Option.some.inj ei4
  obtain ⟨n, o, h1, h2, h3, _, L, rfl, ⟨rfl, N⟩, hq⟩ := own_rm0 l s _ hw tables_1 i0 i1 i2 i3 i4  s.heap s.heap.size (Nat.le_refl _)  p e ha hc hk s m _ below hf ((Spec.applies_iff_loose hf).mp happ).1 ⟨rfl, State.Warmed39.refl s, rfl⟩ trivial
  refine ⟨n, _, h1, h2, h3, hpost _ _ _ _ _ _ ⟨Cond.after_iff.mpr rfl, Cond.after_iff.mpr (eq_i res_at (Term.int_eval (1)) rfl), trivial⟩ ⟨hq.1, hq.2.1, (hq.2.2.sift fun y hy => Or.inr (N y hy)).mono (by decide) (by decide)⟩⟩
theorem main_1_1 : Claimed_1_1 := own_comes fun _ _ _ _ _ _ h hF => ⟨h.1, hF⟩
theorem main_1_2 : Claimed_1_2 := own_comes fun _ _ _ _ _ _ h hF => ⟨h.2.1, hF⟩
end Jvm.Pilot.@@N@@
namespace Jvm.Pilot.@@N@@
open Jvm Jvm.ClassFile Sem Op Lib Jvm.Free Jvm.Stand Jvm.Pilot.@@N@@.Jvm.D
/-! MADE BY PROGRAM (witnessworld.py) out of the Statement's table words and the real class files: 13 classes; the members and pool entries that the words name. The judged class is class 1, her method 1. -/
namespace start1
open Jvm.ClassFile
def u (s : String) : CpInfo := .utf8 (stringToUtf16 s)
/-- a pool by its gaps: so many unusable entries, then the entry; so many at the end -/
def gap : Nat → List CpInfo → List CpInfo
  | 0, r => r
  | n + 1, r => .unusable :: gap n r
def poolList (es : List (Nat × CpInfo)) (last : Nat) : List CpInfo := es.foldr (fun e r => gap e.1 (e.2 :: r)) (gap last [])
def pool (es : List (Nat × CpInfo)) (last : Nat) : Array CpInfo := ⟨poolList es last⟩
def fileOf (pool : Array CpInfo) (this : Nat) (attrs : Array Attribute := #[]) (ms : Array MethodInfo := #[]) (fl : Nat := 33) (sup : Nat := 0) (ifs : Array Nat := #[]) (fds : Array FieldInfo := #[]) : ClassFile where
  minorVersion := 0
  majorVersion := 65
  constantPool := pool
  accessFlags := fl
  thisClass := this
  superClass := sup
  interfaces := ifs
  fields := fds
  methods := ms
  attributes := attrs
def plain (name : String) (sup : Option ClassId) : Class where
  name := name
  kind := .ordinary
  loader := none
  accessFlags := 33
  super := sup
  interfaces := #[]
  cf := none
  fields := #[]
  methods := #[]
  instanceTypes := #[]
  staticTypes := #[]
  resolved := #[]
  callSites := []
  init := .initialized
  statics := none
  mirror := none

def pool0 : Array CpInfo := pool [(5, u "<init>"), (0, u "()V"), (1, .class_ 10), (1, u "java/lang/Object")] 113

def k0c0 : Code := { maxStack := 0, maxLocals := 1, code := object_method_1_code, exceptionTable := #[], attributes := #[] }
def k0m0 : Method := { name := "<init>", desc := "()V", sig := { parameters := [], returnType := none }, accessFlags := 1, code := some k0c0 }
/-- java/lang/Object -/
def k0 : Class := { plain "java/lang/Object" none with
  accessFlags := 33
  interfaces := #[]
  cf := some (fileOf pool0 8 #[] #[{ accessFlags := 1, nameIndex := 5, descriptorIndex := 6, attributes := #[] }] 33 0 #[] #[])
  fields := #[]
  methods := #[k0m0]
  instanceTypes := #[]
  staticTypes := #[]
  resolved := Array.replicate 124 none
  statics := none }

def pool1 : Array CpInfo := pool [(2, .class_ 4), (1, u "java/lang/Object"), (0, u "<init>"), (0, u "()V"), (0, .class_ 8), (0, u "com/example/siteward/siteward/assignment/LoadListing"), (0, .methodref 7 10), (0, .nameAndType 5 11), (0, u "(I)V"), (0, .methodref 7 13), (0, .nameAndType 14 15), (0, u "keeps"), (0, u "(J)Z"), (0, .long 4611686018427387903), (1, .methodref 7 19), (0, .nameAndType 20 21), (0, u "start"), (0, u "(JJ)V"), (0, .methodref 23 24), (0, .class_ 25), (0, .nameAndType 26 27), (0, u "com/example/siteward/siteward/assignment/LoadListingKeepsPinLaw"), (0, u "ref"), (0, u "(JJ)Z"), (0, .long 63), (1, .long 64), (3, u "law"), (0, u "(JJJJI)Z")] 3

def k1m0 : Method := { name := "<init>", desc := "()V", sig := { parameters := [], returnType := none }, accessFlags := 1, code := none }
def k1c1 : Code := { maxStack := 6, maxLocals := 19, code := code, exceptionTable := #[], attributes := #[] }
def k1m1 : Method := { name := "law", desc := "(JJJJI)Z", sig := { parameters := [.long, .long, .long, .long, .int], returnType := some .boolean }, accessFlags := 9, code := some k1c1 }
def k1c2 : Code := { maxStack := 6, maxLocals := 4, code := method_3_code, exceptionTable := #[], attributes := #[] }
def k1m2 : Method := { name := "ref", desc := "(JJ)Z", sig := { parameters := [.long, .long], returnType := some .boolean }, accessFlags := 10, code := some k1c2 }
/-- com/example/siteward/siteward/assignment/LoadListingKeepsPinLaw -/
def k1 : Class := { plain "com/example/siteward/siteward/assignment/LoadListingKeepsPinLaw" (some 0) with
  accessFlags := 49
  interfaces := #[]
  cf := some (fileOf pool1 23 #[] #[{ accessFlags := 1, nameIndex := 5, descriptorIndex := 6, attributes := #[] }, { accessFlags := 9, nameIndex := 34, descriptorIndex := 35, attributes := #[] }, { accessFlags := 10, nameIndex := 26, descriptorIndex := 27, attributes := #[] }] 49 2 #[] #[])
  fields := #[]
  methods := #[k1m0, k1m1, k1m2]
  instanceTypes := #[]
  staticTypes := #[]
  resolved := Array.replicate 39 none
  statics := none }

def pool2 : Array CpInfo := pool [(1, .methodref 2 3), (0, .class_ 4), (0, .nameAndType 5 6), (0, u "java/lang/Object"), (0, u "<init>"), (0, u "()V"), (0, .fieldref 8 9), (0, .class_ 10), (0, .nameAndType 11 12), (0, u "com/example/siteward/siteward/assignment/LoadListing"), (0, u "loads"), (0, u "[J"), (0, .fieldref 8 14), (0, .nameAndType 15 12), (0, u "merged"), (0, .fieldref 8 17), (0, .nameAndType 18 12), (0, u "bits"), (0, .fieldref 8 20), (0, .nameAndType 21 22), (0, u "listed"), (0, u "[I"), (0, .fieldref 8 24), (0, .nameAndType 25 26), (0, u "isListed"), (0, u "[Z"), (2, .long 64), (1, .methodref 8 32), (0, .nameAndType 33 34), (0, u "words"), (0, u "(J)J"), (10, .fieldref 8 46), (0, .nameAndType 47 48), (0, u "count"), (0, u "I"), (0, .fieldref 8 50), (0, .nameAndType 51 48), (0, u "size"), (0, .fieldref 8 53), (0, .nameAndType 54 55), (0, u "asBits"), (0, u "Z"), (0, .fieldref 8 57), (0, .nameAndType 33 58), (0, u "J"), (0, .fieldref 8 60), (0, .nameAndType 61 58), (0, u "unit"), (19, u "operations"), (8, u "top"), (33, u "WORDS_PER_LOAD"), (2, u "(I)V"), (5, u "start"), (0, u "(JJ)V"), (4, u "keeps"), (0, u "(J)Z")] 9

def k2c0 : Code := { maxStack := 2, maxLocals := 2, code := prog_5_method_1_code, exceptionTable := #[], attributes := #[] }
def k2m0 : Method := { name := "<init>", desc := "(I)V", sig := { parameters := [.int], returnType := none }, accessFlags := 0, code := some k2c0 }
def k2c1 : Code := { maxStack := 4, maxLocals := 2, code := prog_5_method_2_code, exceptionTable := #[], attributes := #[] }
def k2m1 : Method := { name := "words", desc := "(J)J", sig := { parameters := [.long], returnType := some .long }, accessFlags := 8, code := some k2c1 }
def k2c2 : Code := { maxStack := 4, maxLocals := 6, code := prog_5_method_4_code, exceptionTable := #[], attributes := #[] }
def k2m2 : Method := { name := "start", desc := "(JJ)V", sig := { parameters := [.long, .long], returnType := none }, accessFlags := 0, code := some k2c2 }
def k2c3 : Code := { maxStack := 6, maxLocals := 3, code := prog_5_method_12_code, exceptionTable := #[], attributes := #[] }
def k2m3 : Method := { name := "keeps", desc := "(J)Z", sig := { parameters := [.long], returnType := some .boolean }, accessFlags := 0, code := some k2c3 }
/-- com/example/siteward/siteward/assignment/LoadListing -/
def k2 : Class := { plain "com/example/siteward/siteward/assignment/LoadListing" (some 0) with
  accessFlags := 48
  interfaces := #[]
  cf := some (fileOf pool2 8 #[] #[{ accessFlags := 0, nameIndex := 5, descriptorIndex := 127, attributes := #[] }, { accessFlags := 8, nameIndex := 33, descriptorIndex := 34, attributes := #[] }, { accessFlags := 0, nameIndex := 133, descriptorIndex := 134, attributes := #[] }, { accessFlags := 0, nameIndex := 139, descriptorIndex := 140, attributes := #[] }] 48 2 #[] #[{ accessFlags := 26, nameIndex := 124, descriptorIndex := 48, attributes := #[] }, { accessFlags := 2, nameIndex := 11, descriptorIndex := 12, attributes := #[] }, { accessFlags := 2, nameIndex := 51, descriptorIndex := 48, attributes := #[] }, { accessFlags := 2, nameIndex := 15, descriptorIndex := 12, attributes := #[] }, { accessFlags := 2, nameIndex := 54, descriptorIndex := 55, attributes := #[] }, { accessFlags := 2, nameIndex := 18, descriptorIndex := 12, attributes := #[] }, { accessFlags := 2, nameIndex := 90, descriptorIndex := 48, attributes := #[] }, { accessFlags := 2, nameIndex := 33, descriptorIndex := 58, attributes := #[] }, { accessFlags := 2, nameIndex := 61, descriptorIndex := 58, attributes := #[] }, { accessFlags := 2, nameIndex := 81, descriptorIndex := 58, attributes := #[] }, { accessFlags := 18, nameIndex := 21, descriptorIndex := 22, attributes := #[] }, { accessFlags := 18, nameIndex := 25, descriptorIndex := 26, attributes := #[] }, { accessFlags := 2, nameIndex := 47, descriptorIndex := 48, attributes := #[] }])
  fields := #[{ name := "WORDS_PER_LOAD", type := .int, accessFlags := 26, slot := 0, constantValue := 0 }, { name := "loads", type := (.array .long), accessFlags := 2, slot := 0, constantValue := 0 }, { name := "size", type := .int, accessFlags := 2, slot := 1, constantValue := 0 }, { name := "merged", type := (.array .long), accessFlags := 2, slot := 2, constantValue := 0 }, { name := "asBits", type := .boolean, accessFlags := 2, slot := 3, constantValue := 0 }, { name := "bits", type := (.array .long), accessFlags := 2, slot := 4, constantValue := 0 }, { name := "top", type := .int, accessFlags := 2, slot := 5, constantValue := 0 }, { name := "words", type := .long, accessFlags := 2, slot := 6, constantValue := 0 }, { name := "unit", type := .long, accessFlags := 2, slot := 7, constantValue := 0 }, { name := "operations", type := .long, accessFlags := 2, slot := 8, constantValue := 0 }, { name := "listed", type := (.array .int), accessFlags := 18, slot := 9, constantValue := 0 }, { name := "isListed", type := (.array .boolean), accessFlags := 18, slot := 10, constantValue := 0 }, { name := "count", type := .int, accessFlags := 2, slot := 11, constantValue := 0 }]
  methods := #[k2m0, k2m1, k2m2, k2m3]
  instanceTypes := #[(.array .long), .int, (.array .long), .boolean, (.array .long), .int, .long, .long, .long, (.array .int), (.array .boolean), .int]
  staticTypes := #[.int]
  resolved := Array.replicate 150 none
  statics := none }

def pool3 : Array CpInfo := pool [(1, u "java/lang/Cloneable"), (0, .class_ 1), (0, u "java/lang/Object"), (0, .class_ 3)] 3

/-- java/lang/Cloneable -/
def k3 : Class := { plain "java/lang/Cloneable" (some 0) with
  accessFlags := 1537
  interfaces := #[]
  cf := some (fileOf pool3 2 #[] #[] 1537 4 #[] #[])
  fields := #[]
  methods := #[]
  instanceTypes := #[]
  staticTypes := #[]
  resolved := Array.replicate 8 none
  statics := none }

def pool4 : Array CpInfo := pool [(1, u "java/io/Serializable"), (0, .class_ 1), (0, u "java/lang/Object"), (0, .class_ 3)] 3

/-- java/io/Serializable -/
def k4 : Class := { plain "java/io/Serializable" (some 0) with
  accessFlags := 1537
  interfaces := #[]
  cf := some (fileOf pool4 2 #[] #[] 1537 4 #[] #[])
  fields := #[]
  methods := #[]
  instanceTypes := #[]
  staticTypes := #[]
  resolved := Array.replicate 8 none
  statics := none }

/-- the primitive boolean -/
def k5 : Class := { plain "boolean" none with kind := .primitive 'Z', accessFlags := 0x411 }
/-- [Z -/
def k6 : Class := { plain "[Z" (some 0) with kind := .array 5 .boolean, interfaces := #[3, 4], accessFlags := 1041 }

/-- the primitive byte -/
def k7 : Class := { plain "byte" none with kind := .primitive 'B', accessFlags := 0x411 }
/-- [B -/
def k8 : Class := { plain "[B" (some 0) with kind := .array 7 .byte, interfaces := #[3, 4], accessFlags := 1041 }

/-- the primitive int -/
def k9 : Class := { plain "int" none with kind := .primitive 'I', accessFlags := 0x411 }
/-- [I -/
def k10 : Class := { plain "[I" (some 0) with kind := .array 9 .int, interfaces := #[3, 4], accessFlags := 1041 }

/-- the primitive long -/
def k11 : Class := { plain "long" none with kind := .primitive 'J', accessFlags := 0x411 }
/-- [J -/
def k12 : Class := { plain "[J" (some 0) with kind := .array 11 .long, interfaces := #[3, 4], accessFlags := 1041 }

def heap : Heap := #[]
def classes : Array Class := #[k0, k1, k2, k3, k4, k5, k6, k7, k8, k9, k10, k11, k12]
def interned : List (Array UInt16 × Addr) := []
def slotsUsed : Nat := 0
def theMethod : MethodId := ⟨1, 1⟩
def args0 : Array Value := #[.long 1, .long 2, .long 3, .long 4, .int 5]
def aboutOver (below : List Frame) : State where
  vm := { classes := classes, interned := interned.toArray }
  heap := heap
  slotsUsed := slotsUsed
  threads := #[{ frames := .invoking theMethod args0 :: below }]
def below0 : List Frame := [.native { method := ⟨0, 0⟩, args := #[] }]
def about1 : State := aboutOver below0
def p0 : Program := .bare "" "" ""
def e0 : Env := launch0.env 0 0 0
theorem w_frames : about1.frames = Frame.invoking theMethod args0 :: below0 := rfl
set_option maxRecDepth 65536 in
theorem w_args : argsFit about1.vm theMethod args0 = true := by decide +kernel
set_option maxRecDepth 65536 in
theorem w_heap : heapFits about1 = true := by decide +kernel
set_option maxRecDepth 65536 in
theorem w_runnable : about1.curStatus? = some .runnable := by decide +kernel
set_option maxRecDepth 65536 in
theorem w_alone : about1.alone = true := by decide +kernel
set_option maxRecDepth 65536 in
theorem w_named : about1.methodNamed? x = some theMethod := by decide +kernel
set_option maxRecDepth 65536 in
theorem w_hears : about1.hears theMethod below0 = true := by decide +kernel
set_option maxRecDepth 65536 in
theorem w_ripe : about1.ripe theMethod args0 below0 = true := by decide +kernel
theorem w_running : about1.status = .running := rfl
set_option maxRecDepth 65536 in
theorem w_room : about1.hasRoom e0.platform room_1 = true :=
  launch0.hasRoom_least _ room_1 (by decide +kernel) (by decide +kernel) (by decide +kernel) (by decide +kernel) (by decide +kernel) (by decide +kernel)
theorem allAtoms_all (ts : List Jvm.Cond) (a : Array Jvm.Value) (st : Jvm.State) : (allAtoms ts).before a st = ts.all (fun c => c.before a st) := by
  induction ts with
  | nil => rfl
  | cons c t ih =>
    show (Jvm.Cond.and c (allAtoms t)).before a st = _
    rw [Jvm.Cond.before_and, ih, List.all_cons]
def words1 : List Jvm.Cond := Jvm.Cond.code x code maxLocals ret :: tables_1
/-- a 'code' word, met by the world's own term for the bytes: nothing is compared byte by byte -/
theorem code_word {y : MethodName} {bytes : ByteArray} {mx : Nat} {rt : Option FieldType} {a : Array Value} {s : State} {m : MethodId} {meth : Method} {c : Code} (h1 : s.methodNamed? y = some m) (h2 : s.vm.method? m = some meth) (h3 : meth.code = some c) (h4 : c.code = bytes)
    (h5 : (c.maxLocals == mx && c.exceptionTable.isEmpty && decide (c.maxStack ≤ mostOperands) && decide (meth.sig.returnType = rt) && !meth.locks && decide (parseMethodDescriptor y.desc = some meth.sig)) = true) : (Jvm.Cond.code y bytes mx rt).before a s = true := by
  simp only [Bool.and_eq_true, beq_iff_eq, Bool.not_eq_true', decide_eq_true_eq] at h5
  obtain ⟨⟨⟨⟨⟨g1, g2⟩, g3⟩, g4⟩, g5⟩, g6⟩ := h5
  simp [Cond.before, Cond.holds, Cond.value, h1, h2, h3, h4, g1, g2, g3, g4, g5, g6]
def isCode : Jvm.Cond → Bool
  | .code _ _ _ _ => true
  | _ => false
theorem all_split {L : List Jvm.Cond} {P : Jvm.Cond → Bool} (h1 : L.all (fun c => isCode c || P c) = true) (h2 : ∀ c ∈ L.filter isCode, P c = true) : L.all P = true := by
  refine List.all_eq_true.mpr fun c hc => ?_
  have h := List.all_eq_true.mp h1 c hc
  rcases Bool.eq_false_or_eq_true (isCode c) with hi | hi
  · exact h2 c (List.mem_filter.mpr ⟨hc, hi⟩)
  · simpa [hi] using h
set_option maxRecDepth 65536 in
theorem w_c0 : (Jvm.Cond.code x code maxLocals ret).before args0 about1 = true := code_word (m := ⟨1, 1⟩) (meth := k1m1) (c := k1c1) (by decide +kernel) rfl rfl rfl (by decide +kernel)
set_option maxRecDepth 65536 in
theorem w_c1 : (Jvm.Cond.code ({ cls := "com/example/siteward/siteward/assignment/LoadListing", name := "<init>", desc := "(I)V" } : Jvm.MethodName) prog_5_method_1_code (2 : Nat) (Option.none : Option Jvm.ClassFile.FieldType)).before args0 about1 = true := code_word (m := ⟨2, 0⟩) (meth := k2m0) (c := k2c0) (by decide +kernel) rfl rfl rfl (by decide +kernel)
set_option maxRecDepth 65536 in
theorem w_c2 : (Jvm.Cond.code ({ cls := "java/lang/Object", name := "<init>", desc := "()V" } : Jvm.MethodName) object_method_1_code (1 : Nat) (Option.none : Option Jvm.ClassFile.FieldType)).before args0 about1 = true := code_word (m := ⟨0, 0⟩) (meth := k0m0) (c := k0c0) (by decide +kernel) rfl rfl rfl (by decide +kernel)
set_option maxRecDepth 65536 in
theorem w_c3 : (Jvm.Cond.code ({ cls := "com/example/siteward/siteward/assignment/LoadListing", name := "keeps", desc := "(J)Z" } : Jvm.MethodName) prog_5_method_12_code (3 : Nat) (Option.some Jvm.ClassFile.FieldType.boolean)).before args0 about1 = true := code_word (m := ⟨2, 3⟩) (meth := k2m3) (c := k2c3) (by decide +kernel) rfl rfl rfl (by decide +kernel)
set_option maxRecDepth 65536 in
theorem w_c4 : (Jvm.Cond.code ({ cls := "com/example/siteward/siteward/assignment/LoadListing", name := "start", desc := "(JJ)V" } : Jvm.MethodName) prog_5_method_4_code (6 : Nat) (Option.none : Option Jvm.ClassFile.FieldType)).before args0 about1 = true := code_word (m := ⟨2, 2⟩) (meth := k2m2) (c := k2c2) (by decide +kernel) rfl rfl rfl (by decide +kernel)
set_option maxRecDepth 65536 in
theorem w_c5 : (Jvm.Cond.code ({ cls := "com/example/siteward/siteward/assignment/LoadListing", name := "words", desc := "(J)J" } : Jvm.MethodName) prog_5_method_2_code (2 : Nat) (Option.some Jvm.ClassFile.FieldType.long)).before args0 about1 = true := code_word (m := ⟨2, 1⟩) (meth := k2m1) (c := k2c1) (by decide +kernel) rfl rfl rfl (by decide +kernel)
set_option maxRecDepth 65536 in
theorem w_c6 : (Jvm.Cond.code ({ cls := "com/example/siteward/siteward/assignment/LoadListingKeepsPinLaw", name := "ref", desc := "(JJ)Z" } : Jvm.MethodName) method_3_code (4 : Nat) (Option.some Jvm.ClassFile.FieldType.boolean)).before args0 about1 = true := code_word (m := ⟨1, 2⟩) (meth := k1m2) (c := k1c2) (by decide +kernel) rfl rfl rfl (by decide +kernel)
def codes1 : List Jvm.Cond := [Jvm.Cond.code x code maxLocals ret, Jvm.Cond.code ({ cls := "com/example/siteward/siteward/assignment/LoadListing", name := "<init>", desc := "(I)V" } : Jvm.MethodName) prog_5_method_1_code (2 : Nat) (Option.none : Option Jvm.ClassFile.FieldType), Jvm.Cond.code ({ cls := "java/lang/Object", name := "<init>", desc := "()V" } : Jvm.MethodName) object_method_1_code (1 : Nat) (Option.none : Option Jvm.ClassFile.FieldType), Jvm.Cond.code ({ cls := "com/example/siteward/siteward/assignment/LoadListing", name := "keeps", desc := "(J)Z" } : Jvm.MethodName) prog_5_method_12_code (3 : Nat) (Option.some Jvm.ClassFile.FieldType.boolean), Jvm.Cond.code ({ cls := "com/example/siteward/siteward/assignment/LoadListing", name := "start", desc := "(JJ)V" } : Jvm.MethodName) prog_5_method_4_code (6 : Nat) (Option.none : Option Jvm.ClassFile.FieldType), Jvm.Cond.code ({ cls := "com/example/siteward/siteward/assignment/LoadListing", name := "words", desc := "(J)J" } : Jvm.MethodName) prog_5_method_2_code (2 : Nat) (Option.some Jvm.ClassFile.FieldType.long), Jvm.Cond.code ({ cls := "com/example/siteward/siteward/assignment/LoadListingKeepsPinLaw", name := "ref", desc := "(JJ)Z" } : Jvm.MethodName) method_3_code (4 : Nat) (Option.some Jvm.ClassFile.FieldType.boolean)]
set_option maxRecDepth 65536 in
theorem codes_eq : words1.filter isCode = codes1 := rfl
theorem w_codes : ∀ c ∈ words1.filter isCode, c.before args0 about1 = true := by
  rw [codes_eq]
  intro c hc
  simp only [codes1, List.mem_cons, List.not_mem_nil, or_false] at hc
  rcases hc with rfl | rfl | rfl | rfl | rfl | rfl | rfl
  · exact w_c0
  · exact w_c1
  · exact w_c2
  · exact w_c3
  · exact w_c4
  · exact w_c5
  · exact w_c6
set_option maxRecDepth 65536 in
theorem w_t1 : (words1.take 24).all (fun c => isCode c || c.before args0 about1) = true := by decide +kernel
set_option maxRecDepth 65536 in
theorem w_t2 : ((words1.drop 24).take 24).all (fun c => isCode c || c.before args0 about1) = true := by decide +kernel
set_option maxRecDepth 65536 in
theorem w_t3 : ((words1.drop 24).drop 24).all (fun c => isCode c || c.before args0 about1) = true := by decide +kernel
theorem w_tables : (allAtoms (Jvm.Cond.code x code maxLocals ret :: tables_1)).before args0 about1 = true := by
  rw [allAtoms_all]
  show words1.all (fun c => c.before args0 about1) = true
  refine all_split ?_ w_codes
  rw [← List.take_append_drop 24 words1, List.all_append, w_t1, ← List.take_append_drop 24 (words1.drop 24), List.all_append, w_t2, w_t3]
  rfl
set_option maxRecDepth 65536 in
theorem w_case : (Jvm.Cond.and given_1 narrow_1).before args0 about1 = true := by decide +kernel
theorem w_applies : (headSpec (Jvm.Cond.code x code maxLocals ret :: tables_1) room_1).applies x e0.platform about1 = true :=
  (Spec.applies_iff w_frames).mpr ⟨w_running, w_runnable, w_alone, w_named, w_hears, w_ripe, w_room, w_tables⟩
theorem atStart : AtStart classFile x code maxLocals ret World_1 tables_1 room_1 Calls_1 rest_1 Pre_1 launch0 p0 e0 about1 theMethod args0 below0 :=
  ⟨lists_1, trivial, launch0.admits_env _ _ _, launch0.least_env, fairChoices_fair.cas, fairChoices_fair.clock, w_frames, w_args, w_heap, w_applies, trivial, trivial, w_case⟩
end start1
theorem witness_1 : WitnessClaimed_1 := ⟨start1.p0, start1.e0, start1.about1, start1.theMethod, start1.args0, start1.below0, start1.atStart⟩
end Jvm.Pilot.@@N@@
