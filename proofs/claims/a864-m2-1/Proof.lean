import JvmDerived
import JvmDerived.Pilot.@@N@@Statement
import JvmDerived.Pilot.@@N@@Code
set_option linter.unusedVariables false
set_option linter.unusedSimpArgs false
set_option maxRecDepth 65536
namespace Jvm.Pilot.@@N@@
open Jvm Jvm.ClassFile Sem Op Lib Jvm.Free Jvm.Stand Jvm.LawKit Jvm.RoadKit Bundle Jvm.Pilot.@@N@@.Jvm.D
section OwnKit
variable {p : Program} {l : Launch} {e : Env} {R : Room} {s : State} {m : MethodId} {args : Array Value} {below : List Frame} {meth : Method} {c : Code} {T : State} {locs : List Loc} {cells slots : Nat}
theorem own_retI (X : Stand p l e R s m args below meth c T locs cells slots) (hx : p.tables.exec = Jvm.exec) {pc : Nat} {Ls : Array Slot} {z : Int32} {rest : List Value} (hret : meth.sig.returnType = some .int) (hd : decode c.code pc = .ok (.ireturn, 1)) {fs : List Frame}
    (hl : ∀ (f : JFrame) (acts : List Action), f.method = m → f.locked = none → f.entered = [] → (doReturn e (T.setTop f) acts (some (.int z))).1 = T.setFrames fs) : Steps p.tables e below (T.setTop (mkF m pc Ls (.int z :: rest))) (T.setFrames fs) := by
  have hm' : T.vm.method? m = some meth := X.method'
  have hn : narrow .int (.int z) = .int z := rfl
  show Steps p.tables e below (T.setTop { method := m, pc := pc, locals := Ls, stack := _ :: rest, locked := none }) _
  jvm_step X.here [X.here.top, hx, hd, hm', hret, hn]
  first | (intro acts; rw [hl _ acts rfl rfl rfl]) | rw [hl _ _ rfl rfl rfl]
  exact Steps.refl _
/-- where the run stands, with the same writes and figures as at X -/
abbrev own_like (_ : Stand p l e R s m args below meth c T locs cells slots) (T' : State) : Prop := Stand p l e R s m args below meth c T' locs cells slots
end OwnKit
theorem own_Llt {a b : Int64} (h : a < b) : ifCond.holds .lt (lcmpW a b) = true ∧ ifCond.holds .ge (lcmpW a b) = false ∧ ifCond.holds .gt (lcmpW b a) = true ∧ ifCond.holds .le (lcmpW b a) = false := by
  simp only [if0]
  exact ⟨(tlt ((lw_lt a b).mpr h)).1, (tlt ((lw_lt a b).mpr h)).2.1, (tlt ((lw_gt b a).mpr h)).2.2.1, (tlt ((lw_gt b a).mpr h)).2.2.2⟩
theorem own_Lnl {a b : Int64} (h : ¬ a < b) : ifCond.holds .lt (lcmpW a b) = false ∧ ifCond.holds .ge (lcmpW a b) = true ∧ ifCond.holds .gt (lcmpW b a) = false ∧ ifCond.holds .le (lcmpW b a) = true := by
  simp only [if0]
  have h1 : ¬ lcmpW a b < 0 := fun q => h ((lw_lt a b).mp q)
  have h2 : ¬ 0 < lcmpW b a := fun q => h ((lw_gt b a).mp q)
  exact ⟨(flt h1).1, (flt h1).2.1, (flt h2).2.2.1, (flt h2).2.2.2⟩
theorem own_Leq {a b : Int64} (h : a = b) : ifCond.holds .eq (lcmpW a b) = true ∧ ifCond.holds .ne (lcmpW a b) = false := by
  simp only [if0]
  exact teq ((lw_eq a b).mpr h)
theorem own_Lne {a b : Int64} (h : ¬ a = b) : ifCond.holds .eq (lcmpW a b) = false ∧ ifCond.holds .ne (lcmpW a b) = true := by
  simp only [if0]
  exact feq fun q => h ((lw_eq a b).mp q)
theorem own_StaK {Z : State} {h h' : Heap} {C n d : String} {v : Value} {ws : List Addr} (F : Sta Z h C n d v) (K : Keep h h' ws) (q : ∀ x ∈ ws, ∃ c : Cell, h[x]? = some c ∧ c.vm.isStatics = false) : Sta Z h' C n d v := by
  obtain ⟨cf, i, k, f, st, cell, h1, h2, h3, h4, h5, h6, h7⟩ := F
  refine ⟨cf, i, k, f, st, cell, h1, h2, h3, h4, K.2.1 st cell h5 (fun hm => ?_), h6, h7⟩
  obtain ⟨c, e1, e2⟩ := q _ hm
  rw [h5] at e1
  cases e1
  rw [h6] at e2
  cases e2
theorem own_ExaS {Z : State} {h : Heap} {a : Addr} {C : String} (E : Exa Z h a C) : ∃ c : Cell, h[a]? = some c ∧ c.vm.isStatics = false := by
  obtain ⟨c, k, e1, -, -, e2, -⟩ := E
  exact ⟨c, e1, e2⟩
/-- a boolean as the JVM's int -/
def own_b (b : Bool) : Int32 := if b then 1 else 0
theorem own_b_t : own_b true = 1 := rfl
theorem own_b_f : own_b false = 0 := rfl
theorem own_b0 {b : Bool} : own_b b = 0 ↔ b = false := by cases b <;> decide
theorem own_b_inj {b c : Bool} : own_b b = own_b c ↔ b = c := by cases b <;> cases c <;> decide
theorem own_leafT {b : Bool} (h : b = true) : (some (.int (nar .boolean (1 : Int32))) : Option Value) = some (.int (own_b b)) := by subst h; rfl
theorem own_leafF {b : Bool} (h : b = false) : (some (.int (nar .boolean (0 : Int32))) : Option Value) = some (.int (own_b b)) := by subst h; rfl
theorem own_bt {b : Bool} (h : b = true) : (1 : Int32) = own_b b := by subst h; rfl
theorem own_bf {b : Bool} (h : b = false) : (0 : Int32) = own_b b := by subst h; rfl
theorem own_b_nar (b : Bool) : nar .boolean (own_b b) = own_b b := by cases b <;> rfl
theorem own_wS {Z : State} {a0 : Array Value} (hw : ∀ d ∈ tables_1, d.before a0 Z = true) : ∀ a ∈ Bundle.stringAtoms, a.before a0 Z = true := by
  intro d hd
  simp only [Bundle.stringAtoms, List.mem_cons, List.not_mem_nil, or_false] at hd
  rcases hd with rfl | rfl | rfl | rfl | rfl | rfl | rfl
  · exact (hw _ (List.mem_of_getElem? (i := 5) rfl))
  · exact (hw _ (List.mem_of_getElem? (i := 6) rfl))
  · exact (hw _ (List.mem_of_getElem? (i := 7) rfl))
  · exact (hw _ (List.mem_of_getElem? (i := 8) rfl))
  · exact (hw _ (List.mem_of_getElem? (i := 9) rfl))
  · exact (hw _ (List.mem_of_getElem? (i := 10) rfl))
  · exact (hw _ (List.mem_of_getElem? (i := 11) rfl))
abbrev own_EL : List (String × Nat) := consts_1
theorem own_EW {Z : State} {a0 : Array Value} (hw : ∀ d ∈ tables_1, d.before a0 Z = true) : EW Z a0 own_EL := (EW.cons (hw _ (List.mem_of_getElem? (i := 4) rfl)) (by decide) EW.nil)
theorem own_SafeArv {Z : State} {EL : List (String × Nat)} {vm : Vm} {h : Heap} {a : Addr} {k : ClassId} {ty : FieldType} {z : Int32} {vs : List Value} {dv : Value} (hal : Z.vm.Alike vm) (F : Arv Z h a k ty z vs dv) (ht : ty ≠ .byte) : Safe Z EL vm h a := by
  obtain ⟨c, A, -⟩ := F
  exact Safe.arr hal A ht
def own_imax (a b : Int32) : Int32 := if a < b then b else a
def own_imin (a b : Int32) : Int32 := if b < a then b else a
def own_ce (c : Int32) : Bool := decide (¬ c < (0 : Int32) ∧ ¬ (255 : Int32) < c)
def own_ic (c : Int32) : Int32 := if (126 : Int32) = c.toInt8.toInt32 then (0 : Int32) else if (33 : Int32) = c.toInt8.toInt32 then (1 : Int32) else if (64 : Int32) = c.toInt8.toInt32 then (2 : Int32) else if (36 : Int32) = c.toInt8.toInt32 then (3 : Int32) else if (37 : Int32) = c.toInt8.toInt32 then (4 : Int32) else if (94 : Int32) = c.toInt8.toInt32 then (5 : Int32) else if (38 : Int32) = c.toInt8.toInt32 then (6 : Int32) else if (42 : Int32) = c.toInt8.toInt32 then (7 : Int32) else if (95 : Int32) = c.toInt8.toInt32 then (8 : Int32) else if (45 : Int32) = c.toInt8.toInt32 then (9 : Int32) else if (43 : Int32) = c.toInt8.toInt32 then (10 : Int32) else if (61 : Int32) = c.toInt8.toInt32 then (11 : Int32) else if (60 : Int32) = c.toInt8.toInt32 then (12 : Int32) else if (62 : Int32) = c.toInt8.toInt32 then (13 : Int32) else if (46 : Int32) = c.toInt8.toInt32 then (14 : Int32) else if (63 : Int32) = c.toInt8.toInt32 then (15 : Int32) else if (47 : Int32) = c.toInt8.toInt32 then (16 : Int32) else (-1 : Int32)
def own_ix (c : Int32) : Int32 := if own_ce c then own_ic c else (-1 : Int32)
def own_ss (c : Int32) : Bool := decide ((¬ c < (97 : Int32) ∧ ¬ (122 : Int32) < c) ∨ (¬ c < (65 : Int32) ∧ ¬ (90 : Int32) < c) ∨ (¬ c < (48 : Int32) ∧ ¬ (57 : Int32) < c) ∨ ¬ own_ix c < (0 : Int32))
def own_exc (c : Int32) : Bool := decide (c = (34 : Int32) ∨ c = (35 : Int32) ∨ c = (39 : Int32) ∨ c = (40 : Int32) ∨ c = (41 : Int32) ∨ c = (44 : Int32) ∨ c = (58 : Int32) ∨ c = (59 : Int32) ∨ c = (91 : Int32) ∨ c = (92 : Int32) ∨ c = (93 : Int32) ∨ c = (96 : Int32) ∨ c = (123 : Int32) ∨ c = (124 : Int32) ∨ c = (125 : Int32))
def own_want (c : Int32) : Bool := decide (¬ c < (33 : Int32) ∧ ¬ (126 : Int32) < c ∧ own_exc c = false)
theorem own_in : ∀ k : Fin 256, own_ss (Int32.ofInt (k.val : Int)) = own_want (Int32.ofInt (k.val : Int)) := by decide +kernel
theorem own_plain (c : Int32) (h : 0 ≤ c.toInt) : own_ss c = own_want c := by
  by_cases h2 : c.toInt < 256
  · have hk : c.toInt.toNat < 256 := by omega
    have e := own_in ⟨c.toInt.toNat, hk⟩
    have e' : Int32.ofInt ((c.toInt.toNat : Nat) : Int) = c := by
      rw [show ((c.toInt.toNat : Nat) : Int) = c.toInt by omega]
      exact Int32.ofInt_toInt c
    dsimp only at e
    rw [e'] at e
    exact e
  · have big : ∀ k : Int32, k.toInt < 256 → k < c := fun k hk => Int32.lt_iff_toInt_lt.mpr (by omega)
    have e1 : own_ce c = false := by simp [own_ce, big (255 : Int32) (by decide)]
    have e2 : own_ix c = (-1 : Int32) := by simp [own_ix, e1]
    have e3 : ((-1 : Int32) < (0 : Int32)) = True := by decide
    simp [own_ss, own_want, e2, e3, big (122 : Int32) (by decide), big (90 : Int32) (by decide), big (57 : Int32) (by decide), big (126 : Int32) (by decide)]
theorem own_char (x : Int32) : 0 ≤ (x.toUInt32.toUInt16.toUInt32.toInt32).toInt := (c_i2c x).2.1
theorem own_d4_0 : decode jdk_42_method_154_code 0 = .ok (.getstatic 38, 3) := by decide +kernel
theorem own_d4_3 : decode jdk_42_method_154_code 3 = .ok (.ifCond .eq 14, 3) := by decide +kernel
theorem own_d4_6 : decode jdk_42_method_154_code 6 = .ok (.aload_n 0, 1) := by decide +kernel
theorem own_d4_7 : decode jdk_42_method_154_code 7 = .ok (.getfield 15, 3) := by decide +kernel
theorem own_d4_10 : decode jdk_42_method_154_code 10 = .ok (.ifCond .ne 7, 3) := by decide +kernel
theorem own_d4_13 : decode jdk_42_method_154_code 13 = .ok (.iconst 1, 1) := by decide +kernel
theorem own_d4_14 : decode jdk_42_method_154_code 14 = .ok (.goto 4, 3) := by decide +kernel
theorem own_d4_18 : decode jdk_42_method_154_code 18 = .ok (.ireturn, 1) := by decide +kernel
theorem own_ef4 (m : MethodId) (x0 : Addr) : entryFrame m #[(.ref x0)] 1 = mkF m 0 #[.val (.ref x0)] [] := by first | (simp [entryFrame, mkF, argsToLocals, Value.category]; done) | rfl
def own_Q4 (Z : State) (a : Addr) (cs : Int32) (h0 : Heap) (n0 : Nat) (v : Option Value) (h : Heap) (L : List Loc) : Prop := v = some (.int (1 : Int32)) ∧ L = [] ∧ h = h0
theorem own_pn0 : plainName "java/lang/String" = true := by first | (simp [plainName, overriddenIn]; done) | decide +kernel
set_option maxHeartbeats 40000000 in
theorem own_rm4 (l : Launch) (Z : State) (a0 : Array Value) (hw : ∀ d ∈ tables_1, d.before a0 Z = true) (ws : List Jvm.Cond) (a : Addr) (cs : Int32) (h0 : Heap) (n0 : Nat) (Z0 : n0 ≤ h0.size) (S_CS : Sta Z h0 "java/lang/String" "COMPACT_STRINGS" "Z" (.int cs)) (hcs : ¬ cs = (0 : Int32)) (F_coder : Fld Z h0 a "java/lang/String" "coder" "B" (.int (0 : Int32))) :
    MetFree l (⟨"java/lang/String", "isLatin1", "()Z"⟩ : MethodName) (head1 (Jvm.Cond.code (⟨"java/lang/String", "isLatin1", "()Z"⟩ : MethodName) jdk_42_method_154_code 1 (some .boolean) :: ws) ({ frames := 0, cells := 0, slots := 0, locals := 0 } : Room)) (fun argv U => argv = #[(.ref a)] ∧ Z.Warmed39 U.vm ∧ U.heap = h0) (fun _ _ _ _ _ => True) (fun _ U o U' => ∃ v L, o = .returned v ∧ own_Q4 Z a cs h0 n0 v U'.heap L ∧ FrameEnd U o U' L ({ frames := 0, cells := 0, slots := 0, locals := 0 } : Room).cells ({ frames := 0, cells := 0, slots := 0, locals := 0 } : Room).slots) := by
  refine MetFree.of_bodySF (plainFor_of_name own_pn0) hisR ?_
  intro p e s m args below meth c s₁ Bd hml0 hP hK
  obtain ⟨rfl, hZ, hh⟩ := hP
  have hx := Bd.exec
  have hby := Bd.bytes
  have hml : c.maxLocals = 1 := hml0
  have hown : s.vm.findClass "java/lang/String" = some m.cls := findClass_of_methodNamed Bd.named
  have hnm := (name_of_methodNamed Bd.named Bd.method).1
  have X0 : Stand p l e ({ frames := 0, cells := 0, slots := 0, locals := 0 } : Room) s m #[(.ref a)] below meth c s₁ [] 0 0 := Stand.of_body Bd
  have e0 : s₁.heap = h0 := by rw [← hh, Bd.state]; rfl
  have N0 := Fr.nil n0
  have pre0 : ∀ t, Steps p.tables e below (s₁.setTop (mkF m 0 #[.val (.ref a)] [])) t → Steps p.tables e below (s₁.setTop (entryFrame m #[(.ref a)] 1)) t := fun t k => castTop (own_ef4 m a) k
  obtain ⟨T1, X1, e1, st1⟩ := getS2 X0 hx hZ hown (host := "") (Or.inl (hw _ (List.mem_of_getElem? (i := 27) rfl))) Via.refl e0 S_CS (g := (mkF m 0 #[.val (.ref a)] [])) rfl (hb hby own_d4_0)
  have S2 : ∀ t, Steps p.tables e below (T1.setTop (mkF m 3 #[.val (.ref a)] [(.int cs)])) t → Steps p.tables e below (s₁.setTop (entryFrame m #[(.ref a)] 1)) t := fun t kt => pre0 t (st1 _ kt)
  have hc3_3 : ¬ (cs = (0 : Int32)) := hcs
  have S4 : ∀ t, Steps p.tables e below (T1.setTop (mkF m 7 #[.val (.ref a)] [(.ref a)])) t → Steps p.tables e below (s₁.setTop (entryFrame m #[(.ref a)] 1)) t := fun t kt => by
    refine S2 t ?_
    show Steps p.tables e below (T1.setTop (mkF m 3 #[.val (.ref a)] [(.int cs)])) t
    refine XS.ifNo X1.here hx rfl (hb hby own_d4_3) rfl ((if0 _ _).trans (feq hc3_3).1) ?_
    show Steps p.tables e below (T1.setTop (mkF m 6 #[.val (.ref a)] [])) t
    refine XS.aloadN X1.here hx rfl (hb hby own_d4_6) rfl rfl ?_
    exact kt
  obtain ⟨T5, X5, e5, st5⟩ := getF X1 hx hZ hown (host := "") (Or.inl (hw _ (List.mem_of_getElem? (i := 28) rfl))) Via.refl e1 F_coder (g := (mkF m 7 #[.val (.ref a)] [(.ref a)])) rfl rfl (hb hby own_d4_7)
  have S6 : ∀ t, Steps p.tables e below (T5.setTop (mkF m 10 #[.val (.ref a)] [(.int (0 : Int32))])) t → Steps p.tables e below (s₁.setTop (entryFrame m #[(.ref a)] 1)) t := fun t kt => S4 t (st5 _ kt)
  have hc10_7 : (0 : Int32) = (0 : Int32) := by decide
  have S8 : ∀ t, Steps p.tables e below (T5.setTop (mkF m 18 #[.val (.ref a)] [(.int (1 : Int32))])) t → Steps p.tables e below (s₁.setTop (entryFrame m #[(.ref a)] 1)) t := fun t kt => by
    refine S6 t ?_
    show Steps p.tables e below (T5.setTop (mkF m 10 #[.val (.ref a)] [(.int (0 : Int32))])) t
    refine XS.ifNo X5.here hx rfl (hb hby own_d4_10) rfl ((if0 _ _).trans (teq hc10_7).2) ?_
    show Steps p.tables e below (T5.setTop (mkF m 13 #[.val (.ref a)] [])) t
    refine XS.iconst X5.here hx rfl (hb hby own_d4_13) ?_
    show Steps p.tables e below (T5.setTop (mkF m 14 #[.val (.ref a)] [(.int (1 : Int32))])) t
    refine XS.goto X5.here hx rfl (pc0 := 14) (pc' := 18) rfl (hb hby own_d4_14) (by decide) (by decide) ?_
    exact kt
  obtain ⟨fs, hr, hrun, hended, hW, hsame⟩ := X5.leave (v := some (.int (nar .boolean (1 : Int32)))) (fun h => by rw [Bd.returns] at h; cases h)
  refine ⟨_, _, S8 _ ?_, hrun, hended, _, _, rfl, ?_, ⟨_, rfl⟩, hW, hsame.mono (by decide) (by decide)⟩
  · show Steps p.tables e below (T5.setTop (mkF m 18 #[.val (.ref a)] [(.int (1 : Int32))])) _
    exact retN X5 hx (t := .boolean) Bd.returns (by simp) (hb hby own_d4_18) hr
  · show own_Q4 Z a cs h0 n0 _ T5.heap _
    rw [e5]
    exact ⟨rfl, rfl, rfl⟩
theorem own_d6_0 : decode jdk_42_method_152_code 0 = .ok (.getstatic 38, 3) := by decide +kernel
theorem own_d6_3 : decode jdk_42_method_152_code 3 = .ok (.ifCond .eq 10, 3) := by decide +kernel
theorem own_d6_6 : decode jdk_42_method_152_code 6 = .ok (.aload_n 0, 1) := by decide +kernel
theorem own_d6_7 : decode jdk_42_method_152_code 7 = .ok (.getfield 15, 3) := by decide +kernel
theorem own_d6_10 : decode jdk_42_method_152_code 10 = .ok (.goto 4, 3) := by decide +kernel
theorem own_d6_14 : decode jdk_42_method_152_code 14 = .ok (.ireturn, 1) := by decide +kernel
theorem own_ef6 (m : MethodId) (x0 : Addr) : entryFrame m #[(.ref x0)] 1 = mkF m 0 #[.val (.ref x0)] [] := by first | (simp [entryFrame, mkF, argsToLocals, Value.category]; done) | rfl
def own_Q6 (Z : State) (a : Addr) (cs : Int32) (h0 : Heap) (n0 : Nat) (v : Option Value) (h : Heap) (L : List Loc) : Prop := v = some (.int (0 : Int32)) ∧ L = [] ∧ h = h0
set_option maxHeartbeats 40000000 in
theorem own_rm6 (l : Launch) (Z : State) (a0 : Array Value) (hw : ∀ d ∈ tables_1, d.before a0 Z = true) (ws : List Jvm.Cond) (a : Addr) (cs : Int32) (h0 : Heap) (n0 : Nat) (Z0 : n0 ≤ h0.size) (S_CS : Sta Z h0 "java/lang/String" "COMPACT_STRINGS" "Z" (.int cs)) (hcs : ¬ cs = (0 : Int32)) (F_coder : Fld Z h0 a "java/lang/String" "coder" "B" (.int (0 : Int32))) :
    MetFree l (⟨"java/lang/String", "coder", "()B"⟩ : MethodName) (head1 (Jvm.Cond.code (⟨"java/lang/String", "coder", "()B"⟩ : MethodName) jdk_42_method_152_code 1 (some .byte) :: ws) ({ frames := 0, cells := 0, slots := 0, locals := 0 } : Room)) (fun argv U => argv = #[(.ref a)] ∧ Z.Warmed39 U.vm ∧ U.heap = h0) (fun _ _ _ _ _ => True) (fun _ U o U' => ∃ v L, o = .returned v ∧ own_Q6 Z a cs h0 n0 v U'.heap L ∧ FrameEnd U o U' L ({ frames := 0, cells := 0, slots := 0, locals := 0 } : Room).cells ({ frames := 0, cells := 0, slots := 0, locals := 0 } : Room).slots) := by
  refine MetFree.of_bodySF (plainFor_of_name own_pn0) hisR ?_
  intro p e s m args below meth c s₁ Bd hml0 hP hK
  obtain ⟨rfl, hZ, hh⟩ := hP
  have hx := Bd.exec
  have hby := Bd.bytes
  have hml : c.maxLocals = 1 := hml0
  have hown : s.vm.findClass "java/lang/String" = some m.cls := findClass_of_methodNamed Bd.named
  have hnm := (name_of_methodNamed Bd.named Bd.method).1
  have X0 : Stand p l e ({ frames := 0, cells := 0, slots := 0, locals := 0 } : Room) s m #[(.ref a)] below meth c s₁ [] 0 0 := Stand.of_body Bd
  have e0 : s₁.heap = h0 := by rw [← hh, Bd.state]; rfl
  have N0 := Fr.nil n0
  have pre0 : ∀ t, Steps p.tables e below (s₁.setTop (mkF m 0 #[.val (.ref a)] [])) t → Steps p.tables e below (s₁.setTop (entryFrame m #[(.ref a)] 1)) t := fun t k => castTop (own_ef6 m a) k
  obtain ⟨T1, X1, e1, st1⟩ := getS2 X0 hx hZ hown (host := "") (Or.inl (hw _ (List.mem_of_getElem? (i := 27) rfl))) Via.refl e0 S_CS (g := (mkF m 0 #[.val (.ref a)] [])) rfl (hb hby own_d6_0)
  have S2 : ∀ t, Steps p.tables e below (T1.setTop (mkF m 3 #[.val (.ref a)] [(.int cs)])) t → Steps p.tables e below (s₁.setTop (entryFrame m #[(.ref a)] 1)) t := fun t kt => pre0 t (st1 _ kt)
  have hc3_3 : ¬ (cs = (0 : Int32)) := hcs
  have S4 : ∀ t, Steps p.tables e below (T1.setTop (mkF m 7 #[.val (.ref a)] [(.ref a)])) t → Steps p.tables e below (s₁.setTop (entryFrame m #[(.ref a)] 1)) t := fun t kt => by
    refine S2 t ?_
    show Steps p.tables e below (T1.setTop (mkF m 3 #[.val (.ref a)] [(.int cs)])) t
    refine XS.ifNo X1.here hx rfl (hb hby own_d6_3) rfl ((if0 _ _).trans (feq hc3_3).1) ?_
    show Steps p.tables e below (T1.setTop (mkF m 6 #[.val (.ref a)] [])) t
    refine XS.aloadN X1.here hx rfl (hb hby own_d6_6) rfl rfl ?_
    exact kt
  obtain ⟨T5, X5, e5, st5⟩ := getF X1 hx hZ hown (host := "") (Or.inl (hw _ (List.mem_of_getElem? (i := 28) rfl))) Via.refl e1 F_coder (g := (mkF m 7 #[.val (.ref a)] [(.ref a)])) rfl rfl (hb hby own_d6_7)
  have S6 : ∀ t, Steps p.tables e below (T5.setTop (mkF m 10 #[.val (.ref a)] [(.int (0 : Int32))])) t → Steps p.tables e below (s₁.setTop (entryFrame m #[(.ref a)] 1)) t := fun t kt => S4 t (st5 _ kt)
  have S7 : ∀ t, Steps p.tables e below (T5.setTop (mkF m 14 #[.val (.ref a)] [(.int (0 : Int32))])) t → Steps p.tables e below (s₁.setTop (entryFrame m #[(.ref a)] 1)) t := fun t kt => by
    refine S6 t ?_
    show Steps p.tables e below (T5.setTop (mkF m 10 #[.val (.ref a)] [(.int (0 : Int32))])) t
    refine XS.goto X5.here hx rfl (pc0 := 10) (pc' := 14) rfl (hb hby own_d6_10) (by decide) (by decide) ?_
    exact kt
  obtain ⟨fs, hr, hrun, hended, hW, hsame⟩ := X5.leave (v := some (.int (nar .byte (0 : Int32)))) (fun h => by rw [Bd.returns] at h; cases h)
  refine ⟨_, _, S7 _ ?_, hrun, hended, _, _, rfl, ?_, ⟨_, rfl⟩, hW, hsame.mono (by decide) (by decide)⟩
  · show Steps p.tables e below (T5.setTop (mkF m 14 #[.val (.ref a)] [(.int (0 : Int32))])) _
    exact retN X5 hx (t := .byte) Bd.returns (by simp) (hb hby own_d6_14) hr
  · show own_Q6 Z a cs h0 n0 _ T5.heap _
    rw [e5]
    exact ⟨rfl, rfl, rfl⟩
theorem own_pd0 : parseMethodDescriptor "()B" = some ⟨[], some .byte⟩ := by decide +kernel
theorem own_d5_0 : decode jdk_42_method_54_code 0 = .ok (.aload_n 0, 1) := by decide +kernel
theorem own_d5_1 : decode jdk_42_method_54_code 1 = .ok (.getfield 9, 3) := by decide +kernel
theorem own_d5_4 : decode jdk_42_method_54_code 4 = .ok (.arraylength, 1) := by decide +kernel
theorem own_d5_5 : decode jdk_42_method_54_code 5 = .ok (.aload_n 0, 1) := by decide +kernel
theorem own_d5_6 : decode jdk_42_method_54_code 6 = .ok (.invokevirtual 335, 3) := by decide +kernel
theorem own_d5_9 : decode jdk_42_method_54_code 9 = .ok (.ishr, 1) := by decide +kernel
theorem own_d5_10 : decode jdk_42_method_54_code 10 = .ok (.ireturn, 1) := by decide +kernel
theorem own_ef5 (m : MethodId) (x0 : Addr) : entryFrame m #[(.ref x0)] 1 = mkF m 0 #[.val (.ref x0)] [] := by first | (simp [entryFrame, mkF, argsToLocals, Value.category]; done) | rfl
def own_Q5 (Z : State) (a : Addr) (cs : Int32) (b : Addr) (kb : ClassId) (h0 : Heap) (n0 : Nat) (v : Option Value) (h : Heap) (L : List Loc) : Prop := v = some (.int (17 : Int32)) ∧ L = [] ∧ h = h0
set_option maxHeartbeats 40000000 in
theorem own_rm5 (l : Launch) (Z : State) (a0 : Array Value) (hw : ∀ d ∈ tables_1, d.before a0 Z = true) (ws : List Jvm.Cond) (a : Addr) (cs : Int32) (b : Addr) (kb : ClassId) (h0 : Heap) (n0 : Nat) (Z0 : n0 ≤ h0.size) (E_a : Exa Z h0 a "java/lang/String") (S_CS : Sta Z h0 "java/lang/String" "COMPACT_STRINGS" "Z" (.int cs)) (hcs : ¬ cs = (0 : Int32)) (F_coder : Fld Z h0 a "java/lang/String" "coder" "B" (.int (0 : Int32))) (F_value : Fld Z h0 a "java/lang/String" "value" "[B" (.ref b)) (V_b : Arv Z h0 b kb .byte (17 : Int32) [(.int (126 : Int32)), (.int (33 : Int32)), (.int (64 : Int32)), (.int (36 : Int32)), (.int (37 : Int32)), (.int (94 : Int32)), (.int (38 : Int32)), (.int (42 : Int32)), (.int (95 : Int32)), (.int (45 : Int32)), (.int (43 : Int32)), (.int (61 : Int32)), (.int (60 : Int32)), (.int (62 : Int32)), (.int (46 : Int32)), (.int (63 : Int32)), (.int (47 : Int32))] (.int (0 : Int32))) :
    MetFree l (⟨"java/lang/String", "length", "()I"⟩ : MethodName) (head1 (Jvm.Cond.code (⟨"java/lang/String", "length", "()I"⟩ : MethodName) jdk_42_method_54_code 1 (some .int) :: ws) ({ frames := 1, cells := 0, slots := 0, locals := 13 } : Room)) (fun argv U => argv = #[(.ref a)] ∧ Z.Warmed39 U.vm ∧ U.heap = h0) (fun _ _ _ _ _ => True) (fun _ U o U' => ∃ v L, o = .returned v ∧ own_Q5 Z a cs b kb h0 n0 v U'.heap L ∧ FrameEnd U o U' L ({ frames := 1, cells := 0, slots := 0, locals := 13 } : Room).cells ({ frames := 1, cells := 0, slots := 0, locals := 13 } : Room).slots) := by
  refine MetFree.of_bodySF (plainFor_of_name own_pn0) hisR ?_
  intro p e s m args below meth c s₁ Bd hml0 hP hK
  obtain ⟨rfl, hZ, hh⟩ := hP
  have hx := Bd.exec
  have hby := Bd.bytes
  have hml : c.maxLocals = 1 := hml0
  have hown : s.vm.findClass "java/lang/String" = some m.cls := findClass_of_methodNamed Bd.named
  have hnm := (name_of_methodNamed Bd.named Bd.method).1
  have X0 : Stand p l e ({ frames := 1, cells := 0, slots := 0, locals := 13 } : Room) s m #[(.ref a)] below meth c s₁ [] 0 0 := Stand.of_body Bd
  have e0 : s₁.heap = h0 := by rw [← hh, Bd.state]; rfl
  have N0 := Fr.nil n0
  have pre0 : ∀ t, Steps p.tables e below (s₁.setTop (mkF m 0 #[.val (.ref a)] [])) t → Steps p.tables e below (s₁.setTop (entryFrame m #[(.ref a)] 1)) t := fun t k => castTop (own_ef5 m a) k
  have S1 : ∀ t, Steps p.tables e below (s₁.setTop (mkF m 1 #[.val (.ref a)] [(.ref a)])) t → Steps p.tables e below (s₁.setTop (entryFrame m #[(.ref a)] 1)) t := fun t kt => by
    refine pre0 t ?_
    show Steps p.tables e below (s₁.setTop (mkF m 0 #[.val (.ref a)] [])) t
    refine XS.aloadN X0.here hx rfl (hb hby own_d5_0) rfl rfl ?_
    exact kt
  obtain ⟨T2, X2, e2, st2⟩ := getF X0 hx hZ hown (host := "") (Or.inl (hw _ (List.mem_of_getElem? (i := 29) rfl))) Via.refl e0 F_value (g := (mkF m 1 #[.val (.ref a)] [(.ref a)])) rfl rfl (hb hby own_d5_1)
  have S3 : ∀ t, Steps p.tables e below (T2.setTop (mkF m 4 #[.val (.ref a)] [(.ref b)])) t → Steps p.tables e below (s₁.setTop (entryFrame m #[(.ref a)] 1)) t := fun t kt => S1 t (st2 _ kt)
  obtain ⟨cl4, Ar4, -, Sz4, Nn4, -, -⟩ := id V_b
  have S6 : ∀ t, Steps p.tables e below (T2.setTop (mkF m 6 #[.val (.ref a)] [(.ref a), (.int (17 : Int32))])) t → Steps p.tables e below (s₁.setTop (entryFrame m #[(.ref a)] 1)) t := fun t kt => by
    refine S3 t ?_
    show Steps p.tables e below (T2.setTop (mkF m 4 #[.val (.ref a)] [(.ref b)])) t
    refine X2.arraylength hx (by rw [e2]; exact Ar4.1) (State.isArrayOf_alike hZ.alike Ar4.2.1) (g := (mkF m 4 #[.val (.ref a)] [(.ref b)])) rfl rfl (hb hby own_d5_4) _ ?_
    rw [len_of Sz4 Nn4]
    show Steps p.tables e below (T2.setTop (mkF m 5 #[.val (.ref a)] [(.int (17 : Int32))])) t
    refine XS.aloadN X2.here hx rfl (hb hby own_d5_5) rfl rfl ?_
    exact kt
  obtain ⟨cq7, kq7, q7a, q7b, q7c⟩ := isOf hZ e2 E_a
  obtain ⟨_, _, ⟨T7, L7, k7, n7⟩, -, X7, ⟨Lc7, hQ7, l7, y7, z7⟩, st7⟩ := X2.virtualBack hx (y := (⟨"java/lang/String", "coder", "()B"⟩ : MethodName)) (z := (⟨"java/lang/String", "coder", "()B"⟩ : MethodName)) hown (mvT hZ (hw _ (List.mem_of_getElem? (i := 35) rfl))) (mvT hZ (hw _ (List.mem_of_getElem? (i := 36) rfl))) (notFace_of_selects (args := #[]) (mvT hZ (hw _ (List.mem_of_getElem? (i := 38) rfl)))) (mvT hZ (hw _ (List.mem_of_getElem? (i := 38) rfl))) (mvT hZ (hw _ (List.mem_of_getElem? (i := 37) rfl))) (by decide) (backOf (W := 1) (own_rm6 l Z a0 hw [] (a) (cs) h0 n0 Z0 S_CS hcs F_coder) hZ (hw _ (List.mem_of_getElem? (i := 39) rfl)) (hw _ (List.mem_of_getElem? (i := 5) rfl)) (by decide) (by decide)) q7a q7c (g := (mkF m 6 #[.val (.ref a)] [(.ref a), (.int (17 : Int32))])) rfl (by rw [hml]; rfl) (Steps.refl _) (argsL := []) (rest := [(.int (17 : Int32))]) (lenOf own_pd0 rfl) rfl (by show 2 * 0 + _ ≤ _; exact Nat.le_of_eq rfl) (hb hby own_d5_6) (fun _ _ => ⟨rfl, e2, (by decide : 0 + 0 ≤ _), (by decide : 0 + 0 ≤ _)⟩)
  dsimp only [Pt.U, Pt.locs, Pt.cells, Pt.slots] at X7 l7 y7 z7 st7 hQ7
  subst l7 y7 z7
  obtain ⟨rfl, rfl, eq5⟩ := hQ7
  try rw [List.append_nil] at X7
  have S8 : ∀ t, Steps p.tables e below (T7.setTop (mkF m 9 #[.val (.ref a)] [(.int (0 : Int32)), (.int (17 : Int32))])) t → Steps p.tables e below (s₁.setTop (entryFrame m #[(.ref a)] 1)) t := fun t kt => S6 t (st7.trans kt)
  have S9 : ∀ t, Steps p.tables e below (T7.setTop (mkF m 10 #[.val (.ref a)] [(.int ((17 : Int32) >>> ((0 : Int32) &&& 31)))])) t → Steps p.tables e below (s₁.setTop (entryFrame m #[(.ref a)] 1)) t := fun t kt => by
    refine S8 t ?_
    show Steps p.tables e below (T7.setTop (mkF m 9 #[.val (.ref a)] [(.int (0 : Int32)), (.int (17 : Int32))])) t
    refine XS.ishr X7.here hx rfl (hb hby own_d5_9) rfl ?_
    exact kt
  obtain ⟨fs, hr, hrun, hended, hW, hsame⟩ := X7.leave (v := some (.int ((17 : Int32) >>> ((0 : Int32) &&& 31)))) (fun h => by rw [Bd.returns] at h; cases h)
  refine ⟨_, _, S9 _ ?_, hrun, hended, _, _, rfl, ?_, ⟨_, rfl⟩, hW, hsame.mono (by decide) (by decide)⟩
  · show Steps p.tables e below (T7.setTop (mkF m 10 #[.val (.ref a)] [(.int ((17 : Int32) >>> ((0 : Int32) &&& 31)))])) _
    exact own_retI X7 hx Bd.returns (hb hby own_d5_10) hr
  · show own_Q5 Z a cs b kb h0 n0 _ T7.heap _
    rw [eq5]
    exact ⟨rfl, rfl, rfl⟩
theorem own_d9_0 : decode jdk_29_method_65_code 0 = .ok (.iload_n 0, 1) := by decide +kernel
theorem own_d9_1 : decode jdk_29_method_65_code 1 = .ok (.iload_n 1, 1) := by decide +kernel
theorem own_d9_2 : decode jdk_29_method_65_code 2 = .ok (.if_icmp .lt 7, 3) := by decide +kernel
theorem own_d9_5 : decode jdk_29_method_65_code 5 = .ok (.iload_n 0, 1) := by decide +kernel
theorem own_d9_6 : decode jdk_29_method_65_code 6 = .ok (.goto 4, 3) := by decide +kernel
theorem own_d9_9 : decode jdk_29_method_65_code 9 = .ok (.iload_n 1, 1) := by decide +kernel
theorem own_d9_10 : decode jdk_29_method_65_code 10 = .ok (.ireturn, 1) := by decide +kernel
theorem own_ef9 (m : MethodId) (x0 : Int32) (x1 : Int32) : entryFrame m #[(.int x0), (.int x1)] 2 = mkF m 0 #[.val (.int x0), .val (.int x1)] [] := by first | (simp [entryFrame, mkF, argsToLocals, Value.category]; done) | rfl
def own_Q9 (Z : State) (u1 : Int32) (u2 : Int32) (h0 : Heap) (n0 : Nat) (v : Option Value) (h : Heap) (L : List Loc) : Prop := v = some (.int (own_imax u1 u2)) ∧ L = [] ∧ h = h0
set_option maxHeartbeats 40000000 in
theorem own_rm9 (l : Launch) (Z : State) (a0 : Array Value) (hw : ∀ d ∈ tables_1, d.before a0 Z = true) (ws : List Jvm.Cond) (u1 : Int32) (u2 : Int32) (h0 : Heap) (n0 : Nat) (Z0 : n0 ≤ h0.size) :
    MetFree l (⟨"java/lang/Math", "max", "(II)I"⟩ : MethodName) (head1 (Jvm.Cond.code (⟨"java/lang/Math", "max", "(II)I"⟩ : MethodName) jdk_29_method_65_code 2 (some .int) :: ws) ({ frames := 0, cells := 0, slots := 0, locals := 0 } : Room)) (fun argv U => argv = #[(.int u1), (.int u2)] ∧ Z.Warmed39 U.vm ∧ U.heap = h0) (fun _ _ _ _ _ => True) (fun _ U o U' => ∃ v L, o = .returned v ∧ own_Q9 Z u1 u2 h0 n0 v U'.heap L ∧ FrameEnd U o U' L ({ frames := 0, cells := 0, slots := 0, locals := 0 } : Room).cells ({ frames := 0, cells := 0, slots := 0, locals := 0 } : Room).slots) := by
  refine MetFree.of_bodySF (Jvm.Free.JP.mathPlain rfl (by decide +kernel)) hisR ?_
  intro p e s m args below meth c s₁ Bd hml0 hP hK
  obtain ⟨rfl, hZ, hh⟩ := hP
  have hx := Bd.exec
  have hby := Bd.bytes
  have hml : c.maxLocals = 2 := hml0
  have hown : s.vm.findClass "java/lang/Math" = some m.cls := findClass_of_methodNamed Bd.named
  have hnm := (name_of_methodNamed Bd.named Bd.method).1
  have X0 : Stand p l e ({ frames := 0, cells := 0, slots := 0, locals := 0 } : Room) s m #[(.int u1), (.int u2)] below meth c s₁ [] 0 0 := Stand.of_body Bd
  have e0 : s₁.heap = h0 := by rw [← hh, Bd.state]; rfl
  have N0 := Fr.nil n0
  have pre0 : ∀ t, Steps p.tables e below (s₁.setTop (mkF m 0 #[.val (.int u1), .val (.int u2)] [])) t → Steps p.tables e below (s₁.setTop (entryFrame m #[(.int u1), (.int u2)] 2)) t := fun t k => castTop (own_ef9 m u1 u2) k
  have S1 : ∀ t, Steps p.tables e below (s₁.setTop (mkF m 2 #[.val (.int u1), .val (.int u2)] [(.int u2), (.int u1)])) t → Steps p.tables e below (s₁.setTop (entryFrame m #[(.int u1), (.int u2)] 2)) t := fun t kt => by
    refine pre0 t ?_
    show Steps p.tables e below (s₁.setTop (mkF m 0 #[.val (.int u1), .val (.int u2)] [])) t
    refine XS.iloadN X0.here hx rfl (hb hby own_d9_0) rfl ?_
    show Steps p.tables e below (s₁.setTop (mkF m 1 #[.val (.int u1), .val (.int u2)] [(.int u1)])) t
    refine XS.iloadN X0.here hx rfl (hb hby own_d9_1) rfl ?_
    exact kt
  by_cases hc2 : u1 < u2
  · skip
    have S2 : ∀ t, Steps p.tables e below (s₁.setTop (mkF m 10 #[.val (.int u1), .val (.int u2)] [(.int u2)])) t → Steps p.tables e below (s₁.setTop (entryFrame m #[(.int u1), (.int u2)] 2)) t := fun t kt => by
      refine S1 t ?_
      show Steps p.tables e below (s₁.setTop (mkF m 2 #[.val (.int u1), .val (.int u2)] [(.int u2), (.int u1)])) t
      refine XS.icmpYes X0.here hx rfl (pc0 := 2) (pc' := 9) rfl (hb hby own_d9_2) rfl (tlt hc2).1 (by decide) (by decide) ?_
      show Steps p.tables e below (s₁.setTop (mkF m 9 #[.val (.int u1), .val (.int u2)] [])) t
      refine XS.iloadN X0.here hx rfl (hb hby own_d9_9) rfl ?_
      exact kt
    obtain ⟨fs, hr, hrun, hended, hW, hsame⟩ := X0.leave (v := some (.int u2)) (fun h => by rw [Bd.returns] at h; cases h)
    refine ⟨_, _, S2 _ ?_, hrun, hended, _, _, rfl, ?_, ⟨_, rfl⟩, hW, hsame.mono (by decide) (by decide)⟩
    · show Steps p.tables e below (s₁.setTop (mkF m 10 #[.val (.int u1), .val (.int u2)] [(.int u2)])) _
      exact own_retI X0 hx Bd.returns (hb hby own_d9_10) hr
    · show own_Q9 Z u1 u2 h0 n0 _ s₁.heap _
      rw [e0]
      exact ⟨by simp [own_imax, *], rfl, rfl⟩
  · skip
    have S3 : ∀ t, Steps p.tables e below (s₁.setTop (mkF m 10 #[.val (.int u1), .val (.int u2)] [(.int u1)])) t → Steps p.tables e below (s₁.setTop (entryFrame m #[(.int u1), (.int u2)] 2)) t := fun t kt => by
      refine S1 t ?_
      show Steps p.tables e below (s₁.setTop (mkF m 2 #[.val (.int u1), .val (.int u2)] [(.int u2), (.int u1)])) t
      refine XS.icmpNo X0.here hx rfl (hb hby own_d9_2) rfl (flt hc2).1 ?_
      show Steps p.tables e below (s₁.setTop (mkF m 5 #[.val (.int u1), .val (.int u2)] [])) t
      refine XS.iloadN X0.here hx rfl (hb hby own_d9_5) rfl ?_
      show Steps p.tables e below (s₁.setTop (mkF m 6 #[.val (.int u1), .val (.int u2)] [(.int u1)])) t
      refine XS.goto X0.here hx rfl (pc0 := 6) (pc' := 10) rfl (hb hby own_d9_6) (by decide) (by decide) ?_
      exact kt
    obtain ⟨fs, hr, hrun, hended, hW, hsame⟩ := X0.leave (v := some (.int u1)) (fun h => by rw [Bd.returns] at h; cases h)
    refine ⟨_, _, S3 _ ?_, hrun, hended, _, _, rfl, ?_, ⟨_, rfl⟩, hW, hsame.mono (by decide) (by decide)⟩
    · show Steps p.tables e below (s₁.setTop (mkF m 10 #[.val (.int u1), .val (.int u2)] [(.int u1)])) _
      exact own_retI X0 hx Bd.returns (hb hby own_d9_10) hr
    · show own_Q9 Z u1 u2 h0 n0 _ s₁.heap _
      rw [e0]
      exact ⟨by simp [own_imax, *], rfl, rfl⟩
theorem own_d10_0 : decode jdk_29_method_69_code 0 = .ok (.iload_n 0, 1) := by decide +kernel
theorem own_d10_1 : decode jdk_29_method_69_code 1 = .ok (.iload_n 1, 1) := by decide +kernel
theorem own_d10_2 : decode jdk_29_method_69_code 2 = .ok (.if_icmp .gt 7, 3) := by decide +kernel
theorem own_d10_5 : decode jdk_29_method_69_code 5 = .ok (.iload_n 0, 1) := by decide +kernel
theorem own_d10_6 : decode jdk_29_method_69_code 6 = .ok (.goto 4, 3) := by decide +kernel
theorem own_d10_9 : decode jdk_29_method_69_code 9 = .ok (.iload_n 1, 1) := by decide +kernel
theorem own_d10_10 : decode jdk_29_method_69_code 10 = .ok (.ireturn, 1) := by decide +kernel
theorem own_ef10 (m : MethodId) (x0 : Int32) (x1 : Int32) : entryFrame m #[(.int x0), (.int x1)] 2 = mkF m 0 #[.val (.int x0), .val (.int x1)] [] := by first | (simp [entryFrame, mkF, argsToLocals, Value.category]; done) | rfl
def own_Q10 (Z : State) (u1 : Int32) (u2 : Int32) (h0 : Heap) (n0 : Nat) (v : Option Value) (h : Heap) (L : List Loc) : Prop := v = some (.int (own_imin u1 u2)) ∧ L = [] ∧ h = h0
set_option maxHeartbeats 40000000 in
theorem own_rm10 (l : Launch) (Z : State) (a0 : Array Value) (hw : ∀ d ∈ tables_1, d.before a0 Z = true) (ws : List Jvm.Cond) (u1 : Int32) (u2 : Int32) (h0 : Heap) (n0 : Nat) (Z0 : n0 ≤ h0.size) :
    MetFree l (⟨"java/lang/Math", "min", "(II)I"⟩ : MethodName) (head1 (Jvm.Cond.code (⟨"java/lang/Math", "min", "(II)I"⟩ : MethodName) jdk_29_method_69_code 2 (some .int) :: ws) ({ frames := 0, cells := 0, slots := 0, locals := 0 } : Room)) (fun argv U => argv = #[(.int u1), (.int u2)] ∧ Z.Warmed39 U.vm ∧ U.heap = h0) (fun _ _ _ _ _ => True) (fun _ U o U' => ∃ v L, o = .returned v ∧ own_Q10 Z u1 u2 h0 n0 v U'.heap L ∧ FrameEnd U o U' L ({ frames := 0, cells := 0, slots := 0, locals := 0 } : Room).cells ({ frames := 0, cells := 0, slots := 0, locals := 0 } : Room).slots) := by
  refine MetFree.of_bodySF (Jvm.Free.JP.mathPlain rfl (by decide +kernel)) hisR ?_
  intro p e s m args below meth c s₁ Bd hml0 hP hK
  obtain ⟨rfl, hZ, hh⟩ := hP
  have hx := Bd.exec
  have hby := Bd.bytes
  have hml : c.maxLocals = 2 := hml0
  have hown : s.vm.findClass "java/lang/Math" = some m.cls := findClass_of_methodNamed Bd.named
  have hnm := (name_of_methodNamed Bd.named Bd.method).1
  have X0 : Stand p l e ({ frames := 0, cells := 0, slots := 0, locals := 0 } : Room) s m #[(.int u1), (.int u2)] below meth c s₁ [] 0 0 := Stand.of_body Bd
  have e0 : s₁.heap = h0 := by rw [← hh, Bd.state]; rfl
  have N0 := Fr.nil n0
  have pre0 : ∀ t, Steps p.tables e below (s₁.setTop (mkF m 0 #[.val (.int u1), .val (.int u2)] [])) t → Steps p.tables e below (s₁.setTop (entryFrame m #[(.int u1), (.int u2)] 2)) t := fun t k => castTop (own_ef10 m u1 u2) k
  have S1 : ∀ t, Steps p.tables e below (s₁.setTop (mkF m 2 #[.val (.int u1), .val (.int u2)] [(.int u2), (.int u1)])) t → Steps p.tables e below (s₁.setTop (entryFrame m #[(.int u1), (.int u2)] 2)) t := fun t kt => by
    refine pre0 t ?_
    show Steps p.tables e below (s₁.setTop (mkF m 0 #[.val (.int u1), .val (.int u2)] [])) t
    refine XS.iloadN X0.here hx rfl (hb hby own_d10_0) rfl ?_
    show Steps p.tables e below (s₁.setTop (mkF m 1 #[.val (.int u1), .val (.int u2)] [(.int u1)])) t
    refine XS.iloadN X0.here hx rfl (hb hby own_d10_1) rfl ?_
    exact kt
  by_cases hc2 : u2 < u1
  · skip
    have S2 : ∀ t, Steps p.tables e below (s₁.setTop (mkF m 10 #[.val (.int u1), .val (.int u2)] [(.int u2)])) t → Steps p.tables e below (s₁.setTop (entryFrame m #[(.int u1), (.int u2)] 2)) t := fun t kt => by
      refine S1 t ?_
      show Steps p.tables e below (s₁.setTop (mkF m 2 #[.val (.int u1), .val (.int u2)] [(.int u2), (.int u1)])) t
      refine XS.icmpYes X0.here hx rfl (pc0 := 2) (pc' := 9) rfl (hb hby own_d10_2) rfl (tlt hc2).2.2.1 (by decide) (by decide) ?_
      show Steps p.tables e below (s₁.setTop (mkF m 9 #[.val (.int u1), .val (.int u2)] [])) t
      refine XS.iloadN X0.here hx rfl (hb hby own_d10_9) rfl ?_
      exact kt
    obtain ⟨fs, hr, hrun, hended, hW, hsame⟩ := X0.leave (v := some (.int u2)) (fun h => by rw [Bd.returns] at h; cases h)
    refine ⟨_, _, S2 _ ?_, hrun, hended, _, _, rfl, ?_, ⟨_, rfl⟩, hW, hsame.mono (by decide) (by decide)⟩
    · show Steps p.tables e below (s₁.setTop (mkF m 10 #[.val (.int u1), .val (.int u2)] [(.int u2)])) _
      exact own_retI X0 hx Bd.returns (hb hby own_d10_10) hr
    · show own_Q10 Z u1 u2 h0 n0 _ s₁.heap _
      rw [e0]
      exact ⟨by simp [own_imin, *], rfl, rfl⟩
  · skip
    have S3 : ∀ t, Steps p.tables e below (s₁.setTop (mkF m 10 #[.val (.int u1), .val (.int u2)] [(.int u1)])) t → Steps p.tables e below (s₁.setTop (entryFrame m #[(.int u1), (.int u2)] 2)) t := fun t kt => by
      refine S1 t ?_
      show Steps p.tables e below (s₁.setTop (mkF m 2 #[.val (.int u1), .val (.int u2)] [(.int u2), (.int u1)])) t
      refine XS.icmpNo X0.here hx rfl (hb hby own_d10_2) rfl (flt hc2).2.2.1 ?_
      show Steps p.tables e below (s₁.setTop (mkF m 5 #[.val (.int u1), .val (.int u2)] [])) t
      refine XS.iloadN X0.here hx rfl (hb hby own_d10_5) rfl ?_
      show Steps p.tables e below (s₁.setTop (mkF m 6 #[.val (.int u1), .val (.int u2)] [(.int u1)])) t
      refine XS.goto X0.here hx rfl (pc0 := 6) (pc' := 10) rfl (hb hby own_d10_6) (by decide) (by decide) ?_
      exact kt
    obtain ⟨fs, hr, hrun, hended, hW, hsame⟩ := X0.leave (v := some (.int u1)) (fun h => by rw [Bd.returns] at h; cases h)
    refine ⟨_, _, S3 _ ?_, hrun, hended, _, _, rfl, ?_, ⟨_, rfl⟩, hW, hsame.mono (by decide) (by decide)⟩
    · show Steps p.tables e below (s₁.setTop (mkF m 10 #[.val (.int u1), .val (.int u2)] [(.int u1)])) _
      exact own_retI X0 hx Bd.returns (hb hby own_d10_10) hr
    · show own_Q10 Z u1 u2 h0 n0 _ s₁.heap _
      rw [e0]
      exact ⟨by simp [own_imin, *], rfl, rfl⟩
theorem own_d8_0 : decode jdk_43_method_4_code 0 = .ok (.iload_n 0, 1) := by decide +kernel
theorem own_d8_1 : decode jdk_43_method_4_code 1 = .ok (.ifCond .lt 14, 3) := by decide +kernel
theorem own_d8_4 : decode jdk_43_method_4_code 4 = .ok (.iload_n 0, 1) := by decide +kernel
theorem own_d8_5 : decode jdk_43_method_4_code 5 = .ok (.sipush 255, 3) := by decide +kernel
theorem own_d8_8 : decode jdk_43_method_4_code 8 = .ok (.if_icmp .gt 7, 3) := by decide +kernel
theorem own_d8_11 : decode jdk_43_method_4_code 11 = .ok (.iconst 1, 1) := by decide +kernel
theorem own_d8_12 : decode jdk_43_method_4_code 12 = .ok (.goto 4, 3) := by decide +kernel
theorem own_d8_15 : decode jdk_43_method_4_code 15 = .ok (.iconst 0, 1) := by decide +kernel
theorem own_d8_16 : decode jdk_43_method_4_code 16 = .ok (.ireturn, 1) := by decide +kernel
theorem own_ef8 (m : MethodId) (x0 : Int32) : entryFrame m #[(.int x0)] 1 = mkF m 0 #[.val (.int x0)] [] := by first | (simp [entryFrame, mkF, argsToLocals, Value.category]; done) | rfl
def own_Q8 (Z : State) (ch : Int32) (h0 : Heap) (n0 : Nat) (v : Option Value) (h : Heap) (L : List Loc) : Prop := v = some (.int (own_b (own_ce ch))) ∧ L = [] ∧ h = h0
theorem own_pn1 : plainName "java/lang/StringLatin1" = true := by first | (simp [plainName, overriddenIn]; done) | decide +kernel
set_option maxHeartbeats 40000000 in
theorem own_rm8 (l : Launch) (Z : State) (a0 : Array Value) (hw : ∀ d ∈ tables_1, d.before a0 Z = true) (ws : List Jvm.Cond) (ch : Int32) (h0 : Heap) (n0 : Nat) (Z0 : n0 ≤ h0.size) :
    MetFree l (⟨"java/lang/StringLatin1", "canEncode", "(I)Z"⟩ : MethodName) (head1 (Jvm.Cond.code (⟨"java/lang/StringLatin1", "canEncode", "(I)Z"⟩ : MethodName) jdk_43_method_4_code 1 (some .boolean) :: ws) ({ frames := 0, cells := 0, slots := 0, locals := 0 } : Room)) (fun argv U => argv = #[(.int ch)] ∧ Z.Warmed39 U.vm ∧ U.heap = h0) (fun _ _ _ _ _ => True) (fun _ U o U' => ∃ v L, o = .returned v ∧ own_Q8 Z ch h0 n0 v U'.heap L ∧ FrameEnd U o U' L ({ frames := 0, cells := 0, slots := 0, locals := 0 } : Room).cells ({ frames := 0, cells := 0, slots := 0, locals := 0 } : Room).slots) := by
  refine MetFree.of_bodySF (plainFor_of_name own_pn1) hisR ?_
  intro p e s m args below meth c s₁ Bd hml0 hP hK
  obtain ⟨rfl, hZ, hh⟩ := hP
  have hx := Bd.exec
  have hby := Bd.bytes
  have hml : c.maxLocals = 1 := hml0
  have hown : s.vm.findClass "java/lang/StringLatin1" = some m.cls := findClass_of_methodNamed Bd.named
  have hnm := (name_of_methodNamed Bd.named Bd.method).1
  have X0 : Stand p l e ({ frames := 0, cells := 0, slots := 0, locals := 0 } : Room) s m #[(.int ch)] below meth c s₁ [] 0 0 := Stand.of_body Bd
  have e0 : s₁.heap = h0 := by rw [← hh, Bd.state]; rfl
  have N0 := Fr.nil n0
  have pre0 : ∀ t, Steps p.tables e below (s₁.setTop (mkF m 0 #[.val (.int ch)] [])) t → Steps p.tables e below (s₁.setTop (entryFrame m #[(.int ch)] 1)) t := fun t k => castTop (own_ef8 m ch) k
  have S1 : ∀ t, Steps p.tables e below (s₁.setTop (mkF m 1 #[.val (.int ch)] [(.int ch)])) t → Steps p.tables e below (s₁.setTop (entryFrame m #[(.int ch)] 1)) t := fun t kt => by
    refine pre0 t ?_
    show Steps p.tables e below (s₁.setTop (mkF m 0 #[.val (.int ch)] [])) t
    refine XS.iloadN X0.here hx rfl (hb hby own_d8_0) rfl ?_
    exact kt
  by_cases hc1 : ch < (0 : Int32)
  · skip
    have S2 : ∀ t, Steps p.tables e below (s₁.setTop (mkF m 16 #[.val (.int ch)] [(.int (0 : Int32))])) t → Steps p.tables e below (s₁.setTop (entryFrame m #[(.int ch)] 1)) t := fun t kt => by
      refine S1 t ?_
      show Steps p.tables e below (s₁.setTop (mkF m 1 #[.val (.int ch)] [(.int ch)])) t
      refine XS.ifYes X0.here hx rfl (pc0 := 1) (pc' := 15) rfl (hb hby own_d8_1) rfl ((if0 _ _).trans (tlt hc1).1) (by decide) (by decide) ?_
      show Steps p.tables e below (s₁.setTop (mkF m 15 #[.val (.int ch)] [])) t
      refine XS.iconst X0.here hx rfl (hb hby own_d8_15) ?_
      exact kt
    obtain ⟨fs, hr, hrun, hended, hW, hsame⟩ := X0.leave (v := some (.int (nar .boolean (0 : Int32)))) (fun h => by rw [Bd.returns] at h; cases h)
    refine ⟨_, _, S2 _ ?_, hrun, hended, _, _, rfl, ?_, ⟨_, rfl⟩, hW, hsame.mono (by decide) (by decide)⟩
    · show Steps p.tables e below (s₁.setTop (mkF m 16 #[.val (.int ch)] [(.int (0 : Int32))])) _
      exact retN X0 hx (t := .boolean) Bd.returns (by simp) (hb hby own_d8_16) hr
    · show own_Q8 Z ch h0 n0 _ s₁.heap _
      rw [e0]
      exact ⟨own_leafF (by simp only [own_ce, decide_true, decide_false, not_true_eq_false, not_false_eq_true, and_true, true_and, and_false, false_and, and_self, or_true, true_or, or_false, false_or, or_self, if_true, if_false, Bool.not_true, Bool.not_false, Bool.and_true, Bool.true_and, Bool.and_false, Bool.false_and, *]), rfl, rfl⟩
  · skip
    have S3 : ∀ t, Steps p.tables e below (s₁.setTop (mkF m 8 #[.val (.int ch)] [(.int (255 : Int32)), (.int ch)])) t → Steps p.tables e below (s₁.setTop (entryFrame m #[(.int ch)] 1)) t := fun t kt => by
      refine S1 t ?_
      show Steps p.tables e below (s₁.setTop (mkF m 1 #[.val (.int ch)] [(.int ch)])) t
      refine XS.ifNo X0.here hx rfl (hb hby own_d8_1) rfl ((if0 _ _).trans (flt hc1).1) ?_
      show Steps p.tables e below (s₁.setTop (mkF m 4 #[.val (.int ch)] [])) t
      refine XS.iloadN X0.here hx rfl (hb hby own_d8_4) rfl ?_
      show Steps p.tables e below (s₁.setTop (mkF m 5 #[.val (.int ch)] [(.int ch)])) t
      refine XS.sipush X0.here hx rfl (hb hby own_d8_5) ?_
      exact kt
    by_cases hc8 : (255 : Int32) < ch
    · skip
      have S4 : ∀ t, Steps p.tables e below (s₁.setTop (mkF m 16 #[.val (.int ch)] [(.int (0 : Int32))])) t → Steps p.tables e below (s₁.setTop (entryFrame m #[(.int ch)] 1)) t := fun t kt => by
        refine S3 t ?_
        show Steps p.tables e below (s₁.setTop (mkF m 8 #[.val (.int ch)] [(.int (255 : Int32)), (.int ch)])) t
        refine XS.icmpYes X0.here hx rfl (pc0 := 8) (pc' := 15) rfl (hb hby own_d8_8) rfl (tlt hc8).2.2.1 (by decide) (by decide) ?_
        show Steps p.tables e below (s₁.setTop (mkF m 15 #[.val (.int ch)] [])) t
        refine XS.iconst X0.here hx rfl (hb hby own_d8_15) ?_
        exact kt
      obtain ⟨fs, hr, hrun, hended, hW, hsame⟩ := X0.leave (v := some (.int (nar .boolean (0 : Int32)))) (fun h => by rw [Bd.returns] at h; cases h)
      refine ⟨_, _, S4 _ ?_, hrun, hended, _, _, rfl, ?_, ⟨_, rfl⟩, hW, hsame.mono (by decide) (by decide)⟩
      · show Steps p.tables e below (s₁.setTop (mkF m 16 #[.val (.int ch)] [(.int (0 : Int32))])) _
        exact retN X0 hx (t := .boolean) Bd.returns (by simp) (hb hby own_d8_16) hr
      · show own_Q8 Z ch h0 n0 _ s₁.heap _
        rw [e0]
        exact ⟨own_leafF (by simp only [own_ce, decide_true, decide_false, not_true_eq_false, not_false_eq_true, and_true, true_and, and_false, false_and, and_self, or_true, true_or, or_false, false_or, or_self, if_true, if_false, Bool.not_true, Bool.not_false, Bool.and_true, Bool.true_and, Bool.and_false, Bool.false_and, *]), rfl, rfl⟩
    · skip
      have S5 : ∀ t, Steps p.tables e below (s₁.setTop (mkF m 16 #[.val (.int ch)] [(.int (1 : Int32))])) t → Steps p.tables e below (s₁.setTop (entryFrame m #[(.int ch)] 1)) t := fun t kt => by
        refine S3 t ?_
        show Steps p.tables e below (s₁.setTop (mkF m 8 #[.val (.int ch)] [(.int (255 : Int32)), (.int ch)])) t
        refine XS.icmpNo X0.here hx rfl (hb hby own_d8_8) rfl (flt hc8).2.2.1 ?_
        show Steps p.tables e below (s₁.setTop (mkF m 11 #[.val (.int ch)] [])) t
        refine XS.iconst X0.here hx rfl (hb hby own_d8_11) ?_
        show Steps p.tables e below (s₁.setTop (mkF m 12 #[.val (.int ch)] [(.int (1 : Int32))])) t
        refine XS.goto X0.here hx rfl (pc0 := 12) (pc' := 16) rfl (hb hby own_d8_12) (by decide) (by decide) ?_
        exact kt
      obtain ⟨fs, hr, hrun, hended, hW, hsame⟩ := X0.leave (v := some (.int (nar .boolean (1 : Int32)))) (fun h => by rw [Bd.returns] at h; cases h)
      refine ⟨_, _, S5 _ ?_, hrun, hended, _, _, rfl, ?_, ⟨_, rfl⟩, hW, hsame.mono (by decide) (by decide)⟩
      · show Steps p.tables e below (s₁.setTop (mkF m 16 #[.val (.int ch)] [(.int (1 : Int32))])) _
        exact retN X0 hx (t := .boolean) Bd.returns (by simp) (hb hby own_d8_16) hr
      · show own_Q8 Z ch h0 n0 _ s₁.heap _
        rw [e0]
        exact ⟨own_leafT (by simp only [own_ce, decide_true, decide_false, not_true_eq_false, not_false_eq_true, and_true, true_and, and_false, false_and, and_self, or_true, true_or, or_false, false_or, or_self, if_true, if_false, Bool.not_true, Bool.not_false, Bool.and_true, Bool.true_and, Bool.and_false, Bool.false_and, *]), rfl, rfl⟩
theorem own_d11_0 : decode jdk_43_method_23_code 0 = .ok (.iload_n 1, 1) := by decide +kernel
theorem own_d11_1 : decode jdk_43_method_23_code 1 = .ok (.i2b, 1) := by decide +kernel
theorem own_d11_2 : decode jdk_43_method_23_code 2 = .ok (.istore 4, 2) := by decide +kernel
theorem own_d11_4 : decode jdk_43_method_23_code 4 = .ok (.iload_n 2, 1) := by decide +kernel
theorem own_d11_5 : decode jdk_43_method_23_code 5 = .ok (.istore 5, 2) := by decide +kernel
theorem own_d11_7 : decode jdk_43_method_23_code 7 = .ok (.iload 5, 2) := by decide +kernel
theorem own_d11_9 : decode jdk_43_method_23_code 9 = .ok (.iload_n 3, 1) := by decide +kernel
theorem own_d11_10 : decode jdk_43_method_23_code 10 = .ok (.if_icmp .ge 21, 3) := by decide +kernel
theorem own_d11_13 : decode jdk_43_method_23_code 13 = .ok (.aload_n 0, 1) := by decide +kernel
theorem own_d11_14 : decode jdk_43_method_23_code 14 = .ok (.iload 5, 2) := by decide +kernel
theorem own_d11_16 : decode jdk_43_method_23_code 16 = .ok (.baload, 1) := by decide +kernel
theorem own_d11_17 : decode jdk_43_method_23_code 17 = .ok (.iload 4, 2) := by decide +kernel
theorem own_d11_19 : decode jdk_43_method_23_code 19 = .ok (.if_icmp .ne 6, 3) := by decide +kernel
theorem own_d11_22 : decode jdk_43_method_23_code 22 = .ok (.iload 5, 2) := by decide +kernel
theorem own_d11_24 : decode jdk_43_method_23_code 24 = .ok (.ireturn, 1) := by decide +kernel
theorem own_d11_25 : decode jdk_43_method_23_code 25 = .ok (.iinc 5 1, 3) := by decide +kernel
theorem own_d11_28 : decode jdk_43_method_23_code 28 = .ok (.goto (-21), 3) := by decide +kernel
theorem own_d11_31 : decode jdk_43_method_23_code 31 = .ok (.iconst (-1), 1) := by decide +kernel
theorem own_d11_32 : decode jdk_43_method_23_code 32 = .ok (.ireturn, 1) := by decide +kernel
theorem own_ef11 (m : MethodId) (x0 : Addr) (x1 : Int32) (x2 : Int32) (x3 : Int32) : entryFrame m #[(.ref x0), (.int x1), (.int x2), (.int x3)] 6 = mkF m 0 #[.val (.ref x0), .val (.int x1), .val (.int x2), .val (.int x3), .unset, .unset] [] := by first | (simp [entryFrame, mkF, argsToLocals, Value.category]; done) | rfl
def own_Q11 (Z : State) (b : Addr) (ch : Int32) (kb : ClassId) (h0 : Heap) (n0 : Nat) (v : Option Value) (h : Heap) (L : List Loc) : Prop := v = some (.int (own_ic ch)) ∧ L = [] ∧ h = h0
set_option maxHeartbeats 40000000 in
theorem own_rm11 (l : Launch) (Z : State) (a0 : Array Value) (hw : ∀ d ∈ tables_1, d.before a0 Z = true) (ws : List Jvm.Cond) (b : Addr) (ch : Int32) (kb : ClassId) (h0 : Heap) (n0 : Nat) (Z0 : n0 ≤ h0.size) (V_b : Arv Z h0 b kb .byte (17 : Int32) [(.int (126 : Int32)), (.int (33 : Int32)), (.int (64 : Int32)), (.int (36 : Int32)), (.int (37 : Int32)), (.int (94 : Int32)), (.int (38 : Int32)), (.int (42 : Int32)), (.int (95 : Int32)), (.int (45 : Int32)), (.int (43 : Int32)), (.int (61 : Int32)), (.int (60 : Int32)), (.int (62 : Int32)), (.int (46 : Int32)), (.int (63 : Int32)), (.int (47 : Int32))] (.int (0 : Int32))) :
    MetFree l (⟨"java/lang/StringLatin1", "indexOfChar", "([BIII)I"⟩ : MethodName) (head1 (Jvm.Cond.code (⟨"java/lang/StringLatin1", "indexOfChar", "([BIII)I"⟩ : MethodName) jdk_43_method_23_code 6 (some .int) :: ws) ({ frames := 0, cells := 0, slots := 0, locals := 0 } : Room)) (fun argv U => argv = #[(.ref b), (.int ch), (.int (0 : Int32)), (.int (17 : Int32))] ∧ Z.Warmed39 U.vm ∧ U.heap = h0) (fun _ _ _ _ _ => True) (fun _ U o U' => ∃ v L, o = .returned v ∧ own_Q11 Z b ch kb h0 n0 v U'.heap L ∧ FrameEnd U o U' L ({ frames := 0, cells := 0, slots := 0, locals := 0 } : Room).cells ({ frames := 0, cells := 0, slots := 0, locals := 0 } : Room).slots) := by
  refine MetFree.of_bodySF (plainFor_of_name own_pn1) hisR ?_
  intro p e s m args below meth c s₁ Bd hml0 hP hK
  obtain ⟨rfl, hZ, hh⟩ := hP
  have hx := Bd.exec
  have hby := Bd.bytes
  have hml : c.maxLocals = 6 := hml0
  have hown : s.vm.findClass "java/lang/StringLatin1" = some m.cls := findClass_of_methodNamed Bd.named
  have hnm := (name_of_methodNamed Bd.named Bd.method).1
  have X0 : Stand p l e ({ frames := 0, cells := 0, slots := 0, locals := 0 } : Room) s m #[(.ref b), (.int ch), (.int (0 : Int32)), (.int (17 : Int32))] below meth c s₁ [] 0 0 := Stand.of_body Bd
  have e0 : s₁.heap = h0 := by rw [← hh, Bd.state]; rfl
  have N0 := Fr.nil n0
  have pre0 : ∀ t, Steps p.tables e below (s₁.setTop (mkF m 0 #[.val (.ref b), .val (.int ch), .val (.int (0 : Int32)), .val (.int (17 : Int32)), .unset, .unset] [])) t → Steps p.tables e below (s₁.setTop (entryFrame m #[(.ref b), (.int ch), (.int (0 : Int32)), (.int (17 : Int32))] 6)) t := fun t k => castTop (own_ef11 m b ch (0 : Int32) (17 : Int32)) k
  have S1 : ∀ t, Steps p.tables e below (s₁.setTop (mkF m 10 #[.val (.ref b), .val (.int ch), .val (.int (0 : Int32)), .val (.int (17 : Int32)), .val (.int (ch.toInt8.toInt32)), .val (.int (0 : Int32))] [(.int (17 : Int32)), (.int (0 : Int32))])) t → Steps p.tables e below (s₁.setTop (entryFrame m #[(.ref b), (.int ch), (.int (0 : Int32)), (.int (17 : Int32))] 6)) t := fun t kt => by
    refine pre0 t ?_
    show Steps p.tables e below (s₁.setTop (mkF m 0 #[.val (.ref b), .val (.int ch), .val (.int (0 : Int32)), .val (.int (17 : Int32)), .unset, .unset] [])) t
    refine XS.iloadN X0.here hx rfl (hb hby own_d11_0) rfl ?_
    show Steps p.tables e below (s₁.setTop (mkF m 1 #[.val (.ref b), .val (.int ch), .val (.int (0 : Int32)), .val (.int (17 : Int32)), .unset, .unset] [(.int ch)])) t
    refine XS.i2b X0.here hx rfl (hb hby own_d11_1) rfl ?_
    show Steps p.tables e below (s₁.setTop (mkF m 2 #[.val (.ref b), .val (.int ch), .val (.int (0 : Int32)), .val (.int (17 : Int32)), .unset, .unset] [(.int (ch.toInt8.toInt32))])) t
    refine XS.istore X0.here hx rfl (hb hby own_d11_2) rfl (l' := #[.val (.ref b), .val (.int ch), .val (.int (0 : Int32)), .val (.int (17 : Int32)), .val (.int (ch.toInt8.toInt32)), .unset]) rfl ?_
    show Steps p.tables e below (s₁.setTop (mkF m 4 #[.val (.ref b), .val (.int ch), .val (.int (0 : Int32)), .val (.int (17 : Int32)), .val (.int (ch.toInt8.toInt32)), .unset] [])) t
    refine XS.iloadN X0.here hx rfl (hb hby own_d11_4) rfl ?_
    show Steps p.tables e below (s₁.setTop (mkF m 5 #[.val (.ref b), .val (.int ch), .val (.int (0 : Int32)), .val (.int (17 : Int32)), .val (.int (ch.toInt8.toInt32)), .unset] [(.int (0 : Int32))])) t
    refine XS.istore X0.here hx rfl (hb hby own_d11_5) rfl (l' := #[.val (.ref b), .val (.int ch), .val (.int (0 : Int32)), .val (.int (17 : Int32)), .val (.int (ch.toInt8.toInt32)), .val (.int (0 : Int32))]) rfl ?_
    show Steps p.tables e below (s₁.setTop (mkF m 7 #[.val (.ref b), .val (.int ch), .val (.int (0 : Int32)), .val (.int (17 : Int32)), .val (.int (ch.toInt8.toInt32)), .val (.int (0 : Int32))] [])) t
    refine XS.iload X0.here hx rfl (hb hby own_d11_7) rfl ?_
    show Steps p.tables e below (s₁.setTop (mkF m 9 #[.val (.ref b), .val (.int ch), .val (.int (0 : Int32)), .val (.int (17 : Int32)), .val (.int (ch.toInt8.toInt32)), .val (.int (0 : Int32))] [(.int (0 : Int32))])) t
    refine XS.iloadN X0.here hx rfl (hb hby own_d11_9) rfl ?_
    exact kt
  have hc10_2 : (0 : Int32) < (17 : Int32) := by decide
  have S4 : ∀ t, Steps p.tables e below (s₁.setTop (mkF m 16 #[.val (.ref b), .val (.int ch), .val (.int (0 : Int32)), .val (.int (17 : Int32)), .val (.int (ch.toInt8.toInt32)), .val (.int (0 : Int32))] [(.int (0 : Int32)), (.ref b)])) t → Steps p.tables e below (s₁.setTop (entryFrame m #[(.ref b), (.int ch), (.int (0 : Int32)), (.int (17 : Int32))] 6)) t := fun t kt => by
    refine S1 t ?_
    show Steps p.tables e below (s₁.setTop (mkF m 10 #[.val (.ref b), .val (.int ch), .val (.int (0 : Int32)), .val (.int (17 : Int32)), .val (.int (ch.toInt8.toInt32)), .val (.int (0 : Int32))] [(.int (17 : Int32)), (.int (0 : Int32))])) t
    refine XS.icmpNo X0.here hx rfl (hb hby own_d11_10) rfl (tlt hc10_2).2.1 ?_
    show Steps p.tables e below (s₁.setTop (mkF m 13 #[.val (.ref b), .val (.int ch), .val (.int (0 : Int32)), .val (.int (17 : Int32)), .val (.int (ch.toInt8.toInt32)), .val (.int (0 : Int32))] [])) t
    refine XS.aloadN X0.here hx rfl (hb hby own_d11_13) rfl rfl ?_
    show Steps p.tables e below (s₁.setTop (mkF m 14 #[.val (.ref b), .val (.int ch), .val (.int (0 : Int32)), .val (.int (17 : Int32)), .val (.int (ch.toInt8.toInt32)), .val (.int (0 : Int32))] [(.ref b)])) t
    refine XS.iload X0.here hx rfl (hb hby own_d11_14) rfl ?_
    exact kt
  obtain ⟨cl3, Ar3, -, Sz3, Nn3, Hh3, -⟩ := id V_b
  have hin3 : ¬ ((0 : Int32) < 0 ∨ cl3.slots.size ≤ ((0 : Int32)).toNatClampNeg) := inb_of Sz3 ⟨by decide, by decide⟩
  have S5 : ∀ t, Steps p.tables e below (s₁.setTop (mkF m 19 #[.val (.ref b), .val (.int ch), .val (.int (0 : Int32)), .val (.int (17 : Int32)), .val (.int (ch.toInt8.toInt32)), .val (.int (0 : Int32))] [(.int (ch.toInt8.toInt32)), (.int (126 : Int32))])) t → Steps p.tables e below (s₁.setTop (entryFrame m #[(.ref b), (.int ch), (.int (0 : Int32)), (.int (17 : Int32))] 6)) t := fun t kt => by
    refine S4 t ?_
    show Steps p.tables e below (s₁.setTop (mkF m 16 #[.val (.ref b), .val (.int ch), .val (.int (0 : Int32)), .val (.int (17 : Int32)), .val (.int (ch.toInt8.toInt32)), .val (.int (0 : Int32))] [(.int (0 : Int32)), (.ref b)])) t
    refine X0.baloadBytes hx (j := (0 : Int32)) (v := (.int (126 : Int32))) (by rw [e0]; exact Ar3.1) (State.isArrayOf_alike hZ.alike Ar3.2.1) Ar3.2.2 hin3 (Has.at Hh3 hin3 rfl) (g := (mkF m 16 #[.val (.ref b), .val (.int ch), .val (.int (0 : Int32)), .val (.int (17 : Int32)), .val (.int (ch.toInt8.toInt32)), .val (.int (0 : Int32))] [(.int (0 : Int32)), (.ref b)])) rfl rfl (hb hby own_d11_16) _ ?_
    show Steps p.tables e below (s₁.setTop (mkF m 17 #[.val (.ref b), .val (.int ch), .val (.int (0 : Int32)), .val (.int (17 : Int32)), .val (.int (ch.toInt8.toInt32)), .val (.int (0 : Int32))] [(.int (126 : Int32))])) t
    refine XS.iload X0.here hx rfl (hb hby own_d11_17) rfl ?_
    exact kt
  by_cases hc19 : (126 : Int32) = (ch.toInt8.toInt32)
  · skip
    have S6 : ∀ t, Steps p.tables e below (s₁.setTop (mkF m 24 #[.val (.ref b), .val (.int ch), .val (.int (0 : Int32)), .val (.int (17 : Int32)), .val (.int (ch.toInt8.toInt32)), .val (.int (0 : Int32))] [(.int (0 : Int32))])) t → Steps p.tables e below (s₁.setTop (entryFrame m #[(.ref b), (.int ch), (.int (0 : Int32)), (.int (17 : Int32))] 6)) t := fun t kt => by
      refine S5 t ?_
      show Steps p.tables e below (s₁.setTop (mkF m 19 #[.val (.ref b), .val (.int ch), .val (.int (0 : Int32)), .val (.int (17 : Int32)), .val (.int (ch.toInt8.toInt32)), .val (.int (0 : Int32))] [(.int (ch.toInt8.toInt32)), (.int (126 : Int32))])) t
      refine XS.icmpNo X0.here hx rfl (hb hby own_d11_19) rfl (teq hc19).2 ?_
      show Steps p.tables e below (s₁.setTop (mkF m 22 #[.val (.ref b), .val (.int ch), .val (.int (0 : Int32)), .val (.int (17 : Int32)), .val (.int (ch.toInt8.toInt32)), .val (.int (0 : Int32))] [])) t
      refine XS.iload X0.here hx rfl (hb hby own_d11_22) rfl ?_
      exact kt
    obtain ⟨fs, hr, hrun, hended, hW, hsame⟩ := X0.leave (v := some (.int (0 : Int32))) (fun h => by rw [Bd.returns] at h; cases h)
    refine ⟨_, _, S6 _ ?_, hrun, hended, _, _, rfl, ?_, ⟨_, rfl⟩, hW, hsame.mono (by decide) (by decide)⟩
    · show Steps p.tables e below (s₁.setTop (mkF m 24 #[.val (.ref b), .val (.int ch), .val (.int (0 : Int32)), .val (.int (17 : Int32)), .val (.int (ch.toInt8.toInt32)), .val (.int (0 : Int32))] [(.int (0 : Int32))])) _
      exact own_retI X0 hx Bd.returns (hb hby own_d11_24) hr
    · show own_Q11 Z b ch kb h0 n0 _ s₁.heap _
      rw [e0]
      exact ⟨by unfold own_ic; rw [if_pos hc19], rfl, rfl⟩
  · skip
    have S7 : ∀ t, Steps p.tables e below (s₁.setTop (mkF m 10 #[.val (.ref b), .val (.int ch), .val (.int (0 : Int32)), .val (.int (17 : Int32)), .val (.int (ch.toInt8.toInt32)), .val (.int (1 : Int32))] [(.int (17 : Int32)), (.int (1 : Int32))])) t → Steps p.tables e below (s₁.setTop (entryFrame m #[(.ref b), (.int ch), (.int (0 : Int32)), (.int (17 : Int32))] 6)) t := fun t kt => by
      refine S5 t ?_
      show Steps p.tables e below (s₁.setTop (mkF m 19 #[.val (.ref b), .val (.int ch), .val (.int (0 : Int32)), .val (.int (17 : Int32)), .val (.int (ch.toInt8.toInt32)), .val (.int (0 : Int32))] [(.int (ch.toInt8.toInt32)), (.int (126 : Int32))])) t
      refine XS.icmpYes X0.here hx rfl (pc0 := 19) (pc' := 25) rfl (hb hby own_d11_19) rfl (feq hc19).2 (by decide) (by decide) ?_
      show Steps p.tables e below (s₁.setTop (mkF m 25 #[.val (.ref b), .val (.int ch), .val (.int (0 : Int32)), .val (.int (17 : Int32)), .val (.int (ch.toInt8.toInt32)), .val (.int (0 : Int32))] [])) t
      refine XS.iinc X0.here hx rfl (hb hby own_d11_25) rfl (l' := #[.val (.ref b), .val (.int ch), .val (.int (0 : Int32)), .val (.int (17 : Int32)), .val (.int (ch.toInt8.toInt32)), .val (.int (1 : Int32))]) rfl ?_
      show Steps p.tables e below (s₁.setTop (mkF m 28 #[.val (.ref b), .val (.int ch), .val (.int (0 : Int32)), .val (.int (17 : Int32)), .val (.int (ch.toInt8.toInt32)), .val (.int (1 : Int32))] [])) t
      refine XS.goto X0.here hx rfl (pc0 := 28) (pc' := 7) rfl (hb hby own_d11_28) (by decide) (by decide) ?_
      show Steps p.tables e below (s₁.setTop (mkF m 7 #[.val (.ref b), .val (.int ch), .val (.int (0 : Int32)), .val (.int (17 : Int32)), .val (.int (ch.toInt8.toInt32)), .val (.int (1 : Int32))] [])) t
      refine XS.iload X0.here hx rfl (hb hby own_d11_7) rfl ?_
      show Steps p.tables e below (s₁.setTop (mkF m 9 #[.val (.ref b), .val (.int ch), .val (.int (0 : Int32)), .val (.int (17 : Int32)), .val (.int (ch.toInt8.toInt32)), .val (.int (1 : Int32))] [(.int (1 : Int32))])) t
      refine XS.iloadN X0.here hx rfl (hb hby own_d11_9) rfl ?_
      exact kt
    have hc10_8 : (1 : Int32) < (17 : Int32) := by decide
    have S10 : ∀ t, Steps p.tables e below (s₁.setTop (mkF m 16 #[.val (.ref b), .val (.int ch), .val (.int (0 : Int32)), .val (.int (17 : Int32)), .val (.int (ch.toInt8.toInt32)), .val (.int (1 : Int32))] [(.int (1 : Int32)), (.ref b)])) t → Steps p.tables e below (s₁.setTop (entryFrame m #[(.ref b), (.int ch), (.int (0 : Int32)), (.int (17 : Int32))] 6)) t := fun t kt => by
      refine S7 t ?_
      show Steps p.tables e below (s₁.setTop (mkF m 10 #[.val (.ref b), .val (.int ch), .val (.int (0 : Int32)), .val (.int (17 : Int32)), .val (.int (ch.toInt8.toInt32)), .val (.int (1 : Int32))] [(.int (17 : Int32)), (.int (1 : Int32))])) t
      refine XS.icmpNo X0.here hx rfl (hb hby own_d11_10) rfl (tlt hc10_8).2.1 ?_
      show Steps p.tables e below (s₁.setTop (mkF m 13 #[.val (.ref b), .val (.int ch), .val (.int (0 : Int32)), .val (.int (17 : Int32)), .val (.int (ch.toInt8.toInt32)), .val (.int (1 : Int32))] [])) t
      refine XS.aloadN X0.here hx rfl (hb hby own_d11_13) rfl rfl ?_
      show Steps p.tables e below (s₁.setTop (mkF m 14 #[.val (.ref b), .val (.int ch), .val (.int (0 : Int32)), .val (.int (17 : Int32)), .val (.int (ch.toInt8.toInt32)), .val (.int (1 : Int32))] [(.ref b)])) t
      refine XS.iload X0.here hx rfl (hb hby own_d11_14) rfl ?_
      exact kt
    obtain ⟨cl9, Ar9, -, Sz9, Nn9, Hh9, -⟩ := id V_b
    have hin9 : ¬ ((1 : Int32) < 0 ∨ cl9.slots.size ≤ ((1 : Int32)).toNatClampNeg) := inb_of Sz9 ⟨by decide, by decide⟩
    have S11 : ∀ t, Steps p.tables e below (s₁.setTop (mkF m 19 #[.val (.ref b), .val (.int ch), .val (.int (0 : Int32)), .val (.int (17 : Int32)), .val (.int (ch.toInt8.toInt32)), .val (.int (1 : Int32))] [(.int (ch.toInt8.toInt32)), (.int (33 : Int32))])) t → Steps p.tables e below (s₁.setTop (entryFrame m #[(.ref b), (.int ch), (.int (0 : Int32)), (.int (17 : Int32))] 6)) t := fun t kt => by
      refine S10 t ?_
      show Steps p.tables e below (s₁.setTop (mkF m 16 #[.val (.ref b), .val (.int ch), .val (.int (0 : Int32)), .val (.int (17 : Int32)), .val (.int (ch.toInt8.toInt32)), .val (.int (1 : Int32))] [(.int (1 : Int32)), (.ref b)])) t
      refine X0.baloadBytes hx (j := (1 : Int32)) (v := (.int (33 : Int32))) (by rw [e0]; exact Ar9.1) (State.isArrayOf_alike hZ.alike Ar9.2.1) Ar9.2.2 hin9 (Has.at Hh9 hin9 rfl) (g := (mkF m 16 #[.val (.ref b), .val (.int ch), .val (.int (0 : Int32)), .val (.int (17 : Int32)), .val (.int (ch.toInt8.toInt32)), .val (.int (1 : Int32))] [(.int (1 : Int32)), (.ref b)])) rfl rfl (hb hby own_d11_16) _ ?_
      show Steps p.tables e below (s₁.setTop (mkF m 17 #[.val (.ref b), .val (.int ch), .val (.int (0 : Int32)), .val (.int (17 : Int32)), .val (.int (ch.toInt8.toInt32)), .val (.int (1 : Int32))] [(.int (33 : Int32))])) t
      refine XS.iload X0.here hx rfl (hb hby own_d11_17) rfl ?_
      exact kt
    by_cases hc19' : (33 : Int32) = (ch.toInt8.toInt32)
    · skip
      have S12 : ∀ t, Steps p.tables e below (s₁.setTop (mkF m 24 #[.val (.ref b), .val (.int ch), .val (.int (0 : Int32)), .val (.int (17 : Int32)), .val (.int (ch.toInt8.toInt32)), .val (.int (1 : Int32))] [(.int (1 : Int32))])) t → Steps p.tables e below (s₁.setTop (entryFrame m #[(.ref b), (.int ch), (.int (0 : Int32)), (.int (17 : Int32))] 6)) t := fun t kt => by
        refine S11 t ?_
        show Steps p.tables e below (s₁.setTop (mkF m 19 #[.val (.ref b), .val (.int ch), .val (.int (0 : Int32)), .val (.int (17 : Int32)), .val (.int (ch.toInt8.toInt32)), .val (.int (1 : Int32))] [(.int (ch.toInt8.toInt32)), (.int (33 : Int32))])) t
        refine XS.icmpNo X0.here hx rfl (hb hby own_d11_19) rfl (teq hc19').2 ?_
        show Steps p.tables e below (s₁.setTop (mkF m 22 #[.val (.ref b), .val (.int ch), .val (.int (0 : Int32)), .val (.int (17 : Int32)), .val (.int (ch.toInt8.toInt32)), .val (.int (1 : Int32))] [])) t
        refine XS.iload X0.here hx rfl (hb hby own_d11_22) rfl ?_
        exact kt
      obtain ⟨fs, hr, hrun, hended, hW, hsame⟩ := X0.leave (v := some (.int (1 : Int32))) (fun h => by rw [Bd.returns] at h; cases h)
      refine ⟨_, _, S12 _ ?_, hrun, hended, _, _, rfl, ?_, ⟨_, rfl⟩, hW, hsame.mono (by decide) (by decide)⟩
      · show Steps p.tables e below (s₁.setTop (mkF m 24 #[.val (.ref b), .val (.int ch), .val (.int (0 : Int32)), .val (.int (17 : Int32)), .val (.int (ch.toInt8.toInt32)), .val (.int (1 : Int32))] [(.int (1 : Int32))])) _
        exact own_retI X0 hx Bd.returns (hb hby own_d11_24) hr
      · show own_Q11 Z b ch kb h0 n0 _ s₁.heap _
        rw [e0]
        exact ⟨by unfold own_ic; rw [if_neg hc19, if_pos hc19'], rfl, rfl⟩
    · skip
      have S13 : ∀ t, Steps p.tables e below (s₁.setTop (mkF m 10 #[.val (.ref b), .val (.int ch), .val (.int (0 : Int32)), .val (.int (17 : Int32)), .val (.int (ch.toInt8.toInt32)), .val (.int (2 : Int32))] [(.int (17 : Int32)), (.int (2 : Int32))])) t → Steps p.tables e below (s₁.setTop (entryFrame m #[(.ref b), (.int ch), (.int (0 : Int32)), (.int (17 : Int32))] 6)) t := fun t kt => by
        refine S11 t ?_
        show Steps p.tables e below (s₁.setTop (mkF m 19 #[.val (.ref b), .val (.int ch), .val (.int (0 : Int32)), .val (.int (17 : Int32)), .val (.int (ch.toInt8.toInt32)), .val (.int (1 : Int32))] [(.int (ch.toInt8.toInt32)), (.int (33 : Int32))])) t
        refine XS.icmpYes X0.here hx rfl (pc0 := 19) (pc' := 25) rfl (hb hby own_d11_19) rfl (feq hc19').2 (by decide) (by decide) ?_
        show Steps p.tables e below (s₁.setTop (mkF m 25 #[.val (.ref b), .val (.int ch), .val (.int (0 : Int32)), .val (.int (17 : Int32)), .val (.int (ch.toInt8.toInt32)), .val (.int (1 : Int32))] [])) t
        refine XS.iinc X0.here hx rfl (hb hby own_d11_25) rfl (l' := #[.val (.ref b), .val (.int ch), .val (.int (0 : Int32)), .val (.int (17 : Int32)), .val (.int (ch.toInt8.toInt32)), .val (.int (2 : Int32))]) rfl ?_
        show Steps p.tables e below (s₁.setTop (mkF m 28 #[.val (.ref b), .val (.int ch), .val (.int (0 : Int32)), .val (.int (17 : Int32)), .val (.int (ch.toInt8.toInt32)), .val (.int (2 : Int32))] [])) t
        refine XS.goto X0.here hx rfl (pc0 := 28) (pc' := 7) rfl (hb hby own_d11_28) (by decide) (by decide) ?_
        show Steps p.tables e below (s₁.setTop (mkF m 7 #[.val (.ref b), .val (.int ch), .val (.int (0 : Int32)), .val (.int (17 : Int32)), .val (.int (ch.toInt8.toInt32)), .val (.int (2 : Int32))] [])) t
        refine XS.iload X0.here hx rfl (hb hby own_d11_7) rfl ?_
        show Steps p.tables e below (s₁.setTop (mkF m 9 #[.val (.ref b), .val (.int ch), .val (.int (0 : Int32)), .val (.int (17 : Int32)), .val (.int (ch.toInt8.toInt32)), .val (.int (2 : Int32))] [(.int (2 : Int32))])) t
        refine XS.iloadN X0.here hx rfl (hb hby own_d11_9) rfl ?_
        exact kt
      have hc10_14 : (2 : Int32) < (17 : Int32) := by decide
      have S16 : ∀ t, Steps p.tables e below (s₁.setTop (mkF m 16 #[.val (.ref b), .val (.int ch), .val (.int (0 : Int32)), .val (.int (17 : Int32)), .val (.int (ch.toInt8.toInt32)), .val (.int (2 : Int32))] [(.int (2 : Int32)), (.ref b)])) t → Steps p.tables e below (s₁.setTop (entryFrame m #[(.ref b), (.int ch), (.int (0 : Int32)), (.int (17 : Int32))] 6)) t := fun t kt => by
        refine S13 t ?_
        show Steps p.tables e below (s₁.setTop (mkF m 10 #[.val (.ref b), .val (.int ch), .val (.int (0 : Int32)), .val (.int (17 : Int32)), .val (.int (ch.toInt8.toInt32)), .val (.int (2 : Int32))] [(.int (17 : Int32)), (.int (2 : Int32))])) t
        refine XS.icmpNo X0.here hx rfl (hb hby own_d11_10) rfl (tlt hc10_14).2.1 ?_
        show Steps p.tables e below (s₁.setTop (mkF m 13 #[.val (.ref b), .val (.int ch), .val (.int (0 : Int32)), .val (.int (17 : Int32)), .val (.int (ch.toInt8.toInt32)), .val (.int (2 : Int32))] [])) t
        refine XS.aloadN X0.here hx rfl (hb hby own_d11_13) rfl rfl ?_
        show Steps p.tables e below (s₁.setTop (mkF m 14 #[.val (.ref b), .val (.int ch), .val (.int (0 : Int32)), .val (.int (17 : Int32)), .val (.int (ch.toInt8.toInt32)), .val (.int (2 : Int32))] [(.ref b)])) t
        refine XS.iload X0.here hx rfl (hb hby own_d11_14) rfl ?_
        exact kt
      obtain ⟨cl15, Ar15, -, Sz15, Nn15, Hh15, -⟩ := id V_b
      have hin15 : ¬ ((2 : Int32) < 0 ∨ cl15.slots.size ≤ ((2 : Int32)).toNatClampNeg) := inb_of Sz15 ⟨by decide, by decide⟩
      have S17 : ∀ t, Steps p.tables e below (s₁.setTop (mkF m 19 #[.val (.ref b), .val (.int ch), .val (.int (0 : Int32)), .val (.int (17 : Int32)), .val (.int (ch.toInt8.toInt32)), .val (.int (2 : Int32))] [(.int (ch.toInt8.toInt32)), (.int (64 : Int32))])) t → Steps p.tables e below (s₁.setTop (entryFrame m #[(.ref b), (.int ch), (.int (0 : Int32)), (.int (17 : Int32))] 6)) t := fun t kt => by
        refine S16 t ?_
        show Steps p.tables e below (s₁.setTop (mkF m 16 #[.val (.ref b), .val (.int ch), .val (.int (0 : Int32)), .val (.int (17 : Int32)), .val (.int (ch.toInt8.toInt32)), .val (.int (2 : Int32))] [(.int (2 : Int32)), (.ref b)])) t
        refine X0.baloadBytes hx (j := (2 : Int32)) (v := (.int (64 : Int32))) (by rw [e0]; exact Ar15.1) (State.isArrayOf_alike hZ.alike Ar15.2.1) Ar15.2.2 hin15 (Has.at Hh15 hin15 rfl) (g := (mkF m 16 #[.val (.ref b), .val (.int ch), .val (.int (0 : Int32)), .val (.int (17 : Int32)), .val (.int (ch.toInt8.toInt32)), .val (.int (2 : Int32))] [(.int (2 : Int32)), (.ref b)])) rfl rfl (hb hby own_d11_16) _ ?_
        show Steps p.tables e below (s₁.setTop (mkF m 17 #[.val (.ref b), .val (.int ch), .val (.int (0 : Int32)), .val (.int (17 : Int32)), .val (.int (ch.toInt8.toInt32)), .val (.int (2 : Int32))] [(.int (64 : Int32))])) t
        refine XS.iload X0.here hx rfl (hb hby own_d11_17) rfl ?_
        exact kt
      by_cases hc19'' : (64 : Int32) = (ch.toInt8.toInt32)
      · skip
        have S18 : ∀ t, Steps p.tables e below (s₁.setTop (mkF m 24 #[.val (.ref b), .val (.int ch), .val (.int (0 : Int32)), .val (.int (17 : Int32)), .val (.int (ch.toInt8.toInt32)), .val (.int (2 : Int32))] [(.int (2 : Int32))])) t → Steps p.tables e below (s₁.setTop (entryFrame m #[(.ref b), (.int ch), (.int (0 : Int32)), (.int (17 : Int32))] 6)) t := fun t kt => by
          refine S17 t ?_
          show Steps p.tables e below (s₁.setTop (mkF m 19 #[.val (.ref b), .val (.int ch), .val (.int (0 : Int32)), .val (.int (17 : Int32)), .val (.int (ch.toInt8.toInt32)), .val (.int (2 : Int32))] [(.int (ch.toInt8.toInt32)), (.int (64 : Int32))])) t
          refine XS.icmpNo X0.here hx rfl (hb hby own_d11_19) rfl (teq hc19'').2 ?_
          show Steps p.tables e below (s₁.setTop (mkF m 22 #[.val (.ref b), .val (.int ch), .val (.int (0 : Int32)), .val (.int (17 : Int32)), .val (.int (ch.toInt8.toInt32)), .val (.int (2 : Int32))] [])) t
          refine XS.iload X0.here hx rfl (hb hby own_d11_22) rfl ?_
          exact kt
        obtain ⟨fs, hr, hrun, hended, hW, hsame⟩ := X0.leave (v := some (.int (2 : Int32))) (fun h => by rw [Bd.returns] at h; cases h)
        refine ⟨_, _, S18 _ ?_, hrun, hended, _, _, rfl, ?_, ⟨_, rfl⟩, hW, hsame.mono (by decide) (by decide)⟩
        · show Steps p.tables e below (s₁.setTop (mkF m 24 #[.val (.ref b), .val (.int ch), .val (.int (0 : Int32)), .val (.int (17 : Int32)), .val (.int (ch.toInt8.toInt32)), .val (.int (2 : Int32))] [(.int (2 : Int32))])) _
          exact own_retI X0 hx Bd.returns (hb hby own_d11_24) hr
        · show own_Q11 Z b ch kb h0 n0 _ s₁.heap _
          rw [e0]
          exact ⟨by unfold own_ic; rw [if_neg hc19, if_neg hc19', if_pos hc19''], rfl, rfl⟩
      · skip
        have S19 : ∀ t, Steps p.tables e below (s₁.setTop (mkF m 10 #[.val (.ref b), .val (.int ch), .val (.int (0 : Int32)), .val (.int (17 : Int32)), .val (.int (ch.toInt8.toInt32)), .val (.int (3 : Int32))] [(.int (17 : Int32)), (.int (3 : Int32))])) t → Steps p.tables e below (s₁.setTop (entryFrame m #[(.ref b), (.int ch), (.int (0 : Int32)), (.int (17 : Int32))] 6)) t := fun t kt => by
          refine S17 t ?_
          show Steps p.tables e below (s₁.setTop (mkF m 19 #[.val (.ref b), .val (.int ch), .val (.int (0 : Int32)), .val (.int (17 : Int32)), .val (.int (ch.toInt8.toInt32)), .val (.int (2 : Int32))] [(.int (ch.toInt8.toInt32)), (.int (64 : Int32))])) t
          refine XS.icmpYes X0.here hx rfl (pc0 := 19) (pc' := 25) rfl (hb hby own_d11_19) rfl (feq hc19'').2 (by decide) (by decide) ?_
          show Steps p.tables e below (s₁.setTop (mkF m 25 #[.val (.ref b), .val (.int ch), .val (.int (0 : Int32)), .val (.int (17 : Int32)), .val (.int (ch.toInt8.toInt32)), .val (.int (2 : Int32))] [])) t
          refine XS.iinc X0.here hx rfl (hb hby own_d11_25) rfl (l' := #[.val (.ref b), .val (.int ch), .val (.int (0 : Int32)), .val (.int (17 : Int32)), .val (.int (ch.toInt8.toInt32)), .val (.int (3 : Int32))]) rfl ?_
          show Steps p.tables e below (s₁.setTop (mkF m 28 #[.val (.ref b), .val (.int ch), .val (.int (0 : Int32)), .val (.int (17 : Int32)), .val (.int (ch.toInt8.toInt32)), .val (.int (3 : Int32))] [])) t
          refine XS.goto X0.here hx rfl (pc0 := 28) (pc' := 7) rfl (hb hby own_d11_28) (by decide) (by decide) ?_
          show Steps p.tables e below (s₁.setTop (mkF m 7 #[.val (.ref b), .val (.int ch), .val (.int (0 : Int32)), .val (.int (17 : Int32)), .val (.int (ch.toInt8.toInt32)), .val (.int (3 : Int32))] [])) t
          refine XS.iload X0.here hx rfl (hb hby own_d11_7) rfl ?_
          show Steps p.tables e below (s₁.setTop (mkF m 9 #[.val (.ref b), .val (.int ch), .val (.int (0 : Int32)), .val (.int (17 : Int32)), .val (.int (ch.toInt8.toInt32)), .val (.int (3 : Int32))] [(.int (3 : Int32))])) t
          refine XS.iloadN X0.here hx rfl (hb hby own_d11_9) rfl ?_
          exact kt
        have hc10_20 : (3 : Int32) < (17 : Int32) := by decide
        have S22 : ∀ t, Steps p.tables e below (s₁.setTop (mkF m 16 #[.val (.ref b), .val (.int ch), .val (.int (0 : Int32)), .val (.int (17 : Int32)), .val (.int (ch.toInt8.toInt32)), .val (.int (3 : Int32))] [(.int (3 : Int32)), (.ref b)])) t → Steps p.tables e below (s₁.setTop (entryFrame m #[(.ref b), (.int ch), (.int (0 : Int32)), (.int (17 : Int32))] 6)) t := fun t kt => by
          refine S19 t ?_
          show Steps p.tables e below (s₁.setTop (mkF m 10 #[.val (.ref b), .val (.int ch), .val (.int (0 : Int32)), .val (.int (17 : Int32)), .val (.int (ch.toInt8.toInt32)), .val (.int (3 : Int32))] [(.int (17 : Int32)), (.int (3 : Int32))])) t
          refine XS.icmpNo X0.here hx rfl (hb hby own_d11_10) rfl (tlt hc10_20).2.1 ?_
          show Steps p.tables e below (s₁.setTop (mkF m 13 #[.val (.ref b), .val (.int ch), .val (.int (0 : Int32)), .val (.int (17 : Int32)), .val (.int (ch.toInt8.toInt32)), .val (.int (3 : Int32))] [])) t
          refine XS.aloadN X0.here hx rfl (hb hby own_d11_13) rfl rfl ?_
          show Steps p.tables e below (s₁.setTop (mkF m 14 #[.val (.ref b), .val (.int ch), .val (.int (0 : Int32)), .val (.int (17 : Int32)), .val (.int (ch.toInt8.toInt32)), .val (.int (3 : Int32))] [(.ref b)])) t
          refine XS.iload X0.here hx rfl (hb hby own_d11_14) rfl ?_
          exact kt
        obtain ⟨cl21, Ar21, -, Sz21, Nn21, Hh21, -⟩ := id V_b
        have hin21 : ¬ ((3 : Int32) < 0 ∨ cl21.slots.size ≤ ((3 : Int32)).toNatClampNeg) := inb_of Sz21 ⟨by decide, by decide⟩
        have S23 : ∀ t, Steps p.tables e below (s₁.setTop (mkF m 19 #[.val (.ref b), .val (.int ch), .val (.int (0 : Int32)), .val (.int (17 : Int32)), .val (.int (ch.toInt8.toInt32)), .val (.int (3 : Int32))] [(.int (ch.toInt8.toInt32)), (.int (36 : Int32))])) t → Steps p.tables e below (s₁.setTop (entryFrame m #[(.ref b), (.int ch), (.int (0 : Int32)), (.int (17 : Int32))] 6)) t := fun t kt => by
          refine S22 t ?_
          show Steps p.tables e below (s₁.setTop (mkF m 16 #[.val (.ref b), .val (.int ch), .val (.int (0 : Int32)), .val (.int (17 : Int32)), .val (.int (ch.toInt8.toInt32)), .val (.int (3 : Int32))] [(.int (3 : Int32)), (.ref b)])) t
          refine X0.baloadBytes hx (j := (3 : Int32)) (v := (.int (36 : Int32))) (by rw [e0]; exact Ar21.1) (State.isArrayOf_alike hZ.alike Ar21.2.1) Ar21.2.2 hin21 (Has.at Hh21 hin21 rfl) (g := (mkF m 16 #[.val (.ref b), .val (.int ch), .val (.int (0 : Int32)), .val (.int (17 : Int32)), .val (.int (ch.toInt8.toInt32)), .val (.int (3 : Int32))] [(.int (3 : Int32)), (.ref b)])) rfl rfl (hb hby own_d11_16) _ ?_
          show Steps p.tables e below (s₁.setTop (mkF m 17 #[.val (.ref b), .val (.int ch), .val (.int (0 : Int32)), .val (.int (17 : Int32)), .val (.int (ch.toInt8.toInt32)), .val (.int (3 : Int32))] [(.int (36 : Int32))])) t
          refine XS.iload X0.here hx rfl (hb hby own_d11_17) rfl ?_
          exact kt
        by_cases hc19''' : (36 : Int32) = (ch.toInt8.toInt32)
        · skip
          have S24 : ∀ t, Steps p.tables e below (s₁.setTop (mkF m 24 #[.val (.ref b), .val (.int ch), .val (.int (0 : Int32)), .val (.int (17 : Int32)), .val (.int (ch.toInt8.toInt32)), .val (.int (3 : Int32))] [(.int (3 : Int32))])) t → Steps p.tables e below (s₁.setTop (entryFrame m #[(.ref b), (.int ch), (.int (0 : Int32)), (.int (17 : Int32))] 6)) t := fun t kt => by
            refine S23 t ?_
            show Steps p.tables e below (s₁.setTop (mkF m 19 #[.val (.ref b), .val (.int ch), .val (.int (0 : Int32)), .val (.int (17 : Int32)), .val (.int (ch.toInt8.toInt32)), .val (.int (3 : Int32))] [(.int (ch.toInt8.toInt32)), (.int (36 : Int32))])) t
            refine XS.icmpNo X0.here hx rfl (hb hby own_d11_19) rfl (teq hc19''').2 ?_
            show Steps p.tables e below (s₁.setTop (mkF m 22 #[.val (.ref b), .val (.int ch), .val (.int (0 : Int32)), .val (.int (17 : Int32)), .val (.int (ch.toInt8.toInt32)), .val (.int (3 : Int32))] [])) t
            refine XS.iload X0.here hx rfl (hb hby own_d11_22) rfl ?_
            exact kt
          obtain ⟨fs, hr, hrun, hended, hW, hsame⟩ := X0.leave (v := some (.int (3 : Int32))) (fun h => by rw [Bd.returns] at h; cases h)
          refine ⟨_, _, S24 _ ?_, hrun, hended, _, _, rfl, ?_, ⟨_, rfl⟩, hW, hsame.mono (by decide) (by decide)⟩
          · show Steps p.tables e below (s₁.setTop (mkF m 24 #[.val (.ref b), .val (.int ch), .val (.int (0 : Int32)), .val (.int (17 : Int32)), .val (.int (ch.toInt8.toInt32)), .val (.int (3 : Int32))] [(.int (3 : Int32))])) _
            exact own_retI X0 hx Bd.returns (hb hby own_d11_24) hr
          · show own_Q11 Z b ch kb h0 n0 _ s₁.heap _
            rw [e0]
            exact ⟨by unfold own_ic; rw [if_neg hc19, if_neg hc19', if_neg hc19'', if_pos hc19'''], rfl, rfl⟩
        · skip
          have S25 : ∀ t, Steps p.tables e below (s₁.setTop (mkF m 10 #[.val (.ref b), .val (.int ch), .val (.int (0 : Int32)), .val (.int (17 : Int32)), .val (.int (ch.toInt8.toInt32)), .val (.int (4 : Int32))] [(.int (17 : Int32)), (.int (4 : Int32))])) t → Steps p.tables e below (s₁.setTop (entryFrame m #[(.ref b), (.int ch), (.int (0 : Int32)), (.int (17 : Int32))] 6)) t := fun t kt => by
            refine S23 t ?_
            show Steps p.tables e below (s₁.setTop (mkF m 19 #[.val (.ref b), .val (.int ch), .val (.int (0 : Int32)), .val (.int (17 : Int32)), .val (.int (ch.toInt8.toInt32)), .val (.int (3 : Int32))] [(.int (ch.toInt8.toInt32)), (.int (36 : Int32))])) t
            refine XS.icmpYes X0.here hx rfl (pc0 := 19) (pc' := 25) rfl (hb hby own_d11_19) rfl (feq hc19''').2 (by decide) (by decide) ?_
            show Steps p.tables e below (s₁.setTop (mkF m 25 #[.val (.ref b), .val (.int ch), .val (.int (0 : Int32)), .val (.int (17 : Int32)), .val (.int (ch.toInt8.toInt32)), .val (.int (3 : Int32))] [])) t
            refine XS.iinc X0.here hx rfl (hb hby own_d11_25) rfl (l' := #[.val (.ref b), .val (.int ch), .val (.int (0 : Int32)), .val (.int (17 : Int32)), .val (.int (ch.toInt8.toInt32)), .val (.int (4 : Int32))]) rfl ?_
            show Steps p.tables e below (s₁.setTop (mkF m 28 #[.val (.ref b), .val (.int ch), .val (.int (0 : Int32)), .val (.int (17 : Int32)), .val (.int (ch.toInt8.toInt32)), .val (.int (4 : Int32))] [])) t
            refine XS.goto X0.here hx rfl (pc0 := 28) (pc' := 7) rfl (hb hby own_d11_28) (by decide) (by decide) ?_
            show Steps p.tables e below (s₁.setTop (mkF m 7 #[.val (.ref b), .val (.int ch), .val (.int (0 : Int32)), .val (.int (17 : Int32)), .val (.int (ch.toInt8.toInt32)), .val (.int (4 : Int32))] [])) t
            refine XS.iload X0.here hx rfl (hb hby own_d11_7) rfl ?_
            show Steps p.tables e below (s₁.setTop (mkF m 9 #[.val (.ref b), .val (.int ch), .val (.int (0 : Int32)), .val (.int (17 : Int32)), .val (.int (ch.toInt8.toInt32)), .val (.int (4 : Int32))] [(.int (4 : Int32))])) t
            refine XS.iloadN X0.here hx rfl (hb hby own_d11_9) rfl ?_
            exact kt
          have hc10_26 : (4 : Int32) < (17 : Int32) := by decide
          have S28 : ∀ t, Steps p.tables e below (s₁.setTop (mkF m 16 #[.val (.ref b), .val (.int ch), .val (.int (0 : Int32)), .val (.int (17 : Int32)), .val (.int (ch.toInt8.toInt32)), .val (.int (4 : Int32))] [(.int (4 : Int32)), (.ref b)])) t → Steps p.tables e below (s₁.setTop (entryFrame m #[(.ref b), (.int ch), (.int (0 : Int32)), (.int (17 : Int32))] 6)) t := fun t kt => by
            refine S25 t ?_
            show Steps p.tables e below (s₁.setTop (mkF m 10 #[.val (.ref b), .val (.int ch), .val (.int (0 : Int32)), .val (.int (17 : Int32)), .val (.int (ch.toInt8.toInt32)), .val (.int (4 : Int32))] [(.int (17 : Int32)), (.int (4 : Int32))])) t
            refine XS.icmpNo X0.here hx rfl (hb hby own_d11_10) rfl (tlt hc10_26).2.1 ?_
            show Steps p.tables e below (s₁.setTop (mkF m 13 #[.val (.ref b), .val (.int ch), .val (.int (0 : Int32)), .val (.int (17 : Int32)), .val (.int (ch.toInt8.toInt32)), .val (.int (4 : Int32))] [])) t
            refine XS.aloadN X0.here hx rfl (hb hby own_d11_13) rfl rfl ?_
            show Steps p.tables e below (s₁.setTop (mkF m 14 #[.val (.ref b), .val (.int ch), .val (.int (0 : Int32)), .val (.int (17 : Int32)), .val (.int (ch.toInt8.toInt32)), .val (.int (4 : Int32))] [(.ref b)])) t
            refine XS.iload X0.here hx rfl (hb hby own_d11_14) rfl ?_
            exact kt
          obtain ⟨cl27, Ar27, -, Sz27, Nn27, Hh27, -⟩ := id V_b
          have hin27 : ¬ ((4 : Int32) < 0 ∨ cl27.slots.size ≤ ((4 : Int32)).toNatClampNeg) := inb_of Sz27 ⟨by decide, by decide⟩
          have S29 : ∀ t, Steps p.tables e below (s₁.setTop (mkF m 19 #[.val (.ref b), .val (.int ch), .val (.int (0 : Int32)), .val (.int (17 : Int32)), .val (.int (ch.toInt8.toInt32)), .val (.int (4 : Int32))] [(.int (ch.toInt8.toInt32)), (.int (37 : Int32))])) t → Steps p.tables e below (s₁.setTop (entryFrame m #[(.ref b), (.int ch), (.int (0 : Int32)), (.int (17 : Int32))] 6)) t := fun t kt => by
            refine S28 t ?_
            show Steps p.tables e below (s₁.setTop (mkF m 16 #[.val (.ref b), .val (.int ch), .val (.int (0 : Int32)), .val (.int (17 : Int32)), .val (.int (ch.toInt8.toInt32)), .val (.int (4 : Int32))] [(.int (4 : Int32)), (.ref b)])) t
            refine X0.baloadBytes hx (j := (4 : Int32)) (v := (.int (37 : Int32))) (by rw [e0]; exact Ar27.1) (State.isArrayOf_alike hZ.alike Ar27.2.1) Ar27.2.2 hin27 (Has.at Hh27 hin27 rfl) (g := (mkF m 16 #[.val (.ref b), .val (.int ch), .val (.int (0 : Int32)), .val (.int (17 : Int32)), .val (.int (ch.toInt8.toInt32)), .val (.int (4 : Int32))] [(.int (4 : Int32)), (.ref b)])) rfl rfl (hb hby own_d11_16) _ ?_
            show Steps p.tables e below (s₁.setTop (mkF m 17 #[.val (.ref b), .val (.int ch), .val (.int (0 : Int32)), .val (.int (17 : Int32)), .val (.int (ch.toInt8.toInt32)), .val (.int (4 : Int32))] [(.int (37 : Int32))])) t
            refine XS.iload X0.here hx rfl (hb hby own_d11_17) rfl ?_
            exact kt
          by_cases hc19'''' : (37 : Int32) = (ch.toInt8.toInt32)
          · skip
            have S30 : ∀ t, Steps p.tables e below (s₁.setTop (mkF m 24 #[.val (.ref b), .val (.int ch), .val (.int (0 : Int32)), .val (.int (17 : Int32)), .val (.int (ch.toInt8.toInt32)), .val (.int (4 : Int32))] [(.int (4 : Int32))])) t → Steps p.tables e below (s₁.setTop (entryFrame m #[(.ref b), (.int ch), (.int (0 : Int32)), (.int (17 : Int32))] 6)) t := fun t kt => by
              refine S29 t ?_
              show Steps p.tables e below (s₁.setTop (mkF m 19 #[.val (.ref b), .val (.int ch), .val (.int (0 : Int32)), .val (.int (17 : Int32)), .val (.int (ch.toInt8.toInt32)), .val (.int (4 : Int32))] [(.int (ch.toInt8.toInt32)), (.int (37 : Int32))])) t
              refine XS.icmpNo X0.here hx rfl (hb hby own_d11_19) rfl (teq hc19'''').2 ?_
              show Steps p.tables e below (s₁.setTop (mkF m 22 #[.val (.ref b), .val (.int ch), .val (.int (0 : Int32)), .val (.int (17 : Int32)), .val (.int (ch.toInt8.toInt32)), .val (.int (4 : Int32))] [])) t
              refine XS.iload X0.here hx rfl (hb hby own_d11_22) rfl ?_
              exact kt
            obtain ⟨fs, hr, hrun, hended, hW, hsame⟩ := X0.leave (v := some (.int (4 : Int32))) (fun h => by rw [Bd.returns] at h; cases h)
            refine ⟨_, _, S30 _ ?_, hrun, hended, _, _, rfl, ?_, ⟨_, rfl⟩, hW, hsame.mono (by decide) (by decide)⟩
            · show Steps p.tables e below (s₁.setTop (mkF m 24 #[.val (.ref b), .val (.int ch), .val (.int (0 : Int32)), .val (.int (17 : Int32)), .val (.int (ch.toInt8.toInt32)), .val (.int (4 : Int32))] [(.int (4 : Int32))])) _
              exact own_retI X0 hx Bd.returns (hb hby own_d11_24) hr
            · show own_Q11 Z b ch kb h0 n0 _ s₁.heap _
              rw [e0]
              exact ⟨by unfold own_ic; rw [if_neg hc19, if_neg hc19', if_neg hc19'', if_neg hc19''', if_pos hc19''''], rfl, rfl⟩
          · skip
            have S31 : ∀ t, Steps p.tables e below (s₁.setTop (mkF m 10 #[.val (.ref b), .val (.int ch), .val (.int (0 : Int32)), .val (.int (17 : Int32)), .val (.int (ch.toInt8.toInt32)), .val (.int (5 : Int32))] [(.int (17 : Int32)), (.int (5 : Int32))])) t → Steps p.tables e below (s₁.setTop (entryFrame m #[(.ref b), (.int ch), (.int (0 : Int32)), (.int (17 : Int32))] 6)) t := fun t kt => by
              refine S29 t ?_
              show Steps p.tables e below (s₁.setTop (mkF m 19 #[.val (.ref b), .val (.int ch), .val (.int (0 : Int32)), .val (.int (17 : Int32)), .val (.int (ch.toInt8.toInt32)), .val (.int (4 : Int32))] [(.int (ch.toInt8.toInt32)), (.int (37 : Int32))])) t
              refine XS.icmpYes X0.here hx rfl (pc0 := 19) (pc' := 25) rfl (hb hby own_d11_19) rfl (feq hc19'''').2 (by decide) (by decide) ?_
              show Steps p.tables e below (s₁.setTop (mkF m 25 #[.val (.ref b), .val (.int ch), .val (.int (0 : Int32)), .val (.int (17 : Int32)), .val (.int (ch.toInt8.toInt32)), .val (.int (4 : Int32))] [])) t
              refine XS.iinc X0.here hx rfl (hb hby own_d11_25) rfl (l' := #[.val (.ref b), .val (.int ch), .val (.int (0 : Int32)), .val (.int (17 : Int32)), .val (.int (ch.toInt8.toInt32)), .val (.int (5 : Int32))]) rfl ?_
              show Steps p.tables e below (s₁.setTop (mkF m 28 #[.val (.ref b), .val (.int ch), .val (.int (0 : Int32)), .val (.int (17 : Int32)), .val (.int (ch.toInt8.toInt32)), .val (.int (5 : Int32))] [])) t
              refine XS.goto X0.here hx rfl (pc0 := 28) (pc' := 7) rfl (hb hby own_d11_28) (by decide) (by decide) ?_
              show Steps p.tables e below (s₁.setTop (mkF m 7 #[.val (.ref b), .val (.int ch), .val (.int (0 : Int32)), .val (.int (17 : Int32)), .val (.int (ch.toInt8.toInt32)), .val (.int (5 : Int32))] [])) t
              refine XS.iload X0.here hx rfl (hb hby own_d11_7) rfl ?_
              show Steps p.tables e below (s₁.setTop (mkF m 9 #[.val (.ref b), .val (.int ch), .val (.int (0 : Int32)), .val (.int (17 : Int32)), .val (.int (ch.toInt8.toInt32)), .val (.int (5 : Int32))] [(.int (5 : Int32))])) t
              refine XS.iloadN X0.here hx rfl (hb hby own_d11_9) rfl ?_
              exact kt
            have hc10_32 : (5 : Int32) < (17 : Int32) := by decide
            have S34 : ∀ t, Steps p.tables e below (s₁.setTop (mkF m 16 #[.val (.ref b), .val (.int ch), .val (.int (0 : Int32)), .val (.int (17 : Int32)), .val (.int (ch.toInt8.toInt32)), .val (.int (5 : Int32))] [(.int (5 : Int32)), (.ref b)])) t → Steps p.tables e below (s₁.setTop (entryFrame m #[(.ref b), (.int ch), (.int (0 : Int32)), (.int (17 : Int32))] 6)) t := fun t kt => by
              refine S31 t ?_
              show Steps p.tables e below (s₁.setTop (mkF m 10 #[.val (.ref b), .val (.int ch), .val (.int (0 : Int32)), .val (.int (17 : Int32)), .val (.int (ch.toInt8.toInt32)), .val (.int (5 : Int32))] [(.int (17 : Int32)), (.int (5 : Int32))])) t
              refine XS.icmpNo X0.here hx rfl (hb hby own_d11_10) rfl (tlt hc10_32).2.1 ?_
              show Steps p.tables e below (s₁.setTop (mkF m 13 #[.val (.ref b), .val (.int ch), .val (.int (0 : Int32)), .val (.int (17 : Int32)), .val (.int (ch.toInt8.toInt32)), .val (.int (5 : Int32))] [])) t
              refine XS.aloadN X0.here hx rfl (hb hby own_d11_13) rfl rfl ?_
              show Steps p.tables e below (s₁.setTop (mkF m 14 #[.val (.ref b), .val (.int ch), .val (.int (0 : Int32)), .val (.int (17 : Int32)), .val (.int (ch.toInt8.toInt32)), .val (.int (5 : Int32))] [(.ref b)])) t
              refine XS.iload X0.here hx rfl (hb hby own_d11_14) rfl ?_
              exact kt
            obtain ⟨cl33, Ar33, -, Sz33, Nn33, Hh33, -⟩ := id V_b
            have hin33 : ¬ ((5 : Int32) < 0 ∨ cl33.slots.size ≤ ((5 : Int32)).toNatClampNeg) := inb_of Sz33 ⟨by decide, by decide⟩
            have S35 : ∀ t, Steps p.tables e below (s₁.setTop (mkF m 19 #[.val (.ref b), .val (.int ch), .val (.int (0 : Int32)), .val (.int (17 : Int32)), .val (.int (ch.toInt8.toInt32)), .val (.int (5 : Int32))] [(.int (ch.toInt8.toInt32)), (.int (94 : Int32))])) t → Steps p.tables e below (s₁.setTop (entryFrame m #[(.ref b), (.int ch), (.int (0 : Int32)), (.int (17 : Int32))] 6)) t := fun t kt => by
              refine S34 t ?_
              show Steps p.tables e below (s₁.setTop (mkF m 16 #[.val (.ref b), .val (.int ch), .val (.int (0 : Int32)), .val (.int (17 : Int32)), .val (.int (ch.toInt8.toInt32)), .val (.int (5 : Int32))] [(.int (5 : Int32)), (.ref b)])) t
              refine X0.baloadBytes hx (j := (5 : Int32)) (v := (.int (94 : Int32))) (by rw [e0]; exact Ar33.1) (State.isArrayOf_alike hZ.alike Ar33.2.1) Ar33.2.2 hin33 (Has.at Hh33 hin33 rfl) (g := (mkF m 16 #[.val (.ref b), .val (.int ch), .val (.int (0 : Int32)), .val (.int (17 : Int32)), .val (.int (ch.toInt8.toInt32)), .val (.int (5 : Int32))] [(.int (5 : Int32)), (.ref b)])) rfl rfl (hb hby own_d11_16) _ ?_
              show Steps p.tables e below (s₁.setTop (mkF m 17 #[.val (.ref b), .val (.int ch), .val (.int (0 : Int32)), .val (.int (17 : Int32)), .val (.int (ch.toInt8.toInt32)), .val (.int (5 : Int32))] [(.int (94 : Int32))])) t
              refine XS.iload X0.here hx rfl (hb hby own_d11_17) rfl ?_
              exact kt
            by_cases hc19''''' : (94 : Int32) = (ch.toInt8.toInt32)
            · skip
              have S36 : ∀ t, Steps p.tables e below (s₁.setTop (mkF m 24 #[.val (.ref b), .val (.int ch), .val (.int (0 : Int32)), .val (.int (17 : Int32)), .val (.int (ch.toInt8.toInt32)), .val (.int (5 : Int32))] [(.int (5 : Int32))])) t → Steps p.tables e below (s₁.setTop (entryFrame m #[(.ref b), (.int ch), (.int (0 : Int32)), (.int (17 : Int32))] 6)) t := fun t kt => by
                refine S35 t ?_
                show Steps p.tables e below (s₁.setTop (mkF m 19 #[.val (.ref b), .val (.int ch), .val (.int (0 : Int32)), .val (.int (17 : Int32)), .val (.int (ch.toInt8.toInt32)), .val (.int (5 : Int32))] [(.int (ch.toInt8.toInt32)), (.int (94 : Int32))])) t
                refine XS.icmpNo X0.here hx rfl (hb hby own_d11_19) rfl (teq hc19''''').2 ?_
                show Steps p.tables e below (s₁.setTop (mkF m 22 #[.val (.ref b), .val (.int ch), .val (.int (0 : Int32)), .val (.int (17 : Int32)), .val (.int (ch.toInt8.toInt32)), .val (.int (5 : Int32))] [])) t
                refine XS.iload X0.here hx rfl (hb hby own_d11_22) rfl ?_
                exact kt
              obtain ⟨fs, hr, hrun, hended, hW, hsame⟩ := X0.leave (v := some (.int (5 : Int32))) (fun h => by rw [Bd.returns] at h; cases h)
              refine ⟨_, _, S36 _ ?_, hrun, hended, _, _, rfl, ?_, ⟨_, rfl⟩, hW, hsame.mono (by decide) (by decide)⟩
              · show Steps p.tables e below (s₁.setTop (mkF m 24 #[.val (.ref b), .val (.int ch), .val (.int (0 : Int32)), .val (.int (17 : Int32)), .val (.int (ch.toInt8.toInt32)), .val (.int (5 : Int32))] [(.int (5 : Int32))])) _
                exact own_retI X0 hx Bd.returns (hb hby own_d11_24) hr
              · show own_Q11 Z b ch kb h0 n0 _ s₁.heap _
                rw [e0]
                exact ⟨by unfold own_ic; rw [if_neg hc19, if_neg hc19', if_neg hc19'', if_neg hc19''', if_neg hc19'''', if_pos hc19'''''], rfl, rfl⟩
            · skip
              have S37 : ∀ t, Steps p.tables e below (s₁.setTop (mkF m 10 #[.val (.ref b), .val (.int ch), .val (.int (0 : Int32)), .val (.int (17 : Int32)), .val (.int (ch.toInt8.toInt32)), .val (.int (6 : Int32))] [(.int (17 : Int32)), (.int (6 : Int32))])) t → Steps p.tables e below (s₁.setTop (entryFrame m #[(.ref b), (.int ch), (.int (0 : Int32)), (.int (17 : Int32))] 6)) t := fun t kt => by
                refine S35 t ?_
                show Steps p.tables e below (s₁.setTop (mkF m 19 #[.val (.ref b), .val (.int ch), .val (.int (0 : Int32)), .val (.int (17 : Int32)), .val (.int (ch.toInt8.toInt32)), .val (.int (5 : Int32))] [(.int (ch.toInt8.toInt32)), (.int (94 : Int32))])) t
                refine XS.icmpYes X0.here hx rfl (pc0 := 19) (pc' := 25) rfl (hb hby own_d11_19) rfl (feq hc19''''').2 (by decide) (by decide) ?_
                show Steps p.tables e below (s₁.setTop (mkF m 25 #[.val (.ref b), .val (.int ch), .val (.int (0 : Int32)), .val (.int (17 : Int32)), .val (.int (ch.toInt8.toInt32)), .val (.int (5 : Int32))] [])) t
                refine XS.iinc X0.here hx rfl (hb hby own_d11_25) rfl (l' := #[.val (.ref b), .val (.int ch), .val (.int (0 : Int32)), .val (.int (17 : Int32)), .val (.int (ch.toInt8.toInt32)), .val (.int (6 : Int32))]) rfl ?_
                show Steps p.tables e below (s₁.setTop (mkF m 28 #[.val (.ref b), .val (.int ch), .val (.int (0 : Int32)), .val (.int (17 : Int32)), .val (.int (ch.toInt8.toInt32)), .val (.int (6 : Int32))] [])) t
                refine XS.goto X0.here hx rfl (pc0 := 28) (pc' := 7) rfl (hb hby own_d11_28) (by decide) (by decide) ?_
                show Steps p.tables e below (s₁.setTop (mkF m 7 #[.val (.ref b), .val (.int ch), .val (.int (0 : Int32)), .val (.int (17 : Int32)), .val (.int (ch.toInt8.toInt32)), .val (.int (6 : Int32))] [])) t
                refine XS.iload X0.here hx rfl (hb hby own_d11_7) rfl ?_
                show Steps p.tables e below (s₁.setTop (mkF m 9 #[.val (.ref b), .val (.int ch), .val (.int (0 : Int32)), .val (.int (17 : Int32)), .val (.int (ch.toInt8.toInt32)), .val (.int (6 : Int32))] [(.int (6 : Int32))])) t
                refine XS.iloadN X0.here hx rfl (hb hby own_d11_9) rfl ?_
                exact kt
              have hc10_38 : (6 : Int32) < (17 : Int32) := by decide
              have S40 : ∀ t, Steps p.tables e below (s₁.setTop (mkF m 16 #[.val (.ref b), .val (.int ch), .val (.int (0 : Int32)), .val (.int (17 : Int32)), .val (.int (ch.toInt8.toInt32)), .val (.int (6 : Int32))] [(.int (6 : Int32)), (.ref b)])) t → Steps p.tables e below (s₁.setTop (entryFrame m #[(.ref b), (.int ch), (.int (0 : Int32)), (.int (17 : Int32))] 6)) t := fun t kt => by
                refine S37 t ?_
                show Steps p.tables e below (s₁.setTop (mkF m 10 #[.val (.ref b), .val (.int ch), .val (.int (0 : Int32)), .val (.int (17 : Int32)), .val (.int (ch.toInt8.toInt32)), .val (.int (6 : Int32))] [(.int (17 : Int32)), (.int (6 : Int32))])) t
                refine XS.icmpNo X0.here hx rfl (hb hby own_d11_10) rfl (tlt hc10_38).2.1 ?_
                show Steps p.tables e below (s₁.setTop (mkF m 13 #[.val (.ref b), .val (.int ch), .val (.int (0 : Int32)), .val (.int (17 : Int32)), .val (.int (ch.toInt8.toInt32)), .val (.int (6 : Int32))] [])) t
                refine XS.aloadN X0.here hx rfl (hb hby own_d11_13) rfl rfl ?_
                show Steps p.tables e below (s₁.setTop (mkF m 14 #[.val (.ref b), .val (.int ch), .val (.int (0 : Int32)), .val (.int (17 : Int32)), .val (.int (ch.toInt8.toInt32)), .val (.int (6 : Int32))] [(.ref b)])) t
                refine XS.iload X0.here hx rfl (hb hby own_d11_14) rfl ?_
                exact kt
              obtain ⟨cl39, Ar39, -, Sz39, Nn39, Hh39, -⟩ := id V_b
              have hin39 : ¬ ((6 : Int32) < 0 ∨ cl39.slots.size ≤ ((6 : Int32)).toNatClampNeg) := inb_of Sz39 ⟨by decide, by decide⟩
              have S41 : ∀ t, Steps p.tables e below (s₁.setTop (mkF m 19 #[.val (.ref b), .val (.int ch), .val (.int (0 : Int32)), .val (.int (17 : Int32)), .val (.int (ch.toInt8.toInt32)), .val (.int (6 : Int32))] [(.int (ch.toInt8.toInt32)), (.int (38 : Int32))])) t → Steps p.tables e below (s₁.setTop (entryFrame m #[(.ref b), (.int ch), (.int (0 : Int32)), (.int (17 : Int32))] 6)) t := fun t kt => by
                refine S40 t ?_
                show Steps p.tables e below (s₁.setTop (mkF m 16 #[.val (.ref b), .val (.int ch), .val (.int (0 : Int32)), .val (.int (17 : Int32)), .val (.int (ch.toInt8.toInt32)), .val (.int (6 : Int32))] [(.int (6 : Int32)), (.ref b)])) t
                refine X0.baloadBytes hx (j := (6 : Int32)) (v := (.int (38 : Int32))) (by rw [e0]; exact Ar39.1) (State.isArrayOf_alike hZ.alike Ar39.2.1) Ar39.2.2 hin39 (Has.at Hh39 hin39 rfl) (g := (mkF m 16 #[.val (.ref b), .val (.int ch), .val (.int (0 : Int32)), .val (.int (17 : Int32)), .val (.int (ch.toInt8.toInt32)), .val (.int (6 : Int32))] [(.int (6 : Int32)), (.ref b)])) rfl rfl (hb hby own_d11_16) _ ?_
                show Steps p.tables e below (s₁.setTop (mkF m 17 #[.val (.ref b), .val (.int ch), .val (.int (0 : Int32)), .val (.int (17 : Int32)), .val (.int (ch.toInt8.toInt32)), .val (.int (6 : Int32))] [(.int (38 : Int32))])) t
                refine XS.iload X0.here hx rfl (hb hby own_d11_17) rfl ?_
                exact kt
              by_cases hc19'''''' : (38 : Int32) = (ch.toInt8.toInt32)
              · skip
                have S42 : ∀ t, Steps p.tables e below (s₁.setTop (mkF m 24 #[.val (.ref b), .val (.int ch), .val (.int (0 : Int32)), .val (.int (17 : Int32)), .val (.int (ch.toInt8.toInt32)), .val (.int (6 : Int32))] [(.int (6 : Int32))])) t → Steps p.tables e below (s₁.setTop (entryFrame m #[(.ref b), (.int ch), (.int (0 : Int32)), (.int (17 : Int32))] 6)) t := fun t kt => by
                  refine S41 t ?_
                  show Steps p.tables e below (s₁.setTop (mkF m 19 #[.val (.ref b), .val (.int ch), .val (.int (0 : Int32)), .val (.int (17 : Int32)), .val (.int (ch.toInt8.toInt32)), .val (.int (6 : Int32))] [(.int (ch.toInt8.toInt32)), (.int (38 : Int32))])) t
                  refine XS.icmpNo X0.here hx rfl (hb hby own_d11_19) rfl (teq hc19'''''').2 ?_
                  show Steps p.tables e below (s₁.setTop (mkF m 22 #[.val (.ref b), .val (.int ch), .val (.int (0 : Int32)), .val (.int (17 : Int32)), .val (.int (ch.toInt8.toInt32)), .val (.int (6 : Int32))] [])) t
                  refine XS.iload X0.here hx rfl (hb hby own_d11_22) rfl ?_
                  exact kt
                obtain ⟨fs, hr, hrun, hended, hW, hsame⟩ := X0.leave (v := some (.int (6 : Int32))) (fun h => by rw [Bd.returns] at h; cases h)
                refine ⟨_, _, S42 _ ?_, hrun, hended, _, _, rfl, ?_, ⟨_, rfl⟩, hW, hsame.mono (by decide) (by decide)⟩
                · show Steps p.tables e below (s₁.setTop (mkF m 24 #[.val (.ref b), .val (.int ch), .val (.int (0 : Int32)), .val (.int (17 : Int32)), .val (.int (ch.toInt8.toInt32)), .val (.int (6 : Int32))] [(.int (6 : Int32))])) _
                  exact own_retI X0 hx Bd.returns (hb hby own_d11_24) hr
                · show own_Q11 Z b ch kb h0 n0 _ s₁.heap _
                  rw [e0]
                  exact ⟨by unfold own_ic; rw [if_neg hc19, if_neg hc19', if_neg hc19'', if_neg hc19''', if_neg hc19'''', if_neg hc19''''', if_pos hc19''''''], rfl, rfl⟩
              · skip
                have S43 : ∀ t, Steps p.tables e below (s₁.setTop (mkF m 10 #[.val (.ref b), .val (.int ch), .val (.int (0 : Int32)), .val (.int (17 : Int32)), .val (.int (ch.toInt8.toInt32)), .val (.int (7 : Int32))] [(.int (17 : Int32)), (.int (7 : Int32))])) t → Steps p.tables e below (s₁.setTop (entryFrame m #[(.ref b), (.int ch), (.int (0 : Int32)), (.int (17 : Int32))] 6)) t := fun t kt => by
                  refine S41 t ?_
                  show Steps p.tables e below (s₁.setTop (mkF m 19 #[.val (.ref b), .val (.int ch), .val (.int (0 : Int32)), .val (.int (17 : Int32)), .val (.int (ch.toInt8.toInt32)), .val (.int (6 : Int32))] [(.int (ch.toInt8.toInt32)), (.int (38 : Int32))])) t
                  refine XS.icmpYes X0.here hx rfl (pc0 := 19) (pc' := 25) rfl (hb hby own_d11_19) rfl (feq hc19'''''').2 (by decide) (by decide) ?_
                  show Steps p.tables e below (s₁.setTop (mkF m 25 #[.val (.ref b), .val (.int ch), .val (.int (0 : Int32)), .val (.int (17 : Int32)), .val (.int (ch.toInt8.toInt32)), .val (.int (6 : Int32))] [])) t
                  refine XS.iinc X0.here hx rfl (hb hby own_d11_25) rfl (l' := #[.val (.ref b), .val (.int ch), .val (.int (0 : Int32)), .val (.int (17 : Int32)), .val (.int (ch.toInt8.toInt32)), .val (.int (7 : Int32))]) rfl ?_
                  show Steps p.tables e below (s₁.setTop (mkF m 28 #[.val (.ref b), .val (.int ch), .val (.int (0 : Int32)), .val (.int (17 : Int32)), .val (.int (ch.toInt8.toInt32)), .val (.int (7 : Int32))] [])) t
                  refine XS.goto X0.here hx rfl (pc0 := 28) (pc' := 7) rfl (hb hby own_d11_28) (by decide) (by decide) ?_
                  show Steps p.tables e below (s₁.setTop (mkF m 7 #[.val (.ref b), .val (.int ch), .val (.int (0 : Int32)), .val (.int (17 : Int32)), .val (.int (ch.toInt8.toInt32)), .val (.int (7 : Int32))] [])) t
                  refine XS.iload X0.here hx rfl (hb hby own_d11_7) rfl ?_
                  show Steps p.tables e below (s₁.setTop (mkF m 9 #[.val (.ref b), .val (.int ch), .val (.int (0 : Int32)), .val (.int (17 : Int32)), .val (.int (ch.toInt8.toInt32)), .val (.int (7 : Int32))] [(.int (7 : Int32))])) t
                  refine XS.iloadN X0.here hx rfl (hb hby own_d11_9) rfl ?_
                  exact kt
                have hc10_44 : (7 : Int32) < (17 : Int32) := by decide
                have S46 : ∀ t, Steps p.tables e below (s₁.setTop (mkF m 16 #[.val (.ref b), .val (.int ch), .val (.int (0 : Int32)), .val (.int (17 : Int32)), .val (.int (ch.toInt8.toInt32)), .val (.int (7 : Int32))] [(.int (7 : Int32)), (.ref b)])) t → Steps p.tables e below (s₁.setTop (entryFrame m #[(.ref b), (.int ch), (.int (0 : Int32)), (.int (17 : Int32))] 6)) t := fun t kt => by
                  refine S43 t ?_
                  show Steps p.tables e below (s₁.setTop (mkF m 10 #[.val (.ref b), .val (.int ch), .val (.int (0 : Int32)), .val (.int (17 : Int32)), .val (.int (ch.toInt8.toInt32)), .val (.int (7 : Int32))] [(.int (17 : Int32)), (.int (7 : Int32))])) t
                  refine XS.icmpNo X0.here hx rfl (hb hby own_d11_10) rfl (tlt hc10_44).2.1 ?_
                  show Steps p.tables e below (s₁.setTop (mkF m 13 #[.val (.ref b), .val (.int ch), .val (.int (0 : Int32)), .val (.int (17 : Int32)), .val (.int (ch.toInt8.toInt32)), .val (.int (7 : Int32))] [])) t
                  refine XS.aloadN X0.here hx rfl (hb hby own_d11_13) rfl rfl ?_
                  show Steps p.tables e below (s₁.setTop (mkF m 14 #[.val (.ref b), .val (.int ch), .val (.int (0 : Int32)), .val (.int (17 : Int32)), .val (.int (ch.toInt8.toInt32)), .val (.int (7 : Int32))] [(.ref b)])) t
                  refine XS.iload X0.here hx rfl (hb hby own_d11_14) rfl ?_
                  exact kt
                obtain ⟨cl45, Ar45, -, Sz45, Nn45, Hh45, -⟩ := id V_b
                have hin45 : ¬ ((7 : Int32) < 0 ∨ cl45.slots.size ≤ ((7 : Int32)).toNatClampNeg) := inb_of Sz45 ⟨by decide, by decide⟩
                have S47 : ∀ t, Steps p.tables e below (s₁.setTop (mkF m 19 #[.val (.ref b), .val (.int ch), .val (.int (0 : Int32)), .val (.int (17 : Int32)), .val (.int (ch.toInt8.toInt32)), .val (.int (7 : Int32))] [(.int (ch.toInt8.toInt32)), (.int (42 : Int32))])) t → Steps p.tables e below (s₁.setTop (entryFrame m #[(.ref b), (.int ch), (.int (0 : Int32)), (.int (17 : Int32))] 6)) t := fun t kt => by
                  refine S46 t ?_
                  show Steps p.tables e below (s₁.setTop (mkF m 16 #[.val (.ref b), .val (.int ch), .val (.int (0 : Int32)), .val (.int (17 : Int32)), .val (.int (ch.toInt8.toInt32)), .val (.int (7 : Int32))] [(.int (7 : Int32)), (.ref b)])) t
                  refine X0.baloadBytes hx (j := (7 : Int32)) (v := (.int (42 : Int32))) (by rw [e0]; exact Ar45.1) (State.isArrayOf_alike hZ.alike Ar45.2.1) Ar45.2.2 hin45 (Has.at Hh45 hin45 rfl) (g := (mkF m 16 #[.val (.ref b), .val (.int ch), .val (.int (0 : Int32)), .val (.int (17 : Int32)), .val (.int (ch.toInt8.toInt32)), .val (.int (7 : Int32))] [(.int (7 : Int32)), (.ref b)])) rfl rfl (hb hby own_d11_16) _ ?_
                  show Steps p.tables e below (s₁.setTop (mkF m 17 #[.val (.ref b), .val (.int ch), .val (.int (0 : Int32)), .val (.int (17 : Int32)), .val (.int (ch.toInt8.toInt32)), .val (.int (7 : Int32))] [(.int (42 : Int32))])) t
                  refine XS.iload X0.here hx rfl (hb hby own_d11_17) rfl ?_
                  exact kt
                by_cases hc19''''''' : (42 : Int32) = (ch.toInt8.toInt32)
                · skip
                  have S48 : ∀ t, Steps p.tables e below (s₁.setTop (mkF m 24 #[.val (.ref b), .val (.int ch), .val (.int (0 : Int32)), .val (.int (17 : Int32)), .val (.int (ch.toInt8.toInt32)), .val (.int (7 : Int32))] [(.int (7 : Int32))])) t → Steps p.tables e below (s₁.setTop (entryFrame m #[(.ref b), (.int ch), (.int (0 : Int32)), (.int (17 : Int32))] 6)) t := fun t kt => by
                    refine S47 t ?_
                    show Steps p.tables e below (s₁.setTop (mkF m 19 #[.val (.ref b), .val (.int ch), .val (.int (0 : Int32)), .val (.int (17 : Int32)), .val (.int (ch.toInt8.toInt32)), .val (.int (7 : Int32))] [(.int (ch.toInt8.toInt32)), (.int (42 : Int32))])) t
                    refine XS.icmpNo X0.here hx rfl (hb hby own_d11_19) rfl (teq hc19''''''').2 ?_
                    show Steps p.tables e below (s₁.setTop (mkF m 22 #[.val (.ref b), .val (.int ch), .val (.int (0 : Int32)), .val (.int (17 : Int32)), .val (.int (ch.toInt8.toInt32)), .val (.int (7 : Int32))] [])) t
                    refine XS.iload X0.here hx rfl (hb hby own_d11_22) rfl ?_
                    exact kt
                  obtain ⟨fs, hr, hrun, hended, hW, hsame⟩ := X0.leave (v := some (.int (7 : Int32))) (fun h => by rw [Bd.returns] at h; cases h)
                  refine ⟨_, _, S48 _ ?_, hrun, hended, _, _, rfl, ?_, ⟨_, rfl⟩, hW, hsame.mono (by decide) (by decide)⟩
                  · show Steps p.tables e below (s₁.setTop (mkF m 24 #[.val (.ref b), .val (.int ch), .val (.int (0 : Int32)), .val (.int (17 : Int32)), .val (.int (ch.toInt8.toInt32)), .val (.int (7 : Int32))] [(.int (7 : Int32))])) _
                    exact own_retI X0 hx Bd.returns (hb hby own_d11_24) hr
                  · show own_Q11 Z b ch kb h0 n0 _ s₁.heap _
                    rw [e0]
                    exact ⟨by unfold own_ic; rw [if_neg hc19, if_neg hc19', if_neg hc19'', if_neg hc19''', if_neg hc19'''', if_neg hc19''''', if_neg hc19'''''', if_pos hc19'''''''], rfl, rfl⟩
                · skip
                  have S49 : ∀ t, Steps p.tables e below (s₁.setTop (mkF m 10 #[.val (.ref b), .val (.int ch), .val (.int (0 : Int32)), .val (.int (17 : Int32)), .val (.int (ch.toInt8.toInt32)), .val (.int (8 : Int32))] [(.int (17 : Int32)), (.int (8 : Int32))])) t → Steps p.tables e below (s₁.setTop (entryFrame m #[(.ref b), (.int ch), (.int (0 : Int32)), (.int (17 : Int32))] 6)) t := fun t kt => by
                    refine S47 t ?_
                    show Steps p.tables e below (s₁.setTop (mkF m 19 #[.val (.ref b), .val (.int ch), .val (.int (0 : Int32)), .val (.int (17 : Int32)), .val (.int (ch.toInt8.toInt32)), .val (.int (7 : Int32))] [(.int (ch.toInt8.toInt32)), (.int (42 : Int32))])) t
                    refine XS.icmpYes X0.here hx rfl (pc0 := 19) (pc' := 25) rfl (hb hby own_d11_19) rfl (feq hc19''''''').2 (by decide) (by decide) ?_
                    show Steps p.tables e below (s₁.setTop (mkF m 25 #[.val (.ref b), .val (.int ch), .val (.int (0 : Int32)), .val (.int (17 : Int32)), .val (.int (ch.toInt8.toInt32)), .val (.int (7 : Int32))] [])) t
                    refine XS.iinc X0.here hx rfl (hb hby own_d11_25) rfl (l' := #[.val (.ref b), .val (.int ch), .val (.int (0 : Int32)), .val (.int (17 : Int32)), .val (.int (ch.toInt8.toInt32)), .val (.int (8 : Int32))]) rfl ?_
                    show Steps p.tables e below (s₁.setTop (mkF m 28 #[.val (.ref b), .val (.int ch), .val (.int (0 : Int32)), .val (.int (17 : Int32)), .val (.int (ch.toInt8.toInt32)), .val (.int (8 : Int32))] [])) t
                    refine XS.goto X0.here hx rfl (pc0 := 28) (pc' := 7) rfl (hb hby own_d11_28) (by decide) (by decide) ?_
                    show Steps p.tables e below (s₁.setTop (mkF m 7 #[.val (.ref b), .val (.int ch), .val (.int (0 : Int32)), .val (.int (17 : Int32)), .val (.int (ch.toInt8.toInt32)), .val (.int (8 : Int32))] [])) t
                    refine XS.iload X0.here hx rfl (hb hby own_d11_7) rfl ?_
                    show Steps p.tables e below (s₁.setTop (mkF m 9 #[.val (.ref b), .val (.int ch), .val (.int (0 : Int32)), .val (.int (17 : Int32)), .val (.int (ch.toInt8.toInt32)), .val (.int (8 : Int32))] [(.int (8 : Int32))])) t
                    refine XS.iloadN X0.here hx rfl (hb hby own_d11_9) rfl ?_
                    exact kt
                  have hc10_50 : (8 : Int32) < (17 : Int32) := by decide
                  have S52 : ∀ t, Steps p.tables e below (s₁.setTop (mkF m 16 #[.val (.ref b), .val (.int ch), .val (.int (0 : Int32)), .val (.int (17 : Int32)), .val (.int (ch.toInt8.toInt32)), .val (.int (8 : Int32))] [(.int (8 : Int32)), (.ref b)])) t → Steps p.tables e below (s₁.setTop (entryFrame m #[(.ref b), (.int ch), (.int (0 : Int32)), (.int (17 : Int32))] 6)) t := fun t kt => by
                    refine S49 t ?_
                    show Steps p.tables e below (s₁.setTop (mkF m 10 #[.val (.ref b), .val (.int ch), .val (.int (0 : Int32)), .val (.int (17 : Int32)), .val (.int (ch.toInt8.toInt32)), .val (.int (8 : Int32))] [(.int (17 : Int32)), (.int (8 : Int32))])) t
                    refine XS.icmpNo X0.here hx rfl (hb hby own_d11_10) rfl (tlt hc10_50).2.1 ?_
                    show Steps p.tables e below (s₁.setTop (mkF m 13 #[.val (.ref b), .val (.int ch), .val (.int (0 : Int32)), .val (.int (17 : Int32)), .val (.int (ch.toInt8.toInt32)), .val (.int (8 : Int32))] [])) t
                    refine XS.aloadN X0.here hx rfl (hb hby own_d11_13) rfl rfl ?_
                    show Steps p.tables e below (s₁.setTop (mkF m 14 #[.val (.ref b), .val (.int ch), .val (.int (0 : Int32)), .val (.int (17 : Int32)), .val (.int (ch.toInt8.toInt32)), .val (.int (8 : Int32))] [(.ref b)])) t
                    refine XS.iload X0.here hx rfl (hb hby own_d11_14) rfl ?_
                    exact kt
                  obtain ⟨cl51, Ar51, -, Sz51, Nn51, Hh51, -⟩ := id V_b
                  have hin51 : ¬ ((8 : Int32) < 0 ∨ cl51.slots.size ≤ ((8 : Int32)).toNatClampNeg) := inb_of Sz51 ⟨by decide, by decide⟩
                  have S53 : ∀ t, Steps p.tables e below (s₁.setTop (mkF m 19 #[.val (.ref b), .val (.int ch), .val (.int (0 : Int32)), .val (.int (17 : Int32)), .val (.int (ch.toInt8.toInt32)), .val (.int (8 : Int32))] [(.int (ch.toInt8.toInt32)), (.int (95 : Int32))])) t → Steps p.tables e below (s₁.setTop (entryFrame m #[(.ref b), (.int ch), (.int (0 : Int32)), (.int (17 : Int32))] 6)) t := fun t kt => by
                    refine S52 t ?_
                    show Steps p.tables e below (s₁.setTop (mkF m 16 #[.val (.ref b), .val (.int ch), .val (.int (0 : Int32)), .val (.int (17 : Int32)), .val (.int (ch.toInt8.toInt32)), .val (.int (8 : Int32))] [(.int (8 : Int32)), (.ref b)])) t
                    refine X0.baloadBytes hx (j := (8 : Int32)) (v := (.int (95 : Int32))) (by rw [e0]; exact Ar51.1) (State.isArrayOf_alike hZ.alike Ar51.2.1) Ar51.2.2 hin51 (Has.at Hh51 hin51 rfl) (g := (mkF m 16 #[.val (.ref b), .val (.int ch), .val (.int (0 : Int32)), .val (.int (17 : Int32)), .val (.int (ch.toInt8.toInt32)), .val (.int (8 : Int32))] [(.int (8 : Int32)), (.ref b)])) rfl rfl (hb hby own_d11_16) _ ?_
                    show Steps p.tables e below (s₁.setTop (mkF m 17 #[.val (.ref b), .val (.int ch), .val (.int (0 : Int32)), .val (.int (17 : Int32)), .val (.int (ch.toInt8.toInt32)), .val (.int (8 : Int32))] [(.int (95 : Int32))])) t
                    refine XS.iload X0.here hx rfl (hb hby own_d11_17) rfl ?_
                    exact kt
                  by_cases hc19'''''''' : (95 : Int32) = (ch.toInt8.toInt32)
                  · skip
                    have S54 : ∀ t, Steps p.tables e below (s₁.setTop (mkF m 24 #[.val (.ref b), .val (.int ch), .val (.int (0 : Int32)), .val (.int (17 : Int32)), .val (.int (ch.toInt8.toInt32)), .val (.int (8 : Int32))] [(.int (8 : Int32))])) t → Steps p.tables e below (s₁.setTop (entryFrame m #[(.ref b), (.int ch), (.int (0 : Int32)), (.int (17 : Int32))] 6)) t := fun t kt => by
                      refine S53 t ?_
                      show Steps p.tables e below (s₁.setTop (mkF m 19 #[.val (.ref b), .val (.int ch), .val (.int (0 : Int32)), .val (.int (17 : Int32)), .val (.int (ch.toInt8.toInt32)), .val (.int (8 : Int32))] [(.int (ch.toInt8.toInt32)), (.int (95 : Int32))])) t
                      refine XS.icmpNo X0.here hx rfl (hb hby own_d11_19) rfl (teq hc19'''''''').2 ?_
                      show Steps p.tables e below (s₁.setTop (mkF m 22 #[.val (.ref b), .val (.int ch), .val (.int (0 : Int32)), .val (.int (17 : Int32)), .val (.int (ch.toInt8.toInt32)), .val (.int (8 : Int32))] [])) t
                      refine XS.iload X0.here hx rfl (hb hby own_d11_22) rfl ?_
                      exact kt
                    obtain ⟨fs, hr, hrun, hended, hW, hsame⟩ := X0.leave (v := some (.int (8 : Int32))) (fun h => by rw [Bd.returns] at h; cases h)
                    refine ⟨_, _, S54 _ ?_, hrun, hended, _, _, rfl, ?_, ⟨_, rfl⟩, hW, hsame.mono (by decide) (by decide)⟩
                    · show Steps p.tables e below (s₁.setTop (mkF m 24 #[.val (.ref b), .val (.int ch), .val (.int (0 : Int32)), .val (.int (17 : Int32)), .val (.int (ch.toInt8.toInt32)), .val (.int (8 : Int32))] [(.int (8 : Int32))])) _
                      exact own_retI X0 hx Bd.returns (hb hby own_d11_24) hr
                    · show own_Q11 Z b ch kb h0 n0 _ s₁.heap _
                      rw [e0]
                      exact ⟨by unfold own_ic; rw [if_neg hc19, if_neg hc19', if_neg hc19'', if_neg hc19''', if_neg hc19'''', if_neg hc19''''', if_neg hc19'''''', if_neg hc19''''''', if_pos hc19''''''''], rfl, rfl⟩
                  · skip
                    have S55 : ∀ t, Steps p.tables e below (s₁.setTop (mkF m 10 #[.val (.ref b), .val (.int ch), .val (.int (0 : Int32)), .val (.int (17 : Int32)), .val (.int (ch.toInt8.toInt32)), .val (.int (9 : Int32))] [(.int (17 : Int32)), (.int (9 : Int32))])) t → Steps p.tables e below (s₁.setTop (entryFrame m #[(.ref b), (.int ch), (.int (0 : Int32)), (.int (17 : Int32))] 6)) t := fun t kt => by
                      refine S53 t ?_
                      show Steps p.tables e below (s₁.setTop (mkF m 19 #[.val (.ref b), .val (.int ch), .val (.int (0 : Int32)), .val (.int (17 : Int32)), .val (.int (ch.toInt8.toInt32)), .val (.int (8 : Int32))] [(.int (ch.toInt8.toInt32)), (.int (95 : Int32))])) t
                      refine XS.icmpYes X0.here hx rfl (pc0 := 19) (pc' := 25) rfl (hb hby own_d11_19) rfl (feq hc19'''''''').2 (by decide) (by decide) ?_
                      show Steps p.tables e below (s₁.setTop (mkF m 25 #[.val (.ref b), .val (.int ch), .val (.int (0 : Int32)), .val (.int (17 : Int32)), .val (.int (ch.toInt8.toInt32)), .val (.int (8 : Int32))] [])) t
                      refine XS.iinc X0.here hx rfl (hb hby own_d11_25) rfl (l' := #[.val (.ref b), .val (.int ch), .val (.int (0 : Int32)), .val (.int (17 : Int32)), .val (.int (ch.toInt8.toInt32)), .val (.int (9 : Int32))]) rfl ?_
                      show Steps p.tables e below (s₁.setTop (mkF m 28 #[.val (.ref b), .val (.int ch), .val (.int (0 : Int32)), .val (.int (17 : Int32)), .val (.int (ch.toInt8.toInt32)), .val (.int (9 : Int32))] [])) t
                      refine XS.goto X0.here hx rfl (pc0 := 28) (pc' := 7) rfl (hb hby own_d11_28) (by decide) (by decide) ?_
                      show Steps p.tables e below (s₁.setTop (mkF m 7 #[.val (.ref b), .val (.int ch), .val (.int (0 : Int32)), .val (.int (17 : Int32)), .val (.int (ch.toInt8.toInt32)), .val (.int (9 : Int32))] [])) t
                      refine XS.iload X0.here hx rfl (hb hby own_d11_7) rfl ?_
                      show Steps p.tables e below (s₁.setTop (mkF m 9 #[.val (.ref b), .val (.int ch), .val (.int (0 : Int32)), .val (.int (17 : Int32)), .val (.int (ch.toInt8.toInt32)), .val (.int (9 : Int32))] [(.int (9 : Int32))])) t
                      refine XS.iloadN X0.here hx rfl (hb hby own_d11_9) rfl ?_
                      exact kt
                    have hc10_56 : (9 : Int32) < (17 : Int32) := by decide
                    have S58 : ∀ t, Steps p.tables e below (s₁.setTop (mkF m 16 #[.val (.ref b), .val (.int ch), .val (.int (0 : Int32)), .val (.int (17 : Int32)), .val (.int (ch.toInt8.toInt32)), .val (.int (9 : Int32))] [(.int (9 : Int32)), (.ref b)])) t → Steps p.tables e below (s₁.setTop (entryFrame m #[(.ref b), (.int ch), (.int (0 : Int32)), (.int (17 : Int32))] 6)) t := fun t kt => by
                      refine S55 t ?_
                      show Steps p.tables e below (s₁.setTop (mkF m 10 #[.val (.ref b), .val (.int ch), .val (.int (0 : Int32)), .val (.int (17 : Int32)), .val (.int (ch.toInt8.toInt32)), .val (.int (9 : Int32))] [(.int (17 : Int32)), (.int (9 : Int32))])) t
                      refine XS.icmpNo X0.here hx rfl (hb hby own_d11_10) rfl (tlt hc10_56).2.1 ?_
                      show Steps p.tables e below (s₁.setTop (mkF m 13 #[.val (.ref b), .val (.int ch), .val (.int (0 : Int32)), .val (.int (17 : Int32)), .val (.int (ch.toInt8.toInt32)), .val (.int (9 : Int32))] [])) t
                      refine XS.aloadN X0.here hx rfl (hb hby own_d11_13) rfl rfl ?_
                      show Steps p.tables e below (s₁.setTop (mkF m 14 #[.val (.ref b), .val (.int ch), .val (.int (0 : Int32)), .val (.int (17 : Int32)), .val (.int (ch.toInt8.toInt32)), .val (.int (9 : Int32))] [(.ref b)])) t
                      refine XS.iload X0.here hx rfl (hb hby own_d11_14) rfl ?_
                      exact kt
                    obtain ⟨cl57, Ar57, -, Sz57, Nn57, Hh57, -⟩ := id V_b
                    have hin57 : ¬ ((9 : Int32) < 0 ∨ cl57.slots.size ≤ ((9 : Int32)).toNatClampNeg) := inb_of Sz57 ⟨by decide, by decide⟩
                    have S59 : ∀ t, Steps p.tables e below (s₁.setTop (mkF m 19 #[.val (.ref b), .val (.int ch), .val (.int (0 : Int32)), .val (.int (17 : Int32)), .val (.int (ch.toInt8.toInt32)), .val (.int (9 : Int32))] [(.int (ch.toInt8.toInt32)), (.int (45 : Int32))])) t → Steps p.tables e below (s₁.setTop (entryFrame m #[(.ref b), (.int ch), (.int (0 : Int32)), (.int (17 : Int32))] 6)) t := fun t kt => by
                      refine S58 t ?_
                      show Steps p.tables e below (s₁.setTop (mkF m 16 #[.val (.ref b), .val (.int ch), .val (.int (0 : Int32)), .val (.int (17 : Int32)), .val (.int (ch.toInt8.toInt32)), .val (.int (9 : Int32))] [(.int (9 : Int32)), (.ref b)])) t
                      refine X0.baloadBytes hx (j := (9 : Int32)) (v := (.int (45 : Int32))) (by rw [e0]; exact Ar57.1) (State.isArrayOf_alike hZ.alike Ar57.2.1) Ar57.2.2 hin57 (Has.at Hh57 hin57 rfl) (g := (mkF m 16 #[.val (.ref b), .val (.int ch), .val (.int (0 : Int32)), .val (.int (17 : Int32)), .val (.int (ch.toInt8.toInt32)), .val (.int (9 : Int32))] [(.int (9 : Int32)), (.ref b)])) rfl rfl (hb hby own_d11_16) _ ?_
                      show Steps p.tables e below (s₁.setTop (mkF m 17 #[.val (.ref b), .val (.int ch), .val (.int (0 : Int32)), .val (.int (17 : Int32)), .val (.int (ch.toInt8.toInt32)), .val (.int (9 : Int32))] [(.int (45 : Int32))])) t
                      refine XS.iload X0.here hx rfl (hb hby own_d11_17) rfl ?_
                      exact kt
                    by_cases hc19''''''''' : (45 : Int32) = (ch.toInt8.toInt32)
                    · skip
                      have S60 : ∀ t, Steps p.tables e below (s₁.setTop (mkF m 24 #[.val (.ref b), .val (.int ch), .val (.int (0 : Int32)), .val (.int (17 : Int32)), .val (.int (ch.toInt8.toInt32)), .val (.int (9 : Int32))] [(.int (9 : Int32))])) t → Steps p.tables e below (s₁.setTop (entryFrame m #[(.ref b), (.int ch), (.int (0 : Int32)), (.int (17 : Int32))] 6)) t := fun t kt => by
                        refine S59 t ?_
                        show Steps p.tables e below (s₁.setTop (mkF m 19 #[.val (.ref b), .val (.int ch), .val (.int (0 : Int32)), .val (.int (17 : Int32)), .val (.int (ch.toInt8.toInt32)), .val (.int (9 : Int32))] [(.int (ch.toInt8.toInt32)), (.int (45 : Int32))])) t
                        refine XS.icmpNo X0.here hx rfl (hb hby own_d11_19) rfl (teq hc19''''''''').2 ?_
                        show Steps p.tables e below (s₁.setTop (mkF m 22 #[.val (.ref b), .val (.int ch), .val (.int (0 : Int32)), .val (.int (17 : Int32)), .val (.int (ch.toInt8.toInt32)), .val (.int (9 : Int32))] [])) t
                        refine XS.iload X0.here hx rfl (hb hby own_d11_22) rfl ?_
                        exact kt
                      obtain ⟨fs, hr, hrun, hended, hW, hsame⟩ := X0.leave (v := some (.int (9 : Int32))) (fun h => by rw [Bd.returns] at h; cases h)
                      refine ⟨_, _, S60 _ ?_, hrun, hended, _, _, rfl, ?_, ⟨_, rfl⟩, hW, hsame.mono (by decide) (by decide)⟩
                      · show Steps p.tables e below (s₁.setTop (mkF m 24 #[.val (.ref b), .val (.int ch), .val (.int (0 : Int32)), .val (.int (17 : Int32)), .val (.int (ch.toInt8.toInt32)), .val (.int (9 : Int32))] [(.int (9 : Int32))])) _
                        exact own_retI X0 hx Bd.returns (hb hby own_d11_24) hr
                      · show own_Q11 Z b ch kb h0 n0 _ s₁.heap _
                        rw [e0]
                        exact ⟨by unfold own_ic; rw [if_neg hc19, if_neg hc19', if_neg hc19'', if_neg hc19''', if_neg hc19'''', if_neg hc19''''', if_neg hc19'''''', if_neg hc19''''''', if_neg hc19'''''''', if_pos hc19'''''''''], rfl, rfl⟩
                    · skip
                      have S61 : ∀ t, Steps p.tables e below (s₁.setTop (mkF m 10 #[.val (.ref b), .val (.int ch), .val (.int (0 : Int32)), .val (.int (17 : Int32)), .val (.int (ch.toInt8.toInt32)), .val (.int (10 : Int32))] [(.int (17 : Int32)), (.int (10 : Int32))])) t → Steps p.tables e below (s₁.setTop (entryFrame m #[(.ref b), (.int ch), (.int (0 : Int32)), (.int (17 : Int32))] 6)) t := fun t kt => by
                        refine S59 t ?_
                        show Steps p.tables e below (s₁.setTop (mkF m 19 #[.val (.ref b), .val (.int ch), .val (.int (0 : Int32)), .val (.int (17 : Int32)), .val (.int (ch.toInt8.toInt32)), .val (.int (9 : Int32))] [(.int (ch.toInt8.toInt32)), (.int (45 : Int32))])) t
                        refine XS.icmpYes X0.here hx rfl (pc0 := 19) (pc' := 25) rfl (hb hby own_d11_19) rfl (feq hc19''''''''').2 (by decide) (by decide) ?_
                        show Steps p.tables e below (s₁.setTop (mkF m 25 #[.val (.ref b), .val (.int ch), .val (.int (0 : Int32)), .val (.int (17 : Int32)), .val (.int (ch.toInt8.toInt32)), .val (.int (9 : Int32))] [])) t
                        refine XS.iinc X0.here hx rfl (hb hby own_d11_25) rfl (l' := #[.val (.ref b), .val (.int ch), .val (.int (0 : Int32)), .val (.int (17 : Int32)), .val (.int (ch.toInt8.toInt32)), .val (.int (10 : Int32))]) rfl ?_
                        show Steps p.tables e below (s₁.setTop (mkF m 28 #[.val (.ref b), .val (.int ch), .val (.int (0 : Int32)), .val (.int (17 : Int32)), .val (.int (ch.toInt8.toInt32)), .val (.int (10 : Int32))] [])) t
                        refine XS.goto X0.here hx rfl (pc0 := 28) (pc' := 7) rfl (hb hby own_d11_28) (by decide) (by decide) ?_
                        show Steps p.tables e below (s₁.setTop (mkF m 7 #[.val (.ref b), .val (.int ch), .val (.int (0 : Int32)), .val (.int (17 : Int32)), .val (.int (ch.toInt8.toInt32)), .val (.int (10 : Int32))] [])) t
                        refine XS.iload X0.here hx rfl (hb hby own_d11_7) rfl ?_
                        show Steps p.tables e below (s₁.setTop (mkF m 9 #[.val (.ref b), .val (.int ch), .val (.int (0 : Int32)), .val (.int (17 : Int32)), .val (.int (ch.toInt8.toInt32)), .val (.int (10 : Int32))] [(.int (10 : Int32))])) t
                        refine XS.iloadN X0.here hx rfl (hb hby own_d11_9) rfl ?_
                        exact kt
                      have hc10_62 : (10 : Int32) < (17 : Int32) := by decide
                      have S64 : ∀ t, Steps p.tables e below (s₁.setTop (mkF m 16 #[.val (.ref b), .val (.int ch), .val (.int (0 : Int32)), .val (.int (17 : Int32)), .val (.int (ch.toInt8.toInt32)), .val (.int (10 : Int32))] [(.int (10 : Int32)), (.ref b)])) t → Steps p.tables e below (s₁.setTop (entryFrame m #[(.ref b), (.int ch), (.int (0 : Int32)), (.int (17 : Int32))] 6)) t := fun t kt => by
                        refine S61 t ?_
                        show Steps p.tables e below (s₁.setTop (mkF m 10 #[.val (.ref b), .val (.int ch), .val (.int (0 : Int32)), .val (.int (17 : Int32)), .val (.int (ch.toInt8.toInt32)), .val (.int (10 : Int32))] [(.int (17 : Int32)), (.int (10 : Int32))])) t
                        refine XS.icmpNo X0.here hx rfl (hb hby own_d11_10) rfl (tlt hc10_62).2.1 ?_
                        show Steps p.tables e below (s₁.setTop (mkF m 13 #[.val (.ref b), .val (.int ch), .val (.int (0 : Int32)), .val (.int (17 : Int32)), .val (.int (ch.toInt8.toInt32)), .val (.int (10 : Int32))] [])) t
                        refine XS.aloadN X0.here hx rfl (hb hby own_d11_13) rfl rfl ?_
                        show Steps p.tables e below (s₁.setTop (mkF m 14 #[.val (.ref b), .val (.int ch), .val (.int (0 : Int32)), .val (.int (17 : Int32)), .val (.int (ch.toInt8.toInt32)), .val (.int (10 : Int32))] [(.ref b)])) t
                        refine XS.iload X0.here hx rfl (hb hby own_d11_14) rfl ?_
                        exact kt
                      obtain ⟨cl63, Ar63, -, Sz63, Nn63, Hh63, -⟩ := id V_b
                      have hin63 : ¬ ((10 : Int32) < 0 ∨ cl63.slots.size ≤ ((10 : Int32)).toNatClampNeg) := inb_of Sz63 ⟨by decide, by decide⟩
                      have S65 : ∀ t, Steps p.tables e below (s₁.setTop (mkF m 19 #[.val (.ref b), .val (.int ch), .val (.int (0 : Int32)), .val (.int (17 : Int32)), .val (.int (ch.toInt8.toInt32)), .val (.int (10 : Int32))] [(.int (ch.toInt8.toInt32)), (.int (43 : Int32))])) t → Steps p.tables e below (s₁.setTop (entryFrame m #[(.ref b), (.int ch), (.int (0 : Int32)), (.int (17 : Int32))] 6)) t := fun t kt => by
                        refine S64 t ?_
                        show Steps p.tables e below (s₁.setTop (mkF m 16 #[.val (.ref b), .val (.int ch), .val (.int (0 : Int32)), .val (.int (17 : Int32)), .val (.int (ch.toInt8.toInt32)), .val (.int (10 : Int32))] [(.int (10 : Int32)), (.ref b)])) t
                        refine X0.baloadBytes hx (j := (10 : Int32)) (v := (.int (43 : Int32))) (by rw [e0]; exact Ar63.1) (State.isArrayOf_alike hZ.alike Ar63.2.1) Ar63.2.2 hin63 (Has.at Hh63 hin63 rfl) (g := (mkF m 16 #[.val (.ref b), .val (.int ch), .val (.int (0 : Int32)), .val (.int (17 : Int32)), .val (.int (ch.toInt8.toInt32)), .val (.int (10 : Int32))] [(.int (10 : Int32)), (.ref b)])) rfl rfl (hb hby own_d11_16) _ ?_
                        show Steps p.tables e below (s₁.setTop (mkF m 17 #[.val (.ref b), .val (.int ch), .val (.int (0 : Int32)), .val (.int (17 : Int32)), .val (.int (ch.toInt8.toInt32)), .val (.int (10 : Int32))] [(.int (43 : Int32))])) t
                        refine XS.iload X0.here hx rfl (hb hby own_d11_17) rfl ?_
                        exact kt
                      by_cases hc19'''''''''' : (43 : Int32) = (ch.toInt8.toInt32)
                      · skip
                        have S66 : ∀ t, Steps p.tables e below (s₁.setTop (mkF m 24 #[.val (.ref b), .val (.int ch), .val (.int (0 : Int32)), .val (.int (17 : Int32)), .val (.int (ch.toInt8.toInt32)), .val (.int (10 : Int32))] [(.int (10 : Int32))])) t → Steps p.tables e below (s₁.setTop (entryFrame m #[(.ref b), (.int ch), (.int (0 : Int32)), (.int (17 : Int32))] 6)) t := fun t kt => by
                          refine S65 t ?_
                          show Steps p.tables e below (s₁.setTop (mkF m 19 #[.val (.ref b), .val (.int ch), .val (.int (0 : Int32)), .val (.int (17 : Int32)), .val (.int (ch.toInt8.toInt32)), .val (.int (10 : Int32))] [(.int (ch.toInt8.toInt32)), (.int (43 : Int32))])) t
                          refine XS.icmpNo X0.here hx rfl (hb hby own_d11_19) rfl (teq hc19'''''''''').2 ?_
                          show Steps p.tables e below (s₁.setTop (mkF m 22 #[.val (.ref b), .val (.int ch), .val (.int (0 : Int32)), .val (.int (17 : Int32)), .val (.int (ch.toInt8.toInt32)), .val (.int (10 : Int32))] [])) t
                          refine XS.iload X0.here hx rfl (hb hby own_d11_22) rfl ?_
                          exact kt
                        obtain ⟨fs, hr, hrun, hended, hW, hsame⟩ := X0.leave (v := some (.int (10 : Int32))) (fun h => by rw [Bd.returns] at h; cases h)
                        refine ⟨_, _, S66 _ ?_, hrun, hended, _, _, rfl, ?_, ⟨_, rfl⟩, hW, hsame.mono (by decide) (by decide)⟩
                        · show Steps p.tables e below (s₁.setTop (mkF m 24 #[.val (.ref b), .val (.int ch), .val (.int (0 : Int32)), .val (.int (17 : Int32)), .val (.int (ch.toInt8.toInt32)), .val (.int (10 : Int32))] [(.int (10 : Int32))])) _
                          exact own_retI X0 hx Bd.returns (hb hby own_d11_24) hr
                        · show own_Q11 Z b ch kb h0 n0 _ s₁.heap _
                          rw [e0]
                          exact ⟨by unfold own_ic; rw [if_neg hc19, if_neg hc19', if_neg hc19'', if_neg hc19''', if_neg hc19'''', if_neg hc19''''', if_neg hc19'''''', if_neg hc19''''''', if_neg hc19'''''''', if_neg hc19''''''''', if_pos hc19''''''''''], rfl, rfl⟩
                      · skip
                        have S67 : ∀ t, Steps p.tables e below (s₁.setTop (mkF m 10 #[.val (.ref b), .val (.int ch), .val (.int (0 : Int32)), .val (.int (17 : Int32)), .val (.int (ch.toInt8.toInt32)), .val (.int (11 : Int32))] [(.int (17 : Int32)), (.int (11 : Int32))])) t → Steps p.tables e below (s₁.setTop (entryFrame m #[(.ref b), (.int ch), (.int (0 : Int32)), (.int (17 : Int32))] 6)) t := fun t kt => by
                          refine S65 t ?_
                          show Steps p.tables e below (s₁.setTop (mkF m 19 #[.val (.ref b), .val (.int ch), .val (.int (0 : Int32)), .val (.int (17 : Int32)), .val (.int (ch.toInt8.toInt32)), .val (.int (10 : Int32))] [(.int (ch.toInt8.toInt32)), (.int (43 : Int32))])) t
                          refine XS.icmpYes X0.here hx rfl (pc0 := 19) (pc' := 25) rfl (hb hby own_d11_19) rfl (feq hc19'''''''''').2 (by decide) (by decide) ?_
                          show Steps p.tables e below (s₁.setTop (mkF m 25 #[.val (.ref b), .val (.int ch), .val (.int (0 : Int32)), .val (.int (17 : Int32)), .val (.int (ch.toInt8.toInt32)), .val (.int (10 : Int32))] [])) t
                          refine XS.iinc X0.here hx rfl (hb hby own_d11_25) rfl (l' := #[.val (.ref b), .val (.int ch), .val (.int (0 : Int32)), .val (.int (17 : Int32)), .val (.int (ch.toInt8.toInt32)), .val (.int (11 : Int32))]) rfl ?_
                          show Steps p.tables e below (s₁.setTop (mkF m 28 #[.val (.ref b), .val (.int ch), .val (.int (0 : Int32)), .val (.int (17 : Int32)), .val (.int (ch.toInt8.toInt32)), .val (.int (11 : Int32))] [])) t
                          refine XS.goto X0.here hx rfl (pc0 := 28) (pc' := 7) rfl (hb hby own_d11_28) (by decide) (by decide) ?_
                          show Steps p.tables e below (s₁.setTop (mkF m 7 #[.val (.ref b), .val (.int ch), .val (.int (0 : Int32)), .val (.int (17 : Int32)), .val (.int (ch.toInt8.toInt32)), .val (.int (11 : Int32))] [])) t
                          refine XS.iload X0.here hx rfl (hb hby own_d11_7) rfl ?_
                          show Steps p.tables e below (s₁.setTop (mkF m 9 #[.val (.ref b), .val (.int ch), .val (.int (0 : Int32)), .val (.int (17 : Int32)), .val (.int (ch.toInt8.toInt32)), .val (.int (11 : Int32))] [(.int (11 : Int32))])) t
                          refine XS.iloadN X0.here hx rfl (hb hby own_d11_9) rfl ?_
                          exact kt
                        have hc10_68 : (11 : Int32) < (17 : Int32) := by decide
                        have S70 : ∀ t, Steps p.tables e below (s₁.setTop (mkF m 16 #[.val (.ref b), .val (.int ch), .val (.int (0 : Int32)), .val (.int (17 : Int32)), .val (.int (ch.toInt8.toInt32)), .val (.int (11 : Int32))] [(.int (11 : Int32)), (.ref b)])) t → Steps p.tables e below (s₁.setTop (entryFrame m #[(.ref b), (.int ch), (.int (0 : Int32)), (.int (17 : Int32))] 6)) t := fun t kt => by
                          refine S67 t ?_
                          show Steps p.tables e below (s₁.setTop (mkF m 10 #[.val (.ref b), .val (.int ch), .val (.int (0 : Int32)), .val (.int (17 : Int32)), .val (.int (ch.toInt8.toInt32)), .val (.int (11 : Int32))] [(.int (17 : Int32)), (.int (11 : Int32))])) t
                          refine XS.icmpNo X0.here hx rfl (hb hby own_d11_10) rfl (tlt hc10_68).2.1 ?_
                          show Steps p.tables e below (s₁.setTop (mkF m 13 #[.val (.ref b), .val (.int ch), .val (.int (0 : Int32)), .val (.int (17 : Int32)), .val (.int (ch.toInt8.toInt32)), .val (.int (11 : Int32))] [])) t
                          refine XS.aloadN X0.here hx rfl (hb hby own_d11_13) rfl rfl ?_
                          show Steps p.tables e below (s₁.setTop (mkF m 14 #[.val (.ref b), .val (.int ch), .val (.int (0 : Int32)), .val (.int (17 : Int32)), .val (.int (ch.toInt8.toInt32)), .val (.int (11 : Int32))] [(.ref b)])) t
                          refine XS.iload X0.here hx rfl (hb hby own_d11_14) rfl ?_
                          exact kt
                        obtain ⟨cl69, Ar69, -, Sz69, Nn69, Hh69, -⟩ := id V_b
                        have hin69 : ¬ ((11 : Int32) < 0 ∨ cl69.slots.size ≤ ((11 : Int32)).toNatClampNeg) := inb_of Sz69 ⟨by decide, by decide⟩
                        have S71 : ∀ t, Steps p.tables e below (s₁.setTop (mkF m 19 #[.val (.ref b), .val (.int ch), .val (.int (0 : Int32)), .val (.int (17 : Int32)), .val (.int (ch.toInt8.toInt32)), .val (.int (11 : Int32))] [(.int (ch.toInt8.toInt32)), (.int (61 : Int32))])) t → Steps p.tables e below (s₁.setTop (entryFrame m #[(.ref b), (.int ch), (.int (0 : Int32)), (.int (17 : Int32))] 6)) t := fun t kt => by
                          refine S70 t ?_
                          show Steps p.tables e below (s₁.setTop (mkF m 16 #[.val (.ref b), .val (.int ch), .val (.int (0 : Int32)), .val (.int (17 : Int32)), .val (.int (ch.toInt8.toInt32)), .val (.int (11 : Int32))] [(.int (11 : Int32)), (.ref b)])) t
                          refine X0.baloadBytes hx (j := (11 : Int32)) (v := (.int (61 : Int32))) (by rw [e0]; exact Ar69.1) (State.isArrayOf_alike hZ.alike Ar69.2.1) Ar69.2.2 hin69 (Has.at Hh69 hin69 rfl) (g := (mkF m 16 #[.val (.ref b), .val (.int ch), .val (.int (0 : Int32)), .val (.int (17 : Int32)), .val (.int (ch.toInt8.toInt32)), .val (.int (11 : Int32))] [(.int (11 : Int32)), (.ref b)])) rfl rfl (hb hby own_d11_16) _ ?_
                          show Steps p.tables e below (s₁.setTop (mkF m 17 #[.val (.ref b), .val (.int ch), .val (.int (0 : Int32)), .val (.int (17 : Int32)), .val (.int (ch.toInt8.toInt32)), .val (.int (11 : Int32))] [(.int (61 : Int32))])) t
                          refine XS.iload X0.here hx rfl (hb hby own_d11_17) rfl ?_
                          exact kt
                        by_cases hc19''''''''''' : (61 : Int32) = (ch.toInt8.toInt32)
                        · skip
                          have S72 : ∀ t, Steps p.tables e below (s₁.setTop (mkF m 24 #[.val (.ref b), .val (.int ch), .val (.int (0 : Int32)), .val (.int (17 : Int32)), .val (.int (ch.toInt8.toInt32)), .val (.int (11 : Int32))] [(.int (11 : Int32))])) t → Steps p.tables e below (s₁.setTop (entryFrame m #[(.ref b), (.int ch), (.int (0 : Int32)), (.int (17 : Int32))] 6)) t := fun t kt => by
                            refine S71 t ?_
                            show Steps p.tables e below (s₁.setTop (mkF m 19 #[.val (.ref b), .val (.int ch), .val (.int (0 : Int32)), .val (.int (17 : Int32)), .val (.int (ch.toInt8.toInt32)), .val (.int (11 : Int32))] [(.int (ch.toInt8.toInt32)), (.int (61 : Int32))])) t
                            refine XS.icmpNo X0.here hx rfl (hb hby own_d11_19) rfl (teq hc19''''''''''').2 ?_
                            show Steps p.tables e below (s₁.setTop (mkF m 22 #[.val (.ref b), .val (.int ch), .val (.int (0 : Int32)), .val (.int (17 : Int32)), .val (.int (ch.toInt8.toInt32)), .val (.int (11 : Int32))] [])) t
                            refine XS.iload X0.here hx rfl (hb hby own_d11_22) rfl ?_
                            exact kt
                          obtain ⟨fs, hr, hrun, hended, hW, hsame⟩ := X0.leave (v := some (.int (11 : Int32))) (fun h => by rw [Bd.returns] at h; cases h)
                          refine ⟨_, _, S72 _ ?_, hrun, hended, _, _, rfl, ?_, ⟨_, rfl⟩, hW, hsame.mono (by decide) (by decide)⟩
                          · show Steps p.tables e below (s₁.setTop (mkF m 24 #[.val (.ref b), .val (.int ch), .val (.int (0 : Int32)), .val (.int (17 : Int32)), .val (.int (ch.toInt8.toInt32)), .val (.int (11 : Int32))] [(.int (11 : Int32))])) _
                            exact own_retI X0 hx Bd.returns (hb hby own_d11_24) hr
                          · show own_Q11 Z b ch kb h0 n0 _ s₁.heap _
                            rw [e0]
                            exact ⟨by unfold own_ic; rw [if_neg hc19, if_neg hc19', if_neg hc19'', if_neg hc19''', if_neg hc19'''', if_neg hc19''''', if_neg hc19'''''', if_neg hc19''''''', if_neg hc19'''''''', if_neg hc19''''''''', if_neg hc19'''''''''', if_pos hc19'''''''''''], rfl, rfl⟩
                        · skip
                          have S73 : ∀ t, Steps p.tables e below (s₁.setTop (mkF m 10 #[.val (.ref b), .val (.int ch), .val (.int (0 : Int32)), .val (.int (17 : Int32)), .val (.int (ch.toInt8.toInt32)), .val (.int (12 : Int32))] [(.int (17 : Int32)), (.int (12 : Int32))])) t → Steps p.tables e below (s₁.setTop (entryFrame m #[(.ref b), (.int ch), (.int (0 : Int32)), (.int (17 : Int32))] 6)) t := fun t kt => by
                            refine S71 t ?_
                            show Steps p.tables e below (s₁.setTop (mkF m 19 #[.val (.ref b), .val (.int ch), .val (.int (0 : Int32)), .val (.int (17 : Int32)), .val (.int (ch.toInt8.toInt32)), .val (.int (11 : Int32))] [(.int (ch.toInt8.toInt32)), (.int (61 : Int32))])) t
                            refine XS.icmpYes X0.here hx rfl (pc0 := 19) (pc' := 25) rfl (hb hby own_d11_19) rfl (feq hc19''''''''''').2 (by decide) (by decide) ?_
                            show Steps p.tables e below (s₁.setTop (mkF m 25 #[.val (.ref b), .val (.int ch), .val (.int (0 : Int32)), .val (.int (17 : Int32)), .val (.int (ch.toInt8.toInt32)), .val (.int (11 : Int32))] [])) t
                            refine XS.iinc X0.here hx rfl (hb hby own_d11_25) rfl (l' := #[.val (.ref b), .val (.int ch), .val (.int (0 : Int32)), .val (.int (17 : Int32)), .val (.int (ch.toInt8.toInt32)), .val (.int (12 : Int32))]) rfl ?_
                            show Steps p.tables e below (s₁.setTop (mkF m 28 #[.val (.ref b), .val (.int ch), .val (.int (0 : Int32)), .val (.int (17 : Int32)), .val (.int (ch.toInt8.toInt32)), .val (.int (12 : Int32))] [])) t
                            refine XS.goto X0.here hx rfl (pc0 := 28) (pc' := 7) rfl (hb hby own_d11_28) (by decide) (by decide) ?_
                            show Steps p.tables e below (s₁.setTop (mkF m 7 #[.val (.ref b), .val (.int ch), .val (.int (0 : Int32)), .val (.int (17 : Int32)), .val (.int (ch.toInt8.toInt32)), .val (.int (12 : Int32))] [])) t
                            refine XS.iload X0.here hx rfl (hb hby own_d11_7) rfl ?_
                            show Steps p.tables e below (s₁.setTop (mkF m 9 #[.val (.ref b), .val (.int ch), .val (.int (0 : Int32)), .val (.int (17 : Int32)), .val (.int (ch.toInt8.toInt32)), .val (.int (12 : Int32))] [(.int (12 : Int32))])) t
                            refine XS.iloadN X0.here hx rfl (hb hby own_d11_9) rfl ?_
                            exact kt
                          have hc10_74 : (12 : Int32) < (17 : Int32) := by decide
                          have S76 : ∀ t, Steps p.tables e below (s₁.setTop (mkF m 16 #[.val (.ref b), .val (.int ch), .val (.int (0 : Int32)), .val (.int (17 : Int32)), .val (.int (ch.toInt8.toInt32)), .val (.int (12 : Int32))] [(.int (12 : Int32)), (.ref b)])) t → Steps p.tables e below (s₁.setTop (entryFrame m #[(.ref b), (.int ch), (.int (0 : Int32)), (.int (17 : Int32))] 6)) t := fun t kt => by
                            refine S73 t ?_
                            show Steps p.tables e below (s₁.setTop (mkF m 10 #[.val (.ref b), .val (.int ch), .val (.int (0 : Int32)), .val (.int (17 : Int32)), .val (.int (ch.toInt8.toInt32)), .val (.int (12 : Int32))] [(.int (17 : Int32)), (.int (12 : Int32))])) t
                            refine XS.icmpNo X0.here hx rfl (hb hby own_d11_10) rfl (tlt hc10_74).2.1 ?_
                            show Steps p.tables e below (s₁.setTop (mkF m 13 #[.val (.ref b), .val (.int ch), .val (.int (0 : Int32)), .val (.int (17 : Int32)), .val (.int (ch.toInt8.toInt32)), .val (.int (12 : Int32))] [])) t
                            refine XS.aloadN X0.here hx rfl (hb hby own_d11_13) rfl rfl ?_
                            show Steps p.tables e below (s₁.setTop (mkF m 14 #[.val (.ref b), .val (.int ch), .val (.int (0 : Int32)), .val (.int (17 : Int32)), .val (.int (ch.toInt8.toInt32)), .val (.int (12 : Int32))] [(.ref b)])) t
                            refine XS.iload X0.here hx rfl (hb hby own_d11_14) rfl ?_
                            exact kt
                          obtain ⟨cl75, Ar75, -, Sz75, Nn75, Hh75, -⟩ := id V_b
                          have hin75 : ¬ ((12 : Int32) < 0 ∨ cl75.slots.size ≤ ((12 : Int32)).toNatClampNeg) := inb_of Sz75 ⟨by decide, by decide⟩
                          have S77 : ∀ t, Steps p.tables e below (s₁.setTop (mkF m 19 #[.val (.ref b), .val (.int ch), .val (.int (0 : Int32)), .val (.int (17 : Int32)), .val (.int (ch.toInt8.toInt32)), .val (.int (12 : Int32))] [(.int (ch.toInt8.toInt32)), (.int (60 : Int32))])) t → Steps p.tables e below (s₁.setTop (entryFrame m #[(.ref b), (.int ch), (.int (0 : Int32)), (.int (17 : Int32))] 6)) t := fun t kt => by
                            refine S76 t ?_
                            show Steps p.tables e below (s₁.setTop (mkF m 16 #[.val (.ref b), .val (.int ch), .val (.int (0 : Int32)), .val (.int (17 : Int32)), .val (.int (ch.toInt8.toInt32)), .val (.int (12 : Int32))] [(.int (12 : Int32)), (.ref b)])) t
                            refine X0.baloadBytes hx (j := (12 : Int32)) (v := (.int (60 : Int32))) (by rw [e0]; exact Ar75.1) (State.isArrayOf_alike hZ.alike Ar75.2.1) Ar75.2.2 hin75 (Has.at Hh75 hin75 rfl) (g := (mkF m 16 #[.val (.ref b), .val (.int ch), .val (.int (0 : Int32)), .val (.int (17 : Int32)), .val (.int (ch.toInt8.toInt32)), .val (.int (12 : Int32))] [(.int (12 : Int32)), (.ref b)])) rfl rfl (hb hby own_d11_16) _ ?_
                            show Steps p.tables e below (s₁.setTop (mkF m 17 #[.val (.ref b), .val (.int ch), .val (.int (0 : Int32)), .val (.int (17 : Int32)), .val (.int (ch.toInt8.toInt32)), .val (.int (12 : Int32))] [(.int (60 : Int32))])) t
                            refine XS.iload X0.here hx rfl (hb hby own_d11_17) rfl ?_
                            exact kt
                          by_cases hc19'''''''''''' : (60 : Int32) = (ch.toInt8.toInt32)
                          · skip
                            have S78 : ∀ t, Steps p.tables e below (s₁.setTop (mkF m 24 #[.val (.ref b), .val (.int ch), .val (.int (0 : Int32)), .val (.int (17 : Int32)), .val (.int (ch.toInt8.toInt32)), .val (.int (12 : Int32))] [(.int (12 : Int32))])) t → Steps p.tables e below (s₁.setTop (entryFrame m #[(.ref b), (.int ch), (.int (0 : Int32)), (.int (17 : Int32))] 6)) t := fun t kt => by
                              refine S77 t ?_
                              show Steps p.tables e below (s₁.setTop (mkF m 19 #[.val (.ref b), .val (.int ch), .val (.int (0 : Int32)), .val (.int (17 : Int32)), .val (.int (ch.toInt8.toInt32)), .val (.int (12 : Int32))] [(.int (ch.toInt8.toInt32)), (.int (60 : Int32))])) t
                              refine XS.icmpNo X0.here hx rfl (hb hby own_d11_19) rfl (teq hc19'''''''''''').2 ?_
                              show Steps p.tables e below (s₁.setTop (mkF m 22 #[.val (.ref b), .val (.int ch), .val (.int (0 : Int32)), .val (.int (17 : Int32)), .val (.int (ch.toInt8.toInt32)), .val (.int (12 : Int32))] [])) t
                              refine XS.iload X0.here hx rfl (hb hby own_d11_22) rfl ?_
                              exact kt
                            obtain ⟨fs, hr, hrun, hended, hW, hsame⟩ := X0.leave (v := some (.int (12 : Int32))) (fun h => by rw [Bd.returns] at h; cases h)
                            refine ⟨_, _, S78 _ ?_, hrun, hended, _, _, rfl, ?_, ⟨_, rfl⟩, hW, hsame.mono (by decide) (by decide)⟩
                            · show Steps p.tables e below (s₁.setTop (mkF m 24 #[.val (.ref b), .val (.int ch), .val (.int (0 : Int32)), .val (.int (17 : Int32)), .val (.int (ch.toInt8.toInt32)), .val (.int (12 : Int32))] [(.int (12 : Int32))])) _
                              exact own_retI X0 hx Bd.returns (hb hby own_d11_24) hr
                            · show own_Q11 Z b ch kb h0 n0 _ s₁.heap _
                              rw [e0]
                              exact ⟨by unfold own_ic; rw [if_neg hc19, if_neg hc19', if_neg hc19'', if_neg hc19''', if_neg hc19'''', if_neg hc19''''', if_neg hc19'''''', if_neg hc19''''''', if_neg hc19'''''''', if_neg hc19''''''''', if_neg hc19'''''''''', if_neg hc19''''''''''', if_pos hc19''''''''''''], rfl, rfl⟩
                          · skip
                            have S79 : ∀ t, Steps p.tables e below (s₁.setTop (mkF m 10 #[.val (.ref b), .val (.int ch), .val (.int (0 : Int32)), .val (.int (17 : Int32)), .val (.int (ch.toInt8.toInt32)), .val (.int (13 : Int32))] [(.int (17 : Int32)), (.int (13 : Int32))])) t → Steps p.tables e below (s₁.setTop (entryFrame m #[(.ref b), (.int ch), (.int (0 : Int32)), (.int (17 : Int32))] 6)) t := fun t kt => by
                              refine S77 t ?_
                              show Steps p.tables e below (s₁.setTop (mkF m 19 #[.val (.ref b), .val (.int ch), .val (.int (0 : Int32)), .val (.int (17 : Int32)), .val (.int (ch.toInt8.toInt32)), .val (.int (12 : Int32))] [(.int (ch.toInt8.toInt32)), (.int (60 : Int32))])) t
                              refine XS.icmpYes X0.here hx rfl (pc0 := 19) (pc' := 25) rfl (hb hby own_d11_19) rfl (feq hc19'''''''''''').2 (by decide) (by decide) ?_
                              show Steps p.tables e below (s₁.setTop (mkF m 25 #[.val (.ref b), .val (.int ch), .val (.int (0 : Int32)), .val (.int (17 : Int32)), .val (.int (ch.toInt8.toInt32)), .val (.int (12 : Int32))] [])) t
                              refine XS.iinc X0.here hx rfl (hb hby own_d11_25) rfl (l' := #[.val (.ref b), .val (.int ch), .val (.int (0 : Int32)), .val (.int (17 : Int32)), .val (.int (ch.toInt8.toInt32)), .val (.int (13 : Int32))]) rfl ?_
                              show Steps p.tables e below (s₁.setTop (mkF m 28 #[.val (.ref b), .val (.int ch), .val (.int (0 : Int32)), .val (.int (17 : Int32)), .val (.int (ch.toInt8.toInt32)), .val (.int (13 : Int32))] [])) t
                              refine XS.goto X0.here hx rfl (pc0 := 28) (pc' := 7) rfl (hb hby own_d11_28) (by decide) (by decide) ?_
                              show Steps p.tables e below (s₁.setTop (mkF m 7 #[.val (.ref b), .val (.int ch), .val (.int (0 : Int32)), .val (.int (17 : Int32)), .val (.int (ch.toInt8.toInt32)), .val (.int (13 : Int32))] [])) t
                              refine XS.iload X0.here hx rfl (hb hby own_d11_7) rfl ?_
                              show Steps p.tables e below (s₁.setTop (mkF m 9 #[.val (.ref b), .val (.int ch), .val (.int (0 : Int32)), .val (.int (17 : Int32)), .val (.int (ch.toInt8.toInt32)), .val (.int (13 : Int32))] [(.int (13 : Int32))])) t
                              refine XS.iloadN X0.here hx rfl (hb hby own_d11_9) rfl ?_
                              exact kt
                            have hc10_80 : (13 : Int32) < (17 : Int32) := by decide
                            have S82 : ∀ t, Steps p.tables e below (s₁.setTop (mkF m 16 #[.val (.ref b), .val (.int ch), .val (.int (0 : Int32)), .val (.int (17 : Int32)), .val (.int (ch.toInt8.toInt32)), .val (.int (13 : Int32))] [(.int (13 : Int32)), (.ref b)])) t → Steps p.tables e below (s₁.setTop (entryFrame m #[(.ref b), (.int ch), (.int (0 : Int32)), (.int (17 : Int32))] 6)) t := fun t kt => by
                              refine S79 t ?_
                              show Steps p.tables e below (s₁.setTop (mkF m 10 #[.val (.ref b), .val (.int ch), .val (.int (0 : Int32)), .val (.int (17 : Int32)), .val (.int (ch.toInt8.toInt32)), .val (.int (13 : Int32))] [(.int (17 : Int32)), (.int (13 : Int32))])) t
                              refine XS.icmpNo X0.here hx rfl (hb hby own_d11_10) rfl (tlt hc10_80).2.1 ?_
                              show Steps p.tables e below (s₁.setTop (mkF m 13 #[.val (.ref b), .val (.int ch), .val (.int (0 : Int32)), .val (.int (17 : Int32)), .val (.int (ch.toInt8.toInt32)), .val (.int (13 : Int32))] [])) t
                              refine XS.aloadN X0.here hx rfl (hb hby own_d11_13) rfl rfl ?_
                              show Steps p.tables e below (s₁.setTop (mkF m 14 #[.val (.ref b), .val (.int ch), .val (.int (0 : Int32)), .val (.int (17 : Int32)), .val (.int (ch.toInt8.toInt32)), .val (.int (13 : Int32))] [(.ref b)])) t
                              refine XS.iload X0.here hx rfl (hb hby own_d11_14) rfl ?_
                              exact kt
                            obtain ⟨cl81, Ar81, -, Sz81, Nn81, Hh81, -⟩ := id V_b
                            have hin81 : ¬ ((13 : Int32) < 0 ∨ cl81.slots.size ≤ ((13 : Int32)).toNatClampNeg) := inb_of Sz81 ⟨by decide, by decide⟩
                            have S83 : ∀ t, Steps p.tables e below (s₁.setTop (mkF m 19 #[.val (.ref b), .val (.int ch), .val (.int (0 : Int32)), .val (.int (17 : Int32)), .val (.int (ch.toInt8.toInt32)), .val (.int (13 : Int32))] [(.int (ch.toInt8.toInt32)), (.int (62 : Int32))])) t → Steps p.tables e below (s₁.setTop (entryFrame m #[(.ref b), (.int ch), (.int (0 : Int32)), (.int (17 : Int32))] 6)) t := fun t kt => by
                              refine S82 t ?_
                              show Steps p.tables e below (s₁.setTop (mkF m 16 #[.val (.ref b), .val (.int ch), .val (.int (0 : Int32)), .val (.int (17 : Int32)), .val (.int (ch.toInt8.toInt32)), .val (.int (13 : Int32))] [(.int (13 : Int32)), (.ref b)])) t
                              refine X0.baloadBytes hx (j := (13 : Int32)) (v := (.int (62 : Int32))) (by rw [e0]; exact Ar81.1) (State.isArrayOf_alike hZ.alike Ar81.2.1) Ar81.2.2 hin81 (Has.at Hh81 hin81 rfl) (g := (mkF m 16 #[.val (.ref b), .val (.int ch), .val (.int (0 : Int32)), .val (.int (17 : Int32)), .val (.int (ch.toInt8.toInt32)), .val (.int (13 : Int32))] [(.int (13 : Int32)), (.ref b)])) rfl rfl (hb hby own_d11_16) _ ?_
                              show Steps p.tables e below (s₁.setTop (mkF m 17 #[.val (.ref b), .val (.int ch), .val (.int (0 : Int32)), .val (.int (17 : Int32)), .val (.int (ch.toInt8.toInt32)), .val (.int (13 : Int32))] [(.int (62 : Int32))])) t
                              refine XS.iload X0.here hx rfl (hb hby own_d11_17) rfl ?_
                              exact kt
                            by_cases hc19''''''''''''' : (62 : Int32) = (ch.toInt8.toInt32)
                            · skip
                              have S84 : ∀ t, Steps p.tables e below (s₁.setTop (mkF m 24 #[.val (.ref b), .val (.int ch), .val (.int (0 : Int32)), .val (.int (17 : Int32)), .val (.int (ch.toInt8.toInt32)), .val (.int (13 : Int32))] [(.int (13 : Int32))])) t → Steps p.tables e below (s₁.setTop (entryFrame m #[(.ref b), (.int ch), (.int (0 : Int32)), (.int (17 : Int32))] 6)) t := fun t kt => by
                                refine S83 t ?_
                                show Steps p.tables e below (s₁.setTop (mkF m 19 #[.val (.ref b), .val (.int ch), .val (.int (0 : Int32)), .val (.int (17 : Int32)), .val (.int (ch.toInt8.toInt32)), .val (.int (13 : Int32))] [(.int (ch.toInt8.toInt32)), (.int (62 : Int32))])) t
                                refine XS.icmpNo X0.here hx rfl (hb hby own_d11_19) rfl (teq hc19''''''''''''').2 ?_
                                show Steps p.tables e below (s₁.setTop (mkF m 22 #[.val (.ref b), .val (.int ch), .val (.int (0 : Int32)), .val (.int (17 : Int32)), .val (.int (ch.toInt8.toInt32)), .val (.int (13 : Int32))] [])) t
                                refine XS.iload X0.here hx rfl (hb hby own_d11_22) rfl ?_
                                exact kt
                              obtain ⟨fs, hr, hrun, hended, hW, hsame⟩ := X0.leave (v := some (.int (13 : Int32))) (fun h => by rw [Bd.returns] at h; cases h)
                              refine ⟨_, _, S84 _ ?_, hrun, hended, _, _, rfl, ?_, ⟨_, rfl⟩, hW, hsame.mono (by decide) (by decide)⟩
                              · show Steps p.tables e below (s₁.setTop (mkF m 24 #[.val (.ref b), .val (.int ch), .val (.int (0 : Int32)), .val (.int (17 : Int32)), .val (.int (ch.toInt8.toInt32)), .val (.int (13 : Int32))] [(.int (13 : Int32))])) _
                                exact own_retI X0 hx Bd.returns (hb hby own_d11_24) hr
                              · show own_Q11 Z b ch kb h0 n0 _ s₁.heap _
                                rw [e0]
                                exact ⟨by unfold own_ic; rw [if_neg hc19, if_neg hc19', if_neg hc19'', if_neg hc19''', if_neg hc19'''', if_neg hc19''''', if_neg hc19'''''', if_neg hc19''''''', if_neg hc19'''''''', if_neg hc19''''''''', if_neg hc19'''''''''', if_neg hc19''''''''''', if_neg hc19'''''''''''', if_pos hc19'''''''''''''], rfl, rfl⟩
                            · skip
                              have S85 : ∀ t, Steps p.tables e below (s₁.setTop (mkF m 10 #[.val (.ref b), .val (.int ch), .val (.int (0 : Int32)), .val (.int (17 : Int32)), .val (.int (ch.toInt8.toInt32)), .val (.int (14 : Int32))] [(.int (17 : Int32)), (.int (14 : Int32))])) t → Steps p.tables e below (s₁.setTop (entryFrame m #[(.ref b), (.int ch), (.int (0 : Int32)), (.int (17 : Int32))] 6)) t := fun t kt => by
                                refine S83 t ?_
                                show Steps p.tables e below (s₁.setTop (mkF m 19 #[.val (.ref b), .val (.int ch), .val (.int (0 : Int32)), .val (.int (17 : Int32)), .val (.int (ch.toInt8.toInt32)), .val (.int (13 : Int32))] [(.int (ch.toInt8.toInt32)), (.int (62 : Int32))])) t
                                refine XS.icmpYes X0.here hx rfl (pc0 := 19) (pc' := 25) rfl (hb hby own_d11_19) rfl (feq hc19''''''''''''').2 (by decide) (by decide) ?_
                                show Steps p.tables e below (s₁.setTop (mkF m 25 #[.val (.ref b), .val (.int ch), .val (.int (0 : Int32)), .val (.int (17 : Int32)), .val (.int (ch.toInt8.toInt32)), .val (.int (13 : Int32))] [])) t
                                refine XS.iinc X0.here hx rfl (hb hby own_d11_25) rfl (l' := #[.val (.ref b), .val (.int ch), .val (.int (0 : Int32)), .val (.int (17 : Int32)), .val (.int (ch.toInt8.toInt32)), .val (.int (14 : Int32))]) rfl ?_
                                show Steps p.tables e below (s₁.setTop (mkF m 28 #[.val (.ref b), .val (.int ch), .val (.int (0 : Int32)), .val (.int (17 : Int32)), .val (.int (ch.toInt8.toInt32)), .val (.int (14 : Int32))] [])) t
                                refine XS.goto X0.here hx rfl (pc0 := 28) (pc' := 7) rfl (hb hby own_d11_28) (by decide) (by decide) ?_
                                show Steps p.tables e below (s₁.setTop (mkF m 7 #[.val (.ref b), .val (.int ch), .val (.int (0 : Int32)), .val (.int (17 : Int32)), .val (.int (ch.toInt8.toInt32)), .val (.int (14 : Int32))] [])) t
                                refine XS.iload X0.here hx rfl (hb hby own_d11_7) rfl ?_
                                show Steps p.tables e below (s₁.setTop (mkF m 9 #[.val (.ref b), .val (.int ch), .val (.int (0 : Int32)), .val (.int (17 : Int32)), .val (.int (ch.toInt8.toInt32)), .val (.int (14 : Int32))] [(.int (14 : Int32))])) t
                                refine XS.iloadN X0.here hx rfl (hb hby own_d11_9) rfl ?_
                                exact kt
                              have hc10_86 : (14 : Int32) < (17 : Int32) := by decide
                              have S88 : ∀ t, Steps p.tables e below (s₁.setTop (mkF m 16 #[.val (.ref b), .val (.int ch), .val (.int (0 : Int32)), .val (.int (17 : Int32)), .val (.int (ch.toInt8.toInt32)), .val (.int (14 : Int32))] [(.int (14 : Int32)), (.ref b)])) t → Steps p.tables e below (s₁.setTop (entryFrame m #[(.ref b), (.int ch), (.int (0 : Int32)), (.int (17 : Int32))] 6)) t := fun t kt => by
                                refine S85 t ?_
                                show Steps p.tables e below (s₁.setTop (mkF m 10 #[.val (.ref b), .val (.int ch), .val (.int (0 : Int32)), .val (.int (17 : Int32)), .val (.int (ch.toInt8.toInt32)), .val (.int (14 : Int32))] [(.int (17 : Int32)), (.int (14 : Int32))])) t
                                refine XS.icmpNo X0.here hx rfl (hb hby own_d11_10) rfl (tlt hc10_86).2.1 ?_
                                show Steps p.tables e below (s₁.setTop (mkF m 13 #[.val (.ref b), .val (.int ch), .val (.int (0 : Int32)), .val (.int (17 : Int32)), .val (.int (ch.toInt8.toInt32)), .val (.int (14 : Int32))] [])) t
                                refine XS.aloadN X0.here hx rfl (hb hby own_d11_13) rfl rfl ?_
                                show Steps p.tables e below (s₁.setTop (mkF m 14 #[.val (.ref b), .val (.int ch), .val (.int (0 : Int32)), .val (.int (17 : Int32)), .val (.int (ch.toInt8.toInt32)), .val (.int (14 : Int32))] [(.ref b)])) t
                                refine XS.iload X0.here hx rfl (hb hby own_d11_14) rfl ?_
                                exact kt
                              obtain ⟨cl87, Ar87, -, Sz87, Nn87, Hh87, -⟩ := id V_b
                              have hin87 : ¬ ((14 : Int32) < 0 ∨ cl87.slots.size ≤ ((14 : Int32)).toNatClampNeg) := inb_of Sz87 ⟨by decide, by decide⟩
                              have S89 : ∀ t, Steps p.tables e below (s₁.setTop (mkF m 19 #[.val (.ref b), .val (.int ch), .val (.int (0 : Int32)), .val (.int (17 : Int32)), .val (.int (ch.toInt8.toInt32)), .val (.int (14 : Int32))] [(.int (ch.toInt8.toInt32)), (.int (46 : Int32))])) t → Steps p.tables e below (s₁.setTop (entryFrame m #[(.ref b), (.int ch), (.int (0 : Int32)), (.int (17 : Int32))] 6)) t := fun t kt => by
                                refine S88 t ?_
                                show Steps p.tables e below (s₁.setTop (mkF m 16 #[.val (.ref b), .val (.int ch), .val (.int (0 : Int32)), .val (.int (17 : Int32)), .val (.int (ch.toInt8.toInt32)), .val (.int (14 : Int32))] [(.int (14 : Int32)), (.ref b)])) t
                                refine X0.baloadBytes hx (j := (14 : Int32)) (v := (.int (46 : Int32))) (by rw [e0]; exact Ar87.1) (State.isArrayOf_alike hZ.alike Ar87.2.1) Ar87.2.2 hin87 (Has.at Hh87 hin87 rfl) (g := (mkF m 16 #[.val (.ref b), .val (.int ch), .val (.int (0 : Int32)), .val (.int (17 : Int32)), .val (.int (ch.toInt8.toInt32)), .val (.int (14 : Int32))] [(.int (14 : Int32)), (.ref b)])) rfl rfl (hb hby own_d11_16) _ ?_
                                show Steps p.tables e below (s₁.setTop (mkF m 17 #[.val (.ref b), .val (.int ch), .val (.int (0 : Int32)), .val (.int (17 : Int32)), .val (.int (ch.toInt8.toInt32)), .val (.int (14 : Int32))] [(.int (46 : Int32))])) t
                                refine XS.iload X0.here hx rfl (hb hby own_d11_17) rfl ?_
                                exact kt
                              by_cases hc19'''''''''''''' : (46 : Int32) = (ch.toInt8.toInt32)
                              · skip
                                have S90 : ∀ t, Steps p.tables e below (s₁.setTop (mkF m 24 #[.val (.ref b), .val (.int ch), .val (.int (0 : Int32)), .val (.int (17 : Int32)), .val (.int (ch.toInt8.toInt32)), .val (.int (14 : Int32))] [(.int (14 : Int32))])) t → Steps p.tables e below (s₁.setTop (entryFrame m #[(.ref b), (.int ch), (.int (0 : Int32)), (.int (17 : Int32))] 6)) t := fun t kt => by
                                  refine S89 t ?_
                                  show Steps p.tables e below (s₁.setTop (mkF m 19 #[.val (.ref b), .val (.int ch), .val (.int (0 : Int32)), .val (.int (17 : Int32)), .val (.int (ch.toInt8.toInt32)), .val (.int (14 : Int32))] [(.int (ch.toInt8.toInt32)), (.int (46 : Int32))])) t
                                  refine XS.icmpNo X0.here hx rfl (hb hby own_d11_19) rfl (teq hc19'''''''''''''').2 ?_
                                  show Steps p.tables e below (s₁.setTop (mkF m 22 #[.val (.ref b), .val (.int ch), .val (.int (0 : Int32)), .val (.int (17 : Int32)), .val (.int (ch.toInt8.toInt32)), .val (.int (14 : Int32))] [])) t
                                  refine XS.iload X0.here hx rfl (hb hby own_d11_22) rfl ?_
                                  exact kt
                                obtain ⟨fs, hr, hrun, hended, hW, hsame⟩ := X0.leave (v := some (.int (14 : Int32))) (fun h => by rw [Bd.returns] at h; cases h)
                                refine ⟨_, _, S90 _ ?_, hrun, hended, _, _, rfl, ?_, ⟨_, rfl⟩, hW, hsame.mono (by decide) (by decide)⟩
                                · show Steps p.tables e below (s₁.setTop (mkF m 24 #[.val (.ref b), .val (.int ch), .val (.int (0 : Int32)), .val (.int (17 : Int32)), .val (.int (ch.toInt8.toInt32)), .val (.int (14 : Int32))] [(.int (14 : Int32))])) _
                                  exact own_retI X0 hx Bd.returns (hb hby own_d11_24) hr
                                · show own_Q11 Z b ch kb h0 n0 _ s₁.heap _
                                  rw [e0]
                                  exact ⟨by unfold own_ic; rw [if_neg hc19, if_neg hc19', if_neg hc19'', if_neg hc19''', if_neg hc19'''', if_neg hc19''''', if_neg hc19'''''', if_neg hc19''''''', if_neg hc19'''''''', if_neg hc19''''''''', if_neg hc19'''''''''', if_neg hc19''''''''''', if_neg hc19'''''''''''', if_neg hc19''''''''''''', if_pos hc19''''''''''''''], rfl, rfl⟩
                              · skip
                                have S91 : ∀ t, Steps p.tables e below (s₁.setTop (mkF m 10 #[.val (.ref b), .val (.int ch), .val (.int (0 : Int32)), .val (.int (17 : Int32)), .val (.int (ch.toInt8.toInt32)), .val (.int (15 : Int32))] [(.int (17 : Int32)), (.int (15 : Int32))])) t → Steps p.tables e below (s₁.setTop (entryFrame m #[(.ref b), (.int ch), (.int (0 : Int32)), (.int (17 : Int32))] 6)) t := fun t kt => by
                                  refine S89 t ?_
                                  show Steps p.tables e below (s₁.setTop (mkF m 19 #[.val (.ref b), .val (.int ch), .val (.int (0 : Int32)), .val (.int (17 : Int32)), .val (.int (ch.toInt8.toInt32)), .val (.int (14 : Int32))] [(.int (ch.toInt8.toInt32)), (.int (46 : Int32))])) t
                                  refine XS.icmpYes X0.here hx rfl (pc0 := 19) (pc' := 25) rfl (hb hby own_d11_19) rfl (feq hc19'''''''''''''').2 (by decide) (by decide) ?_
                                  show Steps p.tables e below (s₁.setTop (mkF m 25 #[.val (.ref b), .val (.int ch), .val (.int (0 : Int32)), .val (.int (17 : Int32)), .val (.int (ch.toInt8.toInt32)), .val (.int (14 : Int32))] [])) t
                                  refine XS.iinc X0.here hx rfl (hb hby own_d11_25) rfl (l' := #[.val (.ref b), .val (.int ch), .val (.int (0 : Int32)), .val (.int (17 : Int32)), .val (.int (ch.toInt8.toInt32)), .val (.int (15 : Int32))]) rfl ?_
                                  show Steps p.tables e below (s₁.setTop (mkF m 28 #[.val (.ref b), .val (.int ch), .val (.int (0 : Int32)), .val (.int (17 : Int32)), .val (.int (ch.toInt8.toInt32)), .val (.int (15 : Int32))] [])) t
                                  refine XS.goto X0.here hx rfl (pc0 := 28) (pc' := 7) rfl (hb hby own_d11_28) (by decide) (by decide) ?_
                                  show Steps p.tables e below (s₁.setTop (mkF m 7 #[.val (.ref b), .val (.int ch), .val (.int (0 : Int32)), .val (.int (17 : Int32)), .val (.int (ch.toInt8.toInt32)), .val (.int (15 : Int32))] [])) t
                                  refine XS.iload X0.here hx rfl (hb hby own_d11_7) rfl ?_
                                  show Steps p.tables e below (s₁.setTop (mkF m 9 #[.val (.ref b), .val (.int ch), .val (.int (0 : Int32)), .val (.int (17 : Int32)), .val (.int (ch.toInt8.toInt32)), .val (.int (15 : Int32))] [(.int (15 : Int32))])) t
                                  refine XS.iloadN X0.here hx rfl (hb hby own_d11_9) rfl ?_
                                  exact kt
                                have hc10_92 : (15 : Int32) < (17 : Int32) := by decide
                                have S94 : ∀ t, Steps p.tables e below (s₁.setTop (mkF m 16 #[.val (.ref b), .val (.int ch), .val (.int (0 : Int32)), .val (.int (17 : Int32)), .val (.int (ch.toInt8.toInt32)), .val (.int (15 : Int32))] [(.int (15 : Int32)), (.ref b)])) t → Steps p.tables e below (s₁.setTop (entryFrame m #[(.ref b), (.int ch), (.int (0 : Int32)), (.int (17 : Int32))] 6)) t := fun t kt => by
                                  refine S91 t ?_
                                  show Steps p.tables e below (s₁.setTop (mkF m 10 #[.val (.ref b), .val (.int ch), .val (.int (0 : Int32)), .val (.int (17 : Int32)), .val (.int (ch.toInt8.toInt32)), .val (.int (15 : Int32))] [(.int (17 : Int32)), (.int (15 : Int32))])) t
                                  refine XS.icmpNo X0.here hx rfl (hb hby own_d11_10) rfl (tlt hc10_92).2.1 ?_
                                  show Steps p.tables e below (s₁.setTop (mkF m 13 #[.val (.ref b), .val (.int ch), .val (.int (0 : Int32)), .val (.int (17 : Int32)), .val (.int (ch.toInt8.toInt32)), .val (.int (15 : Int32))] [])) t
                                  refine XS.aloadN X0.here hx rfl (hb hby own_d11_13) rfl rfl ?_
                                  show Steps p.tables e below (s₁.setTop (mkF m 14 #[.val (.ref b), .val (.int ch), .val (.int (0 : Int32)), .val (.int (17 : Int32)), .val (.int (ch.toInt8.toInt32)), .val (.int (15 : Int32))] [(.ref b)])) t
                                  refine XS.iload X0.here hx rfl (hb hby own_d11_14) rfl ?_
                                  exact kt
                                obtain ⟨cl93, Ar93, -, Sz93, Nn93, Hh93, -⟩ := id V_b
                                have hin93 : ¬ ((15 : Int32) < 0 ∨ cl93.slots.size ≤ ((15 : Int32)).toNatClampNeg) := inb_of Sz93 ⟨by decide, by decide⟩
                                have S95 : ∀ t, Steps p.tables e below (s₁.setTop (mkF m 19 #[.val (.ref b), .val (.int ch), .val (.int (0 : Int32)), .val (.int (17 : Int32)), .val (.int (ch.toInt8.toInt32)), .val (.int (15 : Int32))] [(.int (ch.toInt8.toInt32)), (.int (63 : Int32))])) t → Steps p.tables e below (s₁.setTop (entryFrame m #[(.ref b), (.int ch), (.int (0 : Int32)), (.int (17 : Int32))] 6)) t := fun t kt => by
                                  refine S94 t ?_
                                  show Steps p.tables e below (s₁.setTop (mkF m 16 #[.val (.ref b), .val (.int ch), .val (.int (0 : Int32)), .val (.int (17 : Int32)), .val (.int (ch.toInt8.toInt32)), .val (.int (15 : Int32))] [(.int (15 : Int32)), (.ref b)])) t
                                  refine X0.baloadBytes hx (j := (15 : Int32)) (v := (.int (63 : Int32))) (by rw [e0]; exact Ar93.1) (State.isArrayOf_alike hZ.alike Ar93.2.1) Ar93.2.2 hin93 (Has.at Hh93 hin93 rfl) (g := (mkF m 16 #[.val (.ref b), .val (.int ch), .val (.int (0 : Int32)), .val (.int (17 : Int32)), .val (.int (ch.toInt8.toInt32)), .val (.int (15 : Int32))] [(.int (15 : Int32)), (.ref b)])) rfl rfl (hb hby own_d11_16) _ ?_
                                  show Steps p.tables e below (s₁.setTop (mkF m 17 #[.val (.ref b), .val (.int ch), .val (.int (0 : Int32)), .val (.int (17 : Int32)), .val (.int (ch.toInt8.toInt32)), .val (.int (15 : Int32))] [(.int (63 : Int32))])) t
                                  refine XS.iload X0.here hx rfl (hb hby own_d11_17) rfl ?_
                                  exact kt
                                by_cases hc19''''''''''''''' : (63 : Int32) = (ch.toInt8.toInt32)
                                · skip
                                  have S96 : ∀ t, Steps p.tables e below (s₁.setTop (mkF m 24 #[.val (.ref b), .val (.int ch), .val (.int (0 : Int32)), .val (.int (17 : Int32)), .val (.int (ch.toInt8.toInt32)), .val (.int (15 : Int32))] [(.int (15 : Int32))])) t → Steps p.tables e below (s₁.setTop (entryFrame m #[(.ref b), (.int ch), (.int (0 : Int32)), (.int (17 : Int32))] 6)) t := fun t kt => by
                                    refine S95 t ?_
                                    show Steps p.tables e below (s₁.setTop (mkF m 19 #[.val (.ref b), .val (.int ch), .val (.int (0 : Int32)), .val (.int (17 : Int32)), .val (.int (ch.toInt8.toInt32)), .val (.int (15 : Int32))] [(.int (ch.toInt8.toInt32)), (.int (63 : Int32))])) t
                                    refine XS.icmpNo X0.here hx rfl (hb hby own_d11_19) rfl (teq hc19''''''''''''''').2 ?_
                                    show Steps p.tables e below (s₁.setTop (mkF m 22 #[.val (.ref b), .val (.int ch), .val (.int (0 : Int32)), .val (.int (17 : Int32)), .val (.int (ch.toInt8.toInt32)), .val (.int (15 : Int32))] [])) t
                                    refine XS.iload X0.here hx rfl (hb hby own_d11_22) rfl ?_
                                    exact kt
                                  obtain ⟨fs, hr, hrun, hended, hW, hsame⟩ := X0.leave (v := some (.int (15 : Int32))) (fun h => by rw [Bd.returns] at h; cases h)
                                  refine ⟨_, _, S96 _ ?_, hrun, hended, _, _, rfl, ?_, ⟨_, rfl⟩, hW, hsame.mono (by decide) (by decide)⟩
                                  · show Steps p.tables e below (s₁.setTop (mkF m 24 #[.val (.ref b), .val (.int ch), .val (.int (0 : Int32)), .val (.int (17 : Int32)), .val (.int (ch.toInt8.toInt32)), .val (.int (15 : Int32))] [(.int (15 : Int32))])) _
                                    exact own_retI X0 hx Bd.returns (hb hby own_d11_24) hr
                                  · show own_Q11 Z b ch kb h0 n0 _ s₁.heap _
                                    rw [e0]
                                    exact ⟨by unfold own_ic; rw [if_neg hc19, if_neg hc19', if_neg hc19'', if_neg hc19''', if_neg hc19'''', if_neg hc19''''', if_neg hc19'''''', if_neg hc19''''''', if_neg hc19'''''''', if_neg hc19''''''''', if_neg hc19'''''''''', if_neg hc19''''''''''', if_neg hc19'''''''''''', if_neg hc19''''''''''''', if_neg hc19'''''''''''''', if_pos hc19'''''''''''''''], rfl, rfl⟩
                                · skip
                                  have S97 : ∀ t, Steps p.tables e below (s₁.setTop (mkF m 10 #[.val (.ref b), .val (.int ch), .val (.int (0 : Int32)), .val (.int (17 : Int32)), .val (.int (ch.toInt8.toInt32)), .val (.int (16 : Int32))] [(.int (17 : Int32)), (.int (16 : Int32))])) t → Steps p.tables e below (s₁.setTop (entryFrame m #[(.ref b), (.int ch), (.int (0 : Int32)), (.int (17 : Int32))] 6)) t := fun t kt => by
                                    refine S95 t ?_
                                    show Steps p.tables e below (s₁.setTop (mkF m 19 #[.val (.ref b), .val (.int ch), .val (.int (0 : Int32)), .val (.int (17 : Int32)), .val (.int (ch.toInt8.toInt32)), .val (.int (15 : Int32))] [(.int (ch.toInt8.toInt32)), (.int (63 : Int32))])) t
                                    refine XS.icmpYes X0.here hx rfl (pc0 := 19) (pc' := 25) rfl (hb hby own_d11_19) rfl (feq hc19''''''''''''''').2 (by decide) (by decide) ?_
                                    show Steps p.tables e below (s₁.setTop (mkF m 25 #[.val (.ref b), .val (.int ch), .val (.int (0 : Int32)), .val (.int (17 : Int32)), .val (.int (ch.toInt8.toInt32)), .val (.int (15 : Int32))] [])) t
                                    refine XS.iinc X0.here hx rfl (hb hby own_d11_25) rfl (l' := #[.val (.ref b), .val (.int ch), .val (.int (0 : Int32)), .val (.int (17 : Int32)), .val (.int (ch.toInt8.toInt32)), .val (.int (16 : Int32))]) rfl ?_
                                    show Steps p.tables e below (s₁.setTop (mkF m 28 #[.val (.ref b), .val (.int ch), .val (.int (0 : Int32)), .val (.int (17 : Int32)), .val (.int (ch.toInt8.toInt32)), .val (.int (16 : Int32))] [])) t
                                    refine XS.goto X0.here hx rfl (pc0 := 28) (pc' := 7) rfl (hb hby own_d11_28) (by decide) (by decide) ?_
                                    show Steps p.tables e below (s₁.setTop (mkF m 7 #[.val (.ref b), .val (.int ch), .val (.int (0 : Int32)), .val (.int (17 : Int32)), .val (.int (ch.toInt8.toInt32)), .val (.int (16 : Int32))] [])) t
                                    refine XS.iload X0.here hx rfl (hb hby own_d11_7) rfl ?_
                                    show Steps p.tables e below (s₁.setTop (mkF m 9 #[.val (.ref b), .val (.int ch), .val (.int (0 : Int32)), .val (.int (17 : Int32)), .val (.int (ch.toInt8.toInt32)), .val (.int (16 : Int32))] [(.int (16 : Int32))])) t
                                    refine XS.iloadN X0.here hx rfl (hb hby own_d11_9) rfl ?_
                                    exact kt
                                  have hc10_98 : (16 : Int32) < (17 : Int32) := by decide
                                  have S100 : ∀ t, Steps p.tables e below (s₁.setTop (mkF m 16 #[.val (.ref b), .val (.int ch), .val (.int (0 : Int32)), .val (.int (17 : Int32)), .val (.int (ch.toInt8.toInt32)), .val (.int (16 : Int32))] [(.int (16 : Int32)), (.ref b)])) t → Steps p.tables e below (s₁.setTop (entryFrame m #[(.ref b), (.int ch), (.int (0 : Int32)), (.int (17 : Int32))] 6)) t := fun t kt => by
                                    refine S97 t ?_
                                    show Steps p.tables e below (s₁.setTop (mkF m 10 #[.val (.ref b), .val (.int ch), .val (.int (0 : Int32)), .val (.int (17 : Int32)), .val (.int (ch.toInt8.toInt32)), .val (.int (16 : Int32))] [(.int (17 : Int32)), (.int (16 : Int32))])) t
                                    refine XS.icmpNo X0.here hx rfl (hb hby own_d11_10) rfl (tlt hc10_98).2.1 ?_
                                    show Steps p.tables e below (s₁.setTop (mkF m 13 #[.val (.ref b), .val (.int ch), .val (.int (0 : Int32)), .val (.int (17 : Int32)), .val (.int (ch.toInt8.toInt32)), .val (.int (16 : Int32))] [])) t
                                    refine XS.aloadN X0.here hx rfl (hb hby own_d11_13) rfl rfl ?_
                                    show Steps p.tables e below (s₁.setTop (mkF m 14 #[.val (.ref b), .val (.int ch), .val (.int (0 : Int32)), .val (.int (17 : Int32)), .val (.int (ch.toInt8.toInt32)), .val (.int (16 : Int32))] [(.ref b)])) t
                                    refine XS.iload X0.here hx rfl (hb hby own_d11_14) rfl ?_
                                    exact kt
                                  obtain ⟨cl99, Ar99, -, Sz99, Nn99, Hh99, -⟩ := id V_b
                                  have hin99 : ¬ ((16 : Int32) < 0 ∨ cl99.slots.size ≤ ((16 : Int32)).toNatClampNeg) := inb_of Sz99 ⟨by decide, by decide⟩
                                  have S101 : ∀ t, Steps p.tables e below (s₁.setTop (mkF m 19 #[.val (.ref b), .val (.int ch), .val (.int (0 : Int32)), .val (.int (17 : Int32)), .val (.int (ch.toInt8.toInt32)), .val (.int (16 : Int32))] [(.int (ch.toInt8.toInt32)), (.int (47 : Int32))])) t → Steps p.tables e below (s₁.setTop (entryFrame m #[(.ref b), (.int ch), (.int (0 : Int32)), (.int (17 : Int32))] 6)) t := fun t kt => by
                                    refine S100 t ?_
                                    show Steps p.tables e below (s₁.setTop (mkF m 16 #[.val (.ref b), .val (.int ch), .val (.int (0 : Int32)), .val (.int (17 : Int32)), .val (.int (ch.toInt8.toInt32)), .val (.int (16 : Int32))] [(.int (16 : Int32)), (.ref b)])) t
                                    refine X0.baloadBytes hx (j := (16 : Int32)) (v := (.int (47 : Int32))) (by rw [e0]; exact Ar99.1) (State.isArrayOf_alike hZ.alike Ar99.2.1) Ar99.2.2 hin99 (Has.at Hh99 hin99 rfl) (g := (mkF m 16 #[.val (.ref b), .val (.int ch), .val (.int (0 : Int32)), .val (.int (17 : Int32)), .val (.int (ch.toInt8.toInt32)), .val (.int (16 : Int32))] [(.int (16 : Int32)), (.ref b)])) rfl rfl (hb hby own_d11_16) _ ?_
                                    show Steps p.tables e below (s₁.setTop (mkF m 17 #[.val (.ref b), .val (.int ch), .val (.int (0 : Int32)), .val (.int (17 : Int32)), .val (.int (ch.toInt8.toInt32)), .val (.int (16 : Int32))] [(.int (47 : Int32))])) t
                                    refine XS.iload X0.here hx rfl (hb hby own_d11_17) rfl ?_
                                    exact kt
                                  by_cases hc19'''''''''''''''' : (47 : Int32) = (ch.toInt8.toInt32)
                                  · skip
                                    have S102 : ∀ t, Steps p.tables e below (s₁.setTop (mkF m 24 #[.val (.ref b), .val (.int ch), .val (.int (0 : Int32)), .val (.int (17 : Int32)), .val (.int (ch.toInt8.toInt32)), .val (.int (16 : Int32))] [(.int (16 : Int32))])) t → Steps p.tables e below (s₁.setTop (entryFrame m #[(.ref b), (.int ch), (.int (0 : Int32)), (.int (17 : Int32))] 6)) t := fun t kt => by
                                      refine S101 t ?_
                                      show Steps p.tables e below (s₁.setTop (mkF m 19 #[.val (.ref b), .val (.int ch), .val (.int (0 : Int32)), .val (.int (17 : Int32)), .val (.int (ch.toInt8.toInt32)), .val (.int (16 : Int32))] [(.int (ch.toInt8.toInt32)), (.int (47 : Int32))])) t
                                      refine XS.icmpNo X0.here hx rfl (hb hby own_d11_19) rfl (teq hc19'''''''''''''''').2 ?_
                                      show Steps p.tables e below (s₁.setTop (mkF m 22 #[.val (.ref b), .val (.int ch), .val (.int (0 : Int32)), .val (.int (17 : Int32)), .val (.int (ch.toInt8.toInt32)), .val (.int (16 : Int32))] [])) t
                                      refine XS.iload X0.here hx rfl (hb hby own_d11_22) rfl ?_
                                      exact kt
                                    obtain ⟨fs, hr, hrun, hended, hW, hsame⟩ := X0.leave (v := some (.int (16 : Int32))) (fun h => by rw [Bd.returns] at h; cases h)
                                    refine ⟨_, _, S102 _ ?_, hrun, hended, _, _, rfl, ?_, ⟨_, rfl⟩, hW, hsame.mono (by decide) (by decide)⟩
                                    · show Steps p.tables e below (s₁.setTop (mkF m 24 #[.val (.ref b), .val (.int ch), .val (.int (0 : Int32)), .val (.int (17 : Int32)), .val (.int (ch.toInt8.toInt32)), .val (.int (16 : Int32))] [(.int (16 : Int32))])) _
                                      exact own_retI X0 hx Bd.returns (hb hby own_d11_24) hr
                                    · show own_Q11 Z b ch kb h0 n0 _ s₁.heap _
                                      rw [e0]
                                      exact ⟨by unfold own_ic; rw [if_neg hc19, if_neg hc19', if_neg hc19'', if_neg hc19''', if_neg hc19'''', if_neg hc19''''', if_neg hc19'''''', if_neg hc19''''''', if_neg hc19'''''''', if_neg hc19''''''''', if_neg hc19'''''''''', if_neg hc19''''''''''', if_neg hc19'''''''''''', if_neg hc19''''''''''''', if_neg hc19'''''''''''''', if_neg hc19''''''''''''''', if_pos hc19''''''''''''''''], rfl, rfl⟩
                                  · skip
                                    have S103 : ∀ t, Steps p.tables e below (s₁.setTop (mkF m 10 #[.val (.ref b), .val (.int ch), .val (.int (0 : Int32)), .val (.int (17 : Int32)), .val (.int (ch.toInt8.toInt32)), .val (.int (17 : Int32))] [(.int (17 : Int32)), (.int (17 : Int32))])) t → Steps p.tables e below (s₁.setTop (entryFrame m #[(.ref b), (.int ch), (.int (0 : Int32)), (.int (17 : Int32))] 6)) t := fun t kt => by
                                      refine S101 t ?_
                                      show Steps p.tables e below (s₁.setTop (mkF m 19 #[.val (.ref b), .val (.int ch), .val (.int (0 : Int32)), .val (.int (17 : Int32)), .val (.int (ch.toInt8.toInt32)), .val (.int (16 : Int32))] [(.int (ch.toInt8.toInt32)), (.int (47 : Int32))])) t
                                      refine XS.icmpYes X0.here hx rfl (pc0 := 19) (pc' := 25) rfl (hb hby own_d11_19) rfl (feq hc19'''''''''''''''').2 (by decide) (by decide) ?_
                                      show Steps p.tables e below (s₁.setTop (mkF m 25 #[.val (.ref b), .val (.int ch), .val (.int (0 : Int32)), .val (.int (17 : Int32)), .val (.int (ch.toInt8.toInt32)), .val (.int (16 : Int32))] [])) t
                                      refine XS.iinc X0.here hx rfl (hb hby own_d11_25) rfl (l' := #[.val (.ref b), .val (.int ch), .val (.int (0 : Int32)), .val (.int (17 : Int32)), .val (.int (ch.toInt8.toInt32)), .val (.int (17 : Int32))]) rfl ?_
                                      show Steps p.tables e below (s₁.setTop (mkF m 28 #[.val (.ref b), .val (.int ch), .val (.int (0 : Int32)), .val (.int (17 : Int32)), .val (.int (ch.toInt8.toInt32)), .val (.int (17 : Int32))] [])) t
                                      refine XS.goto X0.here hx rfl (pc0 := 28) (pc' := 7) rfl (hb hby own_d11_28) (by decide) (by decide) ?_
                                      show Steps p.tables e below (s₁.setTop (mkF m 7 #[.val (.ref b), .val (.int ch), .val (.int (0 : Int32)), .val (.int (17 : Int32)), .val (.int (ch.toInt8.toInt32)), .val (.int (17 : Int32))] [])) t
                                      refine XS.iload X0.here hx rfl (hb hby own_d11_7) rfl ?_
                                      show Steps p.tables e below (s₁.setTop (mkF m 9 #[.val (.ref b), .val (.int ch), .val (.int (0 : Int32)), .val (.int (17 : Int32)), .val (.int (ch.toInt8.toInt32)), .val (.int (17 : Int32))] [(.int (17 : Int32))])) t
                                      refine XS.iloadN X0.here hx rfl (hb hby own_d11_9) rfl ?_
                                      exact kt
                                    have hc10_104 : ¬ ((17 : Int32) < (17 : Int32)) := by decide
                                    have S105 : ∀ t, Steps p.tables e below (s₁.setTop (mkF m 32 #[.val (.ref b), .val (.int ch), .val (.int (0 : Int32)), .val (.int (17 : Int32)), .val (.int (ch.toInt8.toInt32)), .val (.int (17 : Int32))] [(.int (-1 : Int32))])) t → Steps p.tables e below (s₁.setTop (entryFrame m #[(.ref b), (.int ch), (.int (0 : Int32)), (.int (17 : Int32))] 6)) t := fun t kt => by
                                      refine S103 t ?_
                                      show Steps p.tables e below (s₁.setTop (mkF m 10 #[.val (.ref b), .val (.int ch), .val (.int (0 : Int32)), .val (.int (17 : Int32)), .val (.int (ch.toInt8.toInt32)), .val (.int (17 : Int32))] [(.int (17 : Int32)), (.int (17 : Int32))])) t
                                      refine XS.icmpYes X0.here hx rfl (pc0 := 10) (pc' := 31) rfl (hb hby own_d11_10) rfl (flt hc10_104).2.1 (by decide) (by decide) ?_
                                      show Steps p.tables e below (s₁.setTop (mkF m 31 #[.val (.ref b), .val (.int ch), .val (.int (0 : Int32)), .val (.int (17 : Int32)), .val (.int (ch.toInt8.toInt32)), .val (.int (17 : Int32))] [])) t
                                      refine XS.iconst X0.here hx rfl (hb hby own_d11_31) ?_
                                      exact kt
                                    obtain ⟨fs, hr, hrun, hended, hW, hsame⟩ := X0.leave (v := some (.int (-1 : Int32))) (fun h => by rw [Bd.returns] at h; cases h)
                                    refine ⟨_, _, S105 _ ?_, hrun, hended, _, _, rfl, ?_, ⟨_, rfl⟩, hW, hsame.mono (by decide) (by decide)⟩
                                    · show Steps p.tables e below (s₁.setTop (mkF m 32 #[.val (.ref b), .val (.int ch), .val (.int (0 : Int32)), .val (.int (17 : Int32)), .val (.int (ch.toInt8.toInt32)), .val (.int (17 : Int32))] [(.int (-1 : Int32))])) _
                                      exact own_retI X0 hx Bd.returns (hb hby own_d11_32) hr
                                    · show own_Q11 Z b ch kb h0 n0 _ s₁.heap _
                                      rw [e0]
                                      exact ⟨by unfold own_ic; rw [if_neg hc19, if_neg hc19', if_neg hc19'', if_neg hc19''', if_neg hc19'''', if_neg hc19''''', if_neg hc19'''''', if_neg hc19''''''', if_neg hc19'''''''', if_neg hc19''''''''', if_neg hc19'''''''''', if_neg hc19''''''''''', if_neg hc19'''''''''''', if_neg hc19''''''''''''', if_neg hc19'''''''''''''', if_neg hc19''''''''''''''', if_neg hc19''''''''''''''''], rfl, rfl⟩
theorem own_pd1 : parseMethodDescriptor "(I)Z" = some ⟨[.int], some .boolean⟩ := by decide +kernel
theorem own_pd2 : parseMethodDescriptor "(II)I" = some ⟨[.int, .int], some .int⟩ := by decide +kernel
theorem own_pd3 : parseMethodDescriptor "([BIII)I" = some ⟨[(.array .byte), .int, .int, .int], some .int⟩ := by decide +kernel
theorem own_d7_0 : decode jdk_43_method_22_code 0 = .ok (.iload_n 1, 1) := by decide +kernel
theorem own_d7_1 : decode jdk_43_method_22_code 1 = .ok (.invokestatic 88, 3) := by decide +kernel
theorem own_d7_4 : decode jdk_43_method_22_code 4 = .ok (.ifCond .ne 5, 3) := by decide +kernel
theorem own_d7_7 : decode jdk_43_method_22_code 7 = .ok (.iconst (-1), 1) := by decide +kernel
theorem own_d7_8 : decode jdk_43_method_22_code 8 = .ok (.ireturn, 1) := by decide +kernel
theorem own_d7_9 : decode jdk_43_method_22_code 9 = .ok (.iload_n 2, 1) := by decide +kernel
theorem own_d7_10 : decode jdk_43_method_22_code 10 = .ok (.iconst 0, 1) := by decide +kernel
theorem own_d7_11 : decode jdk_43_method_22_code 11 = .ok (.invokestatic 92, 3) := by decide +kernel
theorem own_d7_14 : decode jdk_43_method_22_code 14 = .ok (.istore_n 2, 1) := by decide +kernel
theorem own_d7_15 : decode jdk_43_method_22_code 15 = .ok (.iload_n 3, 1) := by decide +kernel
theorem own_d7_16 : decode jdk_43_method_22_code 16 = .ok (.aload_n 0, 1) := by decide +kernel
theorem own_d7_17 : decode jdk_43_method_22_code 17 = .ok (.arraylength, 1) := by decide +kernel
theorem own_d7_18 : decode jdk_43_method_22_code 18 = .ok (.invokestatic 38, 3) := by decide +kernel
theorem own_d7_21 : decode jdk_43_method_22_code 21 = .ok (.istore_n 3, 1) := by decide +kernel
theorem own_d7_22 : decode jdk_43_method_22_code 22 = .ok (.iload_n 2, 1) := by decide +kernel
theorem own_d7_23 : decode jdk_43_method_22_code 23 = .ok (.iload_n 3, 1) := by decide +kernel
theorem own_d7_24 : decode jdk_43_method_22_code 24 = .ok (.if_icmp .lt 5, 3) := by decide +kernel
theorem own_d7_29 : decode jdk_43_method_22_code 29 = .ok (.aload_n 0, 1) := by decide +kernel
theorem own_d7_30 : decode jdk_43_method_22_code 30 = .ok (.iload_n 1, 1) := by decide +kernel
theorem own_d7_31 : decode jdk_43_method_22_code 31 = .ok (.iload_n 2, 1) := by decide +kernel
theorem own_d7_32 : decode jdk_43_method_22_code 32 = .ok (.iload_n 3, 1) := by decide +kernel
theorem own_d7_33 : decode jdk_43_method_22_code 33 = .ok (.invokestatic 95, 3) := by decide +kernel
theorem own_d7_36 : decode jdk_43_method_22_code 36 = .ok (.ireturn, 1) := by decide +kernel
theorem own_ef7 (m : MethodId) (x0 : Addr) (x1 : Int32) (x2 : Int32) (x3 : Int32) : entryFrame m #[(.ref x0), (.int x1), (.int x2), (.int x3)] 4 = mkF m 0 #[.val (.ref x0), .val (.int x1), .val (.int x2), .val (.int x3)] [] := by first | (simp [entryFrame, mkF, argsToLocals, Value.category]; done) | rfl
def own_Q7 (Z : State) (b : Addr) (ch : Int32) (kb : ClassId) (h0 : Heap) (n0 : Nat) (v : Option Value) (h : Heap) (L : List Loc) : Prop := v = some (.int (own_ix ch)) ∧ L = [] ∧ h = h0
set_option maxHeartbeats 40000000 in
theorem own_rm7 (l : Launch) (Z : State) (a0 : Array Value) (hw : ∀ d ∈ tables_1, d.before a0 Z = true) (ws : List Jvm.Cond) (b : Addr) (ch : Int32) (kb : ClassId) (h0 : Heap) (n0 : Nat) (Z0 : n0 ≤ h0.size) (V_b : Arv Z h0 b kb .byte (17 : Int32) [(.int (126 : Int32)), (.int (33 : Int32)), (.int (64 : Int32)), (.int (36 : Int32)), (.int (37 : Int32)), (.int (94 : Int32)), (.int (38 : Int32)), (.int (42 : Int32)), (.int (95 : Int32)), (.int (45 : Int32)), (.int (43 : Int32)), (.int (61 : Int32)), (.int (60 : Int32)), (.int (62 : Int32)), (.int (46 : Int32)), (.int (63 : Int32)), (.int (47 : Int32))] (.int (0 : Int32))) :
    MetFree l (⟨"java/lang/StringLatin1", "indexOf", "([BIII)I"⟩ : MethodName) (head1 (Jvm.Cond.code (⟨"java/lang/StringLatin1", "indexOf", "([BIII)I"⟩ : MethodName) jdk_43_method_22_code 4 (some .int) :: ws) ({ frames := 1, cells := 0, slots := 0, locals := 17 } : Room)) (fun argv U => argv = #[(.ref b), (.int ch), (.int (0 : Int32)), (.int (17 : Int32))] ∧ Z.Warmed39 U.vm ∧ U.heap = h0) (fun _ _ _ _ _ => True) (fun _ U o U' => ∃ v L, o = .returned v ∧ own_Q7 Z b ch kb h0 n0 v U'.heap L ∧ FrameEnd U o U' L ({ frames := 1, cells := 0, slots := 0, locals := 17 } : Room).cells ({ frames := 1, cells := 0, slots := 0, locals := 17 } : Room).slots) := by
  refine MetFree.of_bodySF (plainFor_of_name own_pn1) hisR ?_
  intro p e s m args below meth c s₁ Bd hml0 hP hK
  obtain ⟨rfl, hZ, hh⟩ := hP
  have hx := Bd.exec
  have hby := Bd.bytes
  have hml : c.maxLocals = 4 := hml0
  have hown : s.vm.findClass "java/lang/StringLatin1" = some m.cls := findClass_of_methodNamed Bd.named
  have hnm := (name_of_methodNamed Bd.named Bd.method).1
  have X0 : Stand p l e ({ frames := 1, cells := 0, slots := 0, locals := 17 } : Room) s m #[(.ref b), (.int ch), (.int (0 : Int32)), (.int (17 : Int32))] below meth c s₁ [] 0 0 := Stand.of_body Bd
  have e0 : s₁.heap = h0 := by rw [← hh, Bd.state]; rfl
  have N0 := Fr.nil n0
  have pre0 : ∀ t, Steps p.tables e below (s₁.setTop (mkF m 0 #[.val (.ref b), .val (.int ch), .val (.int (0 : Int32)), .val (.int (17 : Int32))] [])) t → Steps p.tables e below (s₁.setTop (entryFrame m #[(.ref b), (.int ch), (.int (0 : Int32)), (.int (17 : Int32))] 4)) t := fun t k => castTop (own_ef7 m b ch (0 : Int32) (17 : Int32)) k
  have S2 : ∀ t, Steps p.tables e below (s₁.setTop (mkF m 1 #[.val (.ref b), .val (.int ch), .val (.int (0 : Int32)), .val (.int (17 : Int32))] [(.int ch)])) t → Steps p.tables e below (s₁.setTop (entryFrame m #[(.ref b), (.int ch), (.int (0 : Int32)), (.int (17 : Int32))] 4)) t := fun t kt => by
    refine pre0 t ?_
    show Steps p.tables e below (s₁.setTop (mkF m 0 #[.val (.ref b), .val (.int ch), .val (.int (0 : Int32)), .val (.int (17 : Int32))] [])) t
    refine XS.iloadN X0.here hx rfl (hb hby own_d7_0) rfl ?_
    exact kt
  obtain ⟨_, _, ⟨T3, L3, k3, n3⟩, -, X3, ⟨Lc3, hQ3, l3, y3, z3⟩, st3⟩ := Jvm.LawKit.callS X0 hx (y := (⟨"java/lang/StringLatin1", "canEncode", "(I)Z"⟩ : MethodName)) hown (mvT hZ (hw _ (List.mem_of_getElem? (i := 44) rfl))) (mvT hZ (hw _ (List.mem_of_getElem? (i := 45) rfl))) (mvT hZ (hw _ (List.mem_of_getElem? (i := 42) rfl))) (mvT hZ (hw _ (List.mem_of_getElem? (i := 46) rfl))) (by decide) (backOf (W := 0) (own_rm8 l Z a0 hw [] (ch) h0 n0 Z0) hZ (hw _ (List.mem_of_getElem? (i := 46) rfl)) (hw _ (List.mem_of_getElem? (i := 42) rfl)) (by decide) (by decide)) (g := (mkF m 1 #[.val (.ref b), .val (.int ch), .val (.int (0 : Int32)), .val (.int (17 : Int32))] [(.int ch)])) rfl (by rw [hml]; rfl) (argsL := [(.int ch)]) (rest := []) (lenOf own_pd1 rfl) rfl (by show 2 * 0 + _ ≤ _; exact Nat.le_of_eq rfl) (hb hby own_d7_1) (fun _ _ => ⟨rfl, e0, (by decide : 0 + 0 ≤ _), (by decide : 0 + 0 ≤ _)⟩)
  dsimp only [Pt.U, Pt.locs, Pt.cells, Pt.slots] at X3 l3 y3 z3 st3 hQ3
  subst l3 y3 z3
  obtain ⟨rfl, rfl, eq1⟩ := hQ3
  try rw [List.append_nil] at X3
  have S4 : ∀ t, Steps p.tables e below (T3.setTop (mkF m 4 #[.val (.ref b), .val (.int ch), .val (.int (0 : Int32)), .val (.int (17 : Int32))] [(.int (own_b (own_ce ch)))])) t → Steps p.tables e below (s₁.setTop (entryFrame m #[(.ref b), (.int ch), (.int (0 : Int32)), (.int (17 : Int32))] 4)) t := fun t kt => S2 t (st3 _ kt)
  by_cases hc4 : (own_b (own_ce ch)) = (0 : Int32)
  · skip
    have S5 : ∀ t, Steps p.tables e below (T3.setTop (mkF m 8 #[.val (.ref b), .val (.int ch), .val (.int (0 : Int32)), .val (.int (17 : Int32))] [(.int (-1 : Int32))])) t → Steps p.tables e below (s₁.setTop (entryFrame m #[(.ref b), (.int ch), (.int (0 : Int32)), (.int (17 : Int32))] 4)) t := fun t kt => by
      refine S4 t ?_
      show Steps p.tables e below (T3.setTop (mkF m 4 #[.val (.ref b), .val (.int ch), .val (.int (0 : Int32)), .val (.int (17 : Int32))] [(.int (own_b (own_ce ch)))])) t
      refine XS.ifNo X3.here hx rfl (hb hby own_d7_4) rfl ((if0 _ _).trans (teq hc4).2) ?_
      show Steps p.tables e below (T3.setTop (mkF m 7 #[.val (.ref b), .val (.int ch), .val (.int (0 : Int32)), .val (.int (17 : Int32))] [])) t
      refine XS.iconst X3.here hx rfl (hb hby own_d7_7) ?_
      exact kt
    obtain ⟨fs, hr, hrun, hended, hW, hsame⟩ := X3.leave (v := some (.int (-1 : Int32))) (fun h => by rw [Bd.returns] at h; cases h)
    refine ⟨_, _, S5 _ ?_, hrun, hended, _, _, rfl, ?_, ⟨_, rfl⟩, hW, hsame.mono (by decide) (by decide)⟩
    · show Steps p.tables e below (T3.setTop (mkF m 8 #[.val (.ref b), .val (.int ch), .val (.int (0 : Int32)), .val (.int (17 : Int32))] [(.int (-1 : Int32))])) _
      exact own_retI X3 hx Bd.returns (hb hby own_d7_8) hr
    · show own_Q7 Z b ch kb h0 n0 _ T3.heap _
      rw [eq1]
      exact ⟨by simp only [own_ix, own_b0.mp hc4, Bool.false_eq_true, if_false], rfl, rfl⟩
  · skip
    have S7 : ∀ t, Steps p.tables e below (T3.setTop (mkF m 11 #[.val (.ref b), .val (.int ch), .val (.int (0 : Int32)), .val (.int (17 : Int32))] [(.int (0 : Int32)), (.int (0 : Int32))])) t → Steps p.tables e below (s₁.setTop (entryFrame m #[(.ref b), (.int ch), (.int (0 : Int32)), (.int (17 : Int32))] 4)) t := fun t kt => by
      refine S4 t ?_
      show Steps p.tables e below (T3.setTop (mkF m 4 #[.val (.ref b), .val (.int ch), .val (.int (0 : Int32)), .val (.int (17 : Int32))] [(.int (own_b (own_ce ch)))])) t
      refine XS.ifYes X3.here hx rfl (pc0 := 4) (pc' := 9) rfl (hb hby own_d7_4) rfl ((if0 _ _).trans (feq hc4).2) (by decide) (by decide) ?_
      show Steps p.tables e below (T3.setTop (mkF m 9 #[.val (.ref b), .val (.int ch), .val (.int (0 : Int32)), .val (.int (17 : Int32))] [])) t
      refine XS.iloadN X3.here hx rfl (hb hby own_d7_9) rfl ?_
      show Steps p.tables e below (T3.setTop (mkF m 10 #[.val (.ref b), .val (.int ch), .val (.int (0 : Int32)), .val (.int (17 : Int32))] [(.int (0 : Int32))])) t
      refine XS.iconst X3.here hx rfl (hb hby own_d7_10) ?_
      exact kt
    obtain ⟨_, _, ⟨T8, L8, k8, n8⟩, -, X8, ⟨Lc8, hQ8, l8, y8, z8⟩, st8⟩ := Jvm.LawKit.callS X3 hx (y := (⟨"java/lang/Math", "max", "(II)I"⟩ : MethodName)) hown (mvT hZ (hw _ (List.mem_of_getElem? (i := 47) rfl))) (mvT hZ (hw _ (List.mem_of_getElem? (i := 48) rfl))) (mvT hZ (hw _ (List.mem_of_getElem? (i := 49) rfl))) (mvT hZ (hw _ (List.mem_of_getElem? (i := 50) rfl))) (by decide) (backOf (W := 0) (own_rm9 l Z a0 hw [] ((0 : Int32)) ((0 : Int32)) h0 n0 Z0) hZ (hw _ (List.mem_of_getElem? (i := 50) rfl)) (hw _ (List.mem_of_getElem? (i := 49) rfl)) (by decide) (by decide)) (g := (mkF m 11 #[.val (.ref b), .val (.int ch), .val (.int (0 : Int32)), .val (.int (17 : Int32))] [(.int (0 : Int32)), (.int (0 : Int32))])) rfl (by rw [hml]; rfl) (argsL := [(.int (0 : Int32)), (.int (0 : Int32))]) (rest := []) (lenOf own_pd2 rfl) rfl (by show 2 * 0 + _ ≤ _; exact Nat.le_of_eq rfl) (hb hby own_d7_11) (fun _ _ => ⟨rfl, eq1, (by decide : 0 + 0 ≤ _), (by decide : 0 + 0 ≤ _)⟩)
    dsimp only [Pt.U, Pt.locs, Pt.cells, Pt.slots] at X8 l8 y8 z8 st8 hQ8
    subst l8 y8 z8
    obtain ⟨rfl, rfl, eq6⟩ := hQ8
    try rw [List.append_nil] at X8
    have S9 : ∀ t, Steps p.tables e below (T8.setTop (mkF m 14 #[.val (.ref b), .val (.int ch), .val (.int (0 : Int32)), .val (.int (17 : Int32))] [(.int (0 : Int32))])) t → Steps p.tables e below (s₁.setTop (entryFrame m #[(.ref b), (.int ch), (.int (0 : Int32)), (.int (17 : Int32))] 4)) t := fun t kt => S7 t (st8 _ kt)
    have S10 : ∀ t, Steps p.tables e below (T8.setTop (mkF m 17 #[.val (.ref b), .val (.int ch), .val (.int (0 : Int32)), .val (.int (17 : Int32))] [(.ref b), (.int (17 : Int32))])) t → Steps p.tables e below (s₁.setTop (entryFrame m #[(.ref b), (.int ch), (.int (0 : Int32)), (.int (17 : Int32))] 4)) t := fun t kt => by
      refine S9 t ?_
      show Steps p.tables e below (T8.setTop (mkF m 14 #[.val (.ref b), .val (.int ch), .val (.int (0 : Int32)), .val (.int (17 : Int32))] [(.int (0 : Int32))])) t
      refine XS.istoreN X8.here hx rfl (hb hby own_d7_14) rfl (l' := #[.val (.ref b), .val (.int ch), .val (.int (0 : Int32)), .val (.int (17 : Int32))]) rfl ?_
      show Steps p.tables e below (T8.setTop (mkF m 15 #[.val (.ref b), .val (.int ch), .val (.int (0 : Int32)), .val (.int (17 : Int32))] [])) t
      refine XS.iloadN X8.here hx rfl (hb hby own_d7_15) rfl ?_
      show Steps p.tables e below (T8.setTop (mkF m 16 #[.val (.ref b), .val (.int ch), .val (.int (0 : Int32)), .val (.int (17 : Int32))] [(.int (17 : Int32))])) t
      refine XS.aloadN X8.here hx rfl (hb hby own_d7_16) rfl rfl ?_
      exact kt
    obtain ⟨cl11, Ar11, -, Sz11, Nn11, -, -⟩ := id V_b
    have S13 : ∀ t, Steps p.tables e below (T8.setTop (mkF m 18 #[.val (.ref b), .val (.int ch), .val (.int (0 : Int32)), .val (.int (17 : Int32))] [(.int (17 : Int32)), (.int (17 : Int32))])) t → Steps p.tables e below (s₁.setTop (entryFrame m #[(.ref b), (.int ch), (.int (0 : Int32)), (.int (17 : Int32))] 4)) t := fun t kt => by
      refine S10 t ?_
      show Steps p.tables e below (T8.setTop (mkF m 17 #[.val (.ref b), .val (.int ch), .val (.int (0 : Int32)), .val (.int (17 : Int32))] [(.ref b), (.int (17 : Int32))])) t
      refine X8.arraylength hx (by rw [eq6]; exact Ar11.1) (State.isArrayOf_alike hZ.alike Ar11.2.1) (g := (mkF m 17 #[.val (.ref b), .val (.int ch), .val (.int (0 : Int32)), .val (.int (17 : Int32))] [(.ref b), (.int (17 : Int32))])) rfl rfl (hb hby own_d7_17) _ ?_
      rw [len_of Sz11 Nn11]
      exact kt
    obtain ⟨_, _, ⟨T14, L14, k14, n14⟩, -, X14, ⟨Lc14, hQ14, l14, y14, z14⟩, st14⟩ := Jvm.LawKit.callS X8 hx (y := (⟨"java/lang/Math", "min", "(II)I"⟩ : MethodName)) hown (mvT hZ (hw _ (List.mem_of_getElem? (i := 51) rfl))) (mvT hZ (hw _ (List.mem_of_getElem? (i := 52) rfl))) (mvT hZ (hw _ (List.mem_of_getElem? (i := 49) rfl))) (mvT hZ (hw _ (List.mem_of_getElem? (i := 53) rfl))) (by decide) (backOf (W := 0) (own_rm10 l Z a0 hw [] ((17 : Int32)) ((17 : Int32)) h0 n0 Z0) hZ (hw _ (List.mem_of_getElem? (i := 53) rfl)) (hw _ (List.mem_of_getElem? (i := 49) rfl)) (by decide) (by decide)) (g := (mkF m 18 #[.val (.ref b), .val (.int ch), .val (.int (0 : Int32)), .val (.int (17 : Int32))] [(.int (17 : Int32)), (.int (17 : Int32))])) rfl (by rw [hml]; rfl) (argsL := [(.int (17 : Int32)), (.int (17 : Int32))]) (rest := []) (lenOf own_pd2 rfl) rfl (by show 2 * 0 + _ ≤ _; exact Nat.le_of_eq rfl) (hb hby own_d7_18) (fun _ _ => ⟨rfl, eq6, (by decide : 0 + 0 ≤ _), (by decide : 0 + 0 ≤ _)⟩)
    dsimp only [Pt.U, Pt.locs, Pt.cells, Pt.slots] at X14 l14 y14 z14 st14 hQ14
    subst l14 y14 z14
    obtain ⟨rfl, rfl, eq12⟩ := hQ14
    try rw [List.append_nil] at X14
    have S15 : ∀ t, Steps p.tables e below (T14.setTop (mkF m 21 #[.val (.ref b), .val (.int ch), .val (.int (0 : Int32)), .val (.int (17 : Int32))] [(.int (17 : Int32))])) t → Steps p.tables e below (s₁.setTop (entryFrame m #[(.ref b), (.int ch), (.int (0 : Int32)), (.int (17 : Int32))] 4)) t := fun t kt => S13 t (st14 _ kt)
    have S16 : ∀ t, Steps p.tables e below (T14.setTop (mkF m 24 #[.val (.ref b), .val (.int ch), .val (.int (0 : Int32)), .val (.int (17 : Int32))] [(.int (17 : Int32)), (.int (0 : Int32))])) t → Steps p.tables e below (s₁.setTop (entryFrame m #[(.ref b), (.int ch), (.int (0 : Int32)), (.int (17 : Int32))] 4)) t := fun t kt => by
      refine S15 t ?_
      show Steps p.tables e below (T14.setTop (mkF m 21 #[.val (.ref b), .val (.int ch), .val (.int (0 : Int32)), .val (.int (17 : Int32))] [(.int (17 : Int32))])) t
      refine XS.istoreN X14.here hx rfl (hb hby own_d7_21) rfl (l' := #[.val (.ref b), .val (.int ch), .val (.int (0 : Int32)), .val (.int (17 : Int32))]) rfl ?_
      show Steps p.tables e below (T14.setTop (mkF m 22 #[.val (.ref b), .val (.int ch), .val (.int (0 : Int32)), .val (.int (17 : Int32))] [])) t
      refine XS.iloadN X14.here hx rfl (hb hby own_d7_22) rfl ?_
      show Steps p.tables e below (T14.setTop (mkF m 23 #[.val (.ref b), .val (.int ch), .val (.int (0 : Int32)), .val (.int (17 : Int32))] [(.int (0 : Int32))])) t
      refine XS.iloadN X14.here hx rfl (hb hby own_d7_23) rfl ?_
      exact kt
    have hc24_17 : (0 : Int32) < (17 : Int32) := by decide
    have S19 : ∀ t, Steps p.tables e below (T14.setTop (mkF m 33 #[.val (.ref b), .val (.int ch), .val (.int (0 : Int32)), .val (.int (17 : Int32))] [(.int (17 : Int32)), (.int (0 : Int32)), (.int ch), (.ref b)])) t → Steps p.tables e below (s₁.setTop (entryFrame m #[(.ref b), (.int ch), (.int (0 : Int32)), (.int (17 : Int32))] 4)) t := fun t kt => by
      refine S16 t ?_
      show Steps p.tables e below (T14.setTop (mkF m 24 #[.val (.ref b), .val (.int ch), .val (.int (0 : Int32)), .val (.int (17 : Int32))] [(.int (17 : Int32)), (.int (0 : Int32))])) t
      refine XS.icmpYes X14.here hx rfl (pc0 := 24) (pc' := 29) rfl (hb hby own_d7_24) rfl (tlt hc24_17).1 (by decide) (by decide) ?_
      show Steps p.tables e below (T14.setTop (mkF m 29 #[.val (.ref b), .val (.int ch), .val (.int (0 : Int32)), .val (.int (17 : Int32))] [])) t
      refine XS.aloadN X14.here hx rfl (hb hby own_d7_29) rfl rfl ?_
      show Steps p.tables e below (T14.setTop (mkF m 30 #[.val (.ref b), .val (.int ch), .val (.int (0 : Int32)), .val (.int (17 : Int32))] [(.ref b)])) t
      refine XS.iloadN X14.here hx rfl (hb hby own_d7_30) rfl ?_
      show Steps p.tables e below (T14.setTop (mkF m 31 #[.val (.ref b), .val (.int ch), .val (.int (0 : Int32)), .val (.int (17 : Int32))] [(.int ch), (.ref b)])) t
      refine XS.iloadN X14.here hx rfl (hb hby own_d7_31) rfl ?_
      show Steps p.tables e below (T14.setTop (mkF m 32 #[.val (.ref b), .val (.int ch), .val (.int (0 : Int32)), .val (.int (17 : Int32))] [(.int (0 : Int32)), (.int ch), (.ref b)])) t
      refine XS.iloadN X14.here hx rfl (hb hby own_d7_32) rfl ?_
      exact kt
    obtain ⟨_, _, ⟨T20, L20, k20, n20⟩, -, X20, ⟨Lc20, hQ20, l20, y20, z20⟩, st20⟩ := Jvm.LawKit.callS X14 hx (y := (⟨"java/lang/StringLatin1", "indexOfChar", "([BIII)I"⟩ : MethodName)) hown (mvT hZ (hw _ (List.mem_of_getElem? (i := 54) rfl))) (mvT hZ (hw _ (List.mem_of_getElem? (i := 55) rfl))) (mvT hZ (hw _ (List.mem_of_getElem? (i := 42) rfl))) (mvT hZ (hw _ (List.mem_of_getElem? (i := 56) rfl))) (by decide) (backOf (W := 0) (own_rm11 l Z a0 hw [] (b) (ch) (kb) h0 n0 Z0 V_b) hZ (hw _ (List.mem_of_getElem? (i := 56) rfl)) (hw _ (List.mem_of_getElem? (i := 42) rfl)) (by decide) (by decide)) (g := (mkF m 33 #[.val (.ref b), .val (.int ch), .val (.int (0 : Int32)), .val (.int (17 : Int32))] [(.int (17 : Int32)), (.int (0 : Int32)), (.int ch), (.ref b)])) rfl (by rw [hml]; rfl) (argsL := [(.ref b), (.int ch), (.int (0 : Int32)), (.int (17 : Int32))]) (rest := []) (lenOf own_pd3 rfl) rfl (by show 2 * 0 + _ ≤ _; exact Nat.le_of_eq rfl) (hb hby own_d7_33) (fun _ _ => ⟨rfl, eq12, (by decide : 0 + 0 ≤ _), (by decide : 0 + 0 ≤ _)⟩)
    dsimp only [Pt.U, Pt.locs, Pt.cells, Pt.slots] at X20 l20 y20 z20 st20 hQ20
    subst l20 y20 z20
    obtain ⟨rfl, rfl, eq18⟩ := hQ20
    try rw [List.append_nil] at X20
    have S21 : ∀ t, Steps p.tables e below (T20.setTop (mkF m 36 #[.val (.ref b), .val (.int ch), .val (.int (0 : Int32)), .val (.int (17 : Int32))] [(.int (own_ic ch))])) t → Steps p.tables e below (s₁.setTop (entryFrame m #[(.ref b), (.int ch), (.int (0 : Int32)), (.int (17 : Int32))] 4)) t := fun t kt => S19 t (st20 _ kt)
    obtain ⟨fs, hr, hrun, hended, hW, hsame⟩ := X20.leave (v := some (.int (own_ic ch))) (fun h => by rw [Bd.returns] at h; cases h)
    refine ⟨_, _, S21 _ ?_, hrun, hended, _, _, rfl, ?_, ⟨_, rfl⟩, hW, hsame.mono (by decide) (by decide)⟩
    · show Steps p.tables e below (T20.setTop (mkF m 36 #[.val (.ref b), .val (.int ch), .val (.int (0 : Int32)), .val (.int (17 : Int32))] [(.int (own_ic ch))])) _
      exact own_retI X20 hx Bd.returns (hb hby own_d7_36) hr
    · show own_Q7 Z b ch kb h0 n0 _ T20.heap _
      rw [eq18]
      exact ⟨by simp only [own_ix, (by simpa using fun q => hc4 (own_b0.mpr q) : own_ce ch = true), if_true], rfl, rfl⟩
theorem own_pd4 : parseMethodDescriptor "()Z" = some ⟨[], some .boolean⟩ := by decide +kernel
theorem own_pd5 : parseMethodDescriptor "()I" = some ⟨[], some .int⟩ := by decide +kernel
theorem own_d3_0 : decode jdk_42_method_80_code 0 = .ok (.aload_n 0, 1) := by decide +kernel
theorem own_d3_1 : decode jdk_42_method_80_code 1 = .ok (.invokevirtual 492, 3) := by decide +kernel
theorem own_d3_4 : decode jdk_42_method_80_code 4 = .ok (.ifCond .eq 19, 3) := by decide +kernel
theorem own_d3_7 : decode jdk_42_method_80_code 7 = .ok (.aload_n 0, 1) := by decide +kernel
theorem own_d3_8 : decode jdk_42_method_80_code 8 = .ok (.getfield 9, 3) := by decide +kernel
theorem own_d3_11 : decode jdk_42_method_80_code 11 = .ok (.iload_n 1, 1) := by decide +kernel
theorem own_d3_12 : decode jdk_42_method_80_code 12 = .ok (.iload_n 2, 1) := by decide +kernel
theorem own_d3_13 : decode jdk_42_method_80_code 13 = .ok (.aload_n 0, 1) := by decide +kernel
theorem own_d3_14 : decode jdk_42_method_80_code 14 = .ok (.invokevirtual 505, 3) := by decide +kernel
theorem own_d3_17 : decode jdk_42_method_80_code 17 = .ok (.invokestatic 637, 3) := by decide +kernel
theorem own_d3_20 : decode jdk_42_method_80_code 20 = .ok (.goto 16, 3) := by decide +kernel
theorem own_d3_36 : decode jdk_42_method_80_code 36 = .ok (.ireturn, 1) := by decide +kernel
theorem own_ef3 (m : MethodId) (x0 : Addr) (x1 : Int32) (x2 : Int32) : entryFrame m #[(.ref x0), (.int x1), (.int x2)] 3 = mkF m 0 #[.val (.ref x0), .val (.int x1), .val (.int x2)] [] := by first | (simp [entryFrame, mkF, argsToLocals, Value.category]; done) | rfl
def own_Q3 (Z : State) (a : Addr) (ch : Int32) (cs : Int32) (b : Addr) (kb : ClassId) (h0 : Heap) (n0 : Nat) (v : Option Value) (h : Heap) (L : List Loc) : Prop := v = some (.int (own_ix ch)) ∧ L = [] ∧ h = h0
set_option maxHeartbeats 40000000 in
theorem own_rm3 (l : Launch) (Z : State) (a0 : Array Value) (hw : ∀ d ∈ tables_1, d.before a0 Z = true) (ws : List Jvm.Cond) (a : Addr) (ch : Int32) (cs : Int32) (b : Addr) (kb : ClassId) (h0 : Heap) (n0 : Nat) (Z0 : n0 ≤ h0.size) (E_a : Exa Z h0 a "java/lang/String") (S_CS : Sta Z h0 "java/lang/String" "COMPACT_STRINGS" "Z" (.int cs)) (hcs : ¬ cs = (0 : Int32)) (F_coder : Fld Z h0 a "java/lang/String" "coder" "B" (.int (0 : Int32))) (F_value : Fld Z h0 a "java/lang/String" "value" "[B" (.ref b)) (V_b : Arv Z h0 b kb .byte (17 : Int32) [(.int (126 : Int32)), (.int (33 : Int32)), (.int (64 : Int32)), (.int (36 : Int32)), (.int (37 : Int32)), (.int (94 : Int32)), (.int (38 : Int32)), (.int (42 : Int32)), (.int (95 : Int32)), (.int (45 : Int32)), (.int (43 : Int32)), (.int (61 : Int32)), (.int (60 : Int32)), (.int (62 : Int32)), (.int (46 : Int32)), (.int (63 : Int32)), (.int (47 : Int32))] (.int (0 : Int32))) :
    MetFree l (⟨"java/lang/String", "indexOf", "(II)I"⟩ : MethodName) (head1 (Jvm.Cond.code (⟨"java/lang/String", "indexOf", "(II)I"⟩ : MethodName) jdk_42_method_80_code 3 (some .int) :: ws) ({ frames := 2, cells := 0, slots := 0, locals := 32 } : Room)) (fun argv U => argv = #[(.ref a), (.int ch), (.int (0 : Int32))] ∧ Z.Warmed39 U.vm ∧ U.heap = h0) (fun _ _ _ _ _ => True) (fun _ U o U' => ∃ v L, o = .returned v ∧ own_Q3 Z a ch cs b kb h0 n0 v U'.heap L ∧ FrameEnd U o U' L ({ frames := 2, cells := 0, slots := 0, locals := 32 } : Room).cells ({ frames := 2, cells := 0, slots := 0, locals := 32 } : Room).slots) := by
  refine MetFree.of_bodySF (plainFor_of_name own_pn0) hisR ?_
  intro p e s m args below meth c s₁ Bd hml0 hP hK
  obtain ⟨rfl, hZ, hh⟩ := hP
  have hx := Bd.exec
  have hby := Bd.bytes
  have hml : c.maxLocals = 3 := hml0
  have hown : s.vm.findClass "java/lang/String" = some m.cls := findClass_of_methodNamed Bd.named
  have hnm := (name_of_methodNamed Bd.named Bd.method).1
  have X0 : Stand p l e ({ frames := 2, cells := 0, slots := 0, locals := 32 } : Room) s m #[(.ref a), (.int ch), (.int (0 : Int32))] below meth c s₁ [] 0 0 := Stand.of_body Bd
  have e0 : s₁.heap = h0 := by rw [← hh, Bd.state]; rfl
  have N0 := Fr.nil n0
  have pre0 : ∀ t, Steps p.tables e below (s₁.setTop (mkF m 0 #[.val (.ref a), .val (.int ch), .val (.int (0 : Int32))] [])) t → Steps p.tables e below (s₁.setTop (entryFrame m #[(.ref a), (.int ch), (.int (0 : Int32))] 3)) t := fun t k => castTop (own_ef3 m a ch (0 : Int32)) k
  have S2 : ∀ t, Steps p.tables e below (s₁.setTop (mkF m 1 #[.val (.ref a), .val (.int ch), .val (.int (0 : Int32))] [(.ref a)])) t → Steps p.tables e below (s₁.setTop (entryFrame m #[(.ref a), (.int ch), (.int (0 : Int32))] 3)) t := fun t kt => by
    refine pre0 t ?_
    show Steps p.tables e below (s₁.setTop (mkF m 0 #[.val (.ref a), .val (.int ch), .val (.int (0 : Int32))] [])) t
    refine XS.aloadN X0.here hx rfl (hb hby own_d3_0) rfl rfl ?_
    exact kt
  obtain ⟨cq3, kq3, q3a, q3b, q3c⟩ := isOf hZ e0 E_a
  obtain ⟨_, _, ⟨T3, L3, k3, n3⟩, -, X3, ⟨Lc3, hQ3, l3, y3, z3⟩, st3⟩ := X0.virtualBack hx (y := (⟨"java/lang/String", "isLatin1", "()Z"⟩ : MethodName)) (z := (⟨"java/lang/String", "isLatin1", "()Z"⟩ : MethodName)) hown (mvT hZ (hw _ (List.mem_of_getElem? (i := 22) rfl))) (mvT hZ (hw _ (List.mem_of_getElem? (i := 23) rfl))) (notFace_of_selects (args := #[]) (mvT hZ (hw _ (List.mem_of_getElem? (i := 25) rfl)))) (mvT hZ (hw _ (List.mem_of_getElem? (i := 25) rfl))) (mvT hZ (hw _ (List.mem_of_getElem? (i := 24) rfl))) (by decide) (backOf (W := 0) (own_rm4 l Z a0 hw [] (a) (cs) h0 n0 Z0 S_CS hcs F_coder) hZ (hw _ (List.mem_of_getElem? (i := 26) rfl)) (hw _ (List.mem_of_getElem? (i := 5) rfl)) (by decide) (by decide)) q3a q3c (g := (mkF m 1 #[.val (.ref a), .val (.int ch), .val (.int (0 : Int32))] [(.ref a)])) rfl (by rw [hml]; rfl) (Steps.refl _) (argsL := []) (rest := []) (lenOf own_pd4 rfl) rfl (by show 2 * 0 + _ ≤ _; exact Nat.le_of_eq rfl) (hb hby own_d3_1) (fun _ _ => ⟨rfl, e0, (by decide : 0 + 0 ≤ _), (by decide : 0 + 0 ≤ _)⟩)
  dsimp only [Pt.U, Pt.locs, Pt.cells, Pt.slots] at X3 l3 y3 z3 st3 hQ3
  subst l3 y3 z3
  obtain ⟨rfl, rfl, eq1⟩ := hQ3
  try rw [List.append_nil] at X3
  have S4 : ∀ t, Steps p.tables e below (T3.setTop (mkF m 4 #[.val (.ref a), .val (.int ch), .val (.int (0 : Int32))] [(.int (1 : Int32))])) t → Steps p.tables e below (s₁.setTop (entryFrame m #[(.ref a), (.int ch), (.int (0 : Int32))] 3)) t := fun t kt => S2 t (st3.trans kt)
  have hc4_5 : ¬ ((1 : Int32) = (0 : Int32)) := by decide
  have S6 : ∀ t, Steps p.tables e below (T3.setTop (mkF m 8 #[.val (.ref a), .val (.int ch), .val (.int (0 : Int32))] [(.ref a)])) t → Steps p.tables e below (s₁.setTop (entryFrame m #[(.ref a), (.int ch), (.int (0 : Int32))] 3)) t := fun t kt => by
    refine S4 t ?_
    show Steps p.tables e below (T3.setTop (mkF m 4 #[.val (.ref a), .val (.int ch), .val (.int (0 : Int32))] [(.int (1 : Int32))])) t
    refine XS.ifNo X3.here hx rfl (hb hby own_d3_4) rfl ((if0 _ _).trans (feq hc4_5).1) ?_
    show Steps p.tables e below (T3.setTop (mkF m 7 #[.val (.ref a), .val (.int ch), .val (.int (0 : Int32))] [])) t
    refine XS.aloadN X3.here hx rfl (hb hby own_d3_7) rfl rfl ?_
    exact kt
  obtain ⟨T7, X7, e7, st7⟩ := getF X3 hx hZ hown (host := "") (Or.inl (hw _ (List.mem_of_getElem? (i := 29) rfl))) Via.refl eq1 F_value (g := (mkF m 8 #[.val (.ref a), .val (.int ch), .val (.int (0 : Int32))] [(.ref a)])) rfl rfl (hb hby own_d3_8)
  have S8 : ∀ t, Steps p.tables e below (T7.setTop (mkF m 11 #[.val (.ref a), .val (.int ch), .val (.int (0 : Int32))] [(.ref b)])) t → Steps p.tables e below (s₁.setTop (entryFrame m #[(.ref a), (.int ch), (.int (0 : Int32))] 3)) t := fun t kt => S6 t (st7 _ kt)
  have S10 : ∀ t, Steps p.tables e below (T7.setTop (mkF m 14 #[.val (.ref a), .val (.int ch), .val (.int (0 : Int32))] [(.ref a), (.int (0 : Int32)), (.int ch), (.ref b)])) t → Steps p.tables e below (s₁.setTop (entryFrame m #[(.ref a), (.int ch), (.int (0 : Int32))] 3)) t := fun t kt => by
    refine S8 t ?_
    show Steps p.tables e below (T7.setTop (mkF m 11 #[.val (.ref a), .val (.int ch), .val (.int (0 : Int32))] [(.ref b)])) t
    refine XS.iloadN X7.here hx rfl (hb hby own_d3_11) rfl ?_
    show Steps p.tables e below (T7.setTop (mkF m 12 #[.val (.ref a), .val (.int ch), .val (.int (0 : Int32))] [(.int ch), (.ref b)])) t
    refine XS.iloadN X7.here hx rfl (hb hby own_d3_12) rfl ?_
    show Steps p.tables e below (T7.setTop (mkF m 13 #[.val (.ref a), .val (.int ch), .val (.int (0 : Int32))] [(.int (0 : Int32)), (.int ch), (.ref b)])) t
    refine XS.aloadN X7.here hx rfl (hb hby own_d3_13) rfl rfl ?_
    exact kt
  obtain ⟨cq11, kq11, q11a, q11b, q11c⟩ := isOf hZ e7 E_a
  obtain ⟨_, _, ⟨T11, L11, k11, n11⟩, -, X11, ⟨Lc11, hQ11, l11, y11, z11⟩, st11⟩ := X7.virtualBack hx (y := (⟨"java/lang/String", "length", "()I"⟩ : MethodName)) (z := (⟨"java/lang/String", "length", "()I"⟩ : MethodName)) hown (mvT hZ (hw _ (List.mem_of_getElem? (i := 30) rfl))) (mvT hZ (hw _ (List.mem_of_getElem? (i := 31) rfl))) (notFace_of_selects (args := #[]) (mvT hZ (hw _ (List.mem_of_getElem? (i := 33) rfl)))) (mvT hZ (hw _ (List.mem_of_getElem? (i := 33) rfl))) (mvT hZ (hw _ (List.mem_of_getElem? (i := 32) rfl))) (by decide) (backOf (W := 3) (own_rm5 l Z a0 hw [] (a) (cs) (b) (kb) h0 n0 Z0 E_a S_CS hcs F_coder F_value V_b) hZ (hw _ (List.mem_of_getElem? (i := 34) rfl)) (hw _ (List.mem_of_getElem? (i := 5) rfl)) (by decide) (by decide)) q11a q11c (g := (mkF m 14 #[.val (.ref a), .val (.int ch), .val (.int (0 : Int32))] [(.ref a), (.int (0 : Int32)), (.int ch), (.ref b)])) rfl (by rw [hml]; rfl) (Steps.refl _) (argsL := []) (rest := [(.int (0 : Int32)), (.int ch), (.ref b)]) (lenOf own_pd5 rfl) rfl (by show 2 * 0 + _ ≤ _; exact Nat.le_of_eq rfl) (hb hby own_d3_14) (fun _ _ => ⟨rfl, e7, (by decide : 0 + 0 ≤ _), (by decide : 0 + 0 ≤ _)⟩)
  dsimp only [Pt.U, Pt.locs, Pt.cells, Pt.slots] at X11 l11 y11 z11 st11 hQ11
  subst l11 y11 z11
  obtain ⟨rfl, rfl, eq9⟩ := hQ11
  try rw [List.append_nil] at X11
  have S12 : ∀ t, Steps p.tables e below (T11.setTop (mkF m 17 #[.val (.ref a), .val (.int ch), .val (.int (0 : Int32))] [(.int (17 : Int32)), (.int (0 : Int32)), (.int ch), (.ref b)])) t → Steps p.tables e below (s₁.setTop (entryFrame m #[(.ref a), (.int ch), (.int (0 : Int32))] 3)) t := fun t kt => S10 t (st11.trans kt)
  obtain ⟨_, _, ⟨T14, L14, k14, n14⟩, -, X14, ⟨Lc14, hQ14, l14, y14, z14⟩, st14⟩ := Jvm.LawKit.callS X11 hx (y := (⟨"java/lang/StringLatin1", "indexOf", "([BIII)I"⟩ : MethodName)) hown (mvT hZ (hw _ (List.mem_of_getElem? (i := 40) rfl))) (mvT hZ (hw _ (List.mem_of_getElem? (i := 41) rfl))) (mvT hZ (hw _ (List.mem_of_getElem? (i := 42) rfl))) (mvT hZ (hw _ (List.mem_of_getElem? (i := 43) rfl))) (by decide) (backOf (W := 0) (own_rm7 l Z a0 hw [] (b) (ch) (kb) h0 n0 Z0 V_b) hZ (hw _ (List.mem_of_getElem? (i := 43) rfl)) (hw _ (List.mem_of_getElem? (i := 42) rfl)) (by decide) (by decide)) (g := (mkF m 17 #[.val (.ref a), .val (.int ch), .val (.int (0 : Int32))] [(.int (17 : Int32)), (.int (0 : Int32)), (.int ch), (.ref b)])) rfl (by rw [hml]; rfl) (argsL := [(.ref b), (.int ch), (.int (0 : Int32)), (.int (17 : Int32))]) (rest := []) (lenOf own_pd3 rfl) rfl (by show 2 * 0 + _ ≤ _; exact Nat.le_of_eq rfl) (hb hby own_d3_17) (fun _ _ => ⟨rfl, eq9, (by decide : 0 + 0 ≤ _), (by decide : 0 + 0 ≤ _)⟩)
  dsimp only [Pt.U, Pt.locs, Pt.cells, Pt.slots] at X14 l14 y14 z14 st14 hQ14
  subst l14 y14 z14
  obtain ⟨rfl, rfl, eq13⟩ := hQ14
  try rw [List.append_nil] at X14
  have S15 : ∀ t, Steps p.tables e below (T14.setTop (mkF m 20 #[.val (.ref a), .val (.int ch), .val (.int (0 : Int32))] [(.int (own_ix ch))])) t → Steps p.tables e below (s₁.setTop (entryFrame m #[(.ref a), (.int ch), (.int (0 : Int32))] 3)) t := fun t kt => S12 t (st14 _ kt)
  have S16 : ∀ t, Steps p.tables e below (T14.setTop (mkF m 36 #[.val (.ref a), .val (.int ch), .val (.int (0 : Int32))] [(.int (own_ix ch))])) t → Steps p.tables e below (s₁.setTop (entryFrame m #[(.ref a), (.int ch), (.int (0 : Int32))] 3)) t := fun t kt => by
    refine S15 t ?_
    show Steps p.tables e below (T14.setTop (mkF m 20 #[.val (.ref a), .val (.int ch), .val (.int (0 : Int32))] [(.int (own_ix ch))])) t
    refine XS.goto X14.here hx rfl (pc0 := 20) (pc' := 36) rfl (hb hby own_d3_20) (by decide) (by decide) ?_
    exact kt
  obtain ⟨fs, hr, hrun, hended, hW, hsame⟩ := X14.leave (v := some (.int (own_ix ch))) (fun h => by rw [Bd.returns] at h; cases h)
  refine ⟨_, _, S16 _ ?_, hrun, hended, _, _, rfl, ?_, ⟨_, rfl⟩, hW, hsame.mono (by decide) (by decide)⟩
  · show Steps p.tables e below (T14.setTop (mkF m 36 #[.val (.ref a), .val (.int ch), .val (.int (0 : Int32))] [(.int (own_ix ch))])) _
    exact own_retI X14 hx Bd.returns (hb hby own_d3_36) hr
  · show own_Q3 Z a ch cs b kb h0 n0 _ T14.heap _
    rw [eq13]
    exact ⟨rfl, rfl, rfl⟩
theorem own_d2_0 : decode jdk_42_method_79_code 0 = .ok (.aload_n 0, 1) := by decide +kernel
theorem own_d2_1 : decode jdk_42_method_79_code 1 = .ok (.iload_n 1, 1) := by decide +kernel
theorem own_d2_2 : decode jdk_42_method_79_code 2 = .ok (.iconst 0, 1) := by decide +kernel
theorem own_d2_3 : decode jdk_42_method_79_code 3 = .ok (.invokevirtual 633, 3) := by decide +kernel
theorem own_d2_6 : decode jdk_42_method_79_code 6 = .ok (.ireturn, 1) := by decide +kernel
theorem own_ef2 (m : MethodId) (x0 : Addr) (x1 : Int32) : entryFrame m #[(.ref x0), (.int x1)] 2 = mkF m 0 #[.val (.ref x0), .val (.int x1)] [] := by first | (simp [entryFrame, mkF, argsToLocals, Value.category]; done) | rfl
def own_Q2 (Z : State) (a : Addr) (ch : Int32) (cs : Int32) (b : Addr) (kb : ClassId) (h0 : Heap) (n0 : Nat) (v : Option Value) (h : Heap) (L : List Loc) : Prop := v = some (.int (own_ix ch)) ∧ L = [] ∧ h = h0
set_option maxHeartbeats 40000000 in
theorem own_rm2 (l : Launch) (Z : State) (a0 : Array Value) (hw : ∀ d ∈ tables_1, d.before a0 Z = true) (ws : List Jvm.Cond) (a : Addr) (ch : Int32) (cs : Int32) (b : Addr) (kb : ClassId) (h0 : Heap) (n0 : Nat) (Z0 : n0 ≤ h0.size) (E_a : Exa Z h0 a "java/lang/String") (S_CS : Sta Z h0 "java/lang/String" "COMPACT_STRINGS" "Z" (.int cs)) (hcs : ¬ cs = (0 : Int32)) (F_coder : Fld Z h0 a "java/lang/String" "coder" "B" (.int (0 : Int32))) (F_value : Fld Z h0 a "java/lang/String" "value" "[B" (.ref b)) (V_b : Arv Z h0 b kb .byte (17 : Int32) [(.int (126 : Int32)), (.int (33 : Int32)), (.int (64 : Int32)), (.int (36 : Int32)), (.int (37 : Int32)), (.int (94 : Int32)), (.int (38 : Int32)), (.int (42 : Int32)), (.int (95 : Int32)), (.int (45 : Int32)), (.int (43 : Int32)), (.int (61 : Int32)), (.int (60 : Int32)), (.int (62 : Int32)), (.int (46 : Int32)), (.int (63 : Int32)), (.int (47 : Int32))] (.int (0 : Int32))) :
    MetFree l (⟨"java/lang/String", "indexOf", "(I)I"⟩ : MethodName) (head1 (Jvm.Cond.code (⟨"java/lang/String", "indexOf", "(I)I"⟩ : MethodName) jdk_42_method_79_code 2 (some .int) :: ws) ({ frames := 3, cells := 0, slots := 0, locals := 46 } : Room)) (fun argv U => argv = #[(.ref a), (.int ch)] ∧ Z.Warmed39 U.vm ∧ U.heap = h0) (fun _ _ _ _ _ => True) (fun _ U o U' => ∃ v L, o = .returned v ∧ own_Q2 Z a ch cs b kb h0 n0 v U'.heap L ∧ FrameEnd U o U' L ({ frames := 3, cells := 0, slots := 0, locals := 46 } : Room).cells ({ frames := 3, cells := 0, slots := 0, locals := 46 } : Room).slots) := by
  refine MetFree.of_bodySF (plainFor_of_name own_pn0) hisR ?_
  intro p e s m args below meth c s₁ Bd hml0 hP hK
  obtain ⟨rfl, hZ, hh⟩ := hP
  have hx := Bd.exec
  have hby := Bd.bytes
  have hml : c.maxLocals = 2 := hml0
  have hown : s.vm.findClass "java/lang/String" = some m.cls := findClass_of_methodNamed Bd.named
  have hnm := (name_of_methodNamed Bd.named Bd.method).1
  have X0 : Stand p l e ({ frames := 3, cells := 0, slots := 0, locals := 46 } : Room) s m #[(.ref a), (.int ch)] below meth c s₁ [] 0 0 := Stand.of_body Bd
  have e0 : s₁.heap = h0 := by rw [← hh, Bd.state]; rfl
  have N0 := Fr.nil n0
  have pre0 : ∀ t, Steps p.tables e below (s₁.setTop (mkF m 0 #[.val (.ref a), .val (.int ch)] [])) t → Steps p.tables e below (s₁.setTop (entryFrame m #[(.ref a), (.int ch)] 2)) t := fun t k => castTop (own_ef2 m a ch) k
  have S2 : ∀ t, Steps p.tables e below (s₁.setTop (mkF m 3 #[.val (.ref a), .val (.int ch)] [(.int (0 : Int32)), (.int ch), (.ref a)])) t → Steps p.tables e below (s₁.setTop (entryFrame m #[(.ref a), (.int ch)] 2)) t := fun t kt => by
    refine pre0 t ?_
    show Steps p.tables e below (s₁.setTop (mkF m 0 #[.val (.ref a), .val (.int ch)] [])) t
    refine XS.aloadN X0.here hx rfl (hb hby own_d2_0) rfl rfl ?_
    show Steps p.tables e below (s₁.setTop (mkF m 1 #[.val (.ref a), .val (.int ch)] [(.ref a)])) t
    refine XS.iloadN X0.here hx rfl (hb hby own_d2_1) rfl ?_
    show Steps p.tables e below (s₁.setTop (mkF m 2 #[.val (.ref a), .val (.int ch)] [(.int ch), (.ref a)])) t
    refine XS.iconst X0.here hx rfl (hb hby own_d2_2) ?_
    exact kt
  obtain ⟨cq3, kq3, q3a, q3b, q3c⟩ := isOf hZ e0 E_a
  obtain ⟨_, _, ⟨T3, L3, k3, n3⟩, -, X3, ⟨Lc3, hQ3, l3, y3, z3⟩, st3⟩ := X0.virtualBack hx (y := (⟨"java/lang/String", "indexOf", "(II)I"⟩ : MethodName)) (z := (⟨"java/lang/String", "indexOf", "(II)I"⟩ : MethodName)) hown (mvT hZ (hw _ (List.mem_of_getElem? (i := 17) rfl))) (mvT hZ (hw _ (List.mem_of_getElem? (i := 18) rfl))) (notFace_of_selects (args := #[]) (mvT hZ (hw _ (List.mem_of_getElem? (i := 20) rfl)))) (mvT hZ (hw _ (List.mem_of_getElem? (i := 20) rfl))) (mvT hZ (hw _ (List.mem_of_getElem? (i := 19) rfl))) (by decide) (backOf (W := 0) (own_rm3 l Z a0 hw [] (a) (ch) (cs) (b) (kb) h0 n0 Z0 E_a S_CS hcs F_coder F_value V_b) hZ (hw _ (List.mem_of_getElem? (i := 21) rfl)) (hw _ (List.mem_of_getElem? (i := 5) rfl)) (by decide) (by decide)) q3a q3c (g := (mkF m 3 #[.val (.ref a), .val (.int ch)] [(.int (0 : Int32)), (.int ch), (.ref a)])) rfl (by rw [hml]; rfl) (Steps.refl _) (argsL := [(.int ch), (.int (0 : Int32))]) (rest := []) (lenOf own_pd2 rfl) rfl (by show 2 * 0 + _ ≤ _; exact Nat.le_of_eq rfl) (hb hby own_d2_3) (fun _ _ => ⟨rfl, e0, (by decide : 0 + 0 ≤ _), (by decide : 0 + 0 ≤ _)⟩)
  dsimp only [Pt.U, Pt.locs, Pt.cells, Pt.slots] at X3 l3 y3 z3 st3 hQ3
  subst l3 y3 z3
  obtain ⟨rfl, rfl, eq1⟩ := hQ3
  try rw [List.append_nil] at X3
  have S4 : ∀ t, Steps p.tables e below (T3.setTop (mkF m 6 #[.val (.ref a), .val (.int ch)] [(.int (own_ix ch))])) t → Steps p.tables e below (s₁.setTop (entryFrame m #[(.ref a), (.int ch)] 2)) t := fun t kt => S2 t (st3.trans kt)
  obtain ⟨fs, hr, hrun, hended, hW, hsame⟩ := X3.leave (v := some (.int (own_ix ch))) (fun h => by rw [Bd.returns] at h; cases h)
  refine ⟨_, _, S4 _ ?_, hrun, hended, _, _, rfl, ?_, ⟨_, rfl⟩, hW, hsame.mono (by decide) (by decide)⟩
  · show Steps p.tables e below (T3.setTop (mkF m 6 #[.val (.ref a), .val (.int ch)] [(.int (own_ix ch))])) _
    exact own_retI X3 hx Bd.returns (hb hby own_d2_6) hr
  · show own_Q2 Z a ch cs b kb h0 n0 _ T3.heap _
    rw [eq1]
    exact ⟨rfl, rfl, rfl⟩
theorem own_d12_0 : decode method_3_code 0 = .ok (.iload_n 0, 1) := by decide +kernel
theorem own_d12_1 : decode method_3_code 1 = .ok (.bipush 34, 2) := by decide +kernel
theorem own_d12_3 : decode method_3_code 3 = .ok (.if_icmp .eq 87, 3) := by decide +kernel
theorem own_d12_6 : decode method_3_code 6 = .ok (.iload_n 0, 1) := by decide +kernel
theorem own_d12_7 : decode method_3_code 7 = .ok (.bipush 35, 2) := by decide +kernel
theorem own_d12_9 : decode method_3_code 9 = .ok (.if_icmp .eq 81, 3) := by decide +kernel
theorem own_d12_12 : decode method_3_code 12 = .ok (.iload_n 0, 1) := by decide +kernel
theorem own_d12_13 : decode method_3_code 13 = .ok (.bipush 39, 2) := by decide +kernel
theorem own_d12_15 : decode method_3_code 15 = .ok (.if_icmp .eq 75, 3) := by decide +kernel
theorem own_d12_18 : decode method_3_code 18 = .ok (.iload_n 0, 1) := by decide +kernel
theorem own_d12_19 : decode method_3_code 19 = .ok (.bipush 40, 2) := by decide +kernel
theorem own_d12_21 : decode method_3_code 21 = .ok (.if_icmp .eq 69, 3) := by decide +kernel
theorem own_d12_24 : decode method_3_code 24 = .ok (.iload_n 0, 1) := by decide +kernel
theorem own_d12_25 : decode method_3_code 25 = .ok (.bipush 41, 2) := by decide +kernel
theorem own_d12_27 : decode method_3_code 27 = .ok (.if_icmp .eq 63, 3) := by decide +kernel
theorem own_d12_30 : decode method_3_code 30 = .ok (.iload_n 0, 1) := by decide +kernel
theorem own_d12_31 : decode method_3_code 31 = .ok (.bipush 44, 2) := by decide +kernel
theorem own_d12_33 : decode method_3_code 33 = .ok (.if_icmp .eq 57, 3) := by decide +kernel
theorem own_d12_36 : decode method_3_code 36 = .ok (.iload_n 0, 1) := by decide +kernel
theorem own_d12_37 : decode method_3_code 37 = .ok (.bipush 58, 2) := by decide +kernel
theorem own_d12_39 : decode method_3_code 39 = .ok (.if_icmp .eq 51, 3) := by decide +kernel
theorem own_d12_42 : decode method_3_code 42 = .ok (.iload_n 0, 1) := by decide +kernel
theorem own_d12_43 : decode method_3_code 43 = .ok (.bipush 59, 2) := by decide +kernel
theorem own_d12_45 : decode method_3_code 45 = .ok (.if_icmp .eq 45, 3) := by decide +kernel
theorem own_d12_48 : decode method_3_code 48 = .ok (.iload_n 0, 1) := by decide +kernel
theorem own_d12_49 : decode method_3_code 49 = .ok (.bipush 91, 2) := by decide +kernel
theorem own_d12_51 : decode method_3_code 51 = .ok (.if_icmp .eq 39, 3) := by decide +kernel
theorem own_d12_54 : decode method_3_code 54 = .ok (.iload_n 0, 1) := by decide +kernel
theorem own_d12_55 : decode method_3_code 55 = .ok (.bipush 92, 2) := by decide +kernel
theorem own_d12_57 : decode method_3_code 57 = .ok (.if_icmp .eq 33, 3) := by decide +kernel
theorem own_d12_60 : decode method_3_code 60 = .ok (.iload_n 0, 1) := by decide +kernel
theorem own_d12_61 : decode method_3_code 61 = .ok (.bipush 93, 2) := by decide +kernel
theorem own_d12_63 : decode method_3_code 63 = .ok (.if_icmp .eq 27, 3) := by decide +kernel
theorem own_d12_66 : decode method_3_code 66 = .ok (.iload_n 0, 1) := by decide +kernel
theorem own_d12_67 : decode method_3_code 67 = .ok (.bipush 96, 2) := by decide +kernel
theorem own_d12_69 : decode method_3_code 69 = .ok (.if_icmp .eq 21, 3) := by decide +kernel
theorem own_d12_72 : decode method_3_code 72 = .ok (.iload_n 0, 1) := by decide +kernel
theorem own_d12_73 : decode method_3_code 73 = .ok (.bipush 123, 2) := by decide +kernel
theorem own_d12_75 : decode method_3_code 75 = .ok (.if_icmp .eq 15, 3) := by decide +kernel
theorem own_d12_78 : decode method_3_code 78 = .ok (.iload_n 0, 1) := by decide +kernel
theorem own_d12_79 : decode method_3_code 79 = .ok (.bipush 124, 2) := by decide +kernel
theorem own_d12_81 : decode method_3_code 81 = .ok (.if_icmp .eq 9, 3) := by decide +kernel
theorem own_d12_84 : decode method_3_code 84 = .ok (.iload_n 0, 1) := by decide +kernel
theorem own_d12_85 : decode method_3_code 85 = .ok (.bipush 125, 2) := by decide +kernel
theorem own_d12_87 : decode method_3_code 87 = .ok (.if_icmp .ne 7, 3) := by decide +kernel
theorem own_d12_90 : decode method_3_code 90 = .ok (.iconst 1, 1) := by decide +kernel
theorem own_d12_91 : decode method_3_code 91 = .ok (.goto 4, 3) := by decide +kernel
theorem own_d12_94 : decode method_3_code 94 = .ok (.iconst 0, 1) := by decide +kernel
theorem own_d12_95 : decode method_3_code 95 = .ok (.ireturn, 1) := by decide +kernel
theorem own_ef12 (m : MethodId) (x0 : Int32) : entryFrame m #[(.int x0)] 1 = mkF m 0 #[.val (.int x0)] [] := by first | (simp [entryFrame, mkF, argsToLocals, Value.category]; done) | rfl
def own_Q12 (Z : State) (ch : Int32) (h0 : Heap) (n0 : Nat) (v : Option Value) (h : Heap) (L : List Loc) : Prop := v = some (.int (own_b (own_exc ch))) ∧ L = [] ∧ h = h0
theorem own_pn2 : plainName "com/example/invariant_to_halt/invarianttohalt/program/SmtLibSyntaxIsSimpleSymbolCharacterPinLaw" = true := by first | (simp [plainName, overriddenIn]; done) | decide +kernel
set_option maxHeartbeats 40000000 in
theorem own_rm12 (l : Launch) (Z : State) (a0 : Array Value) (hw : ∀ d ∈ tables_1, d.before a0 Z = true) (ws : List Jvm.Cond) (ch : Int32) (h0 : Heap) (n0 : Nat) (Z0 : n0 ≤ h0.size) :
    MetFree l (⟨"com/example/invariant_to_halt/invarianttohalt/program/SmtLibSyntaxIsSimpleSymbolCharacterPinLaw", "excluded", "(C)Z"⟩ : MethodName) (head1 (Jvm.Cond.code (⟨"com/example/invariant_to_halt/invarianttohalt/program/SmtLibSyntaxIsSimpleSymbolCharacterPinLaw", "excluded", "(C)Z"⟩ : MethodName) method_3_code 1 (some .boolean) :: ws) ({ frames := 0, cells := 0, slots := 0, locals := 0 } : Room)) (fun argv U => argv = #[(.int ch)] ∧ Z.Warmed39 U.vm ∧ U.heap = h0) (fun _ _ _ _ _ => True) (fun _ U o U' => ∃ v L, o = .returned v ∧ own_Q12 Z ch h0 n0 v U'.heap L ∧ FrameEnd U o U' L ({ frames := 0, cells := 0, slots := 0, locals := 0 } : Room).cells ({ frames := 0, cells := 0, slots := 0, locals := 0 } : Room).slots) := by
  refine MetFree.of_bodySF (plainFor_of_name own_pn2) hisR ?_
  intro p e s m args below meth c s₁ Bd hml0 hP hK
  obtain ⟨rfl, hZ, hh⟩ := hP
  have hx := Bd.exec
  have hby := Bd.bytes
  have hml : c.maxLocals = 1 := hml0
  have hown : s.vm.findClass "com/example/invariant_to_halt/invarianttohalt/program/SmtLibSyntaxIsSimpleSymbolCharacterPinLaw" = some m.cls := findClass_of_methodNamed Bd.named
  have hnm := (name_of_methodNamed Bd.named Bd.method).1
  have X0 : Stand p l e ({ frames := 0, cells := 0, slots := 0, locals := 0 } : Room) s m #[(.int ch)] below meth c s₁ [] 0 0 := Stand.of_body Bd
  have e0 : s₁.heap = h0 := by rw [← hh, Bd.state]; rfl
  have N0 := Fr.nil n0
  have pre0 : ∀ t, Steps p.tables e below (s₁.setTop (mkF m 0 #[.val (.int ch)] [])) t → Steps p.tables e below (s₁.setTop (entryFrame m #[(.int ch)] 1)) t := fun t k => castTop (own_ef12 m ch) k
  have S1 : ∀ t, Steps p.tables e below (s₁.setTop (mkF m 3 #[.val (.int ch)] [(.int (34 : Int32)), (.int ch)])) t → Steps p.tables e below (s₁.setTop (entryFrame m #[(.int ch)] 1)) t := fun t kt => by
    refine pre0 t ?_
    show Steps p.tables e below (s₁.setTop (mkF m 0 #[.val (.int ch)] [])) t
    refine XS.iloadN X0.here hx rfl (hb hby own_d12_0) rfl ?_
    show Steps p.tables e below (s₁.setTop (mkF m 1 #[.val (.int ch)] [(.int ch)])) t
    refine XS.bipush X0.here hx rfl (hb hby own_d12_1) ?_
    exact kt
  by_cases hc3 : ch = (34 : Int32)
  · skip
    have S2 : ∀ t, Steps p.tables e below (s₁.setTop (mkF m 95 #[.val (.int ch)] [(.int (1 : Int32))])) t → Steps p.tables e below (s₁.setTop (entryFrame m #[(.int ch)] 1)) t := fun t kt => by
      refine S1 t ?_
      show Steps p.tables e below (s₁.setTop (mkF m 3 #[.val (.int ch)] [(.int (34 : Int32)), (.int ch)])) t
      refine XS.icmpYes X0.here hx rfl (pc0 := 3) (pc' := 90) rfl (hb hby own_d12_3) rfl (teq hc3).1 (by decide) (by decide) ?_
      show Steps p.tables e below (s₁.setTop (mkF m 90 #[.val (.int ch)] [])) t
      refine XS.iconst X0.here hx rfl (hb hby own_d12_90) ?_
      show Steps p.tables e below (s₁.setTop (mkF m 91 #[.val (.int ch)] [(.int (1 : Int32))])) t
      refine XS.goto X0.here hx rfl (pc0 := 91) (pc' := 95) rfl (hb hby own_d12_91) (by decide) (by decide) ?_
      exact kt
    obtain ⟨fs, hr, hrun, hended, hW, hsame⟩ := X0.leave (v := some (.int (nar .boolean (1 : Int32)))) (fun h => by rw [Bd.returns] at h; cases h)
    refine ⟨_, _, S2 _ ?_, hrun, hended, _, _, rfl, ?_, ⟨_, rfl⟩, hW, hsame.mono (by decide) (by decide)⟩
    · show Steps p.tables e below (s₁.setTop (mkF m 95 #[.val (.int ch)] [(.int (1 : Int32))])) _
      exact retN X0 hx (t := .boolean) Bd.returns (by simp) (hb hby own_d12_95) hr
    · show own_Q12 Z ch h0 n0 _ s₁.heap _
      rw [e0]
      exact ⟨own_leafT (by simp only [own_exc, decide_true, decide_false, not_true_eq_false, not_false_eq_true, and_true, true_and, and_false, false_and, and_self, or_true, true_or, or_false, false_or, or_self, if_true, if_false, Bool.not_true, Bool.not_false, Bool.and_true, Bool.true_and, Bool.and_false, Bool.false_and, *]), rfl, rfl⟩
  · skip
    have S3 : ∀ t, Steps p.tables e below (s₁.setTop (mkF m 9 #[.val (.int ch)] [(.int (35 : Int32)), (.int ch)])) t → Steps p.tables e below (s₁.setTop (entryFrame m #[(.int ch)] 1)) t := fun t kt => by
      refine S1 t ?_
      show Steps p.tables e below (s₁.setTop (mkF m 3 #[.val (.int ch)] [(.int (34 : Int32)), (.int ch)])) t
      refine XS.icmpNo X0.here hx rfl (hb hby own_d12_3) rfl (feq hc3).1 ?_
      show Steps p.tables e below (s₁.setTop (mkF m 6 #[.val (.int ch)] [])) t
      refine XS.iloadN X0.here hx rfl (hb hby own_d12_6) rfl ?_
      show Steps p.tables e below (s₁.setTop (mkF m 7 #[.val (.int ch)] [(.int ch)])) t
      refine XS.bipush X0.here hx rfl (hb hby own_d12_7) ?_
      exact kt
    by_cases hc9 : ch = (35 : Int32)
    · skip
      have S4 : ∀ t, Steps p.tables e below (s₁.setTop (mkF m 95 #[.val (.int ch)] [(.int (1 : Int32))])) t → Steps p.tables e below (s₁.setTop (entryFrame m #[(.int ch)] 1)) t := fun t kt => by
        refine S3 t ?_
        show Steps p.tables e below (s₁.setTop (mkF m 9 #[.val (.int ch)] [(.int (35 : Int32)), (.int ch)])) t
        refine XS.icmpYes X0.here hx rfl (pc0 := 9) (pc' := 90) rfl (hb hby own_d12_9) rfl (teq hc9).1 (by decide) (by decide) ?_
        show Steps p.tables e below (s₁.setTop (mkF m 90 #[.val (.int ch)] [])) t
        refine XS.iconst X0.here hx rfl (hb hby own_d12_90) ?_
        show Steps p.tables e below (s₁.setTop (mkF m 91 #[.val (.int ch)] [(.int (1 : Int32))])) t
        refine XS.goto X0.here hx rfl (pc0 := 91) (pc' := 95) rfl (hb hby own_d12_91) (by decide) (by decide) ?_
        exact kt
      obtain ⟨fs, hr, hrun, hended, hW, hsame⟩ := X0.leave (v := some (.int (nar .boolean (1 : Int32)))) (fun h => by rw [Bd.returns] at h; cases h)
      refine ⟨_, _, S4 _ ?_, hrun, hended, _, _, rfl, ?_, ⟨_, rfl⟩, hW, hsame.mono (by decide) (by decide)⟩
      · show Steps p.tables e below (s₁.setTop (mkF m 95 #[.val (.int ch)] [(.int (1 : Int32))])) _
        exact retN X0 hx (t := .boolean) Bd.returns (by simp) (hb hby own_d12_95) hr
      · show own_Q12 Z ch h0 n0 _ s₁.heap _
        rw [e0]
        exact ⟨own_leafT (by simp only [own_exc, decide_true, decide_false, not_true_eq_false, not_false_eq_true, and_true, true_and, and_false, false_and, and_self, or_true, true_or, or_false, false_or, or_self, if_true, if_false, Bool.not_true, Bool.not_false, Bool.and_true, Bool.true_and, Bool.and_false, Bool.false_and, *]), rfl, rfl⟩
    · skip
      have S5 : ∀ t, Steps p.tables e below (s₁.setTop (mkF m 15 #[.val (.int ch)] [(.int (39 : Int32)), (.int ch)])) t → Steps p.tables e below (s₁.setTop (entryFrame m #[(.int ch)] 1)) t := fun t kt => by
        refine S3 t ?_
        show Steps p.tables e below (s₁.setTop (mkF m 9 #[.val (.int ch)] [(.int (35 : Int32)), (.int ch)])) t
        refine XS.icmpNo X0.here hx rfl (hb hby own_d12_9) rfl (feq hc9).1 ?_
        show Steps p.tables e below (s₁.setTop (mkF m 12 #[.val (.int ch)] [])) t
        refine XS.iloadN X0.here hx rfl (hb hby own_d12_12) rfl ?_
        show Steps p.tables e below (s₁.setTop (mkF m 13 #[.val (.int ch)] [(.int ch)])) t
        refine XS.bipush X0.here hx rfl (hb hby own_d12_13) ?_
        exact kt
      by_cases hc15 : ch = (39 : Int32)
      · skip
        have S6 : ∀ t, Steps p.tables e below (s₁.setTop (mkF m 95 #[.val (.int ch)] [(.int (1 : Int32))])) t → Steps p.tables e below (s₁.setTop (entryFrame m #[(.int ch)] 1)) t := fun t kt => by
          refine S5 t ?_
          show Steps p.tables e below (s₁.setTop (mkF m 15 #[.val (.int ch)] [(.int (39 : Int32)), (.int ch)])) t
          refine XS.icmpYes X0.here hx rfl (pc0 := 15) (pc' := 90) rfl (hb hby own_d12_15) rfl (teq hc15).1 (by decide) (by decide) ?_
          show Steps p.tables e below (s₁.setTop (mkF m 90 #[.val (.int ch)] [])) t
          refine XS.iconst X0.here hx rfl (hb hby own_d12_90) ?_
          show Steps p.tables e below (s₁.setTop (mkF m 91 #[.val (.int ch)] [(.int (1 : Int32))])) t
          refine XS.goto X0.here hx rfl (pc0 := 91) (pc' := 95) rfl (hb hby own_d12_91) (by decide) (by decide) ?_
          exact kt
        obtain ⟨fs, hr, hrun, hended, hW, hsame⟩ := X0.leave (v := some (.int (nar .boolean (1 : Int32)))) (fun h => by rw [Bd.returns] at h; cases h)
        refine ⟨_, _, S6 _ ?_, hrun, hended, _, _, rfl, ?_, ⟨_, rfl⟩, hW, hsame.mono (by decide) (by decide)⟩
        · show Steps p.tables e below (s₁.setTop (mkF m 95 #[.val (.int ch)] [(.int (1 : Int32))])) _
          exact retN X0 hx (t := .boolean) Bd.returns (by simp) (hb hby own_d12_95) hr
        · show own_Q12 Z ch h0 n0 _ s₁.heap _
          rw [e0]
          exact ⟨own_leafT (by simp only [own_exc, decide_true, decide_false, not_true_eq_false, not_false_eq_true, and_true, true_and, and_false, false_and, and_self, or_true, true_or, or_false, false_or, or_self, if_true, if_false, Bool.not_true, Bool.not_false, Bool.and_true, Bool.true_and, Bool.and_false, Bool.false_and, *]), rfl, rfl⟩
      · skip
        have S7 : ∀ t, Steps p.tables e below (s₁.setTop (mkF m 21 #[.val (.int ch)] [(.int (40 : Int32)), (.int ch)])) t → Steps p.tables e below (s₁.setTop (entryFrame m #[(.int ch)] 1)) t := fun t kt => by
          refine S5 t ?_
          show Steps p.tables e below (s₁.setTop (mkF m 15 #[.val (.int ch)] [(.int (39 : Int32)), (.int ch)])) t
          refine XS.icmpNo X0.here hx rfl (hb hby own_d12_15) rfl (feq hc15).1 ?_
          show Steps p.tables e below (s₁.setTop (mkF m 18 #[.val (.int ch)] [])) t
          refine XS.iloadN X0.here hx rfl (hb hby own_d12_18) rfl ?_
          show Steps p.tables e below (s₁.setTop (mkF m 19 #[.val (.int ch)] [(.int ch)])) t
          refine XS.bipush X0.here hx rfl (hb hby own_d12_19) ?_
          exact kt
        by_cases hc21 : ch = (40 : Int32)
        · skip
          have S8 : ∀ t, Steps p.tables e below (s₁.setTop (mkF m 95 #[.val (.int ch)] [(.int (1 : Int32))])) t → Steps p.tables e below (s₁.setTop (entryFrame m #[(.int ch)] 1)) t := fun t kt => by
            refine S7 t ?_
            show Steps p.tables e below (s₁.setTop (mkF m 21 #[.val (.int ch)] [(.int (40 : Int32)), (.int ch)])) t
            refine XS.icmpYes X0.here hx rfl (pc0 := 21) (pc' := 90) rfl (hb hby own_d12_21) rfl (teq hc21).1 (by decide) (by decide) ?_
            show Steps p.tables e below (s₁.setTop (mkF m 90 #[.val (.int ch)] [])) t
            refine XS.iconst X0.here hx rfl (hb hby own_d12_90) ?_
            show Steps p.tables e below (s₁.setTop (mkF m 91 #[.val (.int ch)] [(.int (1 : Int32))])) t
            refine XS.goto X0.here hx rfl (pc0 := 91) (pc' := 95) rfl (hb hby own_d12_91) (by decide) (by decide) ?_
            exact kt
          obtain ⟨fs, hr, hrun, hended, hW, hsame⟩ := X0.leave (v := some (.int (nar .boolean (1 : Int32)))) (fun h => by rw [Bd.returns] at h; cases h)
          refine ⟨_, _, S8 _ ?_, hrun, hended, _, _, rfl, ?_, ⟨_, rfl⟩, hW, hsame.mono (by decide) (by decide)⟩
          · show Steps p.tables e below (s₁.setTop (mkF m 95 #[.val (.int ch)] [(.int (1 : Int32))])) _
            exact retN X0 hx (t := .boolean) Bd.returns (by simp) (hb hby own_d12_95) hr
          · show own_Q12 Z ch h0 n0 _ s₁.heap _
            rw [e0]
            exact ⟨own_leafT (by simp only [own_exc, decide_true, decide_false, not_true_eq_false, not_false_eq_true, and_true, true_and, and_false, false_and, and_self, or_true, true_or, or_false, false_or, or_self, if_true, if_false, Bool.not_true, Bool.not_false, Bool.and_true, Bool.true_and, Bool.and_false, Bool.false_and, *]), rfl, rfl⟩
        · skip
          have S9 : ∀ t, Steps p.tables e below (s₁.setTop (mkF m 27 #[.val (.int ch)] [(.int (41 : Int32)), (.int ch)])) t → Steps p.tables e below (s₁.setTop (entryFrame m #[(.int ch)] 1)) t := fun t kt => by
            refine S7 t ?_
            show Steps p.tables e below (s₁.setTop (mkF m 21 #[.val (.int ch)] [(.int (40 : Int32)), (.int ch)])) t
            refine XS.icmpNo X0.here hx rfl (hb hby own_d12_21) rfl (feq hc21).1 ?_
            show Steps p.tables e below (s₁.setTop (mkF m 24 #[.val (.int ch)] [])) t
            refine XS.iloadN X0.here hx rfl (hb hby own_d12_24) rfl ?_
            show Steps p.tables e below (s₁.setTop (mkF m 25 #[.val (.int ch)] [(.int ch)])) t
            refine XS.bipush X0.here hx rfl (hb hby own_d12_25) ?_
            exact kt
          by_cases hc27 : ch = (41 : Int32)
          · skip
            have S10 : ∀ t, Steps p.tables e below (s₁.setTop (mkF m 95 #[.val (.int ch)] [(.int (1 : Int32))])) t → Steps p.tables e below (s₁.setTop (entryFrame m #[(.int ch)] 1)) t := fun t kt => by
              refine S9 t ?_
              show Steps p.tables e below (s₁.setTop (mkF m 27 #[.val (.int ch)] [(.int (41 : Int32)), (.int ch)])) t
              refine XS.icmpYes X0.here hx rfl (pc0 := 27) (pc' := 90) rfl (hb hby own_d12_27) rfl (teq hc27).1 (by decide) (by decide) ?_
              show Steps p.tables e below (s₁.setTop (mkF m 90 #[.val (.int ch)] [])) t
              refine XS.iconst X0.here hx rfl (hb hby own_d12_90) ?_
              show Steps p.tables e below (s₁.setTop (mkF m 91 #[.val (.int ch)] [(.int (1 : Int32))])) t
              refine XS.goto X0.here hx rfl (pc0 := 91) (pc' := 95) rfl (hb hby own_d12_91) (by decide) (by decide) ?_
              exact kt
            obtain ⟨fs, hr, hrun, hended, hW, hsame⟩ := X0.leave (v := some (.int (nar .boolean (1 : Int32)))) (fun h => by rw [Bd.returns] at h; cases h)
            refine ⟨_, _, S10 _ ?_, hrun, hended, _, _, rfl, ?_, ⟨_, rfl⟩, hW, hsame.mono (by decide) (by decide)⟩
            · show Steps p.tables e below (s₁.setTop (mkF m 95 #[.val (.int ch)] [(.int (1 : Int32))])) _
              exact retN X0 hx (t := .boolean) Bd.returns (by simp) (hb hby own_d12_95) hr
            · show own_Q12 Z ch h0 n0 _ s₁.heap _
              rw [e0]
              exact ⟨own_leafT (by simp only [own_exc, decide_true, decide_false, not_true_eq_false, not_false_eq_true, and_true, true_and, and_false, false_and, and_self, or_true, true_or, or_false, false_or, or_self, if_true, if_false, Bool.not_true, Bool.not_false, Bool.and_true, Bool.true_and, Bool.and_false, Bool.false_and, *]), rfl, rfl⟩
          · skip
            have S11 : ∀ t, Steps p.tables e below (s₁.setTop (mkF m 33 #[.val (.int ch)] [(.int (44 : Int32)), (.int ch)])) t → Steps p.tables e below (s₁.setTop (entryFrame m #[(.int ch)] 1)) t := fun t kt => by
              refine S9 t ?_
              show Steps p.tables e below (s₁.setTop (mkF m 27 #[.val (.int ch)] [(.int (41 : Int32)), (.int ch)])) t
              refine XS.icmpNo X0.here hx rfl (hb hby own_d12_27) rfl (feq hc27).1 ?_
              show Steps p.tables e below (s₁.setTop (mkF m 30 #[.val (.int ch)] [])) t
              refine XS.iloadN X0.here hx rfl (hb hby own_d12_30) rfl ?_
              show Steps p.tables e below (s₁.setTop (mkF m 31 #[.val (.int ch)] [(.int ch)])) t
              refine XS.bipush X0.here hx rfl (hb hby own_d12_31) ?_
              exact kt
            by_cases hc33 : ch = (44 : Int32)
            · skip
              have S12 : ∀ t, Steps p.tables e below (s₁.setTop (mkF m 95 #[.val (.int ch)] [(.int (1 : Int32))])) t → Steps p.tables e below (s₁.setTop (entryFrame m #[(.int ch)] 1)) t := fun t kt => by
                refine S11 t ?_
                show Steps p.tables e below (s₁.setTop (mkF m 33 #[.val (.int ch)] [(.int (44 : Int32)), (.int ch)])) t
                refine XS.icmpYes X0.here hx rfl (pc0 := 33) (pc' := 90) rfl (hb hby own_d12_33) rfl (teq hc33).1 (by decide) (by decide) ?_
                show Steps p.tables e below (s₁.setTop (mkF m 90 #[.val (.int ch)] [])) t
                refine XS.iconst X0.here hx rfl (hb hby own_d12_90) ?_
                show Steps p.tables e below (s₁.setTop (mkF m 91 #[.val (.int ch)] [(.int (1 : Int32))])) t
                refine XS.goto X0.here hx rfl (pc0 := 91) (pc' := 95) rfl (hb hby own_d12_91) (by decide) (by decide) ?_
                exact kt
              obtain ⟨fs, hr, hrun, hended, hW, hsame⟩ := X0.leave (v := some (.int (nar .boolean (1 : Int32)))) (fun h => by rw [Bd.returns] at h; cases h)
              refine ⟨_, _, S12 _ ?_, hrun, hended, _, _, rfl, ?_, ⟨_, rfl⟩, hW, hsame.mono (by decide) (by decide)⟩
              · show Steps p.tables e below (s₁.setTop (mkF m 95 #[.val (.int ch)] [(.int (1 : Int32))])) _
                exact retN X0 hx (t := .boolean) Bd.returns (by simp) (hb hby own_d12_95) hr
              · show own_Q12 Z ch h0 n0 _ s₁.heap _
                rw [e0]
                exact ⟨own_leafT (by simp only [own_exc, decide_true, decide_false, not_true_eq_false, not_false_eq_true, and_true, true_and, and_false, false_and, and_self, or_true, true_or, or_false, false_or, or_self, if_true, if_false, Bool.not_true, Bool.not_false, Bool.and_true, Bool.true_and, Bool.and_false, Bool.false_and, *]), rfl, rfl⟩
            · skip
              have S13 : ∀ t, Steps p.tables e below (s₁.setTop (mkF m 39 #[.val (.int ch)] [(.int (58 : Int32)), (.int ch)])) t → Steps p.tables e below (s₁.setTop (entryFrame m #[(.int ch)] 1)) t := fun t kt => by
                refine S11 t ?_
                show Steps p.tables e below (s₁.setTop (mkF m 33 #[.val (.int ch)] [(.int (44 : Int32)), (.int ch)])) t
                refine XS.icmpNo X0.here hx rfl (hb hby own_d12_33) rfl (feq hc33).1 ?_
                show Steps p.tables e below (s₁.setTop (mkF m 36 #[.val (.int ch)] [])) t
                refine XS.iloadN X0.here hx rfl (hb hby own_d12_36) rfl ?_
                show Steps p.tables e below (s₁.setTop (mkF m 37 #[.val (.int ch)] [(.int ch)])) t
                refine XS.bipush X0.here hx rfl (hb hby own_d12_37) ?_
                exact kt
              by_cases hc39 : ch = (58 : Int32)
              · skip
                have S14 : ∀ t, Steps p.tables e below (s₁.setTop (mkF m 95 #[.val (.int ch)] [(.int (1 : Int32))])) t → Steps p.tables e below (s₁.setTop (entryFrame m #[(.int ch)] 1)) t := fun t kt => by
                  refine S13 t ?_
                  show Steps p.tables e below (s₁.setTop (mkF m 39 #[.val (.int ch)] [(.int (58 : Int32)), (.int ch)])) t
                  refine XS.icmpYes X0.here hx rfl (pc0 := 39) (pc' := 90) rfl (hb hby own_d12_39) rfl (teq hc39).1 (by decide) (by decide) ?_
                  show Steps p.tables e below (s₁.setTop (mkF m 90 #[.val (.int ch)] [])) t
                  refine XS.iconst X0.here hx rfl (hb hby own_d12_90) ?_
                  show Steps p.tables e below (s₁.setTop (mkF m 91 #[.val (.int ch)] [(.int (1 : Int32))])) t
                  refine XS.goto X0.here hx rfl (pc0 := 91) (pc' := 95) rfl (hb hby own_d12_91) (by decide) (by decide) ?_
                  exact kt
                obtain ⟨fs, hr, hrun, hended, hW, hsame⟩ := X0.leave (v := some (.int (nar .boolean (1 : Int32)))) (fun h => by rw [Bd.returns] at h; cases h)
                refine ⟨_, _, S14 _ ?_, hrun, hended, _, _, rfl, ?_, ⟨_, rfl⟩, hW, hsame.mono (by decide) (by decide)⟩
                · show Steps p.tables e below (s₁.setTop (mkF m 95 #[.val (.int ch)] [(.int (1 : Int32))])) _
                  exact retN X0 hx (t := .boolean) Bd.returns (by simp) (hb hby own_d12_95) hr
                · show own_Q12 Z ch h0 n0 _ s₁.heap _
                  rw [e0]
                  exact ⟨own_leafT (by simp only [own_exc, decide_true, decide_false, not_true_eq_false, not_false_eq_true, and_true, true_and, and_false, false_and, and_self, or_true, true_or, or_false, false_or, or_self, if_true, if_false, Bool.not_true, Bool.not_false, Bool.and_true, Bool.true_and, Bool.and_false, Bool.false_and, *]), rfl, rfl⟩
              · skip
                have S15 : ∀ t, Steps p.tables e below (s₁.setTop (mkF m 45 #[.val (.int ch)] [(.int (59 : Int32)), (.int ch)])) t → Steps p.tables e below (s₁.setTop (entryFrame m #[(.int ch)] 1)) t := fun t kt => by
                  refine S13 t ?_
                  show Steps p.tables e below (s₁.setTop (mkF m 39 #[.val (.int ch)] [(.int (58 : Int32)), (.int ch)])) t
                  refine XS.icmpNo X0.here hx rfl (hb hby own_d12_39) rfl (feq hc39).1 ?_
                  show Steps p.tables e below (s₁.setTop (mkF m 42 #[.val (.int ch)] [])) t
                  refine XS.iloadN X0.here hx rfl (hb hby own_d12_42) rfl ?_
                  show Steps p.tables e below (s₁.setTop (mkF m 43 #[.val (.int ch)] [(.int ch)])) t
                  refine XS.bipush X0.here hx rfl (hb hby own_d12_43) ?_
                  exact kt
                by_cases hc45 : ch = (59 : Int32)
                · skip
                  have S16 : ∀ t, Steps p.tables e below (s₁.setTop (mkF m 95 #[.val (.int ch)] [(.int (1 : Int32))])) t → Steps p.tables e below (s₁.setTop (entryFrame m #[(.int ch)] 1)) t := fun t kt => by
                    refine S15 t ?_
                    show Steps p.tables e below (s₁.setTop (mkF m 45 #[.val (.int ch)] [(.int (59 : Int32)), (.int ch)])) t
                    refine XS.icmpYes X0.here hx rfl (pc0 := 45) (pc' := 90) rfl (hb hby own_d12_45) rfl (teq hc45).1 (by decide) (by decide) ?_
                    show Steps p.tables e below (s₁.setTop (mkF m 90 #[.val (.int ch)] [])) t
                    refine XS.iconst X0.here hx rfl (hb hby own_d12_90) ?_
                    show Steps p.tables e below (s₁.setTop (mkF m 91 #[.val (.int ch)] [(.int (1 : Int32))])) t
                    refine XS.goto X0.here hx rfl (pc0 := 91) (pc' := 95) rfl (hb hby own_d12_91) (by decide) (by decide) ?_
                    exact kt
                  obtain ⟨fs, hr, hrun, hended, hW, hsame⟩ := X0.leave (v := some (.int (nar .boolean (1 : Int32)))) (fun h => by rw [Bd.returns] at h; cases h)
                  refine ⟨_, _, S16 _ ?_, hrun, hended, _, _, rfl, ?_, ⟨_, rfl⟩, hW, hsame.mono (by decide) (by decide)⟩
                  · show Steps p.tables e below (s₁.setTop (mkF m 95 #[.val (.int ch)] [(.int (1 : Int32))])) _
                    exact retN X0 hx (t := .boolean) Bd.returns (by simp) (hb hby own_d12_95) hr
                  · show own_Q12 Z ch h0 n0 _ s₁.heap _
                    rw [e0]
                    exact ⟨own_leafT (by simp only [own_exc, decide_true, decide_false, not_true_eq_false, not_false_eq_true, and_true, true_and, and_false, false_and, and_self, or_true, true_or, or_false, false_or, or_self, if_true, if_false, Bool.not_true, Bool.not_false, Bool.and_true, Bool.true_and, Bool.and_false, Bool.false_and, *]), rfl, rfl⟩
                · skip
                  have S17 : ∀ t, Steps p.tables e below (s₁.setTop (mkF m 51 #[.val (.int ch)] [(.int (91 : Int32)), (.int ch)])) t → Steps p.tables e below (s₁.setTop (entryFrame m #[(.int ch)] 1)) t := fun t kt => by
                    refine S15 t ?_
                    show Steps p.tables e below (s₁.setTop (mkF m 45 #[.val (.int ch)] [(.int (59 : Int32)), (.int ch)])) t
                    refine XS.icmpNo X0.here hx rfl (hb hby own_d12_45) rfl (feq hc45).1 ?_
                    show Steps p.tables e below (s₁.setTop (mkF m 48 #[.val (.int ch)] [])) t
                    refine XS.iloadN X0.here hx rfl (hb hby own_d12_48) rfl ?_
                    show Steps p.tables e below (s₁.setTop (mkF m 49 #[.val (.int ch)] [(.int ch)])) t
                    refine XS.bipush X0.here hx rfl (hb hby own_d12_49) ?_
                    exact kt
                  by_cases hc51 : ch = (91 : Int32)
                  · skip
                    have S18 : ∀ t, Steps p.tables e below (s₁.setTop (mkF m 95 #[.val (.int ch)] [(.int (1 : Int32))])) t → Steps p.tables e below (s₁.setTop (entryFrame m #[(.int ch)] 1)) t := fun t kt => by
                      refine S17 t ?_
                      show Steps p.tables e below (s₁.setTop (mkF m 51 #[.val (.int ch)] [(.int (91 : Int32)), (.int ch)])) t
                      refine XS.icmpYes X0.here hx rfl (pc0 := 51) (pc' := 90) rfl (hb hby own_d12_51) rfl (teq hc51).1 (by decide) (by decide) ?_
                      show Steps p.tables e below (s₁.setTop (mkF m 90 #[.val (.int ch)] [])) t
                      refine XS.iconst X0.here hx rfl (hb hby own_d12_90) ?_
                      show Steps p.tables e below (s₁.setTop (mkF m 91 #[.val (.int ch)] [(.int (1 : Int32))])) t
                      refine XS.goto X0.here hx rfl (pc0 := 91) (pc' := 95) rfl (hb hby own_d12_91) (by decide) (by decide) ?_
                      exact kt
                    obtain ⟨fs, hr, hrun, hended, hW, hsame⟩ := X0.leave (v := some (.int (nar .boolean (1 : Int32)))) (fun h => by rw [Bd.returns] at h; cases h)
                    refine ⟨_, _, S18 _ ?_, hrun, hended, _, _, rfl, ?_, ⟨_, rfl⟩, hW, hsame.mono (by decide) (by decide)⟩
                    · show Steps p.tables e below (s₁.setTop (mkF m 95 #[.val (.int ch)] [(.int (1 : Int32))])) _
                      exact retN X0 hx (t := .boolean) Bd.returns (by simp) (hb hby own_d12_95) hr
                    · show own_Q12 Z ch h0 n0 _ s₁.heap _
                      rw [e0]
                      exact ⟨own_leafT (by simp only [own_exc, decide_true, decide_false, not_true_eq_false, not_false_eq_true, and_true, true_and, and_false, false_and, and_self, or_true, true_or, or_false, false_or, or_self, if_true, if_false, Bool.not_true, Bool.not_false, Bool.and_true, Bool.true_and, Bool.and_false, Bool.false_and, *]), rfl, rfl⟩
                  · skip
                    have S19 : ∀ t, Steps p.tables e below (s₁.setTop (mkF m 57 #[.val (.int ch)] [(.int (92 : Int32)), (.int ch)])) t → Steps p.tables e below (s₁.setTop (entryFrame m #[(.int ch)] 1)) t := fun t kt => by
                      refine S17 t ?_
                      show Steps p.tables e below (s₁.setTop (mkF m 51 #[.val (.int ch)] [(.int (91 : Int32)), (.int ch)])) t
                      refine XS.icmpNo X0.here hx rfl (hb hby own_d12_51) rfl (feq hc51).1 ?_
                      show Steps p.tables e below (s₁.setTop (mkF m 54 #[.val (.int ch)] [])) t
                      refine XS.iloadN X0.here hx rfl (hb hby own_d12_54) rfl ?_
                      show Steps p.tables e below (s₁.setTop (mkF m 55 #[.val (.int ch)] [(.int ch)])) t
                      refine XS.bipush X0.here hx rfl (hb hby own_d12_55) ?_
                      exact kt
                    by_cases hc57 : ch = (92 : Int32)
                    · skip
                      have S20 : ∀ t, Steps p.tables e below (s₁.setTop (mkF m 95 #[.val (.int ch)] [(.int (1 : Int32))])) t → Steps p.tables e below (s₁.setTop (entryFrame m #[(.int ch)] 1)) t := fun t kt => by
                        refine S19 t ?_
                        show Steps p.tables e below (s₁.setTop (mkF m 57 #[.val (.int ch)] [(.int (92 : Int32)), (.int ch)])) t
                        refine XS.icmpYes X0.here hx rfl (pc0 := 57) (pc' := 90) rfl (hb hby own_d12_57) rfl (teq hc57).1 (by decide) (by decide) ?_
                        show Steps p.tables e below (s₁.setTop (mkF m 90 #[.val (.int ch)] [])) t
                        refine XS.iconst X0.here hx rfl (hb hby own_d12_90) ?_
                        show Steps p.tables e below (s₁.setTop (mkF m 91 #[.val (.int ch)] [(.int (1 : Int32))])) t
                        refine XS.goto X0.here hx rfl (pc0 := 91) (pc' := 95) rfl (hb hby own_d12_91) (by decide) (by decide) ?_
                        exact kt
                      obtain ⟨fs, hr, hrun, hended, hW, hsame⟩ := X0.leave (v := some (.int (nar .boolean (1 : Int32)))) (fun h => by rw [Bd.returns] at h; cases h)
                      refine ⟨_, _, S20 _ ?_, hrun, hended, _, _, rfl, ?_, ⟨_, rfl⟩, hW, hsame.mono (by decide) (by decide)⟩
                      · show Steps p.tables e below (s₁.setTop (mkF m 95 #[.val (.int ch)] [(.int (1 : Int32))])) _
                        exact retN X0 hx (t := .boolean) Bd.returns (by simp) (hb hby own_d12_95) hr
                      · show own_Q12 Z ch h0 n0 _ s₁.heap _
                        rw [e0]
                        exact ⟨own_leafT (by simp only [own_exc, decide_true, decide_false, not_true_eq_false, not_false_eq_true, and_true, true_and, and_false, false_and, and_self, or_true, true_or, or_false, false_or, or_self, if_true, if_false, Bool.not_true, Bool.not_false, Bool.and_true, Bool.true_and, Bool.and_false, Bool.false_and, *]), rfl, rfl⟩
                    · skip
                      have S21 : ∀ t, Steps p.tables e below (s₁.setTop (mkF m 63 #[.val (.int ch)] [(.int (93 : Int32)), (.int ch)])) t → Steps p.tables e below (s₁.setTop (entryFrame m #[(.int ch)] 1)) t := fun t kt => by
                        refine S19 t ?_
                        show Steps p.tables e below (s₁.setTop (mkF m 57 #[.val (.int ch)] [(.int (92 : Int32)), (.int ch)])) t
                        refine XS.icmpNo X0.here hx rfl (hb hby own_d12_57) rfl (feq hc57).1 ?_
                        show Steps p.tables e below (s₁.setTop (mkF m 60 #[.val (.int ch)] [])) t
                        refine XS.iloadN X0.here hx rfl (hb hby own_d12_60) rfl ?_
                        show Steps p.tables e below (s₁.setTop (mkF m 61 #[.val (.int ch)] [(.int ch)])) t
                        refine XS.bipush X0.here hx rfl (hb hby own_d12_61) ?_
                        exact kt
                      by_cases hc63 : ch = (93 : Int32)
                      · skip
                        have S22 : ∀ t, Steps p.tables e below (s₁.setTop (mkF m 95 #[.val (.int ch)] [(.int (1 : Int32))])) t → Steps p.tables e below (s₁.setTop (entryFrame m #[(.int ch)] 1)) t := fun t kt => by
                          refine S21 t ?_
                          show Steps p.tables e below (s₁.setTop (mkF m 63 #[.val (.int ch)] [(.int (93 : Int32)), (.int ch)])) t
                          refine XS.icmpYes X0.here hx rfl (pc0 := 63) (pc' := 90) rfl (hb hby own_d12_63) rfl (teq hc63).1 (by decide) (by decide) ?_
                          show Steps p.tables e below (s₁.setTop (mkF m 90 #[.val (.int ch)] [])) t
                          refine XS.iconst X0.here hx rfl (hb hby own_d12_90) ?_
                          show Steps p.tables e below (s₁.setTop (mkF m 91 #[.val (.int ch)] [(.int (1 : Int32))])) t
                          refine XS.goto X0.here hx rfl (pc0 := 91) (pc' := 95) rfl (hb hby own_d12_91) (by decide) (by decide) ?_
                          exact kt
                        obtain ⟨fs, hr, hrun, hended, hW, hsame⟩ := X0.leave (v := some (.int (nar .boolean (1 : Int32)))) (fun h => by rw [Bd.returns] at h; cases h)
                        refine ⟨_, _, S22 _ ?_, hrun, hended, _, _, rfl, ?_, ⟨_, rfl⟩, hW, hsame.mono (by decide) (by decide)⟩
                        · show Steps p.tables e below (s₁.setTop (mkF m 95 #[.val (.int ch)] [(.int (1 : Int32))])) _
                          exact retN X0 hx (t := .boolean) Bd.returns (by simp) (hb hby own_d12_95) hr
                        · show own_Q12 Z ch h0 n0 _ s₁.heap _
                          rw [e0]
                          exact ⟨own_leafT (by simp only [own_exc, decide_true, decide_false, not_true_eq_false, not_false_eq_true, and_true, true_and, and_false, false_and, and_self, or_true, true_or, or_false, false_or, or_self, if_true, if_false, Bool.not_true, Bool.not_false, Bool.and_true, Bool.true_and, Bool.and_false, Bool.false_and, *]), rfl, rfl⟩
                      · skip
                        have S23 : ∀ t, Steps p.tables e below (s₁.setTop (mkF m 69 #[.val (.int ch)] [(.int (96 : Int32)), (.int ch)])) t → Steps p.tables e below (s₁.setTop (entryFrame m #[(.int ch)] 1)) t := fun t kt => by
                          refine S21 t ?_
                          show Steps p.tables e below (s₁.setTop (mkF m 63 #[.val (.int ch)] [(.int (93 : Int32)), (.int ch)])) t
                          refine XS.icmpNo X0.here hx rfl (hb hby own_d12_63) rfl (feq hc63).1 ?_
                          show Steps p.tables e below (s₁.setTop (mkF m 66 #[.val (.int ch)] [])) t
                          refine XS.iloadN X0.here hx rfl (hb hby own_d12_66) rfl ?_
                          show Steps p.tables e below (s₁.setTop (mkF m 67 #[.val (.int ch)] [(.int ch)])) t
                          refine XS.bipush X0.here hx rfl (hb hby own_d12_67) ?_
                          exact kt
                        by_cases hc69 : ch = (96 : Int32)
                        · skip
                          have S24 : ∀ t, Steps p.tables e below (s₁.setTop (mkF m 95 #[.val (.int ch)] [(.int (1 : Int32))])) t → Steps p.tables e below (s₁.setTop (entryFrame m #[(.int ch)] 1)) t := fun t kt => by
                            refine S23 t ?_
                            show Steps p.tables e below (s₁.setTop (mkF m 69 #[.val (.int ch)] [(.int (96 : Int32)), (.int ch)])) t
                            refine XS.icmpYes X0.here hx rfl (pc0 := 69) (pc' := 90) rfl (hb hby own_d12_69) rfl (teq hc69).1 (by decide) (by decide) ?_
                            show Steps p.tables e below (s₁.setTop (mkF m 90 #[.val (.int ch)] [])) t
                            refine XS.iconst X0.here hx rfl (hb hby own_d12_90) ?_
                            show Steps p.tables e below (s₁.setTop (mkF m 91 #[.val (.int ch)] [(.int (1 : Int32))])) t
                            refine XS.goto X0.here hx rfl (pc0 := 91) (pc' := 95) rfl (hb hby own_d12_91) (by decide) (by decide) ?_
                            exact kt
                          obtain ⟨fs, hr, hrun, hended, hW, hsame⟩ := X0.leave (v := some (.int (nar .boolean (1 : Int32)))) (fun h => by rw [Bd.returns] at h; cases h)
                          refine ⟨_, _, S24 _ ?_, hrun, hended, _, _, rfl, ?_, ⟨_, rfl⟩, hW, hsame.mono (by decide) (by decide)⟩
                          · show Steps p.tables e below (s₁.setTop (mkF m 95 #[.val (.int ch)] [(.int (1 : Int32))])) _
                            exact retN X0 hx (t := .boolean) Bd.returns (by simp) (hb hby own_d12_95) hr
                          · show own_Q12 Z ch h0 n0 _ s₁.heap _
                            rw [e0]
                            exact ⟨own_leafT (by simp only [own_exc, decide_true, decide_false, not_true_eq_false, not_false_eq_true, and_true, true_and, and_false, false_and, and_self, or_true, true_or, or_false, false_or, or_self, if_true, if_false, Bool.not_true, Bool.not_false, Bool.and_true, Bool.true_and, Bool.and_false, Bool.false_and, *]), rfl, rfl⟩
                        · skip
                          have S25 : ∀ t, Steps p.tables e below (s₁.setTop (mkF m 75 #[.val (.int ch)] [(.int (123 : Int32)), (.int ch)])) t → Steps p.tables e below (s₁.setTop (entryFrame m #[(.int ch)] 1)) t := fun t kt => by
                            refine S23 t ?_
                            show Steps p.tables e below (s₁.setTop (mkF m 69 #[.val (.int ch)] [(.int (96 : Int32)), (.int ch)])) t
                            refine XS.icmpNo X0.here hx rfl (hb hby own_d12_69) rfl (feq hc69).1 ?_
                            show Steps p.tables e below (s₁.setTop (mkF m 72 #[.val (.int ch)] [])) t
                            refine XS.iloadN X0.here hx rfl (hb hby own_d12_72) rfl ?_
                            show Steps p.tables e below (s₁.setTop (mkF m 73 #[.val (.int ch)] [(.int ch)])) t
                            refine XS.bipush X0.here hx rfl (hb hby own_d12_73) ?_
                            exact kt
                          by_cases hc75 : ch = (123 : Int32)
                          · skip
                            have S26 : ∀ t, Steps p.tables e below (s₁.setTop (mkF m 95 #[.val (.int ch)] [(.int (1 : Int32))])) t → Steps p.tables e below (s₁.setTop (entryFrame m #[(.int ch)] 1)) t := fun t kt => by
                              refine S25 t ?_
                              show Steps p.tables e below (s₁.setTop (mkF m 75 #[.val (.int ch)] [(.int (123 : Int32)), (.int ch)])) t
                              refine XS.icmpYes X0.here hx rfl (pc0 := 75) (pc' := 90) rfl (hb hby own_d12_75) rfl (teq hc75).1 (by decide) (by decide) ?_
                              show Steps p.tables e below (s₁.setTop (mkF m 90 #[.val (.int ch)] [])) t
                              refine XS.iconst X0.here hx rfl (hb hby own_d12_90) ?_
                              show Steps p.tables e below (s₁.setTop (mkF m 91 #[.val (.int ch)] [(.int (1 : Int32))])) t
                              refine XS.goto X0.here hx rfl (pc0 := 91) (pc' := 95) rfl (hb hby own_d12_91) (by decide) (by decide) ?_
                              exact kt
                            obtain ⟨fs, hr, hrun, hended, hW, hsame⟩ := X0.leave (v := some (.int (nar .boolean (1 : Int32)))) (fun h => by rw [Bd.returns] at h; cases h)
                            refine ⟨_, _, S26 _ ?_, hrun, hended, _, _, rfl, ?_, ⟨_, rfl⟩, hW, hsame.mono (by decide) (by decide)⟩
                            · show Steps p.tables e below (s₁.setTop (mkF m 95 #[.val (.int ch)] [(.int (1 : Int32))])) _
                              exact retN X0 hx (t := .boolean) Bd.returns (by simp) (hb hby own_d12_95) hr
                            · show own_Q12 Z ch h0 n0 _ s₁.heap _
                              rw [e0]
                              exact ⟨own_leafT (by simp only [own_exc, decide_true, decide_false, not_true_eq_false, not_false_eq_true, and_true, true_and, and_false, false_and, and_self, or_true, true_or, or_false, false_or, or_self, if_true, if_false, Bool.not_true, Bool.not_false, Bool.and_true, Bool.true_and, Bool.and_false, Bool.false_and, *]), rfl, rfl⟩
                          · skip
                            have S27 : ∀ t, Steps p.tables e below (s₁.setTop (mkF m 81 #[.val (.int ch)] [(.int (124 : Int32)), (.int ch)])) t → Steps p.tables e below (s₁.setTop (entryFrame m #[(.int ch)] 1)) t := fun t kt => by
                              refine S25 t ?_
                              show Steps p.tables e below (s₁.setTop (mkF m 75 #[.val (.int ch)] [(.int (123 : Int32)), (.int ch)])) t
                              refine XS.icmpNo X0.here hx rfl (hb hby own_d12_75) rfl (feq hc75).1 ?_
                              show Steps p.tables e below (s₁.setTop (mkF m 78 #[.val (.int ch)] [])) t
                              refine XS.iloadN X0.here hx rfl (hb hby own_d12_78) rfl ?_
                              show Steps p.tables e below (s₁.setTop (mkF m 79 #[.val (.int ch)] [(.int ch)])) t
                              refine XS.bipush X0.here hx rfl (hb hby own_d12_79) ?_
                              exact kt
                            by_cases hc81 : ch = (124 : Int32)
                            · skip
                              have S28 : ∀ t, Steps p.tables e below (s₁.setTop (mkF m 95 #[.val (.int ch)] [(.int (1 : Int32))])) t → Steps p.tables e below (s₁.setTop (entryFrame m #[(.int ch)] 1)) t := fun t kt => by
                                refine S27 t ?_
                                show Steps p.tables e below (s₁.setTop (mkF m 81 #[.val (.int ch)] [(.int (124 : Int32)), (.int ch)])) t
                                refine XS.icmpYes X0.here hx rfl (pc0 := 81) (pc' := 90) rfl (hb hby own_d12_81) rfl (teq hc81).1 (by decide) (by decide) ?_
                                show Steps p.tables e below (s₁.setTop (mkF m 90 #[.val (.int ch)] [])) t
                                refine XS.iconst X0.here hx rfl (hb hby own_d12_90) ?_
                                show Steps p.tables e below (s₁.setTop (mkF m 91 #[.val (.int ch)] [(.int (1 : Int32))])) t
                                refine XS.goto X0.here hx rfl (pc0 := 91) (pc' := 95) rfl (hb hby own_d12_91) (by decide) (by decide) ?_
                                exact kt
                              obtain ⟨fs, hr, hrun, hended, hW, hsame⟩ := X0.leave (v := some (.int (nar .boolean (1 : Int32)))) (fun h => by rw [Bd.returns] at h; cases h)
                              refine ⟨_, _, S28 _ ?_, hrun, hended, _, _, rfl, ?_, ⟨_, rfl⟩, hW, hsame.mono (by decide) (by decide)⟩
                              · show Steps p.tables e below (s₁.setTop (mkF m 95 #[.val (.int ch)] [(.int (1 : Int32))])) _
                                exact retN X0 hx (t := .boolean) Bd.returns (by simp) (hb hby own_d12_95) hr
                              · show own_Q12 Z ch h0 n0 _ s₁.heap _
                                rw [e0]
                                exact ⟨own_leafT (by simp only [own_exc, decide_true, decide_false, not_true_eq_false, not_false_eq_true, and_true, true_and, and_false, false_and, and_self, or_true, true_or, or_false, false_or, or_self, if_true, if_false, Bool.not_true, Bool.not_false, Bool.and_true, Bool.true_and, Bool.and_false, Bool.false_and, *]), rfl, rfl⟩
                            · skip
                              have S29 : ∀ t, Steps p.tables e below (s₁.setTop (mkF m 87 #[.val (.int ch)] [(.int (125 : Int32)), (.int ch)])) t → Steps p.tables e below (s₁.setTop (entryFrame m #[(.int ch)] 1)) t := fun t kt => by
                                refine S27 t ?_
                                show Steps p.tables e below (s₁.setTop (mkF m 81 #[.val (.int ch)] [(.int (124 : Int32)), (.int ch)])) t
                                refine XS.icmpNo X0.here hx rfl (hb hby own_d12_81) rfl (feq hc81).1 ?_
                                show Steps p.tables e below (s₁.setTop (mkF m 84 #[.val (.int ch)] [])) t
                                refine XS.iloadN X0.here hx rfl (hb hby own_d12_84) rfl ?_
                                show Steps p.tables e below (s₁.setTop (mkF m 85 #[.val (.int ch)] [(.int ch)])) t
                                refine XS.bipush X0.here hx rfl (hb hby own_d12_85) ?_
                                exact kt
                              by_cases hc87 : ch = (125 : Int32)
                              · skip
                                have S30 : ∀ t, Steps p.tables e below (s₁.setTop (mkF m 95 #[.val (.int ch)] [(.int (1 : Int32))])) t → Steps p.tables e below (s₁.setTop (entryFrame m #[(.int ch)] 1)) t := fun t kt => by
                                  refine S29 t ?_
                                  show Steps p.tables e below (s₁.setTop (mkF m 87 #[.val (.int ch)] [(.int (125 : Int32)), (.int ch)])) t
                                  refine XS.icmpNo X0.here hx rfl (hb hby own_d12_87) rfl (teq hc87).2 ?_
                                  show Steps p.tables e below (s₁.setTop (mkF m 90 #[.val (.int ch)] [])) t
                                  refine XS.iconst X0.here hx rfl (hb hby own_d12_90) ?_
                                  show Steps p.tables e below (s₁.setTop (mkF m 91 #[.val (.int ch)] [(.int (1 : Int32))])) t
                                  refine XS.goto X0.here hx rfl (pc0 := 91) (pc' := 95) rfl (hb hby own_d12_91) (by decide) (by decide) ?_
                                  exact kt
                                obtain ⟨fs, hr, hrun, hended, hW, hsame⟩ := X0.leave (v := some (.int (nar .boolean (1 : Int32)))) (fun h => by rw [Bd.returns] at h; cases h)
                                refine ⟨_, _, S30 _ ?_, hrun, hended, _, _, rfl, ?_, ⟨_, rfl⟩, hW, hsame.mono (by decide) (by decide)⟩
                                · show Steps p.tables e below (s₁.setTop (mkF m 95 #[.val (.int ch)] [(.int (1 : Int32))])) _
                                  exact retN X0 hx (t := .boolean) Bd.returns (by simp) (hb hby own_d12_95) hr
                                · show own_Q12 Z ch h0 n0 _ s₁.heap _
                                  rw [e0]
                                  exact ⟨own_leafT (by simp only [own_exc, decide_true, decide_false, not_true_eq_false, not_false_eq_true, and_true, true_and, and_false, false_and, and_self, or_true, true_or, or_false, false_or, or_self, if_true, if_false, Bool.not_true, Bool.not_false, Bool.and_true, Bool.true_and, Bool.and_false, Bool.false_and, *]), rfl, rfl⟩
                              · skip
                                have S31 : ∀ t, Steps p.tables e below (s₁.setTop (mkF m 95 #[.val (.int ch)] [(.int (0 : Int32))])) t → Steps p.tables e below (s₁.setTop (entryFrame m #[(.int ch)] 1)) t := fun t kt => by
                                  refine S29 t ?_
                                  show Steps p.tables e below (s₁.setTop (mkF m 87 #[.val (.int ch)] [(.int (125 : Int32)), (.int ch)])) t
                                  refine XS.icmpYes X0.here hx rfl (pc0 := 87) (pc' := 94) rfl (hb hby own_d12_87) rfl (feq hc87).2 (by decide) (by decide) ?_
                                  show Steps p.tables e below (s₁.setTop (mkF m 94 #[.val (.int ch)] [])) t
                                  refine XS.iconst X0.here hx rfl (hb hby own_d12_94) ?_
                                  exact kt
                                obtain ⟨fs, hr, hrun, hended, hW, hsame⟩ := X0.leave (v := some (.int (nar .boolean (0 : Int32)))) (fun h => by rw [Bd.returns] at h; cases h)
                                refine ⟨_, _, S31 _ ?_, hrun, hended, _, _, rfl, ?_, ⟨_, rfl⟩, hW, hsame.mono (by decide) (by decide)⟩
                                · show Steps p.tables e below (s₁.setTop (mkF m 95 #[.val (.int ch)] [(.int (0 : Int32))])) _
                                  exact retN X0 hx (t := .boolean) Bd.returns (by simp) (hb hby own_d12_95) hr
                                · show own_Q12 Z ch h0 n0 _ s₁.heap _
                                  rw [e0]
                                  exact ⟨own_leafF (by simp only [own_exc, decide_true, decide_false, not_true_eq_false, not_false_eq_true, and_true, true_and, and_false, false_and, and_self, or_true, true_or, or_false, false_or, or_self, if_true, if_false, Bool.not_true, Bool.not_false, Bool.and_true, Bool.true_and, Bool.and_false, Bool.false_and, *]), rfl, rfl⟩
theorem own_pd6 : parseMethodDescriptor "(I)I" = some ⟨[.int], some .int⟩ := by decide +kernel
theorem own_d1_0 : decode prog_23_method_2_code 0 = .ok (.iload_n 0, 1) := by decide +kernel
theorem own_d1_1 : decode prog_23_method_2_code 1 = .ok (.bipush 97, 2) := by decide +kernel
theorem own_d1_3 : decode prog_23_method_2_code 3 = .ok (.if_icmp .lt 9, 3) := by decide +kernel
theorem own_d1_6 : decode prog_23_method_2_code 6 = .ok (.iload_n 0, 1) := by decide +kernel
theorem own_d1_7 : decode prog_23_method_2_code 7 = .ok (.bipush 122, 2) := by decide +kernel
theorem own_d1_9 : decode prog_23_method_2_code 9 = .ok (.if_icmp .le 36, 3) := by decide +kernel
theorem own_d1_12 : decode prog_23_method_2_code 12 = .ok (.iload_n 0, 1) := by decide +kernel
theorem own_d1_13 : decode prog_23_method_2_code 13 = .ok (.bipush 65, 2) := by decide +kernel
theorem own_d1_15 : decode prog_23_method_2_code 15 = .ok (.if_icmp .lt 9, 3) := by decide +kernel
theorem own_d1_18 : decode prog_23_method_2_code 18 = .ok (.iload_n 0, 1) := by decide +kernel
theorem own_d1_19 : decode prog_23_method_2_code 19 = .ok (.bipush 90, 2) := by decide +kernel
theorem own_d1_21 : decode prog_23_method_2_code 21 = .ok (.if_icmp .le 24, 3) := by decide +kernel
theorem own_d1_24 : decode prog_23_method_2_code 24 = .ok (.iload_n 0, 1) := by decide +kernel
theorem own_d1_25 : decode prog_23_method_2_code 25 = .ok (.bipush 48, 2) := by decide +kernel
theorem own_d1_27 : decode prog_23_method_2_code 27 = .ok (.if_icmp .lt 9, 3) := by decide +kernel
theorem own_d1_30 : decode prog_23_method_2_code 30 = .ok (.iload_n 0, 1) := by decide +kernel
theorem own_d1_31 : decode prog_23_method_2_code 31 = .ok (.bipush 57, 2) := by decide +kernel
theorem own_d1_33 : decode prog_23_method_2_code 33 = .ok (.if_icmp .le 12, 3) := by decide +kernel
theorem own_d1_36 : decode prog_23_method_2_code 36 = .ok (.ldc 9, 2) := by decide +kernel
theorem own_d1_38 : decode prog_23_method_2_code 38 = .ok (.iload_n 0, 1) := by decide +kernel
theorem own_d1_39 : decode prog_23_method_2_code 39 = .ok (.invokevirtual 11, 3) := by decide +kernel
theorem own_d1_42 : decode prog_23_method_2_code 42 = .ok (.ifCond .lt 7, 3) := by decide +kernel
theorem own_d1_45 : decode prog_23_method_2_code 45 = .ok (.iconst 1, 1) := by decide +kernel
theorem own_d1_46 : decode prog_23_method_2_code 46 = .ok (.goto 4, 3) := by decide +kernel
theorem own_d1_49 : decode prog_23_method_2_code 49 = .ok (.iconst 0, 1) := by decide +kernel
theorem own_d1_50 : decode prog_23_method_2_code 50 = .ok (.ireturn, 1) := by decide +kernel
theorem own_ef1 (m : MethodId) (x0 : Int32) : entryFrame m #[(.int x0)] 1 = mkF m 0 #[.val (.int x0)] [] := by first | (simp [entryFrame, mkF, argsToLocals, Value.category]; done) | rfl
def own_Q1 (Z : State) (ch : Int32) (cs : Int32) (h0 : Heap) (n0 : Nat) (v : Option Value) (h : Heap) (L : List Loc) : Prop := v = some (.int (own_b (own_ss ch))) ∧ Fr n0 L ∧ Keep h0 h []
theorem own_pn3 : plainName "com/example/invariant_to_halt/invarianttohalt/program/SmtLibSyntax" = true := by first | (simp [plainName, overriddenIn]; done) | decide +kernel
set_option maxHeartbeats 40000000 in
theorem own_rm1 (l : Launch) (Z : State) (a0 : Array Value) (hw : ∀ d ∈ tables_1, d.before a0 Z = true) (ws : List Jvm.Cond) (ch : Int32) (cs : Int32) (h0 : Heap) (n0 : Nat) (Z0 : n0 ≤ h0.size) (S_CS : Sta Z h0 "java/lang/String" "COMPACT_STRINGS" "Z" (.int cs)) (hcs : ¬ cs = (0 : Int32)) :
    MetFree l (⟨"com/example/invariant_to_halt/invarianttohalt/program/SmtLibSyntax", "isSimpleSymbolCharacter", "(C)Z"⟩ : MethodName) (head1 (Jvm.Cond.code (⟨"com/example/invariant_to_halt/invarianttohalt/program/SmtLibSyntax", "isSimpleSymbolCharacter", "(C)Z"⟩ : MethodName) prog_23_method_2_code 1 (some .boolean) :: ws) ({ frames := 4, cells := 2, slots := 72, locals := 59 } : Room)) (fun argv U => argv = #[(.int ch)] ∧ Z.Warmed39 U.vm ∧ U.heap = h0 ∧ CHv Z own_EL U.vm h0) (fun _ _ _ _ _ => True) (fun _ U o U' => ∃ v L, o = .returned v ∧ own_Q1 Z ch cs h0 n0 v U'.heap L ∧ CHr Z own_EL U.vm U.heap U'.vm U'.heap ∧ ReturnedEndW U o U' L ({ frames := 4, cells := 2, slots := 72, locals := 59 } : Room).cells ({ frames := 4, cells := 2, slots := 72, locals := 59 } : Room).slots) := by
  refine MetFree.of_bodySF (plainFor_of_name own_pn3) hisR ?_
  intro p e s m args below meth c s₁ Bd hml0 hP hK
  obtain ⟨rfl, hZ, hh, hC0⟩ := hP
  have hx := Bd.exec
  have hby := Bd.bytes
  have hml : c.maxLocals = 1 := hml0
  have hown : s.vm.findClass "com/example/invariant_to_halt/invarianttohalt/program/SmtLibSyntax" = some m.cls := findClass_of_methodNamed Bd.named
  have hnm := (name_of_methodNamed Bd.named Bd.method).1
  have X0 : Stand p l e ({ frames := 4, cells := 2, slots := 72, locals := 59 } : Room) (s.setVm s.vm) m #[(.int ch)] below meth c s₁ [] 0 0 := Stand.of_body Bd
  have e0 : s₁.heap = h0 := by rw [← hh, Bd.state]; rfl
  have N0 := Fr.nil n0
  have pre0 : ∀ t, Steps p.tables e below (s₁.setTop (mkF m 0 #[.val (.int ch)] [])) t → Steps p.tables e below (s₁.setTop (entryFrame m #[(.int ch)] 1)) t := fun t k => castTop (own_ef1 m ch) k
  have CR0 : CHr Z own_EL s.vm h0 s.vm h0 := CHr.refl hC0
  have hEL := own_EW hw
  have hS0 : s.Since s.vm h0.size := (State.WarmedH.refl s).since _
  have wS := own_wS hw
  have S1 : ∀ t, Steps p.tables e below (s₁.setTop (mkF m 3 #[.val (.int ch)] [(.int (97 : Int32)), (.int ch)])) t → Steps p.tables e below (s₁.setTop (entryFrame m #[(.int ch)] 1)) t := fun t kt => by
    refine pre0 t ?_
    show Steps p.tables e below (s₁.setTop (mkF m 0 #[.val (.int ch)] [])) t
    refine XS.iloadN X0.here hx rfl (hb hby own_d1_0) rfl ?_
    show Steps p.tables e below (s₁.setTop (mkF m 1 #[.val (.int ch)] [(.int ch)])) t
    refine XS.bipush X0.here hx rfl (hb hby own_d1_1) ?_
    exact kt
  by_cases hc3 : ch < (97 : Int32)
  · skip
    have S2 : ∀ t, Steps p.tables e below (s₁.setTop (mkF m 15 #[.val (.int ch)] [(.int (65 : Int32)), (.int ch)])) t → Steps p.tables e below (s₁.setTop (entryFrame m #[(.int ch)] 1)) t := fun t kt => by
      refine S1 t ?_
      show Steps p.tables e below (s₁.setTop (mkF m 3 #[.val (.int ch)] [(.int (97 : Int32)), (.int ch)])) t
      refine XS.icmpYes X0.here hx rfl (pc0 := 3) (pc' := 12) rfl (hb hby own_d1_3) rfl (tlt hc3).1 (by decide) (by decide) ?_
      show Steps p.tables e below (s₁.setTop (mkF m 12 #[.val (.int ch)] [])) t
      refine XS.iloadN X0.here hx rfl (hb hby own_d1_12) rfl ?_
      show Steps p.tables e below (s₁.setTop (mkF m 13 #[.val (.int ch)] [(.int ch)])) t
      refine XS.bipush X0.here hx rfl (hb hby own_d1_13) ?_
      exact kt
    by_cases hc15 : ch < (65 : Int32)
    · skip
      have S3 : ∀ t, Steps p.tables e below (s₁.setTop (mkF m 27 #[.val (.int ch)] [(.int (48 : Int32)), (.int ch)])) t → Steps p.tables e below (s₁.setTop (entryFrame m #[(.int ch)] 1)) t := fun t kt => by
        refine S2 t ?_
        show Steps p.tables e below (s₁.setTop (mkF m 15 #[.val (.int ch)] [(.int (65 : Int32)), (.int ch)])) t
        refine XS.icmpYes X0.here hx rfl (pc0 := 15) (pc' := 24) rfl (hb hby own_d1_15) rfl (tlt hc15).1 (by decide) (by decide) ?_
        show Steps p.tables e below (s₁.setTop (mkF m 24 #[.val (.int ch)] [])) t
        refine XS.iloadN X0.here hx rfl (hb hby own_d1_24) rfl ?_
        show Steps p.tables e below (s₁.setTop (mkF m 25 #[.val (.int ch)] [(.int ch)])) t
        refine XS.bipush X0.here hx rfl (hb hby own_d1_25) ?_
        exact kt
      by_cases hc27 : ch < (48 : Int32)
      · skip
        have S4 : ∀ t, Steps p.tables e below (s₁.setTop (mkF m 36 #[.val (.int ch)] [])) t → Steps p.tables e below (s₁.setTop (entryFrame m #[(.int ch)] 1)) t := fun t kt => by
          refine S3 t ?_
          show Steps p.tables e below (s₁.setTop (mkF m 27 #[.val (.int ch)] [(.int (48 : Int32)), (.int ch)])) t
          refine XS.icmpYes X0.here hx rfl (pc0 := 27) (pc' := 36) rfl (hb hby own_d1_27) rfl (tlt hc27).1 (by decide) (by decide) ?_
          exact kt
        obtain ⟨lit5, T5, h5, k5, lby5, kb5, X5, e5, E5, hS5, hk5, hZ5, ho5, LE5, LC5, LV5, LA5, -, -, hC5, -, hNe5, st5⟩ := ldcCH (EL := own_EL) (z := (17 : Int32)) (vs := [(.int (126 : Int32)), (.int (33 : Int32)), (.int (64 : Int32)), (.int (36 : Int32)), (.int (37 : Int32)), (.int (94 : Int32)), (.int (38 : Int32)), (.int (42 : Int32)), (.int (95 : Int32)), (.int (45 : Int32)), (.int (43 : Int32)), (.int (61 : Int32)), (.int (60 : Int32)), (.int (62 : Int32)), (.int (46 : Int32)), (.int (63 : Int32)), (.int (47 : Int32))]) X0 hx hZ hown (hw _ (List.mem_of_getElem? (i := 4) rfl)) wS e0 hS0 (Nat.le_refl _) hEL (List.mem_of_getElem? (i := 0) rfl) CR0.1 ⟨by decide, by decide⟩ (by decide) (by decide) (g := (mkF m 36 #[.val (.int ch)] [])) rfl (hb hby own_d1_36) (n := 68) (by decide) (by decide) (by decide) (by decide)
        have S6 : ∀ t, Steps p.tables e below (T5.setTop (mkF m 38 #[.val (.int ch)] [(.ref lit5)])) t → Steps p.tables e below (s₁.setTop (entryFrame m #[(.int ch)] 1)) t := fun t kt => S4 t (st5 _ kt)
        have CR7 := CR0.trans hC5
        have F8 := S_CS.ext E5
        have K9 : Keep h0 h5 [] := (Keep.refl h0 []).ext E5
        have S11 : ∀ t, Steps p.tables e below (T5.setTop (mkF m 39 #[.val (.int ch)] [(.int ch), (.ref lit5)])) t → Steps p.tables e below (s₁.setTop (entryFrame m #[(.int ch)] 1)) t := fun t kt => by
          refine S6 t ?_
          show Steps p.tables e below (T5.setTop (mkF m 38 #[.val (.int ch)] [(.ref lit5)])) t
          refine XS.iloadN X5.here hx rfl (hb hby own_d1_38) rfl ?_
          exact kt
        obtain ⟨cq12, kq12, q12a, q12b, q12c⟩ := isOf hZ5 e5 LE5
        obtain ⟨_, _, ⟨T12, L12, k12, n12⟩, -, X12, ⟨Lc12, hQ12, l12, y12, z12⟩, st12⟩ := X5.virtualBack hx (y := (⟨"java/lang/String", "indexOf", "(I)I"⟩ : MethodName)) (z := (⟨"java/lang/String", "indexOf", "(I)I"⟩ : MethodName)) ho5 (mvT hZ5 (hw _ (List.mem_of_getElem? (i := 12) rfl))) (mvT hZ5 (hw _ (List.mem_of_getElem? (i := 13) rfl))) (notFace_of_selects (args := #[]) (mvT hZ5 (hw _ (List.mem_of_getElem? (i := 15) rfl)))) (mvT hZ5 (hw _ (List.mem_of_getElem? (i := 15) rfl))) (mvT hZ5 (hw _ (List.mem_of_getElem? (i := 14) rfl))) (by decide) (backOf (W := 0) (own_rm2 l Z a0 hw [] (lit5) (ch) (cs) (lby5) (kb5) h5 n0 (Nat.le_trans Z0 K9.1) LE5 F8 hcs LC5 LV5 LA5) hZ5 (hw _ (List.mem_of_getElem? (i := 16) rfl)) (hw _ (List.mem_of_getElem? (i := 5) rfl)) (by decide) (by decide)) q12a q12c (g := (mkF m 39 #[.val (.int ch)] [(.int ch), (.ref lit5)])) rfl (by rw [hml]; rfl) (Steps.refl _) (argsL := [(.int ch)]) (rest := []) (lenOf own_pd6 rfl) rfl (by show 2 * 0 + _ ≤ _; exact Nat.le_of_eq rfl) (hb hby own_d1_39) (fun _ _ => ⟨rfl, e5, (by decide : 2 + 0 ≤ _), (by decide : 72 + 0 ≤ _)⟩)
        dsimp only [Pt.U, Pt.locs, Pt.cells, Pt.slots] at X12 l12 y12 z12 st12 hQ12
        subst l12 y12 z12
        obtain ⟨rfl, rfl, eq10⟩ := hQ12
        try rw [List.append_nil] at X12
        have S13 : ∀ t, Steps p.tables e below (T12.setTop (mkF m 42 #[.val (.int ch)] [(.int (own_ix ch))])) t → Steps p.tables e below (s₁.setTop (entryFrame m #[(.int ch)] 1)) t := fun t kt => S11 t (st12.trans kt)
        by_cases hc42 : (own_ix ch) < (0 : Int32)
        · skip
          have S14 : ∀ t, Steps p.tables e below (T12.setTop (mkF m 50 #[.val (.int ch)] [(.int (0 : Int32))])) t → Steps p.tables e below (s₁.setTop (entryFrame m #[(.int ch)] 1)) t := fun t kt => by
            refine S13 t ?_
            show Steps p.tables e below (T12.setTop (mkF m 42 #[.val (.int ch)] [(.int (own_ix ch))])) t
            refine XS.ifYes X12.here hx rfl (pc0 := 42) (pc' := 49) rfl (hb hby own_d1_42) rfl ((if0 _ _).trans (tlt hc42).1) (by decide) (by decide) ?_
            show Steps p.tables e below (T12.setTop (mkF m 49 #[.val (.int ch)] [])) t
            refine XS.iconst X12.here hx rfl (hb hby own_d1_49) ?_
            exact kt
          obtain ⟨fs, hr, hrun, hended, -, hW, hBk, hsame⟩ := X12.leaveW hS5 (by rw [eq10]; exact hk5) (v := some (.int (nar .boolean (0 : Int32)))) (fun h => by rw [Bd.returns] at h; cases h)
          refine ⟨_, _, S14 _ ?_, hrun, hended, _, _, rfl, ?_, (by show CHr Z own_EL s.vm s.heap T12.vm T12.heap; rw [hh, eq10]; exact CR7.trans (CHv.at X12 hZ5 hEL CR7.1)), ⟨_, rfl⟩, hW, hBk, hsame.mono (by decide) (by decide)⟩
          · show Steps p.tables e below (T12.setTop (mkF m 50 #[.val (.int ch)] [(.int (0 : Int32))])) _
            exact retN X12 hx (t := .boolean) Bd.returns (by simp) (hb hby own_d1_50) hr
          · show own_Q1 Z ch cs h0 n0 _ T12.heap _
            rw [eq10]
            exact ⟨own_leafF (by simp only [own_ss, decide_true, decide_false, not_true_eq_false, not_false_eq_true, and_true, true_and, and_false, false_and, and_self, or_true, true_or, or_false, false_or, or_self, if_true, if_false, Bool.not_true, Bool.not_false, Bool.and_true, Bool.true_and, Bool.and_false, Bool.false_and, *]), N0, K9⟩
        · skip
          have S15 : ∀ t, Steps p.tables e below (T12.setTop (mkF m 50 #[.val (.int ch)] [(.int (1 : Int32))])) t → Steps p.tables e below (s₁.setTop (entryFrame m #[(.int ch)] 1)) t := fun t kt => by
            refine S13 t ?_
            show Steps p.tables e below (T12.setTop (mkF m 42 #[.val (.int ch)] [(.int (own_ix ch))])) t
            refine XS.ifNo X12.here hx rfl (hb hby own_d1_42) rfl ((if0 _ _).trans (flt hc42).1) ?_
            show Steps p.tables e below (T12.setTop (mkF m 45 #[.val (.int ch)] [])) t
            refine XS.iconst X12.here hx rfl (hb hby own_d1_45) ?_
            show Steps p.tables e below (T12.setTop (mkF m 46 #[.val (.int ch)] [(.int (1 : Int32))])) t
            refine XS.goto X12.here hx rfl (pc0 := 46) (pc' := 50) rfl (hb hby own_d1_46) (by decide) (by decide) ?_
            exact kt
          obtain ⟨fs, hr, hrun, hended, -, hW, hBk, hsame⟩ := X12.leaveW hS5 (by rw [eq10]; exact hk5) (v := some (.int (nar .boolean (1 : Int32)))) (fun h => by rw [Bd.returns] at h; cases h)
          refine ⟨_, _, S15 _ ?_, hrun, hended, _, _, rfl, ?_, (by show CHr Z own_EL s.vm s.heap T12.vm T12.heap; rw [hh, eq10]; exact CR7.trans (CHv.at X12 hZ5 hEL CR7.1)), ⟨_, rfl⟩, hW, hBk, hsame.mono (by decide) (by decide)⟩
          · show Steps p.tables e below (T12.setTop (mkF m 50 #[.val (.int ch)] [(.int (1 : Int32))])) _
            exact retN X12 hx (t := .boolean) Bd.returns (by simp) (hb hby own_d1_50) hr
          · show own_Q1 Z ch cs h0 n0 _ T12.heap _
            rw [eq10]
            exact ⟨own_leafT (by simp only [own_ss, decide_true, decide_false, not_true_eq_false, not_false_eq_true, and_true, true_and, and_false, false_and, and_self, or_true, true_or, or_false, false_or, or_self, if_true, if_false, Bool.not_true, Bool.not_false, Bool.and_true, Bool.true_and, Bool.and_false, Bool.false_and, *]), N0, K9⟩
      · skip
        have S16 : ∀ t, Steps p.tables e below (s₁.setTop (mkF m 33 #[.val (.int ch)] [(.int (57 : Int32)), (.int ch)])) t → Steps p.tables e below (s₁.setTop (entryFrame m #[(.int ch)] 1)) t := fun t kt => by
          refine S3 t ?_
          show Steps p.tables e below (s₁.setTop (mkF m 27 #[.val (.int ch)] [(.int (48 : Int32)), (.int ch)])) t
          refine XS.icmpNo X0.here hx rfl (hb hby own_d1_27) rfl (flt hc27).1 ?_
          show Steps p.tables e below (s₁.setTop (mkF m 30 #[.val (.int ch)] [])) t
          refine XS.iloadN X0.here hx rfl (hb hby own_d1_30) rfl ?_
          show Steps p.tables e below (s₁.setTop (mkF m 31 #[.val (.int ch)] [(.int ch)])) t
          refine XS.bipush X0.here hx rfl (hb hby own_d1_31) ?_
          exact kt
        by_cases hc33 : (57 : Int32) < ch
        · skip
          have S17 : ∀ t, Steps p.tables e below (s₁.setTop (mkF m 36 #[.val (.int ch)] [])) t → Steps p.tables e below (s₁.setTop (entryFrame m #[(.int ch)] 1)) t := fun t kt => by
            refine S16 t ?_
            show Steps p.tables e below (s₁.setTop (mkF m 33 #[.val (.int ch)] [(.int (57 : Int32)), (.int ch)])) t
            refine XS.icmpNo X0.here hx rfl (hb hby own_d1_33) rfl (tlt hc33).2.2.2 ?_
            exact kt
          obtain ⟨lit18, T18, h18, k18, lby18, kb18, X18, e18, E18, hS18, hk18, hZ18, ho18, LE18, LC18, LV18, LA18, -, -, hC18, -, hNe18, st18⟩ := ldcCH (EL := own_EL) (z := (17 : Int32)) (vs := [(.int (126 : Int32)), (.int (33 : Int32)), (.int (64 : Int32)), (.int (36 : Int32)), (.int (37 : Int32)), (.int (94 : Int32)), (.int (38 : Int32)), (.int (42 : Int32)), (.int (95 : Int32)), (.int (45 : Int32)), (.int (43 : Int32)), (.int (61 : Int32)), (.int (60 : Int32)), (.int (62 : Int32)), (.int (46 : Int32)), (.int (63 : Int32)), (.int (47 : Int32))]) X0 hx hZ hown (hw _ (List.mem_of_getElem? (i := 4) rfl)) wS e0 hS0 (Nat.le_refl _) hEL (List.mem_of_getElem? (i := 0) rfl) CR0.1 ⟨by decide, by decide⟩ (by decide) (by decide) (g := (mkF m 36 #[.val (.int ch)] [])) rfl (hb hby own_d1_36) (n := 68) (by decide) (by decide) (by decide) (by decide)
          have S19 : ∀ t, Steps p.tables e below (T18.setTop (mkF m 38 #[.val (.int ch)] [(.ref lit18)])) t → Steps p.tables e below (s₁.setTop (entryFrame m #[(.int ch)] 1)) t := fun t kt => S17 t (st18 _ kt)
          have CR20 := CR0.trans hC18
          have F21 := S_CS.ext E18
          have K22 : Keep h0 h18 [] := (Keep.refl h0 []).ext E18
          have S24 : ∀ t, Steps p.tables e below (T18.setTop (mkF m 39 #[.val (.int ch)] [(.int ch), (.ref lit18)])) t → Steps p.tables e below (s₁.setTop (entryFrame m #[(.int ch)] 1)) t := fun t kt => by
            refine S19 t ?_
            show Steps p.tables e below (T18.setTop (mkF m 38 #[.val (.int ch)] [(.ref lit18)])) t
            refine XS.iloadN X18.here hx rfl (hb hby own_d1_38) rfl ?_
            exact kt
          obtain ⟨cq25, kq25, q25a, q25b, q25c⟩ := isOf hZ18 e18 LE18
          obtain ⟨_, _, ⟨T25, L25, k25, n25⟩, -, X25, ⟨Lc25, hQ25, l25, y25, z25⟩, st25⟩ := X18.virtualBack hx (y := (⟨"java/lang/String", "indexOf", "(I)I"⟩ : MethodName)) (z := (⟨"java/lang/String", "indexOf", "(I)I"⟩ : MethodName)) ho18 (mvT hZ18 (hw _ (List.mem_of_getElem? (i := 12) rfl))) (mvT hZ18 (hw _ (List.mem_of_getElem? (i := 13) rfl))) (notFace_of_selects (args := #[]) (mvT hZ18 (hw _ (List.mem_of_getElem? (i := 15) rfl)))) (mvT hZ18 (hw _ (List.mem_of_getElem? (i := 15) rfl))) (mvT hZ18 (hw _ (List.mem_of_getElem? (i := 14) rfl))) (by decide) (backOf (W := 0) (own_rm2 l Z a0 hw [] (lit18) (ch) (cs) (lby18) (kb18) h18 n0 (Nat.le_trans Z0 K22.1) LE18 F21 hcs LC18 LV18 LA18) hZ18 (hw _ (List.mem_of_getElem? (i := 16) rfl)) (hw _ (List.mem_of_getElem? (i := 5) rfl)) (by decide) (by decide)) q25a q25c (g := (mkF m 39 #[.val (.int ch)] [(.int ch), (.ref lit18)])) rfl (by rw [hml]; rfl) (Steps.refl _) (argsL := [(.int ch)]) (rest := []) (lenOf own_pd6 rfl) rfl (by show 2 * 0 + _ ≤ _; exact Nat.le_of_eq rfl) (hb hby own_d1_39) (fun _ _ => ⟨rfl, e18, (by decide : 2 + 0 ≤ _), (by decide : 72 + 0 ≤ _)⟩)
          dsimp only [Pt.U, Pt.locs, Pt.cells, Pt.slots] at X25 l25 y25 z25 st25 hQ25
          subst l25 y25 z25
          obtain ⟨rfl, rfl, eq23⟩ := hQ25
          try rw [List.append_nil] at X25
          have S26 : ∀ t, Steps p.tables e below (T25.setTop (mkF m 42 #[.val (.int ch)] [(.int (own_ix ch))])) t → Steps p.tables e below (s₁.setTop (entryFrame m #[(.int ch)] 1)) t := fun t kt => S24 t (st25.trans kt)
          by_cases hc42 : (own_ix ch) < (0 : Int32)
          · skip
            have S27 : ∀ t, Steps p.tables e below (T25.setTop (mkF m 50 #[.val (.int ch)] [(.int (0 : Int32))])) t → Steps p.tables e below (s₁.setTop (entryFrame m #[(.int ch)] 1)) t := fun t kt => by
              refine S26 t ?_
              show Steps p.tables e below (T25.setTop (mkF m 42 #[.val (.int ch)] [(.int (own_ix ch))])) t
              refine XS.ifYes X25.here hx rfl (pc0 := 42) (pc' := 49) rfl (hb hby own_d1_42) rfl ((if0 _ _).trans (tlt hc42).1) (by decide) (by decide) ?_
              show Steps p.tables e below (T25.setTop (mkF m 49 #[.val (.int ch)] [])) t
              refine XS.iconst X25.here hx rfl (hb hby own_d1_49) ?_
              exact kt
            obtain ⟨fs, hr, hrun, hended, -, hW, hBk, hsame⟩ := X25.leaveW hS18 (by rw [eq23]; exact hk18) (v := some (.int (nar .boolean (0 : Int32)))) (fun h => by rw [Bd.returns] at h; cases h)
            refine ⟨_, _, S27 _ ?_, hrun, hended, _, _, rfl, ?_, (by show CHr Z own_EL s.vm s.heap T25.vm T25.heap; rw [hh, eq23]; exact CR20.trans (CHv.at X25 hZ18 hEL CR20.1)), ⟨_, rfl⟩, hW, hBk, hsame.mono (by decide) (by decide)⟩
            · show Steps p.tables e below (T25.setTop (mkF m 50 #[.val (.int ch)] [(.int (0 : Int32))])) _
              exact retN X25 hx (t := .boolean) Bd.returns (by simp) (hb hby own_d1_50) hr
            · show own_Q1 Z ch cs h0 n0 _ T25.heap _
              rw [eq23]
              exact ⟨own_leafF (by simp only [own_ss, decide_true, decide_false, not_true_eq_false, not_false_eq_true, and_true, true_and, and_false, false_and, and_self, or_true, true_or, or_false, false_or, or_self, if_true, if_false, Bool.not_true, Bool.not_false, Bool.and_true, Bool.true_and, Bool.and_false, Bool.false_and, *]), N0, K22⟩
          · skip
            have S28 : ∀ t, Steps p.tables e below (T25.setTop (mkF m 50 #[.val (.int ch)] [(.int (1 : Int32))])) t → Steps p.tables e below (s₁.setTop (entryFrame m #[(.int ch)] 1)) t := fun t kt => by
              refine S26 t ?_
              show Steps p.tables e below (T25.setTop (mkF m 42 #[.val (.int ch)] [(.int (own_ix ch))])) t
              refine XS.ifNo X25.here hx rfl (hb hby own_d1_42) rfl ((if0 _ _).trans (flt hc42).1) ?_
              show Steps p.tables e below (T25.setTop (mkF m 45 #[.val (.int ch)] [])) t
              refine XS.iconst X25.here hx rfl (hb hby own_d1_45) ?_
              show Steps p.tables e below (T25.setTop (mkF m 46 #[.val (.int ch)] [(.int (1 : Int32))])) t
              refine XS.goto X25.here hx rfl (pc0 := 46) (pc' := 50) rfl (hb hby own_d1_46) (by decide) (by decide) ?_
              exact kt
            obtain ⟨fs, hr, hrun, hended, -, hW, hBk, hsame⟩ := X25.leaveW hS18 (by rw [eq23]; exact hk18) (v := some (.int (nar .boolean (1 : Int32)))) (fun h => by rw [Bd.returns] at h; cases h)
            refine ⟨_, _, S28 _ ?_, hrun, hended, _, _, rfl, ?_, (by show CHr Z own_EL s.vm s.heap T25.vm T25.heap; rw [hh, eq23]; exact CR20.trans (CHv.at X25 hZ18 hEL CR20.1)), ⟨_, rfl⟩, hW, hBk, hsame.mono (by decide) (by decide)⟩
            · show Steps p.tables e below (T25.setTop (mkF m 50 #[.val (.int ch)] [(.int (1 : Int32))])) _
              exact retN X25 hx (t := .boolean) Bd.returns (by simp) (hb hby own_d1_50) hr
            · show own_Q1 Z ch cs h0 n0 _ T25.heap _
              rw [eq23]
              exact ⟨own_leafT (by simp only [own_ss, decide_true, decide_false, not_true_eq_false, not_false_eq_true, and_true, true_and, and_false, false_and, and_self, or_true, true_or, or_false, false_or, or_self, if_true, if_false, Bool.not_true, Bool.not_false, Bool.and_true, Bool.true_and, Bool.and_false, Bool.false_and, *]), N0, K22⟩
        · skip
          have S29 : ∀ t, Steps p.tables e below (s₁.setTop (mkF m 50 #[.val (.int ch)] [(.int (1 : Int32))])) t → Steps p.tables e below (s₁.setTop (entryFrame m #[(.int ch)] 1)) t := fun t kt => by
            refine S16 t ?_
            show Steps p.tables e below (s₁.setTop (mkF m 33 #[.val (.int ch)] [(.int (57 : Int32)), (.int ch)])) t
            refine XS.icmpYes X0.here hx rfl (pc0 := 33) (pc' := 45) rfl (hb hby own_d1_33) rfl (flt hc33).2.2.2 (by decide) (by decide) ?_
            show Steps p.tables e below (s₁.setTop (mkF m 45 #[.val (.int ch)] [])) t
            refine XS.iconst X0.here hx rfl (hb hby own_d1_45) ?_
            show Steps p.tables e below (s₁.setTop (mkF m 46 #[.val (.int ch)] [(.int (1 : Int32))])) t
            refine XS.goto X0.here hx rfl (pc0 := 46) (pc' := 50) rfl (hb hby own_d1_46) (by decide) (by decide) ?_
            exact kt
          obtain ⟨fs, hr, hrun, hended, -, hW, hBk, hsame⟩ := X0.leaveW hS0 (by rw [e0]; exact (Nat.le_refl _)) (v := some (.int (nar .boolean (1 : Int32)))) (fun h => by rw [Bd.returns] at h; cases h)
          refine ⟨_, _, S29 _ ?_, hrun, hended, _, _, rfl, ?_, (by show CHr Z own_EL s.vm s.heap s₁.vm s₁.heap; rw [hh, e0]; exact CR0.trans (CHv.at X0 hZ hEL CR0.1)), ⟨_, rfl⟩, hW, hBk, hsame.mono (by decide) (by decide)⟩
          · show Steps p.tables e below (s₁.setTop (mkF m 50 #[.val (.int ch)] [(.int (1 : Int32))])) _
            exact retN X0 hx (t := .boolean) Bd.returns (by simp) (hb hby own_d1_50) hr
          · show own_Q1 Z ch cs h0 n0 _ s₁.heap _
            rw [e0]
            exact ⟨own_leafT (by simp only [own_ss, decide_true, decide_false, not_true_eq_false, not_false_eq_true, and_true, true_and, and_false, false_and, and_self, or_true, true_or, or_false, false_or, or_self, if_true, if_false, Bool.not_true, Bool.not_false, Bool.and_true, Bool.true_and, Bool.and_false, Bool.false_and, *]), N0, (Keep.refl h0 [])⟩
    · skip
      have S30 : ∀ t, Steps p.tables e below (s₁.setTop (mkF m 21 #[.val (.int ch)] [(.int (90 : Int32)), (.int ch)])) t → Steps p.tables e below (s₁.setTop (entryFrame m #[(.int ch)] 1)) t := fun t kt => by
        refine S2 t ?_
        show Steps p.tables e below (s₁.setTop (mkF m 15 #[.val (.int ch)] [(.int (65 : Int32)), (.int ch)])) t
        refine XS.icmpNo X0.here hx rfl (hb hby own_d1_15) rfl (flt hc15).1 ?_
        show Steps p.tables e below (s₁.setTop (mkF m 18 #[.val (.int ch)] [])) t
        refine XS.iloadN X0.here hx rfl (hb hby own_d1_18) rfl ?_
        show Steps p.tables e below (s₁.setTop (mkF m 19 #[.val (.int ch)] [(.int ch)])) t
        refine XS.bipush X0.here hx rfl (hb hby own_d1_19) ?_
        exact kt
      by_cases hc21 : (90 : Int32) < ch
      · skip
        have S31 : ∀ t, Steps p.tables e below (s₁.setTop (mkF m 27 #[.val (.int ch)] [(.int (48 : Int32)), (.int ch)])) t → Steps p.tables e below (s₁.setTop (entryFrame m #[(.int ch)] 1)) t := fun t kt => by
          refine S30 t ?_
          show Steps p.tables e below (s₁.setTop (mkF m 21 #[.val (.int ch)] [(.int (90 : Int32)), (.int ch)])) t
          refine XS.icmpNo X0.here hx rfl (hb hby own_d1_21) rfl (tlt hc21).2.2.2 ?_
          show Steps p.tables e below (s₁.setTop (mkF m 24 #[.val (.int ch)] [])) t
          refine XS.iloadN X0.here hx rfl (hb hby own_d1_24) rfl ?_
          show Steps p.tables e below (s₁.setTop (mkF m 25 #[.val (.int ch)] [(.int ch)])) t
          refine XS.bipush X0.here hx rfl (hb hby own_d1_25) ?_
          exact kt
        by_cases hc27 : ch < (48 : Int32)
        · skip
          have S32 : ∀ t, Steps p.tables e below (s₁.setTop (mkF m 36 #[.val (.int ch)] [])) t → Steps p.tables e below (s₁.setTop (entryFrame m #[(.int ch)] 1)) t := fun t kt => by
            refine S31 t ?_
            show Steps p.tables e below (s₁.setTop (mkF m 27 #[.val (.int ch)] [(.int (48 : Int32)), (.int ch)])) t
            refine XS.icmpYes X0.here hx rfl (pc0 := 27) (pc' := 36) rfl (hb hby own_d1_27) rfl (tlt hc27).1 (by decide) (by decide) ?_
            exact kt
          obtain ⟨lit33, T33, h33, k33, lby33, kb33, X33, e33, E33, hS33, hk33, hZ33, ho33, LE33, LC33, LV33, LA33, -, -, hC33, -, hNe33, st33⟩ := ldcCH (EL := own_EL) (z := (17 : Int32)) (vs := [(.int (126 : Int32)), (.int (33 : Int32)), (.int (64 : Int32)), (.int (36 : Int32)), (.int (37 : Int32)), (.int (94 : Int32)), (.int (38 : Int32)), (.int (42 : Int32)), (.int (95 : Int32)), (.int (45 : Int32)), (.int (43 : Int32)), (.int (61 : Int32)), (.int (60 : Int32)), (.int (62 : Int32)), (.int (46 : Int32)), (.int (63 : Int32)), (.int (47 : Int32))]) X0 hx hZ hown (hw _ (List.mem_of_getElem? (i := 4) rfl)) wS e0 hS0 (Nat.le_refl _) hEL (List.mem_of_getElem? (i := 0) rfl) CR0.1 ⟨by decide, by decide⟩ (by decide) (by decide) (g := (mkF m 36 #[.val (.int ch)] [])) rfl (hb hby own_d1_36) (n := 68) (by decide) (by decide) (by decide) (by decide)
          have S34 : ∀ t, Steps p.tables e below (T33.setTop (mkF m 38 #[.val (.int ch)] [(.ref lit33)])) t → Steps p.tables e below (s₁.setTop (entryFrame m #[(.int ch)] 1)) t := fun t kt => S32 t (st33 _ kt)
          have CR35 := CR0.trans hC33
          have F36 := S_CS.ext E33
          have K37 : Keep h0 h33 [] := (Keep.refl h0 []).ext E33
          have S39 : ∀ t, Steps p.tables e below (T33.setTop (mkF m 39 #[.val (.int ch)] [(.int ch), (.ref lit33)])) t → Steps p.tables e below (s₁.setTop (entryFrame m #[(.int ch)] 1)) t := fun t kt => by
            refine S34 t ?_
            show Steps p.tables e below (T33.setTop (mkF m 38 #[.val (.int ch)] [(.ref lit33)])) t
            refine XS.iloadN X33.here hx rfl (hb hby own_d1_38) rfl ?_
            exact kt
          obtain ⟨cq40, kq40, q40a, q40b, q40c⟩ := isOf hZ33 e33 LE33
          obtain ⟨_, _, ⟨T40, L40, k40, n40⟩, -, X40, ⟨Lc40, hQ40, l40, y40, z40⟩, st40⟩ := X33.virtualBack hx (y := (⟨"java/lang/String", "indexOf", "(I)I"⟩ : MethodName)) (z := (⟨"java/lang/String", "indexOf", "(I)I"⟩ : MethodName)) ho33 (mvT hZ33 (hw _ (List.mem_of_getElem? (i := 12) rfl))) (mvT hZ33 (hw _ (List.mem_of_getElem? (i := 13) rfl))) (notFace_of_selects (args := #[]) (mvT hZ33 (hw _ (List.mem_of_getElem? (i := 15) rfl)))) (mvT hZ33 (hw _ (List.mem_of_getElem? (i := 15) rfl))) (mvT hZ33 (hw _ (List.mem_of_getElem? (i := 14) rfl))) (by decide) (backOf (W := 0) (own_rm2 l Z a0 hw [] (lit33) (ch) (cs) (lby33) (kb33) h33 n0 (Nat.le_trans Z0 K37.1) LE33 F36 hcs LC33 LV33 LA33) hZ33 (hw _ (List.mem_of_getElem? (i := 16) rfl)) (hw _ (List.mem_of_getElem? (i := 5) rfl)) (by decide) (by decide)) q40a q40c (g := (mkF m 39 #[.val (.int ch)] [(.int ch), (.ref lit33)])) rfl (by rw [hml]; rfl) (Steps.refl _) (argsL := [(.int ch)]) (rest := []) (lenOf own_pd6 rfl) rfl (by show 2 * 0 + _ ≤ _; exact Nat.le_of_eq rfl) (hb hby own_d1_39) (fun _ _ => ⟨rfl, e33, (by decide : 2 + 0 ≤ _), (by decide : 72 + 0 ≤ _)⟩)
          dsimp only [Pt.U, Pt.locs, Pt.cells, Pt.slots] at X40 l40 y40 z40 st40 hQ40
          subst l40 y40 z40
          obtain ⟨rfl, rfl, eq38⟩ := hQ40
          try rw [List.append_nil] at X40
          have S41 : ∀ t, Steps p.tables e below (T40.setTop (mkF m 42 #[.val (.int ch)] [(.int (own_ix ch))])) t → Steps p.tables e below (s₁.setTop (entryFrame m #[(.int ch)] 1)) t := fun t kt => S39 t (st40.trans kt)
          by_cases hc42 : (own_ix ch) < (0 : Int32)
          · skip
            have S42 : ∀ t, Steps p.tables e below (T40.setTop (mkF m 50 #[.val (.int ch)] [(.int (0 : Int32))])) t → Steps p.tables e below (s₁.setTop (entryFrame m #[(.int ch)] 1)) t := fun t kt => by
              refine S41 t ?_
              show Steps p.tables e below (T40.setTop (mkF m 42 #[.val (.int ch)] [(.int (own_ix ch))])) t
              refine XS.ifYes X40.here hx rfl (pc0 := 42) (pc' := 49) rfl (hb hby own_d1_42) rfl ((if0 _ _).trans (tlt hc42).1) (by decide) (by decide) ?_
              show Steps p.tables e below (T40.setTop (mkF m 49 #[.val (.int ch)] [])) t
              refine XS.iconst X40.here hx rfl (hb hby own_d1_49) ?_
              exact kt
            obtain ⟨fs, hr, hrun, hended, -, hW, hBk, hsame⟩ := X40.leaveW hS33 (by rw [eq38]; exact hk33) (v := some (.int (nar .boolean (0 : Int32)))) (fun h => by rw [Bd.returns] at h; cases h)
            refine ⟨_, _, S42 _ ?_, hrun, hended, _, _, rfl, ?_, (by show CHr Z own_EL s.vm s.heap T40.vm T40.heap; rw [hh, eq38]; exact CR35.trans (CHv.at X40 hZ33 hEL CR35.1)), ⟨_, rfl⟩, hW, hBk, hsame.mono (by decide) (by decide)⟩
            · show Steps p.tables e below (T40.setTop (mkF m 50 #[.val (.int ch)] [(.int (0 : Int32))])) _
              exact retN X40 hx (t := .boolean) Bd.returns (by simp) (hb hby own_d1_50) hr
            · show own_Q1 Z ch cs h0 n0 _ T40.heap _
              rw [eq38]
              exact ⟨own_leafF (by simp only [own_ss, decide_true, decide_false, not_true_eq_false, not_false_eq_true, and_true, true_and, and_false, false_and, and_self, or_true, true_or, or_false, false_or, or_self, if_true, if_false, Bool.not_true, Bool.not_false, Bool.and_true, Bool.true_and, Bool.and_false, Bool.false_and, *]), N0, K37⟩
          · skip
            have S43 : ∀ t, Steps p.tables e below (T40.setTop (mkF m 50 #[.val (.int ch)] [(.int (1 : Int32))])) t → Steps p.tables e below (s₁.setTop (entryFrame m #[(.int ch)] 1)) t := fun t kt => by
              refine S41 t ?_
              show Steps p.tables e below (T40.setTop (mkF m 42 #[.val (.int ch)] [(.int (own_ix ch))])) t
              refine XS.ifNo X40.here hx rfl (hb hby own_d1_42) rfl ((if0 _ _).trans (flt hc42).1) ?_
              show Steps p.tables e below (T40.setTop (mkF m 45 #[.val (.int ch)] [])) t
              refine XS.iconst X40.here hx rfl (hb hby own_d1_45) ?_
              show Steps p.tables e below (T40.setTop (mkF m 46 #[.val (.int ch)] [(.int (1 : Int32))])) t
              refine XS.goto X40.here hx rfl (pc0 := 46) (pc' := 50) rfl (hb hby own_d1_46) (by decide) (by decide) ?_
              exact kt
            obtain ⟨fs, hr, hrun, hended, -, hW, hBk, hsame⟩ := X40.leaveW hS33 (by rw [eq38]; exact hk33) (v := some (.int (nar .boolean (1 : Int32)))) (fun h => by rw [Bd.returns] at h; cases h)
            refine ⟨_, _, S43 _ ?_, hrun, hended, _, _, rfl, ?_, (by show CHr Z own_EL s.vm s.heap T40.vm T40.heap; rw [hh, eq38]; exact CR35.trans (CHv.at X40 hZ33 hEL CR35.1)), ⟨_, rfl⟩, hW, hBk, hsame.mono (by decide) (by decide)⟩
            · show Steps p.tables e below (T40.setTop (mkF m 50 #[.val (.int ch)] [(.int (1 : Int32))])) _
              exact retN X40 hx (t := .boolean) Bd.returns (by simp) (hb hby own_d1_50) hr
            · show own_Q1 Z ch cs h0 n0 _ T40.heap _
              rw [eq38]
              exact ⟨own_leafT (by simp only [own_ss, decide_true, decide_false, not_true_eq_false, not_false_eq_true, and_true, true_and, and_false, false_and, and_self, or_true, true_or, or_false, false_or, or_self, if_true, if_false, Bool.not_true, Bool.not_false, Bool.and_true, Bool.true_and, Bool.and_false, Bool.false_and, *]), N0, K37⟩
        · skip
          have S44 : ∀ t, Steps p.tables e below (s₁.setTop (mkF m 33 #[.val (.int ch)] [(.int (57 : Int32)), (.int ch)])) t → Steps p.tables e below (s₁.setTop (entryFrame m #[(.int ch)] 1)) t := fun t kt => by
            refine S31 t ?_
            show Steps p.tables e below (s₁.setTop (mkF m 27 #[.val (.int ch)] [(.int (48 : Int32)), (.int ch)])) t
            refine XS.icmpNo X0.here hx rfl (hb hby own_d1_27) rfl (flt hc27).1 ?_
            show Steps p.tables e below (s₁.setTop (mkF m 30 #[.val (.int ch)] [])) t
            refine XS.iloadN X0.here hx rfl (hb hby own_d1_30) rfl ?_
            show Steps p.tables e below (s₁.setTop (mkF m 31 #[.val (.int ch)] [(.int ch)])) t
            refine XS.bipush X0.here hx rfl (hb hby own_d1_31) ?_
            exact kt
          by_cases hc33 : (57 : Int32) < ch
          · skip
            have S45 : ∀ t, Steps p.tables e below (s₁.setTop (mkF m 36 #[.val (.int ch)] [])) t → Steps p.tables e below (s₁.setTop (entryFrame m #[(.int ch)] 1)) t := fun t kt => by
              refine S44 t ?_
              show Steps p.tables e below (s₁.setTop (mkF m 33 #[.val (.int ch)] [(.int (57 : Int32)), (.int ch)])) t
              refine XS.icmpNo X0.here hx rfl (hb hby own_d1_33) rfl (tlt hc33).2.2.2 ?_
              exact kt
            obtain ⟨lit46, T46, h46, k46, lby46, kb46, X46, e46, E46, hS46, hk46, hZ46, ho46, LE46, LC46, LV46, LA46, -, -, hC46, -, hNe46, st46⟩ := ldcCH (EL := own_EL) (z := (17 : Int32)) (vs := [(.int (126 : Int32)), (.int (33 : Int32)), (.int (64 : Int32)), (.int (36 : Int32)), (.int (37 : Int32)), (.int (94 : Int32)), (.int (38 : Int32)), (.int (42 : Int32)), (.int (95 : Int32)), (.int (45 : Int32)), (.int (43 : Int32)), (.int (61 : Int32)), (.int (60 : Int32)), (.int (62 : Int32)), (.int (46 : Int32)), (.int (63 : Int32)), (.int (47 : Int32))]) X0 hx hZ hown (hw _ (List.mem_of_getElem? (i := 4) rfl)) wS e0 hS0 (Nat.le_refl _) hEL (List.mem_of_getElem? (i := 0) rfl) CR0.1 ⟨by decide, by decide⟩ (by decide) (by decide) (g := (mkF m 36 #[.val (.int ch)] [])) rfl (hb hby own_d1_36) (n := 68) (by decide) (by decide) (by decide) (by decide)
            have S47 : ∀ t, Steps p.tables e below (T46.setTop (mkF m 38 #[.val (.int ch)] [(.ref lit46)])) t → Steps p.tables e below (s₁.setTop (entryFrame m #[(.int ch)] 1)) t := fun t kt => S45 t (st46 _ kt)
            have CR48 := CR0.trans hC46
            have F49 := S_CS.ext E46
            have K50 : Keep h0 h46 [] := (Keep.refl h0 []).ext E46
            have S52 : ∀ t, Steps p.tables e below (T46.setTop (mkF m 39 #[.val (.int ch)] [(.int ch), (.ref lit46)])) t → Steps p.tables e below (s₁.setTop (entryFrame m #[(.int ch)] 1)) t := fun t kt => by
              refine S47 t ?_
              show Steps p.tables e below (T46.setTop (mkF m 38 #[.val (.int ch)] [(.ref lit46)])) t
              refine XS.iloadN X46.here hx rfl (hb hby own_d1_38) rfl ?_
              exact kt
            obtain ⟨cq53, kq53, q53a, q53b, q53c⟩ := isOf hZ46 e46 LE46
            obtain ⟨_, _, ⟨T53, L53, k53, n53⟩, -, X53, ⟨Lc53, hQ53, l53, y53, z53⟩, st53⟩ := X46.virtualBack hx (y := (⟨"java/lang/String", "indexOf", "(I)I"⟩ : MethodName)) (z := (⟨"java/lang/String", "indexOf", "(I)I"⟩ : MethodName)) ho46 (mvT hZ46 (hw _ (List.mem_of_getElem? (i := 12) rfl))) (mvT hZ46 (hw _ (List.mem_of_getElem? (i := 13) rfl))) (notFace_of_selects (args := #[]) (mvT hZ46 (hw _ (List.mem_of_getElem? (i := 15) rfl)))) (mvT hZ46 (hw _ (List.mem_of_getElem? (i := 15) rfl))) (mvT hZ46 (hw _ (List.mem_of_getElem? (i := 14) rfl))) (by decide) (backOf (W := 0) (own_rm2 l Z a0 hw [] (lit46) (ch) (cs) (lby46) (kb46) h46 n0 (Nat.le_trans Z0 K50.1) LE46 F49 hcs LC46 LV46 LA46) hZ46 (hw _ (List.mem_of_getElem? (i := 16) rfl)) (hw _ (List.mem_of_getElem? (i := 5) rfl)) (by decide) (by decide)) q53a q53c (g := (mkF m 39 #[.val (.int ch)] [(.int ch), (.ref lit46)])) rfl (by rw [hml]; rfl) (Steps.refl _) (argsL := [(.int ch)]) (rest := []) (lenOf own_pd6 rfl) rfl (by show 2 * 0 + _ ≤ _; exact Nat.le_of_eq rfl) (hb hby own_d1_39) (fun _ _ => ⟨rfl, e46, (by decide : 2 + 0 ≤ _), (by decide : 72 + 0 ≤ _)⟩)
            dsimp only [Pt.U, Pt.locs, Pt.cells, Pt.slots] at X53 l53 y53 z53 st53 hQ53
            subst l53 y53 z53
            obtain ⟨rfl, rfl, eq51⟩ := hQ53
            try rw [List.append_nil] at X53
            have S54 : ∀ t, Steps p.tables e below (T53.setTop (mkF m 42 #[.val (.int ch)] [(.int (own_ix ch))])) t → Steps p.tables e below (s₁.setTop (entryFrame m #[(.int ch)] 1)) t := fun t kt => S52 t (st53.trans kt)
            by_cases hc42 : (own_ix ch) < (0 : Int32)
            · skip
              have S55 : ∀ t, Steps p.tables e below (T53.setTop (mkF m 50 #[.val (.int ch)] [(.int (0 : Int32))])) t → Steps p.tables e below (s₁.setTop (entryFrame m #[(.int ch)] 1)) t := fun t kt => by
                refine S54 t ?_
                show Steps p.tables e below (T53.setTop (mkF m 42 #[.val (.int ch)] [(.int (own_ix ch))])) t
                refine XS.ifYes X53.here hx rfl (pc0 := 42) (pc' := 49) rfl (hb hby own_d1_42) rfl ((if0 _ _).trans (tlt hc42).1) (by decide) (by decide) ?_
                show Steps p.tables e below (T53.setTop (mkF m 49 #[.val (.int ch)] [])) t
                refine XS.iconst X53.here hx rfl (hb hby own_d1_49) ?_
                exact kt
              obtain ⟨fs, hr, hrun, hended, -, hW, hBk, hsame⟩ := X53.leaveW hS46 (by rw [eq51]; exact hk46) (v := some (.int (nar .boolean (0 : Int32)))) (fun h => by rw [Bd.returns] at h; cases h)
              refine ⟨_, _, S55 _ ?_, hrun, hended, _, _, rfl, ?_, (by show CHr Z own_EL s.vm s.heap T53.vm T53.heap; rw [hh, eq51]; exact CR48.trans (CHv.at X53 hZ46 hEL CR48.1)), ⟨_, rfl⟩, hW, hBk, hsame.mono (by decide) (by decide)⟩
              · show Steps p.tables e below (T53.setTop (mkF m 50 #[.val (.int ch)] [(.int (0 : Int32))])) _
                exact retN X53 hx (t := .boolean) Bd.returns (by simp) (hb hby own_d1_50) hr
              · show own_Q1 Z ch cs h0 n0 _ T53.heap _
                rw [eq51]
                exact ⟨own_leafF (by simp only [own_ss, decide_true, decide_false, not_true_eq_false, not_false_eq_true, and_true, true_and, and_false, false_and, and_self, or_true, true_or, or_false, false_or, or_self, if_true, if_false, Bool.not_true, Bool.not_false, Bool.and_true, Bool.true_and, Bool.and_false, Bool.false_and, *]), N0, K50⟩
            · skip
              have S56 : ∀ t, Steps p.tables e below (T53.setTop (mkF m 50 #[.val (.int ch)] [(.int (1 : Int32))])) t → Steps p.tables e below (s₁.setTop (entryFrame m #[(.int ch)] 1)) t := fun t kt => by
                refine S54 t ?_
                show Steps p.tables e below (T53.setTop (mkF m 42 #[.val (.int ch)] [(.int (own_ix ch))])) t
                refine XS.ifNo X53.here hx rfl (hb hby own_d1_42) rfl ((if0 _ _).trans (flt hc42).1) ?_
                show Steps p.tables e below (T53.setTop (mkF m 45 #[.val (.int ch)] [])) t
                refine XS.iconst X53.here hx rfl (hb hby own_d1_45) ?_
                show Steps p.tables e below (T53.setTop (mkF m 46 #[.val (.int ch)] [(.int (1 : Int32))])) t
                refine XS.goto X53.here hx rfl (pc0 := 46) (pc' := 50) rfl (hb hby own_d1_46) (by decide) (by decide) ?_
                exact kt
              obtain ⟨fs, hr, hrun, hended, -, hW, hBk, hsame⟩ := X53.leaveW hS46 (by rw [eq51]; exact hk46) (v := some (.int (nar .boolean (1 : Int32)))) (fun h => by rw [Bd.returns] at h; cases h)
              refine ⟨_, _, S56 _ ?_, hrun, hended, _, _, rfl, ?_, (by show CHr Z own_EL s.vm s.heap T53.vm T53.heap; rw [hh, eq51]; exact CR48.trans (CHv.at X53 hZ46 hEL CR48.1)), ⟨_, rfl⟩, hW, hBk, hsame.mono (by decide) (by decide)⟩
              · show Steps p.tables e below (T53.setTop (mkF m 50 #[.val (.int ch)] [(.int (1 : Int32))])) _
                exact retN X53 hx (t := .boolean) Bd.returns (by simp) (hb hby own_d1_50) hr
              · show own_Q1 Z ch cs h0 n0 _ T53.heap _
                rw [eq51]
                exact ⟨own_leafT (by simp only [own_ss, decide_true, decide_false, not_true_eq_false, not_false_eq_true, and_true, true_and, and_false, false_and, and_self, or_true, true_or, or_false, false_or, or_self, if_true, if_false, Bool.not_true, Bool.not_false, Bool.and_true, Bool.true_and, Bool.and_false, Bool.false_and, *]), N0, K50⟩
          · skip
            have S57 : ∀ t, Steps p.tables e below (s₁.setTop (mkF m 50 #[.val (.int ch)] [(.int (1 : Int32))])) t → Steps p.tables e below (s₁.setTop (entryFrame m #[(.int ch)] 1)) t := fun t kt => by
              refine S44 t ?_
              show Steps p.tables e below (s₁.setTop (mkF m 33 #[.val (.int ch)] [(.int (57 : Int32)), (.int ch)])) t
              refine XS.icmpYes X0.here hx rfl (pc0 := 33) (pc' := 45) rfl (hb hby own_d1_33) rfl (flt hc33).2.2.2 (by decide) (by decide) ?_
              show Steps p.tables e below (s₁.setTop (mkF m 45 #[.val (.int ch)] [])) t
              refine XS.iconst X0.here hx rfl (hb hby own_d1_45) ?_
              show Steps p.tables e below (s₁.setTop (mkF m 46 #[.val (.int ch)] [(.int (1 : Int32))])) t
              refine XS.goto X0.here hx rfl (pc0 := 46) (pc' := 50) rfl (hb hby own_d1_46) (by decide) (by decide) ?_
              exact kt
            obtain ⟨fs, hr, hrun, hended, -, hW, hBk, hsame⟩ := X0.leaveW hS0 (by rw [e0]; exact (Nat.le_refl _)) (v := some (.int (nar .boolean (1 : Int32)))) (fun h => by rw [Bd.returns] at h; cases h)
            refine ⟨_, _, S57 _ ?_, hrun, hended, _, _, rfl, ?_, (by show CHr Z own_EL s.vm s.heap s₁.vm s₁.heap; rw [hh, e0]; exact CR0.trans (CHv.at X0 hZ hEL CR0.1)), ⟨_, rfl⟩, hW, hBk, hsame.mono (by decide) (by decide)⟩
            · show Steps p.tables e below (s₁.setTop (mkF m 50 #[.val (.int ch)] [(.int (1 : Int32))])) _
              exact retN X0 hx (t := .boolean) Bd.returns (by simp) (hb hby own_d1_50) hr
            · show own_Q1 Z ch cs h0 n0 _ s₁.heap _
              rw [e0]
              exact ⟨own_leafT (by simp only [own_ss, decide_true, decide_false, not_true_eq_false, not_false_eq_true, and_true, true_and, and_false, false_and, and_self, or_true, true_or, or_false, false_or, or_self, if_true, if_false, Bool.not_true, Bool.not_false, Bool.and_true, Bool.true_and, Bool.and_false, Bool.false_and, *]), N0, (Keep.refl h0 [])⟩
      · skip
        have S58 : ∀ t, Steps p.tables e below (s₁.setTop (mkF m 50 #[.val (.int ch)] [(.int (1 : Int32))])) t → Steps p.tables e below (s₁.setTop (entryFrame m #[(.int ch)] 1)) t := fun t kt => by
          refine S30 t ?_
          show Steps p.tables e below (s₁.setTop (mkF m 21 #[.val (.int ch)] [(.int (90 : Int32)), (.int ch)])) t
          refine XS.icmpYes X0.here hx rfl (pc0 := 21) (pc' := 45) rfl (hb hby own_d1_21) rfl (flt hc21).2.2.2 (by decide) (by decide) ?_
          show Steps p.tables e below (s₁.setTop (mkF m 45 #[.val (.int ch)] [])) t
          refine XS.iconst X0.here hx rfl (hb hby own_d1_45) ?_
          show Steps p.tables e below (s₁.setTop (mkF m 46 #[.val (.int ch)] [(.int (1 : Int32))])) t
          refine XS.goto X0.here hx rfl (pc0 := 46) (pc' := 50) rfl (hb hby own_d1_46) (by decide) (by decide) ?_
          exact kt
        obtain ⟨fs, hr, hrun, hended, -, hW, hBk, hsame⟩ := X0.leaveW hS0 (by rw [e0]; exact (Nat.le_refl _)) (v := some (.int (nar .boolean (1 : Int32)))) (fun h => by rw [Bd.returns] at h; cases h)
        refine ⟨_, _, S58 _ ?_, hrun, hended, _, _, rfl, ?_, (by show CHr Z own_EL s.vm s.heap s₁.vm s₁.heap; rw [hh, e0]; exact CR0.trans (CHv.at X0 hZ hEL CR0.1)), ⟨_, rfl⟩, hW, hBk, hsame.mono (by decide) (by decide)⟩
        · show Steps p.tables e below (s₁.setTop (mkF m 50 #[.val (.int ch)] [(.int (1 : Int32))])) _
          exact retN X0 hx (t := .boolean) Bd.returns (by simp) (hb hby own_d1_50) hr
        · show own_Q1 Z ch cs h0 n0 _ s₁.heap _
          rw [e0]
          exact ⟨own_leafT (by simp only [own_ss, decide_true, decide_false, not_true_eq_false, not_false_eq_true, and_true, true_and, and_false, false_and, and_self, or_true, true_or, or_false, false_or, or_self, if_true, if_false, Bool.not_true, Bool.not_false, Bool.and_true, Bool.true_and, Bool.and_false, Bool.false_and, *]), N0, (Keep.refl h0 [])⟩
  · skip
    have S59 : ∀ t, Steps p.tables e below (s₁.setTop (mkF m 9 #[.val (.int ch)] [(.int (122 : Int32)), (.int ch)])) t → Steps p.tables e below (s₁.setTop (entryFrame m #[(.int ch)] 1)) t := fun t kt => by
      refine S1 t ?_
      show Steps p.tables e below (s₁.setTop (mkF m 3 #[.val (.int ch)] [(.int (97 : Int32)), (.int ch)])) t
      refine XS.icmpNo X0.here hx rfl (hb hby own_d1_3) rfl (flt hc3).1 ?_
      show Steps p.tables e below (s₁.setTop (mkF m 6 #[.val (.int ch)] [])) t
      refine XS.iloadN X0.here hx rfl (hb hby own_d1_6) rfl ?_
      show Steps p.tables e below (s₁.setTop (mkF m 7 #[.val (.int ch)] [(.int ch)])) t
      refine XS.bipush X0.here hx rfl (hb hby own_d1_7) ?_
      exact kt
    by_cases hc9 : (122 : Int32) < ch
    · skip
      have S60 : ∀ t, Steps p.tables e below (s₁.setTop (mkF m 15 #[.val (.int ch)] [(.int (65 : Int32)), (.int ch)])) t → Steps p.tables e below (s₁.setTop (entryFrame m #[(.int ch)] 1)) t := fun t kt => by
        refine S59 t ?_
        show Steps p.tables e below (s₁.setTop (mkF m 9 #[.val (.int ch)] [(.int (122 : Int32)), (.int ch)])) t
        refine XS.icmpNo X0.here hx rfl (hb hby own_d1_9) rfl (tlt hc9).2.2.2 ?_
        show Steps p.tables e below (s₁.setTop (mkF m 12 #[.val (.int ch)] [])) t
        refine XS.iloadN X0.here hx rfl (hb hby own_d1_12) rfl ?_
        show Steps p.tables e below (s₁.setTop (mkF m 13 #[.val (.int ch)] [(.int ch)])) t
        refine XS.bipush X0.here hx rfl (hb hby own_d1_13) ?_
        exact kt
      by_cases hc15 : ch < (65 : Int32)
      · skip
        have S61 : ∀ t, Steps p.tables e below (s₁.setTop (mkF m 27 #[.val (.int ch)] [(.int (48 : Int32)), (.int ch)])) t → Steps p.tables e below (s₁.setTop (entryFrame m #[(.int ch)] 1)) t := fun t kt => by
          refine S60 t ?_
          show Steps p.tables e below (s₁.setTop (mkF m 15 #[.val (.int ch)] [(.int (65 : Int32)), (.int ch)])) t
          refine XS.icmpYes X0.here hx rfl (pc0 := 15) (pc' := 24) rfl (hb hby own_d1_15) rfl (tlt hc15).1 (by decide) (by decide) ?_
          show Steps p.tables e below (s₁.setTop (mkF m 24 #[.val (.int ch)] [])) t
          refine XS.iloadN X0.here hx rfl (hb hby own_d1_24) rfl ?_
          show Steps p.tables e below (s₁.setTop (mkF m 25 #[.val (.int ch)] [(.int ch)])) t
          refine XS.bipush X0.here hx rfl (hb hby own_d1_25) ?_
          exact kt
        by_cases hc27 : ch < (48 : Int32)
        · skip
          have S62 : ∀ t, Steps p.tables e below (s₁.setTop (mkF m 36 #[.val (.int ch)] [])) t → Steps p.tables e below (s₁.setTop (entryFrame m #[(.int ch)] 1)) t := fun t kt => by
            refine S61 t ?_
            show Steps p.tables e below (s₁.setTop (mkF m 27 #[.val (.int ch)] [(.int (48 : Int32)), (.int ch)])) t
            refine XS.icmpYes X0.here hx rfl (pc0 := 27) (pc' := 36) rfl (hb hby own_d1_27) rfl (tlt hc27).1 (by decide) (by decide) ?_
            exact kt
          obtain ⟨lit63, T63, h63, k63, lby63, kb63, X63, e63, E63, hS63, hk63, hZ63, ho63, LE63, LC63, LV63, LA63, -, -, hC63, -, hNe63, st63⟩ := ldcCH (EL := own_EL) (z := (17 : Int32)) (vs := [(.int (126 : Int32)), (.int (33 : Int32)), (.int (64 : Int32)), (.int (36 : Int32)), (.int (37 : Int32)), (.int (94 : Int32)), (.int (38 : Int32)), (.int (42 : Int32)), (.int (95 : Int32)), (.int (45 : Int32)), (.int (43 : Int32)), (.int (61 : Int32)), (.int (60 : Int32)), (.int (62 : Int32)), (.int (46 : Int32)), (.int (63 : Int32)), (.int (47 : Int32))]) X0 hx hZ hown (hw _ (List.mem_of_getElem? (i := 4) rfl)) wS e0 hS0 (Nat.le_refl _) hEL (List.mem_of_getElem? (i := 0) rfl) CR0.1 ⟨by decide, by decide⟩ (by decide) (by decide) (g := (mkF m 36 #[.val (.int ch)] [])) rfl (hb hby own_d1_36) (n := 68) (by decide) (by decide) (by decide) (by decide)
          have S64 : ∀ t, Steps p.tables e below (T63.setTop (mkF m 38 #[.val (.int ch)] [(.ref lit63)])) t → Steps p.tables e below (s₁.setTop (entryFrame m #[(.int ch)] 1)) t := fun t kt => S62 t (st63 _ kt)
          have CR65 := CR0.trans hC63
          have F66 := S_CS.ext E63
          have K67 : Keep h0 h63 [] := (Keep.refl h0 []).ext E63
          have S69 : ∀ t, Steps p.tables e below (T63.setTop (mkF m 39 #[.val (.int ch)] [(.int ch), (.ref lit63)])) t → Steps p.tables e below (s₁.setTop (entryFrame m #[(.int ch)] 1)) t := fun t kt => by
            refine S64 t ?_
            show Steps p.tables e below (T63.setTop (mkF m 38 #[.val (.int ch)] [(.ref lit63)])) t
            refine XS.iloadN X63.here hx rfl (hb hby own_d1_38) rfl ?_
            exact kt
          obtain ⟨cq70, kq70, q70a, q70b, q70c⟩ := isOf hZ63 e63 LE63
          obtain ⟨_, _, ⟨T70, L70, k70, n70⟩, -, X70, ⟨Lc70, hQ70, l70, y70, z70⟩, st70⟩ := X63.virtualBack hx (y := (⟨"java/lang/String", "indexOf", "(I)I"⟩ : MethodName)) (z := (⟨"java/lang/String", "indexOf", "(I)I"⟩ : MethodName)) ho63 (mvT hZ63 (hw _ (List.mem_of_getElem? (i := 12) rfl))) (mvT hZ63 (hw _ (List.mem_of_getElem? (i := 13) rfl))) (notFace_of_selects (args := #[]) (mvT hZ63 (hw _ (List.mem_of_getElem? (i := 15) rfl)))) (mvT hZ63 (hw _ (List.mem_of_getElem? (i := 15) rfl))) (mvT hZ63 (hw _ (List.mem_of_getElem? (i := 14) rfl))) (by decide) (backOf (W := 0) (own_rm2 l Z a0 hw [] (lit63) (ch) (cs) (lby63) (kb63) h63 n0 (Nat.le_trans Z0 K67.1) LE63 F66 hcs LC63 LV63 LA63) hZ63 (hw _ (List.mem_of_getElem? (i := 16) rfl)) (hw _ (List.mem_of_getElem? (i := 5) rfl)) (by decide) (by decide)) q70a q70c (g := (mkF m 39 #[.val (.int ch)] [(.int ch), (.ref lit63)])) rfl (by rw [hml]; rfl) (Steps.refl _) (argsL := [(.int ch)]) (rest := []) (lenOf own_pd6 rfl) rfl (by show 2 * 0 + _ ≤ _; exact Nat.le_of_eq rfl) (hb hby own_d1_39) (fun _ _ => ⟨rfl, e63, (by decide : 2 + 0 ≤ _), (by decide : 72 + 0 ≤ _)⟩)
          dsimp only [Pt.U, Pt.locs, Pt.cells, Pt.slots] at X70 l70 y70 z70 st70 hQ70
          subst l70 y70 z70
          obtain ⟨rfl, rfl, eq68⟩ := hQ70
          try rw [List.append_nil] at X70
          have S71 : ∀ t, Steps p.tables e below (T70.setTop (mkF m 42 #[.val (.int ch)] [(.int (own_ix ch))])) t → Steps p.tables e below (s₁.setTop (entryFrame m #[(.int ch)] 1)) t := fun t kt => S69 t (st70.trans kt)
          by_cases hc42 : (own_ix ch) < (0 : Int32)
          · skip
            have S72 : ∀ t, Steps p.tables e below (T70.setTop (mkF m 50 #[.val (.int ch)] [(.int (0 : Int32))])) t → Steps p.tables e below (s₁.setTop (entryFrame m #[(.int ch)] 1)) t := fun t kt => by
              refine S71 t ?_
              show Steps p.tables e below (T70.setTop (mkF m 42 #[.val (.int ch)] [(.int (own_ix ch))])) t
              refine XS.ifYes X70.here hx rfl (pc0 := 42) (pc' := 49) rfl (hb hby own_d1_42) rfl ((if0 _ _).trans (tlt hc42).1) (by decide) (by decide) ?_
              show Steps p.tables e below (T70.setTop (mkF m 49 #[.val (.int ch)] [])) t
              refine XS.iconst X70.here hx rfl (hb hby own_d1_49) ?_
              exact kt
            obtain ⟨fs, hr, hrun, hended, -, hW, hBk, hsame⟩ := X70.leaveW hS63 (by rw [eq68]; exact hk63) (v := some (.int (nar .boolean (0 : Int32)))) (fun h => by rw [Bd.returns] at h; cases h)
            refine ⟨_, _, S72 _ ?_, hrun, hended, _, _, rfl, ?_, (by show CHr Z own_EL s.vm s.heap T70.vm T70.heap; rw [hh, eq68]; exact CR65.trans (CHv.at X70 hZ63 hEL CR65.1)), ⟨_, rfl⟩, hW, hBk, hsame.mono (by decide) (by decide)⟩
            · show Steps p.tables e below (T70.setTop (mkF m 50 #[.val (.int ch)] [(.int (0 : Int32))])) _
              exact retN X70 hx (t := .boolean) Bd.returns (by simp) (hb hby own_d1_50) hr
            · show own_Q1 Z ch cs h0 n0 _ T70.heap _
              rw [eq68]
              exact ⟨own_leafF (by simp only [own_ss, decide_true, decide_false, not_true_eq_false, not_false_eq_true, and_true, true_and, and_false, false_and, and_self, or_true, true_or, or_false, false_or, or_self, if_true, if_false, Bool.not_true, Bool.not_false, Bool.and_true, Bool.true_and, Bool.and_false, Bool.false_and, *]), N0, K67⟩
          · skip
            have S73 : ∀ t, Steps p.tables e below (T70.setTop (mkF m 50 #[.val (.int ch)] [(.int (1 : Int32))])) t → Steps p.tables e below (s₁.setTop (entryFrame m #[(.int ch)] 1)) t := fun t kt => by
              refine S71 t ?_
              show Steps p.tables e below (T70.setTop (mkF m 42 #[.val (.int ch)] [(.int (own_ix ch))])) t
              refine XS.ifNo X70.here hx rfl (hb hby own_d1_42) rfl ((if0 _ _).trans (flt hc42).1) ?_
              show Steps p.tables e below (T70.setTop (mkF m 45 #[.val (.int ch)] [])) t
              refine XS.iconst X70.here hx rfl (hb hby own_d1_45) ?_
              show Steps p.tables e below (T70.setTop (mkF m 46 #[.val (.int ch)] [(.int (1 : Int32))])) t
              refine XS.goto X70.here hx rfl (pc0 := 46) (pc' := 50) rfl (hb hby own_d1_46) (by decide) (by decide) ?_
              exact kt
            obtain ⟨fs, hr, hrun, hended, -, hW, hBk, hsame⟩ := X70.leaveW hS63 (by rw [eq68]; exact hk63) (v := some (.int (nar .boolean (1 : Int32)))) (fun h => by rw [Bd.returns] at h; cases h)
            refine ⟨_, _, S73 _ ?_, hrun, hended, _, _, rfl, ?_, (by show CHr Z own_EL s.vm s.heap T70.vm T70.heap; rw [hh, eq68]; exact CR65.trans (CHv.at X70 hZ63 hEL CR65.1)), ⟨_, rfl⟩, hW, hBk, hsame.mono (by decide) (by decide)⟩
            · show Steps p.tables e below (T70.setTop (mkF m 50 #[.val (.int ch)] [(.int (1 : Int32))])) _
              exact retN X70 hx (t := .boolean) Bd.returns (by simp) (hb hby own_d1_50) hr
            · show own_Q1 Z ch cs h0 n0 _ T70.heap _
              rw [eq68]
              exact ⟨own_leafT (by simp only [own_ss, decide_true, decide_false, not_true_eq_false, not_false_eq_true, and_true, true_and, and_false, false_and, and_self, or_true, true_or, or_false, false_or, or_self, if_true, if_false, Bool.not_true, Bool.not_false, Bool.and_true, Bool.true_and, Bool.and_false, Bool.false_and, *]), N0, K67⟩
        · skip
          have S74 : ∀ t, Steps p.tables e below (s₁.setTop (mkF m 33 #[.val (.int ch)] [(.int (57 : Int32)), (.int ch)])) t → Steps p.tables e below (s₁.setTop (entryFrame m #[(.int ch)] 1)) t := fun t kt => by
            refine S61 t ?_
            show Steps p.tables e below (s₁.setTop (mkF m 27 #[.val (.int ch)] [(.int (48 : Int32)), (.int ch)])) t
            refine XS.icmpNo X0.here hx rfl (hb hby own_d1_27) rfl (flt hc27).1 ?_
            show Steps p.tables e below (s₁.setTop (mkF m 30 #[.val (.int ch)] [])) t
            refine XS.iloadN X0.here hx rfl (hb hby own_d1_30) rfl ?_
            show Steps p.tables e below (s₁.setTop (mkF m 31 #[.val (.int ch)] [(.int ch)])) t
            refine XS.bipush X0.here hx rfl (hb hby own_d1_31) ?_
            exact kt
          by_cases hc33 : (57 : Int32) < ch
          · skip
            have S75 : ∀ t, Steps p.tables e below (s₁.setTop (mkF m 36 #[.val (.int ch)] [])) t → Steps p.tables e below (s₁.setTop (entryFrame m #[(.int ch)] 1)) t := fun t kt => by
              refine S74 t ?_
              show Steps p.tables e below (s₁.setTop (mkF m 33 #[.val (.int ch)] [(.int (57 : Int32)), (.int ch)])) t
              refine XS.icmpNo X0.here hx rfl (hb hby own_d1_33) rfl (tlt hc33).2.2.2 ?_
              exact kt
            obtain ⟨lit76, T76, h76, k76, lby76, kb76, X76, e76, E76, hS76, hk76, hZ76, ho76, LE76, LC76, LV76, LA76, -, -, hC76, -, hNe76, st76⟩ := ldcCH (EL := own_EL) (z := (17 : Int32)) (vs := [(.int (126 : Int32)), (.int (33 : Int32)), (.int (64 : Int32)), (.int (36 : Int32)), (.int (37 : Int32)), (.int (94 : Int32)), (.int (38 : Int32)), (.int (42 : Int32)), (.int (95 : Int32)), (.int (45 : Int32)), (.int (43 : Int32)), (.int (61 : Int32)), (.int (60 : Int32)), (.int (62 : Int32)), (.int (46 : Int32)), (.int (63 : Int32)), (.int (47 : Int32))]) X0 hx hZ hown (hw _ (List.mem_of_getElem? (i := 4) rfl)) wS e0 hS0 (Nat.le_refl _) hEL (List.mem_of_getElem? (i := 0) rfl) CR0.1 ⟨by decide, by decide⟩ (by decide) (by decide) (g := (mkF m 36 #[.val (.int ch)] [])) rfl (hb hby own_d1_36) (n := 68) (by decide) (by decide) (by decide) (by decide)
            have S77 : ∀ t, Steps p.tables e below (T76.setTop (mkF m 38 #[.val (.int ch)] [(.ref lit76)])) t → Steps p.tables e below (s₁.setTop (entryFrame m #[(.int ch)] 1)) t := fun t kt => S75 t (st76 _ kt)
            have CR78 := CR0.trans hC76
            have F79 := S_CS.ext E76
            have K80 : Keep h0 h76 [] := (Keep.refl h0 []).ext E76
            have S82 : ∀ t, Steps p.tables e below (T76.setTop (mkF m 39 #[.val (.int ch)] [(.int ch), (.ref lit76)])) t → Steps p.tables e below (s₁.setTop (entryFrame m #[(.int ch)] 1)) t := fun t kt => by
              refine S77 t ?_
              show Steps p.tables e below (T76.setTop (mkF m 38 #[.val (.int ch)] [(.ref lit76)])) t
              refine XS.iloadN X76.here hx rfl (hb hby own_d1_38) rfl ?_
              exact kt
            obtain ⟨cq83, kq83, q83a, q83b, q83c⟩ := isOf hZ76 e76 LE76
            obtain ⟨_, _, ⟨T83, L83, k83, n83⟩, -, X83, ⟨Lc83, hQ83, l83, y83, z83⟩, st83⟩ := X76.virtualBack hx (y := (⟨"java/lang/String", "indexOf", "(I)I"⟩ : MethodName)) (z := (⟨"java/lang/String", "indexOf", "(I)I"⟩ : MethodName)) ho76 (mvT hZ76 (hw _ (List.mem_of_getElem? (i := 12) rfl))) (mvT hZ76 (hw _ (List.mem_of_getElem? (i := 13) rfl))) (notFace_of_selects (args := #[]) (mvT hZ76 (hw _ (List.mem_of_getElem? (i := 15) rfl)))) (mvT hZ76 (hw _ (List.mem_of_getElem? (i := 15) rfl))) (mvT hZ76 (hw _ (List.mem_of_getElem? (i := 14) rfl))) (by decide) (backOf (W := 0) (own_rm2 l Z a0 hw [] (lit76) (ch) (cs) (lby76) (kb76) h76 n0 (Nat.le_trans Z0 K80.1) LE76 F79 hcs LC76 LV76 LA76) hZ76 (hw _ (List.mem_of_getElem? (i := 16) rfl)) (hw _ (List.mem_of_getElem? (i := 5) rfl)) (by decide) (by decide)) q83a q83c (g := (mkF m 39 #[.val (.int ch)] [(.int ch), (.ref lit76)])) rfl (by rw [hml]; rfl) (Steps.refl _) (argsL := [(.int ch)]) (rest := []) (lenOf own_pd6 rfl) rfl (by show 2 * 0 + _ ≤ _; exact Nat.le_of_eq rfl) (hb hby own_d1_39) (fun _ _ => ⟨rfl, e76, (by decide : 2 + 0 ≤ _), (by decide : 72 + 0 ≤ _)⟩)
            dsimp only [Pt.U, Pt.locs, Pt.cells, Pt.slots] at X83 l83 y83 z83 st83 hQ83
            subst l83 y83 z83
            obtain ⟨rfl, rfl, eq81⟩ := hQ83
            try rw [List.append_nil] at X83
            have S84 : ∀ t, Steps p.tables e below (T83.setTop (mkF m 42 #[.val (.int ch)] [(.int (own_ix ch))])) t → Steps p.tables e below (s₁.setTop (entryFrame m #[(.int ch)] 1)) t := fun t kt => S82 t (st83.trans kt)
            by_cases hc42 : (own_ix ch) < (0 : Int32)
            · skip
              have S85 : ∀ t, Steps p.tables e below (T83.setTop (mkF m 50 #[.val (.int ch)] [(.int (0 : Int32))])) t → Steps p.tables e below (s₁.setTop (entryFrame m #[(.int ch)] 1)) t := fun t kt => by
                refine S84 t ?_
                show Steps p.tables e below (T83.setTop (mkF m 42 #[.val (.int ch)] [(.int (own_ix ch))])) t
                refine XS.ifYes X83.here hx rfl (pc0 := 42) (pc' := 49) rfl (hb hby own_d1_42) rfl ((if0 _ _).trans (tlt hc42).1) (by decide) (by decide) ?_
                show Steps p.tables e below (T83.setTop (mkF m 49 #[.val (.int ch)] [])) t
                refine XS.iconst X83.here hx rfl (hb hby own_d1_49) ?_
                exact kt
              obtain ⟨fs, hr, hrun, hended, -, hW, hBk, hsame⟩ := X83.leaveW hS76 (by rw [eq81]; exact hk76) (v := some (.int (nar .boolean (0 : Int32)))) (fun h => by rw [Bd.returns] at h; cases h)
              refine ⟨_, _, S85 _ ?_, hrun, hended, _, _, rfl, ?_, (by show CHr Z own_EL s.vm s.heap T83.vm T83.heap; rw [hh, eq81]; exact CR78.trans (CHv.at X83 hZ76 hEL CR78.1)), ⟨_, rfl⟩, hW, hBk, hsame.mono (by decide) (by decide)⟩
              · show Steps p.tables e below (T83.setTop (mkF m 50 #[.val (.int ch)] [(.int (0 : Int32))])) _
                exact retN X83 hx (t := .boolean) Bd.returns (by simp) (hb hby own_d1_50) hr
              · show own_Q1 Z ch cs h0 n0 _ T83.heap _
                rw [eq81]
                exact ⟨own_leafF (by simp only [own_ss, decide_true, decide_false, not_true_eq_false, not_false_eq_true, and_true, true_and, and_false, false_and, and_self, or_true, true_or, or_false, false_or, or_self, if_true, if_false, Bool.not_true, Bool.not_false, Bool.and_true, Bool.true_and, Bool.and_false, Bool.false_and, *]), N0, K80⟩
            · skip
              have S86 : ∀ t, Steps p.tables e below (T83.setTop (mkF m 50 #[.val (.int ch)] [(.int (1 : Int32))])) t → Steps p.tables e below (s₁.setTop (entryFrame m #[(.int ch)] 1)) t := fun t kt => by
                refine S84 t ?_
                show Steps p.tables e below (T83.setTop (mkF m 42 #[.val (.int ch)] [(.int (own_ix ch))])) t
                refine XS.ifNo X83.here hx rfl (hb hby own_d1_42) rfl ((if0 _ _).trans (flt hc42).1) ?_
                show Steps p.tables e below (T83.setTop (mkF m 45 #[.val (.int ch)] [])) t
                refine XS.iconst X83.here hx rfl (hb hby own_d1_45) ?_
                show Steps p.tables e below (T83.setTop (mkF m 46 #[.val (.int ch)] [(.int (1 : Int32))])) t
                refine XS.goto X83.here hx rfl (pc0 := 46) (pc' := 50) rfl (hb hby own_d1_46) (by decide) (by decide) ?_
                exact kt
              obtain ⟨fs, hr, hrun, hended, -, hW, hBk, hsame⟩ := X83.leaveW hS76 (by rw [eq81]; exact hk76) (v := some (.int (nar .boolean (1 : Int32)))) (fun h => by rw [Bd.returns] at h; cases h)
              refine ⟨_, _, S86 _ ?_, hrun, hended, _, _, rfl, ?_, (by show CHr Z own_EL s.vm s.heap T83.vm T83.heap; rw [hh, eq81]; exact CR78.trans (CHv.at X83 hZ76 hEL CR78.1)), ⟨_, rfl⟩, hW, hBk, hsame.mono (by decide) (by decide)⟩
              · show Steps p.tables e below (T83.setTop (mkF m 50 #[.val (.int ch)] [(.int (1 : Int32))])) _
                exact retN X83 hx (t := .boolean) Bd.returns (by simp) (hb hby own_d1_50) hr
              · show own_Q1 Z ch cs h0 n0 _ T83.heap _
                rw [eq81]
                exact ⟨own_leafT (by simp only [own_ss, decide_true, decide_false, not_true_eq_false, not_false_eq_true, and_true, true_and, and_false, false_and, and_self, or_true, true_or, or_false, false_or, or_self, if_true, if_false, Bool.not_true, Bool.not_false, Bool.and_true, Bool.true_and, Bool.and_false, Bool.false_and, *]), N0, K80⟩
          · skip
            have S87 : ∀ t, Steps p.tables e below (s₁.setTop (mkF m 50 #[.val (.int ch)] [(.int (1 : Int32))])) t → Steps p.tables e below (s₁.setTop (entryFrame m #[(.int ch)] 1)) t := fun t kt => by
              refine S74 t ?_
              show Steps p.tables e below (s₁.setTop (mkF m 33 #[.val (.int ch)] [(.int (57 : Int32)), (.int ch)])) t
              refine XS.icmpYes X0.here hx rfl (pc0 := 33) (pc' := 45) rfl (hb hby own_d1_33) rfl (flt hc33).2.2.2 (by decide) (by decide) ?_
              show Steps p.tables e below (s₁.setTop (mkF m 45 #[.val (.int ch)] [])) t
              refine XS.iconst X0.here hx rfl (hb hby own_d1_45) ?_
              show Steps p.tables e below (s₁.setTop (mkF m 46 #[.val (.int ch)] [(.int (1 : Int32))])) t
              refine XS.goto X0.here hx rfl (pc0 := 46) (pc' := 50) rfl (hb hby own_d1_46) (by decide) (by decide) ?_
              exact kt
            obtain ⟨fs, hr, hrun, hended, -, hW, hBk, hsame⟩ := X0.leaveW hS0 (by rw [e0]; exact (Nat.le_refl _)) (v := some (.int (nar .boolean (1 : Int32)))) (fun h => by rw [Bd.returns] at h; cases h)
            refine ⟨_, _, S87 _ ?_, hrun, hended, _, _, rfl, ?_, (by show CHr Z own_EL s.vm s.heap s₁.vm s₁.heap; rw [hh, e0]; exact CR0.trans (CHv.at X0 hZ hEL CR0.1)), ⟨_, rfl⟩, hW, hBk, hsame.mono (by decide) (by decide)⟩
            · show Steps p.tables e below (s₁.setTop (mkF m 50 #[.val (.int ch)] [(.int (1 : Int32))])) _
              exact retN X0 hx (t := .boolean) Bd.returns (by simp) (hb hby own_d1_50) hr
            · show own_Q1 Z ch cs h0 n0 _ s₁.heap _
              rw [e0]
              exact ⟨own_leafT (by simp only [own_ss, decide_true, decide_false, not_true_eq_false, not_false_eq_true, and_true, true_and, and_false, false_and, and_self, or_true, true_or, or_false, false_or, or_self, if_true, if_false, Bool.not_true, Bool.not_false, Bool.and_true, Bool.true_and, Bool.and_false, Bool.false_and, *]), N0, (Keep.refl h0 [])⟩
      · skip
        have S88 : ∀ t, Steps p.tables e below (s₁.setTop (mkF m 21 #[.val (.int ch)] [(.int (90 : Int32)), (.int ch)])) t → Steps p.tables e below (s₁.setTop (entryFrame m #[(.int ch)] 1)) t := fun t kt => by
          refine S60 t ?_
          show Steps p.tables e below (s₁.setTop (mkF m 15 #[.val (.int ch)] [(.int (65 : Int32)), (.int ch)])) t
          refine XS.icmpNo X0.here hx rfl (hb hby own_d1_15) rfl (flt hc15).1 ?_
          show Steps p.tables e below (s₁.setTop (mkF m 18 #[.val (.int ch)] [])) t
          refine XS.iloadN X0.here hx rfl (hb hby own_d1_18) rfl ?_
          show Steps p.tables e below (s₁.setTop (mkF m 19 #[.val (.int ch)] [(.int ch)])) t
          refine XS.bipush X0.here hx rfl (hb hby own_d1_19) ?_
          exact kt
        by_cases hc21 : (90 : Int32) < ch
        · skip
          have S89 : ∀ t, Steps p.tables e below (s₁.setTop (mkF m 27 #[.val (.int ch)] [(.int (48 : Int32)), (.int ch)])) t → Steps p.tables e below (s₁.setTop (entryFrame m #[(.int ch)] 1)) t := fun t kt => by
            refine S88 t ?_
            show Steps p.tables e below (s₁.setTop (mkF m 21 #[.val (.int ch)] [(.int (90 : Int32)), (.int ch)])) t
            refine XS.icmpNo X0.here hx rfl (hb hby own_d1_21) rfl (tlt hc21).2.2.2 ?_
            show Steps p.tables e below (s₁.setTop (mkF m 24 #[.val (.int ch)] [])) t
            refine XS.iloadN X0.here hx rfl (hb hby own_d1_24) rfl ?_
            show Steps p.tables e below (s₁.setTop (mkF m 25 #[.val (.int ch)] [(.int ch)])) t
            refine XS.bipush X0.here hx rfl (hb hby own_d1_25) ?_
            exact kt
          by_cases hc27 : ch < (48 : Int32)
          · skip
            have S90 : ∀ t, Steps p.tables e below (s₁.setTop (mkF m 36 #[.val (.int ch)] [])) t → Steps p.tables e below (s₁.setTop (entryFrame m #[(.int ch)] 1)) t := fun t kt => by
              refine S89 t ?_
              show Steps p.tables e below (s₁.setTop (mkF m 27 #[.val (.int ch)] [(.int (48 : Int32)), (.int ch)])) t
              refine XS.icmpYes X0.here hx rfl (pc0 := 27) (pc' := 36) rfl (hb hby own_d1_27) rfl (tlt hc27).1 (by decide) (by decide) ?_
              exact kt
            obtain ⟨lit91, T91, h91, k91, lby91, kb91, X91, e91, E91, hS91, hk91, hZ91, ho91, LE91, LC91, LV91, LA91, -, -, hC91, -, hNe91, st91⟩ := ldcCH (EL := own_EL) (z := (17 : Int32)) (vs := [(.int (126 : Int32)), (.int (33 : Int32)), (.int (64 : Int32)), (.int (36 : Int32)), (.int (37 : Int32)), (.int (94 : Int32)), (.int (38 : Int32)), (.int (42 : Int32)), (.int (95 : Int32)), (.int (45 : Int32)), (.int (43 : Int32)), (.int (61 : Int32)), (.int (60 : Int32)), (.int (62 : Int32)), (.int (46 : Int32)), (.int (63 : Int32)), (.int (47 : Int32))]) X0 hx hZ hown (hw _ (List.mem_of_getElem? (i := 4) rfl)) wS e0 hS0 (Nat.le_refl _) hEL (List.mem_of_getElem? (i := 0) rfl) CR0.1 ⟨by decide, by decide⟩ (by decide) (by decide) (g := (mkF m 36 #[.val (.int ch)] [])) rfl (hb hby own_d1_36) (n := 68) (by decide) (by decide) (by decide) (by decide)
            have S92 : ∀ t, Steps p.tables e below (T91.setTop (mkF m 38 #[.val (.int ch)] [(.ref lit91)])) t → Steps p.tables e below (s₁.setTop (entryFrame m #[(.int ch)] 1)) t := fun t kt => S90 t (st91 _ kt)
            have CR93 := CR0.trans hC91
            have F94 := S_CS.ext E91
            have K95 : Keep h0 h91 [] := (Keep.refl h0 []).ext E91
            have S97 : ∀ t, Steps p.tables e below (T91.setTop (mkF m 39 #[.val (.int ch)] [(.int ch), (.ref lit91)])) t → Steps p.tables e below (s₁.setTop (entryFrame m #[(.int ch)] 1)) t := fun t kt => by
              refine S92 t ?_
              show Steps p.tables e below (T91.setTop (mkF m 38 #[.val (.int ch)] [(.ref lit91)])) t
              refine XS.iloadN X91.here hx rfl (hb hby own_d1_38) rfl ?_
              exact kt
            obtain ⟨cq98, kq98, q98a, q98b, q98c⟩ := isOf hZ91 e91 LE91
            obtain ⟨_, _, ⟨T98, L98, k98, n98⟩, -, X98, ⟨Lc98, hQ98, l98, y98, z98⟩, st98⟩ := X91.virtualBack hx (y := (⟨"java/lang/String", "indexOf", "(I)I"⟩ : MethodName)) (z := (⟨"java/lang/String", "indexOf", "(I)I"⟩ : MethodName)) ho91 (mvT hZ91 (hw _ (List.mem_of_getElem? (i := 12) rfl))) (mvT hZ91 (hw _ (List.mem_of_getElem? (i := 13) rfl))) (notFace_of_selects (args := #[]) (mvT hZ91 (hw _ (List.mem_of_getElem? (i := 15) rfl)))) (mvT hZ91 (hw _ (List.mem_of_getElem? (i := 15) rfl))) (mvT hZ91 (hw _ (List.mem_of_getElem? (i := 14) rfl))) (by decide) (backOf (W := 0) (own_rm2 l Z a0 hw [] (lit91) (ch) (cs) (lby91) (kb91) h91 n0 (Nat.le_trans Z0 K95.1) LE91 F94 hcs LC91 LV91 LA91) hZ91 (hw _ (List.mem_of_getElem? (i := 16) rfl)) (hw _ (List.mem_of_getElem? (i := 5) rfl)) (by decide) (by decide)) q98a q98c (g := (mkF m 39 #[.val (.int ch)] [(.int ch), (.ref lit91)])) rfl (by rw [hml]; rfl) (Steps.refl _) (argsL := [(.int ch)]) (rest := []) (lenOf own_pd6 rfl) rfl (by show 2 * 0 + _ ≤ _; exact Nat.le_of_eq rfl) (hb hby own_d1_39) (fun _ _ => ⟨rfl, e91, (by decide : 2 + 0 ≤ _), (by decide : 72 + 0 ≤ _)⟩)
            dsimp only [Pt.U, Pt.locs, Pt.cells, Pt.slots] at X98 l98 y98 z98 st98 hQ98
            subst l98 y98 z98
            obtain ⟨rfl, rfl, eq96⟩ := hQ98
            try rw [List.append_nil] at X98
            have S99 : ∀ t, Steps p.tables e below (T98.setTop (mkF m 42 #[.val (.int ch)] [(.int (own_ix ch))])) t → Steps p.tables e below (s₁.setTop (entryFrame m #[(.int ch)] 1)) t := fun t kt => S97 t (st98.trans kt)
            by_cases hc42 : (own_ix ch) < (0 : Int32)
            · skip
              have S100 : ∀ t, Steps p.tables e below (T98.setTop (mkF m 50 #[.val (.int ch)] [(.int (0 : Int32))])) t → Steps p.tables e below (s₁.setTop (entryFrame m #[(.int ch)] 1)) t := fun t kt => by
                refine S99 t ?_
                show Steps p.tables e below (T98.setTop (mkF m 42 #[.val (.int ch)] [(.int (own_ix ch))])) t
                refine XS.ifYes X98.here hx rfl (pc0 := 42) (pc' := 49) rfl (hb hby own_d1_42) rfl ((if0 _ _).trans (tlt hc42).1) (by decide) (by decide) ?_
                show Steps p.tables e below (T98.setTop (mkF m 49 #[.val (.int ch)] [])) t
                refine XS.iconst X98.here hx rfl (hb hby own_d1_49) ?_
                exact kt
              obtain ⟨fs, hr, hrun, hended, -, hW, hBk, hsame⟩ := X98.leaveW hS91 (by rw [eq96]; exact hk91) (v := some (.int (nar .boolean (0 : Int32)))) (fun h => by rw [Bd.returns] at h; cases h)
              refine ⟨_, _, S100 _ ?_, hrun, hended, _, _, rfl, ?_, (by show CHr Z own_EL s.vm s.heap T98.vm T98.heap; rw [hh, eq96]; exact CR93.trans (CHv.at X98 hZ91 hEL CR93.1)), ⟨_, rfl⟩, hW, hBk, hsame.mono (by decide) (by decide)⟩
              · show Steps p.tables e below (T98.setTop (mkF m 50 #[.val (.int ch)] [(.int (0 : Int32))])) _
                exact retN X98 hx (t := .boolean) Bd.returns (by simp) (hb hby own_d1_50) hr
              · show own_Q1 Z ch cs h0 n0 _ T98.heap _
                rw [eq96]
                exact ⟨own_leafF (by simp only [own_ss, decide_true, decide_false, not_true_eq_false, not_false_eq_true, and_true, true_and, and_false, false_and, and_self, or_true, true_or, or_false, false_or, or_self, if_true, if_false, Bool.not_true, Bool.not_false, Bool.and_true, Bool.true_and, Bool.and_false, Bool.false_and, *]), N0, K95⟩
            · skip
              have S101 : ∀ t, Steps p.tables e below (T98.setTop (mkF m 50 #[.val (.int ch)] [(.int (1 : Int32))])) t → Steps p.tables e below (s₁.setTop (entryFrame m #[(.int ch)] 1)) t := fun t kt => by
                refine S99 t ?_
                show Steps p.tables e below (T98.setTop (mkF m 42 #[.val (.int ch)] [(.int (own_ix ch))])) t
                refine XS.ifNo X98.here hx rfl (hb hby own_d1_42) rfl ((if0 _ _).trans (flt hc42).1) ?_
                show Steps p.tables e below (T98.setTop (mkF m 45 #[.val (.int ch)] [])) t
                refine XS.iconst X98.here hx rfl (hb hby own_d1_45) ?_
                show Steps p.tables e below (T98.setTop (mkF m 46 #[.val (.int ch)] [(.int (1 : Int32))])) t
                refine XS.goto X98.here hx rfl (pc0 := 46) (pc' := 50) rfl (hb hby own_d1_46) (by decide) (by decide) ?_
                exact kt
              obtain ⟨fs, hr, hrun, hended, -, hW, hBk, hsame⟩ := X98.leaveW hS91 (by rw [eq96]; exact hk91) (v := some (.int (nar .boolean (1 : Int32)))) (fun h => by rw [Bd.returns] at h; cases h)
              refine ⟨_, _, S101 _ ?_, hrun, hended, _, _, rfl, ?_, (by show CHr Z own_EL s.vm s.heap T98.vm T98.heap; rw [hh, eq96]; exact CR93.trans (CHv.at X98 hZ91 hEL CR93.1)), ⟨_, rfl⟩, hW, hBk, hsame.mono (by decide) (by decide)⟩
              · show Steps p.tables e below (T98.setTop (mkF m 50 #[.val (.int ch)] [(.int (1 : Int32))])) _
                exact retN X98 hx (t := .boolean) Bd.returns (by simp) (hb hby own_d1_50) hr
              · show own_Q1 Z ch cs h0 n0 _ T98.heap _
                rw [eq96]
                exact ⟨own_leafT (by simp only [own_ss, decide_true, decide_false, not_true_eq_false, not_false_eq_true, and_true, true_and, and_false, false_and, and_self, or_true, true_or, or_false, false_or, or_self, if_true, if_false, Bool.not_true, Bool.not_false, Bool.and_true, Bool.true_and, Bool.and_false, Bool.false_and, *]), N0, K95⟩
          · skip
            have S102 : ∀ t, Steps p.tables e below (s₁.setTop (mkF m 33 #[.val (.int ch)] [(.int (57 : Int32)), (.int ch)])) t → Steps p.tables e below (s₁.setTop (entryFrame m #[(.int ch)] 1)) t := fun t kt => by
              refine S89 t ?_
              show Steps p.tables e below (s₁.setTop (mkF m 27 #[.val (.int ch)] [(.int (48 : Int32)), (.int ch)])) t
              refine XS.icmpNo X0.here hx rfl (hb hby own_d1_27) rfl (flt hc27).1 ?_
              show Steps p.tables e below (s₁.setTop (mkF m 30 #[.val (.int ch)] [])) t
              refine XS.iloadN X0.here hx rfl (hb hby own_d1_30) rfl ?_
              show Steps p.tables e below (s₁.setTop (mkF m 31 #[.val (.int ch)] [(.int ch)])) t
              refine XS.bipush X0.here hx rfl (hb hby own_d1_31) ?_
              exact kt
            by_cases hc33 : (57 : Int32) < ch
            · skip
              have S103 : ∀ t, Steps p.tables e below (s₁.setTop (mkF m 36 #[.val (.int ch)] [])) t → Steps p.tables e below (s₁.setTop (entryFrame m #[(.int ch)] 1)) t := fun t kt => by
                refine S102 t ?_
                show Steps p.tables e below (s₁.setTop (mkF m 33 #[.val (.int ch)] [(.int (57 : Int32)), (.int ch)])) t
                refine XS.icmpNo X0.here hx rfl (hb hby own_d1_33) rfl (tlt hc33).2.2.2 ?_
                exact kt
              obtain ⟨lit104, T104, h104, k104, lby104, kb104, X104, e104, E104, hS104, hk104, hZ104, ho104, LE104, LC104, LV104, LA104, -, -, hC104, -, hNe104, st104⟩ := ldcCH (EL := own_EL) (z := (17 : Int32)) (vs := [(.int (126 : Int32)), (.int (33 : Int32)), (.int (64 : Int32)), (.int (36 : Int32)), (.int (37 : Int32)), (.int (94 : Int32)), (.int (38 : Int32)), (.int (42 : Int32)), (.int (95 : Int32)), (.int (45 : Int32)), (.int (43 : Int32)), (.int (61 : Int32)), (.int (60 : Int32)), (.int (62 : Int32)), (.int (46 : Int32)), (.int (63 : Int32)), (.int (47 : Int32))]) X0 hx hZ hown (hw _ (List.mem_of_getElem? (i := 4) rfl)) wS e0 hS0 (Nat.le_refl _) hEL (List.mem_of_getElem? (i := 0) rfl) CR0.1 ⟨by decide, by decide⟩ (by decide) (by decide) (g := (mkF m 36 #[.val (.int ch)] [])) rfl (hb hby own_d1_36) (n := 68) (by decide) (by decide) (by decide) (by decide)
              have S105 : ∀ t, Steps p.tables e below (T104.setTop (mkF m 38 #[.val (.int ch)] [(.ref lit104)])) t → Steps p.tables e below (s₁.setTop (entryFrame m #[(.int ch)] 1)) t := fun t kt => S103 t (st104 _ kt)
              have CR106 := CR0.trans hC104
              have F107 := S_CS.ext E104
              have K108 : Keep h0 h104 [] := (Keep.refl h0 []).ext E104
              have S110 : ∀ t, Steps p.tables e below (T104.setTop (mkF m 39 #[.val (.int ch)] [(.int ch), (.ref lit104)])) t → Steps p.tables e below (s₁.setTop (entryFrame m #[(.int ch)] 1)) t := fun t kt => by
                refine S105 t ?_
                show Steps p.tables e below (T104.setTop (mkF m 38 #[.val (.int ch)] [(.ref lit104)])) t
                refine XS.iloadN X104.here hx rfl (hb hby own_d1_38) rfl ?_
                exact kt
              obtain ⟨cq111, kq111, q111a, q111b, q111c⟩ := isOf hZ104 e104 LE104
              obtain ⟨_, _, ⟨T111, L111, k111, n111⟩, -, X111, ⟨Lc111, hQ111, l111, y111, z111⟩, st111⟩ := X104.virtualBack hx (y := (⟨"java/lang/String", "indexOf", "(I)I"⟩ : MethodName)) (z := (⟨"java/lang/String", "indexOf", "(I)I"⟩ : MethodName)) ho104 (mvT hZ104 (hw _ (List.mem_of_getElem? (i := 12) rfl))) (mvT hZ104 (hw _ (List.mem_of_getElem? (i := 13) rfl))) (notFace_of_selects (args := #[]) (mvT hZ104 (hw _ (List.mem_of_getElem? (i := 15) rfl)))) (mvT hZ104 (hw _ (List.mem_of_getElem? (i := 15) rfl))) (mvT hZ104 (hw _ (List.mem_of_getElem? (i := 14) rfl))) (by decide) (backOf (W := 0) (own_rm2 l Z a0 hw [] (lit104) (ch) (cs) (lby104) (kb104) h104 n0 (Nat.le_trans Z0 K108.1) LE104 F107 hcs LC104 LV104 LA104) hZ104 (hw _ (List.mem_of_getElem? (i := 16) rfl)) (hw _ (List.mem_of_getElem? (i := 5) rfl)) (by decide) (by decide)) q111a q111c (g := (mkF m 39 #[.val (.int ch)] [(.int ch), (.ref lit104)])) rfl (by rw [hml]; rfl) (Steps.refl _) (argsL := [(.int ch)]) (rest := []) (lenOf own_pd6 rfl) rfl (by show 2 * 0 + _ ≤ _; exact Nat.le_of_eq rfl) (hb hby own_d1_39) (fun _ _ => ⟨rfl, e104, (by decide : 2 + 0 ≤ _), (by decide : 72 + 0 ≤ _)⟩)
              dsimp only [Pt.U, Pt.locs, Pt.cells, Pt.slots] at X111 l111 y111 z111 st111 hQ111
              subst l111 y111 z111
              obtain ⟨rfl, rfl, eq109⟩ := hQ111
              try rw [List.append_nil] at X111
              have S112 : ∀ t, Steps p.tables e below (T111.setTop (mkF m 42 #[.val (.int ch)] [(.int (own_ix ch))])) t → Steps p.tables e below (s₁.setTop (entryFrame m #[(.int ch)] 1)) t := fun t kt => S110 t (st111.trans kt)
              by_cases hc42 : (own_ix ch) < (0 : Int32)
              · skip
                have S113 : ∀ t, Steps p.tables e below (T111.setTop (mkF m 50 #[.val (.int ch)] [(.int (0 : Int32))])) t → Steps p.tables e below (s₁.setTop (entryFrame m #[(.int ch)] 1)) t := fun t kt => by
                  refine S112 t ?_
                  show Steps p.tables e below (T111.setTop (mkF m 42 #[.val (.int ch)] [(.int (own_ix ch))])) t
                  refine XS.ifYes X111.here hx rfl (pc0 := 42) (pc' := 49) rfl (hb hby own_d1_42) rfl ((if0 _ _).trans (tlt hc42).1) (by decide) (by decide) ?_
                  show Steps p.tables e below (T111.setTop (mkF m 49 #[.val (.int ch)] [])) t
                  refine XS.iconst X111.here hx rfl (hb hby own_d1_49) ?_
                  exact kt
                obtain ⟨fs, hr, hrun, hended, -, hW, hBk, hsame⟩ := X111.leaveW hS104 (by rw [eq109]; exact hk104) (v := some (.int (nar .boolean (0 : Int32)))) (fun h => by rw [Bd.returns] at h; cases h)
                refine ⟨_, _, S113 _ ?_, hrun, hended, _, _, rfl, ?_, (by show CHr Z own_EL s.vm s.heap T111.vm T111.heap; rw [hh, eq109]; exact CR106.trans (CHv.at X111 hZ104 hEL CR106.1)), ⟨_, rfl⟩, hW, hBk, hsame.mono (by decide) (by decide)⟩
                · show Steps p.tables e below (T111.setTop (mkF m 50 #[.val (.int ch)] [(.int (0 : Int32))])) _
                  exact retN X111 hx (t := .boolean) Bd.returns (by simp) (hb hby own_d1_50) hr
                · show own_Q1 Z ch cs h0 n0 _ T111.heap _
                  rw [eq109]
                  exact ⟨own_leafF (by simp only [own_ss, decide_true, decide_false, not_true_eq_false, not_false_eq_true, and_true, true_and, and_false, false_and, and_self, or_true, true_or, or_false, false_or, or_self, if_true, if_false, Bool.not_true, Bool.not_false, Bool.and_true, Bool.true_and, Bool.and_false, Bool.false_and, *]), N0, K108⟩
              · skip
                have S114 : ∀ t, Steps p.tables e below (T111.setTop (mkF m 50 #[.val (.int ch)] [(.int (1 : Int32))])) t → Steps p.tables e below (s₁.setTop (entryFrame m #[(.int ch)] 1)) t := fun t kt => by
                  refine S112 t ?_
                  show Steps p.tables e below (T111.setTop (mkF m 42 #[.val (.int ch)] [(.int (own_ix ch))])) t
                  refine XS.ifNo X111.here hx rfl (hb hby own_d1_42) rfl ((if0 _ _).trans (flt hc42).1) ?_
                  show Steps p.tables e below (T111.setTop (mkF m 45 #[.val (.int ch)] [])) t
                  refine XS.iconst X111.here hx rfl (hb hby own_d1_45) ?_
                  show Steps p.tables e below (T111.setTop (mkF m 46 #[.val (.int ch)] [(.int (1 : Int32))])) t
                  refine XS.goto X111.here hx rfl (pc0 := 46) (pc' := 50) rfl (hb hby own_d1_46) (by decide) (by decide) ?_
                  exact kt
                obtain ⟨fs, hr, hrun, hended, -, hW, hBk, hsame⟩ := X111.leaveW hS104 (by rw [eq109]; exact hk104) (v := some (.int (nar .boolean (1 : Int32)))) (fun h => by rw [Bd.returns] at h; cases h)
                refine ⟨_, _, S114 _ ?_, hrun, hended, _, _, rfl, ?_, (by show CHr Z own_EL s.vm s.heap T111.vm T111.heap; rw [hh, eq109]; exact CR106.trans (CHv.at X111 hZ104 hEL CR106.1)), ⟨_, rfl⟩, hW, hBk, hsame.mono (by decide) (by decide)⟩
                · show Steps p.tables e below (T111.setTop (mkF m 50 #[.val (.int ch)] [(.int (1 : Int32))])) _
                  exact retN X111 hx (t := .boolean) Bd.returns (by simp) (hb hby own_d1_50) hr
                · show own_Q1 Z ch cs h0 n0 _ T111.heap _
                  rw [eq109]
                  exact ⟨own_leafT (by simp only [own_ss, decide_true, decide_false, not_true_eq_false, not_false_eq_true, and_true, true_and, and_false, false_and, and_self, or_true, true_or, or_false, false_or, or_self, if_true, if_false, Bool.not_true, Bool.not_false, Bool.and_true, Bool.true_and, Bool.and_false, Bool.false_and, *]), N0, K108⟩
            · skip
              have S115 : ∀ t, Steps p.tables e below (s₁.setTop (mkF m 50 #[.val (.int ch)] [(.int (1 : Int32))])) t → Steps p.tables e below (s₁.setTop (entryFrame m #[(.int ch)] 1)) t := fun t kt => by
                refine S102 t ?_
                show Steps p.tables e below (s₁.setTop (mkF m 33 #[.val (.int ch)] [(.int (57 : Int32)), (.int ch)])) t
                refine XS.icmpYes X0.here hx rfl (pc0 := 33) (pc' := 45) rfl (hb hby own_d1_33) rfl (flt hc33).2.2.2 (by decide) (by decide) ?_
                show Steps p.tables e below (s₁.setTop (mkF m 45 #[.val (.int ch)] [])) t
                refine XS.iconst X0.here hx rfl (hb hby own_d1_45) ?_
                show Steps p.tables e below (s₁.setTop (mkF m 46 #[.val (.int ch)] [(.int (1 : Int32))])) t
                refine XS.goto X0.here hx rfl (pc0 := 46) (pc' := 50) rfl (hb hby own_d1_46) (by decide) (by decide) ?_
                exact kt
              obtain ⟨fs, hr, hrun, hended, -, hW, hBk, hsame⟩ := X0.leaveW hS0 (by rw [e0]; exact (Nat.le_refl _)) (v := some (.int (nar .boolean (1 : Int32)))) (fun h => by rw [Bd.returns] at h; cases h)
              refine ⟨_, _, S115 _ ?_, hrun, hended, _, _, rfl, ?_, (by show CHr Z own_EL s.vm s.heap s₁.vm s₁.heap; rw [hh, e0]; exact CR0.trans (CHv.at X0 hZ hEL CR0.1)), ⟨_, rfl⟩, hW, hBk, hsame.mono (by decide) (by decide)⟩
              · show Steps p.tables e below (s₁.setTop (mkF m 50 #[.val (.int ch)] [(.int (1 : Int32))])) _
                exact retN X0 hx (t := .boolean) Bd.returns (by simp) (hb hby own_d1_50) hr
              · show own_Q1 Z ch cs h0 n0 _ s₁.heap _
                rw [e0]
                exact ⟨own_leafT (by simp only [own_ss, decide_true, decide_false, not_true_eq_false, not_false_eq_true, and_true, true_and, and_false, false_and, and_self, or_true, true_or, or_false, false_or, or_self, if_true, if_false, Bool.not_true, Bool.not_false, Bool.and_true, Bool.true_and, Bool.and_false, Bool.false_and, *]), N0, (Keep.refl h0 [])⟩
        · skip
          have S116 : ∀ t, Steps p.tables e below (s₁.setTop (mkF m 50 #[.val (.int ch)] [(.int (1 : Int32))])) t → Steps p.tables e below (s₁.setTop (entryFrame m #[(.int ch)] 1)) t := fun t kt => by
            refine S88 t ?_
            show Steps p.tables e below (s₁.setTop (mkF m 21 #[.val (.int ch)] [(.int (90 : Int32)), (.int ch)])) t
            refine XS.icmpYes X0.here hx rfl (pc0 := 21) (pc' := 45) rfl (hb hby own_d1_21) rfl (flt hc21).2.2.2 (by decide) (by decide) ?_
            show Steps p.tables e below (s₁.setTop (mkF m 45 #[.val (.int ch)] [])) t
            refine XS.iconst X0.here hx rfl (hb hby own_d1_45) ?_
            show Steps p.tables e below (s₁.setTop (mkF m 46 #[.val (.int ch)] [(.int (1 : Int32))])) t
            refine XS.goto X0.here hx rfl (pc0 := 46) (pc' := 50) rfl (hb hby own_d1_46) (by decide) (by decide) ?_
            exact kt
          obtain ⟨fs, hr, hrun, hended, -, hW, hBk, hsame⟩ := X0.leaveW hS0 (by rw [e0]; exact (Nat.le_refl _)) (v := some (.int (nar .boolean (1 : Int32)))) (fun h => by rw [Bd.returns] at h; cases h)
          refine ⟨_, _, S116 _ ?_, hrun, hended, _, _, rfl, ?_, (by show CHr Z own_EL s.vm s.heap s₁.vm s₁.heap; rw [hh, e0]; exact CR0.trans (CHv.at X0 hZ hEL CR0.1)), ⟨_, rfl⟩, hW, hBk, hsame.mono (by decide) (by decide)⟩
          · show Steps p.tables e below (s₁.setTop (mkF m 50 #[.val (.int ch)] [(.int (1 : Int32))])) _
            exact retN X0 hx (t := .boolean) Bd.returns (by simp) (hb hby own_d1_50) hr
          · show own_Q1 Z ch cs h0 n0 _ s₁.heap _
            rw [e0]
            exact ⟨own_leafT (by simp only [own_ss, decide_true, decide_false, not_true_eq_false, not_false_eq_true, and_true, true_and, and_false, false_and, and_self, or_true, true_or, or_false, false_or, or_self, if_true, if_false, Bool.not_true, Bool.not_false, Bool.and_true, Bool.true_and, Bool.and_false, Bool.false_and, *]), N0, (Keep.refl h0 [])⟩
    · skip
      have S117 : ∀ t, Steps p.tables e below (s₁.setTop (mkF m 50 #[.val (.int ch)] [(.int (1 : Int32))])) t → Steps p.tables e below (s₁.setTop (entryFrame m #[(.int ch)] 1)) t := fun t kt => by
        refine S59 t ?_
        show Steps p.tables e below (s₁.setTop (mkF m 9 #[.val (.int ch)] [(.int (122 : Int32)), (.int ch)])) t
        refine XS.icmpYes X0.here hx rfl (pc0 := 9) (pc' := 45) rfl (hb hby own_d1_9) rfl (flt hc9).2.2.2 (by decide) (by decide) ?_
        show Steps p.tables e below (s₁.setTop (mkF m 45 #[.val (.int ch)] [])) t
        refine XS.iconst X0.here hx rfl (hb hby own_d1_45) ?_
        show Steps p.tables e below (s₁.setTop (mkF m 46 #[.val (.int ch)] [(.int (1 : Int32))])) t
        refine XS.goto X0.here hx rfl (pc0 := 46) (pc' := 50) rfl (hb hby own_d1_46) (by decide) (by decide) ?_
        exact kt
      obtain ⟨fs, hr, hrun, hended, -, hW, hBk, hsame⟩ := X0.leaveW hS0 (by rw [e0]; exact (Nat.le_refl _)) (v := some (.int (nar .boolean (1 : Int32)))) (fun h => by rw [Bd.returns] at h; cases h)
      refine ⟨_, _, S117 _ ?_, hrun, hended, _, _, rfl, ?_, (by show CHr Z own_EL s.vm s.heap s₁.vm s₁.heap; rw [hh, e0]; exact CR0.trans (CHv.at X0 hZ hEL CR0.1)), ⟨_, rfl⟩, hW, hBk, hsame.mono (by decide) (by decide)⟩
      · show Steps p.tables e below (s₁.setTop (mkF m 50 #[.val (.int ch)] [(.int (1 : Int32))])) _
        exact retN X0 hx (t := .boolean) Bd.returns (by simp) (hb hby own_d1_50) hr
      · show own_Q1 Z ch cs h0 n0 _ s₁.heap _
        rw [e0]
        exact ⟨own_leafT (by simp only [own_ss, decide_true, decide_false, not_true_eq_false, not_false_eq_true, and_true, true_and, and_false, false_and, and_self, or_true, true_or, or_false, false_or, or_self, if_true, if_false, Bool.not_true, Bool.not_false, Bool.and_true, Bool.true_and, Bool.and_false, Bool.false_and, *]), N0, (Keep.refl h0 [])⟩
theorem own_pd7 : parseMethodDescriptor "(C)Z" = some ⟨[.char], some .boolean⟩ := by decide +kernel
theorem own_ef0 (m : MethodId) (x0 : Int32) : entryFrame m #[(.int x0)] maxLocals = mkF m 0 #[.val (.int x0), .unset, .unset] [] := by first | (simp [entryFrame, mkF, argsToLocals, Value.category, maxLocals]; done) | rfl
def own_Q0 (Z : State) (xx : Int32) (cs : Int32) (h0 : Heap) (n0 : Nat) (v : Option Value) (h : Heap) (L : List Loc) : Prop := v = some (.int (1 : Int32)) ∧ Fr n0 L
set_option maxHeartbeats 40000000 in
theorem own_rm0 (l : Launch) (Z : State) (a0 : Array Value) (hw : ∀ d ∈ tables_1, d.before a0 Z = true) (ws : List Jvm.Cond) (xx : Int32) (cs : Int32) (h0 : Heap) (n0 : Nat) (Z0 : n0 ≤ h0.size) (S_CS : Sta Z h0 "java/lang/String" "COMPACT_STRINGS" "Z" (.int cs)) (hcs : ¬ cs = (0 : Int32)) :
    MetFree l x (head1 (Jvm.Cond.code x code maxLocals ret :: ws) room_1) (fun argv U => argv = #[(.int xx)] ∧ Z.Warmed39 U.vm ∧ U.heap = h0 ∧ CHv Z own_EL U.vm h0) (fun _ _ _ _ _ => True) (fun _ U o U' => ∃ v L, o = .returned v ∧ own_Q0 Z xx cs h0 n0 v U'.heap L ∧ CHr Z own_EL U.vm U.heap U'.vm U'.heap ∧ ReturnedEndW U o U' L room_1.cells room_1.slots) := by
  refine MetFree.of_bodySF (plainFor_of_name own_pn2) hisR ?_
  intro p e s m args below meth c s₁ Bd hml0 hP hK
  obtain ⟨rfl, hZ, hh, hC0⟩ := hP
  have hx := Bd.exec
  have hby := Bd.bytes
  have hml : c.maxLocals = 3 := hml0
  have hown : s.vm.findClass "com/example/invariant_to_halt/invarianttohalt/program/SmtLibSyntaxIsSimpleSymbolCharacterPinLaw" = some m.cls := findClass_of_methodNamed Bd.named
  have hnm := (name_of_methodNamed Bd.named Bd.method).1
  have X0 : Stand p l e room_1 (s.setVm s.vm) m #[(.int xx)] below meth c s₁ [] 0 0 := Stand.of_body Bd
  have e0 : s₁.heap = h0 := by rw [← hh, Bd.state]; rfl
  have N0 := Fr.nil n0
  have pre0 : ∀ t, Steps p.tables e below (s₁.setTop (mkF m 0 #[.val (.int xx), .unset, .unset] [])) t → Steps p.tables e below (s₁.setTop (entryFrame m #[(.int xx)] maxLocals)) t := fun t k => castTop (own_ef0 m xx) k
  have CR0 : CHr Z own_EL s.vm h0 s.vm h0 := CHr.refl hC0
  have hEL := own_EW hw
  have hS0 : s.Since s.vm h0.size := (State.WarmedH.refl s).since _
  have wS := own_wS hw
  obtain ⟨T1, ch, X1, e1, hr0, S1⟩ : ∃ (T' : State) (ch : Int32), own_like X0 T' ∧ T'.heap = h0 ∧ (0 ≤ ch.toInt) ∧ (∀ t, Steps p.tables e below (T'.setTop (mkF m 3 #[.val (.int xx), .val (.int ch), .unset] [])) t → Steps p.tables e below (s₁.setTop (entryFrame m #[(.int xx)] maxLocals)) t) := by
    have S2 : ∀ t, Steps p.tables e below (s₁.setTop (mkF m 3 #[.val (.int xx), .val (.int (xx.toUInt32.toUInt16.toUInt32.toInt32)), .unset] [])) t → Steps p.tables e below (s₁.setTop (entryFrame m #[(.int xx)] maxLocals)) t := fun t kt => by
      refine pre0 t ?_
      show Steps p.tables e below (s₁.setTop (mkF m 0 #[.val (.int xx), .unset, .unset] [])) t
      refine XS.iloadN X0.here hx rfl (hb hby at_0) rfl ?_
      show Steps p.tables e below (s₁.setTop (mkF m 1 #[.val (.int xx), .unset, .unset] [(.int xx)])) t
      refine XS.i2c X0.here hx rfl (hb hby at_1) rfl ?_
      show Steps p.tables e below (s₁.setTop (mkF m 2 #[.val (.int xx), .unset, .unset] [(.int (xx.toUInt32.toUInt16.toUInt32.toInt32))])) t
      refine XS.istoreN X0.here hx rfl (hb hby at_2) rfl (l' := #[.val (.int xx), .val (.int (xx.toUInt32.toUInt16.toUInt32.toInt32)), .unset]) rfl ?_
      exact kt
    exact ⟨s₁, ((xx.toUInt32.toUInt16.toUInt32.toInt32)), X0, e0, (own_char xx), S2⟩
  obtain ⟨T3, b0, X3, e3, hr3, S3⟩ : ∃ (T' : State) (b0 : Int32), own_like X1 T' ∧ T'.heap = h0 ∧ (b0 = own_b (own_want ch)) ∧ (∀ t, Steps p.tables e below (T'.setTop (mkF m 27 #[.val (.int xx), .val (.int ch), .unset] [(.int b0)])) t → Steps p.tables e below (s₁.setTop (entryFrame m #[(.int xx)] maxLocals)) t) := by
    have S4 : ∀ t, Steps p.tables e below (T1.setTop (mkF m 6 #[.val (.int xx), .val (.int ch), .unset] [(.int (33 : Int32)), (.int ch)])) t → Steps p.tables e below (s₁.setTop (entryFrame m #[(.int xx)] maxLocals)) t := fun t kt => by
      refine S1 t ?_
      show Steps p.tables e below (T1.setTop (mkF m 3 #[.val (.int xx), .val (.int ch), .unset] [])) t
      refine XS.iloadN X1.here hx rfl (hb hby at_3) rfl ?_
      show Steps p.tables e below (T1.setTop (mkF m 4 #[.val (.int xx), .val (.int ch), .unset] [(.int ch)])) t
      refine XS.bipush X1.here hx rfl (hb hby at_4) ?_
      exact kt
    by_cases hc6 : ch < (33 : Int32)
    · skip
      have S5 : ∀ t, Steps p.tables e below (T1.setTop (mkF m 27 #[.val (.int xx), .val (.int ch), .unset] [(.int (0 : Int32))])) t → Steps p.tables e below (s₁.setTop (entryFrame m #[(.int xx)] maxLocals)) t := fun t kt => by
        refine S4 t ?_
        show Steps p.tables e below (T1.setTop (mkF m 6 #[.val (.int xx), .val (.int ch), .unset] [(.int (33 : Int32)), (.int ch)])) t
        refine XS.icmpYes X1.here hx rfl (pc0 := 6) (pc' := 26) rfl (hb hby at_6) rfl (tlt hc6).1 (by decide) (by decide) ?_
        show Steps p.tables e below (T1.setTop (mkF m 26 #[.val (.int xx), .val (.int ch), .unset] [])) t
        refine XS.iconst X1.here hx rfl (hb hby at_26) ?_
        exact kt
      exact ⟨T1, ((0 : Int32)), X1, e1, (own_bf (by simp_all [own_want, own_b0])), S5⟩
    · skip
      have S6 : ∀ t, Steps p.tables e below (T1.setTop (mkF m 12 #[.val (.int xx), .val (.int ch), .unset] [(.int (126 : Int32)), (.int ch)])) t → Steps p.tables e below (s₁.setTop (entryFrame m #[(.int xx)] maxLocals)) t := fun t kt => by
        refine S4 t ?_
        show Steps p.tables e below (T1.setTop (mkF m 6 #[.val (.int xx), .val (.int ch), .unset] [(.int (33 : Int32)), (.int ch)])) t
        refine XS.icmpNo X1.here hx rfl (hb hby at_6) rfl (flt hc6).1 ?_
        show Steps p.tables e below (T1.setTop (mkF m 9 #[.val (.int xx), .val (.int ch), .unset] [])) t
        refine XS.iloadN X1.here hx rfl (hb hby at_9) rfl ?_
        show Steps p.tables e below (T1.setTop (mkF m 10 #[.val (.int xx), .val (.int ch), .unset] [(.int ch)])) t
        refine XS.bipush X1.here hx rfl (hb hby at_10) ?_
        exact kt
      by_cases hc12 : (126 : Int32) < ch
      · skip
        have S7 : ∀ t, Steps p.tables e below (T1.setTop (mkF m 27 #[.val (.int xx), .val (.int ch), .unset] [(.int (0 : Int32))])) t → Steps p.tables e below (s₁.setTop (entryFrame m #[(.int xx)] maxLocals)) t := fun t kt => by
          refine S6 t ?_
          show Steps p.tables e below (T1.setTop (mkF m 12 #[.val (.int xx), .val (.int ch), .unset] [(.int (126 : Int32)), (.int ch)])) t
          refine XS.icmpYes X1.here hx rfl (pc0 := 12) (pc' := 26) rfl (hb hby at_12) rfl (tlt hc12).2.2.1 (by decide) (by decide) ?_
          show Steps p.tables e below (T1.setTop (mkF m 26 #[.val (.int xx), .val (.int ch), .unset] [])) t
          refine XS.iconst X1.here hx rfl (hb hby at_26) ?_
          exact kt
        exact ⟨T1, ((0 : Int32)), X1, e1, (own_bf (by simp_all [own_want, own_b0])), S7⟩
      · skip
        have S9 : ∀ t, Steps p.tables e below (T1.setTop (mkF m 16 #[.val (.int xx), .val (.int ch), .unset] [(.int ch)])) t → Steps p.tables e below (s₁.setTop (entryFrame m #[(.int xx)] maxLocals)) t := fun t kt => by
          refine S6 t ?_
          show Steps p.tables e below (T1.setTop (mkF m 12 #[.val (.int xx), .val (.int ch), .unset] [(.int (126 : Int32)), (.int ch)])) t
          refine XS.icmpNo X1.here hx rfl (hb hby at_12) rfl (flt hc12).2.2.1 ?_
          show Steps p.tables e below (T1.setTop (mkF m 15 #[.val (.int xx), .val (.int ch), .unset] [])) t
          refine XS.iloadN X1.here hx rfl (hb hby at_15) rfl ?_
          exact kt
        obtain ⟨_, _, ⟨T10, L10, k10, n10⟩, -, X10, ⟨Lc10, hQ10, l10, y10, z10⟩, st10⟩ := Jvm.LawKit.callS X1 hx (y := (⟨"com/example/invariant_to_halt/invarianttohalt/program/SmtLibSyntaxIsSimpleSymbolCharacterPinLaw", "excluded", "(C)Z"⟩ : MethodName)) hown (mvT hZ (hw _ (List.mem_of_getElem? (i := 57) rfl))) (mvT hZ (hw _ (List.mem_of_getElem? (i := 58) rfl))) (mvT hZ (hw _ (List.mem_of_getElem? (i := 59) rfl))) (mvT hZ (hw _ (List.mem_of_getElem? (i := 60) rfl))) (by decide) (backOf (W := 0) (own_rm12 l Z a0 hw [] (ch) h0 n0 Z0) hZ (hw _ (List.mem_of_getElem? (i := 60) rfl)) (hw _ (List.mem_of_getElem? (i := 59) rfl)) (by decide) (by decide)) (g := (mkF m 16 #[.val (.int xx), .val (.int ch), .unset] [(.int ch)])) rfl (by rw [hml]; rfl) (argsL := [(.int ch)]) (rest := []) (lenOf own_pd7 rfl) rfl (by show 2 * 0 + _ ≤ _; exact Nat.le_of_eq rfl) (hb hby at_16) (fun _ _ => ⟨rfl, e1, (by decide : 0 + 0 ≤ _), (by decide : 0 + 0 ≤ _)⟩)
        dsimp only [Pt.U, Pt.locs, Pt.cells, Pt.slots] at X10 l10 y10 z10 st10 hQ10
        subst l10 y10 z10
        obtain ⟨rfl, rfl, eq8⟩ := hQ10
        try rw [List.append_nil] at X10
        have S11 : ∀ t, Steps p.tables e below (T10.setTop (mkF m 19 #[.val (.int xx), .val (.int ch), .unset] [(.int (own_b (own_exc ch)))])) t → Steps p.tables e below (s₁.setTop (entryFrame m #[(.int xx)] maxLocals)) t := fun t kt => S9 t (st10 _ kt)
        by_cases hc19 : (own_b (own_exc ch)) = (0 : Int32)
        · skip
          have S12 : ∀ t, Steps p.tables e below (T10.setTop (mkF m 27 #[.val (.int xx), .val (.int ch), .unset] [(.int (1 : Int32))])) t → Steps p.tables e below (s₁.setTop (entryFrame m #[(.int xx)] maxLocals)) t := fun t kt => by
            refine S11 t ?_
            show Steps p.tables e below (T10.setTop (mkF m 19 #[.val (.int xx), .val (.int ch), .unset] [(.int (own_b (own_exc ch)))])) t
            refine XS.ifNo X10.here hx rfl (hb hby at_19) rfl ((if0 _ _).trans (teq hc19).2) ?_
            show Steps p.tables e below (T10.setTop (mkF m 22 #[.val (.int xx), .val (.int ch), .unset] [])) t
            refine XS.iconst X10.here hx rfl (hb hby at_22) ?_
            show Steps p.tables e below (T10.setTop (mkF m 23 #[.val (.int xx), .val (.int ch), .unset] [(.int (1 : Int32))])) t
            refine XS.goto X10.here hx rfl (pc0 := 23) (pc' := 27) rfl (hb hby at_23) (by decide) (by decide) ?_
            exact kt
          exact ⟨T10, ((1 : Int32)), X10, eq8, (own_bt (by simp_all [own_want, own_b0])), S12⟩
        · skip
          have S13 : ∀ t, Steps p.tables e below (T10.setTop (mkF m 27 #[.val (.int xx), .val (.int ch), .unset] [(.int (0 : Int32))])) t → Steps p.tables e below (s₁.setTop (entryFrame m #[(.int xx)] maxLocals)) t := fun t kt => by
            refine S11 t ?_
            show Steps p.tables e below (T10.setTop (mkF m 19 #[.val (.int xx), .val (.int ch), .unset] [(.int (own_b (own_exc ch)))])) t
            refine XS.ifYes X10.here hx rfl (pc0 := 19) (pc' := 26) rfl (hb hby at_19) rfl ((if0 _ _).trans (feq hc19).2) (by decide) (by decide) ?_
            show Steps p.tables e below (T10.setTop (mkF m 26 #[.val (.int xx), .val (.int ch), .unset] [])) t
            refine XS.iconst X10.here hx rfl (hb hby at_26) ?_
            exact kt
          exact ⟨T10, ((0 : Int32)), X10, eq8, (own_bf (by simp_all [own_want, own_b0])), S13⟩
  have S16 : ∀ t, Steps p.tables e below (T3.setTop (mkF m 29 #[.val (.int xx), .val (.int ch), .val (.int b0)] [(.int ch)])) t → Steps p.tables e below (s₁.setTop (entryFrame m #[(.int xx)] maxLocals)) t := fun t kt => by
    refine S3 t ?_
    show Steps p.tables e below (T3.setTop (mkF m 27 #[.val (.int xx), .val (.int ch), .unset] [(.int b0)])) t
    refine XS.istoreN X3.here hx rfl (hb hby at_27) rfl (l' := #[.val (.int xx), .val (.int ch), .val (.int b0)]) rfl ?_
    show Steps p.tables e below (T3.setTop (mkF m 28 #[.val (.int xx), .val (.int ch), .val (.int b0)] [])) t
    refine XS.iloadN X3.here hx rfl (hb hby at_28) rfl ?_
    exact kt
  obtain ⟨_, _, ⟨T17, L17, k17, n17⟩, -, X17_, hSr17, hgr17, ⟨Lc17, hQ17, l17, y17, z17, hCr17⟩, st17⟩ := callSS X3 hx (y := (⟨"com/example/invariant_to_halt/invarianttohalt/program/SmtLibSyntax", "isSimpleSymbolCharacter", "(C)Z"⟩ : MethodName)) hown (mvT hZ (hw _ (List.mem_of_getElem? (i := 0) rfl))) (mvT hZ (hw _ (List.mem_of_getElem? (i := 1) rfl))) (mvT hZ (hw _ (List.mem_of_getElem? (i := 2) rfl))) (mvT hZ (hw _ (List.mem_of_getElem? (i := 3) rfl))) (by decide) (backOfSH (EL := own_EL) (s := s) (vm0 := s.vm) (W := 0) (own_rm1 l Z a0 hw [] (ch) (cs) h0 n0 Z0 S_CS hcs) hZ (hw _ (List.mem_of_getElem? (i := 3) rfl)) (hw _ (List.mem_of_getElem? (i := 2) rfl)) (by decide) (by decide) hEL CR0.1) (g := (mkF m 29 #[.val (.int xx), .val (.int ch), .val (.int b0)] [(.int ch)])) rfl (by rw [hml]; rfl) (argsL := [(.int ch)]) (rest := []) (lenOf own_pd7 rfl) rfl (by show 2 * 0 + _ ≤ _; exact Nat.le_of_eq rfl) (hb hby at_29) (fun _ _ => ⟨rfl, e3, (by decide : 0 + 2 ≤ _), (by decide : 0 + 72 ≤ _)⟩)
  dsimp only [Pt.U, Pt.locs, Pt.cells, Pt.slots] at X17_ hSr17 hgr17 l17 y17 z17 hCr17 st17 hQ17
  subst l17 y17 z17
  obtain ⟨X17, hS17, hZ17, ho17⟩ := rebS hS0 (by rw [e3]; exact (Nat.le_refl _)) X17_ hSr17 hgr17 hZ hown
  obtain ⟨rfl, Nq17, Kc14⟩ := hQ17
  have N18 := Fr.app N0 Nq17
  have S19 : ∀ t, Steps p.tables e below (T17.setTop (mkF m 32 #[.val (.int xx), .val (.int ch), .val (.int b0)] [(.int (own_b (own_ss ch)))])) t → Steps p.tables e below (s₁.setTop (entryFrame m #[(.int xx)] maxLocals)) t := fun t kt => S16 t (st17.trans kt)
  have CR20 := CR0.trans hCr17
  have F21 := own_StaK S_CS Kc14 all0
  have K22 : Keep h0 T17.heap [] := (Keep.refl h0 []).trans Kc14 all0
  have S23 : ∀ t, Steps p.tables e below (T17.setTop (mkF m 33 #[.val (.int xx), .val (.int ch), .val (.int b0)] [(.int b0), (.int (own_b (own_ss ch)))])) t → Steps p.tables e below (s₁.setTop (entryFrame m #[(.int xx)] maxLocals)) t := fun t kt => by
    refine S19 t ?_
    show Steps p.tables e below (T17.setTop (mkF m 32 #[.val (.int xx), .val (.int ch), .val (.int b0)] [(.int (own_b (own_ss ch)))])) t
    refine XS.iloadN X17.here hx rfl (hb hby at_32) rfl ?_
    exact kt
  have hc33_24 : (own_b (own_ss ch)) = b0 := by rw [hr3, own_plain ch hr0]
  have S25 : ∀ t, Steps p.tables e below (T17.setTop (mkF m 41 #[.val (.int xx), .val (.int ch), .val (.int b0)] [(.int (1 : Int32))])) t → Steps p.tables e below (s₁.setTop (entryFrame m #[(.int xx)] maxLocals)) t := fun t kt => by
    refine S23 t ?_
    show Steps p.tables e below (T17.setTop (mkF m 33 #[.val (.int xx), .val (.int ch), .val (.int b0)] [(.int b0), (.int (own_b (own_ss ch)))])) t
    refine XS.icmpNo X17.here hx rfl (hb hby at_33) rfl (teq hc33_24).2 ?_
    show Steps p.tables e below (T17.setTop (mkF m 36 #[.val (.int xx), .val (.int ch), .val (.int b0)] [])) t
    refine XS.iconst X17.here hx rfl (hb hby at_36) ?_
    show Steps p.tables e below (T17.setTop (mkF m 37 #[.val (.int xx), .val (.int ch), .val (.int b0)] [(.int (1 : Int32))])) t
    refine XS.goto X17.here hx rfl (pc0 := 37) (pc' := 41) rfl (hb hby at_37) (by decide) (by decide) ?_
    exact kt
  obtain ⟨fs, hr, hrun, hended, -, hW, hBk, hsame⟩ := X17.leaveW hS17 ((Nat.le_refl _)) (v := some (.int (nar .boolean (1 : Int32)))) (fun h => by rw [Bd.returns] at h; cases h)
  refine ⟨_, _, S25 _ ?_, hrun, hended, _, _, rfl, ?_, (by show CHr Z own_EL s.vm s.heap T17.vm T17.heap; rw [hh]; exact CR20.trans (CHv.at X17 hZ17 hEL CR20.1)), ⟨_, rfl⟩, hW, hBk, hsame.mono (by decide) (by decide)⟩
  · show Steps p.tables e below (T17.setTop (mkF m 41 #[.val (.int xx), .val (.int ch), .val (.int b0)] [(.int (1 : Int32))])) _
    exact retN X17 hx (t := .boolean) Bd.returns (by simp) (hb hby at_41) hr
  · show own_Q0 Z xx cs h0 n0 _ T17.heap _
    exact ⟨rfl, N18⟩
set_option maxHeartbeats 40000000 in
theorem own_comes {Post : Tables → Env → Array Value → State → Outcome → State → Prop} (hpost : ∀ tb e args s v u, (limb_1_1.after args s (.returned v) u = true ∧ limb_1_2.after args s (.returned v) u = true ∧ True) → FramedW s (.returned v) u (Jvm.fieldLocs frame_1_writes args s ++ Jvm.arrayLocs frame_1_arrays args s ++ Jvm.staticLocs frame_1_statics s) 8 1088 → Post tb e args s (.returned v) u) :
    ArmFor flags0 classFile x code maxLocals ret World_1 tables_1 room_1 Calls_1 rest_1 Pre_1 Post := by
  intro l hfl _ _ p e ha hc hk s m args below hf hA hF happ hP
  obtain ⟨hcalls, hrest, hpre⟩ := hP
  obtain ⟨-, -, -, hnamed, -, -, -, hat⟩ := (Spec.applies_iff hf).mp happ
  obtain ⟨hg, hn⟩ := and_e (Cond.before_iff.mp (show (Jvm.Cond.and given_1 narrow_1).before args s = true from hpre))
  obtain ⟨g1, g2⟩ := and_e hg
  obtain ⟨w0, rfl⟩ : ∃ w0 : Value, args = #[w0] := by
    have hs : args.size = 1 := by simpa [Cond.value, given_1] using g1
    obtain ⟨L⟩ := args
    match L, hs with
    | [w0], _ => exact ⟨w0, rfl⟩
  have hw := fun d (hd : d ∈ tables_1) => atoms_spec (ws := Jvm.Cond.code x code maxLocals ret :: tables_1) hat d (List.mem_cons_of_mem _ hd)
  have hfit : Fit s := fun {y c} hc i hi => by
    obtain ⟨ha, rfl⟩ := Array.getElem?_eq_some_iff.mp hc
    have q := List.all_eq_true.mp ((Array.all_eq_true_iff_forall_mem.mp hF) _ (Array.getElem_mem ha)) i (List.mem_range.mpr hi)
    simpa [Array.getElem?_eq_getElem hi] using q
  obtain ⟨hsets, hown0⟩ := atoms_of _ (rest_1_c_eq ▸ (show rest_1_c.before _ s = true from hrest))
  have hr0 := Cond.before_iff.mp hown0
  obtain ⟨i0, ei0⟩ := is_v g2
  obtain rfl : w0 = (.int i0) := Option.some.inj ei0
  obtain ⟨icS, eS⟩ := is_v (Cond.before_iff.mp (hsets _ (List.mem_of_getElem? (i := 1) rfl)))
  have S_CSs : Sta s s.heap "java/lang/String" "COMPACT_STRINGS" "Z" (.int icS) := Sta.start eS (Or.inl (hsets _ (List.mem_of_getElem? (i := 0) rfl)))
  have hcs0 : ¬ icS = (0 : Int32) := gotF (Cond.eq_ints eS rfl) (not_v (Cond.before_iff.mp (hsets _ (List.mem_of_getElem? (i := 2) rfl))))
  have hCH : CHv s own_EL s.vm s.heap := CHv.start (own_EW hw) (fun q hq => hcalls.1 q hq) (by first | exact (hsets _ (List.mem_of_getElem? (i := 2) rfl)) | exact Cond.before_iff.mpr (Cond.before_iff.mp (hsets _ (List.mem_of_getElem? (i := 2) rfl)))) (hw _ (List.mem_of_getElem? (i := 7) rfl)) (hw _ (List.mem_of_getElem? (i := 6) rfl))
  obtain ⟨n, o, h1, h2, h3, _, L, rfl, ⟨rfl, N⟩, -, hq⟩ := own_rm0 l s _ hw tables_1 i0 icS s.heap s.heap.size (Nat.le_refl _) S_CSs hcs0 p e ha hc hk s m _ below hf ((Spec.applies_iff_loose hf).mp happ).1 ⟨rfl, State.Warmed39.refl s, rfl, hCH⟩ trivial
  refine ⟨n, _, h1, h2, h3, hpost _ _ _ _ _ _ ⟨Cond.after_iff.mpr rfl, Cond.after_iff.mpr (eq_i res_at (Term.int_eval (1)) rfl), trivial⟩ ⟨hq.1, hq.2.1, hq.2.2.1, (hq.2.2.2.sift fun y hy => Or.inr (N y hy)).mono (by decide) (by decide)⟩⟩
theorem main_1_1 : Claimed_1_1 := own_comes fun _ _ _ _ _ _ h hF => ⟨h.1, hF⟩
theorem main_1_2 : Claimed_1_2 := own_comes fun _ _ _ _ _ _ h hF => ⟨h.2.1, hF⟩
end Jvm.Pilot.@@N@@
namespace Jvm.Pilot.@@N@@
open Jvm Jvm.ClassFile Sem Op Lib Jvm.Free Jvm.Stand Jvm.Pilot.@@N@@.Jvm.D
/-! MADE BY PROGRAM (witnessworld.py) out of the Statement's table words and the real class files: 18 classes; the members and pool entries that the words name. The judged class is class 1, her method 1. -/
namespace start1
open Jvm.ClassFile
def u (s : String) : CpInfo := .utf8 (stringToUtf16 s)
/-- a pool by its gaps: so many unusable entries, then the entry; so many at the end -/
def gap : Nat → List CpInfo → List CpInfo
  | 0, r => r
  | n + 1, r => .unusable :: gap n r
def poolList (es : List (Nat × CpInfo)) (last : Nat) : List CpInfo := es.foldr (fun e r => gap e.1 (e.2 :: r)) (gap last [])
def pool (es : List (Nat × CpInfo)) (last : Nat) : Array CpInfo := ⟨poolList es last⟩
def fileOf (pool : Array CpInfo) (this : Nat) (attrs : Array Attribute := #[]) (ms : Array MethodInfo := #[]) (fl : Nat := 33) (sup : Nat := 0) (ifs : Array Nat := #[]) (fds : Array FieldInfo := #[]) : ClassFile where
  minorVersion := 0
  majorVersion := 65
  constantPool := pool
  accessFlags := fl
  thisClass := this
  superClass := sup
  interfaces := ifs
  fields := fds
  methods := ms
  attributes := attrs
def plain (name : String) (sup : Option ClassId) : Class where
  name := name
  kind := .ordinary
  loader := none
  accessFlags := 33
  super := sup
  interfaces := #[]
  cf := none
  fields := #[]
  methods := #[]
  instanceTypes := #[]
  staticTypes := #[]
  resolved := #[]
  callSites := []
  init := .initialized
  statics := none
  mirror := none

def pool0 : Array CpInfo := pool [(5, u "<init>"), (0, u "()V"), (1, .class_ 10), (1, u "java/lang/Object")] 113

def k0m0 : Method := { name := "<init>", desc := "()V", sig := { parameters := [], returnType := none }, accessFlags := 1, code := none }
/-- java/lang/Object -/
def k0 : Class := { plain "java/lang/Object" none with
  accessFlags := 33
  interfaces := #[]
  cf := some (fileOf pool0 8 #[] #[{ accessFlags := 1, nameIndex := 5, descriptorIndex := 6, attributes := #[] }] 33 0 #[] #[])
  fields := #[]
  methods := #[k0m0]
  instanceTypes := #[]
  staticTypes := #[]
  resolved := Array.replicate 124 none
  statics := none }

def pool1 : Array CpInfo := pool [(2, .class_ 4), (1, u "java/lang/Object"), (0, u "<init>"), (0, u "()V"), (0, .methodref 8 9), (0, .class_ 10), (0, .nameAndType 11 12), (0, u "com/example/invariant_to_halt/invarianttohalt/program/SmtLibSyntaxIsSimpleSymbolCharacterPinLaw"), (0, u "excluded"), (0, u "(C)Z"), (0, .methodref 14 15), (0, .class_ 16), (0, .nameAndType 17 12), (0, u "com/example/invariant_to_halt/invarianttohalt/program/SmtLibSyntax"), (0, u "isSimpleSymbolCharacter"), (2, u "law"), (0, u "(I)Z")] 3

def k1m0 : Method := { name := "<init>", desc := "()V", sig := { parameters := [], returnType := none }, accessFlags := 2, code := none }
def k1c1 : Code := { maxStack := 2, maxLocals := 3, code := code, exceptionTable := #[], attributes := #[] }
def k1m1 : Method := { name := "law", desc := "(I)Z", sig := { parameters := [.int], returnType := some .boolean }, accessFlags := 9, code := some k1c1 }
def k1c2 : Code := { maxStack := 2, maxLocals := 1, code := method_3_code, exceptionTable := #[], attributes := #[] }
def k1m2 : Method := { name := "excluded", desc := "(C)Z", sig := { parameters := [.char], returnType := some .boolean }, accessFlags := 10, code := some k1c2 }
/-- com/example/invariant_to_halt/invarianttohalt/program/SmtLibSyntaxIsSimpleSymbolCharacterPinLaw -/
def k1 : Class := { plain "com/example/invariant_to_halt/invarianttohalt/program/SmtLibSyntaxIsSimpleSymbolCharacterPinLaw" (some 0) with
  accessFlags := 49
  interfaces := #[]
  cf := some (fileOf pool1 8 #[] #[{ accessFlags := 2, nameIndex := 5, descriptorIndex := 6, attributes := #[] }, { accessFlags := 9, nameIndex := 20, descriptorIndex := 21, attributes := #[] }, { accessFlags := 10, nameIndex := 11, descriptorIndex := 12, attributes := #[] }] 49 2 #[] #[])
  fields := #[]
  methods := #[k1m0, k1m1, k1m2]
  instanceTypes := #[]
  staticTypes := #[]
  resolved := Array.replicate 25 none
  statics := none }

def pool2 : Array CpInfo := pool [(2, .class_ 4), (1, u "java/lang/Object"), (0, u "<init>"), (0, u "()V"), (0, .class_ 8), (0, u "com/example/invariant_to_halt/invarianttohalt/program/SmtLibSyntax"), (0, .string 10), (0, u "~!@$%^&*_-+=<>.?/"), (0, .methodref 12 13), (0, .class_ 14), (0, .nameAndType 15 16), (0, u "java/lang/String"), (0, u "indexOf"), (0, u "(I)I"), (14, u "isSimpleSymbolCharacter"), (0, u "(C)Z"), (46, u "SIMPLE_SYMBOL_PUNCTUATION"), (0, u "Ljava/lang/String;")] 29

def k2m0 : Method := { name := "<init>", desc := "()V", sig := { parameters := [], returnType := none }, accessFlags := 2, code := none }
def k2c1 : Code := { maxStack := 2, maxLocals := 1, code := prog_23_method_2_code, exceptionTable := #[], attributes := #[] }
def k2m1 : Method := { name := "isSimpleSymbolCharacter", desc := "(C)Z", sig := { parameters := [.char], returnType := some .boolean }, accessFlags := 9, code := some k2c1 }
/-- com/example/invariant_to_halt/invarianttohalt/program/SmtLibSyntax -/
def k2 : Class := { plain "com/example/invariant_to_halt/invarianttohalt/program/SmtLibSyntax" (some 0) with
  accessFlags := 33
  interfaces := #[]
  cf := some (fileOf pool2 7 #[] #[{ accessFlags := 2, nameIndex := 5, descriptorIndex := 6, attributes := #[] }, { accessFlags := 9, nameIndex := 31, descriptorIndex := 32, attributes := #[] }] 33 2 #[] #[{ accessFlags := 26, nameIndex := 79, descriptorIndex := 80, attributes := #[] }])
  fields := #[{ name := "SIMPLE_SYMBOL_PUNCTUATION", type := (.object "java/lang/String"), accessFlags := 26, slot := 0, constantValue := 0 }]
  methods := #[k2m0, k2m1]
  instanceTypes := #[]
  staticTypes := #[(.object "java/lang/String")]
  resolved := Array.replicate 110 none
  statics := none }

def pool3 : Array CpInfo := pool [(1, .class_ 2), (0, u "java/io/Serializable"), (0, .class_ 4), (0, u "java/lang/Object")] 2

/-- java/io/Serializable -/
def k3 : Class := { plain "java/io/Serializable" (some 0) with
  accessFlags := 1537
  interfaces := #[]
  cf := some (fileOf pool3 1 #[] #[] 1537 3 #[] #[])
  fields := #[]
  methods := #[]
  instanceTypes := #[]
  staticTypes := #[]
  resolved := Array.replicate 7 none
  statics := none }

def pool4 : Array CpInfo := pool [(1, .class_ 2), (0, u "java/lang/Comparable"), (0, .class_ 4), (0, u "java/lang/Object")] 7

/-- java/lang/Comparable -/
def k4 : Class := { plain "java/lang/Comparable" (some 0) with
  accessFlags := 1537
  interfaces := #[]
  cf := some (fileOf pool4 1 #[] #[] 1537 3 #[] #[])
  fields := #[]
  methods := #[]
  instanceTypes := #[]
  staticTypes := #[]
  resolved := Array.replicate 12 none
  statics := none }

def pool5 : Array CpInfo := pool [(2, .class_ 4), (1, u "java/lang/CharSequence"), (42, .class_ 48), (0, u "java/lang/CharSequence$1CodePointIterator"), (10, .class_ 60), (0, u "java/lang/CharSequence$1CharIterator"), (5, .class_ 67), (0, u "java/lang/Object")] 63

/-- java/lang/CharSequence -/
def k5 : Class := { plain "java/lang/CharSequence" (some 0) with
  accessFlags := 1537
  interfaces := #[]
  cf := some (fileOf pool5 2 #[.nestMembers #[47, 59]] #[] 1537 66 #[] #[])
  fields := #[]
  methods := #[]
  instanceTypes := #[]
  staticTypes := #[]
  resolved := Array.replicate 131 none
  statics := none }

def pool6 : Array CpInfo := pool [(1, .class_ 2), (0, u "java/lang/constant/Constable"), (0, .class_ 4), (0, u "java/lang/Object")] 6

/-- java/lang/constant/Constable -/
def k6 : Class := { plain "java/lang/constant/Constable" (some 0) with
  accessFlags := 1537
  interfaces := #[]
  cf := some (fileOf pool6 1 #[] #[] 1537 3 #[] #[])
  fields := #[]
  methods := #[]
  instanceTypes := #[]
  staticTypes := #[]
  resolved := Array.replicate 11 none
  statics := none }

def pool7 : Array CpInfo := pool [(1, .class_ 2), (0, u "java/lang/constant/ConstantDesc"), (0, .class_ 4), (0, u "java/lang/Object")] 32

/-- java/lang/constant/ConstantDesc -/
def k7 : Class := { plain "java/lang/constant/ConstantDesc" (some 0) with
  accessFlags := 1537
  interfaces := #[]
  cf := some (fileOf pool7 1 #[] #[] 1537 3 #[] #[])
  fields := #[]
  methods := #[]
  instanceTypes := #[]
  staticTypes := #[]
  resolved := Array.replicate 37 none
  statics := none }

def pool8 : Array CpInfo := pool [(2, .class_ 4), (1, u "java/lang/Object"), (0, u "<init>"), (0, u "()V"), (2, .fieldref 10 11), (0, .class_ 12), (0, .nameAndType 13 14), (0, u "java/lang/String"), (0, u "value"), (0, u "[B"), (0, .fieldref 10 16), (0, .nameAndType 17 18), (0, u "coder"), (0, u "B"), (2, u "hash"), (0, u "I"), (2, u "hashIsZero"), (0, u "Z"), (11, .fieldref 10 39), (0, .nameAndType 40 26), (0, u "COMPACT_STRINGS"), (66, .class_ 109), (1, u "java/lang/StringLatin1"), (32, u "()Z"), (191, u "()I"), (0, .methodref 10 336), (0, .nameAndType 17 337), (0, u "()B"), (154, .methodref 10 493), (0, .nameAndType 494 142), (0, u "isLatin1"), (10, .methodref 10 506), (0, .nameAndType 507 334), (0, u "length"), (67, .class_ 576), (0, u "java/lang/CharSequence"), (22, u "CASE_INSENSITIVE_ORDER"), (0, u "Ljava/util/Comparator;"), (32, .methodref 10 634), (0, .nameAndType 635 636), (0, u "indexOf"), (0, u "(II)I"), (0, .methodref 107 638), (0, .nameAndType 635 639), (0, u "([BIII)I"), (125, u "(I)I"), (335, u "serialPersistentFields"), (0, u "[Ljava/io/ObjectStreamField;"), (0, .class_ 1104), (0, u "java/lang/String$CaseInsensitiveComparator"), (1, .class_ 1107), (0, u "java/io/Serializable"), (0, .class_ 1109), (0, u "java/lang/Comparable"), (0, .class_ 1111), (0, u "java/lang/constant/Constable"), (0, .class_ 1113), (0, u "java/lang/constant/ConstantDesc"), (2, u "serialVersionUID"), (0, u "J"), (3, u "REPL"), (0, u "C"), (2, u "LATIN1"), (1, u "UTF16")] 323

def k8m0 : Method := { name := "<init>", desc := "()V", sig := { parameters := [], returnType := none }, accessFlags := 1, code := none }
def k8c1 : Code := { maxStack := 2, maxLocals := 1, code := jdk_42_method_54_code, exceptionTable := #[], attributes := #[] }
def k8m1 : Method := { name := "length", desc := "()I", sig := { parameters := [], returnType := some .int }, accessFlags := 1, code := some k8c1 }
def k8c2 : Code := { maxStack := 3, maxLocals := 2, code := jdk_42_method_79_code, exceptionTable := #[], attributes := #[] }
def k8m2 : Method := { name := "indexOf", desc := "(I)I", sig := { parameters := [.int], returnType := some .int }, accessFlags := 1, code := some k8c2 }
def k8c3 : Code := { maxStack := 4, maxLocals := 3, code := jdk_42_method_80_code, exceptionTable := #[], attributes := #[] }
def k8m3 : Method := { name := "indexOf", desc := "(II)I", sig := { parameters := [.int, .int], returnType := some .int }, accessFlags := 1, code := some k8c3 }
def k8c4 : Code := { maxStack := 1, maxLocals := 1, code := jdk_42_method_152_code, exceptionTable := #[], attributes := #[] }
def k8m4 : Method := { name := "coder", desc := "()B", sig := { parameters := [], returnType := some .byte }, accessFlags := 0, code := some k8c4 }
def k8c5 : Code := { maxStack := 1, maxLocals := 1, code := jdk_42_method_154_code, exceptionTable := #[], attributes := #[] }
def k8m5 : Method := { name := "isLatin1", desc := "()Z", sig := { parameters := [], returnType := some .boolean }, accessFlags := 0, code := some k8c5 }
/-- java/lang/String -/
def k8 : Class := { plain "java/lang/String" (some 0) with
  accessFlags := 49
  interfaces := #[3, 4, 5, 6, 7]
  cf := some (fileOf pool8 10 #[.nestMembers #[1103]] #[{ accessFlags := 1, nameIndex := 5, descriptorIndex := 6, attributes := #[] }, { accessFlags := 1, nameIndex := 507, descriptorIndex := 334, attributes := #[] }, { accessFlags := 1, nameIndex := 635, descriptorIndex := 765, attributes := #[] }, { accessFlags := 1, nameIndex := 635, descriptorIndex := 636, attributes := #[] }, { accessFlags := 0, nameIndex := 17, descriptorIndex := 337, attributes := #[] }, { accessFlags := 0, nameIndex := 494, descriptorIndex := 142, attributes := #[] }] 49 2 #[1106, 1108, 575, 1110, 1112] #[{ accessFlags := 18, nameIndex := 13, descriptorIndex := 14, attributes := #[] }, { accessFlags := 18, nameIndex := 17, descriptorIndex := 18, attributes := #[] }, { accessFlags := 2, nameIndex := 21, descriptorIndex := 22, attributes := #[] }, { accessFlags := 2, nameIndex := 25, descriptorIndex := 26, attributes := #[] }, { accessFlags := 26, nameIndex := 1116, descriptorIndex := 1117, attributes := #[] }, { accessFlags := 24, nameIndex := 40, descriptorIndex := 26, attributes := #[] }, { accessFlags := 26, nameIndex := 1101, descriptorIndex := 1102, attributes := #[] }, { accessFlags := 26, nameIndex := 1121, descriptorIndex := 1122, attributes := #[] }, { accessFlags := 25, nameIndex := 599, descriptorIndex := 600, attributes := #[] }, { accessFlags := 24, nameIndex := 1125, descriptorIndex := 18, attributes := #[] }, { accessFlags := 24, nameIndex := 1127, descriptorIndex := 18, attributes := #[] }])
  fields := #[{ name := "value", type := (.array .byte), accessFlags := 18, slot := 0, constantValue := 0 }, { name := "coder", type := .byte, accessFlags := 18, slot := 1, constantValue := 0 }, { name := "hash", type := .int, accessFlags := 2, slot := 2, constantValue := 0 }, { name := "hashIsZero", type := .boolean, accessFlags := 2, slot := 3, constantValue := 0 }, { name := "serialVersionUID", type := .long, accessFlags := 26, slot := 0, constantValue := 0 }, { name := "COMPACT_STRINGS", type := .boolean, accessFlags := 24, slot := 1, constantValue := 0 }, { name := "serialPersistentFields", type := (.array (.object "java/io/ObjectStreamField")), accessFlags := 26, slot := 2, constantValue := 0 }, { name := "REPL", type := .char, accessFlags := 26, slot := 3, constantValue := 0 }, { name := "CASE_INSENSITIVE_ORDER", type := (.object "java/util/Comparator"), accessFlags := 25, slot := 4, constantValue := 0 }, { name := "LATIN1", type := .byte, accessFlags := 24, slot := 5, constantValue := 0 }, { name := "UTF16", type := .byte, accessFlags := 24, slot := 6, constantValue := 0 }]
  methods := #[k8m0, k8m1, k8m2, k8m3, k8m4, k8m5]
  instanceTypes := #[(.array .byte), .byte, .int, .boolean]
  staticTypes := #[.long, .boolean, (.array (.object "java/io/ObjectStreamField")), .char, (.object "java/util/Comparator"), .byte, .byte]
  resolved := Array.replicate 1451 none
  statics := some 0 }

def pool9 : Array CpInfo := pool [(4, .class_ 6), (1, u "java/lang/Object"), (0, u "<init>"), (0, u "()V"), (5, .class_ 16), (1, u "java/lang/StringLatin1"), (21, .methodref 39 40), (0, .class_ 41), (0, .nameAndType 42 43), (0, u "java/lang/Math"), (0, u "min"), (0, u "(II)I"), (44, .methodref 14 89), (0, .nameAndType 90 91), (0, u "canEncode"), (0, u "(I)Z"), (0, .methodref 39 93), (0, .nameAndType 94 43), (0, u "max"), (0, .methodref 14 96), (0, .nameAndType 97 98), (0, u "indexOfChar"), (0, u "([BIII)I"), (2, u "indexOf"), (19, u "$assertionsDisabled"), (0, u "Z"), (98, .class_ 223), (1, u "java/lang/StringLatin1$LinesSpliterator"), (166, .class_ 391), (0, u "java/lang/StringLatin1$CharsSpliterator")] 3

def k9m0 : Method := { name := "<init>", desc := "()V", sig := { parameters := [], returnType := none }, accessFlags := 0, code := none }
def k9c1 : Code := { maxStack := 2, maxLocals := 1, code := jdk_43_method_4_code, exceptionTable := #[], attributes := #[] }
def k9m1 : Method := { name := "canEncode", desc := "(I)Z", sig := { parameters := [.int], returnType := some .boolean }, accessFlags := 9, code := some k9c1 }
def k9c2 : Code := { maxStack := 4, maxLocals := 4, code := jdk_43_method_22_code, exceptionTable := #[], attributes := #[] }
def k9m2 : Method := { name := "indexOf", desc := "([BIII)I", sig := { parameters := [(.array .byte), .int, .int, .int], returnType := some .int }, accessFlags := 9, code := some k9c2 }
def k9c3 : Code := { maxStack := 2, maxLocals := 6, code := jdk_43_method_23_code, exceptionTable := #[], attributes := #[] }
def k9m3 : Method := { name := "indexOfChar", desc := "([BIII)I", sig := { parameters := [(.array .byte), .int, .int, .int], returnType := some .int }, accessFlags := 10, code := some k9c3 }
/-- java/lang/StringLatin1 -/
def k9 : Class := { plain "java/lang/StringLatin1" (some 0) with
  accessFlags := 48
  interfaces := #[]
  cf := some (fileOf pool9 14 #[.nestMembers #[390, 221]] #[{ accessFlags := 0, nameIndex := 7, descriptorIndex := 8, attributes := #[] }, { accessFlags := 9, nameIndex := 90, descriptorIndex := 91, attributes := #[] }, { accessFlags := 9, nameIndex := 101, descriptorIndex := 98, attributes := #[] }, { accessFlags := 10, nameIndex := 97, descriptorIndex := 98, attributes := #[] }] 48 4 #[] #[{ accessFlags := 4120, nameIndex := 121, descriptorIndex := 122, attributes := #[] }])
  fields := #[{ name := "$assertionsDisabled", type := .boolean, accessFlags := 4120, slot := 0, constantValue := 0 }]
  methods := #[k9m0, k9m1, k9m2, k9m3]
  instanceTypes := #[]
  staticTypes := #[.boolean]
  resolved := Array.replicate 395 none
  statics := none }

def pool10 : Array CpInfo := pool [(1, .class_ 2), (0, u "java/lang/Math"), (1, .class_ 6), (1, u "java/lang/Object"), (0, u "<init>"), (0, u "()V"), (89, .class_ 100), (1, u "java/lang/Math$RandomNumberGeneratorHolder"), (71, u "negativeZeroFloatBits"), (0, u "J"), (2, u "negativeZeroDoubleBits"), (21, u "max"), (2, u "min"), (43, u "$assertionsDisabled"), (0, u "Z"), (88, u "(II)I"), (2, u "twoToTheDoubleScaleDown"), (0, u "D"), (4, u "twoToTheDoubleScaleUp"), (9, u "E"), (3, u "PI"), (2, u "TAU"), (2, u "DEGREES_TO_RADIANS"), (0, u "RADIANS_TO_DEGREES")] 94

def k10m0 : Method := { name := "<init>", desc := "()V", sig := { parameters := [], returnType := none }, accessFlags := 2, code := none }
def k10c1 : Code := { maxStack := 2, maxLocals := 2, code := jdk_29_method_65_code, exceptionTable := #[], attributes := #[] }
def k10m1 : Method := { name := "max", desc := "(II)I", sig := { parameters := [.int, .int], returnType := some .int }, accessFlags := 9, code := some k10c1 }
def k10c2 : Code := { maxStack := 2, maxLocals := 2, code := jdk_29_method_69_code, exceptionTable := #[], attributes := #[] }
def k10m2 : Method := { name := "min", desc := "(II)I", sig := { parameters := [.int, .int], returnType := some .int }, accessFlags := 9, code := some k10c2 }
/-- java/lang/Math -/
def k10 : Class := { plain "java/lang/Math" (some 0) with
  accessFlags := 49
  interfaces := #[]
  cf := some (fileOf pool10 1 #[.nestMembers #[98]] #[{ accessFlags := 2, nameIndex := 7, descriptorIndex := 8, attributes := #[] }, { accessFlags := 9, nameIndex := 198, descriptorIndex := 335, attributes := #[] }, { accessFlags := 9, nameIndex := 201, descriptorIndex := 335, attributes := #[] }] 49 4 #[] #[{ accessFlags := 25, nameIndex := 354, descriptorIndex := 339, attributes := #[] }, { accessFlags := 25, nameIndex := 358, descriptorIndex := 339, attributes := #[] }, { accessFlags := 25, nameIndex := 361, descriptorIndex := 339, attributes := #[] }, { accessFlags := 26, nameIndex := 364, descriptorIndex := 339, attributes := #[] }, { accessFlags := 26, nameIndex := 365, descriptorIndex := 339, attributes := #[] }, { accessFlags := 26, nameIndex := 172, descriptorIndex := 173, attributes := #[] }, { accessFlags := 26, nameIndex := 176, descriptorIndex := 173, attributes := #[] }, { accessFlags := 8, nameIndex := 344, descriptorIndex := 339, attributes := #[] }, { accessFlags := 8, nameIndex := 338, descriptorIndex := 339, attributes := #[] }, { accessFlags := 4120, nameIndex := 245, descriptorIndex := 246, attributes := #[] }])
  fields := #[{ name := "E", type := .double, accessFlags := 25, slot := 0, constantValue := 0 }, { name := "PI", type := .double, accessFlags := 25, slot := 1, constantValue := 0 }, { name := "TAU", type := .double, accessFlags := 25, slot := 2, constantValue := 0 }, { name := "DEGREES_TO_RADIANS", type := .double, accessFlags := 26, slot := 3, constantValue := 0 }, { name := "RADIANS_TO_DEGREES", type := .double, accessFlags := 26, slot := 4, constantValue := 0 }, { name := "negativeZeroFloatBits", type := .long, accessFlags := 26, slot := 5, constantValue := 0 }, { name := "negativeZeroDoubleBits", type := .long, accessFlags := 26, slot := 6, constantValue := 0 }, { name := "twoToTheDoubleScaleUp", type := .double, accessFlags := 8, slot := 7, constantValue := 0 }, { name := "twoToTheDoubleScaleDown", type := .double, accessFlags := 8, slot := 8, constantValue := 0 }, { name := "$assertionsDisabled", type := .boolean, accessFlags := 4120, slot := 9, constantValue := 0 }]
  methods := #[k10m0, k10m1, k10m2]
  instanceTypes := #[]
  staticTypes := #[.double, .double, .double, .double, .double, .long, .long, .double, .double, .boolean]
  resolved := Array.replicate 460 none
  statics := none }

def pool11 : Array CpInfo := pool [(2, .class_ 4), (1, u "java/lang/Object"), (0, u "<init>"), (0, u "()V"), (17, .class_ 26), (1, u "jdk/internal/util/Preconditions"), (28, .class_ 56), (0, u "jdk/internal/util/Preconditions$4"), (57, .class_ 115), (0, u "jdk/internal/util/Preconditions$1"), (7, u "SIOOBE_FORMATTER"), (0, u "Ljava/util/function/BiFunction;"), (0, .class_ 126), (0, u "jdk/internal/util/Preconditions$2"), (3, u "AIOOBE_FORMATTER"), (0, .class_ 132), (0, u "jdk/internal/util/Preconditions$3"), (3, u "IOOBE_FORMATTER")] 57

def k11m0 : Method := { name := "<init>", desc := "()V", sig := { parameters := [], returnType := none }, accessFlags := 1, code := none }
/-- jdk/internal/util/Preconditions -/
def k11 : Class := { plain "jdk/internal/util/Preconditions" (some 0) with
  accessFlags := 33
  interfaces := #[]
  cf := some (fileOf pool11 24 #[.nestMembers #[55, 131, 125, 114]] #[{ accessFlags := 1, nameIndex := 5, descriptorIndex := 6, attributes := #[] }] 33 2 #[] #[{ accessFlags := 25, nameIndex := 123, descriptorIndex := 124, attributes := #[] }, { accessFlags := 25, nameIndex := 130, descriptorIndex := 124, attributes := #[] }, { accessFlags := 25, nameIndex := 136, descriptorIndex := 124, attributes := #[] }])
  fields := #[{ name := "SIOOBE_FORMATTER", type := (.object "java/util/function/BiFunction"), accessFlags := 25, slot := 0, constantValue := 0 }, { name := "AIOOBE_FORMATTER", type := (.object "java/util/function/BiFunction"), accessFlags := 25, slot := 1, constantValue := 0 }, { name := "IOOBE_FORMATTER", type := (.object "java/util/function/BiFunction"), accessFlags := 25, slot := 2, constantValue := 0 }]
  methods := #[k11m0]
  instanceTypes := #[]
  staticTypes := #[(.object "java/util/function/BiFunction"), (.object "java/util/function/BiFunction"), (.object "java/util/function/BiFunction")]
  resolved := Array.replicate 194 none
  statics := some 1 }

def pool12 : Array CpInfo := pool [(9, u "<init>"), (6, .class_ 18), (1, u "java/lang/Object"), (0, u "()V"), (1, .class_ 23), (1, u "jdk/internal/util/ArraysSupport"), (0, u "LOG2_ARRAY_LONG_INDEX_SCALE"), (0, u "I"), (2, u "U"), (0, u "Ljdk/internal/misc/Unsafe;"), (8, u "BIG_ENDIAN"), (0, u "Z"), (8, u "LOG2_BYTE_BIT_SIZE"), (4, u "LOG2_ARRAY_INT_INDEX_SCALE"), (54, u "JLA"), (0, u "Ljdk/internal/access/JavaLangAccess;"), (11, u "LOG2_ARRAY_BOOLEAN_INDEX_SCALE"), (9, u "LOG2_ARRAY_BYTE_INDEX_SCALE"), (5, u "LOG2_ARRAY_CHAR_INDEX_SCALE"), (5, u "LOG2_ARRAY_SHORT_INDEX_SCALE"), (18, u "LOG2_ARRAY_FLOAT_INDEX_SCALE"), (24, u "LOG2_ARRAY_DOUBLE_INDEX_SCALE"), (89, u "T_BOOLEAN"), (2, u "T_CHAR"), (1, u "T_FLOAT"), (1, u "T_DOUBLE"), (1, u "T_BYTE"), (1, u "T_SHORT"), (1, u "T_INT"), (1, u "T_LONG"), (1, u "SOFT_MAX_ARRAY_LENGTH")] 83

def k12m0 : Method := { name := "<init>", desc := "()V", sig := { parameters := [], returnType := none }, accessFlags := 2, code := none }
/-- jdk/internal/util/ArraysSupport -/
def k12 : Class := { plain "jdk/internal/util/ArraysSupport" (some 0) with
  accessFlags := 33
  interfaces := #[]
  cf := some (fileOf pool12 21 #[] #[{ accessFlags := 2, nameIndex := 9, descriptorIndex := 19, attributes := #[] }] 33 16 #[] #[{ accessFlags := 24, nameIndex := 28, descriptorIndex := 29, attributes := #[] }, { accessFlags := 26, nameIndex := 38, descriptorIndex := 39, attributes := #[] }, { accessFlags := 25, nameIndex := 121, descriptorIndex := 25, attributes := #[] }, { accessFlags := 25, nameIndex := 131, descriptorIndex := 25, attributes := #[] }, { accessFlags := 25, nameIndex := 137, descriptorIndex := 25, attributes := #[] }, { accessFlags := 25, nameIndex := 143, descriptorIndex := 25, attributes := #[] }, { accessFlags := 25, nameIndex := 53, descriptorIndex := 25, attributes := #[] }, { accessFlags := 25, nameIndex := 24, descriptorIndex := 25, attributes := #[] }, { accessFlags := 25, nameIndex := 162, descriptorIndex := 25, attributes := #[] }, { accessFlags := 25, nameIndex := 187, descriptorIndex := 25, attributes := #[] }, { accessFlags := 26, nameIndex := 48, descriptorIndex := 25, attributes := #[] }, { accessFlags := 25, nameIndex := 277, descriptorIndex := 25, attributes := #[] }, { accessFlags := 25, nameIndex := 280, descriptorIndex := 25, attributes := #[] }, { accessFlags := 25, nameIndex := 282, descriptorIndex := 25, attributes := #[] }, { accessFlags := 25, nameIndex := 284, descriptorIndex := 25, attributes := #[] }, { accessFlags := 25, nameIndex := 286, descriptorIndex := 25, attributes := #[] }, { accessFlags := 25, nameIndex := 288, descriptorIndex := 25, attributes := #[] }, { accessFlags := 25, nameIndex := 290, descriptorIndex := 25, attributes := #[] }, { accessFlags := 25, nameIndex := 292, descriptorIndex := 25, attributes := #[] }, { accessFlags := 26, nameIndex := 108, descriptorIndex := 109, attributes := #[] }, { accessFlags := 25, nameIndex := 294, descriptorIndex := 25, attributes := #[] }])
  fields := #[{ name := "U", type := (.object "jdk/internal/misc/Unsafe"), accessFlags := 24, slot := 0, constantValue := 0 }, { name := "BIG_ENDIAN", type := .boolean, accessFlags := 26, slot := 1, constantValue := 0 }, { name := "LOG2_ARRAY_BOOLEAN_INDEX_SCALE", type := .int, accessFlags := 25, slot := 2, constantValue := 0 }, { name := "LOG2_ARRAY_BYTE_INDEX_SCALE", type := .int, accessFlags := 25, slot := 3, constantValue := 0 }, { name := "LOG2_ARRAY_CHAR_INDEX_SCALE", type := .int, accessFlags := 25, slot := 4, constantValue := 0 }, { name := "LOG2_ARRAY_SHORT_INDEX_SCALE", type := .int, accessFlags := 25, slot := 5, constantValue := 0 }, { name := "LOG2_ARRAY_INT_INDEX_SCALE", type := .int, accessFlags := 25, slot := 6, constantValue := 0 }, { name := "LOG2_ARRAY_LONG_INDEX_SCALE", type := .int, accessFlags := 25, slot := 7, constantValue := 0 }, { name := "LOG2_ARRAY_FLOAT_INDEX_SCALE", type := .int, accessFlags := 25, slot := 8, constantValue := 0 }, { name := "LOG2_ARRAY_DOUBLE_INDEX_SCALE", type := .int, accessFlags := 25, slot := 9, constantValue := 0 }, { name := "LOG2_BYTE_BIT_SIZE", type := .int, accessFlags := 26, slot := 10, constantValue := 0 }, { name := "T_BOOLEAN", type := .int, accessFlags := 25, slot := 11, constantValue := 0 }, { name := "T_CHAR", type := .int, accessFlags := 25, slot := 12, constantValue := 0 }, { name := "T_FLOAT", type := .int, accessFlags := 25, slot := 13, constantValue := 0 }, { name := "T_DOUBLE", type := .int, accessFlags := 25, slot := 14, constantValue := 0 }, { name := "T_BYTE", type := .int, accessFlags := 25, slot := 15, constantValue := 0 }, { name := "T_SHORT", type := .int, accessFlags := 25, slot := 16, constantValue := 0 }, { name := "T_INT", type := .int, accessFlags := 25, slot := 17, constantValue := 0 }, { name := "T_LONG", type := .int, accessFlags := 25, slot := 18, constantValue := 0 }, { name := "JLA", type := (.object "jdk/internal/access/JavaLangAccess"), accessFlags := 26, slot := 19, constantValue := 0 }, { name := "SOFT_MAX_ARRAY_LENGTH", type := .int, accessFlags := 25, slot := 20, constantValue := 0 }]
  methods := #[k12m0]
  instanceTypes := #[]
  staticTypes := #[(.object "jdk/internal/misc/Unsafe"), .boolean, .int, .int, .int, .int, .int, .int, .int, .int, .int, .int, .int, .int, .int, .int, .int, .int, .int, (.object "jdk/internal/access/JavaLangAccess"), .int]
  resolved := Array.replicate 378 none
  statics := none }

def pool13 : Array CpInfo := pool [(1, u "java/lang/Cloneable"), (0, .class_ 1), (0, u "java/lang/Object"), (0, .class_ 3)] 3

/-- java/lang/Cloneable -/
def k13 : Class := { plain "java/lang/Cloneable" (some 0) with
  accessFlags := 1537
  interfaces := #[]
  cf := some (fileOf pool13 2 #[] #[] 1537 4 #[] #[])
  fields := #[]
  methods := #[]
  instanceTypes := #[]
  staticTypes := #[]
  resolved := Array.replicate 8 none
  statics := none }

/-- the primitive byte -/
def k14 : Class := { plain "byte" none with kind := .primitive 'B', accessFlags := 0x411 }
/-- [B -/
def k15 : Class := { plain "[B" (some 0) with kind := .array 14 .byte, interfaces := #[13, 3], accessFlags := 1041 }

/-- the primitive int -/
def k16 : Class := { plain "int" none with kind := .primitive 'I', accessFlags := 0x411 }
/-- [I -/
def k17 : Class := { plain "[I" (some 0) with kind := .array 16 .int, interfaces := #[13, 3], accessFlags := 1041 }

def heap : Heap := #[{ cls := 8, slots := #[.long 0, .int 1, .null, .int 0, .null, .int 0, .int 0], vm := .statics 8 },
  { cls := 11, slots := #[.null, .null, .null], vm := .statics 11 }]
def classes : Array Class := #[k0, k1, k2, k3, k4, k5, k6, k7, k8, k9, k10, k11, k12, k13, k14, k15, k16, k17]
def interned : List (Array UInt16 × Addr) := []
def slotsUsed : Nat := 10
def theMethod : MethodId := ⟨1, 1⟩
def args0 : Array Value := #[.int 65]
def aboutOver (below : List Frame) : State where
  vm := { classes := classes, interned := interned.toArray }
  heap := heap
  slotsUsed := slotsUsed
  threads := #[{ frames := .invoking theMethod args0 :: below }]
def below0 : List Frame := [.native { method := ⟨0, 0⟩, args := #[] }]
def about1 : State := aboutOver below0
def p0 : Program := .bare "" "" ""
def e0 : Env := launch0.env 0 0 0
theorem w_frames : about1.frames = Frame.invoking theMethod args0 :: below0 := rfl
set_option maxRecDepth 65536 in
theorem w_args : argsFit about1.vm theMethod args0 = true := by decide +kernel
set_option maxRecDepth 65536 in
theorem w_heap : heapFits about1 = true := by decide +kernel
set_option maxRecDepth 65536 in
theorem w_runnable : about1.curStatus? = some .runnable := by decide +kernel
set_option maxRecDepth 65536 in
theorem w_alone : about1.alone = true := by decide +kernel
set_option maxRecDepth 65536 in
theorem w_named : about1.methodNamed? x = some theMethod := by decide +kernel
set_option maxRecDepth 65536 in
theorem w_hears : about1.hears theMethod below0 = true := by decide +kernel
set_option maxRecDepth 65536 in
theorem w_ripe : about1.ripe theMethod args0 below0 = true := by decide +kernel
theorem w_running : about1.status = .running := rfl
set_option maxRecDepth 65536 in
theorem w_room : about1.hasRoom e0.platform room_1 = true :=
  launch0.hasRoom_least _ room_1 (by decide +kernel) (by decide +kernel) (by decide +kernel) (by decide +kernel) (by decide +kernel) (by decide +kernel)
theorem allAtoms_all (ts : List Jvm.Cond) (a : Array Jvm.Value) (st : Jvm.State) : (allAtoms ts).before a st = ts.all (fun c => c.before a st) := by
  induction ts with
  | nil => rfl
  | cons c t ih =>
    show (Jvm.Cond.and c (allAtoms t)).before a st = _
    rw [Jvm.Cond.before_and, ih, List.all_cons]
def words1 : List Jvm.Cond := Jvm.Cond.code x code maxLocals ret :: tables_1
/-- a 'code' word, met by the world's own term for the bytes: nothing is compared byte by byte -/
theorem code_word {y : MethodName} {bytes : ByteArray} {mx : Nat} {rt : Option FieldType} {a : Array Value} {s : State} {m : MethodId} {meth : Method} {c : Code} (h1 : s.methodNamed? y = some m) (h2 : s.vm.method? m = some meth) (h3 : meth.code = some c) (h4 : c.code = bytes)
    (h5 : (c.maxLocals == mx && c.exceptionTable.isEmpty && decide (c.maxStack ≤ mostOperands) && decide (meth.sig.returnType = rt) && !meth.locks && decide (parseMethodDescriptor y.desc = some meth.sig)) = true) : (Jvm.Cond.code y bytes mx rt).before a s = true := by
  simp only [Bool.and_eq_true, beq_iff_eq, Bool.not_eq_true', decide_eq_true_eq] at h5
  obtain ⟨⟨⟨⟨⟨g1, g2⟩, g3⟩, g4⟩, g5⟩, g6⟩ := h5
  simp [Cond.before, Cond.holds, Cond.value, h1, h2, h3, h4, g1, g2, g3, g4, g5, g6]
def isCode : Jvm.Cond → Bool
  | .code _ _ _ _ => true
  | _ => false
theorem all_split {L : List Jvm.Cond} {P : Jvm.Cond → Bool} (h1 : L.all (fun c => isCode c || P c) = true) (h2 : ∀ c ∈ L.filter isCode, P c = true) : L.all P = true := by
  refine List.all_eq_true.mpr fun c hc => ?_
  have h := List.all_eq_true.mp h1 c hc
  rcases Bool.eq_false_or_eq_true (isCode c) with hi | hi
  · exact h2 c (List.mem_filter.mpr ⟨hc, hi⟩)
  · simpa [hi] using h
set_option maxRecDepth 65536 in
theorem w_c0 : (Jvm.Cond.code x code maxLocals ret).before args0 about1 = true := code_word (m := ⟨1, 1⟩) (meth := k1m1) (c := k1c1) (by decide +kernel) rfl rfl rfl (by decide +kernel)
set_option maxRecDepth 65536 in
theorem w_c1 : (Jvm.Cond.code ({ cls := "com/example/invariant_to_halt/invarianttohalt/program/SmtLibSyntax", name := "isSimpleSymbolCharacter", desc := "(C)Z" } : Jvm.MethodName) prog_23_method_2_code (1 : Nat) (Option.some Jvm.ClassFile.FieldType.boolean)).before args0 about1 = true := code_word (m := ⟨2, 1⟩) (meth := k2m1) (c := k2c1) (by decide +kernel) rfl rfl rfl (by decide +kernel)
set_option maxRecDepth 65536 in
theorem w_c2 : (Jvm.Cond.code ({ cls := "java/lang/String", name := "indexOf", desc := "(I)I" } : Jvm.MethodName) jdk_42_method_79_code (2 : Nat) (Option.some Jvm.ClassFile.FieldType.int)).before args0 about1 = true := code_word (m := ⟨8, 2⟩) (meth := k8m2) (c := k8c2) (by decide +kernel) rfl rfl rfl (by decide +kernel)
set_option maxRecDepth 65536 in
theorem w_c3 : (Jvm.Cond.code ({ cls := "java/lang/String", name := "indexOf", desc := "(II)I" } : Jvm.MethodName) jdk_42_method_80_code (3 : Nat) (Option.some Jvm.ClassFile.FieldType.int)).before args0 about1 = true := code_word (m := ⟨8, 3⟩) (meth := k8m3) (c := k8c3) (by decide +kernel) rfl rfl rfl (by decide +kernel)
set_option maxRecDepth 65536 in
theorem w_c4 : (Jvm.Cond.code ({ cls := "java/lang/String", name := "isLatin1", desc := "()Z" } : Jvm.MethodName) jdk_42_method_154_code (1 : Nat) (Option.some Jvm.ClassFile.FieldType.boolean)).before args0 about1 = true := code_word (m := ⟨8, 5⟩) (meth := k8m5) (c := k8c5) (by decide +kernel) rfl rfl rfl (by decide +kernel)
set_option maxRecDepth 65536 in
theorem w_c5 : (Jvm.Cond.code ({ cls := "java/lang/String", name := "length", desc := "()I" } : Jvm.MethodName) jdk_42_method_54_code (1 : Nat) (Option.some Jvm.ClassFile.FieldType.int)).before args0 about1 = true := code_word (m := ⟨8, 1⟩) (meth := k8m1) (c := k8c1) (by decide +kernel) rfl rfl rfl (by decide +kernel)
set_option maxRecDepth 65536 in
theorem w_c6 : (Jvm.Cond.code ({ cls := "java/lang/String", name := "coder", desc := "()B" } : Jvm.MethodName) jdk_42_method_152_code (1 : Nat) (Option.some Jvm.ClassFile.FieldType.byte)).before args0 about1 = true := code_word (m := ⟨8, 4⟩) (meth := k8m4) (c := k8c4) (by decide +kernel) rfl rfl rfl (by decide +kernel)
set_option maxRecDepth 65536 in
theorem w_c7 : (Jvm.Cond.code ({ cls := "java/lang/StringLatin1", name := "indexOf", desc := "([BIII)I" } : Jvm.MethodName) jdk_43_method_22_code (4 : Nat) (Option.some Jvm.ClassFile.FieldType.int)).before args0 about1 = true := code_word (m := ⟨9, 2⟩) (meth := k9m2) (c := k9c2) (by decide +kernel) rfl rfl rfl (by decide +kernel)
set_option maxRecDepth 65536 in
theorem w_c8 : (Jvm.Cond.code ({ cls := "java/lang/StringLatin1", name := "canEncode", desc := "(I)Z" } : Jvm.MethodName) jdk_43_method_4_code (1 : Nat) (Option.some Jvm.ClassFile.FieldType.boolean)).before args0 about1 = true := code_word (m := ⟨9, 1⟩) (meth := k9m1) (c := k9c1) (by decide +kernel) rfl rfl rfl (by decide +kernel)
set_option maxRecDepth 65536 in
theorem w_c9 : (Jvm.Cond.code ({ cls := "java/lang/Math", name := "max", desc := "(II)I" } : Jvm.MethodName) jdk_29_method_65_code (2 : Nat) (Option.some Jvm.ClassFile.FieldType.int)).before args0 about1 = true := code_word (m := ⟨10, 1⟩) (meth := k10m1) (c := k10c1) (by decide +kernel) rfl rfl rfl (by decide +kernel)
set_option maxRecDepth 65536 in
theorem w_c10 : (Jvm.Cond.code ({ cls := "java/lang/Math", name := "min", desc := "(II)I" } : Jvm.MethodName) jdk_29_method_69_code (2 : Nat) (Option.some Jvm.ClassFile.FieldType.int)).before args0 about1 = true := code_word (m := ⟨10, 2⟩) (meth := k10m2) (c := k10c2) (by decide +kernel) rfl rfl rfl (by decide +kernel)
set_option maxRecDepth 65536 in
theorem w_c11 : (Jvm.Cond.code ({ cls := "java/lang/StringLatin1", name := "indexOfChar", desc := "([BIII)I" } : Jvm.MethodName) jdk_43_method_23_code (6 : Nat) (Option.some Jvm.ClassFile.FieldType.int)).before args0 about1 = true := code_word (m := ⟨9, 3⟩) (meth := k9m3) (c := k9c3) (by decide +kernel) rfl rfl rfl (by decide +kernel)
set_option maxRecDepth 65536 in
theorem w_c12 : (Jvm.Cond.code ({ cls := "com/example/invariant_to_halt/invarianttohalt/program/SmtLibSyntaxIsSimpleSymbolCharacterPinLaw", name := "excluded", desc := "(C)Z" } : Jvm.MethodName) method_3_code (1 : Nat) (Option.some Jvm.ClassFile.FieldType.boolean)).before args0 about1 = true := code_word (m := ⟨1, 2⟩) (meth := k1m2) (c := k1c2) (by decide +kernel) rfl rfl rfl (by decide +kernel)
def codes1 : List Jvm.Cond := [Jvm.Cond.code x code maxLocals ret, Jvm.Cond.code ({ cls := "com/example/invariant_to_halt/invarianttohalt/program/SmtLibSyntax", name := "isSimpleSymbolCharacter", desc := "(C)Z" } : Jvm.MethodName) prog_23_method_2_code (1 : Nat) (Option.some Jvm.ClassFile.FieldType.boolean), Jvm.Cond.code ({ cls := "java/lang/String", name := "indexOf", desc := "(I)I" } : Jvm.MethodName) jdk_42_method_79_code (2 : Nat) (Option.some Jvm.ClassFile.FieldType.int), Jvm.Cond.code ({ cls := "java/lang/String", name := "indexOf", desc := "(II)I" } : Jvm.MethodName) jdk_42_method_80_code (3 : Nat) (Option.some Jvm.ClassFile.FieldType.int), Jvm.Cond.code ({ cls := "java/lang/String", name := "isLatin1", desc := "()Z" } : Jvm.MethodName) jdk_42_method_154_code (1 : Nat) (Option.some Jvm.ClassFile.FieldType.boolean), Jvm.Cond.code ({ cls := "java/lang/String", name := "length", desc := "()I" } : Jvm.MethodName) jdk_42_method_54_code (1 : Nat) (Option.some Jvm.ClassFile.FieldType.int), Jvm.Cond.code ({ cls := "java/lang/String", name := "coder", desc := "()B" } : Jvm.MethodName) jdk_42_method_152_code (1 : Nat) (Option.some Jvm.ClassFile.FieldType.byte), Jvm.Cond.code ({ cls := "java/lang/StringLatin1", name := "indexOf", desc := "([BIII)I" } : Jvm.MethodName) jdk_43_method_22_code (4 : Nat) (Option.some Jvm.ClassFile.FieldType.int), Jvm.Cond.code ({ cls := "java/lang/StringLatin1", name := "canEncode", desc := "(I)Z" } : Jvm.MethodName) jdk_43_method_4_code (1 : Nat) (Option.some Jvm.ClassFile.FieldType.boolean), Jvm.Cond.code ({ cls := "java/lang/Math", name := "max", desc := "(II)I" } : Jvm.MethodName) jdk_29_method_65_code (2 : Nat) (Option.some Jvm.ClassFile.FieldType.int), Jvm.Cond.code ({ cls := "java/lang/Math", name := "min", desc := "(II)I" } : Jvm.MethodName) jdk_29_method_69_code (2 : Nat) (Option.some Jvm.ClassFile.FieldType.int), Jvm.Cond.code ({ cls := "java/lang/StringLatin1", name := "indexOfChar", desc := "([BIII)I" } : Jvm.MethodName) jdk_43_method_23_code (6 : Nat) (Option.some Jvm.ClassFile.FieldType.int), Jvm.Cond.code ({ cls := "com/example/invariant_to_halt/invarianttohalt/program/SmtLibSyntaxIsSimpleSymbolCharacterPinLaw", name := "excluded", desc := "(C)Z" } : Jvm.MethodName) method_3_code (1 : Nat) (Option.some Jvm.ClassFile.FieldType.boolean)]
set_option maxRecDepth 65536 in
theorem codes_eq : words1.filter isCode = codes1 := rfl
theorem w_codes : ∀ c ∈ words1.filter isCode, c.before args0 about1 = true := by
  rw [codes_eq]
  intro c hc
  simp only [codes1, List.mem_cons, List.not_mem_nil, or_false] at hc
  rcases hc with rfl | rfl | rfl | rfl | rfl | rfl | rfl | rfl | rfl | rfl | rfl | rfl | rfl
  · exact w_c0
  · exact w_c1
  · exact w_c2
  · exact w_c3
  · exact w_c4
  · exact w_c5
  · exact w_c6
  · exact w_c7
  · exact w_c8
  · exact w_c9
  · exact w_c10
  · exact w_c11
  · exact w_c12
set_option maxRecDepth 65536 in
theorem w_t1 : (words1.take 24).all (fun c => isCode c || c.before args0 about1) = true := by decide +kernel
set_option maxRecDepth 65536 in
theorem w_t2 : ((words1.drop 24).take 24).all (fun c => isCode c || c.before args0 about1) = true := by decide +kernel
set_option maxRecDepth 65536 in
theorem w_t3 : ((words1.drop 24).drop 24).all (fun c => isCode c || c.before args0 about1) = true := by decide +kernel
theorem w_tables : (allAtoms (Jvm.Cond.code x code maxLocals ret :: tables_1)).before args0 about1 = true := by
  rw [allAtoms_all]
  show words1.all (fun c => c.before args0 about1) = true
  refine all_split ?_ w_codes
  rw [← List.take_append_drop 24 words1, List.all_append, w_t1, ← List.take_append_drop 24 (words1.drop 24), List.all_append, w_t2, w_t3]
  rfl
set_option maxRecDepth 65536 in
theorem w_rest : rest_1_c.before args0 about1 = true := by decide +kernel
set_option maxRecDepth 65536 in
theorem w_case : (Jvm.Cond.and given_1 narrow_1).before args0 about1 = true := by decide +kernel
set_option maxRecDepth 65536 in
theorem w_consts : constsHeld consts_1 about1 := Jvm.Lit.constsHeldB_iff.mp (by decide +kernel)
theorem w_applies : (headSpec (Jvm.Cond.code x code maxLocals ret :: tables_1) room_1).applies x e0.platform about1 = true :=
  (Spec.applies_iff w_frames).mpr ⟨w_running, w_runnable, w_alone, w_named, w_hears, w_ripe, w_room, w_tables⟩
theorem atStart : AtStart classFile x code maxLocals ret World_1 tables_1 room_1 Calls_1 rest_1 Pre_1 launch0 p0 e0 about1 theMethod args0 below0 :=
  ⟨lists_1, trivial, launch0.admits_env _ _ _, launch0.least_env, fairChoices_fair.cas, fairChoices_fair.clock, w_frames, w_args, w_heap, w_applies, ⟨w_consts, trivial⟩, w_rest, w_case⟩
end start1
theorem witness_1 : WitnessClaimed_1 := ⟨start1.p0, start1.e0, start1.about1, start1.theMethod, start1.args0, start1.below0, start1.atStart⟩
end Jvm.Pilot.@@N@@
