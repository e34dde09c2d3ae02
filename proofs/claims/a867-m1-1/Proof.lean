import JvmDerived
import JvmDerived.Pilot.@@N@@Statement
import JvmDerived.Pilot.@@N@@Code
set_option linter.unusedVariables false
set_option linter.unusedSimpArgs false
set_option maxRecDepth 65536
namespace Jvm.Pilot.@@N@@
open Jvm Jvm.ClassFile Sem Op Lib Jvm.Free Jvm.Stand Jvm.LawKit Jvm.RoadKit Bundle Jvm.Pilot.@@N@@.Jvm.D
section OwnKit
variable {p : Program} {l : Launch} {e : Env} {R : Room} {s : State} {m : MethodId} {args : Array Value} {below : List Frame} {meth : Method} {c : Code} {T : State} {locs : List Loc} {cells slots : Nat}
theorem own_retI (X : Stand p l e R s m args below meth c T locs cells slots) (hx : p.tables.exec = Jvm.exec) {pc : Nat} {Ls : Array Slot} {z : Int32} {rest : List Value} (hret : meth.sig.returnType = some .int) (hd : decode c.code pc = .ok (.ireturn, 1)) {fs : List Frame}
    (hl : ∀ (f : JFrame) (acts : List Action), f.method = m → f.locked = none → f.entered = [] → (doReturn e (T.setTop f) acts (some (.int z))).1 = T.setFrames fs) : Steps p.tables e below (T.setTop (mkF m pc Ls (.int z :: rest))) (T.setFrames fs) := by
  have hm' : T.vm.method? m = some meth := X.method'
  have hn : narrow .int (.int z) = .int z := rfl
  show Steps p.tables e below (T.setTop { method := m, pc := pc, locals := Ls, stack := _ :: rest, locked := none }) _
  jvm_step X.here [X.here.top, hx, hd, hm', hret, hn]
  first | (intro acts; rw [hl _ acts rfl rfl rfl]) | rw [hl _ _ rfl rfl rfl]
  exact Steps.refl _
/-- where the run stands, with the same writes and figures as at X -/
abbrev own_like (_ : Stand p l e R s m args below meth c T locs cells slots) (T' : State) : Prop := Stand p l e R s m args below meth c T' locs cells slots
end OwnKit
theorem own_Llt {a b : Int64} (h : a < b) : ifCond.holds .lt (lcmpW a b) = true ∧ ifCond.holds .ge (lcmpW a b) = false ∧ ifCond.holds .gt (lcmpW b a) = true ∧ ifCond.holds .le (lcmpW b a) = false := by
  simp only [if0]
  exact ⟨(tlt ((lw_lt a b).mpr h)).1, (tlt ((lw_lt a b).mpr h)).2.1, (tlt ((lw_gt b a).mpr h)).2.2.1, (tlt ((lw_gt b a).mpr h)).2.2.2⟩
theorem own_Lnl {a b : Int64} (h : ¬ a < b) : ifCond.holds .lt (lcmpW a b) = false ∧ ifCond.holds .ge (lcmpW a b) = true ∧ ifCond.holds .gt (lcmpW b a) = false ∧ ifCond.holds .le (lcmpW b a) = true := by
  simp only [if0]
  have h1 : ¬ lcmpW a b < 0 := fun q => h ((lw_lt a b).mp q)
  have h2 : ¬ 0 < lcmpW b a := fun q => h ((lw_gt b a).mp q)
  exact ⟨(flt h1).1, (flt h1).2.1, (flt h2).2.2.1, (flt h2).2.2.2⟩
theorem own_Leq {a b : Int64} (h : a = b) : ifCond.holds .eq (lcmpW a b) = true ∧ ifCond.holds .ne (lcmpW a b) = false := by
  simp only [if0]
  exact teq ((lw_eq a b).mpr h)
theorem own_Lne {a b : Int64} (h : ¬ a = b) : ifCond.holds .eq (lcmpW a b) = false ∧ ifCond.holds .ne (lcmpW a b) = true := by
  simp only [if0]
  exact feq fun q => h ((lw_eq a b).mp q)
theorem own_StaK {Z : State} {h h' : Heap} {C n d : String} {v : Value} {ws : List Addr} (F : Sta Z h C n d v) (K : Keep h h' ws) (q : ∀ x ∈ ws, ∃ c : Cell, h[x]? = some c ∧ c.vm.isStatics = false) : Sta Z h' C n d v := by
  obtain ⟨cf, i, k, f, st, cell, h1, h2, h3, h4, h5, h6, h7⟩ := F
  refine ⟨cf, i, k, f, st, cell, h1, h2, h3, h4, K.2.1 st cell h5 (fun hm => ?_), h6, h7⟩
  obtain ⟨c, e1, e2⟩ := q _ hm
  rw [h5] at e1
  cases e1
  rw [h6] at e2
  cases e2
theorem own_ExaS {Z : State} {h : Heap} {a : Addr} {C : String} (E : Exa Z h a C) : ∃ c : Cell, h[a]? = some c ∧ c.vm.isStatics = false := by
  obtain ⟨c, k, e1, -, -, e2, -⟩ := E
  exact ⟨c, e1, e2⟩
/-- a boolean as the JVM's int -/
def own_b (b : Bool) : Int32 := if b then 1 else 0
theorem own_b_t : own_b true = 1 := rfl
theorem own_b_f : own_b false = 0 := rfl
theorem own_b0 {b : Bool} : own_b b = 0 ↔ b = false := by cases b <;> decide
theorem own_b_inj {b c : Bool} : own_b b = own_b c ↔ b = c := by cases b <;> cases c <;> decide
theorem own_leafT {b : Bool} (h : b = true) : (some (.int (nar .boolean (1 : Int32))) : Option Value) = some (.int (own_b b)) := by subst h; rfl
theorem own_leafF {b : Bool} (h : b = false) : (some (.int (nar .boolean (0 : Int32))) : Option Value) = some (.int (own_b b)) := by subst h; rfl
theorem own_bt {b : Bool} (h : b = true) : (1 : Int32) = own_b b := by subst h; rfl
theorem own_bf {b : Bool} (h : b = false) : (0 : Int32) = own_b b := by subst h; rfl
theorem own_b_nar (b : Bool) : nar .boolean (own_b b) = own_b b := by cases b <;> rfl
def own_bm (isr : Bool) (o : Int64) (f : Int32) (k v : Int64) (sp : Int32) : Int64 := (((o * (2 : Int64)) * (((f + (7 : Int32)) / (8 : Int32)).toInt64)) + (if isr then ((f + (1 : Int32)).toInt64) else (0 : Int64)) + v) - (((2 : Int64) * k) + ((sp.toInt64) * o))
theorem own_range (x : Int32) : 0 ≤ (x &&& (1073741823 : Int32)).toInt ∧ (x &&& (1073741823 : Int32)).toInt < 1073741824 := by
  have := c_mask x (1073741823 : Int32) 30 (by decide) (by decide)
  omega
theorem own_seven (f : Int32) (h : 0 ≤ f.toInt ∧ f.toInt < 1073741824) : ((f + (7 : Int32)) / (8 : Int32)).toInt64 = ((f >>> ((3 : Int32) &&& 31)).toInt64) + (if (f &&& (7 : Int32)) = (0 : Int32) then (0 : Int64) else (1 : Int64)) := by
  have e1 := c_iadd f 7
  have r1 := rng32 (f + 7)
  have e7 : (7 : Int32).toInt = 7 := rfl
  have e1' : (f + 7).toInt = f.toInt + 7 := by omega
  have e2 := (c_idiv (f + 7) 8 8 rfl (by decide)).1 (by omega)
  have e3 : (f >>> ((3 : Int32) &&& 31)).toInt = f.toInt / (2 ^ 3 : Nat) := c_ishr f 3 3 (by decide)
  have e4 : (f &&& (7 : Int32)).toInt = f.toInt % (2 ^ 3 : Nat) := c_mask f 7 3 (by decide) (by decide)
  apply Int64.toInt_inj.mp
  have a := c_ladd ((f >>> ((3 : Int32) &&& 31)).toInt64) (if (f &&& (7 : Int32)) = (0 : Int32) then (0 : Int64) else (1 : Int64))
  have ra := rng64 ((f >>> ((3 : Int32) &&& 31)).toInt64 + (if (f &&& (7 : Int32)) = (0 : Int32) then (0 : Int64) else (1 : Int64)))
  have b1 := c_i2l (f >>> ((3 : Int32) &&& 31))
  have b2 := c_i2l ((f + 7) / 8)
  by_cases q : (f &&& (7 : Int32)) = (0 : Int32)
  · simp only [q, if_true] at a ra ⊢
    have z : (0 : Int64).toInt = 0 := rfl
    rw [q] at e4
    have z2 : (0 : Int32).toInt = 0 := rfl
    omega
  · simp only [q, if_false] at a ra ⊢
    have z : (1 : Int64).toInt = 1 := rfl
    have z2 : ¬ (f &&& (7 : Int32)).toInt = 0 := fun e => q (Int32.toInt_inj.mp (e.trans rfl))
    omega
theorem own_one (f : Int32) (h : 0 ≤ f.toInt ∧ f.toInt < 1073741824) : (f + (1 : Int32)).toInt64 = f.toInt64 + (1 : Int64) := by
  apply Int64.toInt_inj.mp
  have a := c_iadd f 1
  have b := rng32 (f + 1)
  have c := c_ladd f.toInt64 1
  have d := rng64 (f.toInt64 + 1)
  have e := c_i2l f
  have g := c_i2l (f + 1)
  have z : (1 : Int64).toInt = 1 := rfl
  have z2 : (1 : Int32).toInt = 1 := rfl
  omega
theorem own_ringR (o B F k v : Int64) : (((o * (2 : Int64)) * B) + (F + (1 : Int64)) + v) - (((2 : Int64) * k) + ((2 : Int64) * o)) = ((((o * (((2 : Int64) * B) - (2 : Int64))) + (F + (1 : Int64))) + v) - ((2 : Int64) * k)) := by grind
theorem own_ringN (o B k v : Int64) : (((o * (2 : Int64)) * B) + (0 : Int64) + v) - (((2 : Int64) * k) + ((0 : Int64) * o)) = (((o * ((2 : Int64) * B)) + v) - ((2 : Int64) * k)) := by grind
theorem own_plainR (o k v : Int64) (f : Int32) (h : 0 ≤ f.toInt ∧ f.toInt < 1073741824) (z : Int64) (hz : z = (if (f &&& (7 : Int32)) = (0 : Int32) then (0 : Int64) else (1 : Int64))) :
    own_bm true o f k v (2 : Int32) = ((((o * (((2 : Int64) * (((f >>> ((3 : Int32) &&& 31)).toInt64) + z)) - (2 : Int64))) + ((f.toInt64) + (1 : Int64))) + v) - ((2 : Int64) * k)) := by
  rw [hz, ← own_seven f h, ← own_ringR, ← own_one f h]; rfl
theorem own_plainN (o k v : Int64) (f : Int32) (h : 0 ≤ f.toInt ∧ f.toInt < 1073741824) (z : Int64) (hz : z = (if (f &&& (7 : Int32)) = (0 : Int32) then (0 : Int64) else (1 : Int64))) :
    own_bm false o f k v (0 : Int32) = (((o * ((2 : Int64) * (((f >>> ((3 : Int32) &&& 31)).toInt64) + z))) + v) - ((2 : Int64) * k)) := by
  rw [hz, ← own_seven f h, ← own_ringN]; rfl
theorem own_d1_0 : decode prog_83_method_4_code 0 = .ok (.lload_n 1, 1) := by decide +kernel
theorem own_d1_1 : decode prog_83_method_4_code 1 = .ok (.ldc2_w 33, 3) := by decide +kernel
theorem own_d1_4 : decode prog_83_method_4_code 4 = .ok (.lmul, 1) := by decide +kernel
theorem own_d1_5 : decode prog_83_method_4_code 5 = .ok (.iload_n 3, 1) := by decide +kernel
theorem own_d1_6 : decode prog_83_method_4_code 6 = .ok (.bipush 7, 2) := by decide +kernel
theorem own_d1_8 : decode prog_83_method_4_code 8 = .ok (.iadd, 1) := by decide +kernel
theorem own_d1_9 : decode prog_83_method_4_code 9 = .ok (.bipush 8, 2) := by decide +kernel
theorem own_d1_11 : decode prog_83_method_4_code 11 = .ok (.idiv, 1) := by decide +kernel
theorem own_d1_12 : decode prog_83_method_4_code 12 = .ok (.i2l, 1) := by decide +kernel
theorem own_d1_13 : decode prog_83_method_4_code 13 = .ok (.lmul, 1) := by decide +kernel
theorem own_d1_14 : decode prog_83_method_4_code 14 = .ok (.lstore 8, 2) := by decide +kernel
theorem own_d1_16 : decode prog_83_method_4_code 16 = .ok (.aload_n 0, 1) := by decide +kernel
theorem own_d1_17 : decode prog_83_method_4_code 17 = .ok (.getstatic 3, 3) := by decide +kernel
theorem own_d1_20 : decode prog_83_method_4_code 20 = .ok (.if_acmp .ne 10, 3) := by decide +kernel
theorem own_d1_23 : decode prog_83_method_4_code 23 = .ok (.iload_n 3, 1) := by decide +kernel
theorem own_d1_24 : decode prog_83_method_4_code 24 = .ok (.iconst 1, 1) := by decide +kernel
theorem own_d1_25 : decode prog_83_method_4_code 25 = .ok (.iadd, 1) := by decide +kernel
theorem own_d1_26 : decode prog_83_method_4_code 26 = .ok (.i2l, 1) := by decide +kernel
theorem own_d1_27 : decode prog_83_method_4_code 27 = .ok (.goto 4, 3) := by decide +kernel
theorem own_d1_30 : decode prog_83_method_4_code 30 = .ok (.lconst 0, 1) := by decide +kernel
theorem own_d1_31 : decode prog_83_method_4_code 31 = .ok (.lstore 10, 2) := by decide +kernel
theorem own_d1_33 : decode prog_83_method_4_code 33 = .ok (.ldc2_w 33, 3) := by decide +kernel
theorem own_d1_36 : decode prog_83_method_4_code 36 = .ok (.lload 4, 2) := by decide +kernel
theorem own_d1_38 : decode prog_83_method_4_code 38 = .ok (.lmul, 1) := by decide +kernel
theorem own_d1_39 : decode prog_83_method_4_code 39 = .ok (.aload_n 0, 1) := by decide +kernel
theorem own_d1_40 : decode prog_83_method_4_code 40 = .ok (.getfield 29, 3) := by decide +kernel
theorem own_d1_43 : decode prog_83_method_4_code 43 = .ok (.i2l, 1) := by decide +kernel
theorem own_d1_44 : decode prog_83_method_4_code 44 = .ok (.lload_n 1, 1) := by decide +kernel
theorem own_d1_45 : decode prog_83_method_4_code 45 = .ok (.lmul, 1) := by decide +kernel
theorem own_d1_46 : decode prog_83_method_4_code 46 = .ok (.ladd, 1) := by decide +kernel
theorem own_d1_47 : decode prog_83_method_4_code 47 = .ok (.lstore 12, 2) := by decide +kernel
theorem own_d1_49 : decode prog_83_method_4_code 49 = .ok (.lload 8, 2) := by decide +kernel
theorem own_d1_51 : decode prog_83_method_4_code 51 = .ok (.lload 10, 2) := by decide +kernel
theorem own_d1_53 : decode prog_83_method_4_code 53 = .ok (.ladd, 1) := by decide +kernel
theorem own_d1_54 : decode prog_83_method_4_code 54 = .ok (.lload 6, 2) := by decide +kernel
theorem own_d1_56 : decode prog_83_method_4_code 56 = .ok (.ladd, 1) := by decide +kernel
theorem own_d1_57 : decode prog_83_method_4_code 57 = .ok (.lload 12, 2) := by decide +kernel
theorem own_d1_59 : decode prog_83_method_4_code 59 = .ok (.lsub, 1) := by decide +kernel
theorem own_d1_60 : decode prog_83_method_4_code 60 = .ok (.lreturn, 1) := by decide +kernel
theorem own_ef1 (m : MethodId) (x0 : Addr) (x1 : Int64) (x2 : Int32) (x3 : Int64) (x4 : Int64) : entryFrame m #[(.ref x0), (.long x1), (.int x2), (.long x3), (.long x4)] 14 = mkF m 0 #[.val (.ref x0), .val (.long x1), .second, .val (.int x2), .val (.long x3), .second, .val (.long x4), .second, .unset, .unset, .unset, .unset, .unset, .unset] [] := by first | (simp [entryFrame, mkF, argsToLocals, Value.category]; done) | rfl
def own_Q1 (Z : State) (a : Addr) (ob : Int64) (fi : Int32) (ke : Int64) (va : Int64) (st_ROWS : Addr) (sp : Int32) (h0 : Heap) (n0 : Nat) (v : Option Value) (h : Heap) (L : List Loc) : Prop := v = some (.long (own_bm (decide (a = st_ROWS)) ob fi ke va sp)) ∧ L = [] ∧ h = h0
theorem own_pn0 : plainName "com/example/quillpack/quillpack/schema/RecordPlace" = true := by first | (simp [plainName, overriddenIn]; done) | decide +kernel
set_option maxHeartbeats 40000000 in
theorem own_rm1 (l : Launch) (Z : State) (a0 : Array Value) (hw : ∀ d ∈ tables_1, d.before a0 Z = true) (ws : List Jvm.Cond) (a : Addr) (ob : Int64) (fi : Int32) (ke : Int64) (va : Int64) (st_ROWS : Addr) (sp : Int32) (h0 : Heap) (n0 : Nat) (Z0 : n0 ≤ h0.size) (S_ROWS : Sta Z h0 "com/example/quillpack/quillpack/schema/RecordPlace" "ROWS" "Lcom/example/quillpack/quillpack/schema/RecordPlace;" (.ref st_ROWS)) (F_sp : Fld Z h0 a "com/example/quillpack/quillpack/schema/RecordPlace" "savedPerObject" "I" (.int sp)) :
    MetFree l (⟨"com/example/quillpack/quillpack/schema/RecordPlace", "bytesMore", "(JIJJ)J"⟩ : MethodName) (head1 (Jvm.Cond.code (⟨"com/example/quillpack/quillpack/schema/RecordPlace", "bytesMore", "(JIJJ)J"⟩ : MethodName) prog_83_method_4_code 14 (some .long) :: ws) ({ frames := 0, cells := 0, slots := 0, locals := 0 } : Room)) (fun argv U => argv = #[(.ref a), (.long ob), (.int fi), (.long ke), (.long va)] ∧ Z.Warmed39 U.vm ∧ U.heap = h0) (fun _ _ _ _ _ => True) (fun _ U o U' => ∃ v L, o = .returned v ∧ own_Q1 Z a ob fi ke va st_ROWS sp h0 n0 v U'.heap L ∧ FrameEnd U o U' L ({ frames := 0, cells := 0, slots := 0, locals := 0 } : Room).cells ({ frames := 0, cells := 0, slots := 0, locals := 0 } : Room).slots) := by
  refine MetFree.of_bodySF (plainFor_of_name own_pn0) hisR ?_
  intro p e s m args below meth c s₁ Bd hml0 hP hK
  obtain ⟨rfl, hZ, hh⟩ := hP
  have hx := Bd.exec
  have hby := Bd.bytes
  have hml : c.maxLocals = 14 := hml0
  have hown : s.vm.findClass "com/example/quillpack/quillpack/schema/RecordPlace" = some m.cls := findClass_of_methodNamed Bd.named
  have hnm := (name_of_methodNamed Bd.named Bd.method).1
  have X0 : Stand p l e ({ frames := 0, cells := 0, slots := 0, locals := 0 } : Room) s m #[(.ref a), (.long ob), (.int fi), (.long ke), (.long va)] below meth c s₁ [] 0 0 := Stand.of_body Bd
  have e0 : s₁.heap = h0 := by rw [← hh, Bd.state]; rfl
  have N0 := Fr.nil n0
  have pre0 : ∀ t, Steps p.tables e below (s₁.setTop (mkF m 0 #[.val (.ref a), .val (.long ob), .second, .val (.int fi), .val (.long ke), .second, .val (.long va), .second, .unset, .unset, .unset, .unset, .unset, .unset] [])) t → Steps p.tables e below (s₁.setTop (entryFrame m #[(.ref a), (.long ob), (.int fi), (.long ke), (.long va)] 14)) t := fun t k => castTop (own_ef1 m a ob fi ke va) k
  have S1 : ∀ t, Steps p.tables e below (s₁.setTop (mkF m 17 #[.val (.ref a), .val (.long ob), .second, .val (.int fi), .val (.long ke), .second, .val (.long va), .second, .val (.long ((ob * (2 : Int64)) * (((fi + (7 : Int32)) / (8 : Int32)).toInt64))), .second, .unset, .unset, .unset, .unset] [(.ref a)])) t → Steps p.tables e below (s₁.setTop (entryFrame m #[(.ref a), (.long ob), (.int fi), (.long ke), (.long va)] 14)) t := fun t kt => by
    refine pre0 t ?_
    show Steps p.tables e below (s₁.setTop (mkF m 0 #[.val (.ref a), .val (.long ob), .second, .val (.int fi), .val (.long ke), .second, .val (.long va), .second, .unset, .unset, .unset, .unset, .unset, .unset] [])) t
    refine XS.lloadN X0.here hx rfl (hb hby own_d1_0) rfl ?_
    show Steps p.tables e below (s₁.setTop (mkF m 1 #[.val (.ref a), .val (.long ob), .second, .val (.int fi), .val (.long ke), .second, .val (.long va), .second, .unset, .unset, .unset, .unset, .unset, .unset] [(.long ob)])) t
    refine X0.ldc2Long hx hown (mvT hZ (hw _ (List.mem_of_getElem? (i := 9) rfl))) (g := (mkF m 1 #[.val (.ref a), .val (.long ob), .second, .val (.int fi), .val (.long ke), .second, .val (.long va), .second, .unset, .unset, .unset, .unset, .unset, .unset] [(.long ob)])) rfl (hb hby own_d1_1) _ ?_
    show Steps p.tables e below (s₁.setTop (mkF m 4 #[.val (.ref a), .val (.long ob), .second, .val (.int fi), .val (.long ke), .second, .val (.long va), .second, .unset, .unset, .unset, .unset, .unset, .unset] [(.long (2 : Int64)), (.long ob)])) t
    refine XS.lmul X0.here hx rfl (hb hby own_d1_4) rfl ?_
    show Steps p.tables e below (s₁.setTop (mkF m 5 #[.val (.ref a), .val (.long ob), .second, .val (.int fi), .val (.long ke), .second, .val (.long va), .second, .unset, .unset, .unset, .unset, .unset, .unset] [(.long (ob * (2 : Int64)))])) t
    refine XS.iloadN X0.here hx rfl (hb hby own_d1_5) rfl ?_
    show Steps p.tables e below (s₁.setTop (mkF m 6 #[.val (.ref a), .val (.long ob), .second, .val (.int fi), .val (.long ke), .second, .val (.long va), .second, .unset, .unset, .unset, .unset, .unset, .unset] [(.int fi), (.long (ob * (2 : Int64)))])) t
    refine XS.bipush X0.here hx rfl (hb hby own_d1_6) ?_
    show Steps p.tables e below (s₁.setTop (mkF m 8 #[.val (.ref a), .val (.long ob), .second, .val (.int fi), .val (.long ke), .second, .val (.long va), .second, .unset, .unset, .unset, .unset, .unset, .unset] [(.int (7 : Int32)), (.int fi), (.long (ob * (2 : Int64)))])) t
    refine XS.iadd X0.here hx rfl (hb hby own_d1_8) rfl ?_
    show Steps p.tables e below (s₁.setTop (mkF m 9 #[.val (.ref a), .val (.long ob), .second, .val (.int fi), .val (.long ke), .second, .val (.long va), .second, .unset, .unset, .unset, .unset, .unset, .unset] [(.int (fi + (7 : Int32))), (.long (ob * (2 : Int64)))])) t
    refine XS.bipush X0.here hx rfl (hb hby own_d1_9) ?_
    show Steps p.tables e below (s₁.setTop (mkF m 11 #[.val (.ref a), .val (.long ob), .second, .val (.int fi), .val (.long ke), .second, .val (.long va), .second, .unset, .unset, .unset, .unset, .unset, .unset] [(.int (8 : Int32)), (.int (fi + (7 : Int32))), (.long (ob * (2 : Int64)))])) t
    refine XS.idiv X0.here hx rfl (hb hby own_d1_11) rfl (by decide) ?_
    show Steps p.tables e below (s₁.setTop (mkF m 12 #[.val (.ref a), .val (.long ob), .second, .val (.int fi), .val (.long ke), .second, .val (.long va), .second, .unset, .unset, .unset, .unset, .unset, .unset] [(.int ((fi + (7 : Int32)) / (8 : Int32))), (.long (ob * (2 : Int64)))])) t
    refine XS.i2l X0.here hx rfl (hb hby own_d1_12) rfl ?_
    show Steps p.tables e below (s₁.setTop (mkF m 13 #[.val (.ref a), .val (.long ob), .second, .val (.int fi), .val (.long ke), .second, .val (.long va), .second, .unset, .unset, .unset, .unset, .unset, .unset] [(.long (((fi + (7 : Int32)) / (8 : Int32)).toInt64)), (.long (ob * (2 : Int64)))])) t
    refine XS.lmul X0.here hx rfl (hb hby own_d1_13) rfl ?_
    show Steps p.tables e below (s₁.setTop (mkF m 14 #[.val (.ref a), .val (.long ob), .second, .val (.int fi), .val (.long ke), .second, .val (.long va), .second, .unset, .unset, .unset, .unset, .unset, .unset] [(.long ((ob * (2 : Int64)) * (((fi + (7 : Int32)) / (8 : Int32)).toInt64)))])) t
    refine XS.lstore X0.here hx rfl (hb hby own_d1_14) rfl (l' := #[.val (.ref a), .val (.long ob), .second, .val (.int fi), .val (.long ke), .second, .val (.long va), .second, .val (.long ((ob * (2 : Int64)) * (((fi + (7 : Int32)) / (8 : Int32)).toInt64))), .second, .unset, .unset, .unset, .unset]) rfl ?_
    show Steps p.tables e below (s₁.setTop (mkF m 16 #[.val (.ref a), .val (.long ob), .second, .val (.int fi), .val (.long ke), .second, .val (.long va), .second, .val (.long ((ob * (2 : Int64)) * (((fi + (7 : Int32)) / (8 : Int32)).toInt64))), .second, .unset, .unset, .unset, .unset] [])) t
    refine XS.aloadN X0.here hx rfl (hb hby own_d1_16) rfl rfl ?_
    exact kt
  obtain ⟨T2, X2, e2, st2⟩ := getS2 X0 hx hZ hown (host := "") (Or.inl (hw _ (List.mem_of_getElem? (i := 10) rfl))) Via.refl e0 S_ROWS (g := (mkF m 17 #[.val (.ref a), .val (.long ob), .second, .val (.int fi), .val (.long ke), .second, .val (.long va), .second, .val (.long ((ob * (2 : Int64)) * (((fi + (7 : Int32)) / (8 : Int32)).toInt64))), .second, .unset, .unset, .unset, .unset] [(.ref a)])) rfl (hb hby own_d1_17)
  have S3 : ∀ t, Steps p.tables e below (T2.setTop (mkF m 20 #[.val (.ref a), .val (.long ob), .second, .val (.int fi), .val (.long ke), .second, .val (.long va), .second, .val (.long ((ob * (2 : Int64)) * (((fi + (7 : Int32)) / (8 : Int32)).toInt64))), .second, .unset, .unset, .unset, .unset] [(.ref st_ROWS), (.ref a)])) t → Steps p.tables e below (s₁.setTop (entryFrame m #[(.ref a), (.long ob), (.int fi), (.long ke), (.long va)] 14)) t := fun t kt => S1 t (st2 _ kt)
  by_cases hc20 : a = st_ROWS
  · skip
    have S4 : ∀ t, Steps p.tables e below (T2.setTop (mkF m 40 #[.val (.ref a), .val (.long ob), .second, .val (.int fi), .val (.long ke), .second, .val (.long va), .second, .val (.long ((ob * (2 : Int64)) * (((fi + (7 : Int32)) / (8 : Int32)).toInt64))), .second, .val (.long ((fi + (1 : Int32)).toInt64)), .second, .unset, .unset] [(.ref a), (.long ((2 : Int64) * ke))])) t → Steps p.tables e below (s₁.setTop (entryFrame m #[(.ref a), (.long ob), (.int fi), (.long ke), (.long va)] 14)) t := fun t kt => by
      refine S3 t ?_
      show Steps p.tables e below (T2.setTop (mkF m 20 #[.val (.ref a), .val (.long ob), .second, .val (.int fi), .val (.long ke), .second, .val (.long va), .second, .val (.long ((ob * (2 : Int64)) * (((fi + (7 : Int32)) / (8 : Int32)).toInt64))), .second, .unset, .unset, .unset, .unset] [(.ref st_ROWS), (.ref a)])) t
      refine Jvm.RoadKit.acmp (g := (mkF m 20 #[.val (.ref a), .val (.long ob), .second, .val (.int fi), .val (.long ke), .second, .val (.long va), .second, .val (.long ((ob * (2 : Int64)) * (((fi + (7 : Int32)) / (8 : Int32)).toInt64))), .second, .unset, .unset, .unset, .unset] [(.ref st_ROWS), (.ref a)])) X2 hx rfl rfl rfl (pc0 := 20) (pc' := 23) (same := true) rfl (hb hby own_d1_20) rfl (decide_eq_true (congrArg Value.ref hc20)) (by decide) (by decide) ?_
      show Steps p.tables e below (T2.setTop (mkF m 23 #[.val (.ref a), .val (.long ob), .second, .val (.int fi), .val (.long ke), .second, .val (.long va), .second, .val (.long ((ob * (2 : Int64)) * (((fi + (7 : Int32)) / (8 : Int32)).toInt64))), .second, .unset, .unset, .unset, .unset] [])) t
      refine XS.iloadN X2.here hx rfl (hb hby own_d1_23) rfl ?_
      show Steps p.tables e below (T2.setTop (mkF m 24 #[.val (.ref a), .val (.long ob), .second, .val (.int fi), .val (.long ke), .second, .val (.long va), .second, .val (.long ((ob * (2 : Int64)) * (((fi + (7 : Int32)) / (8 : Int32)).toInt64))), .second, .unset, .unset, .unset, .unset] [(.int fi)])) t
      refine XS.iconst X2.here hx rfl (hb hby own_d1_24) ?_
      show Steps p.tables e below (T2.setTop (mkF m 25 #[.val (.ref a), .val (.long ob), .second, .val (.int fi), .val (.long ke), .second, .val (.long va), .second, .val (.long ((ob * (2 : Int64)) * (((fi + (7 : Int32)) / (8 : Int32)).toInt64))), .second, .unset, .unset, .unset, .unset] [(.int (1 : Int32)), (.int fi)])) t
      refine XS.iadd X2.here hx rfl (hb hby own_d1_25) rfl ?_
      show Steps p.tables e below (T2.setTop (mkF m 26 #[.val (.ref a), .val (.long ob), .second, .val (.int fi), .val (.long ke), .second, .val (.long va), .second, .val (.long ((ob * (2 : Int64)) * (((fi + (7 : Int32)) / (8 : Int32)).toInt64))), .second, .unset, .unset, .unset, .unset] [(.int (fi + (1 : Int32)))])) t
      refine XS.i2l X2.here hx rfl (hb hby own_d1_26) rfl ?_
      show Steps p.tables e below (T2.setTop (mkF m 27 #[.val (.ref a), .val (.long ob), .second, .val (.int fi), .val (.long ke), .second, .val (.long va), .second, .val (.long ((ob * (2 : Int64)) * (((fi + (7 : Int32)) / (8 : Int32)).toInt64))), .second, .unset, .unset, .unset, .unset] [(.long ((fi + (1 : Int32)).toInt64))])) t
      refine XS.goto X2.here hx rfl (pc0 := 27) (pc' := 31) rfl (hb hby own_d1_27) (by decide) (by decide) ?_
      show Steps p.tables e below (T2.setTop (mkF m 31 #[.val (.ref a), .val (.long ob), .second, .val (.int fi), .val (.long ke), .second, .val (.long va), .second, .val (.long ((ob * (2 : Int64)) * (((fi + (7 : Int32)) / (8 : Int32)).toInt64))), .second, .unset, .unset, .unset, .unset] [(.long ((fi + (1 : Int32)).toInt64))])) t
      refine XS.lstore X2.here hx rfl (hb hby own_d1_31) rfl (l' := #[.val (.ref a), .val (.long ob), .second, .val (.int fi), .val (.long ke), .second, .val (.long va), .second, .val (.long ((ob * (2 : Int64)) * (((fi + (7 : Int32)) / (8 : Int32)).toInt64))), .second, .val (.long ((fi + (1 : Int32)).toInt64)), .second, .unset, .unset]) rfl ?_
      show Steps p.tables e below (T2.setTop (mkF m 33 #[.val (.ref a), .val (.long ob), .second, .val (.int fi), .val (.long ke), .second, .val (.long va), .second, .val (.long ((ob * (2 : Int64)) * (((fi + (7 : Int32)) / (8 : Int32)).toInt64))), .second, .val (.long ((fi + (1 : Int32)).toInt64)), .second, .unset, .unset] [])) t
      refine X2.ldc2Long hx hown (mvT hZ (hw _ (List.mem_of_getElem? (i := 9) rfl))) (g := (mkF m 33 #[.val (.ref a), .val (.long ob), .second, .val (.int fi), .val (.long ke), .second, .val (.long va), .second, .val (.long ((ob * (2 : Int64)) * (((fi + (7 : Int32)) / (8 : Int32)).toInt64))), .second, .val (.long ((fi + (1 : Int32)).toInt64)), .second, .unset, .unset] [])) rfl (hb hby own_d1_33) _ ?_
      show Steps p.tables e below (T2.setTop (mkF m 36 #[.val (.ref a), .val (.long ob), .second, .val (.int fi), .val (.long ke), .second, .val (.long va), .second, .val (.long ((ob * (2 : Int64)) * (((fi + (7 : Int32)) / (8 : Int32)).toInt64))), .second, .val (.long ((fi + (1 : Int32)).toInt64)), .second, .unset, .unset] [(.long (2 : Int64))])) t
      refine XS.lload X2.here hx rfl (hb hby own_d1_36) rfl ?_
      show Steps p.tables e below (T2.setTop (mkF m 38 #[.val (.ref a), .val (.long ob), .second, .val (.int fi), .val (.long ke), .second, .val (.long va), .second, .val (.long ((ob * (2 : Int64)) * (((fi + (7 : Int32)) / (8 : Int32)).toInt64))), .second, .val (.long ((fi + (1 : Int32)).toInt64)), .second, .unset, .unset] [(.long ke), (.long (2 : Int64))])) t
      refine XS.lmul X2.here hx rfl (hb hby own_d1_38) rfl ?_
      show Steps p.tables e below (T2.setTop (mkF m 39 #[.val (.ref a), .val (.long ob), .second, .val (.int fi), .val (.long ke), .second, .val (.long va), .second, .val (.long ((ob * (2 : Int64)) * (((fi + (7 : Int32)) / (8 : Int32)).toInt64))), .second, .val (.long ((fi + (1 : Int32)).toInt64)), .second, .unset, .unset] [(.long ((2 : Int64) * ke))])) t
      refine XS.aloadN X2.here hx rfl (hb hby own_d1_39) rfl rfl ?_
      exact kt
    obtain ⟨T5, X5, e5, st5⟩ := getF X2 hx hZ hown (host := "") (Or.inl (hw _ (List.mem_of_getElem? (i := 11) rfl))) Via.refl e2 F_sp (g := (mkF m 40 #[.val (.ref a), .val (.long ob), .second, .val (.int fi), .val (.long ke), .second, .val (.long va), .second, .val (.long ((ob * (2 : Int64)) * (((fi + (7 : Int32)) / (8 : Int32)).toInt64))), .second, .val (.long ((fi + (1 : Int32)).toInt64)), .second, .unset, .unset] [(.ref a), (.long ((2 : Int64) * ke))])) rfl rfl (hb hby own_d1_40)
    have S6 : ∀ t, Steps p.tables e below (T5.setTop (mkF m 43 #[.val (.ref a), .val (.long ob), .second, .val (.int fi), .val (.long ke), .second, .val (.long va), .second, .val (.long ((ob * (2 : Int64)) * (((fi + (7 : Int32)) / (8 : Int32)).toInt64))), .second, .val (.long ((fi + (1 : Int32)).toInt64)), .second, .unset, .unset] [(.int sp), (.long ((2 : Int64) * ke))])) t → Steps p.tables e below (s₁.setTop (entryFrame m #[(.ref a), (.long ob), (.int fi), (.long ke), (.long va)] 14)) t := fun t kt => S4 t (st5 _ kt)
    have S7 : ∀ t, Steps p.tables e below (T5.setTop (mkF m 60 #[.val (.ref a), .val (.long ob), .second, .val (.int fi), .val (.long ke), .second, .val (.long va), .second, .val (.long ((ob * (2 : Int64)) * (((fi + (7 : Int32)) / (8 : Int32)).toInt64))), .second, .val (.long ((fi + (1 : Int32)).toInt64)), .second, .val (.long (((2 : Int64) * ke) + ((sp.toInt64) * ob))), .second] [(.long (((((ob * (2 : Int64)) * (((fi + (7 : Int32)) / (8 : Int32)).toInt64)) + ((fi + (1 : Int32)).toInt64)) + va) - (((2 : Int64) * ke) + ((sp.toInt64) * ob))))])) t → Steps p.tables e below (s₁.setTop (entryFrame m #[(.ref a), (.long ob), (.int fi), (.long ke), (.long va)] 14)) t := fun t kt => by
      refine S6 t ?_
      show Steps p.tables e below (T5.setTop (mkF m 43 #[.val (.ref a), .val (.long ob), .second, .val (.int fi), .val (.long ke), .second, .val (.long va), .second, .val (.long ((ob * (2 : Int64)) * (((fi + (7 : Int32)) / (8 : Int32)).toInt64))), .second, .val (.long ((fi + (1 : Int32)).toInt64)), .second, .unset, .unset] [(.int sp), (.long ((2 : Int64) * ke))])) t
      refine XS.i2l X5.here hx rfl (hb hby own_d1_43) rfl ?_
      show Steps p.tables e below (T5.setTop (mkF m 44 #[.val (.ref a), .val (.long ob), .second, .val (.int fi), .val (.long ke), .second, .val (.long va), .second, .val (.long ((ob * (2 : Int64)) * (((fi + (7 : Int32)) / (8 : Int32)).toInt64))), .second, .val (.long ((fi + (1 : Int32)).toInt64)), .second, .unset, .unset] [(.long (sp.toInt64)), (.long ((2 : Int64) * ke))])) t
      refine XS.lloadN X5.here hx rfl (hb hby own_d1_44) rfl ?_
      show Steps p.tables e below (T5.setTop (mkF m 45 #[.val (.ref a), .val (.long ob), .second, .val (.int fi), .val (.long ke), .second, .val (.long va), .second, .val (.long ((ob * (2 : Int64)) * (((fi + (7 : Int32)) / (8 : Int32)).toInt64))), .second, .val (.long ((fi + (1 : Int32)).toInt64)), .second, .unset, .unset] [(.long ob), (.long (sp.toInt64)), (.long ((2 : Int64) * ke))])) t
      refine XS.lmul X5.here hx rfl (hb hby own_d1_45) rfl ?_
      show Steps p.tables e below (T5.setTop (mkF m 46 #[.val (.ref a), .val (.long ob), .second, .val (.int fi), .val (.long ke), .second, .val (.long va), .second, .val (.long ((ob * (2 : Int64)) * (((fi + (7 : Int32)) / (8 : Int32)).toInt64))), .second, .val (.long ((fi + (1 : Int32)).toInt64)), .second, .unset, .unset] [(.long ((sp.toInt64) * ob)), (.long ((2 : Int64) * ke))])) t
      refine XS.ladd X5.here hx rfl (hb hby own_d1_46) rfl ?_
      show Steps p.tables e below (T5.setTop (mkF m 47 #[.val (.ref a), .val (.long ob), .second, .val (.int fi), .val (.long ke), .second, .val (.long va), .second, .val (.long ((ob * (2 : Int64)) * (((fi + (7 : Int32)) / (8 : Int32)).toInt64))), .second, .val (.long ((fi + (1 : Int32)).toInt64)), .second, .unset, .unset] [(.long (((2 : Int64) * ke) + ((sp.toInt64) * ob)))])) t
      refine XS.lstore X5.here hx rfl (hb hby own_d1_47) rfl (l' := #[.val (.ref a), .val (.long ob), .second, .val (.int fi), .val (.long ke), .second, .val (.long va), .second, .val (.long ((ob * (2 : Int64)) * (((fi + (7 : Int32)) / (8 : Int32)).toInt64))), .second, .val (.long ((fi + (1 : Int32)).toInt64)), .second, .val (.long (((2 : Int64) * ke) + ((sp.toInt64) * ob))), .second]) rfl ?_
      show Steps p.tables e below (T5.setTop (mkF m 49 #[.val (.ref a), .val (.long ob), .second, .val (.int fi), .val (.long ke), .second, .val (.long va), .second, .val (.long ((ob * (2 : Int64)) * (((fi + (7 : Int32)) / (8 : Int32)).toInt64))), .second, .val (.long ((fi + (1 : Int32)).toInt64)), .second, .val (.long (((2 : Int64) * ke) + ((sp.toInt64) * ob))), .second] [])) t
      refine XS.lload X5.here hx rfl (hb hby own_d1_49) rfl ?_
      show Steps p.tables e below (T5.setTop (mkF m 51 #[.val (.ref a), .val (.long ob), .second, .val (.int fi), .val (.long ke), .second, .val (.long va), .second, .val (.long ((ob * (2 : Int64)) * (((fi + (7 : Int32)) / (8 : Int32)).toInt64))), .second, .val (.long ((fi + (1 : Int32)).toInt64)), .second, .val (.long (((2 : Int64) * ke) + ((sp.toInt64) * ob))), .second] [(.long ((ob * (2 : Int64)) * (((fi + (7 : Int32)) / (8 : Int32)).toInt64)))])) t
      refine XS.lload X5.here hx rfl (hb hby own_d1_51) rfl ?_
      show Steps p.tables e below (T5.setTop (mkF m 53 #[.val (.ref a), .val (.long ob), .second, .val (.int fi), .val (.long ke), .second, .val (.long va), .second, .val (.long ((ob * (2 : Int64)) * (((fi + (7 : Int32)) / (8 : Int32)).toInt64))), .second, .val (.long ((fi + (1 : Int32)).toInt64)), .second, .val (.long (((2 : Int64) * ke) + ((sp.toInt64) * ob))), .second] [(.long ((fi + (1 : Int32)).toInt64)), (.long ((ob * (2 : Int64)) * (((fi + (7 : Int32)) / (8 : Int32)).toInt64)))])) t
      refine XS.ladd X5.here hx rfl (hb hby own_d1_53) rfl ?_
      show Steps p.tables e below (T5.setTop (mkF m 54 #[.val (.ref a), .val (.long ob), .second, .val (.int fi), .val (.long ke), .second, .val (.long va), .second, .val (.long ((ob * (2 : Int64)) * (((fi + (7 : Int32)) / (8 : Int32)).toInt64))), .second, .val (.long ((fi + (1 : Int32)).toInt64)), .second, .val (.long (((2 : Int64) * ke) + ((sp.toInt64) * ob))), .second] [(.long (((ob * (2 : Int64)) * (((fi + (7 : Int32)) / (8 : Int32)).toInt64)) + ((fi + (1 : Int32)).toInt64)))])) t
      refine XS.lload X5.here hx rfl (hb hby own_d1_54) rfl ?_
      show Steps p.tables e below (T5.setTop (mkF m 56 #[.val (.ref a), .val (.long ob), .second, .val (.int fi), .val (.long ke), .second, .val (.long va), .second, .val (.long ((ob * (2 : Int64)) * (((fi + (7 : Int32)) / (8 : Int32)).toInt64))), .second, .val (.long ((fi + (1 : Int32)).toInt64)), .second, .val (.long (((2 : Int64) * ke) + ((sp.toInt64) * ob))), .second] [(.long va), (.long (((ob * (2 : Int64)) * (((fi + (7 : Int32)) / (8 : Int32)).toInt64)) + ((fi + (1 : Int32)).toInt64)))])) t
      refine XS.ladd X5.here hx rfl (hb hby own_d1_56) rfl ?_
      show Steps p.tables e below (T5.setTop (mkF m 57 #[.val (.ref a), .val (.long ob), .second, .val (.int fi), .val (.long ke), .second, .val (.long va), .second, .val (.long ((ob * (2 : Int64)) * (((fi + (7 : Int32)) / (8 : Int32)).toInt64))), .second, .val (.long ((fi + (1 : Int32)).toInt64)), .second, .val (.long (((2 : Int64) * ke) + ((sp.toInt64) * ob))), .second] [(.long ((((ob * (2 : Int64)) * (((fi + (7 : Int32)) / (8 : Int32)).toInt64)) + ((fi + (1 : Int32)).toInt64)) + va))])) t
      refine XS.lload X5.here hx rfl (hb hby own_d1_57) rfl ?_
      show Steps p.tables e below (T5.setTop (mkF m 59 #[.val (.ref a), .val (.long ob), .second, .val (.int fi), .val (.long ke), .second, .val (.long va), .second, .val (.long ((ob * (2 : Int64)) * (((fi + (7 : Int32)) / (8 : Int32)).toInt64))), .second, .val (.long ((fi + (1 : Int32)).toInt64)), .second, .val (.long (((2 : Int64) * ke) + ((sp.toInt64) * ob))), .second] [(.long (((2 : Int64) * ke) + ((sp.toInt64) * ob))), (.long ((((ob * (2 : Int64)) * (((fi + (7 : Int32)) / (8 : Int32)).toInt64)) + ((fi + (1 : Int32)).toInt64)) + va))])) t
      refine XS.lsub X5.here hx rfl (hb hby own_d1_59) rfl ?_
      exact kt
    obtain ⟨fs, hr, hrun, hended, hW, hsame⟩ := X5.leave (v := some (.long (((((ob * (2 : Int64)) * (((fi + (7 : Int32)) / (8 : Int32)).toInt64)) + ((fi + (1 : Int32)).toInt64)) + va) - (((2 : Int64) * ke) + ((sp.toInt64) * ob))))) (fun h => by rw [Bd.returns] at h; cases h)
    refine ⟨_, _, S7 _ ?_, hrun, hended, _, _, rfl, ?_, ⟨_, rfl⟩, hW, hsame.mono (by decide) (by decide)⟩
    · show Steps p.tables e below (T5.setTop (mkF m 60 #[.val (.ref a), .val (.long ob), .second, .val (.int fi), .val (.long ke), .second, .val (.long va), .second, .val (.long ((ob * (2 : Int64)) * (((fi + (7 : Int32)) / (8 : Int32)).toInt64))), .second, .val (.long ((fi + (1 : Int32)).toInt64)), .second, .val (.long (((2 : Int64) * ke) + ((sp.toInt64) * ob))), .second] [(.long (((((ob * (2 : Int64)) * (((fi + (7 : Int32)) / (8 : Int32)).toInt64)) + ((fi + (1 : Int32)).toInt64)) + va) - (((2 : Int64) * ke) + ((sp.toInt64) * ob))))])) _
      exact X5.lreturnOut hx Bd.returns (hb hby own_d1_60) hr
    · show own_Q1 Z a ob fi ke va st_ROWS sp h0 n0 _ T5.heap _
      rw [e5]
      exact ⟨by rw [decide_eq_true hc20]; rfl, rfl, rfl⟩
  · skip
    have S8 : ∀ t, Steps p.tables e below (T2.setTop (mkF m 40 #[.val (.ref a), .val (.long ob), .second, .val (.int fi), .val (.long ke), .second, .val (.long va), .second, .val (.long ((ob * (2 : Int64)) * (((fi + (7 : Int32)) / (8 : Int32)).toInt64))), .second, .val (.long (0 : Int64)), .second, .unset, .unset] [(.ref a), (.long ((2 : Int64) * ke))])) t → Steps p.tables e below (s₁.setTop (entryFrame m #[(.ref a), (.long ob), (.int fi), (.long ke), (.long va)] 14)) t := fun t kt => by
      refine S3 t ?_
      show Steps p.tables e below (T2.setTop (mkF m 20 #[.val (.ref a), .val (.long ob), .second, .val (.int fi), .val (.long ke), .second, .val (.long va), .second, .val (.long ((ob * (2 : Int64)) * (((fi + (7 : Int32)) / (8 : Int32)).toInt64))), .second, .unset, .unset, .unset, .unset] [(.ref st_ROWS), (.ref a)])) t
      refine Jvm.RoadKit.acmp (g := (mkF m 20 #[.val (.ref a), .val (.long ob), .second, .val (.int fi), .val (.long ke), .second, .val (.long va), .second, .val (.long ((ob * (2 : Int64)) * (((fi + (7 : Int32)) / (8 : Int32)).toInt64))), .second, .unset, .unset, .unset, .unset] [(.ref st_ROWS), (.ref a)])) X2 hx rfl rfl rfl (pc0 := 20) (pc' := 30) (same := false) rfl (hb hby own_d1_20) rfl (decide_eq_false fun q => hc20 (Value.ref.inj q)) (by decide) (by decide) ?_
      show Steps p.tables e below (T2.setTop (mkF m 30 #[.val (.ref a), .val (.long ob), .second, .val (.int fi), .val (.long ke), .second, .val (.long va), .second, .val (.long ((ob * (2 : Int64)) * (((fi + (7 : Int32)) / (8 : Int32)).toInt64))), .second, .unset, .unset, .unset, .unset] [])) t
      refine XS.lconst X2.here hx rfl (hb hby own_d1_30) ?_
      show Steps p.tables e below (T2.setTop (mkF m 31 #[.val (.ref a), .val (.long ob), .second, .val (.int fi), .val (.long ke), .second, .val (.long va), .second, .val (.long ((ob * (2 : Int64)) * (((fi + (7 : Int32)) / (8 : Int32)).toInt64))), .second, .unset, .unset, .unset, .unset] [(.long (0 : Int64))])) t
      refine XS.lstore X2.here hx rfl (hb hby own_d1_31) rfl (l' := #[.val (.ref a), .val (.long ob), .second, .val (.int fi), .val (.long ke), .second, .val (.long va), .second, .val (.long ((ob * (2 : Int64)) * (((fi + (7 : Int32)) / (8 : Int32)).toInt64))), .second, .val (.long (0 : Int64)), .second, .unset, .unset]) rfl ?_
      show Steps p.tables e below (T2.setTop (mkF m 33 #[.val (.ref a), .val (.long ob), .second, .val (.int fi), .val (.long ke), .second, .val (.long va), .second, .val (.long ((ob * (2 : Int64)) * (((fi + (7 : Int32)) / (8 : Int32)).toInt64))), .second, .val (.long (0 : Int64)), .second, .unset, .unset] [])) t
      refine X2.ldc2Long hx hown (mvT hZ (hw _ (List.mem_of_getElem? (i := 9) rfl))) (g := (mkF m 33 #[.val (.ref a), .val (.long ob), .second, .val (.int fi), .val (.long ke), .second, .val (.long va), .second, .val (.long ((ob * (2 : Int64)) * (((fi + (7 : Int32)) / (8 : Int32)).toInt64))), .second, .val (.long (0 : Int64)), .second, .unset, .unset] [])) rfl (hb hby own_d1_33) _ ?_
      show Steps p.tables e below (T2.setTop (mkF m 36 #[.val (.ref a), .val (.long ob), .second, .val (.int fi), .val (.long ke), .second, .val (.long va), .second, .val (.long ((ob * (2 : Int64)) * (((fi + (7 : Int32)) / (8 : Int32)).toInt64))), .second, .val (.long (0 : Int64)), .second, .unset, .unset] [(.long (2 : Int64))])) t
      refine XS.lload X2.here hx rfl (hb hby own_d1_36) rfl ?_
      show Steps p.tables e below (T2.setTop (mkF m 38 #[.val (.ref a), .val (.long ob), .second, .val (.int fi), .val (.long ke), .second, .val (.long va), .second, .val (.long ((ob * (2 : Int64)) * (((fi + (7 : Int32)) / (8 : Int32)).toInt64))), .second, .val (.long (0 : Int64)), .second, .unset, .unset] [(.long ke), (.long (2 : Int64))])) t
      refine XS.lmul X2.here hx rfl (hb hby own_d1_38) rfl ?_
      show Steps p.tables e below (T2.setTop (mkF m 39 #[.val (.ref a), .val (.long ob), .second, .val (.int fi), .val (.long ke), .second, .val (.long va), .second, .val (.long ((ob * (2 : Int64)) * (((fi + (7 : Int32)) / (8 : Int32)).toInt64))), .second, .val (.long (0 : Int64)), .second, .unset, .unset] [(.long ((2 : Int64) * ke))])) t
      refine XS.aloadN X2.here hx rfl (hb hby own_d1_39) rfl rfl ?_
      exact kt
    obtain ⟨T9, X9, e9, st9⟩ := getF X2 hx hZ hown (host := "") (Or.inl (hw _ (List.mem_of_getElem? (i := 11) rfl))) Via.refl e2 F_sp (g := (mkF m 40 #[.val (.ref a), .val (.long ob), .second, .val (.int fi), .val (.long ke), .second, .val (.long va), .second, .val (.long ((ob * (2 : Int64)) * (((fi + (7 : Int32)) / (8 : Int32)).toInt64))), .second, .val (.long (0 : Int64)), .second, .unset, .unset] [(.ref a), (.long ((2 : Int64) * ke))])) rfl rfl (hb hby own_d1_40)
    have S10 : ∀ t, Steps p.tables e below (T9.setTop (mkF m 43 #[.val (.ref a), .val (.long ob), .second, .val (.int fi), .val (.long ke), .second, .val (.long va), .second, .val (.long ((ob * (2 : Int64)) * (((fi + (7 : Int32)) / (8 : Int32)).toInt64))), .second, .val (.long (0 : Int64)), .second, .unset, .unset] [(.int sp), (.long ((2 : Int64) * ke))])) t → Steps p.tables e below (s₁.setTop (entryFrame m #[(.ref a), (.long ob), (.int fi), (.long ke), (.long va)] 14)) t := fun t kt => S8 t (st9 _ kt)
    have S11 : ∀ t, Steps p.tables e below (T9.setTop (mkF m 60 #[.val (.ref a), .val (.long ob), .second, .val (.int fi), .val (.long ke), .second, .val (.long va), .second, .val (.long ((ob * (2 : Int64)) * (((fi + (7 : Int32)) / (8 : Int32)).toInt64))), .second, .val (.long (0 : Int64)), .second, .val (.long (((2 : Int64) * ke) + ((sp.toInt64) * ob))), .second] [(.long (((((ob * (2 : Int64)) * (((fi + (7 : Int32)) / (8 : Int32)).toInt64)) + (0 : Int64)) + va) - (((2 : Int64) * ke) + ((sp.toInt64) * ob))))])) t → Steps p.tables e below (s₁.setTop (entryFrame m #[(.ref a), (.long ob), (.int fi), (.long ke), (.long va)] 14)) t := fun t kt => by
      refine S10 t ?_
      show Steps p.tables e below (T9.setTop (mkF m 43 #[.val (.ref a), .val (.long ob), .second, .val (.int fi), .val (.long ke), .second, .val (.long va), .second, .val (.long ((ob * (2 : Int64)) * (((fi + (7 : Int32)) / (8 : Int32)).toInt64))), .second, .val (.long (0 : Int64)), .second, .unset, .unset] [(.int sp), (.long ((2 : Int64) * ke))])) t
      refine XS.i2l X9.here hx rfl (hb hby own_d1_43) rfl ?_
      show Steps p.tables e below (T9.setTop (mkF m 44 #[.val (.ref a), .val (.long ob), .second, .val (.int fi), .val (.long ke), .second, .val (.long va), .second, .val (.long ((ob * (2 : Int64)) * (((fi + (7 : Int32)) / (8 : Int32)).toInt64))), .second, .val (.long (0 : Int64)), .second, .unset, .unset] [(.long (sp.toInt64)), (.long ((2 : Int64) * ke))])) t
      refine XS.lloadN X9.here hx rfl (hb hby own_d1_44) rfl ?_
      show Steps p.tables e below (T9.setTop (mkF m 45 #[.val (.ref a), .val (.long ob), .second, .val (.int fi), .val (.long ke), .second, .val (.long va), .second, .val (.long ((ob * (2 : Int64)) * (((fi + (7 : Int32)) / (8 : Int32)).toInt64))), .second, .val (.long (0 : Int64)), .second, .unset, .unset] [(.long ob), (.long (sp.toInt64)), (.long ((2 : Int64) * ke))])) t
      refine XS.lmul X9.here hx rfl (hb hby own_d1_45) rfl ?_
      show Steps p.tables e below (T9.setTop (mkF m 46 #[.val (.ref a), .val (.long ob), .second, .val (.int fi), .val (.long ke), .second, .val (.long va), .second, .val (.long ((ob * (2 : Int64)) * (((fi + (7 : Int32)) / (8 : Int32)).toInt64))), .second, .val (.long (0 : Int64)), .second, .unset, .unset] [(.long ((sp.toInt64) * ob)), (.long ((2 : Int64) * ke))])) t
      refine XS.ladd X9.here hx rfl (hb hby own_d1_46) rfl ?_
      show Steps p.tables e below (T9.setTop (mkF m 47 #[.val (.ref a), .val (.long ob), .second, .val (.int fi), .val (.long ke), .second, .val (.long va), .second, .val (.long ((ob * (2 : Int64)) * (((fi + (7 : Int32)) / (8 : Int32)).toInt64))), .second, .val (.long (0 : Int64)), .second, .unset, .unset] [(.long (((2 : Int64) * ke) + ((sp.toInt64) * ob)))])) t
      refine XS.lstore X9.here hx rfl (hb hby own_d1_47) rfl (l' := #[.val (.ref a), .val (.long ob), .second, .val (.int fi), .val (.long ke), .second, .val (.long va), .second, .val (.long ((ob * (2 : Int64)) * (((fi + (7 : Int32)) / (8 : Int32)).toInt64))), .second, .val (.long (0 : Int64)), .second, .val (.long (((2 : Int64) * ke) + ((sp.toInt64) * ob))), .second]) rfl ?_
      show Steps p.tables e below (T9.setTop (mkF m 49 #[.val (.ref a), .val (.long ob), .second, .val (.int fi), .val (.long ke), .second, .val (.long va), .second, .val (.long ((ob * (2 : Int64)) * (((fi + (7 : Int32)) / (8 : Int32)).toInt64))), .second, .val (.long (0 : Int64)), .second, .val (.long (((2 : Int64) * ke) + ((sp.toInt64) * ob))), .second] [])) t
      refine XS.lload X9.here hx rfl (hb hby own_d1_49) rfl ?_
      show Steps p.tables e below (T9.setTop (mkF m 51 #[.val (.ref a), .val (.long ob), .second, .val (.int fi), .val (.long ke), .second, .val (.long va), .second, .val (.long ((ob * (2 : Int64)) * (((fi + (7 : Int32)) / (8 : Int32)).toInt64))), .second, .val (.long (0 : Int64)), .second, .val (.long (((2 : Int64) * ke) + ((sp.toInt64) * ob))), .second] [(.long ((ob * (2 : Int64)) * (((fi + (7 : Int32)) / (8 : Int32)).toInt64)))])) t
      refine XS.lload X9.here hx rfl (hb hby own_d1_51) rfl ?_
      show Steps p.tables e below (T9.setTop (mkF m 53 #[.val (.ref a), .val (.long ob), .second, .val (.int fi), .val (.long ke), .second, .val (.long va), .second, .val (.long ((ob * (2 : Int64)) * (((fi + (7 : Int32)) / (8 : Int32)).toInt64))), .second, .val (.long (0 : Int64)), .second, .val (.long (((2 : Int64) * ke) + ((sp.toInt64) * ob))), .second] [(.long (0 : Int64)), (.long ((ob * (2 : Int64)) * (((fi + (7 : Int32)) / (8 : Int32)).toInt64)))])) t
      refine XS.ladd X9.here hx rfl (hb hby own_d1_53) rfl ?_
      show Steps p.tables e below (T9.setTop (mkF m 54 #[.val (.ref a), .val (.long ob), .second, .val (.int fi), .val (.long ke), .second, .val (.long va), .second, .val (.long ((ob * (2 : Int64)) * (((fi + (7 : Int32)) / (8 : Int32)).toInt64))), .second, .val (.long (0 : Int64)), .second, .val (.long (((2 : Int64) * ke) + ((sp.toInt64) * ob))), .second] [(.long (((ob * (2 : Int64)) * (((fi + (7 : Int32)) / (8 : Int32)).toInt64)) + (0 : Int64)))])) t
      refine XS.lload X9.here hx rfl (hb hby own_d1_54) rfl ?_
      show Steps p.tables e below (T9.setTop (mkF m 56 #[.val (.ref a), .val (.long ob), .second, .val (.int fi), .val (.long ke), .second, .val (.long va), .second, .val (.long ((ob * (2 : Int64)) * (((fi + (7 : Int32)) / (8 : Int32)).toInt64))), .second, .val (.long (0 : Int64)), .second, .val (.long (((2 : Int64) * ke) + ((sp.toInt64) * ob))), .second] [(.long va), (.long (((ob * (2 : Int64)) * (((fi + (7 : Int32)) / (8 : Int32)).toInt64)) + (0 : Int64)))])) t
      refine XS.ladd X9.here hx rfl (hb hby own_d1_56) rfl ?_
      show Steps p.tables e below (T9.setTop (mkF m 57 #[.val (.ref a), .val (.long ob), .second, .val (.int fi), .val (.long ke), .second, .val (.long va), .second, .val (.long ((ob * (2 : Int64)) * (((fi + (7 : Int32)) / (8 : Int32)).toInt64))), .second, .val (.long (0 : Int64)), .second, .val (.long (((2 : Int64) * ke) + ((sp.toInt64) * ob))), .second] [(.long ((((ob * (2 : Int64)) * (((fi + (7 : Int32)) / (8 : Int32)).toInt64)) + (0 : Int64)) + va))])) t
      refine XS.lload X9.here hx rfl (hb hby own_d1_57) rfl ?_
      show Steps p.tables e below (T9.setTop (mkF m 59 #[.val (.ref a), .val (.long ob), .second, .val (.int fi), .val (.long ke), .second, .val (.long va), .second, .val (.long ((ob * (2 : Int64)) * (((fi + (7 : Int32)) / (8 : Int32)).toInt64))), .second, .val (.long (0 : Int64)), .second, .val (.long (((2 : Int64) * ke) + ((sp.toInt64) * ob))), .second] [(.long (((2 : Int64) * ke) + ((sp.toInt64) * ob))), (.long ((((ob * (2 : Int64)) * (((fi + (7 : Int32)) / (8 : Int32)).toInt64)) + (0 : Int64)) + va))])) t
      refine XS.lsub X9.here hx rfl (hb hby own_d1_59) rfl ?_
      exact kt
    obtain ⟨fs, hr, hrun, hended, hW, hsame⟩ := X9.leave (v := some (.long (((((ob * (2 : Int64)) * (((fi + (7 : Int32)) / (8 : Int32)).toInt64)) + (0 : Int64)) + va) - (((2 : Int64) * ke) + ((sp.toInt64) * ob))))) (fun h => by rw [Bd.returns] at h; cases h)
    refine ⟨_, _, S11 _ ?_, hrun, hended, _, _, rfl, ?_, ⟨_, rfl⟩, hW, hsame.mono (by decide) (by decide)⟩
    · show Steps p.tables e below (T9.setTop (mkF m 60 #[.val (.ref a), .val (.long ob), .second, .val (.int fi), .val (.long ke), .second, .val (.long va), .second, .val (.long ((ob * (2 : Int64)) * (((fi + (7 : Int32)) / (8 : Int32)).toInt64))), .second, .val (.long (0 : Int64)), .second, .val (.long (((2 : Int64) * ke) + ((sp.toInt64) * ob))), .second] [(.long (((((ob * (2 : Int64)) * (((fi + (7 : Int32)) / (8 : Int32)).toInt64)) + (0 : Int64)) + va) - (((2 : Int64) * ke) + ((sp.toInt64) * ob))))])) _
      exact X9.lreturnOut hx Bd.returns (hb hby own_d1_60) hr
    · show own_Q1 Z a ob fi ke va st_ROWS sp h0 n0 _ T9.heap _
      rw [e9]
      exact ⟨by rw [decide_eq_false hc20]; rfl, rfl, rfl⟩
theorem own_pd0 : parseMethodDescriptor "(JIJJ)J" = some ⟨[.long, .int, .long, .long], some .long⟩ := by decide +kernel
theorem own_ef0 (m : MethodId) (x0 : Int32) (x1 : Int64) (x2 : Int32) (x3 : Int64) (x4 : Int64) : entryFrame m #[(.int x0), (.long x1), (.int x2), (.long x3), (.long x4)] maxLocals = mkF m 0 #[.val (.int x0), .val (.long x1), .second, .val (.int x2), .val (.long x3), .second, .val (.long x4), .second, .unset, .unset, .unset, .unset, .unset, .unset, .unset, .unset, .unset] [] := by first | (simp [entryFrame, mkF, argsToLocals, Value.category, maxLocals]; done) | rfl
def own_Q0 (Z : State) (sel : Int32) (ob : Int64) (fr : Int32) (ke : Int64) (va : Int64) (st_ROWS : Addr) (st_NESTED : Addr) (h0 : Heap) (n0 : Nat) (v : Option Value) (h : Heap) (L : List Loc) : Prop := v = some (.int (1 : Int32)) ∧ Fr n0 L
theorem own_pn1 : plainName "com/example/quillpack/quillpack/schema/RecordPlaceBytesMorePinLaw" = true := by first | (simp [plainName, overriddenIn]; done) | decide +kernel
set_option maxHeartbeats 40000000 in
theorem own_rm0 (l : Launch) (Z : State) (a0 : Array Value) (hw : ∀ d ∈ tables_1, d.before a0 Z = true) (ws : List Jvm.Cond) (sel : Int32) (ob : Int64) (fr : Int32) (ke : Int64) (va : Int64) (st_ROWS : Addr) (st_NESTED : Addr) (h0 : Heap) (n0 : Nat) (Z0 : n0 ≤ h0.size) (S_ROWS : Sta Z h0 "com/example/quillpack/quillpack/schema/RecordPlace" "ROWS" "Lcom/example/quillpack/quillpack/schema/RecordPlace;" (.ref st_ROWS)) (S_NESTED : Sta Z h0 "com/example/quillpack/quillpack/schema/RecordPlace" "NESTED" "Lcom/example/quillpack/quillpack/schema/RecordPlace;" (.ref st_NESTED)) (E_ROWS : Exa Z h0 st_ROWS "com/example/quillpack/quillpack/schema/RecordPlace") (E_NESTED : Exa Z h0 st_NESTED "com/example/quillpack/quillpack/schema/RecordPlace") (P_ROWS : Fld Z h0 st_ROWS "com/example/quillpack/quillpack/schema/RecordPlace" "savedPerObject" "I" (.int (2 : Int32))) (P_NESTED : Fld Z h0 st_NESTED "com/example/quillpack/quillpack/schema/RecordPlace" "savedPerObject" "I" (.int (0 : Int32))) (hne : ¬ st_NESTED = st_ROWS) :
    MetFree l x (head1 (Jvm.Cond.code x code maxLocals ret :: ws) room_1) (fun argv U => argv = #[(.int sel), (.long ob), (.int fr), (.long ke), (.long va)] ∧ Z.Warmed39 U.vm ∧ U.heap = h0) (fun _ _ _ _ _ => True) (fun _ U o U' => ∃ v L, o = .returned v ∧ own_Q0 Z sel ob fr ke va st_ROWS st_NESTED h0 n0 v U'.heap L ∧ FrameEnd U o U' L room_1.cells room_1.slots) := by
  refine MetFree.of_bodySF (plainFor_of_name own_pn1) hisR ?_
  intro p e s m args below meth c s₁ Bd hml0 hP hK
  obtain ⟨rfl, hZ, hh⟩ := hP
  have hx := Bd.exec
  have hby := Bd.bytes
  have hml : c.maxLocals = 17 := hml0
  have hown : s.vm.findClass "com/example/quillpack/quillpack/schema/RecordPlaceBytesMorePinLaw" = some m.cls := findClass_of_methodNamed Bd.named
  have hnm := (name_of_methodNamed Bd.named Bd.method).1
  have X0 : Stand p l e room_1 s m #[(.int sel), (.long ob), (.int fr), (.long ke), (.long va)] below meth c s₁ [] 0 0 := Stand.of_body Bd
  have e0 : s₁.heap = h0 := by rw [← hh, Bd.state]; rfl
  have N0 := Fr.nil n0
  have pre0 : ∀ t, Steps p.tables e below (s₁.setTop (mkF m 0 #[.val (.int sel), .val (.long ob), .second, .val (.int fr), .val (.long ke), .second, .val (.long va), .second, .unset, .unset, .unset, .unset, .unset, .unset, .unset, .unset, .unset] [])) t → Steps p.tables e below (s₁.setTop (entryFrame m #[(.int sel), (.long ob), (.int fr), (.long ke), (.long va)] maxLocals)) t := fun t k => castTop (own_ef0 m sel ob fr ke va) k
  have S1 : ∀ t, Steps p.tables e below (s₁.setTop (mkF m 3 #[.val (.int sel), .val (.long ob), .second, .val (.int fr), .val (.long ke), .second, .val (.long va), .second, .unset, .unset, .unset, .unset, .unset, .unset, .unset, .unset, .unset] [(.int (sel &&& (1 : Int32)))])) t → Steps p.tables e below (s₁.setTop (entryFrame m #[(.int sel), (.long ob), (.int fr), (.long ke), (.long va)] maxLocals)) t := fun t kt => by
    refine pre0 t ?_
    show Steps p.tables e below (s₁.setTop (mkF m 0 #[.val (.int sel), .val (.long ob), .second, .val (.int fr), .val (.long ke), .second, .val (.long va), .second, .unset, .unset, .unset, .unset, .unset, .unset, .unset, .unset, .unset] [])) t
    refine XS.iloadN X0.here hx rfl (hb hby at_0) rfl ?_
    show Steps p.tables e below (s₁.setTop (mkF m 1 #[.val (.int sel), .val (.long ob), .second, .val (.int fr), .val (.long ke), .second, .val (.long va), .second, .unset, .unset, .unset, .unset, .unset, .unset, .unset, .unset, .unset] [(.int sel)])) t
    refine XS.iconst X0.here hx rfl (hb hby at_1) ?_
    show Steps p.tables e below (s₁.setTop (mkF m 2 #[.val (.int sel), .val (.long ob), .second, .val (.int fr), .val (.long ke), .second, .val (.long va), .second, .unset, .unset, .unset, .unset, .unset, .unset, .unset, .unset, .unset] [(.int (1 : Int32)), (.int sel)])) t
    refine XS.iand X0.here hx rfl (hb hby at_2) rfl ?_
    exact kt
  by_cases hc3 : (sel &&& (1 : Int32)) = (0 : Int32)
  · skip
    have S2 : ∀ t, Steps p.tables e below (s₁.setTop (mkF m 15 #[.val (.int sel), .val (.long ob), .second, .val (.int fr), .val (.long ke), .second, .val (.long va), .second, .val (.int (1 : Int32)), .unset, .unset, .unset, .unset, .unset, .unset, .unset, .unset] [(.int (1 : Int32))])) t → Steps p.tables e below (s₁.setTop (entryFrame m #[(.int sel), (.long ob), (.int fr), (.long ke), (.long va)] maxLocals)) t := fun t kt => by
      refine S1 t ?_
      show Steps p.tables e below (s₁.setTop (mkF m 3 #[.val (.int sel), .val (.long ob), .second, .val (.int fr), .val (.long ke), .second, .val (.long va), .second, .unset, .unset, .unset, .unset, .unset, .unset, .unset, .unset, .unset] [(.int (sel &&& (1 : Int32)))])) t
      refine XS.ifNo X0.here hx rfl (hb hby at_3) rfl ((if0 _ _).trans (teq hc3).2) ?_
      show Steps p.tables e below (s₁.setTop (mkF m 6 #[.val (.int sel), .val (.long ob), .second, .val (.int fr), .val (.long ke), .second, .val (.long va), .second, .unset, .unset, .unset, .unset, .unset, .unset, .unset, .unset, .unset] [])) t
      refine XS.iconst X0.here hx rfl (hb hby at_6) ?_
      show Steps p.tables e below (s₁.setTop (mkF m 7 #[.val (.int sel), .val (.long ob), .second, .val (.int fr), .val (.long ke), .second, .val (.long va), .second, .unset, .unset, .unset, .unset, .unset, .unset, .unset, .unset, .unset] [(.int (1 : Int32))])) t
      refine XS.goto X0.here hx rfl (pc0 := 7) (pc' := 11) rfl (hb hby at_7) (by decide) (by decide) ?_
      show Steps p.tables e below (s₁.setTop (mkF m 11 #[.val (.int sel), .val (.long ob), .second, .val (.int fr), .val (.long ke), .second, .val (.long va), .second, .unset, .unset, .unset, .unset, .unset, .unset, .unset, .unset, .unset] [(.int (1 : Int32))])) t
      refine XS.istore X0.here hx rfl (hb hby at_11) rfl (l' := #[.val (.int sel), .val (.long ob), .second, .val (.int fr), .val (.long ke), .second, .val (.long va), .second, .val (.int (1 : Int32)), .unset, .unset, .unset, .unset, .unset, .unset, .unset, .unset]) rfl ?_
      show Steps p.tables e below (s₁.setTop (mkF m 13 #[.val (.int sel), .val (.long ob), .second, .val (.int fr), .val (.long ke), .second, .val (.long va), .second, .val (.int (1 : Int32)), .unset, .unset, .unset, .unset, .unset, .unset, .unset, .unset] [])) t
      refine XS.iload X0.here hx rfl (hb hby at_13) rfl ?_
      exact kt
    have hc15_3 : ¬ ((1 : Int32) = (0 : Int32)) := by decide
    have S4 : ∀ t, Steps p.tables e below (s₁.setTop (mkF m 18 #[.val (.int sel), .val (.long ob), .second, .val (.int fr), .val (.long ke), .second, .val (.long va), .second, .val (.int (1 : Int32)), .unset, .unset, .unset, .unset, .unset, .unset, .unset, .unset] [])) t → Steps p.tables e below (s₁.setTop (entryFrame m #[(.int sel), (.long ob), (.int fr), (.long ke), (.long va)] maxLocals)) t := fun t kt => by
      refine S2 t ?_
      show Steps p.tables e below (s₁.setTop (mkF m 15 #[.val (.int sel), .val (.long ob), .second, .val (.int fr), .val (.long ke), .second, .val (.long va), .second, .val (.int (1 : Int32)), .unset, .unset, .unset, .unset, .unset, .unset, .unset, .unset] [(.int (1 : Int32))])) t
      refine XS.ifNo X0.here hx rfl (hb hby at_15) rfl ((if0 _ _).trans (feq hc15_3).1) ?_
      exact kt
    obtain ⟨T5, X5, e5, st5⟩ := getS2 X0 hx hZ hown (host := "") (Or.inl (hw _ (List.mem_of_getElem? (i := 0) rfl))) Via.refl e0 S_ROWS (g := (mkF m 18 #[.val (.int sel), .val (.long ob), .second, .val (.int fr), .val (.long ke), .second, .val (.long va), .second, .val (.int (1 : Int32)), .unset, .unset, .unset, .unset, .unset, .unset, .unset, .unset] [])) rfl (hb hby at_18)
    have S6 : ∀ t, Steps p.tables e below (T5.setTop (mkF m 21 #[.val (.int sel), .val (.long ob), .second, .val (.int fr), .val (.long ke), .second, .val (.long va), .second, .val (.int (1 : Int32)), .unset, .unset, .unset, .unset, .unset, .unset, .unset, .unset] [(.ref st_ROWS)])) t → Steps p.tables e below (s₁.setTop (entryFrame m #[(.int sel), (.long ob), (.int fr), (.long ke), (.long va)] maxLocals)) t := fun t kt => S4 t (st5 _ kt)
    have S8 : ∀ t, Steps p.tables e below (T5.setTop (mkF m 44 #[.val (.int sel), .val (.long ob), .second, .val (.int fr), .val (.long ke), .second, .val (.long va), .second, .val (.int (1 : Int32)), .val (.ref st_ROWS), .val (.int (fr &&& (1073741823 : Int32))), .unset, .unset, .unset, .unset, .unset, .unset] [(.long va), (.long ke), (.int (fr &&& (1073741823 : Int32))), (.long ob), (.ref st_ROWS)])) t → Steps p.tables e below (s₁.setTop (entryFrame m #[(.int sel), (.long ob), (.int fr), (.long ke), (.long va)] maxLocals)) t := fun t kt => by
      refine S6 t ?_
      show Steps p.tables e below (T5.setTop (mkF m 21 #[.val (.int sel), .val (.long ob), .second, .val (.int fr), .val (.long ke), .second, .val (.long va), .second, .val (.int (1 : Int32)), .unset, .unset, .unset, .unset, .unset, .unset, .unset, .unset] [(.ref st_ROWS)])) t
      refine XS.goto X5.here hx rfl (pc0 := 21) (pc' := 27) rfl (hb hby at_21) (by decide) (by decide) ?_
      show Steps p.tables e below (T5.setTop (mkF m 27 #[.val (.int sel), .val (.long ob), .second, .val (.int fr), .val (.long ke), .second, .val (.long va), .second, .val (.int (1 : Int32)), .unset, .unset, .unset, .unset, .unset, .unset, .unset, .unset] [(.ref st_ROWS)])) t
      refine XS.astore X5.here hx rfl (hb hby at_27) rfl rfl (l' := #[.val (.int sel), .val (.long ob), .second, .val (.int fr), .val (.long ke), .second, .val (.long va), .second, .val (.int (1 : Int32)), .val (.ref st_ROWS), .unset, .unset, .unset, .unset, .unset, .unset, .unset]) rfl ?_
      show Steps p.tables e below (T5.setTop (mkF m 29 #[.val (.int sel), .val (.long ob), .second, .val (.int fr), .val (.long ke), .second, .val (.long va), .second, .val (.int (1 : Int32)), .val (.ref st_ROWS), .unset, .unset, .unset, .unset, .unset, .unset, .unset] [])) t
      refine XS.iloadN X5.here hx rfl (hb hby at_29) rfl ?_
      show Steps p.tables e below (T5.setTop (mkF m 30 #[.val (.int sel), .val (.long ob), .second, .val (.int fr), .val (.long ke), .second, .val (.long va), .second, .val (.int (1 : Int32)), .val (.ref st_ROWS), .unset, .unset, .unset, .unset, .unset, .unset, .unset] [(.int fr)])) t
      refine X5.ldcInt hx hown (mvT hZ (hw _ (List.mem_of_getElem? (i := 3) rfl))) (g := (mkF m 30 #[.val (.int sel), .val (.long ob), .second, .val (.int fr), .val (.long ke), .second, .val (.long va), .second, .val (.int (1 : Int32)), .val (.ref st_ROWS), .unset, .unset, .unset, .unset, .unset, .unset, .unset] [(.int fr)])) rfl (hb hby at_30) _ ?_
      show Steps p.tables e below (T5.setTop (mkF m 32 #[.val (.int sel), .val (.long ob), .second, .val (.int fr), .val (.long ke), .second, .val (.long va), .second, .val (.int (1 : Int32)), .val (.ref st_ROWS), .unset, .unset, .unset, .unset, .unset, .unset, .unset] [(.int (1073741823 : Int32)), (.int fr)])) t
      refine XS.iand X5.here hx rfl (hb hby at_32) rfl ?_
      show Steps p.tables e below (T5.setTop (mkF m 33 #[.val (.int sel), .val (.long ob), .second, .val (.int fr), .val (.long ke), .second, .val (.long va), .second, .val (.int (1 : Int32)), .val (.ref st_ROWS), .unset, .unset, .unset, .unset, .unset, .unset, .unset] [(.int (fr &&& (1073741823 : Int32)))])) t
      refine XS.istore X5.here hx rfl (hb hby at_33) rfl (l' := #[.val (.int sel), .val (.long ob), .second, .val (.int fr), .val (.long ke), .second, .val (.long va), .second, .val (.int (1 : Int32)), .val (.ref st_ROWS), .val (.int (fr &&& (1073741823 : Int32))), .unset, .unset, .unset, .unset, .unset, .unset]) rfl ?_
      show Steps p.tables e below (T5.setTop (mkF m 35 #[.val (.int sel), .val (.long ob), .second, .val (.int fr), .val (.long ke), .second, .val (.long va), .second, .val (.int (1 : Int32)), .val (.ref st_ROWS), .val (.int (fr &&& (1073741823 : Int32))), .unset, .unset, .unset, .unset, .unset, .unset] [])) t
      refine XS.aload X5.here hx rfl (hb hby at_35) rfl rfl ?_
      show Steps p.tables e below (T5.setTop (mkF m 37 #[.val (.int sel), .val (.long ob), .second, .val (.int fr), .val (.long ke), .second, .val (.long va), .second, .val (.int (1 : Int32)), .val (.ref st_ROWS), .val (.int (fr &&& (1073741823 : Int32))), .unset, .unset, .unset, .unset, .unset, .unset] [(.ref st_ROWS)])) t
      refine XS.lloadN X5.here hx rfl (hb hby at_37) rfl ?_
      show Steps p.tables e below (T5.setTop (mkF m 38 #[.val (.int sel), .val (.long ob), .second, .val (.int fr), .val (.long ke), .second, .val (.long va), .second, .val (.int (1 : Int32)), .val (.ref st_ROWS), .val (.int (fr &&& (1073741823 : Int32))), .unset, .unset, .unset, .unset, .unset, .unset] [(.long ob), (.ref st_ROWS)])) t
      refine XS.iload X5.here hx rfl (hb hby at_38) rfl ?_
      show Steps p.tables e below (T5.setTop (mkF m 40 #[.val (.int sel), .val (.long ob), .second, .val (.int fr), .val (.long ke), .second, .val (.long va), .second, .val (.int (1 : Int32)), .val (.ref st_ROWS), .val (.int (fr &&& (1073741823 : Int32))), .unset, .unset, .unset, .unset, .unset, .unset] [(.int (fr &&& (1073741823 : Int32))), (.long ob), (.ref st_ROWS)])) t
      refine XS.lload X5.here hx rfl (hb hby at_40) rfl ?_
      show Steps p.tables e below (T5.setTop (mkF m 42 #[.val (.int sel), .val (.long ob), .second, .val (.int fr), .val (.long ke), .second, .val (.long va), .second, .val (.int (1 : Int32)), .val (.ref st_ROWS), .val (.int (fr &&& (1073741823 : Int32))), .unset, .unset, .unset, .unset, .unset, .unset] [(.long ke), (.int (fr &&& (1073741823 : Int32))), (.long ob), (.ref st_ROWS)])) t
      refine XS.lload X5.here hx rfl (hb hby at_42) rfl ?_
      exact kt
    obtain ⟨cq9, kq9, q9a, q9b, q9c⟩ := isOf hZ e5 E_ROWS
    obtain ⟨_, _, ⟨T9, L9, k9, n9⟩, -, X9, ⟨Lc9, hQ9, l9, y9, z9⟩, st9⟩ := X5.virtualBack hx (y := (⟨"com/example/quillpack/quillpack/schema/RecordPlace", "bytesMore", "(JIJJ)J"⟩ : MethodName)) (z := (⟨"com/example/quillpack/quillpack/schema/RecordPlace", "bytesMore", "(JIJJ)J"⟩ : MethodName)) hown (mvT hZ (hw _ (List.mem_of_getElem? (i := 4) rfl))) (mvT hZ (hw _ (List.mem_of_getElem? (i := 5) rfl))) (notFace_of_selects (args := #[]) (mvT hZ (hw _ (List.mem_of_getElem? (i := 7) rfl)))) (mvT hZ (hw _ (List.mem_of_getElem? (i := 7) rfl))) (mvT hZ (hw _ (List.mem_of_getElem? (i := 6) rfl))) (by decide) (backOf (W := 0) (own_rm1 l Z a0 hw [] (st_ROWS) (ob) ((fr &&& (1073741823 : Int32))) (ke) (va) (st_ROWS) ((2 : Int32)) h0 n0 Z0 S_ROWS P_ROWS) hZ (hw _ (List.mem_of_getElem? (i := 8) rfl)) (hw _ (List.mem_of_getElem? (i := 1) rfl)) (by decide) (by decide)) q9a q9c (g := (mkF m 44 #[.val (.int sel), .val (.long ob), .second, .val (.int fr), .val (.long ke), .second, .val (.long va), .second, .val (.int (1 : Int32)), .val (.ref st_ROWS), .val (.int (fr &&& (1073741823 : Int32))), .unset, .unset, .unset, .unset, .unset, .unset] [(.long va), (.long ke), (.int (fr &&& (1073741823 : Int32))), (.long ob), (.ref st_ROWS)])) rfl (by rw [hml]; rfl) (Steps.refl _) (argsL := [(.long ob), (.int (fr &&& (1073741823 : Int32))), (.long ke), (.long va)]) (rest := []) (lenOf own_pd0 rfl) rfl (by show 2 * 0 + _ ≤ _; exact Nat.le_of_eq rfl) (hb hby at_44) (fun _ _ => ⟨rfl, e5, (by decide : 0 + 0 ≤ _), (by decide : 0 + 0 ≤ _)⟩)
    dsimp only [Pt.U, Pt.locs, Pt.cells, Pt.slots] at X9 l9 y9 z9 st9 hQ9
    subst l9 y9 z9
    obtain ⟨rfl, rfl, eq7⟩ := hQ9
    try rw [List.append_nil] at X9
    have S10 : ∀ t, Steps p.tables e below (T9.setTop (mkF m 47 #[.val (.int sel), .val (.long ob), .second, .val (.int fr), .val (.long ke), .second, .val (.long va), .second, .val (.int (1 : Int32)), .val (.ref st_ROWS), .val (.int (fr &&& (1073741823 : Int32))), .unset, .unset, .unset, .unset, .unset, .unset] [(.long (own_bm (decide (st_ROWS = st_ROWS)) ob (fr &&& (1073741823 : Int32)) ke va (2 : Int32)))])) t → Steps p.tables e below (s₁.setTop (entryFrame m #[(.int sel), (.long ob), (.int fr), (.long ke), (.long va)] maxLocals)) t := fun t kt => S8 t (st9.trans kt)
    have S11 : ∀ t, Steps p.tables e below (T9.setTop (mkF m 54 #[.val (.int sel), .val (.long ob), .second, .val (.int fr), .val (.long ke), .second, .val (.long va), .second, .val (.int (1 : Int32)), .val (.ref st_ROWS), .val (.int (fr &&& (1073741823 : Int32))), .val (.long (own_bm (decide (st_ROWS = st_ROWS)) ob (fr &&& (1073741823 : Int32)) ke va (2 : Int32))), .second, .unset, .unset, .unset, .unset] [(.long (((fr &&& (1073741823 : Int32)) >>> ((3 : Int32) &&& 31)).toInt64))])) t → Steps p.tables e below (s₁.setTop (entryFrame m #[(.int sel), (.long ob), (.int fr), (.long ke), (.long va)] maxLocals)) t := fun t kt => by
      refine S10 t ?_
      show Steps p.tables e below (T9.setTop (mkF m 47 #[.val (.int sel), .val (.long ob), .second, .val (.int fr), .val (.long ke), .second, .val (.long va), .second, .val (.int (1 : Int32)), .val (.ref st_ROWS), .val (.int (fr &&& (1073741823 : Int32))), .unset, .unset, .unset, .unset, .unset, .unset] [(.long (own_bm (decide (st_ROWS = st_ROWS)) ob (fr &&& (1073741823 : Int32)) ke va (2 : Int32)))])) t
      refine XS.lstore X9.here hx rfl (hb hby at_47) rfl (l' := #[.val (.int sel), .val (.long ob), .second, .val (.int fr), .val (.long ke), .second, .val (.long va), .second, .val (.int (1 : Int32)), .val (.ref st_ROWS), .val (.int (fr &&& (1073741823 : Int32))), .val (.long (own_bm (decide (st_ROWS = st_ROWS)) ob (fr &&& (1073741823 : Int32)) ke va (2 : Int32))), .second, .unset, .unset, .unset, .unset]) rfl ?_
      show Steps p.tables e below (T9.setTop (mkF m 49 #[.val (.int sel), .val (.long ob), .second, .val (.int fr), .val (.long ke), .second, .val (.long va), .second, .val (.int (1 : Int32)), .val (.ref st_ROWS), .val (.int (fr &&& (1073741823 : Int32))), .val (.long (own_bm (decide (st_ROWS = st_ROWS)) ob (fr &&& (1073741823 : Int32)) ke va (2 : Int32))), .second, .unset, .unset, .unset, .unset] [])) t
      refine XS.iload X9.here hx rfl (hb hby at_49) rfl ?_
      show Steps p.tables e below (T9.setTop (mkF m 51 #[.val (.int sel), .val (.long ob), .second, .val (.int fr), .val (.long ke), .second, .val (.long va), .second, .val (.int (1 : Int32)), .val (.ref st_ROWS), .val (.int (fr &&& (1073741823 : Int32))), .val (.long (own_bm (decide (st_ROWS = st_ROWS)) ob (fr &&& (1073741823 : Int32)) ke va (2 : Int32))), .second, .unset, .unset, .unset, .unset] [(.int (fr &&& (1073741823 : Int32)))])) t
      refine XS.iconst X9.here hx rfl (hb hby at_51) ?_
      show Steps p.tables e below (T9.setTop (mkF m 52 #[.val (.int sel), .val (.long ob), .second, .val (.int fr), .val (.long ke), .second, .val (.long va), .second, .val (.int (1 : Int32)), .val (.ref st_ROWS), .val (.int (fr &&& (1073741823 : Int32))), .val (.long (own_bm (decide (st_ROWS = st_ROWS)) ob (fr &&& (1073741823 : Int32)) ke va (2 : Int32))), .second, .unset, .unset, .unset, .unset] [(.int (3 : Int32)), (.int (fr &&& (1073741823 : Int32)))])) t
      refine XS.ishr X9.here hx rfl (hb hby at_52) rfl ?_
      show Steps p.tables e below (T9.setTop (mkF m 53 #[.val (.int sel), .val (.long ob), .second, .val (.int fr), .val (.long ke), .second, .val (.long va), .second, .val (.int (1 : Int32)), .val (.ref st_ROWS), .val (.int (fr &&& (1073741823 : Int32))), .val (.long (own_bm (decide (st_ROWS = st_ROWS)) ob (fr &&& (1073741823 : Int32)) ke va (2 : Int32))), .second, .unset, .unset, .unset, .unset] [(.int ((fr &&& (1073741823 : Int32)) >>> ((3 : Int32) &&& 31)))])) t
      refine XS.i2l X9.here hx rfl (hb hby at_53) rfl ?_
      exact kt
    obtain ⟨T12, z, X12, e12, hr54, S12⟩ : ∃ (T' : State) (z : Int64), own_like X9 T' ∧ T'.heap = h0 ∧ (z = (if (((fr &&& (1073741823 : Int32))) &&& (7 : Int32)) = (0 : Int32) then (0 : Int64) else (1 : Int64))) ∧ (∀ t, Steps p.tables e below (T'.setTop (mkF m 67 #[.val (.int sel), .val (.long ob), .second, .val (.int fr), .val (.long ke), .second, .val (.long va), .second, .val (.int (1 : Int32)), .val (.ref st_ROWS), .val (.int (fr &&& (1073741823 : Int32))), .val (.long (own_bm (decide (st_ROWS = st_ROWS)) ob (fr &&& (1073741823 : Int32)) ke va (2 : Int32))), .second, .unset, .unset, .unset, .unset] [(.long z), (.long (((fr &&& (1073741823 : Int32)) >>> ((3 : Int32) &&& 31)).toInt64))])) t → Steps p.tables e below (s₁.setTop (entryFrame m #[(.int sel), (.long ob), (.int fr), (.long ke), (.long va)] maxLocals)) t) := by
      have S13 : ∀ t, Steps p.tables e below (T9.setTop (mkF m 59 #[.val (.int sel), .val (.long ob), .second, .val (.int fr), .val (.long ke), .second, .val (.long va), .second, .val (.int (1 : Int32)), .val (.ref st_ROWS), .val (.int (fr &&& (1073741823 : Int32))), .val (.long (own_bm (decide (st_ROWS = st_ROWS)) ob (fr &&& (1073741823 : Int32)) ke va (2 : Int32))), .second, .unset, .unset, .unset, .unset] [(.int ((fr &&& (1073741823 : Int32)) &&& (7 : Int32))), (.long (((fr &&& (1073741823 : Int32)) >>> ((3 : Int32) &&& 31)).toInt64))])) t → Steps p.tables e below (s₁.setTop (entryFrame m #[(.int sel), (.long ob), (.int fr), (.long ke), (.long va)] maxLocals)) t := fun t kt => by
        refine S11 t ?_
        show Steps p.tables e below (T9.setTop (mkF m 54 #[.val (.int sel), .val (.long ob), .second, .val (.int fr), .val (.long ke), .second, .val (.long va), .second, .val (.int (1 : Int32)), .val (.ref st_ROWS), .val (.int (fr &&& (1073741823 : Int32))), .val (.long (own_bm (decide (st_ROWS = st_ROWS)) ob (fr &&& (1073741823 : Int32)) ke va (2 : Int32))), .second, .unset, .unset, .unset, .unset] [(.long (((fr &&& (1073741823 : Int32)) >>> ((3 : Int32) &&& 31)).toInt64))])) t
        refine XS.iload X9.here hx rfl (hb hby at_54) rfl ?_
        show Steps p.tables e below (T9.setTop (mkF m 56 #[.val (.int sel), .val (.long ob), .second, .val (.int fr), .val (.long ke), .second, .val (.long va), .second, .val (.int (1 : Int32)), .val (.ref st_ROWS), .val (.int (fr &&& (1073741823 : Int32))), .val (.long (own_bm (decide (st_ROWS = st_ROWS)) ob (fr &&& (1073741823 : Int32)) ke va (2 : Int32))), .second, .unset, .unset, .unset, .unset] [(.int (fr &&& (1073741823 : Int32))), (.long (((fr &&& (1073741823 : Int32)) >>> ((3 : Int32) &&& 31)).toInt64))])) t
        refine XS.bipush X9.here hx rfl (hb hby at_56) ?_
        show Steps p.tables e below (T9.setTop (mkF m 58 #[.val (.int sel), .val (.long ob), .second, .val (.int fr), .val (.long ke), .second, .val (.long va), .second, .val (.int (1 : Int32)), .val (.ref st_ROWS), .val (.int (fr &&& (1073741823 : Int32))), .val (.long (own_bm (decide (st_ROWS = st_ROWS)) ob (fr &&& (1073741823 : Int32)) ke va (2 : Int32))), .second, .unset, .unset, .unset, .unset] [(.int (7 : Int32)), (.int (fr &&& (1073741823 : Int32))), (.long (((fr &&& (1073741823 : Int32)) >>> ((3 : Int32) &&& 31)).toInt64))])) t
        refine XS.iand X9.here hx rfl (hb hby at_58) rfl ?_
        exact kt
      by_cases hc59 : ((fr &&& (1073741823 : Int32)) &&& (7 : Int32)) = (0 : Int32)
      · skip
        have S14 : ∀ t, Steps p.tables e below (T9.setTop (mkF m 67 #[.val (.int sel), .val (.long ob), .second, .val (.int fr), .val (.long ke), .second, .val (.long va), .second, .val (.int (1 : Int32)), .val (.ref st_ROWS), .val (.int (fr &&& (1073741823 : Int32))), .val (.long (own_bm (decide (st_ROWS = st_ROWS)) ob (fr &&& (1073741823 : Int32)) ke va (2 : Int32))), .second, .unset, .unset, .unset, .unset] [(.long (0 : Int64)), (.long (((fr &&& (1073741823 : Int32)) >>> ((3 : Int32) &&& 31)).toInt64))])) t → Steps p.tables e below (s₁.setTop (entryFrame m #[(.int sel), (.long ob), (.int fr), (.long ke), (.long va)] maxLocals)) t := fun t kt => by
          refine S13 t ?_
          show Steps p.tables e below (T9.setTop (mkF m 59 #[.val (.int sel), .val (.long ob), .second, .val (.int fr), .val (.long ke), .second, .val (.long va), .second, .val (.int (1 : Int32)), .val (.ref st_ROWS), .val (.int (fr &&& (1073741823 : Int32))), .val (.long (own_bm (decide (st_ROWS = st_ROWS)) ob (fr &&& (1073741823 : Int32)) ke va (2 : Int32))), .second, .unset, .unset, .unset, .unset] [(.int ((fr &&& (1073741823 : Int32)) &&& (7 : Int32))), (.long (((fr &&& (1073741823 : Int32)) >>> ((3 : Int32) &&& 31)).toInt64))])) t
          refine XS.ifYes X9.here hx rfl (pc0 := 59) (pc' := 66) rfl (hb hby at_59) rfl ((if0 _ _).trans (teq hc59).1) (by decide) (by decide) ?_
          show Steps p.tables e below (T9.setTop (mkF m 66 #[.val (.int sel), .val (.long ob), .second, .val (.int fr), .val (.long ke), .second, .val (.long va), .second, .val (.int (1 : Int32)), .val (.ref st_ROWS), .val (.int (fr &&& (1073741823 : Int32))), .val (.long (own_bm (decide (st_ROWS = st_ROWS)) ob (fr &&& (1073741823 : Int32)) ke va (2 : Int32))), .second, .unset, .unset, .unset, .unset] [(.long (((fr &&& (1073741823 : Int32)) >>> ((3 : Int32) &&& 31)).toInt64))])) t
          refine XS.lconst X9.here hx rfl (hb hby at_66) ?_
          exact kt
        exact ⟨T9, ((0 : Int64)), X9, eq7, (by rw [if_pos hc59]), S14⟩
      · skip
        have S15 : ∀ t, Steps p.tables e below (T9.setTop (mkF m 67 #[.val (.int sel), .val (.long ob), .second, .val (.int fr), .val (.long ke), .second, .val (.long va), .second, .val (.int (1 : Int32)), .val (.ref st_ROWS), .val (.int (fr &&& (1073741823 : Int32))), .val (.long (own_bm (decide (st_ROWS = st_ROWS)) ob (fr &&& (1073741823 : Int32)) ke va (2 : Int32))), .second, .unset, .unset, .unset, .unset] [(.long (1 : Int64)), (.long (((fr &&& (1073741823 : Int32)) >>> ((3 : Int32) &&& 31)).toInt64))])) t → Steps p.tables e below (s₁.setTop (entryFrame m #[(.int sel), (.long ob), (.int fr), (.long ke), (.long va)] maxLocals)) t := fun t kt => by
          refine S13 t ?_
          show Steps p.tables e below (T9.setTop (mkF m 59 #[.val (.int sel), .val (.long ob), .second, .val (.int fr), .val (.long ke), .second, .val (.long va), .second, .val (.int (1 : Int32)), .val (.ref st_ROWS), .val (.int (fr &&& (1073741823 : Int32))), .val (.long (own_bm (decide (st_ROWS = st_ROWS)) ob (fr &&& (1073741823 : Int32)) ke va (2 : Int32))), .second, .unset, .unset, .unset, .unset] [(.int ((fr &&& (1073741823 : Int32)) &&& (7 : Int32))), (.long (((fr &&& (1073741823 : Int32)) >>> ((3 : Int32) &&& 31)).toInt64))])) t
          refine XS.ifNo X9.here hx rfl (hb hby at_59) rfl ((if0 _ _).trans (feq hc59).1) ?_
          show Steps p.tables e below (T9.setTop (mkF m 62 #[.val (.int sel), .val (.long ob), .second, .val (.int fr), .val (.long ke), .second, .val (.long va), .second, .val (.int (1 : Int32)), .val (.ref st_ROWS), .val (.int (fr &&& (1073741823 : Int32))), .val (.long (own_bm (decide (st_ROWS = st_ROWS)) ob (fr &&& (1073741823 : Int32)) ke va (2 : Int32))), .second, .unset, .unset, .unset, .unset] [(.long (((fr &&& (1073741823 : Int32)) >>> ((3 : Int32) &&& 31)).toInt64))])) t
          refine XS.lconst X9.here hx rfl (hb hby at_62) ?_
          show Steps p.tables e below (T9.setTop (mkF m 63 #[.val (.int sel), .val (.long ob), .second, .val (.int fr), .val (.long ke), .second, .val (.long va), .second, .val (.int (1 : Int32)), .val (.ref st_ROWS), .val (.int (fr &&& (1073741823 : Int32))), .val (.long (own_bm (decide (st_ROWS = st_ROWS)) ob (fr &&& (1073741823 : Int32)) ke va (2 : Int32))), .second, .unset, .unset, .unset, .unset] [(.long (1 : Int64)), (.long (((fr &&& (1073741823 : Int32)) >>> ((3 : Int32) &&& 31)).toInt64))])) t
          refine XS.goto X9.here hx rfl (pc0 := 63) (pc' := 67) rfl (hb hby at_63) (by decide) (by decide) ?_
          exact kt
        exact ⟨T9, ((1 : Int64)), X9, eq7, (by rw [if_neg hc59]), S15⟩
    have S16 : ∀ t, Steps p.tables e below (T12.setTop (mkF m 72 #[.val (.int sel), .val (.long ob), .second, .val (.int fr), .val (.long ke), .second, .val (.long va), .second, .val (.int (1 : Int32)), .val (.ref st_ROWS), .val (.int (fr &&& (1073741823 : Int32))), .val (.long (own_bm (decide (st_ROWS = st_ROWS)) ob (fr &&& (1073741823 : Int32)) ke va (2 : Int32))), .second, .val (.long ((((fr &&& (1073741823 : Int32)) >>> ((3 : Int32) &&& 31)).toInt64) + z)), .second, .unset, .unset] [(.int (1 : Int32))])) t → Steps p.tables e below (s₁.setTop (entryFrame m #[(.int sel), (.long ob), (.int fr), (.long ke), (.long va)] maxLocals)) t := fun t kt => by
      refine S12 t ?_
      show Steps p.tables e below (T12.setTop (mkF m 67 #[.val (.int sel), .val (.long ob), .second, .val (.int fr), .val (.long ke), .second, .val (.long va), .second, .val (.int (1 : Int32)), .val (.ref st_ROWS), .val (.int (fr &&& (1073741823 : Int32))), .val (.long (own_bm (decide (st_ROWS = st_ROWS)) ob (fr &&& (1073741823 : Int32)) ke va (2 : Int32))), .second, .unset, .unset, .unset, .unset] [(.long z), (.long (((fr &&& (1073741823 : Int32)) >>> ((3 : Int32) &&& 31)).toInt64))])) t
      refine XS.ladd X12.here hx rfl (hb hby at_67) rfl ?_
      show Steps p.tables e below (T12.setTop (mkF m 68 #[.val (.int sel), .val (.long ob), .second, .val (.int fr), .val (.long ke), .second, .val (.long va), .second, .val (.int (1 : Int32)), .val (.ref st_ROWS), .val (.int (fr &&& (1073741823 : Int32))), .val (.long (own_bm (decide (st_ROWS = st_ROWS)) ob (fr &&& (1073741823 : Int32)) ke va (2 : Int32))), .second, .unset, .unset, .unset, .unset] [(.long ((((fr &&& (1073741823 : Int32)) >>> ((3 : Int32) &&& 31)).toInt64) + z))])) t
      refine XS.lstore X12.here hx rfl (hb hby at_68) rfl (l' := #[.val (.int sel), .val (.long ob), .second, .val (.int fr), .val (.long ke), .second, .val (.long va), .second, .val (.int (1 : Int32)), .val (.ref st_ROWS), .val (.int (fr &&& (1073741823 : Int32))), .val (.long (own_bm (decide (st_ROWS = st_ROWS)) ob (fr &&& (1073741823 : Int32)) ke va (2 : Int32))), .second, .val (.long ((((fr &&& (1073741823 : Int32)) >>> ((3 : Int32) &&& 31)).toInt64) + z)), .second, .unset, .unset]) rfl ?_
      show Steps p.tables e below (T12.setTop (mkF m 70 #[.val (.int sel), .val (.long ob), .second, .val (.int fr), .val (.long ke), .second, .val (.long va), .second, .val (.int (1 : Int32)), .val (.ref st_ROWS), .val (.int (fr &&& (1073741823 : Int32))), .val (.long (own_bm (decide (st_ROWS = st_ROWS)) ob (fr &&& (1073741823 : Int32)) ke va (2 : Int32))), .second, .val (.long ((((fr &&& (1073741823 : Int32)) >>> ((3 : Int32) &&& 31)).toInt64) + z)), .second, .unset, .unset] [])) t
      refine XS.iload X12.here hx rfl (hb hby at_70) rfl ?_
      exact kt
    have hc72_17 : ¬ ((1 : Int32) = (0 : Int32)) := by decide
    have S18 : ∀ t, Steps p.tables e below (T12.setTop (mkF m 133 #[.val (.int sel), .val (.long ob), .second, .val (.int fr), .val (.long ke), .second, .val (.long va), .second, .val (.int (1 : Int32)), .val (.ref st_ROWS), .val (.int (fr &&& (1073741823 : Int32))), .val (.long (own_bm (decide (st_ROWS = st_ROWS)) ob (fr &&& (1073741823 : Int32)) ke va (2 : Int32))), .second, .val (.long ((((fr &&& (1073741823 : Int32)) >>> ((3 : Int32) &&& 31)).toInt64) + z)), .second, .val (.long ((((ob * (((2 : Int64) * ((((fr &&& (1073741823 : Int32)) >>> ((3 : Int32) &&& 31)).toInt64) + z)) - (2 : Int64))) + (((fr &&& (1073741823 : Int32)).toInt64) + (1 : Int64))) + va) - ((2 : Int64) * ke))), .second] [(.int (lcmpW (own_bm (decide (st_ROWS = st_ROWS)) ob (fr &&& (1073741823 : Int32)) ke va (2 : Int32)) ((((ob * (((2 : Int64) * ((((fr &&& (1073741823 : Int32)) >>> ((3 : Int32) &&& 31)).toInt64) + z)) - (2 : Int64))) + (((fr &&& (1073741823 : Int32)).toInt64) + (1 : Int64))) + va) - ((2 : Int64) * ke))))])) t → Steps p.tables e below (s₁.setTop (entryFrame m #[(.int sel), (.long ob), (.int fr), (.long ke), (.long va)] maxLocals)) t := fun t kt => by
      refine S16 t ?_
      show Steps p.tables e below (T12.setTop (mkF m 72 #[.val (.int sel), .val (.long ob), .second, .val (.int fr), .val (.long ke), .second, .val (.long va), .second, .val (.int (1 : Int32)), .val (.ref st_ROWS), .val (.int (fr &&& (1073741823 : Int32))), .val (.long (own_bm (decide (st_ROWS = st_ROWS)) ob (fr &&& (1073741823 : Int32)) ke va (2 : Int32))), .second, .val (.long ((((fr &&& (1073741823 : Int32)) >>> ((3 : Int32) &&& 31)).toInt64) + z)), .second, .unset, .unset] [(.int (1 : Int32))])) t
      refine XS.ifNo X12.here hx rfl (hb hby at_72) rfl ((if0 _ _).trans (feq hc72_17).1) ?_
      show Steps p.tables e below (T12.setTop (mkF m 75 #[.val (.int sel), .val (.long ob), .second, .val (.int fr), .val (.long ke), .second, .val (.long va), .second, .val (.int (1 : Int32)), .val (.ref st_ROWS), .val (.int (fr &&& (1073741823 : Int32))), .val (.long (own_bm (decide (st_ROWS = st_ROWS)) ob (fr &&& (1073741823 : Int32)) ke va (2 : Int32))), .second, .val (.long ((((fr &&& (1073741823 : Int32)) >>> ((3 : Int32) &&& 31)).toInt64) + z)), .second, .unset, .unset] [])) t
      refine XS.lloadN X12.here hx rfl (hb hby at_75) rfl ?_
      show Steps p.tables e below (T12.setTop (mkF m 76 #[.val (.int sel), .val (.long ob), .second, .val (.int fr), .val (.long ke), .second, .val (.long va), .second, .val (.int (1 : Int32)), .val (.ref st_ROWS), .val (.int (fr &&& (1073741823 : Int32))), .val (.long (own_bm (decide (st_ROWS = st_ROWS)) ob (fr &&& (1073741823 : Int32)) ke va (2 : Int32))), .second, .val (.long ((((fr &&& (1073741823 : Int32)) >>> ((3 : Int32) &&& 31)).toInt64) + z)), .second, .unset, .unset] [(.long ob)])) t
      refine X12.ldc2Long hx hown (mvT hZ (hw _ (List.mem_of_getElem? (i := 13) rfl))) (g := (mkF m 76 #[.val (.int sel), .val (.long ob), .second, .val (.int fr), .val (.long ke), .second, .val (.long va), .second, .val (.int (1 : Int32)), .val (.ref st_ROWS), .val (.int (fr &&& (1073741823 : Int32))), .val (.long (own_bm (decide (st_ROWS = st_ROWS)) ob (fr &&& (1073741823 : Int32)) ke va (2 : Int32))), .second, .val (.long ((((fr &&& (1073741823 : Int32)) >>> ((3 : Int32) &&& 31)).toInt64) + z)), .second, .unset, .unset] [(.long ob)])) rfl (hb hby at_76) _ ?_
      show Steps p.tables e below (T12.setTop (mkF m 79 #[.val (.int sel), .val (.long ob), .second, .val (.int fr), .val (.long ke), .second, .val (.long va), .second, .val (.int (1 : Int32)), .val (.ref st_ROWS), .val (.int (fr &&& (1073741823 : Int32))), .val (.long (own_bm (decide (st_ROWS = st_ROWS)) ob (fr &&& (1073741823 : Int32)) ke va (2 : Int32))), .second, .val (.long ((((fr &&& (1073741823 : Int32)) >>> ((3 : Int32) &&& 31)).toInt64) + z)), .second, .unset, .unset] [(.long (2 : Int64)), (.long ob)])) t
      refine XS.lload X12.here hx rfl (hb hby at_79) rfl ?_
      show Steps p.tables e below (T12.setTop (mkF m 81 #[.val (.int sel), .val (.long ob), .second, .val (.int fr), .val (.long ke), .second, .val (.long va), .second, .val (.int (1 : Int32)), .val (.ref st_ROWS), .val (.int (fr &&& (1073741823 : Int32))), .val (.long (own_bm (decide (st_ROWS = st_ROWS)) ob (fr &&& (1073741823 : Int32)) ke va (2 : Int32))), .second, .val (.long ((((fr &&& (1073741823 : Int32)) >>> ((3 : Int32) &&& 31)).toInt64) + z)), .second, .unset, .unset] [(.long ((((fr &&& (1073741823 : Int32)) >>> ((3 : Int32) &&& 31)).toInt64) + z)), (.long (2 : Int64)), (.long ob)])) t
      refine XS.lmul X12.here hx rfl (hb hby at_81) rfl ?_
      show Steps p.tables e below (T12.setTop (mkF m 82 #[.val (.int sel), .val (.long ob), .second, .val (.int fr), .val (.long ke), .second, .val (.long va), .second, .val (.int (1 : Int32)), .val (.ref st_ROWS), .val (.int (fr &&& (1073741823 : Int32))), .val (.long (own_bm (decide (st_ROWS = st_ROWS)) ob (fr &&& (1073741823 : Int32)) ke va (2 : Int32))), .second, .val (.long ((((fr &&& (1073741823 : Int32)) >>> ((3 : Int32) &&& 31)).toInt64) + z)), .second, .unset, .unset] [(.long ((2 : Int64) * ((((fr &&& (1073741823 : Int32)) >>> ((3 : Int32) &&& 31)).toInt64) + z))), (.long ob)])) t
      refine X12.ldc2Long hx hown (mvT hZ (hw _ (List.mem_of_getElem? (i := 13) rfl))) (g := (mkF m 82 #[.val (.int sel), .val (.long ob), .second, .val (.int fr), .val (.long ke), .second, .val (.long va), .second, .val (.int (1 : Int32)), .val (.ref st_ROWS), .val (.int (fr &&& (1073741823 : Int32))), .val (.long (own_bm (decide (st_ROWS = st_ROWS)) ob (fr &&& (1073741823 : Int32)) ke va (2 : Int32))), .second, .val (.long ((((fr &&& (1073741823 : Int32)) >>> ((3 : Int32) &&& 31)).toInt64) + z)), .second, .unset, .unset] [(.long ((2 : Int64) * ((((fr &&& (1073741823 : Int32)) >>> ((3 : Int32) &&& 31)).toInt64) + z))), (.long ob)])) rfl (hb hby at_82) _ ?_
      show Steps p.tables e below (T12.setTop (mkF m 85 #[.val (.int sel), .val (.long ob), .second, .val (.int fr), .val (.long ke), .second, .val (.long va), .second, .val (.int (1 : Int32)), .val (.ref st_ROWS), .val (.int (fr &&& (1073741823 : Int32))), .val (.long (own_bm (decide (st_ROWS = st_ROWS)) ob (fr &&& (1073741823 : Int32)) ke va (2 : Int32))), .second, .val (.long ((((fr &&& (1073741823 : Int32)) >>> ((3 : Int32) &&& 31)).toInt64) + z)), .second, .unset, .unset] [(.long (2 : Int64)), (.long ((2 : Int64) * ((((fr &&& (1073741823 : Int32)) >>> ((3 : Int32) &&& 31)).toInt64) + z))), (.long ob)])) t
      refine XS.lsub X12.here hx rfl (hb hby at_85) rfl ?_
      show Steps p.tables e below (T12.setTop (mkF m 86 #[.val (.int sel), .val (.long ob), .second, .val (.int fr), .val (.long ke), .second, .val (.long va), .second, .val (.int (1 : Int32)), .val (.ref st_ROWS), .val (.int (fr &&& (1073741823 : Int32))), .val (.long (own_bm (decide (st_ROWS = st_ROWS)) ob (fr &&& (1073741823 : Int32)) ke va (2 : Int32))), .second, .val (.long ((((fr &&& (1073741823 : Int32)) >>> ((3 : Int32) &&& 31)).toInt64) + z)), .second, .unset, .unset] [(.long (((2 : Int64) * ((((fr &&& (1073741823 : Int32)) >>> ((3 : Int32) &&& 31)).toInt64) + z)) - (2 : Int64))), (.long ob)])) t
      refine XS.lmul X12.here hx rfl (hb hby at_86) rfl ?_
      show Steps p.tables e below (T12.setTop (mkF m 87 #[.val (.int sel), .val (.long ob), .second, .val (.int fr), .val (.long ke), .second, .val (.long va), .second, .val (.int (1 : Int32)), .val (.ref st_ROWS), .val (.int (fr &&& (1073741823 : Int32))), .val (.long (own_bm (decide (st_ROWS = st_ROWS)) ob (fr &&& (1073741823 : Int32)) ke va (2 : Int32))), .second, .val (.long ((((fr &&& (1073741823 : Int32)) >>> ((3 : Int32) &&& 31)).toInt64) + z)), .second, .unset, .unset] [(.long (ob * (((2 : Int64) * ((((fr &&& (1073741823 : Int32)) >>> ((3 : Int32) &&& 31)).toInt64) + z)) - (2 : Int64))))])) t
      refine XS.iload X12.here hx rfl (hb hby at_87) rfl ?_
      show Steps p.tables e below (T12.setTop (mkF m 89 #[.val (.int sel), .val (.long ob), .second, .val (.int fr), .val (.long ke), .second, .val (.long va), .second, .val (.int (1 : Int32)), .val (.ref st_ROWS), .val (.int (fr &&& (1073741823 : Int32))), .val (.long (own_bm (decide (st_ROWS = st_ROWS)) ob (fr &&& (1073741823 : Int32)) ke va (2 : Int32))), .second, .val (.long ((((fr &&& (1073741823 : Int32)) >>> ((3 : Int32) &&& 31)).toInt64) + z)), .second, .unset, .unset] [(.int (fr &&& (1073741823 : Int32))), (.long (ob * (((2 : Int64) * ((((fr &&& (1073741823 : Int32)) >>> ((3 : Int32) &&& 31)).toInt64) + z)) - (2 : Int64))))])) t
      refine XS.i2l X12.here hx rfl (hb hby at_89) rfl ?_
      show Steps p.tables e below (T12.setTop (mkF m 90 #[.val (.int sel), .val (.long ob), .second, .val (.int fr), .val (.long ke), .second, .val (.long va), .second, .val (.int (1 : Int32)), .val (.ref st_ROWS), .val (.int (fr &&& (1073741823 : Int32))), .val (.long (own_bm (decide (st_ROWS = st_ROWS)) ob (fr &&& (1073741823 : Int32)) ke va (2 : Int32))), .second, .val (.long ((((fr &&& (1073741823 : Int32)) >>> ((3 : Int32) &&& 31)).toInt64) + z)), .second, .unset, .unset] [(.long ((fr &&& (1073741823 : Int32)).toInt64)), (.long (ob * (((2 : Int64) * ((((fr &&& (1073741823 : Int32)) >>> ((3 : Int32) &&& 31)).toInt64) + z)) - (2 : Int64))))])) t
      refine XS.lconst X12.here hx rfl (hb hby at_90) ?_
      show Steps p.tables e below (T12.setTop (mkF m 91 #[.val (.int sel), .val (.long ob), .second, .val (.int fr), .val (.long ke), .second, .val (.long va), .second, .val (.int (1 : Int32)), .val (.ref st_ROWS), .val (.int (fr &&& (1073741823 : Int32))), .val (.long (own_bm (decide (st_ROWS = st_ROWS)) ob (fr &&& (1073741823 : Int32)) ke va (2 : Int32))), .second, .val (.long ((((fr &&& (1073741823 : Int32)) >>> ((3 : Int32) &&& 31)).toInt64) + z)), .second, .unset, .unset] [(.long (1 : Int64)), (.long ((fr &&& (1073741823 : Int32)).toInt64)), (.long (ob * (((2 : Int64) * ((((fr &&& (1073741823 : Int32)) >>> ((3 : Int32) &&& 31)).toInt64) + z)) - (2 : Int64))))])) t
      refine XS.ladd X12.here hx rfl (hb hby at_91) rfl ?_
      show Steps p.tables e below (T12.setTop (mkF m 92 #[.val (.int sel), .val (.long ob), .second, .val (.int fr), .val (.long ke), .second, .val (.long va), .second, .val (.int (1 : Int32)), .val (.ref st_ROWS), .val (.int (fr &&& (1073741823 : Int32))), .val (.long (own_bm (decide (st_ROWS = st_ROWS)) ob (fr &&& (1073741823 : Int32)) ke va (2 : Int32))), .second, .val (.long ((((fr &&& (1073741823 : Int32)) >>> ((3 : Int32) &&& 31)).toInt64) + z)), .second, .unset, .unset] [(.long (((fr &&& (1073741823 : Int32)).toInt64) + (1 : Int64))), (.long (ob * (((2 : Int64) * ((((fr &&& (1073741823 : Int32)) >>> ((3 : Int32) &&& 31)).toInt64) + z)) - (2 : Int64))))])) t
      refine XS.ladd X12.here hx rfl (hb hby at_92) rfl ?_
      show Steps p.tables e below (T12.setTop (mkF m 93 #[.val (.int sel), .val (.long ob), .second, .val (.int fr), .val (.long ke), .second, .val (.long va), .second, .val (.int (1 : Int32)), .val (.ref st_ROWS), .val (.int (fr &&& (1073741823 : Int32))), .val (.long (own_bm (decide (st_ROWS = st_ROWS)) ob (fr &&& (1073741823 : Int32)) ke va (2 : Int32))), .second, .val (.long ((((fr &&& (1073741823 : Int32)) >>> ((3 : Int32) &&& 31)).toInt64) + z)), .second, .unset, .unset] [(.long ((ob * (((2 : Int64) * ((((fr &&& (1073741823 : Int32)) >>> ((3 : Int32) &&& 31)).toInt64) + z)) - (2 : Int64))) + (((fr &&& (1073741823 : Int32)).toInt64) + (1 : Int64))))])) t
      refine XS.lload X12.here hx rfl (hb hby at_93) rfl ?_
      show Steps p.tables e below (T12.setTop (mkF m 95 #[.val (.int sel), .val (.long ob), .second, .val (.int fr), .val (.long ke), .second, .val (.long va), .second, .val (.int (1 : Int32)), .val (.ref st_ROWS), .val (.int (fr &&& (1073741823 : Int32))), .val (.long (own_bm (decide (st_ROWS = st_ROWS)) ob (fr &&& (1073741823 : Int32)) ke va (2 : Int32))), .second, .val (.long ((((fr &&& (1073741823 : Int32)) >>> ((3 : Int32) &&& 31)).toInt64) + z)), .second, .unset, .unset] [(.long va), (.long ((ob * (((2 : Int64) * ((((fr &&& (1073741823 : Int32)) >>> ((3 : Int32) &&& 31)).toInt64) + z)) - (2 : Int64))) + (((fr &&& (1073741823 : Int32)).toInt64) + (1 : Int64))))])) t
      refine XS.ladd X12.here hx rfl (hb hby at_95) rfl ?_
      show Steps p.tables e below (T12.setTop (mkF m 96 #[.val (.int sel), .val (.long ob), .second, .val (.int fr), .val (.long ke), .second, .val (.long va), .second, .val (.int (1 : Int32)), .val (.ref st_ROWS), .val (.int (fr &&& (1073741823 : Int32))), .val (.long (own_bm (decide (st_ROWS = st_ROWS)) ob (fr &&& (1073741823 : Int32)) ke va (2 : Int32))), .second, .val (.long ((((fr &&& (1073741823 : Int32)) >>> ((3 : Int32) &&& 31)).toInt64) + z)), .second, .unset, .unset] [(.long (((ob * (((2 : Int64) * ((((fr &&& (1073741823 : Int32)) >>> ((3 : Int32) &&& 31)).toInt64) + z)) - (2 : Int64))) + (((fr &&& (1073741823 : Int32)).toInt64) + (1 : Int64))) + va))])) t
      refine X12.ldc2Long hx hown (mvT hZ (hw _ (List.mem_of_getElem? (i := 13) rfl))) (g := (mkF m 96 #[.val (.int sel), .val (.long ob), .second, .val (.int fr), .val (.long ke), .second, .val (.long va), .second, .val (.int (1 : Int32)), .val (.ref st_ROWS), .val (.int (fr &&& (1073741823 : Int32))), .val (.long (own_bm (decide (st_ROWS = st_ROWS)) ob (fr &&& (1073741823 : Int32)) ke va (2 : Int32))), .second, .val (.long ((((fr &&& (1073741823 : Int32)) >>> ((3 : Int32) &&& 31)).toInt64) + z)), .second, .unset, .unset] [(.long (((ob * (((2 : Int64) * ((((fr &&& (1073741823 : Int32)) >>> ((3 : Int32) &&& 31)).toInt64) + z)) - (2 : Int64))) + (((fr &&& (1073741823 : Int32)).toInt64) + (1 : Int64))) + va))])) rfl (hb hby at_96) _ ?_
      show Steps p.tables e below (T12.setTop (mkF m 99 #[.val (.int sel), .val (.long ob), .second, .val (.int fr), .val (.long ke), .second, .val (.long va), .second, .val (.int (1 : Int32)), .val (.ref st_ROWS), .val (.int (fr &&& (1073741823 : Int32))), .val (.long (own_bm (decide (st_ROWS = st_ROWS)) ob (fr &&& (1073741823 : Int32)) ke va (2 : Int32))), .second, .val (.long ((((fr &&& (1073741823 : Int32)) >>> ((3 : Int32) &&& 31)).toInt64) + z)), .second, .unset, .unset] [(.long (2 : Int64)), (.long (((ob * (((2 : Int64) * ((((fr &&& (1073741823 : Int32)) >>> ((3 : Int32) &&& 31)).toInt64) + z)) - (2 : Int64))) + (((fr &&& (1073741823 : Int32)).toInt64) + (1 : Int64))) + va))])) t
      refine XS.lload X12.here hx rfl (hb hby at_99) rfl ?_
      show Steps p.tables e below (T12.setTop (mkF m 101 #[.val (.int sel), .val (.long ob), .second, .val (.int fr), .val (.long ke), .second, .val (.long va), .second, .val (.int (1 : Int32)), .val (.ref st_ROWS), .val (.int (fr &&& (1073741823 : Int32))), .val (.long (own_bm (decide (st_ROWS = st_ROWS)) ob (fr &&& (1073741823 : Int32)) ke va (2 : Int32))), .second, .val (.long ((((fr &&& (1073741823 : Int32)) >>> ((3 : Int32) &&& 31)).toInt64) + z)), .second, .unset, .unset] [(.long ke), (.long (2 : Int64)), (.long (((ob * (((2 : Int64) * ((((fr &&& (1073741823 : Int32)) >>> ((3 : Int32) &&& 31)).toInt64) + z)) - (2 : Int64))) + (((fr &&& (1073741823 : Int32)).toInt64) + (1 : Int64))) + va))])) t
      refine XS.lmul X12.here hx rfl (hb hby at_101) rfl ?_
      show Steps p.tables e below (T12.setTop (mkF m 102 #[.val (.int sel), .val (.long ob), .second, .val (.int fr), .val (.long ke), .second, .val (.long va), .second, .val (.int (1 : Int32)), .val (.ref st_ROWS), .val (.int (fr &&& (1073741823 : Int32))), .val (.long (own_bm (decide (st_ROWS = st_ROWS)) ob (fr &&& (1073741823 : Int32)) ke va (2 : Int32))), .second, .val (.long ((((fr &&& (1073741823 : Int32)) >>> ((3 : Int32) &&& 31)).toInt64) + z)), .second, .unset, .unset] [(.long ((2 : Int64) * ke)), (.long (((ob * (((2 : Int64) * ((((fr &&& (1073741823 : Int32)) >>> ((3 : Int32) &&& 31)).toInt64) + z)) - (2 : Int64))) + (((fr &&& (1073741823 : Int32)).toInt64) + (1 : Int64))) + va))])) t
      refine XS.lsub X12.here hx rfl (hb hby at_102) rfl ?_
      show Steps p.tables e below (T12.setTop (mkF m 103 #[.val (.int sel), .val (.long ob), .second, .val (.int fr), .val (.long ke), .second, .val (.long va), .second, .val (.int (1 : Int32)), .val (.ref st_ROWS), .val (.int (fr &&& (1073741823 : Int32))), .val (.long (own_bm (decide (st_ROWS = st_ROWS)) ob (fr &&& (1073741823 : Int32)) ke va (2 : Int32))), .second, .val (.long ((((fr &&& (1073741823 : Int32)) >>> ((3 : Int32) &&& 31)).toInt64) + z)), .second, .unset, .unset] [(.long ((((ob * (((2 : Int64) * ((((fr &&& (1073741823 : Int32)) >>> ((3 : Int32) &&& 31)).toInt64) + z)) - (2 : Int64))) + (((fr &&& (1073741823 : Int32)).toInt64) + (1 : Int64))) + va) - ((2 : Int64) * ke)))])) t
      refine XS.lstore X12.here hx rfl (hb hby at_103) rfl (l' := #[.val (.int sel), .val (.long ob), .second, .val (.int fr), .val (.long ke), .second, .val (.long va), .second, .val (.int (1 : Int32)), .val (.ref st_ROWS), .val (.int (fr &&& (1073741823 : Int32))), .val (.long (own_bm (decide (st_ROWS = st_ROWS)) ob (fr &&& (1073741823 : Int32)) ke va (2 : Int32))), .second, .val (.long ((((fr &&& (1073741823 : Int32)) >>> ((3 : Int32) &&& 31)).toInt64) + z)), .second, .val (.long ((((ob * (((2 : Int64) * ((((fr &&& (1073741823 : Int32)) >>> ((3 : Int32) &&& 31)).toInt64) + z)) - (2 : Int64))) + (((fr &&& (1073741823 : Int32)).toInt64) + (1 : Int64))) + va) - ((2 : Int64) * ke))), .second]) rfl ?_
      show Steps p.tables e below (T12.setTop (mkF m 105 #[.val (.int sel), .val (.long ob), .second, .val (.int fr), .val (.long ke), .second, .val (.long va), .second, .val (.int (1 : Int32)), .val (.ref st_ROWS), .val (.int (fr &&& (1073741823 : Int32))), .val (.long (own_bm (decide (st_ROWS = st_ROWS)) ob (fr &&& (1073741823 : Int32)) ke va (2 : Int32))), .second, .val (.long ((((fr &&& (1073741823 : Int32)) >>> ((3 : Int32) &&& 31)).toInt64) + z)), .second, .val (.long ((((ob * (((2 : Int64) * ((((fr &&& (1073741823 : Int32)) >>> ((3 : Int32) &&& 31)).toInt64) + z)) - (2 : Int64))) + (((fr &&& (1073741823 : Int32)).toInt64) + (1 : Int64))) + va) - ((2 : Int64) * ke))), .second] [])) t
      refine XS.goto X12.here hx rfl (pc0 := 105) (pc' := 128) rfl (hb hby at_105) (by decide) (by decide) ?_
      show Steps p.tables e below (T12.setTop (mkF m 128 #[.val (.int sel), .val (.long ob), .second, .val (.int fr), .val (.long ke), .second, .val (.long va), .second, .val (.int (1 : Int32)), .val (.ref st_ROWS), .val (.int (fr &&& (1073741823 : Int32))), .val (.long (own_bm (decide (st_ROWS = st_ROWS)) ob (fr &&& (1073741823 : Int32)) ke va (2 : Int32))), .second, .val (.long ((((fr &&& (1073741823 : Int32)) >>> ((3 : Int32) &&& 31)).toInt64) + z)), .second, .val (.long ((((ob * (((2 : Int64) * ((((fr &&& (1073741823 : Int32)) >>> ((3 : Int32) &&& 31)).toInt64) + z)) - (2 : Int64))) + (((fr &&& (1073741823 : Int32)).toInt64) + (1 : Int64))) + va) - ((2 : Int64) * ke))), .second] [])) t
      refine XS.lload X12.here hx rfl (hb hby at_128) rfl ?_
      show Steps p.tables e below (T12.setTop (mkF m 130 #[.val (.int sel), .val (.long ob), .second, .val (.int fr), .val (.long ke), .second, .val (.long va), .second, .val (.int (1 : Int32)), .val (.ref st_ROWS), .val (.int (fr &&& (1073741823 : Int32))), .val (.long (own_bm (decide (st_ROWS = st_ROWS)) ob (fr &&& (1073741823 : Int32)) ke va (2 : Int32))), .second, .val (.long ((((fr &&& (1073741823 : Int32)) >>> ((3 : Int32) &&& 31)).toInt64) + z)), .second, .val (.long ((((ob * (((2 : Int64) * ((((fr &&& (1073741823 : Int32)) >>> ((3 : Int32) &&& 31)).toInt64) + z)) - (2 : Int64))) + (((fr &&& (1073741823 : Int32)).toInt64) + (1 : Int64))) + va) - ((2 : Int64) * ke))), .second] [(.long (own_bm (decide (st_ROWS = st_ROWS)) ob (fr &&& (1073741823 : Int32)) ke va (2 : Int32)))])) t
      refine XS.lload X12.here hx rfl (hb hby at_130) rfl ?_
      show Steps p.tables e below (T12.setTop (mkF m 132 #[.val (.int sel), .val (.long ob), .second, .val (.int fr), .val (.long ke), .second, .val (.long va), .second, .val (.int (1 : Int32)), .val (.ref st_ROWS), .val (.int (fr &&& (1073741823 : Int32))), .val (.long (own_bm (decide (st_ROWS = st_ROWS)) ob (fr &&& (1073741823 : Int32)) ke va (2 : Int32))), .second, .val (.long ((((fr &&& (1073741823 : Int32)) >>> ((3 : Int32) &&& 31)).toInt64) + z)), .second, .val (.long ((((ob * (((2 : Int64) * ((((fr &&& (1073741823 : Int32)) >>> ((3 : Int32) &&& 31)).toInt64) + z)) - (2 : Int64))) + (((fr &&& (1073741823 : Int32)).toInt64) + (1 : Int64))) + va) - ((2 : Int64) * ke))), .second] [(.long ((((ob * (((2 : Int64) * ((((fr &&& (1073741823 : Int32)) >>> ((3 : Int32) &&& 31)).toInt64) + z)) - (2 : Int64))) + (((fr &&& (1073741823 : Int32)).toInt64) + (1 : Int64))) + va) - ((2 : Int64) * ke))), (.long (own_bm (decide (st_ROWS = st_ROWS)) ob (fr &&& (1073741823 : Int32)) ke va (2 : Int32)))])) t
      refine XS.lcmp X12.here hx rfl (hb hby at_132) rfl ?_
      exact kt
    have hc133_19 : (own_bm (decide (st_ROWS = st_ROWS)) ob (fr &&& (1073741823 : Int32)) ke va (2 : Int32)) = ((((ob * (((2 : Int64) * ((((fr &&& (1073741823 : Int32)) >>> ((3 : Int32) &&& 31)).toInt64) + z)) - (2 : Int64))) + (((fr &&& (1073741823 : Int32)).toInt64) + (1 : Int64))) + va) - ((2 : Int64) * ke)) := by rw [show decide (st_ROWS = st_ROWS) = true from decide_eq_true rfl]; exact own_plainR _ _ _ _ (own_range fr) _ hr54
    have S20 : ∀ t, Steps p.tables e below (T12.setTop (mkF m 141 #[.val (.int sel), .val (.long ob), .second, .val (.int fr), .val (.long ke), .second, .val (.long va), .second, .val (.int (1 : Int32)), .val (.ref st_ROWS), .val (.int (fr &&& (1073741823 : Int32))), .val (.long (own_bm (decide (st_ROWS = st_ROWS)) ob (fr &&& (1073741823 : Int32)) ke va (2 : Int32))), .second, .val (.long ((((fr &&& (1073741823 : Int32)) >>> ((3 : Int32) &&& 31)).toInt64) + z)), .second, .val (.long ((((ob * (((2 : Int64) * ((((fr &&& (1073741823 : Int32)) >>> ((3 : Int32) &&& 31)).toInt64) + z)) - (2 : Int64))) + (((fr &&& (1073741823 : Int32)).toInt64) + (1 : Int64))) + va) - ((2 : Int64) * ke))), .second] [(.int (1 : Int32))])) t → Steps p.tables e below (s₁.setTop (entryFrame m #[(.int sel), (.long ob), (.int fr), (.long ke), (.long va)] maxLocals)) t := fun t kt => by
      refine S18 t ?_
      show Steps p.tables e below (T12.setTop (mkF m 133 #[.val (.int sel), .val (.long ob), .second, .val (.int fr), .val (.long ke), .second, .val (.long va), .second, .val (.int (1 : Int32)), .val (.ref st_ROWS), .val (.int (fr &&& (1073741823 : Int32))), .val (.long (own_bm (decide (st_ROWS = st_ROWS)) ob (fr &&& (1073741823 : Int32)) ke va (2 : Int32))), .second, .val (.long ((((fr &&& (1073741823 : Int32)) >>> ((3 : Int32) &&& 31)).toInt64) + z)), .second, .val (.long ((((ob * (((2 : Int64) * ((((fr &&& (1073741823 : Int32)) >>> ((3 : Int32) &&& 31)).toInt64) + z)) - (2 : Int64))) + (((fr &&& (1073741823 : Int32)).toInt64) + (1 : Int64))) + va) - ((2 : Int64) * ke))), .second] [(.int (lcmpW (own_bm (decide (st_ROWS = st_ROWS)) ob (fr &&& (1073741823 : Int32)) ke va (2 : Int32)) ((((ob * (((2 : Int64) * ((((fr &&& (1073741823 : Int32)) >>> ((3 : Int32) &&& 31)).toInt64) + z)) - (2 : Int64))) + (((fr &&& (1073741823 : Int32)).toInt64) + (1 : Int64))) + va) - ((2 : Int64) * ke))))])) t
      refine XS.ifNo X12.here hx rfl (hb hby at_133) rfl (own_Leq hc133_19).2 ?_
      show Steps p.tables e below (T12.setTop (mkF m 136 #[.val (.int sel), .val (.long ob), .second, .val (.int fr), .val (.long ke), .second, .val (.long va), .second, .val (.int (1 : Int32)), .val (.ref st_ROWS), .val (.int (fr &&& (1073741823 : Int32))), .val (.long (own_bm (decide (st_ROWS = st_ROWS)) ob (fr &&& (1073741823 : Int32)) ke va (2 : Int32))), .second, .val (.long ((((fr &&& (1073741823 : Int32)) >>> ((3 : Int32) &&& 31)).toInt64) + z)), .second, .val (.long ((((ob * (((2 : Int64) * ((((fr &&& (1073741823 : Int32)) >>> ((3 : Int32) &&& 31)).toInt64) + z)) - (2 : Int64))) + (((fr &&& (1073741823 : Int32)).toInt64) + (1 : Int64))) + va) - ((2 : Int64) * ke))), .second] [])) t
      refine XS.iconst X12.here hx rfl (hb hby at_136) ?_
      show Steps p.tables e below (T12.setTop (mkF m 137 #[.val (.int sel), .val (.long ob), .second, .val (.int fr), .val (.long ke), .second, .val (.long va), .second, .val (.int (1 : Int32)), .val (.ref st_ROWS), .val (.int (fr &&& (1073741823 : Int32))), .val (.long (own_bm (decide (st_ROWS = st_ROWS)) ob (fr &&& (1073741823 : Int32)) ke va (2 : Int32))), .second, .val (.long ((((fr &&& (1073741823 : Int32)) >>> ((3 : Int32) &&& 31)).toInt64) + z)), .second, .val (.long ((((ob * (((2 : Int64) * ((((fr &&& (1073741823 : Int32)) >>> ((3 : Int32) &&& 31)).toInt64) + z)) - (2 : Int64))) + (((fr &&& (1073741823 : Int32)).toInt64) + (1 : Int64))) + va) - ((2 : Int64) * ke))), .second] [(.int (1 : Int32))])) t
      refine XS.goto X12.here hx rfl (pc0 := 137) (pc' := 141) rfl (hb hby at_137) (by decide) (by decide) ?_
      exact kt
    obtain ⟨fs, hr, hrun, hended, hW, hsame⟩ := X12.leave (v := some (.int (nar .boolean (1 : Int32)))) (fun h => by rw [Bd.returns] at h; cases h)
    refine ⟨_, _, S20 _ ?_, hrun, hended, _, _, rfl, ?_, ⟨_, rfl⟩, hW, hsame.mono (by decide) (by decide)⟩
    · show Steps p.tables e below (T12.setTop (mkF m 141 #[.val (.int sel), .val (.long ob), .second, .val (.int fr), .val (.long ke), .second, .val (.long va), .second, .val (.int (1 : Int32)), .val (.ref st_ROWS), .val (.int (fr &&& (1073741823 : Int32))), .val (.long (own_bm (decide (st_ROWS = st_ROWS)) ob (fr &&& (1073741823 : Int32)) ke va (2 : Int32))), .second, .val (.long ((((fr &&& (1073741823 : Int32)) >>> ((3 : Int32) &&& 31)).toInt64) + z)), .second, .val (.long ((((ob * (((2 : Int64) * ((((fr &&& (1073741823 : Int32)) >>> ((3 : Int32) &&& 31)).toInt64) + z)) - (2 : Int64))) + (((fr &&& (1073741823 : Int32)).toInt64) + (1 : Int64))) + va) - ((2 : Int64) * ke))), .second] [(.int (1 : Int32))])) _
      exact retN X12 hx (t := .boolean) Bd.returns (by simp) (hb hby at_141) hr
    · show own_Q0 Z sel ob fr ke va st_ROWS st_NESTED h0 n0 _ T12.heap _
      rw [e12]
      exact ⟨rfl, N0⟩
  · skip
    have S21 : ∀ t, Steps p.tables e below (s₁.setTop (mkF m 15 #[.val (.int sel), .val (.long ob), .second, .val (.int fr), .val (.long ke), .second, .val (.long va), .second, .val (.int (0 : Int32)), .unset, .unset, .unset, .unset, .unset, .unset, .unset, .unset] [(.int (0 : Int32))])) t → Steps p.tables e below (s₁.setTop (entryFrame m #[(.int sel), (.long ob), (.int fr), (.long ke), (.long va)] maxLocals)) t := fun t kt => by
      refine S1 t ?_
      show Steps p.tables e below (s₁.setTop (mkF m 3 #[.val (.int sel), .val (.long ob), .second, .val (.int fr), .val (.long ke), .second, .val (.long va), .second, .unset, .unset, .unset, .unset, .unset, .unset, .unset, .unset, .unset] [(.int (sel &&& (1 : Int32)))])) t
      refine XS.ifYes X0.here hx rfl (pc0 := 3) (pc' := 10) rfl (hb hby at_3) rfl ((if0 _ _).trans (feq hc3).2) (by decide) (by decide) ?_
      show Steps p.tables e below (s₁.setTop (mkF m 10 #[.val (.int sel), .val (.long ob), .second, .val (.int fr), .val (.long ke), .second, .val (.long va), .second, .unset, .unset, .unset, .unset, .unset, .unset, .unset, .unset, .unset] [])) t
      refine XS.iconst X0.here hx rfl (hb hby at_10) ?_
      show Steps p.tables e below (s₁.setTop (mkF m 11 #[.val (.int sel), .val (.long ob), .second, .val (.int fr), .val (.long ke), .second, .val (.long va), .second, .unset, .unset, .unset, .unset, .unset, .unset, .unset, .unset, .unset] [(.int (0 : Int32))])) t
      refine XS.istore X0.here hx rfl (hb hby at_11) rfl (l' := #[.val (.int sel), .val (.long ob), .second, .val (.int fr), .val (.long ke), .second, .val (.long va), .second, .val (.int (0 : Int32)), .unset, .unset, .unset, .unset, .unset, .unset, .unset, .unset]) rfl ?_
      show Steps p.tables e below (s₁.setTop (mkF m 13 #[.val (.int sel), .val (.long ob), .second, .val (.int fr), .val (.long ke), .second, .val (.long va), .second, .val (.int (0 : Int32)), .unset, .unset, .unset, .unset, .unset, .unset, .unset, .unset] [])) t
      refine XS.iload X0.here hx rfl (hb hby at_13) rfl ?_
      exact kt
    have hc15_22 : (0 : Int32) = (0 : Int32) := by decide
    have S23 : ∀ t, Steps p.tables e below (s₁.setTop (mkF m 24 #[.val (.int sel), .val (.long ob), .second, .val (.int fr), .val (.long ke), .second, .val (.long va), .second, .val (.int (0 : Int32)), .unset, .unset, .unset, .unset, .unset, .unset, .unset, .unset] [])) t → Steps p.tables e below (s₁.setTop (entryFrame m #[(.int sel), (.long ob), (.int fr), (.long ke), (.long va)] maxLocals)) t := fun t kt => by
      refine S21 t ?_
      show Steps p.tables e below (s₁.setTop (mkF m 15 #[.val (.int sel), .val (.long ob), .second, .val (.int fr), .val (.long ke), .second, .val (.long va), .second, .val (.int (0 : Int32)), .unset, .unset, .unset, .unset, .unset, .unset, .unset, .unset] [(.int (0 : Int32))])) t
      refine XS.ifYes X0.here hx rfl (pc0 := 15) (pc' := 24) rfl (hb hby at_15) rfl ((if0 _ _).trans (teq hc15_22).1) (by decide) (by decide) ?_
      exact kt
    obtain ⟨T24, X24, e24, st24⟩ := getS2 X0 hx hZ hown (host := "") (Or.inl (hw _ (List.mem_of_getElem? (i := 14) rfl))) Via.refl e0 S_NESTED (g := (mkF m 24 #[.val (.int sel), .val (.long ob), .second, .val (.int fr), .val (.long ke), .second, .val (.long va), .second, .val (.int (0 : Int32)), .unset, .unset, .unset, .unset, .unset, .unset, .unset, .unset] [])) rfl (hb hby at_24)
    have S25 : ∀ t, Steps p.tables e below (T24.setTop (mkF m 27 #[.val (.int sel), .val (.long ob), .second, .val (.int fr), .val (.long ke), .second, .val (.long va), .second, .val (.int (0 : Int32)), .unset, .unset, .unset, .unset, .unset, .unset, .unset, .unset] [(.ref st_NESTED)])) t → Steps p.tables e below (s₁.setTop (entryFrame m #[(.int sel), (.long ob), (.int fr), (.long ke), (.long va)] maxLocals)) t := fun t kt => S23 t (st24 _ kt)
    have S27 : ∀ t, Steps p.tables e below (T24.setTop (mkF m 44 #[.val (.int sel), .val (.long ob), .second, .val (.int fr), .val (.long ke), .second, .val (.long va), .second, .val (.int (0 : Int32)), .val (.ref st_NESTED), .val (.int (fr &&& (1073741823 : Int32))), .unset, .unset, .unset, .unset, .unset, .unset] [(.long va), (.long ke), (.int (fr &&& (1073741823 : Int32))), (.long ob), (.ref st_NESTED)])) t → Steps p.tables e below (s₁.setTop (entryFrame m #[(.int sel), (.long ob), (.int fr), (.long ke), (.long va)] maxLocals)) t := fun t kt => by
      refine S25 t ?_
      show Steps p.tables e below (T24.setTop (mkF m 27 #[.val (.int sel), .val (.long ob), .second, .val (.int fr), .val (.long ke), .second, .val (.long va), .second, .val (.int (0 : Int32)), .unset, .unset, .unset, .unset, .unset, .unset, .unset, .unset] [(.ref st_NESTED)])) t
      refine XS.astore X24.here hx rfl (hb hby at_27) rfl rfl (l' := #[.val (.int sel), .val (.long ob), .second, .val (.int fr), .val (.long ke), .second, .val (.long va), .second, .val (.int (0 : Int32)), .val (.ref st_NESTED), .unset, .unset, .unset, .unset, .unset, .unset, .unset]) rfl ?_
      show Steps p.tables e below (T24.setTop (mkF m 29 #[.val (.int sel), .val (.long ob), .second, .val (.int fr), .val (.long ke), .second, .val (.long va), .second, .val (.int (0 : Int32)), .val (.ref st_NESTED), .unset, .unset, .unset, .unset, .unset, .unset, .unset] [])) t
      refine XS.iloadN X24.here hx rfl (hb hby at_29) rfl ?_
      show Steps p.tables e below (T24.setTop (mkF m 30 #[.val (.int sel), .val (.long ob), .second, .val (.int fr), .val (.long ke), .second, .val (.long va), .second, .val (.int (0 : Int32)), .val (.ref st_NESTED), .unset, .unset, .unset, .unset, .unset, .unset, .unset] [(.int fr)])) t
      refine X24.ldcInt hx hown (mvT hZ (hw _ (List.mem_of_getElem? (i := 3) rfl))) (g := (mkF m 30 #[.val (.int sel), .val (.long ob), .second, .val (.int fr), .val (.long ke), .second, .val (.long va), .second, .val (.int (0 : Int32)), .val (.ref st_NESTED), .unset, .unset, .unset, .unset, .unset, .unset, .unset] [(.int fr)])) rfl (hb hby at_30) _ ?_
      show Steps p.tables e below (T24.setTop (mkF m 32 #[.val (.int sel), .val (.long ob), .second, .val (.int fr), .val (.long ke), .second, .val (.long va), .second, .val (.int (0 : Int32)), .val (.ref st_NESTED), .unset, .unset, .unset, .unset, .unset, .unset, .unset] [(.int (1073741823 : Int32)), (.int fr)])) t
      refine XS.iand X24.here hx rfl (hb hby at_32) rfl ?_
      show Steps p.tables e below (T24.setTop (mkF m 33 #[.val (.int sel), .val (.long ob), .second, .val (.int fr), .val (.long ke), .second, .val (.long va), .second, .val (.int (0 : Int32)), .val (.ref st_NESTED), .unset, .unset, .unset, .unset, .unset, .unset, .unset] [(.int (fr &&& (1073741823 : Int32)))])) t
      refine XS.istore X24.here hx rfl (hb hby at_33) rfl (l' := #[.val (.int sel), .val (.long ob), .second, .val (.int fr), .val (.long ke), .second, .val (.long va), .second, .val (.int (0 : Int32)), .val (.ref st_NESTED), .val (.int (fr &&& (1073741823 : Int32))), .unset, .unset, .unset, .unset, .unset, .unset]) rfl ?_
      show Steps p.tables e below (T24.setTop (mkF m 35 #[.val (.int sel), .val (.long ob), .second, .val (.int fr), .val (.long ke), .second, .val (.long va), .second, .val (.int (0 : Int32)), .val (.ref st_NESTED), .val (.int (fr &&& (1073741823 : Int32))), .unset, .unset, .unset, .unset, .unset, .unset] [])) t
      refine XS.aload X24.here hx rfl (hb hby at_35) rfl rfl ?_
      show Steps p.tables e below (T24.setTop (mkF m 37 #[.val (.int sel), .val (.long ob), .second, .val (.int fr), .val (.long ke), .second, .val (.long va), .second, .val (.int (0 : Int32)), .val (.ref st_NESTED), .val (.int (fr &&& (1073741823 : Int32))), .unset, .unset, .unset, .unset, .unset, .unset] [(.ref st_NESTED)])) t
      refine XS.lloadN X24.here hx rfl (hb hby at_37) rfl ?_
      show Steps p.tables e below (T24.setTop (mkF m 38 #[.val (.int sel), .val (.long ob), .second, .val (.int fr), .val (.long ke), .second, .val (.long va), .second, .val (.int (0 : Int32)), .val (.ref st_NESTED), .val (.int (fr &&& (1073741823 : Int32))), .unset, .unset, .unset, .unset, .unset, .unset] [(.long ob), (.ref st_NESTED)])) t
      refine XS.iload X24.here hx rfl (hb hby at_38) rfl ?_
      show Steps p.tables e below (T24.setTop (mkF m 40 #[.val (.int sel), .val (.long ob), .second, .val (.int fr), .val (.long ke), .second, .val (.long va), .second, .val (.int (0 : Int32)), .val (.ref st_NESTED), .val (.int (fr &&& (1073741823 : Int32))), .unset, .unset, .unset, .unset, .unset, .unset] [(.int (fr &&& (1073741823 : Int32))), (.long ob), (.ref st_NESTED)])) t
      refine XS.lload X24.here hx rfl (hb hby at_40) rfl ?_
      show Steps p.tables e below (T24.setTop (mkF m 42 #[.val (.int sel), .val (.long ob), .second, .val (.int fr), .val (.long ke), .second, .val (.long va), .second, .val (.int (0 : Int32)), .val (.ref st_NESTED), .val (.int (fr &&& (1073741823 : Int32))), .unset, .unset, .unset, .unset, .unset, .unset] [(.long ke), (.int (fr &&& (1073741823 : Int32))), (.long ob), (.ref st_NESTED)])) t
      refine XS.lload X24.here hx rfl (hb hby at_42) rfl ?_
      exact kt
    obtain ⟨cq28, kq28, q28a, q28b, q28c⟩ := isOf hZ e24 E_NESTED
    obtain ⟨_, _, ⟨T28, L28, k28, n28⟩, -, X28, ⟨Lc28, hQ28, l28, y28, z28⟩, st28⟩ := X24.virtualBack hx (y := (⟨"com/example/quillpack/quillpack/schema/RecordPlace", "bytesMore", "(JIJJ)J"⟩ : MethodName)) (z := (⟨"com/example/quillpack/quillpack/schema/RecordPlace", "bytesMore", "(JIJJ)J"⟩ : MethodName)) hown (mvT hZ (hw _ (List.mem_of_getElem? (i := 4) rfl))) (mvT hZ (hw _ (List.mem_of_getElem? (i := 5) rfl))) (notFace_of_selects (args := #[]) (mvT hZ (hw _ (List.mem_of_getElem? (i := 7) rfl)))) (mvT hZ (hw _ (List.mem_of_getElem? (i := 7) rfl))) (mvT hZ (hw _ (List.mem_of_getElem? (i := 6) rfl))) (by decide) (backOf (W := 0) (own_rm1 l Z a0 hw [] (st_NESTED) (ob) ((fr &&& (1073741823 : Int32))) (ke) (va) (st_ROWS) ((0 : Int32)) h0 n0 Z0 S_ROWS P_NESTED) hZ (hw _ (List.mem_of_getElem? (i := 8) rfl)) (hw _ (List.mem_of_getElem? (i := 1) rfl)) (by decide) (by decide)) q28a q28c (g := (mkF m 44 #[.val (.int sel), .val (.long ob), .second, .val (.int fr), .val (.long ke), .second, .val (.long va), .second, .val (.int (0 : Int32)), .val (.ref st_NESTED), .val (.int (fr &&& (1073741823 : Int32))), .unset, .unset, .unset, .unset, .unset, .unset] [(.long va), (.long ke), (.int (fr &&& (1073741823 : Int32))), (.long ob), (.ref st_NESTED)])) rfl (by rw [hml]; rfl) (Steps.refl _) (argsL := [(.long ob), (.int (fr &&& (1073741823 : Int32))), (.long ke), (.long va)]) (rest := []) (lenOf own_pd0 rfl) rfl (by show 2 * 0 + _ ≤ _; exact Nat.le_of_eq rfl) (hb hby at_44) (fun _ _ => ⟨rfl, e24, (by decide : 0 + 0 ≤ _), (by decide : 0 + 0 ≤ _)⟩)
    dsimp only [Pt.U, Pt.locs, Pt.cells, Pt.slots] at X28 l28 y28 z28 st28 hQ28
    subst l28 y28 z28
    obtain ⟨rfl, rfl, eq26⟩ := hQ28
    try rw [List.append_nil] at X28
    have S29 : ∀ t, Steps p.tables e below (T28.setTop (mkF m 47 #[.val (.int sel), .val (.long ob), .second, .val (.int fr), .val (.long ke), .second, .val (.long va), .second, .val (.int (0 : Int32)), .val (.ref st_NESTED), .val (.int (fr &&& (1073741823 : Int32))), .unset, .unset, .unset, .unset, .unset, .unset] [(.long (own_bm (decide (st_NESTED = st_ROWS)) ob (fr &&& (1073741823 : Int32)) ke va (0 : Int32)))])) t → Steps p.tables e below (s₁.setTop (entryFrame m #[(.int sel), (.long ob), (.int fr), (.long ke), (.long va)] maxLocals)) t := fun t kt => S27 t (st28.trans kt)
    have S30 : ∀ t, Steps p.tables e below (T28.setTop (mkF m 54 #[.val (.int sel), .val (.long ob), .second, .val (.int fr), .val (.long ke), .second, .val (.long va), .second, .val (.int (0 : Int32)), .val (.ref st_NESTED), .val (.int (fr &&& (1073741823 : Int32))), .val (.long (own_bm (decide (st_NESTED = st_ROWS)) ob (fr &&& (1073741823 : Int32)) ke va (0 : Int32))), .second, .unset, .unset, .unset, .unset] [(.long (((fr &&& (1073741823 : Int32)) >>> ((3 : Int32) &&& 31)).toInt64))])) t → Steps p.tables e below (s₁.setTop (entryFrame m #[(.int sel), (.long ob), (.int fr), (.long ke), (.long va)] maxLocals)) t := fun t kt => by
      refine S29 t ?_
      show Steps p.tables e below (T28.setTop (mkF m 47 #[.val (.int sel), .val (.long ob), .second, .val (.int fr), .val (.long ke), .second, .val (.long va), .second, .val (.int (0 : Int32)), .val (.ref st_NESTED), .val (.int (fr &&& (1073741823 : Int32))), .unset, .unset, .unset, .unset, .unset, .unset] [(.long (own_bm (decide (st_NESTED = st_ROWS)) ob (fr &&& (1073741823 : Int32)) ke va (0 : Int32)))])) t
      refine XS.lstore X28.here hx rfl (hb hby at_47) rfl (l' := #[.val (.int sel), .val (.long ob), .second, .val (.int fr), .val (.long ke), .second, .val (.long va), .second, .val (.int (0 : Int32)), .val (.ref st_NESTED), .val (.int (fr &&& (1073741823 : Int32))), .val (.long (own_bm (decide (st_NESTED = st_ROWS)) ob (fr &&& (1073741823 : Int32)) ke va (0 : Int32))), .second, .unset, .unset, .unset, .unset]) rfl ?_
      show Steps p.tables e below (T28.setTop (mkF m 49 #[.val (.int sel), .val (.long ob), .second, .val (.int fr), .val (.long ke), .second, .val (.long va), .second, .val (.int (0 : Int32)), .val (.ref st_NESTED), .val (.int (fr &&& (1073741823 : Int32))), .val (.long (own_bm (decide (st_NESTED = st_ROWS)) ob (fr &&& (1073741823 : Int32)) ke va (0 : Int32))), .second, .unset, .unset, .unset, .unset] [])) t
      refine XS.iload X28.here hx rfl (hb hby at_49) rfl ?_
      show Steps p.tables e below (T28.setTop (mkF m 51 #[.val (.int sel), .val (.long ob), .second, .val (.int fr), .val (.long ke), .second, .val (.long va), .second, .val (.int (0 : Int32)), .val (.ref st_NESTED), .val (.int (fr &&& (1073741823 : Int32))), .val (.long (own_bm (decide (st_NESTED = st_ROWS)) ob (fr &&& (1073741823 : Int32)) ke va (0 : Int32))), .second, .unset, .unset, .unset, .unset] [(.int (fr &&& (1073741823 : Int32)))])) t
      refine XS.iconst X28.here hx rfl (hb hby at_51) ?_
      show Steps p.tables e below (T28.setTop (mkF m 52 #[.val (.int sel), .val (.long ob), .second, .val (.int fr), .val (.long ke), .second, .val (.long va), .second, .val (.int (0 : Int32)), .val (.ref st_NESTED), .val (.int (fr &&& (1073741823 : Int32))), .val (.long (own_bm (decide (st_NESTED = st_ROWS)) ob (fr &&& (1073741823 : Int32)) ke va (0 : Int32))), .second, .unset, .unset, .unset, .unset] [(.int (3 : Int32)), (.int (fr &&& (1073741823 : Int32)))])) t
      refine XS.ishr X28.here hx rfl (hb hby at_52) rfl ?_
      show Steps p.tables e below (T28.setTop (mkF m 53 #[.val (.int sel), .val (.long ob), .second, .val (.int fr), .val (.long ke), .second, .val (.long va), .second, .val (.int (0 : Int32)), .val (.ref st_NESTED), .val (.int (fr &&& (1073741823 : Int32))), .val (.long (own_bm (decide (st_NESTED = st_ROWS)) ob (fr &&& (1073741823 : Int32)) ke va (0 : Int32))), .second, .unset, .unset, .unset, .unset] [(.int ((fr &&& (1073741823 : Int32)) >>> ((3 : Int32) &&& 31)))])) t
      refine XS.i2l X28.here hx rfl (hb hby at_53) rfl ?_
      exact kt
    obtain ⟨T31, z, X31, e31, hr54, S31⟩ : ∃ (T' : State) (z : Int64), own_like X28 T' ∧ T'.heap = h0 ∧ (z = (if (((fr &&& (1073741823 : Int32))) &&& (7 : Int32)) = (0 : Int32) then (0 : Int64) else (1 : Int64))) ∧ (∀ t, Steps p.tables e below (T'.setTop (mkF m 67 #[.val (.int sel), .val (.long ob), .second, .val (.int fr), .val (.long ke), .second, .val (.long va), .second, .val (.int (0 : Int32)), .val (.ref st_NESTED), .val (.int (fr &&& (1073741823 : Int32))), .val (.long (own_bm (decide (st_NESTED = st_ROWS)) ob (fr &&& (1073741823 : Int32)) ke va (0 : Int32))), .second, .unset, .unset, .unset, .unset] [(.long z), (.long (((fr &&& (1073741823 : Int32)) >>> ((3 : Int32) &&& 31)).toInt64))])) t → Steps p.tables e below (s₁.setTop (entryFrame m #[(.int sel), (.long ob), (.int fr), (.long ke), (.long va)] maxLocals)) t) := by
      have S32 : ∀ t, Steps p.tables e below (T28.setTop (mkF m 59 #[.val (.int sel), .val (.long ob), .second, .val (.int fr), .val (.long ke), .second, .val (.long va), .second, .val (.int (0 : Int32)), .val (.ref st_NESTED), .val (.int (fr &&& (1073741823 : Int32))), .val (.long (own_bm (decide (st_NESTED = st_ROWS)) ob (fr &&& (1073741823 : Int32)) ke va (0 : Int32))), .second, .unset, .unset, .unset, .unset] [(.int ((fr &&& (1073741823 : Int32)) &&& (7 : Int32))), (.long (((fr &&& (1073741823 : Int32)) >>> ((3 : Int32) &&& 31)).toInt64))])) t → Steps p.tables e below (s₁.setTop (entryFrame m #[(.int sel), (.long ob), (.int fr), (.long ke), (.long va)] maxLocals)) t := fun t kt => by
        refine S30 t ?_
        show Steps p.tables e below (T28.setTop (mkF m 54 #[.val (.int sel), .val (.long ob), .second, .val (.int fr), .val (.long ke), .second, .val (.long va), .second, .val (.int (0 : Int32)), .val (.ref st_NESTED), .val (.int (fr &&& (1073741823 : Int32))), .val (.long (own_bm (decide (st_NESTED = st_ROWS)) ob (fr &&& (1073741823 : Int32)) ke va (0 : Int32))), .second, .unset, .unset, .unset, .unset] [(.long (((fr &&& (1073741823 : Int32)) >>> ((3 : Int32) &&& 31)).toInt64))])) t
        refine XS.iload X28.here hx rfl (hb hby at_54) rfl ?_
        show Steps p.tables e below (T28.setTop (mkF m 56 #[.val (.int sel), .val (.long ob), .second, .val (.int fr), .val (.long ke), .second, .val (.long va), .second, .val (.int (0 : Int32)), .val (.ref st_NESTED), .val (.int (fr &&& (1073741823 : Int32))), .val (.long (own_bm (decide (st_NESTED = st_ROWS)) ob (fr &&& (1073741823 : Int32)) ke va (0 : Int32))), .second, .unset, .unset, .unset, .unset] [(.int (fr &&& (1073741823 : Int32))), (.long (((fr &&& (1073741823 : Int32)) >>> ((3 : Int32) &&& 31)).toInt64))])) t
        refine XS.bipush X28.here hx rfl (hb hby at_56) ?_
        show Steps p.tables e below (T28.setTop (mkF m 58 #[.val (.int sel), .val (.long ob), .second, .val (.int fr), .val (.long ke), .second, .val (.long va), .second, .val (.int (0 : Int32)), .val (.ref st_NESTED), .val (.int (fr &&& (1073741823 : Int32))), .val (.long (own_bm (decide (st_NESTED = st_ROWS)) ob (fr &&& (1073741823 : Int32)) ke va (0 : Int32))), .second, .unset, .unset, .unset, .unset] [(.int (7 : Int32)), (.int (fr &&& (1073741823 : Int32))), (.long (((fr &&& (1073741823 : Int32)) >>> ((3 : Int32) &&& 31)).toInt64))])) t
        refine XS.iand X28.here hx rfl (hb hby at_58) rfl ?_
        exact kt
      by_cases hc59 : ((fr &&& (1073741823 : Int32)) &&& (7 : Int32)) = (0 : Int32)
      · skip
        have S33 : ∀ t, Steps p.tables e below (T28.setTop (mkF m 67 #[.val (.int sel), .val (.long ob), .second, .val (.int fr), .val (.long ke), .second, .val (.long va), .second, .val (.int (0 : Int32)), .val (.ref st_NESTED), .val (.int (fr &&& (1073741823 : Int32))), .val (.long (own_bm (decide (st_NESTED = st_ROWS)) ob (fr &&& (1073741823 : Int32)) ke va (0 : Int32))), .second, .unset, .unset, .unset, .unset] [(.long (0 : Int64)), (.long (((fr &&& (1073741823 : Int32)) >>> ((3 : Int32) &&& 31)).toInt64))])) t → Steps p.tables e below (s₁.setTop (entryFrame m #[(.int sel), (.long ob), (.int fr), (.long ke), (.long va)] maxLocals)) t := fun t kt => by
          refine S32 t ?_
          show Steps p.tables e below (T28.setTop (mkF m 59 #[.val (.int sel), .val (.long ob), .second, .val (.int fr), .val (.long ke), .second, .val (.long va), .second, .val (.int (0 : Int32)), .val (.ref st_NESTED), .val (.int (fr &&& (1073741823 : Int32))), .val (.long (own_bm (decide (st_NESTED = st_ROWS)) ob (fr &&& (1073741823 : Int32)) ke va (0 : Int32))), .second, .unset, .unset, .unset, .unset] [(.int ((fr &&& (1073741823 : Int32)) &&& (7 : Int32))), (.long (((fr &&& (1073741823 : Int32)) >>> ((3 : Int32) &&& 31)).toInt64))])) t
          refine XS.ifYes X28.here hx rfl (pc0 := 59) (pc' := 66) rfl (hb hby at_59) rfl ((if0 _ _).trans (teq hc59).1) (by decide) (by decide) ?_
          show Steps p.tables e below (T28.setTop (mkF m 66 #[.val (.int sel), .val (.long ob), .second, .val (.int fr), .val (.long ke), .second, .val (.long va), .second, .val (.int (0 : Int32)), .val (.ref st_NESTED), .val (.int (fr &&& (1073741823 : Int32))), .val (.long (own_bm (decide (st_NESTED = st_ROWS)) ob (fr &&& (1073741823 : Int32)) ke va (0 : Int32))), .second, .unset, .unset, .unset, .unset] [(.long (((fr &&& (1073741823 : Int32)) >>> ((3 : Int32) &&& 31)).toInt64))])) t
          refine XS.lconst X28.here hx rfl (hb hby at_66) ?_
          exact kt
        exact ⟨T28, ((0 : Int64)), X28, eq26, (by rw [if_pos hc59]), S33⟩
      · skip
        have S34 : ∀ t, Steps p.tables e below (T28.setTop (mkF m 67 #[.val (.int sel), .val (.long ob), .second, .val (.int fr), .val (.long ke), .second, .val (.long va), .second, .val (.int (0 : Int32)), .val (.ref st_NESTED), .val (.int (fr &&& (1073741823 : Int32))), .val (.long (own_bm (decide (st_NESTED = st_ROWS)) ob (fr &&& (1073741823 : Int32)) ke va (0 : Int32))), .second, .unset, .unset, .unset, .unset] [(.long (1 : Int64)), (.long (((fr &&& (1073741823 : Int32)) >>> ((3 : Int32) &&& 31)).toInt64))])) t → Steps p.tables e below (s₁.setTop (entryFrame m #[(.int sel), (.long ob), (.int fr), (.long ke), (.long va)] maxLocals)) t := fun t kt => by
          refine S32 t ?_
          show Steps p.tables e below (T28.setTop (mkF m 59 #[.val (.int sel), .val (.long ob), .second, .val (.int fr), .val (.long ke), .second, .val (.long va), .second, .val (.int (0 : Int32)), .val (.ref st_NESTED), .val (.int (fr &&& (1073741823 : Int32))), .val (.long (own_bm (decide (st_NESTED = st_ROWS)) ob (fr &&& (1073741823 : Int32)) ke va (0 : Int32))), .second, .unset, .unset, .unset, .unset] [(.int ((fr &&& (1073741823 : Int32)) &&& (7 : Int32))), (.long (((fr &&& (1073741823 : Int32)) >>> ((3 : Int32) &&& 31)).toInt64))])) t
          refine XS.ifNo X28.here hx rfl (hb hby at_59) rfl ((if0 _ _).trans (feq hc59).1) ?_
          show Steps p.tables e below (T28.setTop (mkF m 62 #[.val (.int sel), .val (.long ob), .second, .val (.int fr), .val (.long ke), .second, .val (.long va), .second, .val (.int (0 : Int32)), .val (.ref st_NESTED), .val (.int (fr &&& (1073741823 : Int32))), .val (.long (own_bm (decide (st_NESTED = st_ROWS)) ob (fr &&& (1073741823 : Int32)) ke va (0 : Int32))), .second, .unset, .unset, .unset, .unset] [(.long (((fr &&& (1073741823 : Int32)) >>> ((3 : Int32) &&& 31)).toInt64))])) t
          refine XS.lconst X28.here hx rfl (hb hby at_62) ?_
          show Steps p.tables e below (T28.setTop (mkF m 63 #[.val (.int sel), .val (.long ob), .second, .val (.int fr), .val (.long ke), .second, .val (.long va), .second, .val (.int (0 : Int32)), .val (.ref st_NESTED), .val (.int (fr &&& (1073741823 : Int32))), .val (.long (own_bm (decide (st_NESTED = st_ROWS)) ob (fr &&& (1073741823 : Int32)) ke va (0 : Int32))), .second, .unset, .unset, .unset, .unset] [(.long (1 : Int64)), (.long (((fr &&& (1073741823 : Int32)) >>> ((3 : Int32) &&& 31)).toInt64))])) t
          refine XS.goto X28.here hx rfl (pc0 := 63) (pc' := 67) rfl (hb hby at_63) (by decide) (by decide) ?_
          exact kt
        exact ⟨T28, ((1 : Int64)), X28, eq26, (by rw [if_neg hc59]), S34⟩
    have S35 : ∀ t, Steps p.tables e below (T31.setTop (mkF m 72 #[.val (.int sel), .val (.long ob), .second, .val (.int fr), .val (.long ke), .second, .val (.long va), .second, .val (.int (0 : Int32)), .val (.ref st_NESTED), .val (.int (fr &&& (1073741823 : Int32))), .val (.long (own_bm (decide (st_NESTED = st_ROWS)) ob (fr &&& (1073741823 : Int32)) ke va (0 : Int32))), .second, .val (.long ((((fr &&& (1073741823 : Int32)) >>> ((3 : Int32) &&& 31)).toInt64) + z)), .second, .unset, .unset] [(.int (0 : Int32))])) t → Steps p.tables e below (s₁.setTop (entryFrame m #[(.int sel), (.long ob), (.int fr), (.long ke), (.long va)] maxLocals)) t := fun t kt => by
      refine S31 t ?_
      show Steps p.tables e below (T31.setTop (mkF m 67 #[.val (.int sel), .val (.long ob), .second, .val (.int fr), .val (.long ke), .second, .val (.long va), .second, .val (.int (0 : Int32)), .val (.ref st_NESTED), .val (.int (fr &&& (1073741823 : Int32))), .val (.long (own_bm (decide (st_NESTED = st_ROWS)) ob (fr &&& (1073741823 : Int32)) ke va (0 : Int32))), .second, .unset, .unset, .unset, .unset] [(.long z), (.long (((fr &&& (1073741823 : Int32)) >>> ((3 : Int32) &&& 31)).toInt64))])) t
      refine XS.ladd X31.here hx rfl (hb hby at_67) rfl ?_
      show Steps p.tables e below (T31.setTop (mkF m 68 #[.val (.int sel), .val (.long ob), .second, .val (.int fr), .val (.long ke), .second, .val (.long va), .second, .val (.int (0 : Int32)), .val (.ref st_NESTED), .val (.int (fr &&& (1073741823 : Int32))), .val (.long (own_bm (decide (st_NESTED = st_ROWS)) ob (fr &&& (1073741823 : Int32)) ke va (0 : Int32))), .second, .unset, .unset, .unset, .unset] [(.long ((((fr &&& (1073741823 : Int32)) >>> ((3 : Int32) &&& 31)).toInt64) + z))])) t
      refine XS.lstore X31.here hx rfl (hb hby at_68) rfl (l' := #[.val (.int sel), .val (.long ob), .second, .val (.int fr), .val (.long ke), .second, .val (.long va), .second, .val (.int (0 : Int32)), .val (.ref st_NESTED), .val (.int (fr &&& (1073741823 : Int32))), .val (.long (own_bm (decide (st_NESTED = st_ROWS)) ob (fr &&& (1073741823 : Int32)) ke va (0 : Int32))), .second, .val (.long ((((fr &&& (1073741823 : Int32)) >>> ((3 : Int32) &&& 31)).toInt64) + z)), .second, .unset, .unset]) rfl ?_
      show Steps p.tables e below (T31.setTop (mkF m 70 #[.val (.int sel), .val (.long ob), .second, .val (.int fr), .val (.long ke), .second, .val (.long va), .second, .val (.int (0 : Int32)), .val (.ref st_NESTED), .val (.int (fr &&& (1073741823 : Int32))), .val (.long (own_bm (decide (st_NESTED = st_ROWS)) ob (fr &&& (1073741823 : Int32)) ke va (0 : Int32))), .second, .val (.long ((((fr &&& (1073741823 : Int32)) >>> ((3 : Int32) &&& 31)).toInt64) + z)), .second, .unset, .unset] [])) t
      refine XS.iload X31.here hx rfl (hb hby at_70) rfl ?_
      exact kt
    have hc72_36 : (0 : Int32) = (0 : Int32) := by decide
    have S37 : ∀ t, Steps p.tables e below (T31.setTop (mkF m 133 #[.val (.int sel), .val (.long ob), .second, .val (.int fr), .val (.long ke), .second, .val (.long va), .second, .val (.int (0 : Int32)), .val (.ref st_NESTED), .val (.int (fr &&& (1073741823 : Int32))), .val (.long (own_bm (decide (st_NESTED = st_ROWS)) ob (fr &&& (1073741823 : Int32)) ke va (0 : Int32))), .second, .val (.long ((((fr &&& (1073741823 : Int32)) >>> ((3 : Int32) &&& 31)).toInt64) + z)), .second, .val (.long (((ob * ((2 : Int64) * ((((fr &&& (1073741823 : Int32)) >>> ((3 : Int32) &&& 31)).toInt64) + z))) + va) - ((2 : Int64) * ke))), .second] [(.int (lcmpW (own_bm (decide (st_NESTED = st_ROWS)) ob (fr &&& (1073741823 : Int32)) ke va (0 : Int32)) (((ob * ((2 : Int64) * ((((fr &&& (1073741823 : Int32)) >>> ((3 : Int32) &&& 31)).toInt64) + z))) + va) - ((2 : Int64) * ke))))])) t → Steps p.tables e below (s₁.setTop (entryFrame m #[(.int sel), (.long ob), (.int fr), (.long ke), (.long va)] maxLocals)) t := fun t kt => by
      refine S35 t ?_
      show Steps p.tables e below (T31.setTop (mkF m 72 #[.val (.int sel), .val (.long ob), .second, .val (.int fr), .val (.long ke), .second, .val (.long va), .second, .val (.int (0 : Int32)), .val (.ref st_NESTED), .val (.int (fr &&& (1073741823 : Int32))), .val (.long (own_bm (decide (st_NESTED = st_ROWS)) ob (fr &&& (1073741823 : Int32)) ke va (0 : Int32))), .second, .val (.long ((((fr &&& (1073741823 : Int32)) >>> ((3 : Int32) &&& 31)).toInt64) + z)), .second, .unset, .unset] [(.int (0 : Int32))])) t
      refine XS.ifYes X31.here hx rfl (pc0 := 72) (pc' := 108) rfl (hb hby at_72) rfl ((if0 _ _).trans (teq hc72_36).1) (by decide) (by decide) ?_
      show Steps p.tables e below (T31.setTop (mkF m 108 #[.val (.int sel), .val (.long ob), .second, .val (.int fr), .val (.long ke), .second, .val (.long va), .second, .val (.int (0 : Int32)), .val (.ref st_NESTED), .val (.int (fr &&& (1073741823 : Int32))), .val (.long (own_bm (decide (st_NESTED = st_ROWS)) ob (fr &&& (1073741823 : Int32)) ke va (0 : Int32))), .second, .val (.long ((((fr &&& (1073741823 : Int32)) >>> ((3 : Int32) &&& 31)).toInt64) + z)), .second, .unset, .unset] [])) t
      refine XS.lloadN X31.here hx rfl (hb hby at_108) rfl ?_
      show Steps p.tables e below (T31.setTop (mkF m 109 #[.val (.int sel), .val (.long ob), .second, .val (.int fr), .val (.long ke), .second, .val (.long va), .second, .val (.int (0 : Int32)), .val (.ref st_NESTED), .val (.int (fr &&& (1073741823 : Int32))), .val (.long (own_bm (decide (st_NESTED = st_ROWS)) ob (fr &&& (1073741823 : Int32)) ke va (0 : Int32))), .second, .val (.long ((((fr &&& (1073741823 : Int32)) >>> ((3 : Int32) &&& 31)).toInt64) + z)), .second, .unset, .unset] [(.long ob)])) t
      refine X31.ldc2Long hx hown (mvT hZ (hw _ (List.mem_of_getElem? (i := 13) rfl))) (g := (mkF m 109 #[.val (.int sel), .val (.long ob), .second, .val (.int fr), .val (.long ke), .second, .val (.long va), .second, .val (.int (0 : Int32)), .val (.ref st_NESTED), .val (.int (fr &&& (1073741823 : Int32))), .val (.long (own_bm (decide (st_NESTED = st_ROWS)) ob (fr &&& (1073741823 : Int32)) ke va (0 : Int32))), .second, .val (.long ((((fr &&& (1073741823 : Int32)) >>> ((3 : Int32) &&& 31)).toInt64) + z)), .second, .unset, .unset] [(.long ob)])) rfl (hb hby at_109) _ ?_
      show Steps p.tables e below (T31.setTop (mkF m 112 #[.val (.int sel), .val (.long ob), .second, .val (.int fr), .val (.long ke), .second, .val (.long va), .second, .val (.int (0 : Int32)), .val (.ref st_NESTED), .val (.int (fr &&& (1073741823 : Int32))), .val (.long (own_bm (decide (st_NESTED = st_ROWS)) ob (fr &&& (1073741823 : Int32)) ke va (0 : Int32))), .second, .val (.long ((((fr &&& (1073741823 : Int32)) >>> ((3 : Int32) &&& 31)).toInt64) + z)), .second, .unset, .unset] [(.long (2 : Int64)), (.long ob)])) t
      refine XS.lload X31.here hx rfl (hb hby at_112) rfl ?_
      show Steps p.tables e below (T31.setTop (mkF m 114 #[.val (.int sel), .val (.long ob), .second, .val (.int fr), .val (.long ke), .second, .val (.long va), .second, .val (.int (0 : Int32)), .val (.ref st_NESTED), .val (.int (fr &&& (1073741823 : Int32))), .val (.long (own_bm (decide (st_NESTED = st_ROWS)) ob (fr &&& (1073741823 : Int32)) ke va (0 : Int32))), .second, .val (.long ((((fr &&& (1073741823 : Int32)) >>> ((3 : Int32) &&& 31)).toInt64) + z)), .second, .unset, .unset] [(.long ((((fr &&& (1073741823 : Int32)) >>> ((3 : Int32) &&& 31)).toInt64) + z)), (.long (2 : Int64)), (.long ob)])) t
      refine XS.lmul X31.here hx rfl (hb hby at_114) rfl ?_
      show Steps p.tables e below (T31.setTop (mkF m 115 #[.val (.int sel), .val (.long ob), .second, .val (.int fr), .val (.long ke), .second, .val (.long va), .second, .val (.int (0 : Int32)), .val (.ref st_NESTED), .val (.int (fr &&& (1073741823 : Int32))), .val (.long (own_bm (decide (st_NESTED = st_ROWS)) ob (fr &&& (1073741823 : Int32)) ke va (0 : Int32))), .second, .val (.long ((((fr &&& (1073741823 : Int32)) >>> ((3 : Int32) &&& 31)).toInt64) + z)), .second, .unset, .unset] [(.long ((2 : Int64) * ((((fr &&& (1073741823 : Int32)) >>> ((3 : Int32) &&& 31)).toInt64) + z))), (.long ob)])) t
      refine XS.lmul X31.here hx rfl (hb hby at_115) rfl ?_
      show Steps p.tables e below (T31.setTop (mkF m 116 #[.val (.int sel), .val (.long ob), .second, .val (.int fr), .val (.long ke), .second, .val (.long va), .second, .val (.int (0 : Int32)), .val (.ref st_NESTED), .val (.int (fr &&& (1073741823 : Int32))), .val (.long (own_bm (decide (st_NESTED = st_ROWS)) ob (fr &&& (1073741823 : Int32)) ke va (0 : Int32))), .second, .val (.long ((((fr &&& (1073741823 : Int32)) >>> ((3 : Int32) &&& 31)).toInt64) + z)), .second, .unset, .unset] [(.long (ob * ((2 : Int64) * ((((fr &&& (1073741823 : Int32)) >>> ((3 : Int32) &&& 31)).toInt64) + z))))])) t
      refine XS.lload X31.here hx rfl (hb hby at_116) rfl ?_
      show Steps p.tables e below (T31.setTop (mkF m 118 #[.val (.int sel), .val (.long ob), .second, .val (.int fr), .val (.long ke), .second, .val (.long va), .second, .val (.int (0 : Int32)), .val (.ref st_NESTED), .val (.int (fr &&& (1073741823 : Int32))), .val (.long (own_bm (decide (st_NESTED = st_ROWS)) ob (fr &&& (1073741823 : Int32)) ke va (0 : Int32))), .second, .val (.long ((((fr &&& (1073741823 : Int32)) >>> ((3 : Int32) &&& 31)).toInt64) + z)), .second, .unset, .unset] [(.long va), (.long (ob * ((2 : Int64) * ((((fr &&& (1073741823 : Int32)) >>> ((3 : Int32) &&& 31)).toInt64) + z))))])) t
      refine XS.ladd X31.here hx rfl (hb hby at_118) rfl ?_
      show Steps p.tables e below (T31.setTop (mkF m 119 #[.val (.int sel), .val (.long ob), .second, .val (.int fr), .val (.long ke), .second, .val (.long va), .second, .val (.int (0 : Int32)), .val (.ref st_NESTED), .val (.int (fr &&& (1073741823 : Int32))), .val (.long (own_bm (decide (st_NESTED = st_ROWS)) ob (fr &&& (1073741823 : Int32)) ke va (0 : Int32))), .second, .val (.long ((((fr &&& (1073741823 : Int32)) >>> ((3 : Int32) &&& 31)).toInt64) + z)), .second, .unset, .unset] [(.long ((ob * ((2 : Int64) * ((((fr &&& (1073741823 : Int32)) >>> ((3 : Int32) &&& 31)).toInt64) + z))) + va))])) t
      refine X31.ldc2Long hx hown (mvT hZ (hw _ (List.mem_of_getElem? (i := 13) rfl))) (g := (mkF m 119 #[.val (.int sel), .val (.long ob), .second, .val (.int fr), .val (.long ke), .second, .val (.long va), .second, .val (.int (0 : Int32)), .val (.ref st_NESTED), .val (.int (fr &&& (1073741823 : Int32))), .val (.long (own_bm (decide (st_NESTED = st_ROWS)) ob (fr &&& (1073741823 : Int32)) ke va (0 : Int32))), .second, .val (.long ((((fr &&& (1073741823 : Int32)) >>> ((3 : Int32) &&& 31)).toInt64) + z)), .second, .unset, .unset] [(.long ((ob * ((2 : Int64) * ((((fr &&& (1073741823 : Int32)) >>> ((3 : Int32) &&& 31)).toInt64) + z))) + va))])) rfl (hb hby at_119) _ ?_
      show Steps p.tables e below (T31.setTop (mkF m 122 #[.val (.int sel), .val (.long ob), .second, .val (.int fr), .val (.long ke), .second, .val (.long va), .second, .val (.int (0 : Int32)), .val (.ref st_NESTED), .val (.int (fr &&& (1073741823 : Int32))), .val (.long (own_bm (decide (st_NESTED = st_ROWS)) ob (fr &&& (1073741823 : Int32)) ke va (0 : Int32))), .second, .val (.long ((((fr &&& (1073741823 : Int32)) >>> ((3 : Int32) &&& 31)).toInt64) + z)), .second, .unset, .unset] [(.long (2 : Int64)), (.long ((ob * ((2 : Int64) * ((((fr &&& (1073741823 : Int32)) >>> ((3 : Int32) &&& 31)).toInt64) + z))) + va))])) t
      refine XS.lload X31.here hx rfl (hb hby at_122) rfl ?_
      show Steps p.tables e below (T31.setTop (mkF m 124 #[.val (.int sel), .val (.long ob), .second, .val (.int fr), .val (.long ke), .second, .val (.long va), .second, .val (.int (0 : Int32)), .val (.ref st_NESTED), .val (.int (fr &&& (1073741823 : Int32))), .val (.long (own_bm (decide (st_NESTED = st_ROWS)) ob (fr &&& (1073741823 : Int32)) ke va (0 : Int32))), .second, .val (.long ((((fr &&& (1073741823 : Int32)) >>> ((3 : Int32) &&& 31)).toInt64) + z)), .second, .unset, .unset] [(.long ke), (.long (2 : Int64)), (.long ((ob * ((2 : Int64) * ((((fr &&& (1073741823 : Int32)) >>> ((3 : Int32) &&& 31)).toInt64) + z))) + va))])) t
      refine XS.lmul X31.here hx rfl (hb hby at_124) rfl ?_
      show Steps p.tables e below (T31.setTop (mkF m 125 #[.val (.int sel), .val (.long ob), .second, .val (.int fr), .val (.long ke), .second, .val (.long va), .second, .val (.int (0 : Int32)), .val (.ref st_NESTED), .val (.int (fr &&& (1073741823 : Int32))), .val (.long (own_bm (decide (st_NESTED = st_ROWS)) ob (fr &&& (1073741823 : Int32)) ke va (0 : Int32))), .second, .val (.long ((((fr &&& (1073741823 : Int32)) >>> ((3 : Int32) &&& 31)).toInt64) + z)), .second, .unset, .unset] [(.long ((2 : Int64) * ke)), (.long ((ob * ((2 : Int64) * ((((fr &&& (1073741823 : Int32)) >>> ((3 : Int32) &&& 31)).toInt64) + z))) + va))])) t
      refine XS.lsub X31.here hx rfl (hb hby at_125) rfl ?_
      show Steps p.tables e below (T31.setTop (mkF m 126 #[.val (.int sel), .val (.long ob), .second, .val (.int fr), .val (.long ke), .second, .val (.long va), .second, .val (.int (0 : Int32)), .val (.ref st_NESTED), .val (.int (fr &&& (1073741823 : Int32))), .val (.long (own_bm (decide (st_NESTED = st_ROWS)) ob (fr &&& (1073741823 : Int32)) ke va (0 : Int32))), .second, .val (.long ((((fr &&& (1073741823 : Int32)) >>> ((3 : Int32) &&& 31)).toInt64) + z)), .second, .unset, .unset] [(.long (((ob * ((2 : Int64) * ((((fr &&& (1073741823 : Int32)) >>> ((3 : Int32) &&& 31)).toInt64) + z))) + va) - ((2 : Int64) * ke)))])) t
      refine XS.lstore X31.here hx rfl (hb hby at_126) rfl (l' := #[.val (.int sel), .val (.long ob), .second, .val (.int fr), .val (.long ke), .second, .val (.long va), .second, .val (.int (0 : Int32)), .val (.ref st_NESTED), .val (.int (fr &&& (1073741823 : Int32))), .val (.long (own_bm (decide (st_NESTED = st_ROWS)) ob (fr &&& (1073741823 : Int32)) ke va (0 : Int32))), .second, .val (.long ((((fr &&& (1073741823 : Int32)) >>> ((3 : Int32) &&& 31)).toInt64) + z)), .second, .val (.long (((ob * ((2 : Int64) * ((((fr &&& (1073741823 : Int32)) >>> ((3 : Int32) &&& 31)).toInt64) + z))) + va) - ((2 : Int64) * ke))), .second]) rfl ?_
      show Steps p.tables e below (T31.setTop (mkF m 128 #[.val (.int sel), .val (.long ob), .second, .val (.int fr), .val (.long ke), .second, .val (.long va), .second, .val (.int (0 : Int32)), .val (.ref st_NESTED), .val (.int (fr &&& (1073741823 : Int32))), .val (.long (own_bm (decide (st_NESTED = st_ROWS)) ob (fr &&& (1073741823 : Int32)) ke va (0 : Int32))), .second, .val (.long ((((fr &&& (1073741823 : Int32)) >>> ((3 : Int32) &&& 31)).toInt64) + z)), .second, .val (.long (((ob * ((2 : Int64) * ((((fr &&& (1073741823 : Int32)) >>> ((3 : Int32) &&& 31)).toInt64) + z))) + va) - ((2 : Int64) * ke))), .second] [])) t
      refine XS.lload X31.here hx rfl (hb hby at_128) rfl ?_
      show Steps p.tables e below (T31.setTop (mkF m 130 #[.val (.int sel), .val (.long ob), .second, .val (.int fr), .val (.long ke), .second, .val (.long va), .second, .val (.int (0 : Int32)), .val (.ref st_NESTED), .val (.int (fr &&& (1073741823 : Int32))), .val (.long (own_bm (decide (st_NESTED = st_ROWS)) ob (fr &&& (1073741823 : Int32)) ke va (0 : Int32))), .second, .val (.long ((((fr &&& (1073741823 : Int32)) >>> ((3 : Int32) &&& 31)).toInt64) + z)), .second, .val (.long (((ob * ((2 : Int64) * ((((fr &&& (1073741823 : Int32)) >>> ((3 : Int32) &&& 31)).toInt64) + z))) + va) - ((2 : Int64) * ke))), .second] [(.long (own_bm (decide (st_NESTED = st_ROWS)) ob (fr &&& (1073741823 : Int32)) ke va (0 : Int32)))])) t
      refine XS.lload X31.here hx rfl (hb hby at_130) rfl ?_
      show Steps p.tables e below (T31.setTop (mkF m 132 #[.val (.int sel), .val (.long ob), .second, .val (.int fr), .val (.long ke), .second, .val (.long va), .second, .val (.int (0 : Int32)), .val (.ref st_NESTED), .val (.int (fr &&& (1073741823 : Int32))), .val (.long (own_bm (decide (st_NESTED = st_ROWS)) ob (fr &&& (1073741823 : Int32)) ke va (0 : Int32))), .second, .val (.long ((((fr &&& (1073741823 : Int32)) >>> ((3 : Int32) &&& 31)).toInt64) + z)), .second, .val (.long (((ob * ((2 : Int64) * ((((fr &&& (1073741823 : Int32)) >>> ((3 : Int32) &&& 31)).toInt64) + z))) + va) - ((2 : Int64) * ke))), .second] [(.long (((ob * ((2 : Int64) * ((((fr &&& (1073741823 : Int32)) >>> ((3 : Int32) &&& 31)).toInt64) + z))) + va) - ((2 : Int64) * ke))), (.long (own_bm (decide (st_NESTED = st_ROWS)) ob (fr &&& (1073741823 : Int32)) ke va (0 : Int32)))])) t
      refine XS.lcmp X31.here hx rfl (hb hby at_132) rfl ?_
      exact kt
    have hc133_38 : (own_bm (decide (st_NESTED = st_ROWS)) ob (fr &&& (1073741823 : Int32)) ke va (0 : Int32)) = (((ob * ((2 : Int64) * ((((fr &&& (1073741823 : Int32)) >>> ((3 : Int32) &&& 31)).toInt64) + z))) + va) - ((2 : Int64) * ke)) := by rw [show decide (st_NESTED = st_ROWS) = false from decide_eq_false hne]; exact own_plainN _ _ _ _ (own_range fr) _ hr54
    have S39 : ∀ t, Steps p.tables e below (T31.setTop (mkF m 141 #[.val (.int sel), .val (.long ob), .second, .val (.int fr), .val (.long ke), .second, .val (.long va), .second, .val (.int (0 : Int32)), .val (.ref st_NESTED), .val (.int (fr &&& (1073741823 : Int32))), .val (.long (own_bm (decide (st_NESTED = st_ROWS)) ob (fr &&& (1073741823 : Int32)) ke va (0 : Int32))), .second, .val (.long ((((fr &&& (1073741823 : Int32)) >>> ((3 : Int32) &&& 31)).toInt64) + z)), .second, .val (.long (((ob * ((2 : Int64) * ((((fr &&& (1073741823 : Int32)) >>> ((3 : Int32) &&& 31)).toInt64) + z))) + va) - ((2 : Int64) * ke))), .second] [(.int (1 : Int32))])) t → Steps p.tables e below (s₁.setTop (entryFrame m #[(.int sel), (.long ob), (.int fr), (.long ke), (.long va)] maxLocals)) t := fun t kt => by
      refine S37 t ?_
      show Steps p.tables e below (T31.setTop (mkF m 133 #[.val (.int sel), .val (.long ob), .second, .val (.int fr), .val (.long ke), .second, .val (.long va), .second, .val (.int (0 : Int32)), .val (.ref st_NESTED), .val (.int (fr &&& (1073741823 : Int32))), .val (.long (own_bm (decide (st_NESTED = st_ROWS)) ob (fr &&& (1073741823 : Int32)) ke va (0 : Int32))), .second, .val (.long ((((fr &&& (1073741823 : Int32)) >>> ((3 : Int32) &&& 31)).toInt64) + z)), .second, .val (.long (((ob * ((2 : Int64) * ((((fr &&& (1073741823 : Int32)) >>> ((3 : Int32) &&& 31)).toInt64) + z))) + va) - ((2 : Int64) * ke))), .second] [(.int (lcmpW (own_bm (decide (st_NESTED = st_ROWS)) ob (fr &&& (1073741823 : Int32)) ke va (0 : Int32)) (((ob * ((2 : Int64) * ((((fr &&& (1073741823 : Int32)) >>> ((3 : Int32) &&& 31)).toInt64) + z))) + va) - ((2 : Int64) * ke))))])) t
      refine XS.ifNo X31.here hx rfl (hb hby at_133) rfl (own_Leq hc133_38).2 ?_
      show Steps p.tables e below (T31.setTop (mkF m 136 #[.val (.int sel), .val (.long ob), .second, .val (.int fr), .val (.long ke), .second, .val (.long va), .second, .val (.int (0 : Int32)), .val (.ref st_NESTED), .val (.int (fr &&& (1073741823 : Int32))), .val (.long (own_bm (decide (st_NESTED = st_ROWS)) ob (fr &&& (1073741823 : Int32)) ke va (0 : Int32))), .second, .val (.long ((((fr &&& (1073741823 : Int32)) >>> ((3 : Int32) &&& 31)).toInt64) + z)), .second, .val (.long (((ob * ((2 : Int64) * ((((fr &&& (1073741823 : Int32)) >>> ((3 : Int32) &&& 31)).toInt64) + z))) + va) - ((2 : Int64) * ke))), .second] [])) t
      refine XS.iconst X31.here hx rfl (hb hby at_136) ?_
      show Steps p.tables e below (T31.setTop (mkF m 137 #[.val (.int sel), .val (.long ob), .second, .val (.int fr), .val (.long ke), .second, .val (.long va), .second, .val (.int (0 : Int32)), .val (.ref st_NESTED), .val (.int (fr &&& (1073741823 : Int32))), .val (.long (own_bm (decide (st_NESTED = st_ROWS)) ob (fr &&& (1073741823 : Int32)) ke va (0 : Int32))), .second, .val (.long ((((fr &&& (1073741823 : Int32)) >>> ((3 : Int32) &&& 31)).toInt64) + z)), .second, .val (.long (((ob * ((2 : Int64) * ((((fr &&& (1073741823 : Int32)) >>> ((3 : Int32) &&& 31)).toInt64) + z))) + va) - ((2 : Int64) * ke))), .second] [(.int (1 : Int32))])) t
      refine XS.goto X31.here hx rfl (pc0 := 137) (pc' := 141) rfl (hb hby at_137) (by decide) (by decide) ?_
      exact kt
    obtain ⟨fs, hr, hrun, hended, hW, hsame⟩ := X31.leave (v := some (.int (nar .boolean (1 : Int32)))) (fun h => by rw [Bd.returns] at h; cases h)
    refine ⟨_, _, S39 _ ?_, hrun, hended, _, _, rfl, ?_, ⟨_, rfl⟩, hW, hsame.mono (by decide) (by decide)⟩
    · show Steps p.tables e below (T31.setTop (mkF m 141 #[.val (.int sel), .val (.long ob), .second, .val (.int fr), .val (.long ke), .second, .val (.long va), .second, .val (.int (0 : Int32)), .val (.ref st_NESTED), .val (.int (fr &&& (1073741823 : Int32))), .val (.long (own_bm (decide (st_NESTED = st_ROWS)) ob (fr &&& (1073741823 : Int32)) ke va (0 : Int32))), .second, .val (.long ((((fr &&& (1073741823 : Int32)) >>> ((3 : Int32) &&& 31)).toInt64) + z)), .second, .val (.long (((ob * ((2 : Int64) * ((((fr &&& (1073741823 : Int32)) >>> ((3 : Int32) &&& 31)).toInt64) + z))) + va) - ((2 : Int64) * ke))), .second] [(.int (1 : Int32))])) _
      exact retN X31 hx (t := .boolean) Bd.returns (by simp) (hb hby at_141) hr
    · show own_Q0 Z sel ob fr ke va st_ROWS st_NESTED h0 n0 _ T31.heap _
      rw [e31]
      exact ⟨rfl, N0⟩
set_option maxHeartbeats 40000000 in
theorem own_comes {Post : Tables → Env → Array Value → State → Outcome → State → Prop} (hpost : ∀ tb e args s v u, (limb_1_1.after args s (.returned v) u = true ∧ limb_1_2.after args s (.returned v) u = true ∧ True) → FrameEnd s (.returned v) u (Jvm.fieldLocs frame_1_writes args s ++ Jvm.arrayLocs frame_1_arrays args s ++ Jvm.staticLocs frame_1_statics s) 0 0 → Post tb e args s (.returned v) u) :
    ArmFor flags0 classFile x code maxLocals ret World_1 tables_1 room_1 Calls_1 rest_1 Pre_1 Post := by
  intro l hfl _ _ p e ha hc hk s m args below hf hA hF happ hP
  obtain ⟨hcalls, hrest, hpre⟩ := hP
  obtain ⟨-, -, -, hnamed, -, -, -, hat⟩ := (Spec.applies_iff hf).mp happ
  obtain ⟨hg, hn⟩ := and_e (Cond.before_iff.mp (show (Jvm.Cond.and given_1 narrow_1).before args s = true from hpre))
  obtain ⟨g1, g2⟩ := and_e hg
  obtain ⟨g3, g4⟩ := and_e g2
  obtain ⟨g5, g6⟩ := and_e g4
  obtain ⟨g7, g8⟩ := and_e g6
  obtain ⟨g9, g10⟩ := and_e g8
  obtain ⟨g11, g12⟩ := and_e hn
  obtain ⟨g13, g14⟩ := and_e g12
  obtain ⟨g15, g16⟩ := and_e g14
  obtain ⟨g17, g18⟩ := and_e g16
  obtain ⟨g19, g20⟩ := and_e g18
  obtain ⟨w0, w1, w2, w3, w4, rfl⟩ : ∃ w0 w1 w2 w3 w4 : Value, args = #[w0, w1, w2, w3, w4] := by
    have hs : args.size = 5 := by simpa [Cond.value, given_1] using g1
    obtain ⟨L⟩ := args
    match L, hs with
    | [w0, w1, w2, w3, w4], _ => exact ⟨w0, w1, w2, w3, w4, rfl⟩
  have hw := fun d (hd : d ∈ tables_1) => atoms_spec (ws := Jvm.Cond.code x code maxLocals ret :: tables_1) hat d (List.mem_cons_of_mem _ hd)
  have hfit : Fit s := fun {y c} hc i hi => by
    obtain ⟨ha, rfl⟩ := Array.getElem?_eq_some_iff.mp hc
    have q := List.all_eq_true.mp ((Array.all_eq_true_iff_forall_mem.mp hF) _ (Array.getElem_mem ha)) i (List.mem_range.mpr hi)
    simpa [Array.getElem?_eq_getElem hi] using q
  obtain ⟨i0, ei0⟩ := is_v g3
  obtain rfl : w0 = (.int i0) := Option.some.inj ei0
  obtain ⟨i1, ei1⟩ := isL_v g5
  obtain rfl : w1 = (.long i1) := Option.some.inj ei1
  obtain ⟨i2, ei2⟩ := is_v g7
  obtain rfl : w2 = (.int i2) := Option.some.inj ei2
  obtain ⟨i3, ei3⟩ := isL_v g9
  obtain rfl : w3 = (.long i3) := Option.some.inj ei3
  obtain ⟨i4, ei4⟩ := isL_v g10
  obtain rfl : w4 = (.long i4) := Option.some.inj ei4
  obtain ⟨st_ROWS, ev_ROWS⟩ := exa_v g11
  have S_ROWS : Sta s s.heap "com/example/quillpack/quillpack/schema/RecordPlace" "ROWS" "Lcom/example/quillpack/quillpack/schema/RecordPlace;" (.ref st_ROWS) := Sta.start ev_ROWS (Or.inr ⟨(hw _ (List.mem_of_getElem? (i := 1) rfl)), (hw _ (List.mem_of_getElem? (i := 2) rfl))⟩)
  have E_ROWS : Exa s s.heap st_ROWS "com/example/quillpack/quillpack/schema/RecordPlace" := Exa.start ev_ROWS g11
  obtain ⟨st_NESTED, ev_NESTED⟩ := exa_v g15
  have S_NESTED : Sta s s.heap "com/example/quillpack/quillpack/schema/RecordPlace" "NESTED" "Lcom/example/quillpack/quillpack/schema/RecordPlace;" (.ref st_NESTED) := Sta.start ev_NESTED (Or.inr ⟨(hw _ (List.mem_of_getElem? (i := 1) rfl)), (hw _ (List.mem_of_getElem? (i := 15) rfl))⟩)
  have E_NESTED : Exa s s.heap st_NESTED "com/example/quillpack/quillpack/schema/RecordPlace" := Exa.start ev_NESTED g15
  have F_ROWS_savedPerObject : Fld s s.heap st_ROWS "com/example/quillpack/quillpack/schema/RecordPlace" "savedPerObject" "I" (.int (2 : Int32)) := by
    obtain ⟨vx, vy, ex, ey, kx, ky⟩ := cmp_v (Or.inl g13)
    obtain rfl : vy = .int (2 : Int32) := (Option.some.inj ey).symm
    obtain ⟨vz, rfl⟩ := ky
    have hq := gotT (Cond.eq_ints ex ey) g13
    subst hq
    exact Fld.start ((fld_at ev_ROWS).symm.trans ex)
  have F_NESTED_ordinal : Fld s s.heap st_NESTED "java/lang/Enum" "ordinal" "I" (.int (1 : Int32)) := by
    obtain ⟨vx, vy, ex, ey, kx, ky⟩ := cmp_v (Or.inl g17)
    obtain rfl : vy = .int (1 : Int32) := (Option.some.inj ey).symm
    obtain ⟨vz, rfl⟩ := ky
    have hq := gotT (Cond.eq_ints ex ey) g17
    subst hq
    exact Fld.start ((fld_at ev_NESTED).symm.trans ex)
  have F_ROWS_ordinal : Fld s s.heap st_ROWS "java/lang/Enum" "ordinal" "I" (.int (0 : Int32)) := by
    obtain ⟨vx, vy, ex, ey, kx, ky⟩ := cmp_v (Or.inl g19)
    obtain rfl : vy = .int (0 : Int32) := (Option.some.inj ey).symm
    obtain ⟨vz, rfl⟩ := ky
    have hq := gotT (Cond.eq_ints ex ey) g19
    subst hq
    exact Fld.start ((fld_at ev_ROWS).symm.trans ex)
  have F_NESTED_savedPerObject : Fld s s.heap st_NESTED "com/example/quillpack/quillpack/schema/RecordPlace" "savedPerObject" "I" (.int (0 : Int32)) := by
    obtain ⟨vx, vy, ex, ey, kx, ky⟩ := cmp_v (Or.inl g20)
    obtain rfl : vy = .int (0 : Int32) := (Option.some.inj ey).symm
    obtain ⟨vz, rfl⟩ := ky
    have hq := gotT (Cond.eq_ints ex ey) g20
    subst hq
    exact Fld.start ((fld_at ev_NESTED).symm.trans ex)
  obtain ⟨n, o, h1, h2, h3, _, L, rfl, ⟨rfl, N⟩, hq⟩ := own_rm0 l s _ hw tables_1 i0 i1 i2 i3 i4 st_ROWS st_NESTED s.heap s.heap.size (Nat.le_refl _) S_ROWS S_NESTED E_ROWS E_NESTED F_ROWS_savedPerObject F_NESTED_savedPerObject (fun q => Fld.ne F_NESTED_ordinal F_ROWS_ordinal (fun q => absurd (Value.int.inj q) (by decide)) q) p e ha hc hk s m _ below hf ((Spec.applies_iff_loose hf).mp happ).1 ⟨rfl, State.Warmed39.refl s, rfl⟩ trivial
  refine ⟨n, _, h1, h2, h3, hpost _ _ _ _ _ _ ⟨Cond.after_iff.mpr rfl, Cond.after_iff.mpr (eq_i res_at (Term.int_eval (1)) rfl), trivial⟩ ⟨hq.1, hq.2.1, (hq.2.2.sift fun y hy => Or.inr (N y hy)).mono (by decide) (by decide)⟩⟩
theorem main_1_1 : Claimed_1_1 := own_comes fun _ _ _ _ _ _ h hF => ⟨h.1, hF⟩
theorem main_1_2 : Claimed_1_2 := own_comes fun _ _ _ _ _ _ h hF => ⟨h.2.1, hF⟩
end Jvm.Pilot.@@N@@
namespace Jvm.Pilot.@@N@@
open Jvm Jvm.ClassFile Sem Op Lib Jvm.Free Jvm.Stand Jvm.Pilot.@@N@@.Jvm.D
/-! MADE BY PROGRAM (witnessworld.py) out of the Statement's table words and the real class files: 12 classes; the members and pool entries that the words name. The judged class is class 1, her method 1. -/
namespace start1
open Jvm.ClassFile
def u (s : String) : CpInfo := .utf8 (stringToUtf16 s)
/-- a pool by its gaps: so many unusable entries, then the entry; so many at the end -/
def gap : Nat → List CpInfo → List CpInfo
  | 0, r => r
  | n + 1, r => .unusable :: gap n r
def poolList (es : List (Nat × CpInfo)) (last : Nat) : List CpInfo := es.foldr (fun e r => gap e.1 (e.2 :: r)) (gap last [])
def pool (es : List (Nat × CpInfo)) (last : Nat) : Array CpInfo := ⟨poolList es last⟩
def fileOf (pool : Array CpInfo) (this : Nat) (attrs : Array Attribute := #[]) (ms : Array MethodInfo := #[]) (fl : Nat := 33) (sup : Nat := 0) (ifs : Array Nat := #[]) (fds : Array FieldInfo := #[]) : ClassFile where
  minorVersion := 0
  majorVersion := 65
  constantPool := pool
  accessFlags := fl
  thisClass := this
  superClass := sup
  interfaces := ifs
  fields := fds
  methods := ms
  attributes := attrs
def plain (name : String) (sup : Option ClassId) : Class where
  name := name
  kind := .ordinary
  loader := none
  accessFlags := 33
  super := sup
  interfaces := #[]
  cf := none
  fields := #[]
  methods := #[]
  instanceTypes := #[]
  staticTypes := #[]
  resolved := #[]
  callSites := []
  init := .initialized
  statics := none
  mirror := none

def pool0 : Array CpInfo := pool [(5, u "<init>"), (0, u "()V"), (1, .class_ 10), (1, u "java/lang/Object")] 113

def k0m0 : Method := { name := "<init>", desc := "()V", sig := { parameters := [], returnType := none }, accessFlags := 1, code := none }
/-- java/lang/Object -/
def k0 : Class := { plain "java/lang/Object" none with
  accessFlags := 33
  interfaces := #[]
  cf := some (fileOf pool0 8 #[] #[{ accessFlags := 1, nameIndex := 5, descriptorIndex := 6, attributes := #[] }] 33 0 #[] #[])
  fields := #[]
  methods := #[k0m0]
  instanceTypes := #[]
  staticTypes := #[]
  resolved := Array.replicate 124 none
  statics := none }

def pool1 : Array CpInfo := pool [(2, .class_ 4), (1, u "java/lang/Object"), (0, u "<init>"), (0, u "()V"), (0, .fieldref 8 9), (0, .class_ 10), (0, .nameAndType 11 12), (0, u "com/example/quillpack/quillpack/schema/RecordPlace"), (0, u "ROWS"), (0, u "Lcom/example/quillpack/quillpack/schema/RecordPlace;"), (0, .fieldref 8 14), (0, .nameAndType 15 12), (0, u "NESTED"), (0, .integer 1073741823), (0, .methodref 8 18), (0, .nameAndType 19 20), (0, u "bytesMore"), (0, u "(JIJJ)J"), (0, .long 2), (1, .class_ 24), (0, u "com/example/quillpack/quillpack/schema/RecordPlaceBytesMorePinLaw"), (2, u "law"), (0, u "(IJIJJ)Z")] 3

def k1m0 : Method := { name := "<init>", desc := "()V", sig := { parameters := [], returnType := none }, accessFlags := 1, code := none }
def k1c1 : Code := { maxStack := 8, maxLocals := 17, code := code, exceptionTable := #[], attributes := #[] }
def k1m1 : Method := { name := "law", desc := "(IJIJJ)Z", sig := { parameters := [.int, .long, .int, .long, .long], returnType := some .boolean }, accessFlags := 9, code := some k1c1 }
/-- com/example/quillpack/quillpack/schema/RecordPlaceBytesMorePinLaw -/
def k1 : Class := { plain "com/example/quillpack/quillpack/schema/RecordPlaceBytesMorePinLaw" (some 0) with
  accessFlags := 49
  interfaces := #[]
  cf := some (fileOf pool1 23 #[] #[{ accessFlags := 1, nameIndex := 5, descriptorIndex := 6, attributes := #[] }, { accessFlags := 9, nameIndex := 27, descriptorIndex := 28, attributes := #[] }] 49 2 #[] #[])
  fields := #[]
  methods := #[k1m0, k1m1]
  instanceTypes := #[]
  staticTypes := #[]
  resolved := Array.replicate 32 none
  statics := none }

def pool2 : Array CpInfo := pool [(1, .class_ 2), (0, u "java/lang/constant/Constable"), (0, .class_ 4), (0, u "java/lang/Object")] 6

/-- java/lang/constant/Constable -/
def k2 : Class := { plain "java/lang/constant/Constable" (some 0) with
  accessFlags := 1537
  interfaces := #[]
  cf := some (fileOf pool2 1 #[] #[] 1537 3 #[] #[])
  fields := #[]
  methods := #[]
  instanceTypes := #[]
  staticTypes := #[]
  resolved := Array.replicate 11 none
  statics := none }

def pool3 : Array CpInfo := pool [(1, .class_ 2), (0, u "java/lang/Comparable"), (0, .class_ 4), (0, u "java/lang/Object")] 7

/-- java/lang/Comparable -/
def k3 : Class := { plain "java/lang/Comparable" (some 0) with
  accessFlags := 1537
  interfaces := #[]
  cf := some (fileOf pool3 1 #[] #[] 1537 3 #[] #[])
  fields := #[]
  methods := #[]
  instanceTypes := #[]
  staticTypes := #[]
  resolved := Array.replicate 12 none
  statics := none }

def pool4 : Array CpInfo := pool [(1, .class_ 2), (0, u "java/io/Serializable"), (0, .class_ 4), (0, u "java/lang/Object")] 2

/-- java/io/Serializable -/
def k4 : Class := { plain "java/io/Serializable" (some 0) with
  accessFlags := 1537
  interfaces := #[]
  cf := some (fileOf pool4 1 #[] #[] 1537 3 #[] #[])
  fields := #[]
  methods := #[]
  instanceTypes := #[]
  staticTypes := #[]
  resolved := Array.replicate 7 none
  statics := none }

def pool5 : Array CpInfo := pool [(2, .class_ 4), (1, u "java/lang/Enum"), (0, u "name"), (0, u "Ljava/lang/String;"), (2, u "ordinal"), (0, u "I"), (1, .class_ 14), (1, u "java/lang/Object"), (4, u "hash"), (86, .class_ 108), (1, u "java/lang/Enum$EnumDesc"), (2, .class_ 112), (0, u "java/lang/constant/Constable"), (0, .class_ 114), (0, u "java/lang/Comparable"), (0, .class_ 116), (0, u "java/io/Serializable")] 87

/-- java/lang/Enum -/
def k5 : Class := { plain "java/lang/Enum" (some 0) with
  accessFlags := 1057
  interfaces := #[2, 3, 4]
  cf := some (fileOf pool5 2 #[.nestMembers #[106]] #[] 1057 12 #[111, 113, 115] #[{ accessFlags := 18, nameIndex := 5, descriptorIndex := 6, attributes := #[] }, { accessFlags := 18, nameIndex := 9, descriptorIndex := 10, attributes := #[] }, { accessFlags := 2, nameIndex := 19, descriptorIndex := 10, attributes := #[] }])
  fields := #[{ name := "name", type := (.object "java/lang/String"), accessFlags := 18, slot := 0, constantValue := 0 }, { name := "ordinal", type := .int, accessFlags := 18, slot := 1, constantValue := 0 }, { name := "hash", type := .int, accessFlags := 2, slot := 2, constantValue := 0 }]
  methods := #[]
  instanceTypes := #[(.object "java/lang/String"), .int, .int]
  staticTypes := #[]
  resolved := Array.replicate 204 none
  statics := none }

def pool6 : Array CpInfo := pool [(1, .class_ 2), (0, u "com/example/quillpack/quillpack/schema/RecordPlace"), (0, .fieldref 1 4), (0, .nameAndType 5 6), (0, u "ROWS"), (0, u "Lcom/example/quillpack/quillpack/schema/RecordPlace;"), (2, u "NESTED"), (2, u "$VALUES"), (0, u "[Lcom/example/quillpack/quillpack/schema/RecordPlace;"), (6, .class_ 22), (1, u "java/lang/Enum"), (6, .fieldref 1 30), (0, .nameAndType 31 32), (0, u "savedPerObject"), (0, u "I"), (0, .long 2), (22, u "DOUBLE_BYTES"), (9, u "bytesMore"), (0, u "(JIJJ)J"), (10, .class_ 79), (0, u "com/example/quillpack/quillpack/schema/RecordPlace$Costed")] 2

def k6c0 : Code := { maxStack := 6, maxLocals := 14, code := prog_83_method_4_code, exceptionTable := #[], attributes := #[] }
def k6m0 : Method := { name := "bytesMore", desc := "(JIJJ)J", sig := { parameters := [.long, .int, .long, .long], returnType := some .long }, accessFlags := 0, code := some k6c0 }
/-- com/example/quillpack/quillpack/schema/RecordPlace -/
def k6 : Class := { plain "com/example/quillpack/quillpack/schema/RecordPlace" (some 5) with
  accessFlags := 16432
  interfaces := #[]
  cf := some (fileOf pool6 1 #[.nestMembers #[78]] #[{ accessFlags := 0, nameIndex := 66, descriptorIndex := 67, attributes := #[] }] 16432 20 #[] #[{ accessFlags := 16409, nameIndex := 5, descriptorIndex := 6, attributes := #[] }, { accessFlags := 16409, nameIndex := 9, descriptorIndex := 6, attributes := #[] }, { accessFlags := 26, nameIndex := 56, descriptorIndex := 32, attributes := #[] }, { accessFlags := 18, nameIndex := 31, descriptorIndex := 32, attributes := #[] }, { accessFlags := 4122, nameIndex := 12, descriptorIndex := 13, attributes := #[] }])
  fields := #[{ name := "ROWS", type := (.object "com/example/quillpack/quillpack/schema/RecordPlace"), accessFlags := 16409, slot := 0, constantValue := 0 }, { name := "NESTED", type := (.object "com/example/quillpack/quillpack/schema/RecordPlace"), accessFlags := 16409, slot := 1, constantValue := 0 }, { name := "DOUBLE_BYTES", type := .int, accessFlags := 26, slot := 2, constantValue := 0 }, { name := "savedPerObject", type := .int, accessFlags := 18, slot := 3, constantValue := 0 }, { name := "$VALUES", type := (.array (.object "com/example/quillpack/quillpack/schema/RecordPlace")), accessFlags := 4122, slot := 3, constantValue := 0 }]
  methods := #[k6m0]
  instanceTypes := #[(.object "java/lang/String"), .int, .int, .int]
  staticTypes := #[(.object "com/example/quillpack/quillpack/schema/RecordPlace"), (.object "com/example/quillpack/quillpack/schema/RecordPlace"), .int, (.array (.object "com/example/quillpack/quillpack/schema/RecordPlace"))]
  resolved := Array.replicate 82 none
  statics := some 0 }

def pool7 : Array CpInfo := pool [(1, u "java/lang/Cloneable"), (0, .class_ 1), (0, u "java/lang/Object"), (0, .class_ 3)] 3

/-- java/lang/Cloneable -/
def k7 : Class := { plain "java/lang/Cloneable" (some 0) with
  accessFlags := 1537
  interfaces := #[]
  cf := some (fileOf pool7 2 #[] #[] 1537 4 #[] #[])
  fields := #[]
  methods := #[]
  instanceTypes := #[]
  staticTypes := #[]
  resolved := Array.replicate 8 none
  statics := none }

/-- the primitive byte -/
def k8 : Class := { plain "byte" none with kind := .primitive 'B', accessFlags := 0x411 }
/-- [B -/
def k9 : Class := { plain "[B" (some 0) with kind := .array 8 .byte, interfaces := #[7, 4], accessFlags := 1041 }

/-- the primitive int -/
def k10 : Class := { plain "int" none with kind := .primitive 'I', accessFlags := 0x411 }
/-- [I -/
def k11 : Class := { plain "[I" (some 0) with kind := .array 10 .int, interfaces := #[7, 4], accessFlags := 1041 }

def heap : Heap := #[{ cls := 6, slots := #[.ref 1, .ref 2, .int 0, .null], vm := .statics 6 },
  { cls := 6, slots := #[.null, .int 0, .int 0, .int 2], vm := .none },
  { cls := 6, slots := #[.null, .int 1, .int 0, .int 0], vm := .none }]
def classes : Array Class := #[k0, k1, k2, k3, k4, k5, k6, k7, k8, k9, k10, k11]
def interned : List (Array UInt16 × Addr) := []
def slotsUsed : Nat := 12
def theMethod : MethodId := ⟨1, 1⟩
def args0 : Array Value := #[.int 1, .long 2, .int 3, .long 4, .long 5]
def aboutOver (below : List Frame) : State where
  vm := { classes := classes, interned := interned.toArray }
  heap := heap
  slotsUsed := slotsUsed
  threads := #[{ frames := .invoking theMethod args0 :: below }]
def below0 : List Frame := [.native { method := ⟨0, 0⟩, args := #[] }]
def about1 : State := aboutOver below0
def p0 : Program := .bare "" "" ""
def e0 : Env := launch0.env 0 0 0
theorem w_frames : about1.frames = Frame.invoking theMethod args0 :: below0 := rfl
set_option maxRecDepth 65536 in
theorem w_args : argsFit about1.vm theMethod args0 = true := by decide +kernel
set_option maxRecDepth 65536 in
theorem w_heap : heapFits about1 = true := by decide +kernel
set_option maxRecDepth 65536 in
theorem w_runnable : about1.curStatus? = some .runnable := by decide +kernel
set_option maxRecDepth 65536 in
theorem w_alone : about1.alone = true := by decide +kernel
set_option maxRecDepth 65536 in
theorem w_named : about1.methodNamed? x = some theMethod := by decide +kernel
set_option maxRecDepth 65536 in
theorem w_hears : about1.hears theMethod below0 = true := by decide +kernel
set_option maxRecDepth 65536 in
theorem w_ripe : about1.ripe theMethod args0 below0 = true := by decide +kernel
theorem w_running : about1.status = .running := rfl
set_option maxRecDepth 65536 in
theorem w_room : about1.hasRoom e0.platform room_1 = true :=
  launch0.hasRoom_least _ room_1 (by decide +kernel) (by decide +kernel) (by decide +kernel) (by decide +kernel) (by decide +kernel) (by decide +kernel)
theorem allAtoms_all (ts : List Jvm.Cond) (a : Array Jvm.Value) (st : Jvm.State) : (allAtoms ts).before a st = ts.all (fun c => c.before a st) := by
  induction ts with
  | nil => rfl
  | cons c t ih =>
    show (Jvm.Cond.and c (allAtoms t)).before a st = _
    rw [Jvm.Cond.before_and, ih, List.all_cons]
def words1 : List Jvm.Cond := Jvm.Cond.code x code maxLocals ret :: tables_1
/-- a 'code' word, met by the world's own term for the bytes: nothing is compared byte by byte -/
theorem code_word {y : MethodName} {bytes : ByteArray} {mx : Nat} {rt : Option FieldType} {a : Array Value} {s : State} {m : MethodId} {meth : Method} {c : Code} (h1 : s.methodNamed? y = some m) (h2 : s.vm.method? m = some meth) (h3 : meth.code = some c) (h4 : c.code = bytes)
    (h5 : (c.maxLocals == mx && c.exceptionTable.isEmpty && decide (c.maxStack ≤ mostOperands) && decide (meth.sig.returnType = rt) && !meth.locks && decide (parseMethodDescriptor y.desc = some meth.sig)) = true) : (Jvm.Cond.code y bytes mx rt).before a s = true := by
  simp only [Bool.and_eq_true, beq_iff_eq, Bool.not_eq_true', decide_eq_true_eq] at h5
  obtain ⟨⟨⟨⟨⟨g1, g2⟩, g3⟩, g4⟩, g5⟩, g6⟩ := h5
  simp [Cond.before, Cond.holds, Cond.value, h1, h2, h3, h4, g1, g2, g3, g4, g5, g6]
def isCode : Jvm.Cond → Bool
  | .code _ _ _ _ => true
  | _ => false
theorem all_split {L : List Jvm.Cond} {P : Jvm.Cond → Bool} (h1 : L.all (fun c => isCode c || P c) = true) (h2 : ∀ c ∈ L.filter isCode, P c = true) : L.all P = true := by
  refine List.all_eq_true.mpr fun c hc => ?_
  have h := List.all_eq_true.mp h1 c hc
  rcases Bool.eq_false_or_eq_true (isCode c) with hi | hi
  · exact h2 c (List.mem_filter.mpr ⟨hc, hi⟩)
  · simpa [hi] using h
set_option maxRecDepth 65536 in
theorem w_c0 : (Jvm.Cond.code x code maxLocals ret).before args0 about1 = true := code_word (m := ⟨1, 1⟩) (meth := k1m1) (c := k1c1) (by decide +kernel) rfl rfl rfl (by decide +kernel)
set_option maxRecDepth 65536 in
theorem w_c1 : (Jvm.Cond.code ({ cls := "com/example/quillpack/quillpack/schema/RecordPlace", name := "bytesMore", desc := "(JIJJ)J" } : Jvm.MethodName) prog_83_method_4_code (14 : Nat) (Option.some Jvm.ClassFile.FieldType.long)).before args0 about1 = true := code_word (m := ⟨6, 0⟩) (meth := k6m0) (c := k6c0) (by decide +kernel) rfl rfl rfl (by decide +kernel)
def codes1 : List Jvm.Cond := [Jvm.Cond.code x code maxLocals ret, Jvm.Cond.code ({ cls := "com/example/quillpack/quillpack/schema/RecordPlace", name := "bytesMore", desc := "(JIJJ)J" } : Jvm.MethodName) prog_83_method_4_code (14 : Nat) (Option.some Jvm.ClassFile.FieldType.long)]
set_option maxRecDepth 65536 in
theorem codes_eq : words1.filter isCode = codes1 := rfl
theorem w_codes : ∀ c ∈ words1.filter isCode, c.before args0 about1 = true := by
  rw [codes_eq]
  intro c hc
  simp only [codes1, List.mem_cons, List.not_mem_nil, or_false] at hc
  rcases hc with rfl | rfl
  · exact w_c0
  · exact w_c1
set_option maxRecDepth 65536 in
theorem w_t1 : words1.all (fun c => isCode c || c.before args0 about1) = true := by decide +kernel
theorem w_tables : (allAtoms (Jvm.Cond.code x code maxLocals ret :: tables_1)).before args0 about1 = true := by
  rw [allAtoms_all]
  show words1.all (fun c => c.before args0 about1) = true
  refine all_split ?_ w_codes
  rw [w_t1]
set_option maxRecDepth 65536 in
theorem w_case : (Jvm.Cond.and given_1 narrow_1).before args0 about1 = true := by decide +kernel
theorem w_applies : (headSpec (Jvm.Cond.code x code maxLocals ret :: tables_1) room_1).applies x e0.platform about1 = true :=
  (Spec.applies_iff w_frames).mpr ⟨w_running, w_runnable, w_alone, w_named, w_hears, w_ripe, w_room, w_tables⟩
theorem atStart : AtStart classFile x code maxLocals ret World_1 tables_1 room_1 Calls_1 rest_1 Pre_1 launch0 p0 e0 about1 theMethod args0 below0 :=
  ⟨lists_1, trivial, launch0.admits_env _ _ _, launch0.least_env, fairChoices_fair.cas, fairChoices_fair.clock, w_frames, w_args, w_heap, w_applies, trivial, trivial, w_case⟩
end start1
theorem witness_1 : WitnessClaimed_1 := ⟨start1.p0, start1.e0, start1.about1, start1.theMethod, start1.args0, start1.below0, start1.atStart⟩
end Jvm.Pilot.@@N@@
