import JvmDerived
import JvmDerived.Pilot.@@N@@Statement
import JvmDerived.Pilot.@@N@@Code
set_option linter.unusedVariables false
set_option linter.unusedSimpArgs false
set_option maxRecDepth 65536
namespace Jvm.Pilot.@@N@@
open Jvm Jvm.ClassFile Sem Op Lib Jvm.Free Jvm.Stand Jvm.LawKit Jvm.RoadKit Bundle Jvm.Pilot.@@N@@.Jvm.D
section OwnKit
variable {p : Program} {l : Launch} {e : Env} {R : Room} {s : State} {m : MethodId} {args : Array Value} {below : List Frame} {meth : Method} {c : Code} {T : State} {locs : List Loc} {cells slots : Nat}
theorem own_retI (X : Stand p l e R s m args below meth c T locs cells slots) (hx : p.tables.exec = Jvm.exec) {pc : Nat} {Ls : Array Slot} {z : Int32} {rest : List Value} (hret : meth.sig.returnType = some .int) (hd : decode c.code pc = .ok (.ireturn, 1)) {fs : List Frame}
    (hl : ∀ (f : JFrame) (acts : List Action), f.method = m → f.locked = none → f.entered = [] → (doReturn e (T.setTop f) acts (some (.int z))).1 = T.setFrames fs) : Steps p.tables e below (T.setTop (mkF m pc Ls (.int z :: rest))) (T.setFrames fs) := by
  have hm' : T.vm.method? m = some meth := X.method'
  have hn : narrow .int (.int z) = .int z := rfl
  show Steps p.tables e below (T.setTop { method := m, pc := pc, locals := Ls, stack := _ :: rest, locked := none }) _
  jvm_step X.here [X.here.top, hx, hd, hm', hret, hn]
  first | (intro acts; rw [hl _ acts rfl rfl rfl]) | rw [hl _ _ rfl rfl rfl]
  exact Steps.refl _
/-- where the run stands, with the same writes and figures as at X -/
abbrev own_like (_ : Stand p l e R s m args below meth c T locs cells slots) (T' : State) : Prop := Stand p l e R s m args below meth c T' locs cells slots
end OwnKit
theorem own_Llt {a b : Int64} (h : a < b) : ifCond.holds .lt (lcmpW a b) = true ∧ ifCond.holds .ge (lcmpW a b) = false ∧ ifCond.holds .gt (lcmpW b a) = true ∧ ifCond.holds .le (lcmpW b a) = false := by
  simp only [if0]
  exact ⟨(tlt ((lw_lt a b).mpr h)).1, (tlt ((lw_lt a b).mpr h)).2.1, (tlt ((lw_gt b a).mpr h)).2.2.1, (tlt ((lw_gt b a).mpr h)).2.2.2⟩
theorem own_Lnl {a b : Int64} (h : ¬ a < b) : ifCond.holds .lt (lcmpW a b) = false ∧ ifCond.holds .ge (lcmpW a b) = true ∧ ifCond.holds .gt (lcmpW b a) = false ∧ ifCond.holds .le (lcmpW b a) = true := by
  simp only [if0]
  have h1 : ¬ lcmpW a b < 0 := fun q => h ((lw_lt a b).mp q)
  have h2 : ¬ 0 < lcmpW b a := fun q => h ((lw_gt b a).mp q)
  exact ⟨(flt h1).1, (flt h1).2.1, (flt h2).2.2.1, (flt h2).2.2.2⟩
theorem own_Leq {a b : Int64} (h : a = b) : ifCond.holds .eq (lcmpW a b) = true ∧ ifCond.holds .ne (lcmpW a b) = false := by
  simp only [if0]
  exact teq ((lw_eq a b).mpr h)
theorem own_Lne {a b : Int64} (h : ¬ a = b) : ifCond.holds .eq (lcmpW a b) = false ∧ ifCond.holds .ne (lcmpW a b) = true := by
  simp only [if0]
  exact feq fun q => h ((lw_eq a b).mp q)
theorem own_StaK {Z : State} {h h' : Heap} {C n d : String} {v : Value} {ws : List Addr} (F : Sta Z h C n d v) (K : Keep h h' ws) (q : ∀ x ∈ ws, ∃ c : Cell, h[x]? = some c ∧ c.vm.isStatics = false) : Sta Z h' C n d v := by
  obtain ⟨cf, i, k, f, st, cell, h1, h2, h3, h4, h5, h6, h7⟩ := F
  refine ⟨cf, i, k, f, st, cell, h1, h2, h3, h4, K.2.1 st cell h5 (fun hm => ?_), h6, h7⟩
  obtain ⟨c, e1, e2⟩ := q _ hm
  rw [h5] at e1
  cases e1
  rw [h6] at e2
  cases e2
theorem own_ExaS {Z : State} {h : Heap} {a : Addr} {C : String} (E : Exa Z h a C) : ∃ c : Cell, h[a]? = some c ∧ c.vm.isStatics = false := by
  obtain ⟨c, k, e1, -, -, e2, -⟩ := E
  exact ⟨c, e1, e2⟩
/-- a boolean as the JVM's int -/
def own_b (b : Bool) : Int32 := if b then 1 else 0
theorem own_b_t : own_b true = 1 := rfl
theorem own_b_f : own_b false = 0 := rfl
theorem own_b0 {b : Bool} : own_b b = 0 ↔ b = false := by cases b <;> decide
theorem own_b_inj {b c : Bool} : own_b b = own_b c ↔ b = c := by cases b <;> cases c <;> decide
theorem own_leafT {b : Bool} (h : b = true) : (some (.int (nar .boolean (1 : Int32))) : Option Value) = some (.int (own_b b)) := by subst h; rfl
theorem own_leafF {b : Bool} (h : b = false) : (some (.int (nar .boolean (0 : Int32))) : Option Value) = some (.int (own_b b)) := by subst h; rfl
theorem own_bt {b : Bool} (h : b = true) : (1 : Int32) = own_b b := by subst h; rfl
theorem own_bf {b : Bool} (h : b = false) : (0 : Int32) = own_b b := by subst h; rfl
theorem own_b_nar (b : Bool) : nar .boolean (own_b b) = own_b b := by cases b <;> rfl
def own_ref (x : Int64) (a b c d : Addr) : Addr := if ¬ x < (-128 : Int64) ∧ ¬ (127 : Int64) < x then a else if ¬ x < (-32768 : Int64) ∧ ¬ (32767 : Int64) < x then b else if ¬ x < (-2147483648 : Int64) ∧ ¬ (2147483647 : Int64) < x then c else d
def own_ns (x : Int64) (a b c d : Addr) : Addr := if x = (((x.toInt32).toInt8.toInt32).toInt64) then a else if x = (((x.toInt32).toInt16.toInt32).toInt64) then b else if x = ((x.toInt32).toInt64) then c else d
theorem own_e8 (x : Int64) : (x = (((x.toInt32).toInt8.toInt32).toInt64)) ↔ (¬ x < (-128 : Int64) ∧ ¬ (127 : Int64) < x) := by
  rw [← Int64.toInt_inj, Int64.lt_iff_toInt_lt, Int64.lt_iff_toInt_lt]
  have a := c_l2i x
  have b := c_i2b x.toInt32
  have c := c_i2l (x.toInt32.toInt8.toInt32)
  have z1 : (-128 : Int64).toInt = -128 := rfl
  have z2 : (127 : Int64).toInt = 127 := rfl
  omega
theorem own_e16 (x : Int64) : (x = (((x.toInt32).toInt16.toInt32).toInt64)) ↔ (¬ x < (-32768 : Int64) ∧ ¬ (32767 : Int64) < x) := by
  rw [← Int64.toInt_inj, Int64.lt_iff_toInt_lt, Int64.lt_iff_toInt_lt]
  have a := c_l2i x
  have b := c_i2s x.toInt32
  have c := c_i2l (x.toInt32.toInt16.toInt32)
  have z1 : (-32768 : Int64).toInt = -32768 := rfl
  have z2 : (32767 : Int64).toInt = 32767 := rfl
  omega
theorem own_e32 (x : Int64) : (x = ((x.toInt32).toInt64)) ↔ (¬ x < (-2147483648 : Int64) ∧ ¬ (2147483647 : Int64) < x) := by
  rw [← Int64.toInt_inj, Int64.lt_iff_toInt_lt, Int64.lt_iff_toInt_lt]
  have a := c_l2i x
  have b := rng32 x.toInt32
  have c := c_i2l x.toInt32
  have z1 : (-2147483648 : Int64).toInt = -2147483648 := rfl
  have z2 : (2147483647 : Int64).toInt = 2147483647 := rfl
  omega
theorem own_plain (x : Int64) (a b c d : Addr) : own_ns x a b c d = own_ref x a b c d := by
  unfold own_ns own_ref
  simp only [← own_e8, ← own_e16, ← own_e32]
theorem own_d1_0 : decode method_3_code 0 = .ok (.lload_n 0, 1) := by decide +kernel
theorem own_d1_1 : decode method_3_code 1 = .ok (.ldc2_w 19, 3) := by decide +kernel
theorem own_d1_4 : decode method_3_code 4 = .ok (.lcmp, 1) := by decide +kernel
theorem own_d1_5 : decode method_3_code 5 = .ok (.ifCond .lt 15, 3) := by decide +kernel
theorem own_d1_8 : decode method_3_code 8 = .ok (.lload_n 0, 1) := by decide +kernel
theorem own_d1_9 : decode method_3_code 9 = .ok (.ldc2_w 21, 3) := by decide +kernel
theorem own_d1_12 : decode method_3_code 12 = .ok (.lcmp, 1) := by decide +kernel
theorem own_d1_13 : decode method_3_code 13 = .ok (.ifCond .gt 7, 3) := by decide +kernel
theorem own_d1_16 : decode method_3_code 16 = .ok (.getstatic 23, 3) := by decide +kernel
theorem own_d1_19 : decode method_3_code 19 = .ok (.areturn, 1) := by decide +kernel
theorem own_d1_20 : decode method_3_code 20 = .ok (.lload_n 0, 1) := by decide +kernel
theorem own_d1_21 : decode method_3_code 21 = .ok (.ldc2_w 27, 3) := by decide +kernel
theorem own_d1_24 : decode method_3_code 24 = .ok (.lcmp, 1) := by decide +kernel
theorem own_d1_25 : decode method_3_code 25 = .ok (.ifCond .lt 15, 3) := by decide +kernel
theorem own_d1_28 : decode method_3_code 28 = .ok (.lload_n 0, 1) := by decide +kernel
theorem own_d1_29 : decode method_3_code 29 = .ok (.ldc2_w 29, 3) := by decide +kernel
theorem own_d1_32 : decode method_3_code 32 = .ok (.lcmp, 1) := by decide +kernel
theorem own_d1_33 : decode method_3_code 33 = .ok (.ifCond .gt 7, 3) := by decide +kernel
theorem own_d1_36 : decode method_3_code 36 = .ok (.getstatic 31, 3) := by decide +kernel
theorem own_d1_39 : decode method_3_code 39 = .ok (.areturn, 1) := by decide +kernel
theorem own_d1_40 : decode method_3_code 40 = .ok (.lload_n 0, 1) := by decide +kernel
theorem own_d1_41 : decode method_3_code 41 = .ok (.ldc2_w 34, 3) := by decide +kernel
theorem own_d1_44 : decode method_3_code 44 = .ok (.lcmp, 1) := by decide +kernel
theorem own_d1_45 : decode method_3_code 45 = .ok (.ifCond .lt 15, 3) := by decide +kernel
theorem own_d1_48 : decode method_3_code 48 = .ok (.lload_n 0, 1) := by decide +kernel
theorem own_d1_49 : decode method_3_code 49 = .ok (.ldc2_w 36, 3) := by decide +kernel
theorem own_d1_52 : decode method_3_code 52 = .ok (.lcmp, 1) := by decide +kernel
theorem own_d1_53 : decode method_3_code 53 = .ok (.ifCond .gt 7, 3) := by decide +kernel
theorem own_d1_56 : decode method_3_code 56 = .ok (.getstatic 38, 3) := by decide +kernel
theorem own_d1_59 : decode method_3_code 59 = .ok (.areturn, 1) := by decide +kernel
theorem own_d1_60 : decode method_3_code 60 = .ok (.getstatic 41, 3) := by decide +kernel
theorem own_d1_63 : decode method_3_code 63 = .ok (.areturn, 1) := by decide +kernel
theorem own_ef1 (m : MethodId) (x0 : Int64) : entryFrame m #[(.long x0)] 2 = mkF m 0 #[.val (.long x0), .second] [] := by first | (simp [entryFrame, mkF, argsToLocals, Value.category]; done) | rfl
def own_Q1 (Z : State) (xx : Int64) (st_INT8 : Addr) (st_INT16 : Addr) (st_INT32 : Addr) (st_INT64 : Addr) (h0 : Heap) (n0 : Nat) (v : Option Value) (h : Heap) (L : List Loc) : Prop := v = some (.ref (own_ref xx st_INT8 st_INT16 st_INT32 st_INT64)) ∧ L = [] ∧ h = h0
theorem own_pn0 : plainName "com/example/quillpack/quillpack/binary/TypeCodeNarrowestSignedPinLaw" = true := by first | (simp [plainName, overriddenIn]; done) | decide +kernel
set_option maxHeartbeats 40000000 in
theorem own_rm1 (l : Launch) (Z : State) (a0 : Array Value) (hw : ∀ d ∈ tables_1, d.before a0 Z = true) (ws : List Jvm.Cond) (xx : Int64) (st_INT8 : Addr) (st_INT16 : Addr) (st_INT32 : Addr) (st_INT64 : Addr) (h0 : Heap) (n0 : Nat) (Z0 : n0 ≤ h0.size) (S_INT8 : Sta Z h0 "com/example/quillpack/quillpack/binary/TypeCode" "INT8" "Lcom/example/quillpack/quillpack/binary/TypeCode;" (.ref st_INT8)) (S_INT16 : Sta Z h0 "com/example/quillpack/quillpack/binary/TypeCode" "INT16" "Lcom/example/quillpack/quillpack/binary/TypeCode;" (.ref st_INT16)) (S_INT32 : Sta Z h0 "com/example/quillpack/quillpack/binary/TypeCode" "INT32" "Lcom/example/quillpack/quillpack/binary/TypeCode;" (.ref st_INT32)) (S_INT64 : Sta Z h0 "com/example/quillpack/quillpack/binary/TypeCode" "INT64" "Lcom/example/quillpack/quillpack/binary/TypeCode;" (.ref st_INT64)) :
    MetFree l (⟨"com/example/quillpack/quillpack/binary/TypeCodeNarrowestSignedPinLaw", "reference", "(J)Lcom/example/quillpack/quillpack/binary/TypeCode;"⟩ : MethodName) (head1 (Jvm.Cond.code (⟨"com/example/quillpack/quillpack/binary/TypeCodeNarrowestSignedPinLaw", "reference", "(J)Lcom/example/quillpack/quillpack/binary/TypeCode;"⟩ : MethodName) method_3_code 2 (some (.object "com/example/quillpack/quillpack/binary/TypeCode")) :: ws) ({ frames := 0, cells := 0, slots := 0, locals := 0 } : Room)) (fun argv U => argv = #[(.long xx)] ∧ Z.Warmed39 U.vm ∧ U.heap = h0) (fun _ _ _ _ _ => True) (fun _ U o U' => ∃ v L, o = .returned v ∧ own_Q1 Z xx st_INT8 st_INT16 st_INT32 st_INT64 h0 n0 v U'.heap L ∧ FrameEnd U o U' L ({ frames := 0, cells := 0, slots := 0, locals := 0 } : Room).cells ({ frames := 0, cells := 0, slots := 0, locals := 0 } : Room).slots) := by
  refine MetFree.of_bodySF (plainFor_of_name own_pn0) hisR ?_
  intro p e s m args below meth c s₁ Bd hml0 hP hK
  obtain ⟨rfl, hZ, hh⟩ := hP
  have hx := Bd.exec
  have hby := Bd.bytes
  have hml : c.maxLocals = 2 := hml0
  have hown : s.vm.findClass "com/example/quillpack/quillpack/binary/TypeCodeNarrowestSignedPinLaw" = some m.cls := findClass_of_methodNamed Bd.named
  have hnm := (name_of_methodNamed Bd.named Bd.method).1
  have X0 : Stand p l e ({ frames := 0, cells := 0, slots := 0, locals := 0 } : Room) s m #[(.long xx)] below meth c s₁ [] 0 0 := Stand.of_body Bd
  have e0 : s₁.heap = h0 := by rw [← hh, Bd.state]; rfl
  have N0 := Fr.nil n0
  have pre0 : ∀ t, Steps p.tables e below (s₁.setTop (mkF m 0 #[.val (.long xx), .second] [])) t → Steps p.tables e below (s₁.setTop (entryFrame m #[(.long xx)] 2)) t := fun t k => castTop (own_ef1 m xx) k
  have S1 : ∀ t, Steps p.tables e below (s₁.setTop (mkF m 5 #[.val (.long xx), .second] [(.int (lcmpW xx (-128 : Int64)))])) t → Steps p.tables e below (s₁.setTop (entryFrame m #[(.long xx)] 2)) t := fun t kt => by
    refine pre0 t ?_
    show Steps p.tables e below (s₁.setTop (mkF m 0 #[.val (.long xx), .second] [])) t
    refine XS.lloadN X0.here hx rfl (hb hby own_d1_0) rfl ?_
    show Steps p.tables e below (s₁.setTop (mkF m 1 #[.val (.long xx), .second] [(.long xx)])) t
    refine X0.ldc2Long hx hown (mvT hZ (hw _ (List.mem_of_getElem? (i := 5) rfl))) (g := (mkF m 1 #[.val (.long xx), .second] [(.long xx)])) rfl (hb hby own_d1_1) _ ?_
    show Steps p.tables e below (s₁.setTop (mkF m 4 #[.val (.long xx), .second] [(.long (-128 : Int64)), (.long xx)])) t
    refine XS.lcmp X0.here hx rfl (hb hby own_d1_4) rfl ?_
    exact kt
  by_cases hc5 : xx < (-128 : Int64)
  · skip
    have S2 : ∀ t, Steps p.tables e below (s₁.setTop (mkF m 25 #[.val (.long xx), .second] [(.int (lcmpW xx (-32768 : Int64)))])) t → Steps p.tables e below (s₁.setTop (entryFrame m #[(.long xx)] 2)) t := fun t kt => by
      refine S1 t ?_
      show Steps p.tables e below (s₁.setTop (mkF m 5 #[.val (.long xx), .second] [(.int (lcmpW xx (-128 : Int64)))])) t
      refine XS.ifYes X0.here hx rfl (pc0 := 5) (pc' := 20) rfl (hb hby own_d1_5) rfl (own_Llt hc5).1 (by decide) (by decide) ?_
      show Steps p.tables e below (s₁.setTop (mkF m 20 #[.val (.long xx), .second] [])) t
      refine XS.lloadN X0.here hx rfl (hb hby own_d1_20) rfl ?_
      show Steps p.tables e below (s₁.setTop (mkF m 21 #[.val (.long xx), .second] [(.long xx)])) t
      refine X0.ldc2Long hx hown (mvT hZ (hw _ (List.mem_of_getElem? (i := 14) rfl))) (g := (mkF m 21 #[.val (.long xx), .second] [(.long xx)])) rfl (hb hby own_d1_21) _ ?_
      show Steps p.tables e below (s₁.setTop (mkF m 24 #[.val (.long xx), .second] [(.long (-32768 : Int64)), (.long xx)])) t
      refine XS.lcmp X0.here hx rfl (hb hby own_d1_24) rfl ?_
      exact kt
    by_cases hc25 : xx < (-32768 : Int64)
    · skip
      have S3 : ∀ t, Steps p.tables e below (s₁.setTop (mkF m 45 #[.val (.long xx), .second] [(.int (lcmpW xx (-2147483648 : Int64)))])) t → Steps p.tables e below (s₁.setTop (entryFrame m #[(.long xx)] 2)) t := fun t kt => by
        refine S2 t ?_
        show Steps p.tables e below (s₁.setTop (mkF m 25 #[.val (.long xx), .second] [(.int (lcmpW xx (-32768 : Int64)))])) t
        refine XS.ifYes X0.here hx rfl (pc0 := 25) (pc' := 40) rfl (hb hby own_d1_25) rfl (own_Llt hc25).1 (by decide) (by decide) ?_
        show Steps p.tables e below (s₁.setTop (mkF m 40 #[.val (.long xx), .second] [])) t
        refine XS.lloadN X0.here hx rfl (hb hby own_d1_40) rfl ?_
        show Steps p.tables e below (s₁.setTop (mkF m 41 #[.val (.long xx), .second] [(.long xx)])) t
        refine X0.ldc2Long hx hown (mvT hZ (hw _ (List.mem_of_getElem? (i := 15) rfl))) (g := (mkF m 41 #[.val (.long xx), .second] [(.long xx)])) rfl (hb hby own_d1_41) _ ?_
        show Steps p.tables e below (s₁.setTop (mkF m 44 #[.val (.long xx), .second] [(.long (-2147483648 : Int64)), (.long xx)])) t
        refine XS.lcmp X0.here hx rfl (hb hby own_d1_44) rfl ?_
        exact kt
      by_cases hc45 : xx < (-2147483648 : Int64)
      · skip
        have S4 : ∀ t, Steps p.tables e below (s₁.setTop (mkF m 60 #[.val (.long xx), .second] [])) t → Steps p.tables e below (s₁.setTop (entryFrame m #[(.long xx)] 2)) t := fun t kt => by
          refine S3 t ?_
          show Steps p.tables e below (s₁.setTop (mkF m 45 #[.val (.long xx), .second] [(.int (lcmpW xx (-2147483648 : Int64)))])) t
          refine XS.ifYes X0.here hx rfl (pc0 := 45) (pc' := 60) rfl (hb hby own_d1_45) rfl (own_Llt hc45).1 (by decide) (by decide) ?_
          exact kt
        obtain ⟨T5, X5, e5, st5⟩ := getS2 X0 hx hZ hown (host := "") (Or.inl (hw _ (List.mem_of_getElem? (i := 16) rfl))) Via.refl e0 S_INT64 (g := (mkF m 60 #[.val (.long xx), .second] [])) rfl (hb hby own_d1_60)
        have S6 : ∀ t, Steps p.tables e below (T5.setTop (mkF m 63 #[.val (.long xx), .second] [(.ref st_INT64)])) t → Steps p.tables e below (s₁.setTop (entryFrame m #[(.long xx)] 2)) t := fun t kt => S4 t (st5 _ kt)
        obtain ⟨fs, hr, hrun, hended, hW, hsame⟩ := X5.leave (v := some (.ref st_INT64)) (fun h => by rw [Bd.returns] at h; cases h)
        refine ⟨_, _, S6 _ ?_, hrun, hended, _, _, rfl, ?_, ⟨_, rfl⟩, hW, hsame.mono (by decide) (by decide)⟩
        · show Steps p.tables e below (T5.setTop (mkF m 63 #[.val (.long xx), .second] [(.ref st_INT64)])) _
          jvm_step X5.here [X5.here.top, hx, (hb hby own_d1_63), X5.method', Bd.returns, Value.isRef, FieldType.isReference]
          first | (intro acts; rw [hr _ acts rfl rfl rfl]) | rw [hr _ _ rfl rfl rfl]
          exact Steps.refl _
        · show own_Q1 Z xx st_INT8 st_INT16 st_INT32 st_INT64 h0 n0 _ T5.heap _
          rw [e5]
          exact ⟨by simp [own_ref, *], rfl, rfl⟩
      · skip
        have S7 : ∀ t, Steps p.tables e below (s₁.setTop (mkF m 53 #[.val (.long xx), .second] [(.int (lcmpW xx (2147483647 : Int64)))])) t → Steps p.tables e below (s₁.setTop (entryFrame m #[(.long xx)] 2)) t := fun t kt => by
          refine S3 t ?_
          show Steps p.tables e below (s₁.setTop (mkF m 45 #[.val (.long xx), .second] [(.int (lcmpW xx (-2147483648 : Int64)))])) t
          refine XS.ifNo X0.here hx rfl (hb hby own_d1_45) rfl (own_Lnl hc45).1 ?_
          show Steps p.tables e below (s₁.setTop (mkF m 48 #[.val (.long xx), .second] [])) t
          refine XS.lloadN X0.here hx rfl (hb hby own_d1_48) rfl ?_
          show Steps p.tables e below (s₁.setTop (mkF m 49 #[.val (.long xx), .second] [(.long xx)])) t
          refine X0.ldc2Long hx hown (mvT hZ (hw _ (List.mem_of_getElem? (i := 19) rfl))) (g := (mkF m 49 #[.val (.long xx), .second] [(.long xx)])) rfl (hb hby own_d1_49) _ ?_
          show Steps p.tables e below (s₁.setTop (mkF m 52 #[.val (.long xx), .second] [(.long (2147483647 : Int64)), (.long xx)])) t
          refine XS.lcmp X0.here hx rfl (hb hby own_d1_52) rfl ?_
          exact kt
        by_cases hc53 : (2147483647 : Int64) < xx
        · skip
          have S8 : ∀ t, Steps p.tables e below (s₁.setTop (mkF m 60 #[.val (.long xx), .second] [])) t → Steps p.tables e below (s₁.setTop (entryFrame m #[(.long xx)] 2)) t := fun t kt => by
            refine S7 t ?_
            show Steps p.tables e below (s₁.setTop (mkF m 53 #[.val (.long xx), .second] [(.int (lcmpW xx (2147483647 : Int64)))])) t
            refine XS.ifYes X0.here hx rfl (pc0 := 53) (pc' := 60) rfl (hb hby own_d1_53) rfl (own_Llt hc53).2.2.1 (by decide) (by decide) ?_
            exact kt
          obtain ⟨T9, X9, e9, st9⟩ := getS2 X0 hx hZ hown (host := "") (Or.inl (hw _ (List.mem_of_getElem? (i := 16) rfl))) Via.refl e0 S_INT64 (g := (mkF m 60 #[.val (.long xx), .second] [])) rfl (hb hby own_d1_60)
          have S10 : ∀ t, Steps p.tables e below (T9.setTop (mkF m 63 #[.val (.long xx), .second] [(.ref st_INT64)])) t → Steps p.tables e below (s₁.setTop (entryFrame m #[(.long xx)] 2)) t := fun t kt => S8 t (st9 _ kt)
          obtain ⟨fs, hr, hrun, hended, hW, hsame⟩ := X9.leave (v := some (.ref st_INT64)) (fun h => by rw [Bd.returns] at h; cases h)
          refine ⟨_, _, S10 _ ?_, hrun, hended, _, _, rfl, ?_, ⟨_, rfl⟩, hW, hsame.mono (by decide) (by decide)⟩
          · show Steps p.tables e below (T9.setTop (mkF m 63 #[.val (.long xx), .second] [(.ref st_INT64)])) _
            jvm_step X9.here [X9.here.top, hx, (hb hby own_d1_63), X9.method', Bd.returns, Value.isRef, FieldType.isReference]
            first | (intro acts; rw [hr _ acts rfl rfl rfl]) | rw [hr _ _ rfl rfl rfl]
            exact Steps.refl _
          · show own_Q1 Z xx st_INT8 st_INT16 st_INT32 st_INT64 h0 n0 _ T9.heap _
            rw [e9]
            exact ⟨by simp [own_ref, *], rfl, rfl⟩
        · skip
          have S11 : ∀ t, Steps p.tables e below (s₁.setTop (mkF m 56 #[.val (.long xx), .second] [])) t → Steps p.tables e below (s₁.setTop (entryFrame m #[(.long xx)] 2)) t := fun t kt => by
            refine S7 t ?_
            show Steps p.tables e below (s₁.setTop (mkF m 53 #[.val (.long xx), .second] [(.int (lcmpW xx (2147483647 : Int64)))])) t
            refine XS.ifNo X0.here hx rfl (hb hby own_d1_53) rfl (own_Lnl hc53).2.2.1 ?_
            exact kt
          obtain ⟨T12, X12, e12, st12⟩ := getS2 X0 hx hZ hown (host := "") (Or.inl (hw _ (List.mem_of_getElem? (i := 20) rfl))) Via.refl e0 S_INT32 (g := (mkF m 56 #[.val (.long xx), .second] [])) rfl (hb hby own_d1_56)
          have S13 : ∀ t, Steps p.tables e below (T12.setTop (mkF m 59 #[.val (.long xx), .second] [(.ref st_INT32)])) t → Steps p.tables e below (s₁.setTop (entryFrame m #[(.long xx)] 2)) t := fun t kt => S11 t (st12 _ kt)
          obtain ⟨fs, hr, hrun, hended, hW, hsame⟩ := X12.leave (v := some (.ref st_INT32)) (fun h => by rw [Bd.returns] at h; cases h)
          refine ⟨_, _, S13 _ ?_, hrun, hended, _, _, rfl, ?_, ⟨_, rfl⟩, hW, hsame.mono (by decide) (by decide)⟩
          · show Steps p.tables e below (T12.setTop (mkF m 59 #[.val (.long xx), .second] [(.ref st_INT32)])) _
            jvm_step X12.here [X12.here.top, hx, (hb hby own_d1_59), X12.method', Bd.returns, Value.isRef, FieldType.isReference]
            first | (intro acts; rw [hr _ acts rfl rfl rfl]) | rw [hr _ _ rfl rfl rfl]
            exact Steps.refl _
          · show own_Q1 Z xx st_INT8 st_INT16 st_INT32 st_INT64 h0 n0 _ T12.heap _
            rw [e12]
            exact ⟨by simp [own_ref, *], rfl, rfl⟩
    · skip
      have S14 : ∀ t, Steps p.tables e below (s₁.setTop (mkF m 33 #[.val (.long xx), .second] [(.int (lcmpW xx (32767 : Int64)))])) t → Steps p.tables e below (s₁.setTop (entryFrame m #[(.long xx)] 2)) t := fun t kt => by
        refine S2 t ?_
        show Steps p.tables e below (s₁.setTop (mkF m 25 #[.val (.long xx), .second] [(.int (lcmpW xx (-32768 : Int64)))])) t
        refine XS.ifNo X0.here hx rfl (hb hby own_d1_25) rfl (own_Lnl hc25).1 ?_
        show Steps p.tables e below (s₁.setTop (mkF m 28 #[.val (.long xx), .second] [])) t
        refine XS.lloadN X0.here hx rfl (hb hby own_d1_28) rfl ?_
        show Steps p.tables e below (s₁.setTop (mkF m 29 #[.val (.long xx), .second] [(.long xx)])) t
        refine X0.ldc2Long hx hown (mvT hZ (hw _ (List.mem_of_getElem? (i := 23) rfl))) (g := (mkF m 29 #[.val (.long xx), .second] [(.long xx)])) rfl (hb hby own_d1_29) _ ?_
        show Steps p.tables e below (s₁.setTop (mkF m 32 #[.val (.long xx), .second] [(.long (32767 : Int64)), (.long xx)])) t
        refine XS.lcmp X0.here hx rfl (hb hby own_d1_32) rfl ?_
        exact kt
      by_cases hc33 : (32767 : Int64) < xx
      · skip
        have S15 : ∀ t, Steps p.tables e below (s₁.setTop (mkF m 45 #[.val (.long xx), .second] [(.int (lcmpW xx (-2147483648 : Int64)))])) t → Steps p.tables e below (s₁.setTop (entryFrame m #[(.long xx)] 2)) t := fun t kt => by
          refine S14 t ?_
          show Steps p.tables e below (s₁.setTop (mkF m 33 #[.val (.long xx), .second] [(.int (lcmpW xx (32767 : Int64)))])) t
          refine XS.ifYes X0.here hx rfl (pc0 := 33) (pc' := 40) rfl (hb hby own_d1_33) rfl (own_Llt hc33).2.2.1 (by decide) (by decide) ?_
          show Steps p.tables e below (s₁.setTop (mkF m 40 #[.val (.long xx), .second] [])) t
          refine XS.lloadN X0.here hx rfl (hb hby own_d1_40) rfl ?_
          show Steps p.tables e below (s₁.setTop (mkF m 41 #[.val (.long xx), .second] [(.long xx)])) t
          refine X0.ldc2Long hx hown (mvT hZ (hw _ (List.mem_of_getElem? (i := 15) rfl))) (g := (mkF m 41 #[.val (.long xx), .second] [(.long xx)])) rfl (hb hby own_d1_41) _ ?_
          show Steps p.tables e below (s₁.setTop (mkF m 44 #[.val (.long xx), .second] [(.long (-2147483648 : Int64)), (.long xx)])) t
          refine XS.lcmp X0.here hx rfl (hb hby own_d1_44) rfl ?_
          exact kt
        by_cases hc45 : xx < (-2147483648 : Int64)
        · skip
          have S16 : ∀ t, Steps p.tables e below (s₁.setTop (mkF m 60 #[.val (.long xx), .second] [])) t → Steps p.tables e below (s₁.setTop (entryFrame m #[(.long xx)] 2)) t := fun t kt => by
            refine S15 t ?_
            show Steps p.tables e below (s₁.setTop (mkF m 45 #[.val (.long xx), .second] [(.int (lcmpW xx (-2147483648 : Int64)))])) t
            refine XS.ifYes X0.here hx rfl (pc0 := 45) (pc' := 60) rfl (hb hby own_d1_45) rfl (own_Llt hc45).1 (by decide) (by decide) ?_
            exact kt
          obtain ⟨T17, X17, e17, st17⟩ := getS2 X0 hx hZ hown (host := "") (Or.inl (hw _ (List.mem_of_getElem? (i := 16) rfl))) Via.refl e0 S_INT64 (g := (mkF m 60 #[.val (.long xx), .second] [])) rfl (hb hby own_d1_60)
          have S18 : ∀ t, Steps p.tables e below (T17.setTop (mkF m 63 #[.val (.long xx), .second] [(.ref st_INT64)])) t → Steps p.tables e below (s₁.setTop (entryFrame m #[(.long xx)] 2)) t := fun t kt => S16 t (st17 _ kt)
          obtain ⟨fs, hr, hrun, hended, hW, hsame⟩ := X17.leave (v := some (.ref st_INT64)) (fun h => by rw [Bd.returns] at h; cases h)
          refine ⟨_, _, S18 _ ?_, hrun, hended, _, _, rfl, ?_, ⟨_, rfl⟩, hW, hsame.mono (by decide) (by decide)⟩
          · show Steps p.tables e below (T17.setTop (mkF m 63 #[.val (.long xx), .second] [(.ref st_INT64)])) _
            jvm_step X17.here [X17.here.top, hx, (hb hby own_d1_63), X17.method', Bd.returns, Value.isRef, FieldType.isReference]
            first | (intro acts; rw [hr _ acts rfl rfl rfl]) | rw [hr _ _ rfl rfl rfl]
            exact Steps.refl _
          · show own_Q1 Z xx st_INT8 st_INT16 st_INT32 st_INT64 h0 n0 _ T17.heap _
            rw [e17]
            exact ⟨by simp [own_ref, *], rfl, rfl⟩
        · skip
          have S19 : ∀ t, Steps p.tables e below (s₁.setTop (mkF m 53 #[.val (.long xx), .second] [(.int (lcmpW xx (2147483647 : Int64)))])) t → Steps p.tables e below (s₁.setTop (entryFrame m #[(.long xx)] 2)) t := fun t kt => by
            refine S15 t ?_
            show Steps p.tables e below (s₁.setTop (mkF m 45 #[.val (.long xx), .second] [(.int (lcmpW xx (-2147483648 : Int64)))])) t
            refine XS.ifNo X0.here hx rfl (hb hby own_d1_45) rfl (own_Lnl hc45).1 ?_
            show Steps p.tables e below (s₁.setTop (mkF m 48 #[.val (.long xx), .second] [])) t
            refine XS.lloadN X0.here hx rfl (hb hby own_d1_48) rfl ?_
            show Steps p.tables e below (s₁.setTop (mkF m 49 #[.val (.long xx), .second] [(.long xx)])) t
            refine X0.ldc2Long hx hown (mvT hZ (hw _ (List.mem_of_getElem? (i := 19) rfl))) (g := (mkF m 49 #[.val (.long xx), .second] [(.long xx)])) rfl (hb hby own_d1_49) _ ?_
            show Steps p.tables e below (s₁.setTop (mkF m 52 #[.val (.long xx), .second] [(.long (2147483647 : Int64)), (.long xx)])) t
            refine XS.lcmp X0.here hx rfl (hb hby own_d1_52) rfl ?_
            exact kt
          by_cases hc53 : (2147483647 : Int64) < xx
          · skip
            have S20 : ∀ t, Steps p.tables e below (s₁.setTop (mkF m 60 #[.val (.long xx), .second] [])) t → Steps p.tables e below (s₁.setTop (entryFrame m #[(.long xx)] 2)) t := fun t kt => by
              refine S19 t ?_
              show Steps p.tables e below (s₁.setTop (mkF m 53 #[.val (.long xx), .second] [(.int (lcmpW xx (2147483647 : Int64)))])) t
              refine XS.ifYes X0.here hx rfl (pc0 := 53) (pc' := 60) rfl (hb hby own_d1_53) rfl (own_Llt hc53).2.2.1 (by decide) (by decide) ?_
              exact kt
            obtain ⟨T21, X21, e21, st21⟩ := getS2 X0 hx hZ hown (host := "") (Or.inl (hw _ (List.mem_of_getElem? (i := 16) rfl))) Via.refl e0 S_INT64 (g := (mkF m 60 #[.val (.long xx), .second] [])) rfl (hb hby own_d1_60)
            have S22 : ∀ t, Steps p.tables e below (T21.setTop (mkF m 63 #[.val (.long xx), .second] [(.ref st_INT64)])) t → Steps p.tables e below (s₁.setTop (entryFrame m #[(.long xx)] 2)) t := fun t kt => S20 t (st21 _ kt)
            obtain ⟨fs, hr, hrun, hended, hW, hsame⟩ := X21.leave (v := some (.ref st_INT64)) (fun h => by rw [Bd.returns] at h; cases h)
            refine ⟨_, _, S22 _ ?_, hrun, hended, _, _, rfl, ?_, ⟨_, rfl⟩, hW, hsame.mono (by decide) (by decide)⟩
            · show Steps p.tables e below (T21.setTop (mkF m 63 #[.val (.long xx), .second] [(.ref st_INT64)])) _
              jvm_step X21.here [X21.here.top, hx, (hb hby own_d1_63), X21.method', Bd.returns, Value.isRef, FieldType.isReference]
              first | (intro acts; rw [hr _ acts rfl rfl rfl]) | rw [hr _ _ rfl rfl rfl]
              exact Steps.refl _
            · show own_Q1 Z xx st_INT8 st_INT16 st_INT32 st_INT64 h0 n0 _ T21.heap _
              rw [e21]
              exact ⟨by simp [own_ref, *], rfl, rfl⟩
          · skip
            have S23 : ∀ t, Steps p.tables e below (s₁.setTop (mkF m 56 #[.val (.long xx), .second] [])) t → Steps p.tables e below (s₁.setTop (entryFrame m #[(.long xx)] 2)) t := fun t kt => by
              refine S19 t ?_
              show Steps p.tables e below (s₁.setTop (mkF m 53 #[.val (.long xx), .second] [(.int (lcmpW xx (2147483647 : Int64)))])) t
              refine XS.ifNo X0.here hx rfl (hb hby own_d1_53) rfl (own_Lnl hc53).2.2.1 ?_
              exact kt
            obtain ⟨T24, X24, e24, st24⟩ := getS2 X0 hx hZ hown (host := "") (Or.inl (hw _ (List.mem_of_getElem? (i := 20) rfl))) Via.refl e0 S_INT32 (g := (mkF m 56 #[.val (.long xx), .second] [])) rfl (hb hby own_d1_56)
            have S25 : ∀ t, Steps p.tables e below (T24.setTop (mkF m 59 #[.val (.long xx), .second] [(.ref st_INT32)])) t → Steps p.tables e below (s₁.setTop (entryFrame m #[(.long xx)] 2)) t := fun t kt => S23 t (st24 _ kt)
            obtain ⟨fs, hr, hrun, hended, hW, hsame⟩ := X24.leave (v := some (.ref st_INT32)) (fun h => by rw [Bd.returns] at h; cases h)
            refine ⟨_, _, S25 _ ?_, hrun, hended, _, _, rfl, ?_, ⟨_, rfl⟩, hW, hsame.mono (by decide) (by decide)⟩
            · show Steps p.tables e below (T24.setTop (mkF m 59 #[.val (.long xx), .second] [(.ref st_INT32)])) _
              jvm_step X24.here [X24.here.top, hx, (hb hby own_d1_59), X24.method', Bd.returns, Value.isRef, FieldType.isReference]
              first | (intro acts; rw [hr _ acts rfl rfl rfl]) | rw [hr _ _ rfl rfl rfl]
              exact Steps.refl _
            · show own_Q1 Z xx st_INT8 st_INT16 st_INT32 st_INT64 h0 n0 _ T24.heap _
              rw [e24]
              exact ⟨by simp [own_ref, *], rfl, rfl⟩
      · skip
        have S26 : ∀ t, Steps p.tables e below (s₁.setTop (mkF m 36 #[.val (.long xx), .second] [])) t → Steps p.tables e below (s₁.setTop (entryFrame m #[(.long xx)] 2)) t := fun t kt => by
          refine S14 t ?_
          show Steps p.tables e below (s₁.setTop (mkF m 33 #[.val (.long xx), .second] [(.int (lcmpW xx (32767 : Int64)))])) t
          refine XS.ifNo X0.here hx rfl (hb hby own_d1_33) rfl (own_Lnl hc33).2.2.1 ?_
          exact kt
        obtain ⟨T27, X27, e27, st27⟩ := getS2 X0 hx hZ hown (host := "") (Or.inl (hw _ (List.mem_of_getElem? (i := 24) rfl))) Via.refl e0 S_INT16 (g := (mkF m 36 #[.val (.long xx), .second] [])) rfl (hb hby own_d1_36)
        have S28 : ∀ t, Steps p.tables e below (T27.setTop (mkF m 39 #[.val (.long xx), .second] [(.ref st_INT16)])) t → Steps p.tables e below (s₁.setTop (entryFrame m #[(.long xx)] 2)) t := fun t kt => S26 t (st27 _ kt)
        obtain ⟨fs, hr, hrun, hended, hW, hsame⟩ := X27.leave (v := some (.ref st_INT16)) (fun h => by rw [Bd.returns] at h; cases h)
        refine ⟨_, _, S28 _ ?_, hrun, hended, _, _, rfl, ?_, ⟨_, rfl⟩, hW, hsame.mono (by decide) (by decide)⟩
        · show Steps p.tables e below (T27.setTop (mkF m 39 #[.val (.long xx), .second] [(.ref st_INT16)])) _
          jvm_step X27.here [X27.here.top, hx, (hb hby own_d1_39), X27.method', Bd.returns, Value.isRef, FieldType.isReference]
          first | (intro acts; rw [hr _ acts rfl rfl rfl]) | rw [hr _ _ rfl rfl rfl]
          exact Steps.refl _
        · show own_Q1 Z xx st_INT8 st_INT16 st_INT32 st_INT64 h0 n0 _ T27.heap _
          rw [e27]
          exact ⟨by simp [own_ref, *], rfl, rfl⟩
  · skip
    have S29 : ∀ t, Steps p.tables e below (s₁.setTop (mkF m 13 #[.val (.long xx), .second] [(.int (lcmpW xx (127 : Int64)))])) t → Steps p.tables e below (s₁.setTop (entryFrame m #[(.long xx)] 2)) t := fun t kt => by
      refine S1 t ?_
      show Steps p.tables e below (s₁.setTop (mkF m 5 #[.val (.long xx), .second] [(.int (lcmpW xx (-128 : Int64)))])) t
      refine XS.ifNo X0.here hx rfl (hb hby own_d1_5) rfl (own_Lnl hc5).1 ?_
      show Steps p.tables e below (s₁.setTop (mkF m 8 #[.val (.long xx), .second] [])) t
      refine XS.lloadN X0.here hx rfl (hb hby own_d1_8) rfl ?_
      show Steps p.tables e below (s₁.setTop (mkF m 9 #[.val (.long xx), .second] [(.long xx)])) t
      refine X0.ldc2Long hx hown (mvT hZ (hw _ (List.mem_of_getElem? (i := 6) rfl))) (g := (mkF m 9 #[.val (.long xx), .second] [(.long xx)])) rfl (hb hby own_d1_9) _ ?_
      show Steps p.tables e below (s₁.setTop (mkF m 12 #[.val (.long xx), .second] [(.long (127 : Int64)), (.long xx)])) t
      refine XS.lcmp X0.here hx rfl (hb hby own_d1_12) rfl ?_
      exact kt
    by_cases hc13 : (127 : Int64) < xx
    · skip
      have S30 : ∀ t, Steps p.tables e below (s₁.setTop (mkF m 25 #[.val (.long xx), .second] [(.int (lcmpW xx (-32768 : Int64)))])) t → Steps p.tables e below (s₁.setTop (entryFrame m #[(.long xx)] 2)) t := fun t kt => by
        refine S29 t ?_
        show Steps p.tables e below (s₁.setTop (mkF m 13 #[.val (.long xx), .second] [(.int (lcmpW xx (127 : Int64)))])) t
        refine XS.ifYes X0.here hx rfl (pc0 := 13) (pc' := 20) rfl (hb hby own_d1_13) rfl (own_Llt hc13).2.2.1 (by decide) (by decide) ?_
        show Steps p.tables e below (s₁.setTop (mkF m 20 #[.val (.long xx), .second] [])) t
        refine XS.lloadN X0.here hx rfl (hb hby own_d1_20) rfl ?_
        show Steps p.tables e below (s₁.setTop (mkF m 21 #[.val (.long xx), .second] [(.long xx)])) t
        refine X0.ldc2Long hx hown (mvT hZ (hw _ (List.mem_of_getElem? (i := 14) rfl))) (g := (mkF m 21 #[.val (.long xx), .second] [(.long xx)])) rfl (hb hby own_d1_21) _ ?_
        show Steps p.tables e below (s₁.setTop (mkF m 24 #[.val (.long xx), .second] [(.long (-32768 : Int64)), (.long xx)])) t
        refine XS.lcmp X0.here hx rfl (hb hby own_d1_24) rfl ?_
        exact kt
      by_cases hc25 : xx < (-32768 : Int64)
      · skip
        have S31 : ∀ t, Steps p.tables e below (s₁.setTop (mkF m 45 #[.val (.long xx), .second] [(.int (lcmpW xx (-2147483648 : Int64)))])) t → Steps p.tables e below (s₁.setTop (entryFrame m #[(.long xx)] 2)) t := fun t kt => by
          refine S30 t ?_
          show Steps p.tables e below (s₁.setTop (mkF m 25 #[.val (.long xx), .second] [(.int (lcmpW xx (-32768 : Int64)))])) t
          refine XS.ifYes X0.here hx rfl (pc0 := 25) (pc' := 40) rfl (hb hby own_d1_25) rfl (own_Llt hc25).1 (by decide) (by decide) ?_
          show Steps p.tables e below (s₁.setTop (mkF m 40 #[.val (.long xx), .second] [])) t
          refine XS.lloadN X0.here hx rfl (hb hby own_d1_40) rfl ?_
          show Steps p.tables e below (s₁.setTop (mkF m 41 #[.val (.long xx), .second] [(.long xx)])) t
          refine X0.ldc2Long hx hown (mvT hZ (hw _ (List.mem_of_getElem? (i := 15) rfl))) (g := (mkF m 41 #[.val (.long xx), .second] [(.long xx)])) rfl (hb hby own_d1_41) _ ?_
          show Steps p.tables e below (s₁.setTop (mkF m 44 #[.val (.long xx), .second] [(.long (-2147483648 : Int64)), (.long xx)])) t
          refine XS.lcmp X0.here hx rfl (hb hby own_d1_44) rfl ?_
          exact kt
        by_cases hc45 : xx < (-2147483648 : Int64)
        · skip
          have S32 : ∀ t, Steps p.tables e below (s₁.setTop (mkF m 60 #[.val (.long xx), .second] [])) t → Steps p.tables e below (s₁.setTop (entryFrame m #[(.long xx)] 2)) t := fun t kt => by
            refine S31 t ?_
            show Steps p.tables e below (s₁.setTop (mkF m 45 #[.val (.long xx), .second] [(.int (lcmpW xx (-2147483648 : Int64)))])) t
            refine XS.ifYes X0.here hx rfl (pc0 := 45) (pc' := 60) rfl (hb hby own_d1_45) rfl (own_Llt hc45).1 (by decide) (by decide) ?_
            exact kt
          obtain ⟨T33, X33, e33, st33⟩ := getS2 X0 hx hZ hown (host := "") (Or.inl (hw _ (List.mem_of_getElem? (i := 16) rfl))) Via.refl e0 S_INT64 (g := (mkF m 60 #[.val (.long xx), .second] [])) rfl (hb hby own_d1_60)
          have S34 : ∀ t, Steps p.tables e below (T33.setTop (mkF m 63 #[.val (.long xx), .second] [(.ref st_INT64)])) t → Steps p.tables e below (s₁.setTop (entryFrame m #[(.long xx)] 2)) t := fun t kt => S32 t (st33 _ kt)
          obtain ⟨fs, hr, hrun, hended, hW, hsame⟩ := X33.leave (v := some (.ref st_INT64)) (fun h => by rw [Bd.returns] at h; cases h)
          refine ⟨_, _, S34 _ ?_, hrun, hended, _, _, rfl, ?_, ⟨_, rfl⟩, hW, hsame.mono (by decide) (by decide)⟩
          · show Steps p.tables e below (T33.setTop (mkF m 63 #[.val (.long xx), .second] [(.ref st_INT64)])) _
            jvm_step X33.here [X33.here.top, hx, (hb hby own_d1_63), X33.method', Bd.returns, Value.isRef, FieldType.isReference]
            first | (intro acts; rw [hr _ acts rfl rfl rfl]) | rw [hr _ _ rfl rfl rfl]
            exact Steps.refl _
          · show own_Q1 Z xx st_INT8 st_INT16 st_INT32 st_INT64 h0 n0 _ T33.heap _
            rw [e33]
            exact ⟨by simp [own_ref, *], rfl, rfl⟩
        · skip
          have S35 : ∀ t, Steps p.tables e below (s₁.setTop (mkF m 53 #[.val (.long xx), .second] [(.int (lcmpW xx (2147483647 : Int64)))])) t → Steps p.tables e below (s₁.setTop (entryFrame m #[(.long xx)] 2)) t := fun t kt => by
            refine S31 t ?_
            show Steps p.tables e below (s₁.setTop (mkF m 45 #[.val (.long xx), .second] [(.int (lcmpW xx (-2147483648 : Int64)))])) t
            refine XS.ifNo X0.here hx rfl (hb hby own_d1_45) rfl (own_Lnl hc45).1 ?_
            show Steps p.tables e below (s₁.setTop (mkF m 48 #[.val (.long xx), .second] [])) t
            refine XS.lloadN X0.here hx rfl (hb hby own_d1_48) rfl ?_
            show Steps p.tables e below (s₁.setTop (mkF m 49 #[.val (.long xx), .second] [(.long xx)])) t
            refine X0.ldc2Long hx hown (mvT hZ (hw _ (List.mem_of_getElem? (i := 19) rfl))) (g := (mkF m 49 #[.val (.long xx), .second] [(.long xx)])) rfl (hb hby own_d1_49) _ ?_
            show Steps p.tables e below (s₁.setTop (mkF m 52 #[.val (.long xx), .second] [(.long (2147483647 : Int64)), (.long xx)])) t
            refine XS.lcmp X0.here hx rfl (hb hby own_d1_52) rfl ?_
            exact kt
          by_cases hc53 : (2147483647 : Int64) < xx
          · skip
            have S36 : ∀ t, Steps p.tables e below (s₁.setTop (mkF m 60 #[.val (.long xx), .second] [])) t → Steps p.tables e below (s₁.setTop (entryFrame m #[(.long xx)] 2)) t := fun t kt => by
              refine S35 t ?_
              show Steps p.tables e below (s₁.setTop (mkF m 53 #[.val (.long xx), .second] [(.int (lcmpW xx (2147483647 : Int64)))])) t
              refine XS.ifYes X0.here hx rfl (pc0 := 53) (pc' := 60) rfl (hb hby own_d1_53) rfl (own_Llt hc53).2.2.1 (by decide) (by decide) ?_
              exact kt
            obtain ⟨T37, X37, e37, st37⟩ := getS2 X0 hx hZ hown (host := "") (Or.inl (hw _ (List.mem_of_getElem? (i := 16) rfl))) Via.refl e0 S_INT64 (g := (mkF m 60 #[.val (.long xx), .second] [])) rfl (hb hby own_d1_60)
            have S38 : ∀ t, Steps p.tables e below (T37.setTop (mkF m 63 #[.val (.long xx), .second] [(.ref st_INT64)])) t → Steps p.tables e below (s₁.setTop (entryFrame m #[(.long xx)] 2)) t := fun t kt => S36 t (st37 _ kt)
            obtain ⟨fs, hr, hrun, hended, hW, hsame⟩ := X37.leave (v := some (.ref st_INT64)) (fun h => by rw [Bd.returns] at h; cases h)
            refine ⟨_, _, S38 _ ?_, hrun, hended, _, _, rfl, ?_, ⟨_, rfl⟩, hW, hsame.mono (by decide) (by decide)⟩
            · show Steps p.tables e below (T37.setTop (mkF m 63 #[.val (.long xx), .second] [(.ref st_INT64)])) _
              jvm_step X37.here [X37.here.top, hx, (hb hby own_d1_63), X37.method', Bd.returns, Value.isRef, FieldType.isReference]
              first | (intro acts; rw [hr _ acts rfl rfl rfl]) | rw [hr _ _ rfl rfl rfl]
              exact Steps.refl _
            · show own_Q1 Z xx st_INT8 st_INT16 st_INT32 st_INT64 h0 n0 _ T37.heap _
              rw [e37]
              exact ⟨by simp [own_ref, *], rfl, rfl⟩
          · skip
            have S39 : ∀ t, Steps p.tables e below (s₁.setTop (mkF m 56 #[.val (.long xx), .second] [])) t → Steps p.tables e below (s₁.setTop (entryFrame m #[(.long xx)] 2)) t := fun t kt => by
              refine S35 t ?_
              show Steps p.tables e below (s₁.setTop (mkF m 53 #[.val (.long xx), .second] [(.int (lcmpW xx (2147483647 : Int64)))])) t
              refine XS.ifNo X0.here hx rfl (hb hby own_d1_53) rfl (own_Lnl hc53).2.2.1 ?_
              exact kt
            obtain ⟨T40, X40, e40, st40⟩ := getS2 X0 hx hZ hown (host := "") (Or.inl (hw _ (List.mem_of_getElem? (i := 20) rfl))) Via.refl e0 S_INT32 (g := (mkF m 56 #[.val (.long xx), .second] [])) rfl (hb hby own_d1_56)
            have S41 : ∀ t, Steps p.tables e below (T40.setTop (mkF m 59 #[.val (.long xx), .second] [(.ref st_INT32)])) t → Steps p.tables e below (s₁.setTop (entryFrame m #[(.long xx)] 2)) t := fun t kt => S39 t (st40 _ kt)
            obtain ⟨fs, hr, hrun, hended, hW, hsame⟩ := X40.leave (v := some (.ref st_INT32)) (fun h => by rw [Bd.returns] at h; cases h)
            refine ⟨_, _, S41 _ ?_, hrun, hended, _, _, rfl, ?_, ⟨_, rfl⟩, hW, hsame.mono (by decide) (by decide)⟩
            · show Steps p.tables e below (T40.setTop (mkF m 59 #[.val (.long xx), .second] [(.ref st_INT32)])) _
              jvm_step X40.here [X40.here.top, hx, (hb hby own_d1_59), X40.method', Bd.returns, Value.isRef, FieldType.isReference]
              first | (intro acts; rw [hr _ acts rfl rfl rfl]) | rw [hr _ _ rfl rfl rfl]
              exact Steps.refl _
            · show own_Q1 Z xx st_INT8 st_INT16 st_INT32 st_INT64 h0 n0 _ T40.heap _
              rw [e40]
              exact ⟨by simp [own_ref, *], rfl, rfl⟩
      · skip
        have S42 : ∀ t, Steps p.tables e below (s₁.setTop (mkF m 33 #[.val (.long xx), .second] [(.int (lcmpW xx (32767 : Int64)))])) t → Steps p.tables e below (s₁.setTop (entryFrame m #[(.long xx)] 2)) t := fun t kt => by
          refine S30 t ?_
          show Steps p.tables e below (s₁.setTop (mkF m 25 #[.val (.long xx), .second] [(.int (lcmpW xx (-32768 : Int64)))])) t
          refine XS.ifNo X0.here hx rfl (hb hby own_d1_25) rfl (own_Lnl hc25).1 ?_
          show Steps p.tables e below (s₁.setTop (mkF m 28 #[.val (.long xx), .second] [])) t
          refine XS.lloadN X0.here hx rfl (hb hby own_d1_28) rfl ?_
          show Steps p.tables e below (s₁.setTop (mkF m 29 #[.val (.long xx), .second] [(.long xx)])) t
          refine X0.ldc2Long hx hown (mvT hZ (hw _ (List.mem_of_getElem? (i := 23) rfl))) (g := (mkF m 29 #[.val (.long xx), .second] [(.long xx)])) rfl (hb hby own_d1_29) _ ?_
          show Steps p.tables e below (s₁.setTop (mkF m 32 #[.val (.long xx), .second] [(.long (32767 : Int64)), (.long xx)])) t
          refine XS.lcmp X0.here hx rfl (hb hby own_d1_32) rfl ?_
          exact kt
        by_cases hc33 : (32767 : Int64) < xx
        · skip
          have S43 : ∀ t, Steps p.tables e below (s₁.setTop (mkF m 45 #[.val (.long xx), .second] [(.int (lcmpW xx (-2147483648 : Int64)))])) t → Steps p.tables e below (s₁.setTop (entryFrame m #[(.long xx)] 2)) t := fun t kt => by
            refine S42 t ?_
            show Steps p.tables e below (s₁.setTop (mkF m 33 #[.val (.long xx), .second] [(.int (lcmpW xx (32767 : Int64)))])) t
            refine XS.ifYes X0.here hx rfl (pc0 := 33) (pc' := 40) rfl (hb hby own_d1_33) rfl (own_Llt hc33).2.2.1 (by decide) (by decide) ?_
            show Steps p.tables e below (s₁.setTop (mkF m 40 #[.val (.long xx), .second] [])) t
            refine XS.lloadN X0.here hx rfl (hb hby own_d1_40) rfl ?_
            show Steps p.tables e below (s₁.setTop (mkF m 41 #[.val (.long xx), .second] [(.long xx)])) t
            refine X0.ldc2Long hx hown (mvT hZ (hw _ (List.mem_of_getElem? (i := 15) rfl))) (g := (mkF m 41 #[.val (.long xx), .second] [(.long xx)])) rfl (hb hby own_d1_41) _ ?_
            show Steps p.tables e below (s₁.setTop (mkF m 44 #[.val (.long xx), .second] [(.long (-2147483648 : Int64)), (.long xx)])) t
            refine XS.lcmp X0.here hx rfl (hb hby own_d1_44) rfl ?_
            exact kt
          by_cases hc45 : xx < (-2147483648 : Int64)
          · skip
            have S44 : ∀ t, Steps p.tables e below (s₁.setTop (mkF m 60 #[.val (.long xx), .second] [])) t → Steps p.tables e below (s₁.setTop (entryFrame m #[(.long xx)] 2)) t := fun t kt => by
              refine S43 t ?_
              show Steps p.tables e below (s₁.setTop (mkF m 45 #[.val (.long xx), .second] [(.int (lcmpW xx (-2147483648 : Int64)))])) t
              refine XS.ifYes X0.here hx rfl (pc0 := 45) (pc' := 60) rfl (hb hby own_d1_45) rfl (own_Llt hc45).1 (by decide) (by decide) ?_
              exact kt
            obtain ⟨T45, X45, e45, st45⟩ := getS2 X0 hx hZ hown (host := "") (Or.inl (hw _ (List.mem_of_getElem? (i := 16) rfl))) Via.refl e0 S_INT64 (g := (mkF m 60 #[.val (.long xx), .second] [])) rfl (hb hby own_d1_60)
            have S46 : ∀ t, Steps p.tables e below (T45.setTop (mkF m 63 #[.val (.long xx), .second] [(.ref st_INT64)])) t → Steps p.tables e below (s₁.setTop (entryFrame m #[(.long xx)] 2)) t := fun t kt => S44 t (st45 _ kt)
            obtain ⟨fs, hr, hrun, hended, hW, hsame⟩ := X45.leave (v := some (.ref st_INT64)) (fun h => by rw [Bd.returns] at h; cases h)
            refine ⟨_, _, S46 _ ?_, hrun, hended, _, _, rfl, ?_, ⟨_, rfl⟩, hW, hsame.mono (by decide) (by decide)⟩
            · show Steps p.tables e below (T45.setTop (mkF m 63 #[.val (.long xx), .second] [(.ref st_INT64)])) _
              jvm_step X45.here [X45.here.top, hx, (hb hby own_d1_63), X45.method', Bd.returns, Value.isRef, FieldType.isReference]
              first | (intro acts; rw [hr _ acts rfl rfl rfl]) | rw [hr _ _ rfl rfl rfl]
              exact Steps.refl _
            · show own_Q1 Z xx st_INT8 st_INT16 st_INT32 st_INT64 h0 n0 _ T45.heap _
              rw [e45]
              exact ⟨by simp [own_ref, *], rfl, rfl⟩
          · skip
            have S47 : ∀ t, Steps p.tables e below (s₁.setTop (mkF m 53 #[.val (.long xx), .second] [(.int (lcmpW xx (2147483647 : Int64)))])) t → Steps p.tables e below (s₁.setTop (entryFrame m #[(.long xx)] 2)) t := fun t kt => by
              refine S43 t ?_
              show Steps p.tables e below (s₁.setTop (mkF m 45 #[.val (.long xx), .second] [(.int (lcmpW xx (-2147483648 : Int64)))])) t
              refine XS.ifNo X0.here hx rfl (hb hby own_d1_45) rfl (own_Lnl hc45).1 ?_
              show Steps p.tables e below (s₁.setTop (mkF m 48 #[.val (.long xx), .second] [])) t
              refine XS.lloadN X0.here hx rfl (hb hby own_d1_48) rfl ?_
              show Steps p.tables e below (s₁.setTop (mkF m 49 #[.val (.long xx), .second] [(.long xx)])) t
              refine X0.ldc2Long hx hown (mvT hZ (hw _ (List.mem_of_getElem? (i := 19) rfl))) (g := (mkF m 49 #[.val (.long xx), .second] [(.long xx)])) rfl (hb hby own_d1_49) _ ?_
              show Steps p.tables e below (s₁.setTop (mkF m 52 #[.val (.long xx), .second] [(.long (2147483647 : Int64)), (.long xx)])) t
              refine XS.lcmp X0.here hx rfl (hb hby own_d1_52) rfl ?_
              exact kt
            by_cases hc53 : (2147483647 : Int64) < xx
            · skip
              have S48 : ∀ t, Steps p.tables e below (s₁.setTop (mkF m 60 #[.val (.long xx), .second] [])) t → Steps p.tables e below (s₁.setTop (entryFrame m #[(.long xx)] 2)) t := fun t kt => by
                refine S47 t ?_
                show Steps p.tables e below (s₁.setTop (mkF m 53 #[.val (.long xx), .second] [(.int (lcmpW xx (2147483647 : Int64)))])) t
                refine XS.ifYes X0.here hx rfl (pc0 := 53) (pc' := 60) rfl (hb hby own_d1_53) rfl (own_Llt hc53).2.2.1 (by decide) (by decide) ?_
                exact kt
              obtain ⟨T49, X49, e49, st49⟩ := getS2 X0 hx hZ hown (host := "") (Or.inl (hw _ (List.mem_of_getElem? (i := 16) rfl))) Via.refl e0 S_INT64 (g := (mkF m 60 #[.val (.long xx), .second] [])) rfl (hb hby own_d1_60)
              have S50 : ∀ t, Steps p.tables e below (T49.setTop (mkF m 63 #[.val (.long xx), .second] [(.ref st_INT64)])) t → Steps p.tables e below (s₁.setTop (entryFrame m #[(.long xx)] 2)) t := fun t kt => S48 t (st49 _ kt)
              obtain ⟨fs, hr, hrun, hended, hW, hsame⟩ := X49.leave (v := some (.ref st_INT64)) (fun h => by rw [Bd.returns] at h; cases h)
              refine ⟨_, _, S50 _ ?_, hrun, hended, _, _, rfl, ?_, ⟨_, rfl⟩, hW, hsame.mono (by decide) (by decide)⟩
              · show Steps p.tables e below (T49.setTop (mkF m 63 #[.val (.long xx), .second] [(.ref st_INT64)])) _
                jvm_step X49.here [X49.here.top, hx, (hb hby own_d1_63), X49.method', Bd.returns, Value.isRef, FieldType.isReference]
                first | (intro acts; rw [hr _ acts rfl rfl rfl]) | rw [hr _ _ rfl rfl rfl]
                exact Steps.refl _
              · show own_Q1 Z xx st_INT8 st_INT16 st_INT32 st_INT64 h0 n0 _ T49.heap _
                rw [e49]
                exact ⟨by simp [own_ref, *], rfl, rfl⟩
            · skip
              have S51 : ∀ t, Steps p.tables e below (s₁.setTop (mkF m 56 #[.val (.long xx), .second] [])) t → Steps p.tables e below (s₁.setTop (entryFrame m #[(.long xx)] 2)) t := fun t kt => by
                refine S47 t ?_
                show Steps p.tables e below (s₁.setTop (mkF m 53 #[.val (.long xx), .second] [(.int (lcmpW xx (2147483647 : Int64)))])) t
                refine XS.ifNo X0.here hx rfl (hb hby own_d1_53) rfl (own_Lnl hc53).2.2.1 ?_
                exact kt
              obtain ⟨T52, X52, e52, st52⟩ := getS2 X0 hx hZ hown (host := "") (Or.inl (hw _ (List.mem_of_getElem? (i := 20) rfl))) Via.refl e0 S_INT32 (g := (mkF m 56 #[.val (.long xx), .second] [])) rfl (hb hby own_d1_56)
              have S53 : ∀ t, Steps p.tables e below (T52.setTop (mkF m 59 #[.val (.long xx), .second] [(.ref st_INT32)])) t → Steps p.tables e below (s₁.setTop (entryFrame m #[(.long xx)] 2)) t := fun t kt => S51 t (st52 _ kt)
              obtain ⟨fs, hr, hrun, hended, hW, hsame⟩ := X52.leave (v := some (.ref st_INT32)) (fun h => by rw [Bd.returns] at h; cases h)
              refine ⟨_, _, S53 _ ?_, hrun, hended, _, _, rfl, ?_, ⟨_, rfl⟩, hW, hsame.mono (by decide) (by decide)⟩
              · show Steps p.tables e below (T52.setTop (mkF m 59 #[.val (.long xx), .second] [(.ref st_INT32)])) _
                jvm_step X52.here [X52.here.top, hx, (hb hby own_d1_59), X52.method', Bd.returns, Value.isRef, FieldType.isReference]
                first | (intro acts; rw [hr _ acts rfl rfl rfl]) | rw [hr _ _ rfl rfl rfl]
                exact Steps.refl _
              · show own_Q1 Z xx st_INT8 st_INT16 st_INT32 st_INT64 h0 n0 _ T52.heap _
                rw [e52]
                exact ⟨by simp [own_ref, *], rfl, rfl⟩
        · skip
          have S54 : ∀ t, Steps p.tables e below (s₁.setTop (mkF m 36 #[.val (.long xx), .second] [])) t → Steps p.tables e below (s₁.setTop (entryFrame m #[(.long xx)] 2)) t := fun t kt => by
            refine S42 t ?_
            show Steps p.tables e below (s₁.setTop (mkF m 33 #[.val (.long xx), .second] [(.int (lcmpW xx (32767 : Int64)))])) t
            refine XS.ifNo X0.here hx rfl (hb hby own_d1_33) rfl (own_Lnl hc33).2.2.1 ?_
            exact kt
          obtain ⟨T55, X55, e55, st55⟩ := getS2 X0 hx hZ hown (host := "") (Or.inl (hw _ (List.mem_of_getElem? (i := 24) rfl))) Via.refl e0 S_INT16 (g := (mkF m 36 #[.val (.long xx), .second] [])) rfl (hb hby own_d1_36)
          have S56 : ∀ t, Steps p.tables e below (T55.setTop (mkF m 39 #[.val (.long xx), .second] [(.ref st_INT16)])) t → Steps p.tables e below (s₁.setTop (entryFrame m #[(.long xx)] 2)) t := fun t kt => S54 t (st55 _ kt)
          obtain ⟨fs, hr, hrun, hended, hW, hsame⟩ := X55.leave (v := some (.ref st_INT16)) (fun h => by rw [Bd.returns] at h; cases h)
          refine ⟨_, _, S56 _ ?_, hrun, hended, _, _, rfl, ?_, ⟨_, rfl⟩, hW, hsame.mono (by decide) (by decide)⟩
          · show Steps p.tables e below (T55.setTop (mkF m 39 #[.val (.long xx), .second] [(.ref st_INT16)])) _
            jvm_step X55.here [X55.here.top, hx, (hb hby own_d1_39), X55.method', Bd.returns, Value.isRef, FieldType.isReference]
            first | (intro acts; rw [hr _ acts rfl rfl rfl]) | rw [hr _ _ rfl rfl rfl]
            exact Steps.refl _
          · show own_Q1 Z xx st_INT8 st_INT16 st_INT32 st_INT64 h0 n0 _ T55.heap _
            rw [e55]
            exact ⟨by simp [own_ref, *], rfl, rfl⟩
    · skip
      have S57 : ∀ t, Steps p.tables e below (s₁.setTop (mkF m 16 #[.val (.long xx), .second] [])) t → Steps p.tables e below (s₁.setTop (entryFrame m #[(.long xx)] 2)) t := fun t kt => by
        refine S29 t ?_
        show Steps p.tables e below (s₁.setTop (mkF m 13 #[.val (.long xx), .second] [(.int (lcmpW xx (127 : Int64)))])) t
        refine XS.ifNo X0.here hx rfl (hb hby own_d1_13) rfl (own_Lnl hc13).2.2.1 ?_
        exact kt
      obtain ⟨T58, X58, e58, st58⟩ := getS2 X0 hx hZ hown (host := "") (Or.inl (hw _ (List.mem_of_getElem? (i := 7) rfl))) Via.refl e0 S_INT8 (g := (mkF m 16 #[.val (.long xx), .second] [])) rfl (hb hby own_d1_16)
      have S59 : ∀ t, Steps p.tables e below (T58.setTop (mkF m 19 #[.val (.long xx), .second] [(.ref st_INT8)])) t → Steps p.tables e below (s₁.setTop (entryFrame m #[(.long xx)] 2)) t := fun t kt => S57 t (st58 _ kt)
      obtain ⟨fs, hr, hrun, hended, hW, hsame⟩ := X58.leave (v := some (.ref st_INT8)) (fun h => by rw [Bd.returns] at h; cases h)
      refine ⟨_, _, S59 _ ?_, hrun, hended, _, _, rfl, ?_, ⟨_, rfl⟩, hW, hsame.mono (by decide) (by decide)⟩
      · show Steps p.tables e below (T58.setTop (mkF m 19 #[.val (.long xx), .second] [(.ref st_INT8)])) _
        jvm_step X58.here [X58.here.top, hx, (hb hby own_d1_19), X58.method', Bd.returns, Value.isRef, FieldType.isReference]
        first | (intro acts; rw [hr _ acts rfl rfl rfl]) | rw [hr _ _ rfl rfl rfl]
        exact Steps.refl _
      · show own_Q1 Z xx st_INT8 st_INT16 st_INT32 st_INT64 h0 n0 _ T58.heap _
        rw [e58]
        exact ⟨by simp [own_ref, *], rfl, rfl⟩
theorem own_d2_0 : decode prog_28_method_7_code 0 = .ok (.lload_n 0, 1) := by decide +kernel
theorem own_d2_1 : decode prog_28_method_7_code 1 = .ok (.lload_n 0, 1) := by decide +kernel
theorem own_d2_2 : decode prog_28_method_7_code 2 = .ok (.l2i, 1) := by decide +kernel
theorem own_d2_3 : decode prog_28_method_7_code 3 = .ok (.i2b, 1) := by decide +kernel
theorem own_d2_4 : decode prog_28_method_7_code 4 = .ok (.i2l, 1) := by decide +kernel
theorem own_d2_5 : decode prog_28_method_7_code 5 = .ok (.lcmp, 1) := by decide +kernel
theorem own_d2_6 : decode prog_28_method_7_code 6 = .ok (.ifCond .ne 7, 3) := by decide +kernel
theorem own_d2_9 : decode prog_28_method_7_code 9 = .ok (.getstatic 10, 3) := by decide +kernel
theorem own_d2_12 : decode prog_28_method_7_code 12 = .ok (.areturn, 1) := by decide +kernel
theorem own_d2_13 : decode prog_28_method_7_code 13 = .ok (.lload_n 0, 1) := by decide +kernel
theorem own_d2_14 : decode prog_28_method_7_code 14 = .ok (.lload_n 0, 1) := by decide +kernel
theorem own_d2_15 : decode prog_28_method_7_code 15 = .ok (.l2i, 1) := by decide +kernel
theorem own_d2_16 : decode prog_28_method_7_code 16 = .ok (.i2s, 1) := by decide +kernel
theorem own_d2_17 : decode prog_28_method_7_code 17 = .ok (.i2l, 1) := by decide +kernel
theorem own_d2_18 : decode prog_28_method_7_code 18 = .ok (.lcmp, 1) := by decide +kernel
theorem own_d2_19 : decode prog_28_method_7_code 19 = .ok (.ifCond .ne 7, 3) := by decide +kernel
theorem own_d2_22 : decode prog_28_method_7_code 22 = .ok (.getstatic 13, 3) := by decide +kernel
theorem own_d2_25 : decode prog_28_method_7_code 25 = .ok (.areturn, 1) := by decide +kernel
theorem own_d2_26 : decode prog_28_method_7_code 26 = .ok (.lload_n 0, 1) := by decide +kernel
theorem own_d2_27 : decode prog_28_method_7_code 27 = .ok (.lload_n 0, 1) := by decide +kernel
theorem own_d2_28 : decode prog_28_method_7_code 28 = .ok (.l2i, 1) := by decide +kernel
theorem own_d2_29 : decode prog_28_method_7_code 29 = .ok (.i2l, 1) := by decide +kernel
theorem own_d2_30 : decode prog_28_method_7_code 30 = .ok (.lcmp, 1) := by decide +kernel
theorem own_d2_31 : decode prog_28_method_7_code 31 = .ok (.ifCond .ne 7, 3) := by decide +kernel
theorem own_d2_34 : decode prog_28_method_7_code 34 = .ok (.getstatic 16, 3) := by decide +kernel
theorem own_d2_37 : decode prog_28_method_7_code 37 = .ok (.areturn, 1) := by decide +kernel
theorem own_d2_38 : decode prog_28_method_7_code 38 = .ok (.getstatic 19, 3) := by decide +kernel
theorem own_d2_41 : decode prog_28_method_7_code 41 = .ok (.areturn, 1) := by decide +kernel
theorem own_ef2 (m : MethodId) (x0 : Int64) : entryFrame m #[(.long x0)] 2 = mkF m 0 #[.val (.long x0), .second] [] := by first | (simp [entryFrame, mkF, argsToLocals, Value.category]; done) | rfl
def own_Q2 (Z : State) (xx : Int64) (st_INT8 : Addr) (st_INT16 : Addr) (st_INT32 : Addr) (st_INT64 : Addr) (h0 : Heap) (n0 : Nat) (v : Option Value) (h : Heap) (L : List Loc) : Prop := v = some (.ref (own_ns xx st_INT8 st_INT16 st_INT32 st_INT64)) ∧ L = [] ∧ h = h0
theorem own_pn1 : plainName "com/example/quillpack/quillpack/binary/TypeCode" = true := by first | (simp [plainName, overriddenIn]; done) | decide +kernel
set_option maxHeartbeats 40000000 in
theorem own_rm2 (l : Launch) (Z : State) (a0 : Array Value) (hw : ∀ d ∈ tables_1, d.before a0 Z = true) (ws : List Jvm.Cond) (xx : Int64) (st_INT8 : Addr) (st_INT16 : Addr) (st_INT32 : Addr) (st_INT64 : Addr) (h0 : Heap) (n0 : Nat) (Z0 : n0 ≤ h0.size) (S_INT8 : Sta Z h0 "com/example/quillpack/quillpack/binary/TypeCode" "INT8" "Lcom/example/quillpack/quillpack/binary/TypeCode;" (.ref st_INT8)) (S_INT16 : Sta Z h0 "com/example/quillpack/quillpack/binary/TypeCode" "INT16" "Lcom/example/quillpack/quillpack/binary/TypeCode;" (.ref st_INT16)) (S_INT32 : Sta Z h0 "com/example/quillpack/quillpack/binary/TypeCode" "INT32" "Lcom/example/quillpack/quillpack/binary/TypeCode;" (.ref st_INT32)) (S_INT64 : Sta Z h0 "com/example/quillpack/quillpack/binary/TypeCode" "INT64" "Lcom/example/quillpack/quillpack/binary/TypeCode;" (.ref st_INT64)) :
    MetFree l (⟨"com/example/quillpack/quillpack/binary/TypeCode", "narrowestSigned", "(J)Lcom/example/quillpack/quillpack/binary/TypeCode;"⟩ : MethodName) (head1 (Jvm.Cond.code (⟨"com/example/quillpack/quillpack/binary/TypeCode", "narrowestSigned", "(J)Lcom/example/quillpack/quillpack/binary/TypeCode;"⟩ : MethodName) prog_28_method_7_code 2 (some (.object "com/example/quillpack/quillpack/binary/TypeCode")) :: ws) ({ frames := 0, cells := 0, slots := 0, locals := 0 } : Room)) (fun argv U => argv = #[(.long xx)] ∧ Z.Warmed39 U.vm ∧ U.heap = h0) (fun _ _ _ _ _ => True) (fun _ U o U' => ∃ v L, o = .returned v ∧ own_Q2 Z xx st_INT8 st_INT16 st_INT32 st_INT64 h0 n0 v U'.heap L ∧ FrameEnd U o U' L ({ frames := 0, cells := 0, slots := 0, locals := 0 } : Room).cells ({ frames := 0, cells := 0, slots := 0, locals := 0 } : Room).slots) := by
  refine MetFree.of_bodySF (plainFor_of_name own_pn1) hisR ?_
  intro p e s m args below meth c s₁ Bd hml0 hP hK
  obtain ⟨rfl, hZ, hh⟩ := hP
  have hx := Bd.exec
  have hby := Bd.bytes
  have hml : c.maxLocals = 2 := hml0
  have hown : s.vm.findClass "com/example/quillpack/quillpack/binary/TypeCode" = some m.cls := findClass_of_methodNamed Bd.named
  have hnm := (name_of_methodNamed Bd.named Bd.method).1
  have X0 : Stand p l e ({ frames := 0, cells := 0, slots := 0, locals := 0 } : Room) s m #[(.long xx)] below meth c s₁ [] 0 0 := Stand.of_body Bd
  have e0 : s₁.heap = h0 := by rw [← hh, Bd.state]; rfl
  have N0 := Fr.nil n0
  have pre0 : ∀ t, Steps p.tables e below (s₁.setTop (mkF m 0 #[.val (.long xx), .second] [])) t → Steps p.tables e below (s₁.setTop (entryFrame m #[(.long xx)] 2)) t := fun t k => castTop (own_ef2 m xx) k
  have S1 : ∀ t, Steps p.tables e below (s₁.setTop (mkF m 6 #[.val (.long xx), .second] [(.int (lcmpW xx (((xx.toInt32).toInt8.toInt32).toInt64)))])) t → Steps p.tables e below (s₁.setTop (entryFrame m #[(.long xx)] 2)) t := fun t kt => by
    refine pre0 t ?_
    show Steps p.tables e below (s₁.setTop (mkF m 0 #[.val (.long xx), .second] [])) t
    refine XS.lloadN X0.here hx rfl (hb hby own_d2_0) rfl ?_
    show Steps p.tables e below (s₁.setTop (mkF m 1 #[.val (.long xx), .second] [(.long xx)])) t
    refine XS.lloadN X0.here hx rfl (hb hby own_d2_1) rfl ?_
    show Steps p.tables e below (s₁.setTop (mkF m 2 #[.val (.long xx), .second] [(.long xx), (.long xx)])) t
    refine XS.l2i X0.here hx rfl (hb hby own_d2_2) rfl ?_
    show Steps p.tables e below (s₁.setTop (mkF m 3 #[.val (.long xx), .second] [(.int (xx.toInt32)), (.long xx)])) t
    refine XS.i2b X0.here hx rfl (hb hby own_d2_3) rfl ?_
    show Steps p.tables e below (s₁.setTop (mkF m 4 #[.val (.long xx), .second] [(.int ((xx.toInt32).toInt8.toInt32)), (.long xx)])) t
    refine XS.i2l X0.here hx rfl (hb hby own_d2_4) rfl ?_
    show Steps p.tables e below (s₁.setTop (mkF m 5 #[.val (.long xx), .second] [(.long (((xx.toInt32).toInt8.toInt32).toInt64)), (.long xx)])) t
    refine XS.lcmp X0.here hx rfl (hb hby own_d2_5) rfl ?_
    exact kt
  by_cases hc6 : xx = (((xx.toInt32).toInt8.toInt32).toInt64)
  · skip
    have S2 : ∀ t, Steps p.tables e below (s₁.setTop (mkF m 9 #[.val (.long xx), .second] [])) t → Steps p.tables e below (s₁.setTop (entryFrame m #[(.long xx)] 2)) t := fun t kt => by
      refine S1 t ?_
      show Steps p.tables e below (s₁.setTop (mkF m 6 #[.val (.long xx), .second] [(.int (lcmpW xx (((xx.toInt32).toInt8.toInt32).toInt64)))])) t
      refine XS.ifNo X0.here hx rfl (hb hby own_d2_6) rfl (own_Leq hc6).2 ?_
      exact kt
    obtain ⟨T3, X3, e3, st3⟩ := getS2 X0 hx hZ hown (host := "") (Or.inl (hw _ (List.mem_of_getElem? (i := 13) rfl))) Via.refl e0 S_INT8 (g := (mkF m 9 #[.val (.long xx), .second] [])) rfl (hb hby own_d2_9)
    have S4 : ∀ t, Steps p.tables e below (T3.setTop (mkF m 12 #[.val (.long xx), .second] [(.ref st_INT8)])) t → Steps p.tables e below (s₁.setTop (entryFrame m #[(.long xx)] 2)) t := fun t kt => S2 t (st3 _ kt)
    obtain ⟨fs, hr, hrun, hended, hW, hsame⟩ := X3.leave (v := some (.ref st_INT8)) (fun h => by rw [Bd.returns] at h; cases h)
    refine ⟨_, _, S4 _ ?_, hrun, hended, _, _, rfl, ?_, ⟨_, rfl⟩, hW, hsame.mono (by decide) (by decide)⟩
    · show Steps p.tables e below (T3.setTop (mkF m 12 #[.val (.long xx), .second] [(.ref st_INT8)])) _
      jvm_step X3.here [X3.here.top, hx, (hb hby own_d2_12), X3.method', Bd.returns, Value.isRef, FieldType.isReference]
      first | (intro acts; rw [hr _ acts rfl rfl rfl]) | rw [hr _ _ rfl rfl rfl]
      exact Steps.refl _
    · show own_Q2 Z xx st_INT8 st_INT16 st_INT32 st_INT64 h0 n0 _ T3.heap _
      rw [e3]
      exact ⟨by unfold own_ns; rw [if_pos hc6], rfl, rfl⟩
  · skip
    have S5 : ∀ t, Steps p.tables e below (s₁.setTop (mkF m 19 #[.val (.long xx), .second] [(.int (lcmpW xx (((xx.toInt32).toInt16.toInt32).toInt64)))])) t → Steps p.tables e below (s₁.setTop (entryFrame m #[(.long xx)] 2)) t := fun t kt => by
      refine S1 t ?_
      show Steps p.tables e below (s₁.setTop (mkF m 6 #[.val (.long xx), .second] [(.int (lcmpW xx (((xx.toInt32).toInt8.toInt32).toInt64)))])) t
      refine XS.ifYes X0.here hx rfl (pc0 := 6) (pc' := 13) rfl (hb hby own_d2_6) rfl (own_Lne hc6).2 (by decide) (by decide) ?_
      show Steps p.tables e below (s₁.setTop (mkF m 13 #[.val (.long xx), .second] [])) t
      refine XS.lloadN X0.here hx rfl (hb hby own_d2_13) rfl ?_
      show Steps p.tables e below (s₁.setTop (mkF m 14 #[.val (.long xx), .second] [(.long xx)])) t
      refine XS.lloadN X0.here hx rfl (hb hby own_d2_14) rfl ?_
      show Steps p.tables e below (s₁.setTop (mkF m 15 #[.val (.long xx), .second] [(.long xx), (.long xx)])) t
      refine XS.l2i X0.here hx rfl (hb hby own_d2_15) rfl ?_
      show Steps p.tables e below (s₁.setTop (mkF m 16 #[.val (.long xx), .second] [(.int (xx.toInt32)), (.long xx)])) t
      refine XS.i2s X0.here hx rfl (hb hby own_d2_16) rfl ?_
      show Steps p.tables e below (s₁.setTop (mkF m 17 #[.val (.long xx), .second] [(.int ((xx.toInt32).toInt16.toInt32)), (.long xx)])) t
      refine XS.i2l X0.here hx rfl (hb hby own_d2_17) rfl ?_
      show Steps p.tables e below (s₁.setTop (mkF m 18 #[.val (.long xx), .second] [(.long (((xx.toInt32).toInt16.toInt32).toInt64)), (.long xx)])) t
      refine XS.lcmp X0.here hx rfl (hb hby own_d2_18) rfl ?_
      exact kt
    by_cases hc19 : xx = (((xx.toInt32).toInt16.toInt32).toInt64)
    · skip
      have S6 : ∀ t, Steps p.tables e below (s₁.setTop (mkF m 22 #[.val (.long xx), .second] [])) t → Steps p.tables e below (s₁.setTop (entryFrame m #[(.long xx)] 2)) t := fun t kt => by
        refine S5 t ?_
        show Steps p.tables e below (s₁.setTop (mkF m 19 #[.val (.long xx), .second] [(.int (lcmpW xx (((xx.toInt32).toInt16.toInt32).toInt64)))])) t
        refine XS.ifNo X0.here hx rfl (hb hby own_d2_19) rfl (own_Leq hc19).2 ?_
        exact kt
      obtain ⟨T7, X7, e7, st7⟩ := getS2 X0 hx hZ hown (host := "") (Or.inl (hw _ (List.mem_of_getElem? (i := 26) rfl))) Via.refl e0 S_INT16 (g := (mkF m 22 #[.val (.long xx), .second] [])) rfl (hb hby own_d2_22)
      have S8 : ∀ t, Steps p.tables e below (T7.setTop (mkF m 25 #[.val (.long xx), .second] [(.ref st_INT16)])) t → Steps p.tables e below (s₁.setTop (entryFrame m #[(.long xx)] 2)) t := fun t kt => S6 t (st7 _ kt)
      obtain ⟨fs, hr, hrun, hended, hW, hsame⟩ := X7.leave (v := some (.ref st_INT16)) (fun h => by rw [Bd.returns] at h; cases h)
      refine ⟨_, _, S8 _ ?_, hrun, hended, _, _, rfl, ?_, ⟨_, rfl⟩, hW, hsame.mono (by decide) (by decide)⟩
      · show Steps p.tables e below (T7.setTop (mkF m 25 #[.val (.long xx), .second] [(.ref st_INT16)])) _
        jvm_step X7.here [X7.here.top, hx, (hb hby own_d2_25), X7.method', Bd.returns, Value.isRef, FieldType.isReference]
        first | (intro acts; rw [hr _ acts rfl rfl rfl]) | rw [hr _ _ rfl rfl rfl]
        exact Steps.refl _
      · show own_Q2 Z xx st_INT8 st_INT16 st_INT32 st_INT64 h0 n0 _ T7.heap _
        rw [e7]
        exact ⟨by unfold own_ns; rw [if_neg hc6]; rw [if_pos hc19], rfl, rfl⟩
    · skip
      have S9 : ∀ t, Steps p.tables e below (s₁.setTop (mkF m 31 #[.val (.long xx), .second] [(.int (lcmpW xx ((xx.toInt32).toInt64)))])) t → Steps p.tables e below (s₁.setTop (entryFrame m #[(.long xx)] 2)) t := fun t kt => by
        refine S5 t ?_
        show Steps p.tables e below (s₁.setTop (mkF m 19 #[.val (.long xx), .second] [(.int (lcmpW xx (((xx.toInt32).toInt16.toInt32).toInt64)))])) t
        refine XS.ifYes X0.here hx rfl (pc0 := 19) (pc' := 26) rfl (hb hby own_d2_19) rfl (own_Lne hc19).2 (by decide) (by decide) ?_
        show Steps p.tables e below (s₁.setTop (mkF m 26 #[.val (.long xx), .second] [])) t
        refine XS.lloadN X0.here hx rfl (hb hby own_d2_26) rfl ?_
        show Steps p.tables e below (s₁.setTop (mkF m 27 #[.val (.long xx), .second] [(.long xx)])) t
        refine XS.lloadN X0.here hx rfl (hb hby own_d2_27) rfl ?_
        show Steps p.tables e below (s₁.setTop (mkF m 28 #[.val (.long xx), .second] [(.long xx), (.long xx)])) t
        refine XS.l2i X0.here hx rfl (hb hby own_d2_28) rfl ?_
        show Steps p.tables e below (s₁.setTop (mkF m 29 #[.val (.long xx), .second] [(.int (xx.toInt32)), (.long xx)])) t
        refine XS.i2l X0.here hx rfl (hb hby own_d2_29) rfl ?_
        show Steps p.tables e below (s₁.setTop (mkF m 30 #[.val (.long xx), .second] [(.long ((xx.toInt32).toInt64)), (.long xx)])) t
        refine XS.lcmp X0.here hx rfl (hb hby own_d2_30) rfl ?_
        exact kt
      by_cases hc31 : xx = ((xx.toInt32).toInt64)
      · skip
        have S10 : ∀ t, Steps p.tables e below (s₁.setTop (mkF m 34 #[.val (.long xx), .second] [])) t → Steps p.tables e below (s₁.setTop (entryFrame m #[(.long xx)] 2)) t := fun t kt => by
          refine S9 t ?_
          show Steps p.tables e below (s₁.setTop (mkF m 31 #[.val (.long xx), .second] [(.int (lcmpW xx ((xx.toInt32).toInt64)))])) t
          refine XS.ifNo X0.here hx rfl (hb hby own_d2_31) rfl (own_Leq hc31).2 ?_
          exact kt
        obtain ⟨T11, X11, e11, st11⟩ := getS2 X0 hx hZ hown (host := "") (Or.inl (hw _ (List.mem_of_getElem? (i := 22) rfl))) Via.refl e0 S_INT32 (g := (mkF m 34 #[.val (.long xx), .second] [])) rfl (hb hby own_d2_34)
        have S12 : ∀ t, Steps p.tables e below (T11.setTop (mkF m 37 #[.val (.long xx), .second] [(.ref st_INT32)])) t → Steps p.tables e below (s₁.setTop (entryFrame m #[(.long xx)] 2)) t := fun t kt => S10 t (st11 _ kt)
        obtain ⟨fs, hr, hrun, hended, hW, hsame⟩ := X11.leave (v := some (.ref st_INT32)) (fun h => by rw [Bd.returns] at h; cases h)
        refine ⟨_, _, S12 _ ?_, hrun, hended, _, _, rfl, ?_, ⟨_, rfl⟩, hW, hsame.mono (by decide) (by decide)⟩
        · show Steps p.tables e below (T11.setTop (mkF m 37 #[.val (.long xx), .second] [(.ref st_INT32)])) _
          jvm_step X11.here [X11.here.top, hx, (hb hby own_d2_37), X11.method', Bd.returns, Value.isRef, FieldType.isReference]
          first | (intro acts; rw [hr _ acts rfl rfl rfl]) | rw [hr _ _ rfl rfl rfl]
          exact Steps.refl _
        · show own_Q2 Z xx st_INT8 st_INT16 st_INT32 st_INT64 h0 n0 _ T11.heap _
          rw [e11]
          exact ⟨by unfold own_ns; rw [if_neg hc6]; rw [if_neg hc19]; rw [if_pos hc31], rfl, rfl⟩
      · skip
        have S13 : ∀ t, Steps p.tables e below (s₁.setTop (mkF m 38 #[.val (.long xx), .second] [])) t → Steps p.tables e below (s₁.setTop (entryFrame m #[(.long xx)] 2)) t := fun t kt => by
          refine S9 t ?_
          show Steps p.tables e below (s₁.setTop (mkF m 31 #[.val (.long xx), .second] [(.int (lcmpW xx ((xx.toInt32).toInt64)))])) t
          refine XS.ifYes X0.here hx rfl (pc0 := 31) (pc' := 38) rfl (hb hby own_d2_31) rfl (own_Lne hc31).2 (by decide) (by decide) ?_
          exact kt
        obtain ⟨T14, X14, e14, st14⟩ := getS2 X0 hx hZ hown (host := "") (Or.inl (hw _ (List.mem_of_getElem? (i := 18) rfl))) Via.refl e0 S_INT64 (g := (mkF m 38 #[.val (.long xx), .second] [])) rfl (hb hby own_d2_38)
        have S15 : ∀ t, Steps p.tables e below (T14.setTop (mkF m 41 #[.val (.long xx), .second] [(.ref st_INT64)])) t → Steps p.tables e below (s₁.setTop (entryFrame m #[(.long xx)] 2)) t := fun t kt => S13 t (st14 _ kt)
        obtain ⟨fs, hr, hrun, hended, hW, hsame⟩ := X14.leave (v := some (.ref st_INT64)) (fun h => by rw [Bd.returns] at h; cases h)
        refine ⟨_, _, S15 _ ?_, hrun, hended, _, _, rfl, ?_, ⟨_, rfl⟩, hW, hsame.mono (by decide) (by decide)⟩
        · show Steps p.tables e below (T14.setTop (mkF m 41 #[.val (.long xx), .second] [(.ref st_INT64)])) _
          jvm_step X14.here [X14.here.top, hx, (hb hby own_d2_41), X14.method', Bd.returns, Value.isRef, FieldType.isReference]
          first | (intro acts; rw [hr _ acts rfl rfl rfl]) | rw [hr _ _ rfl rfl rfl]
          exact Steps.refl _
        · show own_Q2 Z xx st_INT8 st_INT16 st_INT32 st_INT64 h0 n0 _ T14.heap _
          rw [e14]
          exact ⟨by unfold own_ns; rw [if_neg hc6]; rw [if_neg hc19]; rw [if_neg hc31], rfl, rfl⟩
theorem own_pd0 : parseMethodDescriptor "(J)Lcom/example/quillpack/quillpack/binary/TypeCode;" = some ⟨[.long], some (.object "com/example/quillpack/quillpack/binary/TypeCode")⟩ := by decide +kernel
theorem own_ef0 (m : MethodId) (x0 : Int64) (x1 : Int32) (x2 : Int32) : entryFrame m #[(.long x0), (.int x1), (.int x2)] maxLocals = mkF m 0 #[.val (.long x0), .second, .val (.int x1), .val (.int x2), .unset, .unset, .unset, .unset, .unset, .unset, .unset, .unset] [] := by first | (simp [entryFrame, mkF, argsToLocals, Value.category, maxLocals]; done) | rfl
def own_Q0 (Z : State) (vv : Int64) (s_ : Int32) (d_ : Int32) (st_INT8 : Addr) (st_INT16 : Addr) (st_INT32 : Addr) (st_INT64 : Addr) (h0 : Heap) (n0 : Nat) (v : Option Value) (h : Heap) (L : List Loc) : Prop := v = some (.int (1 : Int32)) ∧ Fr n0 L
set_option maxHeartbeats 40000000 in
theorem own_rm0 (l : Launch) (Z : State) (a0 : Array Value) (hw : ∀ d ∈ tables_1, d.before a0 Z = true) (ws : List Jvm.Cond) (vv : Int64) (s_ : Int32) (d_ : Int32) (st_INT8 : Addr) (st_INT16 : Addr) (st_INT32 : Addr) (st_INT64 : Addr) (h0 : Heap) (n0 : Nat) (Z0 : n0 ≤ h0.size) (S_INT8 : Sta Z h0 "com/example/quillpack/quillpack/binary/TypeCode" "INT8" "Lcom/example/quillpack/quillpack/binary/TypeCode;" (.ref st_INT8)) (S_INT16 : Sta Z h0 "com/example/quillpack/quillpack/binary/TypeCode" "INT16" "Lcom/example/quillpack/quillpack/binary/TypeCode;" (.ref st_INT16)) (S_INT32 : Sta Z h0 "com/example/quillpack/quillpack/binary/TypeCode" "INT32" "Lcom/example/quillpack/quillpack/binary/TypeCode;" (.ref st_INT32)) (S_INT64 : Sta Z h0 "com/example/quillpack/quillpack/binary/TypeCode" "INT64" "Lcom/example/quillpack/quillpack/binary/TypeCode;" (.ref st_INT64)) :
    MetFree l x (head1 (Jvm.Cond.code x code maxLocals ret :: ws) room_1) (fun argv U => argv = #[(.long vv), (.int s_), (.int d_)] ∧ Z.Warmed39 U.vm ∧ U.heap = h0) (fun _ _ _ _ _ => True) (fun _ U o U' => ∃ v L, o = .returned v ∧ own_Q0 Z vv s_ d_ st_INT8 st_INT16 st_INT32 st_INT64 h0 n0 v U'.heap L ∧ FrameEnd U o U' L room_1.cells room_1.slots) := by
  refine MetFree.of_bodySF (plainFor_of_name own_pn0) hisR ?_
  intro p e s m args below meth c s₁ Bd hml0 hP hK
  obtain ⟨rfl, hZ, hh⟩ := hP
  have hx := Bd.exec
  have hby := Bd.bytes
  have hml : c.maxLocals = 12 := hml0
  have hown : s.vm.findClass "com/example/quillpack/quillpack/binary/TypeCodeNarrowestSignedPinLaw" = some m.cls := findClass_of_methodNamed Bd.named
  have hnm := (name_of_methodNamed Bd.named Bd.method).1
  have X0 : Stand p l e room_1 s m #[(.long vv), (.int s_), (.int d_)] below meth c s₁ [] 0 0 := Stand.of_body Bd
  have e0 : s₁.heap = h0 := by rw [← hh, Bd.state]; rfl
  have N0 := Fr.nil n0
  have pre0 : ∀ t, Steps p.tables e below (s₁.setTop (mkF m 0 #[.val (.long vv), .second, .val (.int s_), .val (.int d_), .unset, .unset, .unset, .unset, .unset, .unset, .unset, .unset] [])) t → Steps p.tables e below (s₁.setTop (entryFrame m #[(.long vv), (.int s_), (.int d_)] maxLocals)) t := fun t k => castTop (own_ef0 m vv s_ d_) k
  have S2 : ∀ t, Steps p.tables e below (s₁.setTop (mkF m 28 #[.val (.long vv), .second, .val (.int s_), .val (.int d_), .val (.long (vv >>> ((s_ &&& (63 : Int32)) &&& 0x3f).toInt64)), .second, .val (.long ((((d_ &&& (2147483647 : Int32)) % (5 : Int32)) - (2 : Int32)).toInt64)), .second, .val (.long ((vv >>> ((s_ &&& (63 : Int32)) &&& 0x3f).toInt64) + ((((d_ &&& (2147483647 : Int32)) % (5 : Int32)) - (2 : Int32)).toInt64))), .second, .unset, .unset] [(.long ((vv >>> ((s_ &&& (63 : Int32)) &&& 0x3f).toInt64) + ((((d_ &&& (2147483647 : Int32)) % (5 : Int32)) - (2 : Int32)).toInt64)))])) t → Steps p.tables e below (s₁.setTop (entryFrame m #[(.long vv), (.int s_), (.int d_)] maxLocals)) t := fun t kt => by
    refine pre0 t ?_
    show Steps p.tables e below (s₁.setTop (mkF m 0 #[.val (.long vv), .second, .val (.int s_), .val (.int d_), .unset, .unset, .unset, .unset, .unset, .unset, .unset, .unset] [])) t
    refine XS.lloadN X0.here hx rfl (hb hby at_0) rfl ?_
    show Steps p.tables e below (s₁.setTop (mkF m 1 #[.val (.long vv), .second, .val (.int s_), .val (.int d_), .unset, .unset, .unset, .unset, .unset, .unset, .unset, .unset] [(.long vv)])) t
    refine XS.iloadN X0.here hx rfl (hb hby at_1) rfl ?_
    show Steps p.tables e below (s₁.setTop (mkF m 2 #[.val (.long vv), .second, .val (.int s_), .val (.int d_), .unset, .unset, .unset, .unset, .unset, .unset, .unset, .unset] [(.int s_), (.long vv)])) t
    refine XS.bipush X0.here hx rfl (hb hby at_2) ?_
    show Steps p.tables e below (s₁.setTop (mkF m 4 #[.val (.long vv), .second, .val (.int s_), .val (.int d_), .unset, .unset, .unset, .unset, .unset, .unset, .unset, .unset] [(.int (63 : Int32)), (.int s_), (.long vv)])) t
    refine XS.iand X0.here hx rfl (hb hby at_4) rfl ?_
    show Steps p.tables e below (s₁.setTop (mkF m 5 #[.val (.long vv), .second, .val (.int s_), .val (.int d_), .unset, .unset, .unset, .unset, .unset, .unset, .unset, .unset] [(.int (s_ &&& (63 : Int32))), (.long vv)])) t
    refine XS.lshr X0.here hx rfl (hb hby at_5) rfl ?_
    show Steps p.tables e below (s₁.setTop (mkF m 6 #[.val (.long vv), .second, .val (.int s_), .val (.int d_), .unset, .unset, .unset, .unset, .unset, .unset, .unset, .unset] [(.long (vv >>> ((s_ &&& (63 : Int32)) &&& 0x3f).toInt64))])) t
    refine XS.lstore X0.here hx rfl (hb hby at_6) rfl (l' := #[.val (.long vv), .second, .val (.int s_), .val (.int d_), .val (.long (vv >>> ((s_ &&& (63 : Int32)) &&& 0x3f).toInt64)), .second, .unset, .unset, .unset, .unset, .unset, .unset]) rfl ?_
    show Steps p.tables e below (s₁.setTop (mkF m 8 #[.val (.long vv), .second, .val (.int s_), .val (.int d_), .val (.long (vv >>> ((s_ &&& (63 : Int32)) &&& 0x3f).toInt64)), .second, .unset, .unset, .unset, .unset, .unset, .unset] [])) t
    refine XS.iloadN X0.here hx rfl (hb hby at_8) rfl ?_
    show Steps p.tables e below (s₁.setTop (mkF m 9 #[.val (.long vv), .second, .val (.int s_), .val (.int d_), .val (.long (vv >>> ((s_ &&& (63 : Int32)) &&& 0x3f).toInt64)), .second, .unset, .unset, .unset, .unset, .unset, .unset] [(.int d_)])) t
    refine X0.ldcInt hx hown (mvT hZ (hw _ (List.mem_of_getElem? (i := 0) rfl))) (g := (mkF m 9 #[.val (.long vv), .second, .val (.int s_), .val (.int d_), .val (.long (vv >>> ((s_ &&& (63 : Int32)) &&& 0x3f).toInt64)), .second, .unset, .unset, .unset, .unset, .unset, .unset] [(.int d_)])) rfl (hb hby at_9) _ ?_
    show Steps p.tables e below (s₁.setTop (mkF m 11 #[.val (.long vv), .second, .val (.int s_), .val (.int d_), .val (.long (vv >>> ((s_ &&& (63 : Int32)) &&& 0x3f).toInt64)), .second, .unset, .unset, .unset, .unset, .unset, .unset] [(.int (2147483647 : Int32)), (.int d_)])) t
    refine XS.iand X0.here hx rfl (hb hby at_11) rfl ?_
    show Steps p.tables e below (s₁.setTop (mkF m 12 #[.val (.long vv), .second, .val (.int s_), .val (.int d_), .val (.long (vv >>> ((s_ &&& (63 : Int32)) &&& 0x3f).toInt64)), .second, .unset, .unset, .unset, .unset, .unset, .unset] [(.int (d_ &&& (2147483647 : Int32)))])) t
    refine XS.iconst X0.here hx rfl (hb hby at_12) ?_
    show Steps p.tables e below (s₁.setTop (mkF m 13 #[.val (.long vv), .second, .val (.int s_), .val (.int d_), .val (.long (vv >>> ((s_ &&& (63 : Int32)) &&& 0x3f).toInt64)), .second, .unset, .unset, .unset, .unset, .unset, .unset] [(.int (5 : Int32)), (.int (d_ &&& (2147483647 : Int32)))])) t
    refine iremM X0 hx rfl (hb hby at_13) rfl (by decide) ?_
    show Steps p.tables e below (s₁.setTop (mkF m 14 #[.val (.long vv), .second, .val (.int s_), .val (.int d_), .val (.long (vv >>> ((s_ &&& (63 : Int32)) &&& 0x3f).toInt64)), .second, .unset, .unset, .unset, .unset, .unset, .unset] [(.int ((d_ &&& (2147483647 : Int32)) % (5 : Int32)))])) t
    refine XS.iconst X0.here hx rfl (hb hby at_14) ?_
    show Steps p.tables e below (s₁.setTop (mkF m 15 #[.val (.long vv), .second, .val (.int s_), .val (.int d_), .val (.long (vv >>> ((s_ &&& (63 : Int32)) &&& 0x3f).toInt64)), .second, .unset, .unset, .unset, .unset, .unset, .unset] [(.int (2 : Int32)), (.int ((d_ &&& (2147483647 : Int32)) % (5 : Int32)))])) t
    refine XS.isub X0.here hx rfl (hb hby at_15) rfl ?_
    show Steps p.tables e below (s₁.setTop (mkF m 16 #[.val (.long vv), .second, .val (.int s_), .val (.int d_), .val (.long (vv >>> ((s_ &&& (63 : Int32)) &&& 0x3f).toInt64)), .second, .unset, .unset, .unset, .unset, .unset, .unset] [(.int (((d_ &&& (2147483647 : Int32)) % (5 : Int32)) - (2 : Int32)))])) t
    refine XS.i2l X0.here hx rfl (hb hby at_16) rfl ?_
    show Steps p.tables e below (s₁.setTop (mkF m 17 #[.val (.long vv), .second, .val (.int s_), .val (.int d_), .val (.long (vv >>> ((s_ &&& (63 : Int32)) &&& 0x3f).toInt64)), .second, .unset, .unset, .unset, .unset, .unset, .unset] [(.long ((((d_ &&& (2147483647 : Int32)) % (5 : Int32)) - (2 : Int32)).toInt64))])) t
    refine XS.lstore X0.here hx rfl (hb hby at_17) rfl (l' := #[.val (.long vv), .second, .val (.int s_), .val (.int d_), .val (.long (vv >>> ((s_ &&& (63 : Int32)) &&& 0x3f).toInt64)), .second, .val (.long ((((d_ &&& (2147483647 : Int32)) % (5 : Int32)) - (2 : Int32)).toInt64)), .second, .unset, .unset, .unset, .unset]) rfl ?_
    show Steps p.tables e below (s₁.setTop (mkF m 19 #[.val (.long vv), .second, .val (.int s_), .val (.int d_), .val (.long (vv >>> ((s_ &&& (63 : Int32)) &&& 0x3f).toInt64)), .second, .val (.long ((((d_ &&& (2147483647 : Int32)) % (5 : Int32)) - (2 : Int32)).toInt64)), .second, .unset, .unset, .unset, .unset] [])) t
    refine XS.lload X0.here hx rfl (hb hby at_19) rfl ?_
    show Steps p.tables e below (s₁.setTop (mkF m 21 #[.val (.long vv), .second, .val (.int s_), .val (.int d_), .val (.long (vv >>> ((s_ &&& (63 : Int32)) &&& 0x3f).toInt64)), .second, .val (.long ((((d_ &&& (2147483647 : Int32)) % (5 : Int32)) - (2 : Int32)).toInt64)), .second, .unset, .unset, .unset, .unset] [(.long (vv >>> ((s_ &&& (63 : Int32)) &&& 0x3f).toInt64))])) t
    refine XS.lload X0.here hx rfl (hb hby at_21) rfl ?_
    show Steps p.tables e below (s₁.setTop (mkF m 23 #[.val (.long vv), .second, .val (.int s_), .val (.int d_), .val (.long (vv >>> ((s_ &&& (63 : Int32)) &&& 0x3f).toInt64)), .second, .val (.long ((((d_ &&& (2147483647 : Int32)) % (5 : Int32)) - (2 : Int32)).toInt64)), .second, .unset, .unset, .unset, .unset] [(.long ((((d_ &&& (2147483647 : Int32)) % (5 : Int32)) - (2 : Int32)).toInt64)), (.long (vv >>> ((s_ &&& (63 : Int32)) &&& 0x3f).toInt64))])) t
    refine XS.ladd X0.here hx rfl (hb hby at_23) rfl ?_
    show Steps p.tables e below (s₁.setTop (mkF m 24 #[.val (.long vv), .second, .val (.int s_), .val (.int d_), .val (.long (vv >>> ((s_ &&& (63 : Int32)) &&& 0x3f).toInt64)), .second, .val (.long ((((d_ &&& (2147483647 : Int32)) % (5 : Int32)) - (2 : Int32)).toInt64)), .second, .unset, .unset, .unset, .unset] [(.long ((vv >>> ((s_ &&& (63 : Int32)) &&& 0x3f).toInt64) + ((((d_ &&& (2147483647 : Int32)) % (5 : Int32)) - (2 : Int32)).toInt64)))])) t
    refine XS.lstore X0.here hx rfl (hb hby at_24) rfl (l' := #[.val (.long vv), .second, .val (.int s_), .val (.int d_), .val (.long (vv >>> ((s_ &&& (63 : Int32)) &&& 0x3f).toInt64)), .second, .val (.long ((((d_ &&& (2147483647 : Int32)) % (5 : Int32)) - (2 : Int32)).toInt64)), .second, .val (.long ((vv >>> ((s_ &&& (63 : Int32)) &&& 0x3f).toInt64) + ((((d_ &&& (2147483647 : Int32)) % (5 : Int32)) - (2 : Int32)).toInt64))), .second, .unset, .unset]) rfl ?_
    show Steps p.tables e below (s₁.setTop (mkF m 26 #[.val (.long vv), .second, .val (.int s_), .val (.int d_), .val (.long (vv >>> ((s_ &&& (63 : Int32)) &&& 0x3f).toInt64)), .second, .val (.long ((((d_ &&& (2147483647 : Int32)) % (5 : Int32)) - (2 : Int32)).toInt64)), .second, .val (.long ((vv >>> ((s_ &&& (63 : Int32)) &&& 0x3f).toInt64) + ((((d_ &&& (2147483647 : Int32)) % (5 : Int32)) - (2 : Int32)).toInt64))), .second, .unset, .unset] [])) t
    refine XS.lload X0.here hx rfl (hb hby at_26) rfl ?_
    exact kt
  obtain ⟨_, _, ⟨T3, L3, k3, n3⟩, -, X3, ⟨Lc3, hQ3, l3, y3, z3⟩, st3⟩ := Jvm.LawKit.callS X0 hx (y := (⟨"com/example/quillpack/quillpack/binary/TypeCodeNarrowestSignedPinLaw", "reference", "(J)Lcom/example/quillpack/quillpack/binary/TypeCode;"⟩ : MethodName)) hown (mvT hZ (hw _ (List.mem_of_getElem? (i := 1) rfl))) (mvT hZ (hw _ (List.mem_of_getElem? (i := 2) rfl))) (mvT hZ (hw _ (List.mem_of_getElem? (i := 3) rfl))) (mvT hZ (hw _ (List.mem_of_getElem? (i := 4) rfl))) (by decide) (backOf (W := 0) (own_rm1 l Z a0 hw [] (((vv >>> ((s_ &&& (63 : Int32)) &&& 0x3f).toInt64) + ((((d_ &&& (2147483647 : Int32)) % (5 : Int32)) - (2 : Int32)).toInt64))) (st_INT8) (st_INT16) (st_INT32) (st_INT64) h0 n0 Z0 S_INT8 S_INT16 S_INT32 S_INT64) hZ (hw _ (List.mem_of_getElem? (i := 4) rfl)) (hw _ (List.mem_of_getElem? (i := 3) rfl)) (by decide) (by decide)) (g := (mkF m 28 #[.val (.long vv), .second, .val (.int s_), .val (.int d_), .val (.long (vv >>> ((s_ &&& (63 : Int32)) &&& 0x3f).toInt64)), .second, .val (.long ((((d_ &&& (2147483647 : Int32)) % (5 : Int32)) - (2 : Int32)).toInt64)), .second, .val (.long ((vv >>> ((s_ &&& (63 : Int32)) &&& 0x3f).toInt64) + ((((d_ &&& (2147483647 : Int32)) % (5 : Int32)) - (2 : Int32)).toInt64))), .second, .unset, .unset] [(.long ((vv >>> ((s_ &&& (63 : Int32)) &&& 0x3f).toInt64) + ((((d_ &&& (2147483647 : Int32)) % (5 : Int32)) - (2 : Int32)).toInt64)))])) rfl (by rw [hml]; rfl) (argsL := [(.long ((vv >>> ((s_ &&& (63 : Int32)) &&& 0x3f).toInt64) + ((((d_ &&& (2147483647 : Int32)) % (5 : Int32)) - (2 : Int32)).toInt64)))]) (rest := []) (lenOf own_pd0 rfl) rfl (by show 2 * 0 + _ ≤ _; exact Nat.le_of_eq rfl) (hb hby at_28) (fun _ _ => ⟨rfl, e0, (by decide : 0 + 0 ≤ _), (by decide : 0 + 0 ≤ _)⟩)
  dsimp only [Pt.U, Pt.locs, Pt.cells, Pt.slots] at X3 l3 y3 z3 st3 hQ3
  subst l3 y3 z3
  obtain ⟨rfl, rfl, eq1⟩ := hQ3
  try rw [List.append_nil] at X3
  have S4 : ∀ t, Steps p.tables e below (T3.setTop (mkF m 31 #[.val (.long vv), .second, .val (.int s_), .val (.int d_), .val (.long (vv >>> ((s_ &&& (63 : Int32)) &&& 0x3f).toInt64)), .second, .val (.long ((((d_ &&& (2147483647 : Int32)) % (5 : Int32)) - (2 : Int32)).toInt64)), .second, .val (.long ((vv >>> ((s_ &&& (63 : Int32)) &&& 0x3f).toInt64) + ((((d_ &&& (2147483647 : Int32)) % (5 : Int32)) - (2 : Int32)).toInt64))), .second, .unset, .unset] [(.ref (own_ref ((vv >>> ((s_ &&& (63 : Int32)) &&& 0x3f).toInt64) + ((((d_ &&& (2147483647 : Int32)) % (5 : Int32)) - (2 : Int32)).toInt64)) st_INT8 st_INT16 st_INT32 st_INT64))])) t → Steps p.tables e below (s₁.setTop (entryFrame m #[(.long vv), (.int s_), (.int d_)] maxLocals)) t := fun t kt => S2 t (st3 _ kt)
  have S6 : ∀ t, Steps p.tables e below (T3.setTop (mkF m 35 #[.val (.long vv), .second, .val (.int s_), .val (.int d_), .val (.long (vv >>> ((s_ &&& (63 : Int32)) &&& 0x3f).toInt64)), .second, .val (.long ((((d_ &&& (2147483647 : Int32)) % (5 : Int32)) - (2 : Int32)).toInt64)), .second, .val (.long ((vv >>> ((s_ &&& (63 : Int32)) &&& 0x3f).toInt64) + ((((d_ &&& (2147483647 : Int32)) % (5 : Int32)) - (2 : Int32)).toInt64))), .second, .val (.ref (own_ref ((vv >>> ((s_ &&& (63 : Int32)) &&& 0x3f).toInt64) + ((((d_ &&& (2147483647 : Int32)) % (5 : Int32)) - (2 : Int32)).toInt64)) st_INT8 st_INT16 st_INT32 st_INT64)), .unset] [(.long ((vv >>> ((s_ &&& (63 : Int32)) &&& 0x3f).toInt64) + ((((d_ &&& (2147483647 : Int32)) % (5 : Int32)) - (2 : Int32)).toInt64)))])) t → Steps p.tables e below (s₁.setTop (entryFrame m #[(.long vv), (.int s_), (.int d_)] maxLocals)) t := fun t kt => by
    refine S4 t ?_
    show Steps p.tables e below (T3.setTop (mkF m 31 #[.val (.long vv), .second, .val (.int s_), .val (.int d_), .val (.long (vv >>> ((s_ &&& (63 : Int32)) &&& 0x3f).toInt64)), .second, .val (.long ((((d_ &&& (2147483647 : Int32)) % (5 : Int32)) - (2 : Int32)).toInt64)), .second, .val (.long ((vv >>> ((s_ &&& (63 : Int32)) &&& 0x3f).toInt64) + ((((d_ &&& (2147483647 : Int32)) % (5 : Int32)) - (2 : Int32)).toInt64))), .second, .unset, .unset] [(.ref (own_ref ((vv >>> ((s_ &&& (63 : Int32)) &&& 0x3f).toInt64) + ((((d_ &&& (2147483647 : Int32)) % (5 : Int32)) - (2 : Int32)).toInt64)) st_INT8 st_INT16 st_INT32 st_INT64))])) t
    refine XS.astore X3.here hx rfl (hb hby at_31) rfl rfl (l' := #[.val (.long vv), .second, .val (.int s_), .val (.int d_), .val (.long (vv >>> ((s_ &&& (63 : Int32)) &&& 0x3f).toInt64)), .second, .val (.long ((((d_ &&& (2147483647 : Int32)) % (5 : Int32)) - (2 : Int32)).toInt64)), .second, .val (.long ((vv >>> ((s_ &&& (63 : Int32)) &&& 0x3f).toInt64) + ((((d_ &&& (2147483647 : Int32)) % (5 : Int32)) - (2 : Int32)).toInt64))), .second, .val (.ref (own_ref ((vv >>> ((s_ &&& (63 : Int32)) &&& 0x3f).toInt64) + ((((d_ &&& (2147483647 : Int32)) % (5 : Int32)) - (2 : Int32)).toInt64)) st_INT8 st_INT16 st_INT32 st_INT64)), .unset]) rfl ?_
    show Steps p.tables e below (T3.setTop (mkF m 33 #[.val (.long vv), .second, .val (.int s_), .val (.int d_), .val (.long (vv >>> ((s_ &&& (63 : Int32)) &&& 0x3f).toInt64)), .second, .val (.long ((((d_ &&& (2147483647 : Int32)) % (5 : Int32)) - (2 : Int32)).toInt64)), .second, .val (.long ((vv >>> ((s_ &&& (63 : Int32)) &&& 0x3f).toInt64) + ((((d_ &&& (2147483647 : Int32)) % (5 : Int32)) - (2 : Int32)).toInt64))), .second, .val (.ref (own_ref ((vv >>> ((s_ &&& (63 : Int32)) &&& 0x3f).toInt64) + ((((d_ &&& (2147483647 : Int32)) % (5 : Int32)) - (2 : Int32)).toInt64)) st_INT8 st_INT16 st_INT32 st_INT64)), .unset] [])) t
    refine XS.lload X3.here hx rfl (hb hby at_33) rfl ?_
    exact kt
  obtain ⟨_, _, ⟨T7, L7, k7, n7⟩, -, X7, ⟨Lc7, hQ7, l7, y7, z7⟩, st7⟩ := Jvm.LawKit.callS X3 hx (y := (⟨"com/example/quillpack/quillpack/binary/TypeCode", "narrowestSigned", "(J)Lcom/example/quillpack/quillpack/binary/TypeCode;"⟩ : MethodName)) hown (mvT hZ (hw _ (List.mem_of_getElem? (i := 10) rfl))) (mvT hZ (hw _ (List.mem_of_getElem? (i := 11) rfl))) (mvT hZ (hw _ (List.mem_of_getElem? (i := 8) rfl))) (mvT hZ (hw _ (List.mem_of_getElem? (i := 12) rfl))) (by decide) (backOf (W := 0) (own_rm2 l Z a0 hw [] (((vv >>> ((s_ &&& (63 : Int32)) &&& 0x3f).toInt64) + ((((d_ &&& (2147483647 : Int32)) % (5 : Int32)) - (2 : Int32)).toInt64))) (st_INT8) (st_INT16) (st_INT32) (st_INT64) h0 n0 Z0 S_INT8 S_INT16 S_INT32 S_INT64) hZ (hw _ (List.mem_of_getElem? (i := 12) rfl)) (hw _ (List.mem_of_getElem? (i := 8) rfl)) (by decide) (by decide)) (g := (mkF m 35 #[.val (.long vv), .second, .val (.int s_), .val (.int d_), .val (.long (vv >>> ((s_ &&& (63 : Int32)) &&& 0x3f).toInt64)), .second, .val (.long ((((d_ &&& (2147483647 : Int32)) % (5 : Int32)) - (2 : Int32)).toInt64)), .second, .val (.long ((vv >>> ((s_ &&& (63 : Int32)) &&& 0x3f).toInt64) + ((((d_ &&& (2147483647 : Int32)) % (5 : Int32)) - (2 : Int32)).toInt64))), .second, .val (.ref (own_ref ((vv >>> ((s_ &&& (63 : Int32)) &&& 0x3f).toInt64) + ((((d_ &&& (2147483647 : Int32)) % (5 : Int32)) - (2 : Int32)).toInt64)) st_INT8 st_INT16 st_INT32 st_INT64)), .unset] [(.long ((vv >>> ((s_ &&& (63 : Int32)) &&& 0x3f).toInt64) + ((((d_ &&& (2147483647 : Int32)) % (5 : Int32)) - (2 : Int32)).toInt64)))])) rfl (by rw [hml]; rfl) (argsL := [(.long ((vv >>> ((s_ &&& (63 : Int32)) &&& 0x3f).toInt64) + ((((d_ &&& (2147483647 : Int32)) % (5 : Int32)) - (2 : Int32)).toInt64)))]) (rest := []) (lenOf own_pd0 rfl) rfl (by show 2 * 0 + _ ≤ _; exact Nat.le_of_eq rfl) (hb hby at_35) (fun _ _ => ⟨rfl, eq1, (by decide : 0 + 0 ≤ _), (by decide : 0 + 0 ≤ _)⟩)
  dsimp only [Pt.U, Pt.locs, Pt.cells, Pt.slots] at X7 l7 y7 z7 st7 hQ7
  subst l7 y7 z7
  obtain ⟨rfl, rfl, eq5⟩ := hQ7
  try rw [List.append_nil] at X7
  have S8 : ∀ t, Steps p.tables e below (T7.setTop (mkF m 38 #[.val (.long vv), .second, .val (.int s_), .val (.int d_), .val (.long (vv >>> ((s_ &&& (63 : Int32)) &&& 0x3f).toInt64)), .second, .val (.long ((((d_ &&& (2147483647 : Int32)) % (5 : Int32)) - (2 : Int32)).toInt64)), .second, .val (.long ((vv >>> ((s_ &&& (63 : Int32)) &&& 0x3f).toInt64) + ((((d_ &&& (2147483647 : Int32)) % (5 : Int32)) - (2 : Int32)).toInt64))), .second, .val (.ref (own_ref ((vv >>> ((s_ &&& (63 : Int32)) &&& 0x3f).toInt64) + ((((d_ &&& (2147483647 : Int32)) % (5 : Int32)) - (2 : Int32)).toInt64)) st_INT8 st_INT16 st_INT32 st_INT64)), .unset] [(.ref (own_ns ((vv >>> ((s_ &&& (63 : Int32)) &&& 0x3f).toInt64) + ((((d_ &&& (2147483647 : Int32)) % (5 : Int32)) - (2 : Int32)).toInt64)) st_INT8 st_INT16 st_INT32 st_INT64))])) t → Steps p.tables e below (s₁.setTop (entryFrame m #[(.long vv), (.int s_), (.int d_)] maxLocals)) t := fun t kt => S6 t (st7 _ kt)
  have S9 : ∀ t, Steps p.tables e below (T7.setTop (mkF m 44 #[.val (.long vv), .second, .val (.int s_), .val (.int d_), .val (.long (vv >>> ((s_ &&& (63 : Int32)) &&& 0x3f).toInt64)), .second, .val (.long ((((d_ &&& (2147483647 : Int32)) % (5 : Int32)) - (2 : Int32)).toInt64)), .second, .val (.long ((vv >>> ((s_ &&& (63 : Int32)) &&& 0x3f).toInt64) + ((((d_ &&& (2147483647 : Int32)) % (5 : Int32)) - (2 : Int32)).toInt64))), .second, .val (.ref (own_ref ((vv >>> ((s_ &&& (63 : Int32)) &&& 0x3f).toInt64) + ((((d_ &&& (2147483647 : Int32)) % (5 : Int32)) - (2 : Int32)).toInt64)) st_INT8 st_INT16 st_INT32 st_INT64)), .val (.ref (own_ns ((vv >>> ((s_ &&& (63 : Int32)) &&& 0x3f).toInt64) + ((((d_ &&& (2147483647 : Int32)) % (5 : Int32)) - (2 : Int32)).toInt64)) st_INT8 st_INT16 st_INT32 st_INT64))] [(.ref (own_ref ((vv >>> ((s_ &&& (63 : Int32)) &&& 0x3f).toInt64) + ((((d_ &&& (2147483647 : Int32)) % (5 : Int32)) - (2 : Int32)).toInt64)) st_INT8 st_INT16 st_INT32 st_INT64)), (.ref (own_ns ((vv >>> ((s_ &&& (63 : Int32)) &&& 0x3f).toInt64) + ((((d_ &&& (2147483647 : Int32)) % (5 : Int32)) - (2 : Int32)).toInt64)) st_INT8 st_INT16 st_INT32 st_INT64))])) t → Steps p.tables e below (s₁.setTop (entryFrame m #[(.long vv), (.int s_), (.int d_)] maxLocals)) t := fun t kt => by
    refine S8 t ?_
    show Steps p.tables e below (T7.setTop (mkF m 38 #[.val (.long vv), .second, .val (.int s_), .val (.int d_), .val (.long (vv >>> ((s_ &&& (63 : Int32)) &&& 0x3f).toInt64)), .second, .val (.long ((((d_ &&& (2147483647 : Int32)) % (5 : Int32)) - (2 : Int32)).toInt64)), .second, .val (.long ((vv >>> ((s_ &&& (63 : Int32)) &&& 0x3f).toInt64) + ((((d_ &&& (2147483647 : Int32)) % (5 : Int32)) - (2 : Int32)).toInt64))), .second, .val (.ref (own_ref ((vv >>> ((s_ &&& (63 : Int32)) &&& 0x3f).toInt64) + ((((d_ &&& (2147483647 : Int32)) % (5 : Int32)) - (2 : Int32)).toInt64)) st_INT8 st_INT16 st_INT32 st_INT64)), .unset] [(.ref (own_ns ((vv >>> ((s_ &&& (63 : Int32)) &&& 0x3f).toInt64) + ((((d_ &&& (2147483647 : Int32)) % (5 : Int32)) - (2 : Int32)).toInt64)) st_INT8 st_INT16 st_INT32 st_INT64))])) t
    refine XS.astore X7.here hx rfl (hb hby at_38) rfl rfl (l' := #[.val (.long vv), .second, .val (.int s_), .val (.int d_), .val (.long (vv >>> ((s_ &&& (63 : Int32)) &&& 0x3f).toInt64)), .second, .val (.long ((((d_ &&& (2147483647 : Int32)) % (5 : Int32)) - (2 : Int32)).toInt64)), .second, .val (.long ((vv >>> ((s_ &&& (63 : Int32)) &&& 0x3f).toInt64) + ((((d_ &&& (2147483647 : Int32)) % (5 : Int32)) - (2 : Int32)).toInt64))), .second, .val (.ref (own_ref ((vv >>> ((s_ &&& (63 : Int32)) &&& 0x3f).toInt64) + ((((d_ &&& (2147483647 : Int32)) % (5 : Int32)) - (2 : Int32)).toInt64)) st_INT8 st_INT16 st_INT32 st_INT64)), .val (.ref (own_ns ((vv >>> ((s_ &&& (63 : Int32)) &&& 0x3f).toInt64) + ((((d_ &&& (2147483647 : Int32)) % (5 : Int32)) - (2 : Int32)).toInt64)) st_INT8 st_INT16 st_INT32 st_INT64))]) rfl ?_
    show Steps p.tables e below (T7.setTop (mkF m 40 #[.val (.long vv), .second, .val (.int s_), .val (.int d_), .val (.long (vv >>> ((s_ &&& (63 : Int32)) &&& 0x3f).toInt64)), .second, .val (.long ((((d_ &&& (2147483647 : Int32)) % (5 : Int32)) - (2 : Int32)).toInt64)), .second, .val (.long ((vv >>> ((s_ &&& (63 : Int32)) &&& 0x3f).toInt64) + ((((d_ &&& (2147483647 : Int32)) % (5 : Int32)) - (2 : Int32)).toInt64))), .second, .val (.ref (own_ref ((vv >>> ((s_ &&& (63 : Int32)) &&& 0x3f).toInt64) + ((((d_ &&& (2147483647 : Int32)) % (5 : Int32)) - (2 : Int32)).toInt64)) st_INT8 st_INT16 st_INT32 st_INT64)), .val (.ref (own_ns ((vv >>> ((s_ &&& (63 : Int32)) &&& 0x3f).toInt64) + ((((d_ &&& (2147483647 : Int32)) % (5 : Int32)) - (2 : Int32)).toInt64)) st_INT8 st_INT16 st_INT32 st_INT64))] [])) t
    refine XS.aload X7.here hx rfl (hb hby at_40) rfl rfl ?_
    show Steps p.tables e below (T7.setTop (mkF m 42 #[.val (.long vv), .second, .val (.int s_), .val (.int d_), .val (.long (vv >>> ((s_ &&& (63 : Int32)) &&& 0x3f).toInt64)), .second, .val (.long ((((d_ &&& (2147483647 : Int32)) % (5 : Int32)) - (2 : Int32)).toInt64)), .second, .val (.long ((vv >>> ((s_ &&& (63 : Int32)) &&& 0x3f).toInt64) + ((((d_ &&& (2147483647 : Int32)) % (5 : Int32)) - (2 : Int32)).toInt64))), .second, .val (.ref (own_ref ((vv >>> ((s_ &&& (63 : Int32)) &&& 0x3f).toInt64) + ((((d_ &&& (2147483647 : Int32)) % (5 : Int32)) - (2 : Int32)).toInt64)) st_INT8 st_INT16 st_INT32 st_INT64)), .val (.ref (own_ns ((vv >>> ((s_ &&& (63 : Int32)) &&& 0x3f).toInt64) + ((((d_ &&& (2147483647 : Int32)) % (5 : Int32)) - (2 : Int32)).toInt64)) st_INT8 st_INT16 st_INT32 st_INT64))] [(.ref (own_ns ((vv >>> ((s_ &&& (63 : Int32)) &&& 0x3f).toInt64) + ((((d_ &&& (2147483647 : Int32)) % (5 : Int32)) - (2 : Int32)).toInt64)) st_INT8 st_INT16 st_INT32 st_INT64))])) t
    refine XS.aload X7.here hx rfl (hb hby at_42) rfl rfl ?_
    exact kt
  have hc44_10 : (own_ns ((vv >>> ((s_ &&& (63 : Int32)) &&& 0x3f).toInt64) + ((((d_ &&& (2147483647 : Int32)) % (5 : Int32)) - (2 : Int32)).toInt64)) st_INT8 st_INT16 st_INT32 st_INT64) = (own_ref ((vv >>> ((s_ &&& (63 : Int32)) &&& 0x3f).toInt64) + ((((d_ &&& (2147483647 : Int32)) % (5 : Int32)) - (2 : Int32)).toInt64)) st_INT8 st_INT16 st_INT32 st_INT64) := own_plain _ _ _ _ _
  have S11 : ∀ t, Steps p.tables e below (T7.setTop (mkF m 52 #[.val (.long vv), .second, .val (.int s_), .val (.int d_), .val (.long (vv >>> ((s_ &&& (63 : Int32)) &&& 0x3f).toInt64)), .second, .val (.long ((((d_ &&& (2147483647 : Int32)) % (5 : Int32)) - (2 : Int32)).toInt64)), .second, .val (.long ((vv >>> ((s_ &&& (63 : Int32)) &&& 0x3f).toInt64) + ((((d_ &&& (2147483647 : Int32)) % (5 : Int32)) - (2 : Int32)).toInt64))), .second, .val (.ref (own_ref ((vv >>> ((s_ &&& (63 : Int32)) &&& 0x3f).toInt64) + ((((d_ &&& (2147483647 : Int32)) % (5 : Int32)) - (2 : Int32)).toInt64)) st_INT8 st_INT16 st_INT32 st_INT64)), .val (.ref (own_ns ((vv >>> ((s_ &&& (63 : Int32)) &&& 0x3f).toInt64) + ((((d_ &&& (2147483647 : Int32)) % (5 : Int32)) - (2 : Int32)).toInt64)) st_INT8 st_INT16 st_INT32 st_INT64))] [(.int (1 : Int32))])) t → Steps p.tables e below (s₁.setTop (entryFrame m #[(.long vv), (.int s_), (.int d_)] maxLocals)) t := fun t kt => by
    refine S9 t ?_
    show Steps p.tables e below (T7.setTop (mkF m 44 #[.val (.long vv), .second, .val (.int s_), .val (.int d_), .val (.long (vv >>> ((s_ &&& (63 : Int32)) &&& 0x3f).toInt64)), .second, .val (.long ((((d_ &&& (2147483647 : Int32)) % (5 : Int32)) - (2 : Int32)).toInt64)), .second, .val (.long ((vv >>> ((s_ &&& (63 : Int32)) &&& 0x3f).toInt64) + ((((d_ &&& (2147483647 : Int32)) % (5 : Int32)) - (2 : Int32)).toInt64))), .second, .val (.ref (own_ref ((vv >>> ((s_ &&& (63 : Int32)) &&& 0x3f).toInt64) + ((((d_ &&& (2147483647 : Int32)) % (5 : Int32)) - (2 : Int32)).toInt64)) st_INT8 st_INT16 st_INT32 st_INT64)), .val (.ref (own_ns ((vv >>> ((s_ &&& (63 : Int32)) &&& 0x3f).toInt64) + ((((d_ &&& (2147483647 : Int32)) % (5 : Int32)) - (2 : Int32)).toInt64)) st_INT8 st_INT16 st_INT32 st_INT64))] [(.ref (own_ref ((vv >>> ((s_ &&& (63 : Int32)) &&& 0x3f).toInt64) + ((((d_ &&& (2147483647 : Int32)) % (5 : Int32)) - (2 : Int32)).toInt64)) st_INT8 st_INT16 st_INT32 st_INT64)), (.ref (own_ns ((vv >>> ((s_ &&& (63 : Int32)) &&& 0x3f).toInt64) + ((((d_ &&& (2147483647 : Int32)) % (5 : Int32)) - (2 : Int32)).toInt64)) st_INT8 st_INT16 st_INT32 st_INT64))])) t
    refine Jvm.RoadKit.acmp (g := (mkF m 44 #[.val (.long vv), .second, .val (.int s_), .val (.int d_), .val (.long (vv >>> ((s_ &&& (63 : Int32)) &&& 0x3f).toInt64)), .second, .val (.long ((((d_ &&& (2147483647 : Int32)) % (5 : Int32)) - (2 : Int32)).toInt64)), .second, .val (.long ((vv >>> ((s_ &&& (63 : Int32)) &&& 0x3f).toInt64) + ((((d_ &&& (2147483647 : Int32)) % (5 : Int32)) - (2 : Int32)).toInt64))), .second, .val (.ref (own_ref ((vv >>> ((s_ &&& (63 : Int32)) &&& 0x3f).toInt64) + ((((d_ &&& (2147483647 : Int32)) % (5 : Int32)) - (2 : Int32)).toInt64)) st_INT8 st_INT16 st_INT32 st_INT64)), .val (.ref (own_ns ((vv >>> ((s_ &&& (63 : Int32)) &&& 0x3f).toInt64) + ((((d_ &&& (2147483647 : Int32)) % (5 : Int32)) - (2 : Int32)).toInt64)) st_INT8 st_INT16 st_INT32 st_INT64))] [(.ref (own_ref ((vv >>> ((s_ &&& (63 : Int32)) &&& 0x3f).toInt64) + ((((d_ &&& (2147483647 : Int32)) % (5 : Int32)) - (2 : Int32)).toInt64)) st_INT8 st_INT16 st_INT32 st_INT64)), (.ref (own_ns ((vv >>> ((s_ &&& (63 : Int32)) &&& 0x3f).toInt64) + ((((d_ &&& (2147483647 : Int32)) % (5 : Int32)) - (2 : Int32)).toInt64)) st_INT8 st_INT16 st_INT32 st_INT64))])) X7 hx rfl rfl rfl (pc0 := 44) (pc' := 47) (same := true) rfl (hb hby at_44) rfl (decide_eq_true (congrArg Value.ref hc44_10)) (by decide) (by decide) ?_
    show Steps p.tables e below (T7.setTop (mkF m 47 #[.val (.long vv), .second, .val (.int s_), .val (.int d_), .val (.long (vv >>> ((s_ &&& (63 : Int32)) &&& 0x3f).toInt64)), .second, .val (.long ((((d_ &&& (2147483647 : Int32)) % (5 : Int32)) - (2 : Int32)).toInt64)), .second, .val (.long ((vv >>> ((s_ &&& (63 : Int32)) &&& 0x3f).toInt64) + ((((d_ &&& (2147483647 : Int32)) % (5 : Int32)) - (2 : Int32)).toInt64))), .second, .val (.ref (own_ref ((vv >>> ((s_ &&& (63 : Int32)) &&& 0x3f).toInt64) + ((((d_ &&& (2147483647 : Int32)) % (5 : Int32)) - (2 : Int32)).toInt64)) st_INT8 st_INT16 st_INT32 st_INT64)), .val (.ref (own_ns ((vv >>> ((s_ &&& (63 : Int32)) &&& 0x3f).toInt64) + ((((d_ &&& (2147483647 : Int32)) % (5 : Int32)) - (2 : Int32)).toInt64)) st_INT8 st_INT16 st_INT32 st_INT64))] [])) t
    refine XS.iconst X7.here hx rfl (hb hby at_47) ?_
    show Steps p.tables e below (T7.setTop (mkF m 48 #[.val (.long vv), .second, .val (.int s_), .val (.int d_), .val (.long (vv >>> ((s_ &&& (63 : Int32)) &&& 0x3f).toInt64)), .second, .val (.long ((((d_ &&& (2147483647 : Int32)) % (5 : Int32)) - (2 : Int32)).toInt64)), .second, .val (.long ((vv >>> ((s_ &&& (63 : Int32)) &&& 0x3f).toInt64) + ((((d_ &&& (2147483647 : Int32)) % (5 : Int32)) - (2 : Int32)).toInt64))), .second, .val (.ref (own_ref ((vv >>> ((s_ &&& (63 : Int32)) &&& 0x3f).toInt64) + ((((d_ &&& (2147483647 : Int32)) % (5 : Int32)) - (2 : Int32)).toInt64)) st_INT8 st_INT16 st_INT32 st_INT64)), .val (.ref (own_ns ((vv >>> ((s_ &&& (63 : Int32)) &&& 0x3f).toInt64) + ((((d_ &&& (2147483647 : Int32)) % (5 : Int32)) - (2 : Int32)).toInt64)) st_INT8 st_INT16 st_INT32 st_INT64))] [(.int (1 : Int32))])) t
    refine XS.goto X7.here hx rfl (pc0 := 48) (pc' := 52) rfl (hb hby at_48) (by decide) (by decide) ?_
    exact kt
  obtain ⟨fs, hr, hrun, hended, hW, hsame⟩ := X7.leave (v := some (.int (nar .boolean (1 : Int32)))) (fun h => by rw [Bd.returns] at h; cases h)
  refine ⟨_, _, S11 _ ?_, hrun, hended, _, _, rfl, ?_, ⟨_, rfl⟩, hW, hsame.mono (by decide) (by decide)⟩
  · show Steps p.tables e below (T7.setTop (mkF m 52 #[.val (.long vv), .second, .val (.int s_), .val (.int d_), .val (.long (vv >>> ((s_ &&& (63 : Int32)) &&& 0x3f).toInt64)), .second, .val (.long ((((d_ &&& (2147483647 : Int32)) % (5 : Int32)) - (2 : Int32)).toInt64)), .second, .val (.long ((vv >>> ((s_ &&& (63 : Int32)) &&& 0x3f).toInt64) + ((((d_ &&& (2147483647 : Int32)) % (5 : Int32)) - (2 : Int32)).toInt64))), .second, .val (.ref (own_ref ((vv >>> ((s_ &&& (63 : Int32)) &&& 0x3f).toInt64) + ((((d_ &&& (2147483647 : Int32)) % (5 : Int32)) - (2 : Int32)).toInt64)) st_INT8 st_INT16 st_INT32 st_INT64)), .val (.ref (own_ns ((vv >>> ((s_ &&& (63 : Int32)) &&& 0x3f).toInt64) + ((((d_ &&& (2147483647 : Int32)) % (5 : Int32)) - (2 : Int32)).toInt64)) st_INT8 st_INT16 st_INT32 st_INT64))] [(.int (1 : Int32))])) _
    exact retN X7 hx (t := .boolean) Bd.returns (by simp) (hb hby at_52) hr
  · show own_Q0 Z vv s_ d_ st_INT8 st_INT16 st_INT32 st_INT64 h0 n0 _ T7.heap _
    rw [eq5]
    exact ⟨rfl, N0⟩
set_option maxHeartbeats 40000000 in
theorem own_comes {Post : Tables → Env → Array Value → State → Outcome → State → Prop} (hpost : ∀ tb e args s v u, (limb_1_1.after args s (.returned v) u = true ∧ limb_1_2.after args s (.returned v) u = true ∧ True) → FrameEnd s (.returned v) u (Jvm.fieldLocs frame_1_writes args s ++ Jvm.arrayLocs frame_1_arrays args s ++ Jvm.staticLocs frame_1_statics s) 0 0 → Post tb e args s (.returned v) u) :
    ArmFor flags0 classFile x code maxLocals ret World_1 tables_1 room_1 Calls_1 rest_1 Pre_1 Post := by
  intro l hfl _ _ p e ha hc hk s m args below hf hA hF happ hP
  obtain ⟨hcalls, hrest, hpre⟩ := hP
  obtain ⟨-, -, -, hnamed, -, -, -, hat⟩ := (Spec.applies_iff hf).mp happ
  obtain ⟨hg, hn⟩ := and_e (Cond.before_iff.mp (show (Jvm.Cond.and given_1 narrow_1).before args s = true from hpre))
  obtain ⟨g1, g2⟩ := and_e hg
  obtain ⟨g3, g4⟩ := and_e g2
  obtain ⟨g5, g6⟩ := and_e g4
  obtain ⟨g7, g8⟩ := and_e hn
  obtain ⟨g9, g10⟩ := and_e g8
  obtain ⟨g11, g12⟩ := and_e g10
  obtain ⟨w0, w1, w2, rfl⟩ : ∃ w0 w1 w2 : Value, args = #[w0, w1, w2] := by
    have hs : args.size = 3 := by simpa [Cond.value, given_1] using g1
    obtain ⟨L⟩ := args
    match L, hs with
    | [w0, w1, w2], _ => exact ⟨w0, w1, w2, rfl⟩
  have hw := fun d (hd : d ∈ tables_1) => atoms_spec (ws := Jvm.Cond.code x code maxLocals ret :: tables_1) hat d (List.mem_cons_of_mem _ hd)
  have hfit : Fit s := fun {y c} hc i hi => by
    obtain ⟨ha, rfl⟩ := Array.getElem?_eq_some_iff.mp hc
    have q := List.all_eq_true.mp ((Array.all_eq_true_iff_forall_mem.mp hF) _ (Array.getElem_mem ha)) i (List.mem_range.mpr hi)
    simpa [Array.getElem?_eq_getElem hi] using q
  obtain ⟨i0, ei0⟩ := isL_v g3
  obtain rfl : w0 = (.long i0) := Option.some.inj ei0
  obtain ⟨i1, ei1⟩ := is_v g5
  obtain rfl : w1 = (.int i1) := Option.some.inj ei1
  obtain ⟨i2, ei2⟩ := is_v g6
  obtain rfl : w2 = (.int i2) := Option.some.inj ei2
  obtain ⟨st_INT8, ev_INT8⟩ := exa_v g7
  have S_INT8 : Sta s s.heap "com/example/quillpack/quillpack/binary/TypeCode" "INT8" "Lcom/example/quillpack/quillpack/binary/TypeCode;" (.ref st_INT8) := Sta.start ev_INT8 (Or.inr ⟨(hw _ (List.mem_of_getElem? (i := 8) rfl)), (hw _ (List.mem_of_getElem? (i := 9) rfl))⟩)
  have E_INT8 : Exa s s.heap st_INT8 "com/example/quillpack/quillpack/binary/TypeCode" := Exa.start ev_INT8 g7
  obtain ⟨st_INT64, ev_INT64⟩ := exa_v g9
  have S_INT64 : Sta s s.heap "com/example/quillpack/quillpack/binary/TypeCode" "INT64" "Lcom/example/quillpack/quillpack/binary/TypeCode;" (.ref st_INT64) := Sta.start ev_INT64 (Or.inr ⟨(hw _ (List.mem_of_getElem? (i := 8) rfl)), (hw _ (List.mem_of_getElem? (i := 17) rfl))⟩)
  have E_INT64 : Exa s s.heap st_INT64 "com/example/quillpack/quillpack/binary/TypeCode" := Exa.start ev_INT64 g9
  obtain ⟨st_INT32, ev_INT32⟩ := exa_v g11
  have S_INT32 : Sta s s.heap "com/example/quillpack/quillpack/binary/TypeCode" "INT32" "Lcom/example/quillpack/quillpack/binary/TypeCode;" (.ref st_INT32) := Sta.start ev_INT32 (Or.inr ⟨(hw _ (List.mem_of_getElem? (i := 8) rfl)), (hw _ (List.mem_of_getElem? (i := 21) rfl))⟩)
  have E_INT32 : Exa s s.heap st_INT32 "com/example/quillpack/quillpack/binary/TypeCode" := Exa.start ev_INT32 g11
  obtain ⟨st_INT16, ev_INT16⟩ := exa_v g12
  have S_INT16 : Sta s s.heap "com/example/quillpack/quillpack/binary/TypeCode" "INT16" "Lcom/example/quillpack/quillpack/binary/TypeCode;" (.ref st_INT16) := Sta.start ev_INT16 (Or.inr ⟨(hw _ (List.mem_of_getElem? (i := 8) rfl)), (hw _ (List.mem_of_getElem? (i := 25) rfl))⟩)
  have E_INT16 : Exa s s.heap st_INT16 "com/example/quillpack/quillpack/binary/TypeCode" := Exa.start ev_INT16 g12
  obtain ⟨n, o, h1, h2, h3, _, L, rfl, ⟨rfl, N⟩, hq⟩ := own_rm0 l s _ hw tables_1 i0 i1 i2 st_INT8 st_INT16 st_INT32 st_INT64 s.heap s.heap.size (Nat.le_refl _) S_INT8 S_INT16 S_INT32 S_INT64 p e ha hc hk s m _ below hf ((Spec.applies_iff_loose hf).mp happ).1 ⟨rfl, State.Warmed39.refl s, rfl⟩ trivial
  refine ⟨n, _, h1, h2, h3, hpost _ _ _ _ _ _ ⟨Cond.after_iff.mpr rfl, Cond.after_iff.mpr (eq_i res_at (Term.int_eval (1)) rfl), trivial⟩ ⟨hq.1, hq.2.1, (hq.2.2.sift fun y hy => Or.inr (N y hy)).mono (by decide) (by decide)⟩⟩
theorem main_1_1 : Claimed_1_1 := own_comes fun _ _ _ _ _ _ h hF => ⟨h.1, hF⟩
theorem main_1_2 : Claimed_1_2 := own_comes fun _ _ _ _ _ _ h hF => ⟨h.2.1, hF⟩
end Jvm.Pilot.@@N@@
namespace Jvm.Pilot.@@N@@
open Jvm Jvm.ClassFile Sem Op Lib Jvm.Free Jvm.Stand Jvm.Pilot.@@N@@.Jvm.D
/-! MADE BY PROGRAM (witnessworld.py) out of the Statement's table words and the real class files: 12 classes; the members and pool entries that the words name. The judged class is class 1, her method 1. -/
namespace start1
open Jvm.ClassFile
def u (s : String) : CpInfo := .utf8 (stringToUtf16 s)
/-- a pool by its gaps: so many unusable entries, then the entry; so many at the end -/
def gap : Nat → List CpInfo → List CpInfo
  | 0, r => r
  | n + 1, r => .unusable :: gap n r
def poolList (es : List (Nat × CpInfo)) (last : Nat) : List CpInfo := es.foldr (fun e r => gap e.1 (e.2 :: r)) (gap last [])
def pool (es : List (Nat × CpInfo)) (last : Nat) : Array CpInfo := ⟨poolList es last⟩
def fileOf (pool : Array CpInfo) (this : Nat) (attrs : Array Attribute := #[]) (ms : Array MethodInfo := #[]) (fl : Nat := 33) (sup : Nat := 0) (ifs : Array Nat := #[]) (fds : Array FieldInfo := #[]) : ClassFile where
  minorVersion := 0
  majorVersion := 65
  constantPool := pool
  accessFlags := fl
  thisClass := this
  superClass := sup
  interfaces := ifs
  fields := fds
  methods := ms
  attributes := attrs
def plain (name : String) (sup : Option ClassId) : Class where
  name := name
  kind := .ordinary
  loader := none
  accessFlags := 33
  super := sup
  interfaces := #[]
  cf := none
  fields := #[]
  methods := #[]
  instanceTypes := #[]
  staticTypes := #[]
  resolved := #[]
  callSites := []
  init := .initialized
  statics := none
  mirror := none

def pool0 : Array CpInfo := pool [(5, u "<init>"), (0, u "()V"), (1, .class_ 10), (1, u "java/lang/Object")] 113

def k0m0 : Method := { name := "<init>", desc := "()V", sig := { parameters := [], returnType := none }, accessFlags := 1, code := none }
/-- java/lang/Object -/
def k0 : Class := { plain "java/lang/Object" none with
  accessFlags := 33
  interfaces := #[]
  cf := some (fileOf pool0 8 #[] #[{ accessFlags := 1, nameIndex := 5, descriptorIndex := 6, attributes := #[] }] 33 0 #[] #[])
  fields := #[]
  methods := #[k0m0]
  instanceTypes := #[]
  staticTypes := #[]
  resolved := Array.replicate 124 none
  statics := none }

def pool1 : Array CpInfo := pool [(2, .class_ 4), (1, u "java/lang/Object"), (0, u "<init>"), (0, u "()V"), (0, .integer 2147483647), (0, .methodref 9 10), (0, .class_ 11), (0, .nameAndType 12 13), (0, u "com/example/quillpack/quillpack/binary/TypeCodeNarrowestSignedPinLaw"), (0, u "reference"), (0, u "(J)Lcom/example/quillpack/quillpack/binary/TypeCode;"), (0, .methodref 15 16), (0, .class_ 17), (0, .nameAndType 18 13), (0, u "com/example/quillpack/quillpack/binary/TypeCode"), (0, u "narrowestSigned"), (0, .long 18446744073709551488), (1, .long 127), (1, .fieldref 15 24), (0, .nameAndType 25 26), (0, u "INT8"), (0, u "Lcom/example/quillpack/quillpack/binary/TypeCode;"), (0, .long 18446744073709518848), (1, .long 32767), (1, .fieldref 15 32), (0, .nameAndType 33 26), (0, u "INT16"), (0, .long 18446744071562067968), (1, .long 2147483647), (1, .fieldref 15 39), (0, .nameAndType 40 26), (0, u "INT32"), (0, .fieldref 15 42), (0, .nameAndType 43 26), (0, u "INT64"), (2, u "law"), (0, u "(JII)Z")] 3

def k1m0 : Method := { name := "<init>", desc := "()V", sig := { parameters := [], returnType := none }, accessFlags := 2, code := none }
def k1c1 : Code := { maxStack := 4, maxLocals := 12, code := code, exceptionTable := #[], attributes := #[] }
def k1m1 : Method := { name := "law", desc := "(JII)Z", sig := { parameters := [.long, .int, .int], returnType := some .boolean }, accessFlags := 9, code := some k1c1 }
def k1c2 : Code := { maxStack := 4, maxLocals := 2, code := method_3_code, exceptionTable := #[], attributes := #[] }
def k1m2 : Method := { name := "reference", desc := "(J)Lcom/example/quillpack/quillpack/binary/TypeCode;", sig := { parameters := [.long], returnType := some (.object "com/example/quillpack/quillpack/binary/TypeCode") }, accessFlags := 10, code := some k1c2 }
/-- com/example/quillpack/quillpack/binary/TypeCodeNarrowestSignedPinLaw -/
def k1 : Class := { plain "com/example/quillpack/quillpack/binary/TypeCodeNarrowestSignedPinLaw" (some 0) with
  accessFlags := 49
  interfaces := #[]
  cf := some (fileOf pool1 9 #[] #[{ accessFlags := 2, nameIndex := 5, descriptorIndex := 6, attributes := #[] }, { accessFlags := 9, nameIndex := 46, descriptorIndex := 47, attributes := #[] }, { accessFlags := 10, nameIndex := 12, descriptorIndex := 13, attributes := #[] }] 49 2 #[] #[])
  fields := #[]
  methods := #[k1m0, k1m1, k1m2]
  instanceTypes := #[]
  staticTypes := #[]
  resolved := Array.replicate 51 none
  statics := none }

def pool2 : Array CpInfo := pool [(1, .class_ 2), (0, u "java/lang/constant/Constable"), (0, .class_ 4), (0, u "java/lang/Object")] 6

/-- java/lang/constant/Constable -/
def k2 : Class := { plain "java/lang/constant/Constable" (some 0) with
  accessFlags := 1537
  interfaces := #[]
  cf := some (fileOf pool2 1 #[] #[] 1537 3 #[] #[])
  fields := #[]
  methods := #[]
  instanceTypes := #[]
  staticTypes := #[]
  resolved := Array.replicate 11 none
  statics := none }

def pool3 : Array CpInfo := pool [(1, .class_ 2), (0, u "java/lang/Comparable"), (0, .class_ 4), (0, u "java/lang/Object")] 7

/-- java/lang/Comparable -/
def k3 : Class := { plain "java/lang/Comparable" (some 0) with
  accessFlags := 1537
  interfaces := #[]
  cf := some (fileOf pool3 1 #[] #[] 1537 3 #[] #[])
  fields := #[]
  methods := #[]
  instanceTypes := #[]
  staticTypes := #[]
  resolved := Array.replicate 12 none
  statics := none }

def pool4 : Array CpInfo := pool [(1, .class_ 2), (0, u "java/io/Serializable"), (0, .class_ 4), (0, u "java/lang/Object")] 2

/-- java/io/Serializable -/
def k4 : Class := { plain "java/io/Serializable" (some 0) with
  accessFlags := 1537
  interfaces := #[]
  cf := some (fileOf pool4 1 #[] #[] 1537 3 #[] #[])
  fields := #[]
  methods := #[]
  instanceTypes := #[]
  staticTypes := #[]
  resolved := Array.replicate 7 none
  statics := none }

def pool5 : Array CpInfo := pool [(2, .class_ 4), (1, u "java/lang/Enum"), (0, u "name"), (0, u "Ljava/lang/String;"), (2, u "ordinal"), (0, u "I"), (1, .class_ 14), (1, u "java/lang/Object"), (4, u "hash"), (86, .class_ 108), (1, u "java/lang/Enum$EnumDesc"), (2, .class_ 112), (0, u "java/lang/constant/Constable"), (0, .class_ 114), (0, u "java/lang/Comparable"), (0, .class_ 116), (0, u "java/io/Serializable")] 87

/-- java/lang/Enum -/
def k5 : Class := { plain "java/lang/Enum" (some 0) with
  accessFlags := 1057
  interfaces := #[2, 3, 4]
  cf := some (fileOf pool5 2 #[.nestMembers #[106]] #[] 1057 12 #[111, 113, 115] #[{ accessFlags := 18, nameIndex := 5, descriptorIndex := 6, attributes := #[] }, { accessFlags := 18, nameIndex := 9, descriptorIndex := 10, attributes := #[] }, { accessFlags := 2, nameIndex := 19, descriptorIndex := 10, attributes := #[] }])
  fields := #[{ name := "name", type := (.object "java/lang/String"), accessFlags := 18, slot := 0, constantValue := 0 }, { name := "ordinal", type := .int, accessFlags := 18, slot := 1, constantValue := 0 }, { name := "hash", type := .int, accessFlags := 2, slot := 2, constantValue := 0 }]
  methods := #[]
  instanceTypes := #[(.object "java/lang/String"), .int, .int]
  staticTypes := #[]
  resolved := Array.replicate 204 none
  statics := none }

def pool6 : Array CpInfo := pool [(1, .class_ 2), (0, u "com/example/quillpack/quillpack/binary/TypeCode"), (2, u "NULL"), (0, u "Lcom/example/quillpack/quillpack/binary/TypeCode;"), (2, u "BOOL"), (0, .fieldref 1 11), (0, .nameAndType 12 6), (0, u "INT8"), (0, .fieldref 1 14), (0, .nameAndType 15 6), (0, u "INT16"), (0, .fieldref 1 17), (0, .nameAndType 18 6), (0, u "INT32"), (0, .fieldref 1 20), (0, .nameAndType 21 6), (0, u "INT64"), (2, u "UINT8"), (2, u "UINT16"), (2, u "UINT32"), (2, u "UINT64"), (2, u "FLOAT32"), (2, u "FLOAT64"), (2, u "STRING"), (2, u "BYTES"), (2, u "JSONNUMBER"), (2, u "ARRAY"), (2, u "OBJECT"), (2, u "STRUCT"), (2, u "MAP"), (2, u "TUPLE"), (2, u "REF"), (2, u "TAGGED"), (2, u "TIMESTAMP"), (2, u "$VALUES"), (0, u "[Lcom/example/quillpack/quillpack/binary/TypeCode;"), (6, .class_ 85), (1, u "java/lang/Enum"), (8, u "code"), (0, u "I"), (2, u "BY_CODE"), (24, u "narrowestSigned"), (0, u "(J)Lcom/example/quillpack/quillpack/binary/TypeCode;")] 96

def k6c0 : Code := { maxStack := 4, maxLocals := 2, code := prog_28_method_7_code, exceptionTable := #[], attributes := #[] }
def k6m0 : Method := { name := "narrowestSigned", desc := "(J)Lcom/example/quillpack/quillpack/binary/TypeCode;", sig := { parameters := [.long], returnType := some (.object "com/example/quillpack/quillpack/binary/TypeCode") }, accessFlags := 8, code := some k6c0 }
/-- com/example/quillpack/quillpack/binary/TypeCode -/
def k6 : Class := { plain "com/example/quillpack/quillpack/binary/TypeCode" (some 5) with
  accessFlags := 16433
  interfaces := #[]
  cf := some (fileOf pool6 1 #[] #[{ accessFlags := 8, nameIndex := 123, descriptorIndex := 124, attributes := #[] }] 16433 83 #[] #[{ accessFlags := 16409, nameIndex := 5, descriptorIndex := 6, attributes := #[] }, { accessFlags := 16409, nameIndex := 9, descriptorIndex := 6, attributes := #[] }, { accessFlags := 16409, nameIndex := 12, descriptorIndex := 6, attributes := #[] }, { accessFlags := 16409, nameIndex := 15, descriptorIndex := 6, attributes := #[] }, { accessFlags := 16409, nameIndex := 18, descriptorIndex := 6, attributes := #[] }, { accessFlags := 16409, nameIndex := 21, descriptorIndex := 6, attributes := #[] }, { accessFlags := 16409, nameIndex := 24, descriptorIndex := 6, attributes := #[] }, { accessFlags := 16409, nameIndex := 27, descriptorIndex := 6, attributes := #[] }, { accessFlags := 16409, nameIndex := 30, descriptorIndex := 6, attributes := #[] }, { accessFlags := 16409, nameIndex := 33, descriptorIndex := 6, attributes := #[] }, { accessFlags := 16409, nameIndex := 36, descriptorIndex := 6, attributes := #[] }, { accessFlags := 16409, nameIndex := 39, descriptorIndex := 6, attributes := #[] }, { accessFlags := 16409, nameIndex := 42, descriptorIndex := 6, attributes := #[] }, { accessFlags := 16409, nameIndex := 45, descriptorIndex := 6, attributes := #[] }, { accessFlags := 16409, nameIndex := 48, descriptorIndex := 6, attributes := #[] }, { accessFlags := 16409, nameIndex := 51, descriptorIndex := 6, attributes := #[] }, { accessFlags := 16409, nameIndex := 54, descriptorIndex := 6, attributes := #[] }, { accessFlags := 16409, nameIndex := 57, descriptorIndex := 6, attributes := #[] }, { accessFlags := 16409, nameIndex := 60, descriptorIndex := 6, attributes := #[] }, { accessFlags := 16409, nameIndex := 63, descriptorIndex := 6, attributes := #[] }, { accessFlags := 16409, nameIndex := 66, descriptorIndex := 6, attributes := #[] }, { accessFlags := 16409, nameIndex := 69, descriptorIndex := 6, attributes := #[] }, { accessFlags := 16409, nameIndex := 72, descriptorIndex := 6, attributes := #[] }, { accessFlags := 26, nameIndex := 98, descriptorIndex := 76, attributes := #[] }, { accessFlags := 18, nameIndex := 94, descriptorIndex := 95, attributes := #[] }, { accessFlags := 4122, nameIndex := 75, descriptorIndex := 76, attributes := #[] }])
  fields := #[{ name := "NULL", type := (.object "com/example/quillpack/quillpack/binary/TypeCode"), accessFlags := 16409, slot := 0, constantValue := 0 }, { name := "BOOL", type := (.object "com/example/quillpack/quillpack/binary/TypeCode"), accessFlags := 16409, slot := 1, constantValue := 0 }, { name := "INT8", type := (.object "com/example/quillpack/quillpack/binary/TypeCode"), accessFlags := 16409, slot := 2, constantValue := 0 }, { name := "INT16", type := (.object "com/example/quillpack/quillpack/binary/TypeCode"), accessFlags := 16409, slot := 3, constantValue := 0 }, { name := "INT32", type := (.object "com/example/quillpack/quillpack/binary/TypeCode"), accessFlags := 16409, slot := 4, constantValue := 0 }, { name := "INT64", type := (.object "com/example/quillpack/quillpack/binary/TypeCode"), accessFlags := 16409, slot := 5, constantValue := 0 }, { name := "UINT8", type := (.object "com/example/quillpack/quillpack/binary/TypeCode"), accessFlags := 16409, slot := 6, constantValue := 0 }, { name := "UINT16", type := (.object "com/example/quillpack/quillpack/binary/TypeCode"), accessFlags := 16409, slot := 7, constantValue := 0 }, { name := "UINT32", type := (.object "com/example/quillpack/quillpack/binary/TypeCode"), accessFlags := 16409, slot := 8, constantValue := 0 }, { name := "UINT64", type := (.object "com/example/quillpack/quillpack/binary/TypeCode"), accessFlags := 16409, slot := 9, constantValue := 0 }, { name := "FLOAT32", type := (.object "com/example/quillpack/quillpack/binary/TypeCode"), accessFlags := 16409, slot := 10, constantValue := 0 }, { name := "FLOAT64", type := (.object "com/example/quillpack/quillpack/binary/TypeCode"), accessFlags := 16409, slot := 11, constantValue := 0 }, { name := "STRING", type := (.object "com/example/quillpack/quillpack/binary/TypeCode"), accessFlags := 16409, slot := 12, constantValue := 0 }, { name := "BYTES", type := (.object "com/example/quillpack/quillpack/binary/TypeCode"), accessFlags := 16409, slot := 13, constantValue := 0 }, { name := "JSONNUMBER", type := (.object "com/example/quillpack/quillpack/binary/TypeCode"), accessFlags := 16409, slot := 14, constantValue := 0 }, { name := "ARRAY", type := (.object "com/example/quillpack/quillpack/binary/TypeCode"), accessFlags := 16409, slot := 15, constantValue := 0 }, { name := "OBJECT", type := (.object "com/example/quillpack/quillpack/binary/TypeCode"), accessFlags := 16409, slot := 16, constantValue := 0 }, { name := "STRUCT", type := (.object "com/example/quillpack/quillpack/binary/TypeCode"), accessFlags := 16409, slot := 17, constantValue := 0 }, { name := "MAP", type := (.object "com/example/quillpack/quillpack/binary/TypeCode"), accessFlags := 16409, slot := 18, constantValue := 0 }, { name := "TUPLE", type := (.object "com/example/quillpack/quillpack/binary/TypeCode"), accessFlags := 16409, slot := 19, constantValue := 0 }, { name := "REF", type := (.object "com/example/quillpack/quillpack/binary/TypeCode"), accessFlags := 16409, slot := 20, constantValue := 0 }, { name := "TAGGED", type := (.object "com/example/quillpack/quillpack/binary/TypeCode"), accessFlags := 16409, slot := 21, constantValue := 0 }, { name := "TIMESTAMP", type := (.object "com/example/quillpack/quillpack/binary/TypeCode"), accessFlags := 16409, slot := 22, constantValue := 0 }, { name := "BY_CODE", type := (.array (.object "com/example/quillpack/quillpack/binary/TypeCode")), accessFlags := 26, slot := 23, constantValue := 0 }, { name := "code", type := .int, accessFlags := 18, slot := 3, constantValue := 0 }, { name := "$VALUES", type := (.array (.object "com/example/quillpack/quillpack/binary/TypeCode")), accessFlags := 4122, slot := 24, constantValue := 0 }]
  methods := #[k6m0]
  instanceTypes := #[(.object "java/lang/String"), .int, .int, .int]
  staticTypes := #[(.object "com/example/quillpack/quillpack/binary/TypeCode"), (.object "com/example/quillpack/quillpack/binary/TypeCode"), (.object "com/example/quillpack/quillpack/binary/TypeCode"), (.object "com/example/quillpack/quillpack/binary/TypeCode"), (.object "com/example/quillpack/quillpack/binary/TypeCode"), (.object "com/example/quillpack/quillpack/binary/TypeCode"), (.object "com/example/quillpack/quillpack/binary/TypeCode"), (.object "com/example/quillpack/quillpack/binary/TypeCode"), (.object "com/example/quillpack/quillpack/binary/TypeCode"), (.object "com/example/quillpack/quillpack/binary/TypeCode"), (.object "com/example/quillpack/quillpack/binary/TypeCode"), (.object "com/example/quillpack/quillpack/binary/TypeCode"), (.object "com/example/quillpack/quillpack/binary/TypeCode"), (.object "com/example/quillpack/quillpack/binary/TypeCode"), (.object "com/example/quillpack/quillpack/binary/TypeCode"), (.object "com/example/quillpack/quillpack/binary/TypeCode"), (.object "com/example/quillpack/quillpack/binary/TypeCode"), (.object "com/example/quillpack/quillpack/binary/TypeCode"), (.object "com/example/quillpack/quillpack/binary/TypeCode"), (.object "com/example/quillpack/quillpack/binary/TypeCode"), (.object "com/example/quillpack/quillpack/binary/TypeCode"), (.object "com/example/quillpack/quillpack/binary/TypeCode"), (.object "com/example/quillpack/quillpack/binary/TypeCode"), (.array (.object "com/example/quillpack/quillpack/binary/TypeCode")), (.array (.object "com/example/quillpack/quillpack/binary/TypeCode"))]
  resolved := Array.replicate 221 none
  statics := some 0 }

def pool7 : Array CpInfo := pool [(1, u "java/lang/Cloneable"), (0, .class_ 1), (0, u "java/lang/Object"), (0, .class_ 3)] 3

/-- java/lang/Cloneable -/
def k7 : Class := { plain "java/lang/Cloneable" (some 0) with
  accessFlags := 1537
  interfaces := #[]
  cf := some (fileOf pool7 2 #[] #[] 1537 4 #[] #[])
  fields := #[]
  methods := #[]
  instanceTypes := #[]
  staticTypes := #[]
  resolved := Array.replicate 8 none
  statics := none }

/-- the primitive byte -/
def k8 : Class := { plain "byte" none with kind := .primitive 'B', accessFlags := 0x411 }
/-- [B -/
def k9 : Class := { plain "[B" (some 0) with kind := .array 8 .byte, interfaces := #[7, 4], accessFlags := 1041 }

/-- the primitive int -/
def k10 : Class := { plain "int" none with kind := .primitive 'I', accessFlags := 0x411 }
/-- [I -/
def k11 : Class := { plain "[I" (some 0) with kind := .array 10 .int, interfaces := #[7, 4], accessFlags := 1041 }

def heap : Heap := #[{ cls := 6, slots := #[.null, .null, .ref 1, .ref 2, .ref 3, .ref 4, .null, .null, .null, .null, .null, .null, .null, .null, .null, .null, .null, .null, .null, .null, .null, .null, .null, .null, .null], vm := .statics 6 },
  { cls := 6, slots := #[.null, .int 2, .int 0, .int 0], vm := .none },
  { cls := 6, slots := #[.null, .int 3, .int 0, .int 0], vm := .none },
  { cls := 6, slots := #[.null, .int 4, .int 0, .int 0], vm := .none },
  { cls := 6, slots := #[.null, .int 5, .int 0, .int 0], vm := .none }]
def classes : Array Class := #[k0, k1, k2, k3, k4, k5, k6, k7, k8, k9, k10, k11]
def interned : List (Array UInt16 × Addr) := []
def slotsUsed : Nat := 41
def theMethod : MethodId := ⟨1, 1⟩
def args0 : Array Value := #[.long 1, .int 2, .int 3]
def aboutOver (below : List Frame) : State where
  vm := { classes := classes, interned := interned.toArray }
  heap := heap
  slotsUsed := slotsUsed
  threads := #[{ frames := .invoking theMethod args0 :: below }]
def below0 : List Frame := [.native { method := ⟨0, 0⟩, args := #[] }]
def about1 : State := aboutOver below0
def p0 : Program := .bare "" "" ""
def e0 : Env := launch0.env 0 0 0
theorem w_frames : about1.frames = Frame.invoking theMethod args0 :: below0 := rfl
set_option maxRecDepth 65536 in
theorem w_args : argsFit about1.vm theMethod args0 = true := by decide +kernel
set_option maxRecDepth 65536 in
theorem w_heap : heapFits about1 = true := by decide +kernel
set_option maxRecDepth 65536 in
theorem w_runnable : about1.curStatus? = some .runnable := by decide +kernel
set_option maxRecDepth 65536 in
theorem w_alone : about1.alone = true := by decide +kernel
set_option maxRecDepth 65536 in
theorem w_named : about1.methodNamed? x = some theMethod := by decide +kernel
set_option maxRecDepth 65536 in
theorem w_hears : about1.hears theMethod below0 = true := by decide +kernel
set_option maxRecDepth 65536 in
theorem w_ripe : about1.ripe theMethod args0 below0 = true := by decide +kernel
theorem w_running : about1.status = .running := rfl
set_option maxRecDepth 65536 in
theorem w_room : about1.hasRoom e0.platform room_1 = true :=
  launch0.hasRoom_least _ room_1 (by decide +kernel) (by decide +kernel) (by decide +kernel) (by decide +kernel) (by decide +kernel) (by decide +kernel)
theorem allAtoms_all (ts : List Jvm.Cond) (a : Array Jvm.Value) (st : Jvm.State) : (allAtoms ts).before a st = ts.all (fun c => c.before a st) := by
  induction ts with
  | nil => rfl
  | cons c t ih =>
    show (Jvm.Cond.and c (allAtoms t)).before a st = _
    rw [Jvm.Cond.before_and, ih, List.all_cons]
def words1 : List Jvm.Cond := Jvm.Cond.code x code maxLocals ret :: tables_1
/-- a 'code' word, met by the world's own term for the bytes: nothing is compared byte by byte -/
theorem code_word {y : MethodName} {bytes : ByteArray} {mx : Nat} {rt : Option FieldType} {a : Array Value} {s : State} {m : MethodId} {meth : Method} {c : Code} (h1 : s.methodNamed? y = some m) (h2 : s.vm.method? m = some meth) (h3 : meth.code = some c) (h4 : c.code = bytes)
    (h5 : (c.maxLocals == mx && c.exceptionTable.isEmpty && decide (c.maxStack ≤ mostOperands) && decide (meth.sig.returnType = rt) && !meth.locks && decide (parseMethodDescriptor y.desc = some meth.sig)) = true) : (Jvm.Cond.code y bytes mx rt).before a s = true := by
  simp only [Bool.and_eq_true, beq_iff_eq, Bool.not_eq_true', decide_eq_true_eq] at h5
  obtain ⟨⟨⟨⟨⟨g1, g2⟩, g3⟩, g4⟩, g5⟩, g6⟩ := h5
  simp [Cond.before, Cond.holds, Cond.value, h1, h2, h3, h4, g1, g2, g3, g4, g5, g6]
def isCode : Jvm.Cond → Bool
  | .code _ _ _ _ => true
  | _ => false
theorem all_split {L : List Jvm.Cond} {P : Jvm.Cond → Bool} (h1 : L.all (fun c => isCode c || P c) = true) (h2 : ∀ c ∈ L.filter isCode, P c = true) : L.all P = true := by
  refine List.all_eq_true.mpr fun c hc => ?_
  have h := List.all_eq_true.mp h1 c hc
  rcases Bool.eq_false_or_eq_true (isCode c) with hi | hi
  · exact h2 c (List.mem_filter.mpr ⟨hc, hi⟩)
  · simpa [hi] using h
set_option maxRecDepth 65536 in
theorem w_c0 : (Jvm.Cond.code x code maxLocals ret).before args0 about1 = true := code_word (m := ⟨1, 1⟩) (meth := k1m1) (c := k1c1) (by decide +kernel) rfl rfl rfl (by decide +kernel)
set_option maxRecDepth 65536 in
theorem w_c1 : (Jvm.Cond.code ({ cls := "com/example/quillpack/quillpack/binary/TypeCodeNarrowestSignedPinLaw", name := "reference", desc := "(J)Lcom/example/quillpack/quillpack/binary/TypeCode;" } : Jvm.MethodName) method_3_code (2 : Nat) (Option.some (Jvm.ClassFile.FieldType.object "com/example/quillpack/quillpack/binary/TypeCode"))).before args0 about1 = true := code_word (m := ⟨1, 2⟩) (meth := k1m2) (c := k1c2) (by decide +kernel) rfl rfl rfl (by decide +kernel)
set_option maxRecDepth 65536 in
theorem w_c2 : (Jvm.Cond.code ({ cls := "com/example/quillpack/quillpack/binary/TypeCode", name := "narrowestSigned", desc := "(J)Lcom/example/quillpack/quillpack/binary/TypeCode;" } : Jvm.MethodName) prog_28_method_7_code (2 : Nat) (Option.some (Jvm.ClassFile.FieldType.object "com/example/quillpack/quillpack/binary/TypeCode"))).before args0 about1 = true := code_word (m := ⟨6, 0⟩) (meth := k6m0) (c := k6c0) (by decide +kernel) rfl rfl rfl (by decide +kernel)
def codes1 : List Jvm.Cond := [Jvm.Cond.code x code maxLocals ret, Jvm.Cond.code ({ cls := "com/example/quillpack/quillpack/binary/TypeCodeNarrowestSignedPinLaw", name := "reference", desc := "(J)Lcom/example/quillpack/quillpack/binary/TypeCode;" } : Jvm.MethodName) method_3_code (2 : Nat) (Option.some (Jvm.ClassFile.FieldType.object "com/example/quillpack/quillpack/binary/TypeCode")), Jvm.Cond.code ({ cls := "com/example/quillpack/quillpack/binary/TypeCode", name := "narrowestSigned", desc := "(J)Lcom/example/quillpack/quillpack/binary/TypeCode;" } : Jvm.MethodName) prog_28_method_7_code (2 : Nat) (Option.some (Jvm.ClassFile.FieldType.object "com/example/quillpack/quillpack/binary/TypeCode"))]
set_option maxRecDepth 65536 in
theorem codes_eq : words1.filter isCode = codes1 := rfl
theorem w_codes : ∀ c ∈ words1.filter isCode, c.before args0 about1 = true := by
  rw [codes_eq]
  intro c hc
  simp only [codes1, List.mem_cons, List.not_mem_nil, or_false] at hc
  rcases hc with rfl | rfl | rfl
  · exact w_c0
  · exact w_c1
  · exact w_c2
set_option maxRecDepth 65536 in
theorem w_t1 : (words1.take 24).all (fun c => isCode c || c.before args0 about1) = true := by decide +kernel
set_option maxRecDepth 65536 in
theorem w_t2 : (words1.drop 24).all (fun c => isCode c || c.before args0 about1) = true := by decide +kernel
theorem w_tables : (allAtoms (Jvm.Cond.code x code maxLocals ret :: tables_1)).before args0 about1 = true := by
  rw [allAtoms_all]
  show words1.all (fun c => c.before args0 about1) = true
  refine all_split ?_ w_codes
  rw [← List.take_append_drop 24 words1, List.all_append, w_t1, w_t2]
  rfl
set_option maxRecDepth 65536 in
theorem w_case : (Jvm.Cond.and given_1 narrow_1).before args0 about1 = true := by decide +kernel
theorem w_applies : (headSpec (Jvm.Cond.code x code maxLocals ret :: tables_1) room_1).applies x e0.platform about1 = true :=
  (Spec.applies_iff w_frames).mpr ⟨w_running, w_runnable, w_alone, w_named, w_hears, w_ripe, w_room, w_tables⟩
theorem atStart : AtStart classFile x code maxLocals ret World_1 tables_1 room_1 Calls_1 rest_1 Pre_1 launch0 p0 e0 about1 theMethod args0 below0 :=
  ⟨lists_1, trivial, launch0.admits_env _ _ _, launch0.least_env, fairChoices_fair.cas, fairChoices_fair.clock, w_frames, w_args, w_heap, w_applies, trivial, trivial, w_case⟩
end start1
theorem witness_1 : WitnessClaimed_1 := ⟨start1.p0, start1.e0, start1.about1, start1.theMethod, start1.args0, start1.below0, start1.atStart⟩
end Jvm.Pilot.@@N@@
