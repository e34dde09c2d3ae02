import JvmDerived
import JvmDerived.Pilot.@@N@@Statement
import JvmDerived.Pilot.@@N@@Code
set_option linter.unusedVariables false
set_option linter.unusedSimpArgs false
set_option maxRecDepth 65536
namespace Jvm.Pilot.@@N@@
open Jvm Jvm.ClassFile Sem Op Lib Jvm.Free Jvm.Stand Jvm.LawKit Jvm.RoadKit Bundle Jvm.Pilot.@@N@@.Jvm.D
abbrev own_s0 : String := "com/example/invariant_to_halt/invarianttohalt/reader/SourceText"
abbrev own_s1 : String := "java/lang/StringUTF16"
abbrev own_y0 : MethodName := ⟨"com/example/invariant_to_halt/invarianttohalt/reader/SourceText", "<init>", "(Ljava/lang/String;Ljava/lang/String;)V"⟩
abbrev own_y1 : MethodName := ⟨"com/example/invariant_to_halt/invarianttohalt/reader/SourceTextLinePinLaw", "make", "(ICCCCCC)Ljava/lang/String;"⟩
abbrev own_y2 : MethodName := ⟨"com/example/invariant_to_halt/invarianttohalt/reader/SourceTextLinePinLaw", "nl", "(CII)I"⟩
abbrev own_y3 : MethodName := ⟨"com/example/invariant_to_halt/invarianttohalt/reader/SourceTextLinePinLaw", "ch", "(I)C"⟩
abbrev own_y4 : MethodName := ⟨"com/example/invariant_to_halt/invarianttohalt/reader/SourceText", "line", "(I)I"⟩
abbrev own_y5 : MethodName := ⟨"java/lang/String", "<init>", "([CIILjava/lang/Void;)V"⟩
abbrev own_y6 : MethodName := ⟨"java/lang/StringUTF16", "coderFromArrayLen", "([BI)B"⟩
abbrev own_y7 : MethodName := ⟨"java/lang/StringLatin1", "indexOfChar", "([BIII)I"⟩
abbrev own_y8 : MethodName := ⟨"java/lang/StringUTF16", "compress", "([CI[BII)I"⟩
abbrev own_y9 : MethodName := ⟨"java/lang/StringLatin1", "indexOf", "([BIII)I"⟩
abbrev own_y10 : MethodName := ⟨"java/util/Arrays", "binarySearch0", "([IIII)I"⟩
abbrev own_y11 : MethodName := ⟨"java/lang/StringUTF16", "compress", "([CII)[B"⟩
abbrev own_y12 : MethodName := ⟨"java/lang/StringLatin1", "canEncode", "(I)Z"⟩
abbrev own_y13 : MethodName := ⟨"java/util/Arrays", "binarySearch", "([II)I"⟩
abbrev own_y14 : MethodName := ⟨"java/util/Arrays", "copyOf", "([II)[I"⟩
abbrev own_y15 : MethodName := ⟨"java/lang/String", "indexOf", "(II)I"⟩
abbrev own_y16 : MethodName := ⟨"java/lang/String", "indexOf", "(I)I"⟩
abbrev own_y17 : MethodName := ⟨"java/lang/String", "isLatin1", "()Z"⟩
abbrev own_y18 : MethodName := ⟨"java/lang/String", "<init>", "([C)V"⟩
abbrev own_y19 : MethodName := ⟨"java/lang/String", "length", "()I"⟩
abbrev own_y20 : MethodName := ⟨"java/lang/String", "coder", "()B"⟩
abbrev own_y21 : MethodName := ⟨"java/lang/Math", "min", "(II)I"⟩
abbrev own_y22 : MethodName := ⟨"java/lang/Math", "max", "(II)I"⟩
section OwnKit
variable {p : Program} {l : Launch} {e : Env} {R : Room} {s : State} {m : MethodId} {args : Array Value} {below : List Frame} {meth : Method} {c : Code} {T : State} {locs : List Loc} {cells slots : Nat}
theorem own_retI (X : Stand p l e R s m args below meth c T locs cells slots) (hx : p.tables.exec = Jvm.exec) {pc : Nat} {Ls : Array Slot} {z : Int32} {rest : List Value} (hret : meth.sig.returnType = some .int) (hd : decode c.code pc = .ok (.ireturn, 1)) {fs : List Frame}
    (hl : ∀ (f : JFrame) (acts : List Action), f.method = m → f.locked = none → f.entered = [] → (doReturn e (T.setTop f) acts (some (.int z))).1 = T.setFrames fs) : Steps p.tables e below (T.setTop (mkF m pc Ls (.int z :: rest))) (T.setFrames fs) := by
  have hm' : T.vm.method? m = some meth := X.method'
  have hn : narrow .int (.int z) = .int z := rfl
  show Steps p.tables e below (T.setTop { method := m, pc := pc, locals := Ls, stack := _ :: rest, locked := none }) _
  jvm_step X.here [X.here.top, hx, hd, hm', hret, hn]
  first | (intro acts; rw [hl _ acts rfl rfl rfl]) | rw [hl _ _ rfl rfl rfl]
  exact Steps.refl _
/-- what leads on from there leads on from the start s0 -/
abbrev own_G (p : Program) (e : Env) (below : List Frame) (s0 T : State) (m : MethodId) (pc : Nat) (Ls : Array Slot) (St : List Value) : Prop := ∀ t, Steps p.tables e below (T.setTop (mkF m pc Ls St)) t → Steps p.tables e below s0 t
theorem own_w {Z : State} {a0 : Array Value} (hw : ∀ d ∈ tables_1, d.before a0 Z = true) (i : Nat) {d : Jvm.Cond} (h : tables_1[i]? = some d) : d.before a0 Z = true := hw _ (List.mem_of_getElem? h)
/-- where the run stands, with the same writes and figures as at X -/
abbrev own_like (_ : Stand p l e R s m args below meth c T locs cells slots) (T' : State) : Prop := Stand p l e R s m args below meth c T' locs cells slots
end OwnKit
section OwnSteps
variable {p : Program} {l : Launch} {e : Env} {R : Room} {s : State} {m : MethodId} {args : Array Value} {below : List Frame} {meth : Method} {c : Code} {T : State} {locs : List Loc} {cells slots : Nat} {bc : ByteArray} {pc : Nat} {Ls : Array Slot} {St : List Value} {t : State}
theorem w_iloadN (X : Stand p l e R s m args below meth c T locs cells slots) (hx : p.tables.exec = Jvm.exec) (hby : c.code = bc) {k : Fin 4} {v : Int32} (hd : decode bc pc = .ok (.iload_n k, 1)) (hl : Ls[k.val]? = some (.val (.int v))) (hr : Steps p.tables e below (T.setTop (mkF m (pc + 1) Ls (.int v :: St))) t) : Steps p.tables e below (T.setTop (mkF m pc Ls (St))) t := XS.iloadN X.here hx rfl (hb hby hd) hl hr
theorem w_iload (X : Stand p l e R s m args below meth c T locs cells slots) (hx : p.tables.exec = Jvm.exec) (hby : c.code = bc) {k : Nat} {v : Int32} (hd : decode bc pc = .ok (.iload k, 2)) (hl : Ls[k]? = some (.val (.int v))) (hr : Steps p.tables e below (T.setTop (mkF m (pc + 2) Ls (.int v :: St))) t) : Steps p.tables e below (T.setTop (mkF m pc Ls (St))) t := XS.iload X.here hx rfl (hb hby hd) hl hr
theorem w_istoreN (X : Stand p l e R s m args below meth c T locs cells slots) (hx : p.tables.exec = Jvm.exec) (hby : c.code = bc) {k : Fin 4} {v : Int32} {l' : Array Slot} (hd : decode bc pc = .ok (.istore_n k, 1)) (hl : storeLocals Ls k.val (.int v) = some l') (hr : Steps p.tables e below (T.setTop (mkF m (pc + 1) l' (St))) t) : Steps p.tables e below (T.setTop (mkF m pc Ls (.int v :: St))) t := XS.istoreN X.here hx rfl (hb hby hd) rfl hl hr
theorem w_istore (X : Stand p l e R s m args below meth c T locs cells slots) (hx : p.tables.exec = Jvm.exec) (hby : c.code = bc) {k : Nat} {v : Int32} {l' : Array Slot} (hd : decode bc pc = .ok (.istore k, 2)) (hl : storeLocals Ls k (.int v) = some l') (hr : Steps p.tables e below (T.setTop (mkF m (pc + 2) l' (St))) t) : Steps p.tables e below (T.setTop (mkF m pc Ls (.int v :: St))) t := XS.istore X.here hx rfl (hb hby hd) rfl hl hr
theorem w_aloadN (X : Stand p l e R s m args below meth c T locs cells slots) (hx : p.tables.exec = Jvm.exec) (hby : c.code = bc) {k : Fin 4} {v : Value} (hd : decode bc pc = .ok (.aload_n k, 1)) (hl : Ls[k.val]? = some (.val v)) (hv : v.isRef = true) (hr : Steps p.tables e below (T.setTop (mkF m (pc + 1) Ls (v :: St))) t) : Steps p.tables e below (T.setTop (mkF m pc Ls (St))) t := XS.aloadN X.here hx rfl (hb hby hd) hl hv hr
theorem w_aload (X : Stand p l e R s m args below meth c T locs cells slots) (hx : p.tables.exec = Jvm.exec) (hby : c.code = bc) {k : Nat} {v : Value} (hd : decode bc pc = .ok (.aload k, 2)) (hl : Ls[k]? = some (.val v)) (hv : v.isRef = true) (hr : Steps p.tables e below (T.setTop (mkF m (pc + 2) Ls (v :: St))) t) : Steps p.tables e below (T.setTop (mkF m pc Ls (St))) t := XS.aload X.here hx rfl (hb hby hd) hl hv hr
theorem w_astoreN (X : Stand p l e R s m args below meth c T locs cells slots) (hx : p.tables.exec = Jvm.exec) (hby : c.code = bc) {k : Fin 4} {v : Value} {l' : Array Slot} (hd : decode bc pc = .ok (.astore_n k, 1)) (hv : v.isRef = true) (hl : storeLocals Ls k.val v = some l') (hr : Steps p.tables e below (T.setTop (mkF m (pc + 1) l' (St))) t) : Steps p.tables e below (T.setTop (mkF m pc Ls (v :: St))) t := XS.astoreN X.here hx rfl (hb hby hd) rfl hv hl hr
theorem w_astore (X : Stand p l e R s m args below meth c T locs cells slots) (hx : p.tables.exec = Jvm.exec) (hby : c.code = bc) {k : Nat} {v : Value} {l' : Array Slot} (hd : decode bc pc = .ok (.astore k, 2)) (hv : v.isRef = true) (hl : storeLocals Ls k v = some l') (hr : Steps p.tables e below (T.setTop (mkF m (pc + 2) l' (St))) t) : Steps p.tables e below (T.setTop (mkF m pc Ls (v :: St))) t := XS.astore X.here hx rfl (hb hby hd) rfl hv hl hr
theorem w_iconst (X : Stand p l e R s m args below meth c T locs cells slots) (hx : p.tables.exec = Jvm.exec) (hby : c.code = bc) {i : Int} (hd : decode bc pc = .ok (.iconst i, 1)) (hr : Steps p.tables e below (T.setTop (mkF m (pc + 1) Ls (.int (Int32.ofInt i) :: St))) t) : Steps p.tables e below (T.setTop (mkF m pc Ls (St))) t := XS.iconst X.here hx rfl (hb hby hd) hr
theorem w_bipush (X : Stand p l e R s m args below meth c T locs cells slots) (hx : p.tables.exec = Jvm.exec) (hby : c.code = bc) {i : Int} (hd : decode bc pc = .ok (.bipush i, 2)) (hr : Steps p.tables e below (T.setTop (mkF m (pc + 2) Ls (.int (Int8.ofInt i).toInt32 :: St))) t) : Steps p.tables e below (T.setTop (mkF m pc Ls (St))) t := XS.bipush X.here hx rfl (hb hby hd) hr
theorem w_sipush (X : Stand p l e R s m args below meth c T locs cells slots) (hx : p.tables.exec = Jvm.exec) (hby : c.code = bc) {i : Int} (hd : decode bc pc = .ok (.sipush i, 3)) (hr : Steps p.tables e below (T.setTop (mkF m (pc + 3) Ls (.int (Int16.ofInt i).toInt32 :: St))) t) : Steps p.tables e below (T.setTop (mkF m pc Ls (St))) t := XS.sipush X.here hx rfl (hb hby hd) hr
theorem w_iadd (X : Stand p l e R s m args below meth c T locs cells slots) (hx : p.tables.exec = Jvm.exec) (hby : c.code = bc) {x y : Int32} (hd : decode bc pc = .ok (.iadd, 1)) (hr : Steps p.tables e below (T.setTop (mkF m (pc + 1) Ls (.int (x + y) :: St))) t) : Steps p.tables e below (T.setTop (mkF m pc Ls (.int y :: .int x :: St))) t := XS.iadd X.here hx rfl (hb hby hd) rfl hr
theorem w_isub (X : Stand p l e R s m args below meth c T locs cells slots) (hx : p.tables.exec = Jvm.exec) (hby : c.code = bc) {x y : Int32} (hd : decode bc pc = .ok (.isub, 1)) (hr : Steps p.tables e below (T.setTop (mkF m (pc + 1) Ls (.int (x - y) :: St))) t) : Steps p.tables e below (T.setTop (mkF m pc Ls (.int y :: .int x :: St))) t := XS.isub X.here hx rfl (hb hby hd) rfl hr
theorem w_iand (X : Stand p l e R s m args below meth c T locs cells slots) (hx : p.tables.exec = Jvm.exec) (hby : c.code = bc) {x y : Int32} (hd : decode bc pc = .ok (.iand, 1)) (hr : Steps p.tables e below (T.setTop (mkF m (pc + 1) Ls (.int (x &&& y) :: St))) t) : Steps p.tables e below (T.setTop (mkF m pc Ls (.int y :: .int x :: St))) t := XS.iand X.here hx rfl (hb hby hd) rfl hr
theorem w_dup (X : Stand p l e R s m args below meth c T locs cells slots) (hx : p.tables.exec = Jvm.exec) (hby : c.code = bc) {x : Value} (hd : decode bc pc = .ok (.dup, 1)) (hc : x.category = 1) (hr : Steps p.tables e below (T.setTop (mkF m (pc + 1) Ls (x :: x :: St))) t) : Steps p.tables e below (T.setTop (mkF m pc Ls (x :: St))) t := XS.dup X.here hx rfl (hb hby hd) rfl hc hr
theorem w_iinc (X : Stand p l e R s m args below meth c T locs cells slots) (hx : p.tables.exec = Jvm.exec) (hby : c.code = bc) {k : Nat} {cst : Int} {x : Int32} {l' : Array Slot} (hd : decode bc pc = .ok (.iinc k cst, 3)) (hl : Ls[k]? = some (.val (.int x))) (hl' : storeLocals Ls k (.int (x + Int32.ofInt cst)) = some l') (hr : Steps p.tables e below (T.setTop (mkF m (pc + 3) l' (St))) t) : Steps p.tables e below (T.setTop (mkF m pc Ls (St))) t := XS.iinc X.here hx rfl (hb hby hd) hl hl' hr
theorem w_goto (X : Stand p l e R s m args below meth c T locs cells slots) (hx : p.tables.exec = Jvm.exec) (hby : c.code = bc) {o : Int} {pc' : Nat} (hd : decode bc pc = .ok (.goto o, 3)) (h : 0 ≤ (pc : Int) + o ∧ ((pc : Int) + o).toNat = pc') (hr : Steps p.tables e below (T.setTop (mkF m pc' Ls St)) t) : Steps p.tables e below (T.setTop (mkF m pc Ls St)) t := XS.goto X.here hx rfl rfl (hb hby hd) h.1 h.2 hr
theorem w_ifNo (X : Stand p l e R s m args below meth c T locs cells slots) (hx : p.tables.exec = Jvm.exec) (hby : c.code = bc) {cd : ClassFile.Cond} {o : Int} {x : Int32} (hd : decode bc pc = .ok (.ifCond cd o, 3)) (hc : ifCond.holds cd x = false) (hr : Steps p.tables e below (T.setTop (mkF m (pc + 3) Ls (St))) t) : Steps p.tables e below (T.setTop (mkF m pc Ls (.int x :: St))) t := XS.ifNo X.here hx rfl (hb hby hd) rfl hc hr
theorem w_ifYes (X : Stand p l e R s m args below meth c T locs cells slots) (hx : p.tables.exec = Jvm.exec) (hby : c.code = bc) {cd : ClassFile.Cond} {o : Int} {x : Int32} {pc' : Nat} (hd : decode bc pc = .ok (.ifCond cd o, 3)) (hc : ifCond.holds cd x = true) (h : 0 ≤ (pc : Int) + o ∧ ((pc : Int) + o).toNat = pc') (hr : Steps p.tables e below (T.setTop (mkF m pc' Ls St)) t) : Steps p.tables e below (T.setTop (mkF m pc Ls (.int x :: St))) t := XS.ifYes X.here hx rfl rfl (hb hby hd) rfl hc h.1 h.2 hr
theorem w_icmpNo (X : Stand p l e R s m args below meth c T locs cells slots) (hx : p.tables.exec = Jvm.exec) (hby : c.code = bc) {cd : ClassFile.Cond} {o : Int} {x y : Int32} (hd : decode bc pc = .ok (.if_icmp cd o, 3)) (hc : if_icmp.holds cd x y = false) (hr : Steps p.tables e below (T.setTop (mkF m (pc + 3) Ls (St))) t) : Steps p.tables e below (T.setTop (mkF m pc Ls (.int y :: .int x :: St))) t := XS.icmpNo X.here hx rfl (hb hby hd) rfl hc hr
theorem w_icmpYes (X : Stand p l e R s m args below meth c T locs cells slots) (hx : p.tables.exec = Jvm.exec) (hby : c.code = bc) {cd : ClassFile.Cond} {o : Int} {x y : Int32} {pc' : Nat} (hd : decode bc pc = .ok (.if_icmp cd o, 3)) (hc : if_icmp.holds cd x y = true) (h : 0 ≤ (pc : Int) + o ∧ ((pc : Int) + o).toNat = pc') (hr : Steps p.tables e below (T.setTop (mkF m pc' Ls St)) t) : Steps p.tables e below (T.setTop (mkF m pc Ls (.int y :: .int x :: St))) t := XS.icmpYes X.here hx rfl rfl (hb hby hd) rfl hc h.1 h.2 hr
end OwnSteps
theorem own_Llt {a b : Int64} (h : a < b) : ifCond.holds .lt (lcmpW a b) = true ∧ ifCond.holds .ge (lcmpW a b) = false ∧ ifCond.holds .gt (lcmpW b a) = true ∧ ifCond.holds .le (lcmpW b a) = false := by
  simp only [if0]
  exact ⟨(tlt ((lw_lt a b).mpr h)).1, (tlt ((lw_lt a b).mpr h)).2.1, (tlt ((lw_gt b a).mpr h)).2.2.1, (tlt ((lw_gt b a).mpr h)).2.2.2⟩
theorem own_Lnl {a b : Int64} (h : ¬ a < b) : ifCond.holds .lt (lcmpW a b) = false ∧ ifCond.holds .ge (lcmpW a b) = true ∧ ifCond.holds .gt (lcmpW b a) = false ∧ ifCond.holds .le (lcmpW b a) = true := by
  simp only [if0]
  have h1 : ¬ lcmpW a b < 0 := fun q => h ((lw_lt a b).mp q)
  have h2 : ¬ 0 < lcmpW b a := fun q => h ((lw_gt b a).mp q)
  exact ⟨(flt h1).1, (flt h1).2.1, (flt h2).2.2.1, (flt h2).2.2.2⟩
theorem own_Leq {a b : Int64} (h : a = b) : ifCond.holds .eq (lcmpW a b) = true ∧ ifCond.holds .ne (lcmpW a b) = false := by
  simp only [if0]
  exact teq ((lw_eq a b).mpr h)
theorem own_Lne {a b : Int64} (h : ¬ a = b) : ifCond.holds .eq (lcmpW a b) = false ∧ ifCond.holds .ne (lcmpW a b) = true := by
  simp only [if0]
  exact feq fun q => h ((lw_eq a b).mp q)
theorem own_StaK {Z : State} {h h' : Heap} {C n d : String} {v : Value} {ws : List Addr} (F : Sta Z h C n d v) (K : Keep h h' ws) (q : ∀ x ∈ ws, ∃ c : Cell, h[x]? = some c ∧ c.vm.isStatics = false) : Sta Z h' C n d v := by
  obtain ⟨cf, i, k, f, st, cell, h1, h2, h3, h4, h5, h6, h7⟩ := F
  refine ⟨cf, i, k, f, st, cell, h1, h2, h3, h4, K.2.1 st cell h5 (fun hm => ?_), h6, h7⟩
  obtain ⟨c, e1, e2⟩ := q _ hm
  rw [h5] at e1
  cases e1
  rw [h6] at e2
  cases e2
theorem own_ExaS {Z : State} {h : Heap} {a : Addr} {C : String} (E : Exa Z h a C) : ∃ c : Cell, h[a]? = some c ∧ c.vm.isStatics = false := by
  obtain ⟨c, k, e1, -, -, e2, -⟩ := E
  exact ⟨c, e1, e2⟩
/-- a boolean as the JVM's int -/
def own_b (b : Bool) : Int32 := if b then 1 else 0
theorem own_b_t : own_b true = 1 := rfl
theorem own_b_f : own_b false = 0 := rfl
theorem own_b0 {b : Bool} : own_b b = 0 ↔ b = false := by cases b <;> decide
theorem own_b_inj {b c : Bool} : own_b b = own_b c ↔ b = c := by cases b <;> cases c <;> decide
theorem own_leafT {b : Bool} (h : b = true) : (some (.int (nar .boolean (1 : Int32))) : Option Value) = some (.int (own_b b)) := by subst h; rfl
theorem own_leafF {b : Bool} (h : b = false) : (some (.int (nar .boolean (0 : Int32))) : Option Value) = some (.int (own_b b)) := by subst h; rfl
theorem own_bt {b : Bool} (h : b = true) : (1 : Int32) = own_b b := by subst h; rfl
theorem own_bf {b : Bool} (h : b = false) : (0 : Int32) = own_b b := by subst h; rfl
theorem own_b_nar (b : Bool) : nar .boolean (own_b b) = own_b b := by cases b <;> rfl
theorem own_wS {Z : State} {a0 : Array Value} (hw : ∀ d ∈ tables_1, d.before a0 Z = true) : ∀ a ∈ Bundle.stringAtoms, a.before a0 Z = true := by
  intro d hd
  simp only [Bundle.stringAtoms, List.mem_cons, List.not_mem_nil, or_false] at hd
  rcases hd with rfl | rfl | rfl | rfl | rfl | rfl | rfl
  · exact (own_w hw 9 rfl)
  · exact (own_w hw 10 rfl)
  · exact (own_w hw 11 rfl)
  · exact (own_w hw 12 rfl)
  · exact (own_w hw 13 rfl)
  · exact (own_w hw 14 rfl)
  · exact (own_w hw 15 rfl)
abbrev own_EL : List (String × Nat) := consts_1
theorem own_EW {Z : State} {a0 : Array Value} (hw : ∀ d ∈ tables_1, d.before a0 Z = true) : EW Z a0 own_EL := (EW.cons (own_w hw 8 rfl) (by decide) (EW.cons (own_w hw 31 rfl) (by decide) EW.nil))
theorem own_SafeArv {Z : State} {EL : List (String × Nat)} {vm : Vm} {h : Heap} {a : Addr} {k : ClassId} {ty : FieldType} {z : Int32} {vs : List Value} {dv : Value} (hal : Z.vm.Alike vm) (F : Arv Z h a k ty z vs dv) (ht : ty ≠ .byte) : Safe Z EL vm h a := by
  obtain ⟨c, A, -⟩ := F
  exact Safe.arr hal A ht
theorem own_backSE {p : Program} {l : Launch} {e : Env} {R : Room} {s : State} {args : Array Value} {below : List Frame} {Z : State} {a0 : Array Value} {EL : List (String × Nat)} {h : Heap} {vm0 : Vm} {y : MethodName} {bytes : ByteArray} {maxL : Nat} {ret : Option FieldType} {rm : Room} {len W : Nat} {as' : Array Value} {Q : Option Value → Heap → List Loc → Prop} {E : Vm → Prop}
    (hM : MetFree l y (head1 [Cond.code y bytes maxL ret] rm) (fun a U => a = as' ∧ Z.Warmed39 U.vm ∧ U.heap = h ∧ CHv Z EL U.vm h ∧ E U.vm) (fun _ _ _ _ _ => True) (fun _ U o U' => ∃ v L, o = .returned v ∧ Q v U'.heap L ∧ CHr Z EL U.vm U.heap U'.vm U'.heap ∧ ReturnedEndW U o U' L rm.cells rm.slots))
    (hZ : Z.Warmed39 vm0) (wc : (Cond.code y bytes maxL ret).before a0 Z = true) (wz : (Cond.initialized y.cls).before a0 Z = true) (hf : rm.frames + 1 ≤ R.frames) (hl : W + (maxL + 11) + rm.locals ≤ R.locals) (hEL : EW Z a0 EL) (H : CHv Z EL vm0 h) (hE : ∀ vm1, CHr Z EL vm0 h vm1 h → E vm1) :
    BackS l R p e below (s.setVm vm0) args y len W (fun A a => a = as' ∧ A.U.heap = h ∧ A.cells + rm.cells ≤ R.cells ∧ A.slots + rm.slots ≤ R.slots)
      (fun A _ v B => ∃ L, Q v B.U.heap L ∧ B.locs = A.locs ++ L ∧ B.cells = A.cells + rm.cells ∧ B.slots = A.slots + rm.slots ∧ CHr Z EL vm0 h B.U.vm B.U.heap) := by
  refine BackS.of_freeW (bytes := bytes) (maxL := maxL) (ret := ret) (E := fun _ first o t L k n => (k = rm.cells ∧ n = rm.slots) ∧ (∃ v, o = .returned v ∧ Q v t.heap L) ∧ CHr Z EL first.vm first.heap t.vm t.heap) hM hf hl ?_ ?_ (fun _ _ _ _ _ _ _ _ _ => trivial) ?_ ?_
  · intro m meth c A a Y hp
    have hU : Z.Warmed39 A.U.vm := wtrans (s := s.setVm vm0) hZ Y.warmed
    refine ⟨?_, mv hU wc, mv hU wz, hp.2.2⟩
    show (Cond.and _ .tt).before a A.U = true
    rw [Cond.before_and, mv hU wc]; rfl
  · intro m meth c A a g mk Y hp
    have q := CHv.at Y hZ hEL H
    exact ⟨hp.1, wtrans (s := s.setVm vm0) hZ Y.warmed, hp.2.1, q.1, hE _ q⟩
  · rintro _ _ _ _ ⟨v, L, h1, h2, h3, h4⟩
    exact ⟨L, _, _, h4, ⟨rfl, rfl⟩, ⟨v, h1, h2⟩, h3⟩
  · rintro m meth c A a g mk v t L k n Y hp - - ⟨⟨e1, e2⟩, ⟨v', e3, e4⟩, e5⟩
    cases e3
    subst e1 e2
    refine ⟨L, e4, rfl, rfl, rfl, (CHv.at Y hZ hEL H).trans ?_⟩
    rw [← hp.2.1]
    exact e5
theorem own_ArvS {Z : State} {h : Heap} {a : Addr} {k : ClassId} {ty : FieldType} {z : Int32} {vs : List Value} {dv : Value} (F : Arv Z h a k ty z vs dv) : ∃ c : Cell, h[a]? = some c ∧ c.vm.isStatics = false := by
  obtain ⟨c, A, -⟩ := F
  refine ⟨c, A.1, ?_⟩
  have q := A.2.1.1
  cases hv : c.vm <;> first | rfl | exact absurd hv (q _)
def own_lo (c : Int32) : Int32 := c.toInt8.toInt32
theorem own_lolo (c : Int32) : nar .byte (c.toInt8.toInt32) = own_lo c := by
  show ((c.toInt8.toInt32).toInt8).toInt32 = c.toInt8.toInt32
  rw [Int8.toInt8_toInt32]
def own_ixN (bs : List Int32) : Nat → Nat → Int32
  | 0, _ => -1
  | k + 1, i => if bs.getD i 0 = (10 : Int32) then Int32.ofNat i else own_ixN bs k (i + 1)
def own_ixF (bs : List Int32) (n : Nat) (fr : Int32) : Int32 := own_ixN bs (n - fr.toNatClampNeg) fr.toNatClampNeg
def own_A (bs : List Int32) (n : Nat) : Nat → Int32
  | 0 => own_ixF bs n 0
  | k + 1 => own_ixF bs n (own_A bs n k + (1 : Int32))
def own_ixB (bb : List Bool) : Nat → Nat → Int32
  | 0, _ => -1
  | k + 1, i => if bb.getD i false = true then Int32.ofNat i else own_ixB bb k (i + 1)
def own_AB (bb : List Bool) (n : Nat) : Nat → Int32
  | 0 => own_ixB bb n 0
  | k + 1 => own_ixB bb (n - (own_AB bb n k + (1 : Int32)).toNatClampNeg) (own_AB bb n k + (1 : Int32)).toNatClampNeg
def own_cle (off : Int32) : List Int32 → Int32
  | [] => 0
  | e :: r => (if off < e then (0 : Int32) else (1 : Int32)) + own_cle off r
def own_nl (c i off : Int32) : Int32 := if i < off ∧ c = (10 : Int32) then (1 : Int32) else (0 : Int32)
def own_nlB (d : Bool) (i off : Int32) : Int32 := if i < off ∧ d = true then (1 : Int32) else (0 : Int32)
def own_f (x : Int32) : Bool := decide (x = (10 : Int32))
theorem own_getf (bs : List Int32) (i : Nat) : ((bs.map own_f).getD i false = true) ↔ bs.getD i 0 = (10 : Int32) := by
  rw [List.getD_eq_getElem?_getD, List.getD_eq_getElem?_getD, List.getElem?_map]
  cases bs[i]? with
  | none => simp
  | some x => simp [own_f]
theorem own_ixB_eq (bs : List Int32) : ∀ k i, own_ixN bs k i = own_ixB (bs.map own_f) k i
  | 0, _ => rfl
  | k + 1, i => by
    unfold own_ixN own_ixB
    simp only [own_getf, own_ixB_eq bs k (i + 1)]
theorem own_AB_eq (bs : List Int32) (n : Nat) : ∀ k, own_A bs n k = own_AB (bs.map own_f) n k
  | 0 => by unfold own_A own_AB own_ixF; rw [own_ixB_eq]; rfl
  | k + 1 => by unfold own_A own_AB own_ixF; rw [own_ixB_eq, own_AB_eq bs n k]
def own_want (d0 d1 d2 d3 d4 d5 : Bool) (off : Int32) : Int32 := (((((((1 : Int32) + own_nlB d0 (0 : Int32) off) + own_nlB d1 (1 : Int32) off) + own_nlB d2 (2 : Int32) off) + own_nlB d3 (3 : Int32) off) + own_nlB d4 (4 : Int32) off) + own_nlB d5 (5 : Int32) off)
def own_okK (A : Nat → Int32) (off w : Int32) : Nat → Nat → List Int32 → Bool
  | 0, _, _ => true
  | f + 1, k, es => if A k < (0 : Int32) then own_cle off ((0 : Int32) :: es) == w else own_okK A off w f (k + 1) (es ++ [A k + (1 : Int32)])
theorem own_fin : ∀ (n off : Fin 7) (d0 d1 d2 d3 d4 d5 : Bool), off.val ≤ n.val → own_okK (own_AB ([d0, d1, d2, d3, d4, d5].take n.val) n.val) (Int32.ofNat off.val) (own_want d0 d1 d2 d3 d4 d5 (Int32.ofNat off.val)) 7 0 [] = true := by decide +kernel
theorem own_ofN {j : Nat} (h : j < 2147483648) : (Int32.ofNat j).toInt = j := Int32.toInt_ofNat_small h
theorem own_ofN_clamp {j : Nat} (h : j < 2147483648) : (Int32.ofNat j).toNatClampNeg = j := by
  have a := own_ofN h
  have b : ¬ Int32.ofNat j < (0 : Int32) := fun q => by have := Int32.lt_iff_toInt_lt.mp q; have z : (0 : Int32).toInt = 0 := rfl; omega
  have e := nat_of b
  omega
theorem own_clamp_ofN {x : Int32} (h : ¬ x < (0 : Int32)) : Int32.ofNat x.toNatClampNeg = x := by
  have a := nat_of h
  have r := rng32 x
  exact Int32.toInt_inj.mp (by rw [own_ofN (by omega)]; omega)
theorem own_ofN_succ {j : Nat} (h : j < 1000000) : Int32.ofNat j + (1 : Int32) = Int32.ofNat (j + 1) := by
  have a := c_iadd (Int32.ofNat j) 1
  have r := rng32 (Int32.ofNat j + 1)
  have e1 := own_ofN (j := j) (by omega)
  have e2 := own_ofN (j := j + 1) (by omega)
  have z : (1 : Int32).toInt = 1 := rfl
  exact Int32.toInt_inj.mp (by omega)
theorem own_ixN_rng (bs : List Int32) : ∀ k i, i + k < 1000000 → own_ixN bs k i = (-1 : Int32) ∨ ∃ j, i ≤ j ∧ j < i + k ∧ own_ixN bs k i = Int32.ofNat j
  | 0, _, _ => Or.inl rfl
  | k + 1, i, h => by
    unfold own_ixN
    by_cases q : bs.getD i 0 = (10 : Int32)
    · rw [if_pos q]; exact Or.inr ⟨i, by omega, by omega, rfl⟩
    · rw [if_neg q]
      rcases own_ixN_rng bs k (i + 1) (by omega) with e | ⟨j, h1, h2, e⟩
      · exact Or.inl e
      · exact Or.inr ⟨j, by omega, by omega, e⟩
theorem own_ixF_rng {bs : List Int32} {n : Nat} {fr : Int32} (hn : n ≤ 6) (h0 : ¬ fr < (0 : Int32)) (h1 : fr.toInt ≤ 100) : (own_ixF bs n fr).toInt = -1 ∨ (fr.toInt ≤ (own_ixF bs n fr).toInt ∧ (own_ixF bs n fr).toInt < n) := by
  have a := nat_of h0
  unfold own_ixF
  rcases own_ixN_rng bs (n - fr.toNatClampNeg) fr.toNatClampNeg (by omega) with e | ⟨j, q1, q2, e⟩
  · rw [e]; exact Or.inl rfl
  · rw [e, own_ofN (by omega)]; exact Or.inr ⟨by omega, by omega⟩
theorem own_A_b {bs : List Int32} {n : Nat} (hn : n ≤ 6) : ∀ k, (own_A bs n k).toInt = -1 ∨ (0 ≤ (own_A bs n k).toInt ∧ (own_A bs n k).toInt < n)
  | 0 => by
    have q := own_ixF_rng (bs := bs) (fr := 0) hn (by decide) (by decide)
    have z : (0 : Int32).toInt = 0 := rfl
    unfold own_A
    omega
  | k + 1 => by
    have p := own_A_b (bs := bs) hn k
    have a := c_iadd (own_A bs n k) 1
    have r := rng32 (own_A bs n k + 1)
    have z : (1 : Int32).toInt = 1 := rfl
    have z0 : (0 : Int32).toInt = 0 := rfl
    have q := own_ixF_rng (bs := bs) (fr := own_A bs n k + 1) hn (fun h => by have := Int32.lt_iff_toInt_lt.mp h; omega) (by omega)
    unfold own_A
    omega
theorem own_A_1 {bs : List Int32} {n : Nat} (hn : n ≤ 6) (k : Nat) : (own_A bs n k + (1 : Int32)).toInt = (own_A bs n k).toInt + 1 ∧ ¬ (own_A bs n k + (1 : Int32)) < (0 : Int32) ∧ (own_A bs n k + (1 : Int32)).toInt ≤ 100 := by
  have p := own_A_b (bs := bs) hn k
  have a := c_iadd (own_A bs n k) 1
  have r := rng32 (own_A bs n k + 1)
  have z : (1 : Int32).toInt = 1 := rfl
  have z0 : (0 : Int32).toInt = 0 := rfl
  refine ⟨by omega, fun h => ?_, by omega⟩
  have := Int32.lt_iff_toInt_lt.mp h
  omega
theorem own_A_step {bs : List Int32} {n : Nat} (hn : n ≤ 6) (k : Nat) : (own_A bs n (k + 1)).toInt = -1 ∨ (own_A bs n k).toInt + 1 ≤ (own_A bs n (k + 1)).toInt := by
  have p := own_A_1 (bs := bs) hn k
  have q := own_ixF_rng (bs := bs) (fr := own_A bs n k + 1) hn p.2.1 p.2.2
  have e : own_A bs n (k + 1) = own_ixF bs n (own_A bs n k + (1 : Int32)) := rfl
  rw [e]
  omega
theorem own_neg {x : Int32} (h : ¬ x < (0 : Int32)) : 0 ≤ x.toInt := by
  have z : (0 : Int32).toInt = 0 := rfl
  exact Int.not_lt.mp fun q => h (Int32.lt_iff_toInt_lt.mpr (by omega))
theorem own_A6 {bs : List Int32} {n : Nat} (hn : n ≤ 6) (h0 : ¬ own_A bs n 0 < (0 : Int32)) (h1 : ¬ own_A bs n 1 < (0 : Int32)) (h2 : ¬ own_A bs n 2 < (0 : Int32)) (h3 : ¬ own_A bs n 3 < (0 : Int32)) (h4 : ¬ own_A bs n 4 < (0 : Int32)) (h5 : ¬ own_A bs n 5 < (0 : Int32)) : own_A bs n 6 < (0 : Int32) := by
  have a0 := own_neg h0
  have a1 := own_neg h1
  have a2 := own_neg h2
  have a3 := own_neg h3
  have a4 := own_neg h4
  have a5 := own_neg h5
  have s0 : (own_A bs n 1).toInt = -1 ∨ (own_A bs n 0).toInt + 1 ≤ (own_A bs n 1).toInt := own_A_step hn 0
  have s1 : (own_A bs n 2).toInt = -1 ∨ (own_A bs n 1).toInt + 1 ≤ (own_A bs n 2).toInt := own_A_step hn 1
  have s2 : (own_A bs n 3).toInt = -1 ∨ (own_A bs n 2).toInt + 1 ≤ (own_A bs n 3).toInt := own_A_step hn 2
  have s3 : (own_A bs n 4).toInt = -1 ∨ (own_A bs n 3).toInt + 1 ≤ (own_A bs n 4).toInt := own_A_step hn 3
  have s4 : (own_A bs n 5).toInt = -1 ∨ (own_A bs n 4).toInt + 1 ≤ (own_A bs n 5).toInt := own_A_step hn 4
  have s5 : (own_A bs n 6).toInt = -1 ∨ (own_A bs n 5).toInt + 1 ≤ (own_A bs n 6).toInt := own_A_step hn 5
  have b6 := own_A_b (bs := bs) hn 6
  refine Int32.lt_iff_toInt_lt.mpr ?_
  have z : (0 : Int32).toInt = 0 := rfl
  omega
theorem own_srt {bs : List Int32} {n : Nat} (hn : n ≤ 6) (k : Nat) (h : ¬ own_A bs n (k + 1) < (0 : Int32)) : (own_A bs n k + (1 : Int32)) < (own_A bs n (k + 1) + (1 : Int32)) := by
  have a := own_neg h
  have s := own_A_step (bs := bs) hn k
  have p := (own_A_1 (bs := bs) hn k).1
  have q := (own_A_1 (bs := bs) hn (k + 1)).1
  exact Int32.lt_iff_toInt_lt.mpr (by omega)
theorem own_srt0 {bs : List Int32} {n : Nat} (hn : n ≤ 6) (h : ¬ own_A bs n 0 < (0 : Int32)) : (0 : Int32) < (own_A bs n 0 + (1 : Int32)) := by
  have a := own_neg h
  have p := (own_A_1 (bs := bs) hn 0).1
  have z : (0 : Int32).toInt = 0 := rfl
  exact Int32.lt_iff_toInt_lt.mpr (by omega)
theorem own_char8 (z : Int32) (h : 0 ≤ z.toInt ∧ z.toInt ≤ 255) : nar .char z = z := by
  have a := c_i2c z
  exact Int32.toInt_inj.mp (show (z.toUInt32.toUInt16.toUInt32.toInt32).toInt = z.toInt by omega)
theorem own_lat {z : Int32} (h : 0 ≤ z.toInt ∧ z.toInt ≤ 255) : ¬ (255 : Int32) < nar .char z := by
  rw [own_char8 z h, Int32.lt_iff_toInt_lt]
  have : (255 : Int32).toInt = 255 := rfl
  omega
theorem own_f10 {z : Int32} (h : 0 ≤ z.toInt ∧ z.toInt ≤ 255) : own_f (own_lo (nar .char z)) = decide (z = (10 : Int32)) := by
  unfold own_f
  rw [decide_eq_decide, own_char8 z h, ← Int32.toInt_inj, ← Int32.toInt_inj]
  have a := c_i2b z
  have b : (own_lo z).toInt = z.toInt8.toInt32.toInt := rfl
  have c : (10 : Int32).toInt = 10 := rfl
  omega
def own_el (z : Int32) : Int32 := own_lo (nar .char z)
def own_bs (n c0 c1 c2 c3 c4 c5 : Int32) : List Int32 := if n = (0 : Int32) then [] else if n = (1 : Int32) then [own_el c0] else if n = (2 : Int32) then [own_el c0, own_el c1] else if n = (3 : Int32) then [own_el c0, own_el c1, own_el c2] else if n = (4 : Int32) then [own_el c0, own_el c1, own_el c2, own_el c3] else if n = (5 : Int32) then [own_el c0, own_el c1, own_el c2, own_el c3, own_el c4] else [own_el c0, own_el c1, own_el c2, own_el c3, own_el c4, own_el c5]
theorem own_seven {n : Int32} (h : 0 ≤ n.toInt ∧ n.toInt ≤ 6) : n = (0 : Int32) ∨ n = (1 : Int32) ∨ n = (2 : Int32) ∨ n = (3 : Int32) ∨ n = (4 : Int32) ∨ n = (5 : Int32) ∨ n = (6 : Int32) := by
  have j : ∀ i : Int32, n.toInt = i.toInt → n = i := fun i q => Int32.toInt_inj.mp q
  have z : n.toInt = 0 ∨ n.toInt = 1 ∨ n.toInt = 2 ∨ n.toInt = 3 ∨ n.toInt = 4 ∨ n.toInt = 5 ∨ n.toInt = 6 := by omega
  rcases z with z | z | z | z | z | z | z
  · exact Or.inl (j _ (z.trans rfl))
  · exact Or.inr (Or.inl (j _ (z.trans rfl)))
  · exact Or.inr (Or.inr (Or.inl (j _ (z.trans rfl))))
  · exact Or.inr (Or.inr (Or.inr (Or.inl (j _ (z.trans rfl)))))
  · exact Or.inr (Or.inr (Or.inr (Or.inr (Or.inl (j _ (z.trans rfl))))))
  · exact Or.inr (Or.inr (Or.inr (Or.inr (Or.inr (Or.inl (j _ (z.trans rfl)))))))
  · exact Or.inr (Or.inr (Or.inr (Or.inr (Or.inr (Or.inr (j _ (z.trans rfl)))))))
theorem own_bs_map {n c0 c1 c2 c3 c4 c5 : Int32} (h : 0 ≤ n.toInt ∧ n.toInt ≤ 6) (h0 : 0 ≤ c0.toInt ∧ c0.toInt ≤ 255) (h1 : 0 ≤ c1.toInt ∧ c1.toInt ≤ 255) (h2 : 0 ≤ c2.toInt ∧ c2.toInt ≤ 255) (h3 : 0 ≤ c3.toInt ∧ c3.toInt ≤ 255) (h4 : 0 ≤ c4.toInt ∧ c4.toInt ≤ 255) (h5 : 0 ≤ c5.toInt ∧ c5.toInt ≤ 255) :
    (own_bs n c0 c1 c2 c3 c4 c5).map own_f = [decide (c0 = (10 : Int32)), decide (c1 = (10 : Int32)), decide (c2 = (10 : Int32)), decide (c3 = (10 : Int32)), decide (c4 = (10 : Int32)), decide (c5 = (10 : Int32))].take n.toNatClampNeg := by
  rw [← own_f10 h0, ← own_f10 h1, ← own_f10 h2, ← own_f10 h3, ← own_f10 h4, ← own_f10 h5]
  rcases own_seven h with rfl | rfl | rfl | rfl | rfl | rfl | rfl <;> rfl
theorem own_nl_eq (c i off : Int32) : own_nl c i off = own_nlB (decide (c = (10 : Int32))) i off := by
  unfold own_nl own_nlB
  simp only [decide_eq_true_eq]
def own_exp (c0 c1 c2 c3 c4 c5 off : Int32) : Int32 := (((((((1 : Int32) + own_nl c0 (0 : Int32) off) + own_nl c1 (1 : Int32) off) + own_nl c2 (2 : Int32) off) + own_nl c3 (3 : Int32) off) + own_nl c4 (4 : Int32) off) + own_nl c5 (5 : Int32) off)
theorem own_fin2 {n off c0 c1 c2 c3 c4 c5 : Int32} (h : 0 ≤ n.toInt ∧ n.toInt ≤ 6) (ho : 0 ≤ off.toInt ∧ off.toInt ≤ n.toInt) (h0 : 0 ≤ c0.toInt ∧ c0.toInt ≤ 255) (h1 : 0 ≤ c1.toInt ∧ c1.toInt ≤ 255) (h2 : 0 ≤ c2.toInt ∧ c2.toInt ≤ 255) (h3 : 0 ≤ c3.toInt ∧ c3.toInt ≤ 255) (h4 : 0 ≤ c4.toInt ∧ c4.toInt ≤ 255) (h5 : 0 ≤ c5.toInt ∧ c5.toInt ≤ 255) :
    own_okK (own_A (own_bs n c0 c1 c2 c3 c4 c5) n.toNatClampNeg) off (own_exp c0 c1 c2 c3 c4 c5 off) 7 0 [] = true := by
  have z : (0 : Int32).toInt = 0 := rfl
  have n0 : ¬ n < (0 : Int32) := fun q => by have := Int32.lt_iff_toInt_lt.mp q; omega
  have o0 : ¬ off < (0 : Int32) := fun q => by have := Int32.lt_iff_toInt_lt.mp q; omega
  have en := nat_of n0
  have eo := nat_of o0
  have q := own_fin ⟨n.toNatClampNeg, by omega⟩ ⟨off.toNatClampNeg, by omega⟩ (decide (c0 = (10 : Int32))) (decide (c1 = (10 : Int32))) (decide (c2 = (10 : Int32))) (decide (c3 = (10 : Int32))) (decide (c4 = (10 : Int32))) (decide (c5 = (10 : Int32))) (by show off.toNatClampNeg ≤ n.toNatClampNeg; omega)
  dsimp only at q
  rw [own_clamp_ofN o0, ← own_bs_map h h0 h1 h2 h3 h4 h5] at q
  have e : own_A (own_bs n c0 c1 c2 c3 c4 c5) n.toNatClampNeg = own_AB ((own_bs n c0 c1 c2 c3 c4 c5).map own_f) n.toNatClampNeg := funext fun k => own_AB_eq _ _ k
  rw [e]
  unfold own_exp
  simp only [own_nl_eq]
  exact q
def own_P (z : Int32) : Int32 := if z < (0 : Int32) then (-z) - (1 : Int32) else z + (1 : Int32)
theorem own_shr0 (x : Int32) : (x >>> ((0 : Int32) &&& 31)) = x := by
  have q := c_ishr x 0 0 (by decide)
  exact Int32.toInt_inj.mp (by rw [q]; simp)
def own_imax (a b : Int32) : Int32 := if a < b then b else a
def own_imin (a b : Int32) : Int32 := if b < a then b else a
theorem own_max0 {x : Int32} (h : ¬ x < (0 : Int32)) : own_imax x (0 : Int32) = x := if_neg h
theorem own_minS (x : Int32) : own_imin x x = x := by unfold own_imin; split <;> rfl
theorem own_getI (bs : List Int32) (j : Nat) : (bs.map Value.int).getD j (.int 0) = .int (bs.getD j 0) := by
  rw [List.getD_eq_getElem?_getD, List.getD_eq_getElem?_getD, List.getElem?_map]
  cases bs[j]? <;> rfl
def own_ch (x : Int32) : Int32 := if (x &&& (768 : Int32)) = (0 : Int32) then (10 : Int32) else nar .char ((x &&& (255 : Int32)).toUInt32.toUInt16.toUInt32.toInt32)
theorem own_ch_r (x : Int32) : 0 ≤ (own_ch x).toInt ∧ (own_ch x).toInt ≤ 255 := by
  unfold own_ch
  split
  · decide
  · have m := c_mask x (255 : Int32) 8 (by decide) (by decide)
    have a := c_i2c (x &&& (255 : Int32))
    have b := c_i2c ((x &&& (255 : Int32)).toUInt32.toUInt16.toUInt32.toInt32)
    show 0 ≤ (((x &&& (255 : Int32)).toUInt32.toUInt16.toUInt32.toInt32).toUInt32.toUInt16.toUInt32.toInt32).toInt ∧ (((x &&& (255 : Int32)).toUInt32.toUInt16.toUInt32.toInt32).toUInt32.toUInt16.toUInt32.toInt32).toInt ≤ 255
    omega
theorem own_mod7 (x : Int32) : 0 ≤ ((x &&& (2147483647 : Int32)) % (7 : Int32)).toInt ∧ ((x &&& (2147483647 : Int32)) % (7 : Int32)).toInt ≤ 6 := by
  have m := c_mask x (2147483647 : Int32) 31 (by decide) (by decide)
  have q := (c_iremV (x &&& (2147483647 : Int32)) 7).1 (by omega) (by decide)
  have z : (7 : Int32).toInt = 7 := rfl
  omega
theorem own_modn (x n : Int32) (h : 0 ≤ n.toInt ∧ n.toInt ≤ 6) : n + (1 : Int32) ≠ 0 ∧ 0 ≤ ((x &&& (2147483647 : Int32)) % (n + (1 : Int32))).toInt ∧ ((x &&& (2147483647 : Int32)) % (n + (1 : Int32))).toInt ≤ n.toInt := by
  have m := c_mask x (2147483647 : Int32) 31 (by decide) (by decide)
  have a := c_iadd n 1
  have r := rng32 (n + 1)
  have z : (1 : Int32).toInt = 1 := rfl
  have e : (n + 1).toInt = n.toInt + 1 := by omega
  have q := (c_iremV (x &&& (2147483647 : Int32)) (n + 1)).1 (by omega) (by omega)
  refine ⟨fun c => ?_, by omega, by omega⟩
  rw [c] at e
  have z0 : (0 : Int32).toInt = 0 := rfl
  omega
theorem own_ixF_out {bs : List Int32} {n : Nat} {fr to : Int32} (h0 : ¬ fr < (0 : Int32)) (ht : to.toInt = n) (h : ¬ own_imax fr (0 : Int32) < own_imin to to) : own_ixF bs n fr = (-1 : Int32) := by
  rw [own_max0 h0, own_minS] at h
  have a := nat_of h0
  have b : ¬ fr.toInt < to.toInt := fun q => h (Int32.lt_iff_toInt_lt.mpr q)
  unfold own_ixF
  rw [show n - fr.toNatClampNeg = 0 by omega]
  rfl
theorem own_ge0 {j : Nat} (h : j < 1000000) : ¬ Int32.ofNat j < (0 : Int32) := fun q => by
  have a := Int32.lt_iff_toInt_lt.mp q
  rw [own_ofN (by omega)] at a
  have z : (0 : Int32).toInt = 0 := rfl
  omega
def own_bsr (es : List Int32) (ky : Int32) : Nat → Nat → Nat → Int32
  | 0, lo, _ => -(Int32.ofNat lo + (1 : Int32))
  | k + 1, lo, h1 => if lo < h1 then (if es.getD ((lo + h1 - 1) / 2) 0 < ky then own_bsr es ky k ((lo + h1 - 1) / 2 + 1) h1 else if ky < es.getD ((lo + h1 - 1) / 2) 0 then own_bsr es ky k lo ((lo + h1 - 1) / 2) else Int32.ofNat ((lo + h1 - 1) / 2)) else -(Int32.ofNat lo + (1 : Int32))
def own_srtd (es : List Int32) : Prop := ∀ i, i + 1 < es.length → (es.getD i 0).toInt < (es.getD (i + 1) 0).toInt
theorem own_srtd_lt {es : List Int32} (h : own_srtd es) : ∀ d i, i + (d + 1) < es.length → (es.getD i 0).toInt < (es.getD (i + (d + 1)) 0).toInt
  | 0, i, hi => h i hi
  | d + 1, i, hi => Int.lt_trans (own_srtd_lt h d i (by omega)) (h (i + (d + 1)) (by omega))
theorem own_srtd_at {es : List Int32} (h : own_srtd es) {i j : Nat} (hij : i < j) (hj : j < es.length) : (es.getD i 0).toInt < (es.getD j 0).toInt := by
  have q := own_srtd_lt h (j - i - 1) i (by omega)
  rw [show i + (j - i - 1 + 1) = j by omega] at q
  exact q
theorem own_cle_eq (ky : Int32) : ∀ (es : List Int32) (n : Nat), n ≤ es.length → es.length < 1000 → (∀ i, i < n → ¬ ky < es.getD i 0) → (∀ i, n ≤ i → i < es.length → ky < es.getD i 0) → own_cle ky es = Int32.ofNat n
  | [], n, h, _, _, _ => by
    have : n = 0 := by simpa using h
    subst this
    rfl
  | x :: r, 0, _, hb, _, h2 => by
    have e := own_cle_eq ky r 0 (Nat.zero_le _) (by simp at hb; omega) (fun i q => by omega) (fun i _ q => by have := h2 (i + 1) (by omega) (by simpa using q); simpa using this)
    have q : ky < x := by simpa using h2 0 (Nat.le_refl _) (by simp)
    unfold own_cle
    rw [if_pos q, e]
    rfl
  | x :: r, n + 1, h, hb, h1, h2 => by
    have e := own_cle_eq ky r n (by simpa using h) (by simp at hb; omega) (fun i q => by have := h1 (i + 1) (by omega); simpa using this) (fun i q1 q => by have := h2 (i + 1) (by omega) (by simpa using q); simpa using this)
    have q : ¬ ky < x := by simpa using h1 0 (by omega)
    unfold own_cle
    rw [if_neg q, e, Int32.add_comm]
    exact own_ofN_succ (by simp at hb h; omega)
theorem own_P_exit {n : Nat} (h : n < 1000) : own_P (-(Int32.ofNat n + (1 : Int32))) = Int32.ofNat n := by
  have e := own_ofN (j := n) (by omega)
  rw [own_ofN_succ (by omega)]
  have e1 := own_ofN (j := n + 1) (by omega)
  have a := c_ineg (Int32.ofNat (n + 1))
  have r := rng32 (-(Int32.ofNat (n + 1)))
  have z : (0 : Int32).toInt = 0 := rfl
  have z1 : (1 : Int32).toInt = 1 := rfl
  have q : -(Int32.ofNat (n + 1)) < (0 : Int32) := Int32.lt_iff_toInt_lt.mpr (by omega)
  unfold own_P
  rw [if_pos q, Int32.neg_neg]
  have b := c_isub (Int32.ofNat (n + 1)) 1
  have rb := rng32 (Int32.ofNat (n + 1) - 1)
  exact Int32.toInt_inj.mp (by omega)
theorem own_P_found {n : Nat} (h : n < 1000) : own_P (Int32.ofNat n) = Int32.ofNat (n + 1) := by
  unfold own_P
  rw [if_neg (own_ge0 (by omega))]
  exact own_ofN_succ (by omega)
theorem own_bsr_ok {es : List Int32} {ky : Int32} (hs : own_srtd es) (hl : es.length ≤ 7) : ∀ k lo h1, h1 - lo ≤ k → lo ≤ h1 → h1 ≤ es.length → (∀ i, i < lo → ¬ ky < es.getD i 0) → (∀ i, h1 ≤ i → i < es.length → ky < es.getD i 0) → own_P (own_bsr es ky k lo h1) = own_cle ky es := by
  intro k
  induction k with
  | zero =>
    intro lo h1 hk hle hm a b
    have e : lo = h1 := by omega
    subst e
    unfold own_bsr
    rw [own_P_exit (by omega), own_cle_eq ky es lo hm (by omega) a b]
  | succ k ih =>
    intro lo h1 hk hle hm a b
    unfold own_bsr
    by_cases q : lo < h1
    · rw [if_pos q]
      have hmid : lo ≤ (lo + h1 - 1) / 2 ∧ (lo + h1 - 1) / 2 < h1 := by omega
      generalize (lo + h1 - 1) / 2 = mid at hmid
      by_cases c1 : es.getD mid 0 < ky
      · rw [if_pos c1]
        refine ih (mid + 1) h1 (by omega) (by omega) hm (fun i hi w => ?_) b
        have u1 := Int32.lt_iff_toInt_lt.mp c1
        have u2 := Int32.lt_iff_toInt_lt.mp w
        rcases Nat.lt_or_ge i mid with z | z
        · have := own_srtd_at hs z (by omega); omega
        · have : i = mid := by omega
          subst this; omega
      · rw [if_neg c1]
        by_cases c2 : ky < es.getD mid 0
        · rw [if_pos c2]
          refine ih lo mid (by omega) (by omega) (by omega) a (fun i hi w => ?_)
          have u1 := Int32.lt_iff_toInt_lt.mp c2
          rcases Nat.lt_or_ge mid i with z | z
          · have := own_srtd_at hs z w; exact Int32.lt_iff_toInt_lt.mpr (by omega)
          · have : i = mid := by omega
            subst this; exact c2
        · rw [if_neg c2, own_P_found (by omega)]
          refine (own_cle_eq ky es (mid + 1) (by omega) (by omega) (fun i hi w => ?_) (fun i hi w => ?_)).symm
          · have u2 := Int32.lt_iff_toInt_lt.mp w
            have n2 : ¬ ky.toInt < (es.getD mid 0).toInt := fun y => c2 (Int32.lt_iff_toInt_lt.mpr y)
            rcases Nat.lt_or_ge i mid with z | z
            · have := own_srtd_at hs z (by omega); omega
            · have : i = mid := by omega
              subst this; exact c2 w
          · have n1 : ¬ (es.getD mid 0).toInt < ky.toInt := fun y => c1 (Int32.lt_iff_toInt_lt.mpr y)
            have := own_srtd_at hs (show mid < i by omega) w
            exact Int32.lt_iff_toInt_lt.mpr (by omega)
    · rw [if_neg q]
      have e : lo = h1 := by omega
      subst e
      rw [own_P_exit (by omega), own_cle_eq ky es lo hm (by omega) a b]
theorem own_mid {lo h1 : Nat} (h : lo < h1) (hb : h1 ≤ 7) : (((Int32.ofNat lo + (Int32.ofNat h1 - (1 : Int32))).toUInt32 >>> ((1 : Int32) &&& 31).toUInt32).toInt32) = Int32.ofNat ((lo + h1 - 1) / 2) := by
  have a := c_isub (Int32.ofNat h1) 1
  have ra := rng32 (Int32.ofNat h1 - 1)
  have b := c_iadd (Int32.ofNat lo) (Int32.ofNat h1 - 1)
  have rb := rng32 (Int32.ofNat lo + (Int32.ofNat h1 - 1))
  have e1 := own_ofN (j := lo) (by omega)
  have e2 := own_ofN (j := h1) (by omega)
  have z : (1 : Int32).toInt = 1 := rfl
  have q := c_iushr (Int32.ofNat lo + (Int32.ofNat h1 - 1)) 1 1 (by decide) (by decide)
  have e3 := own_ofN (j := (lo + h1 - 1) / 2) (by omega)
  exact Int32.toInt_inj.mp (by rw [q, e3]; omega)
theorem own_hi {lo h1 : Nat} (h0 : lo ≤ 8) (hb : h1 ≤ 7) : (Int32.ofNat h1 - (1 : Int32)) < Int32.ofNat lo ↔ ¬ lo < h1 := by
  have a := c_isub (Int32.ofNat h1) 1
  have ra := rng32 (Int32.ofNat h1 - 1)
  have e1 := own_ofN (j := lo) (by omega)
  have e2 := own_ofN (j := h1) (by omega)
  have z : (1 : Int32).toInt = 1 := rfl
  rw [Int32.lt_iff_toInt_lt]
  omega
def own_esP (bs : List Int32) (nn : Nat) (es : List Int32) : Prop := (own_A bs nn 0 < (0 : Int32) ∧ es = [(0 : Int32)]) ∨ (¬ own_A bs nn 0 < (0 : Int32) ∧ own_A bs nn 1 < (0 : Int32) ∧ es = [(0 : Int32), own_A bs nn 0 + (1 : Int32)]) ∨ (¬ own_A bs nn 0 < (0 : Int32) ∧ ¬ own_A bs nn 1 < (0 : Int32) ∧ own_A bs nn 2 < (0 : Int32) ∧ es = [(0 : Int32), own_A bs nn 0 + (1 : Int32), own_A bs nn 1 + (1 : Int32)]) ∨ (¬ own_A bs nn 0 < (0 : Int32) ∧ ¬ own_A bs nn 1 < (0 : Int32) ∧ ¬ own_A bs nn 2 < (0 : Int32) ∧ own_A bs nn 3 < (0 : Int32) ∧ es = [(0 : Int32), own_A bs nn 0 + (1 : Int32), own_A bs nn 1 + (1 : Int32), own_A bs nn 2 + (1 : Int32)]) ∨ (¬ own_A bs nn 0 < (0 : Int32) ∧ ¬ own_A bs nn 1 < (0 : Int32) ∧ ¬ own_A bs nn 2 < (0 : Int32) ∧ ¬ own_A bs nn 3 < (0 : Int32) ∧ own_A bs nn 4 < (0 : Int32) ∧ es = [(0 : Int32), own_A bs nn 0 + (1 : Int32), own_A bs nn 1 + (1 : Int32), own_A bs nn 2 + (1 : Int32), own_A bs nn 3 + (1 : Int32)]) ∨ (¬ own_A bs nn 0 < (0 : Int32) ∧ ¬ own_A bs nn 1 < (0 : Int32) ∧ ¬ own_A bs nn 2 < (0 : Int32) ∧ ¬ own_A bs nn 3 < (0 : Int32) ∧ ¬ own_A bs nn 4 < (0 : Int32) ∧ own_A bs nn 5 < (0 : Int32) ∧ es = [(0 : Int32), own_A bs nn 0 + (1 : Int32), own_A bs nn 1 + (1 : Int32), own_A bs nn 2 + (1 : Int32), own_A bs nn 3 + (1 : Int32), own_A bs nn 4 + (1 : Int32)]) ∨ (¬ own_A bs nn 0 < (0 : Int32) ∧ ¬ own_A bs nn 1 < (0 : Int32) ∧ ¬ own_A bs nn 2 < (0 : Int32) ∧ ¬ own_A bs nn 3 < (0 : Int32) ∧ ¬ own_A bs nn 4 < (0 : Int32) ∧ ¬ own_A bs nn 5 < (0 : Int32) ∧ own_A bs nn 6 < (0 : Int32) ∧ es = [(0 : Int32), own_A bs nn 0 + (1 : Int32), own_A bs nn 1 + (1 : Int32), own_A bs nn 2 + (1 : Int32), own_A bs nn 3 + (1 : Int32), own_A bs nn 4 + (1 : Int32), own_A bs nn 5 + (1 : Int32)])
theorem own_es_srt {bs : List Int32} {nn : Nat} {es : List Int32} (hn : nn ≤ 6) (h : own_esP bs nn es) : own_srtd es ∧ es.length ≤ 7 := by
  have z : (0 : Int32).toInt = 0 := rfl
  have p0 := (own_A_1 (bs := bs) hn 0).1
  have p1 := (own_A_1 (bs := bs) hn 1).1
  have p2 := (own_A_1 (bs := bs) hn 2).1
  have p3 := (own_A_1 (bs := bs) hn 3).1
  have p4 := (own_A_1 (bs := bs) hn 4).1
  have p5 := (own_A_1 (bs := bs) hn 5).1
  have s0 : (own_A bs nn 1).toInt = -1 ∨ (own_A bs nn 0).toInt + 1 ≤ (own_A bs nn 1).toInt := own_A_step hn 0
  have s1 : (own_A bs nn 2).toInt = -1 ∨ (own_A bs nn 1).toInt + 1 ≤ (own_A bs nn 2).toInt := own_A_step hn 1
  have s2 : (own_A bs nn 3).toInt = -1 ∨ (own_A bs nn 2).toInt + 1 ≤ (own_A bs nn 3).toInt := own_A_step hn 2
  have s3 : (own_A bs nn 4).toInt = -1 ∨ (own_A bs nn 3).toInt + 1 ≤ (own_A bs nn 4).toInt := own_A_step hn 3
  have s4 : (own_A bs nn 5).toInt = -1 ∨ (own_A bs nn 4).toInt + 1 ≤ (own_A bs nn 5).toInt := own_A_step hn 4
  rcases h with ⟨h0, rfl⟩ | ⟨h0, h1, rfl⟩ | ⟨h0, h1, h2, rfl⟩ | ⟨h0, h1, h2, h3, rfl⟩ | ⟨h0, h1, h2, h3, h4, rfl⟩ | ⟨h0, h1, h2, h3, h4, h5, rfl⟩ | ⟨h0, h1, h2, h3, h4, h5, h6, rfl⟩
  · refine ⟨fun i hi => ?_, Nat.le_of_ble_eq_true rfl⟩
    exact absurd hi (by simp)
  · refine ⟨fun i hi => ?_, Nat.le_of_ble_eq_true rfl⟩
    have a0 := own_neg h0
    have hi : i + 1 < 2 := hi
    have w : i = 0 := by omega
    rcases w with rfl
    · show ((0 : Int32)).toInt < (own_A bs nn 0 + (1 : Int32)).toInt; omega
  · refine ⟨fun i hi => ?_, Nat.le_of_ble_eq_true rfl⟩
    have a0 := own_neg h0
    have a1 := own_neg h1
    have hi : i + 1 < 3 := hi
    have w : i = 0 ∨ i = 1 := by omega
    rcases w with rfl | rfl
    · show ((0 : Int32)).toInt < (own_A bs nn 0 + (1 : Int32)).toInt; omega
    · show (own_A bs nn 0 + (1 : Int32)).toInt < (own_A bs nn 1 + (1 : Int32)).toInt; omega
  · refine ⟨fun i hi => ?_, Nat.le_of_ble_eq_true rfl⟩
    have a0 := own_neg h0
    have a1 := own_neg h1
    have a2 := own_neg h2
    have hi : i + 1 < 4 := hi
    have w : i = 0 ∨ i = 1 ∨ i = 2 := by omega
    rcases w with rfl | rfl | rfl
    · show ((0 : Int32)).toInt < (own_A bs nn 0 + (1 : Int32)).toInt; omega
    · show (own_A bs nn 0 + (1 : Int32)).toInt < (own_A bs nn 1 + (1 : Int32)).toInt; omega
    · show (own_A bs nn 1 + (1 : Int32)).toInt < (own_A bs nn 2 + (1 : Int32)).toInt; omega
  · refine ⟨fun i hi => ?_, Nat.le_of_ble_eq_true rfl⟩
    have a0 := own_neg h0
    have a1 := own_neg h1
    have a2 := own_neg h2
    have a3 := own_neg h3
    have hi : i + 1 < 5 := hi
    have w : i = 0 ∨ i = 1 ∨ i = 2 ∨ i = 3 := by omega
    rcases w with rfl | rfl | rfl | rfl
    · show ((0 : Int32)).toInt < (own_A bs nn 0 + (1 : Int32)).toInt; omega
    · show (own_A bs nn 0 + (1 : Int32)).toInt < (own_A bs nn 1 + (1 : Int32)).toInt; omega
    · show (own_A bs nn 1 + (1 : Int32)).toInt < (own_A bs nn 2 + (1 : Int32)).toInt; omega
    · show (own_A bs nn 2 + (1 : Int32)).toInt < (own_A bs nn 3 + (1 : Int32)).toInt; omega
  · refine ⟨fun i hi => ?_, Nat.le_of_ble_eq_true rfl⟩
    have a0 := own_neg h0
    have a1 := own_neg h1
    have a2 := own_neg h2
    have a3 := own_neg h3
    have a4 := own_neg h4
    have hi : i + 1 < 6 := hi
    have w : i = 0 ∨ i = 1 ∨ i = 2 ∨ i = 3 ∨ i = 4 := by omega
    rcases w with rfl | rfl | rfl | rfl | rfl
    · show ((0 : Int32)).toInt < (own_A bs nn 0 + (1 : Int32)).toInt; omega
    · show (own_A bs nn 0 + (1 : Int32)).toInt < (own_A bs nn 1 + (1 : Int32)).toInt; omega
    · show (own_A bs nn 1 + (1 : Int32)).toInt < (own_A bs nn 2 + (1 : Int32)).toInt; omega
    · show (own_A bs nn 2 + (1 : Int32)).toInt < (own_A bs nn 3 + (1 : Int32)).toInt; omega
    · show (own_A bs nn 3 + (1 : Int32)).toInt < (own_A bs nn 4 + (1 : Int32)).toInt; omega
  · refine ⟨fun i hi => ?_, Nat.le_of_ble_eq_true rfl⟩
    have a0 := own_neg h0
    have a1 := own_neg h1
    have a2 := own_neg h2
    have a3 := own_neg h3
    have a4 := own_neg h4
    have a5 := own_neg h5
    have hi : i + 1 < 7 := hi
    have w : i = 0 ∨ i = 1 ∨ i = 2 ∨ i = 3 ∨ i = 4 ∨ i = 5 := by omega
    rcases w with rfl | rfl | rfl | rfl | rfl | rfl
    · show ((0 : Int32)).toInt < (own_A bs nn 0 + (1 : Int32)).toInt; omega
    · show (own_A bs nn 0 + (1 : Int32)).toInt < (own_A bs nn 1 + (1 : Int32)).toInt; omega
    · show (own_A bs nn 1 + (1 : Int32)).toInt < (own_A bs nn 2 + (1 : Int32)).toInt; omega
    · show (own_A bs nn 2 + (1 : Int32)).toInt < (own_A bs nn 3 + (1 : Int32)).toInt; omega
    · show (own_A bs nn 3 + (1 : Int32)).toInt < (own_A bs nn 4 + (1 : Int32)).toInt; omega
    · show (own_A bs nn 4 + (1 : Int32)).toInt < (own_A bs nn 5 + (1 : Int32)).toInt; omega
theorem own_last {n off c0 c1 c2 c3 c4 c5 : Int32} {es : List Int32} (h : 0 ≤ n.toInt ∧ n.toInt ≤ 6) (ho : 0 ≤ off.toInt ∧ off.toInt ≤ n.toInt) (h0 : 0 ≤ c0.toInt ∧ c0.toInt ≤ 255) (h1 : 0 ≤ c1.toInt ∧ c1.toInt ≤ 255) (h2 : 0 ≤ c2.toInt ∧ c2.toInt ≤ 255) (h3 : 0 ≤ c3.toInt ∧ c3.toInt ≤ 255) (h4 : 0 ≤ c4.toInt ∧ c4.toInt ≤ 255) (h5 : 0 ≤ c5.toInt ∧ c5.toInt ≤ 255) (he : own_esP (own_bs n c0 c1 c2 c3 c4 c5) n.toNatClampNeg es) : own_cle off es = own_exp c0 c1 c2 c3 c4 c5 off := by
  have q := own_fin2 h ho h0 h1 h2 h3 h4 h5
  rcases he with ⟨g0, rfl⟩ | ⟨g0, g1, rfl⟩ | ⟨g0, g1, g2, rfl⟩ | ⟨g0, g1, g2, g3, rfl⟩ | ⟨g0, g1, g2, g3, g4, rfl⟩ | ⟨g0, g1, g2, g3, g4, g5, rfl⟩ | ⟨g0, g1, g2, g3, g4, g5, g6, rfl⟩
  · simpa only [own_okK, g0, if_true, if_false, List.nil_append, List.cons_append, beq_iff_eq] using q
  · simpa only [own_okK, g0, g1, if_true, if_false, List.nil_append, List.cons_append, beq_iff_eq] using q
  · simpa only [own_okK, g0, g1, g2, if_true, if_false, List.nil_append, List.cons_append, beq_iff_eq] using q
  · simpa only [own_okK, g0, g1, g2, g3, if_true, if_false, List.nil_append, List.cons_append, beq_iff_eq] using q
  · simpa only [own_okK, g0, g1, g2, g3, g4, if_true, if_false, List.nil_append, List.cons_append, beq_iff_eq] using q
  · simpa only [own_okK, g0, g1, g2, g3, g4, g5, if_true, if_false, List.nil_append, List.cons_append, beq_iff_eq] using q
  · simpa only [own_okK, g0, g1, g2, g3, g4, g5, g6, if_true, if_false, List.nil_append, List.cons_append, beq_iff_eq] using q
theorem d24_0 : decode jdk_43_method_23_code 0 = .ok (.iload_n 1, 1) := by decide +kernel
theorem d24_1 : decode jdk_43_method_23_code 1 = .ok (.i2b, 1) := by decide +kernel
theorem d24_2 : decode jdk_43_method_23_code 2 = .ok (.istore 4, 2) := by decide +kernel
theorem d24_4 : decode jdk_43_method_23_code 4 = .ok (.iload_n 2, 1) := by decide +kernel
theorem d24_5 : decode jdk_43_method_23_code 5 = .ok (.istore 5, 2) := by decide +kernel
theorem d24_7 : decode jdk_43_method_23_code 7 = .ok (.iload 5, 2) := by decide +kernel
theorem d24_9 : decode jdk_43_method_23_code 9 = .ok (.iload_n 3, 1) := by decide +kernel
theorem d24_10 : decode jdk_43_method_23_code 10 = .ok (.if_icmp .ge 21, 3) := by decide +kernel
theorem d24_13 : decode jdk_43_method_23_code 13 = .ok (.aload_n 0, 1) := by decide +kernel
theorem d24_14 : decode jdk_43_method_23_code 14 = .ok (.iload 5, 2) := by decide +kernel
theorem d24_16 : decode jdk_43_method_23_code 16 = .ok (.baload, 1) := by decide +kernel
theorem d24_17 : decode jdk_43_method_23_code 17 = .ok (.iload 4, 2) := by decide +kernel
theorem d24_19 : decode jdk_43_method_23_code 19 = .ok (.if_icmp .ne 6, 3) := by decide +kernel
theorem d24_22 : decode jdk_43_method_23_code 22 = .ok (.iload 5, 2) := by decide +kernel
theorem d24_24 : decode jdk_43_method_23_code 24 = .ok (.ireturn, 1) := by decide +kernel
theorem d24_25 : decode jdk_43_method_23_code 25 = .ok (.iinc 5 1, 3) := by decide +kernel
theorem d24_28 : decode jdk_43_method_23_code 28 = .ok (.goto (-21), 3) := by decide +kernel
theorem d24_31 : decode jdk_43_method_23_code 31 = .ok (.iconst (-1), 1) := by decide +kernel
theorem d24_32 : decode jdk_43_method_23_code 32 = .ok (.ireturn, 1) := by decide +kernel
theorem own_ef24 (m : MethodId) (x0 : Addr) (x1 : Int32) (x2 : Int32) (x3 : Int32) : entryFrame m #[(.ref x0), (.int x1), (.int x2), (.int x3)] 6 = mkF m 0 #[rv x0, iv x1, iv x2, iv x3, .unset, .unset] [] := by first | (simp [entryFrame, mkF, argsToLocals, Value.category]; done) | rfl
def own_Q24 (Z : State) (b : Addr) (fr : Int32) (to : Int32) (kb : ClassId) (bs : List Int32) (nn : Nat) (h0 : Heap) (n0 : Nat) (v : Option Value) (h : Heap) (L : List Loc) : Prop := v = some (.int (own_ixF bs nn fr)) ∧ L = [] ∧ h = h0
theorem own_pn0 : plainName "java/lang/StringLatin1" = true := by first | (simp [plainName, overriddenIn]; done) | decide +kernel
set_option maxHeartbeats 40000000 in
theorem own_rm24 (l : Launch) (Z : State) (a0 : Array Value) (hw : ∀ d ∈ tables_1, d.before a0 Z = true) (ws : List Jvm.Cond) (b : Addr) (fr : Int32) (to : Int32) (kb : ClassId) (bs : List Int32) (nn : Nat) (h0 : Heap) (n0 : Nat) (Z0 : n0 ≤ h0.size) (V_b : Arv Z h0 b kb .byte to (bs.map Value.int) (.int 0)) (hto : to = Int32.ofNat nn) (hnn : nn ≤ 6) (hf0 : ¬ fr < (0 : Int32)) (hfn : fr.toInt ≤ 100) :
    MetFree l own_y7 (head1 (Jvm.Cond.code own_y7 jdk_43_method_23_code 6 (some .int) :: ws) ({ frames := 0, cells := 0, slots := 0, locals := 0 } : Room)) (fun argv U => argv = #[(.ref b), (.int 10), (.int fr), (.int to)] ∧ Z.Warmed39 U.vm ∧ U.heap = h0) (fun _ _ _ _ _ => True) (fun _ U o U' => ∃ v L, o = .returned v ∧ own_Q24 Z b fr to kb bs nn h0 n0 v U'.heap L ∧ FrameEnd U o U' L ({ frames := 0, cells := 0, slots := 0, locals := 0 } : Room).cells ({ frames := 0, cells := 0, slots := 0, locals := 0 } : Room).slots) := by
  refine MetFree.of_bodySF (plainFor_of_name own_pn0) hisR ?_
  intro p e s m args below meth c s₁ Bd hml0 hP hK
  obtain ⟨rfl, hZ, hh⟩ := hP
  have hx := Bd.exec
  have hby := Bd.bytes
  have hml : c.maxLocals = 6 := hml0
  have hown : s.vm.findClass "java/lang/StringLatin1" = some m.cls := findClass_of_methodNamed Bd.named
  have hnm := (name_of_methodNamed Bd.named Bd.method).1
  have X0 : Stand p l e ({ frames := 0, cells := 0, slots := 0, locals := 0 } : Room) s m #[(.ref b), (.int 10), (.int fr), (.int to)] below meth c s₁ [] 0 0 := Stand.of_body Bd
  have e0 : s₁.heap = h0 := by rw [← hh, Bd.state]; rfl
  have N0 := Fr.nil n0
  have pre_ : own_G p e below (s₁.setTop (entryFrame m #[(.ref b), (.int 10), (.int fr), (.int to)] 6)) s₁ m 0 #[rv b, iv 10, iv fr, iv to, .unset, .unset] [] := fun t k => castTop (own_ef24 m b (10 : Int32) fr to) k
  obtain ⟨s0, hs0⟩ : ∃ z, z = (s₁.setTop (entryFrame m #[(.ref b), (.int 10), (.int fr), (.int to)] 6)) := ⟨_, rfl⟩
  have pre0 : own_G p e below s0 s₁ m 0 #[rv b, iv 10, iv fr, iv to, .unset, .unset] [] := hs0 ▸ pre_
  rw [← hs0]
  have S1 : own_G p e below s0 s₁ m 7 #[rv b, iv 10, iv fr, iv to, iv ((10 : Int32).toInt8.toInt32), iv fr] [] := fun t kt => by
    refine pre0 t ?_
    refine w_iloadN X0 hx hby d24_0 rfl ?_
    refine XS.i2b X0.here hx rfl (hb hby d24_1) rfl ?_
    refine w_istore X0 hx hby d24_2 (l' := #[rv b, iv 10, iv fr, iv to, iv ((10 : Int32).toInt8.toInt32), .unset]) rfl ?_
    refine w_iloadN X0 hx hby d24_4 rfl ?_
    refine w_istore X0 hx hby d24_5 (l' := #[rv b, iv 10, iv fr, iv to, iv ((10 : Int32).toInt8.toInt32), iv fr]) rfl ?_
    exact kt
  obtain ⟨R, hR⟩ : ∃ z, z = own_ixF bs nn fr := ⟨_, rfl⟩
  obtain ⟨cl, Ar, -, Sz, Nn, Hh, -⟩ := id V_b
  obtain ⟨fs, hr, hrun, hended, hW, hsame⟩ := X0.leave (v := some (.int R)) (fun h => by rw [Bd.returns] at h; cases h)
  have hto' : to.toInt = nn := by rw [hto]; exact own_ofN (by omega)
  have loop : ∀ (kk j : Nat), j < 1000 → nn - j = kk → own_ixN bs kk j = R → Steps p.tables e below (s₁.setTop (mkF m 7 #[rv b, iv 10, iv fr, iv to, iv ((10 : Int32).toInt8.toInt32), iv (Int32.ofNat j)] [])) (s₁.setFrames fs) := by
    intro kk
    induction kk with
    | zero =>
      intro j hj0 hj hv
      have hz : R = (-1 : Int32) := hv.symm
      have hge : ¬ Int32.ofNat j < to := fun q => by have := Int32.lt_iff_toInt_lt.mp q; rw [own_ofN (by omega)] at this; omega
      refine w_iload X0 hx hby d24_7 rfl ?_
      refine w_iloadN X0 hx hby d24_9 rfl ?_
      refine w_icmpYes X0 hx hby (pc' := 31) d24_10 (flt hge).2.1 (by decide) ?_
      refine w_iconst X0 hx hby d24_31 ?_
      subst hz
      exact own_retI X0 hx Bd.returns (hb hby d24_32) hr
    | succ kk ih =>
      intro j hj0 hj hv
      have hlt : Int32.ofNat j < to := Int32.lt_iff_toInt_lt.mpr (by rw [own_ofN (by omega)]; omega)
      have hin : ¬ (Int32.ofNat j < 0 ∨ cl.slots.size ≤ (Int32.ofNat j).toNatClampNeg) := inb_of Sz ⟨own_ge0 (by omega), hlt⟩
      have hat : cl.slots[(Int32.ofNat j).toNatClampNeg]? = some (.int (bs.getD j 0)) := Has.at Hh hin (by rw [own_ofN_clamp (by omega)]; exact own_getI bs j)
      refine w_iload X0 hx hby d24_7 rfl ?_
      refine w_iloadN X0 hx hby d24_9 rfl ?_
      refine w_icmpNo X0 hx hby d24_10 (tlt hlt).2.1 ?_
      refine w_aloadN X0 hx hby d24_13 rfl rfl ?_
      refine w_iload X0 hx hby d24_14 rfl ?_
      refine X0.baloadBytes hx (j := (Int32.ofNat j)) (v := (.int (bs.getD j 0))) (by rw [e0]; exact Ar.1) (State.isArrayOf_alike hZ.alike Ar.2.1) Ar.2.2 hin hat (g := (mkF m 16 #[rv b, iv 10, iv fr, iv to, iv ((10 : Int32).toInt8.toInt32), iv (Int32.ofNat j)] [(.int (Int32.ofNat j)), (.ref b)])) rfl rfl (hb hby d24_16) _ ?_
      change Steps p.tables e below (s₁.setTop (mkF m 17 #[rv b, iv 10, iv fr, iv to, iv ((10 : Int32).toInt8.toInt32), iv (Int32.ofNat j)] [(.int (bs.getD j 0))])) _
      refine w_iload X0 hx hby d24_17 rfl ?_
      by_cases hc : bs.getD j 0 = (10 : Int32)
      · skip
        have hz : R = Int32.ofNat j := by rw [← hv]; unfold own_ixN; rw [if_pos hc]
        refine w_icmpNo X0 hx hby d24_19 (teq hc).2 ?_
        refine w_iload X0 hx hby d24_22 rfl ?_
        subst hz
        exact own_retI X0 hx Bd.returns (hb hby d24_24) hr
      · skip
        have hz : own_ixN bs kk (j + 1) = R := by rw [← hv]; conv => rhs; unfold own_ixN; rw [if_neg hc]
        refine w_icmpYes X0 hx hby (pc' := 25) d24_19 (feq hc).2 (by decide) ?_
        refine w_iinc X0 hx hby d24_25 rfl (l' := #[rv b, iv 10, iv fr, iv to, iv ((10 : Int32).toInt8.toInt32), iv ((Int32.ofNat j) + (1 : Int32))]) rfl ?_
        refine w_goto X0 hx hby (pc' := 7) d24_28 (by decide) ?_
        have q := ih (j + 1) (by omega) (by omega) hz
        rw [← own_ofN_succ (by omega)] at q
        exact q
  have q0 := nat_of hf0
  have L0 := loop (nn - fr.toNatClampNeg) fr.toNatClampNeg (by omega) rfl hR.symm
  rw [own_clamp_ofN hf0] at L0
  refine ⟨_, _, S1 _ L0, hrun, hended, _, _, rfl, ?_, ⟨_, rfl⟩, hW, hsame.mono (by decide) (by decide)⟩
  show own_Q24 Z b fr to kb bs nn h0 n0 _ s₁.heap _
  rw [e0]
  exact ⟨by rw [hR], rfl, rfl⟩
theorem d14_0 : decode jdk_29_method_65_code 0 = .ok (.iload_n 0, 1) := by decide +kernel
theorem d14_1 : decode jdk_29_method_65_code 1 = .ok (.iload_n 1, 1) := by decide +kernel
theorem d14_2 : decode jdk_29_method_65_code 2 = .ok (.if_icmp .lt 7, 3) := by decide +kernel
theorem d14_5 : decode jdk_29_method_65_code 5 = .ok (.iload_n 0, 1) := by decide +kernel
theorem d14_6 : decode jdk_29_method_65_code 6 = .ok (.goto 4, 3) := by decide +kernel
theorem d14_9 : decode jdk_29_method_65_code 9 = .ok (.iload_n 1, 1) := by decide +kernel
theorem d14_10 : decode jdk_29_method_65_code 10 = .ok (.ireturn, 1) := by decide +kernel
theorem own_ef14 (m : MethodId) (x0 : Int32) (x1 : Int32) : entryFrame m #[(.int x0), (.int x1)] 2 = mkF m 0 #[iv x0, iv x1] [] := by first | (simp [entryFrame, mkF, argsToLocals, Value.category]; done) | rfl
def own_Q14 (Z : State) (u1 : Int32) (u2 : Int32) (h0 : Heap) (n0 : Nat) (v : Option Value) (h : Heap) (L : List Loc) : Prop := v = some (.int (own_imax u1 u2)) ∧ L = [] ∧ h = h0
set_option maxHeartbeats 40000000 in
theorem own_rm14 (l : Launch) (Z : State) (a0 : Array Value) (hw : ∀ d ∈ tables_1, d.before a0 Z = true) (ws : List Jvm.Cond) (u1 : Int32) (u2 : Int32) (h0 : Heap) (n0 : Nat) (Z0 : n0 ≤ h0.size) :
    MetFree l own_y22 (head1 (Jvm.Cond.code own_y22 jdk_29_method_65_code 2 (some .int) :: ws) ({ frames := 0, cells := 0, slots := 0, locals := 0 } : Room)) (fun argv U => argv = #[(.int u1), (.int u2)] ∧ Z.Warmed39 U.vm ∧ U.heap = h0) (fun _ _ _ _ _ => True) (fun _ U o U' => ∃ v L, o = .returned v ∧ own_Q14 Z u1 u2 h0 n0 v U'.heap L ∧ FrameEnd U o U' L ({ frames := 0, cells := 0, slots := 0, locals := 0 } : Room).cells ({ frames := 0, cells := 0, slots := 0, locals := 0 } : Room).slots) := by
  refine MetFree.of_bodySF (Jvm.Free.JP.mathPlain rfl (by decide +kernel)) hisR ?_
  intro p e s m args below meth c s₁ Bd hml0 hP hK
  obtain ⟨rfl, hZ, hh⟩ := hP
  have hx := Bd.exec
  have hby := Bd.bytes
  have hml : c.maxLocals = 2 := hml0
  have hown : s.vm.findClass "java/lang/Math" = some m.cls := findClass_of_methodNamed Bd.named
  have hnm := (name_of_methodNamed Bd.named Bd.method).1
  have X0 : Stand p l e ({ frames := 0, cells := 0, slots := 0, locals := 0 } : Room) s m #[(.int u1), (.int u2)] below meth c s₁ [] 0 0 := Stand.of_body Bd
  have e0 : s₁.heap = h0 := by rw [← hh, Bd.state]; rfl
  have N0 := Fr.nil n0
  have pre_ : own_G p e below (s₁.setTop (entryFrame m #[(.int u1), (.int u2)] 2)) s₁ m 0 #[iv u1, iv u2] [] := fun t k => castTop (own_ef14 m u1 u2) k
  obtain ⟨s0, hs0⟩ : ∃ z, z = (s₁.setTop (entryFrame m #[(.int u1), (.int u2)] 2)) := ⟨_, rfl⟩
  have pre0 : own_G p e below s0 s₁ m 0 #[iv u1, iv u2] [] := hs0 ▸ pre_
  rw [← hs0]
  have S1 : own_G p e below s0 s₁ m 2 #[iv u1, iv u2] [(.int u2), (.int u1)] := fun t kt => by
    refine pre0 t ?_
    refine w_iloadN X0 hx hby d14_0 rfl ?_
    refine w_iloadN X0 hx hby d14_1 rfl ?_
    exact kt
  by_cases hc2 : u1 < u2
  · skip
    have S2 : own_G p e below s0 s₁ m 10 #[iv u1, iv u2] [(.int u2)] := fun t kt => by
      refine S1 t ?_
      refine w_icmpYes X0 hx hby (pc' := 9) d14_2 (tlt hc2).1 (by decide) ?_
      refine w_iloadN X0 hx hby d14_9 rfl ?_
      exact kt
    obtain ⟨fs, hr, hrun, hended, hW, hsame⟩ := X0.leave (v := some (.int u2)) (fun h => by rw [Bd.returns] at h; cases h)
    refine ⟨_, _, S2 _ ?_, hrun, hended, _, _, rfl, ?_, ⟨_, rfl⟩, hW, hsame.mono (by decide) (by decide)⟩
    · show Steps p.tables e below (s₁.setTop (mkF m 10 #[iv u1, iv u2] [(.int u2)])) _
      exact own_retI X0 hx Bd.returns (hb hby d14_10) hr
    · show own_Q14 Z u1 u2 h0 n0 _ s₁.heap _
      rw [e0]
      exact ⟨by simp only [own_imax, if_pos, if_neg, *, not_false_eq_true, if_true, if_false], rfl, rfl⟩
  · skip
    have S3 : own_G p e below s0 s₁ m 10 #[iv u1, iv u2] [(.int u1)] := fun t kt => by
      refine S1 t ?_
      refine w_icmpNo X0 hx hby d14_2 (flt hc2).1 ?_
      refine w_iloadN X0 hx hby d14_5 rfl ?_
      refine w_goto X0 hx hby (pc' := 10) d14_6 (by decide) ?_
      exact kt
    obtain ⟨fs, hr, hrun, hended, hW, hsame⟩ := X0.leave (v := some (.int u1)) (fun h => by rw [Bd.returns] at h; cases h)
    refine ⟨_, _, S3 _ ?_, hrun, hended, _, _, rfl, ?_, ⟨_, rfl⟩, hW, hsame.mono (by decide) (by decide)⟩
    · show Steps p.tables e below (s₁.setTop (mkF m 10 #[iv u1, iv u2] [(.int u1)])) _
      exact own_retI X0 hx Bd.returns (hb hby d14_10) hr
    · show own_Q14 Z u1 u2 h0 n0 _ s₁.heap _
      rw [e0]
      exact ⟨by simp only [own_imax, if_pos, if_neg, *, not_false_eq_true, if_true, if_false], rfl, rfl⟩
theorem d15_0 : decode jdk_29_method_69_code 0 = .ok (.iload_n 0, 1) := by decide +kernel
theorem d15_1 : decode jdk_29_method_69_code 1 = .ok (.iload_n 1, 1) := by decide +kernel
theorem d15_2 : decode jdk_29_method_69_code 2 = .ok (.if_icmp .gt 7, 3) := by decide +kernel
theorem d15_5 : decode jdk_29_method_69_code 5 = .ok (.iload_n 0, 1) := by decide +kernel
theorem d15_6 : decode jdk_29_method_69_code 6 = .ok (.goto 4, 3) := by decide +kernel
theorem d15_9 : decode jdk_29_method_69_code 9 = .ok (.iload_n 1, 1) := by decide +kernel
theorem d15_10 : decode jdk_29_method_69_code 10 = .ok (.ireturn, 1) := by decide +kernel
theorem own_ef15 (m : MethodId) (x0 : Int32) (x1 : Int32) : entryFrame m #[(.int x0), (.int x1)] 2 = mkF m 0 #[iv x0, iv x1] [] := by first | (simp [entryFrame, mkF, argsToLocals, Value.category]; done) | rfl
def own_Q15 (Z : State) (u1 : Int32) (u2 : Int32) (h0 : Heap) (n0 : Nat) (v : Option Value) (h : Heap) (L : List Loc) : Prop := v = some (.int (own_imin u1 u2)) ∧ L = [] ∧ h = h0
set_option maxHeartbeats 40000000 in
theorem own_rm15 (l : Launch) (Z : State) (a0 : Array Value) (hw : ∀ d ∈ tables_1, d.before a0 Z = true) (ws : List Jvm.Cond) (u1 : Int32) (u2 : Int32) (h0 : Heap) (n0 : Nat) (Z0 : n0 ≤ h0.size) :
    MetFree l own_y21 (head1 (Jvm.Cond.code own_y21 jdk_29_method_69_code 2 (some .int) :: ws) ({ frames := 0, cells := 0, slots := 0, locals := 0 } : Room)) (fun argv U => argv = #[(.int u1), (.int u2)] ∧ Z.Warmed39 U.vm ∧ U.heap = h0) (fun _ _ _ _ _ => True) (fun _ U o U' => ∃ v L, o = .returned v ∧ own_Q15 Z u1 u2 h0 n0 v U'.heap L ∧ FrameEnd U o U' L ({ frames := 0, cells := 0, slots := 0, locals := 0 } : Room).cells ({ frames := 0, cells := 0, slots := 0, locals := 0 } : Room).slots) := by
  refine MetFree.of_bodySF (Jvm.Free.JP.mathPlain rfl (by decide +kernel)) hisR ?_
  intro p e s m args below meth c s₁ Bd hml0 hP hK
  obtain ⟨rfl, hZ, hh⟩ := hP
  have hx := Bd.exec
  have hby := Bd.bytes
  have hml : c.maxLocals = 2 := hml0
  have hown : s.vm.findClass "java/lang/Math" = some m.cls := findClass_of_methodNamed Bd.named
  have hnm := (name_of_methodNamed Bd.named Bd.method).1
  have X0 : Stand p l e ({ frames := 0, cells := 0, slots := 0, locals := 0 } : Room) s m #[(.int u1), (.int u2)] below meth c s₁ [] 0 0 := Stand.of_body Bd
  have e0 : s₁.heap = h0 := by rw [← hh, Bd.state]; rfl
  have N0 := Fr.nil n0
  have pre_ : own_G p e below (s₁.setTop (entryFrame m #[(.int u1), (.int u2)] 2)) s₁ m 0 #[iv u1, iv u2] [] := fun t k => castTop (own_ef15 m u1 u2) k
  obtain ⟨s0, hs0⟩ : ∃ z, z = (s₁.setTop (entryFrame m #[(.int u1), (.int u2)] 2)) := ⟨_, rfl⟩
  have pre0 : own_G p e below s0 s₁ m 0 #[iv u1, iv u2] [] := hs0 ▸ pre_
  rw [← hs0]
  have S1 : own_G p e below s0 s₁ m 2 #[iv u1, iv u2] [(.int u2), (.int u1)] := fun t kt => by
    refine pre0 t ?_
    refine w_iloadN X0 hx hby d15_0 rfl ?_
    refine w_iloadN X0 hx hby d15_1 rfl ?_
    exact kt
  by_cases hc2 : u2 < u1
  · skip
    have S2 : own_G p e below s0 s₁ m 10 #[iv u1, iv u2] [(.int u2)] := fun t kt => by
      refine S1 t ?_
      refine w_icmpYes X0 hx hby (pc' := 9) d15_2 (tlt hc2).2.2.1 (by decide) ?_
      refine w_iloadN X0 hx hby d15_9 rfl ?_
      exact kt
    obtain ⟨fs, hr, hrun, hended, hW, hsame⟩ := X0.leave (v := some (.int u2)) (fun h => by rw [Bd.returns] at h; cases h)
    refine ⟨_, _, S2 _ ?_, hrun, hended, _, _, rfl, ?_, ⟨_, rfl⟩, hW, hsame.mono (by decide) (by decide)⟩
    · show Steps p.tables e below (s₁.setTop (mkF m 10 #[iv u1, iv u2] [(.int u2)])) _
      exact own_retI X0 hx Bd.returns (hb hby d15_10) hr
    · show own_Q15 Z u1 u2 h0 n0 _ s₁.heap _
      rw [e0]
      exact ⟨by simp only [own_imin, if_pos, if_neg, *, not_false_eq_true, if_true, if_false], rfl, rfl⟩
  · skip
    have S3 : own_G p e below s0 s₁ m 10 #[iv u1, iv u2] [(.int u1)] := fun t kt => by
      refine S1 t ?_
      refine w_icmpNo X0 hx hby d15_2 (flt hc2).2.2.1 ?_
      refine w_iloadN X0 hx hby d15_5 rfl ?_
      refine w_goto X0 hx hby (pc' := 10) d15_6 (by decide) ?_
      exact kt
    obtain ⟨fs, hr, hrun, hended, hW, hsame⟩ := X0.leave (v := some (.int u1)) (fun h => by rw [Bd.returns] at h; cases h)
    refine ⟨_, _, S3 _ ?_, hrun, hended, _, _, rfl, ?_, ⟨_, rfl⟩, hW, hsame.mono (by decide) (by decide)⟩
    · show Steps p.tables e below (s₁.setTop (mkF m 10 #[iv u1, iv u2] [(.int u1)])) _
      exact own_retI X0 hx Bd.returns (hb hby d15_10) hr
    · show own_Q15 Z u1 u2 h0 n0 _ s₁.heap _
      rw [e0]
      exact ⟨by simp only [own_imin, if_pos, if_neg, *, not_false_eq_true, if_true, if_false], rfl, rfl⟩
theorem d13_0 : decode jdk_43_method_4_code 0 = .ok (.iload_n 0, 1) := by decide +kernel
theorem d13_1 : decode jdk_43_method_4_code 1 = .ok (.ifCond .lt 14, 3) := by decide +kernel
theorem d13_4 : decode jdk_43_method_4_code 4 = .ok (.iload_n 0, 1) := by decide +kernel
theorem d13_5 : decode jdk_43_method_4_code 5 = .ok (.sipush 255, 3) := by decide +kernel
theorem d13_8 : decode jdk_43_method_4_code 8 = .ok (.if_icmp .gt 7, 3) := by decide +kernel
theorem d13_11 : decode jdk_43_method_4_code 11 = .ok (.iconst 1, 1) := by decide +kernel
theorem d13_12 : decode jdk_43_method_4_code 12 = .ok (.goto 4, 3) := by decide +kernel
theorem d13_16 : decode jdk_43_method_4_code 16 = .ok (.ireturn, 1) := by decide +kernel
theorem own_ef13 (m : MethodId) (x0 : Int32) : entryFrame m #[(.int x0)] 1 = mkF m 0 #[iv x0] [] := by first | (simp [entryFrame, mkF, argsToLocals, Value.category]; done) | rfl
def own_Q13 (Z : State)  (h0 : Heap) (n0 : Nat) (v : Option Value) (h : Heap) (L : List Loc) : Prop := v = some (.int 1) ∧ L = [] ∧ h = h0
set_option maxHeartbeats 40000000 in
theorem own_rm13 (l : Launch) (Z : State) (a0 : Array Value) (hw : ∀ d ∈ tables_1, d.before a0 Z = true) (ws : List Jvm.Cond)  (h0 : Heap) (n0 : Nat) (Z0 : n0 ≤ h0.size) :
    MetFree l own_y12 (head1 (Jvm.Cond.code own_y12 jdk_43_method_4_code 1 (some .boolean) :: ws) ({ frames := 0, cells := 0, slots := 0, locals := 0 } : Room)) (fun argv U => argv = #[(.int 10)] ∧ Z.Warmed39 U.vm ∧ U.heap = h0) (fun _ _ _ _ _ => True) (fun _ U o U' => ∃ v L, o = .returned v ∧ own_Q13 Z  h0 n0 v U'.heap L ∧ FrameEnd U o U' L ({ frames := 0, cells := 0, slots := 0, locals := 0 } : Room).cells ({ frames := 0, cells := 0, slots := 0, locals := 0 } : Room).slots) := by
  refine MetFree.of_bodySF (plainFor_of_name own_pn0) hisR ?_
  intro p e s m args below meth c s₁ Bd hml0 hP hK
  obtain ⟨rfl, hZ, hh⟩ := hP
  have hx := Bd.exec
  have hby := Bd.bytes
  have hml : c.maxLocals = 1 := hml0
  have hown : s.vm.findClass "java/lang/StringLatin1" = some m.cls := findClass_of_methodNamed Bd.named
  have hnm := (name_of_methodNamed Bd.named Bd.method).1
  have X0 : Stand p l e ({ frames := 0, cells := 0, slots := 0, locals := 0 } : Room) s m #[(.int 10)] below meth c s₁ [] 0 0 := Stand.of_body Bd
  have e0 : s₁.heap = h0 := by rw [← hh, Bd.state]; rfl
  have N0 := Fr.nil n0
  have pre_ : own_G p e below (s₁.setTop (entryFrame m #[(.int 10)] 1)) s₁ m 0 #[iv 10] [] := fun t k => castTop (own_ef13 m (10 : Int32)) k
  obtain ⟨s0, hs0⟩ : ∃ z, z = (s₁.setTop (entryFrame m #[(.int 10)] 1)) := ⟨_, rfl⟩
  have pre0 : own_G p e below s0 s₁ m 0 #[iv 10] [] := hs0 ▸ pre_
  rw [← hs0]
  have S1 : own_G p e below s0 s₁ m 1 #[iv 10] [(.int 10)] := fun t kt => by
    refine pre0 t ?_
    refine w_iloadN X0 hx hby d13_0 rfl ?_
    exact kt
  have hc1_2 : ¬ ((10 : Int32) < (0 : Int32)) := by decide
  have S3 : own_G p e below s0 s₁ m 8 #[iv 10] [(.int 255), (.int 10)] := fun t kt => by
    refine S1 t ?_
    refine w_ifNo X0 hx hby d13_1 ((if0 _ _).trans (flt hc1_2).1) ?_
    refine w_iloadN X0 hx hby d13_4 rfl ?_
    refine w_sipush X0 hx hby d13_5 ?_
    exact kt
  have hc8_4 : ¬ ((255 : Int32) < (10 : Int32)) := by decide
  have S5 : own_G p e below s0 s₁ m 16 #[iv 10] [(.int 1)] := fun t kt => by
    refine S3 t ?_
    refine w_icmpNo X0 hx hby d13_8 (flt hc8_4).2.2.1 ?_
    refine w_iconst X0 hx hby d13_11 ?_
    refine w_goto X0 hx hby (pc' := 16) d13_12 (by decide) ?_
    exact kt
  obtain ⟨fs, hr, hrun, hended, hW, hsame⟩ := X0.leave (v := some (.int (nar .boolean (1 : Int32)))) (fun h => by rw [Bd.returns] at h; cases h)
  refine ⟨_, _, S5 _ ?_, hrun, hended, _, _, rfl, ?_, ⟨_, rfl⟩, hW, hsame.mono (by decide) (by decide)⟩
  · show Steps p.tables e below (s₁.setTop (mkF m 16 #[iv 10] [(.int 1)])) _
    exact retN X0 hx (t := .boolean) Bd.returns (by simp) (hb hby d13_16) hr
  · show own_Q13 Z  h0 n0 _ s₁.heap _
    rw [e0]
    exact ⟨rfl, rfl, rfl⟩
theorem own_pd0 : parseMethodDescriptor "(I)Z" = some ⟨[.int], some .boolean⟩ := by decide +kernel
theorem own_pd1 : parseMethodDescriptor "(II)I" = some ⟨[.int, .int], some .int⟩ := by decide +kernel
theorem own_pd2 : parseMethodDescriptor "([BIII)I" = some ⟨[(.array .byte), .int, .int, .int], some .int⟩ := by decide +kernel
theorem d12_0 : decode jdk_43_method_22_code 0 = .ok (.iload_n 1, 1) := by decide +kernel
theorem d12_1 : decode jdk_43_method_22_code 1 = .ok (.invokestatic 88, 3) := by decide +kernel
theorem d12_4 : decode jdk_43_method_22_code 4 = .ok (.ifCond .ne 5, 3) := by decide +kernel
theorem d12_9 : decode jdk_43_method_22_code 9 = .ok (.iload_n 2, 1) := by decide +kernel
theorem d12_10 : decode jdk_43_method_22_code 10 = .ok (.iconst 0, 1) := by decide +kernel
theorem d12_11 : decode jdk_43_method_22_code 11 = .ok (.invokestatic 92, 3) := by decide +kernel
theorem d12_14 : decode jdk_43_method_22_code 14 = .ok (.istore_n 2, 1) := by decide +kernel
theorem d12_15 : decode jdk_43_method_22_code 15 = .ok (.iload_n 3, 1) := by decide +kernel
theorem d12_16 : decode jdk_43_method_22_code 16 = .ok (.aload_n 0, 1) := by decide +kernel
theorem d12_17 : decode jdk_43_method_22_code 17 = .ok (.arraylength, 1) := by decide +kernel
theorem d12_18 : decode jdk_43_method_22_code 18 = .ok (.invokestatic 38, 3) := by decide +kernel
theorem d12_21 : decode jdk_43_method_22_code 21 = .ok (.istore_n 3, 1) := by decide +kernel
theorem d12_22 : decode jdk_43_method_22_code 22 = .ok (.iload_n 2, 1) := by decide +kernel
theorem d12_23 : decode jdk_43_method_22_code 23 = .ok (.iload_n 3, 1) := by decide +kernel
theorem d12_24 : decode jdk_43_method_22_code 24 = .ok (.if_icmp .lt 5, 3) := by decide +kernel
theorem d12_27 : decode jdk_43_method_22_code 27 = .ok (.iconst (-1), 1) := by decide +kernel
theorem d12_28 : decode jdk_43_method_22_code 28 = .ok (.ireturn, 1) := by decide +kernel
theorem d12_29 : decode jdk_43_method_22_code 29 = .ok (.aload_n 0, 1) := by decide +kernel
theorem d12_30 : decode jdk_43_method_22_code 30 = .ok (.iload_n 1, 1) := by decide +kernel
theorem d12_31 : decode jdk_43_method_22_code 31 = .ok (.iload_n 2, 1) := by decide +kernel
theorem d12_32 : decode jdk_43_method_22_code 32 = .ok (.iload_n 3, 1) := by decide +kernel
theorem d12_33 : decode jdk_43_method_22_code 33 = .ok (.invokestatic 95, 3) := by decide +kernel
theorem d12_36 : decode jdk_43_method_22_code 36 = .ok (.ireturn, 1) := by decide +kernel
theorem own_ef12 (m : MethodId) (x0 : Addr) (x1 : Int32) (x2 : Int32) (x3 : Int32) : entryFrame m #[(.ref x0), (.int x1), (.int x2), (.int x3)] 4 = mkF m 0 #[rv x0, iv x1, iv x2, iv x3] [] := by first | (simp [entryFrame, mkF, argsToLocals, Value.category]; done) | rfl
def own_Q12 (Z : State) (b : Addr) (fr : Int32) (to : Int32) (kb : ClassId) (bs : List Int32) (nn : Nat) (h0 : Heap) (n0 : Nat) (v : Option Value) (h : Heap) (L : List Loc) : Prop := v = some (.int (own_ixF bs nn fr)) ∧ L = [] ∧ h = h0
set_option maxHeartbeats 40000000 in
theorem own_rm12 (l : Launch) (Z : State) (a0 : Array Value) (hw : ∀ d ∈ tables_1, d.before a0 Z = true) (ws : List Jvm.Cond) (b : Addr) (fr : Int32) (to : Int32) (kb : ClassId) (bs : List Int32) (nn : Nat) (h0 : Heap) (n0 : Nat) (Z0 : n0 ≤ h0.size) (V_b : Arv Z h0 b kb .byte to (bs.map Value.int) (.int 0)) (hto : to = Int32.ofNat nn) (hnn : nn ≤ 6) (hf0 : ¬ fr < (0 : Int32)) (hfn : fr.toInt ≤ 100) :
    MetFree l own_y9 (head1 (Jvm.Cond.code own_y9 jdk_43_method_22_code 4 (some .int) :: ws) ({ frames := 1, cells := 0, slots := 0, locals := 17 } : Room)) (fun argv U => argv = #[(.ref b), (.int 10), (.int fr), (.int to)] ∧ Z.Warmed39 U.vm ∧ U.heap = h0) (fun _ _ _ _ _ => True) (fun _ U o U' => ∃ v L, o = .returned v ∧ own_Q12 Z b fr to kb bs nn h0 n0 v U'.heap L ∧ FrameEnd U o U' L ({ frames := 1, cells := 0, slots := 0, locals := 17 } : Room).cells ({ frames := 1, cells := 0, slots := 0, locals := 17 } : Room).slots) := by
  refine MetFree.of_bodySF (plainFor_of_name own_pn0) hisR ?_
  intro p e s m args below meth c s₁ Bd hml0 hP hK
  obtain ⟨rfl, hZ, hh⟩ := hP
  have hx := Bd.exec
  have hby := Bd.bytes
  have hml : c.maxLocals = 4 := hml0
  have hown : s.vm.findClass "java/lang/StringLatin1" = some m.cls := findClass_of_methodNamed Bd.named
  have hnm := (name_of_methodNamed Bd.named Bd.method).1
  have X0 : Stand p l e ({ frames := 1, cells := 0, slots := 0, locals := 17 } : Room) s m #[(.ref b), (.int 10), (.int fr), (.int to)] below meth c s₁ [] 0 0 := Stand.of_body Bd
  have e0 : s₁.heap = h0 := by rw [← hh, Bd.state]; rfl
  have N0 := Fr.nil n0
  have pre_ : own_G p e below (s₁.setTop (entryFrame m #[(.ref b), (.int 10), (.int fr), (.int to)] 4)) s₁ m 0 #[rv b, iv 10, iv fr, iv to] [] := fun t k => castTop (own_ef12 m b (10 : Int32) fr to) k
  obtain ⟨s0, hs0⟩ : ∃ z, z = (s₁.setTop (entryFrame m #[(.ref b), (.int 10), (.int fr), (.int to)] 4)) := ⟨_, rfl⟩
  have pre0 : own_G p e below s0 s₁ m 0 #[rv b, iv 10, iv fr, iv to] [] := hs0 ▸ pre_
  rw [← hs0]
  have S2 : own_G p e below s0 s₁ m 1 #[rv b, iv 10, iv fr, iv to] [(.int 10)] := fun t kt => by
    refine pre0 t ?_
    refine w_iloadN X0 hx hby d12_0 rfl ?_
    exact kt
  obtain ⟨_, _, ⟨T3, L3, k3, n3⟩, -, X3, ⟨Lc3, hQ3, l3, y3, z3⟩, st3⟩ := Jvm.LawKit.callS X0 hx (y := own_y12) hown (mvT hZ (own_w hw 73 rfl)) (mvT hZ (own_w hw 74 rfl)) (mvT hZ (own_w hw 71 rfl)) (mvT hZ (own_w hw 75 rfl)) (by decide) (backOf (W := 0) (own_rm13 l Z a0 hw []  h0 n0 Z0) hZ (own_w hw 75 rfl) (own_w hw 71 rfl) (by decide) (by decide)) (g := (mkF m 1 #[rv b, iv 10, iv fr, iv to] [(.int 10)])) rfl (by rw [hml]; rfl) (argsL := [(.int 10)]) (rest := []) (lenOf own_pd0 rfl) rfl (by show 2 * 0 + _ ≤ _; exact Nat.le_of_eq rfl) (hb hby d12_1) (fun _ _ => ⟨rfl, e0, (by decide : 0 + 0 ≤ _), (by decide : 0 + 0 ≤ _)⟩)
  dsimp only [Pt.U, Pt.locs, Pt.cells, Pt.slots] at X3 l3 y3 z3 st3 hQ3
  subst l3 y3 z3
  obtain ⟨rfl, rfl, eq1⟩ := hQ3
  try rw [List.append_nil] at X3
  have S4 : own_G p e below s0 T3 m 4 #[rv b, iv 10, iv fr, iv to] [(.int 1)] := fun t kt => S2 t (st3 _ kt)
  have hc4_5 : ¬ ((1 : Int32) = (0 : Int32)) := by decide
  have S7 : own_G p e below s0 T3 m 11 #[rv b, iv 10, iv fr, iv to] [(.int 0), (.int fr)] := fun t kt => by
    refine S4 t ?_
    refine w_ifYes X3 hx hby (pc' := 9) d12_4 ((if0 _ _).trans (feq hc4_5).2) (by decide) ?_
    refine w_iloadN X3 hx hby d12_9 rfl ?_
    refine w_iconst X3 hx hby d12_10 ?_
    exact kt
  obtain ⟨_, _, ⟨T8, L8, k8, n8⟩, -, X8, ⟨Lc8, hQ8, l8, y8, z8⟩, st8⟩ := Jvm.LawKit.callS X3 hx (y := own_y22) hown (mvT hZ (own_w hw 76 rfl)) (mvT hZ (own_w hw 77 rfl)) (mvT hZ (own_w hw 78 rfl)) (mvT hZ (own_w hw 79 rfl)) (by decide) (backOf (W := 0) (own_rm14 l Z a0 hw [] (fr) ((0 : Int32)) h0 n0 Z0) hZ (own_w hw 79 rfl) (own_w hw 78 rfl) (by decide) (by decide)) (g := (mkF m 11 #[rv b, iv 10, iv fr, iv to] [(.int 0), (.int fr)])) rfl (by rw [hml]; rfl) (argsL := [(.int fr), (.int 0)]) (rest := []) (lenOf own_pd1 rfl) rfl (by show 2 * 0 + _ ≤ _; exact Nat.le_of_eq rfl) (hb hby d12_11) (fun _ _ => ⟨rfl, eq1, (by decide : 0 + 0 ≤ _), (by decide : 0 + 0 ≤ _)⟩)
  dsimp only [Pt.U, Pt.locs, Pt.cells, Pt.slots] at X8 l8 y8 z8 st8 hQ8
  subst l8 y8 z8
  obtain ⟨rfl, rfl, eq6⟩ := hQ8
  try rw [List.append_nil] at X8
  have S9 : own_G p e below s0 T8 m 14 #[rv b, iv 10, iv fr, iv to] [(.int (own_imax fr (0 : Int32)))] := fun t kt => S7 t (st8 _ kt)
  have S10 : own_G p e below s0 T8 m 17 #[rv b, iv 10, iv (own_imax fr (0 : Int32)), iv to] [(.ref b), (.int to)] := fun t kt => by
    refine S9 t ?_
    refine w_istoreN X8 hx hby d12_14 (l' := #[rv b, iv 10, iv (own_imax fr (0 : Int32)), iv to]) rfl ?_
    refine w_iloadN X8 hx hby d12_15 rfl ?_
    refine w_aloadN X8 hx hby d12_16 rfl rfl ?_
    exact kt
  obtain ⟨cl11, Ar11, -, Sz11, Nn11, -, -⟩ := id V_b
  have S13 : own_G p e below s0 T8 m 18 #[rv b, iv 10, iv (own_imax fr (0 : Int32)), iv to] [(.int to), (.int to)] := fun t kt => by
    refine S10 t ?_
    refine X8.arraylength hx (by rw [eq6]; exact Ar11.1) (State.isArrayOf_alike hZ.alike Ar11.2.1) (g := (mkF m 17 #[rv b, iv 10, iv (own_imax fr (0 : Int32)), iv to] [(.ref b), (.int to)])) rfl rfl (hb hby d12_17) _ ?_
    rw [len_of Sz11 Nn11]
    exact kt
  obtain ⟨_, _, ⟨T14, L14, k14, n14⟩, -, X14, ⟨Lc14, hQ14, l14, y14, z14⟩, st14⟩ := Jvm.LawKit.callS X8 hx (y := own_y21) hown (mvT hZ (own_w hw 80 rfl)) (mvT hZ (own_w hw 81 rfl)) (mvT hZ (own_w hw 78 rfl)) (mvT hZ (own_w hw 82 rfl)) (by decide) (backOf (W := 0) (own_rm15 l Z a0 hw [] (to) (to) h0 n0 Z0) hZ (own_w hw 82 rfl) (own_w hw 78 rfl) (by decide) (by decide)) (g := (mkF m 18 #[rv b, iv 10, iv (own_imax fr (0 : Int32)), iv to] [(.int to), (.int to)])) rfl (by rw [hml]; rfl) (argsL := [(.int to), (.int to)]) (rest := []) (lenOf own_pd1 rfl) rfl (by show 2 * 0 + _ ≤ _; exact Nat.le_of_eq rfl) (hb hby d12_18) (fun _ _ => ⟨rfl, eq6, (by decide : 0 + 0 ≤ _), (by decide : 0 + 0 ≤ _)⟩)
  dsimp only [Pt.U, Pt.locs, Pt.cells, Pt.slots] at X14 l14 y14 z14 st14 hQ14
  subst l14 y14 z14
  obtain ⟨rfl, rfl, eq12⟩ := hQ14
  try rw [List.append_nil] at X14
  have S15 : own_G p e below s0 T14 m 21 #[rv b, iv 10, iv (own_imax fr (0 : Int32)), iv to] [(.int (own_imin to to))] := fun t kt => S13 t (st14 _ kt)
  have S16 : own_G p e below s0 T14 m 24 #[rv b, iv 10, iv (own_imax fr (0 : Int32)), iv (own_imin to to)] [(.int (own_imin to to)), (.int (own_imax fr (0 : Int32)))] := fun t kt => by
    refine S15 t ?_
    refine w_istoreN X14 hx hby d12_21 (l' := #[rv b, iv 10, iv (own_imax fr (0 : Int32)), iv (own_imin to to)]) rfl ?_
    refine w_iloadN X14 hx hby d12_22 rfl ?_
    refine w_iloadN X14 hx hby d12_23 rfl ?_
    exact kt
  by_cases hc24 : (own_imax fr (0 : Int32)) < (own_imin to to)
  · skip
    have S18 : own_G p e below s0 T14 m 33 #[rv b, iv 10, iv (own_imax fr (0 : Int32)), iv (own_imin to to)] [(.int (own_imin to to)), (.int (own_imax fr (0 : Int32))), (.int 10), (.ref b)] := fun t kt => by
      refine S16 t ?_
      refine w_icmpYes X14 hx hby (pc' := 29) d12_24 (tlt hc24).1 (by decide) ?_
      refine w_aloadN X14 hx hby d12_29 rfl rfl ?_
      refine w_iloadN X14 hx hby d12_30 rfl ?_
      refine w_iloadN X14 hx hby d12_31 rfl ?_
      refine w_iloadN X14 hx hby d12_32 rfl ?_
      exact kt
    obtain ⟨_, _, ⟨T19, L19, k19, n19⟩, -, X19, ⟨Lc19, hQ19, l19, y19, z19⟩, st19⟩ := Jvm.LawKit.callS X14 hx (y := own_y7) hown (mvT hZ (own_w hw 118 rfl)) (mvT hZ (own_w hw 119 rfl)) (mvT hZ (own_w hw 71 rfl)) (mvT hZ (own_w hw 120 rfl)) (by decide) (backOf (W := 0) (own_rm24 l Z a0 hw [] (b) ((own_imax fr (0 : Int32))) ((own_imin to to)) (kb) (bs) (nn) h0 n0 Z0 (by rw [own_minS]; exact V_b) (by rw [own_minS]; exact hto) hnn (by rw [own_max0 hf0]; exact hf0) (by rw [own_max0 hf0]; exact hfn)) hZ (own_w hw 120 rfl) (own_w hw 71 rfl) (by decide) (by decide)) (g := (mkF m 33 #[rv b, iv 10, iv (own_imax fr (0 : Int32)), iv (own_imin to to)] [(.int (own_imin to to)), (.int (own_imax fr (0 : Int32))), (.int 10), (.ref b)])) rfl (by rw [hml]; rfl) (argsL := [(.ref b), (.int 10), (.int (own_imax fr (0 : Int32))), (.int (own_imin to to))]) (rest := []) (lenOf own_pd2 rfl) rfl (by show 2 * 0 + _ ≤ _; exact Nat.le_of_eq rfl) (hb hby d12_33) (fun _ _ => ⟨rfl, eq12, (by decide : 0 + 0 ≤ _), (by decide : 0 + 0 ≤ _)⟩)
    dsimp only [Pt.U, Pt.locs, Pt.cells, Pt.slots] at X19 l19 y19 z19 st19 hQ19
    subst l19 y19 z19
    obtain ⟨rfl, rfl, eq17⟩ := hQ19
    try rw [List.append_nil] at X19
    have S20 : own_G p e below s0 T19 m 36 #[rv b, iv 10, iv (own_imax fr (0 : Int32)), iv (own_imin to to)] [(.int (own_ixF bs nn (own_imax fr (0 : Int32))))] := fun t kt => S18 t (st19 _ kt)
    obtain ⟨fs, hr, hrun, hended, hW, hsame⟩ := X19.leave (v := some (.int (own_ixF bs nn (own_imax fr (0 : Int32))))) (fun h => by rw [Bd.returns] at h; cases h)
    refine ⟨_, _, S20 _ ?_, hrun, hended, _, _, rfl, ?_, ⟨_, rfl⟩, hW, hsame.mono (by decide) (by decide)⟩
    · show Steps p.tables e below (T19.setTop (mkF m 36 #[rv b, iv 10, iv (own_imax fr (0 : Int32)), iv (own_imin to to)] [(.int (own_ixF bs nn (own_imax fr (0 : Int32))))])) _
      exact own_retI X19 hx Bd.returns (hb hby d12_36) hr
    · show own_Q12 Z b fr to kb bs nn h0 n0 _ T19.heap _
      rw [eq17]
      exact ⟨by rw [own_max0 hf0], rfl, rfl⟩
  · skip
    have S21 : own_G p e below s0 T14 m 28 #[rv b, iv 10, iv (own_imax fr (0 : Int32)), iv (own_imin to to)] [(.int (-1))] := fun t kt => by
      refine S16 t ?_
      refine w_icmpNo X14 hx hby d12_24 (flt hc24).1 ?_
      refine w_iconst X14 hx hby d12_27 ?_
      exact kt
    obtain ⟨fs, hr, hrun, hended, hW, hsame⟩ := X14.leave (v := some (.int (-1))) (fun h => by rw [Bd.returns] at h; cases h)
    refine ⟨_, _, S21 _ ?_, hrun, hended, _, _, rfl, ?_, ⟨_, rfl⟩, hW, hsame.mono (by decide) (by decide)⟩
    · show Steps p.tables e below (T14.setTop (mkF m 28 #[rv b, iv 10, iv (own_imax fr (0 : Int32)), iv (own_imin to to)] [(.int (-1))])) _
      exact own_retI X14 hx Bd.returns (hb hby d12_28) hr
    · show own_Q12 Z b fr to kb bs nn h0 n0 _ T14.heap _
      rw [eq12]
      exact ⟨by rw [own_ixF_out hf0 (by rw [hto]; exact own_ofN (by omega)) hc24], rfl, rfl⟩
theorem d9_0 : decode jdk_42_method_154_code 0 = .ok (.getstatic 38, 3) := by decide +kernel
theorem d9_3 : decode jdk_42_method_154_code 3 = .ok (.ifCond .eq 14, 3) := by decide +kernel
theorem d9_6 : decode jdk_42_method_154_code 6 = .ok (.aload_n 0, 1) := by decide +kernel
theorem d9_7 : decode jdk_42_method_154_code 7 = .ok (.getfield 15, 3) := by decide +kernel
theorem d9_10 : decode jdk_42_method_154_code 10 = .ok (.ifCond .ne 7, 3) := by decide +kernel
theorem d9_13 : decode jdk_42_method_154_code 13 = .ok (.iconst 1, 1) := by decide +kernel
theorem d9_14 : decode jdk_42_method_154_code 14 = .ok (.goto 4, 3) := by decide +kernel
theorem d9_18 : decode jdk_42_method_154_code 18 = .ok (.ireturn, 1) := by decide +kernel
theorem own_ef9 (m : MethodId) (x0 : Addr) : entryFrame m #[(.ref x0)] 1 = mkF m 0 #[rv x0] [] := by first | (simp [entryFrame, mkF, argsToLocals, Value.category]; done) | rfl
def own_Q9 (Z : State) (a : Addr) (cs : Int32) (h0 : Heap) (n0 : Nat) (v : Option Value) (h : Heap) (L : List Loc) : Prop := v = some (.int 1) ∧ L = [] ∧ h = h0
theorem own_pn1 : plainName "java/lang/String" = true := by first | (simp [plainName, overriddenIn]; done) | decide +kernel
set_option maxHeartbeats 40000000 in
theorem own_rm9 (l : Launch) (Z : State) (a0 : Array Value) (hw : ∀ d ∈ tables_1, d.before a0 Z = true) (ws : List Jvm.Cond) (a : Addr) (cs : Int32) (h0 : Heap) (n0 : Nat) (Z0 : n0 ≤ h0.size) (S_CS : Sta Z h0 "java/lang/String" "COMPACT_STRINGS" "Z" (.int cs)) (hcs : ¬ cs = (0 : Int32)) (F_coder : Fld Z h0 a "java/lang/String" "coder" "B" (.int 0)) :
    MetFree l own_y17 (head1 (Jvm.Cond.code own_y17 jdk_42_method_154_code 1 (some .boolean) :: ws) ({ frames := 0, cells := 0, slots := 0, locals := 0 } : Room)) (fun argv U => argv = #[(.ref a)] ∧ Z.Warmed39 U.vm ∧ U.heap = h0) (fun _ _ _ _ _ => True) (fun _ U o U' => ∃ v L, o = .returned v ∧ own_Q9 Z a cs h0 n0 v U'.heap L ∧ FrameEnd U o U' L ({ frames := 0, cells := 0, slots := 0, locals := 0 } : Room).cells ({ frames := 0, cells := 0, slots := 0, locals := 0 } : Room).slots) := by
  refine MetFree.of_bodySF (plainFor_of_name own_pn1) hisR ?_
  intro p e s m args below meth c s₁ Bd hml0 hP hK
  obtain ⟨rfl, hZ, hh⟩ := hP
  have hx := Bd.exec
  have hby := Bd.bytes
  have hml : c.maxLocals = 1 := hml0
  have hown : s.vm.findClass "java/lang/String" = some m.cls := findClass_of_methodNamed Bd.named
  have hnm := (name_of_methodNamed Bd.named Bd.method).1
  have X0 : Stand p l e ({ frames := 0, cells := 0, slots := 0, locals := 0 } : Room) s m #[(.ref a)] below meth c s₁ [] 0 0 := Stand.of_body Bd
  have e0 : s₁.heap = h0 := by rw [← hh, Bd.state]; rfl
  have N0 := Fr.nil n0
  have pre_ : own_G p e below (s₁.setTop (entryFrame m #[(.ref a)] 1)) s₁ m 0 #[rv a] [] := fun t k => castTop (own_ef9 m a) k
  obtain ⟨s0, hs0⟩ : ∃ z, z = (s₁.setTop (entryFrame m #[(.ref a)] 1)) := ⟨_, rfl⟩
  have pre0 : own_G p e below s0 s₁ m 0 #[rv a] [] := hs0 ▸ pre_
  rw [← hs0]
  obtain ⟨T1, X1, e1, st1⟩ := getS2 X0 hx hZ hown (host := "") (Or.inl (own_w hw 58 rfl)) Via.refl e0 S_CS (g := (mkF m 0 #[rv a] [])) rfl (hb hby d9_0)
  have S2 : own_G p e below s0 T1 m 3 #[rv a] [(.int cs)] := fun t kt => pre0 t (st1 _ kt)
  have hc3_3 : ¬ (cs = (0 : Int32)) := hcs
  have S4 : own_G p e below s0 T1 m 7 #[rv a] [(.ref a)] := fun t kt => by
    refine S2 t ?_
    refine w_ifNo X1 hx hby d9_3 ((if0 _ _).trans (feq hc3_3).1) ?_
    refine w_aloadN X1 hx hby d9_6 rfl rfl ?_
    exact kt
  obtain ⟨T5, X5, e5, st5⟩ := getF X1 hx hZ hown (host := "") (Or.inl (own_w hw 33 rfl)) Via.refl e1 F_coder (g := (mkF m 7 #[rv a] [(.ref a)])) rfl rfl (hb hby d9_7)
  have S6 : own_G p e below s0 T5 m 10 #[rv a] [(.int 0)] := fun t kt => S4 t (st5 _ kt)
  have hc10_7 : (0 : Int32) = (0 : Int32) := by decide
  have S8 : own_G p e below s0 T5 m 18 #[rv a] [(.int 1)] := fun t kt => by
    refine S6 t ?_
    refine w_ifNo X5 hx hby d9_10 ((if0 _ _).trans (teq hc10_7).2) ?_
    refine w_iconst X5 hx hby d9_13 ?_
    refine w_goto X5 hx hby (pc' := 18) d9_14 (by decide) ?_
    exact kt
  obtain ⟨fs, hr, hrun, hended, hW, hsame⟩ := X5.leave (v := some (.int (nar .boolean (1 : Int32)))) (fun h => by rw [Bd.returns] at h; cases h)
  refine ⟨_, _, S8 _ ?_, hrun, hended, _, _, rfl, ?_, ⟨_, rfl⟩, hW, hsame.mono (by decide) (by decide)⟩
  · show Steps p.tables e below (T5.setTop (mkF m 18 #[rv a] [(.int 1)])) _
    exact retN X5 hx (t := .boolean) Bd.returns (by simp) (hb hby d9_18) hr
  · show own_Q9 Z a cs h0 n0 _ T5.heap _
    rw [e5]
    exact ⟨rfl, rfl, rfl⟩
theorem d11_0 : decode jdk_42_method_152_code 0 = .ok (.getstatic 38, 3) := by decide +kernel
theorem d11_3 : decode jdk_42_method_152_code 3 = .ok (.ifCond .eq 10, 3) := by decide +kernel
theorem d11_6 : decode jdk_42_method_152_code 6 = .ok (.aload_n 0, 1) := by decide +kernel
theorem d11_7 : decode jdk_42_method_152_code 7 = .ok (.getfield 15, 3) := by decide +kernel
theorem d11_10 : decode jdk_42_method_152_code 10 = .ok (.goto 4, 3) := by decide +kernel
theorem d11_14 : decode jdk_42_method_152_code 14 = .ok (.ireturn, 1) := by decide +kernel
theorem own_ef11 (m : MethodId) (x0 : Addr) : entryFrame m #[(.ref x0)] 1 = mkF m 0 #[rv x0] [] := by first | (simp [entryFrame, mkF, argsToLocals, Value.category]; done) | rfl
def own_Q11 (Z : State) (a : Addr) (cs : Int32) (h0 : Heap) (n0 : Nat) (v : Option Value) (h : Heap) (L : List Loc) : Prop := v = some (.int 0) ∧ L = [] ∧ h = h0
set_option maxHeartbeats 40000000 in
theorem own_rm11 (l : Launch) (Z : State) (a0 : Array Value) (hw : ∀ d ∈ tables_1, d.before a0 Z = true) (ws : List Jvm.Cond) (a : Addr) (cs : Int32) (h0 : Heap) (n0 : Nat) (Z0 : n0 ≤ h0.size) (S_CS : Sta Z h0 "java/lang/String" "COMPACT_STRINGS" "Z" (.int cs)) (hcs : ¬ cs = (0 : Int32)) (F_coder : Fld Z h0 a "java/lang/String" "coder" "B" (.int 0)) :
    MetFree l own_y20 (head1 (Jvm.Cond.code own_y20 jdk_42_method_152_code 1 (some .byte) :: ws) ({ frames := 0, cells := 0, slots := 0, locals := 0 } : Room)) (fun argv U => argv = #[(.ref a)] ∧ Z.Warmed39 U.vm ∧ U.heap = h0) (fun _ _ _ _ _ => True) (fun _ U o U' => ∃ v L, o = .returned v ∧ own_Q11 Z a cs h0 n0 v U'.heap L ∧ FrameEnd U o U' L ({ frames := 0, cells := 0, slots := 0, locals := 0 } : Room).cells ({ frames := 0, cells := 0, slots := 0, locals := 0 } : Room).slots) := by
  refine MetFree.of_bodySF (plainFor_of_name own_pn1) hisR ?_
  intro p e s m args below meth c s₁ Bd hml0 hP hK
  obtain ⟨rfl, hZ, hh⟩ := hP
  have hx := Bd.exec
  have hby := Bd.bytes
  have hml : c.maxLocals = 1 := hml0
  have hown : s.vm.findClass "java/lang/String" = some m.cls := findClass_of_methodNamed Bd.named
  have hnm := (name_of_methodNamed Bd.named Bd.method).1
  have X0 : Stand p l e ({ frames := 0, cells := 0, slots := 0, locals := 0 } : Room) s m #[(.ref a)] below meth c s₁ [] 0 0 := Stand.of_body Bd
  have e0 : s₁.heap = h0 := by rw [← hh, Bd.state]; rfl
  have N0 := Fr.nil n0
  have pre_ : own_G p e below (s₁.setTop (entryFrame m #[(.ref a)] 1)) s₁ m 0 #[rv a] [] := fun t k => castTop (own_ef11 m a) k
  obtain ⟨s0, hs0⟩ : ∃ z, z = (s₁.setTop (entryFrame m #[(.ref a)] 1)) := ⟨_, rfl⟩
  have pre0 : own_G p e below s0 s₁ m 0 #[rv a] [] := hs0 ▸ pre_
  rw [← hs0]
  obtain ⟨T1, X1, e1, st1⟩ := getS2 X0 hx hZ hown (host := "") (Or.inl (own_w hw 58 rfl)) Via.refl e0 S_CS (g := (mkF m 0 #[rv a] [])) rfl (hb hby d11_0)
  have S2 : own_G p e below s0 T1 m 3 #[rv a] [(.int cs)] := fun t kt => pre0 t (st1 _ kt)
  have hc3_3 : ¬ (cs = (0 : Int32)) := hcs
  have S4 : own_G p e below s0 T1 m 7 #[rv a] [(.ref a)] := fun t kt => by
    refine S2 t ?_
    refine w_ifNo X1 hx hby d11_3 ((if0 _ _).trans (feq hc3_3).1) ?_
    refine w_aloadN X1 hx hby d11_6 rfl rfl ?_
    exact kt
  obtain ⟨T5, X5, e5, st5⟩ := getF X1 hx hZ hown (host := "") (Or.inl (own_w hw 33 rfl)) Via.refl e1 F_coder (g := (mkF m 7 #[rv a] [(.ref a)])) rfl rfl (hb hby d11_7)
  have S6 : own_G p e below s0 T5 m 10 #[rv a] [(.int 0)] := fun t kt => S4 t (st5 _ kt)
  have S7 : own_G p e below s0 T5 m 14 #[rv a] [(.int 0)] := fun t kt => by
    refine S6 t ?_
    refine w_goto X5 hx hby (pc' := 14) d11_10 (by decide) ?_
    exact kt
  obtain ⟨fs, hr, hrun, hended, hW, hsame⟩ := X5.leave (v := some (.int (nar .byte (0 : Int32)))) (fun h => by rw [Bd.returns] at h; cases h)
  refine ⟨_, _, S7 _ ?_, hrun, hended, _, _, rfl, ?_, ⟨_, rfl⟩, hW, hsame.mono (by decide) (by decide)⟩
  · show Steps p.tables e below (T5.setTop (mkF m 14 #[rv a] [(.int 0)])) _
    exact retN X5 hx (t := .byte) Bd.returns (by simp) (hb hby d11_14) hr
  · show own_Q11 Z a cs h0 n0 _ T5.heap _
    rw [e5]
    exact ⟨rfl, rfl, rfl⟩
theorem own_pd3 : parseMethodDescriptor "()B" = some ⟨[], some .byte⟩ := by decide +kernel
theorem d10_0 : decode jdk_42_method_54_code 0 = .ok (.aload_n 0, 1) := by decide +kernel
theorem d10_1 : decode jdk_42_method_54_code 1 = .ok (.getfield 9, 3) := by decide +kernel
theorem d10_4 : decode jdk_42_method_54_code 4 = .ok (.arraylength, 1) := by decide +kernel
theorem d10_5 : decode jdk_42_method_54_code 5 = .ok (.aload_n 0, 1) := by decide +kernel
theorem d10_6 : decode jdk_42_method_54_code 6 = .ok (.invokevirtual 335, 3) := by decide +kernel
theorem d10_9 : decode jdk_42_method_54_code 9 = .ok (.ishr, 1) := by decide +kernel
theorem d10_10 : decode jdk_42_method_54_code 10 = .ok (.ireturn, 1) := by decide +kernel
theorem own_ef10 (m : MethodId) (x0 : Addr) : entryFrame m #[(.ref x0)] 1 = mkF m 0 #[rv x0] [] := by first | (simp [entryFrame, mkF, argsToLocals, Value.category]; done) | rfl
def own_Q10 (Z : State) (a : Addr) (cs : Int32) (b : Addr) (to : Int32) (kb : ClassId) (bs : List Int32) (nn : Nat) (h0 : Heap) (n0 : Nat) (v : Option Value) (h : Heap) (L : List Loc) : Prop := v = some (.int to) ∧ L = [] ∧ h = h0
set_option maxHeartbeats 40000000 in
theorem own_rm10 (l : Launch) (Z : State) (a0 : Array Value) (hw : ∀ d ∈ tables_1, d.before a0 Z = true) (ws : List Jvm.Cond) (a : Addr) (cs : Int32) (b : Addr) (to : Int32) (kb : ClassId) (bs : List Int32) (nn : Nat) (h0 : Heap) (n0 : Nat) (Z0 : n0 ≤ h0.size) (E_a : Exa Z h0 a "java/lang/String") (S_CS : Sta Z h0 "java/lang/String" "COMPACT_STRINGS" "Z" (.int cs)) (hcs : ¬ cs = (0 : Int32)) (F_coder : Fld Z h0 a "java/lang/String" "coder" "B" (.int 0)) (F_value : Fld Z h0 a "java/lang/String" "value" "[B" (.ref b)) (V_b : Arv Z h0 b kb .byte to (bs.map Value.int) (.int 0)) :
    MetFree l own_y19 (head1 (Jvm.Cond.code own_y19 jdk_42_method_54_code 1 (some .int) :: ws) ({ frames := 1, cells := 0, slots := 0, locals := 13 } : Room)) (fun argv U => argv = #[(.ref a)] ∧ Z.Warmed39 U.vm ∧ U.heap = h0) (fun _ _ _ _ _ => True) (fun _ U o U' => ∃ v L, o = .returned v ∧ own_Q10 Z a cs b to kb bs nn h0 n0 v U'.heap L ∧ FrameEnd U o U' L ({ frames := 1, cells := 0, slots := 0, locals := 13 } : Room).cells ({ frames := 1, cells := 0, slots := 0, locals := 13 } : Room).slots) := by
  refine MetFree.of_bodySF (plainFor_of_name own_pn1) hisR ?_
  intro p e s m args below meth c s₁ Bd hml0 hP hK
  obtain ⟨rfl, hZ, hh⟩ := hP
  have hx := Bd.exec
  have hby := Bd.bytes
  have hml : c.maxLocals = 1 := hml0
  have hown : s.vm.findClass "java/lang/String" = some m.cls := findClass_of_methodNamed Bd.named
  have hnm := (name_of_methodNamed Bd.named Bd.method).1
  have X0 : Stand p l e ({ frames := 1, cells := 0, slots := 0, locals := 13 } : Room) s m #[(.ref a)] below meth c s₁ [] 0 0 := Stand.of_body Bd
  have e0 : s₁.heap = h0 := by rw [← hh, Bd.state]; rfl
  have N0 := Fr.nil n0
  have pre_ : own_G p e below (s₁.setTop (entryFrame m #[(.ref a)] 1)) s₁ m 0 #[rv a] [] := fun t k => castTop (own_ef10 m a) k
  obtain ⟨s0, hs0⟩ : ∃ z, z = (s₁.setTop (entryFrame m #[(.ref a)] 1)) := ⟨_, rfl⟩
  have pre0 : own_G p e below s0 s₁ m 0 #[rv a] [] := hs0 ▸ pre_
  rw [← hs0]
  have S1 : own_G p e below s0 s₁ m 1 #[rv a] [(.ref a)] := fun t kt => by
    refine pre0 t ?_
    refine w_aloadN X0 hx hby d10_0 rfl rfl ?_
    exact kt
  obtain ⟨T2, X2, e2, st2⟩ := getF X0 hx hZ hown (host := "") (Or.inl (own_w hw 32 rfl)) Via.refl e0 F_value (g := (mkF m 1 #[rv a] [(.ref a)])) rfl rfl (hb hby d10_1)
  have S3 : own_G p e below s0 T2 m 4 #[rv a] [(.ref b)] := fun t kt => S1 t (st2 _ kt)
  obtain ⟨cl4, Ar4, -, Sz4, Nn4, -, -⟩ := id V_b
  have S6 : own_G p e below s0 T2 m 6 #[rv a] [(.ref a), (.int to)] := fun t kt => by
    refine S3 t ?_
    refine X2.arraylength hx (by rw [e2]; exact Ar4.1) (State.isArrayOf_alike hZ.alike Ar4.2.1) (g := (mkF m 4 #[rv a] [(.ref b)])) rfl rfl (hb hby d10_4) _ ?_
    rw [len_of Sz4 Nn4]
    refine w_aloadN X2 hx hby d10_5 rfl rfl ?_
    exact kt
  obtain ⟨cq7, kq7, q7a, q7b, q7c⟩ := isOf hZ e2 E_a
  obtain ⟨_, _, ⟨T7, L7, k7, n7⟩, -, X7, ⟨Lc7, hQ7, l7, y7, z7⟩, st7⟩ := X2.virtualBack hx (y := own_y20) (z := own_y20) hown (mvT hZ (own_w hw 64 rfl)) (mvT hZ (own_w hw 65 rfl)) (notFace_of_selects (args := #[]) (mvT hZ (own_w hw 67 rfl))) (mvT hZ (own_w hw 67 rfl)) (mvT hZ (own_w hw 66 rfl)) (by decide) (backOf (W := 1) (own_rm11 l Z a0 hw [] (a) (cs) h0 n0 Z0 S_CS hcs F_coder) hZ (own_w hw 68 rfl) (own_w hw 9 rfl) (by decide) (by decide)) q7a q7c (g := (mkF m 6 #[rv a] [(.ref a), (.int to)])) rfl (by rw [hml]; rfl) (Steps.refl _) (argsL := []) (rest := [(.int to)]) (lenOf own_pd3 rfl) rfl (by show 2 * 0 + _ ≤ _; exact Nat.le_of_eq rfl) (hb hby d10_6) (fun _ _ => ⟨rfl, e2, (by decide : 0 + 0 ≤ _), (by decide : 0 + 0 ≤ _)⟩)
  dsimp only [Pt.U, Pt.locs, Pt.cells, Pt.slots] at X7 l7 y7 z7 st7 hQ7
  subst l7 y7 z7
  obtain ⟨rfl, rfl, eq5⟩ := hQ7
  try rw [List.append_nil] at X7
  have S8 : own_G p e below s0 T7 m 9 #[rv a] [(.int 0), (.int to)] := fun t kt => S6 t (st7.trans kt)
  have S9 : own_G p e below s0 T7 m 10 #[rv a] [(.int (to >>> ((0 : Int32) &&& 31)))] := fun t kt => by
    refine S8 t ?_
    refine XS.ishr X7.here hx rfl (hb hby d10_9) rfl ?_
    exact kt
  obtain ⟨fs, hr, hrun, hended, hW, hsame⟩ := X7.leave (v := some (.int (to >>> ((0 : Int32) &&& 31)))) (fun h => by rw [Bd.returns] at h; cases h)
  refine ⟨_, _, S9 _ ?_, hrun, hended, _, _, rfl, ?_, ⟨_, rfl⟩, hW, hsame.mono (by decide) (by decide)⟩
  · show Steps p.tables e below (T7.setTop (mkF m 10 #[rv a] [(.int (to >>> ((0 : Int32) &&& 31)))])) _
    exact own_retI X7 hx Bd.returns (hb hby d10_10) hr
  · show own_Q10 Z a cs b to kb bs nn h0 n0 _ T7.heap _
    rw [eq5]
    exact ⟨by rw [own_shr0], rfl, rfl⟩
theorem own_pd4 : parseMethodDescriptor "()Z" = some ⟨[], some .boolean⟩ := by decide +kernel
theorem own_pd5 : parseMethodDescriptor "()I" = some ⟨[], some .int⟩ := by decide +kernel
theorem d8_0 : decode jdk_42_method_80_code 0 = .ok (.aload_n 0, 1) := by decide +kernel
theorem d8_1 : decode jdk_42_method_80_code 1 = .ok (.invokevirtual 492, 3) := by decide +kernel
theorem d8_4 : decode jdk_42_method_80_code 4 = .ok (.ifCond .eq 19, 3) := by decide +kernel
theorem d8_7 : decode jdk_42_method_80_code 7 = .ok (.aload_n 0, 1) := by decide +kernel
theorem d8_8 : decode jdk_42_method_80_code 8 = .ok (.getfield 9, 3) := by decide +kernel
theorem d8_11 : decode jdk_42_method_80_code 11 = .ok (.iload_n 1, 1) := by decide +kernel
theorem d8_12 : decode jdk_42_method_80_code 12 = .ok (.iload_n 2, 1) := by decide +kernel
theorem d8_13 : decode jdk_42_method_80_code 13 = .ok (.aload_n 0, 1) := by decide +kernel
theorem d8_14 : decode jdk_42_method_80_code 14 = .ok (.invokevirtual 505, 3) := by decide +kernel
theorem d8_17 : decode jdk_42_method_80_code 17 = .ok (.invokestatic 637, 3) := by decide +kernel
theorem d8_20 : decode jdk_42_method_80_code 20 = .ok (.goto 16, 3) := by decide +kernel
theorem d8_36 : decode jdk_42_method_80_code 36 = .ok (.ireturn, 1) := by decide +kernel
theorem own_ef8 (m : MethodId) (x0 : Addr) (x1 : Int32) (x2 : Int32) : entryFrame m #[(.ref x0), (.int x1), (.int x2)] 3 = mkF m 0 #[rv x0, iv x1, iv x2] [] := by first | (simp [entryFrame, mkF, argsToLocals, Value.category]; done) | rfl
def own_Q8 (Z : State) (a : Addr) (fr : Int32) (cs : Int32) (b : Addr) (to : Int32) (kb : ClassId) (bs : List Int32) (nn : Nat) (h0 : Heap) (n0 : Nat) (v : Option Value) (h : Heap) (L : List Loc) : Prop := v = some (.int (own_ixF bs nn fr)) ∧ L = [] ∧ h = h0
set_option maxHeartbeats 40000000 in
theorem own_rm8 (l : Launch) (Z : State) (a0 : Array Value) (hw : ∀ d ∈ tables_1, d.before a0 Z = true) (ws : List Jvm.Cond) (a : Addr) (fr : Int32) (cs : Int32) (b : Addr) (to : Int32) (kb : ClassId) (bs : List Int32) (nn : Nat) (h0 : Heap) (n0 : Nat) (Z0 : n0 ≤ h0.size) (E_a : Exa Z h0 a "java/lang/String") (S_CS : Sta Z h0 "java/lang/String" "COMPACT_STRINGS" "Z" (.int cs)) (hcs : ¬ cs = (0 : Int32)) (F_coder : Fld Z h0 a "java/lang/String" "coder" "B" (.int 0)) (F_value : Fld Z h0 a "java/lang/String" "value" "[B" (.ref b)) (V_b : Arv Z h0 b kb .byte to (bs.map Value.int) (.int 0)) (hto : to = Int32.ofNat nn) (hnn : nn ≤ 6) (hf0 : ¬ fr < (0 : Int32)) (hfn : fr.toInt ≤ 100) :
    MetFree l own_y15 (head1 (Jvm.Cond.code own_y15 jdk_42_method_80_code 3 (some .int) :: ws) ({ frames := 2, cells := 0, slots := 0, locals := 32 } : Room)) (fun argv U => argv = #[(.ref a), (.int 10), (.int fr)] ∧ Z.Warmed39 U.vm ∧ U.heap = h0) (fun _ _ _ _ _ => True) (fun _ U o U' => ∃ v L, o = .returned v ∧ own_Q8 Z a fr cs b to kb bs nn h0 n0 v U'.heap L ∧ FrameEnd U o U' L ({ frames := 2, cells := 0, slots := 0, locals := 32 } : Room).cells ({ frames := 2, cells := 0, slots := 0, locals := 32 } : Room).slots) := by
  refine MetFree.of_bodySF (plainFor_of_name own_pn1) hisR ?_
  intro p e s m args below meth c s₁ Bd hml0 hP hK
  obtain ⟨rfl, hZ, hh⟩ := hP
  have hx := Bd.exec
  have hby := Bd.bytes
  have hml : c.maxLocals = 3 := hml0
  have hown : s.vm.findClass "java/lang/String" = some m.cls := findClass_of_methodNamed Bd.named
  have hnm := (name_of_methodNamed Bd.named Bd.method).1
  have X0 : Stand p l e ({ frames := 2, cells := 0, slots := 0, locals := 32 } : Room) s m #[(.ref a), (.int 10), (.int fr)] below meth c s₁ [] 0 0 := Stand.of_body Bd
  have e0 : s₁.heap = h0 := by rw [← hh, Bd.state]; rfl
  have N0 := Fr.nil n0
  have pre_ : own_G p e below (s₁.setTop (entryFrame m #[(.ref a), (.int 10), (.int fr)] 3)) s₁ m 0 #[rv a, iv 10, iv fr] [] := fun t k => castTop (own_ef8 m a (10 : Int32) fr) k
  obtain ⟨s0, hs0⟩ : ∃ z, z = (s₁.setTop (entryFrame m #[(.ref a), (.int 10), (.int fr)] 3)) := ⟨_, rfl⟩
  have pre0 : own_G p e below s0 s₁ m 0 #[rv a, iv 10, iv fr] [] := hs0 ▸ pre_
  rw [← hs0]
  have S2 : own_G p e below s0 s₁ m 1 #[rv a, iv 10, iv fr] [(.ref a)] := fun t kt => by
    refine pre0 t ?_
    refine w_aloadN X0 hx hby d8_0 rfl rfl ?_
    exact kt
  obtain ⟨cq3, kq3, q3a, q3b, q3c⟩ := isOf hZ e0 E_a
  obtain ⟨_, _, ⟨T3, L3, k3, n3⟩, -, X3, ⟨Lc3, hQ3, l3, y3, z3⟩, st3⟩ := X0.virtualBack hx (y := own_y17) (z := own_y17) hown (mvT hZ (own_w hw 53 rfl)) (mvT hZ (own_w hw 54 rfl)) (notFace_of_selects (args := #[]) (mvT hZ (own_w hw 56 rfl))) (mvT hZ (own_w hw 56 rfl)) (mvT hZ (own_w hw 55 rfl)) (by decide) (backOf (W := 0) (own_rm9 l Z a0 hw [] (a) (cs) h0 n0 Z0 S_CS hcs F_coder) hZ (own_w hw 57 rfl) (own_w hw 9 rfl) (by decide) (by decide)) q3a q3c (g := (mkF m 1 #[rv a, iv 10, iv fr] [(.ref a)])) rfl (by rw [hml]; rfl) (Steps.refl _) (argsL := []) (rest := []) (lenOf own_pd4 rfl) rfl (by show 2 * 0 + _ ≤ _; exact Nat.le_of_eq rfl) (hb hby d8_1) (fun _ _ => ⟨rfl, e0, (by decide : 0 + 0 ≤ _), (by decide : 0 + 0 ≤ _)⟩)
  dsimp only [Pt.U, Pt.locs, Pt.cells, Pt.slots] at X3 l3 y3 z3 st3 hQ3
  subst l3 y3 z3
  obtain ⟨rfl, rfl, eq1⟩ := hQ3
  try rw [List.append_nil] at X3
  have S4 : own_G p e below s0 T3 m 4 #[rv a, iv 10, iv fr] [(.int 1)] := fun t kt => S2 t (st3.trans kt)
  have hc4_5 : ¬ ((1 : Int32) = (0 : Int32)) := by decide
  have S6 : own_G p e below s0 T3 m 8 #[rv a, iv 10, iv fr] [(.ref a)] := fun t kt => by
    refine S4 t ?_
    refine w_ifNo X3 hx hby d8_4 ((if0 _ _).trans (feq hc4_5).1) ?_
    refine w_aloadN X3 hx hby d8_7 rfl rfl ?_
    exact kt
  obtain ⟨T7, X7, e7, st7⟩ := getF X3 hx hZ hown (host := "") (Or.inl (own_w hw 32 rfl)) Via.refl eq1 F_value (g := (mkF m 8 #[rv a, iv 10, iv fr] [(.ref a)])) rfl rfl (hb hby d8_8)
  have S8 : own_G p e below s0 T7 m 11 #[rv a, iv 10, iv fr] [(.ref b)] := fun t kt => S6 t (st7 _ kt)
  have S10 : own_G p e below s0 T7 m 14 #[rv a, iv 10, iv fr] [(.ref a), (.int fr), (.int 10), (.ref b)] := fun t kt => by
    refine S8 t ?_
    refine w_iloadN X7 hx hby d8_11 rfl ?_
    refine w_iloadN X7 hx hby d8_12 rfl ?_
    refine w_aloadN X7 hx hby d8_13 rfl rfl ?_
    exact kt
  obtain ⟨cq11, kq11, q11a, q11b, q11c⟩ := isOf hZ e7 E_a
  obtain ⟨_, _, ⟨T11, L11, k11, n11⟩, -, X11, ⟨Lc11, hQ11, l11, y11, z11⟩, st11⟩ := X7.virtualBack hx (y := own_y19) (z := own_y19) hown (mvT hZ (own_w hw 59 rfl)) (mvT hZ (own_w hw 60 rfl)) (notFace_of_selects (args := #[]) (mvT hZ (own_w hw 62 rfl))) (mvT hZ (own_w hw 62 rfl)) (mvT hZ (own_w hw 61 rfl)) (by decide) (backOf (W := 3) (own_rm10 l Z a0 hw [] (a) (cs) (b) (to) (kb) (bs) (nn) h0 n0 Z0 E_a S_CS hcs F_coder F_value V_b) hZ (own_w hw 63 rfl) (own_w hw 9 rfl) (by decide) (by decide)) q11a q11c (g := (mkF m 14 #[rv a, iv 10, iv fr] [(.ref a), (.int fr), (.int 10), (.ref b)])) rfl (by rw [hml]; rfl) (Steps.refl _) (argsL := []) (rest := [(.int fr), (.int 10), (.ref b)]) (lenOf own_pd5 rfl) rfl (by show 2 * 0 + _ ≤ _; exact Nat.le_of_eq rfl) (hb hby d8_14) (fun _ _ => ⟨rfl, e7, (by decide : 0 + 0 ≤ _), (by decide : 0 + 0 ≤ _)⟩)
  dsimp only [Pt.U, Pt.locs, Pt.cells, Pt.slots] at X11 l11 y11 z11 st11 hQ11
  subst l11 y11 z11
  obtain ⟨rfl, rfl, eq9⟩ := hQ11
  try rw [List.append_nil] at X11
  have S12 : own_G p e below s0 T11 m 17 #[rv a, iv 10, iv fr] [(.int to), (.int fr), (.int 10), (.ref b)] := fun t kt => S10 t (st11.trans kt)
  obtain ⟨_, _, ⟨T14, L14, k14, n14⟩, -, X14, ⟨Lc14, hQ14, l14, y14, z14⟩, st14⟩ := Jvm.LawKit.callS X11 hx (y := own_y9) hown (mvT hZ (own_w hw 69 rfl)) (mvT hZ (own_w hw 70 rfl)) (mvT hZ (own_w hw 71 rfl)) (mvT hZ (own_w hw 72 rfl)) (by decide) (backOf (W := 0) (own_rm12 l Z a0 hw [] (b) (fr) (to) (kb) (bs) (nn) h0 n0 Z0 V_b hto hnn hf0 hfn) hZ (own_w hw 72 rfl) (own_w hw 71 rfl) (by decide) (by decide)) (g := (mkF m 17 #[rv a, iv 10, iv fr] [(.int to), (.int fr), (.int 10), (.ref b)])) rfl (by rw [hml]; rfl) (argsL := [(.ref b), (.int 10), (.int fr), (.int to)]) (rest := []) (lenOf own_pd2 rfl) rfl (by show 2 * 0 + _ ≤ _; exact Nat.le_of_eq rfl) (hb hby d8_17) (fun _ _ => ⟨rfl, eq9, (by decide : 0 + 0 ≤ _), (by decide : 0 + 0 ≤ _)⟩)
  dsimp only [Pt.U, Pt.locs, Pt.cells, Pt.slots] at X14 l14 y14 z14 st14 hQ14
  subst l14 y14 z14
  obtain ⟨rfl, rfl, eq13⟩ := hQ14
  try rw [List.append_nil] at X14
  have S15 : own_G p e below s0 T14 m 20 #[rv a, iv 10, iv fr] [(.int (own_ixF bs nn fr))] := fun t kt => S12 t (st14 _ kt)
  have S16 : own_G p e below s0 T14 m 36 #[rv a, iv 10, iv fr] [(.int (own_ixF bs nn fr))] := fun t kt => by
    refine S15 t ?_
    refine w_goto X14 hx hby (pc' := 36) d8_20 (by decide) ?_
    exact kt
  obtain ⟨fs, hr, hrun, hended, hW, hsame⟩ := X14.leave (v := some (.int (own_ixF bs nn fr))) (fun h => by rw [Bd.returns] at h; cases h)
  refine ⟨_, _, S16 _ ?_, hrun, hended, _, _, rfl, ?_, ⟨_, rfl⟩, hW, hsame.mono (by decide) (by decide)⟩
  · show Steps p.tables e below (T14.setTop (mkF m 36 #[rv a, iv 10, iv fr] [(.int (own_ixF bs nn fr))])) _
    exact own_retI X14 hx Bd.returns (hb hby d8_36) hr
  · show own_Q8 Z a fr cs b to kb bs nn h0 n0 _ T14.heap _
    rw [eq13]
    exact ⟨rfl, rfl, rfl⟩
theorem d7_0 : decode jdk_42_method_79_code 0 = .ok (.aload_n 0, 1) := by decide +kernel
theorem d7_1 : decode jdk_42_method_79_code 1 = .ok (.iload_n 1, 1) := by decide +kernel
theorem d7_2 : decode jdk_42_method_79_code 2 = .ok (.iconst 0, 1) := by decide +kernel
theorem d7_3 : decode jdk_42_method_79_code 3 = .ok (.invokevirtual 633, 3) := by decide +kernel
theorem d7_6 : decode jdk_42_method_79_code 6 = .ok (.ireturn, 1) := by decide +kernel
theorem own_ef7 (m : MethodId) (x0 : Addr) (x1 : Int32) : entryFrame m #[(.ref x0), (.int x1)] 2 = mkF m 0 #[rv x0, iv x1] [] := by first | (simp [entryFrame, mkF, argsToLocals, Value.category]; done) | rfl
def own_Q7 (Z : State) (a : Addr) (cs : Int32) (b : Addr) (to : Int32) (kb : ClassId) (bs : List Int32) (nn : Nat) (h0 : Heap) (n0 : Nat) (v : Option Value) (h : Heap) (L : List Loc) : Prop := v = some (.int (own_ixF bs nn (0 : Int32))) ∧ L = [] ∧ h = h0
set_option maxHeartbeats 40000000 in
theorem own_rm7 (l : Launch) (Z : State) (a0 : Array Value) (hw : ∀ d ∈ tables_1, d.before a0 Z = true) (ws : List Jvm.Cond) (a : Addr) (cs : Int32) (b : Addr) (to : Int32) (kb : ClassId) (bs : List Int32) (nn : Nat) (h0 : Heap) (n0 : Nat) (Z0 : n0 ≤ h0.size) (E_a : Exa Z h0 a "java/lang/String") (S_CS : Sta Z h0 "java/lang/String" "COMPACT_STRINGS" "Z" (.int cs)) (hcs : ¬ cs = (0 : Int32)) (F_coder : Fld Z h0 a "java/lang/String" "coder" "B" (.int 0)) (F_value : Fld Z h0 a "java/lang/String" "value" "[B" (.ref b)) (V_b : Arv Z h0 b kb .byte to (bs.map Value.int) (.int 0)) (hto : to = Int32.ofNat nn) (hnn : nn ≤ 6) :
    MetFree l own_y16 (head1 (Jvm.Cond.code own_y16 jdk_42_method_79_code 2 (some .int) :: ws) ({ frames := 3, cells := 0, slots := 0, locals := 46 } : Room)) (fun argv U => argv = #[(.ref a), (.int 10)] ∧ Z.Warmed39 U.vm ∧ U.heap = h0) (fun _ _ _ _ _ => True) (fun _ U o U' => ∃ v L, o = .returned v ∧ own_Q7 Z a cs b to kb bs nn h0 n0 v U'.heap L ∧ FrameEnd U o U' L ({ frames := 3, cells := 0, slots := 0, locals := 46 } : Room).cells ({ frames := 3, cells := 0, slots := 0, locals := 46 } : Room).slots) := by
  refine MetFree.of_bodySF (plainFor_of_name own_pn1) hisR ?_
  intro p e s m args below meth c s₁ Bd hml0 hP hK
  obtain ⟨rfl, hZ, hh⟩ := hP
  have hx := Bd.exec
  have hby := Bd.bytes
  have hml : c.maxLocals = 2 := hml0
  have hown : s.vm.findClass "java/lang/String" = some m.cls := findClass_of_methodNamed Bd.named
  have hnm := (name_of_methodNamed Bd.named Bd.method).1
  have X0 : Stand p l e ({ frames := 3, cells := 0, slots := 0, locals := 46 } : Room) s m #[(.ref a), (.int 10)] below meth c s₁ [] 0 0 := Stand.of_body Bd
  have e0 : s₁.heap = h0 := by rw [← hh, Bd.state]; rfl
  have N0 := Fr.nil n0
  have pre_ : own_G p e below (s₁.setTop (entryFrame m #[(.ref a), (.int 10)] 2)) s₁ m 0 #[rv a, iv 10] [] := fun t k => castTop (own_ef7 m a (10 : Int32)) k
  obtain ⟨s0, hs0⟩ : ∃ z, z = (s₁.setTop (entryFrame m #[(.ref a), (.int 10)] 2)) := ⟨_, rfl⟩
  have pre0 : own_G p e below s0 s₁ m 0 #[rv a, iv 10] [] := hs0 ▸ pre_
  rw [← hs0]
  have S2 : own_G p e below s0 s₁ m 3 #[rv a, iv 10] [(.int 0), (.int 10), (.ref a)] := fun t kt => by
    refine pre0 t ?_
    refine w_aloadN X0 hx hby d7_0 rfl rfl ?_
    refine w_iloadN X0 hx hby d7_1 rfl ?_
    refine w_iconst X0 hx hby d7_2 ?_
    exact kt
  obtain ⟨cq3, kq3, q3a, q3b, q3c⟩ := isOf hZ e0 E_a
  obtain ⟨_, _, ⟨T3, L3, k3, n3⟩, -, X3, ⟨Lc3, hQ3, l3, y3, z3⟩, st3⟩ := X0.virtualBack hx (y := own_y15) (z := own_y15) hown (mvT hZ (own_w hw 48 rfl)) (mvT hZ (own_w hw 49 rfl)) (notFace_of_selects (args := #[]) (mvT hZ (own_w hw 51 rfl))) (mvT hZ (own_w hw 51 rfl)) (mvT hZ (own_w hw 50 rfl)) (by decide) (backOf (W := 0) (own_rm8 l Z a0 hw [] (a) ((0 : Int32)) (cs) (b) (to) (kb) (bs) (nn) h0 n0 Z0 E_a S_CS hcs F_coder F_value V_b hto hnn (by decide) (by decide)) hZ (own_w hw 52 rfl) (own_w hw 9 rfl) (by decide) (by decide)) q3a q3c (g := (mkF m 3 #[rv a, iv 10] [(.int 0), (.int 10), (.ref a)])) rfl (by rw [hml]; rfl) (Steps.refl _) (argsL := [(.int 10), (.int 0)]) (rest := []) (lenOf own_pd1 rfl) rfl (by show 2 * 0 + _ ≤ _; exact Nat.le_of_eq rfl) (hb hby d7_3) (fun _ _ => ⟨rfl, e0, (by decide : 0 + 0 ≤ _), (by decide : 0 + 0 ≤ _)⟩)
  dsimp only [Pt.U, Pt.locs, Pt.cells, Pt.slots] at X3 l3 y3 z3 st3 hQ3
  subst l3 y3 z3
  obtain ⟨rfl, rfl, eq1⟩ := hQ3
  try rw [List.append_nil] at X3
  have S4 : own_G p e below s0 T3 m 6 #[rv a, iv 10] [(.int (own_ixF bs nn (0 : Int32)))] := fun t kt => S2 t (st3.trans kt)
  obtain ⟨fs, hr, hrun, hended, hW, hsame⟩ := X3.leave (v := some (.int (own_ixF bs nn (0 : Int32)))) (fun h => by rw [Bd.returns] at h; cases h)
  refine ⟨_, _, S4 _ ?_, hrun, hended, _, _, rfl, ?_, ⟨_, rfl⟩, hW, hsame.mono (by decide) (by decide)⟩
  · show Steps p.tables e below (T3.setTop (mkF m 6 #[rv a, iv 10] [(.int (own_ixF bs nn (0 : Int32)))])) _
    exact own_retI X3 hx Bd.returns (hb hby d7_6) hr
  · show own_Q7 Z a cs b to kb bs nn h0 n0 _ T3.heap _
    rw [eq1]
    exact ⟨rfl, rfl, rfl⟩
theorem d16_0 : decode jdk_65_method_123_code 0 = .ok (.iload_n 1, 1) := by decide +kernel
theorem d16_1 : decode jdk_65_method_123_code 1 = .ok (.aload_n 0, 1) := by decide +kernel
theorem d16_2 : decode jdk_65_method_123_code 2 = .ok (.arraylength, 1) := by decide +kernel
theorem d16_3 : decode jdk_65_method_123_code 3 = .ok (.if_icmp .ne 11, 3) := by decide +kernel
theorem d16_14 : decode jdk_65_method_123_code 14 = .ok (.iload_n 1, 1) := by decide +kernel
theorem d16_15 : decode jdk_65_method_123_code 15 = .ok (.newarray .int, 2) := by decide +kernel
theorem d16_17 : decode jdk_65_method_123_code 17 = .ok (.astore_n 2, 1) := by decide +kernel
theorem d16_18 : decode jdk_65_method_123_code 18 = .ok (.aload_n 0, 1) := by decide +kernel
theorem d16_19 : decode jdk_65_method_123_code 19 = .ok (.iconst 0, 1) := by decide +kernel
theorem d16_20 : decode jdk_65_method_123_code 20 = .ok (.aload_n 2, 1) := by decide +kernel
theorem d16_21 : decode jdk_65_method_123_code 21 = .ok (.iconst 0, 1) := by decide +kernel
theorem d16_22 : decode jdk_65_method_123_code 22 = .ok (.aload_n 0, 1) := by decide +kernel
theorem d16_23 : decode jdk_65_method_123_code 23 = .ok (.arraylength, 1) := by decide +kernel
theorem d16_24 : decode jdk_65_method_123_code 24 = .ok (.iload_n 1, 1) := by decide +kernel
theorem d16_25 : decode jdk_65_method_123_code 25 = .ok (.invokestatic 304, 3) := by decide +kernel
theorem d16_28 : decode jdk_65_method_123_code 28 = .ok (.invokestatic 150, 3) := by decide +kernel
theorem d16_31 : decode jdk_65_method_123_code 31 = .ok (.aload_n 2, 1) := by decide +kernel
theorem d16_32 : decode jdk_65_method_123_code 32 = .ok (.areturn, 1) := by decide +kernel
theorem own_ef16m1 (m : MethodId) (x0 : Addr) (x1 : Int32) : entryFrame m #[(.ref x0), (.int x1)] 3 = mkF m 0 #[rv x0, iv x1, .unset] [] := by first | (simp [entryFrame, mkF, argsToLocals, Value.category]; done) | rfl
def own_Q16m1 (Z : State) (sb : Addr) (x0 : Int32) (ks : ClassId) (h0 : Heap) (n0 : Nat) (v : Option Value) (h : Heap) (L : List Loc) : Prop := ∃ (lb : Addr) (kl : ClassId), v = some (.ref lb) ∧ Fr n0 L ∧ n0 ≤ lb ∧ h0.size ≤ lb ∧ Keep h0 h [] ∧ Arv Z h lb kl .int 1 [(.int x0)] (.int 0)
theorem own_pn2 : plainName "java/util/Arrays" = true := by first | (simp [plainName, overriddenIn]; done) | decide +kernel
set_option maxHeartbeats 40000000 in
theorem own_rm16m1 (l : Launch) (Z : State) (a0 : Array Value) (hw : ∀ d ∈ tables_1, d.before a0 Z = true) (ws : List Jvm.Cond) (sb : Addr) (x0 : Int32) (ks : ClassId) (h0 : Heap) (n0 : Nat) (Z0 : n0 ≤ h0.size) (V_s : Arv Z h0 sb ks .int 64 [(.int x0), (.int 0), (.int 0), (.int 0), (.int 0), (.int 0), (.int 0), (.int 0)] (.int 0)) :
    MetFree l own_y14 (head1 (Jvm.Cond.code own_y14 jdk_65_method_123_code 3 (some (.array .int)) :: ws) ({ frames := 1, cells := 1, slots := 1, locals := 18 } : Room)) (fun argv U => argv = #[(.ref sb), (.int 1)] ∧ Z.Warmed39 U.vm ∧ U.heap = h0) (fun _ _ _ _ _ => True) (fun _ U o U' => ∃ v L, o = .returned v ∧ own_Q16m1 Z sb x0 ks h0 n0 v U'.heap L ∧ FrameEnd U o U' L ({ frames := 1, cells := 1, slots := 1, locals := 18 } : Room).cells ({ frames := 1, cells := 1, slots := 1, locals := 18 } : Room).slots) := by
  refine MetFree.of_bodySF (plainFor_of_name own_pn2) hisR ?_
  intro p e s m args below meth c s₁ Bd hml0 hP hK
  obtain ⟨rfl, hZ, hh⟩ := hP
  have hx := Bd.exec
  have hby := Bd.bytes
  have hml : c.maxLocals = 3 := hml0
  have hown : s.vm.findClass "java/util/Arrays" = some m.cls := findClass_of_methodNamed Bd.named
  have hnm := (name_of_methodNamed Bd.named Bd.method).1
  have X0 : Stand p l e ({ frames := 1, cells := 1, slots := 1, locals := 18 } : Room) s m #[(.ref sb), (.int 1)] below meth c s₁ [] 0 0 := Stand.of_body Bd
  have e0 : s₁.heap = h0 := by rw [← hh, Bd.state]; rfl
  have N0 := Fr.nil n0
  have pre_ : own_G p e below (s₁.setTop (entryFrame m #[(.ref sb), (.int 1)] 3)) s₁ m 0 #[rv sb, iv 1, .unset] [] := fun t k => castTop (own_ef16m1 m sb (1 : Int32)) k
  obtain ⟨s0, hs0⟩ : ∃ z, z = (s₁.setTop (entryFrame m #[(.ref sb), (.int 1)] 3)) := ⟨_, rfl⟩
  have pre0 : own_G p e below s0 s₁ m 0 #[rv sb, iv 1, .unset] [] := hs0 ▸ pre_
  rw [← hs0]
  have S1 : own_G p e below s0 s₁ m 2 #[rv sb, iv 1, .unset] [(.ref sb), (.int 1)] := fun t kt => by
    refine pre0 t ?_
    refine w_iloadN X0 hx hby d16_0 rfl ?_
    refine w_aloadN X0 hx hby d16_1 rfl rfl ?_
    exact kt
  obtain ⟨cl2, Ar2, -, Sz2, Nn2, -, -⟩ := id V_s
  have S3 : own_G p e below s0 s₁ m 3 #[rv sb, iv 1, .unset] [(.int 64), (.int 1)] := fun t kt => by
    refine S1 t ?_
    refine X0.arraylength hx (by rw [e0]; exact Ar2.1) (State.isArrayOf_alike hZ.alike Ar2.2.1) (g := (mkF m 2 #[rv sb, iv 1, .unset] [(.ref sb), (.int 1)])) rfl rfl (hb hby d16_2) _ ?_
    rw [len_of Sz2 Nn2]
    exact kt
  have hc3_4 : ¬ ((1 : Int32) = (64 : Int32)) := by decide
  have S5 : own_G p e below s0 s₁ m 15 #[rv sb, iv 1, .unset] [(.int 1)] := fun t kt => by
    refine S3 t ?_
    refine w_icmpYes X0 hx hby (pc' := 14) d16_3 (feq hc3_4).2 (by decide) ?_
    refine w_iloadN X0 hx hby d16_14 rfl ?_
    exact kt
  obtain ⟨T6, h6, k6, X6, e6, E6, A6, st6⟩ := newP X0 hx hZ (own_w hw 42 rfl) e0 (g := (mkF m 15 #[rv sb, iv 1, .unset] [(.int 1)])) rfl (hb hby d16_15) rfl (by decide) (cap := 1) (by decide) (by decide) (by decide) (by decide)
  obtain ⟨b6, g6⟩ : ∃ z, z = h0.size := ⟨_, rfl⟩
  rw [← g6] at A6 st6
  have S7 : own_G p e below s0 T6 m 17 #[rv sb, iv 1, .unset] [(.ref b6)] := fun t kt => S5 t (st6 _ kt)
  have g_b6 : n0 ≤ b6 := Nat.le_trans Z0 (Nat.le_of_eq g6.symm)
  have sz_b6 : h0.size ≤ b6 := Nat.le_trans (Keep.refl h0 []).1 (Nat.le_of_eq g6.symm)
  have ne_sb_b6 : sb ≠ b6 := Nat.ne_of_lt (Nat.lt_of_lt_of_le V_s.lt (Nat.le_of_eq g6.symm))
  have F8 := V_s.ext E6
  have K9 : Keep h0 h6 [] := (Keep.refl h0 []).ext E6
  have V10 : Arv Z h6 b6 k6 .int 1 [(.int 0)] (.int 0) := (Arv.new A6 (by decide)).pad (pad_rep [] (.int 0) 1)
  have S11 : own_G p e below s0 T6 m 23 #[rv sb, iv 1, rv b6] [(.ref sb), (.int 0), (.ref b6), (.int 0), (.ref sb)] := fun t kt => by
    refine S7 t ?_
    refine w_astoreN X6 hx hby d16_17 rfl (l' := #[rv sb, iv 1, rv b6]) rfl ?_
    refine w_aloadN X6 hx hby d16_18 rfl rfl ?_
    refine w_iconst X6 hx hby d16_19 ?_
    refine w_aloadN X6 hx hby d16_20 rfl rfl ?_
    refine w_iconst X6 hx hby d16_21 ?_
    refine w_aloadN X6 hx hby d16_22 rfl rfl ?_
    exact kt
  obtain ⟨cl12, Ar12, -, Sz12, Nn12, -, -⟩ := id F8
  have S14 : own_G p e below s0 T6 m 25 #[rv sb, iv 1, rv b6] [(.int 1), (.int 64), (.int 0), (.ref b6), (.int 0), (.ref sb)] := fun t kt => by
    refine S11 t ?_
    refine X6.arraylength hx (by rw [e6]; exact Ar12.1) (State.isArrayOf_alike hZ.alike Ar12.2.1) (g := (mkF m 23 #[rv sb, iv 1, rv b6] [(.ref sb), (.int 0), (.ref b6), (.int 0), (.ref sb)])) rfl rfl (hb hby d16_23) _ ?_
    rw [len_of Sz12 Nn12]
    refine w_iloadN X6 hx hby d16_24 rfl ?_
    exact kt
  obtain ⟨_, _, ⟨T15, L15, k15, n15⟩, -, X15, ⟨Lc15, hQ15, l15, y15, z15⟩, st15⟩ := Jvm.LawKit.callS X6 hx (y := own_y21) hown (mvT hZ (own_w hw 87 rfl)) (mvT hZ (own_w hw 81 rfl)) (mvT hZ (own_w hw 78 rfl)) (mvT hZ (own_w hw 82 rfl)) (by decide) (backOf (W := 4) (own_rm15 l Z a0 hw [] ((64 : Int32)) ((1 : Int32)) h6 n0 (Nat.le_trans Z0 K9.1)) hZ (own_w hw 82 rfl) (own_w hw 78 rfl) (by decide) (by decide)) (g := (mkF m 25 #[rv sb, iv 1, rv b6] [(.int 1), (.int 64), (.int 0), (.ref b6), (.int 0), (.ref sb)])) rfl (by rw [hml]; rfl) (argsL := [(.int 64), (.int 1)]) (rest := [(.int 0), (.ref b6), (.int 0), (.ref sb)]) (lenOf own_pd1 rfl) rfl (by show 2 * 0 + _ ≤ _; exact Nat.le_of_eq rfl) (hb hby d16_25) (fun _ _ => ⟨rfl, e6, (by decide : 1 + 0 ≤ _), (by decide : 1 + 0 ≤ _)⟩)
  dsimp only [Pt.U, Pt.locs, Pt.cells, Pt.slots] at X15 l15 y15 z15 st15 hQ15
  subst l15 y15 z15
  obtain ⟨rfl, rfl, eq13⟩ := hQ15
  try rw [List.append_nil] at X15
  have S16 : own_G p e below s0 T15 m 28 #[rv sb, iv 1, rv b6] [(.int 1), (.int 0), (.ref b6), (.int 0), (.ref sb)] := fun t kt => S14 t (st15 _ kt)
  obtain ⟨T17, h17, Lr17, X17, e17, Nr17, Kr17, Vr17, st17⟩ := cpA X15 hx hZ hown (own_w hw 88 rfl) (own_w hw 91 rfl) (own_w hw 89 rfl) (own_w hw 90 rfl) eq13 F8 V10 (us := [(.int x0)]) (Or.inl ⟨rfl, rfl⟩) (by decide) (by decide) (by decide) (by decide) (by decide) rfl (by decide) N0 g_b6 (g := (mkF m 28 #[rv sb, iv 1, rv b6] [(.int 1), (.int 0), (.ref b6), (.int 0), (.ref sb)])) rfl (by rw [hml]; rfl) rfl (hb hby d16_28) (by decide) (W := 0) (by show 2 * 0 + _ ≤ _; exact Nat.le_of_eq rfl) (by decide)
  have V17 : Arv Z h17 b6 k6 .int 1 [(.int x0)] (.int 0) := Vr17
  have S18 : own_G p e below s0 T17 m 31 #[rv sb, iv 1, rv b6] [] := fun t kt => S16 t (st17 _ kt)
  have F19 := F8.keep Kr17 (ninS ne_sb_b6 nin0)
  have K20 : Keep h0 h17 [] := K9.trans Kr17 (allS (Or.inr sz_b6) all0)
  have S21 : own_G p e below s0 T17 m 32 #[rv sb, iv 1, rv b6] [(.ref b6)] := fun t kt => by
    refine S18 t ?_
    refine w_aloadN X17 hx hby d16_31 rfl rfl ?_
    exact kt
  obtain ⟨fs, hr, hrun, hended, hW, hsame⟩ := X17.leave (v := some (.ref b6)) (fun h => by rw [Bd.returns] at h; cases h)
  refine ⟨_, _, S21 _ ?_, hrun, hended, _, _, rfl, ?_, ⟨_, rfl⟩, hW, hsame.mono (by decide) (by decide)⟩
  · show Steps p.tables e below (T17.setTop (mkF m 32 #[rv sb, iv 1, rv b6] [(.ref b6)])) _
    jvm_step X17.here [X17.here.top, hx, (hb hby d16_32), X17.method', Bd.returns, Value.isRef, FieldType.isReference]
    first | (intro acts; rw [hr _ acts rfl rfl rfl]) | rw [hr _ _ rfl rfl rfl]
    exact Steps.refl _
  · show own_Q16m1 Z sb x0 ks h0 n0 _ T17.heap _
    rw [e17]
    exact ⟨b6, k6, rfl, Nr17, g_b6, sz_b6, K20, V17⟩
theorem own_ef16m2 (m : MethodId) (x0 : Addr) (x1 : Int32) : entryFrame m #[(.ref x0), (.int x1)] 3 = mkF m 0 #[rv x0, iv x1, .unset] [] := by first | (simp [entryFrame, mkF, argsToLocals, Value.category]; done) | rfl
def own_Q16m2 (Z : State) (sb : Addr) (x0 : Int32) (x1 : Int32) (ks : ClassId) (h0 : Heap) (n0 : Nat) (v : Option Value) (h : Heap) (L : List Loc) : Prop := ∃ (lb : Addr) (kl : ClassId), v = some (.ref lb) ∧ Fr n0 L ∧ n0 ≤ lb ∧ h0.size ≤ lb ∧ Keep h0 h [] ∧ Arv Z h lb kl .int 2 [(.int x0), (.int x1)] (.int 0)
set_option maxHeartbeats 40000000 in
theorem own_rm16m2 (l : Launch) (Z : State) (a0 : Array Value) (hw : ∀ d ∈ tables_1, d.before a0 Z = true) (ws : List Jvm.Cond) (sb : Addr) (x0 : Int32) (x1 : Int32) (ks : ClassId) (h0 : Heap) (n0 : Nat) (Z0 : n0 ≤ h0.size) (V_s : Arv Z h0 sb ks .int 64 [(.int x0), (.int x1), (.int 0), (.int 0), (.int 0), (.int 0), (.int 0), (.int 0)] (.int 0)) :
    MetFree l own_y14 (head1 (Jvm.Cond.code own_y14 jdk_65_method_123_code 3 (some (.array .int)) :: ws) ({ frames := 1, cells := 1, slots := 2, locals := 18 } : Room)) (fun argv U => argv = #[(.ref sb), (.int 2)] ∧ Z.Warmed39 U.vm ∧ U.heap = h0) (fun _ _ _ _ _ => True) (fun _ U o U' => ∃ v L, o = .returned v ∧ own_Q16m2 Z sb x0 x1 ks h0 n0 v U'.heap L ∧ FrameEnd U o U' L ({ frames := 1, cells := 1, slots := 2, locals := 18 } : Room).cells ({ frames := 1, cells := 1, slots := 2, locals := 18 } : Room).slots) := by
  refine MetFree.of_bodySF (plainFor_of_name own_pn2) hisR ?_
  intro p e s m args below meth c s₁ Bd hml0 hP hK
  obtain ⟨rfl, hZ, hh⟩ := hP
  have hx := Bd.exec
  have hby := Bd.bytes
  have hml : c.maxLocals = 3 := hml0
  have hown : s.vm.findClass "java/util/Arrays" = some m.cls := findClass_of_methodNamed Bd.named
  have hnm := (name_of_methodNamed Bd.named Bd.method).1
  have X0 : Stand p l e ({ frames := 1, cells := 1, slots := 2, locals := 18 } : Room) s m #[(.ref sb), (.int 2)] below meth c s₁ [] 0 0 := Stand.of_body Bd
  have e0 : s₁.heap = h0 := by rw [← hh, Bd.state]; rfl
  have N0 := Fr.nil n0
  have pre_ : own_G p e below (s₁.setTop (entryFrame m #[(.ref sb), (.int 2)] 3)) s₁ m 0 #[rv sb, iv 2, .unset] [] := fun t k => castTop (own_ef16m2 m sb (2 : Int32)) k
  obtain ⟨s0, hs0⟩ : ∃ z, z = (s₁.setTop (entryFrame m #[(.ref sb), (.int 2)] 3)) := ⟨_, rfl⟩
  have pre0 : own_G p e below s0 s₁ m 0 #[rv sb, iv 2, .unset] [] := hs0 ▸ pre_
  rw [← hs0]
  have S1 : own_G p e below s0 s₁ m 2 #[rv sb, iv 2, .unset] [(.ref sb), (.int 2)] := fun t kt => by
    refine pre0 t ?_
    refine w_iloadN X0 hx hby d16_0 rfl ?_
    refine w_aloadN X0 hx hby d16_1 rfl rfl ?_
    exact kt
  obtain ⟨cl2, Ar2, -, Sz2, Nn2, -, -⟩ := id V_s
  have S3 : own_G p e below s0 s₁ m 3 #[rv sb, iv 2, .unset] [(.int 64), (.int 2)] := fun t kt => by
    refine S1 t ?_
    refine X0.arraylength hx (by rw [e0]; exact Ar2.1) (State.isArrayOf_alike hZ.alike Ar2.2.1) (g := (mkF m 2 #[rv sb, iv 2, .unset] [(.ref sb), (.int 2)])) rfl rfl (hb hby d16_2) _ ?_
    rw [len_of Sz2 Nn2]
    exact kt
  have hc3_4 : ¬ ((2 : Int32) = (64 : Int32)) := by decide
  have S5 : own_G p e below s0 s₁ m 15 #[rv sb, iv 2, .unset] [(.int 2)] := fun t kt => by
    refine S3 t ?_
    refine w_icmpYes X0 hx hby (pc' := 14) d16_3 (feq hc3_4).2 (by decide) ?_
    refine w_iloadN X0 hx hby d16_14 rfl ?_
    exact kt
  obtain ⟨T6, h6, k6, X6, e6, E6, A6, st6⟩ := newP X0 hx hZ (own_w hw 42 rfl) e0 (g := (mkF m 15 #[rv sb, iv 2, .unset] [(.int 2)])) rfl (hb hby d16_15) rfl (by decide) (cap := 2) (by decide) (by decide) (by decide) (by decide)
  obtain ⟨b6, g6⟩ : ∃ z, z = h0.size := ⟨_, rfl⟩
  rw [← g6] at A6 st6
  have S7 : own_G p e below s0 T6 m 17 #[rv sb, iv 2, .unset] [(.ref b6)] := fun t kt => S5 t (st6 _ kt)
  have g_b6 : n0 ≤ b6 := Nat.le_trans Z0 (Nat.le_of_eq g6.symm)
  have sz_b6 : h0.size ≤ b6 := Nat.le_trans (Keep.refl h0 []).1 (Nat.le_of_eq g6.symm)
  have ne_sb_b6 : sb ≠ b6 := Nat.ne_of_lt (Nat.lt_of_lt_of_le V_s.lt (Nat.le_of_eq g6.symm))
  have F8 := V_s.ext E6
  have K9 : Keep h0 h6 [] := (Keep.refl h0 []).ext E6
  have V10 : Arv Z h6 b6 k6 .int 2 [(.int 0), (.int 0)] (.int 0) := (Arv.new A6 (by decide)).pad (pad_rep [] (.int 0) 2)
  have S11 : own_G p e below s0 T6 m 23 #[rv sb, iv 2, rv b6] [(.ref sb), (.int 0), (.ref b6), (.int 0), (.ref sb)] := fun t kt => by
    refine S7 t ?_
    refine w_astoreN X6 hx hby d16_17 rfl (l' := #[rv sb, iv 2, rv b6]) rfl ?_
    refine w_aloadN X6 hx hby d16_18 rfl rfl ?_
    refine w_iconst X6 hx hby d16_19 ?_
    refine w_aloadN X6 hx hby d16_20 rfl rfl ?_
    refine w_iconst X6 hx hby d16_21 ?_
    refine w_aloadN X6 hx hby d16_22 rfl rfl ?_
    exact kt
  obtain ⟨cl12, Ar12, -, Sz12, Nn12, -, -⟩ := id F8
  have S14 : own_G p e below s0 T6 m 25 #[rv sb, iv 2, rv b6] [(.int 2), (.int 64), (.int 0), (.ref b6), (.int 0), (.ref sb)] := fun t kt => by
    refine S11 t ?_
    refine X6.arraylength hx (by rw [e6]; exact Ar12.1) (State.isArrayOf_alike hZ.alike Ar12.2.1) (g := (mkF m 23 #[rv sb, iv 2, rv b6] [(.ref sb), (.int 0), (.ref b6), (.int 0), (.ref sb)])) rfl rfl (hb hby d16_23) _ ?_
    rw [len_of Sz12 Nn12]
    refine w_iloadN X6 hx hby d16_24 rfl ?_
    exact kt
  obtain ⟨_, _, ⟨T15, L15, k15, n15⟩, -, X15, ⟨Lc15, hQ15, l15, y15, z15⟩, st15⟩ := Jvm.LawKit.callS X6 hx (y := own_y21) hown (mvT hZ (own_w hw 87 rfl)) (mvT hZ (own_w hw 81 rfl)) (mvT hZ (own_w hw 78 rfl)) (mvT hZ (own_w hw 82 rfl)) (by decide) (backOf (W := 4) (own_rm15 l Z a0 hw [] ((64 : Int32)) ((2 : Int32)) h6 n0 (Nat.le_trans Z0 K9.1)) hZ (own_w hw 82 rfl) (own_w hw 78 rfl) (by decide) (by decide)) (g := (mkF m 25 #[rv sb, iv 2, rv b6] [(.int 2), (.int 64), (.int 0), (.ref b6), (.int 0), (.ref sb)])) rfl (by rw [hml]; rfl) (argsL := [(.int 64), (.int 2)]) (rest := [(.int 0), (.ref b6), (.int 0), (.ref sb)]) (lenOf own_pd1 rfl) rfl (by show 2 * 0 + _ ≤ _; exact Nat.le_of_eq rfl) (hb hby d16_25) (fun _ _ => ⟨rfl, e6, (by decide : 1 + 0 ≤ _), (by decide : 2 + 0 ≤ _)⟩)
  dsimp only [Pt.U, Pt.locs, Pt.cells, Pt.slots] at X15 l15 y15 z15 st15 hQ15
  subst l15 y15 z15
  obtain ⟨rfl, rfl, eq13⟩ := hQ15
  try rw [List.append_nil] at X15
  have S16 : own_G p e below s0 T15 m 28 #[rv sb, iv 2, rv b6] [(.int 2), (.int 0), (.ref b6), (.int 0), (.ref sb)] := fun t kt => S14 t (st15 _ kt)
  obtain ⟨T17, h17, Lr17, X17, e17, Nr17, Kr17, Vr17, st17⟩ := cpA X15 hx hZ hown (own_w hw 88 rfl) (own_w hw 91 rfl) (own_w hw 89 rfl) (own_w hw 90 rfl) eq13 F8 V10 (us := [(.int x0), (.int x1)]) (Or.inl ⟨rfl, rfl⟩) (by decide) (by decide) (by decide) (by decide) (by decide) rfl (by decide) N0 g_b6 (g := (mkF m 28 #[rv sb, iv 2, rv b6] [(.int 2), (.int 0), (.ref b6), (.int 0), (.ref sb)])) rfl (by rw [hml]; rfl) rfl (hb hby d16_28) (by decide) (W := 0) (by show 2 * 0 + _ ≤ _; exact Nat.le_of_eq rfl) (by decide)
  have V17 : Arv Z h17 b6 k6 .int 2 [(.int x0), (.int x1)] (.int 0) := Vr17
  have S18 : own_G p e below s0 T17 m 31 #[rv sb, iv 2, rv b6] [] := fun t kt => S16 t (st17 _ kt)
  have F19 := F8.keep Kr17 (ninS ne_sb_b6 nin0)
  have K20 : Keep h0 h17 [] := K9.trans Kr17 (allS (Or.inr sz_b6) all0)
  have S21 : own_G p e below s0 T17 m 32 #[rv sb, iv 2, rv b6] [(.ref b6)] := fun t kt => by
    refine S18 t ?_
    refine w_aloadN X17 hx hby d16_31 rfl rfl ?_
    exact kt
  obtain ⟨fs, hr, hrun, hended, hW, hsame⟩ := X17.leave (v := some (.ref b6)) (fun h => by rw [Bd.returns] at h; cases h)
  refine ⟨_, _, S21 _ ?_, hrun, hended, _, _, rfl, ?_, ⟨_, rfl⟩, hW, hsame.mono (by decide) (by decide)⟩
  · show Steps p.tables e below (T17.setTop (mkF m 32 #[rv sb, iv 2, rv b6] [(.ref b6)])) _
    jvm_step X17.here [X17.here.top, hx, (hb hby d16_32), X17.method', Bd.returns, Value.isRef, FieldType.isReference]
    first | (intro acts; rw [hr _ acts rfl rfl rfl]) | rw [hr _ _ rfl rfl rfl]
    exact Steps.refl _
  · show own_Q16m2 Z sb x0 x1 ks h0 n0 _ T17.heap _
    rw [e17]
    exact ⟨b6, k6, rfl, Nr17, g_b6, sz_b6, K20, V17⟩
theorem own_ef16m3 (m : MethodId) (x0 : Addr) (x1 : Int32) : entryFrame m #[(.ref x0), (.int x1)] 3 = mkF m 0 #[rv x0, iv x1, .unset] [] := by first | (simp [entryFrame, mkF, argsToLocals, Value.category]; done) | rfl
def own_Q16m3 (Z : State) (sb : Addr) (x0 : Int32) (x1 : Int32) (x2 : Int32) (ks : ClassId) (h0 : Heap) (n0 : Nat) (v : Option Value) (h : Heap) (L : List Loc) : Prop := ∃ (lb : Addr) (kl : ClassId), v = some (.ref lb) ∧ Fr n0 L ∧ n0 ≤ lb ∧ h0.size ≤ lb ∧ Keep h0 h [] ∧ Arv Z h lb kl .int 3 [(.int x0), (.int x1), (.int x2)] (.int 0)
set_option maxHeartbeats 40000000 in
theorem own_rm16m3 (l : Launch) (Z : State) (a0 : Array Value) (hw : ∀ d ∈ tables_1, d.before a0 Z = true) (ws : List Jvm.Cond) (sb : Addr) (x0 : Int32) (x1 : Int32) (x2 : Int32) (ks : ClassId) (h0 : Heap) (n0 : Nat) (Z0 : n0 ≤ h0.size) (V_s : Arv Z h0 sb ks .int 64 [(.int x0), (.int x1), (.int x2), (.int 0), (.int 0), (.int 0), (.int 0), (.int 0)] (.int 0)) :
    MetFree l own_y14 (head1 (Jvm.Cond.code own_y14 jdk_65_method_123_code 3 (some (.array .int)) :: ws) ({ frames := 1, cells := 1, slots := 3, locals := 18 } : Room)) (fun argv U => argv = #[(.ref sb), (.int 3)] ∧ Z.Warmed39 U.vm ∧ U.heap = h0) (fun _ _ _ _ _ => True) (fun _ U o U' => ∃ v L, o = .returned v ∧ own_Q16m3 Z sb x0 x1 x2 ks h0 n0 v U'.heap L ∧ FrameEnd U o U' L ({ frames := 1, cells := 1, slots := 3, locals := 18 } : Room).cells ({ frames := 1, cells := 1, slots := 3, locals := 18 } : Room).slots) := by
  refine MetFree.of_bodySF (plainFor_of_name own_pn2) hisR ?_
  intro p e s m args below meth c s₁ Bd hml0 hP hK
  obtain ⟨rfl, hZ, hh⟩ := hP
  have hx := Bd.exec
  have hby := Bd.bytes
  have hml : c.maxLocals = 3 := hml0
  have hown : s.vm.findClass "java/util/Arrays" = some m.cls := findClass_of_methodNamed Bd.named
  have hnm := (name_of_methodNamed Bd.named Bd.method).1
  have X0 : Stand p l e ({ frames := 1, cells := 1, slots := 3, locals := 18 } : Room) s m #[(.ref sb), (.int 3)] below meth c s₁ [] 0 0 := Stand.of_body Bd
  have e0 : s₁.heap = h0 := by rw [← hh, Bd.state]; rfl
  have N0 := Fr.nil n0
  have pre_ : own_G p e below (s₁.setTop (entryFrame m #[(.ref sb), (.int 3)] 3)) s₁ m 0 #[rv sb, iv 3, .unset] [] := fun t k => castTop (own_ef16m3 m sb (3 : Int32)) k
  obtain ⟨s0, hs0⟩ : ∃ z, z = (s₁.setTop (entryFrame m #[(.ref sb), (.int 3)] 3)) := ⟨_, rfl⟩
  have pre0 : own_G p e below s0 s₁ m 0 #[rv sb, iv 3, .unset] [] := hs0 ▸ pre_
  rw [← hs0]
  have S1 : own_G p e below s0 s₁ m 2 #[rv sb, iv 3, .unset] [(.ref sb), (.int 3)] := fun t kt => by
    refine pre0 t ?_
    refine w_iloadN X0 hx hby d16_0 rfl ?_
    refine w_aloadN X0 hx hby d16_1 rfl rfl ?_
    exact kt
  obtain ⟨cl2, Ar2, -, Sz2, Nn2, -, -⟩ := id V_s
  have S3 : own_G p e below s0 s₁ m 3 #[rv sb, iv 3, .unset] [(.int 64), (.int 3)] := fun t kt => by
    refine S1 t ?_
    refine X0.arraylength hx (by rw [e0]; exact Ar2.1) (State.isArrayOf_alike hZ.alike Ar2.2.1) (g := (mkF m 2 #[rv sb, iv 3, .unset] [(.ref sb), (.int 3)])) rfl rfl (hb hby d16_2) _ ?_
    rw [len_of Sz2 Nn2]
    exact kt
  have hc3_4 : ¬ ((3 : Int32) = (64 : Int32)) := by decide
  have S5 : own_G p e below s0 s₁ m 15 #[rv sb, iv 3, .unset] [(.int 3)] := fun t kt => by
    refine S3 t ?_
    refine w_icmpYes X0 hx hby (pc' := 14) d16_3 (feq hc3_4).2 (by decide) ?_
    refine w_iloadN X0 hx hby d16_14 rfl ?_
    exact kt
  obtain ⟨T6, h6, k6, X6, e6, E6, A6, st6⟩ := newP X0 hx hZ (own_w hw 42 rfl) e0 (g := (mkF m 15 #[rv sb, iv 3, .unset] [(.int 3)])) rfl (hb hby d16_15) rfl (by decide) (cap := 3) (by decide) (by decide) (by decide) (by decide)
  obtain ⟨b6, g6⟩ : ∃ z, z = h0.size := ⟨_, rfl⟩
  rw [← g6] at A6 st6
  have S7 : own_G p e below s0 T6 m 17 #[rv sb, iv 3, .unset] [(.ref b6)] := fun t kt => S5 t (st6 _ kt)
  have g_b6 : n0 ≤ b6 := Nat.le_trans Z0 (Nat.le_of_eq g6.symm)
  have sz_b6 : h0.size ≤ b6 := Nat.le_trans (Keep.refl h0 []).1 (Nat.le_of_eq g6.symm)
  have ne_sb_b6 : sb ≠ b6 := Nat.ne_of_lt (Nat.lt_of_lt_of_le V_s.lt (Nat.le_of_eq g6.symm))
  have F8 := V_s.ext E6
  have K9 : Keep h0 h6 [] := (Keep.refl h0 []).ext E6
  have V10 : Arv Z h6 b6 k6 .int 3 [(.int 0), (.int 0), (.int 0)] (.int 0) := (Arv.new A6 (by decide)).pad (pad_rep [] (.int 0) 3)
  have S11 : own_G p e below s0 T6 m 23 #[rv sb, iv 3, rv b6] [(.ref sb), (.int 0), (.ref b6), (.int 0), (.ref sb)] := fun t kt => by
    refine S7 t ?_
    refine w_astoreN X6 hx hby d16_17 rfl (l' := #[rv sb, iv 3, rv b6]) rfl ?_
    refine w_aloadN X6 hx hby d16_18 rfl rfl ?_
    refine w_iconst X6 hx hby d16_19 ?_
    refine w_aloadN X6 hx hby d16_20 rfl rfl ?_
    refine w_iconst X6 hx hby d16_21 ?_
    refine w_aloadN X6 hx hby d16_22 rfl rfl ?_
    exact kt
  obtain ⟨cl12, Ar12, -, Sz12, Nn12, -, -⟩ := id F8
  have S14 : own_G p e below s0 T6 m 25 #[rv sb, iv 3, rv b6] [(.int 3), (.int 64), (.int 0), (.ref b6), (.int 0), (.ref sb)] := fun t kt => by
    refine S11 t ?_
    refine X6.arraylength hx (by rw [e6]; exact Ar12.1) (State.isArrayOf_alike hZ.alike Ar12.2.1) (g := (mkF m 23 #[rv sb, iv 3, rv b6] [(.ref sb), (.int 0), (.ref b6), (.int 0), (.ref sb)])) rfl rfl (hb hby d16_23) _ ?_
    rw [len_of Sz12 Nn12]
    refine w_iloadN X6 hx hby d16_24 rfl ?_
    exact kt
  obtain ⟨_, _, ⟨T15, L15, k15, n15⟩, -, X15, ⟨Lc15, hQ15, l15, y15, z15⟩, st15⟩ := Jvm.LawKit.callS X6 hx (y := own_y21) hown (mvT hZ (own_w hw 87 rfl)) (mvT hZ (own_w hw 81 rfl)) (mvT hZ (own_w hw 78 rfl)) (mvT hZ (own_w hw 82 rfl)) (by decide) (backOf (W := 4) (own_rm15 l Z a0 hw [] ((64 : Int32)) ((3 : Int32)) h6 n0 (Nat.le_trans Z0 K9.1)) hZ (own_w hw 82 rfl) (own_w hw 78 rfl) (by decide) (by decide)) (g := (mkF m 25 #[rv sb, iv 3, rv b6] [(.int 3), (.int 64), (.int 0), (.ref b6), (.int 0), (.ref sb)])) rfl (by rw [hml]; rfl) (argsL := [(.int 64), (.int 3)]) (rest := [(.int 0), (.ref b6), (.int 0), (.ref sb)]) (lenOf own_pd1 rfl) rfl (by show 2 * 0 + _ ≤ _; exact Nat.le_of_eq rfl) (hb hby d16_25) (fun _ _ => ⟨rfl, e6, (by decide : 1 + 0 ≤ _), (by decide : 3 + 0 ≤ _)⟩)
  dsimp only [Pt.U, Pt.locs, Pt.cells, Pt.slots] at X15 l15 y15 z15 st15 hQ15
  subst l15 y15 z15
  obtain ⟨rfl, rfl, eq13⟩ := hQ15
  try rw [List.append_nil] at X15
  have S16 : own_G p e below s0 T15 m 28 #[rv sb, iv 3, rv b6] [(.int 3), (.int 0), (.ref b6), (.int 0), (.ref sb)] := fun t kt => S14 t (st15 _ kt)
  obtain ⟨T17, h17, Lr17, X17, e17, Nr17, Kr17, Vr17, st17⟩ := cpA X15 hx hZ hown (own_w hw 88 rfl) (own_w hw 91 rfl) (own_w hw 89 rfl) (own_w hw 90 rfl) eq13 F8 V10 (us := [(.int x0), (.int x1), (.int x2)]) (Or.inl ⟨rfl, rfl⟩) (by decide) (by decide) (by decide) (by decide) (by decide) rfl (by decide) N0 g_b6 (g := (mkF m 28 #[rv sb, iv 3, rv b6] [(.int 3), (.int 0), (.ref b6), (.int 0), (.ref sb)])) rfl (by rw [hml]; rfl) rfl (hb hby d16_28) (by decide) (W := 0) (by show 2 * 0 + _ ≤ _; exact Nat.le_of_eq rfl) (by decide)
  have V17 : Arv Z h17 b6 k6 .int 3 [(.int x0), (.int x1), (.int x2)] (.int 0) := Vr17
  have S18 : own_G p e below s0 T17 m 31 #[rv sb, iv 3, rv b6] [] := fun t kt => S16 t (st17 _ kt)
  have F19 := F8.keep Kr17 (ninS ne_sb_b6 nin0)
  have K20 : Keep h0 h17 [] := K9.trans Kr17 (allS (Or.inr sz_b6) all0)
  have S21 : own_G p e below s0 T17 m 32 #[rv sb, iv 3, rv b6] [(.ref b6)] := fun t kt => by
    refine S18 t ?_
    refine w_aloadN X17 hx hby d16_31 rfl rfl ?_
    exact kt
  obtain ⟨fs, hr, hrun, hended, hW, hsame⟩ := X17.leave (v := some (.ref b6)) (fun h => by rw [Bd.returns] at h; cases h)
  refine ⟨_, _, S21 _ ?_, hrun, hended, _, _, rfl, ?_, ⟨_, rfl⟩, hW, hsame.mono (by decide) (by decide)⟩
  · show Steps p.tables e below (T17.setTop (mkF m 32 #[rv sb, iv 3, rv b6] [(.ref b6)])) _
    jvm_step X17.here [X17.here.top, hx, (hb hby d16_32), X17.method', Bd.returns, Value.isRef, FieldType.isReference]
    first | (intro acts; rw [hr _ acts rfl rfl rfl]) | rw [hr _ _ rfl rfl rfl]
    exact Steps.refl _
  · show own_Q16m3 Z sb x0 x1 x2 ks h0 n0 _ T17.heap _
    rw [e17]
    exact ⟨b6, k6, rfl, Nr17, g_b6, sz_b6, K20, V17⟩
theorem own_ef16m4 (m : MethodId) (x0 : Addr) (x1 : Int32) : entryFrame m #[(.ref x0), (.int x1)] 3 = mkF m 0 #[rv x0, iv x1, .unset] [] := by first | (simp [entryFrame, mkF, argsToLocals, Value.category]; done) | rfl
def own_Q16m4 (Z : State) (sb : Addr) (x0 : Int32) (x1 : Int32) (x2 : Int32) (x3 : Int32) (ks : ClassId) (h0 : Heap) (n0 : Nat) (v : Option Value) (h : Heap) (L : List Loc) : Prop := ∃ (lb : Addr) (kl : ClassId), v = some (.ref lb) ∧ Fr n0 L ∧ n0 ≤ lb ∧ h0.size ≤ lb ∧ Keep h0 h [] ∧ Arv Z h lb kl .int 4 [(.int x0), (.int x1), (.int x2), (.int x3)] (.int 0)
set_option maxHeartbeats 40000000 in
theorem own_rm16m4 (l : Launch) (Z : State) (a0 : Array Value) (hw : ∀ d ∈ tables_1, d.before a0 Z = true) (ws : List Jvm.Cond) (sb : Addr) (x0 : Int32) (x1 : Int32) (x2 : Int32) (x3 : Int32) (ks : ClassId) (h0 : Heap) (n0 : Nat) (Z0 : n0 ≤ h0.size) (V_s : Arv Z h0 sb ks .int 64 [(.int x0), (.int x1), (.int x2), (.int x3), (.int 0), (.int 0), (.int 0), (.int 0)] (.int 0)) :
    MetFree l own_y14 (head1 (Jvm.Cond.code own_y14 jdk_65_method_123_code 3 (some (.array .int)) :: ws) ({ frames := 1, cells := 1, slots := 4, locals := 18 } : Room)) (fun argv U => argv = #[(.ref sb), (.int 4)] ∧ Z.Warmed39 U.vm ∧ U.heap = h0) (fun _ _ _ _ _ => True) (fun _ U o U' => ∃ v L, o = .returned v ∧ own_Q16m4 Z sb x0 x1 x2 x3 ks h0 n0 v U'.heap L ∧ FrameEnd U o U' L ({ frames := 1, cells := 1, slots := 4, locals := 18 } : Room).cells ({ frames := 1, cells := 1, slots := 4, locals := 18 } : Room).slots) := by
  refine MetFree.of_bodySF (plainFor_of_name own_pn2) hisR ?_
  intro p e s m args below meth c s₁ Bd hml0 hP hK
  obtain ⟨rfl, hZ, hh⟩ := hP
  have hx := Bd.exec
  have hby := Bd.bytes
  have hml : c.maxLocals = 3 := hml0
  have hown : s.vm.findClass "java/util/Arrays" = some m.cls := findClass_of_methodNamed Bd.named
  have hnm := (name_of_methodNamed Bd.named Bd.method).1
  have X0 : Stand p l e ({ frames := 1, cells := 1, slots := 4, locals := 18 } : Room) s m #[(.ref sb), (.int 4)] below meth c s₁ [] 0 0 := Stand.of_body Bd
  have e0 : s₁.heap = h0 := by rw [← hh, Bd.state]; rfl
  have N0 := Fr.nil n0
  have pre_ : own_G p e below (s₁.setTop (entryFrame m #[(.ref sb), (.int 4)] 3)) s₁ m 0 #[rv sb, iv 4, .unset] [] := fun t k => castTop (own_ef16m4 m sb (4 : Int32)) k
  obtain ⟨s0, hs0⟩ : ∃ z, z = (s₁.setTop (entryFrame m #[(.ref sb), (.int 4)] 3)) := ⟨_, rfl⟩
  have pre0 : own_G p e below s0 s₁ m 0 #[rv sb, iv 4, .unset] [] := hs0 ▸ pre_
  rw [← hs0]
  have S1 : own_G p e below s0 s₁ m 2 #[rv sb, iv 4, .unset] [(.ref sb), (.int 4)] := fun t kt => by
    refine pre0 t ?_
    refine w_iloadN X0 hx hby d16_0 rfl ?_
    refine w_aloadN X0 hx hby d16_1 rfl rfl ?_
    exact kt
  obtain ⟨cl2, Ar2, -, Sz2, Nn2, -, -⟩ := id V_s
  have S3 : own_G p e below s0 s₁ m 3 #[rv sb, iv 4, .unset] [(.int 64), (.int 4)] := fun t kt => by
    refine S1 t ?_
    refine X0.arraylength hx (by rw [e0]; exact Ar2.1) (State.isArrayOf_alike hZ.alike Ar2.2.1) (g := (mkF m 2 #[rv sb, iv 4, .unset] [(.ref sb), (.int 4)])) rfl rfl (hb hby d16_2) _ ?_
    rw [len_of Sz2 Nn2]
    exact kt
  have hc3_4 : ¬ ((4 : Int32) = (64 : Int32)) := by decide
  have S5 : own_G p e below s0 s₁ m 15 #[rv sb, iv 4, .unset] [(.int 4)] := fun t kt => by
    refine S3 t ?_
    refine w_icmpYes X0 hx hby (pc' := 14) d16_3 (feq hc3_4).2 (by decide) ?_
    refine w_iloadN X0 hx hby d16_14 rfl ?_
    exact kt
  obtain ⟨T6, h6, k6, X6, e6, E6, A6, st6⟩ := newP X0 hx hZ (own_w hw 42 rfl) e0 (g := (mkF m 15 #[rv sb, iv 4, .unset] [(.int 4)])) rfl (hb hby d16_15) rfl (by decide) (cap := 4) (by decide) (by decide) (by decide) (by decide)
  obtain ⟨b6, g6⟩ : ∃ z, z = h0.size := ⟨_, rfl⟩
  rw [← g6] at A6 st6
  have S7 : own_G p e below s0 T6 m 17 #[rv sb, iv 4, .unset] [(.ref b6)] := fun t kt => S5 t (st6 _ kt)
  have g_b6 : n0 ≤ b6 := Nat.le_trans Z0 (Nat.le_of_eq g6.symm)
  have sz_b6 : h0.size ≤ b6 := Nat.le_trans (Keep.refl h0 []).1 (Nat.le_of_eq g6.symm)
  have ne_sb_b6 : sb ≠ b6 := Nat.ne_of_lt (Nat.lt_of_lt_of_le V_s.lt (Nat.le_of_eq g6.symm))
  have F8 := V_s.ext E6
  have K9 : Keep h0 h6 [] := (Keep.refl h0 []).ext E6
  have V10 : Arv Z h6 b6 k6 .int 4 [(.int 0), (.int 0), (.int 0), (.int 0)] (.int 0) := (Arv.new A6 (by decide)).pad (pad_rep [] (.int 0) 4)
  have S11 : own_G p e below s0 T6 m 23 #[rv sb, iv 4, rv b6] [(.ref sb), (.int 0), (.ref b6), (.int 0), (.ref sb)] := fun t kt => by
    refine S7 t ?_
    refine w_astoreN X6 hx hby d16_17 rfl (l' := #[rv sb, iv 4, rv b6]) rfl ?_
    refine w_aloadN X6 hx hby d16_18 rfl rfl ?_
    refine w_iconst X6 hx hby d16_19 ?_
    refine w_aloadN X6 hx hby d16_20 rfl rfl ?_
    refine w_iconst X6 hx hby d16_21 ?_
    refine w_aloadN X6 hx hby d16_22 rfl rfl ?_
    exact kt
  obtain ⟨cl12, Ar12, -, Sz12, Nn12, -, -⟩ := id F8
  have S14 : own_G p e below s0 T6 m 25 #[rv sb, iv 4, rv b6] [(.int 4), (.int 64), (.int 0), (.ref b6), (.int 0), (.ref sb)] := fun t kt => by
    refine S11 t ?_
    refine X6.arraylength hx (by rw [e6]; exact Ar12.1) (State.isArrayOf_alike hZ.alike Ar12.2.1) (g := (mkF m 23 #[rv sb, iv 4, rv b6] [(.ref sb), (.int 0), (.ref b6), (.int 0), (.ref sb)])) rfl rfl (hb hby d16_23) _ ?_
    rw [len_of Sz12 Nn12]
    refine w_iloadN X6 hx hby d16_24 rfl ?_
    exact kt
  obtain ⟨_, _, ⟨T15, L15, k15, n15⟩, -, X15, ⟨Lc15, hQ15, l15, y15, z15⟩, st15⟩ := Jvm.LawKit.callS X6 hx (y := own_y21) hown (mvT hZ (own_w hw 87 rfl)) (mvT hZ (own_w hw 81 rfl)) (mvT hZ (own_w hw 78 rfl)) (mvT hZ (own_w hw 82 rfl)) (by decide) (backOf (W := 4) (own_rm15 l Z a0 hw [] ((64 : Int32)) ((4 : Int32)) h6 n0 (Nat.le_trans Z0 K9.1)) hZ (own_w hw 82 rfl) (own_w hw 78 rfl) (by decide) (by decide)) (g := (mkF m 25 #[rv sb, iv 4, rv b6] [(.int 4), (.int 64), (.int 0), (.ref b6), (.int 0), (.ref sb)])) rfl (by rw [hml]; rfl) (argsL := [(.int 64), (.int 4)]) (rest := [(.int 0), (.ref b6), (.int 0), (.ref sb)]) (lenOf own_pd1 rfl) rfl (by show 2 * 0 + _ ≤ _; exact Nat.le_of_eq rfl) (hb hby d16_25) (fun _ _ => ⟨rfl, e6, (by decide : 1 + 0 ≤ _), (by decide : 4 + 0 ≤ _)⟩)
  dsimp only [Pt.U, Pt.locs, Pt.cells, Pt.slots] at X15 l15 y15 z15 st15 hQ15
  subst l15 y15 z15
  obtain ⟨rfl, rfl, eq13⟩ := hQ15
  try rw [List.append_nil] at X15
  have S16 : own_G p e below s0 T15 m 28 #[rv sb, iv 4, rv b6] [(.int 4), (.int 0), (.ref b6), (.int 0), (.ref sb)] := fun t kt => S14 t (st15 _ kt)
  obtain ⟨T17, h17, Lr17, X17, e17, Nr17, Kr17, Vr17, st17⟩ := cpA X15 hx hZ hown (own_w hw 88 rfl) (own_w hw 91 rfl) (own_w hw 89 rfl) (own_w hw 90 rfl) eq13 F8 V10 (us := [(.int x0), (.int x1), (.int x2), (.int x3)]) (Or.inl ⟨rfl, rfl⟩) (by decide) (by decide) (by decide) (by decide) (by decide) rfl (by decide) N0 g_b6 (g := (mkF m 28 #[rv sb, iv 4, rv b6] [(.int 4), (.int 0), (.ref b6), (.int 0), (.ref sb)])) rfl (by rw [hml]; rfl) rfl (hb hby d16_28) (by decide) (W := 0) (by show 2 * 0 + _ ≤ _; exact Nat.le_of_eq rfl) (by decide)
  have V17 : Arv Z h17 b6 k6 .int 4 [(.int x0), (.int x1), (.int x2), (.int x3)] (.int 0) := Vr17
  have S18 : own_G p e below s0 T17 m 31 #[rv sb, iv 4, rv b6] [] := fun t kt => S16 t (st17 _ kt)
  have F19 := F8.keep Kr17 (ninS ne_sb_b6 nin0)
  have K20 : Keep h0 h17 [] := K9.trans Kr17 (allS (Or.inr sz_b6) all0)
  have S21 : own_G p e below s0 T17 m 32 #[rv sb, iv 4, rv b6] [(.ref b6)] := fun t kt => by
    refine S18 t ?_
    refine w_aloadN X17 hx hby d16_31 rfl rfl ?_
    exact kt
  obtain ⟨fs, hr, hrun, hended, hW, hsame⟩ := X17.leave (v := some (.ref b6)) (fun h => by rw [Bd.returns] at h; cases h)
  refine ⟨_, _, S21 _ ?_, hrun, hended, _, _, rfl, ?_, ⟨_, rfl⟩, hW, hsame.mono (by decide) (by decide)⟩
  · show Steps p.tables e below (T17.setTop (mkF m 32 #[rv sb, iv 4, rv b6] [(.ref b6)])) _
    jvm_step X17.here [X17.here.top, hx, (hb hby d16_32), X17.method', Bd.returns, Value.isRef, FieldType.isReference]
    first | (intro acts; rw [hr _ acts rfl rfl rfl]) | rw [hr _ _ rfl rfl rfl]
    exact Steps.refl _
  · show own_Q16m4 Z sb x0 x1 x2 x3 ks h0 n0 _ T17.heap _
    rw [e17]
    exact ⟨b6, k6, rfl, Nr17, g_b6, sz_b6, K20, V17⟩
theorem own_ef16m5 (m : MethodId) (x0 : Addr) (x1 : Int32) : entryFrame m #[(.ref x0), (.int x1)] 3 = mkF m 0 #[rv x0, iv x1, .unset] [] := by first | (simp [entryFrame, mkF, argsToLocals, Value.category]; done) | rfl
def own_Q16m5 (Z : State) (sb : Addr) (x0 : Int32) (x1 : Int32) (x2 : Int32) (x3 : Int32) (x4 : Int32) (ks : ClassId) (h0 : Heap) (n0 : Nat) (v : Option Value) (h : Heap) (L : List Loc) : Prop := ∃ (lb : Addr) (kl : ClassId), v = some (.ref lb) ∧ Fr n0 L ∧ n0 ≤ lb ∧ h0.size ≤ lb ∧ Keep h0 h [] ∧ Arv Z h lb kl .int 5 [(.int x0), (.int x1), (.int x2), (.int x3), (.int x4)] (.int 0)
set_option maxHeartbeats 40000000 in
theorem own_rm16m5 (l : Launch) (Z : State) (a0 : Array Value) (hw : ∀ d ∈ tables_1, d.before a0 Z = true) (ws : List Jvm.Cond) (sb : Addr) (x0 : Int32) (x1 : Int32) (x2 : Int32) (x3 : Int32) (x4 : Int32) (ks : ClassId) (h0 : Heap) (n0 : Nat) (Z0 : n0 ≤ h0.size) (V_s : Arv Z h0 sb ks .int 64 [(.int x0), (.int x1), (.int x2), (.int x3), (.int x4), (.int 0), (.int 0), (.int 0)] (.int 0)) :
    MetFree l own_y14 (head1 (Jvm.Cond.code own_y14 jdk_65_method_123_code 3 (some (.array .int)) :: ws) ({ frames := 1, cells := 1, slots := 5, locals := 18 } : Room)) (fun argv U => argv = #[(.ref sb), (.int 5)] ∧ Z.Warmed39 U.vm ∧ U.heap = h0) (fun _ _ _ _ _ => True) (fun _ U o U' => ∃ v L, o = .returned v ∧ own_Q16m5 Z sb x0 x1 x2 x3 x4 ks h0 n0 v U'.heap L ∧ FrameEnd U o U' L ({ frames := 1, cells := 1, slots := 5, locals := 18 } : Room).cells ({ frames := 1, cells := 1, slots := 5, locals := 18 } : Room).slots) := by
  refine MetFree.of_bodySF (plainFor_of_name own_pn2) hisR ?_
  intro p e s m args below meth c s₁ Bd hml0 hP hK
  obtain ⟨rfl, hZ, hh⟩ := hP
  have hx := Bd.exec
  have hby := Bd.bytes
  have hml : c.maxLocals = 3 := hml0
  have hown : s.vm.findClass "java/util/Arrays" = some m.cls := findClass_of_methodNamed Bd.named
  have hnm := (name_of_methodNamed Bd.named Bd.method).1
  have X0 : Stand p l e ({ frames := 1, cells := 1, slots := 5, locals := 18 } : Room) s m #[(.ref sb), (.int 5)] below meth c s₁ [] 0 0 := Stand.of_body Bd
  have e0 : s₁.heap = h0 := by rw [← hh, Bd.state]; rfl
  have N0 := Fr.nil n0
  have pre_ : own_G p e below (s₁.setTop (entryFrame m #[(.ref sb), (.int 5)] 3)) s₁ m 0 #[rv sb, iv 5, .unset] [] := fun t k => castTop (own_ef16m5 m sb (5 : Int32)) k
  obtain ⟨s0, hs0⟩ : ∃ z, z = (s₁.setTop (entryFrame m #[(.ref sb), (.int 5)] 3)) := ⟨_, rfl⟩
  have pre0 : own_G p e below s0 s₁ m 0 #[rv sb, iv 5, .unset] [] := hs0 ▸ pre_
  rw [← hs0]
  have S1 : own_G p e below s0 s₁ m 2 #[rv sb, iv 5, .unset] [(.ref sb), (.int 5)] := fun t kt => by
    refine pre0 t ?_
    refine w_iloadN X0 hx hby d16_0 rfl ?_
    refine w_aloadN X0 hx hby d16_1 rfl rfl ?_
    exact kt
  obtain ⟨cl2, Ar2, -, Sz2, Nn2, -, -⟩ := id V_s
  have S3 : own_G p e below s0 s₁ m 3 #[rv sb, iv 5, .unset] [(.int 64), (.int 5)] := fun t kt => by
    refine S1 t ?_
    refine X0.arraylength hx (by rw [e0]; exact Ar2.1) (State.isArrayOf_alike hZ.alike Ar2.2.1) (g := (mkF m 2 #[rv sb, iv 5, .unset] [(.ref sb), (.int 5)])) rfl rfl (hb hby d16_2) _ ?_
    rw [len_of Sz2 Nn2]
    exact kt
  have hc3_4 : ¬ ((5 : Int32) = (64 : Int32)) := by decide
  have S5 : own_G p e below s0 s₁ m 15 #[rv sb, iv 5, .unset] [(.int 5)] := fun t kt => by
    refine S3 t ?_
    refine w_icmpYes X0 hx hby (pc' := 14) d16_3 (feq hc3_4).2 (by decide) ?_
    refine w_iloadN X0 hx hby d16_14 rfl ?_
    exact kt
  obtain ⟨T6, h6, k6, X6, e6, E6, A6, st6⟩ := newP X0 hx hZ (own_w hw 42 rfl) e0 (g := (mkF m 15 #[rv sb, iv 5, .unset] [(.int 5)])) rfl (hb hby d16_15) rfl (by decide) (cap := 5) (by decide) (by decide) (by decide) (by decide)
  obtain ⟨b6, g6⟩ : ∃ z, z = h0.size := ⟨_, rfl⟩
  rw [← g6] at A6 st6
  have S7 : own_G p e below s0 T6 m 17 #[rv sb, iv 5, .unset] [(.ref b6)] := fun t kt => S5 t (st6 _ kt)
  have g_b6 : n0 ≤ b6 := Nat.le_trans Z0 (Nat.le_of_eq g6.symm)
  have sz_b6 : h0.size ≤ b6 := Nat.le_trans (Keep.refl h0 []).1 (Nat.le_of_eq g6.symm)
  have ne_sb_b6 : sb ≠ b6 := Nat.ne_of_lt (Nat.lt_of_lt_of_le V_s.lt (Nat.le_of_eq g6.symm))
  have F8 := V_s.ext E6
  have K9 : Keep h0 h6 [] := (Keep.refl h0 []).ext E6
  have V10 : Arv Z h6 b6 k6 .int 5 [(.int 0), (.int 0), (.int 0), (.int 0), (.int 0)] (.int 0) := (Arv.new A6 (by decide)).pad (pad_rep [] (.int 0) 5)
  have S11 : own_G p e below s0 T6 m 23 #[rv sb, iv 5, rv b6] [(.ref sb), (.int 0), (.ref b6), (.int 0), (.ref sb)] := fun t kt => by
    refine S7 t ?_
    refine w_astoreN X6 hx hby d16_17 rfl (l' := #[rv sb, iv 5, rv b6]) rfl ?_
    refine w_aloadN X6 hx hby d16_18 rfl rfl ?_
    refine w_iconst X6 hx hby d16_19 ?_
    refine w_aloadN X6 hx hby d16_20 rfl rfl ?_
    refine w_iconst X6 hx hby d16_21 ?_
    refine w_aloadN X6 hx hby d16_22 rfl rfl ?_
    exact kt
  obtain ⟨cl12, Ar12, -, Sz12, Nn12, -, -⟩ := id F8
  have S14 : own_G p e below s0 T6 m 25 #[rv sb, iv 5, rv b6] [(.int 5), (.int 64), (.int 0), (.ref b6), (.int 0), (.ref sb)] := fun t kt => by
    refine S11 t ?_
    refine X6.arraylength hx (by rw [e6]; exact Ar12.1) (State.isArrayOf_alike hZ.alike Ar12.2.1) (g := (mkF m 23 #[rv sb, iv 5, rv b6] [(.ref sb), (.int 0), (.ref b6), (.int 0), (.ref sb)])) rfl rfl (hb hby d16_23) _ ?_
    rw [len_of Sz12 Nn12]
    refine w_iloadN X6 hx hby d16_24 rfl ?_
    exact kt
  obtain ⟨_, _, ⟨T15, L15, k15, n15⟩, -, X15, ⟨Lc15, hQ15, l15, y15, z15⟩, st15⟩ := Jvm.LawKit.callS X6 hx (y := own_y21) hown (mvT hZ (own_w hw 87 rfl)) (mvT hZ (own_w hw 81 rfl)) (mvT hZ (own_w hw 78 rfl)) (mvT hZ (own_w hw 82 rfl)) (by decide) (backOf (W := 4) (own_rm15 l Z a0 hw [] ((64 : Int32)) ((5 : Int32)) h6 n0 (Nat.le_trans Z0 K9.1)) hZ (own_w hw 82 rfl) (own_w hw 78 rfl) (by decide) (by decide)) (g := (mkF m 25 #[rv sb, iv 5, rv b6] [(.int 5), (.int 64), (.int 0), (.ref b6), (.int 0), (.ref sb)])) rfl (by rw [hml]; rfl) (argsL := [(.int 64), (.int 5)]) (rest := [(.int 0), (.ref b6), (.int 0), (.ref sb)]) (lenOf own_pd1 rfl) rfl (by show 2 * 0 + _ ≤ _; exact Nat.le_of_eq rfl) (hb hby d16_25) (fun _ _ => ⟨rfl, e6, (by decide : 1 + 0 ≤ _), (by decide : 5 + 0 ≤ _)⟩)
  dsimp only [Pt.U, Pt.locs, Pt.cells, Pt.slots] at X15 l15 y15 z15 st15 hQ15
  subst l15 y15 z15
  obtain ⟨rfl, rfl, eq13⟩ := hQ15
  try rw [List.append_nil] at X15
  have S16 : own_G p e below s0 T15 m 28 #[rv sb, iv 5, rv b6] [(.int 5), (.int 0), (.ref b6), (.int 0), (.ref sb)] := fun t kt => S14 t (st15 _ kt)
  obtain ⟨T17, h17, Lr17, X17, e17, Nr17, Kr17, Vr17, st17⟩ := cpA X15 hx hZ hown (own_w hw 88 rfl) (own_w hw 91 rfl) (own_w hw 89 rfl) (own_w hw 90 rfl) eq13 F8 V10 (us := [(.int x0), (.int x1), (.int x2), (.int x3), (.int x4)]) (Or.inl ⟨rfl, rfl⟩) (by decide) (by decide) (by decide) (by decide) (by decide) rfl (by decide) N0 g_b6 (g := (mkF m 28 #[rv sb, iv 5, rv b6] [(.int 5), (.int 0), (.ref b6), (.int 0), (.ref sb)])) rfl (by rw [hml]; rfl) rfl (hb hby d16_28) (by decide) (W := 0) (by show 2 * 0 + _ ≤ _; exact Nat.le_of_eq rfl) (by decide)
  have V17 : Arv Z h17 b6 k6 .int 5 [(.int x0), (.int x1), (.int x2), (.int x3), (.int x4)] (.int 0) := Vr17
  have S18 : own_G p e below s0 T17 m 31 #[rv sb, iv 5, rv b6] [] := fun t kt => S16 t (st17 _ kt)
  have F19 := F8.keep Kr17 (ninS ne_sb_b6 nin0)
  have K20 : Keep h0 h17 [] := K9.trans Kr17 (allS (Or.inr sz_b6) all0)
  have S21 : own_G p e below s0 T17 m 32 #[rv sb, iv 5, rv b6] [(.ref b6)] := fun t kt => by
    refine S18 t ?_
    refine w_aloadN X17 hx hby d16_31 rfl rfl ?_
    exact kt
  obtain ⟨fs, hr, hrun, hended, hW, hsame⟩ := X17.leave (v := some (.ref b6)) (fun h => by rw [Bd.returns] at h; cases h)
  refine ⟨_, _, S21 _ ?_, hrun, hended, _, _, rfl, ?_, ⟨_, rfl⟩, hW, hsame.mono (by decide) (by decide)⟩
  · show Steps p.tables e below (T17.setTop (mkF m 32 #[rv sb, iv 5, rv b6] [(.ref b6)])) _
    jvm_step X17.here [X17.here.top, hx, (hb hby d16_32), X17.method', Bd.returns, Value.isRef, FieldType.isReference]
    first | (intro acts; rw [hr _ acts rfl rfl rfl]) | rw [hr _ _ rfl rfl rfl]
    exact Steps.refl _
  · show own_Q16m5 Z sb x0 x1 x2 x3 x4 ks h0 n0 _ T17.heap _
    rw [e17]
    exact ⟨b6, k6, rfl, Nr17, g_b6, sz_b6, K20, V17⟩
theorem own_ef16m6 (m : MethodId) (x0 : Addr) (x1 : Int32) : entryFrame m #[(.ref x0), (.int x1)] 3 = mkF m 0 #[rv x0, iv x1, .unset] [] := by first | (simp [entryFrame, mkF, argsToLocals, Value.category]; done) | rfl
def own_Q16m6 (Z : State) (sb : Addr) (x0 : Int32) (x1 : Int32) (x2 : Int32) (x3 : Int32) (x4 : Int32) (x5 : Int32) (ks : ClassId) (h0 : Heap) (n0 : Nat) (v : Option Value) (h : Heap) (L : List Loc) : Prop := ∃ (lb : Addr) (kl : ClassId), v = some (.ref lb) ∧ Fr n0 L ∧ n0 ≤ lb ∧ h0.size ≤ lb ∧ Keep h0 h [] ∧ Arv Z h lb kl .int 6 [(.int x0), (.int x1), (.int x2), (.int x3), (.int x4), (.int x5)] (.int 0)
set_option maxHeartbeats 40000000 in
theorem own_rm16m6 (l : Launch) (Z : State) (a0 : Array Value) (hw : ∀ d ∈ tables_1, d.before a0 Z = true) (ws : List Jvm.Cond) (sb : Addr) (x0 : Int32) (x1 : Int32) (x2 : Int32) (x3 : Int32) (x4 : Int32) (x5 : Int32) (ks : ClassId) (h0 : Heap) (n0 : Nat) (Z0 : n0 ≤ h0.size) (V_s : Arv Z h0 sb ks .int 64 [(.int x0), (.int x1), (.int x2), (.int x3), (.int x4), (.int x5), (.int 0), (.int 0)] (.int 0)) :
    MetFree l own_y14 (head1 (Jvm.Cond.code own_y14 jdk_65_method_123_code 3 (some (.array .int)) :: ws) ({ frames := 1, cells := 1, slots := 6, locals := 18 } : Room)) (fun argv U => argv = #[(.ref sb), (.int 6)] ∧ Z.Warmed39 U.vm ∧ U.heap = h0) (fun _ _ _ _ _ => True) (fun _ U o U' => ∃ v L, o = .returned v ∧ own_Q16m6 Z sb x0 x1 x2 x3 x4 x5 ks h0 n0 v U'.heap L ∧ FrameEnd U o U' L ({ frames := 1, cells := 1, slots := 6, locals := 18 } : Room).cells ({ frames := 1, cells := 1, slots := 6, locals := 18 } : Room).slots) := by
  refine MetFree.of_bodySF (plainFor_of_name own_pn2) hisR ?_
  intro p e s m args below meth c s₁ Bd hml0 hP hK
  obtain ⟨rfl, hZ, hh⟩ := hP
  have hx := Bd.exec
  have hby := Bd.bytes
  have hml : c.maxLocals = 3 := hml0
  have hown : s.vm.findClass "java/util/Arrays" = some m.cls := findClass_of_methodNamed Bd.named
  have hnm := (name_of_methodNamed Bd.named Bd.method).1
  have X0 : Stand p l e ({ frames := 1, cells := 1, slots := 6, locals := 18 } : Room) s m #[(.ref sb), (.int 6)] below meth c s₁ [] 0 0 := Stand.of_body Bd
  have e0 : s₁.heap = h0 := by rw [← hh, Bd.state]; rfl
  have N0 := Fr.nil n0
  have pre_ : own_G p e below (s₁.setTop (entryFrame m #[(.ref sb), (.int 6)] 3)) s₁ m 0 #[rv sb, iv 6, .unset] [] := fun t k => castTop (own_ef16m6 m sb (6 : Int32)) k
  obtain ⟨s0, hs0⟩ : ∃ z, z = (s₁.setTop (entryFrame m #[(.ref sb), (.int 6)] 3)) := ⟨_, rfl⟩
  have pre0 : own_G p e below s0 s₁ m 0 #[rv sb, iv 6, .unset] [] := hs0 ▸ pre_
  rw [← hs0]
  have S1 : own_G p e below s0 s₁ m 2 #[rv sb, iv 6, .unset] [(.ref sb), (.int 6)] := fun t kt => by
    refine pre0 t ?_
    refine w_iloadN X0 hx hby d16_0 rfl ?_
    refine w_aloadN X0 hx hby d16_1 rfl rfl ?_
    exact kt
  obtain ⟨cl2, Ar2, -, Sz2, Nn2, -, -⟩ := id V_s
  have S3 : own_G p e below s0 s₁ m 3 #[rv sb, iv 6, .unset] [(.int 64), (.int 6)] := fun t kt => by
    refine S1 t ?_
    refine X0.arraylength hx (by rw [e0]; exact Ar2.1) (State.isArrayOf_alike hZ.alike Ar2.2.1) (g := (mkF m 2 #[rv sb, iv 6, .unset] [(.ref sb), (.int 6)])) rfl rfl (hb hby d16_2) _ ?_
    rw [len_of Sz2 Nn2]
    exact kt
  have hc3_4 : ¬ ((6 : Int32) = (64 : Int32)) := by decide
  have S5 : own_G p e below s0 s₁ m 15 #[rv sb, iv 6, .unset] [(.int 6)] := fun t kt => by
    refine S3 t ?_
    refine w_icmpYes X0 hx hby (pc' := 14) d16_3 (feq hc3_4).2 (by decide) ?_
    refine w_iloadN X0 hx hby d16_14 rfl ?_
    exact kt
  obtain ⟨T6, h6, k6, X6, e6, E6, A6, st6⟩ := newP X0 hx hZ (own_w hw 42 rfl) e0 (g := (mkF m 15 #[rv sb, iv 6, .unset] [(.int 6)])) rfl (hb hby d16_15) rfl (by decide) (cap := 6) (by decide) (by decide) (by decide) (by decide)
  obtain ⟨b6, g6⟩ : ∃ z, z = h0.size := ⟨_, rfl⟩
  rw [← g6] at A6 st6
  have S7 : own_G p e below s0 T6 m 17 #[rv sb, iv 6, .unset] [(.ref b6)] := fun t kt => S5 t (st6 _ kt)
  have g_b6 : n0 ≤ b6 := Nat.le_trans Z0 (Nat.le_of_eq g6.symm)
  have sz_b6 : h0.size ≤ b6 := Nat.le_trans (Keep.refl h0 []).1 (Nat.le_of_eq g6.symm)
  have ne_sb_b6 : sb ≠ b6 := Nat.ne_of_lt (Nat.lt_of_lt_of_le V_s.lt (Nat.le_of_eq g6.symm))
  have F8 := V_s.ext E6
  have K9 : Keep h0 h6 [] := (Keep.refl h0 []).ext E6
  have V10 : Arv Z h6 b6 k6 .int 6 [(.int 0), (.int 0), (.int 0), (.int 0), (.int 0), (.int 0)] (.int 0) := (Arv.new A6 (by decide)).pad (pad_rep [] (.int 0) 6)
  have S11 : own_G p e below s0 T6 m 23 #[rv sb, iv 6, rv b6] [(.ref sb), (.int 0), (.ref b6), (.int 0), (.ref sb)] := fun t kt => by
    refine S7 t ?_
    refine w_astoreN X6 hx hby d16_17 rfl (l' := #[rv sb, iv 6, rv b6]) rfl ?_
    refine w_aloadN X6 hx hby d16_18 rfl rfl ?_
    refine w_iconst X6 hx hby d16_19 ?_
    refine w_aloadN X6 hx hby d16_20 rfl rfl ?_
    refine w_iconst X6 hx hby d16_21 ?_
    refine w_aloadN X6 hx hby d16_22 rfl rfl ?_
    exact kt
  obtain ⟨cl12, Ar12, -, Sz12, Nn12, -, -⟩ := id F8
  have S14 : own_G p e below s0 T6 m 25 #[rv sb, iv 6, rv b6] [(.int 6), (.int 64), (.int 0), (.ref b6), (.int 0), (.ref sb)] := fun t kt => by
    refine S11 t ?_
    refine X6.arraylength hx (by rw [e6]; exact Ar12.1) (State.isArrayOf_alike hZ.alike Ar12.2.1) (g := (mkF m 23 #[rv sb, iv 6, rv b6] [(.ref sb), (.int 0), (.ref b6), (.int 0), (.ref sb)])) rfl rfl (hb hby d16_23) _ ?_
    rw [len_of Sz12 Nn12]
    refine w_iloadN X6 hx hby d16_24 rfl ?_
    exact kt
  obtain ⟨_, _, ⟨T15, L15, k15, n15⟩, -, X15, ⟨Lc15, hQ15, l15, y15, z15⟩, st15⟩ := Jvm.LawKit.callS X6 hx (y := own_y21) hown (mvT hZ (own_w hw 87 rfl)) (mvT hZ (own_w hw 81 rfl)) (mvT hZ (own_w hw 78 rfl)) (mvT hZ (own_w hw 82 rfl)) (by decide) (backOf (W := 4) (own_rm15 l Z a0 hw [] ((64 : Int32)) ((6 : Int32)) h6 n0 (Nat.le_trans Z0 K9.1)) hZ (own_w hw 82 rfl) (own_w hw 78 rfl) (by decide) (by decide)) (g := (mkF m 25 #[rv sb, iv 6, rv b6] [(.int 6), (.int 64), (.int 0), (.ref b6), (.int 0), (.ref sb)])) rfl (by rw [hml]; rfl) (argsL := [(.int 64), (.int 6)]) (rest := [(.int 0), (.ref b6), (.int 0), (.ref sb)]) (lenOf own_pd1 rfl) rfl (by show 2 * 0 + _ ≤ _; exact Nat.le_of_eq rfl) (hb hby d16_25) (fun _ _ => ⟨rfl, e6, (by decide : 1 + 0 ≤ _), (by decide : 6 + 0 ≤ _)⟩)
  dsimp only [Pt.U, Pt.locs, Pt.cells, Pt.slots] at X15 l15 y15 z15 st15 hQ15
  subst l15 y15 z15
  obtain ⟨rfl, rfl, eq13⟩ := hQ15
  try rw [List.append_nil] at X15
  have S16 : own_G p e below s0 T15 m 28 #[rv sb, iv 6, rv b6] [(.int 6), (.int 0), (.ref b6), (.int 0), (.ref sb)] := fun t kt => S14 t (st15 _ kt)
  obtain ⟨T17, h17, Lr17, X17, e17, Nr17, Kr17, Vr17, st17⟩ := cpA X15 hx hZ hown (own_w hw 88 rfl) (own_w hw 91 rfl) (own_w hw 89 rfl) (own_w hw 90 rfl) eq13 F8 V10 (us := [(.int x0), (.int x1), (.int x2), (.int x3), (.int x4), (.int x5)]) (Or.inl ⟨rfl, rfl⟩) (by decide) (by decide) (by decide) (by decide) (by decide) rfl (by decide) N0 g_b6 (g := (mkF m 28 #[rv sb, iv 6, rv b6] [(.int 6), (.int 0), (.ref b6), (.int 0), (.ref sb)])) rfl (by rw [hml]; rfl) rfl (hb hby d16_28) (by decide) (W := 0) (by show 2 * 0 + _ ≤ _; exact Nat.le_of_eq rfl) (by decide)
  have V17 : Arv Z h17 b6 k6 .int 6 [(.int x0), (.int x1), (.int x2), (.int x3), (.int x4), (.int x5)] (.int 0) := Vr17
  have S18 : own_G p e below s0 T17 m 31 #[rv sb, iv 6, rv b6] [] := fun t kt => S16 t (st17 _ kt)
  have F19 := F8.keep Kr17 (ninS ne_sb_b6 nin0)
  have K20 : Keep h0 h17 [] := K9.trans Kr17 (allS (Or.inr sz_b6) all0)
  have S21 : own_G p e below s0 T17 m 32 #[rv sb, iv 6, rv b6] [(.ref b6)] := fun t kt => by
    refine S18 t ?_
    refine w_aloadN X17 hx hby d16_31 rfl rfl ?_
    exact kt
  obtain ⟨fs, hr, hrun, hended, hW, hsame⟩ := X17.leave (v := some (.ref b6)) (fun h => by rw [Bd.returns] at h; cases h)
  refine ⟨_, _, S21 _ ?_, hrun, hended, _, _, rfl, ?_, ⟨_, rfl⟩, hW, hsame.mono (by decide) (by decide)⟩
  · show Steps p.tables e below (T17.setTop (mkF m 32 #[rv sb, iv 6, rv b6] [(.ref b6)])) _
    jvm_step X17.here [X17.here.top, hx, (hb hby d16_32), X17.method', Bd.returns, Value.isRef, FieldType.isReference]
    first | (intro acts; rw [hr _ acts rfl rfl rfl]) | rw [hr _ _ rfl rfl rfl]
    exact Steps.refl _
  · show own_Q16m6 Z sb x0 x1 x2 x3 x4 x5 ks h0 n0 _ T17.heap _
    rw [e17]
    exact ⟨b6, k6, rfl, Nr17, g_b6, sz_b6, K20, V17⟩
theorem own_ef16m7 (m : MethodId) (x0 : Addr) (x1 : Int32) : entryFrame m #[(.ref x0), (.int x1)] 3 = mkF m 0 #[rv x0, iv x1, .unset] [] := by first | (simp [entryFrame, mkF, argsToLocals, Value.category]; done) | rfl
def own_Q16m7 (Z : State) (sb : Addr) (x0 : Int32) (x1 : Int32) (x2 : Int32) (x3 : Int32) (x4 : Int32) (x5 : Int32) (x6 : Int32) (ks : ClassId) (h0 : Heap) (n0 : Nat) (v : Option Value) (h : Heap) (L : List Loc) : Prop := ∃ (lb : Addr) (kl : ClassId), v = some (.ref lb) ∧ Fr n0 L ∧ n0 ≤ lb ∧ h0.size ≤ lb ∧ Keep h0 h [] ∧ Arv Z h lb kl .int 7 [(.int x0), (.int x1), (.int x2), (.int x3), (.int x4), (.int x5), (.int x6)] (.int 0)
set_option maxHeartbeats 40000000 in
theorem own_rm16m7 (l : Launch) (Z : State) (a0 : Array Value) (hw : ∀ d ∈ tables_1, d.before a0 Z = true) (ws : List Jvm.Cond) (sb : Addr) (x0 : Int32) (x1 : Int32) (x2 : Int32) (x3 : Int32) (x4 : Int32) (x5 : Int32) (x6 : Int32) (ks : ClassId) (h0 : Heap) (n0 : Nat) (Z0 : n0 ≤ h0.size) (V_s : Arv Z h0 sb ks .int 64 [(.int x0), (.int x1), (.int x2), (.int x3), (.int x4), (.int x5), (.int x6), (.int 0)] (.int 0)) :
    MetFree l own_y14 (head1 (Jvm.Cond.code own_y14 jdk_65_method_123_code 3 (some (.array .int)) :: ws) ({ frames := 1, cells := 1, slots := 7, locals := 18 } : Room)) (fun argv U => argv = #[(.ref sb), (.int 7)] ∧ Z.Warmed39 U.vm ∧ U.heap = h0) (fun _ _ _ _ _ => True) (fun _ U o U' => ∃ v L, o = .returned v ∧ own_Q16m7 Z sb x0 x1 x2 x3 x4 x5 x6 ks h0 n0 v U'.heap L ∧ FrameEnd U o U' L ({ frames := 1, cells := 1, slots := 7, locals := 18 } : Room).cells ({ frames := 1, cells := 1, slots := 7, locals := 18 } : Room).slots) := by
  refine MetFree.of_bodySF (plainFor_of_name own_pn2) hisR ?_
  intro p e s m args below meth c s₁ Bd hml0 hP hK
  obtain ⟨rfl, hZ, hh⟩ := hP
  have hx := Bd.exec
  have hby := Bd.bytes
  have hml : c.maxLocals = 3 := hml0
  have hown : s.vm.findClass "java/util/Arrays" = some m.cls := findClass_of_methodNamed Bd.named
  have hnm := (name_of_methodNamed Bd.named Bd.method).1
  have X0 : Stand p l e ({ frames := 1, cells := 1, slots := 7, locals := 18 } : Room) s m #[(.ref sb), (.int 7)] below meth c s₁ [] 0 0 := Stand.of_body Bd
  have e0 : s₁.heap = h0 := by rw [← hh, Bd.state]; rfl
  have N0 := Fr.nil n0
  have pre_ : own_G p e below (s₁.setTop (entryFrame m #[(.ref sb), (.int 7)] 3)) s₁ m 0 #[rv sb, iv 7, .unset] [] := fun t k => castTop (own_ef16m7 m sb (7 : Int32)) k
  obtain ⟨s0, hs0⟩ : ∃ z, z = (s₁.setTop (entryFrame m #[(.ref sb), (.int 7)] 3)) := ⟨_, rfl⟩
  have pre0 : own_G p e below s0 s₁ m 0 #[rv sb, iv 7, .unset] [] := hs0 ▸ pre_
  rw [← hs0]
  have S1 : own_G p e below s0 s₁ m 2 #[rv sb, iv 7, .unset] [(.ref sb), (.int 7)] := fun t kt => by
    refine pre0 t ?_
    refine w_iloadN X0 hx hby d16_0 rfl ?_
    refine w_aloadN X0 hx hby d16_1 rfl rfl ?_
    exact kt
  obtain ⟨cl2, Ar2, -, Sz2, Nn2, -, -⟩ := id V_s
  have S3 : own_G p e below s0 s₁ m 3 #[rv sb, iv 7, .unset] [(.int 64), (.int 7)] := fun t kt => by
    refine S1 t ?_
    refine X0.arraylength hx (by rw [e0]; exact Ar2.1) (State.isArrayOf_alike hZ.alike Ar2.2.1) (g := (mkF m 2 #[rv sb, iv 7, .unset] [(.ref sb), (.int 7)])) rfl rfl (hb hby d16_2) _ ?_
    rw [len_of Sz2 Nn2]
    exact kt
  have hc3_4 : ¬ ((7 : Int32) = (64 : Int32)) := by decide
  have S5 : own_G p e below s0 s₁ m 15 #[rv sb, iv 7, .unset] [(.int 7)] := fun t kt => by
    refine S3 t ?_
    refine w_icmpYes X0 hx hby (pc' := 14) d16_3 (feq hc3_4).2 (by decide) ?_
    refine w_iloadN X0 hx hby d16_14 rfl ?_
    exact kt
  obtain ⟨T6, h6, k6, X6, e6, E6, A6, st6⟩ := newP X0 hx hZ (own_w hw 42 rfl) e0 (g := (mkF m 15 #[rv sb, iv 7, .unset] [(.int 7)])) rfl (hb hby d16_15) rfl (by decide) (cap := 7) (by decide) (by decide) (by decide) (by decide)
  obtain ⟨b6, g6⟩ : ∃ z, z = h0.size := ⟨_, rfl⟩
  rw [← g6] at A6 st6
  have S7 : own_G p e below s0 T6 m 17 #[rv sb, iv 7, .unset] [(.ref b6)] := fun t kt => S5 t (st6 _ kt)
  have g_b6 : n0 ≤ b6 := Nat.le_trans Z0 (Nat.le_of_eq g6.symm)
  have sz_b6 : h0.size ≤ b6 := Nat.le_trans (Keep.refl h0 []).1 (Nat.le_of_eq g6.symm)
  have ne_sb_b6 : sb ≠ b6 := Nat.ne_of_lt (Nat.lt_of_lt_of_le V_s.lt (Nat.le_of_eq g6.symm))
  have F8 := V_s.ext E6
  have K9 : Keep h0 h6 [] := (Keep.refl h0 []).ext E6
  have V10 : Arv Z h6 b6 k6 .int 7 [(.int 0), (.int 0), (.int 0), (.int 0), (.int 0), (.int 0), (.int 0)] (.int 0) := (Arv.new A6 (by decide)).pad (pad_rep [] (.int 0) 7)
  have S11 : own_G p e below s0 T6 m 23 #[rv sb, iv 7, rv b6] [(.ref sb), (.int 0), (.ref b6), (.int 0), (.ref sb)] := fun t kt => by
    refine S7 t ?_
    refine w_astoreN X6 hx hby d16_17 rfl (l' := #[rv sb, iv 7, rv b6]) rfl ?_
    refine w_aloadN X6 hx hby d16_18 rfl rfl ?_
    refine w_iconst X6 hx hby d16_19 ?_
    refine w_aloadN X6 hx hby d16_20 rfl rfl ?_
    refine w_iconst X6 hx hby d16_21 ?_
    refine w_aloadN X6 hx hby d16_22 rfl rfl ?_
    exact kt
  obtain ⟨cl12, Ar12, -, Sz12, Nn12, -, -⟩ := id F8
  have S14 : own_G p e below s0 T6 m 25 #[rv sb, iv 7, rv b6] [(.int 7), (.int 64), (.int 0), (.ref b6), (.int 0), (.ref sb)] := fun t kt => by
    refine S11 t ?_
    refine X6.arraylength hx (by rw [e6]; exact Ar12.1) (State.isArrayOf_alike hZ.alike Ar12.2.1) (g := (mkF m 23 #[rv sb, iv 7, rv b6] [(.ref sb), (.int 0), (.ref b6), (.int 0), (.ref sb)])) rfl rfl (hb hby d16_23) _ ?_
    rw [len_of Sz12 Nn12]
    refine w_iloadN X6 hx hby d16_24 rfl ?_
    exact kt
  obtain ⟨_, _, ⟨T15, L15, k15, n15⟩, -, X15, ⟨Lc15, hQ15, l15, y15, z15⟩, st15⟩ := Jvm.LawKit.callS X6 hx (y := own_y21) hown (mvT hZ (own_w hw 87 rfl)) (mvT hZ (own_w hw 81 rfl)) (mvT hZ (own_w hw 78 rfl)) (mvT hZ (own_w hw 82 rfl)) (by decide) (backOf (W := 4) (own_rm15 l Z a0 hw [] ((64 : Int32)) ((7 : Int32)) h6 n0 (Nat.le_trans Z0 K9.1)) hZ (own_w hw 82 rfl) (own_w hw 78 rfl) (by decide) (by decide)) (g := (mkF m 25 #[rv sb, iv 7, rv b6] [(.int 7), (.int 64), (.int 0), (.ref b6), (.int 0), (.ref sb)])) rfl (by rw [hml]; rfl) (argsL := [(.int 64), (.int 7)]) (rest := [(.int 0), (.ref b6), (.int 0), (.ref sb)]) (lenOf own_pd1 rfl) rfl (by show 2 * 0 + _ ≤ _; exact Nat.le_of_eq rfl) (hb hby d16_25) (fun _ _ => ⟨rfl, e6, (by decide : 1 + 0 ≤ _), (by decide : 7 + 0 ≤ _)⟩)
  dsimp only [Pt.U, Pt.locs, Pt.cells, Pt.slots] at X15 l15 y15 z15 st15 hQ15
  subst l15 y15 z15
  obtain ⟨rfl, rfl, eq13⟩ := hQ15
  try rw [List.append_nil] at X15
  have S16 : own_G p e below s0 T15 m 28 #[rv sb, iv 7, rv b6] [(.int 7), (.int 0), (.ref b6), (.int 0), (.ref sb)] := fun t kt => S14 t (st15 _ kt)
  obtain ⟨T17, h17, Lr17, X17, e17, Nr17, Kr17, Vr17, st17⟩ := cpA X15 hx hZ hown (own_w hw 88 rfl) (own_w hw 91 rfl) (own_w hw 89 rfl) (own_w hw 90 rfl) eq13 F8 V10 (us := [(.int x0), (.int x1), (.int x2), (.int x3), (.int x4), (.int x5), (.int x6)]) (Or.inl ⟨rfl, rfl⟩) (by decide) (by decide) (by decide) (by decide) (by decide) rfl (by decide) N0 g_b6 (g := (mkF m 28 #[rv sb, iv 7, rv b6] [(.int 7), (.int 0), (.ref b6), (.int 0), (.ref sb)])) rfl (by rw [hml]; rfl) rfl (hb hby d16_28) (by decide) (W := 0) (by show 2 * 0 + _ ≤ _; exact Nat.le_of_eq rfl) (by decide)
  have V17 : Arv Z h17 b6 k6 .int 7 [(.int x0), (.int x1), (.int x2), (.int x3), (.int x4), (.int x5), (.int x6)] (.int 0) := Vr17
  have S18 : own_G p e below s0 T17 m 31 #[rv sb, iv 7, rv b6] [] := fun t kt => S16 t (st17 _ kt)
  have F19 := F8.keep Kr17 (ninS ne_sb_b6 nin0)
  have K20 : Keep h0 h17 [] := K9.trans Kr17 (allS (Or.inr sz_b6) all0)
  have S21 : own_G p e below s0 T17 m 32 #[rv sb, iv 7, rv b6] [(.ref b6)] := fun t kt => by
    refine S18 t ?_
    refine w_aloadN X17 hx hby d16_31 rfl rfl ?_
    exact kt
  obtain ⟨fs, hr, hrun, hended, hW, hsame⟩ := X17.leave (v := some (.ref b6)) (fun h => by rw [Bd.returns] at h; cases h)
  refine ⟨_, _, S21 _ ?_, hrun, hended, _, _, rfl, ?_, ⟨_, rfl⟩, hW, hsame.mono (by decide) (by decide)⟩
  · show Steps p.tables e below (T17.setTop (mkF m 32 #[rv sb, iv 7, rv b6] [(.ref b6)])) _
    jvm_step X17.here [X17.here.top, hx, (hb hby d16_32), X17.method', Bd.returns, Value.isRef, FieldType.isReference]
    first | (intro acts; rw [hr _ acts rfl rfl rfl]) | rw [hr _ _ rfl rfl rfl]
    exact Steps.refl _
  · show own_Q16m7 Z sb x0 x1 x2 x3 x4 x5 x6 ks h0 n0 _ T17.heap _
    rw [e17]
    exact ⟨b6, k6, rfl, Nr17, g_b6, sz_b6, K20, V17⟩
theorem own_A_z (bs : List Int32) (nn : Nat) : own_ixF bs nn (0 : Int32) = own_A bs nn 0 := by unfold own_A; rfl
theorem own_A_s (bs : List Int32) (nn k : Nat) : own_ixF bs nn (own_A bs nn k + (1 : Int32)) = own_A bs nn (k + 1) := by conv => rhs; unfold own_A
theorem own_pd6 : parseMethodDescriptor "(I)I" = some ⟨[.int], some .int⟩ := by decide +kernel
theorem own_pd7 : parseMethodDescriptor "([II)[I" = some ⟨[(.array .int), .int], some (.array .int)⟩ := by decide +kernel
theorem d6_0 : decode prog_62_method_1_code 0 = .ok (.aload_n 0, 1) := by decide +kernel
theorem d6_1 : decode prog_62_method_1_code 1 = .ok (.invokespecial 1, 3) := by decide +kernel
theorem d6_4 : decode prog_62_method_1_code 4 = .ok (.aload_n 0, 1) := by decide +kernel
theorem d6_5 : decode prog_62_method_1_code 5 = .ok (.aload_n 1, 1) := by decide +kernel
theorem d6_6 : decode prog_62_method_1_code 6 = .ok (.putfield 7, 3) := by decide +kernel
theorem d6_9 : decode prog_62_method_1_code 9 = .ok (.aload_n 0, 1) := by decide +kernel
theorem d6_10 : decode prog_62_method_1_code 10 = .ok (.aload_n 2, 1) := by decide +kernel
theorem d6_11 : decode prog_62_method_1_code 11 = .ok (.putfield 13, 3) := by decide +kernel
theorem d6_14 : decode prog_62_method_1_code 14 = .ok (.bipush 64, 2) := by decide +kernel
theorem d6_16 : decode prog_62_method_1_code 16 = .ok (.newarray .int, 2) := by decide +kernel
theorem d6_18 : decode prog_62_method_1_code 18 = .ok (.astore_n 3, 1) := by decide +kernel
theorem d6_19 : decode prog_62_method_1_code 19 = .ok (.iconst 1, 1) := by decide +kernel
theorem d6_20 : decode prog_62_method_1_code 20 = .ok (.istore 4, 2) := by decide +kernel
theorem d6_22 : decode prog_62_method_1_code 22 = .ok (.aload_n 2, 1) := by decide +kernel
theorem d6_23 : decode prog_62_method_1_code 23 = .ok (.bipush 10, 2) := by decide +kernel
theorem d6_25 : decode prog_62_method_1_code 25 = .ok (.invokevirtual 16, 3) := by decide +kernel
theorem d6_28 : decode prog_62_method_1_code 28 = .ok (.istore 5, 2) := by decide +kernel
theorem d6_30 : decode prog_62_method_1_code 30 = .ok (.iload 5, 2) := by decide +kernel
theorem d6_32 : decode prog_62_method_1_code 32 = .ok (.ifCond .lt 45, 3) := by decide +kernel
theorem d6_35 : decode prog_62_method_1_code 35 = .ok (.iload 4, 2) := by decide +kernel
theorem d6_37 : decode prog_62_method_1_code 37 = .ok (.aload_n 3, 1) := by decide +kernel
theorem d6_38 : decode prog_62_method_1_code 38 = .ok (.arraylength, 1) := by decide +kernel
theorem d6_39 : decode prog_62_method_1_code 39 = .ok (.if_icmp .ne 12, 3) := by decide +kernel
theorem d6_51 : decode prog_62_method_1_code 51 = .ok (.aload_n 3, 1) := by decide +kernel
theorem d6_52 : decode prog_62_method_1_code 52 = .ok (.iload 4, 2) := by decide +kernel
theorem d6_54 : decode prog_62_method_1_code 54 = .ok (.iinc 4 1, 3) := by decide +kernel
theorem d6_57 : decode prog_62_method_1_code 57 = .ok (.iload 5, 2) := by decide +kernel
theorem d6_59 : decode prog_62_method_1_code 59 = .ok (.iconst 1, 1) := by decide +kernel
theorem d6_60 : decode prog_62_method_1_code 60 = .ok (.iadd, 1) := by decide +kernel
theorem d6_61 : decode prog_62_method_1_code 61 = .ok (.iastore, 1) := by decide +kernel
theorem d6_62 : decode prog_62_method_1_code 62 = .ok (.aload_n 2, 1) := by decide +kernel
theorem d6_63 : decode prog_62_method_1_code 63 = .ok (.bipush 10, 2) := by decide +kernel
theorem d6_65 : decode prog_62_method_1_code 65 = .ok (.iload 5, 2) := by decide +kernel
theorem d6_67 : decode prog_62_method_1_code 67 = .ok (.iconst 1, 1) := by decide +kernel
theorem d6_68 : decode prog_62_method_1_code 68 = .ok (.iadd, 1) := by decide +kernel
theorem d6_69 : decode prog_62_method_1_code 69 = .ok (.invokevirtual 28, 3) := by decide +kernel
theorem d6_72 : decode prog_62_method_1_code 72 = .ok (.istore 5, 2) := by decide +kernel
theorem d6_74 : decode prog_62_method_1_code 74 = .ok (.goto (-44), 3) := by decide +kernel
theorem d6_77 : decode prog_62_method_1_code 77 = .ok (.aload_n 0, 1) := by decide +kernel
theorem d6_78 : decode prog_62_method_1_code 78 = .ok (.aload_n 3, 1) := by decide +kernel
theorem d6_79 : decode prog_62_method_1_code 79 = .ok (.iload 4, 2) := by decide +kernel
theorem d6_81 : decode prog_62_method_1_code 81 = .ok (.invokestatic 22, 3) := by decide +kernel
theorem d6_84 : decode prog_62_method_1_code 84 = .ok (.putfield 31, 3) := by decide +kernel
theorem d6_87 : decode prog_62_method_1_code 87 = .ok (.return_, 1) := by decide +kernel
theorem own_ef6 (m : MethodId) (x0 : Addr) (x1 : Addr) (x2 : Addr) : entryFrame m #[(.ref x0), (.ref x1), (.ref x2)] 6 = mkF m 0 #[rv x0, rv x1, rv x2, .unset, .unset, .unset] [] := by first | (simp [entryFrame, mkF, argsToLocals, Value.category]; done) | rfl
def own_Q6 (Z : State) (a : Addr) (fn : Addr) (tx : Addr) (cs : Int32) (b : Addr) (to : Int32) (kb : ClassId) (bs : List Int32) (nn : Nat) (u0 : Value) (u1 : Value) (u2 : Value) (h0 : Heap) (n0 : Nat) (v : Option Value) (h : Heap) (L : List Loc) : Prop := v = none ∧ Fr n0 L ∧ Keep h0 h [a] ∧ Exa Z h a own_s0 ∧ ∃ (lb : Addr) (kl : ClassId) (es : List Int32), Fld Z h a own_s0 "lineStarts" "[I" (.ref lb) ∧ Arv Z h lb kl .int (Int32.ofNat es.length) (es.map Value.int) (.int 0) ∧ own_esP bs nn es
theorem own_pn3 : plainName "com/example/invariant_to_halt/invarianttohalt/reader/SourceText" = true := by first | (simp [plainName, overriddenIn]; done) | decide +kernel
set_option maxHeartbeats 40000000 in
theorem own_rm6 (l : Launch) (Z : State) (a0 : Array Value) (hw : ∀ d ∈ tables_1, d.before a0 Z = true) (ws : List Jvm.Cond) (a : Addr) (fn : Addr) (tx : Addr) (cs : Int32) (b : Addr) (to : Int32) (kb : ClassId) (bs : List Int32) (nn : Nat) (u0 : Value) (u1 : Value) (u2 : Value) (h0 : Heap) (n0 : Nat) (Z0 : n0 ≤ h0.size) (E_a : Exa Z h0 a own_s0) (g_a : n0 ≤ a) (F_fileName : Fld Z h0 a own_s0 "fileName" "Ljava/lang/String;" u0) (F_text : Fld Z h0 a own_s0 "text" "Ljava/lang/String;" u1) (F_lineStarts : Fld Z h0 a own_s0 "lineStarts" "[I" u2) (E_tx : Exa Z h0 tx "java/lang/String") (C_tx : Fld Z h0 tx "java/lang/String" "coder" "B" (.int 0)) (W_tx : Fld Z h0 tx "java/lang/String" "value" "[B" (.ref b)) (S_CS : Sta Z h0 "java/lang/String" "COMPACT_STRINGS" "Z" (.int cs)) (hcs : ¬ cs = (0 : Int32)) (V_b : Arv Z h0 b kb .byte to (bs.map Value.int) (.int 0)) (hto : to = Int32.ofNat nn) (hnn : nn ≤ 6) :
    MetFree l own_y0 (head1 (Jvm.Cond.code own_y0 prog_62_method_1_code 6 none :: ws) ({ frames := 4, cells := 2, slots := 71, locals := 59 } : Room)) (fun argv U => argv = #[(.ref a), (.ref fn), (.ref tx)] ∧ Z.Warmed39 U.vm ∧ U.heap = h0) (fun _ _ _ _ _ => True) (fun _ U o U' => ∃ v L, o = .returned v ∧ own_Q6 Z a fn tx cs b to kb bs nn u0 u1 u2 h0 n0 v U'.heap L ∧ FrameEnd U o U' L ({ frames := 4, cells := 2, slots := 71, locals := 59 } : Room).cells ({ frames := 4, cells := 2, slots := 71, locals := 59 } : Room).slots) := by
  refine MetFree.of_bodySF (plainFor_of_name own_pn3) hisR ?_
  intro p e s m args below meth c s₁ Bd hml0 hP hK
  obtain ⟨rfl, hZ, hh⟩ := hP
  have hx := Bd.exec
  have hby := Bd.bytes
  have hml : c.maxLocals = 6 := hml0
  have hown : s.vm.findClass own_s0 = some m.cls := findClass_of_methodNamed Bd.named
  have hnm := (name_of_methodNamed Bd.named Bd.method).1
  have X0 : Stand p l e ({ frames := 4, cells := 2, slots := 71, locals := 59 } : Room) s m #[(.ref a), (.ref fn), (.ref tx)] below meth c s₁ [] 0 0 := Stand.of_body Bd
  have e0 : s₁.heap = h0 := by rw [← hh, Bd.state]; rfl
  have N0 := Fr.nil n0
  have pre_ : own_G p e below (s₁.setTop (entryFrame m #[(.ref a), (.ref fn), (.ref tx)] 6)) s₁ m 0 #[rv a, rv fn, rv tx, .unset, .unset, .unset] [] := fun t k => castTop (own_ef6 m a fn tx) k
  obtain ⟨s0, hs0⟩ : ∃ z, z = (s₁.setTop (entryFrame m #[(.ref a), (.ref fn), (.ref tx)] 6)) := ⟨_, rfl⟩
  have pre0 : own_G p e below s0 s₁ m 0 #[rv a, rv fn, rv tx, .unset, .unset, .unset] [] := hs0 ▸ pre_
  rw [← hs0]
  have S1 : own_G p e below s0 s₁ m 1 #[rv a, rv fn, rv tx, .unset, .unset, .unset] [(.ref a)] := fun t kt => by
    refine pre0 t ?_
    refine w_aloadN X0 hx hby d6_0 rfl rfl ?_
    exact kt
  obtain ⟨T2, X2, e2, st2⟩ := initO X0 hx hZ hown (own_w hw 37 rfl) (own_w hw 29 rfl) (own_w hw 30 rfl) e0 (g := (mkF m 1 #[rv a, rv fn, rv tx, .unset, .unset, .unset] [(.ref a)])) rfl (by rw [hml]; rfl) rfl (hb hby d6_1) (by decide) (W := 0) (by show 2 * 0 + _ ≤ _; exact Nat.le_of_eq rfl) (by decide)
  have S3 : own_G p e below s0 T2 m 4 #[rv a, rv fn, rv tx, .unset, .unset, .unset] [] := fun t kt => S1 t (st2 _ kt)
  have S4 : own_G p e below s0 T2 m 6 #[rv a, rv fn, rv tx, .unset, .unset, .unset] [(.ref fn), (.ref a)] := fun t kt => by
    refine S3 t ?_
    refine w_aloadN X2 hx hby d6_4 rfl rfl ?_
    refine w_aloadN X2 hx hby d6_5 rfl rfl ?_
    exact kt
  obtain ⟨T5, h5, X5, e5, W5, st5⟩ := putF X2 hx hZ hown (host := "") (Or.inl (own_w hw 38 rfl)) Via.refl e2 F_fileName E_a (Or.inr ⟨(own_w hw 39 rfl), rfl, hnm⟩) (own_w hw 6 rfl) (ty := (.object "java/lang/String")) (by decide) rfl rfl (g := (mkF m 6 #[rv a, rv fn, rv tx, .unset, .unset, .unset] [(.ref fn), (.ref a)])) rfl rfl (hb hby d6_6)
  have S6 : own_G p e below s0 T5 m 9 #[rv a, rv fn, rv tx, .unset, .unset, .unset] [] := fun t kt => S4 t (st5 _ kt)
  have F7 := E_a.wr W5
  have F8 := F_fileName.same W5
  have F9 := F_text.other W5 (Or.inr (slot_ne (Or.inr (own_w hw 41 rfl)) (Or.inr (own_w hw 39 rfl)) (by decide) (t := (.object "java/lang/String")) (t' := (.object "java/lang/String")) (by decide) (by decide)))
  have F10 := F_lineStarts.other W5 (Or.inr (slot_ne (Or.inr (own_w hw 93 rfl)) (Or.inr (own_w hw 39 rfl)) (by decide) (t := (.array .int)) (t' := (.object "java/lang/String")) (by decide) (by decide)))
  have F11 := E_tx.wr W5
  have F12 := C_tx.other W5 (Or.inl (Exa.ne E_tx E_a (by decide)))
  have F13 := W_tx.other W5 (Or.inl (Exa.ne E_tx E_a (by decide)))
  have F14 := S_CS.wr W5
  have F15 := V_b.other W5 (Ne.symm (Exa.neArv E_a V_b (own_w hw 6 rfl)))
  have N16 := Fr.snoc X5 N0 g_a
  have K17 : Keep h0 h5 [a] := (Keep.refl h0 [a]).wr W5 (Or.inl (List.mem_of_getElem? (i := 0) rfl))
  have S18 : own_G p e below s0 T5 m 11 #[rv a, rv fn, rv tx, .unset, .unset, .unset] [(.ref tx), (.ref a)] := fun t kt => by
    refine S6 t ?_
    refine w_aloadN X5 hx hby d6_9 rfl rfl ?_
    refine w_aloadN X5 hx hby d6_10 rfl rfl ?_
    exact kt
  obtain ⟨T19, h19, X19, e19, W19, st19⟩ := putF X5 hx hZ hown (host := "") (Or.inl (own_w hw 40 rfl)) Via.refl e5 F9 F7 (Or.inr ⟨(own_w hw 41 rfl), rfl, hnm⟩) (own_w hw 6 rfl) (ty := (.object "java/lang/String")) (by decide) rfl rfl (g := (mkF m 11 #[rv a, rv fn, rv tx, .unset, .unset, .unset] [(.ref tx), (.ref a)])) rfl rfl (hb hby d6_11)
  have S20 : own_G p e below s0 T19 m 14 #[rv a, rv fn, rv tx, .unset, .unset, .unset] [] := fun t kt => S18 t (st19 _ kt)
  have F21 := F7.wr W19
  have F22 := F8.other W19 (Or.inr (slot_ne (Or.inr (own_w hw 39 rfl)) (Or.inr (own_w hw 41 rfl)) (by decide) (t := (.object "java/lang/String")) (t' := (.object "java/lang/String")) (by decide) (by decide)))
  have F23 := F9.same W19
  have F24 := F10.other W19 (Or.inr (slot_ne (Or.inr (own_w hw 93 rfl)) (Or.inr (own_w hw 41 rfl)) (by decide) (t := (.array .int)) (t' := (.object "java/lang/String")) (by decide) (by decide)))
  have F25 := F11.wr W19
  have F26 := F12.other W19 (Or.inl (Exa.ne F11 F7 (by decide)))
  have F27 := F13.other W19 (Or.inl (Exa.ne F11 F7 (by decide)))
  have F28 := F14.wr W19
  have F29 := F15.other W19 (Ne.symm (Exa.neArv F7 F15 (own_w hw 6 rfl)))
  have N30 := Fr.snoc X19 N16 g_a
  have K31 : Keep h0 h19 [a] := K17.wr W19 (Or.inl (List.mem_of_getElem? (i := 0) rfl))
  have S32 : own_G p e below s0 T19 m 16 #[rv a, rv fn, rv tx, .unset, .unset, .unset] [(.int 64)] := fun t kt => by
    refine S20 t ?_
    refine w_bipush X19 hx hby d6_14 ?_
    exact kt
  obtain ⟨T33, h33, k33, X33, e33, E33, A33, st33⟩ := newP X19 hx hZ (own_w hw 42 rfl) e19 (g := (mkF m 16 #[rv a, rv fn, rv tx, .unset, .unset, .unset] [(.int 64)])) rfl (hb hby d6_16) rfl (by decide) (cap := 64) (by decide) (by decide) (by decide) (by decide)
  obtain ⟨b33, g33⟩ : ∃ z, z = h19.size := ⟨_, rfl⟩
  rw [← g33] at A33 st33
  have S34 : own_G p e below s0 T33 m 18 #[rv a, rv fn, rv tx, .unset, .unset, .unset] [(.ref b33)] := fun t kt => S32 t (st33 _ kt)
  have g_b33 : n0 ≤ b33 := Nat.le_trans (Nat.le_trans Z0 K31.1) (Nat.le_of_eq g33.symm)
  have sz_b33 : h0.size ≤ b33 := Nat.le_trans K31.1 (Nat.le_of_eq g33.symm)
  have ne_a_b33 : a ≠ b33 := Nat.ne_of_lt (Nat.lt_of_lt_of_le F21.lt (Nat.le_of_eq g33.symm))
  have ne_tx_b33 : tx ≠ b33 := Nat.ne_of_lt (Nat.lt_of_lt_of_le F25.lt (Nat.le_of_eq g33.symm))
  have ne_b_b33 : b ≠ b33 := Nat.ne_of_lt (Nat.lt_of_lt_of_le F29.lt (Nat.le_of_eq g33.symm))
  have F35 := F21.ext E33
  have F36 := F22.ext E33
  have F37 := F23.ext E33
  have F38 := F24.ext E33
  have F39 := F25.ext E33
  have F40 := F26.ext E33
  have F41 := F27.ext E33
  have F42 := F28.ext E33
  have F43 := F29.ext E33
  have K44 : Keep h0 h33 [a] := K31.ext E33
  have V45 : Arv Z h33 b33 k33 .int 64 [(.int 0), (.int 0), (.int 0), (.int 0), (.int 0), (.int 0), (.int 0), (.int 0)] (.int 0) := (Arv.new A33 (by decide)).pad (pad_rep [] (.int 0) 8)
  have S47 : own_G p e below s0 T33 m 25 #[rv a, rv fn, rv tx, rv b33, iv 1, .unset] [(.int 10), (.ref tx)] := fun t kt => by
    refine S34 t ?_
    refine w_astoreN X33 hx hby d6_18 rfl (l' := #[rv a, rv fn, rv tx, rv b33, .unset, .unset]) rfl ?_
    refine w_iconst X33 hx hby d6_19 ?_
    refine w_istore X33 hx hby d6_20 (l' := #[rv a, rv fn, rv tx, rv b33, iv 1, .unset]) rfl ?_
    refine w_aloadN X33 hx hby d6_22 rfl rfl ?_
    refine w_bipush X33 hx hby d6_23 ?_
    exact kt
  obtain ⟨cq48, kq48, q48a, q48b, q48c⟩ := isOf hZ e33 F39
  obtain ⟨_, _, ⟨T48, L48, k48, n48⟩, -, X48, ⟨Lc48, hQ48, l48, y48, z48⟩, st48⟩ := X33.virtualBack hx (y := own_y16) (z := own_y16) hown (mvT hZ (own_w hw 43 rfl)) (mvT hZ (own_w hw 44 rfl)) (notFace_of_selects (args := #[]) (mvT hZ (own_w hw 46 rfl))) (mvT hZ (own_w hw 46 rfl)) (mvT hZ (own_w hw 45 rfl)) (by decide) (backOf (W := 0) (own_rm7 l Z a0 hw [] (tx) (cs) (b) (to) (kb) (bs) (nn) h33 n0 (Nat.le_trans Z0 K44.1) F39 F42 hcs F40 F41 F43 hto hnn) hZ (own_w hw 47 rfl) (own_w hw 9 rfl) (by decide) (by decide)) q48a q48c (g := (mkF m 25 #[rv a, rv fn, rv tx, rv b33, iv 1, .unset] [(.int 10), (.ref tx)])) rfl (by rw [hml]; rfl) (Steps.refl _) (argsL := [(.int 10)]) (rest := []) (lenOf own_pd6 rfl) rfl (by show 2 * 0 + _ ≤ _; exact Nat.le_of_eq rfl) (hb hby d6_25) (fun _ _ => ⟨rfl, e33, (by decide : 1 + 0 ≤ _), (by decide : 64 + 0 ≤ _)⟩)
  dsimp only [Pt.U, Pt.locs, Pt.cells, Pt.slots] at X48 l48 y48 z48 st48 hQ48
  subst l48 y48 z48
  obtain ⟨hvA0, rfl, eq46⟩ := hQ48
  try rw [List.append_nil] at X48
  obtain ⟨A0, hA0⟩ : ∃ z, z = own_A bs nn 0 := ⟨_, rfl⟩
  rw [show own_ixF bs nn (0 : Int32) = A0 from by rw [hA0]; exact own_A_z bs nn] at hvA0
  subst hvA0
  have S49 : own_G p e below s0 T48 m 28 #[rv a, rv fn, rv tx, rv b33, iv 1, .unset] [(.int A0)] := fun t kt => S47 t (st48.trans kt)
  have S50 : own_G p e below s0 T48 m 32 #[rv a, rv fn, rv tx, rv b33, iv 1, iv A0] [(.int A0)] := fun t kt => by
    refine S49 t ?_
    refine w_istore X48 hx hby d6_28 (l' := #[rv a, rv fn, rv tx, rv b33, iv 1, iv A0]) rfl ?_
    refine w_iload X48 hx hby d6_30 rfl ?_
    exact kt
  by_cases hc32 : A0 < (0 : Int32)
  · skip
    have S53 : own_G p e below s0 T48 m 81 #[rv a, rv fn, rv tx, rv b33, iv 1, iv A0] [(.int 1), (.ref b33), (.ref a)] := fun t kt => by
      refine S50 t ?_
      refine w_ifYes X48 hx hby (pc' := 77) d6_32 ((if0 _ _).trans (tlt hc32).1) (by decide) ?_
      refine w_aloadN X48 hx hby d6_77 rfl rfl ?_
      refine w_aloadN X48 hx hby d6_78 rfl rfl ?_
      refine w_iload X48 hx hby d6_79 rfl ?_
      exact kt
    obtain ⟨_, _, ⟨T54, L54, k54, n54⟩, -, X54, ⟨Lc54, hQ54, l54, y54, z54⟩, st54⟩ := Jvm.LawKit.callS X48 hx (y := own_y14) hown (mvT hZ (own_w hw 83 rfl)) (mvT hZ (own_w hw 84 rfl)) (mvT hZ (own_w hw 85 rfl)) (mvT hZ (own_w hw 86 rfl)) (by decide) (backOf (W := 1) (own_rm16m1 l Z a0 hw [] (b33) ((0 : Int32)) (k33) h33 n0 (Nat.le_trans Z0 K44.1) V45) hZ (own_w hw 86 rfl) (own_w hw 85 rfl) (by decide) (by decide)) (g := (mkF m 81 #[rv a, rv fn, rv tx, rv b33, iv 1, iv A0] [(.int 1), (.ref b33), (.ref a)])) rfl (by rw [hml]; rfl) (argsL := [(.ref b33), (.int 1)]) (rest := [(.ref a)]) (lenOf own_pd7 rfl) rfl (by show 2 * 0 + _ ≤ _; exact Nat.le_of_eq rfl) (hb hby d6_81) (fun _ _ => ⟨rfl, eq46, (by decide : 1 + 1 ≤ _), (by decide : 64 + 1 ≤ _)⟩)
    dsimp only [Pt.U, Pt.locs, Pt.cells, Pt.slots] at X54 l54 y54 z54 st54 hQ54
    subst l54 y54 z54
    obtain ⟨lb51, kl51, rfl, Nq54, gt51, sz51, Kc51, Vc51⟩ := hQ54
    have N55 := Fr.app N30 Nq54
    have S56 : own_G p e below s0 T54 m 84 #[rv a, rv fn, rv tx, rv b33, iv 1, iv A0] [(.ref lb51), (.ref a)] := fun t kt => S53 t (st54 _ kt)
    have F57 := F35.keep Kc51
    have F58 := F36.keep Kc51 nin0
    have F59 := F37.keep Kc51 nin0
    have F60 := F38.keep Kc51 nin0
    have F61 := F39.keep Kc51
    have F62 := F40.keep Kc51 nin0
    have F63 := F41.keep Kc51 nin0
    have F64 := own_StaK F42 Kc51 all0
    have F65 := F43.keep Kc51 nin0
    have F66 := V45.keep Kc51 nin0
    have K67 : Keep h0 T54.heap [a] := K44.trans Kc51 all0
    have ne_a_lb51 : a ≠ lb51 := Nat.ne_of_lt (Nat.lt_of_lt_of_le F35.lt sz51)
    have ne_tx_lb51 : tx ≠ lb51 := Nat.ne_of_lt (Nat.lt_of_lt_of_le F39.lt sz51)
    have ne_b_lb51 : b ≠ lb51 := Nat.ne_of_lt (Nat.lt_of_lt_of_le F43.lt sz51)
    have ne_b33_lb51 : b33 ≠ lb51 := Nat.ne_of_lt (Nat.lt_of_lt_of_le V45.lt sz51)
    obtain ⟨T68, h68, X68, e68, W68, st68⟩ := putF X54 hx hZ hown (host := "") (Or.inl (own_w hw 92 rfl)) Via.refl rfl F60 F57 (Or.inr ⟨(own_w hw 93 rfl), rfl, hnm⟩) (own_w hw 6 rfl) (ty := (.array .int)) (by decide) rfl rfl (g := (mkF m 84 #[rv a, rv fn, rv tx, rv b33, iv 1, iv A0] [(.ref lb51), (.ref a)])) rfl rfl (hb hby d6_84)
    have S69 : own_G p e below s0 T68 m 87 #[rv a, rv fn, rv tx, rv b33, iv 1, iv A0] [] := fun t kt => S56 t (st68 _ kt)
    have F70 := F57.wr W68
    have F71 := F58.other W68 (Or.inr (slot_ne (Or.inr (own_w hw 39 rfl)) (Or.inr (own_w hw 93 rfl)) (by decide) (t := (.object "java/lang/String")) (t' := (.array .int)) (by decide) (by decide)))
    have F72 := F59.other W68 (Or.inr (slot_ne (Or.inr (own_w hw 41 rfl)) (Or.inr (own_w hw 93 rfl)) (by decide) (t := (.object "java/lang/String")) (t' := (.array .int)) (by decide) (by decide)))
    have F73 := F60.same W68
    have F74 := F61.wr W68
    have F75 := F62.other W68 (Or.inl (Exa.ne F61 F57 (by decide)))
    have F76 := F63.other W68 (Or.inl (Exa.ne F61 F57 (by decide)))
    have F77 := F64.wr W68
    have F78 := F65.other W68 (Ne.symm (Exa.neArv F57 F65 (own_w hw 6 rfl)))
    have F79 := F66.other W68 (Ne.symm ne_a_b33)
    have F80 := Vc51.other W68 (Ne.symm ne_a_lb51)
    have N81 := Fr.snoc X68 N55 g_a
    have K82 : Keep h0 h68 [a] := K67.wr W68 (Or.inl (List.mem_of_getElem? (i := 0) rfl))
    obtain ⟨fs, hr, hrun, hended, hW, hsame⟩ := X68.leave (v := none) (fun _ => rfl)
    refine ⟨_, _, S69 _ ?_, hrun, hended, _, _, rfl, ?_, ⟨_, rfl⟩, hW, hsame.mono (by decide) (by decide)⟩
    · show Steps p.tables e below (T68.setTop (mkF m 87 #[rv a, rv fn, rv tx, rv b33, iv 1, iv A0] [])) _
      exact X68.returnOut hx Bd.returns (hb hby d6_87) hr
    · show own_Q6 Z a fn tx cs b to kb bs nn u0 u1 u2 h0 n0 _ T68.heap _
      rw [e68]
      exact ⟨rfl, N81, K82, F70, lb51, kl51, [(0 : Int32)], F73, F80, Or.inl ⟨(hA0 ▸ hc32), rfl⟩⟩
  · skip
    have S83 : own_G p e below s0 T48 m 38 #[rv a, rv fn, rv tx, rv b33, iv 1, iv A0] [(.ref b33), (.int 1)] := fun t kt => by
      refine S50 t ?_
      refine w_ifNo X48 hx hby d6_32 ((if0 _ _).trans (flt hc32).1) ?_
      refine w_iload X48 hx hby d6_35 rfl ?_
      refine w_aloadN X48 hx hby d6_37 rfl rfl ?_
      exact kt
    obtain ⟨cl84, Ar84, -, Sz84, Nn84, -, -⟩ := id V45
    have S85 : own_G p e below s0 T48 m 39 #[rv a, rv fn, rv tx, rv b33, iv 1, iv A0] [(.int 64), (.int 1)] := fun t kt => by
      refine S83 t ?_
      refine X48.arraylength hx (by rw [eq46]; exact Ar84.1) (State.isArrayOf_alike hZ.alike Ar84.2.1) (g := (mkF m 38 #[rv a, rv fn, rv tx, rv b33, iv 1, iv A0] [(.ref b33), (.int 1)])) rfl rfl (hb hby d6_38) _ ?_
      rw [len_of Sz84 Nn84]
      exact kt
    have hc39_86 : ¬ ((1 : Int32) = (64 : Int32)) := by decide
    have S87 : own_G p e below s0 T48 m 61 #[rv a, rv fn, rv tx, rv b33, iv 2, iv A0] [(.int (A0 + (1 : Int32))), (.int 1), (.ref b33)] := fun t kt => by
      refine S85 t ?_
      refine w_icmpYes X48 hx hby (pc' := 51) d6_39 (feq hc39_86).2 (by decide) ?_
      refine w_aloadN X48 hx hby d6_51 rfl rfl ?_
      refine w_iload X48 hx hby d6_52 rfl ?_
      refine w_iinc X48 hx hby d6_54 rfl (l' := #[rv a, rv fn, rv tx, rv b33, iv 2, iv A0]) rfl ?_
      refine w_iload X48 hx hby d6_57 rfl ?_
      refine w_iconst X48 hx hby d6_59 ?_
      refine w_iadd X48 hx hby d6_60 ?_
      exact kt
    obtain ⟨cl88, Ar88, q88, Sz88, Nn88, Hh88, Gg88⟩ := id V45
    have hin88 : ¬ ((1 : Int32) < 0 ∨ cl88.slots.size ≤ ((1 : Int32)).toNatClampNeg) := inb_of Sz88 ⟨by decide, by decide⟩
    obtain ⟨T89, h89, X89, e89, W89, st89⟩ := stI X48 hx hZ eq46 Ar88 (j := (1 : Int32)) hin88 (g := (mkF m 61 #[rv a, rv fn, rv tx, rv b33, iv 2, iv A0] [(.int (A0 + (1 : Int32))), (.int 1), (.ref b33)])) rfl rfl (hb hby d6_61)
    have S90 : own_G p e below s0 T89 m 62 #[rv a, rv fn, rv tx, rv b33, iv 2, iv A0] [] := fun t kt => S87 t (st89 _ kt)
    have V91 := Arv.set Ar88 q88 Sz88 Nn88 Hh88 Gg88 rfl W89 1 rfl (Nat.le_of_ble_eq_true rfl)
    have F92 := F35.wr W89
    have F93 := F36.other W89 (Or.inl ne_a_b33)
    have F94 := F37.other W89 (Or.inl ne_a_b33)
    have F95 := F38.other W89 (Or.inl ne_a_b33)
    have F96 := F39.wr W89
    have F97 := F40.other W89 (Or.inl ne_tx_b33)
    have F98 := F41.other W89 (Or.inl ne_tx_b33)
    have F99 := F42.wr W89
    have F100 := F43.other W89 ne_b_b33
    have N101 := Fr.snoc X89 N30 g_b33
    have K102 : Keep h0 h89 [a] := K44.wr W89 (Or.inr sz_b33)
    have S104 : own_G p e below s0 T89 m 69 #[rv a, rv fn, rv tx, rv b33, iv 2, iv A0] [(.int (A0 + (1 : Int32))), (.int 10), (.ref tx)] := fun t kt => by
      refine S90 t ?_
      refine w_aloadN X89 hx hby d6_62 rfl rfl ?_
      refine w_bipush X89 hx hby d6_63 ?_
      refine w_iload X89 hx hby d6_65 rfl ?_
      refine w_iconst X89 hx hby d6_67 ?_
      refine w_iadd X89 hx hby d6_68 ?_
      exact kt
    obtain ⟨cq105, kq105, q105a, q105b, q105c⟩ := isOf hZ e89 F96
    obtain ⟨_, _, ⟨T105, L105, k105, n105⟩, -, X105, ⟨Lc105, hQ105, l105, y105, z105⟩, st105⟩ := X89.virtualBack hx (y := own_y15) (z := own_y15) hown (mvT hZ (own_w hw 121 rfl)) (mvT hZ (own_w hw 49 rfl)) (notFace_of_selects (args := #[]) (mvT hZ (own_w hw 51 rfl))) (mvT hZ (own_w hw 51 rfl)) (mvT hZ (own_w hw 50 rfl)) (by decide) (backOf (W := 0) (own_rm8 l Z a0 hw [] (tx) ((A0 + (1 : Int32))) (cs) (b) (to) (kb) (bs) (nn) h89 n0 (Nat.le_trans Z0 K102.1) F96 F99 hcs F97 F98 F100 hto hnn (by rw [hA0]; exact (own_A_1 hnn 0).2.1) (by rw [hA0]; exact (own_A_1 hnn 0).2.2)) hZ (own_w hw 52 rfl) (own_w hw 9 rfl) (by decide) (by decide)) q105a q105c (g := (mkF m 69 #[rv a, rv fn, rv tx, rv b33, iv 2, iv A0] [(.int (A0 + (1 : Int32))), (.int 10), (.ref tx)])) rfl (by rw [hml]; rfl) (Steps.refl _) (argsL := [(.int 10), (.int (A0 + (1 : Int32)))]) (rest := []) (lenOf own_pd1 rfl) rfl (by show 2 * 0 + _ ≤ _; exact Nat.le_of_eq rfl) (hb hby d6_69) (fun _ _ => ⟨rfl, e89, (by decide : 1 + 0 ≤ _), (by decide : 64 + 0 ≤ _)⟩)
    dsimp only [Pt.U, Pt.locs, Pt.cells, Pt.slots] at X105 l105 y105 z105 st105 hQ105
    subst l105 y105 z105
    obtain ⟨hvA1, rfl, eq103⟩ := hQ105
    try rw [List.append_nil] at X105
    obtain ⟨A1, hA1⟩ : ∃ z, z = own_A bs nn 1 := ⟨_, rfl⟩
    rw [show own_ixF bs nn (A0 + (1 : Int32)) = A1 from by rw [hA0, hA1]; exact own_A_s bs nn 0] at hvA1
    subst hvA1
    have S106 : own_G p e below s0 T105 m 72 #[rv a, rv fn, rv tx, rv b33, iv 2, iv A0] [(.int A1)] := fun t kt => S104 t (st105.trans kt)
    have S107 : own_G p e below s0 T105 m 32 #[rv a, rv fn, rv tx, rv b33, iv 2, iv A1] [(.int A1)] := fun t kt => by
      refine S106 t ?_
      refine w_istore X105 hx hby d6_72 (l' := #[rv a, rv fn, rv tx, rv b33, iv 2, iv A1]) rfl ?_
      refine w_goto X105 hx hby (pc' := 30) d6_74 (by decide) ?_
      refine w_iload X105 hx hby d6_30 rfl ?_
      exact kt
    by_cases hc32' : A1 < (0 : Int32)
    · skip
      have S110 : own_G p e below s0 T105 m 81 #[rv a, rv fn, rv tx, rv b33, iv 2, iv A1] [(.int 2), (.ref b33), (.ref a)] := fun t kt => by
        refine S107 t ?_
        refine w_ifYes X105 hx hby (pc' := 77) d6_32 ((if0 _ _).trans (tlt hc32').1) (by decide) ?_
        refine w_aloadN X105 hx hby d6_77 rfl rfl ?_
        refine w_aloadN X105 hx hby d6_78 rfl rfl ?_
        refine w_iload X105 hx hby d6_79 rfl ?_
        exact kt
      obtain ⟨_, _, ⟨T111, L111, k111, n111⟩, -, X111, ⟨Lc111, hQ111, l111, y111, z111⟩, st111⟩ := Jvm.LawKit.callS X105 hx (y := own_y14) hown (mvT hZ (own_w hw 83 rfl)) (mvT hZ (own_w hw 84 rfl)) (mvT hZ (own_w hw 85 rfl)) (mvT hZ (own_w hw 86 rfl)) (by decide) (backOf (W := 1) (own_rm16m2 l Z a0 hw [] (b33) ((0 : Int32)) ((A0 + (1 : Int32))) (k33) h89 n0 (Nat.le_trans Z0 K102.1) V91) hZ (own_w hw 86 rfl) (own_w hw 85 rfl) (by decide) (by decide)) (g := (mkF m 81 #[rv a, rv fn, rv tx, rv b33, iv 2, iv A1] [(.int 2), (.ref b33), (.ref a)])) rfl (by rw [hml]; rfl) (argsL := [(.ref b33), (.int 2)]) (rest := [(.ref a)]) (lenOf own_pd7 rfl) rfl (by show 2 * 0 + _ ≤ _; exact Nat.le_of_eq rfl) (hb hby d6_81) (fun _ _ => ⟨rfl, eq103, (by decide : 1 + 1 ≤ _), (by decide : 64 + 2 ≤ _)⟩)
      dsimp only [Pt.U, Pt.locs, Pt.cells, Pt.slots] at X111 l111 y111 z111 st111 hQ111
      subst l111 y111 z111
      obtain ⟨lb108, kl108, rfl, Nq111, gt108, sz108, Kc108, Vc108⟩ := hQ111
      have N112 := Fr.app N101 Nq111
      have S113 : own_G p e below s0 T111 m 84 #[rv a, rv fn, rv tx, rv b33, iv 2, iv A1] [(.ref lb108), (.ref a)] := fun t kt => S110 t (st111 _ kt)
      have F114 := F92.keep Kc108
      have F115 := F93.keep Kc108 nin0
      have F116 := F94.keep Kc108 nin0
      have F117 := F95.keep Kc108 nin0
      have F118 := F96.keep Kc108
      have F119 := F97.keep Kc108 nin0
      have F120 := F98.keep Kc108 nin0
      have F121 := own_StaK F99 Kc108 all0
      have F122 := F100.keep Kc108 nin0
      have F123 := V91.keep Kc108 nin0
      have K124 : Keep h0 T111.heap [a] := K102.trans Kc108 all0
      have ne_a_lb108 : a ≠ lb108 := Nat.ne_of_lt (Nat.lt_of_lt_of_le F92.lt sz108)
      have ne_tx_lb108 : tx ≠ lb108 := Nat.ne_of_lt (Nat.lt_of_lt_of_le F96.lt sz108)
      have ne_b_lb108 : b ≠ lb108 := Nat.ne_of_lt (Nat.lt_of_lt_of_le F100.lt sz108)
      have ne_b33_lb108 : b33 ≠ lb108 := Nat.ne_of_lt (Nat.lt_of_lt_of_le V91.lt sz108)
      obtain ⟨T125, h125, X125, e125, W125, st125⟩ := putF X111 hx hZ hown (host := "") (Or.inl (own_w hw 92 rfl)) Via.refl rfl F117 F114 (Or.inr ⟨(own_w hw 93 rfl), rfl, hnm⟩) (own_w hw 6 rfl) (ty := (.array .int)) (by decide) rfl rfl (g := (mkF m 84 #[rv a, rv fn, rv tx, rv b33, iv 2, iv A1] [(.ref lb108), (.ref a)])) rfl rfl (hb hby d6_84)
      have S126 : own_G p e below s0 T125 m 87 #[rv a, rv fn, rv tx, rv b33, iv 2, iv A1] [] := fun t kt => S113 t (st125 _ kt)
      have F127 := F114.wr W125
      have F128 := F115.other W125 (Or.inr (slot_ne (Or.inr (own_w hw 39 rfl)) (Or.inr (own_w hw 93 rfl)) (by decide) (t := (.object "java/lang/String")) (t' := (.array .int)) (by decide) (by decide)))
      have F129 := F116.other W125 (Or.inr (slot_ne (Or.inr (own_w hw 41 rfl)) (Or.inr (own_w hw 93 rfl)) (by decide) (t := (.object "java/lang/String")) (t' := (.array .int)) (by decide) (by decide)))
      have F130 := F117.same W125
      have F131 := F118.wr W125
      have F132 := F119.other W125 (Or.inl (Exa.ne F118 F114 (by decide)))
      have F133 := F120.other W125 (Or.inl (Exa.ne F118 F114 (by decide)))
      have F134 := F121.wr W125
      have F135 := F122.other W125 (Ne.symm (Exa.neArv F114 F122 (own_w hw 6 rfl)))
      have F136 := F123.other W125 (Ne.symm ne_a_b33)
      have F137 := Vc108.other W125 (Ne.symm ne_a_lb108)
      have N138 := Fr.snoc X125 N112 g_a
      have K139 : Keep h0 h125 [a] := K124.wr W125 (Or.inl (List.mem_of_getElem? (i := 0) rfl))
      obtain ⟨fs, hr, hrun, hended, hW, hsame⟩ := X125.leave (v := none) (fun _ => rfl)
      refine ⟨_, _, S126 _ ?_, hrun, hended, _, _, rfl, ?_, ⟨_, rfl⟩, hW, hsame.mono (by decide) (by decide)⟩
      · show Steps p.tables e below (T125.setTop (mkF m 87 #[rv a, rv fn, rv tx, rv b33, iv 2, iv A1] [])) _
        exact X125.returnOut hx Bd.returns (hb hby d6_87) hr
      · show own_Q6 Z a fn tx cs b to kb bs nn u0 u1 u2 h0 n0 _ T125.heap _
        rw [e125]
        exact ⟨rfl, N138, K139, F127, lb108, kl108, [(0 : Int32), A0 + (1 : Int32)], F130, F137, Or.inr (Or.inl ⟨(hA0 ▸ hc32), (hA1 ▸ hc32'), (by rw [hA0])⟩)⟩
    · skip
      have S140 : own_G p e below s0 T105 m 38 #[rv a, rv fn, rv tx, rv b33, iv 2, iv A1] [(.ref b33), (.int 2)] := fun t kt => by
        refine S107 t ?_
        refine w_ifNo X105 hx hby d6_32 ((if0 _ _).trans (flt hc32').1) ?_
        refine w_iload X105 hx hby d6_35 rfl ?_
        refine w_aloadN X105 hx hby d6_37 rfl rfl ?_
        exact kt
      obtain ⟨cl141, Ar141, -, Sz141, Nn141, -, -⟩ := id V91
      have S142 : own_G p e below s0 T105 m 39 #[rv a, rv fn, rv tx, rv b33, iv 2, iv A1] [(.int 64), (.int 2)] := fun t kt => by
        refine S140 t ?_
        refine X105.arraylength hx (by rw [eq103]; exact Ar141.1) (State.isArrayOf_alike hZ.alike Ar141.2.1) (g := (mkF m 38 #[rv a, rv fn, rv tx, rv b33, iv 2, iv A1] [(.ref b33), (.int 2)])) rfl rfl (hb hby d6_38) _ ?_
        rw [len_of Sz141 Nn141]
        exact kt
      have hc39_143 : ¬ ((2 : Int32) = (64 : Int32)) := by decide
      have S144 : own_G p e below s0 T105 m 61 #[rv a, rv fn, rv tx, rv b33, iv 3, iv A1] [(.int (A1 + (1 : Int32))), (.int 2), (.ref b33)] := fun t kt => by
        refine S142 t ?_
        refine w_icmpYes X105 hx hby (pc' := 51) d6_39 (feq hc39_143).2 (by decide) ?_
        refine w_aloadN X105 hx hby d6_51 rfl rfl ?_
        refine w_iload X105 hx hby d6_52 rfl ?_
        refine w_iinc X105 hx hby d6_54 rfl (l' := #[rv a, rv fn, rv tx, rv b33, iv 3, iv A1]) rfl ?_
        refine w_iload X105 hx hby d6_57 rfl ?_
        refine w_iconst X105 hx hby d6_59 ?_
        refine w_iadd X105 hx hby d6_60 ?_
        exact kt
      obtain ⟨cl145, Ar145, q145, Sz145, Nn145, Hh145, Gg145⟩ := id V91
      have hin145 : ¬ ((2 : Int32) < 0 ∨ cl145.slots.size ≤ ((2 : Int32)).toNatClampNeg) := inb_of Sz145 ⟨by decide, by decide⟩
      obtain ⟨T146, h146, X146, e146, W146, st146⟩ := stI X105 hx hZ eq103 Ar145 (j := (2 : Int32)) hin145 (g := (mkF m 61 #[rv a, rv fn, rv tx, rv b33, iv 3, iv A1] [(.int (A1 + (1 : Int32))), (.int 2), (.ref b33)])) rfl rfl (hb hby d6_61)
      have S147 : own_G p e below s0 T146 m 62 #[rv a, rv fn, rv tx, rv b33, iv 3, iv A1] [] := fun t kt => S144 t (st146 _ kt)
      have V148 := Arv.set Ar145 q145 Sz145 Nn145 Hh145 Gg145 rfl W146 2 rfl (Nat.le_of_ble_eq_true rfl)
      have F149 := F92.wr W146
      have F150 := F93.other W146 (Or.inl ne_a_b33)
      have F151 := F94.other W146 (Or.inl ne_a_b33)
      have F152 := F95.other W146 (Or.inl ne_a_b33)
      have F153 := F96.wr W146
      have F154 := F97.other W146 (Or.inl ne_tx_b33)
      have F155 := F98.other W146 (Or.inl ne_tx_b33)
      have F156 := F99.wr W146
      have F157 := F100.other W146 ne_b_b33
      have N158 := Fr.snoc X146 N101 g_b33
      have K159 : Keep h0 h146 [a] := K102.wr W146 (Or.inr sz_b33)
      have S161 : own_G p e below s0 T146 m 69 #[rv a, rv fn, rv tx, rv b33, iv 3, iv A1] [(.int (A1 + (1 : Int32))), (.int 10), (.ref tx)] := fun t kt => by
        refine S147 t ?_
        refine w_aloadN X146 hx hby d6_62 rfl rfl ?_
        refine w_bipush X146 hx hby d6_63 ?_
        refine w_iload X146 hx hby d6_65 rfl ?_
        refine w_iconst X146 hx hby d6_67 ?_
        refine w_iadd X146 hx hby d6_68 ?_
        exact kt
      obtain ⟨cq162, kq162, q162a, q162b, q162c⟩ := isOf hZ e146 F153
      obtain ⟨_, _, ⟨T162, L162, k162, n162⟩, -, X162, ⟨Lc162, hQ162, l162, y162, z162⟩, st162⟩ := X146.virtualBack hx (y := own_y15) (z := own_y15) hown (mvT hZ (own_w hw 121 rfl)) (mvT hZ (own_w hw 49 rfl)) (notFace_of_selects (args := #[]) (mvT hZ (own_w hw 51 rfl))) (mvT hZ (own_w hw 51 rfl)) (mvT hZ (own_w hw 50 rfl)) (by decide) (backOf (W := 0) (own_rm8 l Z a0 hw [] (tx) ((A1 + (1 : Int32))) (cs) (b) (to) (kb) (bs) (nn) h146 n0 (Nat.le_trans Z0 K159.1) F153 F156 hcs F154 F155 F157 hto hnn (by rw [hA1]; exact (own_A_1 hnn 1).2.1) (by rw [hA1]; exact (own_A_1 hnn 1).2.2)) hZ (own_w hw 52 rfl) (own_w hw 9 rfl) (by decide) (by decide)) q162a q162c (g := (mkF m 69 #[rv a, rv fn, rv tx, rv b33, iv 3, iv A1] [(.int (A1 + (1 : Int32))), (.int 10), (.ref tx)])) rfl (by rw [hml]; rfl) (Steps.refl _) (argsL := [(.int 10), (.int (A1 + (1 : Int32)))]) (rest := []) (lenOf own_pd1 rfl) rfl (by show 2 * 0 + _ ≤ _; exact Nat.le_of_eq rfl) (hb hby d6_69) (fun _ _ => ⟨rfl, e146, (by decide : 1 + 0 ≤ _), (by decide : 64 + 0 ≤ _)⟩)
      dsimp only [Pt.U, Pt.locs, Pt.cells, Pt.slots] at X162 l162 y162 z162 st162 hQ162
      subst l162 y162 z162
      obtain ⟨hvA2, rfl, eq160⟩ := hQ162
      try rw [List.append_nil] at X162
      obtain ⟨A2, hA2⟩ : ∃ z, z = own_A bs nn 2 := ⟨_, rfl⟩
      rw [show own_ixF bs nn (A1 + (1 : Int32)) = A2 from by rw [hA1, hA2]; exact own_A_s bs nn 1] at hvA2
      subst hvA2
      have S163 : own_G p e below s0 T162 m 72 #[rv a, rv fn, rv tx, rv b33, iv 3, iv A1] [(.int A2)] := fun t kt => S161 t (st162.trans kt)
      have S164 : own_G p e below s0 T162 m 32 #[rv a, rv fn, rv tx, rv b33, iv 3, iv A2] [(.int A2)] := fun t kt => by
        refine S163 t ?_
        refine w_istore X162 hx hby d6_72 (l' := #[rv a, rv fn, rv tx, rv b33, iv 3, iv A2]) rfl ?_
        refine w_goto X162 hx hby (pc' := 30) d6_74 (by decide) ?_
        refine w_iload X162 hx hby d6_30 rfl ?_
        exact kt
      by_cases hc32'' : A2 < (0 : Int32)
      · skip
        have S167 : own_G p e below s0 T162 m 81 #[rv a, rv fn, rv tx, rv b33, iv 3, iv A2] [(.int 3), (.ref b33), (.ref a)] := fun t kt => by
          refine S164 t ?_
          refine w_ifYes X162 hx hby (pc' := 77) d6_32 ((if0 _ _).trans (tlt hc32'').1) (by decide) ?_
          refine w_aloadN X162 hx hby d6_77 rfl rfl ?_
          refine w_aloadN X162 hx hby d6_78 rfl rfl ?_
          refine w_iload X162 hx hby d6_79 rfl ?_
          exact kt
        obtain ⟨_, _, ⟨T168, L168, k168, n168⟩, -, X168, ⟨Lc168, hQ168, l168, y168, z168⟩, st168⟩ := Jvm.LawKit.callS X162 hx (y := own_y14) hown (mvT hZ (own_w hw 83 rfl)) (mvT hZ (own_w hw 84 rfl)) (mvT hZ (own_w hw 85 rfl)) (mvT hZ (own_w hw 86 rfl)) (by decide) (backOf (W := 1) (own_rm16m3 l Z a0 hw [] (b33) ((0 : Int32)) ((A0 + (1 : Int32))) ((A1 + (1 : Int32))) (k33) h146 n0 (Nat.le_trans Z0 K159.1) V148) hZ (own_w hw 86 rfl) (own_w hw 85 rfl) (by decide) (by decide)) (g := (mkF m 81 #[rv a, rv fn, rv tx, rv b33, iv 3, iv A2] [(.int 3), (.ref b33), (.ref a)])) rfl (by rw [hml]; rfl) (argsL := [(.ref b33), (.int 3)]) (rest := [(.ref a)]) (lenOf own_pd7 rfl) rfl (by show 2 * 0 + _ ≤ _; exact Nat.le_of_eq rfl) (hb hby d6_81) (fun _ _ => ⟨rfl, eq160, (by decide : 1 + 1 ≤ _), (by decide : 64 + 3 ≤ _)⟩)
        dsimp only [Pt.U, Pt.locs, Pt.cells, Pt.slots] at X168 l168 y168 z168 st168 hQ168
        subst l168 y168 z168
        obtain ⟨lb165, kl165, rfl, Nq168, gt165, sz165, Kc165, Vc165⟩ := hQ168
        have N169 := Fr.app N158 Nq168
        have S170 : own_G p e below s0 T168 m 84 #[rv a, rv fn, rv tx, rv b33, iv 3, iv A2] [(.ref lb165), (.ref a)] := fun t kt => S167 t (st168 _ kt)
        have F171 := F149.keep Kc165
        have F172 := F150.keep Kc165 nin0
        have F173 := F151.keep Kc165 nin0
        have F174 := F152.keep Kc165 nin0
        have F175 := F153.keep Kc165
        have F176 := F154.keep Kc165 nin0
        have F177 := F155.keep Kc165 nin0
        have F178 := own_StaK F156 Kc165 all0
        have F179 := F157.keep Kc165 nin0
        have F180 := V148.keep Kc165 nin0
        have K181 : Keep h0 T168.heap [a] := K159.trans Kc165 all0
        have ne_a_lb165 : a ≠ lb165 := Nat.ne_of_lt (Nat.lt_of_lt_of_le F149.lt sz165)
        have ne_tx_lb165 : tx ≠ lb165 := Nat.ne_of_lt (Nat.lt_of_lt_of_le F153.lt sz165)
        have ne_b_lb165 : b ≠ lb165 := Nat.ne_of_lt (Nat.lt_of_lt_of_le F157.lt sz165)
        have ne_b33_lb165 : b33 ≠ lb165 := Nat.ne_of_lt (Nat.lt_of_lt_of_le V148.lt sz165)
        obtain ⟨T182, h182, X182, e182, W182, st182⟩ := putF X168 hx hZ hown (host := "") (Or.inl (own_w hw 92 rfl)) Via.refl rfl F174 F171 (Or.inr ⟨(own_w hw 93 rfl), rfl, hnm⟩) (own_w hw 6 rfl) (ty := (.array .int)) (by decide) rfl rfl (g := (mkF m 84 #[rv a, rv fn, rv tx, rv b33, iv 3, iv A2] [(.ref lb165), (.ref a)])) rfl rfl (hb hby d6_84)
        have S183 : own_G p e below s0 T182 m 87 #[rv a, rv fn, rv tx, rv b33, iv 3, iv A2] [] := fun t kt => S170 t (st182 _ kt)
        have F184 := F171.wr W182
        have F185 := F172.other W182 (Or.inr (slot_ne (Or.inr (own_w hw 39 rfl)) (Or.inr (own_w hw 93 rfl)) (by decide) (t := (.object "java/lang/String")) (t' := (.array .int)) (by decide) (by decide)))
        have F186 := F173.other W182 (Or.inr (slot_ne (Or.inr (own_w hw 41 rfl)) (Or.inr (own_w hw 93 rfl)) (by decide) (t := (.object "java/lang/String")) (t' := (.array .int)) (by decide) (by decide)))
        have F187 := F174.same W182
        have F188 := F175.wr W182
        have F189 := F176.other W182 (Or.inl (Exa.ne F175 F171 (by decide)))
        have F190 := F177.other W182 (Or.inl (Exa.ne F175 F171 (by decide)))
        have F191 := F178.wr W182
        have F192 := F179.other W182 (Ne.symm (Exa.neArv F171 F179 (own_w hw 6 rfl)))
        have F193 := F180.other W182 (Ne.symm ne_a_b33)
        have F194 := Vc165.other W182 (Ne.symm ne_a_lb165)
        have N195 := Fr.snoc X182 N169 g_a
        have K196 : Keep h0 h182 [a] := K181.wr W182 (Or.inl (List.mem_of_getElem? (i := 0) rfl))
        obtain ⟨fs, hr, hrun, hended, hW, hsame⟩ := X182.leave (v := none) (fun _ => rfl)
        refine ⟨_, _, S183 _ ?_, hrun, hended, _, _, rfl, ?_, ⟨_, rfl⟩, hW, hsame.mono (by decide) (by decide)⟩
        · show Steps p.tables e below (T182.setTop (mkF m 87 #[rv a, rv fn, rv tx, rv b33, iv 3, iv A2] [])) _
          exact X182.returnOut hx Bd.returns (hb hby d6_87) hr
        · show own_Q6 Z a fn tx cs b to kb bs nn u0 u1 u2 h0 n0 _ T182.heap _
          rw [e182]
          exact ⟨rfl, N195, K196, F184, lb165, kl165, [(0 : Int32), A0 + (1 : Int32), A1 + (1 : Int32)], F187, F194, Or.inr (Or.inr (Or.inl ⟨(hA0 ▸ hc32), (hA1 ▸ hc32'), (hA2 ▸ hc32''), (by rw [hA0, hA1])⟩))⟩
      · skip
        have S197 : own_G p e below s0 T162 m 38 #[rv a, rv fn, rv tx, rv b33, iv 3, iv A2] [(.ref b33), (.int 3)] := fun t kt => by
          refine S164 t ?_
          refine w_ifNo X162 hx hby d6_32 ((if0 _ _).trans (flt hc32'').1) ?_
          refine w_iload X162 hx hby d6_35 rfl ?_
          refine w_aloadN X162 hx hby d6_37 rfl rfl ?_
          exact kt
        obtain ⟨cl198, Ar198, -, Sz198, Nn198, -, -⟩ := id V148
        have S199 : own_G p e below s0 T162 m 39 #[rv a, rv fn, rv tx, rv b33, iv 3, iv A2] [(.int 64), (.int 3)] := fun t kt => by
          refine S197 t ?_
          refine X162.arraylength hx (by rw [eq160]; exact Ar198.1) (State.isArrayOf_alike hZ.alike Ar198.2.1) (g := (mkF m 38 #[rv a, rv fn, rv tx, rv b33, iv 3, iv A2] [(.ref b33), (.int 3)])) rfl rfl (hb hby d6_38) _ ?_
          rw [len_of Sz198 Nn198]
          exact kt
        have hc39_200 : ¬ ((3 : Int32) = (64 : Int32)) := by decide
        have S201 : own_G p e below s0 T162 m 61 #[rv a, rv fn, rv tx, rv b33, iv 4, iv A2] [(.int (A2 + (1 : Int32))), (.int 3), (.ref b33)] := fun t kt => by
          refine S199 t ?_
          refine w_icmpYes X162 hx hby (pc' := 51) d6_39 (feq hc39_200).2 (by decide) ?_
          refine w_aloadN X162 hx hby d6_51 rfl rfl ?_
          refine w_iload X162 hx hby d6_52 rfl ?_
          refine w_iinc X162 hx hby d6_54 rfl (l' := #[rv a, rv fn, rv tx, rv b33, iv 4, iv A2]) rfl ?_
          refine w_iload X162 hx hby d6_57 rfl ?_
          refine w_iconst X162 hx hby d6_59 ?_
          refine w_iadd X162 hx hby d6_60 ?_
          exact kt
        obtain ⟨cl202, Ar202, q202, Sz202, Nn202, Hh202, Gg202⟩ := id V148
        have hin202 : ¬ ((3 : Int32) < 0 ∨ cl202.slots.size ≤ ((3 : Int32)).toNatClampNeg) := inb_of Sz202 ⟨by decide, by decide⟩
        obtain ⟨T203, h203, X203, e203, W203, st203⟩ := stI X162 hx hZ eq160 Ar202 (j := (3 : Int32)) hin202 (g := (mkF m 61 #[rv a, rv fn, rv tx, rv b33, iv 4, iv A2] [(.int (A2 + (1 : Int32))), (.int 3), (.ref b33)])) rfl rfl (hb hby d6_61)
        have S204 : own_G p e below s0 T203 m 62 #[rv a, rv fn, rv tx, rv b33, iv 4, iv A2] [] := fun t kt => S201 t (st203 _ kt)
        have V205 := Arv.set Ar202 q202 Sz202 Nn202 Hh202 Gg202 rfl W203 3 rfl (Nat.le_of_ble_eq_true rfl)
        have F206 := F149.wr W203
        have F207 := F150.other W203 (Or.inl ne_a_b33)
        have F208 := F151.other W203 (Or.inl ne_a_b33)
        have F209 := F152.other W203 (Or.inl ne_a_b33)
        have F210 := F153.wr W203
        have F211 := F154.other W203 (Or.inl ne_tx_b33)
        have F212 := F155.other W203 (Or.inl ne_tx_b33)
        have F213 := F156.wr W203
        have F214 := F157.other W203 ne_b_b33
        have N215 := Fr.snoc X203 N158 g_b33
        have K216 : Keep h0 h203 [a] := K159.wr W203 (Or.inr sz_b33)
        have S218 : own_G p e below s0 T203 m 69 #[rv a, rv fn, rv tx, rv b33, iv 4, iv A2] [(.int (A2 + (1 : Int32))), (.int 10), (.ref tx)] := fun t kt => by
          refine S204 t ?_
          refine w_aloadN X203 hx hby d6_62 rfl rfl ?_
          refine w_bipush X203 hx hby d6_63 ?_
          refine w_iload X203 hx hby d6_65 rfl ?_
          refine w_iconst X203 hx hby d6_67 ?_
          refine w_iadd X203 hx hby d6_68 ?_
          exact kt
        obtain ⟨cq219, kq219, q219a, q219b, q219c⟩ := isOf hZ e203 F210
        obtain ⟨_, _, ⟨T219, L219, k219, n219⟩, -, X219, ⟨Lc219, hQ219, l219, y219, z219⟩, st219⟩ := X203.virtualBack hx (y := own_y15) (z := own_y15) hown (mvT hZ (own_w hw 121 rfl)) (mvT hZ (own_w hw 49 rfl)) (notFace_of_selects (args := #[]) (mvT hZ (own_w hw 51 rfl))) (mvT hZ (own_w hw 51 rfl)) (mvT hZ (own_w hw 50 rfl)) (by decide) (backOf (W := 0) (own_rm8 l Z a0 hw [] (tx) ((A2 + (1 : Int32))) (cs) (b) (to) (kb) (bs) (nn) h203 n0 (Nat.le_trans Z0 K216.1) F210 F213 hcs F211 F212 F214 hto hnn (by rw [hA2]; exact (own_A_1 hnn 2).2.1) (by rw [hA2]; exact (own_A_1 hnn 2).2.2)) hZ (own_w hw 52 rfl) (own_w hw 9 rfl) (by decide) (by decide)) q219a q219c (g := (mkF m 69 #[rv a, rv fn, rv tx, rv b33, iv 4, iv A2] [(.int (A2 + (1 : Int32))), (.int 10), (.ref tx)])) rfl (by rw [hml]; rfl) (Steps.refl _) (argsL := [(.int 10), (.int (A2 + (1 : Int32)))]) (rest := []) (lenOf own_pd1 rfl) rfl (by show 2 * 0 + _ ≤ _; exact Nat.le_of_eq rfl) (hb hby d6_69) (fun _ _ => ⟨rfl, e203, (by decide : 1 + 0 ≤ _), (by decide : 64 + 0 ≤ _)⟩)
        dsimp only [Pt.U, Pt.locs, Pt.cells, Pt.slots] at X219 l219 y219 z219 st219 hQ219
        subst l219 y219 z219
        obtain ⟨hvA3, rfl, eq217⟩ := hQ219
        try rw [List.append_nil] at X219
        obtain ⟨A3, hA3⟩ : ∃ z, z = own_A bs nn 3 := ⟨_, rfl⟩
        rw [show own_ixF bs nn (A2 + (1 : Int32)) = A3 from by rw [hA2, hA3]; exact own_A_s bs nn 2] at hvA3
        subst hvA3
        have S220 : own_G p e below s0 T219 m 72 #[rv a, rv fn, rv tx, rv b33, iv 4, iv A2] [(.int A3)] := fun t kt => S218 t (st219.trans kt)
        have S221 : own_G p e below s0 T219 m 32 #[rv a, rv fn, rv tx, rv b33, iv 4, iv A3] [(.int A3)] := fun t kt => by
          refine S220 t ?_
          refine w_istore X219 hx hby d6_72 (l' := #[rv a, rv fn, rv tx, rv b33, iv 4, iv A3]) rfl ?_
          refine w_goto X219 hx hby (pc' := 30) d6_74 (by decide) ?_
          refine w_iload X219 hx hby d6_30 rfl ?_
          exact kt
        by_cases hc32''' : A3 < (0 : Int32)
        · skip
          have S224 : own_G p e below s0 T219 m 81 #[rv a, rv fn, rv tx, rv b33, iv 4, iv A3] [(.int 4), (.ref b33), (.ref a)] := fun t kt => by
            refine S221 t ?_
            refine w_ifYes X219 hx hby (pc' := 77) d6_32 ((if0 _ _).trans (tlt hc32''').1) (by decide) ?_
            refine w_aloadN X219 hx hby d6_77 rfl rfl ?_
            refine w_aloadN X219 hx hby d6_78 rfl rfl ?_
            refine w_iload X219 hx hby d6_79 rfl ?_
            exact kt
          obtain ⟨_, _, ⟨T225, L225, k225, n225⟩, -, X225, ⟨Lc225, hQ225, l225, y225, z225⟩, st225⟩ := Jvm.LawKit.callS X219 hx (y := own_y14) hown (mvT hZ (own_w hw 83 rfl)) (mvT hZ (own_w hw 84 rfl)) (mvT hZ (own_w hw 85 rfl)) (mvT hZ (own_w hw 86 rfl)) (by decide) (backOf (W := 1) (own_rm16m4 l Z a0 hw [] (b33) ((0 : Int32)) ((A0 + (1 : Int32))) ((A1 + (1 : Int32))) ((A2 + (1 : Int32))) (k33) h203 n0 (Nat.le_trans Z0 K216.1) V205) hZ (own_w hw 86 rfl) (own_w hw 85 rfl) (by decide) (by decide)) (g := (mkF m 81 #[rv a, rv fn, rv tx, rv b33, iv 4, iv A3] [(.int 4), (.ref b33), (.ref a)])) rfl (by rw [hml]; rfl) (argsL := [(.ref b33), (.int 4)]) (rest := [(.ref a)]) (lenOf own_pd7 rfl) rfl (by show 2 * 0 + _ ≤ _; exact Nat.le_of_eq rfl) (hb hby d6_81) (fun _ _ => ⟨rfl, eq217, (by decide : 1 + 1 ≤ _), (by decide : 64 + 4 ≤ _)⟩)
          dsimp only [Pt.U, Pt.locs, Pt.cells, Pt.slots] at X225 l225 y225 z225 st225 hQ225
          subst l225 y225 z225
          obtain ⟨lb222, kl222, rfl, Nq225, gt222, sz222, Kc222, Vc222⟩ := hQ225
          have N226 := Fr.app N215 Nq225
          have S227 : own_G p e below s0 T225 m 84 #[rv a, rv fn, rv tx, rv b33, iv 4, iv A3] [(.ref lb222), (.ref a)] := fun t kt => S224 t (st225 _ kt)
          have F228 := F206.keep Kc222
          have F229 := F207.keep Kc222 nin0
          have F230 := F208.keep Kc222 nin0
          have F231 := F209.keep Kc222 nin0
          have F232 := F210.keep Kc222
          have F233 := F211.keep Kc222 nin0
          have F234 := F212.keep Kc222 nin0
          have F235 := own_StaK F213 Kc222 all0
          have F236 := F214.keep Kc222 nin0
          have F237 := V205.keep Kc222 nin0
          have K238 : Keep h0 T225.heap [a] := K216.trans Kc222 all0
          have ne_a_lb222 : a ≠ lb222 := Nat.ne_of_lt (Nat.lt_of_lt_of_le F206.lt sz222)
          have ne_tx_lb222 : tx ≠ lb222 := Nat.ne_of_lt (Nat.lt_of_lt_of_le F210.lt sz222)
          have ne_b_lb222 : b ≠ lb222 := Nat.ne_of_lt (Nat.lt_of_lt_of_le F214.lt sz222)
          have ne_b33_lb222 : b33 ≠ lb222 := Nat.ne_of_lt (Nat.lt_of_lt_of_le V205.lt sz222)
          obtain ⟨T239, h239, X239, e239, W239, st239⟩ := putF X225 hx hZ hown (host := "") (Or.inl (own_w hw 92 rfl)) Via.refl rfl F231 F228 (Or.inr ⟨(own_w hw 93 rfl), rfl, hnm⟩) (own_w hw 6 rfl) (ty := (.array .int)) (by decide) rfl rfl (g := (mkF m 84 #[rv a, rv fn, rv tx, rv b33, iv 4, iv A3] [(.ref lb222), (.ref a)])) rfl rfl (hb hby d6_84)
          have S240 : own_G p e below s0 T239 m 87 #[rv a, rv fn, rv tx, rv b33, iv 4, iv A3] [] := fun t kt => S227 t (st239 _ kt)
          have F241 := F228.wr W239
          have F242 := F229.other W239 (Or.inr (slot_ne (Or.inr (own_w hw 39 rfl)) (Or.inr (own_w hw 93 rfl)) (by decide) (t := (.object "java/lang/String")) (t' := (.array .int)) (by decide) (by decide)))
          have F243 := F230.other W239 (Or.inr (slot_ne (Or.inr (own_w hw 41 rfl)) (Or.inr (own_w hw 93 rfl)) (by decide) (t := (.object "java/lang/String")) (t' := (.array .int)) (by decide) (by decide)))
          have F244 := F231.same W239
          have F245 := F232.wr W239
          have F246 := F233.other W239 (Or.inl (Exa.ne F232 F228 (by decide)))
          have F247 := F234.other W239 (Or.inl (Exa.ne F232 F228 (by decide)))
          have F248 := F235.wr W239
          have F249 := F236.other W239 (Ne.symm (Exa.neArv F228 F236 (own_w hw 6 rfl)))
          have F250 := F237.other W239 (Ne.symm ne_a_b33)
          have F251 := Vc222.other W239 (Ne.symm ne_a_lb222)
          have N252 := Fr.snoc X239 N226 g_a
          have K253 : Keep h0 h239 [a] := K238.wr W239 (Or.inl (List.mem_of_getElem? (i := 0) rfl))
          obtain ⟨fs, hr, hrun, hended, hW, hsame⟩ := X239.leave (v := none) (fun _ => rfl)
          refine ⟨_, _, S240 _ ?_, hrun, hended, _, _, rfl, ?_, ⟨_, rfl⟩, hW, hsame.mono (by decide) (by decide)⟩
          · show Steps p.tables e below (T239.setTop (mkF m 87 #[rv a, rv fn, rv tx, rv b33, iv 4, iv A3] [])) _
            exact X239.returnOut hx Bd.returns (hb hby d6_87) hr
          · show own_Q6 Z a fn tx cs b to kb bs nn u0 u1 u2 h0 n0 _ T239.heap _
            rw [e239]
            exact ⟨rfl, N252, K253, F241, lb222, kl222, [(0 : Int32), A0 + (1 : Int32), A1 + (1 : Int32), A2 + (1 : Int32)], F244, F251, Or.inr (Or.inr (Or.inr (Or.inl ⟨(hA0 ▸ hc32), (hA1 ▸ hc32'), (hA2 ▸ hc32''), (hA3 ▸ hc32'''), (by rw [hA0, hA1, hA2])⟩)))⟩
        · skip
          have S254 : own_G p e below s0 T219 m 38 #[rv a, rv fn, rv tx, rv b33, iv 4, iv A3] [(.ref b33), (.int 4)] := fun t kt => by
            refine S221 t ?_
            refine w_ifNo X219 hx hby d6_32 ((if0 _ _).trans (flt hc32''').1) ?_
            refine w_iload X219 hx hby d6_35 rfl ?_
            refine w_aloadN X219 hx hby d6_37 rfl rfl ?_
            exact kt
          obtain ⟨cl255, Ar255, -, Sz255, Nn255, -, -⟩ := id V205
          have S256 : own_G p e below s0 T219 m 39 #[rv a, rv fn, rv tx, rv b33, iv 4, iv A3] [(.int 64), (.int 4)] := fun t kt => by
            refine S254 t ?_
            refine X219.arraylength hx (by rw [eq217]; exact Ar255.1) (State.isArrayOf_alike hZ.alike Ar255.2.1) (g := (mkF m 38 #[rv a, rv fn, rv tx, rv b33, iv 4, iv A3] [(.ref b33), (.int 4)])) rfl rfl (hb hby d6_38) _ ?_
            rw [len_of Sz255 Nn255]
            exact kt
          have hc39_257 : ¬ ((4 : Int32) = (64 : Int32)) := by decide
          have S258 : own_G p e below s0 T219 m 61 #[rv a, rv fn, rv tx, rv b33, iv 5, iv A3] [(.int (A3 + (1 : Int32))), (.int 4), (.ref b33)] := fun t kt => by
            refine S256 t ?_
            refine w_icmpYes X219 hx hby (pc' := 51) d6_39 (feq hc39_257).2 (by decide) ?_
            refine w_aloadN X219 hx hby d6_51 rfl rfl ?_
            refine w_iload X219 hx hby d6_52 rfl ?_
            refine w_iinc X219 hx hby d6_54 rfl (l' := #[rv a, rv fn, rv tx, rv b33, iv 5, iv A3]) rfl ?_
            refine w_iload X219 hx hby d6_57 rfl ?_
            refine w_iconst X219 hx hby d6_59 ?_
            refine w_iadd X219 hx hby d6_60 ?_
            exact kt
          obtain ⟨cl259, Ar259, q259, Sz259, Nn259, Hh259, Gg259⟩ := id V205
          have hin259 : ¬ ((4 : Int32) < 0 ∨ cl259.slots.size ≤ ((4 : Int32)).toNatClampNeg) := inb_of Sz259 ⟨by decide, by decide⟩
          obtain ⟨T260, h260, X260, e260, W260, st260⟩ := stI X219 hx hZ eq217 Ar259 (j := (4 : Int32)) hin259 (g := (mkF m 61 #[rv a, rv fn, rv tx, rv b33, iv 5, iv A3] [(.int (A3 + (1 : Int32))), (.int 4), (.ref b33)])) rfl rfl (hb hby d6_61)
          have S261 : own_G p e below s0 T260 m 62 #[rv a, rv fn, rv tx, rv b33, iv 5, iv A3] [] := fun t kt => S258 t (st260 _ kt)
          have V262 := Arv.set Ar259 q259 Sz259 Nn259 Hh259 Gg259 rfl W260 4 rfl (Nat.le_of_ble_eq_true rfl)
          have F263 := F206.wr W260
          have F264 := F207.other W260 (Or.inl ne_a_b33)
          have F265 := F208.other W260 (Or.inl ne_a_b33)
          have F266 := F209.other W260 (Or.inl ne_a_b33)
          have F267 := F210.wr W260
          have F268 := F211.other W260 (Or.inl ne_tx_b33)
          have F269 := F212.other W260 (Or.inl ne_tx_b33)
          have F270 := F213.wr W260
          have F271 := F214.other W260 ne_b_b33
          have N272 := Fr.snoc X260 N215 g_b33
          have K273 : Keep h0 h260 [a] := K216.wr W260 (Or.inr sz_b33)
          have S275 : own_G p e below s0 T260 m 69 #[rv a, rv fn, rv tx, rv b33, iv 5, iv A3] [(.int (A3 + (1 : Int32))), (.int 10), (.ref tx)] := fun t kt => by
            refine S261 t ?_
            refine w_aloadN X260 hx hby d6_62 rfl rfl ?_
            refine w_bipush X260 hx hby d6_63 ?_
            refine w_iload X260 hx hby d6_65 rfl ?_
            refine w_iconst X260 hx hby d6_67 ?_
            refine w_iadd X260 hx hby d6_68 ?_
            exact kt
          obtain ⟨cq276, kq276, q276a, q276b, q276c⟩ := isOf hZ e260 F267
          obtain ⟨_, _, ⟨T276, L276, k276, n276⟩, -, X276, ⟨Lc276, hQ276, l276, y276, z276⟩, st276⟩ := X260.virtualBack hx (y := own_y15) (z := own_y15) hown (mvT hZ (own_w hw 121 rfl)) (mvT hZ (own_w hw 49 rfl)) (notFace_of_selects (args := #[]) (mvT hZ (own_w hw 51 rfl))) (mvT hZ (own_w hw 51 rfl)) (mvT hZ (own_w hw 50 rfl)) (by decide) (backOf (W := 0) (own_rm8 l Z a0 hw [] (tx) ((A3 + (1 : Int32))) (cs) (b) (to) (kb) (bs) (nn) h260 n0 (Nat.le_trans Z0 K273.1) F267 F270 hcs F268 F269 F271 hto hnn (by rw [hA3]; exact (own_A_1 hnn 3).2.1) (by rw [hA3]; exact (own_A_1 hnn 3).2.2)) hZ (own_w hw 52 rfl) (own_w hw 9 rfl) (by decide) (by decide)) q276a q276c (g := (mkF m 69 #[rv a, rv fn, rv tx, rv b33, iv 5, iv A3] [(.int (A3 + (1 : Int32))), (.int 10), (.ref tx)])) rfl (by rw [hml]; rfl) (Steps.refl _) (argsL := [(.int 10), (.int (A3 + (1 : Int32)))]) (rest := []) (lenOf own_pd1 rfl) rfl (by show 2 * 0 + _ ≤ _; exact Nat.le_of_eq rfl) (hb hby d6_69) (fun _ _ => ⟨rfl, e260, (by decide : 1 + 0 ≤ _), (by decide : 64 + 0 ≤ _)⟩)
          dsimp only [Pt.U, Pt.locs, Pt.cells, Pt.slots] at X276 l276 y276 z276 st276 hQ276
          subst l276 y276 z276
          obtain ⟨hvA4, rfl, eq274⟩ := hQ276
          try rw [List.append_nil] at X276
          obtain ⟨A4, hA4⟩ : ∃ z, z = own_A bs nn 4 := ⟨_, rfl⟩
          rw [show own_ixF bs nn (A3 + (1 : Int32)) = A4 from by rw [hA3, hA4]; exact own_A_s bs nn 3] at hvA4
          subst hvA4
          have S277 : own_G p e below s0 T276 m 72 #[rv a, rv fn, rv tx, rv b33, iv 5, iv A3] [(.int A4)] := fun t kt => S275 t (st276.trans kt)
          have S278 : own_G p e below s0 T276 m 32 #[rv a, rv fn, rv tx, rv b33, iv 5, iv A4] [(.int A4)] := fun t kt => by
            refine S277 t ?_
            refine w_istore X276 hx hby d6_72 (l' := #[rv a, rv fn, rv tx, rv b33, iv 5, iv A4]) rfl ?_
            refine w_goto X276 hx hby (pc' := 30) d6_74 (by decide) ?_
            refine w_iload X276 hx hby d6_30 rfl ?_
            exact kt
          by_cases hc32'''' : A4 < (0 : Int32)
          · skip
            have S281 : own_G p e below s0 T276 m 81 #[rv a, rv fn, rv tx, rv b33, iv 5, iv A4] [(.int 5), (.ref b33), (.ref a)] := fun t kt => by
              refine S278 t ?_
              refine w_ifYes X276 hx hby (pc' := 77) d6_32 ((if0 _ _).trans (tlt hc32'''').1) (by decide) ?_
              refine w_aloadN X276 hx hby d6_77 rfl rfl ?_
              refine w_aloadN X276 hx hby d6_78 rfl rfl ?_
              refine w_iload X276 hx hby d6_79 rfl ?_
              exact kt
            obtain ⟨_, _, ⟨T282, L282, k282, n282⟩, -, X282, ⟨Lc282, hQ282, l282, y282, z282⟩, st282⟩ := Jvm.LawKit.callS X276 hx (y := own_y14) hown (mvT hZ (own_w hw 83 rfl)) (mvT hZ (own_w hw 84 rfl)) (mvT hZ (own_w hw 85 rfl)) (mvT hZ (own_w hw 86 rfl)) (by decide) (backOf (W := 1) (own_rm16m5 l Z a0 hw [] (b33) ((0 : Int32)) ((A0 + (1 : Int32))) ((A1 + (1 : Int32))) ((A2 + (1 : Int32))) ((A3 + (1 : Int32))) (k33) h260 n0 (Nat.le_trans Z0 K273.1) V262) hZ (own_w hw 86 rfl) (own_w hw 85 rfl) (by decide) (by decide)) (g := (mkF m 81 #[rv a, rv fn, rv tx, rv b33, iv 5, iv A4] [(.int 5), (.ref b33), (.ref a)])) rfl (by rw [hml]; rfl) (argsL := [(.ref b33), (.int 5)]) (rest := [(.ref a)]) (lenOf own_pd7 rfl) rfl (by show 2 * 0 + _ ≤ _; exact Nat.le_of_eq rfl) (hb hby d6_81) (fun _ _ => ⟨rfl, eq274, (by decide : 1 + 1 ≤ _), (by decide : 64 + 5 ≤ _)⟩)
            dsimp only [Pt.U, Pt.locs, Pt.cells, Pt.slots] at X282 l282 y282 z282 st282 hQ282
            subst l282 y282 z282
            obtain ⟨lb279, kl279, rfl, Nq282, gt279, sz279, Kc279, Vc279⟩ := hQ282
            have N283 := Fr.app N272 Nq282
            have S284 : own_G p e below s0 T282 m 84 #[rv a, rv fn, rv tx, rv b33, iv 5, iv A4] [(.ref lb279), (.ref a)] := fun t kt => S281 t (st282 _ kt)
            have F285 := F263.keep Kc279
            have F286 := F264.keep Kc279 nin0
            have F287 := F265.keep Kc279 nin0
            have F288 := F266.keep Kc279 nin0
            have F289 := F267.keep Kc279
            have F290 := F268.keep Kc279 nin0
            have F291 := F269.keep Kc279 nin0
            have F292 := own_StaK F270 Kc279 all0
            have F293 := F271.keep Kc279 nin0
            have F294 := V262.keep Kc279 nin0
            have K295 : Keep h0 T282.heap [a] := K273.trans Kc279 all0
            have ne_a_lb279 : a ≠ lb279 := Nat.ne_of_lt (Nat.lt_of_lt_of_le F263.lt sz279)
            have ne_tx_lb279 : tx ≠ lb279 := Nat.ne_of_lt (Nat.lt_of_lt_of_le F267.lt sz279)
            have ne_b_lb279 : b ≠ lb279 := Nat.ne_of_lt (Nat.lt_of_lt_of_le F271.lt sz279)
            have ne_b33_lb279 : b33 ≠ lb279 := Nat.ne_of_lt (Nat.lt_of_lt_of_le V262.lt sz279)
            obtain ⟨T296, h296, X296, e296, W296, st296⟩ := putF X282 hx hZ hown (host := "") (Or.inl (own_w hw 92 rfl)) Via.refl rfl F288 F285 (Or.inr ⟨(own_w hw 93 rfl), rfl, hnm⟩) (own_w hw 6 rfl) (ty := (.array .int)) (by decide) rfl rfl (g := (mkF m 84 #[rv a, rv fn, rv tx, rv b33, iv 5, iv A4] [(.ref lb279), (.ref a)])) rfl rfl (hb hby d6_84)
            have S297 : own_G p e below s0 T296 m 87 #[rv a, rv fn, rv tx, rv b33, iv 5, iv A4] [] := fun t kt => S284 t (st296 _ kt)
            have F298 := F285.wr W296
            have F299 := F286.other W296 (Or.inr (slot_ne (Or.inr (own_w hw 39 rfl)) (Or.inr (own_w hw 93 rfl)) (by decide) (t := (.object "java/lang/String")) (t' := (.array .int)) (by decide) (by decide)))
            have F300 := F287.other W296 (Or.inr (slot_ne (Or.inr (own_w hw 41 rfl)) (Or.inr (own_w hw 93 rfl)) (by decide) (t := (.object "java/lang/String")) (t' := (.array .int)) (by decide) (by decide)))
            have F301 := F288.same W296
            have F302 := F289.wr W296
            have F303 := F290.other W296 (Or.inl (Exa.ne F289 F285 (by decide)))
            have F304 := F291.other W296 (Or.inl (Exa.ne F289 F285 (by decide)))
            have F305 := F292.wr W296
            have F306 := F293.other W296 (Ne.symm (Exa.neArv F285 F293 (own_w hw 6 rfl)))
            have F307 := F294.other W296 (Ne.symm ne_a_b33)
            have F308 := Vc279.other W296 (Ne.symm ne_a_lb279)
            have N309 := Fr.snoc X296 N283 g_a
            have K310 : Keep h0 h296 [a] := K295.wr W296 (Or.inl (List.mem_of_getElem? (i := 0) rfl))
            obtain ⟨fs, hr, hrun, hended, hW, hsame⟩ := X296.leave (v := none) (fun _ => rfl)
            refine ⟨_, _, S297 _ ?_, hrun, hended, _, _, rfl, ?_, ⟨_, rfl⟩, hW, hsame.mono (by decide) (by decide)⟩
            · show Steps p.tables e below (T296.setTop (mkF m 87 #[rv a, rv fn, rv tx, rv b33, iv 5, iv A4] [])) _
              exact X296.returnOut hx Bd.returns (hb hby d6_87) hr
            · show own_Q6 Z a fn tx cs b to kb bs nn u0 u1 u2 h0 n0 _ T296.heap _
              rw [e296]
              exact ⟨rfl, N309, K310, F298, lb279, kl279, [(0 : Int32), A0 + (1 : Int32), A1 + (1 : Int32), A2 + (1 : Int32), A3 + (1 : Int32)], F301, F308, Or.inr (Or.inr (Or.inr (Or.inr (Or.inl ⟨(hA0 ▸ hc32), (hA1 ▸ hc32'), (hA2 ▸ hc32''), (hA3 ▸ hc32'''), (hA4 ▸ hc32''''), (by rw [hA0, hA1, hA2, hA3])⟩))))⟩
          · skip
            have S311 : own_G p e below s0 T276 m 38 #[rv a, rv fn, rv tx, rv b33, iv 5, iv A4] [(.ref b33), (.int 5)] := fun t kt => by
              refine S278 t ?_
              refine w_ifNo X276 hx hby d6_32 ((if0 _ _).trans (flt hc32'''').1) ?_
              refine w_iload X276 hx hby d6_35 rfl ?_
              refine w_aloadN X276 hx hby d6_37 rfl rfl ?_
              exact kt
            obtain ⟨cl312, Ar312, -, Sz312, Nn312, -, -⟩ := id V262
            have S313 : own_G p e below s0 T276 m 39 #[rv a, rv fn, rv tx, rv b33, iv 5, iv A4] [(.int 64), (.int 5)] := fun t kt => by
              refine S311 t ?_
              refine X276.arraylength hx (by rw [eq274]; exact Ar312.1) (State.isArrayOf_alike hZ.alike Ar312.2.1) (g := (mkF m 38 #[rv a, rv fn, rv tx, rv b33, iv 5, iv A4] [(.ref b33), (.int 5)])) rfl rfl (hb hby d6_38) _ ?_
              rw [len_of Sz312 Nn312]
              exact kt
            have hc39_314 : ¬ ((5 : Int32) = (64 : Int32)) := by decide
            have S315 : own_G p e below s0 T276 m 61 #[rv a, rv fn, rv tx, rv b33, iv 6, iv A4] [(.int (A4 + (1 : Int32))), (.int 5), (.ref b33)] := fun t kt => by
              refine S313 t ?_
              refine w_icmpYes X276 hx hby (pc' := 51) d6_39 (feq hc39_314).2 (by decide) ?_
              refine w_aloadN X276 hx hby d6_51 rfl rfl ?_
              refine w_iload X276 hx hby d6_52 rfl ?_
              refine w_iinc X276 hx hby d6_54 rfl (l' := #[rv a, rv fn, rv tx, rv b33, iv 6, iv A4]) rfl ?_
              refine w_iload X276 hx hby d6_57 rfl ?_
              refine w_iconst X276 hx hby d6_59 ?_
              refine w_iadd X276 hx hby d6_60 ?_
              exact kt
            obtain ⟨cl316, Ar316, q316, Sz316, Nn316, Hh316, Gg316⟩ := id V262
            have hin316 : ¬ ((5 : Int32) < 0 ∨ cl316.slots.size ≤ ((5 : Int32)).toNatClampNeg) := inb_of Sz316 ⟨by decide, by decide⟩
            obtain ⟨T317, h317, X317, e317, W317, st317⟩ := stI X276 hx hZ eq274 Ar316 (j := (5 : Int32)) hin316 (g := (mkF m 61 #[rv a, rv fn, rv tx, rv b33, iv 6, iv A4] [(.int (A4 + (1 : Int32))), (.int 5), (.ref b33)])) rfl rfl (hb hby d6_61)
            have S318 : own_G p e below s0 T317 m 62 #[rv a, rv fn, rv tx, rv b33, iv 6, iv A4] [] := fun t kt => S315 t (st317 _ kt)
            have V319 := Arv.set Ar316 q316 Sz316 Nn316 Hh316 Gg316 rfl W317 5 rfl (Nat.le_of_ble_eq_true rfl)
            have F320 := F263.wr W317
            have F321 := F264.other W317 (Or.inl ne_a_b33)
            have F322 := F265.other W317 (Or.inl ne_a_b33)
            have F323 := F266.other W317 (Or.inl ne_a_b33)
            have F324 := F267.wr W317
            have F325 := F268.other W317 (Or.inl ne_tx_b33)
            have F326 := F269.other W317 (Or.inl ne_tx_b33)
            have F327 := F270.wr W317
            have F328 := F271.other W317 ne_b_b33
            have N329 := Fr.snoc X317 N272 g_b33
            have K330 : Keep h0 h317 [a] := K273.wr W317 (Or.inr sz_b33)
            have S332 : own_G p e below s0 T317 m 69 #[rv a, rv fn, rv tx, rv b33, iv 6, iv A4] [(.int (A4 + (1 : Int32))), (.int 10), (.ref tx)] := fun t kt => by
              refine S318 t ?_
              refine w_aloadN X317 hx hby d6_62 rfl rfl ?_
              refine w_bipush X317 hx hby d6_63 ?_
              refine w_iload X317 hx hby d6_65 rfl ?_
              refine w_iconst X317 hx hby d6_67 ?_
              refine w_iadd X317 hx hby d6_68 ?_
              exact kt
            obtain ⟨cq333, kq333, q333a, q333b, q333c⟩ := isOf hZ e317 F324
            obtain ⟨_, _, ⟨T333, L333, k333, n333⟩, -, X333, ⟨Lc333, hQ333, l333, y333, z333⟩, st333⟩ := X317.virtualBack hx (y := own_y15) (z := own_y15) hown (mvT hZ (own_w hw 121 rfl)) (mvT hZ (own_w hw 49 rfl)) (notFace_of_selects (args := #[]) (mvT hZ (own_w hw 51 rfl))) (mvT hZ (own_w hw 51 rfl)) (mvT hZ (own_w hw 50 rfl)) (by decide) (backOf (W := 0) (own_rm8 l Z a0 hw [] (tx) ((A4 + (1 : Int32))) (cs) (b) (to) (kb) (bs) (nn) h317 n0 (Nat.le_trans Z0 K330.1) F324 F327 hcs F325 F326 F328 hto hnn (by rw [hA4]; exact (own_A_1 hnn 4).2.1) (by rw [hA4]; exact (own_A_1 hnn 4).2.2)) hZ (own_w hw 52 rfl) (own_w hw 9 rfl) (by decide) (by decide)) q333a q333c (g := (mkF m 69 #[rv a, rv fn, rv tx, rv b33, iv 6, iv A4] [(.int (A4 + (1 : Int32))), (.int 10), (.ref tx)])) rfl (by rw [hml]; rfl) (Steps.refl _) (argsL := [(.int 10), (.int (A4 + (1 : Int32)))]) (rest := []) (lenOf own_pd1 rfl) rfl (by show 2 * 0 + _ ≤ _; exact Nat.le_of_eq rfl) (hb hby d6_69) (fun _ _ => ⟨rfl, e317, (by decide : 1 + 0 ≤ _), (by decide : 64 + 0 ≤ _)⟩)
            dsimp only [Pt.U, Pt.locs, Pt.cells, Pt.slots] at X333 l333 y333 z333 st333 hQ333
            subst l333 y333 z333
            obtain ⟨hvA5, rfl, eq331⟩ := hQ333
            try rw [List.append_nil] at X333
            obtain ⟨A5, hA5⟩ : ∃ z, z = own_A bs nn 5 := ⟨_, rfl⟩
            rw [show own_ixF bs nn (A4 + (1 : Int32)) = A5 from by rw [hA4, hA5]; exact own_A_s bs nn 4] at hvA5
            subst hvA5
            have S334 : own_G p e below s0 T333 m 72 #[rv a, rv fn, rv tx, rv b33, iv 6, iv A4] [(.int A5)] := fun t kt => S332 t (st333.trans kt)
            have S335 : own_G p e below s0 T333 m 32 #[rv a, rv fn, rv tx, rv b33, iv 6, iv A5] [(.int A5)] := fun t kt => by
              refine S334 t ?_
              refine w_istore X333 hx hby d6_72 (l' := #[rv a, rv fn, rv tx, rv b33, iv 6, iv A5]) rfl ?_
              refine w_goto X333 hx hby (pc' := 30) d6_74 (by decide) ?_
              refine w_iload X333 hx hby d6_30 rfl ?_
              exact kt
            by_cases hc32''''' : A5 < (0 : Int32)
            · skip
              have S338 : own_G p e below s0 T333 m 81 #[rv a, rv fn, rv tx, rv b33, iv 6, iv A5] [(.int 6), (.ref b33), (.ref a)] := fun t kt => by
                refine S335 t ?_
                refine w_ifYes X333 hx hby (pc' := 77) d6_32 ((if0 _ _).trans (tlt hc32''''').1) (by decide) ?_
                refine w_aloadN X333 hx hby d6_77 rfl rfl ?_
                refine w_aloadN X333 hx hby d6_78 rfl rfl ?_
                refine w_iload X333 hx hby d6_79 rfl ?_
                exact kt
              obtain ⟨_, _, ⟨T339, L339, k339, n339⟩, -, X339, ⟨Lc339, hQ339, l339, y339, z339⟩, st339⟩ := Jvm.LawKit.callS X333 hx (y := own_y14) hown (mvT hZ (own_w hw 83 rfl)) (mvT hZ (own_w hw 84 rfl)) (mvT hZ (own_w hw 85 rfl)) (mvT hZ (own_w hw 86 rfl)) (by decide) (backOf (W := 1) (own_rm16m6 l Z a0 hw [] (b33) ((0 : Int32)) ((A0 + (1 : Int32))) ((A1 + (1 : Int32))) ((A2 + (1 : Int32))) ((A3 + (1 : Int32))) ((A4 + (1 : Int32))) (k33) h317 n0 (Nat.le_trans Z0 K330.1) V319) hZ (own_w hw 86 rfl) (own_w hw 85 rfl) (by decide) (by decide)) (g := (mkF m 81 #[rv a, rv fn, rv tx, rv b33, iv 6, iv A5] [(.int 6), (.ref b33), (.ref a)])) rfl (by rw [hml]; rfl) (argsL := [(.ref b33), (.int 6)]) (rest := [(.ref a)]) (lenOf own_pd7 rfl) rfl (by show 2 * 0 + _ ≤ _; exact Nat.le_of_eq rfl) (hb hby d6_81) (fun _ _ => ⟨rfl, eq331, (by decide : 1 + 1 ≤ _), (by decide : 64 + 6 ≤ _)⟩)
              dsimp only [Pt.U, Pt.locs, Pt.cells, Pt.slots] at X339 l339 y339 z339 st339 hQ339
              subst l339 y339 z339
              obtain ⟨lb336, kl336, rfl, Nq339, gt336, sz336, Kc336, Vc336⟩ := hQ339
              have N340 := Fr.app N329 Nq339
              have S341 : own_G p e below s0 T339 m 84 #[rv a, rv fn, rv tx, rv b33, iv 6, iv A5] [(.ref lb336), (.ref a)] := fun t kt => S338 t (st339 _ kt)
              have F342 := F320.keep Kc336
              have F343 := F321.keep Kc336 nin0
              have F344 := F322.keep Kc336 nin0
              have F345 := F323.keep Kc336 nin0
              have F346 := F324.keep Kc336
              have F347 := F325.keep Kc336 nin0
              have F348 := F326.keep Kc336 nin0
              have F349 := own_StaK F327 Kc336 all0
              have F350 := F328.keep Kc336 nin0
              have F351 := V319.keep Kc336 nin0
              have K352 : Keep h0 T339.heap [a] := K330.trans Kc336 all0
              have ne_a_lb336 : a ≠ lb336 := Nat.ne_of_lt (Nat.lt_of_lt_of_le F320.lt sz336)
              have ne_tx_lb336 : tx ≠ lb336 := Nat.ne_of_lt (Nat.lt_of_lt_of_le F324.lt sz336)
              have ne_b_lb336 : b ≠ lb336 := Nat.ne_of_lt (Nat.lt_of_lt_of_le F328.lt sz336)
              have ne_b33_lb336 : b33 ≠ lb336 := Nat.ne_of_lt (Nat.lt_of_lt_of_le V319.lt sz336)
              obtain ⟨T353, h353, X353, e353, W353, st353⟩ := putF X339 hx hZ hown (host := "") (Or.inl (own_w hw 92 rfl)) Via.refl rfl F345 F342 (Or.inr ⟨(own_w hw 93 rfl), rfl, hnm⟩) (own_w hw 6 rfl) (ty := (.array .int)) (by decide) rfl rfl (g := (mkF m 84 #[rv a, rv fn, rv tx, rv b33, iv 6, iv A5] [(.ref lb336), (.ref a)])) rfl rfl (hb hby d6_84)
              have S354 : own_G p e below s0 T353 m 87 #[rv a, rv fn, rv tx, rv b33, iv 6, iv A5] [] := fun t kt => S341 t (st353 _ kt)
              have F355 := F342.wr W353
              have F356 := F343.other W353 (Or.inr (slot_ne (Or.inr (own_w hw 39 rfl)) (Or.inr (own_w hw 93 rfl)) (by decide) (t := (.object "java/lang/String")) (t' := (.array .int)) (by decide) (by decide)))
              have F357 := F344.other W353 (Or.inr (slot_ne (Or.inr (own_w hw 41 rfl)) (Or.inr (own_w hw 93 rfl)) (by decide) (t := (.object "java/lang/String")) (t' := (.array .int)) (by decide) (by decide)))
              have F358 := F345.same W353
              have F359 := F346.wr W353
              have F360 := F347.other W353 (Or.inl (Exa.ne F346 F342 (by decide)))
              have F361 := F348.other W353 (Or.inl (Exa.ne F346 F342 (by decide)))
              have F362 := F349.wr W353
              have F363 := F350.other W353 (Ne.symm (Exa.neArv F342 F350 (own_w hw 6 rfl)))
              have F364 := F351.other W353 (Ne.symm ne_a_b33)
              have F365 := Vc336.other W353 (Ne.symm ne_a_lb336)
              have N366 := Fr.snoc X353 N340 g_a
              have K367 : Keep h0 h353 [a] := K352.wr W353 (Or.inl (List.mem_of_getElem? (i := 0) rfl))
              obtain ⟨fs, hr, hrun, hended, hW, hsame⟩ := X353.leave (v := none) (fun _ => rfl)
              refine ⟨_, _, S354 _ ?_, hrun, hended, _, _, rfl, ?_, ⟨_, rfl⟩, hW, hsame.mono (by decide) (by decide)⟩
              · show Steps p.tables e below (T353.setTop (mkF m 87 #[rv a, rv fn, rv tx, rv b33, iv 6, iv A5] [])) _
                exact X353.returnOut hx Bd.returns (hb hby d6_87) hr
              · show own_Q6 Z a fn tx cs b to kb bs nn u0 u1 u2 h0 n0 _ T353.heap _
                rw [e353]
                exact ⟨rfl, N366, K367, F355, lb336, kl336, [(0 : Int32), A0 + (1 : Int32), A1 + (1 : Int32), A2 + (1 : Int32), A3 + (1 : Int32), A4 + (1 : Int32)], F358, F365, Or.inr (Or.inr (Or.inr (Or.inr (Or.inr (Or.inl ⟨(hA0 ▸ hc32), (hA1 ▸ hc32'), (hA2 ▸ hc32''), (hA3 ▸ hc32'''), (hA4 ▸ hc32''''), (hA5 ▸ hc32'''''), (by rw [hA0, hA1, hA2, hA3, hA4])⟩)))))⟩
            · skip
              have S368 : own_G p e below s0 T333 m 38 #[rv a, rv fn, rv tx, rv b33, iv 6, iv A5] [(.ref b33), (.int 6)] := fun t kt => by
                refine S335 t ?_
                refine w_ifNo X333 hx hby d6_32 ((if0 _ _).trans (flt hc32''''').1) ?_
                refine w_iload X333 hx hby d6_35 rfl ?_
                refine w_aloadN X333 hx hby d6_37 rfl rfl ?_
                exact kt
              obtain ⟨cl369, Ar369, -, Sz369, Nn369, -, -⟩ := id V319
              have S370 : own_G p e below s0 T333 m 39 #[rv a, rv fn, rv tx, rv b33, iv 6, iv A5] [(.int 64), (.int 6)] := fun t kt => by
                refine S368 t ?_
                refine X333.arraylength hx (by rw [eq331]; exact Ar369.1) (State.isArrayOf_alike hZ.alike Ar369.2.1) (g := (mkF m 38 #[rv a, rv fn, rv tx, rv b33, iv 6, iv A5] [(.ref b33), (.int 6)])) rfl rfl (hb hby d6_38) _ ?_
                rw [len_of Sz369 Nn369]
                exact kt
              have hc39_371 : ¬ ((6 : Int32) = (64 : Int32)) := by decide
              have S372 : own_G p e below s0 T333 m 61 #[rv a, rv fn, rv tx, rv b33, iv 7, iv A5] [(.int (A5 + (1 : Int32))), (.int 6), (.ref b33)] := fun t kt => by
                refine S370 t ?_
                refine w_icmpYes X333 hx hby (pc' := 51) d6_39 (feq hc39_371).2 (by decide) ?_
                refine w_aloadN X333 hx hby d6_51 rfl rfl ?_
                refine w_iload X333 hx hby d6_52 rfl ?_
                refine w_iinc X333 hx hby d6_54 rfl (l' := #[rv a, rv fn, rv tx, rv b33, iv 7, iv A5]) rfl ?_
                refine w_iload X333 hx hby d6_57 rfl ?_
                refine w_iconst X333 hx hby d6_59 ?_
                refine w_iadd X333 hx hby d6_60 ?_
                exact kt
              obtain ⟨cl373, Ar373, q373, Sz373, Nn373, Hh373, Gg373⟩ := id V319
              have hin373 : ¬ ((6 : Int32) < 0 ∨ cl373.slots.size ≤ ((6 : Int32)).toNatClampNeg) := inb_of Sz373 ⟨by decide, by decide⟩
              obtain ⟨T374, h374, X374, e374, W374, st374⟩ := stI X333 hx hZ eq331 Ar373 (j := (6 : Int32)) hin373 (g := (mkF m 61 #[rv a, rv fn, rv tx, rv b33, iv 7, iv A5] [(.int (A5 + (1 : Int32))), (.int 6), (.ref b33)])) rfl rfl (hb hby d6_61)
              have S375 : own_G p e below s0 T374 m 62 #[rv a, rv fn, rv tx, rv b33, iv 7, iv A5] [] := fun t kt => S372 t (st374 _ kt)
              have V376 := Arv.set Ar373 q373 Sz373 Nn373 Hh373 Gg373 rfl W374 6 rfl (Nat.le_of_ble_eq_true rfl)
              have F377 := F320.wr W374
              have F378 := F321.other W374 (Or.inl ne_a_b33)
              have F379 := F322.other W374 (Or.inl ne_a_b33)
              have F380 := F323.other W374 (Or.inl ne_a_b33)
              have F381 := F324.wr W374
              have F382 := F325.other W374 (Or.inl ne_tx_b33)
              have F383 := F326.other W374 (Or.inl ne_tx_b33)
              have F384 := F327.wr W374
              have F385 := F328.other W374 ne_b_b33
              have N386 := Fr.snoc X374 N329 g_b33
              have K387 : Keep h0 h374 [a] := K330.wr W374 (Or.inr sz_b33)
              have S389 : own_G p e below s0 T374 m 69 #[rv a, rv fn, rv tx, rv b33, iv 7, iv A5] [(.int (A5 + (1 : Int32))), (.int 10), (.ref tx)] := fun t kt => by
                refine S375 t ?_
                refine w_aloadN X374 hx hby d6_62 rfl rfl ?_
                refine w_bipush X374 hx hby d6_63 ?_
                refine w_iload X374 hx hby d6_65 rfl ?_
                refine w_iconst X374 hx hby d6_67 ?_
                refine w_iadd X374 hx hby d6_68 ?_
                exact kt
              obtain ⟨cq390, kq390, q390a, q390b, q390c⟩ := isOf hZ e374 F381
              obtain ⟨_, _, ⟨T390, L390, k390, n390⟩, -, X390, ⟨Lc390, hQ390, l390, y390, z390⟩, st390⟩ := X374.virtualBack hx (y := own_y15) (z := own_y15) hown (mvT hZ (own_w hw 121 rfl)) (mvT hZ (own_w hw 49 rfl)) (notFace_of_selects (args := #[]) (mvT hZ (own_w hw 51 rfl))) (mvT hZ (own_w hw 51 rfl)) (mvT hZ (own_w hw 50 rfl)) (by decide) (backOf (W := 0) (own_rm8 l Z a0 hw [] (tx) ((A5 + (1 : Int32))) (cs) (b) (to) (kb) (bs) (nn) h374 n0 (Nat.le_trans Z0 K387.1) F381 F384 hcs F382 F383 F385 hto hnn (by rw [hA5]; exact (own_A_1 hnn 5).2.1) (by rw [hA5]; exact (own_A_1 hnn 5).2.2)) hZ (own_w hw 52 rfl) (own_w hw 9 rfl) (by decide) (by decide)) q390a q390c (g := (mkF m 69 #[rv a, rv fn, rv tx, rv b33, iv 7, iv A5] [(.int (A5 + (1 : Int32))), (.int 10), (.ref tx)])) rfl (by rw [hml]; rfl) (Steps.refl _) (argsL := [(.int 10), (.int (A5 + (1 : Int32)))]) (rest := []) (lenOf own_pd1 rfl) rfl (by show 2 * 0 + _ ≤ _; exact Nat.le_of_eq rfl) (hb hby d6_69) (fun _ _ => ⟨rfl, e374, (by decide : 1 + 0 ≤ _), (by decide : 64 + 0 ≤ _)⟩)
              dsimp only [Pt.U, Pt.locs, Pt.cells, Pt.slots] at X390 l390 y390 z390 st390 hQ390
              subst l390 y390 z390
              obtain ⟨hvA6, rfl, eq388⟩ := hQ390
              try rw [List.append_nil] at X390
              obtain ⟨A6, hA6⟩ : ∃ z, z = own_A bs nn 6 := ⟨_, rfl⟩
              rw [show own_ixF bs nn (A5 + (1 : Int32)) = A6 from by rw [hA5, hA6]; exact own_A_s bs nn 5] at hvA6
              subst hvA6
              have S391 : own_G p e below s0 T390 m 72 #[rv a, rv fn, rv tx, rv b33, iv 7, iv A5] [(.int A6)] := fun t kt => S389 t (st390.trans kt)
              have S392 : own_G p e below s0 T390 m 32 #[rv a, rv fn, rv tx, rv b33, iv 7, iv A6] [(.int A6)] := fun t kt => by
                refine S391 t ?_
                refine w_istore X390 hx hby d6_72 (l' := #[rv a, rv fn, rv tx, rv b33, iv 7, iv A6]) rfl ?_
                refine w_goto X390 hx hby (pc' := 30) d6_74 (by decide) ?_
                refine w_iload X390 hx hby d6_30 rfl ?_
                exact kt
              have hc32_393 : A6 < (0 : Int32) := hA6 ▸ own_A6 hnn (hA0 ▸ hc32) (hA1 ▸ hc32') (hA2 ▸ hc32'') (hA3 ▸ hc32''') (hA4 ▸ hc32'''') (hA5 ▸ hc32''''')
              have S396 : own_G p e below s0 T390 m 81 #[rv a, rv fn, rv tx, rv b33, iv 7, iv A6] [(.int 7), (.ref b33), (.ref a)] := fun t kt => by
                refine S392 t ?_
                refine w_ifYes X390 hx hby (pc' := 77) d6_32 ((if0 _ _).trans (tlt hc32_393).1) (by decide) ?_
                refine w_aloadN X390 hx hby d6_77 rfl rfl ?_
                refine w_aloadN X390 hx hby d6_78 rfl rfl ?_
                refine w_iload X390 hx hby d6_79 rfl ?_
                exact kt
              obtain ⟨_, _, ⟨T397, L397, k397, n397⟩, -, X397, ⟨Lc397, hQ397, l397, y397, z397⟩, st397⟩ := Jvm.LawKit.callS X390 hx (y := own_y14) hown (mvT hZ (own_w hw 83 rfl)) (mvT hZ (own_w hw 84 rfl)) (mvT hZ (own_w hw 85 rfl)) (mvT hZ (own_w hw 86 rfl)) (by decide) (backOf (W := 1) (own_rm16m7 l Z a0 hw [] (b33) ((0 : Int32)) ((A0 + (1 : Int32))) ((A1 + (1 : Int32))) ((A2 + (1 : Int32))) ((A3 + (1 : Int32))) ((A4 + (1 : Int32))) ((A5 + (1 : Int32))) (k33) h374 n0 (Nat.le_trans Z0 K387.1) V376) hZ (own_w hw 86 rfl) (own_w hw 85 rfl) (by decide) (by decide)) (g := (mkF m 81 #[rv a, rv fn, rv tx, rv b33, iv 7, iv A6] [(.int 7), (.ref b33), (.ref a)])) rfl (by rw [hml]; rfl) (argsL := [(.ref b33), (.int 7)]) (rest := [(.ref a)]) (lenOf own_pd7 rfl) rfl (by show 2 * 0 + _ ≤ _; exact Nat.le_of_eq rfl) (hb hby d6_81) (fun _ _ => ⟨rfl, eq388, (by decide : 1 + 1 ≤ _), (by decide : 64 + 7 ≤ _)⟩)
              dsimp only [Pt.U, Pt.locs, Pt.cells, Pt.slots] at X397 l397 y397 z397 st397 hQ397
              subst l397 y397 z397
              obtain ⟨lb394, kl394, rfl, Nq397, gt394, sz394, Kc394, Vc394⟩ := hQ397
              have N398 := Fr.app N386 Nq397
              have S399 : own_G p e below s0 T397 m 84 #[rv a, rv fn, rv tx, rv b33, iv 7, iv A6] [(.ref lb394), (.ref a)] := fun t kt => S396 t (st397 _ kt)
              have F400 := F377.keep Kc394
              have F401 := F378.keep Kc394 nin0
              have F402 := F379.keep Kc394 nin0
              have F403 := F380.keep Kc394 nin0
              have F404 := F381.keep Kc394
              have F405 := F382.keep Kc394 nin0
              have F406 := F383.keep Kc394 nin0
              have F407 := own_StaK F384 Kc394 all0
              have F408 := F385.keep Kc394 nin0
              have F409 := V376.keep Kc394 nin0
              have K410 : Keep h0 T397.heap [a] := K387.trans Kc394 all0
              have ne_a_lb394 : a ≠ lb394 := Nat.ne_of_lt (Nat.lt_of_lt_of_le F377.lt sz394)
              have ne_tx_lb394 : tx ≠ lb394 := Nat.ne_of_lt (Nat.lt_of_lt_of_le F381.lt sz394)
              have ne_b_lb394 : b ≠ lb394 := Nat.ne_of_lt (Nat.lt_of_lt_of_le F385.lt sz394)
              have ne_b33_lb394 : b33 ≠ lb394 := Nat.ne_of_lt (Nat.lt_of_lt_of_le V376.lt sz394)
              obtain ⟨T411, h411, X411, e411, W411, st411⟩ := putF X397 hx hZ hown (host := "") (Or.inl (own_w hw 92 rfl)) Via.refl rfl F403 F400 (Or.inr ⟨(own_w hw 93 rfl), rfl, hnm⟩) (own_w hw 6 rfl) (ty := (.array .int)) (by decide) rfl rfl (g := (mkF m 84 #[rv a, rv fn, rv tx, rv b33, iv 7, iv A6] [(.ref lb394), (.ref a)])) rfl rfl (hb hby d6_84)
              have S412 : own_G p e below s0 T411 m 87 #[rv a, rv fn, rv tx, rv b33, iv 7, iv A6] [] := fun t kt => S399 t (st411 _ kt)
              have F413 := F400.wr W411
              have F414 := F401.other W411 (Or.inr (slot_ne (Or.inr (own_w hw 39 rfl)) (Or.inr (own_w hw 93 rfl)) (by decide) (t := (.object "java/lang/String")) (t' := (.array .int)) (by decide) (by decide)))
              have F415 := F402.other W411 (Or.inr (slot_ne (Or.inr (own_w hw 41 rfl)) (Or.inr (own_w hw 93 rfl)) (by decide) (t := (.object "java/lang/String")) (t' := (.array .int)) (by decide) (by decide)))
              have F416 := F403.same W411
              have F417 := F404.wr W411
              have F418 := F405.other W411 (Or.inl (Exa.ne F404 F400 (by decide)))
              have F419 := F406.other W411 (Or.inl (Exa.ne F404 F400 (by decide)))
              have F420 := F407.wr W411
              have F421 := F408.other W411 (Ne.symm (Exa.neArv F400 F408 (own_w hw 6 rfl)))
              have F422 := F409.other W411 (Ne.symm ne_a_b33)
              have F423 := Vc394.other W411 (Ne.symm ne_a_lb394)
              have N424 := Fr.snoc X411 N398 g_a
              have K425 : Keep h0 h411 [a] := K410.wr W411 (Or.inl (List.mem_of_getElem? (i := 0) rfl))
              obtain ⟨fs, hr, hrun, hended, hW, hsame⟩ := X411.leave (v := none) (fun _ => rfl)
              refine ⟨_, _, S412 _ ?_, hrun, hended, _, _, rfl, ?_, ⟨_, rfl⟩, hW, hsame.mono (by decide) (by decide)⟩
              · show Steps p.tables e below (T411.setTop (mkF m 87 #[rv a, rv fn, rv tx, rv b33, iv 7, iv A6] [])) _
                exact X411.returnOut hx Bd.returns (hb hby d6_87) hr
              · show own_Q6 Z a fn tx cs b to kb bs nn u0 u1 u2 h0 n0 _ T411.heap _
                rw [e411]
                exact ⟨rfl, N424, K425, F413, lb394, kl394, [(0 : Int32), A0 + (1 : Int32), A1 + (1 : Int32), A2 + (1 : Int32), A3 + (1 : Int32), A4 + (1 : Int32), A5 + (1 : Int32)], F416, F423, Or.inr (Or.inr (Or.inr (Or.inr (Or.inr (Or.inr (⟨(hA0 ▸ hc32), (hA1 ▸ hc32'), (hA2 ▸ hc32''), (hA3 ▸ hc32'''), (hA4 ▸ hc32''''), (hA5 ▸ hc32'''''), (hA6 ▸ hc32_393), (by rw [hA0, hA1, hA2, hA3, hA4, hA5])⟩))))))⟩
theorem d20_0 : decode jdk_65_method_59_code 0 = .ok (.iload_n 1, 1) := by decide +kernel
theorem d20_1 : decode jdk_65_method_59_code 1 = .ok (.istore 4, 2) := by decide +kernel
theorem d20_3 : decode jdk_65_method_59_code 3 = .ok (.iload_n 2, 1) := by decide +kernel
theorem d20_4 : decode jdk_65_method_59_code 4 = .ok (.iconst 1, 1) := by decide +kernel
theorem d20_5 : decode jdk_65_method_59_code 5 = .ok (.isub, 1) := by decide +kernel
theorem d20_6 : decode jdk_65_method_59_code 6 = .ok (.istore 5, 2) := by decide +kernel
theorem d20_8 : decode jdk_65_method_59_code 8 = .ok (.iload 4, 2) := by decide +kernel
theorem d20_10 : decode jdk_65_method_59_code 10 = .ok (.iload 5, 2) := by decide +kernel
theorem d20_12 : decode jdk_65_method_59_code 12 = .ok (.if_icmp .gt 54, 3) := by decide +kernel
theorem d20_15 : decode jdk_65_method_59_code 15 = .ok (.iload 4, 2) := by decide +kernel
theorem d20_17 : decode jdk_65_method_59_code 17 = .ok (.iload 5, 2) := by decide +kernel
theorem d20_19 : decode jdk_65_method_59_code 19 = .ok (.iadd, 1) := by decide +kernel
theorem d20_20 : decode jdk_65_method_59_code 20 = .ok (.iconst 1, 1) := by decide +kernel
theorem d20_21 : decode jdk_65_method_59_code 21 = .ok (.iushr, 1) := by decide +kernel
theorem d20_22 : decode jdk_65_method_59_code 22 = .ok (.istore 6, 2) := by decide +kernel
theorem d20_24 : decode jdk_65_method_59_code 24 = .ok (.aload_n 0, 1) := by decide +kernel
theorem d20_25 : decode jdk_65_method_59_code 25 = .ok (.iload 6, 2) := by decide +kernel
theorem d20_27 : decode jdk_65_method_59_code 27 = .ok (.iaload, 1) := by decide +kernel
theorem d20_28 : decode jdk_65_method_59_code 28 = .ok (.istore 7, 2) := by decide +kernel
theorem d20_30 : decode jdk_65_method_59_code 30 = .ok (.iload 7, 2) := by decide +kernel
theorem d20_32 : decode jdk_65_method_59_code 32 = .ok (.iload_n 3, 1) := by decide +kernel
theorem d20_33 : decode jdk_65_method_59_code 33 = .ok (.if_icmp .ge 12, 3) := by decide +kernel
theorem d20_36 : decode jdk_65_method_59_code 36 = .ok (.iload 6, 2) := by decide +kernel
theorem d20_38 : decode jdk_65_method_59_code 38 = .ok (.iconst 1, 1) := by decide +kernel
theorem d20_39 : decode jdk_65_method_59_code 39 = .ok (.iadd, 1) := by decide +kernel
theorem d20_40 : decode jdk_65_method_59_code 40 = .ok (.istore 4, 2) := by decide +kernel
theorem d20_42 : decode jdk_65_method_59_code 42 = .ok (.goto 21, 3) := by decide +kernel
theorem d20_45 : decode jdk_65_method_59_code 45 = .ok (.iload 7, 2) := by decide +kernel
theorem d20_47 : decode jdk_65_method_59_code 47 = .ok (.iload_n 3, 1) := by decide +kernel
theorem d20_48 : decode jdk_65_method_59_code 48 = .ok (.if_icmp .le 12, 3) := by decide +kernel
theorem d20_51 : decode jdk_65_method_59_code 51 = .ok (.iload 6, 2) := by decide +kernel
theorem d20_53 : decode jdk_65_method_59_code 53 = .ok (.iconst 1, 1) := by decide +kernel
theorem d20_54 : decode jdk_65_method_59_code 54 = .ok (.isub, 1) := by decide +kernel
theorem d20_55 : decode jdk_65_method_59_code 55 = .ok (.istore 5, 2) := by decide +kernel
theorem d20_57 : decode jdk_65_method_59_code 57 = .ok (.goto 6, 3) := by decide +kernel
theorem d20_60 : decode jdk_65_method_59_code 60 = .ok (.iload 6, 2) := by decide +kernel
theorem d20_62 : decode jdk_65_method_59_code 62 = .ok (.ireturn, 1) := by decide +kernel
theorem d20_63 : decode jdk_65_method_59_code 63 = .ok (.goto (-55), 3) := by decide +kernel
theorem d20_66 : decode jdk_65_method_59_code 66 = .ok (.iload 4, 2) := by decide +kernel
theorem d20_68 : decode jdk_65_method_59_code 68 = .ok (.iconst 1, 1) := by decide +kernel
theorem d20_69 : decode jdk_65_method_59_code 69 = .ok (.iadd, 1) := by decide +kernel
theorem d20_70 : decode jdk_65_method_59_code 70 = .ok (.ineg, 1) := by decide +kernel
theorem d20_71 : decode jdk_65_method_59_code 71 = .ok (.ireturn, 1) := by decide +kernel
theorem own_ef20 (m : MethodId) (x0 : Addr) (x1 : Int32) (x2 : Int32) (x3 : Int32) : entryFrame m #[(.ref x0), (.int x1), (.int x2), (.int x3)] 8 = mkF m 0 #[rv x0, iv x1, iv x2, iv x3, .unset, .unset, .unset, .unset] [] := by first | (simp [entryFrame, mkF, argsToLocals, Value.category]; done) | rfl
def own_Q20 (Z : State) (lb : Addr) (mm : Int32) (ky : Int32) (kl : ClassId) (es : List Int32) (h0 : Heap) (n0 : Nat) (v : Option Value) (h : Heap) (L : List Loc) : Prop := v = some (.int (own_bsr es ky es.length 0 es.length)) ∧ L = [] ∧ h = h0
set_option maxHeartbeats 40000000 in
theorem own_rm20 (l : Launch) (Z : State) (a0 : Array Value) (hw : ∀ d ∈ tables_1, d.before a0 Z = true) (ws : List Jvm.Cond) (lb : Addr) (mm : Int32) (ky : Int32) (kl : ClassId) (es : List Int32) (h0 : Heap) (n0 : Nat) (Z0 : n0 ≤ h0.size) (V_l : Arv Z h0 lb kl .int (Int32.ofNat es.length) (es.map Value.int) (.int 0)) (hmm : mm = Int32.ofNat es.length) (hl7 : es.length ≤ 7) :
    MetFree l own_y10 (head1 (Jvm.Cond.code own_y10 jdk_65_method_59_code 8 (some .int) :: ws) ({ frames := 0, cells := 0, slots := 0, locals := 0 } : Room)) (fun argv U => argv = #[(.ref lb), (.int 0), (.int mm), (.int ky)] ∧ Z.Warmed39 U.vm ∧ U.heap = h0) (fun _ _ _ _ _ => True) (fun _ U o U' => ∃ v L, o = .returned v ∧ own_Q20 Z lb mm ky kl es h0 n0 v U'.heap L ∧ FrameEnd U o U' L ({ frames := 0, cells := 0, slots := 0, locals := 0 } : Room).cells ({ frames := 0, cells := 0, slots := 0, locals := 0 } : Room).slots) := by
  refine MetFree.of_bodySF (plainFor_of_name own_pn2) hisR ?_
  intro p e s m args below meth c s₁ Bd hml0 hP hK
  obtain ⟨rfl, hZ, hh⟩ := hP
  have hx := Bd.exec
  have hby := Bd.bytes
  have hml : c.maxLocals = 8 := hml0
  have hown : s.vm.findClass "java/util/Arrays" = some m.cls := findClass_of_methodNamed Bd.named
  have hnm := (name_of_methodNamed Bd.named Bd.method).1
  have X0 : Stand p l e ({ frames := 0, cells := 0, slots := 0, locals := 0 } : Room) s m #[(.ref lb), (.int 0), (.int mm), (.int ky)] below meth c s₁ [] 0 0 := Stand.of_body Bd
  have e0 : s₁.heap = h0 := by rw [← hh, Bd.state]; rfl
  have N0 := Fr.nil n0
  have pre_ : own_G p e below (s₁.setTop (entryFrame m #[(.ref lb), (.int 0), (.int mm), (.int ky)] 8)) s₁ m 0 #[rv lb, iv 0, iv mm, iv ky, .unset, .unset, .unset, .unset] [] := fun t k => castTop (own_ef20 m lb (0 : Int32) mm ky) k
  obtain ⟨s0, hs0⟩ : ∃ z, z = (s₁.setTop (entryFrame m #[(.ref lb), (.int 0), (.int mm), (.int ky)] 8)) := ⟨_, rfl⟩
  have pre0 : own_G p e below s0 s₁ m 0 #[rv lb, iv 0, iv mm, iv ky, .unset, .unset, .unset, .unset] [] := hs0 ▸ pre_
  rw [← hs0]
  have S1 : own_G p e below s0 s₁ m 8 #[rv lb, iv 0, iv mm, iv ky, iv 0, iv (mm - (1 : Int32)), .unset, .unset] [] := fun t kt => by
    refine pre0 t ?_
    refine w_iloadN X0 hx hby d20_0 rfl ?_
    refine w_istore X0 hx hby d20_1 (l' := #[rv lb, iv 0, iv mm, iv ky, iv 0, .unset, .unset, .unset]) rfl ?_
    refine w_iloadN X0 hx hby d20_3 rfl ?_
    refine w_iconst X0 hx hby d20_4 ?_
    refine w_isub X0 hx hby d20_5 ?_
    refine w_istore X0 hx hby d20_6 (l' := #[rv lb, iv 0, iv mm, iv ky, iv 0, iv (mm - (1 : Int32)), .unset, .unset]) rfl ?_
    exact kt
  obtain ⟨R, hR⟩ : ∃ z, z = own_bsr es ky es.length 0 es.length := ⟨_, rfl⟩
  obtain ⟨cl, Ar, -, Sz, Nn, Hh, -⟩ := id V_l
  obtain ⟨fs, hr, hrun, hended, hW, hsame⟩ := X0.leave (v := some (.int R)) (fun h => by rw [Bd.returns] at h; cases h)
  have loop : ∀ (kk lo h1 : Nat) (s6 s7 : Slot), One s6 → One s7 → h1 - lo ≤ kk → lo ≤ h1 → h1 ≤ es.length → own_bsr es ky kk lo h1 = R → Steps p.tables e below (s₁.setTop (mkF m 8 #[rv lb, iv 0, iv mm, iv ky, iv (Int32.ofNat lo), iv (Int32.ofNat h1 - (1 : Int32)), s6, s7] [])) (s₁.setFrames fs) := by
    intro kk
    induction kk with
    | zero =>
      intro lo h1 s6 s7 hs6 hs7 hk hle hm hv
      have hz : R = -(Int32.ofNat lo + (1 : Int32)) := hv.symm
      have hgt : (Int32.ofNat h1 - (1 : Int32)) < Int32.ofNat lo := (own_hi (by omega) (by omega)).mpr (by omega)
      refine w_iload X0 hx hby d20_8 rfl ?_
      refine w_iload X0 hx hby d20_10 rfl ?_
      refine w_icmpYes X0 hx hby (pc' := 66) d20_12 (tlt hgt).2.2.1 (by decide) ?_
      refine w_iload X0 hx hby d20_66 rfl ?_
      refine w_iconst X0 hx hby d20_68 ?_
      refine w_iadd X0 hx hby d20_69 ?_
      refine XS.ineg X0.here hx rfl (hb hby d20_70) rfl ?_
      subst hz
      exact own_retI X0 hx Bd.returns (hb hby d20_71) hr
    | succ kk ih =>
      intro lo h1 s6 s7 hs6 hs7 hk hle hm hv
      unfold own_bsr at hv
      by_cases q : lo < h1
      · skip
        rw [if_pos q] at hv
        have hgt : ¬ (Int32.ofNat h1 - (1 : Int32)) < Int32.ofNat lo := fun y => (own_hi (by omega) (by omega)).mp y q
        have hmid : lo ≤ ((lo + h1 - 1) / 2) ∧ ((lo + h1 - 1) / 2) < h1 := by omega
        refine w_iload X0 hx hby d20_8 rfl ?_
        refine w_iload X0 hx hby d20_10 rfl ?_
        refine w_icmpNo X0 hx hby d20_12 (flt hgt).2.2.1 ?_
        refine w_iload X0 hx hby d20_15 rfl ?_
        refine w_iload X0 hx hby d20_17 rfl ?_
        refine w_iadd X0 hx hby d20_19 ?_
        refine w_iconst X0 hx hby d20_20 ?_
        refine XS.iushr X0.here hx rfl (hb hby d20_21) rfl ?_
        refine w_istore X0 hx hby d20_22 (l' := #[rv lb, iv 0, iv mm, iv ky, iv (Int32.ofNat lo), iv (Int32.ofNat h1 - (1 : Int32)), iv ((((Int32.ofNat lo) + (Int32.ofNat h1 - (1 : Int32))).toUInt32 >>> ((1 : Int32) &&& 31).toUInt32).toInt32), s7]) (XS.store1 rfl hs6 rfl) ?_
        rw [own_mid q (by omega)]
        generalize hM : ((lo + h1 - 1) / 2) = mid at hmid hv ⊢
        have hlt : Int32.ofNat mid < Int32.ofNat es.length := Int32.lt_iff_toInt_lt.mpr (by rw [own_ofN (by omega), own_ofN (by omega)]; omega)
        have hin : ¬ (Int32.ofNat mid < 0 ∨ cl.slots.size ≤ (Int32.ofNat mid).toNatClampNeg) := inb_of Sz ⟨own_ge0 (by omega), hlt⟩
        have hat : cl.slots[(Int32.ofNat mid).toNatClampNeg]? = some (.int (es.getD mid 0)) := Has.at Hh hin (by rw [own_ofN_clamp (by omega)]; exact own_getI es mid)
        have h6' : One (.val (.int (Int32.ofNat mid))) := One.val rfl
        have h7' : One (.val (.int (es.getD mid 0))) := One.val rfl
        refine w_aloadN X0 hx hby d20_24 rfl rfl ?_
        refine w_iload X0 hx hby d20_25 rfl ?_
        refine X0.iaload hx (j := (Int32.ofNat mid)) (v := (.int (es.getD mid 0))) (by rw [e0]; exact Ar.1) (State.isArrayOf_alike hZ.alike Ar.2.1) Ar.2.2 hin hat (g := (mkF m 27 #[rv lb, iv 0, iv mm, iv ky, iv (Int32.ofNat lo), iv (Int32.ofNat h1 - (1 : Int32)), iv (Int32.ofNat mid), s7] [(.int (Int32.ofNat mid)), (.ref lb)])) rfl rfl (hb hby d20_27) _ ?_
        change Steps p.tables e below (s₁.setTop (mkF m 28 #[rv lb, iv 0, iv mm, iv ky, iv (Int32.ofNat lo), iv (Int32.ofNat h1 - (1 : Int32)), iv (Int32.ofNat mid), s7] [(.int (es.getD mid 0))])) _
        refine w_istore X0 hx hby d20_28 (l' := #[rv lb, iv 0, iv mm, iv ky, iv (Int32.ofNat lo), iv (Int32.ofNat h1 - (1 : Int32)), iv (Int32.ofNat mid), iv (es.getD mid 0)]) (XS.store1 rfl hs7 rfl) ?_
        refine w_iload X0 hx hby d20_30 rfl ?_
        refine w_iloadN X0 hx hby d20_32 rfl ?_
        by_cases c1 : es.getD mid 0 < ky
        · skip
          rw [if_pos c1] at hv
          refine w_icmpNo X0 hx hby d20_33 (tlt c1).2.1 ?_
          refine w_iload X0 hx hby d20_36 rfl ?_
          refine w_iconst X0 hx hby d20_38 ?_
          refine w_iadd X0 hx hby d20_39 ?_
          refine w_istore X0 hx hby d20_40 (l' := #[rv lb, iv 0, iv mm, iv ky, iv ((Int32.ofNat mid) + (1 : Int32)), iv (Int32.ofNat h1 - (1 : Int32)), iv (Int32.ofNat mid), iv (es.getD mid 0)]) rfl ?_
          refine w_goto X0 hx hby (pc' := 63) d20_42 (by decide) ?_
          refine w_goto X0 hx hby (pc' := 8) d20_63 (by decide) ?_
          have r := ih (mid + 1) h1 _ _ h6' h7' (by omega) (by omega) hm hv
          rw [← own_ofN_succ (by omega)] at r
          exact r
        · skip
          rw [if_neg c1] at hv
          refine w_icmpYes X0 hx hby (pc' := 45) d20_33 (flt c1).2.1 (by decide) ?_
          refine w_iload X0 hx hby d20_45 rfl ?_
          refine w_iloadN X0 hx hby d20_47 rfl ?_
          by_cases c2 : ky < es.getD mid 0
          · skip
            rw [if_pos c2] at hv
            refine w_icmpNo X0 hx hby d20_48 (tlt c2).2.2.2 ?_
            refine w_iload X0 hx hby d20_51 rfl ?_
            refine w_iconst X0 hx hby d20_53 ?_
            refine w_isub X0 hx hby d20_54 ?_
            refine w_istore X0 hx hby d20_55 (l' := #[rv lb, iv 0, iv mm, iv ky, iv (Int32.ofNat lo), iv ((Int32.ofNat mid) - (1 : Int32)), iv (Int32.ofNat mid), iv (es.getD mid 0)]) rfl ?_
            refine w_goto X0 hx hby (pc' := 63) d20_57 (by decide) ?_
            refine w_goto X0 hx hby (pc' := 8) d20_63 (by decide) ?_
            exact ih lo mid _ _ h6' h7' (by omega) (by omega) (by omega) hv
          · skip
            rw [if_neg c2] at hv
            have hz : R = Int32.ofNat mid := hv.symm
            refine w_icmpYes X0 hx hby (pc' := 60) d20_48 (flt c2).2.2.2 (by decide) ?_
            refine w_iload X0 hx hby d20_60 rfl ?_
            subst hz
            exact own_retI X0 hx Bd.returns (hb hby d20_62) hr
      · skip
        rw [if_neg q] at hv
        have hz : R = -(Int32.ofNat lo + (1 : Int32)) := hv.symm
        have hgt : (Int32.ofNat h1 - (1 : Int32)) < Int32.ofNat lo := (own_hi (by omega) (by omega)).mpr q
        refine w_iload X0 hx hby d20_8 rfl ?_
        refine w_iload X0 hx hby d20_10 rfl ?_
        refine w_icmpYes X0 hx hby (pc' := 66) d20_12 (tlt hgt).2.2.1 (by decide) ?_
        refine w_iload X0 hx hby d20_66 rfl ?_
        refine w_iconst X0 hx hby d20_68 ?_
        refine w_iadd X0 hx hby d20_69 ?_
        refine XS.ineg X0.here hx rfl (hb hby d20_70) rfl ?_
        subst hz
        exact own_retI X0 hx Bd.returns (hb hby d20_71) hr
  have L0 := loop es.length 0 es.length .unset .unset One.u One.u (by omega) (by omega) (Nat.le_refl _) hR.symm
  rw [← hmm] at L0
  refine ⟨_, _, S1 _ L0, hrun, hended, _, _, rfl, ?_, ⟨_, rfl⟩, hW, hsame.mono (by decide) (by decide)⟩
  show own_Q20 Z lb mm ky kl es h0 n0 _ s₁.heap _
  rw [e0]
  exact ⟨by rw [hR], rfl, rfl⟩
theorem own_pd8 : parseMethodDescriptor "([IIII)I" = some ⟨[(.array .int), .int, .int, .int], some .int⟩ := by decide +kernel
theorem d19_0 : decode jdk_65_method_57_code 0 = .ok (.aload_n 0, 1) := by decide +kernel
theorem d19_1 : decode jdk_65_method_57_code 1 = .ok (.iconst 0, 1) := by decide +kernel
theorem d19_2 : decode jdk_65_method_57_code 2 = .ok (.aload_n 0, 1) := by decide +kernel
theorem d19_3 : decode jdk_65_method_57_code 3 = .ok (.arraylength, 1) := by decide +kernel
theorem d19_4 : decode jdk_65_method_57_code 4 = .ok (.iload_n 1, 1) := by decide +kernel
theorem d19_5 : decode jdk_65_method_57_code 5 = .ok (.invokestatic 209, 3) := by decide +kernel
theorem d19_8 : decode jdk_65_method_57_code 8 = .ok (.ireturn, 1) := by decide +kernel
theorem own_ef19 (m : MethodId) (x0 : Addr) (x1 : Int32) : entryFrame m #[(.ref x0), (.int x1)] 2 = mkF m 0 #[rv x0, iv x1] [] := by first | (simp [entryFrame, mkF, argsToLocals, Value.category]; done) | rfl
def own_Q19 (Z : State) (lb : Addr) (ky : Int32) (kl : ClassId) (es : List Int32) (h0 : Heap) (n0 : Nat) (v : Option Value) (h : Heap) (L : List Loc) : Prop := v = some (.int (own_bsr es ky es.length 0 es.length)) ∧ L = [] ∧ h = h0
set_option maxHeartbeats 40000000 in
theorem own_rm19 (l : Launch) (Z : State) (a0 : Array Value) (hw : ∀ d ∈ tables_1, d.before a0 Z = true) (ws : List Jvm.Cond) (lb : Addr) (ky : Int32) (kl : ClassId) (es : List Int32) (h0 : Heap) (n0 : Nat) (Z0 : n0 ≤ h0.size) (V_l : Arv Z h0 lb kl .int (Int32.ofNat es.length) (es.map Value.int) (.int 0)) (hl7 : es.length ≤ 7) :
    MetFree l own_y13 (head1 (Jvm.Cond.code own_y13 jdk_65_method_57_code 2 (some .int) :: ws) ({ frames := 1, cells := 0, slots := 0, locals := 19 } : Room)) (fun argv U => argv = #[(.ref lb), (.int ky)] ∧ Z.Warmed39 U.vm ∧ U.heap = h0) (fun _ _ _ _ _ => True) (fun _ U o U' => ∃ v L, o = .returned v ∧ own_Q19 Z lb ky kl es h0 n0 v U'.heap L ∧ FrameEnd U o U' L ({ frames := 1, cells := 0, slots := 0, locals := 19 } : Room).cells ({ frames := 1, cells := 0, slots := 0, locals := 19 } : Room).slots) := by
  refine MetFree.of_bodySF (plainFor_of_name own_pn2) hisR ?_
  intro p e s m args below meth c s₁ Bd hml0 hP hK
  obtain ⟨rfl, hZ, hh⟩ := hP
  have hx := Bd.exec
  have hby := Bd.bytes
  have hml : c.maxLocals = 2 := hml0
  have hown : s.vm.findClass "java/util/Arrays" = some m.cls := findClass_of_methodNamed Bd.named
  have hnm := (name_of_methodNamed Bd.named Bd.method).1
  have X0 : Stand p l e ({ frames := 1, cells := 0, slots := 0, locals := 19 } : Room) s m #[(.ref lb), (.int ky)] below meth c s₁ [] 0 0 := Stand.of_body Bd
  have e0 : s₁.heap = h0 := by rw [← hh, Bd.state]; rfl
  have N0 := Fr.nil n0
  have pre_ : own_G p e below (s₁.setTop (entryFrame m #[(.ref lb), (.int ky)] 2)) s₁ m 0 #[rv lb, iv ky] [] := fun t k => castTop (own_ef19 m lb ky) k
  obtain ⟨s0, hs0⟩ : ∃ z, z = (s₁.setTop (entryFrame m #[(.ref lb), (.int ky)] 2)) := ⟨_, rfl⟩
  have pre0 : own_G p e below s0 s₁ m 0 #[rv lb, iv ky] [] := hs0 ▸ pre_
  rw [← hs0]
  have S1 : own_G p e below s0 s₁ m 3 #[rv lb, iv ky] [(.ref lb), (.int 0), (.ref lb)] := fun t kt => by
    refine pre0 t ?_
    refine w_aloadN X0 hx hby d19_0 rfl rfl ?_
    refine w_iconst X0 hx hby d19_1 ?_
    refine w_aloadN X0 hx hby d19_2 rfl rfl ?_
    exact kt
  obtain ⟨cl2, Ar2, -, Sz2, Nn2, -, -⟩ := id V_l
  have S4 : own_G p e below s0 s₁ m 5 #[rv lb, iv ky] [(.int ky), (.int (Int32.ofNat es.length)), (.int 0), (.ref lb)] := fun t kt => by
    refine S1 t ?_
    refine X0.arraylength hx (by rw [e0]; exact Ar2.1) (State.isArrayOf_alike hZ.alike Ar2.2.1) (g := (mkF m 3 #[rv lb, iv ky] [(.ref lb), (.int 0), (.ref lb)])) rfl rfl (hb hby d19_3) _ ?_
    rw [len_of Sz2 Nn2]
    refine w_iloadN X0 hx hby d19_4 rfl ?_
    exact kt
  obtain ⟨_, _, ⟨T5, L5, k5, n5⟩, -, X5, ⟨Lc5, hQ5, l5, y5, z5⟩, st5⟩ := Jvm.LawKit.callS X0 hx (y := own_y10) hown (mvT hZ (own_w hw 105 rfl)) (mvT hZ (own_w hw 106 rfl)) (mvT hZ (own_w hw 85 rfl)) (mvT hZ (own_w hw 107 rfl)) (by decide) (backOf (W := 0) (own_rm20 l Z a0 hw [] (lb) ((Int32.ofNat es.length)) (ky) (kl) (es) h0 n0 Z0 V_l rfl hl7) hZ (own_w hw 107 rfl) (own_w hw 85 rfl) (by decide) (by decide)) (g := (mkF m 5 #[rv lb, iv ky] [(.int ky), (.int (Int32.ofNat es.length)), (.int 0), (.ref lb)])) rfl (by rw [hml]; rfl) (argsL := [(.ref lb), (.int 0), (.int (Int32.ofNat es.length)), (.int ky)]) (rest := []) (lenOf own_pd8 rfl) rfl (by show 2 * 0 + _ ≤ _; exact Nat.le_of_eq rfl) (hb hby d19_5) (fun _ _ => ⟨rfl, e0, (by decide : 0 + 0 ≤ _), (by decide : 0 + 0 ≤ _)⟩)
  dsimp only [Pt.U, Pt.locs, Pt.cells, Pt.slots] at X5 l5 y5 z5 st5 hQ5
  subst l5 y5 z5
  obtain ⟨rfl, rfl, eq3⟩ := hQ5
  try rw [List.append_nil] at X5
  have S6 : own_G p e below s0 T5 m 8 #[rv lb, iv ky] [(.int (own_bsr es ky es.length 0 es.length))] := fun t kt => S4 t (st5 _ kt)
  obtain ⟨fs, hr, hrun, hended, hW, hsame⟩ := X5.leave (v := some (.int (own_bsr es ky es.length 0 es.length))) (fun h => by rw [Bd.returns] at h; cases h)
  refine ⟨_, _, S6 _ ?_, hrun, hended, _, _, rfl, ?_, ⟨_, rfl⟩, hW, hsame.mono (by decide) (by decide)⟩
  · show Steps p.tables e below (T5.setTop (mkF m 8 #[rv lb, iv ky] [(.int (own_bsr es ky es.length 0 es.length))])) _
    exact own_retI X5 hx Bd.returns (hb hby d19_8) hr
  · show own_Q19 Z lb ky kl es h0 n0 _ T5.heap _
    rw [eq3]
    exact ⟨rfl, rfl, rfl⟩
theorem own_pd9 : parseMethodDescriptor "([II)I" = some ⟨[(.array .int), .int], some .int⟩ := by decide +kernel
theorem d18_0 : decode prog_62_method_3_code 0 = .ok (.aload_n 0, 1) := by decide +kernel
theorem d18_1 : decode prog_62_method_3_code 1 = .ok (.getfield 31, 3) := by decide +kernel
theorem d18_4 : decode prog_62_method_3_code 4 = .ok (.iload_n 1, 1) := by decide +kernel
theorem d18_5 : decode prog_62_method_3_code 5 = .ok (.invokestatic 35, 3) := by decide +kernel
theorem d18_8 : decode prog_62_method_3_code 8 = .ok (.istore_n 2, 1) := by decide +kernel
theorem d18_9 : decode prog_62_method_3_code 9 = .ok (.iload_n 2, 1) := by decide +kernel
theorem d18_10 : decode prog_62_method_3_code 10 = .ok (.ifCond .lt 9, 3) := by decide +kernel
theorem d18_13 : decode prog_62_method_3_code 13 = .ok (.iload_n 2, 1) := by decide +kernel
theorem d18_14 : decode prog_62_method_3_code 14 = .ok (.iconst 1, 1) := by decide +kernel
theorem d18_15 : decode prog_62_method_3_code 15 = .ok (.iadd, 1) := by decide +kernel
theorem d18_16 : decode prog_62_method_3_code 16 = .ok (.goto 7, 3) := by decide +kernel
theorem d18_19 : decode prog_62_method_3_code 19 = .ok (.iload_n 2, 1) := by decide +kernel
theorem d18_20 : decode prog_62_method_3_code 20 = .ok (.ineg, 1) := by decide +kernel
theorem d18_21 : decode prog_62_method_3_code 21 = .ok (.iconst 1, 1) := by decide +kernel
theorem d18_22 : decode prog_62_method_3_code 22 = .ok (.isub, 1) := by decide +kernel
theorem d18_23 : decode prog_62_method_3_code 23 = .ok (.ireturn, 1) := by decide +kernel
theorem own_ef18 (m : MethodId) (x0 : Addr) (x1 : Int32) : entryFrame m #[(.ref x0), (.int x1)] 3 = mkF m 0 #[rv x0, iv x1, .unset] [] := by first | (simp [entryFrame, mkF, argsToLocals, Value.category]; done) | rfl
def own_Q18 (Z : State) (a : Addr) (ky : Int32) (lb : Addr) (kl : ClassId) (es : List Int32) (h0 : Heap) (n0 : Nat) (v : Option Value) (h : Heap) (L : List Loc) : Prop := v = some (.int (own_cle ky es)) ∧ L = [] ∧ h = h0
set_option maxHeartbeats 40000000 in
theorem own_rm18 (l : Launch) (Z : State) (a0 : Array Value) (hw : ∀ d ∈ tables_1, d.before a0 Z = true) (ws : List Jvm.Cond) (a : Addr) (ky : Int32) (lb : Addr) (kl : ClassId) (es : List Int32) (h0 : Heap) (n0 : Nat) (Z0 : n0 ≤ h0.size) (F_l : Fld Z h0 a own_s0 "lineStarts" "[I" (.ref lb)) (V_l : Arv Z h0 lb kl .int (Int32.ofNat es.length) (es.map Value.int) (.int 0)) (hso : own_srtd es) (hl7 : es.length ≤ 7) :
    MetFree l own_y4 (head1 (Jvm.Cond.code own_y4 prog_62_method_3_code 3 (some .int) :: ws) ({ frames := 2, cells := 0, slots := 0, locals := 32 } : Room)) (fun argv U => argv = #[(.ref a), (.int ky)] ∧ Z.Warmed39 U.vm ∧ U.heap = h0) (fun _ _ _ _ _ => True) (fun _ U o U' => ∃ v L, o = .returned v ∧ own_Q18 Z a ky lb kl es h0 n0 v U'.heap L ∧ FrameEnd U o U' L ({ frames := 2, cells := 0, slots := 0, locals := 32 } : Room).cells ({ frames := 2, cells := 0, slots := 0, locals := 32 } : Room).slots) := by
  refine MetFree.of_bodySF (plainFor_of_name own_pn3) hisR ?_
  intro p e s m args below meth c s₁ Bd hml0 hP hK
  obtain ⟨rfl, hZ, hh⟩ := hP
  have hx := Bd.exec
  have hby := Bd.bytes
  have hml : c.maxLocals = 3 := hml0
  have hown : s.vm.findClass own_s0 = some m.cls := findClass_of_methodNamed Bd.named
  have hnm := (name_of_methodNamed Bd.named Bd.method).1
  have X0 : Stand p l e ({ frames := 2, cells := 0, slots := 0, locals := 32 } : Room) s m #[(.ref a), (.int ky)] below meth c s₁ [] 0 0 := Stand.of_body Bd
  have e0 : s₁.heap = h0 := by rw [← hh, Bd.state]; rfl
  have N0 := Fr.nil n0
  have pre_ : own_G p e below (s₁.setTop (entryFrame m #[(.ref a), (.int ky)] 3)) s₁ m 0 #[rv a, iv ky, .unset] [] := fun t k => castTop (own_ef18 m a ky) k
  obtain ⟨s0, hs0⟩ : ∃ z, z = (s₁.setTop (entryFrame m #[(.ref a), (.int ky)] 3)) := ⟨_, rfl⟩
  have pre0 : own_G p e below s0 s₁ m 0 #[rv a, iv ky, .unset] [] := hs0 ▸ pre_
  rw [← hs0]
  have S1 : own_G p e below s0 s₁ m 1 #[rv a, iv ky, .unset] [(.ref a)] := fun t kt => by
    refine pre0 t ?_
    refine w_aloadN X0 hx hby d18_0 rfl rfl ?_
    exact kt
  obtain ⟨T2, X2, e2, st2⟩ := getF X0 hx hZ hown (host := "") (Or.inl (own_w hw 92 rfl)) Via.refl e0 F_l (g := (mkF m 1 #[rv a, iv ky, .unset] [(.ref a)])) rfl rfl (hb hby d18_1)
  have S3 : own_G p e below s0 T2 m 4 #[rv a, iv ky, .unset] [(.ref lb)] := fun t kt => S1 t (st2 _ kt)
  have S5 : own_G p e below s0 T2 m 5 #[rv a, iv ky, .unset] [(.int ky), (.ref lb)] := fun t kt => by
    refine S3 t ?_
    refine w_iloadN X2 hx hby d18_4 rfl ?_
    exact kt
  obtain ⟨_, _, ⟨T6, L6, k6, n6⟩, -, X6, ⟨Lc6, hQ6, l6, y6, z6⟩, st6⟩ := Jvm.LawKit.callS X2 hx (y := own_y13) hown (mvT hZ (own_w hw 102 rfl)) (mvT hZ (own_w hw 103 rfl)) (mvT hZ (own_w hw 85 rfl)) (mvT hZ (own_w hw 104 rfl)) (by decide) (backOf (W := 0) (own_rm19 l Z a0 hw [] (lb) (ky) (kl) (es) h0 n0 Z0 V_l hl7) hZ (own_w hw 104 rfl) (own_w hw 85 rfl) (by decide) (by decide)) (g := (mkF m 5 #[rv a, iv ky, .unset] [(.int ky), (.ref lb)])) rfl (by rw [hml]; rfl) (argsL := [(.ref lb), (.int ky)]) (rest := []) (lenOf own_pd9 rfl) rfl (by show 2 * 0 + _ ≤ _; exact Nat.le_of_eq rfl) (hb hby d18_5) (fun _ _ => ⟨rfl, e2, (by decide : 0 + 0 ≤ _), (by decide : 0 + 0 ≤ _)⟩)
  dsimp only [Pt.U, Pt.locs, Pt.cells, Pt.slots] at X6 l6 y6 z6 st6 hQ6
  subst l6 y6 z6
  obtain ⟨rfl, rfl, eq4⟩ := hQ6
  try rw [List.append_nil] at X6
  have S7 : own_G p e below s0 T6 m 8 #[rv a, iv ky, .unset] [(.int (own_bsr es ky es.length 0 es.length))] := fun t kt => S5 t (st6 _ kt)
  have S8 : own_G p e below s0 T6 m 10 #[rv a, iv ky, iv (own_bsr es ky es.length 0 es.length)] [(.int (own_bsr es ky es.length 0 es.length))] := fun t kt => by
    refine S7 t ?_
    refine w_istoreN X6 hx hby d18_8 (l' := #[rv a, iv ky, iv (own_bsr es ky es.length 0 es.length)]) rfl ?_
    refine w_iloadN X6 hx hby d18_9 rfl ?_
    exact kt
  by_cases hc10 : (own_bsr es ky es.length 0 es.length) < (0 : Int32)
  · skip
    have S9 : own_G p e below s0 T6 m 23 #[rv a, iv ky, iv (own_bsr es ky es.length 0 es.length)] [(.int ((-(own_bsr es ky es.length 0 es.length)) - (1 : Int32)))] := fun t kt => by
      refine S8 t ?_
      refine w_ifYes X6 hx hby (pc' := 19) d18_10 ((if0 _ _).trans (tlt hc10).1) (by decide) ?_
      refine w_iloadN X6 hx hby d18_19 rfl ?_
      refine XS.ineg X6.here hx rfl (hb hby d18_20) rfl ?_
      refine w_iconst X6 hx hby d18_21 ?_
      refine w_isub X6 hx hby d18_22 ?_
      exact kt
    obtain ⟨fs, hr, hrun, hended, hW, hsame⟩ := X6.leave (v := some (.int ((-(own_bsr es ky es.length 0 es.length)) - (1 : Int32)))) (fun h => by rw [Bd.returns] at h; cases h)
    refine ⟨_, _, S9 _ ?_, hrun, hended, _, _, rfl, ?_, ⟨_, rfl⟩, hW, hsame.mono (by decide) (by decide)⟩
    · show Steps p.tables e below (T6.setTop (mkF m 23 #[rv a, iv ky, iv (own_bsr es ky es.length 0 es.length)] [(.int ((-(own_bsr es ky es.length 0 es.length)) - (1 : Int32)))])) _
      exact own_retI X6 hx Bd.returns (hb hby d18_23) hr
    · show own_Q18 Z a ky lb kl es h0 n0 _ T6.heap _
      rw [eq4]
      exact ⟨by rw [← own_bsr_ok hso hl7 es.length 0 es.length (by omega) (by omega) (Nat.le_refl _) (fun i q => by omega) (fun i q1 q2 => by omega)]; unfold own_P; rw [if_pos hc10], rfl, rfl⟩
  · skip
    have S10 : own_G p e below s0 T6 m 23 #[rv a, iv ky, iv (own_bsr es ky es.length 0 es.length)] [(.int ((own_bsr es ky es.length 0 es.length) + (1 : Int32)))] := fun t kt => by
      refine S8 t ?_
      refine w_ifNo X6 hx hby d18_10 ((if0 _ _).trans (flt hc10).1) ?_
      refine w_iloadN X6 hx hby d18_13 rfl ?_
      refine w_iconst X6 hx hby d18_14 ?_
      refine w_iadd X6 hx hby d18_15 ?_
      refine w_goto X6 hx hby (pc' := 23) d18_16 (by decide) ?_
      exact kt
    obtain ⟨fs, hr, hrun, hended, hW, hsame⟩ := X6.leave (v := some (.int ((own_bsr es ky es.length 0 es.length) + (1 : Int32)))) (fun h => by rw [Bd.returns] at h; cases h)
    refine ⟨_, _, S10 _ ?_, hrun, hended, _, _, rfl, ?_, ⟨_, rfl⟩, hW, hsame.mono (by decide) (by decide)⟩
    · show Steps p.tables e below (T6.setTop (mkF m 23 #[rv a, iv ky, iv (own_bsr es ky es.length 0 es.length)] [(.int ((own_bsr es ky es.length 0 es.length) + (1 : Int32)))])) _
      exact own_retI X6 hx Bd.returns (hb hby d18_23) hr
    · show own_Q18 Z a ky lb kl es h0 n0 _ T6.heap _
      rw [eq4]
      exact ⟨by rw [← own_bsr_ok hso hl7 es.length 0 es.length (by omega) (by omega) (Nat.le_refl _) (fun i q => by omega) (fun i q1 q2 => by omega)]; unfold own_P; rw [if_neg hc10], rfl, rfl⟩
theorem d22_0 : decode jdk_52_method_21_code 0 = .ok (.iconst 0, 1) := by decide +kernel
theorem d22_1 : decode jdk_52_method_21_code 1 = .ok (.istore 5, 2) := by decide +kernel
theorem d22_3 : decode jdk_52_method_21_code 3 = .ok (.iload 5, 2) := by decide +kernel
theorem d22_5 : decode jdk_52_method_21_code 5 = .ok (.iload 4, 2) := by decide +kernel
theorem d22_7 : decode jdk_52_method_21_code 7 = .ok (.if_icmp .ge 37, 3) := by decide +kernel
theorem d22_10 : decode jdk_52_method_21_code 10 = .ok (.aload_n 0, 1) := by decide +kernel
theorem d22_11 : decode jdk_52_method_21_code 11 = .ok (.iload_n 1, 1) := by decide +kernel
theorem d22_12 : decode jdk_52_method_21_code 12 = .ok (.caload, 1) := by decide +kernel
theorem d22_13 : decode jdk_52_method_21_code 13 = .ok (.istore 6, 2) := by decide +kernel
theorem d22_15 : decode jdk_52_method_21_code 15 = .ok (.iload 6, 2) := by decide +kernel
theorem d22_17 : decode jdk_52_method_21_code 17 = .ok (.sipush 255, 3) := by decide +kernel
theorem d22_20 : decode jdk_52_method_21_code 20 = .ok (.if_icmp .le 6, 3) := by decide +kernel
theorem d22_26 : decode jdk_52_method_21_code 26 = .ok (.aload_n 2, 1) := by decide +kernel
theorem d22_27 : decode jdk_52_method_21_code 27 = .ok (.iload_n 3, 1) := by decide +kernel
theorem d22_28 : decode jdk_52_method_21_code 28 = .ok (.iload 6, 2) := by decide +kernel
theorem d22_30 : decode jdk_52_method_21_code 30 = .ok (.i2b, 1) := by decide +kernel
theorem d22_31 : decode jdk_52_method_21_code 31 = .ok (.bastore, 1) := by decide +kernel
theorem d22_32 : decode jdk_52_method_21_code 32 = .ok (.iinc 1 1, 3) := by decide +kernel
theorem d22_35 : decode jdk_52_method_21_code 35 = .ok (.iinc 3 1, 3) := by decide +kernel
theorem d22_38 : decode jdk_52_method_21_code 38 = .ok (.iinc 5 1, 3) := by decide +kernel
theorem d22_41 : decode jdk_52_method_21_code 41 = .ok (.goto (-38), 3) := by decide +kernel
theorem d22_44 : decode jdk_52_method_21_code 44 = .ok (.iload 4, 2) := by decide +kernel
theorem d22_46 : decode jdk_52_method_21_code 46 = .ok (.ireturn, 1) := by decide +kernel
theorem own_ef22k1 (m : MethodId) (x0 : Addr) (x1 : Int32) (x2 : Addr) (x3 : Int32) (x4 : Int32) : entryFrame m #[(.ref x0), (.int x1), (.ref x2), (.int x3), (.int x4)] 7 = mkF m 0 #[rv x0, iv x1, rv x2, iv x3, iv x4, .unset, .unset] [] := by first | (simp [entryFrame, mkF, argsToLocals, Value.category]; done) | rfl
def own_Q22k1 (Z : State) (b : Addr) (tb : Addr) (c0 : Int32) (kb : ClassId) (kt : ClassId) (h0 : Heap) (n0 : Nat) (v : Option Value) (h : Heap) (L : List Loc) : Prop := v = some (.int 1) ∧ Fr n0 L ∧ Keep h0 h [tb] ∧ Arv Z h tb kt .byte (1 : Int32) [(.int (own_lo c0))] (.int 0)
theorem own_pn4 : plainName "java/lang/StringUTF16" = true := by first | (simp [plainName, overriddenIn]; done) | decide +kernel
set_option maxHeartbeats 40000000 in
theorem own_rm22k1 (l : Launch) (Z : State) (a0 : Array Value) (hw : ∀ d ∈ tables_1, d.before a0 Z = true) (ws : List Jvm.Cond) (b : Addr) (tb : Addr) (c0 : Int32) (kb : ClassId) (kt : ClassId) (h0 : Heap) (n0 : Nat) (Z0 : n0 ≤ h0.size) (V_b : Arv Z h0 b kb .char (1 : Int32) [(.int c0)] (.int 0)) (V_t : Arv Z h0 tb kt .byte (1 : Int32) [(.int 0)] (.int 0)) (g_tb : n0 ≤ tb) (ne_b_tb : b ≠ tb) (hl0 : ¬ (255 : Int32) < c0) :
    MetFree l own_y8 (head1 (Jvm.Cond.code own_y8 jdk_52_method_21_code 7 (some .int) :: ws) ({ frames := 0, cells := 0, slots := 0, locals := 0 } : Room)) (fun argv U => argv = #[(.ref b), (.int 0), (.ref tb), (.int 0), (.int 1)] ∧ Z.Warmed39 U.vm ∧ U.heap = h0) (fun _ _ _ _ _ => True) (fun _ U o U' => ∃ v L, o = .returned v ∧ own_Q22k1 Z b tb c0 kb kt h0 n0 v U'.heap L ∧ FrameEnd U o U' L ({ frames := 0, cells := 0, slots := 0, locals := 0 } : Room).cells ({ frames := 0, cells := 0, slots := 0, locals := 0 } : Room).slots) := by
  refine MetFree.of_bodySF (plainFor_of_name own_pn4) hisR ?_
  intro p e s m args below meth c s₁ Bd hml0 hP hK
  obtain ⟨rfl, hZ, hh⟩ := hP
  have hx := Bd.exec
  have hby := Bd.bytes
  have hml : c.maxLocals = 7 := hml0
  have hown : s.vm.findClass own_s1 = some m.cls := findClass_of_methodNamed Bd.named
  have hnm := (name_of_methodNamed Bd.named Bd.method).1
  have X0 : Stand p l e ({ frames := 0, cells := 0, slots := 0, locals := 0 } : Room) s m #[(.ref b), (.int 0), (.ref tb), (.int 0), (.int 1)] below meth c s₁ [] 0 0 := Stand.of_body Bd
  have e0 : s₁.heap = h0 := by rw [← hh, Bd.state]; rfl
  have N0 := Fr.nil n0
  have pre_ : own_G p e below (s₁.setTop (entryFrame m #[(.ref b), (.int 0), (.ref tb), (.int 0), (.int 1)] 7)) s₁ m 0 #[rv b, iv 0, rv tb, iv 0, iv 1, .unset, .unset] [] := fun t k => castTop (own_ef22k1 m b (0 : Int32) tb (0 : Int32) (1 : Int32)) k
  obtain ⟨s0, hs0⟩ : ∃ z, z = (s₁.setTop (entryFrame m #[(.ref b), (.int 0), (.ref tb), (.int 0), (.int 1)] 7)) := ⟨_, rfl⟩
  have pre0 : own_G p e below s0 s₁ m 0 #[rv b, iv 0, rv tb, iv 0, iv 1, .unset, .unset] [] := hs0 ▸ pre_
  rw [← hs0]
  have S1 : own_G p e below s0 s₁ m 7 #[rv b, iv 0, rv tb, iv 0, iv 1, iv 0, .unset] [(.int 1), (.int 0)] := fun t kt => by
    refine pre0 t ?_
    refine w_iconst X0 hx hby d22_0 ?_
    refine w_istore X0 hx hby d22_1 (l' := #[rv b, iv 0, rv tb, iv 0, iv 1, iv 0, .unset]) rfl ?_
    refine w_iload X0 hx hby d22_3 rfl ?_
    refine w_iload X0 hx hby d22_5 rfl ?_
    exact kt
  have hc7_2 : (0 : Int32) < (1 : Int32) := by decide
  have S4 : own_G p e below s0 s₁ m 12 #[rv b, iv 0, rv tb, iv 0, iv 1, iv 0, .unset] [(.int 0), (.ref b)] := fun t kt => by
    refine S1 t ?_
    refine w_icmpNo X0 hx hby d22_7 (tlt hc7_2).2.1 ?_
    refine w_aloadN X0 hx hby d22_10 rfl rfl ?_
    refine w_iloadN X0 hx hby d22_11 rfl ?_
    exact kt
  obtain ⟨cl3, Ar3, -, Sz3, Nn3, Hh3, -⟩ := id V_b
  have hin3 : ¬ ((0 : Int32) < 0 ∨ cl3.slots.size ≤ ((0 : Int32)).toNatClampNeg) := inb_of Sz3 ⟨by decide, by decide⟩
  have S5 : own_G p e below s0 s₁ m 20 #[rv b, iv 0, rv tb, iv 0, iv 1, iv 0, iv c0] [(.int 255), (.int c0)] := fun t kt => by
    refine S4 t ?_
    refine X0.caload hx (j := (0 : Int32)) (v := (.int c0)) (by rw [e0]; exact Ar3.1) (State.isArrayOf_alike hZ.alike Ar3.2.1) Ar3.2.2 hin3 (Has.at Hh3 hin3 rfl) (g := (mkF m 12 #[rv b, iv 0, rv tb, iv 0, iv 1, iv 0, .unset] [(.int 0), (.ref b)])) rfl rfl (hb hby d22_12) _ ?_
    refine w_istore X0 hx hby d22_13 (l' := #[rv b, iv 0, rv tb, iv 0, iv 1, iv 0, iv c0]) rfl ?_
    refine w_iload X0 hx hby d22_15 rfl ?_
    refine w_sipush X0 hx hby d22_17 ?_
    exact kt
  have hc20_6 : ¬ ((255 : Int32) < c0) := hl0
  have S7 : own_G p e below s0 s₁ m 31 #[rv b, iv 0, rv tb, iv 0, iv 1, iv 0, iv c0] [(.int (c0.toInt8.toInt32)), (.int 0), (.ref tb)] := fun t kt => by
    refine S5 t ?_
    refine w_icmpYes X0 hx hby (pc' := 26) d22_20 (flt hc20_6).2.2.2 (by decide) ?_
    refine w_aloadN X0 hx hby d22_26 rfl rfl ?_
    refine w_iloadN X0 hx hby d22_27 rfl ?_
    refine w_iload X0 hx hby d22_28 rfl ?_
    refine XS.i2b X0.here hx rfl (hb hby d22_30) rfl ?_
    exact kt
  obtain ⟨cl8, Ar8, q8, Sz8, Nn8, Hh8, Gg8⟩ := id V_t
  have hin8 : ¬ ((0 : Int32) < 0 ∨ cl8.slots.size ≤ ((0 : Int32)).toNatClampNeg) := inb_of Sz8 ⟨by decide, by decide⟩
  obtain ⟨T9, h9, X9, e9, W9, st9⟩ := stB X0 hx hZ e0 Ar8 (j := (0 : Int32)) hin8 (g := (mkF m 31 #[rv b, iv 0, rv tb, iv 0, iv 1, iv 0, iv c0] [(.int (c0.toInt8.toInt32)), (.int 0), (.ref tb)])) rfl rfl (hb hby d22_31)
  have S10 : own_G p e below s0 T9 m 32 #[rv b, iv 0, rv tb, iv 0, iv 1, iv 0, iv c0] [] := fun t kt => S7 t (st9 _ kt)
  have V11 := Arv.set Ar8 q8 Sz8 Nn8 Hh8 Gg8 (fits_nar_byte _) W9 0 rfl (Nat.le_of_ble_eq_true rfl)
  have F12 := V_b.other W9 ne_b_tb
  have N13 := Fr.snoc X9 N0 g_tb
  have K14 : Keep h0 h9 [tb] := (Keep.refl h0 [tb]).wr W9 (Or.inl (List.mem_of_getElem? (i := 0) rfl))
  have S15 : own_G p e below s0 T9 m 7 #[rv b, iv 1, rv tb, iv 1, iv 1, iv 1, iv c0] [(.int 1), (.int 1)] := fun t kt => by
    refine S10 t ?_
    refine w_iinc X9 hx hby d22_32 rfl (l' := #[rv b, iv 1, rv tb, iv 0, iv 1, iv 0, iv c0]) rfl ?_
    refine w_iinc X9 hx hby d22_35 rfl (l' := #[rv b, iv 1, rv tb, iv 1, iv 1, iv 0, iv c0]) rfl ?_
    refine w_iinc X9 hx hby d22_38 rfl (l' := #[rv b, iv 1, rv tb, iv 1, iv 1, iv 1, iv c0]) rfl ?_
    refine w_goto X9 hx hby (pc' := 3) d22_41 (by decide) ?_
    refine w_iload X9 hx hby d22_3 rfl ?_
    refine w_iload X9 hx hby d22_5 rfl ?_
    exact kt
  have hc7_16 : ¬ ((1 : Int32) < (1 : Int32)) := by decide
  have S17 : own_G p e below s0 T9 m 46 #[rv b, iv 1, rv tb, iv 1, iv 1, iv 1, iv c0] [(.int 1)] := fun t kt => by
    refine S15 t ?_
    refine w_icmpYes X9 hx hby (pc' := 44) d22_7 (flt hc7_16).2.1 (by decide) ?_
    refine w_iload X9 hx hby d22_44 rfl ?_
    exact kt
  obtain ⟨fs, hr, hrun, hended, hW, hsame⟩ := X9.leave (v := some (.int 1)) (fun h => by rw [Bd.returns] at h; cases h)
  refine ⟨_, _, S17 _ ?_, hrun, hended, _, _, rfl, ?_, ⟨_, rfl⟩, hW, hsame.mono (by decide) (by decide)⟩
  · show Steps p.tables e below (T9.setTop (mkF m 46 #[rv b, iv 1, rv tb, iv 1, iv 1, iv 1, iv c0] [(.int 1)])) _
    exact own_retI X9 hx Bd.returns (hb hby d22_46) hr
  · show own_Q22k1 Z b tb c0 kb kt h0 n0 _ T9.heap _
    rw [e9]
    exact ⟨rfl, N13, K14, (by have q : Arv Z h9 tb kt .byte (1 : Int32) [(.int (nar .byte (c0.toInt8.toInt32)))] (.int 0) := V11; simp only [own_lolo] at q; exact q)⟩
theorem d23_0 : decode jdk_52_method_15_code 0 = .ok (.iload_n 1, 1) := by decide +kernel
theorem d23_1 : decode jdk_52_method_15_code 1 = .ok (.aload_n 0, 1) := by decide +kernel
theorem d23_2 : decode jdk_52_method_15_code 2 = .ok (.arraylength, 1) := by decide +kernel
theorem d23_3 : decode jdk_52_method_15_code 3 = .ok (.isub, 1) := by decide +kernel
theorem d23_4 : decode jdk_52_method_15_code 4 = .ok (.bipush 31, 2) := by decide +kernel
theorem d23_6 : decode jdk_52_method_15_code 6 = .ok (.iushr, 1) := by decide +kernel
theorem d23_7 : decode jdk_52_method_15_code 7 = .ok (.i2b, 1) := by decide +kernel
theorem d23_8 : decode jdk_52_method_15_code 8 = .ok (.ireturn, 1) := by decide +kernel
theorem own_ef23k1 (m : MethodId) (x0 : Addr) (x1 : Int32) : entryFrame m #[(.ref x0), (.int x1)] 2 = mkF m 0 #[rv x0, iv x1] [] := by first | (simp [entryFrame, mkF, argsToLocals, Value.category]; done) | rfl
def own_Q23k1 (Z : State) (tb : Addr) (c0 : Int32) (kt : ClassId) (h0 : Heap) (n0 : Nat) (v : Option Value) (h : Heap) (L : List Loc) : Prop := v = some (.int 0) ∧ L = [] ∧ h = h0
set_option maxHeartbeats 40000000 in
theorem own_rm23k1 (l : Launch) (Z : State) (a0 : Array Value) (hw : ∀ d ∈ tables_1, d.before a0 Z = true) (ws : List Jvm.Cond) (tb : Addr) (c0 : Int32) (kt : ClassId) (h0 : Heap) (n0 : Nat) (Z0 : n0 ≤ h0.size) (V_t : Arv Z h0 tb kt .byte (1 : Int32) [(.int (own_lo c0))] (.int 0)) :
    MetFree l own_y6 (head1 (Jvm.Cond.code own_y6 jdk_52_method_15_code 2 (some .byte) :: ws) ({ frames := 0, cells := 0, slots := 0, locals := 0 } : Room)) (fun argv U => argv = #[(.ref tb), (.int 1)] ∧ Z.Warmed39 U.vm ∧ U.heap = h0) (fun _ _ _ _ _ => True) (fun _ U o U' => ∃ v L, o = .returned v ∧ own_Q23k1 Z tb c0 kt h0 n0 v U'.heap L ∧ FrameEnd U o U' L ({ frames := 0, cells := 0, slots := 0, locals := 0 } : Room).cells ({ frames := 0, cells := 0, slots := 0, locals := 0 } : Room).slots) := by
  refine MetFree.of_bodySF (plainFor_of_name own_pn4) hisR ?_
  intro p e s m args below meth c s₁ Bd hml0 hP hK
  obtain ⟨rfl, hZ, hh⟩ := hP
  have hx := Bd.exec
  have hby := Bd.bytes
  have hml : c.maxLocals = 2 := hml0
  have hown : s.vm.findClass own_s1 = some m.cls := findClass_of_methodNamed Bd.named
  have hnm := (name_of_methodNamed Bd.named Bd.method).1
  have X0 : Stand p l e ({ frames := 0, cells := 0, slots := 0, locals := 0 } : Room) s m #[(.ref tb), (.int 1)] below meth c s₁ [] 0 0 := Stand.of_body Bd
  have e0 : s₁.heap = h0 := by rw [← hh, Bd.state]; rfl
  have N0 := Fr.nil n0
  have pre_ : own_G p e below (s₁.setTop (entryFrame m #[(.ref tb), (.int 1)] 2)) s₁ m 0 #[rv tb, iv 1] [] := fun t k => castTop (own_ef23k1 m tb (1 : Int32)) k
  obtain ⟨s0, hs0⟩ : ∃ z, z = (s₁.setTop (entryFrame m #[(.ref tb), (.int 1)] 2)) := ⟨_, rfl⟩
  have pre0 : own_G p e below s0 s₁ m 0 #[rv tb, iv 1] [] := hs0 ▸ pre_
  rw [← hs0]
  have S1 : own_G p e below s0 s₁ m 2 #[rv tb, iv 1] [(.ref tb), (.int 1)] := fun t kt => by
    refine pre0 t ?_
    refine w_iloadN X0 hx hby d23_0 rfl ?_
    refine w_aloadN X0 hx hby d23_1 rfl rfl ?_
    exact kt
  obtain ⟨cl2, Ar2, -, Sz2, Nn2, -, -⟩ := id V_t
  have S3 : own_G p e below s0 s₁ m 8 #[rv tb, iv 1] [(.int ((0 : Int32).toInt8.toInt32))] := fun t kt => by
    refine S1 t ?_
    refine X0.arraylength hx (by rw [e0]; exact Ar2.1) (State.isArrayOf_alike hZ.alike Ar2.2.1) (g := (mkF m 2 #[rv tb, iv 1] [(.ref tb), (.int 1)])) rfl rfl (hb hby d23_2) _ ?_
    rw [len_of Sz2 Nn2]
    refine w_isub X0 hx hby d23_3 ?_
    refine w_bipush X0 hx hby d23_4 ?_
    refine XS.iushr X0.here hx rfl (hb hby d23_6) rfl ?_
    refine XS.i2b X0.here hx rfl (hb hby d23_7) rfl ?_
    exact kt
  obtain ⟨fs, hr, hrun, hended, hW, hsame⟩ := X0.leave (v := some (.int (nar .byte ((0 : Int32).toInt8.toInt32)))) (fun h => by rw [Bd.returns] at h; cases h)
  refine ⟨_, _, S3 _ ?_, hrun, hended, _, _, rfl, ?_, ⟨_, rfl⟩, hW, hsame.mono (by decide) (by decide)⟩
  · show Steps p.tables e below (s₁.setTop (mkF m 8 #[rv tb, iv 1] [(.int ((0 : Int32).toInt8.toInt32))])) _
    exact retN X0 hx (t := .byte) Bd.returns (by simp) (hb hby d23_8) hr
  · show own_Q23k1 Z tb c0 kt h0 n0 _ s₁.heap _
    rw [e0]
    exact ⟨rfl, rfl, rfl⟩
theorem own_pd10 : parseMethodDescriptor "([CI[BII)I" = some ⟨[(.array .char), .int, (.array .byte), .int, .int], some .int⟩ := by decide +kernel
theorem d21_0 : decode jdk_52_method_16_code 0 = .ok (.iload_n 2, 1) := by decide +kernel
theorem d21_1 : decode jdk_52_method_16_code 1 = .ok (.newarray .byte, 2) := by decide +kernel
theorem d21_3 : decode jdk_52_method_16_code 3 = .ok (.astore_n 3, 1) := by decide +kernel
theorem d21_4 : decode jdk_52_method_16_code 4 = .ok (.aload_n 0, 1) := by decide +kernel
theorem d21_5 : decode jdk_52_method_16_code 5 = .ok (.iload_n 1, 1) := by decide +kernel
theorem d21_6 : decode jdk_52_method_16_code 6 = .ok (.aload_n 3, 1) := by decide +kernel
theorem d21_7 : decode jdk_52_method_16_code 7 = .ok (.iconst 0, 1) := by decide +kernel
theorem d21_8 : decode jdk_52_method_16_code 8 = .ok (.iload_n 2, 1) := by decide +kernel
theorem d21_9 : decode jdk_52_method_16_code 9 = .ok (.invokestatic 115, 3) := by decide +kernel
theorem d21_12 : decode jdk_52_method_16_code 12 = .ok (.istore 4, 2) := by decide +kernel
theorem d21_14 : decode jdk_52_method_16_code 14 = .ok (.iload 4, 2) := by decide +kernel
theorem d21_16 : decode jdk_52_method_16_code 16 = .ok (.iload_n 2, 1) := by decide +kernel
theorem d21_17 : decode jdk_52_method_16_code 17 = .ok (.if_icmp .eq 40, 3) := by decide +kernel
theorem d21_57 : decode jdk_52_method_16_code 57 = .ok (.aload_n 3, 1) := by decide +kernel
theorem d21_58 : decode jdk_52_method_16_code 58 = .ok (.areturn, 1) := by decide +kernel
theorem own_ef21k1 (m : MethodId) (x0 : Addr) (x1 : Int32) (x2 : Int32) : entryFrame m #[(.ref x0), (.int x1), (.int x2)] 6 = mkF m 0 #[rv x0, iv x1, iv x2, .unset, .unset, .unset] [] := by first | (simp [entryFrame, mkF, argsToLocals, Value.category]; done) | rfl
def own_Q21k1 (Z : State) (b : Addr) (c0 : Int32) (kb : ClassId) (h0 : Heap) (n0 : Nat) (v : Option Value) (h : Heap) (L : List Loc) : Prop := ∃ (tb : Addr) (kt : ClassId), v = some (.ref tb) ∧ Fr n0 L ∧ n0 ≤ tb ∧ h0.size ≤ tb ∧ Keep h0 h [] ∧ Arv Z h tb kt .byte (1 : Int32) [(.int (own_lo c0))] (.int 0)
set_option maxHeartbeats 40000000 in
theorem own_rm21k1 (l : Launch) (Z : State) (a0 : Array Value) (hw : ∀ d ∈ tables_1, d.before a0 Z = true) (ws : List Jvm.Cond) (b : Addr) (c0 : Int32) (kb : ClassId) (h0 : Heap) (n0 : Nat) (Z0 : n0 ≤ h0.size) (V_b : Arv Z h0 b kb .char (1 : Int32) [(.int c0)] (.int 0)) (hl0 : ¬ (255 : Int32) < c0) :
    MetFree l own_y11 (head1 (Jvm.Cond.code own_y11 jdk_52_method_16_code 6 (some (.array .byte)) :: ws) ({ frames := 1, cells := 1, slots := 1, locals := 18 } : Room)) (fun argv U => argv = #[(.ref b), (.int 0), (.int 1)] ∧ Z.Warmed39 U.vm ∧ U.heap = h0) (fun _ _ _ _ _ => True) (fun _ U o U' => ∃ v L, o = .returned v ∧ own_Q21k1 Z b c0 kb h0 n0 v U'.heap L ∧ FrameEnd U o U' L ({ frames := 1, cells := 1, slots := 1, locals := 18 } : Room).cells ({ frames := 1, cells := 1, slots := 1, locals := 18 } : Room).slots) := by
  refine MetFree.of_bodySF (plainFor_of_name own_pn4) hisR ?_
  intro p e s m args below meth c s₁ Bd hml0 hP hK
  obtain ⟨rfl, hZ, hh⟩ := hP
  have hx := Bd.exec
  have hby := Bd.bytes
  have hml : c.maxLocals = 6 := hml0
  have hown : s.vm.findClass own_s1 = some m.cls := findClass_of_methodNamed Bd.named
  have hnm := (name_of_methodNamed Bd.named Bd.method).1
  have X0 : Stand p l e ({ frames := 1, cells := 1, slots := 1, locals := 18 } : Room) s m #[(.ref b), (.int 0), (.int 1)] below meth c s₁ [] 0 0 := Stand.of_body Bd
  have e0 : s₁.heap = h0 := by rw [← hh, Bd.state]; rfl
  have N0 := Fr.nil n0
  have pre_ : own_G p e below (s₁.setTop (entryFrame m #[(.ref b), (.int 0), (.int 1)] 6)) s₁ m 0 #[rv b, iv 0, iv 1, .unset, .unset, .unset] [] := fun t k => castTop (own_ef21k1 m b (0 : Int32) (1 : Int32)) k
  obtain ⟨s0, hs0⟩ : ∃ z, z = (s₁.setTop (entryFrame m #[(.ref b), (.int 0), (.int 1)] 6)) := ⟨_, rfl⟩
  have pre0 : own_G p e below s0 s₁ m 0 #[rv b, iv 0, iv 1, .unset, .unset, .unset] [] := hs0 ▸ pre_
  rw [← hs0]
  have S1 : own_G p e below s0 s₁ m 1 #[rv b, iv 0, iv 1, .unset, .unset, .unset] [(.int 1)] := fun t kt => by
    refine pre0 t ?_
    refine w_iloadN X0 hx hby d21_0 rfl ?_
    exact kt
  obtain ⟨T2, h2, k2, X2, e2, E2, A2, st2⟩ := newP X0 hx hZ (own_w hw 11 rfl) e0 (g := (mkF m 1 #[rv b, iv 0, iv 1, .unset, .unset, .unset] [(.int 1)])) rfl (hb hby d21_1) rfl (by decide) (cap := 1) (by decide) (by decide) (by decide) (by decide)
  obtain ⟨b2, g2⟩ : ∃ z, z = h0.size := ⟨_, rfl⟩
  rw [← g2] at A2 st2
  have S3 : own_G p e below s0 T2 m 3 #[rv b, iv 0, iv 1, .unset, .unset, .unset] [(.ref b2)] := fun t kt => S1 t (st2 _ kt)
  have g_b2 : n0 ≤ b2 := Nat.le_trans Z0 (Nat.le_of_eq g2.symm)
  have sz_b2 : h0.size ≤ b2 := Nat.le_trans (Keep.refl h0 []).1 (Nat.le_of_eq g2.symm)
  have ne_b_b2 : b ≠ b2 := Nat.ne_of_lt (Nat.lt_of_lt_of_le V_b.lt (Nat.le_of_eq g2.symm))
  have F4 := V_b.ext E2
  have K5 : Keep h0 h2 [] := (Keep.refl h0 []).ext E2
  have V6 : Arv Z h2 b2 k2 .byte (1 : Int32) [(.int 0)] (.int 0) := (Arv.new A2 (by decide)).pad (pad_rep [] (.int 0) 1)
  have S9 : own_G p e below s0 T2 m 9 #[rv b, iv 0, iv 1, rv b2, .unset, .unset] [(.int 1), (.int 0), (.ref b2), (.int 0), (.ref b)] := fun t kt => by
    refine S3 t ?_
    refine w_astoreN X2 hx hby d21_3 rfl (l' := #[rv b, iv 0, iv 1, rv b2, .unset, .unset]) rfl ?_
    refine w_aloadN X2 hx hby d21_4 rfl rfl ?_
    refine w_iloadN X2 hx hby d21_5 rfl ?_
    refine w_aloadN X2 hx hby d21_6 rfl rfl ?_
    refine w_iconst X2 hx hby d21_7 ?_
    refine w_iloadN X2 hx hby d21_8 rfl ?_
    exact kt
  obtain ⟨_, _, ⟨T10, L10, k10, n10⟩, -, X10, ⟨Lc10, hQ10, l10, y10, z10⟩, st10⟩ := Jvm.LawKit.callS X2 hx (y := own_y8) hown (mvT hZ (own_w hw 112 rfl)) (mvT hZ (own_w hw 113 rfl)) (mvT hZ (own_w hw 110 rfl)) (mvT hZ (own_w hw 114 rfl)) (by decide) (backOf (W := 0) (own_rm22k1 l Z a0 hw [] (b) (b2) (c0) (kb) (k2) h2 n0 (Nat.le_trans Z0 K5.1) F4 V6 g_b2 ne_b_b2 hl0) hZ (own_w hw 114 rfl) (own_w hw 110 rfl) (by decide) (by decide)) (g := (mkF m 9 #[rv b, iv 0, iv 1, rv b2, .unset, .unset] [(.int 1), (.int 0), (.ref b2), (.int 0), (.ref b)])) rfl (by rw [hml]; rfl) (argsL := [(.ref b), (.int 0), (.ref b2), (.int 0), (.int 1)]) (rest := []) (lenOf own_pd10 rfl) rfl (by show 2 * 0 + _ ≤ _; exact Nat.le_of_eq rfl) (hb hby d21_9) (fun _ _ => ⟨rfl, e2, (by decide : 1 + 0 ≤ _), (by decide : 1 + 0 ≤ _)⟩)
  dsimp only [Pt.U, Pt.locs, Pt.cells, Pt.slots] at X10 l10 y10 z10 st10 hQ10
  subst l10 y10 z10
  obtain ⟨rfl, Nq10, Kc7, Vc7⟩ := hQ10
  have N11 := Fr.app N0 Nq10
  have S12 : own_G p e below s0 T10 m 12 #[rv b, iv 0, iv 1, rv b2, .unset, .unset] [(.int 1)] := fun t kt => S9 t (st10 _ kt)
  have F13 := F4.keep Kc7 (ninS ne_b_b2 nin0)
  have K14 : Keep h0 T10.heap [] := K5.trans Kc7 (allS (Or.inr sz_b2) all0)
  have S15 : own_G p e below s0 T10 m 17 #[rv b, iv 0, iv 1, rv b2, iv 1, .unset] [(.int 1), (.int 1)] := fun t kt => by
    refine S12 t ?_
    refine w_istore X10 hx hby d21_12 (l' := #[rv b, iv 0, iv 1, rv b2, iv 1, .unset]) rfl ?_
    refine w_iload X10 hx hby d21_14 rfl ?_
    refine w_iloadN X10 hx hby d21_16 rfl ?_
    exact kt
  have hc17_16 : (1 : Int32) = (1 : Int32) := by decide
  have S17 : own_G p e below s0 T10 m 58 #[rv b, iv 0, iv 1, rv b2, iv 1, .unset] [(.ref b2)] := fun t kt => by
    refine S15 t ?_
    refine w_icmpYes X10 hx hby (pc' := 57) d21_17 (teq hc17_16).1 (by decide) ?_
    refine w_aloadN X10 hx hby d21_57 rfl rfl ?_
    exact kt
  obtain ⟨fs, hr, hrun, hended, hW, hsame⟩ := X10.leave (v := some (.ref b2)) (fun h => by rw [Bd.returns] at h; cases h)
  refine ⟨_, _, S17 _ ?_, hrun, hended, _, _, rfl, ?_, ⟨_, rfl⟩, hW, hsame.mono (by decide) (by decide)⟩
  · show Steps p.tables e below (T10.setTop (mkF m 58 #[rv b, iv 0, iv 1, rv b2, iv 1, .unset] [(.ref b2)])) _
    jvm_step X10.here [X10.here.top, hx, (hb hby d21_58), X10.method', Bd.returns, Value.isRef, FieldType.isReference]
    first | (intro acts; rw [hr _ acts rfl rfl rfl]) | rw [hr _ _ rfl rfl rfl]
    exact Steps.refl _
  · show own_Q21k1 Z b c0 kb h0 n0 _ T10.heap _
    exact ⟨b2, k2, rfl, N11, g_b2, sz_b2, K14, Vc7⟩
theorem own_pd11 : parseMethodDescriptor "([CII)[B" = some ⟨[(.array .char), .int, .int], some (.array .byte)⟩ := by decide +kernel
theorem own_pd12 : parseMethodDescriptor "([BI)B" = some ⟨[(.array .byte), .int], some .byte⟩ := by decide +kernel
theorem d4_0 : decode jdk_42_method_149_code 0 = .ok (.aload_n 0, 1) := by decide +kernel
theorem d4_1 : decode jdk_42_method_149_code 1 = .ok (.invokespecial 1, 3) := by decide +kernel
theorem d4_4 : decode jdk_42_method_149_code 4 = .ok (.iload_n 3, 1) := by decide +kernel
theorem d4_5 : decode jdk_42_method_149_code 5 = .ok (.ifCond .ne 22, 3) := by decide +kernel
theorem d4_27 : decode jdk_42_method_149_code 27 = .ok (.getstatic 38, 3) := by decide +kernel
theorem d4_30 : decode jdk_42_method_149_code 30 = .ok (.ifCond .eq 28, 3) := by decide +kernel
theorem d4_33 : decode jdk_42_method_149_code 33 = .ok (.aload_n 1, 1) := by decide +kernel
theorem d4_34 : decode jdk_42_method_149_code 34 = .ok (.iload_n 2, 1) := by decide +kernel
theorem d4_35 : decode jdk_42_method_149_code 35 = .ok (.iload_n 3, 1) := by decide +kernel
theorem d4_36 : decode jdk_42_method_149_code 36 = .ok (.invokestatic 177, 3) := by decide +kernel
theorem d4_39 : decode jdk_42_method_149_code 39 = .ok (.astore 5, 2) := by decide +kernel
theorem d4_41 : decode jdk_42_method_149_code 41 = .ok (.aload_n 0, 1) := by decide +kernel
theorem d4_42 : decode jdk_42_method_149_code 42 = .ok (.aload 5, 2) := by decide +kernel
theorem d4_44 : decode jdk_42_method_149_code 44 = .ok (.iload_n 3, 1) := by decide +kernel
theorem d4_45 : decode jdk_42_method_149_code 45 = .ok (.invokestatic 47, 3) := by decide +kernel
theorem d4_48 : decode jdk_42_method_149_code 48 = .ok (.putfield 15, 3) := by decide +kernel
theorem d4_51 : decode jdk_42_method_149_code 51 = .ok (.aload_n 0, 1) := by decide +kernel
theorem d4_52 : decode jdk_42_method_149_code 52 = .ok (.aload 5, 2) := by decide +kernel
theorem d4_54 : decode jdk_42_method_149_code 54 = .ok (.putfield 9, 3) := by decide +kernel
theorem d4_57 : decode jdk_42_method_149_code 57 = .ok (.return_, 1) := by decide +kernel
theorem own_ef4k1 (m : MethodId) (x0 : Addr) (x1 : Addr) (x2 : Int32) (x3 : Int32) : entryFrame m #[(.ref x0), (.ref x1), (.int x2), (.int x3), .null] 6 = mkF m 0 #[rv x0, rv x1, iv x2, iv x3, .val .null, .unset] [] := by first | (simp [entryFrame, mkF, argsToLocals, Value.category]; done) | rfl
def own_Q4k1 (Z : State) (a : Addr) (b : Addr) (c0 : Int32) (kb : ClassId) (cs : Int32) (uv : Value) (uc : Value) (h0 : Heap) (n0 : Nat) (v : Option Value) (h : Heap) (L : List Loc) : Prop := v = none ∧ Fr n0 L ∧ Keep h0 h [a] ∧ Exa Z h a "java/lang/String" ∧ Fld Z h a "java/lang/String" "coder" "B" (.int 0) ∧ ∃ (tb : Addr) (kt : ClassId), n0 ≤ tb ∧ h0.size ≤ tb ∧ a ≠ tb ∧ Fld Z h a "java/lang/String" "value" "[B" (.ref tb) ∧ Arv Z h tb kt .byte (1 : Int32) [(.int (own_lo c0))] (.int 0)
set_option maxHeartbeats 40000000 in
theorem own_rm4k1 (l : Launch) (Z : State) (a0 : Array Value) (hw : ∀ d ∈ tables_1, d.before a0 Z = true) (ws : List Jvm.Cond) (a : Addr) (b : Addr) (c0 : Int32) (kb : ClassId) (cs : Int32) (uv : Value) (uc : Value) (h0 : Heap) (n0 : Nat) (Z0 : n0 ≤ h0.size) (E_a : Exa Z h0 a "java/lang/String") (g_a : n0 ≤ a) (F_value : Fld Z h0 a "java/lang/String" "value" "[B" uv) (F_coder : Fld Z h0 a "java/lang/String" "coder" "B" uc) (S_CS : Sta Z h0 "java/lang/String" "COMPACT_STRINGS" "Z" (.int cs)) (hcs : ¬ cs = (0 : Int32)) (V_b : Arv Z h0 b kb .char (1 : Int32) [(.int c0)] (.int 0)) (hl0 : ¬ (255 : Int32) < c0) :
    MetFree l own_y5 (head1 (Jvm.Cond.code own_y5 jdk_42_method_149_code 6 none :: ws) ({ frames := 2, cells := 1, slots := 1, locals := 35 } : Room)) (fun argv U => argv = #[(.ref a), (.ref b), (.int 0), (.int 1), .null] ∧ Z.Warmed39 U.vm ∧ U.heap = h0) (fun _ _ _ _ _ => True) (fun _ U o U' => ∃ v L, o = .returned v ∧ own_Q4k1 Z a b c0 kb cs uv uc h0 n0 v U'.heap L ∧ FrameEnd U o U' L ({ frames := 2, cells := 1, slots := 1, locals := 35 } : Room).cells ({ frames := 2, cells := 1, slots := 1, locals := 35 } : Room).slots) := by
  refine MetFree.of_bodySF (plainFor_of_name own_pn1) hisR ?_
  intro p e s m args below meth c s₁ Bd hml0 hP hK
  obtain ⟨rfl, hZ, hh⟩ := hP
  have hx := Bd.exec
  have hby := Bd.bytes
  have hml : c.maxLocals = 6 := hml0
  have hown : s.vm.findClass "java/lang/String" = some m.cls := findClass_of_methodNamed Bd.named
  have hnm := (name_of_methodNamed Bd.named Bd.method).1
  have X0 : Stand p l e ({ frames := 2, cells := 1, slots := 1, locals := 35 } : Room) s m #[(.ref a), (.ref b), (.int 0), (.int 1), .null] below meth c s₁ [] 0 0 := Stand.of_body Bd
  have e0 : s₁.heap = h0 := by rw [← hh, Bd.state]; rfl
  have N0 := Fr.nil n0
  have pre_ : own_G p e below (s₁.setTop (entryFrame m #[(.ref a), (.ref b), (.int 0), (.int 1), .null] 6)) s₁ m 0 #[rv a, rv b, iv 0, iv 1, .val .null, .unset] [] := fun t k => castTop (own_ef4k1 m a b (0 : Int32) (1 : Int32)) k
  obtain ⟨s0, hs0⟩ : ∃ z, z = (s₁.setTop (entryFrame m #[(.ref a), (.ref b), (.int 0), (.int 1), .null] 6)) := ⟨_, rfl⟩
  have pre0 : own_G p e below s0 s₁ m 0 #[rv a, rv b, iv 0, iv 1, .val .null, .unset] [] := hs0 ▸ pre_
  rw [← hs0]
  have S1 : own_G p e below s0 s₁ m 1 #[rv a, rv b, iv 0, iv 1, .val .null, .unset] [(.ref a)] := fun t kt => by
    refine pre0 t ?_
    refine w_aloadN X0 hx hby d4_0 rfl rfl ?_
    exact kt
  obtain ⟨T2, X2, e2, st2⟩ := initO X0 hx hZ hown (own_w hw 28 rfl) (own_w hw 29 rfl) (own_w hw 30 rfl) e0 (g := (mkF m 1 #[rv a, rv b, iv 0, iv 1, .val .null, .unset] [(.ref a)])) rfl (by rw [hml]; rfl) rfl (hb hby d4_1) (by decide) (W := 0) (by show 2 * 0 + _ ≤ _; exact Nat.le_of_eq rfl) (by decide)
  have S3 : own_G p e below s0 T2 m 4 #[rv a, rv b, iv 0, iv 1, .val .null, .unset] [] := fun t kt => S1 t (st2 _ kt)
  have S4 : own_G p e below s0 T2 m 5 #[rv a, rv b, iv 0, iv 1, .val .null, .unset] [(.int 1)] := fun t kt => by
    refine S3 t ?_
    refine w_iloadN X2 hx hby d4_4 rfl ?_
    exact kt
  have hc5_5 : ¬ ((1 : Int32) = (0 : Int32)) := by decide
  have S6 : own_G p e below s0 T2 m 27 #[rv a, rv b, iv 0, iv 1, .val .null, .unset] [] := fun t kt => by
    refine S4 t ?_
    refine w_ifYes X2 hx hby (pc' := 27) d4_5 ((if0 _ _).trans (feq hc5_5).2) (by decide) ?_
    exact kt
  obtain ⟨T7, X7, e7, st7⟩ := getS2 X2 hx hZ hown (host := "") (Or.inl (own_w hw 58 rfl)) Via.refl e2 S_CS (g := (mkF m 27 #[rv a, rv b, iv 0, iv 1, .val .null, .unset] [])) rfl (hb hby d4_27)
  have S8 : own_G p e below s0 T7 m 30 #[rv a, rv b, iv 0, iv 1, .val .null, .unset] [(.int cs)] := fun t kt => S6 t (st7 _ kt)
  have hc30_9 : ¬ (cs = (0 : Int32)) := hcs
  have S12 : own_G p e below s0 T7 m 36 #[rv a, rv b, iv 0, iv 1, .val .null, .unset] [(.int 1), (.int 0), (.ref b)] := fun t kt => by
    refine S8 t ?_
    refine w_ifNo X7 hx hby d4_30 ((if0 _ _).trans (feq hc30_9).1) ?_
    refine w_aloadN X7 hx hby d4_33 rfl rfl ?_
    refine w_iloadN X7 hx hby d4_34 rfl ?_
    refine w_iloadN X7 hx hby d4_35 rfl ?_
    exact kt
  obtain ⟨_, _, ⟨T13, L13, k13, n13⟩, -, X13, ⟨Lc13, hQ13, l13, y13, z13⟩, st13⟩ := Jvm.LawKit.callS X7 hx (y := own_y11) hown (mvT hZ (own_w hw 108 rfl)) (mvT hZ (own_w hw 109 rfl)) (mvT hZ (own_w hw 110 rfl)) (mvT hZ (own_w hw 111 rfl)) (by decide) (backOf (W := 0) (own_rm21k1 l Z a0 hw [] (b) (c0) (kb) h0 n0 Z0 V_b hl0) hZ (own_w hw 111 rfl) (own_w hw 110 rfl) (by decide) (by decide)) (g := (mkF m 36 #[rv a, rv b, iv 0, iv 1, .val .null, .unset] [(.int 1), (.int 0), (.ref b)])) rfl (by rw [hml]; rfl) (argsL := [(.ref b), (.int 0), (.int 1)]) (rest := []) (lenOf own_pd11 rfl) rfl (by show 2 * 0 + _ ≤ _; exact Nat.le_of_eq rfl) (hb hby d4_36) (fun _ _ => ⟨rfl, e7, (by decide : 0 + 1 ≤ _), (by decide : 0 + 1 ≤ _)⟩)
  dsimp only [Pt.U, Pt.locs, Pt.cells, Pt.slots] at X13 l13 y13 z13 st13 hQ13
  subst l13 y13 z13
  obtain ⟨tb10, kt10, rfl, Nq13, gt10, sz10, Kc10, Vc10⟩ := hQ13
  have N14 := Fr.app N0 Nq13
  have S15 : own_G p e below s0 T13 m 39 #[rv a, rv b, iv 0, iv 1, .val .null, .unset] [(.ref tb10)] := fun t kt => S12 t (st13 _ kt)
  have F16 := E_a.keep Kc10
  have F17 := F_value.keep Kc10 nin0
  have F18 := F_coder.keep Kc10 nin0
  have F19 := own_StaK S_CS Kc10 all0
  have F20 := V_b.keep Kc10 nin0
  have K21 : Keep h0 T13.heap [a] := (Keep.refl h0 [a]).trans Kc10 all0
  have ne_a_tb10 : a ≠ tb10 := Nat.ne_of_lt (Nat.lt_of_lt_of_le E_a.lt sz10)
  have ne_b_tb10 : b ≠ tb10 := Nat.ne_of_lt (Nat.lt_of_lt_of_le V_b.lt sz10)
  have S23 : own_G p e below s0 T13 m 45 #[rv a, rv b, iv 0, iv 1, .val .null, rv tb10] [(.int 1), (.ref tb10), (.ref a)] := fun t kt => by
    refine S15 t ?_
    refine w_astore X13 hx hby d4_39 rfl (l' := #[rv a, rv b, iv 0, iv 1, .val .null, rv tb10]) rfl ?_
    refine w_aloadN X13 hx hby d4_41 rfl rfl ?_
    refine w_aload X13 hx hby d4_42 rfl rfl ?_
    refine w_iloadN X13 hx hby d4_44 rfl ?_
    exact kt
  obtain ⟨_, _, ⟨T24, L24, k24, n24⟩, -, X24, ⟨Lc24, hQ24, l24, y24, z24⟩, st24⟩ := Jvm.LawKit.callS X13 hx (y := own_y6) hown (mvT hZ (own_w hw 115 rfl)) (mvT hZ (own_w hw 116 rfl)) (mvT hZ (own_w hw 110 rfl)) (mvT hZ (own_w hw 117 rfl)) (by decide) (backOf (W := 1) (own_rm23k1 l Z a0 hw [] (tb10) (c0) (kt10) T13.heap n0 (Nat.le_trans Z0 K21.1) Vc10) hZ (own_w hw 117 rfl) (own_w hw 110 rfl) (by decide) (by decide)) (g := (mkF m 45 #[rv a, rv b, iv 0, iv 1, .val .null, rv tb10] [(.int 1), (.ref tb10), (.ref a)])) rfl (by rw [hml]; rfl) (argsL := [(.ref tb10), (.int 1)]) (rest := [(.ref a)]) (lenOf own_pd12 rfl) rfl (by show 2 * 0 + _ ≤ _; exact Nat.le_of_eq rfl) (hb hby d4_45) (fun _ _ => ⟨rfl, rfl, (by decide : 1 + 0 ≤ _), (by decide : 1 + 0 ≤ _)⟩)
  dsimp only [Pt.U, Pt.locs, Pt.cells, Pt.slots] at X24 l24 y24 z24 st24 hQ24
  subst l24 y24 z24
  obtain ⟨rfl, rfl, eq22⟩ := hQ24
  try rw [List.append_nil] at X24
  have S25 : own_G p e below s0 T24 m 48 #[rv a, rv b, iv 0, iv 1, .val .null, rv tb10] [(.int 0), (.ref a)] := fun t kt => S23 t (st24 _ kt)
  obtain ⟨T26, h26, X26, e26, W26, st26⟩ := putFN X24 hx hZ hown (own_w hw 33 rfl) Via.refl (eq22.trans rfl) F18 F16 (Or.inr ⟨(own_w hw 13 rfl), rfl, hnm⟩) (own_w hw 10 rfl) (ty := .byte) (v' := (.int 0)) (by decide) rfl (by decide) (g := (mkF m 48 #[rv a, rv b, iv 0, iv 1, .val .null, rv tb10] [(.int 0), (.ref a)])) rfl rfl (hb hby d4_48)
  have S27 : own_G p e below s0 T26 m 51 #[rv a, rv b, iv 0, iv 1, .val .null, rv tb10] [] := fun t kt => S25 t (st26 _ kt)
  have F28 := F16.wr W26
  have F29 := F17.other W26 (Or.inr (slot_ne (Or.inr (own_w hw 12 rfl)) (Or.inr (own_w hw 13 rfl)) (by decide) (t := (.array .byte)) (t' := .byte) (by decide) (by decide)))
  have F30 := F18.same W26
  have F31 := F19.wr W26
  have F32 := F20.other W26 (Ne.symm (Exa.neArv F16 F20 (own_w hw 10 rfl)))
  have F33 := Vc10.other W26 (Ne.symm ne_a_tb10)
  have N34 := Fr.snoc X26 N14 g_a
  have K35 : Keep h0 h26 [a] := K21.wr W26 (Or.inl (List.mem_of_getElem? (i := 0) rfl))
  have S36 : own_G p e below s0 T26 m 54 #[rv a, rv b, iv 0, iv 1, .val .null, rv tb10] [(.ref tb10), (.ref a)] := fun t kt => by
    refine S27 t ?_
    refine w_aloadN X26 hx hby d4_51 rfl rfl ?_
    refine w_aload X26 hx hby d4_52 rfl rfl ?_
    exact kt
  obtain ⟨T37, h37, X37, e37, W37, st37⟩ := putF X26 hx hZ hown (host := "") (Or.inl (own_w hw 32 rfl)) Via.refl e26 F29 F28 (Or.inr ⟨(own_w hw 12 rfl), rfl, hnm⟩) (own_w hw 10 rfl) (ty := (.array .byte)) (by decide) rfl rfl (g := (mkF m 54 #[rv a, rv b, iv 0, iv 1, .val .null, rv tb10] [(.ref tb10), (.ref a)])) rfl rfl (hb hby d4_54)
  have S38 : own_G p e below s0 T37 m 57 #[rv a, rv b, iv 0, iv 1, .val .null, rv tb10] [] := fun t kt => S36 t (st37 _ kt)
  have F39 := F28.wr W37
  have F40 := F29.same W37
  have F41 := F30.other W37 (Or.inr (slot_ne (Or.inr (own_w hw 13 rfl)) (Or.inr (own_w hw 12 rfl)) (by decide) (t := .byte) (t' := (.array .byte)) (by decide) (by decide)))
  have F42 := F31.wr W37
  have F43 := F32.other W37 (Ne.symm (Exa.neArv F28 F32 (own_w hw 10 rfl)))
  have F44 := F33.other W37 (Ne.symm ne_a_tb10)
  have N45 := Fr.snoc X37 N34 g_a
  have K46 : Keep h0 h37 [a] := K35.wr W37 (Or.inl (List.mem_of_getElem? (i := 0) rfl))
  obtain ⟨fs, hr, hrun, hended, hW, hsame⟩ := X37.leave (v := none) (fun _ => rfl)
  refine ⟨_, _, S38 _ ?_, hrun, hended, _, _, rfl, ?_, ⟨_, rfl⟩, hW, hsame.mono (by decide) (by decide)⟩
  · show Steps p.tables e below (T37.setTop (mkF m 57 #[rv a, rv b, iv 0, iv 1, .val .null, rv tb10] [])) _
    exact X37.returnOut hx Bd.returns (hb hby d4_57) hr
  · show own_Q4k1 Z a b c0 kb cs uv uc h0 n0 _ T37.heap _
    rw [e37]
    exact ⟨rfl, N45, K46, F39, F41, tb10, kt10, gt10, (Nat.le_trans (Keep.refl h0 [a]).1 sz10), ne_a_tb10, F40, F44⟩
theorem own_pd13 : parseMethodDescriptor "([CIILjava/lang/Void;)V" = some ⟨[(.array .char), .int, .int, (.object "java/lang/Void")], none⟩ := by decide +kernel
theorem d3_0 : decode jdk_42_method_3_code 0 = .ok (.aload_n 0, 1) := by decide +kernel
theorem d3_1 : decode jdk_42_method_3_code 1 = .ok (.aload_n 1, 1) := by decide +kernel
theorem d3_2 : decode jdk_42_method_3_code 2 = .ok (.iconst 0, 1) := by decide +kernel
theorem d3_3 : decode jdk_42_method_3_code 3 = .ok (.aload_n 1, 1) := by decide +kernel
theorem d3_4 : decode jdk_42_method_3_code 4 = .ok (.arraylength, 1) := by decide +kernel
theorem d3_5 : decode jdk_42_method_3_code 5 = .ok (.aconst_null, 1) := by decide +kernel
theorem d3_6 : decode jdk_42_method_3_code 6 = .ok (.invokespecial 27, 3) := by decide +kernel
theorem d3_9 : decode jdk_42_method_3_code 9 = .ok (.return_, 1) := by decide +kernel
theorem own_ef3k1 (m : MethodId) (x0 : Addr) (x1 : Addr) : entryFrame m #[(.ref x0), (.ref x1)] 2 = mkF m 0 #[rv x0, rv x1] [] := by first | (simp [entryFrame, mkF, argsToLocals, Value.category]; done) | rfl
def own_Q3k1 (Z : State) (a : Addr) (b : Addr) (c0 : Int32) (kb : ClassId) (cs : Int32) (uv : Value) (uc : Value) (h0 : Heap) (n0 : Nat) (v : Option Value) (h : Heap) (L : List Loc) : Prop := v = none ∧ Fr n0 L ∧ Keep h0 h [a] ∧ Exa Z h a "java/lang/String" ∧ Fld Z h a "java/lang/String" "coder" "B" (.int 0) ∧ ∃ (tb : Addr) (kt : ClassId), n0 ≤ tb ∧ h0.size ≤ tb ∧ a ≠ tb ∧ Fld Z h a "java/lang/String" "value" "[B" (.ref tb) ∧ Arv Z h tb kt .byte (1 : Int32) [(.int (own_lo c0))] (.int 0)
set_option maxHeartbeats 40000000 in
theorem own_rm3k1 (l : Launch) (Z : State) (a0 : Array Value) (hw : ∀ d ∈ tables_1, d.before a0 Z = true) (ws : List Jvm.Cond) (a : Addr) (b : Addr) (c0 : Int32) (kb : ClassId) (cs : Int32) (uv : Value) (uc : Value) (h0 : Heap) (n0 : Nat) (Z0 : n0 ≤ h0.size) (E_a : Exa Z h0 a "java/lang/String") (g_a : n0 ≤ a) (F_value : Fld Z h0 a "java/lang/String" "value" "[B" uv) (F_coder : Fld Z h0 a "java/lang/String" "coder" "B" uc) (S_CS : Sta Z h0 "java/lang/String" "COMPACT_STRINGS" "Z" (.int cs)) (hcs : ¬ cs = (0 : Int32)) (V_b : Arv Z h0 b kb .char (1 : Int32) [(.int c0)] (.int 0)) (hl0 : ¬ (255 : Int32) < c0) :
    MetFree l own_y18 (head1 (Jvm.Cond.code own_y18 jdk_42_method_3_code 2 none :: ws) ({ frames := 3, cells := 1, slots := 1, locals := 52 } : Room)) (fun argv U => argv = #[(.ref a), (.ref b)] ∧ Z.Warmed39 U.vm ∧ U.heap = h0) (fun _ _ _ _ _ => True) (fun _ U o U' => ∃ v L, o = .returned v ∧ own_Q3k1 Z a b c0 kb cs uv uc h0 n0 v U'.heap L ∧ FrameEnd U o U' L ({ frames := 3, cells := 1, slots := 1, locals := 52 } : Room).cells ({ frames := 3, cells := 1, slots := 1, locals := 52 } : Room).slots) := by
  refine MetFree.of_bodySF (plainFor_of_name own_pn1) hisR ?_
  intro p e s m args below meth c s₁ Bd hml0 hP hK
  obtain ⟨rfl, hZ, hh⟩ := hP
  have hx := Bd.exec
  have hby := Bd.bytes
  have hml : c.maxLocals = 2 := hml0
  have hown : s.vm.findClass "java/lang/String" = some m.cls := findClass_of_methodNamed Bd.named
  have hnm := (name_of_methodNamed Bd.named Bd.method).1
  have X0 : Stand p l e ({ frames := 3, cells := 1, slots := 1, locals := 52 } : Room) s m #[(.ref a), (.ref b)] below meth c s₁ [] 0 0 := Stand.of_body Bd
  have e0 : s₁.heap = h0 := by rw [← hh, Bd.state]; rfl
  have N0 := Fr.nil n0
  have pre_ : own_G p e below (s₁.setTop (entryFrame m #[(.ref a), (.ref b)] 2)) s₁ m 0 #[rv a, rv b] [] := fun t k => castTop (own_ef3k1 m a b) k
  obtain ⟨s0, hs0⟩ : ∃ z, z = (s₁.setTop (entryFrame m #[(.ref a), (.ref b)] 2)) := ⟨_, rfl⟩
  have pre0 : own_G p e below s0 s₁ m 0 #[rv a, rv b] [] := hs0 ▸ pre_
  rw [← hs0]
  have S1 : own_G p e below s0 s₁ m 4 #[rv a, rv b] [(.ref b), (.int 0), (.ref b), (.ref a)] := fun t kt => by
    refine pre0 t ?_
    refine w_aloadN X0 hx hby d3_0 rfl rfl ?_
    refine w_aloadN X0 hx hby d3_1 rfl rfl ?_
    refine w_iconst X0 hx hby d3_2 ?_
    refine w_aloadN X0 hx hby d3_3 rfl rfl ?_
    exact kt
  obtain ⟨cl2, Ar2, -, Sz2, Nn2, -, -⟩ := id V_b
  have S5 : own_G p e below s0 s₁ m 6 #[rv a, rv b] [.null, (.int 1), (.int 0), (.ref b), (.ref a)] := fun t kt => by
    refine S1 t ?_
    refine X0.arraylength hx (by rw [e0]; exact Ar2.1) (State.isArrayOf_alike hZ.alike Ar2.2.1) (g := (mkF m 4 #[rv a, rv b] [(.ref b), (.int 0), (.ref b), (.ref a)])) rfl rfl (hb hby d3_4) _ ?_
    rw [len_of Sz2 Nn2]
    refine XS.aconstNull X0.here hx rfl (hb hby d3_5) ?_
    exact kt
  obtain ⟨_, _, ⟨T6, L6, k6, n6⟩, -, X6, ⟨Lc6, hQ6, l6, y6, z6⟩, st6⟩ := X0.specialBack hx (y := own_y5) rfl hown (mvT hZ (own_w hw 24 rfl)) (mvT hZ (own_w hw 25 rfl)) (mvT hZ (own_w hw 27 rfl)) (by decide) (backOf (W := 0) (own_rm4k1 l Z a0 hw [] (a) (b) (c0) (kb) (cs) (uv) (uc) h0 n0 Z0 E_a g_a F_value F_coder S_CS hcs V_b hl0) hZ (own_w hw 27 rfl) (own_w hw 9 rfl) (by decide) (by decide)) (g := (mkF m 6 #[rv a, rv b] [.null, (.int 1), (.int 0), (.ref b), (.ref a)])) rfl (by rw [hml]; rfl) (Steps.refl _) (a := a) (argsL := [(.ref b), (.int 0), (.int 1), .null]) (rest := []) (lenOf own_pd13 rfl) rfl (by show 2 * 0 + _ ≤ _; exact Nat.le_of_eq rfl) (hb hby d3_6) (fun _ _ => ⟨rfl, e0, (by decide : 0 + 1 ≤ _), (by decide : 0 + 1 ≤ _)⟩)
  dsimp only [Pt.U, Pt.locs, Pt.cells, Pt.slots] at X6 l6 y6 z6 st6 hQ6
  subst l6 y6 z6
  obtain ⟨rfl, Nq6, Kc3, Ec3, Cc3, tb3, kt3, gt3, sz3, nat3, Fv3, Va3⟩ := hQ6
  have N7 := Fr.app N0 Nq6
  have S8 : own_G p e below s0 T6 m 9 #[rv a, rv b] [] := fun t kt => S5 t (st6.trans kt)
  have F9 := E_a.keep Kc3
  have F10 := own_StaK S_CS Kc3 (allS (own_ExaS E_a) all0)
  have F11 := V_b.keep Kc3 (ninS (Ne.symm (Exa.neArv E_a V_b (own_w hw 10 rfl))) nin0)
  have K12 : Keep h0 T6.heap [a] := (Keep.refl h0 [a]).trans Kc3 (allS (Or.inl (List.mem_of_getElem? (i := 0) rfl)) all0)
  have ne_b_tb3 : b ≠ tb3 := Nat.ne_of_lt (Nat.lt_of_lt_of_le V_b.lt sz3)
  obtain ⟨fs, hr, hrun, hended, hW, hsame⟩ := X6.leave (v := none) (fun _ => rfl)
  refine ⟨_, _, S8 _ ?_, hrun, hended, _, _, rfl, ?_, ⟨_, rfl⟩, hW, hsame.mono (by decide) (by decide)⟩
  · show Steps p.tables e below (T6.setTop (mkF m 9 #[rv a, rv b] [])) _
    exact X6.returnOut hx Bd.returns (hb hby d3_9) hr
  · show own_Q3k1 Z a b c0 kb cs uv uc h0 n0 _ T6.heap _
    exact ⟨rfl, N7, K12, Ec3, Cc3, tb3, kt3, gt3, (Nat.le_trans (Keep.refl h0 [a]).1 sz3), nat3, Fv3, Va3⟩
theorem own_ef22k2 (m : MethodId) (x0 : Addr) (x1 : Int32) (x2 : Addr) (x3 : Int32) (x4 : Int32) : entryFrame m #[(.ref x0), (.int x1), (.ref x2), (.int x3), (.int x4)] 7 = mkF m 0 #[rv x0, iv x1, rv x2, iv x3, iv x4, .unset, .unset] [] := by first | (simp [entryFrame, mkF, argsToLocals, Value.category]; done) | rfl
def own_Q22k2 (Z : State) (b : Addr) (tb : Addr) (c0 : Int32) (c1 : Int32) (kb : ClassId) (kt : ClassId) (h0 : Heap) (n0 : Nat) (v : Option Value) (h : Heap) (L : List Loc) : Prop := v = some (.int 2) ∧ Fr n0 L ∧ Keep h0 h [tb] ∧ Arv Z h tb kt .byte (2 : Int32) [(.int (own_lo c0)), (.int (own_lo c1))] (.int 0)
set_option maxHeartbeats 40000000 in
theorem own_rm22k2 (l : Launch) (Z : State) (a0 : Array Value) (hw : ∀ d ∈ tables_1, d.before a0 Z = true) (ws : List Jvm.Cond) (b : Addr) (tb : Addr) (c0 : Int32) (c1 : Int32) (kb : ClassId) (kt : ClassId) (h0 : Heap) (n0 : Nat) (Z0 : n0 ≤ h0.size) (V_b : Arv Z h0 b kb .char (2 : Int32) [(.int c0), (.int c1)] (.int 0)) (V_t : Arv Z h0 tb kt .byte (2 : Int32) [(.int 0), (.int 0)] (.int 0)) (g_tb : n0 ≤ tb) (ne_b_tb : b ≠ tb) (hl0 : ¬ (255 : Int32) < c0) (hl1 : ¬ (255 : Int32) < c1) :
    MetFree l own_y8 (head1 (Jvm.Cond.code own_y8 jdk_52_method_21_code 7 (some .int) :: ws) ({ frames := 0, cells := 0, slots := 0, locals := 0 } : Room)) (fun argv U => argv = #[(.ref b), (.int 0), (.ref tb), (.int 0), (.int 2)] ∧ Z.Warmed39 U.vm ∧ U.heap = h0) (fun _ _ _ _ _ => True) (fun _ U o U' => ∃ v L, o = .returned v ∧ own_Q22k2 Z b tb c0 c1 kb kt h0 n0 v U'.heap L ∧ FrameEnd U o U' L ({ frames := 0, cells := 0, slots := 0, locals := 0 } : Room).cells ({ frames := 0, cells := 0, slots := 0, locals := 0 } : Room).slots) := by
  refine MetFree.of_bodySF (plainFor_of_name own_pn4) hisR ?_
  intro p e s m args below meth c s₁ Bd hml0 hP hK
  obtain ⟨rfl, hZ, hh⟩ := hP
  have hx := Bd.exec
  have hby := Bd.bytes
  have hml : c.maxLocals = 7 := hml0
  have hown : s.vm.findClass own_s1 = some m.cls := findClass_of_methodNamed Bd.named
  have hnm := (name_of_methodNamed Bd.named Bd.method).1
  have X0 : Stand p l e ({ frames := 0, cells := 0, slots := 0, locals := 0 } : Room) s m #[(.ref b), (.int 0), (.ref tb), (.int 0), (.int 2)] below meth c s₁ [] 0 0 := Stand.of_body Bd
  have e0 : s₁.heap = h0 := by rw [← hh, Bd.state]; rfl
  have N0 := Fr.nil n0
  have pre_ : own_G p e below (s₁.setTop (entryFrame m #[(.ref b), (.int 0), (.ref tb), (.int 0), (.int 2)] 7)) s₁ m 0 #[rv b, iv 0, rv tb, iv 0, iv 2, .unset, .unset] [] := fun t k => castTop (own_ef22k2 m b (0 : Int32) tb (0 : Int32) (2 : Int32)) k
  obtain ⟨s0, hs0⟩ : ∃ z, z = (s₁.setTop (entryFrame m #[(.ref b), (.int 0), (.ref tb), (.int 0), (.int 2)] 7)) := ⟨_, rfl⟩
  have pre0 : own_G p e below s0 s₁ m 0 #[rv b, iv 0, rv tb, iv 0, iv 2, .unset, .unset] [] := hs0 ▸ pre_
  rw [← hs0]
  have S1 : own_G p e below s0 s₁ m 7 #[rv b, iv 0, rv tb, iv 0, iv 2, iv 0, .unset] [(.int 2), (.int 0)] := fun t kt => by
    refine pre0 t ?_
    refine w_iconst X0 hx hby d22_0 ?_
    refine w_istore X0 hx hby d22_1 (l' := #[rv b, iv 0, rv tb, iv 0, iv 2, iv 0, .unset]) rfl ?_
    refine w_iload X0 hx hby d22_3 rfl ?_
    refine w_iload X0 hx hby d22_5 rfl ?_
    exact kt
  have hc7_2 : (0 : Int32) < (2 : Int32) := by decide
  have S4 : own_G p e below s0 s₁ m 12 #[rv b, iv 0, rv tb, iv 0, iv 2, iv 0, .unset] [(.int 0), (.ref b)] := fun t kt => by
    refine S1 t ?_
    refine w_icmpNo X0 hx hby d22_7 (tlt hc7_2).2.1 ?_
    refine w_aloadN X0 hx hby d22_10 rfl rfl ?_
    refine w_iloadN X0 hx hby d22_11 rfl ?_
    exact kt
  obtain ⟨cl3, Ar3, -, Sz3, Nn3, Hh3, -⟩ := id V_b
  have hin3 : ¬ ((0 : Int32) < 0 ∨ cl3.slots.size ≤ ((0 : Int32)).toNatClampNeg) := inb_of Sz3 ⟨by decide, by decide⟩
  have S5 : own_G p e below s0 s₁ m 20 #[rv b, iv 0, rv tb, iv 0, iv 2, iv 0, iv c0] [(.int 255), (.int c0)] := fun t kt => by
    refine S4 t ?_
    refine X0.caload hx (j := (0 : Int32)) (v := (.int c0)) (by rw [e0]; exact Ar3.1) (State.isArrayOf_alike hZ.alike Ar3.2.1) Ar3.2.2 hin3 (Has.at Hh3 hin3 rfl) (g := (mkF m 12 #[rv b, iv 0, rv tb, iv 0, iv 2, iv 0, .unset] [(.int 0), (.ref b)])) rfl rfl (hb hby d22_12) _ ?_
    refine w_istore X0 hx hby d22_13 (l' := #[rv b, iv 0, rv tb, iv 0, iv 2, iv 0, iv c0]) rfl ?_
    refine w_iload X0 hx hby d22_15 rfl ?_
    refine w_sipush X0 hx hby d22_17 ?_
    exact kt
  have hc20_6 : ¬ ((255 : Int32) < c0) := hl0
  have S7 : own_G p e below s0 s₁ m 31 #[rv b, iv 0, rv tb, iv 0, iv 2, iv 0, iv c0] [(.int (c0.toInt8.toInt32)), (.int 0), (.ref tb)] := fun t kt => by
    refine S5 t ?_
    refine w_icmpYes X0 hx hby (pc' := 26) d22_20 (flt hc20_6).2.2.2 (by decide) ?_
    refine w_aloadN X0 hx hby d22_26 rfl rfl ?_
    refine w_iloadN X0 hx hby d22_27 rfl ?_
    refine w_iload X0 hx hby d22_28 rfl ?_
    refine XS.i2b X0.here hx rfl (hb hby d22_30) rfl ?_
    exact kt
  obtain ⟨cl8, Ar8, q8, Sz8, Nn8, Hh8, Gg8⟩ := id V_t
  have hin8 : ¬ ((0 : Int32) < 0 ∨ cl8.slots.size ≤ ((0 : Int32)).toNatClampNeg) := inb_of Sz8 ⟨by decide, by decide⟩
  obtain ⟨T9, h9, X9, e9, W9, st9⟩ := stB X0 hx hZ e0 Ar8 (j := (0 : Int32)) hin8 (g := (mkF m 31 #[rv b, iv 0, rv tb, iv 0, iv 2, iv 0, iv c0] [(.int (c0.toInt8.toInt32)), (.int 0), (.ref tb)])) rfl rfl (hb hby d22_31)
  have S10 : own_G p e below s0 T9 m 32 #[rv b, iv 0, rv tb, iv 0, iv 2, iv 0, iv c0] [] := fun t kt => S7 t (st9 _ kt)
  have V11 := Arv.set Ar8 q8 Sz8 Nn8 Hh8 Gg8 (fits_nar_byte _) W9 0 rfl (Nat.le_of_ble_eq_true rfl)
  have F12 := V_b.other W9 ne_b_tb
  have N13 := Fr.snoc X9 N0 g_tb
  have K14 : Keep h0 h9 [tb] := (Keep.refl h0 [tb]).wr W9 (Or.inl (List.mem_of_getElem? (i := 0) rfl))
  have S15 : own_G p e below s0 T9 m 7 #[rv b, iv 1, rv tb, iv 1, iv 2, iv 1, iv c0] [(.int 2), (.int 1)] := fun t kt => by
    refine S10 t ?_
    refine w_iinc X9 hx hby d22_32 rfl (l' := #[rv b, iv 1, rv tb, iv 0, iv 2, iv 0, iv c0]) rfl ?_
    refine w_iinc X9 hx hby d22_35 rfl (l' := #[rv b, iv 1, rv tb, iv 1, iv 2, iv 0, iv c0]) rfl ?_
    refine w_iinc X9 hx hby d22_38 rfl (l' := #[rv b, iv 1, rv tb, iv 1, iv 2, iv 1, iv c0]) rfl ?_
    refine w_goto X9 hx hby (pc' := 3) d22_41 (by decide) ?_
    refine w_iload X9 hx hby d22_3 rfl ?_
    refine w_iload X9 hx hby d22_5 rfl ?_
    exact kt
  have hc7_16 : (1 : Int32) < (2 : Int32) := by decide
  have S18 : own_G p e below s0 T9 m 12 #[rv b, iv 1, rv tb, iv 1, iv 2, iv 1, iv c0] [(.int 1), (.ref b)] := fun t kt => by
    refine S15 t ?_
    refine w_icmpNo X9 hx hby d22_7 (tlt hc7_16).2.1 ?_
    refine w_aloadN X9 hx hby d22_10 rfl rfl ?_
    refine w_iloadN X9 hx hby d22_11 rfl ?_
    exact kt
  obtain ⟨cl17, Ar17, -, Sz17, Nn17, Hh17, -⟩ := id F12
  have hin17 : ¬ ((1 : Int32) < 0 ∨ cl17.slots.size ≤ ((1 : Int32)).toNatClampNeg) := inb_of Sz17 ⟨by decide, by decide⟩
  have S19 : own_G p e below s0 T9 m 20 #[rv b, iv 1, rv tb, iv 1, iv 2, iv 1, iv c1] [(.int 255), (.int c1)] := fun t kt => by
    refine S18 t ?_
    refine X9.caload hx (j := (1 : Int32)) (v := (.int c1)) (by rw [e9]; exact Ar17.1) (State.isArrayOf_alike hZ.alike Ar17.2.1) Ar17.2.2 hin17 (Has.at Hh17 hin17 rfl) (g := (mkF m 12 #[rv b, iv 1, rv tb, iv 1, iv 2, iv 1, iv c0] [(.int 1), (.ref b)])) rfl rfl (hb hby d22_12) _ ?_
    refine w_istore X9 hx hby d22_13 (l' := #[rv b, iv 1, rv tb, iv 1, iv 2, iv 1, iv c1]) rfl ?_
    refine w_iload X9 hx hby d22_15 rfl ?_
    refine w_sipush X9 hx hby d22_17 ?_
    exact kt
  have hc20_20 : ¬ ((255 : Int32) < c1) := hl1
  have S21 : own_G p e below s0 T9 m 31 #[rv b, iv 1, rv tb, iv 1, iv 2, iv 1, iv c1] [(.int (c1.toInt8.toInt32)), (.int 1), (.ref tb)] := fun t kt => by
    refine S19 t ?_
    refine w_icmpYes X9 hx hby (pc' := 26) d22_20 (flt hc20_20).2.2.2 (by decide) ?_
    refine w_aloadN X9 hx hby d22_26 rfl rfl ?_
    refine w_iloadN X9 hx hby d22_27 rfl ?_
    refine w_iload X9 hx hby d22_28 rfl ?_
    refine XS.i2b X9.here hx rfl (hb hby d22_30) rfl ?_
    exact kt
  obtain ⟨cl22, Ar22, q22, Sz22, Nn22, Hh22, Gg22⟩ := id V11
  have hin22 : ¬ ((1 : Int32) < 0 ∨ cl22.slots.size ≤ ((1 : Int32)).toNatClampNeg) := inb_of Sz22 ⟨by decide, by decide⟩
  obtain ⟨T23, h23, X23, e23, W23, st23⟩ := stB X9 hx hZ e9 Ar22 (j := (1 : Int32)) hin22 (g := (mkF m 31 #[rv b, iv 1, rv tb, iv 1, iv 2, iv 1, iv c1] [(.int (c1.toInt8.toInt32)), (.int 1), (.ref tb)])) rfl rfl (hb hby d22_31)
  have S24 : own_G p e below s0 T23 m 32 #[rv b, iv 1, rv tb, iv 1, iv 2, iv 1, iv c1] [] := fun t kt => S21 t (st23 _ kt)
  have V25 := Arv.set Ar22 q22 Sz22 Nn22 Hh22 Gg22 (fits_nar_byte _) W23 1 rfl (Nat.le_of_ble_eq_true rfl)
  have F26 := F12.other W23 ne_b_tb
  have N27 := Fr.snoc X23 N13 g_tb
  have K28 : Keep h0 h23 [tb] := K14.wr W23 (Or.inl (List.mem_of_getElem? (i := 0) rfl))
  have S29 : own_G p e below s0 T23 m 7 #[rv b, iv 2, rv tb, iv 2, iv 2, iv 2, iv c1] [(.int 2), (.int 2)] := fun t kt => by
    refine S24 t ?_
    refine w_iinc X23 hx hby d22_32 rfl (l' := #[rv b, iv 2, rv tb, iv 1, iv 2, iv 1, iv c1]) rfl ?_
    refine w_iinc X23 hx hby d22_35 rfl (l' := #[rv b, iv 2, rv tb, iv 2, iv 2, iv 1, iv c1]) rfl ?_
    refine w_iinc X23 hx hby d22_38 rfl (l' := #[rv b, iv 2, rv tb, iv 2, iv 2, iv 2, iv c1]) rfl ?_
    refine w_goto X23 hx hby (pc' := 3) d22_41 (by decide) ?_
    refine w_iload X23 hx hby d22_3 rfl ?_
    refine w_iload X23 hx hby d22_5 rfl ?_
    exact kt
  have hc7_30 : ¬ ((2 : Int32) < (2 : Int32)) := by decide
  have S31 : own_G p e below s0 T23 m 46 #[rv b, iv 2, rv tb, iv 2, iv 2, iv 2, iv c1] [(.int 2)] := fun t kt => by
    refine S29 t ?_
    refine w_icmpYes X23 hx hby (pc' := 44) d22_7 (flt hc7_30).2.1 (by decide) ?_
    refine w_iload X23 hx hby d22_44 rfl ?_
    exact kt
  obtain ⟨fs, hr, hrun, hended, hW, hsame⟩ := X23.leave (v := some (.int 2)) (fun h => by rw [Bd.returns] at h; cases h)
  refine ⟨_, _, S31 _ ?_, hrun, hended, _, _, rfl, ?_, ⟨_, rfl⟩, hW, hsame.mono (by decide) (by decide)⟩
  · show Steps p.tables e below (T23.setTop (mkF m 46 #[rv b, iv 2, rv tb, iv 2, iv 2, iv 2, iv c1] [(.int 2)])) _
    exact own_retI X23 hx Bd.returns (hb hby d22_46) hr
  · show own_Q22k2 Z b tb c0 c1 kb kt h0 n0 _ T23.heap _
    rw [e23]
    exact ⟨rfl, N27, K28, (by have q : Arv Z h23 tb kt .byte (2 : Int32) [(.int (nar .byte (c0.toInt8.toInt32))), (.int (nar .byte (c1.toInt8.toInt32)))] (.int 0) := V25; simp only [own_lolo] at q; exact q)⟩
theorem own_ef23k2 (m : MethodId) (x0 : Addr) (x1 : Int32) : entryFrame m #[(.ref x0), (.int x1)] 2 = mkF m 0 #[rv x0, iv x1] [] := by first | (simp [entryFrame, mkF, argsToLocals, Value.category]; done) | rfl
def own_Q23k2 (Z : State) (tb : Addr) (c0 : Int32) (c1 : Int32) (kt : ClassId) (h0 : Heap) (n0 : Nat) (v : Option Value) (h : Heap) (L : List Loc) : Prop := v = some (.int 0) ∧ L = [] ∧ h = h0
set_option maxHeartbeats 40000000 in
theorem own_rm23k2 (l : Launch) (Z : State) (a0 : Array Value) (hw : ∀ d ∈ tables_1, d.before a0 Z = true) (ws : List Jvm.Cond) (tb : Addr) (c0 : Int32) (c1 : Int32) (kt : ClassId) (h0 : Heap) (n0 : Nat) (Z0 : n0 ≤ h0.size) (V_t : Arv Z h0 tb kt .byte (2 : Int32) [(.int (own_lo c0)), (.int (own_lo c1))] (.int 0)) :
    MetFree l own_y6 (head1 (Jvm.Cond.code own_y6 jdk_52_method_15_code 2 (some .byte) :: ws) ({ frames := 0, cells := 0, slots := 0, locals := 0 } : Room)) (fun argv U => argv = #[(.ref tb), (.int 2)] ∧ Z.Warmed39 U.vm ∧ U.heap = h0) (fun _ _ _ _ _ => True) (fun _ U o U' => ∃ v L, o = .returned v ∧ own_Q23k2 Z tb c0 c1 kt h0 n0 v U'.heap L ∧ FrameEnd U o U' L ({ frames := 0, cells := 0, slots := 0, locals := 0 } : Room).cells ({ frames := 0, cells := 0, slots := 0, locals := 0 } : Room).slots) := by
  refine MetFree.of_bodySF (plainFor_of_name own_pn4) hisR ?_
  intro p e s m args below meth c s₁ Bd hml0 hP hK
  obtain ⟨rfl, hZ, hh⟩ := hP
  have hx := Bd.exec
  have hby := Bd.bytes
  have hml : c.maxLocals = 2 := hml0
  have hown : s.vm.findClass own_s1 = some m.cls := findClass_of_methodNamed Bd.named
  have hnm := (name_of_methodNamed Bd.named Bd.method).1
  have X0 : Stand p l e ({ frames := 0, cells := 0, slots := 0, locals := 0 } : Room) s m #[(.ref tb), (.int 2)] below meth c s₁ [] 0 0 := Stand.of_body Bd
  have e0 : s₁.heap = h0 := by rw [← hh, Bd.state]; rfl
  have N0 := Fr.nil n0
  have pre_ : own_G p e below (s₁.setTop (entryFrame m #[(.ref tb), (.int 2)] 2)) s₁ m 0 #[rv tb, iv 2] [] := fun t k => castTop (own_ef23k2 m tb (2 : Int32)) k
  obtain ⟨s0, hs0⟩ : ∃ z, z = (s₁.setTop (entryFrame m #[(.ref tb), (.int 2)] 2)) := ⟨_, rfl⟩
  have pre0 : own_G p e below s0 s₁ m 0 #[rv tb, iv 2] [] := hs0 ▸ pre_
  rw [← hs0]
  have S1 : own_G p e below s0 s₁ m 2 #[rv tb, iv 2] [(.ref tb), (.int 2)] := fun t kt => by
    refine pre0 t ?_
    refine w_iloadN X0 hx hby d23_0 rfl ?_
    refine w_aloadN X0 hx hby d23_1 rfl rfl ?_
    exact kt
  obtain ⟨cl2, Ar2, -, Sz2, Nn2, -, -⟩ := id V_t
  have S3 : own_G p e below s0 s₁ m 8 #[rv tb, iv 2] [(.int ((0 : Int32).toInt8.toInt32))] := fun t kt => by
    refine S1 t ?_
    refine X0.arraylength hx (by rw [e0]; exact Ar2.1) (State.isArrayOf_alike hZ.alike Ar2.2.1) (g := (mkF m 2 #[rv tb, iv 2] [(.ref tb), (.int 2)])) rfl rfl (hb hby d23_2) _ ?_
    rw [len_of Sz2 Nn2]
    refine w_isub X0 hx hby d23_3 ?_
    refine w_bipush X0 hx hby d23_4 ?_
    refine XS.iushr X0.here hx rfl (hb hby d23_6) rfl ?_
    refine XS.i2b X0.here hx rfl (hb hby d23_7) rfl ?_
    exact kt
  obtain ⟨fs, hr, hrun, hended, hW, hsame⟩ := X0.leave (v := some (.int (nar .byte ((0 : Int32).toInt8.toInt32)))) (fun h => by rw [Bd.returns] at h; cases h)
  refine ⟨_, _, S3 _ ?_, hrun, hended, _, _, rfl, ?_, ⟨_, rfl⟩, hW, hsame.mono (by decide) (by decide)⟩
  · show Steps p.tables e below (s₁.setTop (mkF m 8 #[rv tb, iv 2] [(.int ((0 : Int32).toInt8.toInt32))])) _
    exact retN X0 hx (t := .byte) Bd.returns (by simp) (hb hby d23_8) hr
  · show own_Q23k2 Z tb c0 c1 kt h0 n0 _ s₁.heap _
    rw [e0]
    exact ⟨rfl, rfl, rfl⟩
theorem own_ef21k2 (m : MethodId) (x0 : Addr) (x1 : Int32) (x2 : Int32) : entryFrame m #[(.ref x0), (.int x1), (.int x2)] 6 = mkF m 0 #[rv x0, iv x1, iv x2, .unset, .unset, .unset] [] := by first | (simp [entryFrame, mkF, argsToLocals, Value.category]; done) | rfl
def own_Q21k2 (Z : State) (b : Addr) (c0 : Int32) (c1 : Int32) (kb : ClassId) (h0 : Heap) (n0 : Nat) (v : Option Value) (h : Heap) (L : List Loc) : Prop := ∃ (tb : Addr) (kt : ClassId), v = some (.ref tb) ∧ Fr n0 L ∧ n0 ≤ tb ∧ h0.size ≤ tb ∧ Keep h0 h [] ∧ Arv Z h tb kt .byte (2 : Int32) [(.int (own_lo c0)), (.int (own_lo c1))] (.int 0)
set_option maxHeartbeats 40000000 in
theorem own_rm21k2 (l : Launch) (Z : State) (a0 : Array Value) (hw : ∀ d ∈ tables_1, d.before a0 Z = true) (ws : List Jvm.Cond) (b : Addr) (c0 : Int32) (c1 : Int32) (kb : ClassId) (h0 : Heap) (n0 : Nat) (Z0 : n0 ≤ h0.size) (V_b : Arv Z h0 b kb .char (2 : Int32) [(.int c0), (.int c1)] (.int 0)) (hl0 : ¬ (255 : Int32) < c0) (hl1 : ¬ (255 : Int32) < c1) :
    MetFree l own_y11 (head1 (Jvm.Cond.code own_y11 jdk_52_method_16_code 6 (some (.array .byte)) :: ws) ({ frames := 1, cells := 1, slots := 2, locals := 18 } : Room)) (fun argv U => argv = #[(.ref b), (.int 0), (.int 2)] ∧ Z.Warmed39 U.vm ∧ U.heap = h0) (fun _ _ _ _ _ => True) (fun _ U o U' => ∃ v L, o = .returned v ∧ own_Q21k2 Z b c0 c1 kb h0 n0 v U'.heap L ∧ FrameEnd U o U' L ({ frames := 1, cells := 1, slots := 2, locals := 18 } : Room).cells ({ frames := 1, cells := 1, slots := 2, locals := 18 } : Room).slots) := by
  refine MetFree.of_bodySF (plainFor_of_name own_pn4) hisR ?_
  intro p e s m args below meth c s₁ Bd hml0 hP hK
  obtain ⟨rfl, hZ, hh⟩ := hP
  have hx := Bd.exec
  have hby := Bd.bytes
  have hml : c.maxLocals = 6 := hml0
  have hown : s.vm.findClass own_s1 = some m.cls := findClass_of_methodNamed Bd.named
  have hnm := (name_of_methodNamed Bd.named Bd.method).1
  have X0 : Stand p l e ({ frames := 1, cells := 1, slots := 2, locals := 18 } : Room) s m #[(.ref b), (.int 0), (.int 2)] below meth c s₁ [] 0 0 := Stand.of_body Bd
  have e0 : s₁.heap = h0 := by rw [← hh, Bd.state]; rfl
  have N0 := Fr.nil n0
  have pre_ : own_G p e below (s₁.setTop (entryFrame m #[(.ref b), (.int 0), (.int 2)] 6)) s₁ m 0 #[rv b, iv 0, iv 2, .unset, .unset, .unset] [] := fun t k => castTop (own_ef21k2 m b (0 : Int32) (2 : Int32)) k
  obtain ⟨s0, hs0⟩ : ∃ z, z = (s₁.setTop (entryFrame m #[(.ref b), (.int 0), (.int 2)] 6)) := ⟨_, rfl⟩
  have pre0 : own_G p e below s0 s₁ m 0 #[rv b, iv 0, iv 2, .unset, .unset, .unset] [] := hs0 ▸ pre_
  rw [← hs0]
  have S1 : own_G p e below s0 s₁ m 1 #[rv b, iv 0, iv 2, .unset, .unset, .unset] [(.int 2)] := fun t kt => by
    refine pre0 t ?_
    refine w_iloadN X0 hx hby d21_0 rfl ?_
    exact kt
  obtain ⟨T2, h2, k2, X2, e2, E2, A2, st2⟩ := newP X0 hx hZ (own_w hw 11 rfl) e0 (g := (mkF m 1 #[rv b, iv 0, iv 2, .unset, .unset, .unset] [(.int 2)])) rfl (hb hby d21_1) rfl (by decide) (cap := 2) (by decide) (by decide) (by decide) (by decide)
  obtain ⟨b2, g2⟩ : ∃ z, z = h0.size := ⟨_, rfl⟩
  rw [← g2] at A2 st2
  have S3 : own_G p e below s0 T2 m 3 #[rv b, iv 0, iv 2, .unset, .unset, .unset] [(.ref b2)] := fun t kt => S1 t (st2 _ kt)
  have g_b2 : n0 ≤ b2 := Nat.le_trans Z0 (Nat.le_of_eq g2.symm)
  have sz_b2 : h0.size ≤ b2 := Nat.le_trans (Keep.refl h0 []).1 (Nat.le_of_eq g2.symm)
  have ne_b_b2 : b ≠ b2 := Nat.ne_of_lt (Nat.lt_of_lt_of_le V_b.lt (Nat.le_of_eq g2.symm))
  have F4 := V_b.ext E2
  have K5 : Keep h0 h2 [] := (Keep.refl h0 []).ext E2
  have V6 : Arv Z h2 b2 k2 .byte (2 : Int32) [(.int 0), (.int 0)] (.int 0) := (Arv.new A2 (by decide)).pad (pad_rep [] (.int 0) 2)
  have S9 : own_G p e below s0 T2 m 9 #[rv b, iv 0, iv 2, rv b2, .unset, .unset] [(.int 2), (.int 0), (.ref b2), (.int 0), (.ref b)] := fun t kt => by
    refine S3 t ?_
    refine w_astoreN X2 hx hby d21_3 rfl (l' := #[rv b, iv 0, iv 2, rv b2, .unset, .unset]) rfl ?_
    refine w_aloadN X2 hx hby d21_4 rfl rfl ?_
    refine w_iloadN X2 hx hby d21_5 rfl ?_
    refine w_aloadN X2 hx hby d21_6 rfl rfl ?_
    refine w_iconst X2 hx hby d21_7 ?_
    refine w_iloadN X2 hx hby d21_8 rfl ?_
    exact kt
  obtain ⟨_, _, ⟨T10, L10, k10, n10⟩, -, X10, ⟨Lc10, hQ10, l10, y10, z10⟩, st10⟩ := Jvm.LawKit.callS X2 hx (y := own_y8) hown (mvT hZ (own_w hw 112 rfl)) (mvT hZ (own_w hw 113 rfl)) (mvT hZ (own_w hw 110 rfl)) (mvT hZ (own_w hw 114 rfl)) (by decide) (backOf (W := 0) (own_rm22k2 l Z a0 hw [] (b) (b2) (c0) (c1) (kb) (k2) h2 n0 (Nat.le_trans Z0 K5.1) F4 V6 g_b2 ne_b_b2 hl0 hl1) hZ (own_w hw 114 rfl) (own_w hw 110 rfl) (by decide) (by decide)) (g := (mkF m 9 #[rv b, iv 0, iv 2, rv b2, .unset, .unset] [(.int 2), (.int 0), (.ref b2), (.int 0), (.ref b)])) rfl (by rw [hml]; rfl) (argsL := [(.ref b), (.int 0), (.ref b2), (.int 0), (.int 2)]) (rest := []) (lenOf own_pd10 rfl) rfl (by show 2 * 0 + _ ≤ _; exact Nat.le_of_eq rfl) (hb hby d21_9) (fun _ _ => ⟨rfl, e2, (by decide : 1 + 0 ≤ _), (by decide : 2 + 0 ≤ _)⟩)
  dsimp only [Pt.U, Pt.locs, Pt.cells, Pt.slots] at X10 l10 y10 z10 st10 hQ10
  subst l10 y10 z10
  obtain ⟨rfl, Nq10, Kc7, Vc7⟩ := hQ10
  have N11 := Fr.app N0 Nq10
  have S12 : own_G p e below s0 T10 m 12 #[rv b, iv 0, iv 2, rv b2, .unset, .unset] [(.int 2)] := fun t kt => S9 t (st10 _ kt)
  have F13 := F4.keep Kc7 (ninS ne_b_b2 nin0)
  have K14 : Keep h0 T10.heap [] := K5.trans Kc7 (allS (Or.inr sz_b2) all0)
  have S15 : own_G p e below s0 T10 m 17 #[rv b, iv 0, iv 2, rv b2, iv 2, .unset] [(.int 2), (.int 2)] := fun t kt => by
    refine S12 t ?_
    refine w_istore X10 hx hby d21_12 (l' := #[rv b, iv 0, iv 2, rv b2, iv 2, .unset]) rfl ?_
    refine w_iload X10 hx hby d21_14 rfl ?_
    refine w_iloadN X10 hx hby d21_16 rfl ?_
    exact kt
  have hc17_16 : (2 : Int32) = (2 : Int32) := by decide
  have S17 : own_G p e below s0 T10 m 58 #[rv b, iv 0, iv 2, rv b2, iv 2, .unset] [(.ref b2)] := fun t kt => by
    refine S15 t ?_
    refine w_icmpYes X10 hx hby (pc' := 57) d21_17 (teq hc17_16).1 (by decide) ?_
    refine w_aloadN X10 hx hby d21_57 rfl rfl ?_
    exact kt
  obtain ⟨fs, hr, hrun, hended, hW, hsame⟩ := X10.leave (v := some (.ref b2)) (fun h => by rw [Bd.returns] at h; cases h)
  refine ⟨_, _, S17 _ ?_, hrun, hended, _, _, rfl, ?_, ⟨_, rfl⟩, hW, hsame.mono (by decide) (by decide)⟩
  · show Steps p.tables e below (T10.setTop (mkF m 58 #[rv b, iv 0, iv 2, rv b2, iv 2, .unset] [(.ref b2)])) _
    jvm_step X10.here [X10.here.top, hx, (hb hby d21_58), X10.method', Bd.returns, Value.isRef, FieldType.isReference]
    first | (intro acts; rw [hr _ acts rfl rfl rfl]) | rw [hr _ _ rfl rfl rfl]
    exact Steps.refl _
  · show own_Q21k2 Z b c0 c1 kb h0 n0 _ T10.heap _
    exact ⟨b2, k2, rfl, N11, g_b2, sz_b2, K14, Vc7⟩
theorem own_ef4k2 (m : MethodId) (x0 : Addr) (x1 : Addr) (x2 : Int32) (x3 : Int32) : entryFrame m #[(.ref x0), (.ref x1), (.int x2), (.int x3), .null] 6 = mkF m 0 #[rv x0, rv x1, iv x2, iv x3, .val .null, .unset] [] := by first | (simp [entryFrame, mkF, argsToLocals, Value.category]; done) | rfl
def own_Q4k2 (Z : State) (a : Addr) (b : Addr) (c0 : Int32) (c1 : Int32) (kb : ClassId) (cs : Int32) (uv : Value) (uc : Value) (h0 : Heap) (n0 : Nat) (v : Option Value) (h : Heap) (L : List Loc) : Prop := v = none ∧ Fr n0 L ∧ Keep h0 h [a] ∧ Exa Z h a "java/lang/String" ∧ Fld Z h a "java/lang/String" "coder" "B" (.int 0) ∧ ∃ (tb : Addr) (kt : ClassId), n0 ≤ tb ∧ h0.size ≤ tb ∧ a ≠ tb ∧ Fld Z h a "java/lang/String" "value" "[B" (.ref tb) ∧ Arv Z h tb kt .byte (2 : Int32) [(.int (own_lo c0)), (.int (own_lo c1))] (.int 0)
set_option maxHeartbeats 40000000 in
theorem own_rm4k2 (l : Launch) (Z : State) (a0 : Array Value) (hw : ∀ d ∈ tables_1, d.before a0 Z = true) (ws : List Jvm.Cond) (a : Addr) (b : Addr) (c0 : Int32) (c1 : Int32) (kb : ClassId) (cs : Int32) (uv : Value) (uc : Value) (h0 : Heap) (n0 : Nat) (Z0 : n0 ≤ h0.size) (E_a : Exa Z h0 a "java/lang/String") (g_a : n0 ≤ a) (F_value : Fld Z h0 a "java/lang/String" "value" "[B" uv) (F_coder : Fld Z h0 a "java/lang/String" "coder" "B" uc) (S_CS : Sta Z h0 "java/lang/String" "COMPACT_STRINGS" "Z" (.int cs)) (hcs : ¬ cs = (0 : Int32)) (V_b : Arv Z h0 b kb .char (2 : Int32) [(.int c0), (.int c1)] (.int 0)) (hl0 : ¬ (255 : Int32) < c0) (hl1 : ¬ (255 : Int32) < c1) :
    MetFree l own_y5 (head1 (Jvm.Cond.code own_y5 jdk_42_method_149_code 6 none :: ws) ({ frames := 2, cells := 1, slots := 2, locals := 35 } : Room)) (fun argv U => argv = #[(.ref a), (.ref b), (.int 0), (.int 2), .null] ∧ Z.Warmed39 U.vm ∧ U.heap = h0) (fun _ _ _ _ _ => True) (fun _ U o U' => ∃ v L, o = .returned v ∧ own_Q4k2 Z a b c0 c1 kb cs uv uc h0 n0 v U'.heap L ∧ FrameEnd U o U' L ({ frames := 2, cells := 1, slots := 2, locals := 35 } : Room).cells ({ frames := 2, cells := 1, slots := 2, locals := 35 } : Room).slots) := by
  refine MetFree.of_bodySF (plainFor_of_name own_pn1) hisR ?_
  intro p e s m args below meth c s₁ Bd hml0 hP hK
  obtain ⟨rfl, hZ, hh⟩ := hP
  have hx := Bd.exec
  have hby := Bd.bytes
  have hml : c.maxLocals = 6 := hml0
  have hown : s.vm.findClass "java/lang/String" = some m.cls := findClass_of_methodNamed Bd.named
  have hnm := (name_of_methodNamed Bd.named Bd.method).1
  have X0 : Stand p l e ({ frames := 2, cells := 1, slots := 2, locals := 35 } : Room) s m #[(.ref a), (.ref b), (.int 0), (.int 2), .null] below meth c s₁ [] 0 0 := Stand.of_body Bd
  have e0 : s₁.heap = h0 := by rw [← hh, Bd.state]; rfl
  have N0 := Fr.nil n0
  have pre_ : own_G p e below (s₁.setTop (entryFrame m #[(.ref a), (.ref b), (.int 0), (.int 2), .null] 6)) s₁ m 0 #[rv a, rv b, iv 0, iv 2, .val .null, .unset] [] := fun t k => castTop (own_ef4k2 m a b (0 : Int32) (2 : Int32)) k
  obtain ⟨s0, hs0⟩ : ∃ z, z = (s₁.setTop (entryFrame m #[(.ref a), (.ref b), (.int 0), (.int 2), .null] 6)) := ⟨_, rfl⟩
  have pre0 : own_G p e below s0 s₁ m 0 #[rv a, rv b, iv 0, iv 2, .val .null, .unset] [] := hs0 ▸ pre_
  rw [← hs0]
  have S1 : own_G p e below s0 s₁ m 1 #[rv a, rv b, iv 0, iv 2, .val .null, .unset] [(.ref a)] := fun t kt => by
    refine pre0 t ?_
    refine w_aloadN X0 hx hby d4_0 rfl rfl ?_
    exact kt
  obtain ⟨T2, X2, e2, st2⟩ := initO X0 hx hZ hown (own_w hw 28 rfl) (own_w hw 29 rfl) (own_w hw 30 rfl) e0 (g := (mkF m 1 #[rv a, rv b, iv 0, iv 2, .val .null, .unset] [(.ref a)])) rfl (by rw [hml]; rfl) rfl (hb hby d4_1) (by decide) (W := 0) (by show 2 * 0 + _ ≤ _; exact Nat.le_of_eq rfl) (by decide)
  have S3 : own_G p e below s0 T2 m 4 #[rv a, rv b, iv 0, iv 2, .val .null, .unset] [] := fun t kt => S1 t (st2 _ kt)
  have S4 : own_G p e below s0 T2 m 5 #[rv a, rv b, iv 0, iv 2, .val .null, .unset] [(.int 2)] := fun t kt => by
    refine S3 t ?_
    refine w_iloadN X2 hx hby d4_4 rfl ?_
    exact kt
  have hc5_5 : ¬ ((2 : Int32) = (0 : Int32)) := by decide
  have S6 : own_G p e below s0 T2 m 27 #[rv a, rv b, iv 0, iv 2, .val .null, .unset] [] := fun t kt => by
    refine S4 t ?_
    refine w_ifYes X2 hx hby (pc' := 27) d4_5 ((if0 _ _).trans (feq hc5_5).2) (by decide) ?_
    exact kt
  obtain ⟨T7, X7, e7, st7⟩ := getS2 X2 hx hZ hown (host := "") (Or.inl (own_w hw 58 rfl)) Via.refl e2 S_CS (g := (mkF m 27 #[rv a, rv b, iv 0, iv 2, .val .null, .unset] [])) rfl (hb hby d4_27)
  have S8 : own_G p e below s0 T7 m 30 #[rv a, rv b, iv 0, iv 2, .val .null, .unset] [(.int cs)] := fun t kt => S6 t (st7 _ kt)
  have hc30_9 : ¬ (cs = (0 : Int32)) := hcs
  have S12 : own_G p e below s0 T7 m 36 #[rv a, rv b, iv 0, iv 2, .val .null, .unset] [(.int 2), (.int 0), (.ref b)] := fun t kt => by
    refine S8 t ?_
    refine w_ifNo X7 hx hby d4_30 ((if0 _ _).trans (feq hc30_9).1) ?_
    refine w_aloadN X7 hx hby d4_33 rfl rfl ?_
    refine w_iloadN X7 hx hby d4_34 rfl ?_
    refine w_iloadN X7 hx hby d4_35 rfl ?_
    exact kt
  obtain ⟨_, _, ⟨T13, L13, k13, n13⟩, -, X13, ⟨Lc13, hQ13, l13, y13, z13⟩, st13⟩ := Jvm.LawKit.callS X7 hx (y := own_y11) hown (mvT hZ (own_w hw 108 rfl)) (mvT hZ (own_w hw 109 rfl)) (mvT hZ (own_w hw 110 rfl)) (mvT hZ (own_w hw 111 rfl)) (by decide) (backOf (W := 0) (own_rm21k2 l Z a0 hw [] (b) (c0) (c1) (kb) h0 n0 Z0 V_b hl0 hl1) hZ (own_w hw 111 rfl) (own_w hw 110 rfl) (by decide) (by decide)) (g := (mkF m 36 #[rv a, rv b, iv 0, iv 2, .val .null, .unset] [(.int 2), (.int 0), (.ref b)])) rfl (by rw [hml]; rfl) (argsL := [(.ref b), (.int 0), (.int 2)]) (rest := []) (lenOf own_pd11 rfl) rfl (by show 2 * 0 + _ ≤ _; exact Nat.le_of_eq rfl) (hb hby d4_36) (fun _ _ => ⟨rfl, e7, (by decide : 0 + 1 ≤ _), (by decide : 0 + 2 ≤ _)⟩)
  dsimp only [Pt.U, Pt.locs, Pt.cells, Pt.slots] at X13 l13 y13 z13 st13 hQ13
  subst l13 y13 z13
  obtain ⟨tb10, kt10, rfl, Nq13, gt10, sz10, Kc10, Vc10⟩ := hQ13
  have N14 := Fr.app N0 Nq13
  have S15 : own_G p e below s0 T13 m 39 #[rv a, rv b, iv 0, iv 2, .val .null, .unset] [(.ref tb10)] := fun t kt => S12 t (st13 _ kt)
  have F16 := E_a.keep Kc10
  have F17 := F_value.keep Kc10 nin0
  have F18 := F_coder.keep Kc10 nin0
  have F19 := own_StaK S_CS Kc10 all0
  have F20 := V_b.keep Kc10 nin0
  have K21 : Keep h0 T13.heap [a] := (Keep.refl h0 [a]).trans Kc10 all0
  have ne_a_tb10 : a ≠ tb10 := Nat.ne_of_lt (Nat.lt_of_lt_of_le E_a.lt sz10)
  have ne_b_tb10 : b ≠ tb10 := Nat.ne_of_lt (Nat.lt_of_lt_of_le V_b.lt sz10)
  have S23 : own_G p e below s0 T13 m 45 #[rv a, rv b, iv 0, iv 2, .val .null, rv tb10] [(.int 2), (.ref tb10), (.ref a)] := fun t kt => by
    refine S15 t ?_
    refine w_astore X13 hx hby d4_39 rfl (l' := #[rv a, rv b, iv 0, iv 2, .val .null, rv tb10]) rfl ?_
    refine w_aloadN X13 hx hby d4_41 rfl rfl ?_
    refine w_aload X13 hx hby d4_42 rfl rfl ?_
    refine w_iloadN X13 hx hby d4_44 rfl ?_
    exact kt
  obtain ⟨_, _, ⟨T24, L24, k24, n24⟩, -, X24, ⟨Lc24, hQ24, l24, y24, z24⟩, st24⟩ := Jvm.LawKit.callS X13 hx (y := own_y6) hown (mvT hZ (own_w hw 115 rfl)) (mvT hZ (own_w hw 116 rfl)) (mvT hZ (own_w hw 110 rfl)) (mvT hZ (own_w hw 117 rfl)) (by decide) (backOf (W := 1) (own_rm23k2 l Z a0 hw [] (tb10) (c0) (c1) (kt10) T13.heap n0 (Nat.le_trans Z0 K21.1) Vc10) hZ (own_w hw 117 rfl) (own_w hw 110 rfl) (by decide) (by decide)) (g := (mkF m 45 #[rv a, rv b, iv 0, iv 2, .val .null, rv tb10] [(.int 2), (.ref tb10), (.ref a)])) rfl (by rw [hml]; rfl) (argsL := [(.ref tb10), (.int 2)]) (rest := [(.ref a)]) (lenOf own_pd12 rfl) rfl (by show 2 * 0 + _ ≤ _; exact Nat.le_of_eq rfl) (hb hby d4_45) (fun _ _ => ⟨rfl, rfl, (by decide : 1 + 0 ≤ _), (by decide : 2 + 0 ≤ _)⟩)
  dsimp only [Pt.U, Pt.locs, Pt.cells, Pt.slots] at X24 l24 y24 z24 st24 hQ24
  subst l24 y24 z24
  obtain ⟨rfl, rfl, eq22⟩ := hQ24
  try rw [List.append_nil] at X24
  have S25 : own_G p e below s0 T24 m 48 #[rv a, rv b, iv 0, iv 2, .val .null, rv tb10] [(.int 0), (.ref a)] := fun t kt => S23 t (st24 _ kt)
  obtain ⟨T26, h26, X26, e26, W26, st26⟩ := putFN X24 hx hZ hown (own_w hw 33 rfl) Via.refl (eq22.trans rfl) F18 F16 (Or.inr ⟨(own_w hw 13 rfl), rfl, hnm⟩) (own_w hw 10 rfl) (ty := .byte) (v' := (.int 0)) (by decide) rfl (by decide) (g := (mkF m 48 #[rv a, rv b, iv 0, iv 2, .val .null, rv tb10] [(.int 0), (.ref a)])) rfl rfl (hb hby d4_48)
  have S27 : own_G p e below s0 T26 m 51 #[rv a, rv b, iv 0, iv 2, .val .null, rv tb10] [] := fun t kt => S25 t (st26 _ kt)
  have F28 := F16.wr W26
  have F29 := F17.other W26 (Or.inr (slot_ne (Or.inr (own_w hw 12 rfl)) (Or.inr (own_w hw 13 rfl)) (by decide) (t := (.array .byte)) (t' := .byte) (by decide) (by decide)))
  have F30 := F18.same W26
  have F31 := F19.wr W26
  have F32 := F20.other W26 (Ne.symm (Exa.neArv F16 F20 (own_w hw 10 rfl)))
  have F33 := Vc10.other W26 (Ne.symm ne_a_tb10)
  have N34 := Fr.snoc X26 N14 g_a
  have K35 : Keep h0 h26 [a] := K21.wr W26 (Or.inl (List.mem_of_getElem? (i := 0) rfl))
  have S36 : own_G p e below s0 T26 m 54 #[rv a, rv b, iv 0, iv 2, .val .null, rv tb10] [(.ref tb10), (.ref a)] := fun t kt => by
    refine S27 t ?_
    refine w_aloadN X26 hx hby d4_51 rfl rfl ?_
    refine w_aload X26 hx hby d4_52 rfl rfl ?_
    exact kt
  obtain ⟨T37, h37, X37, e37, W37, st37⟩ := putF X26 hx hZ hown (host := "") (Or.inl (own_w hw 32 rfl)) Via.refl e26 F29 F28 (Or.inr ⟨(own_w hw 12 rfl), rfl, hnm⟩) (own_w hw 10 rfl) (ty := (.array .byte)) (by decide) rfl rfl (g := (mkF m 54 #[rv a, rv b, iv 0, iv 2, .val .null, rv tb10] [(.ref tb10), (.ref a)])) rfl rfl (hb hby d4_54)
  have S38 : own_G p e below s0 T37 m 57 #[rv a, rv b, iv 0, iv 2, .val .null, rv tb10] [] := fun t kt => S36 t (st37 _ kt)
  have F39 := F28.wr W37
  have F40 := F29.same W37
  have F41 := F30.other W37 (Or.inr (slot_ne (Or.inr (own_w hw 13 rfl)) (Or.inr (own_w hw 12 rfl)) (by decide) (t := .byte) (t' := (.array .byte)) (by decide) (by decide)))
  have F42 := F31.wr W37
  have F43 := F32.other W37 (Ne.symm (Exa.neArv F28 F32 (own_w hw 10 rfl)))
  have F44 := F33.other W37 (Ne.symm ne_a_tb10)
  have N45 := Fr.snoc X37 N34 g_a
  have K46 : Keep h0 h37 [a] := K35.wr W37 (Or.inl (List.mem_of_getElem? (i := 0) rfl))
  obtain ⟨fs, hr, hrun, hended, hW, hsame⟩ := X37.leave (v := none) (fun _ => rfl)
  refine ⟨_, _, S38 _ ?_, hrun, hended, _, _, rfl, ?_, ⟨_, rfl⟩, hW, hsame.mono (by decide) (by decide)⟩
  · show Steps p.tables e below (T37.setTop (mkF m 57 #[rv a, rv b, iv 0, iv 2, .val .null, rv tb10] [])) _
    exact X37.returnOut hx Bd.returns (hb hby d4_57) hr
  · show own_Q4k2 Z a b c0 c1 kb cs uv uc h0 n0 _ T37.heap _
    rw [e37]
    exact ⟨rfl, N45, K46, F39, F41, tb10, kt10, gt10, (Nat.le_trans (Keep.refl h0 [a]).1 sz10), ne_a_tb10, F40, F44⟩
theorem own_ef3k2 (m : MethodId) (x0 : Addr) (x1 : Addr) : entryFrame m #[(.ref x0), (.ref x1)] 2 = mkF m 0 #[rv x0, rv x1] [] := by first | (simp [entryFrame, mkF, argsToLocals, Value.category]; done) | rfl
def own_Q3k2 (Z : State) (a : Addr) (b : Addr) (c0 : Int32) (c1 : Int32) (kb : ClassId) (cs : Int32) (uv : Value) (uc : Value) (h0 : Heap) (n0 : Nat) (v : Option Value) (h : Heap) (L : List Loc) : Prop := v = none ∧ Fr n0 L ∧ Keep h0 h [a] ∧ Exa Z h a "java/lang/String" ∧ Fld Z h a "java/lang/String" "coder" "B" (.int 0) ∧ ∃ (tb : Addr) (kt : ClassId), n0 ≤ tb ∧ h0.size ≤ tb ∧ a ≠ tb ∧ Fld Z h a "java/lang/String" "value" "[B" (.ref tb) ∧ Arv Z h tb kt .byte (2 : Int32) [(.int (own_lo c0)), (.int (own_lo c1))] (.int 0)
set_option maxHeartbeats 40000000 in
theorem own_rm3k2 (l : Launch) (Z : State) (a0 : Array Value) (hw : ∀ d ∈ tables_1, d.before a0 Z = true) (ws : List Jvm.Cond) (a : Addr) (b : Addr) (c0 : Int32) (c1 : Int32) (kb : ClassId) (cs : Int32) (uv : Value) (uc : Value) (h0 : Heap) (n0 : Nat) (Z0 : n0 ≤ h0.size) (E_a : Exa Z h0 a "java/lang/String") (g_a : n0 ≤ a) (F_value : Fld Z h0 a "java/lang/String" "value" "[B" uv) (F_coder : Fld Z h0 a "java/lang/String" "coder" "B" uc) (S_CS : Sta Z h0 "java/lang/String" "COMPACT_STRINGS" "Z" (.int cs)) (hcs : ¬ cs = (0 : Int32)) (V_b : Arv Z h0 b kb .char (2 : Int32) [(.int c0), (.int c1)] (.int 0)) (hl0 : ¬ (255 : Int32) < c0) (hl1 : ¬ (255 : Int32) < c1) :
    MetFree l own_y18 (head1 (Jvm.Cond.code own_y18 jdk_42_method_3_code 2 none :: ws) ({ frames := 3, cells := 1, slots := 2, locals := 52 } : Room)) (fun argv U => argv = #[(.ref a), (.ref b)] ∧ Z.Warmed39 U.vm ∧ U.heap = h0) (fun _ _ _ _ _ => True) (fun _ U o U' => ∃ v L, o = .returned v ∧ own_Q3k2 Z a b c0 c1 kb cs uv uc h0 n0 v U'.heap L ∧ FrameEnd U o U' L ({ frames := 3, cells := 1, slots := 2, locals := 52 } : Room).cells ({ frames := 3, cells := 1, slots := 2, locals := 52 } : Room).slots) := by
  refine MetFree.of_bodySF (plainFor_of_name own_pn1) hisR ?_
  intro p e s m args below meth c s₁ Bd hml0 hP hK
  obtain ⟨rfl, hZ, hh⟩ := hP
  have hx := Bd.exec
  have hby := Bd.bytes
  have hml : c.maxLocals = 2 := hml0
  have hown : s.vm.findClass "java/lang/String" = some m.cls := findClass_of_methodNamed Bd.named
  have hnm := (name_of_methodNamed Bd.named Bd.method).1
  have X0 : Stand p l e ({ frames := 3, cells := 1, slots := 2, locals := 52 } : Room) s m #[(.ref a), (.ref b)] below meth c s₁ [] 0 0 := Stand.of_body Bd
  have e0 : s₁.heap = h0 := by rw [← hh, Bd.state]; rfl
  have N0 := Fr.nil n0
  have pre_ : own_G p e below (s₁.setTop (entryFrame m #[(.ref a), (.ref b)] 2)) s₁ m 0 #[rv a, rv b] [] := fun t k => castTop (own_ef3k2 m a b) k
  obtain ⟨s0, hs0⟩ : ∃ z, z = (s₁.setTop (entryFrame m #[(.ref a), (.ref b)] 2)) := ⟨_, rfl⟩
  have pre0 : own_G p e below s0 s₁ m 0 #[rv a, rv b] [] := hs0 ▸ pre_
  rw [← hs0]
  have S1 : own_G p e below s0 s₁ m 4 #[rv a, rv b] [(.ref b), (.int 0), (.ref b), (.ref a)] := fun t kt => by
    refine pre0 t ?_
    refine w_aloadN X0 hx hby d3_0 rfl rfl ?_
    refine w_aloadN X0 hx hby d3_1 rfl rfl ?_
    refine w_iconst X0 hx hby d3_2 ?_
    refine w_aloadN X0 hx hby d3_3 rfl rfl ?_
    exact kt
  obtain ⟨cl2, Ar2, -, Sz2, Nn2, -, -⟩ := id V_b
  have S5 : own_G p e below s0 s₁ m 6 #[rv a, rv b] [.null, (.int 2), (.int 0), (.ref b), (.ref a)] := fun t kt => by
    refine S1 t ?_
    refine X0.arraylength hx (by rw [e0]; exact Ar2.1) (State.isArrayOf_alike hZ.alike Ar2.2.1) (g := (mkF m 4 #[rv a, rv b] [(.ref b), (.int 0), (.ref b), (.ref a)])) rfl rfl (hb hby d3_4) _ ?_
    rw [len_of Sz2 Nn2]
    refine XS.aconstNull X0.here hx rfl (hb hby d3_5) ?_
    exact kt
  obtain ⟨_, _, ⟨T6, L6, k6, n6⟩, -, X6, ⟨Lc6, hQ6, l6, y6, z6⟩, st6⟩ := X0.specialBack hx (y := own_y5) rfl hown (mvT hZ (own_w hw 24 rfl)) (mvT hZ (own_w hw 25 rfl)) (mvT hZ (own_w hw 27 rfl)) (by decide) (backOf (W := 0) (own_rm4k2 l Z a0 hw [] (a) (b) (c0) (c1) (kb) (cs) (uv) (uc) h0 n0 Z0 E_a g_a F_value F_coder S_CS hcs V_b hl0 hl1) hZ (own_w hw 27 rfl) (own_w hw 9 rfl) (by decide) (by decide)) (g := (mkF m 6 #[rv a, rv b] [.null, (.int 2), (.int 0), (.ref b), (.ref a)])) rfl (by rw [hml]; rfl) (Steps.refl _) (a := a) (argsL := [(.ref b), (.int 0), (.int 2), .null]) (rest := []) (lenOf own_pd13 rfl) rfl (by show 2 * 0 + _ ≤ _; exact Nat.le_of_eq rfl) (hb hby d3_6) (fun _ _ => ⟨rfl, e0, (by decide : 0 + 1 ≤ _), (by decide : 0 + 2 ≤ _)⟩)
  dsimp only [Pt.U, Pt.locs, Pt.cells, Pt.slots] at X6 l6 y6 z6 st6 hQ6
  subst l6 y6 z6
  obtain ⟨rfl, Nq6, Kc3, Ec3, Cc3, tb3, kt3, gt3, sz3, nat3, Fv3, Va3⟩ := hQ6
  have N7 := Fr.app N0 Nq6
  have S8 : own_G p e below s0 T6 m 9 #[rv a, rv b] [] := fun t kt => S5 t (st6.trans kt)
  have F9 := E_a.keep Kc3
  have F10 := own_StaK S_CS Kc3 (allS (own_ExaS E_a) all0)
  have F11 := V_b.keep Kc3 (ninS (Ne.symm (Exa.neArv E_a V_b (own_w hw 10 rfl))) nin0)
  have K12 : Keep h0 T6.heap [a] := (Keep.refl h0 [a]).trans Kc3 (allS (Or.inl (List.mem_of_getElem? (i := 0) rfl)) all0)
  have ne_b_tb3 : b ≠ tb3 := Nat.ne_of_lt (Nat.lt_of_lt_of_le V_b.lt sz3)
  obtain ⟨fs, hr, hrun, hended, hW, hsame⟩ := X6.leave (v := none) (fun _ => rfl)
  refine ⟨_, _, S8 _ ?_, hrun, hended, _, _, rfl, ?_, ⟨_, rfl⟩, hW, hsame.mono (by decide) (by decide)⟩
  · show Steps p.tables e below (T6.setTop (mkF m 9 #[rv a, rv b] [])) _
    exact X6.returnOut hx Bd.returns (hb hby d3_9) hr
  · show own_Q3k2 Z a b c0 c1 kb cs uv uc h0 n0 _ T6.heap _
    exact ⟨rfl, N7, K12, Ec3, Cc3, tb3, kt3, gt3, (Nat.le_trans (Keep.refl h0 [a]).1 sz3), nat3, Fv3, Va3⟩
theorem own_ef22k3 (m : MethodId) (x0 : Addr) (x1 : Int32) (x2 : Addr) (x3 : Int32) (x4 : Int32) : entryFrame m #[(.ref x0), (.int x1), (.ref x2), (.int x3), (.int x4)] 7 = mkF m 0 #[rv x0, iv x1, rv x2, iv x3, iv x4, .unset, .unset] [] := by first | (simp [entryFrame, mkF, argsToLocals, Value.category]; done) | rfl
def own_Q22k3 (Z : State) (b : Addr) (tb : Addr) (c0 : Int32) (c1 : Int32) (c2 : Int32) (kb : ClassId) (kt : ClassId) (h0 : Heap) (n0 : Nat) (v : Option Value) (h : Heap) (L : List Loc) : Prop := v = some (.int 3) ∧ Fr n0 L ∧ Keep h0 h [tb] ∧ Arv Z h tb kt .byte (3 : Int32) [(.int (own_lo c0)), (.int (own_lo c1)), (.int (own_lo c2))] (.int 0)
set_option maxHeartbeats 40000000 in
theorem own_rm22k3 (l : Launch) (Z : State) (a0 : Array Value) (hw : ∀ d ∈ tables_1, d.before a0 Z = true) (ws : List Jvm.Cond) (b : Addr) (tb : Addr) (c0 : Int32) (c1 : Int32) (c2 : Int32) (kb : ClassId) (kt : ClassId) (h0 : Heap) (n0 : Nat) (Z0 : n0 ≤ h0.size) (V_b : Arv Z h0 b kb .char (3 : Int32) [(.int c0), (.int c1), (.int c2)] (.int 0)) (V_t : Arv Z h0 tb kt .byte (3 : Int32) [(.int 0), (.int 0), (.int 0)] (.int 0)) (g_tb : n0 ≤ tb) (ne_b_tb : b ≠ tb) (hl0 : ¬ (255 : Int32) < c0) (hl1 : ¬ (255 : Int32) < c1) (hl2 : ¬ (255 : Int32) < c2) :
    MetFree l own_y8 (head1 (Jvm.Cond.code own_y8 jdk_52_method_21_code 7 (some .int) :: ws) ({ frames := 0, cells := 0, slots := 0, locals := 0 } : Room)) (fun argv U => argv = #[(.ref b), (.int 0), (.ref tb), (.int 0), (.int 3)] ∧ Z.Warmed39 U.vm ∧ U.heap = h0) (fun _ _ _ _ _ => True) (fun _ U o U' => ∃ v L, o = .returned v ∧ own_Q22k3 Z b tb c0 c1 c2 kb kt h0 n0 v U'.heap L ∧ FrameEnd U o U' L ({ frames := 0, cells := 0, slots := 0, locals := 0 } : Room).cells ({ frames := 0, cells := 0, slots := 0, locals := 0 } : Room).slots) := by
  refine MetFree.of_bodySF (plainFor_of_name own_pn4) hisR ?_
  intro p e s m args below meth c s₁ Bd hml0 hP hK
  obtain ⟨rfl, hZ, hh⟩ := hP
  have hx := Bd.exec
  have hby := Bd.bytes
  have hml : c.maxLocals = 7 := hml0
  have hown : s.vm.findClass own_s1 = some m.cls := findClass_of_methodNamed Bd.named
  have hnm := (name_of_methodNamed Bd.named Bd.method).1
  have X0 : Stand p l e ({ frames := 0, cells := 0, slots := 0, locals := 0 } : Room) s m #[(.ref b), (.int 0), (.ref tb), (.int 0), (.int 3)] below meth c s₁ [] 0 0 := Stand.of_body Bd
  have e0 : s₁.heap = h0 := by rw [← hh, Bd.state]; rfl
  have N0 := Fr.nil n0
  have pre_ : own_G p e below (s₁.setTop (entryFrame m #[(.ref b), (.int 0), (.ref tb), (.int 0), (.int 3)] 7)) s₁ m 0 #[rv b, iv 0, rv tb, iv 0, iv 3, .unset, .unset] [] := fun t k => castTop (own_ef22k3 m b (0 : Int32) tb (0 : Int32) (3 : Int32)) k
  obtain ⟨s0, hs0⟩ : ∃ z, z = (s₁.setTop (entryFrame m #[(.ref b), (.int 0), (.ref tb), (.int 0), (.int 3)] 7)) := ⟨_, rfl⟩
  have pre0 : own_G p e below s0 s₁ m 0 #[rv b, iv 0, rv tb, iv 0, iv 3, .unset, .unset] [] := hs0 ▸ pre_
  rw [← hs0]
  have S1 : own_G p e below s0 s₁ m 7 #[rv b, iv 0, rv tb, iv 0, iv 3, iv 0, .unset] [(.int 3), (.int 0)] := fun t kt => by
    refine pre0 t ?_
    refine w_iconst X0 hx hby d22_0 ?_
    refine w_istore X0 hx hby d22_1 (l' := #[rv b, iv 0, rv tb, iv 0, iv 3, iv 0, .unset]) rfl ?_
    refine w_iload X0 hx hby d22_3 rfl ?_
    refine w_iload X0 hx hby d22_5 rfl ?_
    exact kt
  have hc7_2 : (0 : Int32) < (3 : Int32) := by decide
  have S4 : own_G p e below s0 s₁ m 12 #[rv b, iv 0, rv tb, iv 0, iv 3, iv 0, .unset] [(.int 0), (.ref b)] := fun t kt => by
    refine S1 t ?_
    refine w_icmpNo X0 hx hby d22_7 (tlt hc7_2).2.1 ?_
    refine w_aloadN X0 hx hby d22_10 rfl rfl ?_
    refine w_iloadN X0 hx hby d22_11 rfl ?_
    exact kt
  obtain ⟨cl3, Ar3, -, Sz3, Nn3, Hh3, -⟩ := id V_b
  have hin3 : ¬ ((0 : Int32) < 0 ∨ cl3.slots.size ≤ ((0 : Int32)).toNatClampNeg) := inb_of Sz3 ⟨by decide, by decide⟩
  have S5 : own_G p e below s0 s₁ m 20 #[rv b, iv 0, rv tb, iv 0, iv 3, iv 0, iv c0] [(.int 255), (.int c0)] := fun t kt => by
    refine S4 t ?_
    refine X0.caload hx (j := (0 : Int32)) (v := (.int c0)) (by rw [e0]; exact Ar3.1) (State.isArrayOf_alike hZ.alike Ar3.2.1) Ar3.2.2 hin3 (Has.at Hh3 hin3 rfl) (g := (mkF m 12 #[rv b, iv 0, rv tb, iv 0, iv 3, iv 0, .unset] [(.int 0), (.ref b)])) rfl rfl (hb hby d22_12) _ ?_
    refine w_istore X0 hx hby d22_13 (l' := #[rv b, iv 0, rv tb, iv 0, iv 3, iv 0, iv c0]) rfl ?_
    refine w_iload X0 hx hby d22_15 rfl ?_
    refine w_sipush X0 hx hby d22_17 ?_
    exact kt
  have hc20_6 : ¬ ((255 : Int32) < c0) := hl0
  have S7 : own_G p e below s0 s₁ m 31 #[rv b, iv 0, rv tb, iv 0, iv 3, iv 0, iv c0] [(.int (c0.toInt8.toInt32)), (.int 0), (.ref tb)] := fun t kt => by
    refine S5 t ?_
    refine w_icmpYes X0 hx hby (pc' := 26) d22_20 (flt hc20_6).2.2.2 (by decide) ?_
    refine w_aloadN X0 hx hby d22_26 rfl rfl ?_
    refine w_iloadN X0 hx hby d22_27 rfl ?_
    refine w_iload X0 hx hby d22_28 rfl ?_
    refine XS.i2b X0.here hx rfl (hb hby d22_30) rfl ?_
    exact kt
  obtain ⟨cl8, Ar8, q8, Sz8, Nn8, Hh8, Gg8⟩ := id V_t
  have hin8 : ¬ ((0 : Int32) < 0 ∨ cl8.slots.size ≤ ((0 : Int32)).toNatClampNeg) := inb_of Sz8 ⟨by decide, by decide⟩
  obtain ⟨T9, h9, X9, e9, W9, st9⟩ := stB X0 hx hZ e0 Ar8 (j := (0 : Int32)) hin8 (g := (mkF m 31 #[rv b, iv 0, rv tb, iv 0, iv 3, iv 0, iv c0] [(.int (c0.toInt8.toInt32)), (.int 0), (.ref tb)])) rfl rfl (hb hby d22_31)
  have S10 : own_G p e below s0 T9 m 32 #[rv b, iv 0, rv tb, iv 0, iv 3, iv 0, iv c0] [] := fun t kt => S7 t (st9 _ kt)
  have V11 := Arv.set Ar8 q8 Sz8 Nn8 Hh8 Gg8 (fits_nar_byte _) W9 0 rfl (Nat.le_of_ble_eq_true rfl)
  have F12 := V_b.other W9 ne_b_tb
  have N13 := Fr.snoc X9 N0 g_tb
  have K14 : Keep h0 h9 [tb] := (Keep.refl h0 [tb]).wr W9 (Or.inl (List.mem_of_getElem? (i := 0) rfl))
  have S15 : own_G p e below s0 T9 m 7 #[rv b, iv 1, rv tb, iv 1, iv 3, iv 1, iv c0] [(.int 3), (.int 1)] := fun t kt => by
    refine S10 t ?_
    refine w_iinc X9 hx hby d22_32 rfl (l' := #[rv b, iv 1, rv tb, iv 0, iv 3, iv 0, iv c0]) rfl ?_
    refine w_iinc X9 hx hby d22_35 rfl (l' := #[rv b, iv 1, rv tb, iv 1, iv 3, iv 0, iv c0]) rfl ?_
    refine w_iinc X9 hx hby d22_38 rfl (l' := #[rv b, iv 1, rv tb, iv 1, iv 3, iv 1, iv c0]) rfl ?_
    refine w_goto X9 hx hby (pc' := 3) d22_41 (by decide) ?_
    refine w_iload X9 hx hby d22_3 rfl ?_
    refine w_iload X9 hx hby d22_5 rfl ?_
    exact kt
  have hc7_16 : (1 : Int32) < (3 : Int32) := by decide
  have S18 : own_G p e below s0 T9 m 12 #[rv b, iv 1, rv tb, iv 1, iv 3, iv 1, iv c0] [(.int 1), (.ref b)] := fun t kt => by
    refine S15 t ?_
    refine w_icmpNo X9 hx hby d22_7 (tlt hc7_16).2.1 ?_
    refine w_aloadN X9 hx hby d22_10 rfl rfl ?_
    refine w_iloadN X9 hx hby d22_11 rfl ?_
    exact kt
  obtain ⟨cl17, Ar17, -, Sz17, Nn17, Hh17, -⟩ := id F12
  have hin17 : ¬ ((1 : Int32) < 0 ∨ cl17.slots.size ≤ ((1 : Int32)).toNatClampNeg) := inb_of Sz17 ⟨by decide, by decide⟩
  have S19 : own_G p e below s0 T9 m 20 #[rv b, iv 1, rv tb, iv 1, iv 3, iv 1, iv c1] [(.int 255), (.int c1)] := fun t kt => by
    refine S18 t ?_
    refine X9.caload hx (j := (1 : Int32)) (v := (.int c1)) (by rw [e9]; exact Ar17.1) (State.isArrayOf_alike hZ.alike Ar17.2.1) Ar17.2.2 hin17 (Has.at Hh17 hin17 rfl) (g := (mkF m 12 #[rv b, iv 1, rv tb, iv 1, iv 3, iv 1, iv c0] [(.int 1), (.ref b)])) rfl rfl (hb hby d22_12) _ ?_
    refine w_istore X9 hx hby d22_13 (l' := #[rv b, iv 1, rv tb, iv 1, iv 3, iv 1, iv c1]) rfl ?_
    refine w_iload X9 hx hby d22_15 rfl ?_
    refine w_sipush X9 hx hby d22_17 ?_
    exact kt
  have hc20_20 : ¬ ((255 : Int32) < c1) := hl1
  have S21 : own_G p e below s0 T9 m 31 #[rv b, iv 1, rv tb, iv 1, iv 3, iv 1, iv c1] [(.int (c1.toInt8.toInt32)), (.int 1), (.ref tb)] := fun t kt => by
    refine S19 t ?_
    refine w_icmpYes X9 hx hby (pc' := 26) d22_20 (flt hc20_20).2.2.2 (by decide) ?_
    refine w_aloadN X9 hx hby d22_26 rfl rfl ?_
    refine w_iloadN X9 hx hby d22_27 rfl ?_
    refine w_iload X9 hx hby d22_28 rfl ?_
    refine XS.i2b X9.here hx rfl (hb hby d22_30) rfl ?_
    exact kt
  obtain ⟨cl22, Ar22, q22, Sz22, Nn22, Hh22, Gg22⟩ := id V11
  have hin22 : ¬ ((1 : Int32) < 0 ∨ cl22.slots.size ≤ ((1 : Int32)).toNatClampNeg) := inb_of Sz22 ⟨by decide, by decide⟩
  obtain ⟨T23, h23, X23, e23, W23, st23⟩ := stB X9 hx hZ e9 Ar22 (j := (1 : Int32)) hin22 (g := (mkF m 31 #[rv b, iv 1, rv tb, iv 1, iv 3, iv 1, iv c1] [(.int (c1.toInt8.toInt32)), (.int 1), (.ref tb)])) rfl rfl (hb hby d22_31)
  have S24 : own_G p e below s0 T23 m 32 #[rv b, iv 1, rv tb, iv 1, iv 3, iv 1, iv c1] [] := fun t kt => S21 t (st23 _ kt)
  have V25 := Arv.set Ar22 q22 Sz22 Nn22 Hh22 Gg22 (fits_nar_byte _) W23 1 rfl (Nat.le_of_ble_eq_true rfl)
  have F26 := F12.other W23 ne_b_tb
  have N27 := Fr.snoc X23 N13 g_tb
  have K28 : Keep h0 h23 [tb] := K14.wr W23 (Or.inl (List.mem_of_getElem? (i := 0) rfl))
  have S29 : own_G p e below s0 T23 m 7 #[rv b, iv 2, rv tb, iv 2, iv 3, iv 2, iv c1] [(.int 3), (.int 2)] := fun t kt => by
    refine S24 t ?_
    refine w_iinc X23 hx hby d22_32 rfl (l' := #[rv b, iv 2, rv tb, iv 1, iv 3, iv 1, iv c1]) rfl ?_
    refine w_iinc X23 hx hby d22_35 rfl (l' := #[rv b, iv 2, rv tb, iv 2, iv 3, iv 1, iv c1]) rfl ?_
    refine w_iinc X23 hx hby d22_38 rfl (l' := #[rv b, iv 2, rv tb, iv 2, iv 3, iv 2, iv c1]) rfl ?_
    refine w_goto X23 hx hby (pc' := 3) d22_41 (by decide) ?_
    refine w_iload X23 hx hby d22_3 rfl ?_
    refine w_iload X23 hx hby d22_5 rfl ?_
    exact kt
  have hc7_30 : (2 : Int32) < (3 : Int32) := by decide
  have S32 : own_G p e below s0 T23 m 12 #[rv b, iv 2, rv tb, iv 2, iv 3, iv 2, iv c1] [(.int 2), (.ref b)] := fun t kt => by
    refine S29 t ?_
    refine w_icmpNo X23 hx hby d22_7 (tlt hc7_30).2.1 ?_
    refine w_aloadN X23 hx hby d22_10 rfl rfl ?_
    refine w_iloadN X23 hx hby d22_11 rfl ?_
    exact kt
  obtain ⟨cl31, Ar31, -, Sz31, Nn31, Hh31, -⟩ := id F26
  have hin31 : ¬ ((2 : Int32) < 0 ∨ cl31.slots.size ≤ ((2 : Int32)).toNatClampNeg) := inb_of Sz31 ⟨by decide, by decide⟩
  have S33 : own_G p e below s0 T23 m 20 #[rv b, iv 2, rv tb, iv 2, iv 3, iv 2, iv c2] [(.int 255), (.int c2)] := fun t kt => by
    refine S32 t ?_
    refine X23.caload hx (j := (2 : Int32)) (v := (.int c2)) (by rw [e23]; exact Ar31.1) (State.isArrayOf_alike hZ.alike Ar31.2.1) Ar31.2.2 hin31 (Has.at Hh31 hin31 rfl) (g := (mkF m 12 #[rv b, iv 2, rv tb, iv 2, iv 3, iv 2, iv c1] [(.int 2), (.ref b)])) rfl rfl (hb hby d22_12) _ ?_
    refine w_istore X23 hx hby d22_13 (l' := #[rv b, iv 2, rv tb, iv 2, iv 3, iv 2, iv c2]) rfl ?_
    refine w_iload X23 hx hby d22_15 rfl ?_
    refine w_sipush X23 hx hby d22_17 ?_
    exact kt
  have hc20_34 : ¬ ((255 : Int32) < c2) := hl2
  have S35 : own_G p e below s0 T23 m 31 #[rv b, iv 2, rv tb, iv 2, iv 3, iv 2, iv c2] [(.int (c2.toInt8.toInt32)), (.int 2), (.ref tb)] := fun t kt => by
    refine S33 t ?_
    refine w_icmpYes X23 hx hby (pc' := 26) d22_20 (flt hc20_34).2.2.2 (by decide) ?_
    refine w_aloadN X23 hx hby d22_26 rfl rfl ?_
    refine w_iloadN X23 hx hby d22_27 rfl ?_
    refine w_iload X23 hx hby d22_28 rfl ?_
    refine XS.i2b X23.here hx rfl (hb hby d22_30) rfl ?_
    exact kt
  obtain ⟨cl36, Ar36, q36, Sz36, Nn36, Hh36, Gg36⟩ := id V25
  have hin36 : ¬ ((2 : Int32) < 0 ∨ cl36.slots.size ≤ ((2 : Int32)).toNatClampNeg) := inb_of Sz36 ⟨by decide, by decide⟩
  obtain ⟨T37, h37, X37, e37, W37, st37⟩ := stB X23 hx hZ e23 Ar36 (j := (2 : Int32)) hin36 (g := (mkF m 31 #[rv b, iv 2, rv tb, iv 2, iv 3, iv 2, iv c2] [(.int (c2.toInt8.toInt32)), (.int 2), (.ref tb)])) rfl rfl (hb hby d22_31)
  have S38 : own_G p e below s0 T37 m 32 #[rv b, iv 2, rv tb, iv 2, iv 3, iv 2, iv c2] [] := fun t kt => S35 t (st37 _ kt)
  have V39 := Arv.set Ar36 q36 Sz36 Nn36 Hh36 Gg36 (fits_nar_byte _) W37 2 rfl (Nat.le_of_ble_eq_true rfl)
  have F40 := F26.other W37 ne_b_tb
  have N41 := Fr.snoc X37 N27 g_tb
  have K42 : Keep h0 h37 [tb] := K28.wr W37 (Or.inl (List.mem_of_getElem? (i := 0) rfl))
  have S43 : own_G p e below s0 T37 m 7 #[rv b, iv 3, rv tb, iv 3, iv 3, iv 3, iv c2] [(.int 3), (.int 3)] := fun t kt => by
    refine S38 t ?_
    refine w_iinc X37 hx hby d22_32 rfl (l' := #[rv b, iv 3, rv tb, iv 2, iv 3, iv 2, iv c2]) rfl ?_
    refine w_iinc X37 hx hby d22_35 rfl (l' := #[rv b, iv 3, rv tb, iv 3, iv 3, iv 2, iv c2]) rfl ?_
    refine w_iinc X37 hx hby d22_38 rfl (l' := #[rv b, iv 3, rv tb, iv 3, iv 3, iv 3, iv c2]) rfl ?_
    refine w_goto X37 hx hby (pc' := 3) d22_41 (by decide) ?_
    refine w_iload X37 hx hby d22_3 rfl ?_
    refine w_iload X37 hx hby d22_5 rfl ?_
    exact kt
  have hc7_44 : ¬ ((3 : Int32) < (3 : Int32)) := by decide
  have S45 : own_G p e below s0 T37 m 46 #[rv b, iv 3, rv tb, iv 3, iv 3, iv 3, iv c2] [(.int 3)] := fun t kt => by
    refine S43 t ?_
    refine w_icmpYes X37 hx hby (pc' := 44) d22_7 (flt hc7_44).2.1 (by decide) ?_
    refine w_iload X37 hx hby d22_44 rfl ?_
    exact kt
  obtain ⟨fs, hr, hrun, hended, hW, hsame⟩ := X37.leave (v := some (.int 3)) (fun h => by rw [Bd.returns] at h; cases h)
  refine ⟨_, _, S45 _ ?_, hrun, hended, _, _, rfl, ?_, ⟨_, rfl⟩, hW, hsame.mono (by decide) (by decide)⟩
  · show Steps p.tables e below (T37.setTop (mkF m 46 #[rv b, iv 3, rv tb, iv 3, iv 3, iv 3, iv c2] [(.int 3)])) _
    exact own_retI X37 hx Bd.returns (hb hby d22_46) hr
  · show own_Q22k3 Z b tb c0 c1 c2 kb kt h0 n0 _ T37.heap _
    rw [e37]
    exact ⟨rfl, N41, K42, (by have q : Arv Z h37 tb kt .byte (3 : Int32) [(.int (nar .byte (c0.toInt8.toInt32))), (.int (nar .byte (c1.toInt8.toInt32))), (.int (nar .byte (c2.toInt8.toInt32)))] (.int 0) := V39; simp only [own_lolo] at q; exact q)⟩
theorem own_ef23k3 (m : MethodId) (x0 : Addr) (x1 : Int32) : entryFrame m #[(.ref x0), (.int x1)] 2 = mkF m 0 #[rv x0, iv x1] [] := by first | (simp [entryFrame, mkF, argsToLocals, Value.category]; done) | rfl
def own_Q23k3 (Z : State) (tb : Addr) (c0 : Int32) (c1 : Int32) (c2 : Int32) (kt : ClassId) (h0 : Heap) (n0 : Nat) (v : Option Value) (h : Heap) (L : List Loc) : Prop := v = some (.int 0) ∧ L = [] ∧ h = h0
set_option maxHeartbeats 40000000 in
theorem own_rm23k3 (l : Launch) (Z : State) (a0 : Array Value) (hw : ∀ d ∈ tables_1, d.before a0 Z = true) (ws : List Jvm.Cond) (tb : Addr) (c0 : Int32) (c1 : Int32) (c2 : Int32) (kt : ClassId) (h0 : Heap) (n0 : Nat) (Z0 : n0 ≤ h0.size) (V_t : Arv Z h0 tb kt .byte (3 : Int32) [(.int (own_lo c0)), (.int (own_lo c1)), (.int (own_lo c2))] (.int 0)) :
    MetFree l own_y6 (head1 (Jvm.Cond.code own_y6 jdk_52_method_15_code 2 (some .byte) :: ws) ({ frames := 0, cells := 0, slots := 0, locals := 0 } : Room)) (fun argv U => argv = #[(.ref tb), (.int 3)] ∧ Z.Warmed39 U.vm ∧ U.heap = h0) (fun _ _ _ _ _ => True) (fun _ U o U' => ∃ v L, o = .returned v ∧ own_Q23k3 Z tb c0 c1 c2 kt h0 n0 v U'.heap L ∧ FrameEnd U o U' L ({ frames := 0, cells := 0, slots := 0, locals := 0 } : Room).cells ({ frames := 0, cells := 0, slots := 0, locals := 0 } : Room).slots) := by
  refine MetFree.of_bodySF (plainFor_of_name own_pn4) hisR ?_
  intro p e s m args below meth c s₁ Bd hml0 hP hK
  obtain ⟨rfl, hZ, hh⟩ := hP
  have hx := Bd.exec
  have hby := Bd.bytes
  have hml : c.maxLocals = 2 := hml0
  have hown : s.vm.findClass own_s1 = some m.cls := findClass_of_methodNamed Bd.named
  have hnm := (name_of_methodNamed Bd.named Bd.method).1
  have X0 : Stand p l e ({ frames := 0, cells := 0, slots := 0, locals := 0 } : Room) s m #[(.ref tb), (.int 3)] below meth c s₁ [] 0 0 := Stand.of_body Bd
  have e0 : s₁.heap = h0 := by rw [← hh, Bd.state]; rfl
  have N0 := Fr.nil n0
  have pre_ : own_G p e below (s₁.setTop (entryFrame m #[(.ref tb), (.int 3)] 2)) s₁ m 0 #[rv tb, iv 3] [] := fun t k => castTop (own_ef23k3 m tb (3 : Int32)) k
  obtain ⟨s0, hs0⟩ : ∃ z, z = (s₁.setTop (entryFrame m #[(.ref tb), (.int 3)] 2)) := ⟨_, rfl⟩
  have pre0 : own_G p e below s0 s₁ m 0 #[rv tb, iv 3] [] := hs0 ▸ pre_
  rw [← hs0]
  have S1 : own_G p e below s0 s₁ m 2 #[rv tb, iv 3] [(.ref tb), (.int 3)] := fun t kt => by
    refine pre0 t ?_
    refine w_iloadN X0 hx hby d23_0 rfl ?_
    refine w_aloadN X0 hx hby d23_1 rfl rfl ?_
    exact kt
  obtain ⟨cl2, Ar2, -, Sz2, Nn2, -, -⟩ := id V_t
  have S3 : own_G p e below s0 s₁ m 8 #[rv tb, iv 3] [(.int ((0 : Int32).toInt8.toInt32))] := fun t kt => by
    refine S1 t ?_
    refine X0.arraylength hx (by rw [e0]; exact Ar2.1) (State.isArrayOf_alike hZ.alike Ar2.2.1) (g := (mkF m 2 #[rv tb, iv 3] [(.ref tb), (.int 3)])) rfl rfl (hb hby d23_2) _ ?_
    rw [len_of Sz2 Nn2]
    refine w_isub X0 hx hby d23_3 ?_
    refine w_bipush X0 hx hby d23_4 ?_
    refine XS.iushr X0.here hx rfl (hb hby d23_6) rfl ?_
    refine XS.i2b X0.here hx rfl (hb hby d23_7) rfl ?_
    exact kt
  obtain ⟨fs, hr, hrun, hended, hW, hsame⟩ := X0.leave (v := some (.int (nar .byte ((0 : Int32).toInt8.toInt32)))) (fun h => by rw [Bd.returns] at h; cases h)
  refine ⟨_, _, S3 _ ?_, hrun, hended, _, _, rfl, ?_, ⟨_, rfl⟩, hW, hsame.mono (by decide) (by decide)⟩
  · show Steps p.tables e below (s₁.setTop (mkF m 8 #[rv tb, iv 3] [(.int ((0 : Int32).toInt8.toInt32))])) _
    exact retN X0 hx (t := .byte) Bd.returns (by simp) (hb hby d23_8) hr
  · show own_Q23k3 Z tb c0 c1 c2 kt h0 n0 _ s₁.heap _
    rw [e0]
    exact ⟨rfl, rfl, rfl⟩
theorem own_ef21k3 (m : MethodId) (x0 : Addr) (x1 : Int32) (x2 : Int32) : entryFrame m #[(.ref x0), (.int x1), (.int x2)] 6 = mkF m 0 #[rv x0, iv x1, iv x2, .unset, .unset, .unset] [] := by first | (simp [entryFrame, mkF, argsToLocals, Value.category]; done) | rfl
def own_Q21k3 (Z : State) (b : Addr) (c0 : Int32) (c1 : Int32) (c2 : Int32) (kb : ClassId) (h0 : Heap) (n0 : Nat) (v : Option Value) (h : Heap) (L : List Loc) : Prop := ∃ (tb : Addr) (kt : ClassId), v = some (.ref tb) ∧ Fr n0 L ∧ n0 ≤ tb ∧ h0.size ≤ tb ∧ Keep h0 h [] ∧ Arv Z h tb kt .byte (3 : Int32) [(.int (own_lo c0)), (.int (own_lo c1)), (.int (own_lo c2))] (.int 0)
set_option maxHeartbeats 40000000 in
theorem own_rm21k3 (l : Launch) (Z : State) (a0 : Array Value) (hw : ∀ d ∈ tables_1, d.before a0 Z = true) (ws : List Jvm.Cond) (b : Addr) (c0 : Int32) (c1 : Int32) (c2 : Int32) (kb : ClassId) (h0 : Heap) (n0 : Nat) (Z0 : n0 ≤ h0.size) (V_b : Arv Z h0 b kb .char (3 : Int32) [(.int c0), (.int c1), (.int c2)] (.int 0)) (hl0 : ¬ (255 : Int32) < c0) (hl1 : ¬ (255 : Int32) < c1) (hl2 : ¬ (255 : Int32) < c2) :
    MetFree l own_y11 (head1 (Jvm.Cond.code own_y11 jdk_52_method_16_code 6 (some (.array .byte)) :: ws) ({ frames := 1, cells := 1, slots := 3, locals := 18 } : Room)) (fun argv U => argv = #[(.ref b), (.int 0), (.int 3)] ∧ Z.Warmed39 U.vm ∧ U.heap = h0) (fun _ _ _ _ _ => True) (fun _ U o U' => ∃ v L, o = .returned v ∧ own_Q21k3 Z b c0 c1 c2 kb h0 n0 v U'.heap L ∧ FrameEnd U o U' L ({ frames := 1, cells := 1, slots := 3, locals := 18 } : Room).cells ({ frames := 1, cells := 1, slots := 3, locals := 18 } : Room).slots) := by
  refine MetFree.of_bodySF (plainFor_of_name own_pn4) hisR ?_
  intro p e s m args below meth c s₁ Bd hml0 hP hK
  obtain ⟨rfl, hZ, hh⟩ := hP
  have hx := Bd.exec
  have hby := Bd.bytes
  have hml : c.maxLocals = 6 := hml0
  have hown : s.vm.findClass own_s1 = some m.cls := findClass_of_methodNamed Bd.named
  have hnm := (name_of_methodNamed Bd.named Bd.method).1
  have X0 : Stand p l e ({ frames := 1, cells := 1, slots := 3, locals := 18 } : Room) s m #[(.ref b), (.int 0), (.int 3)] below meth c s₁ [] 0 0 := Stand.of_body Bd
  have e0 : s₁.heap = h0 := by rw [← hh, Bd.state]; rfl
  have N0 := Fr.nil n0
  have pre_ : own_G p e below (s₁.setTop (entryFrame m #[(.ref b), (.int 0), (.int 3)] 6)) s₁ m 0 #[rv b, iv 0, iv 3, .unset, .unset, .unset] [] := fun t k => castTop (own_ef21k3 m b (0 : Int32) (3 : Int32)) k
  obtain ⟨s0, hs0⟩ : ∃ z, z = (s₁.setTop (entryFrame m #[(.ref b), (.int 0), (.int 3)] 6)) := ⟨_, rfl⟩
  have pre0 : own_G p e below s0 s₁ m 0 #[rv b, iv 0, iv 3, .unset, .unset, .unset] [] := hs0 ▸ pre_
  rw [← hs0]
  have S1 : own_G p e below s0 s₁ m 1 #[rv b, iv 0, iv 3, .unset, .unset, .unset] [(.int 3)] := fun t kt => by
    refine pre0 t ?_
    refine w_iloadN X0 hx hby d21_0 rfl ?_
    exact kt
  obtain ⟨T2, h2, k2, X2, e2, E2, A2, st2⟩ := newP X0 hx hZ (own_w hw 11 rfl) e0 (g := (mkF m 1 #[rv b, iv 0, iv 3, .unset, .unset, .unset] [(.int 3)])) rfl (hb hby d21_1) rfl (by decide) (cap := 3) (by decide) (by decide) (by decide) (by decide)
  obtain ⟨b2, g2⟩ : ∃ z, z = h0.size := ⟨_, rfl⟩
  rw [← g2] at A2 st2
  have S3 : own_G p e below s0 T2 m 3 #[rv b, iv 0, iv 3, .unset, .unset, .unset] [(.ref b2)] := fun t kt => S1 t (st2 _ kt)
  have g_b2 : n0 ≤ b2 := Nat.le_trans Z0 (Nat.le_of_eq g2.symm)
  have sz_b2 : h0.size ≤ b2 := Nat.le_trans (Keep.refl h0 []).1 (Nat.le_of_eq g2.symm)
  have ne_b_b2 : b ≠ b2 := Nat.ne_of_lt (Nat.lt_of_lt_of_le V_b.lt (Nat.le_of_eq g2.symm))
  have F4 := V_b.ext E2
  have K5 : Keep h0 h2 [] := (Keep.refl h0 []).ext E2
  have V6 : Arv Z h2 b2 k2 .byte (3 : Int32) [(.int 0), (.int 0), (.int 0)] (.int 0) := (Arv.new A2 (by decide)).pad (pad_rep [] (.int 0) 3)
  have S9 : own_G p e below s0 T2 m 9 #[rv b, iv 0, iv 3, rv b2, .unset, .unset] [(.int 3), (.int 0), (.ref b2), (.int 0), (.ref b)] := fun t kt => by
    refine S3 t ?_
    refine w_astoreN X2 hx hby d21_3 rfl (l' := #[rv b, iv 0, iv 3, rv b2, .unset, .unset]) rfl ?_
    refine w_aloadN X2 hx hby d21_4 rfl rfl ?_
    refine w_iloadN X2 hx hby d21_5 rfl ?_
    refine w_aloadN X2 hx hby d21_6 rfl rfl ?_
    refine w_iconst X2 hx hby d21_7 ?_
    refine w_iloadN X2 hx hby d21_8 rfl ?_
    exact kt
  obtain ⟨_, _, ⟨T10, L10, k10, n10⟩, -, X10, ⟨Lc10, hQ10, l10, y10, z10⟩, st10⟩ := Jvm.LawKit.callS X2 hx (y := own_y8) hown (mvT hZ (own_w hw 112 rfl)) (mvT hZ (own_w hw 113 rfl)) (mvT hZ (own_w hw 110 rfl)) (mvT hZ (own_w hw 114 rfl)) (by decide) (backOf (W := 0) (own_rm22k3 l Z a0 hw [] (b) (b2) (c0) (c1) (c2) (kb) (k2) h2 n0 (Nat.le_trans Z0 K5.1) F4 V6 g_b2 ne_b_b2 hl0 hl1 hl2) hZ (own_w hw 114 rfl) (own_w hw 110 rfl) (by decide) (by decide)) (g := (mkF m 9 #[rv b, iv 0, iv 3, rv b2, .unset, .unset] [(.int 3), (.int 0), (.ref b2), (.int 0), (.ref b)])) rfl (by rw [hml]; rfl) (argsL := [(.ref b), (.int 0), (.ref b2), (.int 0), (.int 3)]) (rest := []) (lenOf own_pd10 rfl) rfl (by show 2 * 0 + _ ≤ _; exact Nat.le_of_eq rfl) (hb hby d21_9) (fun _ _ => ⟨rfl, e2, (by decide : 1 + 0 ≤ _), (by decide : 3 + 0 ≤ _)⟩)
  dsimp only [Pt.U, Pt.locs, Pt.cells, Pt.slots] at X10 l10 y10 z10 st10 hQ10
  subst l10 y10 z10
  obtain ⟨rfl, Nq10, Kc7, Vc7⟩ := hQ10
  have N11 := Fr.app N0 Nq10
  have S12 : own_G p e below s0 T10 m 12 #[rv b, iv 0, iv 3, rv b2, .unset, .unset] [(.int 3)] := fun t kt => S9 t (st10 _ kt)
  have F13 := F4.keep Kc7 (ninS ne_b_b2 nin0)
  have K14 : Keep h0 T10.heap [] := K5.trans Kc7 (allS (Or.inr sz_b2) all0)
  have S15 : own_G p e below s0 T10 m 17 #[rv b, iv 0, iv 3, rv b2, iv 3, .unset] [(.int 3), (.int 3)] := fun t kt => by
    refine S12 t ?_
    refine w_istore X10 hx hby d21_12 (l' := #[rv b, iv 0, iv 3, rv b2, iv 3, .unset]) rfl ?_
    refine w_iload X10 hx hby d21_14 rfl ?_
    refine w_iloadN X10 hx hby d21_16 rfl ?_
    exact kt
  have hc17_16 : (3 : Int32) = (3 : Int32) := by decide
  have S17 : own_G p e below s0 T10 m 58 #[rv b, iv 0, iv 3, rv b2, iv 3, .unset] [(.ref b2)] := fun t kt => by
    refine S15 t ?_
    refine w_icmpYes X10 hx hby (pc' := 57) d21_17 (teq hc17_16).1 (by decide) ?_
    refine w_aloadN X10 hx hby d21_57 rfl rfl ?_
    exact kt
  obtain ⟨fs, hr, hrun, hended, hW, hsame⟩ := X10.leave (v := some (.ref b2)) (fun h => by rw [Bd.returns] at h; cases h)
  refine ⟨_, _, S17 _ ?_, hrun, hended, _, _, rfl, ?_, ⟨_, rfl⟩, hW, hsame.mono (by decide) (by decide)⟩
  · show Steps p.tables e below (T10.setTop (mkF m 58 #[rv b, iv 0, iv 3, rv b2, iv 3, .unset] [(.ref b2)])) _
    jvm_step X10.here [X10.here.top, hx, (hb hby d21_58), X10.method', Bd.returns, Value.isRef, FieldType.isReference]
    first | (intro acts; rw [hr _ acts rfl rfl rfl]) | rw [hr _ _ rfl rfl rfl]
    exact Steps.refl _
  · show own_Q21k3 Z b c0 c1 c2 kb h0 n0 _ T10.heap _
    exact ⟨b2, k2, rfl, N11, g_b2, sz_b2, K14, Vc7⟩
theorem own_ef4k3 (m : MethodId) (x0 : Addr) (x1 : Addr) (x2 : Int32) (x3 : Int32) : entryFrame m #[(.ref x0), (.ref x1), (.int x2), (.int x3), .null] 6 = mkF m 0 #[rv x0, rv x1, iv x2, iv x3, .val .null, .unset] [] := by first | (simp [entryFrame, mkF, argsToLocals, Value.category]; done) | rfl
def own_Q4k3 (Z : State) (a : Addr) (b : Addr) (c0 : Int32) (c1 : Int32) (c2 : Int32) (kb : ClassId) (cs : Int32) (uv : Value) (uc : Value) (h0 : Heap) (n0 : Nat) (v : Option Value) (h : Heap) (L : List Loc) : Prop := v = none ∧ Fr n0 L ∧ Keep h0 h [a] ∧ Exa Z h a "java/lang/String" ∧ Fld Z h a "java/lang/String" "coder" "B" (.int 0) ∧ ∃ (tb : Addr) (kt : ClassId), n0 ≤ tb ∧ h0.size ≤ tb ∧ a ≠ tb ∧ Fld Z h a "java/lang/String" "value" "[B" (.ref tb) ∧ Arv Z h tb kt .byte (3 : Int32) [(.int (own_lo c0)), (.int (own_lo c1)), (.int (own_lo c2))] (.int 0)
set_option maxHeartbeats 40000000 in
theorem own_rm4k3 (l : Launch) (Z : State) (a0 : Array Value) (hw : ∀ d ∈ tables_1, d.before a0 Z = true) (ws : List Jvm.Cond) (a : Addr) (b : Addr) (c0 : Int32) (c1 : Int32) (c2 : Int32) (kb : ClassId) (cs : Int32) (uv : Value) (uc : Value) (h0 : Heap) (n0 : Nat) (Z0 : n0 ≤ h0.size) (E_a : Exa Z h0 a "java/lang/String") (g_a : n0 ≤ a) (F_value : Fld Z h0 a "java/lang/String" "value" "[B" uv) (F_coder : Fld Z h0 a "java/lang/String" "coder" "B" uc) (S_CS : Sta Z h0 "java/lang/String" "COMPACT_STRINGS" "Z" (.int cs)) (hcs : ¬ cs = (0 : Int32)) (V_b : Arv Z h0 b kb .char (3 : Int32) [(.int c0), (.int c1), (.int c2)] (.int 0)) (hl0 : ¬ (255 : Int32) < c0) (hl1 : ¬ (255 : Int32) < c1) (hl2 : ¬ (255 : Int32) < c2) :
    MetFree l own_y5 (head1 (Jvm.Cond.code own_y5 jdk_42_method_149_code 6 none :: ws) ({ frames := 2, cells := 1, slots := 3, locals := 35 } : Room)) (fun argv U => argv = #[(.ref a), (.ref b), (.int 0), (.int 3), .null] ∧ Z.Warmed39 U.vm ∧ U.heap = h0) (fun _ _ _ _ _ => True) (fun _ U o U' => ∃ v L, o = .returned v ∧ own_Q4k3 Z a b c0 c1 c2 kb cs uv uc h0 n0 v U'.heap L ∧ FrameEnd U o U' L ({ frames := 2, cells := 1, slots := 3, locals := 35 } : Room).cells ({ frames := 2, cells := 1, slots := 3, locals := 35 } : Room).slots) := by
  refine MetFree.of_bodySF (plainFor_of_name own_pn1) hisR ?_
  intro p e s m args below meth c s₁ Bd hml0 hP hK
  obtain ⟨rfl, hZ, hh⟩ := hP
  have hx := Bd.exec
  have hby := Bd.bytes
  have hml : c.maxLocals = 6 := hml0
  have hown : s.vm.findClass "java/lang/String" = some m.cls := findClass_of_methodNamed Bd.named
  have hnm := (name_of_methodNamed Bd.named Bd.method).1
  have X0 : Stand p l e ({ frames := 2, cells := 1, slots := 3, locals := 35 } : Room) s m #[(.ref a), (.ref b), (.int 0), (.int 3), .null] below meth c s₁ [] 0 0 := Stand.of_body Bd
  have e0 : s₁.heap = h0 := by rw [← hh, Bd.state]; rfl
  have N0 := Fr.nil n0
  have pre_ : own_G p e below (s₁.setTop (entryFrame m #[(.ref a), (.ref b), (.int 0), (.int 3), .null] 6)) s₁ m 0 #[rv a, rv b, iv 0, iv 3, .val .null, .unset] [] := fun t k => castTop (own_ef4k3 m a b (0 : Int32) (3 : Int32)) k
  obtain ⟨s0, hs0⟩ : ∃ z, z = (s₁.setTop (entryFrame m #[(.ref a), (.ref b), (.int 0), (.int 3), .null] 6)) := ⟨_, rfl⟩
  have pre0 : own_G p e below s0 s₁ m 0 #[rv a, rv b, iv 0, iv 3, .val .null, .unset] [] := hs0 ▸ pre_
  rw [← hs0]
  have S1 : own_G p e below s0 s₁ m 1 #[rv a, rv b, iv 0, iv 3, .val .null, .unset] [(.ref a)] := fun t kt => by
    refine pre0 t ?_
    refine w_aloadN X0 hx hby d4_0 rfl rfl ?_
    exact kt
  obtain ⟨T2, X2, e2, st2⟩ := initO X0 hx hZ hown (own_w hw 28 rfl) (own_w hw 29 rfl) (own_w hw 30 rfl) e0 (g := (mkF m 1 #[rv a, rv b, iv 0, iv 3, .val .null, .unset] [(.ref a)])) rfl (by rw [hml]; rfl) rfl (hb hby d4_1) (by decide) (W := 0) (by show 2 * 0 + _ ≤ _; exact Nat.le_of_eq rfl) (by decide)
  have S3 : own_G p e below s0 T2 m 4 #[rv a, rv b, iv 0, iv 3, .val .null, .unset] [] := fun t kt => S1 t (st2 _ kt)
  have S4 : own_G p e below s0 T2 m 5 #[rv a, rv b, iv 0, iv 3, .val .null, .unset] [(.int 3)] := fun t kt => by
    refine S3 t ?_
    refine w_iloadN X2 hx hby d4_4 rfl ?_
    exact kt
  have hc5_5 : ¬ ((3 : Int32) = (0 : Int32)) := by decide
  have S6 : own_G p e below s0 T2 m 27 #[rv a, rv b, iv 0, iv 3, .val .null, .unset] [] := fun t kt => by
    refine S4 t ?_
    refine w_ifYes X2 hx hby (pc' := 27) d4_5 ((if0 _ _).trans (feq hc5_5).2) (by decide) ?_
    exact kt
  obtain ⟨T7, X7, e7, st7⟩ := getS2 X2 hx hZ hown (host := "") (Or.inl (own_w hw 58 rfl)) Via.refl e2 S_CS (g := (mkF m 27 #[rv a, rv b, iv 0, iv 3, .val .null, .unset] [])) rfl (hb hby d4_27)
  have S8 : own_G p e below s0 T7 m 30 #[rv a, rv b, iv 0, iv 3, .val .null, .unset] [(.int cs)] := fun t kt => S6 t (st7 _ kt)
  have hc30_9 : ¬ (cs = (0 : Int32)) := hcs
  have S12 : own_G p e below s0 T7 m 36 #[rv a, rv b, iv 0, iv 3, .val .null, .unset] [(.int 3), (.int 0), (.ref b)] := fun t kt => by
    refine S8 t ?_
    refine w_ifNo X7 hx hby d4_30 ((if0 _ _).trans (feq hc30_9).1) ?_
    refine w_aloadN X7 hx hby d4_33 rfl rfl ?_
    refine w_iloadN X7 hx hby d4_34 rfl ?_
    refine w_iloadN X7 hx hby d4_35 rfl ?_
    exact kt
  obtain ⟨_, _, ⟨T13, L13, k13, n13⟩, -, X13, ⟨Lc13, hQ13, l13, y13, z13⟩, st13⟩ := Jvm.LawKit.callS X7 hx (y := own_y11) hown (mvT hZ (own_w hw 108 rfl)) (mvT hZ (own_w hw 109 rfl)) (mvT hZ (own_w hw 110 rfl)) (mvT hZ (own_w hw 111 rfl)) (by decide) (backOf (W := 0) (own_rm21k3 l Z a0 hw [] (b) (c0) (c1) (c2) (kb) h0 n0 Z0 V_b hl0 hl1 hl2) hZ (own_w hw 111 rfl) (own_w hw 110 rfl) (by decide) (by decide)) (g := (mkF m 36 #[rv a, rv b, iv 0, iv 3, .val .null, .unset] [(.int 3), (.int 0), (.ref b)])) rfl (by rw [hml]; rfl) (argsL := [(.ref b), (.int 0), (.int 3)]) (rest := []) (lenOf own_pd11 rfl) rfl (by show 2 * 0 + _ ≤ _; exact Nat.le_of_eq rfl) (hb hby d4_36) (fun _ _ => ⟨rfl, e7, (by decide : 0 + 1 ≤ _), (by decide : 0 + 3 ≤ _)⟩)
  dsimp only [Pt.U, Pt.locs, Pt.cells, Pt.slots] at X13 l13 y13 z13 st13 hQ13
  subst l13 y13 z13
  obtain ⟨tb10, kt10, rfl, Nq13, gt10, sz10, Kc10, Vc10⟩ := hQ13
  have N14 := Fr.app N0 Nq13
  have S15 : own_G p e below s0 T13 m 39 #[rv a, rv b, iv 0, iv 3, .val .null, .unset] [(.ref tb10)] := fun t kt => S12 t (st13 _ kt)
  have F16 := E_a.keep Kc10
  have F17 := F_value.keep Kc10 nin0
  have F18 := F_coder.keep Kc10 nin0
  have F19 := own_StaK S_CS Kc10 all0
  have F20 := V_b.keep Kc10 nin0
  have K21 : Keep h0 T13.heap [a] := (Keep.refl h0 [a]).trans Kc10 all0
  have ne_a_tb10 : a ≠ tb10 := Nat.ne_of_lt (Nat.lt_of_lt_of_le E_a.lt sz10)
  have ne_b_tb10 : b ≠ tb10 := Nat.ne_of_lt (Nat.lt_of_lt_of_le V_b.lt sz10)
  have S23 : own_G p e below s0 T13 m 45 #[rv a, rv b, iv 0, iv 3, .val .null, rv tb10] [(.int 3), (.ref tb10), (.ref a)] := fun t kt => by
    refine S15 t ?_
    refine w_astore X13 hx hby d4_39 rfl (l' := #[rv a, rv b, iv 0, iv 3, .val .null, rv tb10]) rfl ?_
    refine w_aloadN X13 hx hby d4_41 rfl rfl ?_
    refine w_aload X13 hx hby d4_42 rfl rfl ?_
    refine w_iloadN X13 hx hby d4_44 rfl ?_
    exact kt
  obtain ⟨_, _, ⟨T24, L24, k24, n24⟩, -, X24, ⟨Lc24, hQ24, l24, y24, z24⟩, st24⟩ := Jvm.LawKit.callS X13 hx (y := own_y6) hown (mvT hZ (own_w hw 115 rfl)) (mvT hZ (own_w hw 116 rfl)) (mvT hZ (own_w hw 110 rfl)) (mvT hZ (own_w hw 117 rfl)) (by decide) (backOf (W := 1) (own_rm23k3 l Z a0 hw [] (tb10) (c0) (c1) (c2) (kt10) T13.heap n0 (Nat.le_trans Z0 K21.1) Vc10) hZ (own_w hw 117 rfl) (own_w hw 110 rfl) (by decide) (by decide)) (g := (mkF m 45 #[rv a, rv b, iv 0, iv 3, .val .null, rv tb10] [(.int 3), (.ref tb10), (.ref a)])) rfl (by rw [hml]; rfl) (argsL := [(.ref tb10), (.int 3)]) (rest := [(.ref a)]) (lenOf own_pd12 rfl) rfl (by show 2 * 0 + _ ≤ _; exact Nat.le_of_eq rfl) (hb hby d4_45) (fun _ _ => ⟨rfl, rfl, (by decide : 1 + 0 ≤ _), (by decide : 3 + 0 ≤ _)⟩)
  dsimp only [Pt.U, Pt.locs, Pt.cells, Pt.slots] at X24 l24 y24 z24 st24 hQ24
  subst l24 y24 z24
  obtain ⟨rfl, rfl, eq22⟩ := hQ24
  try rw [List.append_nil] at X24
  have S25 : own_G p e below s0 T24 m 48 #[rv a, rv b, iv 0, iv 3, .val .null, rv tb10] [(.int 0), (.ref a)] := fun t kt => S23 t (st24 _ kt)
  obtain ⟨T26, h26, X26, e26, W26, st26⟩ := putFN X24 hx hZ hown (own_w hw 33 rfl) Via.refl (eq22.trans rfl) F18 F16 (Or.inr ⟨(own_w hw 13 rfl), rfl, hnm⟩) (own_w hw 10 rfl) (ty := .byte) (v' := (.int 0)) (by decide) rfl (by decide) (g := (mkF m 48 #[rv a, rv b, iv 0, iv 3, .val .null, rv tb10] [(.int 0), (.ref a)])) rfl rfl (hb hby d4_48)
  have S27 : own_G p e below s0 T26 m 51 #[rv a, rv b, iv 0, iv 3, .val .null, rv tb10] [] := fun t kt => S25 t (st26 _ kt)
  have F28 := F16.wr W26
  have F29 := F17.other W26 (Or.inr (slot_ne (Or.inr (own_w hw 12 rfl)) (Or.inr (own_w hw 13 rfl)) (by decide) (t := (.array .byte)) (t' := .byte) (by decide) (by decide)))
  have F30 := F18.same W26
  have F31 := F19.wr W26
  have F32 := F20.other W26 (Ne.symm (Exa.neArv F16 F20 (own_w hw 10 rfl)))
  have F33 := Vc10.other W26 (Ne.symm ne_a_tb10)
  have N34 := Fr.snoc X26 N14 g_a
  have K35 : Keep h0 h26 [a] := K21.wr W26 (Or.inl (List.mem_of_getElem? (i := 0) rfl))
  have S36 : own_G p e below s0 T26 m 54 #[rv a, rv b, iv 0, iv 3, .val .null, rv tb10] [(.ref tb10), (.ref a)] := fun t kt => by
    refine S27 t ?_
    refine w_aloadN X26 hx hby d4_51 rfl rfl ?_
    refine w_aload X26 hx hby d4_52 rfl rfl ?_
    exact kt
  obtain ⟨T37, h37, X37, e37, W37, st37⟩ := putF X26 hx hZ hown (host := "") (Or.inl (own_w hw 32 rfl)) Via.refl e26 F29 F28 (Or.inr ⟨(own_w hw 12 rfl), rfl, hnm⟩) (own_w hw 10 rfl) (ty := (.array .byte)) (by decide) rfl rfl (g := (mkF m 54 #[rv a, rv b, iv 0, iv 3, .val .null, rv tb10] [(.ref tb10), (.ref a)])) rfl rfl (hb hby d4_54)
  have S38 : own_G p e below s0 T37 m 57 #[rv a, rv b, iv 0, iv 3, .val .null, rv tb10] [] := fun t kt => S36 t (st37 _ kt)
  have F39 := F28.wr W37
  have F40 := F29.same W37
  have F41 := F30.other W37 (Or.inr (slot_ne (Or.inr (own_w hw 13 rfl)) (Or.inr (own_w hw 12 rfl)) (by decide) (t := .byte) (t' := (.array .byte)) (by decide) (by decide)))
  have F42 := F31.wr W37
  have F43 := F32.other W37 (Ne.symm (Exa.neArv F28 F32 (own_w hw 10 rfl)))
  have F44 := F33.other W37 (Ne.symm ne_a_tb10)
  have N45 := Fr.snoc X37 N34 g_a
  have K46 : Keep h0 h37 [a] := K35.wr W37 (Or.inl (List.mem_of_getElem? (i := 0) rfl))
  obtain ⟨fs, hr, hrun, hended, hW, hsame⟩ := X37.leave (v := none) (fun _ => rfl)
  refine ⟨_, _, S38 _ ?_, hrun, hended, _, _, rfl, ?_, ⟨_, rfl⟩, hW, hsame.mono (by decide) (by decide)⟩
  · show Steps p.tables e below (T37.setTop (mkF m 57 #[rv a, rv b, iv 0, iv 3, .val .null, rv tb10] [])) _
    exact X37.returnOut hx Bd.returns (hb hby d4_57) hr
  · show own_Q4k3 Z a b c0 c1 c2 kb cs uv uc h0 n0 _ T37.heap _
    rw [e37]
    exact ⟨rfl, N45, K46, F39, F41, tb10, kt10, gt10, (Nat.le_trans (Keep.refl h0 [a]).1 sz10), ne_a_tb10, F40, F44⟩
theorem own_ef3k3 (m : MethodId) (x0 : Addr) (x1 : Addr) : entryFrame m #[(.ref x0), (.ref x1)] 2 = mkF m 0 #[rv x0, rv x1] [] := by first | (simp [entryFrame, mkF, argsToLocals, Value.category]; done) | rfl
def own_Q3k3 (Z : State) (a : Addr) (b : Addr) (c0 : Int32) (c1 : Int32) (c2 : Int32) (kb : ClassId) (cs : Int32) (uv : Value) (uc : Value) (h0 : Heap) (n0 : Nat) (v : Option Value) (h : Heap) (L : List Loc) : Prop := v = none ∧ Fr n0 L ∧ Keep h0 h [a] ∧ Exa Z h a "java/lang/String" ∧ Fld Z h a "java/lang/String" "coder" "B" (.int 0) ∧ ∃ (tb : Addr) (kt : ClassId), n0 ≤ tb ∧ h0.size ≤ tb ∧ a ≠ tb ∧ Fld Z h a "java/lang/String" "value" "[B" (.ref tb) ∧ Arv Z h tb kt .byte (3 : Int32) [(.int (own_lo c0)), (.int (own_lo c1)), (.int (own_lo c2))] (.int 0)
set_option maxHeartbeats 40000000 in
theorem own_rm3k3 (l : Launch) (Z : State) (a0 : Array Value) (hw : ∀ d ∈ tables_1, d.before a0 Z = true) (ws : List Jvm.Cond) (a : Addr) (b : Addr) (c0 : Int32) (c1 : Int32) (c2 : Int32) (kb : ClassId) (cs : Int32) (uv : Value) (uc : Value) (h0 : Heap) (n0 : Nat) (Z0 : n0 ≤ h0.size) (E_a : Exa Z h0 a "java/lang/String") (g_a : n0 ≤ a) (F_value : Fld Z h0 a "java/lang/String" "value" "[B" uv) (F_coder : Fld Z h0 a "java/lang/String" "coder" "B" uc) (S_CS : Sta Z h0 "java/lang/String" "COMPACT_STRINGS" "Z" (.int cs)) (hcs : ¬ cs = (0 : Int32)) (V_b : Arv Z h0 b kb .char (3 : Int32) [(.int c0), (.int c1), (.int c2)] (.int 0)) (hl0 : ¬ (255 : Int32) < c0) (hl1 : ¬ (255 : Int32) < c1) (hl2 : ¬ (255 : Int32) < c2) :
    MetFree l own_y18 (head1 (Jvm.Cond.code own_y18 jdk_42_method_3_code 2 none :: ws) ({ frames := 3, cells := 1, slots := 3, locals := 52 } : Room)) (fun argv U => argv = #[(.ref a), (.ref b)] ∧ Z.Warmed39 U.vm ∧ U.heap = h0) (fun _ _ _ _ _ => True) (fun _ U o U' => ∃ v L, o = .returned v ∧ own_Q3k3 Z a b c0 c1 c2 kb cs uv uc h0 n0 v U'.heap L ∧ FrameEnd U o U' L ({ frames := 3, cells := 1, slots := 3, locals := 52 } : Room).cells ({ frames := 3, cells := 1, slots := 3, locals := 52 } : Room).slots) := by
  refine MetFree.of_bodySF (plainFor_of_name own_pn1) hisR ?_
  intro p e s m args below meth c s₁ Bd hml0 hP hK
  obtain ⟨rfl, hZ, hh⟩ := hP
  have hx := Bd.exec
  have hby := Bd.bytes
  have hml : c.maxLocals = 2 := hml0
  have hown : s.vm.findClass "java/lang/String" = some m.cls := findClass_of_methodNamed Bd.named
  have hnm := (name_of_methodNamed Bd.named Bd.method).1
  have X0 : Stand p l e ({ frames := 3, cells := 1, slots := 3, locals := 52 } : Room) s m #[(.ref a), (.ref b)] below meth c s₁ [] 0 0 := Stand.of_body Bd
  have e0 : s₁.heap = h0 := by rw [← hh, Bd.state]; rfl
  have N0 := Fr.nil n0
  have pre_ : own_G p e below (s₁.setTop (entryFrame m #[(.ref a), (.ref b)] 2)) s₁ m 0 #[rv a, rv b] [] := fun t k => castTop (own_ef3k3 m a b) k
  obtain ⟨s0, hs0⟩ : ∃ z, z = (s₁.setTop (entryFrame m #[(.ref a), (.ref b)] 2)) := ⟨_, rfl⟩
  have pre0 : own_G p e below s0 s₁ m 0 #[rv a, rv b] [] := hs0 ▸ pre_
  rw [← hs0]
  have S1 : own_G p e below s0 s₁ m 4 #[rv a, rv b] [(.ref b), (.int 0), (.ref b), (.ref a)] := fun t kt => by
    refine pre0 t ?_
    refine w_aloadN X0 hx hby d3_0 rfl rfl ?_
    refine w_aloadN X0 hx hby d3_1 rfl rfl ?_
    refine w_iconst X0 hx hby d3_2 ?_
    refine w_aloadN X0 hx hby d3_3 rfl rfl ?_
    exact kt
  obtain ⟨cl2, Ar2, -, Sz2, Nn2, -, -⟩ := id V_b
  have S5 : own_G p e below s0 s₁ m 6 #[rv a, rv b] [.null, (.int 3), (.int 0), (.ref b), (.ref a)] := fun t kt => by
    refine S1 t ?_
    refine X0.arraylength hx (by rw [e0]; exact Ar2.1) (State.isArrayOf_alike hZ.alike Ar2.2.1) (g := (mkF m 4 #[rv a, rv b] [(.ref b), (.int 0), (.ref b), (.ref a)])) rfl rfl (hb hby d3_4) _ ?_
    rw [len_of Sz2 Nn2]
    refine XS.aconstNull X0.here hx rfl (hb hby d3_5) ?_
    exact kt
  obtain ⟨_, _, ⟨T6, L6, k6, n6⟩, -, X6, ⟨Lc6, hQ6, l6, y6, z6⟩, st6⟩ := X0.specialBack hx (y := own_y5) rfl hown (mvT hZ (own_w hw 24 rfl)) (mvT hZ (own_w hw 25 rfl)) (mvT hZ (own_w hw 27 rfl)) (by decide) (backOf (W := 0) (own_rm4k3 l Z a0 hw [] (a) (b) (c0) (c1) (c2) (kb) (cs) (uv) (uc) h0 n0 Z0 E_a g_a F_value F_coder S_CS hcs V_b hl0 hl1 hl2) hZ (own_w hw 27 rfl) (own_w hw 9 rfl) (by decide) (by decide)) (g := (mkF m 6 #[rv a, rv b] [.null, (.int 3), (.int 0), (.ref b), (.ref a)])) rfl (by rw [hml]; rfl) (Steps.refl _) (a := a) (argsL := [(.ref b), (.int 0), (.int 3), .null]) (rest := []) (lenOf own_pd13 rfl) rfl (by show 2 * 0 + _ ≤ _; exact Nat.le_of_eq rfl) (hb hby d3_6) (fun _ _ => ⟨rfl, e0, (by decide : 0 + 1 ≤ _), (by decide : 0 + 3 ≤ _)⟩)
  dsimp only [Pt.U, Pt.locs, Pt.cells, Pt.slots] at X6 l6 y6 z6 st6 hQ6
  subst l6 y6 z6
  obtain ⟨rfl, Nq6, Kc3, Ec3, Cc3, tb3, kt3, gt3, sz3, nat3, Fv3, Va3⟩ := hQ6
  have N7 := Fr.app N0 Nq6
  have S8 : own_G p e below s0 T6 m 9 #[rv a, rv b] [] := fun t kt => S5 t (st6.trans kt)
  have F9 := E_a.keep Kc3
  have F10 := own_StaK S_CS Kc3 (allS (own_ExaS E_a) all0)
  have F11 := V_b.keep Kc3 (ninS (Ne.symm (Exa.neArv E_a V_b (own_w hw 10 rfl))) nin0)
  have K12 : Keep h0 T6.heap [a] := (Keep.refl h0 [a]).trans Kc3 (allS (Or.inl (List.mem_of_getElem? (i := 0) rfl)) all0)
  have ne_b_tb3 : b ≠ tb3 := Nat.ne_of_lt (Nat.lt_of_lt_of_le V_b.lt sz3)
  obtain ⟨fs, hr, hrun, hended, hW, hsame⟩ := X6.leave (v := none) (fun _ => rfl)
  refine ⟨_, _, S8 _ ?_, hrun, hended, _, _, rfl, ?_, ⟨_, rfl⟩, hW, hsame.mono (by decide) (by decide)⟩
  · show Steps p.tables e below (T6.setTop (mkF m 9 #[rv a, rv b] [])) _
    exact X6.returnOut hx Bd.returns (hb hby d3_9) hr
  · show own_Q3k3 Z a b c0 c1 c2 kb cs uv uc h0 n0 _ T6.heap _
    exact ⟨rfl, N7, K12, Ec3, Cc3, tb3, kt3, gt3, (Nat.le_trans (Keep.refl h0 [a]).1 sz3), nat3, Fv3, Va3⟩
theorem own_ef22k4 (m : MethodId) (x0 : Addr) (x1 : Int32) (x2 : Addr) (x3 : Int32) (x4 : Int32) : entryFrame m #[(.ref x0), (.int x1), (.ref x2), (.int x3), (.int x4)] 7 = mkF m 0 #[rv x0, iv x1, rv x2, iv x3, iv x4, .unset, .unset] [] := by first | (simp [entryFrame, mkF, argsToLocals, Value.category]; done) | rfl
def own_Q22k4 (Z : State) (b : Addr) (tb : Addr) (c0 : Int32) (c1 : Int32) (c2 : Int32) (c3 : Int32) (kb : ClassId) (kt : ClassId) (h0 : Heap) (n0 : Nat) (v : Option Value) (h : Heap) (L : List Loc) : Prop := v = some (.int 4) ∧ Fr n0 L ∧ Keep h0 h [tb] ∧ Arv Z h tb kt .byte (4 : Int32) [(.int (own_lo c0)), (.int (own_lo c1)), (.int (own_lo c2)), (.int (own_lo c3))] (.int 0)
set_option maxHeartbeats 40000000 in
theorem own_rm22k4 (l : Launch) (Z : State) (a0 : Array Value) (hw : ∀ d ∈ tables_1, d.before a0 Z = true) (ws : List Jvm.Cond) (b : Addr) (tb : Addr) (c0 : Int32) (c1 : Int32) (c2 : Int32) (c3 : Int32) (kb : ClassId) (kt : ClassId) (h0 : Heap) (n0 : Nat) (Z0 : n0 ≤ h0.size) (V_b : Arv Z h0 b kb .char (4 : Int32) [(.int c0), (.int c1), (.int c2), (.int c3)] (.int 0)) (V_t : Arv Z h0 tb kt .byte (4 : Int32) [(.int 0), (.int 0), (.int 0), (.int 0)] (.int 0)) (g_tb : n0 ≤ tb) (ne_b_tb : b ≠ tb) (hl0 : ¬ (255 : Int32) < c0) (hl1 : ¬ (255 : Int32) < c1) (hl2 : ¬ (255 : Int32) < c2) (hl3 : ¬ (255 : Int32) < c3) :
    MetFree l own_y8 (head1 (Jvm.Cond.code own_y8 jdk_52_method_21_code 7 (some .int) :: ws) ({ frames := 0, cells := 0, slots := 0, locals := 0 } : Room)) (fun argv U => argv = #[(.ref b), (.int 0), (.ref tb), (.int 0), (.int 4)] ∧ Z.Warmed39 U.vm ∧ U.heap = h0) (fun _ _ _ _ _ => True) (fun _ U o U' => ∃ v L, o = .returned v ∧ own_Q22k4 Z b tb c0 c1 c2 c3 kb kt h0 n0 v U'.heap L ∧ FrameEnd U o U' L ({ frames := 0, cells := 0, slots := 0, locals := 0 } : Room).cells ({ frames := 0, cells := 0, slots := 0, locals := 0 } : Room).slots) := by
  refine MetFree.of_bodySF (plainFor_of_name own_pn4) hisR ?_
  intro p e s m args below meth c s₁ Bd hml0 hP hK
  obtain ⟨rfl, hZ, hh⟩ := hP
  have hx := Bd.exec
  have hby := Bd.bytes
  have hml : c.maxLocals = 7 := hml0
  have hown : s.vm.findClass own_s1 = some m.cls := findClass_of_methodNamed Bd.named
  have hnm := (name_of_methodNamed Bd.named Bd.method).1
  have X0 : Stand p l e ({ frames := 0, cells := 0, slots := 0, locals := 0 } : Room) s m #[(.ref b), (.int 0), (.ref tb), (.int 0), (.int 4)] below meth c s₁ [] 0 0 := Stand.of_body Bd
  have e0 : s₁.heap = h0 := by rw [← hh, Bd.state]; rfl
  have N0 := Fr.nil n0
  have pre_ : own_G p e below (s₁.setTop (entryFrame m #[(.ref b), (.int 0), (.ref tb), (.int 0), (.int 4)] 7)) s₁ m 0 #[rv b, iv 0, rv tb, iv 0, iv 4, .unset, .unset] [] := fun t k => castTop (own_ef22k4 m b (0 : Int32) tb (0 : Int32) (4 : Int32)) k
  obtain ⟨s0, hs0⟩ : ∃ z, z = (s₁.setTop (entryFrame m #[(.ref b), (.int 0), (.ref tb), (.int 0), (.int 4)] 7)) := ⟨_, rfl⟩
  have pre0 : own_G p e below s0 s₁ m 0 #[rv b, iv 0, rv tb, iv 0, iv 4, .unset, .unset] [] := hs0 ▸ pre_
  rw [← hs0]
  have S1 : own_G p e below s0 s₁ m 7 #[rv b, iv 0, rv tb, iv 0, iv 4, iv 0, .unset] [(.int 4), (.int 0)] := fun t kt => by
    refine pre0 t ?_
    refine w_iconst X0 hx hby d22_0 ?_
    refine w_istore X0 hx hby d22_1 (l' := #[rv b, iv 0, rv tb, iv 0, iv 4, iv 0, .unset]) rfl ?_
    refine w_iload X0 hx hby d22_3 rfl ?_
    refine w_iload X0 hx hby d22_5 rfl ?_
    exact kt
  have hc7_2 : (0 : Int32) < (4 : Int32) := by decide
  have S4 : own_G p e below s0 s₁ m 12 #[rv b, iv 0, rv tb, iv 0, iv 4, iv 0, .unset] [(.int 0), (.ref b)] := fun t kt => by
    refine S1 t ?_
    refine w_icmpNo X0 hx hby d22_7 (tlt hc7_2).2.1 ?_
    refine w_aloadN X0 hx hby d22_10 rfl rfl ?_
    refine w_iloadN X0 hx hby d22_11 rfl ?_
    exact kt
  obtain ⟨cl3, Ar3, -, Sz3, Nn3, Hh3, -⟩ := id V_b
  have hin3 : ¬ ((0 : Int32) < 0 ∨ cl3.slots.size ≤ ((0 : Int32)).toNatClampNeg) := inb_of Sz3 ⟨by decide, by decide⟩
  have S5 : own_G p e below s0 s₁ m 20 #[rv b, iv 0, rv tb, iv 0, iv 4, iv 0, iv c0] [(.int 255), (.int c0)] := fun t kt => by
    refine S4 t ?_
    refine X0.caload hx (j := (0 : Int32)) (v := (.int c0)) (by rw [e0]; exact Ar3.1) (State.isArrayOf_alike hZ.alike Ar3.2.1) Ar3.2.2 hin3 (Has.at Hh3 hin3 rfl) (g := (mkF m 12 #[rv b, iv 0, rv tb, iv 0, iv 4, iv 0, .unset] [(.int 0), (.ref b)])) rfl rfl (hb hby d22_12) _ ?_
    refine w_istore X0 hx hby d22_13 (l' := #[rv b, iv 0, rv tb, iv 0, iv 4, iv 0, iv c0]) rfl ?_
    refine w_iload X0 hx hby d22_15 rfl ?_
    refine w_sipush X0 hx hby d22_17 ?_
    exact kt
  have hc20_6 : ¬ ((255 : Int32) < c0) := hl0
  have S7 : own_G p e below s0 s₁ m 31 #[rv b, iv 0, rv tb, iv 0, iv 4, iv 0, iv c0] [(.int (c0.toInt8.toInt32)), (.int 0), (.ref tb)] := fun t kt => by
    refine S5 t ?_
    refine w_icmpYes X0 hx hby (pc' := 26) d22_20 (flt hc20_6).2.2.2 (by decide) ?_
    refine w_aloadN X0 hx hby d22_26 rfl rfl ?_
    refine w_iloadN X0 hx hby d22_27 rfl ?_
    refine w_iload X0 hx hby d22_28 rfl ?_
    refine XS.i2b X0.here hx rfl (hb hby d22_30) rfl ?_
    exact kt
  obtain ⟨cl8, Ar8, q8, Sz8, Nn8, Hh8, Gg8⟩ := id V_t
  have hin8 : ¬ ((0 : Int32) < 0 ∨ cl8.slots.size ≤ ((0 : Int32)).toNatClampNeg) := inb_of Sz8 ⟨by decide, by decide⟩
  obtain ⟨T9, h9, X9, e9, W9, st9⟩ := stB X0 hx hZ e0 Ar8 (j := (0 : Int32)) hin8 (g := (mkF m 31 #[rv b, iv 0, rv tb, iv 0, iv 4, iv 0, iv c0] [(.int (c0.toInt8.toInt32)), (.int 0), (.ref tb)])) rfl rfl (hb hby d22_31)
  have S10 : own_G p e below s0 T9 m 32 #[rv b, iv 0, rv tb, iv 0, iv 4, iv 0, iv c0] [] := fun t kt => S7 t (st9 _ kt)
  have V11 := Arv.set Ar8 q8 Sz8 Nn8 Hh8 Gg8 (fits_nar_byte _) W9 0 rfl (Nat.le_of_ble_eq_true rfl)
  have F12 := V_b.other W9 ne_b_tb
  have N13 := Fr.snoc X9 N0 g_tb
  have K14 : Keep h0 h9 [tb] := (Keep.refl h0 [tb]).wr W9 (Or.inl (List.mem_of_getElem? (i := 0) rfl))
  have S15 : own_G p e below s0 T9 m 7 #[rv b, iv 1, rv tb, iv 1, iv 4, iv 1, iv c0] [(.int 4), (.int 1)] := fun t kt => by
    refine S10 t ?_
    refine w_iinc X9 hx hby d22_32 rfl (l' := #[rv b, iv 1, rv tb, iv 0, iv 4, iv 0, iv c0]) rfl ?_
    refine w_iinc X9 hx hby d22_35 rfl (l' := #[rv b, iv 1, rv tb, iv 1, iv 4, iv 0, iv c0]) rfl ?_
    refine w_iinc X9 hx hby d22_38 rfl (l' := #[rv b, iv 1, rv tb, iv 1, iv 4, iv 1, iv c0]) rfl ?_
    refine w_goto X9 hx hby (pc' := 3) d22_41 (by decide) ?_
    refine w_iload X9 hx hby d22_3 rfl ?_
    refine w_iload X9 hx hby d22_5 rfl ?_
    exact kt
  have hc7_16 : (1 : Int32) < (4 : Int32) := by decide
  have S18 : own_G p e below s0 T9 m 12 #[rv b, iv 1, rv tb, iv 1, iv 4, iv 1, iv c0] [(.int 1), (.ref b)] := fun t kt => by
    refine S15 t ?_
    refine w_icmpNo X9 hx hby d22_7 (tlt hc7_16).2.1 ?_
    refine w_aloadN X9 hx hby d22_10 rfl rfl ?_
    refine w_iloadN X9 hx hby d22_11 rfl ?_
    exact kt
  obtain ⟨cl17, Ar17, -, Sz17, Nn17, Hh17, -⟩ := id F12
  have hin17 : ¬ ((1 : Int32) < 0 ∨ cl17.slots.size ≤ ((1 : Int32)).toNatClampNeg) := inb_of Sz17 ⟨by decide, by decide⟩
  have S19 : own_G p e below s0 T9 m 20 #[rv b, iv 1, rv tb, iv 1, iv 4, iv 1, iv c1] [(.int 255), (.int c1)] := fun t kt => by
    refine S18 t ?_
    refine X9.caload hx (j := (1 : Int32)) (v := (.int c1)) (by rw [e9]; exact Ar17.1) (State.isArrayOf_alike hZ.alike Ar17.2.1) Ar17.2.2 hin17 (Has.at Hh17 hin17 rfl) (g := (mkF m 12 #[rv b, iv 1, rv tb, iv 1, iv 4, iv 1, iv c0] [(.int 1), (.ref b)])) rfl rfl (hb hby d22_12) _ ?_
    refine w_istore X9 hx hby d22_13 (l' := #[rv b, iv 1, rv tb, iv 1, iv 4, iv 1, iv c1]) rfl ?_
    refine w_iload X9 hx hby d22_15 rfl ?_
    refine w_sipush X9 hx hby d22_17 ?_
    exact kt
  have hc20_20 : ¬ ((255 : Int32) < c1) := hl1
  have S21 : own_G p e below s0 T9 m 31 #[rv b, iv 1, rv tb, iv 1, iv 4, iv 1, iv c1] [(.int (c1.toInt8.toInt32)), (.int 1), (.ref tb)] := fun t kt => by
    refine S19 t ?_
    refine w_icmpYes X9 hx hby (pc' := 26) d22_20 (flt hc20_20).2.2.2 (by decide) ?_
    refine w_aloadN X9 hx hby d22_26 rfl rfl ?_
    refine w_iloadN X9 hx hby d22_27 rfl ?_
    refine w_iload X9 hx hby d22_28 rfl ?_
    refine XS.i2b X9.here hx rfl (hb hby d22_30) rfl ?_
    exact kt
  obtain ⟨cl22, Ar22, q22, Sz22, Nn22, Hh22, Gg22⟩ := id V11
  have hin22 : ¬ ((1 : Int32) < 0 ∨ cl22.slots.size ≤ ((1 : Int32)).toNatClampNeg) := inb_of Sz22 ⟨by decide, by decide⟩
  obtain ⟨T23, h23, X23, e23, W23, st23⟩ := stB X9 hx hZ e9 Ar22 (j := (1 : Int32)) hin22 (g := (mkF m 31 #[rv b, iv 1, rv tb, iv 1, iv 4, iv 1, iv c1] [(.int (c1.toInt8.toInt32)), (.int 1), (.ref tb)])) rfl rfl (hb hby d22_31)
  have S24 : own_G p e below s0 T23 m 32 #[rv b, iv 1, rv tb, iv 1, iv 4, iv 1, iv c1] [] := fun t kt => S21 t (st23 _ kt)
  have V25 := Arv.set Ar22 q22 Sz22 Nn22 Hh22 Gg22 (fits_nar_byte _) W23 1 rfl (Nat.le_of_ble_eq_true rfl)
  have F26 := F12.other W23 ne_b_tb
  have N27 := Fr.snoc X23 N13 g_tb
  have K28 : Keep h0 h23 [tb] := K14.wr W23 (Or.inl (List.mem_of_getElem? (i := 0) rfl))
  have S29 : own_G p e below s0 T23 m 7 #[rv b, iv 2, rv tb, iv 2, iv 4, iv 2, iv c1] [(.int 4), (.int 2)] := fun t kt => by
    refine S24 t ?_
    refine w_iinc X23 hx hby d22_32 rfl (l' := #[rv b, iv 2, rv tb, iv 1, iv 4, iv 1, iv c1]) rfl ?_
    refine w_iinc X23 hx hby d22_35 rfl (l' := #[rv b, iv 2, rv tb, iv 2, iv 4, iv 1, iv c1]) rfl ?_
    refine w_iinc X23 hx hby d22_38 rfl (l' := #[rv b, iv 2, rv tb, iv 2, iv 4, iv 2, iv c1]) rfl ?_
    refine w_goto X23 hx hby (pc' := 3) d22_41 (by decide) ?_
    refine w_iload X23 hx hby d22_3 rfl ?_
    refine w_iload X23 hx hby d22_5 rfl ?_
    exact kt
  have hc7_30 : (2 : Int32) < (4 : Int32) := by decide
  have S32 : own_G p e below s0 T23 m 12 #[rv b, iv 2, rv tb, iv 2, iv 4, iv 2, iv c1] [(.int 2), (.ref b)] := fun t kt => by
    refine S29 t ?_
    refine w_icmpNo X23 hx hby d22_7 (tlt hc7_30).2.1 ?_
    refine w_aloadN X23 hx hby d22_10 rfl rfl ?_
    refine w_iloadN X23 hx hby d22_11 rfl ?_
    exact kt
  obtain ⟨cl31, Ar31, -, Sz31, Nn31, Hh31, -⟩ := id F26
  have hin31 : ¬ ((2 : Int32) < 0 ∨ cl31.slots.size ≤ ((2 : Int32)).toNatClampNeg) := inb_of Sz31 ⟨by decide, by decide⟩
  have S33 : own_G p e below s0 T23 m 20 #[rv b, iv 2, rv tb, iv 2, iv 4, iv 2, iv c2] [(.int 255), (.int c2)] := fun t kt => by
    refine S32 t ?_
    refine X23.caload hx (j := (2 : Int32)) (v := (.int c2)) (by rw [e23]; exact Ar31.1) (State.isArrayOf_alike hZ.alike Ar31.2.1) Ar31.2.2 hin31 (Has.at Hh31 hin31 rfl) (g := (mkF m 12 #[rv b, iv 2, rv tb, iv 2, iv 4, iv 2, iv c1] [(.int 2), (.ref b)])) rfl rfl (hb hby d22_12) _ ?_
    refine w_istore X23 hx hby d22_13 (l' := #[rv b, iv 2, rv tb, iv 2, iv 4, iv 2, iv c2]) rfl ?_
    refine w_iload X23 hx hby d22_15 rfl ?_
    refine w_sipush X23 hx hby d22_17 ?_
    exact kt
  have hc20_34 : ¬ ((255 : Int32) < c2) := hl2
  have S35 : own_G p e below s0 T23 m 31 #[rv b, iv 2, rv tb, iv 2, iv 4, iv 2, iv c2] [(.int (c2.toInt8.toInt32)), (.int 2), (.ref tb)] := fun t kt => by
    refine S33 t ?_
    refine w_icmpYes X23 hx hby (pc' := 26) d22_20 (flt hc20_34).2.2.2 (by decide) ?_
    refine w_aloadN X23 hx hby d22_26 rfl rfl ?_
    refine w_iloadN X23 hx hby d22_27 rfl ?_
    refine w_iload X23 hx hby d22_28 rfl ?_
    refine XS.i2b X23.here hx rfl (hb hby d22_30) rfl ?_
    exact kt
  obtain ⟨cl36, Ar36, q36, Sz36, Nn36, Hh36, Gg36⟩ := id V25
  have hin36 : ¬ ((2 : Int32) < 0 ∨ cl36.slots.size ≤ ((2 : Int32)).toNatClampNeg) := inb_of Sz36 ⟨by decide, by decide⟩
  obtain ⟨T37, h37, X37, e37, W37, st37⟩ := stB X23 hx hZ e23 Ar36 (j := (2 : Int32)) hin36 (g := (mkF m 31 #[rv b, iv 2, rv tb, iv 2, iv 4, iv 2, iv c2] [(.int (c2.toInt8.toInt32)), (.int 2), (.ref tb)])) rfl rfl (hb hby d22_31)
  have S38 : own_G p e below s0 T37 m 32 #[rv b, iv 2, rv tb, iv 2, iv 4, iv 2, iv c2] [] := fun t kt => S35 t (st37 _ kt)
  have V39 := Arv.set Ar36 q36 Sz36 Nn36 Hh36 Gg36 (fits_nar_byte _) W37 2 rfl (Nat.le_of_ble_eq_true rfl)
  have F40 := F26.other W37 ne_b_tb
  have N41 := Fr.snoc X37 N27 g_tb
  have K42 : Keep h0 h37 [tb] := K28.wr W37 (Or.inl (List.mem_of_getElem? (i := 0) rfl))
  have S43 : own_G p e below s0 T37 m 7 #[rv b, iv 3, rv tb, iv 3, iv 4, iv 3, iv c2] [(.int 4), (.int 3)] := fun t kt => by
    refine S38 t ?_
    refine w_iinc X37 hx hby d22_32 rfl (l' := #[rv b, iv 3, rv tb, iv 2, iv 4, iv 2, iv c2]) rfl ?_
    refine w_iinc X37 hx hby d22_35 rfl (l' := #[rv b, iv 3, rv tb, iv 3, iv 4, iv 2, iv c2]) rfl ?_
    refine w_iinc X37 hx hby d22_38 rfl (l' := #[rv b, iv 3, rv tb, iv 3, iv 4, iv 3, iv c2]) rfl ?_
    refine w_goto X37 hx hby (pc' := 3) d22_41 (by decide) ?_
    refine w_iload X37 hx hby d22_3 rfl ?_
    refine w_iload X37 hx hby d22_5 rfl ?_
    exact kt
  have hc7_44 : (3 : Int32) < (4 : Int32) := by decide
  have S46 : own_G p e below s0 T37 m 12 #[rv b, iv 3, rv tb, iv 3, iv 4, iv 3, iv c2] [(.int 3), (.ref b)] := fun t kt => by
    refine S43 t ?_
    refine w_icmpNo X37 hx hby d22_7 (tlt hc7_44).2.1 ?_
    refine w_aloadN X37 hx hby d22_10 rfl rfl ?_
    refine w_iloadN X37 hx hby d22_11 rfl ?_
    exact kt
  obtain ⟨cl45, Ar45, -, Sz45, Nn45, Hh45, -⟩ := id F40
  have hin45 : ¬ ((3 : Int32) < 0 ∨ cl45.slots.size ≤ ((3 : Int32)).toNatClampNeg) := inb_of Sz45 ⟨by decide, by decide⟩
  have S47 : own_G p e below s0 T37 m 20 #[rv b, iv 3, rv tb, iv 3, iv 4, iv 3, iv c3] [(.int 255), (.int c3)] := fun t kt => by
    refine S46 t ?_
    refine X37.caload hx (j := (3 : Int32)) (v := (.int c3)) (by rw [e37]; exact Ar45.1) (State.isArrayOf_alike hZ.alike Ar45.2.1) Ar45.2.2 hin45 (Has.at Hh45 hin45 rfl) (g := (mkF m 12 #[rv b, iv 3, rv tb, iv 3, iv 4, iv 3, iv c2] [(.int 3), (.ref b)])) rfl rfl (hb hby d22_12) _ ?_
    refine w_istore X37 hx hby d22_13 (l' := #[rv b, iv 3, rv tb, iv 3, iv 4, iv 3, iv c3]) rfl ?_
    refine w_iload X37 hx hby d22_15 rfl ?_
    refine w_sipush X37 hx hby d22_17 ?_
    exact kt
  have hc20_48 : ¬ ((255 : Int32) < c3) := hl3
  have S49 : own_G p e below s0 T37 m 31 #[rv b, iv 3, rv tb, iv 3, iv 4, iv 3, iv c3] [(.int (c3.toInt8.toInt32)), (.int 3), (.ref tb)] := fun t kt => by
    refine S47 t ?_
    refine w_icmpYes X37 hx hby (pc' := 26) d22_20 (flt hc20_48).2.2.2 (by decide) ?_
    refine w_aloadN X37 hx hby d22_26 rfl rfl ?_
    refine w_iloadN X37 hx hby d22_27 rfl ?_
    refine w_iload X37 hx hby d22_28 rfl ?_
    refine XS.i2b X37.here hx rfl (hb hby d22_30) rfl ?_
    exact kt
  obtain ⟨cl50, Ar50, q50, Sz50, Nn50, Hh50, Gg50⟩ := id V39
  have hin50 : ¬ ((3 : Int32) < 0 ∨ cl50.slots.size ≤ ((3 : Int32)).toNatClampNeg) := inb_of Sz50 ⟨by decide, by decide⟩
  obtain ⟨T51, h51, X51, e51, W51, st51⟩ := stB X37 hx hZ e37 Ar50 (j := (3 : Int32)) hin50 (g := (mkF m 31 #[rv b, iv 3, rv tb, iv 3, iv 4, iv 3, iv c3] [(.int (c3.toInt8.toInt32)), (.int 3), (.ref tb)])) rfl rfl (hb hby d22_31)
  have S52 : own_G p e below s0 T51 m 32 #[rv b, iv 3, rv tb, iv 3, iv 4, iv 3, iv c3] [] := fun t kt => S49 t (st51 _ kt)
  have V53 := Arv.set Ar50 q50 Sz50 Nn50 Hh50 Gg50 (fits_nar_byte _) W51 3 rfl (Nat.le_of_ble_eq_true rfl)
  have F54 := F40.other W51 ne_b_tb
  have N55 := Fr.snoc X51 N41 g_tb
  have K56 : Keep h0 h51 [tb] := K42.wr W51 (Or.inl (List.mem_of_getElem? (i := 0) rfl))
  have S57 : own_G p e below s0 T51 m 7 #[rv b, iv 4, rv tb, iv 4, iv 4, iv 4, iv c3] [(.int 4), (.int 4)] := fun t kt => by
    refine S52 t ?_
    refine w_iinc X51 hx hby d22_32 rfl (l' := #[rv b, iv 4, rv tb, iv 3, iv 4, iv 3, iv c3]) rfl ?_
    refine w_iinc X51 hx hby d22_35 rfl (l' := #[rv b, iv 4, rv tb, iv 4, iv 4, iv 3, iv c3]) rfl ?_
    refine w_iinc X51 hx hby d22_38 rfl (l' := #[rv b, iv 4, rv tb, iv 4, iv 4, iv 4, iv c3]) rfl ?_
    refine w_goto X51 hx hby (pc' := 3) d22_41 (by decide) ?_
    refine w_iload X51 hx hby d22_3 rfl ?_
    refine w_iload X51 hx hby d22_5 rfl ?_
    exact kt
  have hc7_58 : ¬ ((4 : Int32) < (4 : Int32)) := by decide
  have S59 : own_G p e below s0 T51 m 46 #[rv b, iv 4, rv tb, iv 4, iv 4, iv 4, iv c3] [(.int 4)] := fun t kt => by
    refine S57 t ?_
    refine w_icmpYes X51 hx hby (pc' := 44) d22_7 (flt hc7_58).2.1 (by decide) ?_
    refine w_iload X51 hx hby d22_44 rfl ?_
    exact kt
  obtain ⟨fs, hr, hrun, hended, hW, hsame⟩ := X51.leave (v := some (.int 4)) (fun h => by rw [Bd.returns] at h; cases h)
  refine ⟨_, _, S59 _ ?_, hrun, hended, _, _, rfl, ?_, ⟨_, rfl⟩, hW, hsame.mono (by decide) (by decide)⟩
  · show Steps p.tables e below (T51.setTop (mkF m 46 #[rv b, iv 4, rv tb, iv 4, iv 4, iv 4, iv c3] [(.int 4)])) _
    exact own_retI X51 hx Bd.returns (hb hby d22_46) hr
  · show own_Q22k4 Z b tb c0 c1 c2 c3 kb kt h0 n0 _ T51.heap _
    rw [e51]
    exact ⟨rfl, N55, K56, (by have q : Arv Z h51 tb kt .byte (4 : Int32) [(.int (nar .byte (c0.toInt8.toInt32))), (.int (nar .byte (c1.toInt8.toInt32))), (.int (nar .byte (c2.toInt8.toInt32))), (.int (nar .byte (c3.toInt8.toInt32)))] (.int 0) := V53; simp only [own_lolo] at q; exact q)⟩
theorem own_ef23k4 (m : MethodId) (x0 : Addr) (x1 : Int32) : entryFrame m #[(.ref x0), (.int x1)] 2 = mkF m 0 #[rv x0, iv x1] [] := by first | (simp [entryFrame, mkF, argsToLocals, Value.category]; done) | rfl
def own_Q23k4 (Z : State) (tb : Addr) (c0 : Int32) (c1 : Int32) (c2 : Int32) (c3 : Int32) (kt : ClassId) (h0 : Heap) (n0 : Nat) (v : Option Value) (h : Heap) (L : List Loc) : Prop := v = some (.int 0) ∧ L = [] ∧ h = h0
set_option maxHeartbeats 40000000 in
theorem own_rm23k4 (l : Launch) (Z : State) (a0 : Array Value) (hw : ∀ d ∈ tables_1, d.before a0 Z = true) (ws : List Jvm.Cond) (tb : Addr) (c0 : Int32) (c1 : Int32) (c2 : Int32) (c3 : Int32) (kt : ClassId) (h0 : Heap) (n0 : Nat) (Z0 : n0 ≤ h0.size) (V_t : Arv Z h0 tb kt .byte (4 : Int32) [(.int (own_lo c0)), (.int (own_lo c1)), (.int (own_lo c2)), (.int (own_lo c3))] (.int 0)) :
    MetFree l own_y6 (head1 (Jvm.Cond.code own_y6 jdk_52_method_15_code 2 (some .byte) :: ws) ({ frames := 0, cells := 0, slots := 0, locals := 0 } : Room)) (fun argv U => argv = #[(.ref tb), (.int 4)] ∧ Z.Warmed39 U.vm ∧ U.heap = h0) (fun _ _ _ _ _ => True) (fun _ U o U' => ∃ v L, o = .returned v ∧ own_Q23k4 Z tb c0 c1 c2 c3 kt h0 n0 v U'.heap L ∧ FrameEnd U o U' L ({ frames := 0, cells := 0, slots := 0, locals := 0 } : Room).cells ({ frames := 0, cells := 0, slots := 0, locals := 0 } : Room).slots) := by
  refine MetFree.of_bodySF (plainFor_of_name own_pn4) hisR ?_
  intro p e s m args below meth c s₁ Bd hml0 hP hK
  obtain ⟨rfl, hZ, hh⟩ := hP
  have hx := Bd.exec
  have hby := Bd.bytes
  have hml : c.maxLocals = 2 := hml0
  have hown : s.vm.findClass own_s1 = some m.cls := findClass_of_methodNamed Bd.named
  have hnm := (name_of_methodNamed Bd.named Bd.method).1
  have X0 : Stand p l e ({ frames := 0, cells := 0, slots := 0, locals := 0 } : Room) s m #[(.ref tb), (.int 4)] below meth c s₁ [] 0 0 := Stand.of_body Bd
  have e0 : s₁.heap = h0 := by rw [← hh, Bd.state]; rfl
  have N0 := Fr.nil n0
  have pre_ : own_G p e below (s₁.setTop (entryFrame m #[(.ref tb), (.int 4)] 2)) s₁ m 0 #[rv tb, iv 4] [] := fun t k => castTop (own_ef23k4 m tb (4 : Int32)) k
  obtain ⟨s0, hs0⟩ : ∃ z, z = (s₁.setTop (entryFrame m #[(.ref tb), (.int 4)] 2)) := ⟨_, rfl⟩
  have pre0 : own_G p e below s0 s₁ m 0 #[rv tb, iv 4] [] := hs0 ▸ pre_
  rw [← hs0]
  have S1 : own_G p e below s0 s₁ m 2 #[rv tb, iv 4] [(.ref tb), (.int 4)] := fun t kt => by
    refine pre0 t ?_
    refine w_iloadN X0 hx hby d23_0 rfl ?_
    refine w_aloadN X0 hx hby d23_1 rfl rfl ?_
    exact kt
  obtain ⟨cl2, Ar2, -, Sz2, Nn2, -, -⟩ := id V_t
  have S3 : own_G p e below s0 s₁ m 8 #[rv tb, iv 4] [(.int ((0 : Int32).toInt8.toInt32))] := fun t kt => by
    refine S1 t ?_
    refine X0.arraylength hx (by rw [e0]; exact Ar2.1) (State.isArrayOf_alike hZ.alike Ar2.2.1) (g := (mkF m 2 #[rv tb, iv 4] [(.ref tb), (.int 4)])) rfl rfl (hb hby d23_2) _ ?_
    rw [len_of Sz2 Nn2]
    refine w_isub X0 hx hby d23_3 ?_
    refine w_bipush X0 hx hby d23_4 ?_
    refine XS.iushr X0.here hx rfl (hb hby d23_6) rfl ?_
    refine XS.i2b X0.here hx rfl (hb hby d23_7) rfl ?_
    exact kt
  obtain ⟨fs, hr, hrun, hended, hW, hsame⟩ := X0.leave (v := some (.int (nar .byte ((0 : Int32).toInt8.toInt32)))) (fun h => by rw [Bd.returns] at h; cases h)
  refine ⟨_, _, S3 _ ?_, hrun, hended, _, _, rfl, ?_, ⟨_, rfl⟩, hW, hsame.mono (by decide) (by decide)⟩
  · show Steps p.tables e below (s₁.setTop (mkF m 8 #[rv tb, iv 4] [(.int ((0 : Int32).toInt8.toInt32))])) _
    exact retN X0 hx (t := .byte) Bd.returns (by simp) (hb hby d23_8) hr
  · show own_Q23k4 Z tb c0 c1 c2 c3 kt h0 n0 _ s₁.heap _
    rw [e0]
    exact ⟨rfl, rfl, rfl⟩
theorem own_ef21k4 (m : MethodId) (x0 : Addr) (x1 : Int32) (x2 : Int32) : entryFrame m #[(.ref x0), (.int x1), (.int x2)] 6 = mkF m 0 #[rv x0, iv x1, iv x2, .unset, .unset, .unset] [] := by first | (simp [entryFrame, mkF, argsToLocals, Value.category]; done) | rfl
def own_Q21k4 (Z : State) (b : Addr) (c0 : Int32) (c1 : Int32) (c2 : Int32) (c3 : Int32) (kb : ClassId) (h0 : Heap) (n0 : Nat) (v : Option Value) (h : Heap) (L : List Loc) : Prop := ∃ (tb : Addr) (kt : ClassId), v = some (.ref tb) ∧ Fr n0 L ∧ n0 ≤ tb ∧ h0.size ≤ tb ∧ Keep h0 h [] ∧ Arv Z h tb kt .byte (4 : Int32) [(.int (own_lo c0)), (.int (own_lo c1)), (.int (own_lo c2)), (.int (own_lo c3))] (.int 0)
set_option maxHeartbeats 40000000 in
theorem own_rm21k4 (l : Launch) (Z : State) (a0 : Array Value) (hw : ∀ d ∈ tables_1, d.before a0 Z = true) (ws : List Jvm.Cond) (b : Addr) (c0 : Int32) (c1 : Int32) (c2 : Int32) (c3 : Int32) (kb : ClassId) (h0 : Heap) (n0 : Nat) (Z0 : n0 ≤ h0.size) (V_b : Arv Z h0 b kb .char (4 : Int32) [(.int c0), (.int c1), (.int c2), (.int c3)] (.int 0)) (hl0 : ¬ (255 : Int32) < c0) (hl1 : ¬ (255 : Int32) < c1) (hl2 : ¬ (255 : Int32) < c2) (hl3 : ¬ (255 : Int32) < c3) :
    MetFree l own_y11 (head1 (Jvm.Cond.code own_y11 jdk_52_method_16_code 6 (some (.array .byte)) :: ws) ({ frames := 1, cells := 1, slots := 4, locals := 18 } : Room)) (fun argv U => argv = #[(.ref b), (.int 0), (.int 4)] ∧ Z.Warmed39 U.vm ∧ U.heap = h0) (fun _ _ _ _ _ => True) (fun _ U o U' => ∃ v L, o = .returned v ∧ own_Q21k4 Z b c0 c1 c2 c3 kb h0 n0 v U'.heap L ∧ FrameEnd U o U' L ({ frames := 1, cells := 1, slots := 4, locals := 18 } : Room).cells ({ frames := 1, cells := 1, slots := 4, locals := 18 } : Room).slots) := by
  refine MetFree.of_bodySF (plainFor_of_name own_pn4) hisR ?_
  intro p e s m args below meth c s₁ Bd hml0 hP hK
  obtain ⟨rfl, hZ, hh⟩ := hP
  have hx := Bd.exec
  have hby := Bd.bytes
  have hml : c.maxLocals = 6 := hml0
  have hown : s.vm.findClass own_s1 = some m.cls := findClass_of_methodNamed Bd.named
  have hnm := (name_of_methodNamed Bd.named Bd.method).1
  have X0 : Stand p l e ({ frames := 1, cells := 1, slots := 4, locals := 18 } : Room) s m #[(.ref b), (.int 0), (.int 4)] below meth c s₁ [] 0 0 := Stand.of_body Bd
  have e0 : s₁.heap = h0 := by rw [← hh, Bd.state]; rfl
  have N0 := Fr.nil n0
  have pre_ : own_G p e below (s₁.setTop (entryFrame m #[(.ref b), (.int 0), (.int 4)] 6)) s₁ m 0 #[rv b, iv 0, iv 4, .unset, .unset, .unset] [] := fun t k => castTop (own_ef21k4 m b (0 : Int32) (4 : Int32)) k
  obtain ⟨s0, hs0⟩ : ∃ z, z = (s₁.setTop (entryFrame m #[(.ref b), (.int 0), (.int 4)] 6)) := ⟨_, rfl⟩
  have pre0 : own_G p e below s0 s₁ m 0 #[rv b, iv 0, iv 4, .unset, .unset, .unset] [] := hs0 ▸ pre_
  rw [← hs0]
  have S1 : own_G p e below s0 s₁ m 1 #[rv b, iv 0, iv 4, .unset, .unset, .unset] [(.int 4)] := fun t kt => by
    refine pre0 t ?_
    refine w_iloadN X0 hx hby d21_0 rfl ?_
    exact kt
  obtain ⟨T2, h2, k2, X2, e2, E2, A2, st2⟩ := newP X0 hx hZ (own_w hw 11 rfl) e0 (g := (mkF m 1 #[rv b, iv 0, iv 4, .unset, .unset, .unset] [(.int 4)])) rfl (hb hby d21_1) rfl (by decide) (cap := 4) (by decide) (by decide) (by decide) (by decide)
  obtain ⟨b2, g2⟩ : ∃ z, z = h0.size := ⟨_, rfl⟩
  rw [← g2] at A2 st2
  have S3 : own_G p e below s0 T2 m 3 #[rv b, iv 0, iv 4, .unset, .unset, .unset] [(.ref b2)] := fun t kt => S1 t (st2 _ kt)
  have g_b2 : n0 ≤ b2 := Nat.le_trans Z0 (Nat.le_of_eq g2.symm)
  have sz_b2 : h0.size ≤ b2 := Nat.le_trans (Keep.refl h0 []).1 (Nat.le_of_eq g2.symm)
  have ne_b_b2 : b ≠ b2 := Nat.ne_of_lt (Nat.lt_of_lt_of_le V_b.lt (Nat.le_of_eq g2.symm))
  have F4 := V_b.ext E2
  have K5 : Keep h0 h2 [] := (Keep.refl h0 []).ext E2
  have V6 : Arv Z h2 b2 k2 .byte (4 : Int32) [(.int 0), (.int 0), (.int 0), (.int 0)] (.int 0) := (Arv.new A2 (by decide)).pad (pad_rep [] (.int 0) 4)
  have S9 : own_G p e below s0 T2 m 9 #[rv b, iv 0, iv 4, rv b2, .unset, .unset] [(.int 4), (.int 0), (.ref b2), (.int 0), (.ref b)] := fun t kt => by
    refine S3 t ?_
    refine w_astoreN X2 hx hby d21_3 rfl (l' := #[rv b, iv 0, iv 4, rv b2, .unset, .unset]) rfl ?_
    refine w_aloadN X2 hx hby d21_4 rfl rfl ?_
    refine w_iloadN X2 hx hby d21_5 rfl ?_
    refine w_aloadN X2 hx hby d21_6 rfl rfl ?_
    refine w_iconst X2 hx hby d21_7 ?_
    refine w_iloadN X2 hx hby d21_8 rfl ?_
    exact kt
  obtain ⟨_, _, ⟨T10, L10, k10, n10⟩, -, X10, ⟨Lc10, hQ10, l10, y10, z10⟩, st10⟩ := Jvm.LawKit.callS X2 hx (y := own_y8) hown (mvT hZ (own_w hw 112 rfl)) (mvT hZ (own_w hw 113 rfl)) (mvT hZ (own_w hw 110 rfl)) (mvT hZ (own_w hw 114 rfl)) (by decide) (backOf (W := 0) (own_rm22k4 l Z a0 hw [] (b) (b2) (c0) (c1) (c2) (c3) (kb) (k2) h2 n0 (Nat.le_trans Z0 K5.1) F4 V6 g_b2 ne_b_b2 hl0 hl1 hl2 hl3) hZ (own_w hw 114 rfl) (own_w hw 110 rfl) (by decide) (by decide)) (g := (mkF m 9 #[rv b, iv 0, iv 4, rv b2, .unset, .unset] [(.int 4), (.int 0), (.ref b2), (.int 0), (.ref b)])) rfl (by rw [hml]; rfl) (argsL := [(.ref b), (.int 0), (.ref b2), (.int 0), (.int 4)]) (rest := []) (lenOf own_pd10 rfl) rfl (by show 2 * 0 + _ ≤ _; exact Nat.le_of_eq rfl) (hb hby d21_9) (fun _ _ => ⟨rfl, e2, (by decide : 1 + 0 ≤ _), (by decide : 4 + 0 ≤ _)⟩)
  dsimp only [Pt.U, Pt.locs, Pt.cells, Pt.slots] at X10 l10 y10 z10 st10 hQ10
  subst l10 y10 z10
  obtain ⟨rfl, Nq10, Kc7, Vc7⟩ := hQ10
  have N11 := Fr.app N0 Nq10
  have S12 : own_G p e below s0 T10 m 12 #[rv b, iv 0, iv 4, rv b2, .unset, .unset] [(.int 4)] := fun t kt => S9 t (st10 _ kt)
  have F13 := F4.keep Kc7 (ninS ne_b_b2 nin0)
  have K14 : Keep h0 T10.heap [] := K5.trans Kc7 (allS (Or.inr sz_b2) all0)
  have S15 : own_G p e below s0 T10 m 17 #[rv b, iv 0, iv 4, rv b2, iv 4, .unset] [(.int 4), (.int 4)] := fun t kt => by
    refine S12 t ?_
    refine w_istore X10 hx hby d21_12 (l' := #[rv b, iv 0, iv 4, rv b2, iv 4, .unset]) rfl ?_
    refine w_iload X10 hx hby d21_14 rfl ?_
    refine w_iloadN X10 hx hby d21_16 rfl ?_
    exact kt
  have hc17_16 : (4 : Int32) = (4 : Int32) := by decide
  have S17 : own_G p e below s0 T10 m 58 #[rv b, iv 0, iv 4, rv b2, iv 4, .unset] [(.ref b2)] := fun t kt => by
    refine S15 t ?_
    refine w_icmpYes X10 hx hby (pc' := 57) d21_17 (teq hc17_16).1 (by decide) ?_
    refine w_aloadN X10 hx hby d21_57 rfl rfl ?_
    exact kt
  obtain ⟨fs, hr, hrun, hended, hW, hsame⟩ := X10.leave (v := some (.ref b2)) (fun h => by rw [Bd.returns] at h; cases h)
  refine ⟨_, _, S17 _ ?_, hrun, hended, _, _, rfl, ?_, ⟨_, rfl⟩, hW, hsame.mono (by decide) (by decide)⟩
  · show Steps p.tables e below (T10.setTop (mkF m 58 #[rv b, iv 0, iv 4, rv b2, iv 4, .unset] [(.ref b2)])) _
    jvm_step X10.here [X10.here.top, hx, (hb hby d21_58), X10.method', Bd.returns, Value.isRef, FieldType.isReference]
    first | (intro acts; rw [hr _ acts rfl rfl rfl]) | rw [hr _ _ rfl rfl rfl]
    exact Steps.refl _
  · show own_Q21k4 Z b c0 c1 c2 c3 kb h0 n0 _ T10.heap _
    exact ⟨b2, k2, rfl, N11, g_b2, sz_b2, K14, Vc7⟩
theorem own_ef4k4 (m : MethodId) (x0 : Addr) (x1 : Addr) (x2 : Int32) (x3 : Int32) : entryFrame m #[(.ref x0), (.ref x1), (.int x2), (.int x3), .null] 6 = mkF m 0 #[rv x0, rv x1, iv x2, iv x3, .val .null, .unset] [] := by first | (simp [entryFrame, mkF, argsToLocals, Value.category]; done) | rfl
def own_Q4k4 (Z : State) (a : Addr) (b : Addr) (c0 : Int32) (c1 : Int32) (c2 : Int32) (c3 : Int32) (kb : ClassId) (cs : Int32) (uv : Value) (uc : Value) (h0 : Heap) (n0 : Nat) (v : Option Value) (h : Heap) (L : List Loc) : Prop := v = none ∧ Fr n0 L ∧ Keep h0 h [a] ∧ Exa Z h a "java/lang/String" ∧ Fld Z h a "java/lang/String" "coder" "B" (.int 0) ∧ ∃ (tb : Addr) (kt : ClassId), n0 ≤ tb ∧ h0.size ≤ tb ∧ a ≠ tb ∧ Fld Z h a "java/lang/String" "value" "[B" (.ref tb) ∧ Arv Z h tb kt .byte (4 : Int32) [(.int (own_lo c0)), (.int (own_lo c1)), (.int (own_lo c2)), (.int (own_lo c3))] (.int 0)
set_option maxHeartbeats 40000000 in
theorem own_rm4k4 (l : Launch) (Z : State) (a0 : Array Value) (hw : ∀ d ∈ tables_1, d.before a0 Z = true) (ws : List Jvm.Cond) (a : Addr) (b : Addr) (c0 : Int32) (c1 : Int32) (c2 : Int32) (c3 : Int32) (kb : ClassId) (cs : Int32) (uv : Value) (uc : Value) (h0 : Heap) (n0 : Nat) (Z0 : n0 ≤ h0.size) (E_a : Exa Z h0 a "java/lang/String") (g_a : n0 ≤ a) (F_value : Fld Z h0 a "java/lang/String" "value" "[B" uv) (F_coder : Fld Z h0 a "java/lang/String" "coder" "B" uc) (S_CS : Sta Z h0 "java/lang/String" "COMPACT_STRINGS" "Z" (.int cs)) (hcs : ¬ cs = (0 : Int32)) (V_b : Arv Z h0 b kb .char (4 : Int32) [(.int c0), (.int c1), (.int c2), (.int c3)] (.int 0)) (hl0 : ¬ (255 : Int32) < c0) (hl1 : ¬ (255 : Int32) < c1) (hl2 : ¬ (255 : Int32) < c2) (hl3 : ¬ (255 : Int32) < c3) :
    MetFree l own_y5 (head1 (Jvm.Cond.code own_y5 jdk_42_method_149_code 6 none :: ws) ({ frames := 2, cells := 1, slots := 4, locals := 35 } : Room)) (fun argv U => argv = #[(.ref a), (.ref b), (.int 0), (.int 4), .null] ∧ Z.Warmed39 U.vm ∧ U.heap = h0) (fun _ _ _ _ _ => True) (fun _ U o U' => ∃ v L, o = .returned v ∧ own_Q4k4 Z a b c0 c1 c2 c3 kb cs uv uc h0 n0 v U'.heap L ∧ FrameEnd U o U' L ({ frames := 2, cells := 1, slots := 4, locals := 35 } : Room).cells ({ frames := 2, cells := 1, slots := 4, locals := 35 } : Room).slots) := by
  refine MetFree.of_bodySF (plainFor_of_name own_pn1) hisR ?_
  intro p e s m args below meth c s₁ Bd hml0 hP hK
  obtain ⟨rfl, hZ, hh⟩ := hP
  have hx := Bd.exec
  have hby := Bd.bytes
  have hml : c.maxLocals = 6 := hml0
  have hown : s.vm.findClass "java/lang/String" = some m.cls := findClass_of_methodNamed Bd.named
  have hnm := (name_of_methodNamed Bd.named Bd.method).1
  have X0 : Stand p l e ({ frames := 2, cells := 1, slots := 4, locals := 35 } : Room) s m #[(.ref a), (.ref b), (.int 0), (.int 4), .null] below meth c s₁ [] 0 0 := Stand.of_body Bd
  have e0 : s₁.heap = h0 := by rw [← hh, Bd.state]; rfl
  have N0 := Fr.nil n0
  have pre_ : own_G p e below (s₁.setTop (entryFrame m #[(.ref a), (.ref b), (.int 0), (.int 4), .null] 6)) s₁ m 0 #[rv a, rv b, iv 0, iv 4, .val .null, .unset] [] := fun t k => castTop (own_ef4k4 m a b (0 : Int32) (4 : Int32)) k
  obtain ⟨s0, hs0⟩ : ∃ z, z = (s₁.setTop (entryFrame m #[(.ref a), (.ref b), (.int 0), (.int 4), .null] 6)) := ⟨_, rfl⟩
  have pre0 : own_G p e below s0 s₁ m 0 #[rv a, rv b, iv 0, iv 4, .val .null, .unset] [] := hs0 ▸ pre_
  rw [← hs0]
  have S1 : own_G p e below s0 s₁ m 1 #[rv a, rv b, iv 0, iv 4, .val .null, .unset] [(.ref a)] := fun t kt => by
    refine pre0 t ?_
    refine w_aloadN X0 hx hby d4_0 rfl rfl ?_
    exact kt
  obtain ⟨T2, X2, e2, st2⟩ := initO X0 hx hZ hown (own_w hw 28 rfl) (own_w hw 29 rfl) (own_w hw 30 rfl) e0 (g := (mkF m 1 #[rv a, rv b, iv 0, iv 4, .val .null, .unset] [(.ref a)])) rfl (by rw [hml]; rfl) rfl (hb hby d4_1) (by decide) (W := 0) (by show 2 * 0 + _ ≤ _; exact Nat.le_of_eq rfl) (by decide)
  have S3 : own_G p e below s0 T2 m 4 #[rv a, rv b, iv 0, iv 4, .val .null, .unset] [] := fun t kt => S1 t (st2 _ kt)
  have S4 : own_G p e below s0 T2 m 5 #[rv a, rv b, iv 0, iv 4, .val .null, .unset] [(.int 4)] := fun t kt => by
    refine S3 t ?_
    refine w_iloadN X2 hx hby d4_4 rfl ?_
    exact kt
  have hc5_5 : ¬ ((4 : Int32) = (0 : Int32)) := by decide
  have S6 : own_G p e below s0 T2 m 27 #[rv a, rv b, iv 0, iv 4, .val .null, .unset] [] := fun t kt => by
    refine S4 t ?_
    refine w_ifYes X2 hx hby (pc' := 27) d4_5 ((if0 _ _).trans (feq hc5_5).2) (by decide) ?_
    exact kt
  obtain ⟨T7, X7, e7, st7⟩ := getS2 X2 hx hZ hown (host := "") (Or.inl (own_w hw 58 rfl)) Via.refl e2 S_CS (g := (mkF m 27 #[rv a, rv b, iv 0, iv 4, .val .null, .unset] [])) rfl (hb hby d4_27)
  have S8 : own_G p e below s0 T7 m 30 #[rv a, rv b, iv 0, iv 4, .val .null, .unset] [(.int cs)] := fun t kt => S6 t (st7 _ kt)
  have hc30_9 : ¬ (cs = (0 : Int32)) := hcs
  have S12 : own_G p e below s0 T7 m 36 #[rv a, rv b, iv 0, iv 4, .val .null, .unset] [(.int 4), (.int 0), (.ref b)] := fun t kt => by
    refine S8 t ?_
    refine w_ifNo X7 hx hby d4_30 ((if0 _ _).trans (feq hc30_9).1) ?_
    refine w_aloadN X7 hx hby d4_33 rfl rfl ?_
    refine w_iloadN X7 hx hby d4_34 rfl ?_
    refine w_iloadN X7 hx hby d4_35 rfl ?_
    exact kt
  obtain ⟨_, _, ⟨T13, L13, k13, n13⟩, -, X13, ⟨Lc13, hQ13, l13, y13, z13⟩, st13⟩ := Jvm.LawKit.callS X7 hx (y := own_y11) hown (mvT hZ (own_w hw 108 rfl)) (mvT hZ (own_w hw 109 rfl)) (mvT hZ (own_w hw 110 rfl)) (mvT hZ (own_w hw 111 rfl)) (by decide) (backOf (W := 0) (own_rm21k4 l Z a0 hw [] (b) (c0) (c1) (c2) (c3) (kb) h0 n0 Z0 V_b hl0 hl1 hl2 hl3) hZ (own_w hw 111 rfl) (own_w hw 110 rfl) (by decide) (by decide)) (g := (mkF m 36 #[rv a, rv b, iv 0, iv 4, .val .null, .unset] [(.int 4), (.int 0), (.ref b)])) rfl (by rw [hml]; rfl) (argsL := [(.ref b), (.int 0), (.int 4)]) (rest := []) (lenOf own_pd11 rfl) rfl (by show 2 * 0 + _ ≤ _; exact Nat.le_of_eq rfl) (hb hby d4_36) (fun _ _ => ⟨rfl, e7, (by decide : 0 + 1 ≤ _), (by decide : 0 + 4 ≤ _)⟩)
  dsimp only [Pt.U, Pt.locs, Pt.cells, Pt.slots] at X13 l13 y13 z13 st13 hQ13
  subst l13 y13 z13
  obtain ⟨tb10, kt10, rfl, Nq13, gt10, sz10, Kc10, Vc10⟩ := hQ13
  have N14 := Fr.app N0 Nq13
  have S15 : own_G p e below s0 T13 m 39 #[rv a, rv b, iv 0, iv 4, .val .null, .unset] [(.ref tb10)] := fun t kt => S12 t (st13 _ kt)
  have F16 := E_a.keep Kc10
  have F17 := F_value.keep Kc10 nin0
  have F18 := F_coder.keep Kc10 nin0
  have F19 := own_StaK S_CS Kc10 all0
  have F20 := V_b.keep Kc10 nin0
  have K21 : Keep h0 T13.heap [a] := (Keep.refl h0 [a]).trans Kc10 all0
  have ne_a_tb10 : a ≠ tb10 := Nat.ne_of_lt (Nat.lt_of_lt_of_le E_a.lt sz10)
  have ne_b_tb10 : b ≠ tb10 := Nat.ne_of_lt (Nat.lt_of_lt_of_le V_b.lt sz10)
  have S23 : own_G p e below s0 T13 m 45 #[rv a, rv b, iv 0, iv 4, .val .null, rv tb10] [(.int 4), (.ref tb10), (.ref a)] := fun t kt => by
    refine S15 t ?_
    refine w_astore X13 hx hby d4_39 rfl (l' := #[rv a, rv b, iv 0, iv 4, .val .null, rv tb10]) rfl ?_
    refine w_aloadN X13 hx hby d4_41 rfl rfl ?_
    refine w_aload X13 hx hby d4_42 rfl rfl ?_
    refine w_iloadN X13 hx hby d4_44 rfl ?_
    exact kt
  obtain ⟨_, _, ⟨T24, L24, k24, n24⟩, -, X24, ⟨Lc24, hQ24, l24, y24, z24⟩, st24⟩ := Jvm.LawKit.callS X13 hx (y := own_y6) hown (mvT hZ (own_w hw 115 rfl)) (mvT hZ (own_w hw 116 rfl)) (mvT hZ (own_w hw 110 rfl)) (mvT hZ (own_w hw 117 rfl)) (by decide) (backOf (W := 1) (own_rm23k4 l Z a0 hw [] (tb10) (c0) (c1) (c2) (c3) (kt10) T13.heap n0 (Nat.le_trans Z0 K21.1) Vc10) hZ (own_w hw 117 rfl) (own_w hw 110 rfl) (by decide) (by decide)) (g := (mkF m 45 #[rv a, rv b, iv 0, iv 4, .val .null, rv tb10] [(.int 4), (.ref tb10), (.ref a)])) rfl (by rw [hml]; rfl) (argsL := [(.ref tb10), (.int 4)]) (rest := [(.ref a)]) (lenOf own_pd12 rfl) rfl (by show 2 * 0 + _ ≤ _; exact Nat.le_of_eq rfl) (hb hby d4_45) (fun _ _ => ⟨rfl, rfl, (by decide : 1 + 0 ≤ _), (by decide : 4 + 0 ≤ _)⟩)
  dsimp only [Pt.U, Pt.locs, Pt.cells, Pt.slots] at X24 l24 y24 z24 st24 hQ24
  subst l24 y24 z24
  obtain ⟨rfl, rfl, eq22⟩ := hQ24
  try rw [List.append_nil] at X24
  have S25 : own_G p e below s0 T24 m 48 #[rv a, rv b, iv 0, iv 4, .val .null, rv tb10] [(.int 0), (.ref a)] := fun t kt => S23 t (st24 _ kt)
  obtain ⟨T26, h26, X26, e26, W26, st26⟩ := putFN X24 hx hZ hown (own_w hw 33 rfl) Via.refl (eq22.trans rfl) F18 F16 (Or.inr ⟨(own_w hw 13 rfl), rfl, hnm⟩) (own_w hw 10 rfl) (ty := .byte) (v' := (.int 0)) (by decide) rfl (by decide) (g := (mkF m 48 #[rv a, rv b, iv 0, iv 4, .val .null, rv tb10] [(.int 0), (.ref a)])) rfl rfl (hb hby d4_48)
  have S27 : own_G p e below s0 T26 m 51 #[rv a, rv b, iv 0, iv 4, .val .null, rv tb10] [] := fun t kt => S25 t (st26 _ kt)
  have F28 := F16.wr W26
  have F29 := F17.other W26 (Or.inr (slot_ne (Or.inr (own_w hw 12 rfl)) (Or.inr (own_w hw 13 rfl)) (by decide) (t := (.array .byte)) (t' := .byte) (by decide) (by decide)))
  have F30 := F18.same W26
  have F31 := F19.wr W26
  have F32 := F20.other W26 (Ne.symm (Exa.neArv F16 F20 (own_w hw 10 rfl)))
  have F33 := Vc10.other W26 (Ne.symm ne_a_tb10)
  have N34 := Fr.snoc X26 N14 g_a
  have K35 : Keep h0 h26 [a] := K21.wr W26 (Or.inl (List.mem_of_getElem? (i := 0) rfl))
  have S36 : own_G p e below s0 T26 m 54 #[rv a, rv b, iv 0, iv 4, .val .null, rv tb10] [(.ref tb10), (.ref a)] := fun t kt => by
    refine S27 t ?_
    refine w_aloadN X26 hx hby d4_51 rfl rfl ?_
    refine w_aload X26 hx hby d4_52 rfl rfl ?_
    exact kt
  obtain ⟨T37, h37, X37, e37, W37, st37⟩ := putF X26 hx hZ hown (host := "") (Or.inl (own_w hw 32 rfl)) Via.refl e26 F29 F28 (Or.inr ⟨(own_w hw 12 rfl), rfl, hnm⟩) (own_w hw 10 rfl) (ty := (.array .byte)) (by decide) rfl rfl (g := (mkF m 54 #[rv a, rv b, iv 0, iv 4, .val .null, rv tb10] [(.ref tb10), (.ref a)])) rfl rfl (hb hby d4_54)
  have S38 : own_G p e below s0 T37 m 57 #[rv a, rv b, iv 0, iv 4, .val .null, rv tb10] [] := fun t kt => S36 t (st37 _ kt)
  have F39 := F28.wr W37
  have F40 := F29.same W37
  have F41 := F30.other W37 (Or.inr (slot_ne (Or.inr (own_w hw 13 rfl)) (Or.inr (own_w hw 12 rfl)) (by decide) (t := .byte) (t' := (.array .byte)) (by decide) (by decide)))
  have F42 := F31.wr W37
  have F43 := F32.other W37 (Ne.symm (Exa.neArv F28 F32 (own_w hw 10 rfl)))
  have F44 := F33.other W37 (Ne.symm ne_a_tb10)
  have N45 := Fr.snoc X37 N34 g_a
  have K46 : Keep h0 h37 [a] := K35.wr W37 (Or.inl (List.mem_of_getElem? (i := 0) rfl))
  obtain ⟨fs, hr, hrun, hended, hW, hsame⟩ := X37.leave (v := none) (fun _ => rfl)
  refine ⟨_, _, S38 _ ?_, hrun, hended, _, _, rfl, ?_, ⟨_, rfl⟩, hW, hsame.mono (by decide) (by decide)⟩
  · show Steps p.tables e below (T37.setTop (mkF m 57 #[rv a, rv b, iv 0, iv 4, .val .null, rv tb10] [])) _
    exact X37.returnOut hx Bd.returns (hb hby d4_57) hr
  · show own_Q4k4 Z a b c0 c1 c2 c3 kb cs uv uc h0 n0 _ T37.heap _
    rw [e37]
    exact ⟨rfl, N45, K46, F39, F41, tb10, kt10, gt10, (Nat.le_trans (Keep.refl h0 [a]).1 sz10), ne_a_tb10, F40, F44⟩
theorem own_ef3k4 (m : MethodId) (x0 : Addr) (x1 : Addr) : entryFrame m #[(.ref x0), (.ref x1)] 2 = mkF m 0 #[rv x0, rv x1] [] := by first | (simp [entryFrame, mkF, argsToLocals, Value.category]; done) | rfl
def own_Q3k4 (Z : State) (a : Addr) (b : Addr) (c0 : Int32) (c1 : Int32) (c2 : Int32) (c3 : Int32) (kb : ClassId) (cs : Int32) (uv : Value) (uc : Value) (h0 : Heap) (n0 : Nat) (v : Option Value) (h : Heap) (L : List Loc) : Prop := v = none ∧ Fr n0 L ∧ Keep h0 h [a] ∧ Exa Z h a "java/lang/String" ∧ Fld Z h a "java/lang/String" "coder" "B" (.int 0) ∧ ∃ (tb : Addr) (kt : ClassId), n0 ≤ tb ∧ h0.size ≤ tb ∧ a ≠ tb ∧ Fld Z h a "java/lang/String" "value" "[B" (.ref tb) ∧ Arv Z h tb kt .byte (4 : Int32) [(.int (own_lo c0)), (.int (own_lo c1)), (.int (own_lo c2)), (.int (own_lo c3))] (.int 0)
set_option maxHeartbeats 40000000 in
theorem own_rm3k4 (l : Launch) (Z : State) (a0 : Array Value) (hw : ∀ d ∈ tables_1, d.before a0 Z = true) (ws : List Jvm.Cond) (a : Addr) (b : Addr) (c0 : Int32) (c1 : Int32) (c2 : Int32) (c3 : Int32) (kb : ClassId) (cs : Int32) (uv : Value) (uc : Value) (h0 : Heap) (n0 : Nat) (Z0 : n0 ≤ h0.size) (E_a : Exa Z h0 a "java/lang/String") (g_a : n0 ≤ a) (F_value : Fld Z h0 a "java/lang/String" "value" "[B" uv) (F_coder : Fld Z h0 a "java/lang/String" "coder" "B" uc) (S_CS : Sta Z h0 "java/lang/String" "COMPACT_STRINGS" "Z" (.int cs)) (hcs : ¬ cs = (0 : Int32)) (V_b : Arv Z h0 b kb .char (4 : Int32) [(.int c0), (.int c1), (.int c2), (.int c3)] (.int 0)) (hl0 : ¬ (255 : Int32) < c0) (hl1 : ¬ (255 : Int32) < c1) (hl2 : ¬ (255 : Int32) < c2) (hl3 : ¬ (255 : Int32) < c3) :
    MetFree l own_y18 (head1 (Jvm.Cond.code own_y18 jdk_42_method_3_code 2 none :: ws) ({ frames := 3, cells := 1, slots := 4, locals := 52 } : Room)) (fun argv U => argv = #[(.ref a), (.ref b)] ∧ Z.Warmed39 U.vm ∧ U.heap = h0) (fun _ _ _ _ _ => True) (fun _ U o U' => ∃ v L, o = .returned v ∧ own_Q3k4 Z a b c0 c1 c2 c3 kb cs uv uc h0 n0 v U'.heap L ∧ FrameEnd U o U' L ({ frames := 3, cells := 1, slots := 4, locals := 52 } : Room).cells ({ frames := 3, cells := 1, slots := 4, locals := 52 } : Room).slots) := by
  refine MetFree.of_bodySF (plainFor_of_name own_pn1) hisR ?_
  intro p e s m args below meth c s₁ Bd hml0 hP hK
  obtain ⟨rfl, hZ, hh⟩ := hP
  have hx := Bd.exec
  have hby := Bd.bytes
  have hml : c.maxLocals = 2 := hml0
  have hown : s.vm.findClass "java/lang/String" = some m.cls := findClass_of_methodNamed Bd.named
  have hnm := (name_of_methodNamed Bd.named Bd.method).1
  have X0 : Stand p l e ({ frames := 3, cells := 1, slots := 4, locals := 52 } : Room) s m #[(.ref a), (.ref b)] below meth c s₁ [] 0 0 := Stand.of_body Bd
  have e0 : s₁.heap = h0 := by rw [← hh, Bd.state]; rfl
  have N0 := Fr.nil n0
  have pre_ : own_G p e below (s₁.setTop (entryFrame m #[(.ref a), (.ref b)] 2)) s₁ m 0 #[rv a, rv b] [] := fun t k => castTop (own_ef3k4 m a b) k
  obtain ⟨s0, hs0⟩ : ∃ z, z = (s₁.setTop (entryFrame m #[(.ref a), (.ref b)] 2)) := ⟨_, rfl⟩
  have pre0 : own_G p e below s0 s₁ m 0 #[rv a, rv b] [] := hs0 ▸ pre_
  rw [← hs0]
  have S1 : own_G p e below s0 s₁ m 4 #[rv a, rv b] [(.ref b), (.int 0), (.ref b), (.ref a)] := fun t kt => by
    refine pre0 t ?_
    refine w_aloadN X0 hx hby d3_0 rfl rfl ?_
    refine w_aloadN X0 hx hby d3_1 rfl rfl ?_
    refine w_iconst X0 hx hby d3_2 ?_
    refine w_aloadN X0 hx hby d3_3 rfl rfl ?_
    exact kt
  obtain ⟨cl2, Ar2, -, Sz2, Nn2, -, -⟩ := id V_b
  have S5 : own_G p e below s0 s₁ m 6 #[rv a, rv b] [.null, (.int 4), (.int 0), (.ref b), (.ref a)] := fun t kt => by
    refine S1 t ?_
    refine X0.arraylength hx (by rw [e0]; exact Ar2.1) (State.isArrayOf_alike hZ.alike Ar2.2.1) (g := (mkF m 4 #[rv a, rv b] [(.ref b), (.int 0), (.ref b), (.ref a)])) rfl rfl (hb hby d3_4) _ ?_
    rw [len_of Sz2 Nn2]
    refine XS.aconstNull X0.here hx rfl (hb hby d3_5) ?_
    exact kt
  obtain ⟨_, _, ⟨T6, L6, k6, n6⟩, -, X6, ⟨Lc6, hQ6, l6, y6, z6⟩, st6⟩ := X0.specialBack hx (y := own_y5) rfl hown (mvT hZ (own_w hw 24 rfl)) (mvT hZ (own_w hw 25 rfl)) (mvT hZ (own_w hw 27 rfl)) (by decide) (backOf (W := 0) (own_rm4k4 l Z a0 hw [] (a) (b) (c0) (c1) (c2) (c3) (kb) (cs) (uv) (uc) h0 n0 Z0 E_a g_a F_value F_coder S_CS hcs V_b hl0 hl1 hl2 hl3) hZ (own_w hw 27 rfl) (own_w hw 9 rfl) (by decide) (by decide)) (g := (mkF m 6 #[rv a, rv b] [.null, (.int 4), (.int 0), (.ref b), (.ref a)])) rfl (by rw [hml]; rfl) (Steps.refl _) (a := a) (argsL := [(.ref b), (.int 0), (.int 4), .null]) (rest := []) (lenOf own_pd13 rfl) rfl (by show 2 * 0 + _ ≤ _; exact Nat.le_of_eq rfl) (hb hby d3_6) (fun _ _ => ⟨rfl, e0, (by decide : 0 + 1 ≤ _), (by decide : 0 + 4 ≤ _)⟩)
  dsimp only [Pt.U, Pt.locs, Pt.cells, Pt.slots] at X6 l6 y6 z6 st6 hQ6
  subst l6 y6 z6
  obtain ⟨rfl, Nq6, Kc3, Ec3, Cc3, tb3, kt3, gt3, sz3, nat3, Fv3, Va3⟩ := hQ6
  have N7 := Fr.app N0 Nq6
  have S8 : own_G p e below s0 T6 m 9 #[rv a, rv b] [] := fun t kt => S5 t (st6.trans kt)
  have F9 := E_a.keep Kc3
  have F10 := own_StaK S_CS Kc3 (allS (own_ExaS E_a) all0)
  have F11 := V_b.keep Kc3 (ninS (Ne.symm (Exa.neArv E_a V_b (own_w hw 10 rfl))) nin0)
  have K12 : Keep h0 T6.heap [a] := (Keep.refl h0 [a]).trans Kc3 (allS (Or.inl (List.mem_of_getElem? (i := 0) rfl)) all0)
  have ne_b_tb3 : b ≠ tb3 := Nat.ne_of_lt (Nat.lt_of_lt_of_le V_b.lt sz3)
  obtain ⟨fs, hr, hrun, hended, hW, hsame⟩ := X6.leave (v := none) (fun _ => rfl)
  refine ⟨_, _, S8 _ ?_, hrun, hended, _, _, rfl, ?_, ⟨_, rfl⟩, hW, hsame.mono (by decide) (by decide)⟩
  · show Steps p.tables e below (T6.setTop (mkF m 9 #[rv a, rv b] [])) _
    exact X6.returnOut hx Bd.returns (hb hby d3_9) hr
  · show own_Q3k4 Z a b c0 c1 c2 c3 kb cs uv uc h0 n0 _ T6.heap _
    exact ⟨rfl, N7, K12, Ec3, Cc3, tb3, kt3, gt3, (Nat.le_trans (Keep.refl h0 [a]).1 sz3), nat3, Fv3, Va3⟩
theorem own_ef22k5 (m : MethodId) (x0 : Addr) (x1 : Int32) (x2 : Addr) (x3 : Int32) (x4 : Int32) : entryFrame m #[(.ref x0), (.int x1), (.ref x2), (.int x3), (.int x4)] 7 = mkF m 0 #[rv x0, iv x1, rv x2, iv x3, iv x4, .unset, .unset] [] := by first | (simp [entryFrame, mkF, argsToLocals, Value.category]; done) | rfl
def own_Q22k5 (Z : State) (b : Addr) (tb : Addr) (c0 : Int32) (c1 : Int32) (c2 : Int32) (c3 : Int32) (c4 : Int32) (kb : ClassId) (kt : ClassId) (h0 : Heap) (n0 : Nat) (v : Option Value) (h : Heap) (L : List Loc) : Prop := v = some (.int 5) ∧ Fr n0 L ∧ Keep h0 h [tb] ∧ Arv Z h tb kt .byte (5 : Int32) [(.int (own_lo c0)), (.int (own_lo c1)), (.int (own_lo c2)), (.int (own_lo c3)), (.int (own_lo c4))] (.int 0)
set_option maxHeartbeats 40000000 in
theorem own_rm22k5 (l : Launch) (Z : State) (a0 : Array Value) (hw : ∀ d ∈ tables_1, d.before a0 Z = true) (ws : List Jvm.Cond) (b : Addr) (tb : Addr) (c0 : Int32) (c1 : Int32) (c2 : Int32) (c3 : Int32) (c4 : Int32) (kb : ClassId) (kt : ClassId) (h0 : Heap) (n0 : Nat) (Z0 : n0 ≤ h0.size) (V_b : Arv Z h0 b kb .char (5 : Int32) [(.int c0), (.int c1), (.int c2), (.int c3), (.int c4)] (.int 0)) (V_t : Arv Z h0 tb kt .byte (5 : Int32) [(.int 0), (.int 0), (.int 0), (.int 0), (.int 0)] (.int 0)) (g_tb : n0 ≤ tb) (ne_b_tb : b ≠ tb) (hl0 : ¬ (255 : Int32) < c0) (hl1 : ¬ (255 : Int32) < c1) (hl2 : ¬ (255 : Int32) < c2) (hl3 : ¬ (255 : Int32) < c3) (hl4 : ¬ (255 : Int32) < c4) :
    MetFree l own_y8 (head1 (Jvm.Cond.code own_y8 jdk_52_method_21_code 7 (some .int) :: ws) ({ frames := 0, cells := 0, slots := 0, locals := 0 } : Room)) (fun argv U => argv = #[(.ref b), (.int 0), (.ref tb), (.int 0), (.int 5)] ∧ Z.Warmed39 U.vm ∧ U.heap = h0) (fun _ _ _ _ _ => True) (fun _ U o U' => ∃ v L, o = .returned v ∧ own_Q22k5 Z b tb c0 c1 c2 c3 c4 kb kt h0 n0 v U'.heap L ∧ FrameEnd U o U' L ({ frames := 0, cells := 0, slots := 0, locals := 0 } : Room).cells ({ frames := 0, cells := 0, slots := 0, locals := 0 } : Room).slots) := by
  refine MetFree.of_bodySF (plainFor_of_name own_pn4) hisR ?_
  intro p e s m args below meth c s₁ Bd hml0 hP hK
  obtain ⟨rfl, hZ, hh⟩ := hP
  have hx := Bd.exec
  have hby := Bd.bytes
  have hml : c.maxLocals = 7 := hml0
  have hown : s.vm.findClass own_s1 = some m.cls := findClass_of_methodNamed Bd.named
  have hnm := (name_of_methodNamed Bd.named Bd.method).1
  have X0 : Stand p l e ({ frames := 0, cells := 0, slots := 0, locals := 0 } : Room) s m #[(.ref b), (.int 0), (.ref tb), (.int 0), (.int 5)] below meth c s₁ [] 0 0 := Stand.of_body Bd
  have e0 : s₁.heap = h0 := by rw [← hh, Bd.state]; rfl
  have N0 := Fr.nil n0
  have pre_ : own_G p e below (s₁.setTop (entryFrame m #[(.ref b), (.int 0), (.ref tb), (.int 0), (.int 5)] 7)) s₁ m 0 #[rv b, iv 0, rv tb, iv 0, iv 5, .unset, .unset] [] := fun t k => castTop (own_ef22k5 m b (0 : Int32) tb (0 : Int32) (5 : Int32)) k
  obtain ⟨s0, hs0⟩ : ∃ z, z = (s₁.setTop (entryFrame m #[(.ref b), (.int 0), (.ref tb), (.int 0), (.int 5)] 7)) := ⟨_, rfl⟩
  have pre0 : own_G p e below s0 s₁ m 0 #[rv b, iv 0, rv tb, iv 0, iv 5, .unset, .unset] [] := hs0 ▸ pre_
  rw [← hs0]
  have S1 : own_G p e below s0 s₁ m 7 #[rv b, iv 0, rv tb, iv 0, iv 5, iv 0, .unset] [(.int 5), (.int 0)] := fun t kt => by
    refine pre0 t ?_
    refine w_iconst X0 hx hby d22_0 ?_
    refine w_istore X0 hx hby d22_1 (l' := #[rv b, iv 0, rv tb, iv 0, iv 5, iv 0, .unset]) rfl ?_
    refine w_iload X0 hx hby d22_3 rfl ?_
    refine w_iload X0 hx hby d22_5 rfl ?_
    exact kt
  have hc7_2 : (0 : Int32) < (5 : Int32) := by decide
  have S4 : own_G p e below s0 s₁ m 12 #[rv b, iv 0, rv tb, iv 0, iv 5, iv 0, .unset] [(.int 0), (.ref b)] := fun t kt => by
    refine S1 t ?_
    refine w_icmpNo X0 hx hby d22_7 (tlt hc7_2).2.1 ?_
    refine w_aloadN X0 hx hby d22_10 rfl rfl ?_
    refine w_iloadN X0 hx hby d22_11 rfl ?_
    exact kt
  obtain ⟨cl3, Ar3, -, Sz3, Nn3, Hh3, -⟩ := id V_b
  have hin3 : ¬ ((0 : Int32) < 0 ∨ cl3.slots.size ≤ ((0 : Int32)).toNatClampNeg) := inb_of Sz3 ⟨by decide, by decide⟩
  have S5 : own_G p e below s0 s₁ m 20 #[rv b, iv 0, rv tb, iv 0, iv 5, iv 0, iv c0] [(.int 255), (.int c0)] := fun t kt => by
    refine S4 t ?_
    refine X0.caload hx (j := (0 : Int32)) (v := (.int c0)) (by rw [e0]; exact Ar3.1) (State.isArrayOf_alike hZ.alike Ar3.2.1) Ar3.2.2 hin3 (Has.at Hh3 hin3 rfl) (g := (mkF m 12 #[rv b, iv 0, rv tb, iv 0, iv 5, iv 0, .unset] [(.int 0), (.ref b)])) rfl rfl (hb hby d22_12) _ ?_
    refine w_istore X0 hx hby d22_13 (l' := #[rv b, iv 0, rv tb, iv 0, iv 5, iv 0, iv c0]) rfl ?_
    refine w_iload X0 hx hby d22_15 rfl ?_
    refine w_sipush X0 hx hby d22_17 ?_
    exact kt
  have hc20_6 : ¬ ((255 : Int32) < c0) := hl0
  have S7 : own_G p e below s0 s₁ m 31 #[rv b, iv 0, rv tb, iv 0, iv 5, iv 0, iv c0] [(.int (c0.toInt8.toInt32)), (.int 0), (.ref tb)] := fun t kt => by
    refine S5 t ?_
    refine w_icmpYes X0 hx hby (pc' := 26) d22_20 (flt hc20_6).2.2.2 (by decide) ?_
    refine w_aloadN X0 hx hby d22_26 rfl rfl ?_
    refine w_iloadN X0 hx hby d22_27 rfl ?_
    refine w_iload X0 hx hby d22_28 rfl ?_
    refine XS.i2b X0.here hx rfl (hb hby d22_30) rfl ?_
    exact kt
  obtain ⟨cl8, Ar8, q8, Sz8, Nn8, Hh8, Gg8⟩ := id V_t
  have hin8 : ¬ ((0 : Int32) < 0 ∨ cl8.slots.size ≤ ((0 : Int32)).toNatClampNeg) := inb_of Sz8 ⟨by decide, by decide⟩
  obtain ⟨T9, h9, X9, e9, W9, st9⟩ := stB X0 hx hZ e0 Ar8 (j := (0 : Int32)) hin8 (g := (mkF m 31 #[rv b, iv 0, rv tb, iv 0, iv 5, iv 0, iv c0] [(.int (c0.toInt8.toInt32)), (.int 0), (.ref tb)])) rfl rfl (hb hby d22_31)
  have S10 : own_G p e below s0 T9 m 32 #[rv b, iv 0, rv tb, iv 0, iv 5, iv 0, iv c0] [] := fun t kt => S7 t (st9 _ kt)
  have V11 := Arv.set Ar8 q8 Sz8 Nn8 Hh8 Gg8 (fits_nar_byte _) W9 0 rfl (Nat.le_of_ble_eq_true rfl)
  have F12 := V_b.other W9 ne_b_tb
  have N13 := Fr.snoc X9 N0 g_tb
  have K14 : Keep h0 h9 [tb] := (Keep.refl h0 [tb]).wr W9 (Or.inl (List.mem_of_getElem? (i := 0) rfl))
  have S15 : own_G p e below s0 T9 m 7 #[rv b, iv 1, rv tb, iv 1, iv 5, iv 1, iv c0] [(.int 5), (.int 1)] := fun t kt => by
    refine S10 t ?_
    refine w_iinc X9 hx hby d22_32 rfl (l' := #[rv b, iv 1, rv tb, iv 0, iv 5, iv 0, iv c0]) rfl ?_
    refine w_iinc X9 hx hby d22_35 rfl (l' := #[rv b, iv 1, rv tb, iv 1, iv 5, iv 0, iv c0]) rfl ?_
    refine w_iinc X9 hx hby d22_38 rfl (l' := #[rv b, iv 1, rv tb, iv 1, iv 5, iv 1, iv c0]) rfl ?_
    refine w_goto X9 hx hby (pc' := 3) d22_41 (by decide) ?_
    refine w_iload X9 hx hby d22_3 rfl ?_
    refine w_iload X9 hx hby d22_5 rfl ?_
    exact kt
  have hc7_16 : (1 : Int32) < (5 : Int32) := by decide
  have S18 : own_G p e below s0 T9 m 12 #[rv b, iv 1, rv tb, iv 1, iv 5, iv 1, iv c0] [(.int 1), (.ref b)] := fun t kt => by
    refine S15 t ?_
    refine w_icmpNo X9 hx hby d22_7 (tlt hc7_16).2.1 ?_
    refine w_aloadN X9 hx hby d22_10 rfl rfl ?_
    refine w_iloadN X9 hx hby d22_11 rfl ?_
    exact kt
  obtain ⟨cl17, Ar17, -, Sz17, Nn17, Hh17, -⟩ := id F12
  have hin17 : ¬ ((1 : Int32) < 0 ∨ cl17.slots.size ≤ ((1 : Int32)).toNatClampNeg) := inb_of Sz17 ⟨by decide, by decide⟩
  have S19 : own_G p e below s0 T9 m 20 #[rv b, iv 1, rv tb, iv 1, iv 5, iv 1, iv c1] [(.int 255), (.int c1)] := fun t kt => by
    refine S18 t ?_
    refine X9.caload hx (j := (1 : Int32)) (v := (.int c1)) (by rw [e9]; exact Ar17.1) (State.isArrayOf_alike hZ.alike Ar17.2.1) Ar17.2.2 hin17 (Has.at Hh17 hin17 rfl) (g := (mkF m 12 #[rv b, iv 1, rv tb, iv 1, iv 5, iv 1, iv c0] [(.int 1), (.ref b)])) rfl rfl (hb hby d22_12) _ ?_
    refine w_istore X9 hx hby d22_13 (l' := #[rv b, iv 1, rv tb, iv 1, iv 5, iv 1, iv c1]) rfl ?_
    refine w_iload X9 hx hby d22_15 rfl ?_
    refine w_sipush X9 hx hby d22_17 ?_
    exact kt
  have hc20_20 : ¬ ((255 : Int32) < c1) := hl1
  have S21 : own_G p e below s0 T9 m 31 #[rv b, iv 1, rv tb, iv 1, iv 5, iv 1, iv c1] [(.int (c1.toInt8.toInt32)), (.int 1), (.ref tb)] := fun t kt => by
    refine S19 t ?_
    refine w_icmpYes X9 hx hby (pc' := 26) d22_20 (flt hc20_20).2.2.2 (by decide) ?_
    refine w_aloadN X9 hx hby d22_26 rfl rfl ?_
    refine w_iloadN X9 hx hby d22_27 rfl ?_
    refine w_iload X9 hx hby d22_28 rfl ?_
    refine XS.i2b X9.here hx rfl (hb hby d22_30) rfl ?_
    exact kt
  obtain ⟨cl22, Ar22, q22, Sz22, Nn22, Hh22, Gg22⟩ := id V11
  have hin22 : ¬ ((1 : Int32) < 0 ∨ cl22.slots.size ≤ ((1 : Int32)).toNatClampNeg) := inb_of Sz22 ⟨by decide, by decide⟩
  obtain ⟨T23, h23, X23, e23, W23, st23⟩ := stB X9 hx hZ e9 Ar22 (j := (1 : Int32)) hin22 (g := (mkF m 31 #[rv b, iv 1, rv tb, iv 1, iv 5, iv 1, iv c1] [(.int (c1.toInt8.toInt32)), (.int 1), (.ref tb)])) rfl rfl (hb hby d22_31)
  have S24 : own_G p e below s0 T23 m 32 #[rv b, iv 1, rv tb, iv 1, iv 5, iv 1, iv c1] [] := fun t kt => S21 t (st23 _ kt)
  have V25 := Arv.set Ar22 q22 Sz22 Nn22 Hh22 Gg22 (fits_nar_byte _) W23 1 rfl (Nat.le_of_ble_eq_true rfl)
  have F26 := F12.other W23 ne_b_tb
  have N27 := Fr.snoc X23 N13 g_tb
  have K28 : Keep h0 h23 [tb] := K14.wr W23 (Or.inl (List.mem_of_getElem? (i := 0) rfl))
  have S29 : own_G p e below s0 T23 m 7 #[rv b, iv 2, rv tb, iv 2, iv 5, iv 2, iv c1] [(.int 5), (.int 2)] := fun t kt => by
    refine S24 t ?_
    refine w_iinc X23 hx hby d22_32 rfl (l' := #[rv b, iv 2, rv tb, iv 1, iv 5, iv 1, iv c1]) rfl ?_
    refine w_iinc X23 hx hby d22_35 rfl (l' := #[rv b, iv 2, rv tb, iv 2, iv 5, iv 1, iv c1]) rfl ?_
    refine w_iinc X23 hx hby d22_38 rfl (l' := #[rv b, iv 2, rv tb, iv 2, iv 5, iv 2, iv c1]) rfl ?_
    refine w_goto X23 hx hby (pc' := 3) d22_41 (by decide) ?_
    refine w_iload X23 hx hby d22_3 rfl ?_
    refine w_iload X23 hx hby d22_5 rfl ?_
    exact kt
  have hc7_30 : (2 : Int32) < (5 : Int32) := by decide
  have S32 : own_G p e below s0 T23 m 12 #[rv b, iv 2, rv tb, iv 2, iv 5, iv 2, iv c1] [(.int 2), (.ref b)] := fun t kt => by
    refine S29 t ?_
    refine w_icmpNo X23 hx hby d22_7 (tlt hc7_30).2.1 ?_
    refine w_aloadN X23 hx hby d22_10 rfl rfl ?_
    refine w_iloadN X23 hx hby d22_11 rfl ?_
    exact kt
  obtain ⟨cl31, Ar31, -, Sz31, Nn31, Hh31, -⟩ := id F26
  have hin31 : ¬ ((2 : Int32) < 0 ∨ cl31.slots.size ≤ ((2 : Int32)).toNatClampNeg) := inb_of Sz31 ⟨by decide, by decide⟩
  have S33 : own_G p e below s0 T23 m 20 #[rv b, iv 2, rv tb, iv 2, iv 5, iv 2, iv c2] [(.int 255), (.int c2)] := fun t kt => by
    refine S32 t ?_
    refine X23.caload hx (j := (2 : Int32)) (v := (.int c2)) (by rw [e23]; exact Ar31.1) (State.isArrayOf_alike hZ.alike Ar31.2.1) Ar31.2.2 hin31 (Has.at Hh31 hin31 rfl) (g := (mkF m 12 #[rv b, iv 2, rv tb, iv 2, iv 5, iv 2, iv c1] [(.int 2), (.ref b)])) rfl rfl (hb hby d22_12) _ ?_
    refine w_istore X23 hx hby d22_13 (l' := #[rv b, iv 2, rv tb, iv 2, iv 5, iv 2, iv c2]) rfl ?_
    refine w_iload X23 hx hby d22_15 rfl ?_
    refine w_sipush X23 hx hby d22_17 ?_
    exact kt
  have hc20_34 : ¬ ((255 : Int32) < c2) := hl2
  have S35 : own_G p e below s0 T23 m 31 #[rv b, iv 2, rv tb, iv 2, iv 5, iv 2, iv c2] [(.int (c2.toInt8.toInt32)), (.int 2), (.ref tb)] := fun t kt => by
    refine S33 t ?_
    refine w_icmpYes X23 hx hby (pc' := 26) d22_20 (flt hc20_34).2.2.2 (by decide) ?_
    refine w_aloadN X23 hx hby d22_26 rfl rfl ?_
    refine w_iloadN X23 hx hby d22_27 rfl ?_
    refine w_iload X23 hx hby d22_28 rfl ?_
    refine XS.i2b X23.here hx rfl (hb hby d22_30) rfl ?_
    exact kt
  obtain ⟨cl36, Ar36, q36, Sz36, Nn36, Hh36, Gg36⟩ := id V25
  have hin36 : ¬ ((2 : Int32) < 0 ∨ cl36.slots.size ≤ ((2 : Int32)).toNatClampNeg) := inb_of Sz36 ⟨by decide, by decide⟩
  obtain ⟨T37, h37, X37, e37, W37, st37⟩ := stB X23 hx hZ e23 Ar36 (j := (2 : Int32)) hin36 (g := (mkF m 31 #[rv b, iv 2, rv tb, iv 2, iv 5, iv 2, iv c2] [(.int (c2.toInt8.toInt32)), (.int 2), (.ref tb)])) rfl rfl (hb hby d22_31)
  have S38 : own_G p e below s0 T37 m 32 #[rv b, iv 2, rv tb, iv 2, iv 5, iv 2, iv c2] [] := fun t kt => S35 t (st37 _ kt)
  have V39 := Arv.set Ar36 q36 Sz36 Nn36 Hh36 Gg36 (fits_nar_byte _) W37 2 rfl (Nat.le_of_ble_eq_true rfl)
  have F40 := F26.other W37 ne_b_tb
  have N41 := Fr.snoc X37 N27 g_tb
  have K42 : Keep h0 h37 [tb] := K28.wr W37 (Or.inl (List.mem_of_getElem? (i := 0) rfl))
  have S43 : own_G p e below s0 T37 m 7 #[rv b, iv 3, rv tb, iv 3, iv 5, iv 3, iv c2] [(.int 5), (.int 3)] := fun t kt => by
    refine S38 t ?_
    refine w_iinc X37 hx hby d22_32 rfl (l' := #[rv b, iv 3, rv tb, iv 2, iv 5, iv 2, iv c2]) rfl ?_
    refine w_iinc X37 hx hby d22_35 rfl (l' := #[rv b, iv 3, rv tb, iv 3, iv 5, iv 2, iv c2]) rfl ?_
    refine w_iinc X37 hx hby d22_38 rfl (l' := #[rv b, iv 3, rv tb, iv 3, iv 5, iv 3, iv c2]) rfl ?_
    refine w_goto X37 hx hby (pc' := 3) d22_41 (by decide) ?_
    refine w_iload X37 hx hby d22_3 rfl ?_
    refine w_iload X37 hx hby d22_5 rfl ?_
    exact kt
  have hc7_44 : (3 : Int32) < (5 : Int32) := by decide
  have S46 : own_G p e below s0 T37 m 12 #[rv b, iv 3, rv tb, iv 3, iv 5, iv 3, iv c2] [(.int 3), (.ref b)] := fun t kt => by
    refine S43 t ?_
    refine w_icmpNo X37 hx hby d22_7 (tlt hc7_44).2.1 ?_
    refine w_aloadN X37 hx hby d22_10 rfl rfl ?_
    refine w_iloadN X37 hx hby d22_11 rfl ?_
    exact kt
  obtain ⟨cl45, Ar45, -, Sz45, Nn45, Hh45, -⟩ := id F40
  have hin45 : ¬ ((3 : Int32) < 0 ∨ cl45.slots.size ≤ ((3 : Int32)).toNatClampNeg) := inb_of Sz45 ⟨by decide, by decide⟩
  have S47 : own_G p e below s0 T37 m 20 #[rv b, iv 3, rv tb, iv 3, iv 5, iv 3, iv c3] [(.int 255), (.int c3)] := fun t kt => by
    refine S46 t ?_
    refine X37.caload hx (j := (3 : Int32)) (v := (.int c3)) (by rw [e37]; exact Ar45.1) (State.isArrayOf_alike hZ.alike Ar45.2.1) Ar45.2.2 hin45 (Has.at Hh45 hin45 rfl) (g := (mkF m 12 #[rv b, iv 3, rv tb, iv 3, iv 5, iv 3, iv c2] [(.int 3), (.ref b)])) rfl rfl (hb hby d22_12) _ ?_
    refine w_istore X37 hx hby d22_13 (l' := #[rv b, iv 3, rv tb, iv 3, iv 5, iv 3, iv c3]) rfl ?_
    refine w_iload X37 hx hby d22_15 rfl ?_
    refine w_sipush X37 hx hby d22_17 ?_
    exact kt
  have hc20_48 : ¬ ((255 : Int32) < c3) := hl3
  have S49 : own_G p e below s0 T37 m 31 #[rv b, iv 3, rv tb, iv 3, iv 5, iv 3, iv c3] [(.int (c3.toInt8.toInt32)), (.int 3), (.ref tb)] := fun t kt => by
    refine S47 t ?_
    refine w_icmpYes X37 hx hby (pc' := 26) d22_20 (flt hc20_48).2.2.2 (by decide) ?_
    refine w_aloadN X37 hx hby d22_26 rfl rfl ?_
    refine w_iloadN X37 hx hby d22_27 rfl ?_
    refine w_iload X37 hx hby d22_28 rfl ?_
    refine XS.i2b X37.here hx rfl (hb hby d22_30) rfl ?_
    exact kt
  obtain ⟨cl50, Ar50, q50, Sz50, Nn50, Hh50, Gg50⟩ := id V39
  have hin50 : ¬ ((3 : Int32) < 0 ∨ cl50.slots.size ≤ ((3 : Int32)).toNatClampNeg) := inb_of Sz50 ⟨by decide, by decide⟩
  obtain ⟨T51, h51, X51, e51, W51, st51⟩ := stB X37 hx hZ e37 Ar50 (j := (3 : Int32)) hin50 (g := (mkF m 31 #[rv b, iv 3, rv tb, iv 3, iv 5, iv 3, iv c3] [(.int (c3.toInt8.toInt32)), (.int 3), (.ref tb)])) rfl rfl (hb hby d22_31)
  have S52 : own_G p e below s0 T51 m 32 #[rv b, iv 3, rv tb, iv 3, iv 5, iv 3, iv c3] [] := fun t kt => S49 t (st51 _ kt)
  have V53 := Arv.set Ar50 q50 Sz50 Nn50 Hh50 Gg50 (fits_nar_byte _) W51 3 rfl (Nat.le_of_ble_eq_true rfl)
  have F54 := F40.other W51 ne_b_tb
  have N55 := Fr.snoc X51 N41 g_tb
  have K56 : Keep h0 h51 [tb] := K42.wr W51 (Or.inl (List.mem_of_getElem? (i := 0) rfl))
  have S57 : own_G p e below s0 T51 m 7 #[rv b, iv 4, rv tb, iv 4, iv 5, iv 4, iv c3] [(.int 5), (.int 4)] := fun t kt => by
    refine S52 t ?_
    refine w_iinc X51 hx hby d22_32 rfl (l' := #[rv b, iv 4, rv tb, iv 3, iv 5, iv 3, iv c3]) rfl ?_
    refine w_iinc X51 hx hby d22_35 rfl (l' := #[rv b, iv 4, rv tb, iv 4, iv 5, iv 3, iv c3]) rfl ?_
    refine w_iinc X51 hx hby d22_38 rfl (l' := #[rv b, iv 4, rv tb, iv 4, iv 5, iv 4, iv c3]) rfl ?_
    refine w_goto X51 hx hby (pc' := 3) d22_41 (by decide) ?_
    refine w_iload X51 hx hby d22_3 rfl ?_
    refine w_iload X51 hx hby d22_5 rfl ?_
    exact kt
  have hc7_58 : (4 : Int32) < (5 : Int32) := by decide
  have S60 : own_G p e below s0 T51 m 12 #[rv b, iv 4, rv tb, iv 4, iv 5, iv 4, iv c3] [(.int 4), (.ref b)] := fun t kt => by
    refine S57 t ?_
    refine w_icmpNo X51 hx hby d22_7 (tlt hc7_58).2.1 ?_
    refine w_aloadN X51 hx hby d22_10 rfl rfl ?_
    refine w_iloadN X51 hx hby d22_11 rfl ?_
    exact kt
  obtain ⟨cl59, Ar59, -, Sz59, Nn59, Hh59, -⟩ := id F54
  have hin59 : ¬ ((4 : Int32) < 0 ∨ cl59.slots.size ≤ ((4 : Int32)).toNatClampNeg) := inb_of Sz59 ⟨by decide, by decide⟩
  have S61 : own_G p e below s0 T51 m 20 #[rv b, iv 4, rv tb, iv 4, iv 5, iv 4, iv c4] [(.int 255), (.int c4)] := fun t kt => by
    refine S60 t ?_
    refine X51.caload hx (j := (4 : Int32)) (v := (.int c4)) (by rw [e51]; exact Ar59.1) (State.isArrayOf_alike hZ.alike Ar59.2.1) Ar59.2.2 hin59 (Has.at Hh59 hin59 rfl) (g := (mkF m 12 #[rv b, iv 4, rv tb, iv 4, iv 5, iv 4, iv c3] [(.int 4), (.ref b)])) rfl rfl (hb hby d22_12) _ ?_
    refine w_istore X51 hx hby d22_13 (l' := #[rv b, iv 4, rv tb, iv 4, iv 5, iv 4, iv c4]) rfl ?_
    refine w_iload X51 hx hby d22_15 rfl ?_
    refine w_sipush X51 hx hby d22_17 ?_
    exact kt
  have hc20_62 : ¬ ((255 : Int32) < c4) := hl4
  have S63 : own_G p e below s0 T51 m 31 #[rv b, iv 4, rv tb, iv 4, iv 5, iv 4, iv c4] [(.int (c4.toInt8.toInt32)), (.int 4), (.ref tb)] := fun t kt => by
    refine S61 t ?_
    refine w_icmpYes X51 hx hby (pc' := 26) d22_20 (flt hc20_62).2.2.2 (by decide) ?_
    refine w_aloadN X51 hx hby d22_26 rfl rfl ?_
    refine w_iloadN X51 hx hby d22_27 rfl ?_
    refine w_iload X51 hx hby d22_28 rfl ?_
    refine XS.i2b X51.here hx rfl (hb hby d22_30) rfl ?_
    exact kt
  obtain ⟨cl64, Ar64, q64, Sz64, Nn64, Hh64, Gg64⟩ := id V53
  have hin64 : ¬ ((4 : Int32) < 0 ∨ cl64.slots.size ≤ ((4 : Int32)).toNatClampNeg) := inb_of Sz64 ⟨by decide, by decide⟩
  obtain ⟨T65, h65, X65, e65, W65, st65⟩ := stB X51 hx hZ e51 Ar64 (j := (4 : Int32)) hin64 (g := (mkF m 31 #[rv b, iv 4, rv tb, iv 4, iv 5, iv 4, iv c4] [(.int (c4.toInt8.toInt32)), (.int 4), (.ref tb)])) rfl rfl (hb hby d22_31)
  have S66 : own_G p e below s0 T65 m 32 #[rv b, iv 4, rv tb, iv 4, iv 5, iv 4, iv c4] [] := fun t kt => S63 t (st65 _ kt)
  have V67 := Arv.set Ar64 q64 Sz64 Nn64 Hh64 Gg64 (fits_nar_byte _) W65 4 rfl (Nat.le_of_ble_eq_true rfl)
  have F68 := F54.other W65 ne_b_tb
  have N69 := Fr.snoc X65 N55 g_tb
  have K70 : Keep h0 h65 [tb] := K56.wr W65 (Or.inl (List.mem_of_getElem? (i := 0) rfl))
  have S71 : own_G p e below s0 T65 m 7 #[rv b, iv 5, rv tb, iv 5, iv 5, iv 5, iv c4] [(.int 5), (.int 5)] := fun t kt => by
    refine S66 t ?_
    refine w_iinc X65 hx hby d22_32 rfl (l' := #[rv b, iv 5, rv tb, iv 4, iv 5, iv 4, iv c4]) rfl ?_
    refine w_iinc X65 hx hby d22_35 rfl (l' := #[rv b, iv 5, rv tb, iv 5, iv 5, iv 4, iv c4]) rfl ?_
    refine w_iinc X65 hx hby d22_38 rfl (l' := #[rv b, iv 5, rv tb, iv 5, iv 5, iv 5, iv c4]) rfl ?_
    refine w_goto X65 hx hby (pc' := 3) d22_41 (by decide) ?_
    refine w_iload X65 hx hby d22_3 rfl ?_
    refine w_iload X65 hx hby d22_5 rfl ?_
    exact kt
  have hc7_72 : ¬ ((5 : Int32) < (5 : Int32)) := by decide
  have S73 : own_G p e below s0 T65 m 46 #[rv b, iv 5, rv tb, iv 5, iv 5, iv 5, iv c4] [(.int 5)] := fun t kt => by
    refine S71 t ?_
    refine w_icmpYes X65 hx hby (pc' := 44) d22_7 (flt hc7_72).2.1 (by decide) ?_
    refine w_iload X65 hx hby d22_44 rfl ?_
    exact kt
  obtain ⟨fs, hr, hrun, hended, hW, hsame⟩ := X65.leave (v := some (.int 5)) (fun h => by rw [Bd.returns] at h; cases h)
  refine ⟨_, _, S73 _ ?_, hrun, hended, _, _, rfl, ?_, ⟨_, rfl⟩, hW, hsame.mono (by decide) (by decide)⟩
  · show Steps p.tables e below (T65.setTop (mkF m 46 #[rv b, iv 5, rv tb, iv 5, iv 5, iv 5, iv c4] [(.int 5)])) _
    exact own_retI X65 hx Bd.returns (hb hby d22_46) hr
  · show own_Q22k5 Z b tb c0 c1 c2 c3 c4 kb kt h0 n0 _ T65.heap _
    rw [e65]
    exact ⟨rfl, N69, K70, (by have q : Arv Z h65 tb kt .byte (5 : Int32) [(.int (nar .byte (c0.toInt8.toInt32))), (.int (nar .byte (c1.toInt8.toInt32))), (.int (nar .byte (c2.toInt8.toInt32))), (.int (nar .byte (c3.toInt8.toInt32))), (.int (nar .byte (c4.toInt8.toInt32)))] (.int 0) := V67; simp only [own_lolo] at q; exact q)⟩
theorem own_ef23k5 (m : MethodId) (x0 : Addr) (x1 : Int32) : entryFrame m #[(.ref x0), (.int x1)] 2 = mkF m 0 #[rv x0, iv x1] [] := by first | (simp [entryFrame, mkF, argsToLocals, Value.category]; done) | rfl
def own_Q23k5 (Z : State) (tb : Addr) (c0 : Int32) (c1 : Int32) (c2 : Int32) (c3 : Int32) (c4 : Int32) (kt : ClassId) (h0 : Heap) (n0 : Nat) (v : Option Value) (h : Heap) (L : List Loc) : Prop := v = some (.int 0) ∧ L = [] ∧ h = h0
set_option maxHeartbeats 40000000 in
theorem own_rm23k5 (l : Launch) (Z : State) (a0 : Array Value) (hw : ∀ d ∈ tables_1, d.before a0 Z = true) (ws : List Jvm.Cond) (tb : Addr) (c0 : Int32) (c1 : Int32) (c2 : Int32) (c3 : Int32) (c4 : Int32) (kt : ClassId) (h0 : Heap) (n0 : Nat) (Z0 : n0 ≤ h0.size) (V_t : Arv Z h0 tb kt .byte (5 : Int32) [(.int (own_lo c0)), (.int (own_lo c1)), (.int (own_lo c2)), (.int (own_lo c3)), (.int (own_lo c4))] (.int 0)) :
    MetFree l own_y6 (head1 (Jvm.Cond.code own_y6 jdk_52_method_15_code 2 (some .byte) :: ws) ({ frames := 0, cells := 0, slots := 0, locals := 0 } : Room)) (fun argv U => argv = #[(.ref tb), (.int 5)] ∧ Z.Warmed39 U.vm ∧ U.heap = h0) (fun _ _ _ _ _ => True) (fun _ U o U' => ∃ v L, o = .returned v ∧ own_Q23k5 Z tb c0 c1 c2 c3 c4 kt h0 n0 v U'.heap L ∧ FrameEnd U o U' L ({ frames := 0, cells := 0, slots := 0, locals := 0 } : Room).cells ({ frames := 0, cells := 0, slots := 0, locals := 0 } : Room).slots) := by
  refine MetFree.of_bodySF (plainFor_of_name own_pn4) hisR ?_
  intro p e s m args below meth c s₁ Bd hml0 hP hK
  obtain ⟨rfl, hZ, hh⟩ := hP
  have hx := Bd.exec
  have hby := Bd.bytes
  have hml : c.maxLocals = 2 := hml0
  have hown : s.vm.findClass own_s1 = some m.cls := findClass_of_methodNamed Bd.named
  have hnm := (name_of_methodNamed Bd.named Bd.method).1
  have X0 : Stand p l e ({ frames := 0, cells := 0, slots := 0, locals := 0 } : Room) s m #[(.ref tb), (.int 5)] below meth c s₁ [] 0 0 := Stand.of_body Bd
  have e0 : s₁.heap = h0 := by rw [← hh, Bd.state]; rfl
  have N0 := Fr.nil n0
  have pre_ : own_G p e below (s₁.setTop (entryFrame m #[(.ref tb), (.int 5)] 2)) s₁ m 0 #[rv tb, iv 5] [] := fun t k => castTop (own_ef23k5 m tb (5 : Int32)) k
  obtain ⟨s0, hs0⟩ : ∃ z, z = (s₁.setTop (entryFrame m #[(.ref tb), (.int 5)] 2)) := ⟨_, rfl⟩
  have pre0 : own_G p e below s0 s₁ m 0 #[rv tb, iv 5] [] := hs0 ▸ pre_
  rw [← hs0]
  have S1 : own_G p e below s0 s₁ m 2 #[rv tb, iv 5] [(.ref tb), (.int 5)] := fun t kt => by
    refine pre0 t ?_
    refine w_iloadN X0 hx hby d23_0 rfl ?_
    refine w_aloadN X0 hx hby d23_1 rfl rfl ?_
    exact kt
  obtain ⟨cl2, Ar2, -, Sz2, Nn2, -, -⟩ := id V_t
  have S3 : own_G p e below s0 s₁ m 8 #[rv tb, iv 5] [(.int ((0 : Int32).toInt8.toInt32))] := fun t kt => by
    refine S1 t ?_
    refine X0.arraylength hx (by rw [e0]; exact Ar2.1) (State.isArrayOf_alike hZ.alike Ar2.2.1) (g := (mkF m 2 #[rv tb, iv 5] [(.ref tb), (.int 5)])) rfl rfl (hb hby d23_2) _ ?_
    rw [len_of Sz2 Nn2]
    refine w_isub X0 hx hby d23_3 ?_
    refine w_bipush X0 hx hby d23_4 ?_
    refine XS.iushr X0.here hx rfl (hb hby d23_6) rfl ?_
    refine XS.i2b X0.here hx rfl (hb hby d23_7) rfl ?_
    exact kt
  obtain ⟨fs, hr, hrun, hended, hW, hsame⟩ := X0.leave (v := some (.int (nar .byte ((0 : Int32).toInt8.toInt32)))) (fun h => by rw [Bd.returns] at h; cases h)
  refine ⟨_, _, S3 _ ?_, hrun, hended, _, _, rfl, ?_, ⟨_, rfl⟩, hW, hsame.mono (by decide) (by decide)⟩
  · show Steps p.tables e below (s₁.setTop (mkF m 8 #[rv tb, iv 5] [(.int ((0 : Int32).toInt8.toInt32))])) _
    exact retN X0 hx (t := .byte) Bd.returns (by simp) (hb hby d23_8) hr
  · show own_Q23k5 Z tb c0 c1 c2 c3 c4 kt h0 n0 _ s₁.heap _
    rw [e0]
    exact ⟨rfl, rfl, rfl⟩
theorem own_ef21k5 (m : MethodId) (x0 : Addr) (x1 : Int32) (x2 : Int32) : entryFrame m #[(.ref x0), (.int x1), (.int x2)] 6 = mkF m 0 #[rv x0, iv x1, iv x2, .unset, .unset, .unset] [] := by first | (simp [entryFrame, mkF, argsToLocals, Value.category]; done) | rfl
def own_Q21k5 (Z : State) (b : Addr) (c0 : Int32) (c1 : Int32) (c2 : Int32) (c3 : Int32) (c4 : Int32) (kb : ClassId) (h0 : Heap) (n0 : Nat) (v : Option Value) (h : Heap) (L : List Loc) : Prop := ∃ (tb : Addr) (kt : ClassId), v = some (.ref tb) ∧ Fr n0 L ∧ n0 ≤ tb ∧ h0.size ≤ tb ∧ Keep h0 h [] ∧ Arv Z h tb kt .byte (5 : Int32) [(.int (own_lo c0)), (.int (own_lo c1)), (.int (own_lo c2)), (.int (own_lo c3)), (.int (own_lo c4))] (.int 0)
set_option maxHeartbeats 40000000 in
theorem own_rm21k5 (l : Launch) (Z : State) (a0 : Array Value) (hw : ∀ d ∈ tables_1, d.before a0 Z = true) (ws : List Jvm.Cond) (b : Addr) (c0 : Int32) (c1 : Int32) (c2 : Int32) (c3 : Int32) (c4 : Int32) (kb : ClassId) (h0 : Heap) (n0 : Nat) (Z0 : n0 ≤ h0.size) (V_b : Arv Z h0 b kb .char (5 : Int32) [(.int c0), (.int c1), (.int c2), (.int c3), (.int c4)] (.int 0)) (hl0 : ¬ (255 : Int32) < c0) (hl1 : ¬ (255 : Int32) < c1) (hl2 : ¬ (255 : Int32) < c2) (hl3 : ¬ (255 : Int32) < c3) (hl4 : ¬ (255 : Int32) < c4) :
    MetFree l own_y11 (head1 (Jvm.Cond.code own_y11 jdk_52_method_16_code 6 (some (.array .byte)) :: ws) ({ frames := 1, cells := 1, slots := 5, locals := 18 } : Room)) (fun argv U => argv = #[(.ref b), (.int 0), (.int 5)] ∧ Z.Warmed39 U.vm ∧ U.heap = h0) (fun _ _ _ _ _ => True) (fun _ U o U' => ∃ v L, o = .returned v ∧ own_Q21k5 Z b c0 c1 c2 c3 c4 kb h0 n0 v U'.heap L ∧ FrameEnd U o U' L ({ frames := 1, cells := 1, slots := 5, locals := 18 } : Room).cells ({ frames := 1, cells := 1, slots := 5, locals := 18 } : Room).slots) := by
  refine MetFree.of_bodySF (plainFor_of_name own_pn4) hisR ?_
  intro p e s m args below meth c s₁ Bd hml0 hP hK
  obtain ⟨rfl, hZ, hh⟩ := hP
  have hx := Bd.exec
  have hby := Bd.bytes
  have hml : c.maxLocals = 6 := hml0
  have hown : s.vm.findClass own_s1 = some m.cls := findClass_of_methodNamed Bd.named
  have hnm := (name_of_methodNamed Bd.named Bd.method).1
  have X0 : Stand p l e ({ frames := 1, cells := 1, slots := 5, locals := 18 } : Room) s m #[(.ref b), (.int 0), (.int 5)] below meth c s₁ [] 0 0 := Stand.of_body Bd
  have e0 : s₁.heap = h0 := by rw [← hh, Bd.state]; rfl
  have N0 := Fr.nil n0
  have pre_ : own_G p e below (s₁.setTop (entryFrame m #[(.ref b), (.int 0), (.int 5)] 6)) s₁ m 0 #[rv b, iv 0, iv 5, .unset, .unset, .unset] [] := fun t k => castTop (own_ef21k5 m b (0 : Int32) (5 : Int32)) k
  obtain ⟨s0, hs0⟩ : ∃ z, z = (s₁.setTop (entryFrame m #[(.ref b), (.int 0), (.int 5)] 6)) := ⟨_, rfl⟩
  have pre0 : own_G p e below s0 s₁ m 0 #[rv b, iv 0, iv 5, .unset, .unset, .unset] [] := hs0 ▸ pre_
  rw [← hs0]
  have S1 : own_G p e below s0 s₁ m 1 #[rv b, iv 0, iv 5, .unset, .unset, .unset] [(.int 5)] := fun t kt => by
    refine pre0 t ?_
    refine w_iloadN X0 hx hby d21_0 rfl ?_
    exact kt
  obtain ⟨T2, h2, k2, X2, e2, E2, A2, st2⟩ := newP X0 hx hZ (own_w hw 11 rfl) e0 (g := (mkF m 1 #[rv b, iv 0, iv 5, .unset, .unset, .unset] [(.int 5)])) rfl (hb hby d21_1) rfl (by decide) (cap := 5) (by decide) (by decide) (by decide) (by decide)
  obtain ⟨b2, g2⟩ : ∃ z, z = h0.size := ⟨_, rfl⟩
  rw [← g2] at A2 st2
  have S3 : own_G p e below s0 T2 m 3 #[rv b, iv 0, iv 5, .unset, .unset, .unset] [(.ref b2)] := fun t kt => S1 t (st2 _ kt)
  have g_b2 : n0 ≤ b2 := Nat.le_trans Z0 (Nat.le_of_eq g2.symm)
  have sz_b2 : h0.size ≤ b2 := Nat.le_trans (Keep.refl h0 []).1 (Nat.le_of_eq g2.symm)
  have ne_b_b2 : b ≠ b2 := Nat.ne_of_lt (Nat.lt_of_lt_of_le V_b.lt (Nat.le_of_eq g2.symm))
  have F4 := V_b.ext E2
  have K5 : Keep h0 h2 [] := (Keep.refl h0 []).ext E2
  have V6 : Arv Z h2 b2 k2 .byte (5 : Int32) [(.int 0), (.int 0), (.int 0), (.int 0), (.int 0)] (.int 0) := (Arv.new A2 (by decide)).pad (pad_rep [] (.int 0) 5)
  have S9 : own_G p e below s0 T2 m 9 #[rv b, iv 0, iv 5, rv b2, .unset, .unset] [(.int 5), (.int 0), (.ref b2), (.int 0), (.ref b)] := fun t kt => by
    refine S3 t ?_
    refine w_astoreN X2 hx hby d21_3 rfl (l' := #[rv b, iv 0, iv 5, rv b2, .unset, .unset]) rfl ?_
    refine w_aloadN X2 hx hby d21_4 rfl rfl ?_
    refine w_iloadN X2 hx hby d21_5 rfl ?_
    refine w_aloadN X2 hx hby d21_6 rfl rfl ?_
    refine w_iconst X2 hx hby d21_7 ?_
    refine w_iloadN X2 hx hby d21_8 rfl ?_
    exact kt
  obtain ⟨_, _, ⟨T10, L10, k10, n10⟩, -, X10, ⟨Lc10, hQ10, l10, y10, z10⟩, st10⟩ := Jvm.LawKit.callS X2 hx (y := own_y8) hown (mvT hZ (own_w hw 112 rfl)) (mvT hZ (own_w hw 113 rfl)) (mvT hZ (own_w hw 110 rfl)) (mvT hZ (own_w hw 114 rfl)) (by decide) (backOf (W := 0) (own_rm22k5 l Z a0 hw [] (b) (b2) (c0) (c1) (c2) (c3) (c4) (kb) (k2) h2 n0 (Nat.le_trans Z0 K5.1) F4 V6 g_b2 ne_b_b2 hl0 hl1 hl2 hl3 hl4) hZ (own_w hw 114 rfl) (own_w hw 110 rfl) (by decide) (by decide)) (g := (mkF m 9 #[rv b, iv 0, iv 5, rv b2, .unset, .unset] [(.int 5), (.int 0), (.ref b2), (.int 0), (.ref b)])) rfl (by rw [hml]; rfl) (argsL := [(.ref b), (.int 0), (.ref b2), (.int 0), (.int 5)]) (rest := []) (lenOf own_pd10 rfl) rfl (by show 2 * 0 + _ ≤ _; exact Nat.le_of_eq rfl) (hb hby d21_9) (fun _ _ => ⟨rfl, e2, (by decide : 1 + 0 ≤ _), (by decide : 5 + 0 ≤ _)⟩)
  dsimp only [Pt.U, Pt.locs, Pt.cells, Pt.slots] at X10 l10 y10 z10 st10 hQ10
  subst l10 y10 z10
  obtain ⟨rfl, Nq10, Kc7, Vc7⟩ := hQ10
  have N11 := Fr.app N0 Nq10
  have S12 : own_G p e below s0 T10 m 12 #[rv b, iv 0, iv 5, rv b2, .unset, .unset] [(.int 5)] := fun t kt => S9 t (st10 _ kt)
  have F13 := F4.keep Kc7 (ninS ne_b_b2 nin0)
  have K14 : Keep h0 T10.heap [] := K5.trans Kc7 (allS (Or.inr sz_b2) all0)
  have S15 : own_G p e below s0 T10 m 17 #[rv b, iv 0, iv 5, rv b2, iv 5, .unset] [(.int 5), (.int 5)] := fun t kt => by
    refine S12 t ?_
    refine w_istore X10 hx hby d21_12 (l' := #[rv b, iv 0, iv 5, rv b2, iv 5, .unset]) rfl ?_
    refine w_iload X10 hx hby d21_14 rfl ?_
    refine w_iloadN X10 hx hby d21_16 rfl ?_
    exact kt
  have hc17_16 : (5 : Int32) = (5 : Int32) := by decide
  have S17 : own_G p e below s0 T10 m 58 #[rv b, iv 0, iv 5, rv b2, iv 5, .unset] [(.ref b2)] := fun t kt => by
    refine S15 t ?_
    refine w_icmpYes X10 hx hby (pc' := 57) d21_17 (teq hc17_16).1 (by decide) ?_
    refine w_aloadN X10 hx hby d21_57 rfl rfl ?_
    exact kt
  obtain ⟨fs, hr, hrun, hended, hW, hsame⟩ := X10.leave (v := some (.ref b2)) (fun h => by rw [Bd.returns] at h; cases h)
  refine ⟨_, _, S17 _ ?_, hrun, hended, _, _, rfl, ?_, ⟨_, rfl⟩, hW, hsame.mono (by decide) (by decide)⟩
  · show Steps p.tables e below (T10.setTop (mkF m 58 #[rv b, iv 0, iv 5, rv b2, iv 5, .unset] [(.ref b2)])) _
    jvm_step X10.here [X10.here.top, hx, (hb hby d21_58), X10.method', Bd.returns, Value.isRef, FieldType.isReference]
    first | (intro acts; rw [hr _ acts rfl rfl rfl]) | rw [hr _ _ rfl rfl rfl]
    exact Steps.refl _
  · show own_Q21k5 Z b c0 c1 c2 c3 c4 kb h0 n0 _ T10.heap _
    exact ⟨b2, k2, rfl, N11, g_b2, sz_b2, K14, Vc7⟩
theorem own_ef4k5 (m : MethodId) (x0 : Addr) (x1 : Addr) (x2 : Int32) (x3 : Int32) : entryFrame m #[(.ref x0), (.ref x1), (.int x2), (.int x3), .null] 6 = mkF m 0 #[rv x0, rv x1, iv x2, iv x3, .val .null, .unset] [] := by first | (simp [entryFrame, mkF, argsToLocals, Value.category]; done) | rfl
def own_Q4k5 (Z : State) (a : Addr) (b : Addr) (c0 : Int32) (c1 : Int32) (c2 : Int32) (c3 : Int32) (c4 : Int32) (kb : ClassId) (cs : Int32) (uv : Value) (uc : Value) (h0 : Heap) (n0 : Nat) (v : Option Value) (h : Heap) (L : List Loc) : Prop := v = none ∧ Fr n0 L ∧ Keep h0 h [a] ∧ Exa Z h a "java/lang/String" ∧ Fld Z h a "java/lang/String" "coder" "B" (.int 0) ∧ ∃ (tb : Addr) (kt : ClassId), n0 ≤ tb ∧ h0.size ≤ tb ∧ a ≠ tb ∧ Fld Z h a "java/lang/String" "value" "[B" (.ref tb) ∧ Arv Z h tb kt .byte (5 : Int32) [(.int (own_lo c0)), (.int (own_lo c1)), (.int (own_lo c2)), (.int (own_lo c3)), (.int (own_lo c4))] (.int 0)
set_option maxHeartbeats 40000000 in
theorem own_rm4k5 (l : Launch) (Z : State) (a0 : Array Value) (hw : ∀ d ∈ tables_1, d.before a0 Z = true) (ws : List Jvm.Cond) (a : Addr) (b : Addr) (c0 : Int32) (c1 : Int32) (c2 : Int32) (c3 : Int32) (c4 : Int32) (kb : ClassId) (cs : Int32) (uv : Value) (uc : Value) (h0 : Heap) (n0 : Nat) (Z0 : n0 ≤ h0.size) (E_a : Exa Z h0 a "java/lang/String") (g_a : n0 ≤ a) (F_value : Fld Z h0 a "java/lang/String" "value" "[B" uv) (F_coder : Fld Z h0 a "java/lang/String" "coder" "B" uc) (S_CS : Sta Z h0 "java/lang/String" "COMPACT_STRINGS" "Z" (.int cs)) (hcs : ¬ cs = (0 : Int32)) (V_b : Arv Z h0 b kb .char (5 : Int32) [(.int c0), (.int c1), (.int c2), (.int c3), (.int c4)] (.int 0)) (hl0 : ¬ (255 : Int32) < c0) (hl1 : ¬ (255 : Int32) < c1) (hl2 : ¬ (255 : Int32) < c2) (hl3 : ¬ (255 : Int32) < c3) (hl4 : ¬ (255 : Int32) < c4) :
    MetFree l own_y5 (head1 (Jvm.Cond.code own_y5 jdk_42_method_149_code 6 none :: ws) ({ frames := 2, cells := 1, slots := 5, locals := 35 } : Room)) (fun argv U => argv = #[(.ref a), (.ref b), (.int 0), (.int 5), .null] ∧ Z.Warmed39 U.vm ∧ U.heap = h0) (fun _ _ _ _ _ => True) (fun _ U o U' => ∃ v L, o = .returned v ∧ own_Q4k5 Z a b c0 c1 c2 c3 c4 kb cs uv uc h0 n0 v U'.heap L ∧ FrameEnd U o U' L ({ frames := 2, cells := 1, slots := 5, locals := 35 } : Room).cells ({ frames := 2, cells := 1, slots := 5, locals := 35 } : Room).slots) := by
  refine MetFree.of_bodySF (plainFor_of_name own_pn1) hisR ?_
  intro p e s m args below meth c s₁ Bd hml0 hP hK
  obtain ⟨rfl, hZ, hh⟩ := hP
  have hx := Bd.exec
  have hby := Bd.bytes
  have hml : c.maxLocals = 6 := hml0
  have hown : s.vm.findClass "java/lang/String" = some m.cls := findClass_of_methodNamed Bd.named
  have hnm := (name_of_methodNamed Bd.named Bd.method).1
  have X0 : Stand p l e ({ frames := 2, cells := 1, slots := 5, locals := 35 } : Room) s m #[(.ref a), (.ref b), (.int 0), (.int 5), .null] below meth c s₁ [] 0 0 := Stand.of_body Bd
  have e0 : s₁.heap = h0 := by rw [← hh, Bd.state]; rfl
  have N0 := Fr.nil n0
  have pre_ : own_G p e below (s₁.setTop (entryFrame m #[(.ref a), (.ref b), (.int 0), (.int 5), .null] 6)) s₁ m 0 #[rv a, rv b, iv 0, iv 5, .val .null, .unset] [] := fun t k => castTop (own_ef4k5 m a b (0 : Int32) (5 : Int32)) k
  obtain ⟨s0, hs0⟩ : ∃ z, z = (s₁.setTop (entryFrame m #[(.ref a), (.ref b), (.int 0), (.int 5), .null] 6)) := ⟨_, rfl⟩
  have pre0 : own_G p e below s0 s₁ m 0 #[rv a, rv b, iv 0, iv 5, .val .null, .unset] [] := hs0 ▸ pre_
  rw [← hs0]
  have S1 : own_G p e below s0 s₁ m 1 #[rv a, rv b, iv 0, iv 5, .val .null, .unset] [(.ref a)] := fun t kt => by
    refine pre0 t ?_
    refine w_aloadN X0 hx hby d4_0 rfl rfl ?_
    exact kt
  obtain ⟨T2, X2, e2, st2⟩ := initO X0 hx hZ hown (own_w hw 28 rfl) (own_w hw 29 rfl) (own_w hw 30 rfl) e0 (g := (mkF m 1 #[rv a, rv b, iv 0, iv 5, .val .null, .unset] [(.ref a)])) rfl (by rw [hml]; rfl) rfl (hb hby d4_1) (by decide) (W := 0) (by show 2 * 0 + _ ≤ _; exact Nat.le_of_eq rfl) (by decide)
  have S3 : own_G p e below s0 T2 m 4 #[rv a, rv b, iv 0, iv 5, .val .null, .unset] [] := fun t kt => S1 t (st2 _ kt)
  have S4 : own_G p e below s0 T2 m 5 #[rv a, rv b, iv 0, iv 5, .val .null, .unset] [(.int 5)] := fun t kt => by
    refine S3 t ?_
    refine w_iloadN X2 hx hby d4_4 rfl ?_
    exact kt
  have hc5_5 : ¬ ((5 : Int32) = (0 : Int32)) := by decide
  have S6 : own_G p e below s0 T2 m 27 #[rv a, rv b, iv 0, iv 5, .val .null, .unset] [] := fun t kt => by
    refine S4 t ?_
    refine w_ifYes X2 hx hby (pc' := 27) d4_5 ((if0 _ _).trans (feq hc5_5).2) (by decide) ?_
    exact kt
  obtain ⟨T7, X7, e7, st7⟩ := getS2 X2 hx hZ hown (host := "") (Or.inl (own_w hw 58 rfl)) Via.refl e2 S_CS (g := (mkF m 27 #[rv a, rv b, iv 0, iv 5, .val .null, .unset] [])) rfl (hb hby d4_27)
  have S8 : own_G p e below s0 T7 m 30 #[rv a, rv b, iv 0, iv 5, .val .null, .unset] [(.int cs)] := fun t kt => S6 t (st7 _ kt)
  have hc30_9 : ¬ (cs = (0 : Int32)) := hcs
  have S12 : own_G p e below s0 T7 m 36 #[rv a, rv b, iv 0, iv 5, .val .null, .unset] [(.int 5), (.int 0), (.ref b)] := fun t kt => by
    refine S8 t ?_
    refine w_ifNo X7 hx hby d4_30 ((if0 _ _).trans (feq hc30_9).1) ?_
    refine w_aloadN X7 hx hby d4_33 rfl rfl ?_
    refine w_iloadN X7 hx hby d4_34 rfl ?_
    refine w_iloadN X7 hx hby d4_35 rfl ?_
    exact kt
  obtain ⟨_, _, ⟨T13, L13, k13, n13⟩, -, X13, ⟨Lc13, hQ13, l13, y13, z13⟩, st13⟩ := Jvm.LawKit.callS X7 hx (y := own_y11) hown (mvT hZ (own_w hw 108 rfl)) (mvT hZ (own_w hw 109 rfl)) (mvT hZ (own_w hw 110 rfl)) (mvT hZ (own_w hw 111 rfl)) (by decide) (backOf (W := 0) (own_rm21k5 l Z a0 hw [] (b) (c0) (c1) (c2) (c3) (c4) (kb) h0 n0 Z0 V_b hl0 hl1 hl2 hl3 hl4) hZ (own_w hw 111 rfl) (own_w hw 110 rfl) (by decide) (by decide)) (g := (mkF m 36 #[rv a, rv b, iv 0, iv 5, .val .null, .unset] [(.int 5), (.int 0), (.ref b)])) rfl (by rw [hml]; rfl) (argsL := [(.ref b), (.int 0), (.int 5)]) (rest := []) (lenOf own_pd11 rfl) rfl (by show 2 * 0 + _ ≤ _; exact Nat.le_of_eq rfl) (hb hby d4_36) (fun _ _ => ⟨rfl, e7, (by decide : 0 + 1 ≤ _), (by decide : 0 + 5 ≤ _)⟩)
  dsimp only [Pt.U, Pt.locs, Pt.cells, Pt.slots] at X13 l13 y13 z13 st13 hQ13
  subst l13 y13 z13
  obtain ⟨tb10, kt10, rfl, Nq13, gt10, sz10, Kc10, Vc10⟩ := hQ13
  have N14 := Fr.app N0 Nq13
  have S15 : own_G p e below s0 T13 m 39 #[rv a, rv b, iv 0, iv 5, .val .null, .unset] [(.ref tb10)] := fun t kt => S12 t (st13 _ kt)
  have F16 := E_a.keep Kc10
  have F17 := F_value.keep Kc10 nin0
  have F18 := F_coder.keep Kc10 nin0
  have F19 := own_StaK S_CS Kc10 all0
  have F20 := V_b.keep Kc10 nin0
  have K21 : Keep h0 T13.heap [a] := (Keep.refl h0 [a]).trans Kc10 all0
  have ne_a_tb10 : a ≠ tb10 := Nat.ne_of_lt (Nat.lt_of_lt_of_le E_a.lt sz10)
  have ne_b_tb10 : b ≠ tb10 := Nat.ne_of_lt (Nat.lt_of_lt_of_le V_b.lt sz10)
  have S23 : own_G p e below s0 T13 m 45 #[rv a, rv b, iv 0, iv 5, .val .null, rv tb10] [(.int 5), (.ref tb10), (.ref a)] := fun t kt => by
    refine S15 t ?_
    refine w_astore X13 hx hby d4_39 rfl (l' := #[rv a, rv b, iv 0, iv 5, .val .null, rv tb10]) rfl ?_
    refine w_aloadN X13 hx hby d4_41 rfl rfl ?_
    refine w_aload X13 hx hby d4_42 rfl rfl ?_
    refine w_iloadN X13 hx hby d4_44 rfl ?_
    exact kt
  obtain ⟨_, _, ⟨T24, L24, k24, n24⟩, -, X24, ⟨Lc24, hQ24, l24, y24, z24⟩, st24⟩ := Jvm.LawKit.callS X13 hx (y := own_y6) hown (mvT hZ (own_w hw 115 rfl)) (mvT hZ (own_w hw 116 rfl)) (mvT hZ (own_w hw 110 rfl)) (mvT hZ (own_w hw 117 rfl)) (by decide) (backOf (W := 1) (own_rm23k5 l Z a0 hw [] (tb10) (c0) (c1) (c2) (c3) (c4) (kt10) T13.heap n0 (Nat.le_trans Z0 K21.1) Vc10) hZ (own_w hw 117 rfl) (own_w hw 110 rfl) (by decide) (by decide)) (g := (mkF m 45 #[rv a, rv b, iv 0, iv 5, .val .null, rv tb10] [(.int 5), (.ref tb10), (.ref a)])) rfl (by rw [hml]; rfl) (argsL := [(.ref tb10), (.int 5)]) (rest := [(.ref a)]) (lenOf own_pd12 rfl) rfl (by show 2 * 0 + _ ≤ _; exact Nat.le_of_eq rfl) (hb hby d4_45) (fun _ _ => ⟨rfl, rfl, (by decide : 1 + 0 ≤ _), (by decide : 5 + 0 ≤ _)⟩)
  dsimp only [Pt.U, Pt.locs, Pt.cells, Pt.slots] at X24 l24 y24 z24 st24 hQ24
  subst l24 y24 z24
  obtain ⟨rfl, rfl, eq22⟩ := hQ24
  try rw [List.append_nil] at X24
  have S25 : own_G p e below s0 T24 m 48 #[rv a, rv b, iv 0, iv 5, .val .null, rv tb10] [(.int 0), (.ref a)] := fun t kt => S23 t (st24 _ kt)
  obtain ⟨T26, h26, X26, e26, W26, st26⟩ := putFN X24 hx hZ hown (own_w hw 33 rfl) Via.refl (eq22.trans rfl) F18 F16 (Or.inr ⟨(own_w hw 13 rfl), rfl, hnm⟩) (own_w hw 10 rfl) (ty := .byte) (v' := (.int 0)) (by decide) rfl (by decide) (g := (mkF m 48 #[rv a, rv b, iv 0, iv 5, .val .null, rv tb10] [(.int 0), (.ref a)])) rfl rfl (hb hby d4_48)
  have S27 : own_G p e below s0 T26 m 51 #[rv a, rv b, iv 0, iv 5, .val .null, rv tb10] [] := fun t kt => S25 t (st26 _ kt)
  have F28 := F16.wr W26
  have F29 := F17.other W26 (Or.inr (slot_ne (Or.inr (own_w hw 12 rfl)) (Or.inr (own_w hw 13 rfl)) (by decide) (t := (.array .byte)) (t' := .byte) (by decide) (by decide)))
  have F30 := F18.same W26
  have F31 := F19.wr W26
  have F32 := F20.other W26 (Ne.symm (Exa.neArv F16 F20 (own_w hw 10 rfl)))
  have F33 := Vc10.other W26 (Ne.symm ne_a_tb10)
  have N34 := Fr.snoc X26 N14 g_a
  have K35 : Keep h0 h26 [a] := K21.wr W26 (Or.inl (List.mem_of_getElem? (i := 0) rfl))
  have S36 : own_G p e below s0 T26 m 54 #[rv a, rv b, iv 0, iv 5, .val .null, rv tb10] [(.ref tb10), (.ref a)] := fun t kt => by
    refine S27 t ?_
    refine w_aloadN X26 hx hby d4_51 rfl rfl ?_
    refine w_aload X26 hx hby d4_52 rfl rfl ?_
    exact kt
  obtain ⟨T37, h37, X37, e37, W37, st37⟩ := putF X26 hx hZ hown (host := "") (Or.inl (own_w hw 32 rfl)) Via.refl e26 F29 F28 (Or.inr ⟨(own_w hw 12 rfl), rfl, hnm⟩) (own_w hw 10 rfl) (ty := (.array .byte)) (by decide) rfl rfl (g := (mkF m 54 #[rv a, rv b, iv 0, iv 5, .val .null, rv tb10] [(.ref tb10), (.ref a)])) rfl rfl (hb hby d4_54)
  have S38 : own_G p e below s0 T37 m 57 #[rv a, rv b, iv 0, iv 5, .val .null, rv tb10] [] := fun t kt => S36 t (st37 _ kt)
  have F39 := F28.wr W37
  have F40 := F29.same W37
  have F41 := F30.other W37 (Or.inr (slot_ne (Or.inr (own_w hw 13 rfl)) (Or.inr (own_w hw 12 rfl)) (by decide) (t := .byte) (t' := (.array .byte)) (by decide) (by decide)))
  have F42 := F31.wr W37
  have F43 := F32.other W37 (Ne.symm (Exa.neArv F28 F32 (own_w hw 10 rfl)))
  have F44 := F33.other W37 (Ne.symm ne_a_tb10)
  have N45 := Fr.snoc X37 N34 g_a
  have K46 : Keep h0 h37 [a] := K35.wr W37 (Or.inl (List.mem_of_getElem? (i := 0) rfl))
  obtain ⟨fs, hr, hrun, hended, hW, hsame⟩ := X37.leave (v := none) (fun _ => rfl)
  refine ⟨_, _, S38 _ ?_, hrun, hended, _, _, rfl, ?_, ⟨_, rfl⟩, hW, hsame.mono (by decide) (by decide)⟩
  · show Steps p.tables e below (T37.setTop (mkF m 57 #[rv a, rv b, iv 0, iv 5, .val .null, rv tb10] [])) _
    exact X37.returnOut hx Bd.returns (hb hby d4_57) hr
  · show own_Q4k5 Z a b c0 c1 c2 c3 c4 kb cs uv uc h0 n0 _ T37.heap _
    rw [e37]
    exact ⟨rfl, N45, K46, F39, F41, tb10, kt10, gt10, (Nat.le_trans (Keep.refl h0 [a]).1 sz10), ne_a_tb10, F40, F44⟩
theorem own_ef3k5 (m : MethodId) (x0 : Addr) (x1 : Addr) : entryFrame m #[(.ref x0), (.ref x1)] 2 = mkF m 0 #[rv x0, rv x1] [] := by first | (simp [entryFrame, mkF, argsToLocals, Value.category]; done) | rfl
def own_Q3k5 (Z : State) (a : Addr) (b : Addr) (c0 : Int32) (c1 : Int32) (c2 : Int32) (c3 : Int32) (c4 : Int32) (kb : ClassId) (cs : Int32) (uv : Value) (uc : Value) (h0 : Heap) (n0 : Nat) (v : Option Value) (h : Heap) (L : List Loc) : Prop := v = none ∧ Fr n0 L ∧ Keep h0 h [a] ∧ Exa Z h a "java/lang/String" ∧ Fld Z h a "java/lang/String" "coder" "B" (.int 0) ∧ ∃ (tb : Addr) (kt : ClassId), n0 ≤ tb ∧ h0.size ≤ tb ∧ a ≠ tb ∧ Fld Z h a "java/lang/String" "value" "[B" (.ref tb) ∧ Arv Z h tb kt .byte (5 : Int32) [(.int (own_lo c0)), (.int (own_lo c1)), (.int (own_lo c2)), (.int (own_lo c3)), (.int (own_lo c4))] (.int 0)
set_option maxHeartbeats 40000000 in
theorem own_rm3k5 (l : Launch) (Z : State) (a0 : Array Value) (hw : ∀ d ∈ tables_1, d.before a0 Z = true) (ws : List Jvm.Cond) (a : Addr) (b : Addr) (c0 : Int32) (c1 : Int32) (c2 : Int32) (c3 : Int32) (c4 : Int32) (kb : ClassId) (cs : Int32) (uv : Value) (uc : Value) (h0 : Heap) (n0 : Nat) (Z0 : n0 ≤ h0.size) (E_a : Exa Z h0 a "java/lang/String") (g_a : n0 ≤ a) (F_value : Fld Z h0 a "java/lang/String" "value" "[B" uv) (F_coder : Fld Z h0 a "java/lang/String" "coder" "B" uc) (S_CS : Sta Z h0 "java/lang/String" "COMPACT_STRINGS" "Z" (.int cs)) (hcs : ¬ cs = (0 : Int32)) (V_b : Arv Z h0 b kb .char (5 : Int32) [(.int c0), (.int c1), (.int c2), (.int c3), (.int c4)] (.int 0)) (hl0 : ¬ (255 : Int32) < c0) (hl1 : ¬ (255 : Int32) < c1) (hl2 : ¬ (255 : Int32) < c2) (hl3 : ¬ (255 : Int32) < c3) (hl4 : ¬ (255 : Int32) < c4) :
    MetFree l own_y18 (head1 (Jvm.Cond.code own_y18 jdk_42_method_3_code 2 none :: ws) ({ frames := 3, cells := 1, slots := 5, locals := 52 } : Room)) (fun argv U => argv = #[(.ref a), (.ref b)] ∧ Z.Warmed39 U.vm ∧ U.heap = h0) (fun _ _ _ _ _ => True) (fun _ U o U' => ∃ v L, o = .returned v ∧ own_Q3k5 Z a b c0 c1 c2 c3 c4 kb cs uv uc h0 n0 v U'.heap L ∧ FrameEnd U o U' L ({ frames := 3, cells := 1, slots := 5, locals := 52 } : Room).cells ({ frames := 3, cells := 1, slots := 5, locals := 52 } : Room).slots) := by
  refine MetFree.of_bodySF (plainFor_of_name own_pn1) hisR ?_
  intro p e s m args below meth c s₁ Bd hml0 hP hK
  obtain ⟨rfl, hZ, hh⟩ := hP
  have hx := Bd.exec
  have hby := Bd.bytes
  have hml : c.maxLocals = 2 := hml0
  have hown : s.vm.findClass "java/lang/String" = some m.cls := findClass_of_methodNamed Bd.named
  have hnm := (name_of_methodNamed Bd.named Bd.method).1
  have X0 : Stand p l e ({ frames := 3, cells := 1, slots := 5, locals := 52 } : Room) s m #[(.ref a), (.ref b)] below meth c s₁ [] 0 0 := Stand.of_body Bd
  have e0 : s₁.heap = h0 := by rw [← hh, Bd.state]; rfl
  have N0 := Fr.nil n0
  have pre_ : own_G p e below (s₁.setTop (entryFrame m #[(.ref a), (.ref b)] 2)) s₁ m 0 #[rv a, rv b] [] := fun t k => castTop (own_ef3k5 m a b) k
  obtain ⟨s0, hs0⟩ : ∃ z, z = (s₁.setTop (entryFrame m #[(.ref a), (.ref b)] 2)) := ⟨_, rfl⟩
  have pre0 : own_G p e below s0 s₁ m 0 #[rv a, rv b] [] := hs0 ▸ pre_
  rw [← hs0]
  have S1 : own_G p e below s0 s₁ m 4 #[rv a, rv b] [(.ref b), (.int 0), (.ref b), (.ref a)] := fun t kt => by
    refine pre0 t ?_
    refine w_aloadN X0 hx hby d3_0 rfl rfl ?_
    refine w_aloadN X0 hx hby d3_1 rfl rfl ?_
    refine w_iconst X0 hx hby d3_2 ?_
    refine w_aloadN X0 hx hby d3_3 rfl rfl ?_
    exact kt
  obtain ⟨cl2, Ar2, -, Sz2, Nn2, -, -⟩ := id V_b
  have S5 : own_G p e below s0 s₁ m 6 #[rv a, rv b] [.null, (.int 5), (.int 0), (.ref b), (.ref a)] := fun t kt => by
    refine S1 t ?_
    refine X0.arraylength hx (by rw [e0]; exact Ar2.1) (State.isArrayOf_alike hZ.alike Ar2.2.1) (g := (mkF m 4 #[rv a, rv b] [(.ref b), (.int 0), (.ref b), (.ref a)])) rfl rfl (hb hby d3_4) _ ?_
    rw [len_of Sz2 Nn2]
    refine XS.aconstNull X0.here hx rfl (hb hby d3_5) ?_
    exact kt
  obtain ⟨_, _, ⟨T6, L6, k6, n6⟩, -, X6, ⟨Lc6, hQ6, l6, y6, z6⟩, st6⟩ := X0.specialBack hx (y := own_y5) rfl hown (mvT hZ (own_w hw 24 rfl)) (mvT hZ (own_w hw 25 rfl)) (mvT hZ (own_w hw 27 rfl)) (by decide) (backOf (W := 0) (own_rm4k5 l Z a0 hw [] (a) (b) (c0) (c1) (c2) (c3) (c4) (kb) (cs) (uv) (uc) h0 n0 Z0 E_a g_a F_value F_coder S_CS hcs V_b hl0 hl1 hl2 hl3 hl4) hZ (own_w hw 27 rfl) (own_w hw 9 rfl) (by decide) (by decide)) (g := (mkF m 6 #[rv a, rv b] [.null, (.int 5), (.int 0), (.ref b), (.ref a)])) rfl (by rw [hml]; rfl) (Steps.refl _) (a := a) (argsL := [(.ref b), (.int 0), (.int 5), .null]) (rest := []) (lenOf own_pd13 rfl) rfl (by show 2 * 0 + _ ≤ _; exact Nat.le_of_eq rfl) (hb hby d3_6) (fun _ _ => ⟨rfl, e0, (by decide : 0 + 1 ≤ _), (by decide : 0 + 5 ≤ _)⟩)
  dsimp only [Pt.U, Pt.locs, Pt.cells, Pt.slots] at X6 l6 y6 z6 st6 hQ6
  subst l6 y6 z6
  obtain ⟨rfl, Nq6, Kc3, Ec3, Cc3, tb3, kt3, gt3, sz3, nat3, Fv3, Va3⟩ := hQ6
  have N7 := Fr.app N0 Nq6
  have S8 : own_G p e below s0 T6 m 9 #[rv a, rv b] [] := fun t kt => S5 t (st6.trans kt)
  have F9 := E_a.keep Kc3
  have F10 := own_StaK S_CS Kc3 (allS (own_ExaS E_a) all0)
  have F11 := V_b.keep Kc3 (ninS (Ne.symm (Exa.neArv E_a V_b (own_w hw 10 rfl))) nin0)
  have K12 : Keep h0 T6.heap [a] := (Keep.refl h0 [a]).trans Kc3 (allS (Or.inl (List.mem_of_getElem? (i := 0) rfl)) all0)
  have ne_b_tb3 : b ≠ tb3 := Nat.ne_of_lt (Nat.lt_of_lt_of_le V_b.lt sz3)
  obtain ⟨fs, hr, hrun, hended, hW, hsame⟩ := X6.leave (v := none) (fun _ => rfl)
  refine ⟨_, _, S8 _ ?_, hrun, hended, _, _, rfl, ?_, ⟨_, rfl⟩, hW, hsame.mono (by decide) (by decide)⟩
  · show Steps p.tables e below (T6.setTop (mkF m 9 #[rv a, rv b] [])) _
    exact X6.returnOut hx Bd.returns (hb hby d3_9) hr
  · show own_Q3k5 Z a b c0 c1 c2 c3 c4 kb cs uv uc h0 n0 _ T6.heap _
    exact ⟨rfl, N7, K12, Ec3, Cc3, tb3, kt3, gt3, (Nat.le_trans (Keep.refl h0 [a]).1 sz3), nat3, Fv3, Va3⟩
theorem own_ef22k6 (m : MethodId) (x0 : Addr) (x1 : Int32) (x2 : Addr) (x3 : Int32) (x4 : Int32) : entryFrame m #[(.ref x0), (.int x1), (.ref x2), (.int x3), (.int x4)] 7 = mkF m 0 #[rv x0, iv x1, rv x2, iv x3, iv x4, .unset, .unset] [] := by first | (simp [entryFrame, mkF, argsToLocals, Value.category]; done) | rfl
def own_Q22k6 (Z : State) (b : Addr) (tb : Addr) (c0 : Int32) (c1 : Int32) (c2 : Int32) (c3 : Int32) (c4 : Int32) (c5 : Int32) (kb : ClassId) (kt : ClassId) (h0 : Heap) (n0 : Nat) (v : Option Value) (h : Heap) (L : List Loc) : Prop := v = some (.int 6) ∧ Fr n0 L ∧ Keep h0 h [tb] ∧ Arv Z h tb kt .byte (6 : Int32) [(.int (own_lo c0)), (.int (own_lo c1)), (.int (own_lo c2)), (.int (own_lo c3)), (.int (own_lo c4)), (.int (own_lo c5))] (.int 0)
set_option maxHeartbeats 40000000 in
theorem own_rm22k6 (l : Launch) (Z : State) (a0 : Array Value) (hw : ∀ d ∈ tables_1, d.before a0 Z = true) (ws : List Jvm.Cond) (b : Addr) (tb : Addr) (c0 : Int32) (c1 : Int32) (c2 : Int32) (c3 : Int32) (c4 : Int32) (c5 : Int32) (kb : ClassId) (kt : ClassId) (h0 : Heap) (n0 : Nat) (Z0 : n0 ≤ h0.size) (V_b : Arv Z h0 b kb .char (6 : Int32) [(.int c0), (.int c1), (.int c2), (.int c3), (.int c4), (.int c5)] (.int 0)) (V_t : Arv Z h0 tb kt .byte (6 : Int32) [(.int 0), (.int 0), (.int 0), (.int 0), (.int 0), (.int 0)] (.int 0)) (g_tb : n0 ≤ tb) (ne_b_tb : b ≠ tb) (hl0 : ¬ (255 : Int32) < c0) (hl1 : ¬ (255 : Int32) < c1) (hl2 : ¬ (255 : Int32) < c2) (hl3 : ¬ (255 : Int32) < c3) (hl4 : ¬ (255 : Int32) < c4) (hl5 : ¬ (255 : Int32) < c5) :
    MetFree l own_y8 (head1 (Jvm.Cond.code own_y8 jdk_52_method_21_code 7 (some .int) :: ws) ({ frames := 0, cells := 0, slots := 0, locals := 0 } : Room)) (fun argv U => argv = #[(.ref b), (.int 0), (.ref tb), (.int 0), (.int 6)] ∧ Z.Warmed39 U.vm ∧ U.heap = h0) (fun _ _ _ _ _ => True) (fun _ U o U' => ∃ v L, o = .returned v ∧ own_Q22k6 Z b tb c0 c1 c2 c3 c4 c5 kb kt h0 n0 v U'.heap L ∧ FrameEnd U o U' L ({ frames := 0, cells := 0, slots := 0, locals := 0 } : Room).cells ({ frames := 0, cells := 0, slots := 0, locals := 0 } : Room).slots) := by
  refine MetFree.of_bodySF (plainFor_of_name own_pn4) hisR ?_
  intro p e s m args below meth c s₁ Bd hml0 hP hK
  obtain ⟨rfl, hZ, hh⟩ := hP
  have hx := Bd.exec
  have hby := Bd.bytes
  have hml : c.maxLocals = 7 := hml0
  have hown : s.vm.findClass own_s1 = some m.cls := findClass_of_methodNamed Bd.named
  have hnm := (name_of_methodNamed Bd.named Bd.method).1
  have X0 : Stand p l e ({ frames := 0, cells := 0, slots := 0, locals := 0 } : Room) s m #[(.ref b), (.int 0), (.ref tb), (.int 0), (.int 6)] below meth c s₁ [] 0 0 := Stand.of_body Bd
  have e0 : s₁.heap = h0 := by rw [← hh, Bd.state]; rfl
  have N0 := Fr.nil n0
  have pre_ : own_G p e below (s₁.setTop (entryFrame m #[(.ref b), (.int 0), (.ref tb), (.int 0), (.int 6)] 7)) s₁ m 0 #[rv b, iv 0, rv tb, iv 0, iv 6, .unset, .unset] [] := fun t k => castTop (own_ef22k6 m b (0 : Int32) tb (0 : Int32) (6 : Int32)) k
  obtain ⟨s0, hs0⟩ : ∃ z, z = (s₁.setTop (entryFrame m #[(.ref b), (.int 0), (.ref tb), (.int 0), (.int 6)] 7)) := ⟨_, rfl⟩
  have pre0 : own_G p e below s0 s₁ m 0 #[rv b, iv 0, rv tb, iv 0, iv 6, .unset, .unset] [] := hs0 ▸ pre_
  rw [← hs0]
  have S1 : own_G p e below s0 s₁ m 7 #[rv b, iv 0, rv tb, iv 0, iv 6, iv 0, .unset] [(.int 6), (.int 0)] := fun t kt => by
    refine pre0 t ?_
    refine w_iconst X0 hx hby d22_0 ?_
    refine w_istore X0 hx hby d22_1 (l' := #[rv b, iv 0, rv tb, iv 0, iv 6, iv 0, .unset]) rfl ?_
    refine w_iload X0 hx hby d22_3 rfl ?_
    refine w_iload X0 hx hby d22_5 rfl ?_
    exact kt
  have hc7_2 : (0 : Int32) < (6 : Int32) := by decide
  have S4 : own_G p e below s0 s₁ m 12 #[rv b, iv 0, rv tb, iv 0, iv 6, iv 0, .unset] [(.int 0), (.ref b)] := fun t kt => by
    refine S1 t ?_
    refine w_icmpNo X0 hx hby d22_7 (tlt hc7_2).2.1 ?_
    refine w_aloadN X0 hx hby d22_10 rfl rfl ?_
    refine w_iloadN X0 hx hby d22_11 rfl ?_
    exact kt
  obtain ⟨cl3, Ar3, -, Sz3, Nn3, Hh3, -⟩ := id V_b
  have hin3 : ¬ ((0 : Int32) < 0 ∨ cl3.slots.size ≤ ((0 : Int32)).toNatClampNeg) := inb_of Sz3 ⟨by decide, by decide⟩
  have S5 : own_G p e below s0 s₁ m 20 #[rv b, iv 0, rv tb, iv 0, iv 6, iv 0, iv c0] [(.int 255), (.int c0)] := fun t kt => by
    refine S4 t ?_
    refine X0.caload hx (j := (0 : Int32)) (v := (.int c0)) (by rw [e0]; exact Ar3.1) (State.isArrayOf_alike hZ.alike Ar3.2.1) Ar3.2.2 hin3 (Has.at Hh3 hin3 rfl) (g := (mkF m 12 #[rv b, iv 0, rv tb, iv 0, iv 6, iv 0, .unset] [(.int 0), (.ref b)])) rfl rfl (hb hby d22_12) _ ?_
    refine w_istore X0 hx hby d22_13 (l' := #[rv b, iv 0, rv tb, iv 0, iv 6, iv 0, iv c0]) rfl ?_
    refine w_iload X0 hx hby d22_15 rfl ?_
    refine w_sipush X0 hx hby d22_17 ?_
    exact kt
  have hc20_6 : ¬ ((255 : Int32) < c0) := hl0
  have S7 : own_G p e below s0 s₁ m 31 #[rv b, iv 0, rv tb, iv 0, iv 6, iv 0, iv c0] [(.int (c0.toInt8.toInt32)), (.int 0), (.ref tb)] := fun t kt => by
    refine S5 t ?_
    refine w_icmpYes X0 hx hby (pc' := 26) d22_20 (flt hc20_6).2.2.2 (by decide) ?_
    refine w_aloadN X0 hx hby d22_26 rfl rfl ?_
    refine w_iloadN X0 hx hby d22_27 rfl ?_
    refine w_iload X0 hx hby d22_28 rfl ?_
    refine XS.i2b X0.here hx rfl (hb hby d22_30) rfl ?_
    exact kt
  obtain ⟨cl8, Ar8, q8, Sz8, Nn8, Hh8, Gg8⟩ := id V_t
  have hin8 : ¬ ((0 : Int32) < 0 ∨ cl8.slots.size ≤ ((0 : Int32)).toNatClampNeg) := inb_of Sz8 ⟨by decide, by decide⟩
  obtain ⟨T9, h9, X9, e9, W9, st9⟩ := stB X0 hx hZ e0 Ar8 (j := (0 : Int32)) hin8 (g := (mkF m 31 #[rv b, iv 0, rv tb, iv 0, iv 6, iv 0, iv c0] [(.int (c0.toInt8.toInt32)), (.int 0), (.ref tb)])) rfl rfl (hb hby d22_31)
  have S10 : own_G p e below s0 T9 m 32 #[rv b, iv 0, rv tb, iv 0, iv 6, iv 0, iv c0] [] := fun t kt => S7 t (st9 _ kt)
  have V11 := Arv.set Ar8 q8 Sz8 Nn8 Hh8 Gg8 (fits_nar_byte _) W9 0 rfl (Nat.le_of_ble_eq_true rfl)
  have F12 := V_b.other W9 ne_b_tb
  have N13 := Fr.snoc X9 N0 g_tb
  have K14 : Keep h0 h9 [tb] := (Keep.refl h0 [tb]).wr W9 (Or.inl (List.mem_of_getElem? (i := 0) rfl))
  have S15 : own_G p e below s0 T9 m 7 #[rv b, iv 1, rv tb, iv 1, iv 6, iv 1, iv c0] [(.int 6), (.int 1)] := fun t kt => by
    refine S10 t ?_
    refine w_iinc X9 hx hby d22_32 rfl (l' := #[rv b, iv 1, rv tb, iv 0, iv 6, iv 0, iv c0]) rfl ?_
    refine w_iinc X9 hx hby d22_35 rfl (l' := #[rv b, iv 1, rv tb, iv 1, iv 6, iv 0, iv c0]) rfl ?_
    refine w_iinc X9 hx hby d22_38 rfl (l' := #[rv b, iv 1, rv tb, iv 1, iv 6, iv 1, iv c0]) rfl ?_
    refine w_goto X9 hx hby (pc' := 3) d22_41 (by decide) ?_
    refine w_iload X9 hx hby d22_3 rfl ?_
    refine w_iload X9 hx hby d22_5 rfl ?_
    exact kt
  have hc7_16 : (1 : Int32) < (6 : Int32) := by decide
  have S18 : own_G p e below s0 T9 m 12 #[rv b, iv 1, rv tb, iv 1, iv 6, iv 1, iv c0] [(.int 1), (.ref b)] := fun t kt => by
    refine S15 t ?_
    refine w_icmpNo X9 hx hby d22_7 (tlt hc7_16).2.1 ?_
    refine w_aloadN X9 hx hby d22_10 rfl rfl ?_
    refine w_iloadN X9 hx hby d22_11 rfl ?_
    exact kt
  obtain ⟨cl17, Ar17, -, Sz17, Nn17, Hh17, -⟩ := id F12
  have hin17 : ¬ ((1 : Int32) < 0 ∨ cl17.slots.size ≤ ((1 : Int32)).toNatClampNeg) := inb_of Sz17 ⟨by decide, by decide⟩
  have S19 : own_G p e below s0 T9 m 20 #[rv b, iv 1, rv tb, iv 1, iv 6, iv 1, iv c1] [(.int 255), (.int c1)] := fun t kt => by
    refine S18 t ?_
    refine X9.caload hx (j := (1 : Int32)) (v := (.int c1)) (by rw [e9]; exact Ar17.1) (State.isArrayOf_alike hZ.alike Ar17.2.1) Ar17.2.2 hin17 (Has.at Hh17 hin17 rfl) (g := (mkF m 12 #[rv b, iv 1, rv tb, iv 1, iv 6, iv 1, iv c0] [(.int 1), (.ref b)])) rfl rfl (hb hby d22_12) _ ?_
    refine w_istore X9 hx hby d22_13 (l' := #[rv b, iv 1, rv tb, iv 1, iv 6, iv 1, iv c1]) rfl ?_
    refine w_iload X9 hx hby d22_15 rfl ?_
    refine w_sipush X9 hx hby d22_17 ?_
    exact kt
  have hc20_20 : ¬ ((255 : Int32) < c1) := hl1
  have S21 : own_G p e below s0 T9 m 31 #[rv b, iv 1, rv tb, iv 1, iv 6, iv 1, iv c1] [(.int (c1.toInt8.toInt32)), (.int 1), (.ref tb)] := fun t kt => by
    refine S19 t ?_
    refine w_icmpYes X9 hx hby (pc' := 26) d22_20 (flt hc20_20).2.2.2 (by decide) ?_
    refine w_aloadN X9 hx hby d22_26 rfl rfl ?_
    refine w_iloadN X9 hx hby d22_27 rfl ?_
    refine w_iload X9 hx hby d22_28 rfl ?_
    refine XS.i2b X9.here hx rfl (hb hby d22_30) rfl ?_
    exact kt
  obtain ⟨cl22, Ar22, q22, Sz22, Nn22, Hh22, Gg22⟩ := id V11
  have hin22 : ¬ ((1 : Int32) < 0 ∨ cl22.slots.size ≤ ((1 : Int32)).toNatClampNeg) := inb_of Sz22 ⟨by decide, by decide⟩
  obtain ⟨T23, h23, X23, e23, W23, st23⟩ := stB X9 hx hZ e9 Ar22 (j := (1 : Int32)) hin22 (g := (mkF m 31 #[rv b, iv 1, rv tb, iv 1, iv 6, iv 1, iv c1] [(.int (c1.toInt8.toInt32)), (.int 1), (.ref tb)])) rfl rfl (hb hby d22_31)
  have S24 : own_G p e below s0 T23 m 32 #[rv b, iv 1, rv tb, iv 1, iv 6, iv 1, iv c1] [] := fun t kt => S21 t (st23 _ kt)
  have V25 := Arv.set Ar22 q22 Sz22 Nn22 Hh22 Gg22 (fits_nar_byte _) W23 1 rfl (Nat.le_of_ble_eq_true rfl)
  have F26 := F12.other W23 ne_b_tb
  have N27 := Fr.snoc X23 N13 g_tb
  have K28 : Keep h0 h23 [tb] := K14.wr W23 (Or.inl (List.mem_of_getElem? (i := 0) rfl))
  have S29 : own_G p e below s0 T23 m 7 #[rv b, iv 2, rv tb, iv 2, iv 6, iv 2, iv c1] [(.int 6), (.int 2)] := fun t kt => by
    refine S24 t ?_
    refine w_iinc X23 hx hby d22_32 rfl (l' := #[rv b, iv 2, rv tb, iv 1, iv 6, iv 1, iv c1]) rfl ?_
    refine w_iinc X23 hx hby d22_35 rfl (l' := #[rv b, iv 2, rv tb, iv 2, iv 6, iv 1, iv c1]) rfl ?_
    refine w_iinc X23 hx hby d22_38 rfl (l' := #[rv b, iv 2, rv tb, iv 2, iv 6, iv 2, iv c1]) rfl ?_
    refine w_goto X23 hx hby (pc' := 3) d22_41 (by decide) ?_
    refine w_iload X23 hx hby d22_3 rfl ?_
    refine w_iload X23 hx hby d22_5 rfl ?_
    exact kt
  have hc7_30 : (2 : Int32) < (6 : Int32) := by decide
  have S32 : own_G p e below s0 T23 m 12 #[rv b, iv 2, rv tb, iv 2, iv 6, iv 2, iv c1] [(.int 2), (.ref b)] := fun t kt => by
    refine S29 t ?_
    refine w_icmpNo X23 hx hby d22_7 (tlt hc7_30).2.1 ?_
    refine w_aloadN X23 hx hby d22_10 rfl rfl ?_
    refine w_iloadN X23 hx hby d22_11 rfl ?_
    exact kt
  obtain ⟨cl31, Ar31, -, Sz31, Nn31, Hh31, -⟩ := id F26
  have hin31 : ¬ ((2 : Int32) < 0 ∨ cl31.slots.size ≤ ((2 : Int32)).toNatClampNeg) := inb_of Sz31 ⟨by decide, by decide⟩
  have S33 : own_G p e below s0 T23 m 20 #[rv b, iv 2, rv tb, iv 2, iv 6, iv 2, iv c2] [(.int 255), (.int c2)] := fun t kt => by
    refine S32 t ?_
    refine X23.caload hx (j := (2 : Int32)) (v := (.int c2)) (by rw [e23]; exact Ar31.1) (State.isArrayOf_alike hZ.alike Ar31.2.1) Ar31.2.2 hin31 (Has.at Hh31 hin31 rfl) (g := (mkF m 12 #[rv b, iv 2, rv tb, iv 2, iv 6, iv 2, iv c1] [(.int 2), (.ref b)])) rfl rfl (hb hby d22_12) _ ?_
    refine w_istore X23 hx hby d22_13 (l' := #[rv b, iv 2, rv tb, iv 2, iv 6, iv 2, iv c2]) rfl ?_
    refine w_iload X23 hx hby d22_15 rfl ?_
    refine w_sipush X23 hx hby d22_17 ?_
    exact kt
  have hc20_34 : ¬ ((255 : Int32) < c2) := hl2
  have S35 : own_G p e below s0 T23 m 31 #[rv b, iv 2, rv tb, iv 2, iv 6, iv 2, iv c2] [(.int (c2.toInt8.toInt32)), (.int 2), (.ref tb)] := fun t kt => by
    refine S33 t ?_
    refine w_icmpYes X23 hx hby (pc' := 26) d22_20 (flt hc20_34).2.2.2 (by decide) ?_
    refine w_aloadN X23 hx hby d22_26 rfl rfl ?_
    refine w_iloadN X23 hx hby d22_27 rfl ?_
    refine w_iload X23 hx hby d22_28 rfl ?_
    refine XS.i2b X23.here hx rfl (hb hby d22_30) rfl ?_
    exact kt
  obtain ⟨cl36, Ar36, q36, Sz36, Nn36, Hh36, Gg36⟩ := id V25
  have hin36 : ¬ ((2 : Int32) < 0 ∨ cl36.slots.size ≤ ((2 : Int32)).toNatClampNeg) := inb_of Sz36 ⟨by decide, by decide⟩
  obtain ⟨T37, h37, X37, e37, W37, st37⟩ := stB X23 hx hZ e23 Ar36 (j := (2 : Int32)) hin36 (g := (mkF m 31 #[rv b, iv 2, rv tb, iv 2, iv 6, iv 2, iv c2] [(.int (c2.toInt8.toInt32)), (.int 2), (.ref tb)])) rfl rfl (hb hby d22_31)
  have S38 : own_G p e below s0 T37 m 32 #[rv b, iv 2, rv tb, iv 2, iv 6, iv 2, iv c2] [] := fun t kt => S35 t (st37 _ kt)
  have V39 := Arv.set Ar36 q36 Sz36 Nn36 Hh36 Gg36 (fits_nar_byte _) W37 2 rfl (Nat.le_of_ble_eq_true rfl)
  have F40 := F26.other W37 ne_b_tb
  have N41 := Fr.snoc X37 N27 g_tb
  have K42 : Keep h0 h37 [tb] := K28.wr W37 (Or.inl (List.mem_of_getElem? (i := 0) rfl))
  have S43 : own_G p e below s0 T37 m 7 #[rv b, iv 3, rv tb, iv 3, iv 6, iv 3, iv c2] [(.int 6), (.int 3)] := fun t kt => by
    refine S38 t ?_
    refine w_iinc X37 hx hby d22_32 rfl (l' := #[rv b, iv 3, rv tb, iv 2, iv 6, iv 2, iv c2]) rfl ?_
    refine w_iinc X37 hx hby d22_35 rfl (l' := #[rv b, iv 3, rv tb, iv 3, iv 6, iv 2, iv c2]) rfl ?_
    refine w_iinc X37 hx hby d22_38 rfl (l' := #[rv b, iv 3, rv tb, iv 3, iv 6, iv 3, iv c2]) rfl ?_
    refine w_goto X37 hx hby (pc' := 3) d22_41 (by decide) ?_
    refine w_iload X37 hx hby d22_3 rfl ?_
    refine w_iload X37 hx hby d22_5 rfl ?_
    exact kt
  have hc7_44 : (3 : Int32) < (6 : Int32) := by decide
  have S46 : own_G p e below s0 T37 m 12 #[rv b, iv 3, rv tb, iv 3, iv 6, iv 3, iv c2] [(.int 3), (.ref b)] := fun t kt => by
    refine S43 t ?_
    refine w_icmpNo X37 hx hby d22_7 (tlt hc7_44).2.1 ?_
    refine w_aloadN X37 hx hby d22_10 rfl rfl ?_
    refine w_iloadN X37 hx hby d22_11 rfl ?_
    exact kt
  obtain ⟨cl45, Ar45, -, Sz45, Nn45, Hh45, -⟩ := id F40
  have hin45 : ¬ ((3 : Int32) < 0 ∨ cl45.slots.size ≤ ((3 : Int32)).toNatClampNeg) := inb_of Sz45 ⟨by decide, by decide⟩
  have S47 : own_G p e below s0 T37 m 20 #[rv b, iv 3, rv tb, iv 3, iv 6, iv 3, iv c3] [(.int 255), (.int c3)] := fun t kt => by
    refine S46 t ?_
    refine X37.caload hx (j := (3 : Int32)) (v := (.int c3)) (by rw [e37]; exact Ar45.1) (State.isArrayOf_alike hZ.alike Ar45.2.1) Ar45.2.2 hin45 (Has.at Hh45 hin45 rfl) (g := (mkF m 12 #[rv b, iv 3, rv tb, iv 3, iv 6, iv 3, iv c2] [(.int 3), (.ref b)])) rfl rfl (hb hby d22_12) _ ?_
    refine w_istore X37 hx hby d22_13 (l' := #[rv b, iv 3, rv tb, iv 3, iv 6, iv 3, iv c3]) rfl ?_
    refine w_iload X37 hx hby d22_15 rfl ?_
    refine w_sipush X37 hx hby d22_17 ?_
    exact kt
  have hc20_48 : ¬ ((255 : Int32) < c3) := hl3
  have S49 : own_G p e below s0 T37 m 31 #[rv b, iv 3, rv tb, iv 3, iv 6, iv 3, iv c3] [(.int (c3.toInt8.toInt32)), (.int 3), (.ref tb)] := fun t kt => by
    refine S47 t ?_
    refine w_icmpYes X37 hx hby (pc' := 26) d22_20 (flt hc20_48).2.2.2 (by decide) ?_
    refine w_aloadN X37 hx hby d22_26 rfl rfl ?_
    refine w_iloadN X37 hx hby d22_27 rfl ?_
    refine w_iload X37 hx hby d22_28 rfl ?_
    refine XS.i2b X37.here hx rfl (hb hby d22_30) rfl ?_
    exact kt
  obtain ⟨cl50, Ar50, q50, Sz50, Nn50, Hh50, Gg50⟩ := id V39
  have hin50 : ¬ ((3 : Int32) < 0 ∨ cl50.slots.size ≤ ((3 : Int32)).toNatClampNeg) := inb_of Sz50 ⟨by decide, by decide⟩
  obtain ⟨T51, h51, X51, e51, W51, st51⟩ := stB X37 hx hZ e37 Ar50 (j := (3 : Int32)) hin50 (g := (mkF m 31 #[rv b, iv 3, rv tb, iv 3, iv 6, iv 3, iv c3] [(.int (c3.toInt8.toInt32)), (.int 3), (.ref tb)])) rfl rfl (hb hby d22_31)
  have S52 : own_G p e below s0 T51 m 32 #[rv b, iv 3, rv tb, iv 3, iv 6, iv 3, iv c3] [] := fun t kt => S49 t (st51 _ kt)
  have V53 := Arv.set Ar50 q50 Sz50 Nn50 Hh50 Gg50 (fits_nar_byte _) W51 3 rfl (Nat.le_of_ble_eq_true rfl)
  have F54 := F40.other W51 ne_b_tb
  have N55 := Fr.snoc X51 N41 g_tb
  have K56 : Keep h0 h51 [tb] := K42.wr W51 (Or.inl (List.mem_of_getElem? (i := 0) rfl))
  have S57 : own_G p e below s0 T51 m 7 #[rv b, iv 4, rv tb, iv 4, iv 6, iv 4, iv c3] [(.int 6), (.int 4)] := fun t kt => by
    refine S52 t ?_
    refine w_iinc X51 hx hby d22_32 rfl (l' := #[rv b, iv 4, rv tb, iv 3, iv 6, iv 3, iv c3]) rfl ?_
    refine w_iinc X51 hx hby d22_35 rfl (l' := #[rv b, iv 4, rv tb, iv 4, iv 6, iv 3, iv c3]) rfl ?_
    refine w_iinc X51 hx hby d22_38 rfl (l' := #[rv b, iv 4, rv tb, iv 4, iv 6, iv 4, iv c3]) rfl ?_
    refine w_goto X51 hx hby (pc' := 3) d22_41 (by decide) ?_
    refine w_iload X51 hx hby d22_3 rfl ?_
    refine w_iload X51 hx hby d22_5 rfl ?_
    exact kt
  have hc7_58 : (4 : Int32) < (6 : Int32) := by decide
  have S60 : own_G p e below s0 T51 m 12 #[rv b, iv 4, rv tb, iv 4, iv 6, iv 4, iv c3] [(.int 4), (.ref b)] := fun t kt => by
    refine S57 t ?_
    refine w_icmpNo X51 hx hby d22_7 (tlt hc7_58).2.1 ?_
    refine w_aloadN X51 hx hby d22_10 rfl rfl ?_
    refine w_iloadN X51 hx hby d22_11 rfl ?_
    exact kt
  obtain ⟨cl59, Ar59, -, Sz59, Nn59, Hh59, -⟩ := id F54
  have hin59 : ¬ ((4 : Int32) < 0 ∨ cl59.slots.size ≤ ((4 : Int32)).toNatClampNeg) := inb_of Sz59 ⟨by decide, by decide⟩
  have S61 : own_G p e below s0 T51 m 20 #[rv b, iv 4, rv tb, iv 4, iv 6, iv 4, iv c4] [(.int 255), (.int c4)] := fun t kt => by
    refine S60 t ?_
    refine X51.caload hx (j := (4 : Int32)) (v := (.int c4)) (by rw [e51]; exact Ar59.1) (State.isArrayOf_alike hZ.alike Ar59.2.1) Ar59.2.2 hin59 (Has.at Hh59 hin59 rfl) (g := (mkF m 12 #[rv b, iv 4, rv tb, iv 4, iv 6, iv 4, iv c3] [(.int 4), (.ref b)])) rfl rfl (hb hby d22_12) _ ?_
    refine w_istore X51 hx hby d22_13 (l' := #[rv b, iv 4, rv tb, iv 4, iv 6, iv 4, iv c4]) rfl ?_
    refine w_iload X51 hx hby d22_15 rfl ?_
    refine w_sipush X51 hx hby d22_17 ?_
    exact kt
  have hc20_62 : ¬ ((255 : Int32) < c4) := hl4
  have S63 : own_G p e below s0 T51 m 31 #[rv b, iv 4, rv tb, iv 4, iv 6, iv 4, iv c4] [(.int (c4.toInt8.toInt32)), (.int 4), (.ref tb)] := fun t kt => by
    refine S61 t ?_
    refine w_icmpYes X51 hx hby (pc' := 26) d22_20 (flt hc20_62).2.2.2 (by decide) ?_
    refine w_aloadN X51 hx hby d22_26 rfl rfl ?_
    refine w_iloadN X51 hx hby d22_27 rfl ?_
    refine w_iload X51 hx hby d22_28 rfl ?_
    refine XS.i2b X51.here hx rfl (hb hby d22_30) rfl ?_
    exact kt
  obtain ⟨cl64, Ar64, q64, Sz64, Nn64, Hh64, Gg64⟩ := id V53
  have hin64 : ¬ ((4 : Int32) < 0 ∨ cl64.slots.size ≤ ((4 : Int32)).toNatClampNeg) := inb_of Sz64 ⟨by decide, by decide⟩
  obtain ⟨T65, h65, X65, e65, W65, st65⟩ := stB X51 hx hZ e51 Ar64 (j := (4 : Int32)) hin64 (g := (mkF m 31 #[rv b, iv 4, rv tb, iv 4, iv 6, iv 4, iv c4] [(.int (c4.toInt8.toInt32)), (.int 4), (.ref tb)])) rfl rfl (hb hby d22_31)
  have S66 : own_G p e below s0 T65 m 32 #[rv b, iv 4, rv tb, iv 4, iv 6, iv 4, iv c4] [] := fun t kt => S63 t (st65 _ kt)
  have V67 := Arv.set Ar64 q64 Sz64 Nn64 Hh64 Gg64 (fits_nar_byte _) W65 4 rfl (Nat.le_of_ble_eq_true rfl)
  have F68 := F54.other W65 ne_b_tb
  have N69 := Fr.snoc X65 N55 g_tb
  have K70 : Keep h0 h65 [tb] := K56.wr W65 (Or.inl (List.mem_of_getElem? (i := 0) rfl))
  have S71 : own_G p e below s0 T65 m 7 #[rv b, iv 5, rv tb, iv 5, iv 6, iv 5, iv c4] [(.int 6), (.int 5)] := fun t kt => by
    refine S66 t ?_
    refine w_iinc X65 hx hby d22_32 rfl (l' := #[rv b, iv 5, rv tb, iv 4, iv 6, iv 4, iv c4]) rfl ?_
    refine w_iinc X65 hx hby d22_35 rfl (l' := #[rv b, iv 5, rv tb, iv 5, iv 6, iv 4, iv c4]) rfl ?_
    refine w_iinc X65 hx hby d22_38 rfl (l' := #[rv b, iv 5, rv tb, iv 5, iv 6, iv 5, iv c4]) rfl ?_
    refine w_goto X65 hx hby (pc' := 3) d22_41 (by decide) ?_
    refine w_iload X65 hx hby d22_3 rfl ?_
    refine w_iload X65 hx hby d22_5 rfl ?_
    exact kt
  have hc7_72 : (5 : Int32) < (6 : Int32) := by decide
  have S74 : own_G p e below s0 T65 m 12 #[rv b, iv 5, rv tb, iv 5, iv 6, iv 5, iv c4] [(.int 5), (.ref b)] := fun t kt => by
    refine S71 t ?_
    refine w_icmpNo X65 hx hby d22_7 (tlt hc7_72).2.1 ?_
    refine w_aloadN X65 hx hby d22_10 rfl rfl ?_
    refine w_iloadN X65 hx hby d22_11 rfl ?_
    exact kt
  obtain ⟨cl73, Ar73, -, Sz73, Nn73, Hh73, -⟩ := id F68
  have hin73 : ¬ ((5 : Int32) < 0 ∨ cl73.slots.size ≤ ((5 : Int32)).toNatClampNeg) := inb_of Sz73 ⟨by decide, by decide⟩
  have S75 : own_G p e below s0 T65 m 20 #[rv b, iv 5, rv tb, iv 5, iv 6, iv 5, iv c5] [(.int 255), (.int c5)] := fun t kt => by
    refine S74 t ?_
    refine X65.caload hx (j := (5 : Int32)) (v := (.int c5)) (by rw [e65]; exact Ar73.1) (State.isArrayOf_alike hZ.alike Ar73.2.1) Ar73.2.2 hin73 (Has.at Hh73 hin73 rfl) (g := (mkF m 12 #[rv b, iv 5, rv tb, iv 5, iv 6, iv 5, iv c4] [(.int 5), (.ref b)])) rfl rfl (hb hby d22_12) _ ?_
    refine w_istore X65 hx hby d22_13 (l' := #[rv b, iv 5, rv tb, iv 5, iv 6, iv 5, iv c5]) rfl ?_
    refine w_iload X65 hx hby d22_15 rfl ?_
    refine w_sipush X65 hx hby d22_17 ?_
    exact kt
  have hc20_76 : ¬ ((255 : Int32) < c5) := hl5
  have S77 : own_G p e below s0 T65 m 31 #[rv b, iv 5, rv tb, iv 5, iv 6, iv 5, iv c5] [(.int (c5.toInt8.toInt32)), (.int 5), (.ref tb)] := fun t kt => by
    refine S75 t ?_
    refine w_icmpYes X65 hx hby (pc' := 26) d22_20 (flt hc20_76).2.2.2 (by decide) ?_
    refine w_aloadN X65 hx hby d22_26 rfl rfl ?_
    refine w_iloadN X65 hx hby d22_27 rfl ?_
    refine w_iload X65 hx hby d22_28 rfl ?_
    refine XS.i2b X65.here hx rfl (hb hby d22_30) rfl ?_
    exact kt
  obtain ⟨cl78, Ar78, q78, Sz78, Nn78, Hh78, Gg78⟩ := id V67
  have hin78 : ¬ ((5 : Int32) < 0 ∨ cl78.slots.size ≤ ((5 : Int32)).toNatClampNeg) := inb_of Sz78 ⟨by decide, by decide⟩
  obtain ⟨T79, h79, X79, e79, W79, st79⟩ := stB X65 hx hZ e65 Ar78 (j := (5 : Int32)) hin78 (g := (mkF m 31 #[rv b, iv 5, rv tb, iv 5, iv 6, iv 5, iv c5] [(.int (c5.toInt8.toInt32)), (.int 5), (.ref tb)])) rfl rfl (hb hby d22_31)
  have S80 : own_G p e below s0 T79 m 32 #[rv b, iv 5, rv tb, iv 5, iv 6, iv 5, iv c5] [] := fun t kt => S77 t (st79 _ kt)
  have V81 := Arv.set Ar78 q78 Sz78 Nn78 Hh78 Gg78 (fits_nar_byte _) W79 5 rfl (Nat.le_of_ble_eq_true rfl)
  have F82 := F68.other W79 ne_b_tb
  have N83 := Fr.snoc X79 N69 g_tb
  have K84 : Keep h0 h79 [tb] := K70.wr W79 (Or.inl (List.mem_of_getElem? (i := 0) rfl))
  have S85 : own_G p e below s0 T79 m 7 #[rv b, iv 6, rv tb, iv 6, iv 6, iv 6, iv c5] [(.int 6), (.int 6)] := fun t kt => by
    refine S80 t ?_
    refine w_iinc X79 hx hby d22_32 rfl (l' := #[rv b, iv 6, rv tb, iv 5, iv 6, iv 5, iv c5]) rfl ?_
    refine w_iinc X79 hx hby d22_35 rfl (l' := #[rv b, iv 6, rv tb, iv 6, iv 6, iv 5, iv c5]) rfl ?_
    refine w_iinc X79 hx hby d22_38 rfl (l' := #[rv b, iv 6, rv tb, iv 6, iv 6, iv 6, iv c5]) rfl ?_
    refine w_goto X79 hx hby (pc' := 3) d22_41 (by decide) ?_
    refine w_iload X79 hx hby d22_3 rfl ?_
    refine w_iload X79 hx hby d22_5 rfl ?_
    exact kt
  have hc7_86 : ¬ ((6 : Int32) < (6 : Int32)) := by decide
  have S87 : own_G p e below s0 T79 m 46 #[rv b, iv 6, rv tb, iv 6, iv 6, iv 6, iv c5] [(.int 6)] := fun t kt => by
    refine S85 t ?_
    refine w_icmpYes X79 hx hby (pc' := 44) d22_7 (flt hc7_86).2.1 (by decide) ?_
    refine w_iload X79 hx hby d22_44 rfl ?_
    exact kt
  obtain ⟨fs, hr, hrun, hended, hW, hsame⟩ := X79.leave (v := some (.int 6)) (fun h => by rw [Bd.returns] at h; cases h)
  refine ⟨_, _, S87 _ ?_, hrun, hended, _, _, rfl, ?_, ⟨_, rfl⟩, hW, hsame.mono (by decide) (by decide)⟩
  · show Steps p.tables e below (T79.setTop (mkF m 46 #[rv b, iv 6, rv tb, iv 6, iv 6, iv 6, iv c5] [(.int 6)])) _
    exact own_retI X79 hx Bd.returns (hb hby d22_46) hr
  · show own_Q22k6 Z b tb c0 c1 c2 c3 c4 c5 kb kt h0 n0 _ T79.heap _
    rw [e79]
    exact ⟨rfl, N83, K84, (by have q : Arv Z h79 tb kt .byte (6 : Int32) [(.int (nar .byte (c0.toInt8.toInt32))), (.int (nar .byte (c1.toInt8.toInt32))), (.int (nar .byte (c2.toInt8.toInt32))), (.int (nar .byte (c3.toInt8.toInt32))), (.int (nar .byte (c4.toInt8.toInt32))), (.int (nar .byte (c5.toInt8.toInt32)))] (.int 0) := V81; simp only [own_lolo] at q; exact q)⟩
theorem own_ef23k6 (m : MethodId) (x0 : Addr) (x1 : Int32) : entryFrame m #[(.ref x0), (.int x1)] 2 = mkF m 0 #[rv x0, iv x1] [] := by first | (simp [entryFrame, mkF, argsToLocals, Value.category]; done) | rfl
def own_Q23k6 (Z : State) (tb : Addr) (c0 : Int32) (c1 : Int32) (c2 : Int32) (c3 : Int32) (c4 : Int32) (c5 : Int32) (kt : ClassId) (h0 : Heap) (n0 : Nat) (v : Option Value) (h : Heap) (L : List Loc) : Prop := v = some (.int 0) ∧ L = [] ∧ h = h0
set_option maxHeartbeats 40000000 in
theorem own_rm23k6 (l : Launch) (Z : State) (a0 : Array Value) (hw : ∀ d ∈ tables_1, d.before a0 Z = true) (ws : List Jvm.Cond) (tb : Addr) (c0 : Int32) (c1 : Int32) (c2 : Int32) (c3 : Int32) (c4 : Int32) (c5 : Int32) (kt : ClassId) (h0 : Heap) (n0 : Nat) (Z0 : n0 ≤ h0.size) (V_t : Arv Z h0 tb kt .byte (6 : Int32) [(.int (own_lo c0)), (.int (own_lo c1)), (.int (own_lo c2)), (.int (own_lo c3)), (.int (own_lo c4)), (.int (own_lo c5))] (.int 0)) :
    MetFree l own_y6 (head1 (Jvm.Cond.code own_y6 jdk_52_method_15_code 2 (some .byte) :: ws) ({ frames := 0, cells := 0, slots := 0, locals := 0 } : Room)) (fun argv U => argv = #[(.ref tb), (.int 6)] ∧ Z.Warmed39 U.vm ∧ U.heap = h0) (fun _ _ _ _ _ => True) (fun _ U o U' => ∃ v L, o = .returned v ∧ own_Q23k6 Z tb c0 c1 c2 c3 c4 c5 kt h0 n0 v U'.heap L ∧ FrameEnd U o U' L ({ frames := 0, cells := 0, slots := 0, locals := 0 } : Room).cells ({ frames := 0, cells := 0, slots := 0, locals := 0 } : Room).slots) := by
  refine MetFree.of_bodySF (plainFor_of_name own_pn4) hisR ?_
  intro p e s m args below meth c s₁ Bd hml0 hP hK
  obtain ⟨rfl, hZ, hh⟩ := hP
  have hx := Bd.exec
  have hby := Bd.bytes
  have hml : c.maxLocals = 2 := hml0
  have hown : s.vm.findClass own_s1 = some m.cls := findClass_of_methodNamed Bd.named
  have hnm := (name_of_methodNamed Bd.named Bd.method).1
  have X0 : Stand p l e ({ frames := 0, cells := 0, slots := 0, locals := 0 } : Room) s m #[(.ref tb), (.int 6)] below meth c s₁ [] 0 0 := Stand.of_body Bd
  have e0 : s₁.heap = h0 := by rw [← hh, Bd.state]; rfl
  have N0 := Fr.nil n0
  have pre_ : own_G p e below (s₁.setTop (entryFrame m #[(.ref tb), (.int 6)] 2)) s₁ m 0 #[rv tb, iv 6] [] := fun t k => castTop (own_ef23k6 m tb (6 : Int32)) k
  obtain ⟨s0, hs0⟩ : ∃ z, z = (s₁.setTop (entryFrame m #[(.ref tb), (.int 6)] 2)) := ⟨_, rfl⟩
  have pre0 : own_G p e below s0 s₁ m 0 #[rv tb, iv 6] [] := hs0 ▸ pre_
  rw [← hs0]
  have S1 : own_G p e below s0 s₁ m 2 #[rv tb, iv 6] [(.ref tb), (.int 6)] := fun t kt => by
    refine pre0 t ?_
    refine w_iloadN X0 hx hby d23_0 rfl ?_
    refine w_aloadN X0 hx hby d23_1 rfl rfl ?_
    exact kt
  obtain ⟨cl2, Ar2, -, Sz2, Nn2, -, -⟩ := id V_t
  have S3 : own_G p e below s0 s₁ m 8 #[rv tb, iv 6] [(.int ((0 : Int32).toInt8.toInt32))] := fun t kt => by
    refine S1 t ?_
    refine X0.arraylength hx (by rw [e0]; exact Ar2.1) (State.isArrayOf_alike hZ.alike Ar2.2.1) (g := (mkF m 2 #[rv tb, iv 6] [(.ref tb), (.int 6)])) rfl rfl (hb hby d23_2) _ ?_
    rw [len_of Sz2 Nn2]
    refine w_isub X0 hx hby d23_3 ?_
    refine w_bipush X0 hx hby d23_4 ?_
    refine XS.iushr X0.here hx rfl (hb hby d23_6) rfl ?_
    refine XS.i2b X0.here hx rfl (hb hby d23_7) rfl ?_
    exact kt
  obtain ⟨fs, hr, hrun, hended, hW, hsame⟩ := X0.leave (v := some (.int (nar .byte ((0 : Int32).toInt8.toInt32)))) (fun h => by rw [Bd.returns] at h; cases h)
  refine ⟨_, _, S3 _ ?_, hrun, hended, _, _, rfl, ?_, ⟨_, rfl⟩, hW, hsame.mono (by decide) (by decide)⟩
  · show Steps p.tables e below (s₁.setTop (mkF m 8 #[rv tb, iv 6] [(.int ((0 : Int32).toInt8.toInt32))])) _
    exact retN X0 hx (t := .byte) Bd.returns (by simp) (hb hby d23_8) hr
  · show own_Q23k6 Z tb c0 c1 c2 c3 c4 c5 kt h0 n0 _ s₁.heap _
    rw [e0]
    exact ⟨rfl, rfl, rfl⟩
theorem own_ef21k6 (m : MethodId) (x0 : Addr) (x1 : Int32) (x2 : Int32) : entryFrame m #[(.ref x0), (.int x1), (.int x2)] 6 = mkF m 0 #[rv x0, iv x1, iv x2, .unset, .unset, .unset] [] := by first | (simp [entryFrame, mkF, argsToLocals, Value.category]; done) | rfl
def own_Q21k6 (Z : State) (b : Addr) (c0 : Int32) (c1 : Int32) (c2 : Int32) (c3 : Int32) (c4 : Int32) (c5 : Int32) (kb : ClassId) (h0 : Heap) (n0 : Nat) (v : Option Value) (h : Heap) (L : List Loc) : Prop := ∃ (tb : Addr) (kt : ClassId), v = some (.ref tb) ∧ Fr n0 L ∧ n0 ≤ tb ∧ h0.size ≤ tb ∧ Keep h0 h [] ∧ Arv Z h tb kt .byte (6 : Int32) [(.int (own_lo c0)), (.int (own_lo c1)), (.int (own_lo c2)), (.int (own_lo c3)), (.int (own_lo c4)), (.int (own_lo c5))] (.int 0)
set_option maxHeartbeats 40000000 in
theorem own_rm21k6 (l : Launch) (Z : State) (a0 : Array Value) (hw : ∀ d ∈ tables_1, d.before a0 Z = true) (ws : List Jvm.Cond) (b : Addr) (c0 : Int32) (c1 : Int32) (c2 : Int32) (c3 : Int32) (c4 : Int32) (c5 : Int32) (kb : ClassId) (h0 : Heap) (n0 : Nat) (Z0 : n0 ≤ h0.size) (V_b : Arv Z h0 b kb .char (6 : Int32) [(.int c0), (.int c1), (.int c2), (.int c3), (.int c4), (.int c5)] (.int 0)) (hl0 : ¬ (255 : Int32) < c0) (hl1 : ¬ (255 : Int32) < c1) (hl2 : ¬ (255 : Int32) < c2) (hl3 : ¬ (255 : Int32) < c3) (hl4 : ¬ (255 : Int32) < c4) (hl5 : ¬ (255 : Int32) < c5) :
    MetFree l own_y11 (head1 (Jvm.Cond.code own_y11 jdk_52_method_16_code 6 (some (.array .byte)) :: ws) ({ frames := 1, cells := 1, slots := 6, locals := 18 } : Room)) (fun argv U => argv = #[(.ref b), (.int 0), (.int 6)] ∧ Z.Warmed39 U.vm ∧ U.heap = h0) (fun _ _ _ _ _ => True) (fun _ U o U' => ∃ v L, o = .returned v ∧ own_Q21k6 Z b c0 c1 c2 c3 c4 c5 kb h0 n0 v U'.heap L ∧ FrameEnd U o U' L ({ frames := 1, cells := 1, slots := 6, locals := 18 } : Room).cells ({ frames := 1, cells := 1, slots := 6, locals := 18 } : Room).slots) := by
  refine MetFree.of_bodySF (plainFor_of_name own_pn4) hisR ?_
  intro p e s m args below meth c s₁ Bd hml0 hP hK
  obtain ⟨rfl, hZ, hh⟩ := hP
  have hx := Bd.exec
  have hby := Bd.bytes
  have hml : c.maxLocals = 6 := hml0
  have hown : s.vm.findClass own_s1 = some m.cls := findClass_of_methodNamed Bd.named
  have hnm := (name_of_methodNamed Bd.named Bd.method).1
  have X0 : Stand p l e ({ frames := 1, cells := 1, slots := 6, locals := 18 } : Room) s m #[(.ref b), (.int 0), (.int 6)] below meth c s₁ [] 0 0 := Stand.of_body Bd
  have e0 : s₁.heap = h0 := by rw [← hh, Bd.state]; rfl
  have N0 := Fr.nil n0
  have pre_ : own_G p e below (s₁.setTop (entryFrame m #[(.ref b), (.int 0), (.int 6)] 6)) s₁ m 0 #[rv b, iv 0, iv 6, .unset, .unset, .unset] [] := fun t k => castTop (own_ef21k6 m b (0 : Int32) (6 : Int32)) k
  obtain ⟨s0, hs0⟩ : ∃ z, z = (s₁.setTop (entryFrame m #[(.ref b), (.int 0), (.int 6)] 6)) := ⟨_, rfl⟩
  have pre0 : own_G p e below s0 s₁ m 0 #[rv b, iv 0, iv 6, .unset, .unset, .unset] [] := hs0 ▸ pre_
  rw [← hs0]
  have S1 : own_G p e below s0 s₁ m 1 #[rv b, iv 0, iv 6, .unset, .unset, .unset] [(.int 6)] := fun t kt => by
    refine pre0 t ?_
    refine w_iloadN X0 hx hby d21_0 rfl ?_
    exact kt
  obtain ⟨T2, h2, k2, X2, e2, E2, A2, st2⟩ := newP X0 hx hZ (own_w hw 11 rfl) e0 (g := (mkF m 1 #[rv b, iv 0, iv 6, .unset, .unset, .unset] [(.int 6)])) rfl (hb hby d21_1) rfl (by decide) (cap := 6) (by decide) (by decide) (by decide) (by decide)
  obtain ⟨b2, g2⟩ : ∃ z, z = h0.size := ⟨_, rfl⟩
  rw [← g2] at A2 st2
  have S3 : own_G p e below s0 T2 m 3 #[rv b, iv 0, iv 6, .unset, .unset, .unset] [(.ref b2)] := fun t kt => S1 t (st2 _ kt)
  have g_b2 : n0 ≤ b2 := Nat.le_trans Z0 (Nat.le_of_eq g2.symm)
  have sz_b2 : h0.size ≤ b2 := Nat.le_trans (Keep.refl h0 []).1 (Nat.le_of_eq g2.symm)
  have ne_b_b2 : b ≠ b2 := Nat.ne_of_lt (Nat.lt_of_lt_of_le V_b.lt (Nat.le_of_eq g2.symm))
  have F4 := V_b.ext E2
  have K5 : Keep h0 h2 [] := (Keep.refl h0 []).ext E2
  have V6 : Arv Z h2 b2 k2 .byte (6 : Int32) [(.int 0), (.int 0), (.int 0), (.int 0), (.int 0), (.int 0)] (.int 0) := (Arv.new A2 (by decide)).pad (pad_rep [] (.int 0) 6)
  have S9 : own_G p e below s0 T2 m 9 #[rv b, iv 0, iv 6, rv b2, .unset, .unset] [(.int 6), (.int 0), (.ref b2), (.int 0), (.ref b)] := fun t kt => by
    refine S3 t ?_
    refine w_astoreN X2 hx hby d21_3 rfl (l' := #[rv b, iv 0, iv 6, rv b2, .unset, .unset]) rfl ?_
    refine w_aloadN X2 hx hby d21_4 rfl rfl ?_
    refine w_iloadN X2 hx hby d21_5 rfl ?_
    refine w_aloadN X2 hx hby d21_6 rfl rfl ?_
    refine w_iconst X2 hx hby d21_7 ?_
    refine w_iloadN X2 hx hby d21_8 rfl ?_
    exact kt
  obtain ⟨_, _, ⟨T10, L10, k10, n10⟩, -, X10, ⟨Lc10, hQ10, l10, y10, z10⟩, st10⟩ := Jvm.LawKit.callS X2 hx (y := own_y8) hown (mvT hZ (own_w hw 112 rfl)) (mvT hZ (own_w hw 113 rfl)) (mvT hZ (own_w hw 110 rfl)) (mvT hZ (own_w hw 114 rfl)) (by decide) (backOf (W := 0) (own_rm22k6 l Z a0 hw [] (b) (b2) (c0) (c1) (c2) (c3) (c4) (c5) (kb) (k2) h2 n0 (Nat.le_trans Z0 K5.1) F4 V6 g_b2 ne_b_b2 hl0 hl1 hl2 hl3 hl4 hl5) hZ (own_w hw 114 rfl) (own_w hw 110 rfl) (by decide) (by decide)) (g := (mkF m 9 #[rv b, iv 0, iv 6, rv b2, .unset, .unset] [(.int 6), (.int 0), (.ref b2), (.int 0), (.ref b)])) rfl (by rw [hml]; rfl) (argsL := [(.ref b), (.int 0), (.ref b2), (.int 0), (.int 6)]) (rest := []) (lenOf own_pd10 rfl) rfl (by show 2 * 0 + _ ≤ _; exact Nat.le_of_eq rfl) (hb hby d21_9) (fun _ _ => ⟨rfl, e2, (by decide : 1 + 0 ≤ _), (by decide : 6 + 0 ≤ _)⟩)
  dsimp only [Pt.U, Pt.locs, Pt.cells, Pt.slots] at X10 l10 y10 z10 st10 hQ10
  subst l10 y10 z10
  obtain ⟨rfl, Nq10, Kc7, Vc7⟩ := hQ10
  have N11 := Fr.app N0 Nq10
  have S12 : own_G p e below s0 T10 m 12 #[rv b, iv 0, iv 6, rv b2, .unset, .unset] [(.int 6)] := fun t kt => S9 t (st10 _ kt)
  have F13 := F4.keep Kc7 (ninS ne_b_b2 nin0)
  have K14 : Keep h0 T10.heap [] := K5.trans Kc7 (allS (Or.inr sz_b2) all0)
  have S15 : own_G p e below s0 T10 m 17 #[rv b, iv 0, iv 6, rv b2, iv 6, .unset] [(.int 6), (.int 6)] := fun t kt => by
    refine S12 t ?_
    refine w_istore X10 hx hby d21_12 (l' := #[rv b, iv 0, iv 6, rv b2, iv 6, .unset]) rfl ?_
    refine w_iload X10 hx hby d21_14 rfl ?_
    refine w_iloadN X10 hx hby d21_16 rfl ?_
    exact kt
  have hc17_16 : (6 : Int32) = (6 : Int32) := by decide
  have S17 : own_G p e below s0 T10 m 58 #[rv b, iv 0, iv 6, rv b2, iv 6, .unset] [(.ref b2)] := fun t kt => by
    refine S15 t ?_
    refine w_icmpYes X10 hx hby (pc' := 57) d21_17 (teq hc17_16).1 (by decide) ?_
    refine w_aloadN X10 hx hby d21_57 rfl rfl ?_
    exact kt
  obtain ⟨fs, hr, hrun, hended, hW, hsame⟩ := X10.leave (v := some (.ref b2)) (fun h => by rw [Bd.returns] at h; cases h)
  refine ⟨_, _, S17 _ ?_, hrun, hended, _, _, rfl, ?_, ⟨_, rfl⟩, hW, hsame.mono (by decide) (by decide)⟩
  · show Steps p.tables e below (T10.setTop (mkF m 58 #[rv b, iv 0, iv 6, rv b2, iv 6, .unset] [(.ref b2)])) _
    jvm_step X10.here [X10.here.top, hx, (hb hby d21_58), X10.method', Bd.returns, Value.isRef, FieldType.isReference]
    first | (intro acts; rw [hr _ acts rfl rfl rfl]) | rw [hr _ _ rfl rfl rfl]
    exact Steps.refl _
  · show own_Q21k6 Z b c0 c1 c2 c3 c4 c5 kb h0 n0 _ T10.heap _
    exact ⟨b2, k2, rfl, N11, g_b2, sz_b2, K14, Vc7⟩
theorem own_ef4k6 (m : MethodId) (x0 : Addr) (x1 : Addr) (x2 : Int32) (x3 : Int32) : entryFrame m #[(.ref x0), (.ref x1), (.int x2), (.int x3), .null] 6 = mkF m 0 #[rv x0, rv x1, iv x2, iv x3, .val .null, .unset] [] := by first | (simp [entryFrame, mkF, argsToLocals, Value.category]; done) | rfl
def own_Q4k6 (Z : State) (a : Addr) (b : Addr) (c0 : Int32) (c1 : Int32) (c2 : Int32) (c3 : Int32) (c4 : Int32) (c5 : Int32) (kb : ClassId) (cs : Int32) (uv : Value) (uc : Value) (h0 : Heap) (n0 : Nat) (v : Option Value) (h : Heap) (L : List Loc) : Prop := v = none ∧ Fr n0 L ∧ Keep h0 h [a] ∧ Exa Z h a "java/lang/String" ∧ Fld Z h a "java/lang/String" "coder" "B" (.int 0) ∧ ∃ (tb : Addr) (kt : ClassId), n0 ≤ tb ∧ h0.size ≤ tb ∧ a ≠ tb ∧ Fld Z h a "java/lang/String" "value" "[B" (.ref tb) ∧ Arv Z h tb kt .byte (6 : Int32) [(.int (own_lo c0)), (.int (own_lo c1)), (.int (own_lo c2)), (.int (own_lo c3)), (.int (own_lo c4)), (.int (own_lo c5))] (.int 0)
set_option maxHeartbeats 40000000 in
theorem own_rm4k6 (l : Launch) (Z : State) (a0 : Array Value) (hw : ∀ d ∈ tables_1, d.before a0 Z = true) (ws : List Jvm.Cond) (a : Addr) (b : Addr) (c0 : Int32) (c1 : Int32) (c2 : Int32) (c3 : Int32) (c4 : Int32) (c5 : Int32) (kb : ClassId) (cs : Int32) (uv : Value) (uc : Value) (h0 : Heap) (n0 : Nat) (Z0 : n0 ≤ h0.size) (E_a : Exa Z h0 a "java/lang/String") (g_a : n0 ≤ a) (F_value : Fld Z h0 a "java/lang/String" "value" "[B" uv) (F_coder : Fld Z h0 a "java/lang/String" "coder" "B" uc) (S_CS : Sta Z h0 "java/lang/String" "COMPACT_STRINGS" "Z" (.int cs)) (hcs : ¬ cs = (0 : Int32)) (V_b : Arv Z h0 b kb .char (6 : Int32) [(.int c0), (.int c1), (.int c2), (.int c3), (.int c4), (.int c5)] (.int 0)) (hl0 : ¬ (255 : Int32) < c0) (hl1 : ¬ (255 : Int32) < c1) (hl2 : ¬ (255 : Int32) < c2) (hl3 : ¬ (255 : Int32) < c3) (hl4 : ¬ (255 : Int32) < c4) (hl5 : ¬ (255 : Int32) < c5) :
    MetFree l own_y5 (head1 (Jvm.Cond.code own_y5 jdk_42_method_149_code 6 none :: ws) ({ frames := 2, cells := 1, slots := 6, locals := 35 } : Room)) (fun argv U => argv = #[(.ref a), (.ref b), (.int 0), (.int 6), .null] ∧ Z.Warmed39 U.vm ∧ U.heap = h0) (fun _ _ _ _ _ => True) (fun _ U o U' => ∃ v L, o = .returned v ∧ own_Q4k6 Z a b c0 c1 c2 c3 c4 c5 kb cs uv uc h0 n0 v U'.heap L ∧ FrameEnd U o U' L ({ frames := 2, cells := 1, slots := 6, locals := 35 } : Room).cells ({ frames := 2, cells := 1, slots := 6, locals := 35 } : Room).slots) := by
  refine MetFree.of_bodySF (plainFor_of_name own_pn1) hisR ?_
  intro p e s m args below meth c s₁ Bd hml0 hP hK
  obtain ⟨rfl, hZ, hh⟩ := hP
  have hx := Bd.exec
  have hby := Bd.bytes
  have hml : c.maxLocals = 6 := hml0
  have hown : s.vm.findClass "java/lang/String" = some m.cls := findClass_of_methodNamed Bd.named
  have hnm := (name_of_methodNamed Bd.named Bd.method).1
  have X0 : Stand p l e ({ frames := 2, cells := 1, slots := 6, locals := 35 } : Room) s m #[(.ref a), (.ref b), (.int 0), (.int 6), .null] below meth c s₁ [] 0 0 := Stand.of_body Bd
  have e0 : s₁.heap = h0 := by rw [← hh, Bd.state]; rfl
  have N0 := Fr.nil n0
  have pre_ : own_G p e below (s₁.setTop (entryFrame m #[(.ref a), (.ref b), (.int 0), (.int 6), .null] 6)) s₁ m 0 #[rv a, rv b, iv 0, iv 6, .val .null, .unset] [] := fun t k => castTop (own_ef4k6 m a b (0 : Int32) (6 : Int32)) k
  obtain ⟨s0, hs0⟩ : ∃ z, z = (s₁.setTop (entryFrame m #[(.ref a), (.ref b), (.int 0), (.int 6), .null] 6)) := ⟨_, rfl⟩
  have pre0 : own_G p e below s0 s₁ m 0 #[rv a, rv b, iv 0, iv 6, .val .null, .unset] [] := hs0 ▸ pre_
  rw [← hs0]
  have S1 : own_G p e below s0 s₁ m 1 #[rv a, rv b, iv 0, iv 6, .val .null, .unset] [(.ref a)] := fun t kt => by
    refine pre0 t ?_
    refine w_aloadN X0 hx hby d4_0 rfl rfl ?_
    exact kt
  obtain ⟨T2, X2, e2, st2⟩ := initO X0 hx hZ hown (own_w hw 28 rfl) (own_w hw 29 rfl) (own_w hw 30 rfl) e0 (g := (mkF m 1 #[rv a, rv b, iv 0, iv 6, .val .null, .unset] [(.ref a)])) rfl (by rw [hml]; rfl) rfl (hb hby d4_1) (by decide) (W := 0) (by show 2 * 0 + _ ≤ _; exact Nat.le_of_eq rfl) (by decide)
  have S3 : own_G p e below s0 T2 m 4 #[rv a, rv b, iv 0, iv 6, .val .null, .unset] [] := fun t kt => S1 t (st2 _ kt)
  have S4 : own_G p e below s0 T2 m 5 #[rv a, rv b, iv 0, iv 6, .val .null, .unset] [(.int 6)] := fun t kt => by
    refine S3 t ?_
    refine w_iloadN X2 hx hby d4_4 rfl ?_
    exact kt
  have hc5_5 : ¬ ((6 : Int32) = (0 : Int32)) := by decide
  have S6 : own_G p e below s0 T2 m 27 #[rv a, rv b, iv 0, iv 6, .val .null, .unset] [] := fun t kt => by
    refine S4 t ?_
    refine w_ifYes X2 hx hby (pc' := 27) d4_5 ((if0 _ _).trans (feq hc5_5).2) (by decide) ?_
    exact kt
  obtain ⟨T7, X7, e7, st7⟩ := getS2 X2 hx hZ hown (host := "") (Or.inl (own_w hw 58 rfl)) Via.refl e2 S_CS (g := (mkF m 27 #[rv a, rv b, iv 0, iv 6, .val .null, .unset] [])) rfl (hb hby d4_27)
  have S8 : own_G p e below s0 T7 m 30 #[rv a, rv b, iv 0, iv 6, .val .null, .unset] [(.int cs)] := fun t kt => S6 t (st7 _ kt)
  have hc30_9 : ¬ (cs = (0 : Int32)) := hcs
  have S12 : own_G p e below s0 T7 m 36 #[rv a, rv b, iv 0, iv 6, .val .null, .unset] [(.int 6), (.int 0), (.ref b)] := fun t kt => by
    refine S8 t ?_
    refine w_ifNo X7 hx hby d4_30 ((if0 _ _).trans (feq hc30_9).1) ?_
    refine w_aloadN X7 hx hby d4_33 rfl rfl ?_
    refine w_iloadN X7 hx hby d4_34 rfl ?_
    refine w_iloadN X7 hx hby d4_35 rfl ?_
    exact kt
  obtain ⟨_, _, ⟨T13, L13, k13, n13⟩, -, X13, ⟨Lc13, hQ13, l13, y13, z13⟩, st13⟩ := Jvm.LawKit.callS X7 hx (y := own_y11) hown (mvT hZ (own_w hw 108 rfl)) (mvT hZ (own_w hw 109 rfl)) (mvT hZ (own_w hw 110 rfl)) (mvT hZ (own_w hw 111 rfl)) (by decide) (backOf (W := 0) (own_rm21k6 l Z a0 hw [] (b) (c0) (c1) (c2) (c3) (c4) (c5) (kb) h0 n0 Z0 V_b hl0 hl1 hl2 hl3 hl4 hl5) hZ (own_w hw 111 rfl) (own_w hw 110 rfl) (by decide) (by decide)) (g := (mkF m 36 #[rv a, rv b, iv 0, iv 6, .val .null, .unset] [(.int 6), (.int 0), (.ref b)])) rfl (by rw [hml]; rfl) (argsL := [(.ref b), (.int 0), (.int 6)]) (rest := []) (lenOf own_pd11 rfl) rfl (by show 2 * 0 + _ ≤ _; exact Nat.le_of_eq rfl) (hb hby d4_36) (fun _ _ => ⟨rfl, e7, (by decide : 0 + 1 ≤ _), (by decide : 0 + 6 ≤ _)⟩)
  dsimp only [Pt.U, Pt.locs, Pt.cells, Pt.slots] at X13 l13 y13 z13 st13 hQ13
  subst l13 y13 z13
  obtain ⟨tb10, kt10, rfl, Nq13, gt10, sz10, Kc10, Vc10⟩ := hQ13
  have N14 := Fr.app N0 Nq13
  have S15 : own_G p e below s0 T13 m 39 #[rv a, rv b, iv 0, iv 6, .val .null, .unset] [(.ref tb10)] := fun t kt => S12 t (st13 _ kt)
  have F16 := E_a.keep Kc10
  have F17 := F_value.keep Kc10 nin0
  have F18 := F_coder.keep Kc10 nin0
  have F19 := own_StaK S_CS Kc10 all0
  have F20 := V_b.keep Kc10 nin0
  have K21 : Keep h0 T13.heap [a] := (Keep.refl h0 [a]).trans Kc10 all0
  have ne_a_tb10 : a ≠ tb10 := Nat.ne_of_lt (Nat.lt_of_lt_of_le E_a.lt sz10)
  have ne_b_tb10 : b ≠ tb10 := Nat.ne_of_lt (Nat.lt_of_lt_of_le V_b.lt sz10)
  have S23 : own_G p e below s0 T13 m 45 #[rv a, rv b, iv 0, iv 6, .val .null, rv tb10] [(.int 6), (.ref tb10), (.ref a)] := fun t kt => by
    refine S15 t ?_
    refine w_astore X13 hx hby d4_39 rfl (l' := #[rv a, rv b, iv 0, iv 6, .val .null, rv tb10]) rfl ?_
    refine w_aloadN X13 hx hby d4_41 rfl rfl ?_
    refine w_aload X13 hx hby d4_42 rfl rfl ?_
    refine w_iloadN X13 hx hby d4_44 rfl ?_
    exact kt
  obtain ⟨_, _, ⟨T24, L24, k24, n24⟩, -, X24, ⟨Lc24, hQ24, l24, y24, z24⟩, st24⟩ := Jvm.LawKit.callS X13 hx (y := own_y6) hown (mvT hZ (own_w hw 115 rfl)) (mvT hZ (own_w hw 116 rfl)) (mvT hZ (own_w hw 110 rfl)) (mvT hZ (own_w hw 117 rfl)) (by decide) (backOf (W := 1) (own_rm23k6 l Z a0 hw [] (tb10) (c0) (c1) (c2) (c3) (c4) (c5) (kt10) T13.heap n0 (Nat.le_trans Z0 K21.1) Vc10) hZ (own_w hw 117 rfl) (own_w hw 110 rfl) (by decide) (by decide)) (g := (mkF m 45 #[rv a, rv b, iv 0, iv 6, .val .null, rv tb10] [(.int 6), (.ref tb10), (.ref a)])) rfl (by rw [hml]; rfl) (argsL := [(.ref tb10), (.int 6)]) (rest := [(.ref a)]) (lenOf own_pd12 rfl) rfl (by show 2 * 0 + _ ≤ _; exact Nat.le_of_eq rfl) (hb hby d4_45) (fun _ _ => ⟨rfl, rfl, (by decide : 1 + 0 ≤ _), (by decide : 6 + 0 ≤ _)⟩)
  dsimp only [Pt.U, Pt.locs, Pt.cells, Pt.slots] at X24 l24 y24 z24 st24 hQ24
  subst l24 y24 z24
  obtain ⟨rfl, rfl, eq22⟩ := hQ24
  try rw [List.append_nil] at X24
  have S25 : own_G p e below s0 T24 m 48 #[rv a, rv b, iv 0, iv 6, .val .null, rv tb10] [(.int 0), (.ref a)] := fun t kt => S23 t (st24 _ kt)
  obtain ⟨T26, h26, X26, e26, W26, st26⟩ := putFN X24 hx hZ hown (own_w hw 33 rfl) Via.refl (eq22.trans rfl) F18 F16 (Or.inr ⟨(own_w hw 13 rfl), rfl, hnm⟩) (own_w hw 10 rfl) (ty := .byte) (v' := (.int 0)) (by decide) rfl (by decide) (g := (mkF m 48 #[rv a, rv b, iv 0, iv 6, .val .null, rv tb10] [(.int 0), (.ref a)])) rfl rfl (hb hby d4_48)
  have S27 : own_G p e below s0 T26 m 51 #[rv a, rv b, iv 0, iv 6, .val .null, rv tb10] [] := fun t kt => S25 t (st26 _ kt)
  have F28 := F16.wr W26
  have F29 := F17.other W26 (Or.inr (slot_ne (Or.inr (own_w hw 12 rfl)) (Or.inr (own_w hw 13 rfl)) (by decide) (t := (.array .byte)) (t' := .byte) (by decide) (by decide)))
  have F30 := F18.same W26
  have F31 := F19.wr W26
  have F32 := F20.other W26 (Ne.symm (Exa.neArv F16 F20 (own_w hw 10 rfl)))
  have F33 := Vc10.other W26 (Ne.symm ne_a_tb10)
  have N34 := Fr.snoc X26 N14 g_a
  have K35 : Keep h0 h26 [a] := K21.wr W26 (Or.inl (List.mem_of_getElem? (i := 0) rfl))
  have S36 : own_G p e below s0 T26 m 54 #[rv a, rv b, iv 0, iv 6, .val .null, rv tb10] [(.ref tb10), (.ref a)] := fun t kt => by
    refine S27 t ?_
    refine w_aloadN X26 hx hby d4_51 rfl rfl ?_
    refine w_aload X26 hx hby d4_52 rfl rfl ?_
    exact kt
  obtain ⟨T37, h37, X37, e37, W37, st37⟩ := putF X26 hx hZ hown (host := "") (Or.inl (own_w hw 32 rfl)) Via.refl e26 F29 F28 (Or.inr ⟨(own_w hw 12 rfl), rfl, hnm⟩) (own_w hw 10 rfl) (ty := (.array .byte)) (by decide) rfl rfl (g := (mkF m 54 #[rv a, rv b, iv 0, iv 6, .val .null, rv tb10] [(.ref tb10), (.ref a)])) rfl rfl (hb hby d4_54)
  have S38 : own_G p e below s0 T37 m 57 #[rv a, rv b, iv 0, iv 6, .val .null, rv tb10] [] := fun t kt => S36 t (st37 _ kt)
  have F39 := F28.wr W37
  have F40 := F29.same W37
  have F41 := F30.other W37 (Or.inr (slot_ne (Or.inr (own_w hw 13 rfl)) (Or.inr (own_w hw 12 rfl)) (by decide) (t := .byte) (t' := (.array .byte)) (by decide) (by decide)))
  have F42 := F31.wr W37
  have F43 := F32.other W37 (Ne.symm (Exa.neArv F28 F32 (own_w hw 10 rfl)))
  have F44 := F33.other W37 (Ne.symm ne_a_tb10)
  have N45 := Fr.snoc X37 N34 g_a
  have K46 : Keep h0 h37 [a] := K35.wr W37 (Or.inl (List.mem_of_getElem? (i := 0) rfl))
  obtain ⟨fs, hr, hrun, hended, hW, hsame⟩ := X37.leave (v := none) (fun _ => rfl)
  refine ⟨_, _, S38 _ ?_, hrun, hended, _, _, rfl, ?_, ⟨_, rfl⟩, hW, hsame.mono (by decide) (by decide)⟩
  · show Steps p.tables e below (T37.setTop (mkF m 57 #[rv a, rv b, iv 0, iv 6, .val .null, rv tb10] [])) _
    exact X37.returnOut hx Bd.returns (hb hby d4_57) hr
  · show own_Q4k6 Z a b c0 c1 c2 c3 c4 c5 kb cs uv uc h0 n0 _ T37.heap _
    rw [e37]
    exact ⟨rfl, N45, K46, F39, F41, tb10, kt10, gt10, (Nat.le_trans (Keep.refl h0 [a]).1 sz10), ne_a_tb10, F40, F44⟩
theorem own_ef3k6 (m : MethodId) (x0 : Addr) (x1 : Addr) : entryFrame m #[(.ref x0), (.ref x1)] 2 = mkF m 0 #[rv x0, rv x1] [] := by first | (simp [entryFrame, mkF, argsToLocals, Value.category]; done) | rfl
def own_Q3k6 (Z : State) (a : Addr) (b : Addr) (c0 : Int32) (c1 : Int32) (c2 : Int32) (c3 : Int32) (c4 : Int32) (c5 : Int32) (kb : ClassId) (cs : Int32) (uv : Value) (uc : Value) (h0 : Heap) (n0 : Nat) (v : Option Value) (h : Heap) (L : List Loc) : Prop := v = none ∧ Fr n0 L ∧ Keep h0 h [a] ∧ Exa Z h a "java/lang/String" ∧ Fld Z h a "java/lang/String" "coder" "B" (.int 0) ∧ ∃ (tb : Addr) (kt : ClassId), n0 ≤ tb ∧ h0.size ≤ tb ∧ a ≠ tb ∧ Fld Z h a "java/lang/String" "value" "[B" (.ref tb) ∧ Arv Z h tb kt .byte (6 : Int32) [(.int (own_lo c0)), (.int (own_lo c1)), (.int (own_lo c2)), (.int (own_lo c3)), (.int (own_lo c4)), (.int (own_lo c5))] (.int 0)
set_option maxHeartbeats 40000000 in
theorem own_rm3k6 (l : Launch) (Z : State) (a0 : Array Value) (hw : ∀ d ∈ tables_1, d.before a0 Z = true) (ws : List Jvm.Cond) (a : Addr) (b : Addr) (c0 : Int32) (c1 : Int32) (c2 : Int32) (c3 : Int32) (c4 : Int32) (c5 : Int32) (kb : ClassId) (cs : Int32) (uv : Value) (uc : Value) (h0 : Heap) (n0 : Nat) (Z0 : n0 ≤ h0.size) (E_a : Exa Z h0 a "java/lang/String") (g_a : n0 ≤ a) (F_value : Fld Z h0 a "java/lang/String" "value" "[B" uv) (F_coder : Fld Z h0 a "java/lang/String" "coder" "B" uc) (S_CS : Sta Z h0 "java/lang/String" "COMPACT_STRINGS" "Z" (.int cs)) (hcs : ¬ cs = (0 : Int32)) (V_b : Arv Z h0 b kb .char (6 : Int32) [(.int c0), (.int c1), (.int c2), (.int c3), (.int c4), (.int c5)] (.int 0)) (hl0 : ¬ (255 : Int32) < c0) (hl1 : ¬ (255 : Int32) < c1) (hl2 : ¬ (255 : Int32) < c2) (hl3 : ¬ (255 : Int32) < c3) (hl4 : ¬ (255 : Int32) < c4) (hl5 : ¬ (255 : Int32) < c5) :
    MetFree l own_y18 (head1 (Jvm.Cond.code own_y18 jdk_42_method_3_code 2 none :: ws) ({ frames := 3, cells := 1, slots := 6, locals := 52 } : Room)) (fun argv U => argv = #[(.ref a), (.ref b)] ∧ Z.Warmed39 U.vm ∧ U.heap = h0) (fun _ _ _ _ _ => True) (fun _ U o U' => ∃ v L, o = .returned v ∧ own_Q3k6 Z a b c0 c1 c2 c3 c4 c5 kb cs uv uc h0 n0 v U'.heap L ∧ FrameEnd U o U' L ({ frames := 3, cells := 1, slots := 6, locals := 52 } : Room).cells ({ frames := 3, cells := 1, slots := 6, locals := 52 } : Room).slots) := by
  refine MetFree.of_bodySF (plainFor_of_name own_pn1) hisR ?_
  intro p e s m args below meth c s₁ Bd hml0 hP hK
  obtain ⟨rfl, hZ, hh⟩ := hP
  have hx := Bd.exec
  have hby := Bd.bytes
  have hml : c.maxLocals = 2 := hml0
  have hown : s.vm.findClass "java/lang/String" = some m.cls := findClass_of_methodNamed Bd.named
  have hnm := (name_of_methodNamed Bd.named Bd.method).1
  have X0 : Stand p l e ({ frames := 3, cells := 1, slots := 6, locals := 52 } : Room) s m #[(.ref a), (.ref b)] below meth c s₁ [] 0 0 := Stand.of_body Bd
  have e0 : s₁.heap = h0 := by rw [← hh, Bd.state]; rfl
  have N0 := Fr.nil n0
  have pre_ : own_G p e below (s₁.setTop (entryFrame m #[(.ref a), (.ref b)] 2)) s₁ m 0 #[rv a, rv b] [] := fun t k => castTop (own_ef3k6 m a b) k
  obtain ⟨s0, hs0⟩ : ∃ z, z = (s₁.setTop (entryFrame m #[(.ref a), (.ref b)] 2)) := ⟨_, rfl⟩
  have pre0 : own_G p e below s0 s₁ m 0 #[rv a, rv b] [] := hs0 ▸ pre_
  rw [← hs0]
  have S1 : own_G p e below s0 s₁ m 4 #[rv a, rv b] [(.ref b), (.int 0), (.ref b), (.ref a)] := fun t kt => by
    refine pre0 t ?_
    refine w_aloadN X0 hx hby d3_0 rfl rfl ?_
    refine w_aloadN X0 hx hby d3_1 rfl rfl ?_
    refine w_iconst X0 hx hby d3_2 ?_
    refine w_aloadN X0 hx hby d3_3 rfl rfl ?_
    exact kt
  obtain ⟨cl2, Ar2, -, Sz2, Nn2, -, -⟩ := id V_b
  have S5 : own_G p e below s0 s₁ m 6 #[rv a, rv b] [.null, (.int 6), (.int 0), (.ref b), (.ref a)] := fun t kt => by
    refine S1 t ?_
    refine X0.arraylength hx (by rw [e0]; exact Ar2.1) (State.isArrayOf_alike hZ.alike Ar2.2.1) (g := (mkF m 4 #[rv a, rv b] [(.ref b), (.int 0), (.ref b), (.ref a)])) rfl rfl (hb hby d3_4) _ ?_
    rw [len_of Sz2 Nn2]
    refine XS.aconstNull X0.here hx rfl (hb hby d3_5) ?_
    exact kt
  obtain ⟨_, _, ⟨T6, L6, k6, n6⟩, -, X6, ⟨Lc6, hQ6, l6, y6, z6⟩, st6⟩ := X0.specialBack hx (y := own_y5) rfl hown (mvT hZ (own_w hw 24 rfl)) (mvT hZ (own_w hw 25 rfl)) (mvT hZ (own_w hw 27 rfl)) (by decide) (backOf (W := 0) (own_rm4k6 l Z a0 hw [] (a) (b) (c0) (c1) (c2) (c3) (c4) (c5) (kb) (cs) (uv) (uc) h0 n0 Z0 E_a g_a F_value F_coder S_CS hcs V_b hl0 hl1 hl2 hl3 hl4 hl5) hZ (own_w hw 27 rfl) (own_w hw 9 rfl) (by decide) (by decide)) (g := (mkF m 6 #[rv a, rv b] [.null, (.int 6), (.int 0), (.ref b), (.ref a)])) rfl (by rw [hml]; rfl) (Steps.refl _) (a := a) (argsL := [(.ref b), (.int 0), (.int 6), .null]) (rest := []) (lenOf own_pd13 rfl) rfl (by show 2 * 0 + _ ≤ _; exact Nat.le_of_eq rfl) (hb hby d3_6) (fun _ _ => ⟨rfl, e0, (by decide : 0 + 1 ≤ _), (by decide : 0 + 6 ≤ _)⟩)
  dsimp only [Pt.U, Pt.locs, Pt.cells, Pt.slots] at X6 l6 y6 z6 st6 hQ6
  subst l6 y6 z6
  obtain ⟨rfl, Nq6, Kc3, Ec3, Cc3, tb3, kt3, gt3, sz3, nat3, Fv3, Va3⟩ := hQ6
  have N7 := Fr.app N0 Nq6
  have S8 : own_G p e below s0 T6 m 9 #[rv a, rv b] [] := fun t kt => S5 t (st6.trans kt)
  have F9 := E_a.keep Kc3
  have F10 := own_StaK S_CS Kc3 (allS (own_ExaS E_a) all0)
  have F11 := V_b.keep Kc3 (ninS (Ne.symm (Exa.neArv E_a V_b (own_w hw 10 rfl))) nin0)
  have K12 : Keep h0 T6.heap [a] := (Keep.refl h0 [a]).trans Kc3 (allS (Or.inl (List.mem_of_getElem? (i := 0) rfl)) all0)
  have ne_b_tb3 : b ≠ tb3 := Nat.ne_of_lt (Nat.lt_of_lt_of_le V_b.lt sz3)
  obtain ⟨fs, hr, hrun, hended, hW, hsame⟩ := X6.leave (v := none) (fun _ => rfl)
  refine ⟨_, _, S8 _ ?_, hrun, hended, _, _, rfl, ?_, ⟨_, rfl⟩, hW, hsame.mono (by decide) (by decide)⟩
  · show Steps p.tables e below (T6.setTop (mkF m 9 #[rv a, rv b] [])) _
    exact X6.returnOut hx Bd.returns (hb hby d3_9) hr
  · show own_Q3k6 Z a b c0 c1 c2 c3 c4 c5 kb cs uv uc h0 n0 _ T6.heap _
    exact ⟨rfl, N7, K12, Ec3, Cc3, tb3, kt3, gt3, (Nat.le_trans (Keep.refl h0 [a]).1 sz3), nat3, Fv3, Va3⟩
theorem d4_8 : decode jdk_42_method_149_code 8 = .ok (.aload_n 0, 1) := by decide +kernel
theorem d4_9 : decode jdk_42_method_149_code 9 = .ok (.ldc 7, 2) := by decide +kernel
theorem d4_11 : decode jdk_42_method_149_code 11 = .ok (.getfield 9, 3) := by decide +kernel
theorem d4_14 : decode jdk_42_method_149_code 14 = .ok (.putfield 9, 3) := by decide +kernel
theorem d4_17 : decode jdk_42_method_149_code 17 = .ok (.aload_n 0, 1) := by decide +kernel
theorem d4_18 : decode jdk_42_method_149_code 18 = .ok (.ldc 7, 2) := by decide +kernel
theorem d4_20 : decode jdk_42_method_149_code 20 = .ok (.getfield 15, 3) := by decide +kernel
theorem d4_23 : decode jdk_42_method_149_code 23 = .ok (.putfield 15, 3) := by decide +kernel
theorem d4_26 : decode jdk_42_method_149_code 26 = .ok (.return_, 1) := by decide +kernel
theorem own_ef4k0 (m : MethodId) (x0 : Addr) (x1 : Addr) (x2 : Int32) (x3 : Int32) : entryFrame m #[(.ref x0), (.ref x1), (.int x2), (.int x3), .null] 6 = mkF m 0 #[rv x0, rv x1, iv x2, iv x3, .val .null, .unset] [] := by first | (simp [entryFrame, mkF, argsToLocals, Value.category]; done) | rfl
def own_Q4k0 (Z : State) (a : Addr) (b : Addr) (uv : Value) (uc : Value) (h0 : Heap) (n0 : Nat) (v : Option Value) (h : Heap) (L : List Loc) : Prop := v = none ∧ Fr n0 L ∧ Keep h0 h [a] ∧ Exa Z h a "java/lang/String" ∧ Fld Z h a "java/lang/String" "coder" "B" (.int 0) ∧ ∃ (tb : Addr) (kt : ClassId), a ≠ tb ∧ Fld Z h a "java/lang/String" "value" "[B" (.ref tb) ∧ Arv Z h tb kt .byte (0 : Int32) [] (.int 0)
set_option maxHeartbeats 40000000 in
theorem own_rm4k0 (l : Launch) (Z : State) (a0 : Array Value) (hw : ∀ d ∈ tables_1, d.before a0 Z = true) (ws : List Jvm.Cond) (a : Addr) (b : Addr) (uv : Value) (uc : Value) (h0 : Heap) (n0 : Nat) (Z0 : n0 ≤ h0.size) (E_a : Exa Z h0 a "java/lang/String") (g_a : n0 ≤ a) (F_value : Fld Z h0 a "java/lang/String" "value" "[B" uv) (F_coder : Fld Z h0 a "java/lang/String" "coder" "B" uc) :
    MetFree l own_y5 (head1 (Jvm.Cond.code own_y5 jdk_42_method_149_code 6 none :: ws) ({ frames := 1, cells := 4, slots := 8, locals := 12 } : Room)) (fun argv U => argv = #[(.ref a), (.ref b), (.int 0), (.int 0), .null] ∧ Z.Warmed39 U.vm ∧ U.heap = h0 ∧ CHv Z own_EL U.vm h0 ∧ Safe Z own_EL U.vm h0 a) (fun _ _ _ _ _ => True) (fun _ U o U' => ∃ v L, o = .returned v ∧ own_Q4k0 Z a b uv uc h0 n0 v U'.heap L ∧ CHr Z own_EL U.vm U.heap U'.vm U'.heap ∧ ReturnedEndW U o U' L ({ frames := 1, cells := 4, slots := 8, locals := 12 } : Room).cells ({ frames := 1, cells := 4, slots := 8, locals := 12 } : Room).slots) := by
  refine MetFree.of_bodySF (plainFor_of_name own_pn1) hisR ?_
  intro p e s m args below meth c s₁ Bd hml0 hP hK
  obtain ⟨rfl, hZ, hh, hC0, Sf_a⟩ := hP
  have hx := Bd.exec
  have hby := Bd.bytes
  have hml : c.maxLocals = 6 := hml0
  have hown : s.vm.findClass "java/lang/String" = some m.cls := findClass_of_methodNamed Bd.named
  have hnm := (name_of_methodNamed Bd.named Bd.method).1
  have X0 : Stand p l e ({ frames := 1, cells := 4, slots := 8, locals := 12 } : Room) (s.setVm s.vm) m #[(.ref a), (.ref b), (.int 0), (.int 0), .null] below meth c s₁ [] 0 0 := Stand.of_body Bd
  have e0 : s₁.heap = h0 := by rw [← hh, Bd.state]; rfl
  have N0 := Fr.nil n0
  have pre_ : own_G p e below (s₁.setTop (entryFrame m #[(.ref a), (.ref b), (.int 0), (.int 0), .null] 6)) s₁ m 0 #[rv a, rv b, iv 0, iv 0, .val .null, .unset] [] := fun t k => castTop (own_ef4k0 m a b (0 : Int32) (0 : Int32)) k
  obtain ⟨s0, hs0⟩ : ∃ z, z = (s₁.setTop (entryFrame m #[(.ref a), (.ref b), (.int 0), (.int 0), .null] 6)) := ⟨_, rfl⟩
  have pre0 : own_G p e below s0 s₁ m 0 #[rv a, rv b, iv 0, iv 0, .val .null, .unset] [] := hs0 ▸ pre_
  rw [← hs0]
  have CR0 : CHr Z own_EL s.vm h0 s.vm h0 := CHr.refl hC0
  have hEL := own_EW hw
  have hS0 : s.Since s.vm h0.size := (State.WarmedH.refl s).since _
  have wS := own_wS hw
  have S1 : own_G p e below s0 s₁ m 1 #[rv a, rv b, iv 0, iv 0, .val .null, .unset] [(.ref a)] := fun t kt => by
    refine pre0 t ?_
    refine w_aloadN X0 hx hby d4_0 rfl rfl ?_
    exact kt
  obtain ⟨T2, X2, e2, st2⟩ := initO X0 hx hZ hown (own_w hw 28 rfl) (own_w hw 29 rfl) (own_w hw 30 rfl) e0 (g := (mkF m 1 #[rv a, rv b, iv 0, iv 0, .val .null, .unset] [(.ref a)])) rfl (by rw [hml]; rfl) rfl (hb hby d4_1) (by decide) (W := 0) (by show 2 * 0 + _ ≤ _; exact Nat.le_of_eq rfl) (by decide)
  have S3 : own_G p e below s0 T2 m 4 #[rv a, rv b, iv 0, iv 0, .val .null, .unset] [] := fun t kt => S1 t (st2 _ kt)
  have S4 : own_G p e below s0 T2 m 5 #[rv a, rv b, iv 0, iv 0, .val .null, .unset] [(.int 0)] := fun t kt => by
    refine S3 t ?_
    refine w_iloadN X2 hx hby d4_4 rfl ?_
    exact kt
  have hc5_5 : (0 : Int32) = (0 : Int32) := by decide
  have S6 : own_G p e below s0 T2 m 9 #[rv a, rv b, iv 0, iv 0, .val .null, .unset] [(.ref a)] := fun t kt => by
    refine S4 t ?_
    refine w_ifNo X2 hx hby d4_5 ((if0 _ _).trans (teq hc5_5).2) ?_
    refine w_aloadN X2 hx hby d4_8 rfl rfl ?_
    exact kt
  obtain ⟨lit7, T7, h7, k7, lby7, kb7, X7, e7, E7, hS7, hk7, hZ7, ho7, LE7, LC7, LV7, LA7, -, -, hC7, -, hNe7, st7⟩ := ldcCH (EL := own_EL) (z := (0 : Int32)) (vs := []) X2 hx hZ hown (own_w hw 31 rfl) wS e2 hS0 (Nat.le_refl _) hEL (List.mem_of_getElem? (i := 1) rfl) CR0.1 ⟨by decide, by decide⟩ (by decide) (by decide) (g := (mkF m 9 #[rv a, rv b, iv 0, iv 0, .val .null, .unset] [(.ref a)])) rfl (hb hby d4_9) (n := 0) (by decide) (by decide) (by decide) (by decide)
  have S8 : own_G p e below s0 T7 m 11 #[rv a, rv b, iv 0, iv 0, .val .null, .unset] [(.ref lit7), (.ref a)] := fun t kt => S6 t (st7 _ kt)
  have Sf9 := hC7.safe (E_a.lt) Sf_a
  have CR10 := CR0.trans hC7
  have ne_a_lit7 := (hNe7 _ Sf9).1
  have ne_a_lby7 := (hNe7 _ Sf9).2
  have F11 := E_a.ext E7
  have F12 := F_value.ext E7
  have F13 := F_coder.ext E7
  have K14 : Keep h0 h7 [a] := (Keep.refl h0 [a]).ext E7
  obtain ⟨T15, X15, e15, st15⟩ := getF X7 hx hZ7 ho7 (host := "") (Or.inl (own_w hw 32 rfl)) Via.refl e7 LV7 (g := (mkF m 11 #[rv a, rv b, iv 0, iv 0, .val .null, .unset] [(.ref lit7), (.ref a)])) rfl rfl (hb hby d4_11)
  have S16 : own_G p e below s0 T15 m 14 #[rv a, rv b, iv 0, iv 0, .val .null, .unset] [(.ref lby7), (.ref a)] := fun t kt => S8 t (st15 _ kt)
  obtain ⟨T17, h17, X17, e17, W17, st17⟩ := putF X15 hx hZ7 ho7 (host := "") (Or.inl (own_w hw 32 rfl)) Via.refl e15 F12 F11 (Or.inr ⟨(own_w hw 12 rfl), rfl, hnm⟩) (own_w hw 10 rfl) (ty := (.array .byte)) (by decide) rfl rfl (g := (mkF m 14 #[rv a, rv b, iv 0, iv 0, .val .null, .unset] [(.ref lby7), (.ref a)])) rfl rfl (hb hby d4_14)
  have S18 : own_G p e below s0 T17 m 17 #[rv a, rv b, iv 0, iv 0, .val .null, .unset] [] := fun t kt => S16 t (st17 _ kt)
  have Sf19 := Safe.wr W17 Sf9 CR10.1 Sf9
  have CR20 := CR10.trans (CHr.wr W17 Sf9 CR10.1)
  have F21 := F11.wr W17
  have F22 := F12.same W17
  have F23 := F13.other W17 (Or.inr (slot_ne (Or.inr (own_w hw 13 rfl)) (Or.inr (own_w hw 12 rfl)) (by decide) (t := .byte) (t' := (.array .byte)) (by decide) (by decide)))
  have F24 := LE7.wr W17
  have F25 := LC7.other W17 (Or.inl (Ne.symm ne_a_lit7))
  have F26 := LV7.other W17 (Or.inl (Ne.symm ne_a_lit7))
  have F27 := LA7.other W17 (Ne.symm ne_a_lby7)
  have N28 := Fr.snoc X17 N0 g_a
  have K29 : Keep h0 h17 [a] := K14.wr W17 (Or.inl (List.mem_of_getElem? (i := 0) rfl))
  have S30 : own_G p e below s0 T17 m 18 #[rv a, rv b, iv 0, iv 0, .val .null, .unset] [(.ref a)] := fun t kt => by
    refine S18 t ?_
    refine w_aloadN X17 hx hby d4_17 rfl rfl ?_
    exact kt
  obtain ⟨lit31, T31, h31, k31, lby31, kb31, X31, e31, E31, hS31, hk31, hZ31, ho31, LE31, LC31, LV31, LA31, -, -, hC31, -, hNe31, st31⟩ := ldcCH (EL := own_EL) (z := (0 : Int32)) (vs := []) X17 hx hZ7 ho7 (own_w hw 31 rfl) wS e17 hS7 (Nat.le_trans hk7 (Keep.of_wr W17).1) hEL (List.mem_of_getElem? (i := 1) rfl) CR20.1 ⟨by decide, by decide⟩ (by decide) (by decide) (g := (mkF m 18 #[rv a, rv b, iv 0, iv 0, .val .null, .unset] [(.ref a)])) rfl (hb hby d4_18) (n := 0) (by decide) (by decide) (by decide) (by decide)
  have S32 : own_G p e below s0 T31 m 20 #[rv a, rv b, iv 0, iv 0, .val .null, .unset] [(.ref lit31), (.ref a)] := fun t kt => S30 t (st31 _ kt)
  have Sf33 := hC31.safe (F21.lt) Sf19
  have CR34 := CR20.trans hC31
  have ne_a_lit31 := (hNe31 _ Sf33).1
  have ne_a_lby31 := (hNe31 _ Sf33).2
  have F35 := F21.ext E31
  have F36 := F22.ext E31
  have F37 := F23.ext E31
  have F38 := F24.ext E31
  have F39 := F25.ext E31
  have F40 := F26.ext E31
  have F41 := F27.ext E31
  have K42 : Keep h0 h31 [a] := K29.ext E31
  obtain ⟨T43, X43, e43, st43⟩ := getF X31 hx hZ31 ho31 (host := "") (Or.inl (own_w hw 33 rfl)) Via.refl e31 LC31 (g := (mkF m 20 #[rv a, rv b, iv 0, iv 0, .val .null, .unset] [(.ref lit31), (.ref a)])) rfl rfl (hb hby d4_20)
  have S44 : own_G p e below s0 T43 m 23 #[rv a, rv b, iv 0, iv 0, .val .null, .unset] [(.int 0), (.ref a)] := fun t kt => S32 t (st43 _ kt)
  obtain ⟨T45, h45, X45, e45, W45, st45⟩ := putFN X43 hx hZ31 ho31 (own_w hw 33 rfl) Via.refl e43 F37 F35 (Or.inr ⟨(own_w hw 13 rfl), rfl, hnm⟩) (own_w hw 10 rfl) (ty := .byte) (v' := (.int 0)) (by decide) rfl (by decide) (g := (mkF m 23 #[rv a, rv b, iv 0, iv 0, .val .null, .unset] [(.int 0), (.ref a)])) rfl rfl (hb hby d4_23)
  have S46 : own_G p e below s0 T45 m 26 #[rv a, rv b, iv 0, iv 0, .val .null, .unset] [] := fun t kt => S44 t (st45 _ kt)
  have Sf47 := Safe.wr W45 Sf33 CR34.1 Sf33
  have CR48 := CR34.trans (CHr.wr W45 Sf33 CR34.1)
  have F49 := F35.wr W45
  have F50 := F36.other W45 (Or.inr (slot_ne (Or.inr (own_w hw 12 rfl)) (Or.inr (own_w hw 13 rfl)) (by decide) (t := (.array .byte)) (t' := .byte) (by decide) (by decide)))
  have F51 := F37.same W45
  have F52 := F38.wr W45
  have F53 := F39.other W45 (Or.inl (Ne.symm ne_a_lit7))
  have F54 := F40.other W45 (Or.inl (Ne.symm ne_a_lit7))
  have F55 := F41.other W45 (Ne.symm ne_a_lby7)
  have F56 := LE31.wr W45
  have F57 := LC31.other W45 (Or.inl (Ne.symm ne_a_lit31))
  have F58 := LV31.other W45 (Or.inl (Ne.symm ne_a_lit31))
  have F59 := LA31.other W45 (Ne.symm ne_a_lby31)
  have N60 := Fr.snoc X45 N28 g_a
  have K61 : Keep h0 h45 [a] := K42.wr W45 (Or.inl (List.mem_of_getElem? (i := 0) rfl))
  obtain ⟨fs, hr, hrun, hended, -, hW, hBk, hsame⟩ := X45.leaveW hS31 (by rw [e45]; exact (Nat.le_trans hk31 (Keep.of_wr W45).1)) (v := none) (fun _ => rfl)
  refine ⟨_, _, S46 _ ?_, hrun, hended, _, _, rfl, ?_, (by show CHr Z own_EL s.vm s.heap T45.vm T45.heap; rw [hh, e45]; exact CR48.trans (CHv.at X45 hZ31 hEL CR48.1)), ⟨_, rfl⟩, hW, hBk, hsame.mono (by decide) (by decide)⟩
  · show Steps p.tables e below (T45.setTop (mkF m 26 #[rv a, rv b, iv 0, iv 0, .val .null, .unset] [])) _
    exact X45.returnOut hx Bd.returns (hb hby d4_26) hr
  · show own_Q4k0 Z a b uv uc h0 n0 _ T45.heap _
    rw [e45]
    exact ⟨rfl, N60, K61, F49, F51, lby7, kb7, ne_a_lby7, F50, F55⟩
theorem own_ef3k0 (m : MethodId) (x0 : Addr) (x1 : Addr) : entryFrame m #[(.ref x0), (.ref x1)] 2 = mkF m 0 #[rv x0, rv x1] [] := by first | (simp [entryFrame, mkF, argsToLocals, Value.category]; done) | rfl
def own_Q3k0 (Z : State) (a : Addr) (b : Addr) (kb : ClassId) (uv : Value) (uc : Value) (h0 : Heap) (n0 : Nat) (v : Option Value) (h : Heap) (L : List Loc) : Prop := v = none ∧ Fr n0 L ∧ Keep h0 h [a] ∧ Exa Z h a "java/lang/String" ∧ Fld Z h a "java/lang/String" "coder" "B" (.int 0) ∧ ∃ (tb : Addr) (kt : ClassId), a ≠ tb ∧ Fld Z h a "java/lang/String" "value" "[B" (.ref tb) ∧ Arv Z h tb kt .byte (0 : Int32) [] (.int 0)
set_option maxHeartbeats 40000000 in
theorem own_rm3k0 (l : Launch) (Z : State) (a0 : Array Value) (hw : ∀ d ∈ tables_1, d.before a0 Z = true) (ws : List Jvm.Cond) (a : Addr) (b : Addr) (kb : ClassId) (uv : Value) (uc : Value) (h0 : Heap) (n0 : Nat) (Z0 : n0 ≤ h0.size) (E_a : Exa Z h0 a "java/lang/String") (g_a : n0 ≤ a) (F_value : Fld Z h0 a "java/lang/String" "value" "[B" uv) (F_coder : Fld Z h0 a "java/lang/String" "coder" "B" uc) (V_b : Arv Z h0 b kb .char (0 : Int32) [] (.int 0)) :
    MetFree l own_y18 (head1 (Jvm.Cond.code own_y18 jdk_42_method_3_code 2 none :: ws) ({ frames := 2, cells := 4, slots := 8, locals := 29 } : Room)) (fun argv U => argv = #[(.ref a), (.ref b)] ∧ Z.Warmed39 U.vm ∧ U.heap = h0 ∧ CHv Z own_EL U.vm h0 ∧ Safe Z own_EL U.vm h0 a) (fun _ _ _ _ _ => True) (fun _ U o U' => ∃ v L, o = .returned v ∧ own_Q3k0 Z a b kb uv uc h0 n0 v U'.heap L ∧ CHr Z own_EL U.vm U.heap U'.vm U'.heap ∧ ReturnedEndW U o U' L ({ frames := 2, cells := 4, slots := 8, locals := 29 } : Room).cells ({ frames := 2, cells := 4, slots := 8, locals := 29 } : Room).slots) := by
  refine MetFree.of_bodySF (plainFor_of_name own_pn1) hisR ?_
  intro p e s m args below meth c s₁ Bd hml0 hP hK
  obtain ⟨rfl, hZ, hh, hC0, Sf_a⟩ := hP
  have hx := Bd.exec
  have hby := Bd.bytes
  have hml : c.maxLocals = 2 := hml0
  have hown : s.vm.findClass "java/lang/String" = some m.cls := findClass_of_methodNamed Bd.named
  have hnm := (name_of_methodNamed Bd.named Bd.method).1
  have X0 : Stand p l e ({ frames := 2, cells := 4, slots := 8, locals := 29 } : Room) (s.setVm s.vm) m #[(.ref a), (.ref b)] below meth c s₁ [] 0 0 := Stand.of_body Bd
  have e0 : s₁.heap = h0 := by rw [← hh, Bd.state]; rfl
  have N0 := Fr.nil n0
  have pre_ : own_G p e below (s₁.setTop (entryFrame m #[(.ref a), (.ref b)] 2)) s₁ m 0 #[rv a, rv b] [] := fun t k => castTop (own_ef3k0 m a b) k
  obtain ⟨s0, hs0⟩ : ∃ z, z = (s₁.setTop (entryFrame m #[(.ref a), (.ref b)] 2)) := ⟨_, rfl⟩
  have pre0 : own_G p e below s0 s₁ m 0 #[rv a, rv b] [] := hs0 ▸ pre_
  rw [← hs0]
  have CR0 : CHr Z own_EL s.vm h0 s.vm h0 := CHr.refl hC0
  have hEL := own_EW hw
  have hS0 : s.Since s.vm h0.size := (State.WarmedH.refl s).since _
  have wS := own_wS hw
  have S1 : own_G p e below s0 s₁ m 4 #[rv a, rv b] [(.ref b), (.int 0), (.ref b), (.ref a)] := fun t kt => by
    refine pre0 t ?_
    refine w_aloadN X0 hx hby d3_0 rfl rfl ?_
    refine w_aloadN X0 hx hby d3_1 rfl rfl ?_
    refine w_iconst X0 hx hby d3_2 ?_
    refine w_aloadN X0 hx hby d3_3 rfl rfl ?_
    exact kt
  obtain ⟨cl2, Ar2, -, Sz2, Nn2, -, -⟩ := id V_b
  have S5 : own_G p e below s0 s₁ m 6 #[rv a, rv b] [.null, (.int 0), (.int 0), (.ref b), (.ref a)] := fun t kt => by
    refine S1 t ?_
    refine X0.arraylength hx (by rw [e0]; exact Ar2.1) (State.isArrayOf_alike hZ.alike Ar2.2.1) (g := (mkF m 4 #[rv a, rv b] [(.ref b), (.int 0), (.ref b), (.ref a)])) rfl rfl (hb hby d3_4) _ ?_
    rw [len_of Sz2 Nn2]
    refine XS.aconstNull X0.here hx rfl (hb hby d3_5) ?_
    exact kt
  obtain ⟨_, _, ⟨T6, L6, k6, n6⟩, -, X6_, hSr6, hgr6, ⟨Lc6, hQ6, l6, y6, z6, hCr6⟩, st6⟩ := X0.specialBackS hx (y := own_y5) rfl hown (mvT hZ (own_w hw 24 rfl)) (mvT hZ (own_w hw 25 rfl)) (mvT hZ (own_w hw 27 rfl)) (by decide) (own_backSE (EL := own_EL) (s := s) (vm0 := s.vm) (W := 0) (own_rm4k0 l Z a0 hw [] (a) (b) (uv) (uc) h0 n0 Z0 E_a g_a F_value F_coder) hZ (own_w hw 27 rfl) (own_w hw 9 rfl) (by decide) (by decide) hEL CR0.1 (fun _ A => A.safe (E_a.lt) Sf_a)) (g := (mkF m 6 #[rv a, rv b] [.null, (.int 0), (.int 0), (.ref b), (.ref a)])) rfl (by rw [hml]; rfl) (Steps.refl _) (a := a) (argsL := [(.ref b), (.int 0), (.int 0), .null]) (rest := []) (lenOf own_pd13 rfl) rfl (by show 2 * 0 + _ ≤ _; exact Nat.le_of_eq rfl) (hb hby d3_6) (fun _ _ => ⟨rfl, e0, (by decide : 0 + 4 ≤ _), (by decide : 0 + 8 ≤ _)⟩)
  dsimp only [Pt.U, Pt.locs, Pt.cells, Pt.slots] at X6_ hSr6 hgr6 l6 y6 z6 hCr6 st6 hQ6
  subst l6 y6 z6
  obtain ⟨X6, hS6, hZ6, ho6⟩ := rebS hS0 (by rw [e0]; exact (Nat.le_refl _)) X6_ hSr6 hgr6 hZ hown
  obtain ⟨rfl, Nq6, Kc3, Ec3, Cc3, tb3, kt3, nat3, Fv3, Va3⟩ := hQ6
  have N7 := Fr.app N0 Nq6
  have S8 : own_G p e below s0 T6 m 9 #[rv a, rv b] [] := fun t kt => S5 t (st6.trans kt)
  have Sf9 := hCr6.safe (E_a.lt) Sf_a
  have CR10 := CR0.trans hCr6
  have F11 := E_a.keep Kc3
  have F12 := V_b.keep Kc3 (ninS (Ne.symm (Exa.neArv E_a V_b (own_w hw 10 rfl))) nin0)
  have K13 : Keep h0 T6.heap [a] := (Keep.refl h0 [a]).trans Kc3 (allS (Or.inl (List.mem_of_getElem? (i := 0) rfl)) all0)
  obtain ⟨fs, hr, hrun, hended, -, hW, hBk, hsame⟩ := X6.leaveW hS6 ((Nat.le_refl _)) (v := none) (fun _ => rfl)
  refine ⟨_, _, S8 _ ?_, hrun, hended, _, _, rfl, ?_, (by show CHr Z own_EL s.vm s.heap T6.vm T6.heap; rw [hh]; exact CR10.trans (CHv.at X6 hZ6 hEL CR10.1)), ⟨_, rfl⟩, hW, hBk, hsame.mono (by decide) (by decide)⟩
  · show Steps p.tables e below (T6.setTop (mkF m 9 #[rv a, rv b] [])) _
    exact X6.returnOut hx Bd.returns (hb hby d3_9) hr
  · show own_Q3k0 Z a b kb uv uc h0 n0 _ T6.heap _
    exact ⟨rfl, N7, K13, Ec3, Cc3, tb3, kt3, nat3, Fv3, Va3⟩
theorem d1_0 : decode method_2_code 0 = .ok (.iload_n 0, 1) := by decide +kernel
theorem d1_1 : decode method_2_code 1 = .ok (.sipush 768, 3) := by decide +kernel
theorem d1_4 : decode method_2_code 4 = .ok (.iand, 1) := by decide +kernel
theorem d1_5 : decode method_2_code 5 = .ok (.ifCond .ne 8, 3) := by decide +kernel
theorem d1_8 : decode method_2_code 8 = .ok (.bipush 10, 2) := by decide +kernel
theorem d1_10 : decode method_2_code 10 = .ok (.goto 9, 3) := by decide +kernel
theorem d1_13 : decode method_2_code 13 = .ok (.iload_n 0, 1) := by decide +kernel
theorem d1_14 : decode method_2_code 14 = .ok (.sipush 255, 3) := by decide +kernel
theorem d1_17 : decode method_2_code 17 = .ok (.iand, 1) := by decide +kernel
theorem d1_18 : decode method_2_code 18 = .ok (.i2c, 1) := by decide +kernel
theorem d1_19 : decode method_2_code 19 = .ok (.ireturn, 1) := by decide +kernel
theorem own_ef1 (m : MethodId) (x0 : Int32) : entryFrame m #[(.int x0)] 1 = mkF m 0 #[iv x0] [] := by first | (simp [entryFrame, mkF, argsToLocals, Value.category]; done) | rfl
def own_Q1 (Z : State) (xx : Int32) (h0 : Heap) (n0 : Nat) (v : Option Value) (h : Heap) (L : List Loc) : Prop := v = some (.int (own_ch xx)) ∧ L = [] ∧ h = h0
theorem own_pn5 : plainName "com/example/invariant_to_halt/invarianttohalt/reader/SourceTextLinePinLaw" = true := by first | (simp [plainName, overriddenIn]; done) | decide +kernel
set_option maxHeartbeats 40000000 in
theorem own_rm1 (l : Launch) (Z : State) (a0 : Array Value) (hw : ∀ d ∈ tables_1, d.before a0 Z = true) (ws : List Jvm.Cond) (xx : Int32) (h0 : Heap) (n0 : Nat) (Z0 : n0 ≤ h0.size) :
    MetFree l own_y3 (head1 (Jvm.Cond.code own_y3 method_2_code 1 (some .char) :: ws) ({ frames := 0, cells := 0, slots := 0, locals := 0 } : Room)) (fun argv U => argv = #[(.int xx)] ∧ Z.Warmed39 U.vm ∧ U.heap = h0) (fun _ _ _ _ _ => True) (fun _ U o U' => ∃ v L, o = .returned v ∧ own_Q1 Z xx h0 n0 v U'.heap L ∧ FrameEnd U o U' L ({ frames := 0, cells := 0, slots := 0, locals := 0 } : Room).cells ({ frames := 0, cells := 0, slots := 0, locals := 0 } : Room).slots) := by
  refine MetFree.of_bodySF (plainFor_of_name own_pn5) hisR ?_
  intro p e s m args below meth c s₁ Bd hml0 hP hK
  obtain ⟨rfl, hZ, hh⟩ := hP
  have hx := Bd.exec
  have hby := Bd.bytes
  have hml : c.maxLocals = 1 := hml0
  have hown : s.vm.findClass "com/example/invariant_to_halt/invarianttohalt/reader/SourceTextLinePinLaw" = some m.cls := findClass_of_methodNamed Bd.named
  have hnm := (name_of_methodNamed Bd.named Bd.method).1
  have X0 : Stand p l e ({ frames := 0, cells := 0, slots := 0, locals := 0 } : Room) s m #[(.int xx)] below meth c s₁ [] 0 0 := Stand.of_body Bd
  have e0 : s₁.heap = h0 := by rw [← hh, Bd.state]; rfl
  have N0 := Fr.nil n0
  have pre_ : own_G p e below (s₁.setTop (entryFrame m #[(.int xx)] 1)) s₁ m 0 #[iv xx] [] := fun t k => castTop (own_ef1 m xx) k
  obtain ⟨s0, hs0⟩ : ∃ z, z = (s₁.setTop (entryFrame m #[(.int xx)] 1)) := ⟨_, rfl⟩
  have pre0 : own_G p e below s0 s₁ m 0 #[iv xx] [] := hs0 ▸ pre_
  rw [← hs0]
  have S1 : own_G p e below s0 s₁ m 5 #[iv xx] [(.int (xx &&& (768 : Int32)))] := fun t kt => by
    refine pre0 t ?_
    refine w_iloadN X0 hx hby d1_0 rfl ?_
    refine w_sipush X0 hx hby d1_1 ?_
    refine w_iand X0 hx hby d1_4 ?_
    exact kt
  by_cases hc5 : (xx &&& (768 : Int32)) = (0 : Int32)
  · skip
    have S2 : own_G p e below s0 s₁ m 19 #[iv xx] [(.int 10)] := fun t kt => by
      refine S1 t ?_
      refine w_ifNo X0 hx hby d1_5 ((if0 _ _).trans (teq hc5).2) ?_
      refine w_bipush X0 hx hby d1_8 ?_
      refine w_goto X0 hx hby (pc' := 19) d1_10 (by decide) ?_
      exact kt
    obtain ⟨fs, hr, hrun, hended, hW, hsame⟩ := X0.leave (v := some (.int (nar .char (10 : Int32)))) (fun h => by rw [Bd.returns] at h; cases h)
    refine ⟨_, _, S2 _ ?_, hrun, hended, _, _, rfl, ?_, ⟨_, rfl⟩, hW, hsame.mono (by decide) (by decide)⟩
    · show Steps p.tables e below (s₁.setTop (mkF m 19 #[iv xx] [(.int 10)])) _
      exact retN X0 hx (t := .char) Bd.returns (by simp) (hb hby d1_19) hr
    · show own_Q1 Z xx h0 n0 _ s₁.heap _
      rw [e0]
      exact ⟨by unfold own_ch; rw [if_pos hc5]; rfl, rfl, rfl⟩
  · skip
    have S3 : own_G p e below s0 s₁ m 19 #[iv xx] [(.int ((xx &&& (255 : Int32)).toUInt32.toUInt16.toUInt32.toInt32))] := fun t kt => by
      refine S1 t ?_
      refine w_ifYes X0 hx hby (pc' := 13) d1_5 ((if0 _ _).trans (feq hc5).2) (by decide) ?_
      refine w_iloadN X0 hx hby d1_13 rfl ?_
      refine w_sipush X0 hx hby d1_14 ?_
      refine w_iand X0 hx hby d1_17 ?_
      refine XS.i2c X0.here hx rfl (hb hby d1_18) rfl ?_
      exact kt
    obtain ⟨fs, hr, hrun, hended, hW, hsame⟩ := X0.leave (v := some (.int (nar .char ((xx &&& (255 : Int32)).toUInt32.toUInt16.toUInt32.toInt32)))) (fun h => by rw [Bd.returns] at h; cases h)
    refine ⟨_, _, S3 _ ?_, hrun, hended, _, _, rfl, ?_, ⟨_, rfl⟩, hW, hsame.mono (by decide) (by decide)⟩
    · show Steps p.tables e below (s₁.setTop (mkF m 19 #[iv xx] [(.int ((xx &&& (255 : Int32)).toUInt32.toUInt16.toUInt32.toInt32))])) _
      exact retN X0 hx (t := .char) Bd.returns (by simp) (hb hby d1_19) hr
    · show own_Q1 Z xx h0 n0 _ s₁.heap _
      rw [e0]
      exact ⟨by unfold own_ch; rw [if_neg hc5], rfl, rfl⟩
theorem d17_0 : decode method_3_code 0 = .ok (.iload_n 1, 1) := by decide +kernel
theorem d17_1 : decode method_3_code 1 = .ok (.iload_n 2, 1) := by decide +kernel
theorem d17_2 : decode method_3_code 2 = .ok (.if_icmp .ge 13, 3) := by decide +kernel
theorem d17_5 : decode method_3_code 5 = .ok (.iload_n 0, 1) := by decide +kernel
theorem d17_6 : decode method_3_code 6 = .ok (.bipush 10, 2) := by decide +kernel
theorem d17_8 : decode method_3_code 8 = .ok (.if_icmp .ne 7, 3) := by decide +kernel
theorem d17_11 : decode method_3_code 11 = .ok (.iconst 1, 1) := by decide +kernel
theorem d17_12 : decode method_3_code 12 = .ok (.goto 4, 3) := by decide +kernel
theorem d17_15 : decode method_3_code 15 = .ok (.iconst 0, 1) := by decide +kernel
theorem d17_16 : decode method_3_code 16 = .ok (.ireturn, 1) := by decide +kernel
theorem own_ef17 (m : MethodId) (x0 : Int32) (x1 : Int32) (x2 : Int32) : entryFrame m #[(.int x0), (.int x1), (.int x2)] 3 = mkF m 0 #[iv x0, iv x1, iv x2] [] := by first | (simp [entryFrame, mkF, argsToLocals, Value.category]; done) | rfl
def own_Q17 (Z : State) (c0 : Int32) (ix : Int32) (of_ : Int32) (h0 : Heap) (n0 : Nat) (v : Option Value) (h : Heap) (L : List Loc) : Prop := v = some (.int (own_nl c0 ix of_)) ∧ L = [] ∧ h = h0
set_option maxHeartbeats 40000000 in
theorem own_rm17 (l : Launch) (Z : State) (a0 : Array Value) (hw : ∀ d ∈ tables_1, d.before a0 Z = true) (ws : List Jvm.Cond) (c0 : Int32) (ix : Int32) (of_ : Int32) (h0 : Heap) (n0 : Nat) (Z0 : n0 ≤ h0.size) :
    MetFree l own_y2 (head1 (Jvm.Cond.code own_y2 method_3_code 3 (some .int) :: ws) ({ frames := 0, cells := 0, slots := 0, locals := 0 } : Room)) (fun argv U => argv = #[(.int c0), (.int ix), (.int of_)] ∧ Z.Warmed39 U.vm ∧ U.heap = h0) (fun _ _ _ _ _ => True) (fun _ U o U' => ∃ v L, o = .returned v ∧ own_Q17 Z c0 ix of_ h0 n0 v U'.heap L ∧ FrameEnd U o U' L ({ frames := 0, cells := 0, slots := 0, locals := 0 } : Room).cells ({ frames := 0, cells := 0, slots := 0, locals := 0 } : Room).slots) := by
  refine MetFree.of_bodySF (plainFor_of_name own_pn5) hisR ?_
  intro p e s m args below meth c s₁ Bd hml0 hP hK
  obtain ⟨rfl, hZ, hh⟩ := hP
  have hx := Bd.exec
  have hby := Bd.bytes
  have hml : c.maxLocals = 3 := hml0
  have hown : s.vm.findClass "com/example/invariant_to_halt/invarianttohalt/reader/SourceTextLinePinLaw" = some m.cls := findClass_of_methodNamed Bd.named
  have hnm := (name_of_methodNamed Bd.named Bd.method).1
  have X0 : Stand p l e ({ frames := 0, cells := 0, slots := 0, locals := 0 } : Room) s m #[(.int c0), (.int ix), (.int of_)] below meth c s₁ [] 0 0 := Stand.of_body Bd
  have e0 : s₁.heap = h0 := by rw [← hh, Bd.state]; rfl
  have N0 := Fr.nil n0
  have pre_ : own_G p e below (s₁.setTop (entryFrame m #[(.int c0), (.int ix), (.int of_)] 3)) s₁ m 0 #[iv c0, iv ix, iv of_] [] := fun t k => castTop (own_ef17 m c0 ix of_) k
  obtain ⟨s0, hs0⟩ : ∃ z, z = (s₁.setTop (entryFrame m #[(.int c0), (.int ix), (.int of_)] 3)) := ⟨_, rfl⟩
  have pre0 : own_G p e below s0 s₁ m 0 #[iv c0, iv ix, iv of_] [] := hs0 ▸ pre_
  rw [← hs0]
  have S1 : own_G p e below s0 s₁ m 2 #[iv c0, iv ix, iv of_] [(.int of_), (.int ix)] := fun t kt => by
    refine pre0 t ?_
    refine w_iloadN X0 hx hby d17_0 rfl ?_
    refine w_iloadN X0 hx hby d17_1 rfl ?_
    exact kt
  by_cases hc2 : ix < of_
  · skip
    have S2 : own_G p e below s0 s₁ m 8 #[iv c0, iv ix, iv of_] [(.int 10), (.int c0)] := fun t kt => by
      refine S1 t ?_
      refine w_icmpNo X0 hx hby d17_2 (tlt hc2).2.1 ?_
      refine w_iloadN X0 hx hby d17_5 rfl ?_
      refine w_bipush X0 hx hby d17_6 ?_
      exact kt
    by_cases hc8 : c0 = (10 : Int32)
    · skip
      have S3 : own_G p e below s0 s₁ m 16 #[iv c0, iv ix, iv of_] [(.int 1)] := fun t kt => by
        refine S2 t ?_
        refine w_icmpNo X0 hx hby d17_8 (teq hc8).2 ?_
        refine w_iconst X0 hx hby d17_11 ?_
        refine w_goto X0 hx hby (pc' := 16) d17_12 (by decide) ?_
        exact kt
      obtain ⟨fs, hr, hrun, hended, hW, hsame⟩ := X0.leave (v := some (.int 1)) (fun h => by rw [Bd.returns] at h; cases h)
      refine ⟨_, _, S3 _ ?_, hrun, hended, _, _, rfl, ?_, ⟨_, rfl⟩, hW, hsame.mono (by decide) (by decide)⟩
      · show Steps p.tables e below (s₁.setTop (mkF m 16 #[iv c0, iv ix, iv of_] [(.int 1)])) _
        exact own_retI X0 hx Bd.returns (hb hby d17_16) hr
      · show own_Q17 Z c0 ix of_ h0 n0 _ s₁.heap _
        rw [e0]
        exact ⟨by simp only [own_nl, *, and_true, true_and, and_false, false_and, not_false_eq_true, not_true_eq_false, if_true, if_false], rfl, rfl⟩
    · skip
      have S4 : own_G p e below s0 s₁ m 16 #[iv c0, iv ix, iv of_] [(.int 0)] := fun t kt => by
        refine S2 t ?_
        refine w_icmpYes X0 hx hby (pc' := 15) d17_8 (feq hc8).2 (by decide) ?_
        refine w_iconst X0 hx hby d17_15 ?_
        exact kt
      obtain ⟨fs, hr, hrun, hended, hW, hsame⟩ := X0.leave (v := some (.int 0)) (fun h => by rw [Bd.returns] at h; cases h)
      refine ⟨_, _, S4 _ ?_, hrun, hended, _, _, rfl, ?_, ⟨_, rfl⟩, hW, hsame.mono (by decide) (by decide)⟩
      · show Steps p.tables e below (s₁.setTop (mkF m 16 #[iv c0, iv ix, iv of_] [(.int 0)])) _
        exact own_retI X0 hx Bd.returns (hb hby d17_16) hr
      · show own_Q17 Z c0 ix of_ h0 n0 _ s₁.heap _
        rw [e0]
        exact ⟨by simp only [own_nl, *, and_true, true_and, and_false, false_and, not_false_eq_true, not_true_eq_false, if_true, if_false], rfl, rfl⟩
  · skip
    have S5 : own_G p e below s0 s₁ m 16 #[iv c0, iv ix, iv of_] [(.int 0)] := fun t kt => by
      refine S1 t ?_
      refine w_icmpYes X0 hx hby (pc' := 15) d17_2 (flt hc2).2.1 (by decide) ?_
      refine w_iconst X0 hx hby d17_15 ?_
      exact kt
    obtain ⟨fs, hr, hrun, hended, hW, hsame⟩ := X0.leave (v := some (.int 0)) (fun h => by rw [Bd.returns] at h; cases h)
    refine ⟨_, _, S5 _ ?_, hrun, hended, _, _, rfl, ?_, ⟨_, rfl⟩, hW, hsame.mono (by decide) (by decide)⟩
    · show Steps p.tables e below (s₁.setTop (mkF m 16 #[iv c0, iv ix, iv of_] [(.int 0)])) _
      exact own_retI X0 hx Bd.returns (hb hby d17_16) hr
    · show own_Q17 Z c0 ix of_ h0 n0 _ s₁.heap _
      rw [e0]
      exact ⟨by simp only [own_nl, *, and_true, true_and, and_false, false_and, not_false_eq_true, not_true_eq_false, if_true, if_false], rfl, rfl⟩
theorem own_six {n : Int32} (h : 0 ≤ n.toInt ∧ n.toInt ≤ 6) (h0 : ¬ n = (0 : Int32)) (h1 : ¬ n = (1 : Int32)) (h2 : ¬ n = (2 : Int32)) (h3 : ¬ n = (3 : Int32)) (h4 : ¬ n = (4 : Int32)) (h5 : ¬ n = (5 : Int32)) : n = (6 : Int32) := by
  rcases own_seven h with e | e | e | e | e | e | e
  · exact absurd e h0
  · exact absurd e h1
  · exact absurd e h2
  · exact absurd e h3
  · exact absurd e h4
  · exact absurd e h5
  · exact e
theorem own_pd14 : parseMethodDescriptor "([C)V" = some ⟨[(.array .char)], none⟩ := by decide +kernel
theorem d2_0 : decode method_4_code 0 = .ok (.iload_n 0, 1) := by decide +kernel
theorem d2_1 : decode method_4_code 1 = .ok (.ifCond .ne 14, 3) := by decide +kernel
theorem d2_4 : decode method_4_code 4 = .ok (.new 7, 3) := by decide +kernel
theorem d2_7 : decode method_4_code 7 = .ok (.dup, 1) := by decide +kernel
theorem d2_8 : decode method_4_code 8 = .ok (.iconst 0, 1) := by decide +kernel
theorem d2_9 : decode method_4_code 9 = .ok (.newarray .char, 2) := by decide +kernel
theorem d2_11 : decode method_4_code 11 = .ok (.invokespecial 9, 3) := by decide +kernel
theorem d2_14 : decode method_4_code 14 = .ok (.areturn, 1) := by decide +kernel
theorem d2_15 : decode method_4_code 15 = .ok (.iload_n 0, 1) := by decide +kernel
theorem d2_16 : decode method_4_code 16 = .ok (.iconst 1, 1) := by decide +kernel
theorem d2_17 : decode method_4_code 17 = .ok (.if_icmp .ne 18, 3) := by decide +kernel
theorem d2_20 : decode method_4_code 20 = .ok (.new 7, 3) := by decide +kernel
theorem d2_23 : decode method_4_code 23 = .ok (.dup, 1) := by decide +kernel
theorem d2_24 : decode method_4_code 24 = .ok (.iconst 1, 1) := by decide +kernel
theorem d2_25 : decode method_4_code 25 = .ok (.newarray .char, 2) := by decide +kernel
theorem d2_27 : decode method_4_code 27 = .ok (.dup, 1) := by decide +kernel
theorem d2_28 : decode method_4_code 28 = .ok (.iconst 0, 1) := by decide +kernel
theorem d2_29 : decode method_4_code 29 = .ok (.iload_n 1, 1) := by decide +kernel
theorem d2_30 : decode method_4_code 30 = .ok (.castore, 1) := by decide +kernel
theorem d2_31 : decode method_4_code 31 = .ok (.invokespecial 9, 3) := by decide +kernel
theorem d2_34 : decode method_4_code 34 = .ok (.areturn, 1) := by decide +kernel
theorem d2_35 : decode method_4_code 35 = .ok (.iload_n 0, 1) := by decide +kernel
theorem d2_36 : decode method_4_code 36 = .ok (.iconst 2, 1) := by decide +kernel
theorem d2_37 : decode method_4_code 37 = .ok (.if_icmp .ne 22, 3) := by decide +kernel
theorem d2_40 : decode method_4_code 40 = .ok (.new 7, 3) := by decide +kernel
theorem d2_43 : decode method_4_code 43 = .ok (.dup, 1) := by decide +kernel
theorem d2_44 : decode method_4_code 44 = .ok (.iconst 2, 1) := by decide +kernel
theorem d2_45 : decode method_4_code 45 = .ok (.newarray .char, 2) := by decide +kernel
theorem d2_47 : decode method_4_code 47 = .ok (.dup, 1) := by decide +kernel
theorem d2_48 : decode method_4_code 48 = .ok (.iconst 0, 1) := by decide +kernel
theorem d2_49 : decode method_4_code 49 = .ok (.iload_n 1, 1) := by decide +kernel
theorem d2_50 : decode method_4_code 50 = .ok (.castore, 1) := by decide +kernel
theorem d2_51 : decode method_4_code 51 = .ok (.dup, 1) := by decide +kernel
theorem d2_52 : decode method_4_code 52 = .ok (.iconst 1, 1) := by decide +kernel
theorem d2_53 : decode method_4_code 53 = .ok (.iload_n 2, 1) := by decide +kernel
theorem d2_54 : decode method_4_code 54 = .ok (.castore, 1) := by decide +kernel
theorem d2_55 : decode method_4_code 55 = .ok (.invokespecial 9, 3) := by decide +kernel
theorem d2_58 : decode method_4_code 58 = .ok (.areturn, 1) := by decide +kernel
theorem d2_59 : decode method_4_code 59 = .ok (.iload_n 0, 1) := by decide +kernel
theorem d2_60 : decode method_4_code 60 = .ok (.iconst 3, 1) := by decide +kernel
theorem d2_61 : decode method_4_code 61 = .ok (.if_icmp .ne 26, 3) := by decide +kernel
theorem d2_64 : decode method_4_code 64 = .ok (.new 7, 3) := by decide +kernel
theorem d2_67 : decode method_4_code 67 = .ok (.dup, 1) := by decide +kernel
theorem d2_68 : decode method_4_code 68 = .ok (.iconst 3, 1) := by decide +kernel
theorem d2_69 : decode method_4_code 69 = .ok (.newarray .char, 2) := by decide +kernel
theorem d2_71 : decode method_4_code 71 = .ok (.dup, 1) := by decide +kernel
theorem d2_72 : decode method_4_code 72 = .ok (.iconst 0, 1) := by decide +kernel
theorem d2_73 : decode method_4_code 73 = .ok (.iload_n 1, 1) := by decide +kernel
theorem d2_74 : decode method_4_code 74 = .ok (.castore, 1) := by decide +kernel
theorem d2_75 : decode method_4_code 75 = .ok (.dup, 1) := by decide +kernel
theorem d2_76 : decode method_4_code 76 = .ok (.iconst 1, 1) := by decide +kernel
theorem d2_77 : decode method_4_code 77 = .ok (.iload_n 2, 1) := by decide +kernel
theorem d2_78 : decode method_4_code 78 = .ok (.castore, 1) := by decide +kernel
theorem d2_79 : decode method_4_code 79 = .ok (.dup, 1) := by decide +kernel
theorem d2_80 : decode method_4_code 80 = .ok (.iconst 2, 1) := by decide +kernel
theorem d2_81 : decode method_4_code 81 = .ok (.iload_n 3, 1) := by decide +kernel
theorem d2_82 : decode method_4_code 82 = .ok (.castore, 1) := by decide +kernel
theorem d2_83 : decode method_4_code 83 = .ok (.invokespecial 9, 3) := by decide +kernel
theorem d2_86 : decode method_4_code 86 = .ok (.areturn, 1) := by decide +kernel
theorem d2_87 : decode method_4_code 87 = .ok (.iload_n 0, 1) := by decide +kernel
theorem d2_88 : decode method_4_code 88 = .ok (.iconst 4, 1) := by decide +kernel
theorem d2_89 : decode method_4_code 89 = .ok (.if_icmp .ne 31, 3) := by decide +kernel
theorem d2_92 : decode method_4_code 92 = .ok (.new 7, 3) := by decide +kernel
theorem d2_95 : decode method_4_code 95 = .ok (.dup, 1) := by decide +kernel
theorem d2_96 : decode method_4_code 96 = .ok (.iconst 4, 1) := by decide +kernel
theorem d2_97 : decode method_4_code 97 = .ok (.newarray .char, 2) := by decide +kernel
theorem d2_99 : decode method_4_code 99 = .ok (.dup, 1) := by decide +kernel
theorem d2_100 : decode method_4_code 100 = .ok (.iconst 0, 1) := by decide +kernel
theorem d2_101 : decode method_4_code 101 = .ok (.iload_n 1, 1) := by decide +kernel
theorem d2_102 : decode method_4_code 102 = .ok (.castore, 1) := by decide +kernel
theorem d2_103 : decode method_4_code 103 = .ok (.dup, 1) := by decide +kernel
theorem d2_104 : decode method_4_code 104 = .ok (.iconst 1, 1) := by decide +kernel
theorem d2_105 : decode method_4_code 105 = .ok (.iload_n 2, 1) := by decide +kernel
theorem d2_106 : decode method_4_code 106 = .ok (.castore, 1) := by decide +kernel
theorem d2_107 : decode method_4_code 107 = .ok (.dup, 1) := by decide +kernel
theorem d2_108 : decode method_4_code 108 = .ok (.iconst 2, 1) := by decide +kernel
theorem d2_109 : decode method_4_code 109 = .ok (.iload_n 3, 1) := by decide +kernel
theorem d2_110 : decode method_4_code 110 = .ok (.castore, 1) := by decide +kernel
theorem d2_111 : decode method_4_code 111 = .ok (.dup, 1) := by decide +kernel
theorem d2_112 : decode method_4_code 112 = .ok (.iconst 3, 1) := by decide +kernel
theorem d2_113 : decode method_4_code 113 = .ok (.iload 4, 2) := by decide +kernel
theorem d2_115 : decode method_4_code 115 = .ok (.castore, 1) := by decide +kernel
theorem d2_116 : decode method_4_code 116 = .ok (.invokespecial 9, 3) := by decide +kernel
theorem d2_119 : decode method_4_code 119 = .ok (.areturn, 1) := by decide +kernel
theorem d2_120 : decode method_4_code 120 = .ok (.iload_n 0, 1) := by decide +kernel
theorem d2_121 : decode method_4_code 121 = .ok (.iconst 5, 1) := by decide +kernel
theorem d2_122 : decode method_4_code 122 = .ok (.if_icmp .ne 36, 3) := by decide +kernel
theorem d2_125 : decode method_4_code 125 = .ok (.new 7, 3) := by decide +kernel
theorem d2_128 : decode method_4_code 128 = .ok (.dup, 1) := by decide +kernel
theorem d2_129 : decode method_4_code 129 = .ok (.iconst 5, 1) := by decide +kernel
theorem d2_130 : decode method_4_code 130 = .ok (.newarray .char, 2) := by decide +kernel
theorem d2_132 : decode method_4_code 132 = .ok (.dup, 1) := by decide +kernel
theorem d2_133 : decode method_4_code 133 = .ok (.iconst 0, 1) := by decide +kernel
theorem d2_134 : decode method_4_code 134 = .ok (.iload_n 1, 1) := by decide +kernel
theorem d2_135 : decode method_4_code 135 = .ok (.castore, 1) := by decide +kernel
theorem d2_136 : decode method_4_code 136 = .ok (.dup, 1) := by decide +kernel
theorem d2_137 : decode method_4_code 137 = .ok (.iconst 1, 1) := by decide +kernel
theorem d2_138 : decode method_4_code 138 = .ok (.iload_n 2, 1) := by decide +kernel
theorem d2_139 : decode method_4_code 139 = .ok (.castore, 1) := by decide +kernel
theorem d2_140 : decode method_4_code 140 = .ok (.dup, 1) := by decide +kernel
theorem d2_141 : decode method_4_code 141 = .ok (.iconst 2, 1) := by decide +kernel
theorem d2_142 : decode method_4_code 142 = .ok (.iload_n 3, 1) := by decide +kernel
theorem d2_143 : decode method_4_code 143 = .ok (.castore, 1) := by decide +kernel
theorem d2_144 : decode method_4_code 144 = .ok (.dup, 1) := by decide +kernel
theorem d2_145 : decode method_4_code 145 = .ok (.iconst 3, 1) := by decide +kernel
theorem d2_146 : decode method_4_code 146 = .ok (.iload 4, 2) := by decide +kernel
theorem d2_148 : decode method_4_code 148 = .ok (.castore, 1) := by decide +kernel
theorem d2_149 : decode method_4_code 149 = .ok (.dup, 1) := by decide +kernel
theorem d2_150 : decode method_4_code 150 = .ok (.iconst 4, 1) := by decide +kernel
theorem d2_151 : decode method_4_code 151 = .ok (.iload 5, 2) := by decide +kernel
theorem d2_153 : decode method_4_code 153 = .ok (.castore, 1) := by decide +kernel
theorem d2_154 : decode method_4_code 154 = .ok (.invokespecial 9, 3) := by decide +kernel
theorem d2_157 : decode method_4_code 157 = .ok (.areturn, 1) := by decide +kernel
theorem d2_158 : decode method_4_code 158 = .ok (.new 7, 3) := by decide +kernel
theorem d2_161 : decode method_4_code 161 = .ok (.dup, 1) := by decide +kernel
theorem d2_162 : decode method_4_code 162 = .ok (.bipush 6, 2) := by decide +kernel
theorem d2_164 : decode method_4_code 164 = .ok (.newarray .char, 2) := by decide +kernel
theorem d2_166 : decode method_4_code 166 = .ok (.dup, 1) := by decide +kernel
theorem d2_167 : decode method_4_code 167 = .ok (.iconst 0, 1) := by decide +kernel
theorem d2_168 : decode method_4_code 168 = .ok (.iload_n 1, 1) := by decide +kernel
theorem d2_169 : decode method_4_code 169 = .ok (.castore, 1) := by decide +kernel
theorem d2_170 : decode method_4_code 170 = .ok (.dup, 1) := by decide +kernel
theorem d2_171 : decode method_4_code 171 = .ok (.iconst 1, 1) := by decide +kernel
theorem d2_172 : decode method_4_code 172 = .ok (.iload_n 2, 1) := by decide +kernel
theorem d2_173 : decode method_4_code 173 = .ok (.castore, 1) := by decide +kernel
theorem d2_174 : decode method_4_code 174 = .ok (.dup, 1) := by decide +kernel
theorem d2_175 : decode method_4_code 175 = .ok (.iconst 2, 1) := by decide +kernel
theorem d2_176 : decode method_4_code 176 = .ok (.iload_n 3, 1) := by decide +kernel
theorem d2_177 : decode method_4_code 177 = .ok (.castore, 1) := by decide +kernel
theorem d2_178 : decode method_4_code 178 = .ok (.dup, 1) := by decide +kernel
theorem d2_179 : decode method_4_code 179 = .ok (.iconst 3, 1) := by decide +kernel
theorem d2_180 : decode method_4_code 180 = .ok (.iload 4, 2) := by decide +kernel
theorem d2_182 : decode method_4_code 182 = .ok (.castore, 1) := by decide +kernel
theorem d2_183 : decode method_4_code 183 = .ok (.dup, 1) := by decide +kernel
theorem d2_184 : decode method_4_code 184 = .ok (.iconst 4, 1) := by decide +kernel
theorem d2_185 : decode method_4_code 185 = .ok (.iload 5, 2) := by decide +kernel
theorem d2_187 : decode method_4_code 187 = .ok (.castore, 1) := by decide +kernel
theorem d2_188 : decode method_4_code 188 = .ok (.dup, 1) := by decide +kernel
theorem d2_189 : decode method_4_code 189 = .ok (.iconst 5, 1) := by decide +kernel
theorem d2_190 : decode method_4_code 190 = .ok (.iload 6, 2) := by decide +kernel
theorem d2_192 : decode method_4_code 192 = .ok (.castore, 1) := by decide +kernel
theorem d2_193 : decode method_4_code 193 = .ok (.invokespecial 9, 3) := by decide +kernel
theorem d2_196 : decode method_4_code 196 = .ok (.areturn, 1) := by decide +kernel
theorem own_ef2 (m : MethodId) (x0 : Int32) (x1 : Int32) (x2 : Int32) (x3 : Int32) (x4 : Int32) (x5 : Int32) (x6 : Int32) : entryFrame m #[(.int x0), (.int x1), (.int x2), (.int x3), (.int x4), (.int x5), (.int x6)] 7 = mkF m 0 #[iv x0, iv x1, iv x2, iv x3, iv x4, iv x5, iv x6] [] := by first | (simp [entryFrame, mkF, argsToLocals, Value.category]; done) | rfl
def own_Q2 (Z : State) (n_ : Int32) (c0 : Int32) (c1 : Int32) (c2 : Int32) (c3 : Int32) (c4 : Int32) (c5 : Int32) (cs : Int32) (h0 : Heap) (n0 : Nat) (v : Option Value) (h : Heap) (L : List Loc) : Prop := ∃ (r tb : Addr) (kt : ClassId), v = some (.ref r) ∧ Fr n0 L ∧ Keep h0 h [] ∧ Exa Z h r "java/lang/String" ∧ Fld Z h r "java/lang/String" "coder" "B" (.int 0) ∧ Fld Z h r "java/lang/String" "value" "[B" (.ref tb) ∧ Arv Z h tb kt .byte n_ ((own_bs n_ c0 c1 c2 c3 c4 c5).map Value.int) (.int 0)
set_option maxHeartbeats 40000000 in
theorem own_rm2 (l : Launch) (Z : State) (a0 : Array Value) (hw : ∀ d ∈ tables_1, d.before a0 Z = true) (ws : List Jvm.Cond) (n_ : Int32) (c0 : Int32) (c1 : Int32) (c2 : Int32) (c3 : Int32) (c4 : Int32) (c5 : Int32) (cs : Int32) (h0 : Heap) (n0 : Nat) (Z0 : n0 ≤ h0.size) (S_CS : Sta Z h0 "java/lang/String" "COMPACT_STRINGS" "Z" (.int cs)) (hcs : ¬ cs = (0 : Int32)) (hN : 0 ≤ n_.toInt ∧ n_.toInt ≤ 6) (hb0 : 0 ≤ c0.toInt ∧ c0.toInt ≤ 255) (hb1 : 0 ≤ c1.toInt ∧ c1.toInt ≤ 255) (hb2 : 0 ≤ c2.toInt ∧ c2.toInt ≤ 255) (hb3 : 0 ≤ c3.toInt ∧ c3.toInt ≤ 255) (hb4 : 0 ≤ c4.toInt ∧ c4.toInt ≤ 255) (hb5 : 0 ≤ c5.toInt ∧ c5.toInt ≤ 255) :
    MetFree l own_y1 (head1 (Jvm.Cond.code own_y1 method_4_code 7 (some (.object "java/lang/String")) :: ws) ({ frames := 4, cells := 6, slots := 16, locals := 66 } : Room)) (fun argv U => argv = #[(.int n_), (.int c0), (.int c1), (.int c2), (.int c3), (.int c4), (.int c5)] ∧ Z.Warmed39 U.vm ∧ U.heap = h0 ∧ CHv Z own_EL U.vm h0) (fun _ _ _ _ _ => True) (fun _ U o U' => ∃ v L, o = .returned v ∧ own_Q2 Z n_ c0 c1 c2 c3 c4 c5 cs h0 n0 v U'.heap L ∧ CHr Z own_EL U.vm U.heap U'.vm U'.heap ∧ ReturnedEndW U o U' L ({ frames := 4, cells := 6, slots := 16, locals := 66 } : Room).cells ({ frames := 4, cells := 6, slots := 16, locals := 66 } : Room).slots) := by
  refine MetFree.of_bodySF (plainFor_of_name own_pn5) hisR ?_
  intro p e s m args below meth c s₁ Bd hml0 hP hK
  obtain ⟨rfl, hZ, hh, hC0⟩ := hP
  have hx := Bd.exec
  have hby := Bd.bytes
  have hml : c.maxLocals = 7 := hml0
  have hown : s.vm.findClass "com/example/invariant_to_halt/invarianttohalt/reader/SourceTextLinePinLaw" = some m.cls := findClass_of_methodNamed Bd.named
  have hnm := (name_of_methodNamed Bd.named Bd.method).1
  have X0 : Stand p l e ({ frames := 4, cells := 6, slots := 16, locals := 66 } : Room) (s.setVm s.vm) m #[(.int n_), (.int c0), (.int c1), (.int c2), (.int c3), (.int c4), (.int c5)] below meth c s₁ [] 0 0 := Stand.of_body Bd
  have e0 : s₁.heap = h0 := by rw [← hh, Bd.state]; rfl
  have N0 := Fr.nil n0
  have pre_ : own_G p e below (s₁.setTop (entryFrame m #[(.int n_), (.int c0), (.int c1), (.int c2), (.int c3), (.int c4), (.int c5)] 7)) s₁ m 0 #[iv n_, iv c0, iv c1, iv c2, iv c3, iv c4, iv c5] [] := fun t k => castTop (own_ef2 m n_ c0 c1 c2 c3 c4 c5) k
  obtain ⟨s0, hs0⟩ : ∃ z, z = (s₁.setTop (entryFrame m #[(.int n_), (.int c0), (.int c1), (.int c2), (.int c3), (.int c4), (.int c5)] 7)) := ⟨_, rfl⟩
  have pre0 : own_G p e below s0 s₁ m 0 #[iv n_, iv c0, iv c1, iv c2, iv c3, iv c4, iv c5] [] := hs0 ▸ pre_
  rw [← hs0]
  have CR0 : CHr Z own_EL s.vm h0 s.vm h0 := CHr.refl hC0
  have hEL := own_EW hw
  have hS0 : s.Since s.vm h0.size := (State.WarmedH.refl s).since _
  have wS := own_wS hw
  have S1 : own_G p e below s0 s₁ m 1 #[iv n_, iv c0, iv c1, iv c2, iv c3, iv c4, iv c5] [(.int n_)] := fun t kt => by
    refine pre0 t ?_
    refine w_iloadN X0 hx hby d2_0 rfl ?_
    exact kt
  by_cases hc1 : n_ = (0 : Int32)
  · skip
    have S2 : own_G p e below s0 s₁ m 4 #[iv n_, iv c0, iv c1, iv c2, iv c3, iv c4, iv c5] [] := fun t kt => by
      refine S1 t ?_
      refine w_ifNo X0 hx hby d2_1 ((if0 _ _).trans (teq hc1).2) ?_
      exact kt
    obtain ⟨T3, h3, X3, e3, E3, A3, D3, -, st3⟩ := newO X0 hx hZ hown (own_w hw 19 rfl) (own_w hw 10 rfl) (own_w hw 9 rfl) e0 (g := (mkF m 4 #[iv n_, iv c0, iv c1, iv c2, iv c3, iv c4, iv c5] [])) rfl (hb hby d2_4) (by decide) (by decide)
    obtain ⟨b3, g3⟩ : ∃ z, z = h0.size := ⟨_, rfl⟩
    rw [← g3] at A3 D3 st3
    have S4 : own_G p e below s0 T3 m 7 #[iv n_, iv c0, iv c1, iv c2, iv c3, iv c4, iv c5] [(.ref b3)] := fun t kt => S2 t (st3 _ kt)
    have Sf_b3 : Safe Z own_EL s.vm h3 b3 := Safe.ext E3 CR0.1 (Safe.new (Nat.le_of_eq g3.symm))
    have CR5 := CR0.trans (CHr.ext E3 CR0.1)
    have g_b3 : n0 ≤ b3 := Nat.le_trans Z0 (Nat.le_of_eq g3.symm)
    have sz_b3 : h0.size ≤ b3 := Nat.le_trans (Keep.refl h0 []).1 (Nat.le_of_eq g3.symm)
    have F6 := S_CS.ext E3
    have K7 : Keep h0 h3 [] := (Keep.refl h0 []).ext E3
    have F8 : Fld Z h3 b3 "java/lang/String" "value" "[B" .null := D3 (Or.inr (own_w hw 12 rfl)) (ty := (.array .byte)) (by decide)
    have F9 : Fld Z h3 b3 "java/lang/String" "coder" "B" (.int 0) := D3 (Or.inr (own_w hw 13 rfl)) (ty := .byte) (by decide)
    have S10 : own_G p e below s0 T3 m 9 #[iv n_, iv c0, iv c1, iv c2, iv c3, iv c4, iv c5] [(.int 0), (.ref b3), (.ref b3)] := fun t kt => by
      refine S4 t ?_
      refine w_dup X3 hx hby d2_7 rfl ?_
      refine w_iconst X3 hx hby d2_8 ?_
      exact kt
    obtain ⟨T11, h11, k11, X11, e11, E11, A11, st11⟩ := newP X3 hx hZ (own_w hw 20 rfl) e3 (g := (mkF m 9 #[iv n_, iv c0, iv c1, iv c2, iv c3, iv c4, iv c5] [(.int 0), (.ref b3), (.ref b3)])) rfl (hb hby d2_9) rfl (by decide) (cap := 0) (by decide) (by decide) (by decide) (by decide)
    obtain ⟨b11, g11⟩ : ∃ z, z = h3.size := ⟨_, rfl⟩
    rw [← g11] at A11 st11
    have S12 : own_G p e below s0 T11 m 11 #[iv n_, iv c0, iv c1, iv c2, iv c3, iv c4, iv c5] [(.ref b11), (.ref b3), (.ref b3)] := fun t kt => S10 t (st11 _ kt)
    have Sf_b11 : Safe Z own_EL s.vm h11 b11 := Safe.ext E11 CR5.1 (Safe.new (Nat.le_of_eq g11.symm))
    have Sf13 := Safe.ext E11 CR5.1 Sf_b3
    have CR14 := CR5.trans (CHr.ext E11 CR5.1)
    have g_b11 : n0 ≤ b11 := Nat.le_trans (Nat.le_trans Z0 K7.1) (Nat.le_of_eq g11.symm)
    have sz_b11 : h0.size ≤ b11 := Nat.le_trans K7.1 (Nat.le_of_eq g11.symm)
    have ne_b3_b11 : b3 ≠ b11 := Nat.ne_of_lt (Nat.lt_of_lt_of_le A3.lt (Nat.le_of_eq g11.symm))
    have F15 := F6.ext E11
    have F16 := A3.ext E11
    have F17 := F8.ext E11
    have F18 := F9.ext E11
    have K19 : Keep h0 h11 [] := K7.ext E11
    have V20 : Arv Z h11 b11 k11 .char (0 : Int32) [] (.int 0) := Arv.new A11 (by decide)
    obtain ⟨_, _, ⟨T23, L23, k23, n23⟩, -, X23_, hSr23, hgr23, ⟨Lc23, hQ23, l23, y23, z23, hCr23⟩, st23⟩ := X11.specialBackS hx (y := own_y18) rfl hown (mvT hZ (own_w hw 21 rfl)) (mvT hZ (own_w hw 22 rfl)) (mvT hZ (own_w hw 23 rfl)) (by decide) (own_backSE (EL := own_EL) (s := s) (vm0 := s.vm) (W := 1) (own_rm3k0 l Z a0 hw [] (b3) (b11) (k11) (.null) ((.int 0)) h11 n0 (Nat.le_trans Z0 K19.1) F16 g_b3 F17 F18 V20) hZ (own_w hw 23 rfl) (own_w hw 9 rfl) (by decide) (by decide) hEL CR14.1 (fun _ A => A.safe (F16.lt) Sf13)) (g := (mkF m 11 #[iv n_, iv c0, iv c1, iv c2, iv c3, iv c4, iv c5] [(.ref b11), (.ref b3), (.ref b3)])) rfl (by rw [hml]; rfl) (Steps.refl _) (a := b3) (argsL := [(.ref b11)]) (rest := [(.ref b3)]) (lenOf own_pd14 rfl) rfl (by show 2 * 0 + _ ≤ _; exact Nat.le_of_eq rfl) (hb hby d2_11) (fun _ _ => ⟨rfl, e11, (by decide : 2 + 4 ≤ _), (by decide : 4 + 8 ≤ _)⟩)
    dsimp only [Pt.U, Pt.locs, Pt.cells, Pt.slots] at X23_ hSr23 hgr23 l23 y23 z23 hCr23 st23 hQ23
    subst l23 y23 z23
    obtain ⟨X23, hS23, hZ23, ho23⟩ := rebS hS0 (by rw [e11]; exact (Nat.le_trans (Nat.le_trans (Nat.le_refl _) E3.1) E11.1)) X23_ hSr23 hgr23 hZ hown
    obtain ⟨rfl, Nq23, Kc21, Ec21, Cc21, tb21, kt21, nat21, Fv21, Va21⟩ := hQ23
    have N24 := Fr.app N0 Nq23
    have S25 : own_G p e below s0 T23 m 14 #[iv n_, iv c0, iv c1, iv c2, iv c3, iv c4, iv c5] [(.ref b3)] := fun t kt => S12 t (st23.trans kt)
    have Sf26 := hCr23.safe (F16.lt) Sf13
    have Sf27 := hCr23.safe (V20.lt) Sf_b11
    have CR28 := CR14.trans hCr23
    have F29 := own_StaK F15 Kc21 (allS (own_ExaS F16) all0)
    have F30 := F16.keep Kc21
    have F31 := V20.keep Kc21 (ninS (Ne.symm ne_b3_b11) nin0)
    have K32 : Keep h0 T23.heap [] := K19.trans Kc21 (allS (Or.inr sz_b3) all0)
    obtain ⟨fs, hr, hrun, hended, -, hW, hBk, hsame⟩ := X23.leaveW hS23 ((Nat.le_refl _)) (v := some (.ref b3)) (fun h => by rw [Bd.returns] at h; cases h)
    refine ⟨_, _, S25 _ ?_, hrun, hended, _, _, rfl, ?_, (by show CHr Z own_EL s.vm s.heap T23.vm T23.heap; rw [hh]; exact CR28.trans (CHv.at X23 hZ23 hEL CR28.1)), ⟨_, rfl⟩, hW, hBk, hsame.mono (by decide) (by decide)⟩
    · show Steps p.tables e below (T23.setTop (mkF m 14 #[iv n_, iv c0, iv c1, iv c2, iv c3, iv c4, iv c5] [(.ref b3)])) _
      jvm_step X23.here [X23.here.top, hx, (hb hby d2_14), X23.method', Bd.returns, Value.isRef, FieldType.isReference]
      first | (intro acts; rw [hr _ acts rfl rfl rfl]) | rw [hr _ _ rfl rfl rfl]
      exact Steps.refl _
    · show own_Q2 Z n_ c0 c1 c2 c3 c4 c5 cs h0 n0 _ T23.heap _
      exact ⟨b3, tb21, kt21, rfl, N24, K32, Ec21, Cc21, Fv21, (by have q := Va21; unfold own_bs; rw [if_pos hc1]; have e : n_ = (0 : Int32) := hc1; rw [e]; exact q)⟩
  · skip
    have S33 : own_G p e below s0 s₁ m 17 #[iv n_, iv c0, iv c1, iv c2, iv c3, iv c4, iv c5] [(.int 1), (.int n_)] := fun t kt => by
      refine S1 t ?_
      refine w_ifYes X0 hx hby (pc' := 15) d2_1 ((if0 _ _).trans (feq hc1).2) (by decide) ?_
      refine w_iloadN X0 hx hby d2_15 rfl ?_
      refine w_iconst X0 hx hby d2_16 ?_
      exact kt
    by_cases hc17 : n_ = (1 : Int32)
    · skip
      have S34 : own_G p e below s0 s₁ m 20 #[iv n_, iv c0, iv c1, iv c2, iv c3, iv c4, iv c5] [] := fun t kt => by
        refine S33 t ?_
        refine w_icmpNo X0 hx hby d2_17 (teq hc17).2 ?_
        exact kt
      obtain ⟨T35, h35, X35, e35, E35, A35, D35, -, st35⟩ := newO X0 hx hZ hown (own_w hw 19 rfl) (own_w hw 10 rfl) (own_w hw 9 rfl) e0 (g := (mkF m 20 #[iv n_, iv c0, iv c1, iv c2, iv c3, iv c4, iv c5] [])) rfl (hb hby d2_20) (by decide) (by decide)
      obtain ⟨b35, g35⟩ : ∃ z, z = h0.size := ⟨_, rfl⟩
      rw [← g35] at A35 D35 st35
      have S36 : own_G p e below s0 T35 m 23 #[iv n_, iv c0, iv c1, iv c2, iv c3, iv c4, iv c5] [(.ref b35)] := fun t kt => S34 t (st35 _ kt)
      have Sf_b35 : Safe Z own_EL s.vm h35 b35 := Safe.ext E35 CR0.1 (Safe.new (Nat.le_of_eq g35.symm))
      have CR37 := CR0.trans (CHr.ext E35 CR0.1)
      have g_b35 : n0 ≤ b35 := Nat.le_trans Z0 (Nat.le_of_eq g35.symm)
      have sz_b35 : h0.size ≤ b35 := Nat.le_trans (Keep.refl h0 []).1 (Nat.le_of_eq g35.symm)
      have F38 := S_CS.ext E35
      have K39 : Keep h0 h35 [] := (Keep.refl h0 []).ext E35
      have F40 : Fld Z h35 b35 "java/lang/String" "value" "[B" .null := D35 (Or.inr (own_w hw 12 rfl)) (ty := (.array .byte)) (by decide)
      have F41 : Fld Z h35 b35 "java/lang/String" "coder" "B" (.int 0) := D35 (Or.inr (own_w hw 13 rfl)) (ty := .byte) (by decide)
      have S42 : own_G p e below s0 T35 m 25 #[iv n_, iv c0, iv c1, iv c2, iv c3, iv c4, iv c5] [(.int 1), (.ref b35), (.ref b35)] := fun t kt => by
        refine S36 t ?_
        refine w_dup X35 hx hby d2_23 rfl ?_
        refine w_iconst X35 hx hby d2_24 ?_
        exact kt
      obtain ⟨T43, h43, k43, X43, e43, E43, A43, st43⟩ := newP X35 hx hZ (own_w hw 20 rfl) e35 (g := (mkF m 25 #[iv n_, iv c0, iv c1, iv c2, iv c3, iv c4, iv c5] [(.int 1), (.ref b35), (.ref b35)])) rfl (hb hby d2_25) rfl (by decide) (cap := 1) (by decide) (by decide) (by decide) (by decide)
      obtain ⟨b43, g43⟩ : ∃ z, z = h35.size := ⟨_, rfl⟩
      rw [← g43] at A43 st43
      have S44 : own_G p e below s0 T43 m 27 #[iv n_, iv c0, iv c1, iv c2, iv c3, iv c4, iv c5] [(.ref b43), (.ref b35), (.ref b35)] := fun t kt => S42 t (st43 _ kt)
      have Sf_b43 : Safe Z own_EL s.vm h43 b43 := Safe.ext E43 CR37.1 (Safe.new (Nat.le_of_eq g43.symm))
      have Sf45 := Safe.ext E43 CR37.1 Sf_b35
      have CR46 := CR37.trans (CHr.ext E43 CR37.1)
      have g_b43 : n0 ≤ b43 := Nat.le_trans (Nat.le_trans Z0 K39.1) (Nat.le_of_eq g43.symm)
      have sz_b43 : h0.size ≤ b43 := Nat.le_trans K39.1 (Nat.le_of_eq g43.symm)
      have ne_b35_b43 : b35 ≠ b43 := Nat.ne_of_lt (Nat.lt_of_lt_of_le A35.lt (Nat.le_of_eq g43.symm))
      have F47 := F38.ext E43
      have F48 := A35.ext E43
      have F49 := F40.ext E43
      have F50 := F41.ext E43
      have K51 : Keep h0 h43 [] := K39.ext E43
      have V52 : Arv Z h43 b43 k43 .char (1 : Int32) [(.int 0)] (.int 0) := (Arv.new A43 (by decide)).pad (pad_rep [] (.int 0) 1)
      have S53 : own_G p e below s0 T43 m 30 #[iv n_, iv c0, iv c1, iv c2, iv c3, iv c4, iv c5] [(.int c0), (.int 0), (.ref b43), (.ref b43), (.ref b35), (.ref b35)] := fun t kt => by
        refine S44 t ?_
        refine w_dup X43 hx hby d2_27 rfl ?_
        refine w_iconst X43 hx hby d2_28 ?_
        refine w_iloadN X43 hx hby d2_29 rfl ?_
        exact kt
      obtain ⟨cl54, Ar54, q54, Sz54, Nn54, Hh54, Gg54⟩ := id V52
      have hin54 : ¬ ((0 : Int32) < 0 ∨ cl54.slots.size ≤ ((0 : Int32)).toNatClampNeg) := inb_of Sz54 ⟨by decide, by decide⟩
      obtain ⟨T55, h55, X55, e55, W55, st55⟩ := stC X43 hx hZ e43 Ar54 (j := (0 : Int32)) hin54 (g := (mkF m 30 #[iv n_, iv c0, iv c1, iv c2, iv c3, iv c4, iv c5] [(.int c0), (.int 0), (.ref b43), (.ref b43), (.ref b35), (.ref b35)])) rfl rfl (hb hby d2_30)
      have S56 : own_G p e below s0 T55 m 31 #[iv n_, iv c0, iv c1, iv c2, iv c3, iv c4, iv c5] [(.ref b43), (.ref b35), (.ref b35)] := fun t kt => S53 t (st55 _ kt)
      have V57 := Arv.set Ar54 q54 Sz54 Nn54 Hh54 Gg54 (fits_nar_char _) W55 0 rfl (Nat.le_of_ble_eq_true rfl)
      have Sf58 := Safe.wr W55 Sf_b43 CR46.1 Sf45
      have Sf59 := Safe.wr W55 Sf_b43 CR46.1 Sf_b43
      have CR60 := CR46.trans (CHr.wr W55 Sf_b43 CR46.1)
      have F61 := F47.wr W55
      have F62 := F48.wr W55
      have F63 := F49.other W55 (Or.inl ne_b35_b43)
      have F64 := F50.other W55 (Or.inl ne_b35_b43)
      have N65 := Fr.snoc X55 N0 g_b43
      have K66 : Keep h0 h55 [] := K51.wr W55 (Or.inr sz_b43)
      obtain ⟨_, _, ⟨T69, L69, k69, n69⟩, -, X69, ⟨Lc69, hQ69, l69, y69, z69⟩, st69⟩ := X55.specialBack hx (y := own_y18) rfl hown (mvT hZ (own_w hw 21 rfl)) (mvT hZ (own_w hw 22 rfl)) (mvT hZ (own_w hw 23 rfl)) (by decide) (backOf (W := 1) (own_rm3k1 l Z a0 hw [] (b35) (b43) ((nar .char c0)) (k43) (cs) (.null) ((.int 0)) h55 n0 (Nat.le_trans Z0 K66.1) F62 g_b35 F63 F64 F61 hcs V57 (own_lat hb0)) hZ (own_w hw 23 rfl) (own_w hw 9 rfl) (by decide) (by decide)) (g := (mkF m 31 #[iv n_, iv c0, iv c1, iv c2, iv c3, iv c4, iv c5] [(.ref b43), (.ref b35), (.ref b35)])) rfl (by rw [hml]; rfl) (Steps.refl _) (a := b35) (argsL := [(.ref b43)]) (rest := [(.ref b35)]) (lenOf own_pd14 rfl) rfl (by show 2 * 0 + _ ≤ _; exact Nat.le_of_eq rfl) (hb hby d2_31) (fun _ _ => ⟨rfl, e55, (by decide : 2 + 1 ≤ _), (by decide : 5 + 1 ≤ _)⟩)
      dsimp only [Pt.U, Pt.locs, Pt.cells, Pt.slots] at X69 l69 y69 z69 st69 hQ69
      subst l69 y69 z69
      obtain ⟨rfl, Nq69, Kc67, Ec67, Cc67, tb67, kt67, gt67, sz67, nat67, Fv67, Va67⟩ := hQ69
      have N70 := Fr.app N65 Nq69
      have S71 : own_G p e below s0 T69 m 34 #[iv n_, iv c0, iv c1, iv c2, iv c3, iv c4, iv c5] [(.ref b35)] := fun t kt => S56 t (st69.trans kt)
      have Sf72 := Safe.keep Kc67 (allS Sf58 all0) CR60.1 Sf58
      have Sf73 := Safe.keep Kc67 (allS Sf58 all0) CR60.1 Sf59
      have CR74 := CR60.trans (CHr.keep Kc67 (allS Sf58 all0) CR60.1)
      have F75 := own_StaK F61 Kc67 (allS (own_ExaS F62) all0)
      have F76 := F62.keep Kc67
      have F77 := V57.keep Kc67 (ninS (Ne.symm ne_b35_b43) nin0)
      have K78 : Keep h0 T69.heap [] := K66.trans Kc67 (allS (Or.inr sz_b35) all0)
      have ne_b43_tb67 : b43 ≠ tb67 := Nat.ne_of_lt (Nat.lt_of_lt_of_le V57.lt sz67)
      obtain ⟨fs, hr, hrun, hended, -, hW, hBk, hsame⟩ := X69.leaveW hS0 ((Nat.le_trans (Nat.le_trans (Nat.le_trans (Nat.le_trans (Nat.le_refl _) E35.1) E43.1) (Keep.of_wr W55).1) Kc67.1)) (v := some (.ref b35)) (fun h => by rw [Bd.returns] at h; cases h)
      refine ⟨_, _, S71 _ ?_, hrun, hended, _, _, rfl, ?_, (by show CHr Z own_EL s.vm s.heap T69.vm T69.heap; rw [hh]; exact CR74.trans (CHv.at X69 hZ hEL CR74.1)), ⟨_, rfl⟩, hW, hBk, hsame.mono (by decide) (by decide)⟩
      · show Steps p.tables e below (T69.setTop (mkF m 34 #[iv n_, iv c0, iv c1, iv c2, iv c3, iv c4, iv c5] [(.ref b35)])) _
        jvm_step X69.here [X69.here.top, hx, (hb hby d2_34), X69.method', Bd.returns, Value.isRef, FieldType.isReference]
        first | (intro acts; rw [hr _ acts rfl rfl rfl]) | rw [hr _ _ rfl rfl rfl]
        exact Steps.refl _
      · show own_Q2 Z n_ c0 c1 c2 c3 c4 c5 cs h0 n0 _ T69.heap _
        exact ⟨b35, tb67, kt67, rfl, N70, K78, Ec67, Cc67, Fv67, (by have q := Va67; unfold own_bs; rw [if_neg hc1, if_pos hc17]; have e : n_ = (1 : Int32) := hc17; rw [e]; exact q)⟩
    · skip
      have S79 : own_G p e below s0 s₁ m 37 #[iv n_, iv c0, iv c1, iv c2, iv c3, iv c4, iv c5] [(.int 2), (.int n_)] := fun t kt => by
        refine S33 t ?_
        refine w_icmpYes X0 hx hby (pc' := 35) d2_17 (feq hc17).2 (by decide) ?_
        refine w_iloadN X0 hx hby d2_35 rfl ?_
        refine w_iconst X0 hx hby d2_36 ?_
        exact kt
      by_cases hc37 : n_ = (2 : Int32)
      · skip
        have S80 : own_G p e below s0 s₁ m 40 #[iv n_, iv c0, iv c1, iv c2, iv c3, iv c4, iv c5] [] := fun t kt => by
          refine S79 t ?_
          refine w_icmpNo X0 hx hby d2_37 (teq hc37).2 ?_
          exact kt
        obtain ⟨T81, h81, X81, e81, E81, A81, D81, -, st81⟩ := newO X0 hx hZ hown (own_w hw 19 rfl) (own_w hw 10 rfl) (own_w hw 9 rfl) e0 (g := (mkF m 40 #[iv n_, iv c0, iv c1, iv c2, iv c3, iv c4, iv c5] [])) rfl (hb hby d2_40) (by decide) (by decide)
        obtain ⟨b81, g81⟩ : ∃ z, z = h0.size := ⟨_, rfl⟩
        rw [← g81] at A81 D81 st81
        have S82 : own_G p e below s0 T81 m 43 #[iv n_, iv c0, iv c1, iv c2, iv c3, iv c4, iv c5] [(.ref b81)] := fun t kt => S80 t (st81 _ kt)
        have Sf_b81 : Safe Z own_EL s.vm h81 b81 := Safe.ext E81 CR0.1 (Safe.new (Nat.le_of_eq g81.symm))
        have CR83 := CR0.trans (CHr.ext E81 CR0.1)
        have g_b81 : n0 ≤ b81 := Nat.le_trans Z0 (Nat.le_of_eq g81.symm)
        have sz_b81 : h0.size ≤ b81 := Nat.le_trans (Keep.refl h0 []).1 (Nat.le_of_eq g81.symm)
        have F84 := S_CS.ext E81
        have K85 : Keep h0 h81 [] := (Keep.refl h0 []).ext E81
        have F86 : Fld Z h81 b81 "java/lang/String" "value" "[B" .null := D81 (Or.inr (own_w hw 12 rfl)) (ty := (.array .byte)) (by decide)
        have F87 : Fld Z h81 b81 "java/lang/String" "coder" "B" (.int 0) := D81 (Or.inr (own_w hw 13 rfl)) (ty := .byte) (by decide)
        have S88 : own_G p e below s0 T81 m 45 #[iv n_, iv c0, iv c1, iv c2, iv c3, iv c4, iv c5] [(.int 2), (.ref b81), (.ref b81)] := fun t kt => by
          refine S82 t ?_
          refine w_dup X81 hx hby d2_43 rfl ?_
          refine w_iconst X81 hx hby d2_44 ?_
          exact kt
        obtain ⟨T89, h89, k89, X89, e89, E89, A89, st89⟩ := newP X81 hx hZ (own_w hw 20 rfl) e81 (g := (mkF m 45 #[iv n_, iv c0, iv c1, iv c2, iv c3, iv c4, iv c5] [(.int 2), (.ref b81), (.ref b81)])) rfl (hb hby d2_45) rfl (by decide) (cap := 2) (by decide) (by decide) (by decide) (by decide)
        obtain ⟨b89, g89⟩ : ∃ z, z = h81.size := ⟨_, rfl⟩
        rw [← g89] at A89 st89
        have S90 : own_G p e below s0 T89 m 47 #[iv n_, iv c0, iv c1, iv c2, iv c3, iv c4, iv c5] [(.ref b89), (.ref b81), (.ref b81)] := fun t kt => S88 t (st89 _ kt)
        have Sf_b89 : Safe Z own_EL s.vm h89 b89 := Safe.ext E89 CR83.1 (Safe.new (Nat.le_of_eq g89.symm))
        have Sf91 := Safe.ext E89 CR83.1 Sf_b81
        have CR92 := CR83.trans (CHr.ext E89 CR83.1)
        have g_b89 : n0 ≤ b89 := Nat.le_trans (Nat.le_trans Z0 K85.1) (Nat.le_of_eq g89.symm)
        have sz_b89 : h0.size ≤ b89 := Nat.le_trans K85.1 (Nat.le_of_eq g89.symm)
        have ne_b81_b89 : b81 ≠ b89 := Nat.ne_of_lt (Nat.lt_of_lt_of_le A81.lt (Nat.le_of_eq g89.symm))
        have F93 := F84.ext E89
        have F94 := A81.ext E89
        have F95 := F86.ext E89
        have F96 := F87.ext E89
        have K97 : Keep h0 h89 [] := K85.ext E89
        have V98 : Arv Z h89 b89 k89 .char (2 : Int32) [(.int 0), (.int 0)] (.int 0) := (Arv.new A89 (by decide)).pad (pad_rep [] (.int 0) 2)
        have S99 : own_G p e below s0 T89 m 50 #[iv n_, iv c0, iv c1, iv c2, iv c3, iv c4, iv c5] [(.int c0), (.int 0), (.ref b89), (.ref b89), (.ref b81), (.ref b81)] := fun t kt => by
          refine S90 t ?_
          refine w_dup X89 hx hby d2_47 rfl ?_
          refine w_iconst X89 hx hby d2_48 ?_
          refine w_iloadN X89 hx hby d2_49 rfl ?_
          exact kt
        obtain ⟨cl100, Ar100, q100, Sz100, Nn100, Hh100, Gg100⟩ := id V98
        have hin100 : ¬ ((0 : Int32) < 0 ∨ cl100.slots.size ≤ ((0 : Int32)).toNatClampNeg) := inb_of Sz100 ⟨by decide, by decide⟩
        obtain ⟨T101, h101, X101, e101, W101, st101⟩ := stC X89 hx hZ e89 Ar100 (j := (0 : Int32)) hin100 (g := (mkF m 50 #[iv n_, iv c0, iv c1, iv c2, iv c3, iv c4, iv c5] [(.int c0), (.int 0), (.ref b89), (.ref b89), (.ref b81), (.ref b81)])) rfl rfl (hb hby d2_50)
        have S102 : own_G p e below s0 T101 m 51 #[iv n_, iv c0, iv c1, iv c2, iv c3, iv c4, iv c5] [(.ref b89), (.ref b81), (.ref b81)] := fun t kt => S99 t (st101 _ kt)
        have V103 := Arv.set Ar100 q100 Sz100 Nn100 Hh100 Gg100 (fits_nar_char _) W101 0 rfl (Nat.le_of_ble_eq_true rfl)
        have Sf104 := Safe.wr W101 Sf_b89 CR92.1 Sf91
        have Sf105 := Safe.wr W101 Sf_b89 CR92.1 Sf_b89
        have CR106 := CR92.trans (CHr.wr W101 Sf_b89 CR92.1)
        have F107 := F93.wr W101
        have F108 := F94.wr W101
        have F109 := F95.other W101 (Or.inl ne_b81_b89)
        have F110 := F96.other W101 (Or.inl ne_b81_b89)
        have N111 := Fr.snoc X101 N0 g_b89
        have K112 : Keep h0 h101 [] := K97.wr W101 (Or.inr sz_b89)
        have S113 : own_G p e below s0 T101 m 54 #[iv n_, iv c0, iv c1, iv c2, iv c3, iv c4, iv c5] [(.int c1), (.int 1), (.ref b89), (.ref b89), (.ref b81), (.ref b81)] := fun t kt => by
          refine S102 t ?_
          refine w_dup X101 hx hby d2_51 rfl ?_
          refine w_iconst X101 hx hby d2_52 ?_
          refine w_iloadN X101 hx hby d2_53 rfl ?_
          exact kt
        obtain ⟨cl114, Ar114, q114, Sz114, Nn114, Hh114, Gg114⟩ := id V103
        have hin114 : ¬ ((1 : Int32) < 0 ∨ cl114.slots.size ≤ ((1 : Int32)).toNatClampNeg) := inb_of Sz114 ⟨by decide, by decide⟩
        obtain ⟨T115, h115, X115, e115, W115, st115⟩ := stC X101 hx hZ e101 Ar114 (j := (1 : Int32)) hin114 (g := (mkF m 54 #[iv n_, iv c0, iv c1, iv c2, iv c3, iv c4, iv c5] [(.int c1), (.int 1), (.ref b89), (.ref b89), (.ref b81), (.ref b81)])) rfl rfl (hb hby d2_54)
        have S116 : own_G p e below s0 T115 m 55 #[iv n_, iv c0, iv c1, iv c2, iv c3, iv c4, iv c5] [(.ref b89), (.ref b81), (.ref b81)] := fun t kt => S113 t (st115 _ kt)
        have V117 := Arv.set Ar114 q114 Sz114 Nn114 Hh114 Gg114 (fits_nar_char _) W115 1 rfl (Nat.le_of_ble_eq_true rfl)
        have Sf118 := Safe.wr W115 Sf105 CR106.1 Sf104
        have Sf119 := Safe.wr W115 Sf105 CR106.1 Sf105
        have CR120 := CR106.trans (CHr.wr W115 Sf105 CR106.1)
        have F121 := F107.wr W115
        have F122 := F108.wr W115
        have F123 := F109.other W115 (Or.inl ne_b81_b89)
        have F124 := F110.other W115 (Or.inl ne_b81_b89)
        have N125 := Fr.snoc X115 N111 g_b89
        have K126 : Keep h0 h115 [] := K112.wr W115 (Or.inr sz_b89)
        obtain ⟨_, _, ⟨T129, L129, k129, n129⟩, -, X129, ⟨Lc129, hQ129, l129, y129, z129⟩, st129⟩ := X115.specialBack hx (y := own_y18) rfl hown (mvT hZ (own_w hw 21 rfl)) (mvT hZ (own_w hw 22 rfl)) (mvT hZ (own_w hw 23 rfl)) (by decide) (backOf (W := 1) (own_rm3k2 l Z a0 hw [] (b81) (b89) ((nar .char c0)) ((nar .char c1)) (k89) (cs) (.null) ((.int 0)) h115 n0 (Nat.le_trans Z0 K126.1) F122 g_b81 F123 F124 F121 hcs V117 (own_lat hb0) (own_lat hb1)) hZ (own_w hw 23 rfl) (own_w hw 9 rfl) (by decide) (by decide)) (g := (mkF m 55 #[iv n_, iv c0, iv c1, iv c2, iv c3, iv c4, iv c5] [(.ref b89), (.ref b81), (.ref b81)])) rfl (by rw [hml]; rfl) (Steps.refl _) (a := b81) (argsL := [(.ref b89)]) (rest := [(.ref b81)]) (lenOf own_pd14 rfl) rfl (by show 2 * 0 + _ ≤ _; exact Nat.le_of_eq rfl) (hb hby d2_55) (fun _ _ => ⟨rfl, e115, (by decide : 2 + 1 ≤ _), (by decide : 6 + 2 ≤ _)⟩)
        dsimp only [Pt.U, Pt.locs, Pt.cells, Pt.slots] at X129 l129 y129 z129 st129 hQ129
        subst l129 y129 z129
        obtain ⟨rfl, Nq129, Kc127, Ec127, Cc127, tb127, kt127, gt127, sz127, nat127, Fv127, Va127⟩ := hQ129
        have N130 := Fr.app N125 Nq129
        have S131 : own_G p e below s0 T129 m 58 #[iv n_, iv c0, iv c1, iv c2, iv c3, iv c4, iv c5] [(.ref b81)] := fun t kt => S116 t (st129.trans kt)
        have Sf132 := Safe.keep Kc127 (allS Sf118 all0) CR120.1 Sf118
        have Sf133 := Safe.keep Kc127 (allS Sf118 all0) CR120.1 Sf119
        have CR134 := CR120.trans (CHr.keep Kc127 (allS Sf118 all0) CR120.1)
        have F135 := own_StaK F121 Kc127 (allS (own_ExaS F122) all0)
        have F136 := F122.keep Kc127
        have F137 := V117.keep Kc127 (ninS (Ne.symm ne_b81_b89) nin0)
        have K138 : Keep h0 T129.heap [] := K126.trans Kc127 (allS (Or.inr sz_b81) all0)
        have ne_b89_tb127 : b89 ≠ tb127 := Nat.ne_of_lt (Nat.lt_of_lt_of_le V117.lt sz127)
        obtain ⟨fs, hr, hrun, hended, -, hW, hBk, hsame⟩ := X129.leaveW hS0 ((Nat.le_trans (Nat.le_trans (Nat.le_trans (Nat.le_trans (Nat.le_trans (Nat.le_refl _) E81.1) E89.1) (Keep.of_wr W101).1) (Keep.of_wr W115).1) Kc127.1)) (v := some (.ref b81)) (fun h => by rw [Bd.returns] at h; cases h)
        refine ⟨_, _, S131 _ ?_, hrun, hended, _, _, rfl, ?_, (by show CHr Z own_EL s.vm s.heap T129.vm T129.heap; rw [hh]; exact CR134.trans (CHv.at X129 hZ hEL CR134.1)), ⟨_, rfl⟩, hW, hBk, hsame.mono (by decide) (by decide)⟩
        · show Steps p.tables e below (T129.setTop (mkF m 58 #[iv n_, iv c0, iv c1, iv c2, iv c3, iv c4, iv c5] [(.ref b81)])) _
          jvm_step X129.here [X129.here.top, hx, (hb hby d2_58), X129.method', Bd.returns, Value.isRef, FieldType.isReference]
          first | (intro acts; rw [hr _ acts rfl rfl rfl]) | rw [hr _ _ rfl rfl rfl]
          exact Steps.refl _
        · show own_Q2 Z n_ c0 c1 c2 c3 c4 c5 cs h0 n0 _ T129.heap _
          exact ⟨b81, tb127, kt127, rfl, N130, K138, Ec127, Cc127, Fv127, (by have q := Va127; unfold own_bs; rw [if_neg hc1, if_neg hc17, if_pos hc37]; have e : n_ = (2 : Int32) := hc37; rw [e]; exact q)⟩
      · skip
        have S139 : own_G p e below s0 s₁ m 61 #[iv n_, iv c0, iv c1, iv c2, iv c3, iv c4, iv c5] [(.int 3), (.int n_)] := fun t kt => by
          refine S79 t ?_
          refine w_icmpYes X0 hx hby (pc' := 59) d2_37 (feq hc37).2 (by decide) ?_
          refine w_iloadN X0 hx hby d2_59 rfl ?_
          refine w_iconst X0 hx hby d2_60 ?_
          exact kt
        by_cases hc61 : n_ = (3 : Int32)
        · skip
          have S140 : own_G p e below s0 s₁ m 64 #[iv n_, iv c0, iv c1, iv c2, iv c3, iv c4, iv c5] [] := fun t kt => by
            refine S139 t ?_
            refine w_icmpNo X0 hx hby d2_61 (teq hc61).2 ?_
            exact kt
          obtain ⟨T141, h141, X141, e141, E141, A141, D141, -, st141⟩ := newO X0 hx hZ hown (own_w hw 19 rfl) (own_w hw 10 rfl) (own_w hw 9 rfl) e0 (g := (mkF m 64 #[iv n_, iv c0, iv c1, iv c2, iv c3, iv c4, iv c5] [])) rfl (hb hby d2_64) (by decide) (by decide)
          obtain ⟨b141, g141⟩ : ∃ z, z = h0.size := ⟨_, rfl⟩
          rw [← g141] at A141 D141 st141
          have S142 : own_G p e below s0 T141 m 67 #[iv n_, iv c0, iv c1, iv c2, iv c3, iv c4, iv c5] [(.ref b141)] := fun t kt => S140 t (st141 _ kt)
          have Sf_b141 : Safe Z own_EL s.vm h141 b141 := Safe.ext E141 CR0.1 (Safe.new (Nat.le_of_eq g141.symm))
          have CR143 := CR0.trans (CHr.ext E141 CR0.1)
          have g_b141 : n0 ≤ b141 := Nat.le_trans Z0 (Nat.le_of_eq g141.symm)
          have sz_b141 : h0.size ≤ b141 := Nat.le_trans (Keep.refl h0 []).1 (Nat.le_of_eq g141.symm)
          have F144 := S_CS.ext E141
          have K145 : Keep h0 h141 [] := (Keep.refl h0 []).ext E141
          have F146 : Fld Z h141 b141 "java/lang/String" "value" "[B" .null := D141 (Or.inr (own_w hw 12 rfl)) (ty := (.array .byte)) (by decide)
          have F147 : Fld Z h141 b141 "java/lang/String" "coder" "B" (.int 0) := D141 (Or.inr (own_w hw 13 rfl)) (ty := .byte) (by decide)
          have S148 : own_G p e below s0 T141 m 69 #[iv n_, iv c0, iv c1, iv c2, iv c3, iv c4, iv c5] [(.int 3), (.ref b141), (.ref b141)] := fun t kt => by
            refine S142 t ?_
            refine w_dup X141 hx hby d2_67 rfl ?_
            refine w_iconst X141 hx hby d2_68 ?_
            exact kt
          obtain ⟨T149, h149, k149, X149, e149, E149, A149, st149⟩ := newP X141 hx hZ (own_w hw 20 rfl) e141 (g := (mkF m 69 #[iv n_, iv c0, iv c1, iv c2, iv c3, iv c4, iv c5] [(.int 3), (.ref b141), (.ref b141)])) rfl (hb hby d2_69) rfl (by decide) (cap := 3) (by decide) (by decide) (by decide) (by decide)
          obtain ⟨b149, g149⟩ : ∃ z, z = h141.size := ⟨_, rfl⟩
          rw [← g149] at A149 st149
          have S150 : own_G p e below s0 T149 m 71 #[iv n_, iv c0, iv c1, iv c2, iv c3, iv c4, iv c5] [(.ref b149), (.ref b141), (.ref b141)] := fun t kt => S148 t (st149 _ kt)
          have Sf_b149 : Safe Z own_EL s.vm h149 b149 := Safe.ext E149 CR143.1 (Safe.new (Nat.le_of_eq g149.symm))
          have Sf151 := Safe.ext E149 CR143.1 Sf_b141
          have CR152 := CR143.trans (CHr.ext E149 CR143.1)
          have g_b149 : n0 ≤ b149 := Nat.le_trans (Nat.le_trans Z0 K145.1) (Nat.le_of_eq g149.symm)
          have sz_b149 : h0.size ≤ b149 := Nat.le_trans K145.1 (Nat.le_of_eq g149.symm)
          have ne_b141_b149 : b141 ≠ b149 := Nat.ne_of_lt (Nat.lt_of_lt_of_le A141.lt (Nat.le_of_eq g149.symm))
          have F153 := F144.ext E149
          have F154 := A141.ext E149
          have F155 := F146.ext E149
          have F156 := F147.ext E149
          have K157 : Keep h0 h149 [] := K145.ext E149
          have V158 : Arv Z h149 b149 k149 .char (3 : Int32) [(.int 0), (.int 0), (.int 0)] (.int 0) := (Arv.new A149 (by decide)).pad (pad_rep [] (.int 0) 3)
          have S159 : own_G p e below s0 T149 m 74 #[iv n_, iv c0, iv c1, iv c2, iv c3, iv c4, iv c5] [(.int c0), (.int 0), (.ref b149), (.ref b149), (.ref b141), (.ref b141)] := fun t kt => by
            refine S150 t ?_
            refine w_dup X149 hx hby d2_71 rfl ?_
            refine w_iconst X149 hx hby d2_72 ?_
            refine w_iloadN X149 hx hby d2_73 rfl ?_
            exact kt
          obtain ⟨cl160, Ar160, q160, Sz160, Nn160, Hh160, Gg160⟩ := id V158
          have hin160 : ¬ ((0 : Int32) < 0 ∨ cl160.slots.size ≤ ((0 : Int32)).toNatClampNeg) := inb_of Sz160 ⟨by decide, by decide⟩
          obtain ⟨T161, h161, X161, e161, W161, st161⟩ := stC X149 hx hZ e149 Ar160 (j := (0 : Int32)) hin160 (g := (mkF m 74 #[iv n_, iv c0, iv c1, iv c2, iv c3, iv c4, iv c5] [(.int c0), (.int 0), (.ref b149), (.ref b149), (.ref b141), (.ref b141)])) rfl rfl (hb hby d2_74)
          have S162 : own_G p e below s0 T161 m 75 #[iv n_, iv c0, iv c1, iv c2, iv c3, iv c4, iv c5] [(.ref b149), (.ref b141), (.ref b141)] := fun t kt => S159 t (st161 _ kt)
          have V163 := Arv.set Ar160 q160 Sz160 Nn160 Hh160 Gg160 (fits_nar_char _) W161 0 rfl (Nat.le_of_ble_eq_true rfl)
          have Sf164 := Safe.wr W161 Sf_b149 CR152.1 Sf151
          have Sf165 := Safe.wr W161 Sf_b149 CR152.1 Sf_b149
          have CR166 := CR152.trans (CHr.wr W161 Sf_b149 CR152.1)
          have F167 := F153.wr W161
          have F168 := F154.wr W161
          have F169 := F155.other W161 (Or.inl ne_b141_b149)
          have F170 := F156.other W161 (Or.inl ne_b141_b149)
          have N171 := Fr.snoc X161 N0 g_b149
          have K172 : Keep h0 h161 [] := K157.wr W161 (Or.inr sz_b149)
          have S173 : own_G p e below s0 T161 m 78 #[iv n_, iv c0, iv c1, iv c2, iv c3, iv c4, iv c5] [(.int c1), (.int 1), (.ref b149), (.ref b149), (.ref b141), (.ref b141)] := fun t kt => by
            refine S162 t ?_
            refine w_dup X161 hx hby d2_75 rfl ?_
            refine w_iconst X161 hx hby d2_76 ?_
            refine w_iloadN X161 hx hby d2_77 rfl ?_
            exact kt
          obtain ⟨cl174, Ar174, q174, Sz174, Nn174, Hh174, Gg174⟩ := id V163
          have hin174 : ¬ ((1 : Int32) < 0 ∨ cl174.slots.size ≤ ((1 : Int32)).toNatClampNeg) := inb_of Sz174 ⟨by decide, by decide⟩
          obtain ⟨T175, h175, X175, e175, W175, st175⟩ := stC X161 hx hZ e161 Ar174 (j := (1 : Int32)) hin174 (g := (mkF m 78 #[iv n_, iv c0, iv c1, iv c2, iv c3, iv c4, iv c5] [(.int c1), (.int 1), (.ref b149), (.ref b149), (.ref b141), (.ref b141)])) rfl rfl (hb hby d2_78)
          have S176 : own_G p e below s0 T175 m 79 #[iv n_, iv c0, iv c1, iv c2, iv c3, iv c4, iv c5] [(.ref b149), (.ref b141), (.ref b141)] := fun t kt => S173 t (st175 _ kt)
          have V177 := Arv.set Ar174 q174 Sz174 Nn174 Hh174 Gg174 (fits_nar_char _) W175 1 rfl (Nat.le_of_ble_eq_true rfl)
          have Sf178 := Safe.wr W175 Sf165 CR166.1 Sf164
          have Sf179 := Safe.wr W175 Sf165 CR166.1 Sf165
          have CR180 := CR166.trans (CHr.wr W175 Sf165 CR166.1)
          have F181 := F167.wr W175
          have F182 := F168.wr W175
          have F183 := F169.other W175 (Or.inl ne_b141_b149)
          have F184 := F170.other W175 (Or.inl ne_b141_b149)
          have N185 := Fr.snoc X175 N171 g_b149
          have K186 : Keep h0 h175 [] := K172.wr W175 (Or.inr sz_b149)
          have S187 : own_G p e below s0 T175 m 82 #[iv n_, iv c0, iv c1, iv c2, iv c3, iv c4, iv c5] [(.int c2), (.int 2), (.ref b149), (.ref b149), (.ref b141), (.ref b141)] := fun t kt => by
            refine S176 t ?_
            refine w_dup X175 hx hby d2_79 rfl ?_
            refine w_iconst X175 hx hby d2_80 ?_
            refine w_iloadN X175 hx hby d2_81 rfl ?_
            exact kt
          obtain ⟨cl188, Ar188, q188, Sz188, Nn188, Hh188, Gg188⟩ := id V177
          have hin188 : ¬ ((2 : Int32) < 0 ∨ cl188.slots.size ≤ ((2 : Int32)).toNatClampNeg) := inb_of Sz188 ⟨by decide, by decide⟩
          obtain ⟨T189, h189, X189, e189, W189, st189⟩ := stC X175 hx hZ e175 Ar188 (j := (2 : Int32)) hin188 (g := (mkF m 82 #[iv n_, iv c0, iv c1, iv c2, iv c3, iv c4, iv c5] [(.int c2), (.int 2), (.ref b149), (.ref b149), (.ref b141), (.ref b141)])) rfl rfl (hb hby d2_82)
          have S190 : own_G p e below s0 T189 m 83 #[iv n_, iv c0, iv c1, iv c2, iv c3, iv c4, iv c5] [(.ref b149), (.ref b141), (.ref b141)] := fun t kt => S187 t (st189 _ kt)
          have V191 := Arv.set Ar188 q188 Sz188 Nn188 Hh188 Gg188 (fits_nar_char _) W189 2 rfl (Nat.le_of_ble_eq_true rfl)
          have Sf192 := Safe.wr W189 Sf179 CR180.1 Sf178
          have Sf193 := Safe.wr W189 Sf179 CR180.1 Sf179
          have CR194 := CR180.trans (CHr.wr W189 Sf179 CR180.1)
          have F195 := F181.wr W189
          have F196 := F182.wr W189
          have F197 := F183.other W189 (Or.inl ne_b141_b149)
          have F198 := F184.other W189 (Or.inl ne_b141_b149)
          have N199 := Fr.snoc X189 N185 g_b149
          have K200 : Keep h0 h189 [] := K186.wr W189 (Or.inr sz_b149)
          obtain ⟨_, _, ⟨T203, L203, k203, n203⟩, -, X203, ⟨Lc203, hQ203, l203, y203, z203⟩, st203⟩ := X189.specialBack hx (y := own_y18) rfl hown (mvT hZ (own_w hw 21 rfl)) (mvT hZ (own_w hw 22 rfl)) (mvT hZ (own_w hw 23 rfl)) (by decide) (backOf (W := 1) (own_rm3k3 l Z a0 hw [] (b141) (b149) ((nar .char c0)) ((nar .char c1)) ((nar .char c2)) (k149) (cs) (.null) ((.int 0)) h189 n0 (Nat.le_trans Z0 K200.1) F196 g_b141 F197 F198 F195 hcs V191 (own_lat hb0) (own_lat hb1) (own_lat hb2)) hZ (own_w hw 23 rfl) (own_w hw 9 rfl) (by decide) (by decide)) (g := (mkF m 83 #[iv n_, iv c0, iv c1, iv c2, iv c3, iv c4, iv c5] [(.ref b149), (.ref b141), (.ref b141)])) rfl (by rw [hml]; rfl) (Steps.refl _) (a := b141) (argsL := [(.ref b149)]) (rest := [(.ref b141)]) (lenOf own_pd14 rfl) rfl (by show 2 * 0 + _ ≤ _; exact Nat.le_of_eq rfl) (hb hby d2_83) (fun _ _ => ⟨rfl, e189, (by decide : 2 + 1 ≤ _), (by decide : 7 + 3 ≤ _)⟩)
          dsimp only [Pt.U, Pt.locs, Pt.cells, Pt.slots] at X203 l203 y203 z203 st203 hQ203
          subst l203 y203 z203
          obtain ⟨rfl, Nq203, Kc201, Ec201, Cc201, tb201, kt201, gt201, sz201, nat201, Fv201, Va201⟩ := hQ203
          have N204 := Fr.app N199 Nq203
          have S205 : own_G p e below s0 T203 m 86 #[iv n_, iv c0, iv c1, iv c2, iv c3, iv c4, iv c5] [(.ref b141)] := fun t kt => S190 t (st203.trans kt)
          have Sf206 := Safe.keep Kc201 (allS Sf192 all0) CR194.1 Sf192
          have Sf207 := Safe.keep Kc201 (allS Sf192 all0) CR194.1 Sf193
          have CR208 := CR194.trans (CHr.keep Kc201 (allS Sf192 all0) CR194.1)
          have F209 := own_StaK F195 Kc201 (allS (own_ExaS F196) all0)
          have F210 := F196.keep Kc201
          have F211 := V191.keep Kc201 (ninS (Ne.symm ne_b141_b149) nin0)
          have K212 : Keep h0 T203.heap [] := K200.trans Kc201 (allS (Or.inr sz_b141) all0)
          have ne_b149_tb201 : b149 ≠ tb201 := Nat.ne_of_lt (Nat.lt_of_lt_of_le V191.lt sz201)
          obtain ⟨fs, hr, hrun, hended, -, hW, hBk, hsame⟩ := X203.leaveW hS0 ((Nat.le_trans (Nat.le_trans (Nat.le_trans (Nat.le_trans (Nat.le_trans (Nat.le_trans (Nat.le_refl _) E141.1) E149.1) (Keep.of_wr W161).1) (Keep.of_wr W175).1) (Keep.of_wr W189).1) Kc201.1)) (v := some (.ref b141)) (fun h => by rw [Bd.returns] at h; cases h)
          refine ⟨_, _, S205 _ ?_, hrun, hended, _, _, rfl, ?_, (by show CHr Z own_EL s.vm s.heap T203.vm T203.heap; rw [hh]; exact CR208.trans (CHv.at X203 hZ hEL CR208.1)), ⟨_, rfl⟩, hW, hBk, hsame.mono (by decide) (by decide)⟩
          · show Steps p.tables e below (T203.setTop (mkF m 86 #[iv n_, iv c0, iv c1, iv c2, iv c3, iv c4, iv c5] [(.ref b141)])) _
            jvm_step X203.here [X203.here.top, hx, (hb hby d2_86), X203.method', Bd.returns, Value.isRef, FieldType.isReference]
            first | (intro acts; rw [hr _ acts rfl rfl rfl]) | rw [hr _ _ rfl rfl rfl]
            exact Steps.refl _
          · show own_Q2 Z n_ c0 c1 c2 c3 c4 c5 cs h0 n0 _ T203.heap _
            exact ⟨b141, tb201, kt201, rfl, N204, K212, Ec201, Cc201, Fv201, (by have q := Va201; unfold own_bs; rw [if_neg hc1, if_neg hc17, if_neg hc37, if_pos hc61]; have e : n_ = (3 : Int32) := hc61; rw [e]; exact q)⟩
        · skip
          have S213 : own_G p e below s0 s₁ m 89 #[iv n_, iv c0, iv c1, iv c2, iv c3, iv c4, iv c5] [(.int 4), (.int n_)] := fun t kt => by
            refine S139 t ?_
            refine w_icmpYes X0 hx hby (pc' := 87) d2_61 (feq hc61).2 (by decide) ?_
            refine w_iloadN X0 hx hby d2_87 rfl ?_
            refine w_iconst X0 hx hby d2_88 ?_
            exact kt
          by_cases hc89 : n_ = (4 : Int32)
          · skip
            have S214 : own_G p e below s0 s₁ m 92 #[iv n_, iv c0, iv c1, iv c2, iv c3, iv c4, iv c5] [] := fun t kt => by
              refine S213 t ?_
              refine w_icmpNo X0 hx hby d2_89 (teq hc89).2 ?_
              exact kt
            obtain ⟨T215, h215, X215, e215, E215, A215, D215, -, st215⟩ := newO X0 hx hZ hown (own_w hw 19 rfl) (own_w hw 10 rfl) (own_w hw 9 rfl) e0 (g := (mkF m 92 #[iv n_, iv c0, iv c1, iv c2, iv c3, iv c4, iv c5] [])) rfl (hb hby d2_92) (by decide) (by decide)
            obtain ⟨b215, g215⟩ : ∃ z, z = h0.size := ⟨_, rfl⟩
            rw [← g215] at A215 D215 st215
            have S216 : own_G p e below s0 T215 m 95 #[iv n_, iv c0, iv c1, iv c2, iv c3, iv c4, iv c5] [(.ref b215)] := fun t kt => S214 t (st215 _ kt)
            have Sf_b215 : Safe Z own_EL s.vm h215 b215 := Safe.ext E215 CR0.1 (Safe.new (Nat.le_of_eq g215.symm))
            have CR217 := CR0.trans (CHr.ext E215 CR0.1)
            have g_b215 : n0 ≤ b215 := Nat.le_trans Z0 (Nat.le_of_eq g215.symm)
            have sz_b215 : h0.size ≤ b215 := Nat.le_trans (Keep.refl h0 []).1 (Nat.le_of_eq g215.symm)
            have F218 := S_CS.ext E215
            have K219 : Keep h0 h215 [] := (Keep.refl h0 []).ext E215
            have F220 : Fld Z h215 b215 "java/lang/String" "value" "[B" .null := D215 (Or.inr (own_w hw 12 rfl)) (ty := (.array .byte)) (by decide)
            have F221 : Fld Z h215 b215 "java/lang/String" "coder" "B" (.int 0) := D215 (Or.inr (own_w hw 13 rfl)) (ty := .byte) (by decide)
            have S222 : own_G p e below s0 T215 m 97 #[iv n_, iv c0, iv c1, iv c2, iv c3, iv c4, iv c5] [(.int 4), (.ref b215), (.ref b215)] := fun t kt => by
              refine S216 t ?_
              refine w_dup X215 hx hby d2_95 rfl ?_
              refine w_iconst X215 hx hby d2_96 ?_
              exact kt
            obtain ⟨T223, h223, k223, X223, e223, E223, A223, st223⟩ := newP X215 hx hZ (own_w hw 20 rfl) e215 (g := (mkF m 97 #[iv n_, iv c0, iv c1, iv c2, iv c3, iv c4, iv c5] [(.int 4), (.ref b215), (.ref b215)])) rfl (hb hby d2_97) rfl (by decide) (cap := 4) (by decide) (by decide) (by decide) (by decide)
            obtain ⟨b223, g223⟩ : ∃ z, z = h215.size := ⟨_, rfl⟩
            rw [← g223] at A223 st223
            have S224 : own_G p e below s0 T223 m 99 #[iv n_, iv c0, iv c1, iv c2, iv c3, iv c4, iv c5] [(.ref b223), (.ref b215), (.ref b215)] := fun t kt => S222 t (st223 _ kt)
            have Sf_b223 : Safe Z own_EL s.vm h223 b223 := Safe.ext E223 CR217.1 (Safe.new (Nat.le_of_eq g223.symm))
            have Sf225 := Safe.ext E223 CR217.1 Sf_b215
            have CR226 := CR217.trans (CHr.ext E223 CR217.1)
            have g_b223 : n0 ≤ b223 := Nat.le_trans (Nat.le_trans Z0 K219.1) (Nat.le_of_eq g223.symm)
            have sz_b223 : h0.size ≤ b223 := Nat.le_trans K219.1 (Nat.le_of_eq g223.symm)
            have ne_b215_b223 : b215 ≠ b223 := Nat.ne_of_lt (Nat.lt_of_lt_of_le A215.lt (Nat.le_of_eq g223.symm))
            have F227 := F218.ext E223
            have F228 := A215.ext E223
            have F229 := F220.ext E223
            have F230 := F221.ext E223
            have K231 : Keep h0 h223 [] := K219.ext E223
            have V232 : Arv Z h223 b223 k223 .char (4 : Int32) [(.int 0), (.int 0), (.int 0), (.int 0)] (.int 0) := (Arv.new A223 (by decide)).pad (pad_rep [] (.int 0) 4)
            have S233 : own_G p e below s0 T223 m 102 #[iv n_, iv c0, iv c1, iv c2, iv c3, iv c4, iv c5] [(.int c0), (.int 0), (.ref b223), (.ref b223), (.ref b215), (.ref b215)] := fun t kt => by
              refine S224 t ?_
              refine w_dup X223 hx hby d2_99 rfl ?_
              refine w_iconst X223 hx hby d2_100 ?_
              refine w_iloadN X223 hx hby d2_101 rfl ?_
              exact kt
            obtain ⟨cl234, Ar234, q234, Sz234, Nn234, Hh234, Gg234⟩ := id V232
            have hin234 : ¬ ((0 : Int32) < 0 ∨ cl234.slots.size ≤ ((0 : Int32)).toNatClampNeg) := inb_of Sz234 ⟨by decide, by decide⟩
            obtain ⟨T235, h235, X235, e235, W235, st235⟩ := stC X223 hx hZ e223 Ar234 (j := (0 : Int32)) hin234 (g := (mkF m 102 #[iv n_, iv c0, iv c1, iv c2, iv c3, iv c4, iv c5] [(.int c0), (.int 0), (.ref b223), (.ref b223), (.ref b215), (.ref b215)])) rfl rfl (hb hby d2_102)
            have S236 : own_G p e below s0 T235 m 103 #[iv n_, iv c0, iv c1, iv c2, iv c3, iv c4, iv c5] [(.ref b223), (.ref b215), (.ref b215)] := fun t kt => S233 t (st235 _ kt)
            have V237 := Arv.set Ar234 q234 Sz234 Nn234 Hh234 Gg234 (fits_nar_char _) W235 0 rfl (Nat.le_of_ble_eq_true rfl)
            have Sf238 := Safe.wr W235 Sf_b223 CR226.1 Sf225
            have Sf239 := Safe.wr W235 Sf_b223 CR226.1 Sf_b223
            have CR240 := CR226.trans (CHr.wr W235 Sf_b223 CR226.1)
            have F241 := F227.wr W235
            have F242 := F228.wr W235
            have F243 := F229.other W235 (Or.inl ne_b215_b223)
            have F244 := F230.other W235 (Or.inl ne_b215_b223)
            have N245 := Fr.snoc X235 N0 g_b223
            have K246 : Keep h0 h235 [] := K231.wr W235 (Or.inr sz_b223)
            have S247 : own_G p e below s0 T235 m 106 #[iv n_, iv c0, iv c1, iv c2, iv c3, iv c4, iv c5] [(.int c1), (.int 1), (.ref b223), (.ref b223), (.ref b215), (.ref b215)] := fun t kt => by
              refine S236 t ?_
              refine w_dup X235 hx hby d2_103 rfl ?_
              refine w_iconst X235 hx hby d2_104 ?_
              refine w_iloadN X235 hx hby d2_105 rfl ?_
              exact kt
            obtain ⟨cl248, Ar248, q248, Sz248, Nn248, Hh248, Gg248⟩ := id V237
            have hin248 : ¬ ((1 : Int32) < 0 ∨ cl248.slots.size ≤ ((1 : Int32)).toNatClampNeg) := inb_of Sz248 ⟨by decide, by decide⟩
            obtain ⟨T249, h249, X249, e249, W249, st249⟩ := stC X235 hx hZ e235 Ar248 (j := (1 : Int32)) hin248 (g := (mkF m 106 #[iv n_, iv c0, iv c1, iv c2, iv c3, iv c4, iv c5] [(.int c1), (.int 1), (.ref b223), (.ref b223), (.ref b215), (.ref b215)])) rfl rfl (hb hby d2_106)
            have S250 : own_G p e below s0 T249 m 107 #[iv n_, iv c0, iv c1, iv c2, iv c3, iv c4, iv c5] [(.ref b223), (.ref b215), (.ref b215)] := fun t kt => S247 t (st249 _ kt)
            have V251 := Arv.set Ar248 q248 Sz248 Nn248 Hh248 Gg248 (fits_nar_char _) W249 1 rfl (Nat.le_of_ble_eq_true rfl)
            have Sf252 := Safe.wr W249 Sf239 CR240.1 Sf238
            have Sf253 := Safe.wr W249 Sf239 CR240.1 Sf239
            have CR254 := CR240.trans (CHr.wr W249 Sf239 CR240.1)
            have F255 := F241.wr W249
            have F256 := F242.wr W249
            have F257 := F243.other W249 (Or.inl ne_b215_b223)
            have F258 := F244.other W249 (Or.inl ne_b215_b223)
            have N259 := Fr.snoc X249 N245 g_b223
            have K260 : Keep h0 h249 [] := K246.wr W249 (Or.inr sz_b223)
            have S261 : own_G p e below s0 T249 m 110 #[iv n_, iv c0, iv c1, iv c2, iv c3, iv c4, iv c5] [(.int c2), (.int 2), (.ref b223), (.ref b223), (.ref b215), (.ref b215)] := fun t kt => by
              refine S250 t ?_
              refine w_dup X249 hx hby d2_107 rfl ?_
              refine w_iconst X249 hx hby d2_108 ?_
              refine w_iloadN X249 hx hby d2_109 rfl ?_
              exact kt
            obtain ⟨cl262, Ar262, q262, Sz262, Nn262, Hh262, Gg262⟩ := id V251
            have hin262 : ¬ ((2 : Int32) < 0 ∨ cl262.slots.size ≤ ((2 : Int32)).toNatClampNeg) := inb_of Sz262 ⟨by decide, by decide⟩
            obtain ⟨T263, h263, X263, e263, W263, st263⟩ := stC X249 hx hZ e249 Ar262 (j := (2 : Int32)) hin262 (g := (mkF m 110 #[iv n_, iv c0, iv c1, iv c2, iv c3, iv c4, iv c5] [(.int c2), (.int 2), (.ref b223), (.ref b223), (.ref b215), (.ref b215)])) rfl rfl (hb hby d2_110)
            have S264 : own_G p e below s0 T263 m 111 #[iv n_, iv c0, iv c1, iv c2, iv c3, iv c4, iv c5] [(.ref b223), (.ref b215), (.ref b215)] := fun t kt => S261 t (st263 _ kt)
            have V265 := Arv.set Ar262 q262 Sz262 Nn262 Hh262 Gg262 (fits_nar_char _) W263 2 rfl (Nat.le_of_ble_eq_true rfl)
            have Sf266 := Safe.wr W263 Sf253 CR254.1 Sf252
            have Sf267 := Safe.wr W263 Sf253 CR254.1 Sf253
            have CR268 := CR254.trans (CHr.wr W263 Sf253 CR254.1)
            have F269 := F255.wr W263
            have F270 := F256.wr W263
            have F271 := F257.other W263 (Or.inl ne_b215_b223)
            have F272 := F258.other W263 (Or.inl ne_b215_b223)
            have N273 := Fr.snoc X263 N259 g_b223
            have K274 : Keep h0 h263 [] := K260.wr W263 (Or.inr sz_b223)
            have S275 : own_G p e below s0 T263 m 115 #[iv n_, iv c0, iv c1, iv c2, iv c3, iv c4, iv c5] [(.int c3), (.int 3), (.ref b223), (.ref b223), (.ref b215), (.ref b215)] := fun t kt => by
              refine S264 t ?_
              refine w_dup X263 hx hby d2_111 rfl ?_
              refine w_iconst X263 hx hby d2_112 ?_
              refine w_iload X263 hx hby d2_113 rfl ?_
              exact kt
            obtain ⟨cl276, Ar276, q276, Sz276, Nn276, Hh276, Gg276⟩ := id V265
            have hin276 : ¬ ((3 : Int32) < 0 ∨ cl276.slots.size ≤ ((3 : Int32)).toNatClampNeg) := inb_of Sz276 ⟨by decide, by decide⟩
            obtain ⟨T277, h277, X277, e277, W277, st277⟩ := stC X263 hx hZ e263 Ar276 (j := (3 : Int32)) hin276 (g := (mkF m 115 #[iv n_, iv c0, iv c1, iv c2, iv c3, iv c4, iv c5] [(.int c3), (.int 3), (.ref b223), (.ref b223), (.ref b215), (.ref b215)])) rfl rfl (hb hby d2_115)
            have S278 : own_G p e below s0 T277 m 116 #[iv n_, iv c0, iv c1, iv c2, iv c3, iv c4, iv c5] [(.ref b223), (.ref b215), (.ref b215)] := fun t kt => S275 t (st277 _ kt)
            have V279 := Arv.set Ar276 q276 Sz276 Nn276 Hh276 Gg276 (fits_nar_char _) W277 3 rfl (Nat.le_of_ble_eq_true rfl)
            have Sf280 := Safe.wr W277 Sf267 CR268.1 Sf266
            have Sf281 := Safe.wr W277 Sf267 CR268.1 Sf267
            have CR282 := CR268.trans (CHr.wr W277 Sf267 CR268.1)
            have F283 := F269.wr W277
            have F284 := F270.wr W277
            have F285 := F271.other W277 (Or.inl ne_b215_b223)
            have F286 := F272.other W277 (Or.inl ne_b215_b223)
            have N287 := Fr.snoc X277 N273 g_b223
            have K288 : Keep h0 h277 [] := K274.wr W277 (Or.inr sz_b223)
            obtain ⟨_, _, ⟨T291, L291, k291, n291⟩, -, X291, ⟨Lc291, hQ291, l291, y291, z291⟩, st291⟩ := X277.specialBack hx (y := own_y18) rfl hown (mvT hZ (own_w hw 21 rfl)) (mvT hZ (own_w hw 22 rfl)) (mvT hZ (own_w hw 23 rfl)) (by decide) (backOf (W := 1) (own_rm3k4 l Z a0 hw [] (b215) (b223) ((nar .char c0)) ((nar .char c1)) ((nar .char c2)) ((nar .char c3)) (k223) (cs) (.null) ((.int 0)) h277 n0 (Nat.le_trans Z0 K288.1) F284 g_b215 F285 F286 F283 hcs V279 (own_lat hb0) (own_lat hb1) (own_lat hb2) (own_lat hb3)) hZ (own_w hw 23 rfl) (own_w hw 9 rfl) (by decide) (by decide)) (g := (mkF m 116 #[iv n_, iv c0, iv c1, iv c2, iv c3, iv c4, iv c5] [(.ref b223), (.ref b215), (.ref b215)])) rfl (by rw [hml]; rfl) (Steps.refl _) (a := b215) (argsL := [(.ref b223)]) (rest := [(.ref b215)]) (lenOf own_pd14 rfl) rfl (by show 2 * 0 + _ ≤ _; exact Nat.le_of_eq rfl) (hb hby d2_116) (fun _ _ => ⟨rfl, e277, (by decide : 2 + 1 ≤ _), (by decide : 8 + 4 ≤ _)⟩)
            dsimp only [Pt.U, Pt.locs, Pt.cells, Pt.slots] at X291 l291 y291 z291 st291 hQ291
            subst l291 y291 z291
            obtain ⟨rfl, Nq291, Kc289, Ec289, Cc289, tb289, kt289, gt289, sz289, nat289, Fv289, Va289⟩ := hQ291
            have N292 := Fr.app N287 Nq291
            have S293 : own_G p e below s0 T291 m 119 #[iv n_, iv c0, iv c1, iv c2, iv c3, iv c4, iv c5] [(.ref b215)] := fun t kt => S278 t (st291.trans kt)
            have Sf294 := Safe.keep Kc289 (allS Sf280 all0) CR282.1 Sf280
            have Sf295 := Safe.keep Kc289 (allS Sf280 all0) CR282.1 Sf281
            have CR296 := CR282.trans (CHr.keep Kc289 (allS Sf280 all0) CR282.1)
            have F297 := own_StaK F283 Kc289 (allS (own_ExaS F284) all0)
            have F298 := F284.keep Kc289
            have F299 := V279.keep Kc289 (ninS (Ne.symm ne_b215_b223) nin0)
            have K300 : Keep h0 T291.heap [] := K288.trans Kc289 (allS (Or.inr sz_b215) all0)
            have ne_b223_tb289 : b223 ≠ tb289 := Nat.ne_of_lt (Nat.lt_of_lt_of_le V279.lt sz289)
            obtain ⟨fs, hr, hrun, hended, -, hW, hBk, hsame⟩ := X291.leaveW hS0 ((Nat.le_trans (Nat.le_trans (Nat.le_trans (Nat.le_trans (Nat.le_trans (Nat.le_trans (Nat.le_trans (Nat.le_refl _) E215.1) E223.1) (Keep.of_wr W235).1) (Keep.of_wr W249).1) (Keep.of_wr W263).1) (Keep.of_wr W277).1) Kc289.1)) (v := some (.ref b215)) (fun h => by rw [Bd.returns] at h; cases h)
            refine ⟨_, _, S293 _ ?_, hrun, hended, _, _, rfl, ?_, (by show CHr Z own_EL s.vm s.heap T291.vm T291.heap; rw [hh]; exact CR296.trans (CHv.at X291 hZ hEL CR296.1)), ⟨_, rfl⟩, hW, hBk, hsame.mono (by decide) (by decide)⟩
            · show Steps p.tables e below (T291.setTop (mkF m 119 #[iv n_, iv c0, iv c1, iv c2, iv c3, iv c4, iv c5] [(.ref b215)])) _
              jvm_step X291.here [X291.here.top, hx, (hb hby d2_119), X291.method', Bd.returns, Value.isRef, FieldType.isReference]
              first | (intro acts; rw [hr _ acts rfl rfl rfl]) | rw [hr _ _ rfl rfl rfl]
              exact Steps.refl _
            · show own_Q2 Z n_ c0 c1 c2 c3 c4 c5 cs h0 n0 _ T291.heap _
              exact ⟨b215, tb289, kt289, rfl, N292, K300, Ec289, Cc289, Fv289, (by have q := Va289; unfold own_bs; rw [if_neg hc1, if_neg hc17, if_neg hc37, if_neg hc61, if_pos hc89]; have e : n_ = (4 : Int32) := hc89; rw [e]; exact q)⟩
          · skip
            have S301 : own_G p e below s0 s₁ m 122 #[iv n_, iv c0, iv c1, iv c2, iv c3, iv c4, iv c5] [(.int 5), (.int n_)] := fun t kt => by
              refine S213 t ?_
              refine w_icmpYes X0 hx hby (pc' := 120) d2_89 (feq hc89).2 (by decide) ?_
              refine w_iloadN X0 hx hby d2_120 rfl ?_
              refine w_iconst X0 hx hby d2_121 ?_
              exact kt
            by_cases hc122 : n_ = (5 : Int32)
            · skip
              have S302 : own_G p e below s0 s₁ m 125 #[iv n_, iv c0, iv c1, iv c2, iv c3, iv c4, iv c5] [] := fun t kt => by
                refine S301 t ?_
                refine w_icmpNo X0 hx hby d2_122 (teq hc122).2 ?_
                exact kt
              obtain ⟨T303, h303, X303, e303, E303, A303, D303, -, st303⟩ := newO X0 hx hZ hown (own_w hw 19 rfl) (own_w hw 10 rfl) (own_w hw 9 rfl) e0 (g := (mkF m 125 #[iv n_, iv c0, iv c1, iv c2, iv c3, iv c4, iv c5] [])) rfl (hb hby d2_125) (by decide) (by decide)
              obtain ⟨b303, g303⟩ : ∃ z, z = h0.size := ⟨_, rfl⟩
              rw [← g303] at A303 D303 st303
              have S304 : own_G p e below s0 T303 m 128 #[iv n_, iv c0, iv c1, iv c2, iv c3, iv c4, iv c5] [(.ref b303)] := fun t kt => S302 t (st303 _ kt)
              have Sf_b303 : Safe Z own_EL s.vm h303 b303 := Safe.ext E303 CR0.1 (Safe.new (Nat.le_of_eq g303.symm))
              have CR305 := CR0.trans (CHr.ext E303 CR0.1)
              have g_b303 : n0 ≤ b303 := Nat.le_trans Z0 (Nat.le_of_eq g303.symm)
              have sz_b303 : h0.size ≤ b303 := Nat.le_trans (Keep.refl h0 []).1 (Nat.le_of_eq g303.symm)
              have F306 := S_CS.ext E303
              have K307 : Keep h0 h303 [] := (Keep.refl h0 []).ext E303
              have F308 : Fld Z h303 b303 "java/lang/String" "value" "[B" .null := D303 (Or.inr (own_w hw 12 rfl)) (ty := (.array .byte)) (by decide)
              have F309 : Fld Z h303 b303 "java/lang/String" "coder" "B" (.int 0) := D303 (Or.inr (own_w hw 13 rfl)) (ty := .byte) (by decide)
              have S310 : own_G p e below s0 T303 m 130 #[iv n_, iv c0, iv c1, iv c2, iv c3, iv c4, iv c5] [(.int 5), (.ref b303), (.ref b303)] := fun t kt => by
                refine S304 t ?_
                refine w_dup X303 hx hby d2_128 rfl ?_
                refine w_iconst X303 hx hby d2_129 ?_
                exact kt
              obtain ⟨T311, h311, k311, X311, e311, E311, A311, st311⟩ := newP X303 hx hZ (own_w hw 20 rfl) e303 (g := (mkF m 130 #[iv n_, iv c0, iv c1, iv c2, iv c3, iv c4, iv c5] [(.int 5), (.ref b303), (.ref b303)])) rfl (hb hby d2_130) rfl (by decide) (cap := 5) (by decide) (by decide) (by decide) (by decide)
              obtain ⟨b311, g311⟩ : ∃ z, z = h303.size := ⟨_, rfl⟩
              rw [← g311] at A311 st311
              have S312 : own_G p e below s0 T311 m 132 #[iv n_, iv c0, iv c1, iv c2, iv c3, iv c4, iv c5] [(.ref b311), (.ref b303), (.ref b303)] := fun t kt => S310 t (st311 _ kt)
              have Sf_b311 : Safe Z own_EL s.vm h311 b311 := Safe.ext E311 CR305.1 (Safe.new (Nat.le_of_eq g311.symm))
              have Sf313 := Safe.ext E311 CR305.1 Sf_b303
              have CR314 := CR305.trans (CHr.ext E311 CR305.1)
              have g_b311 : n0 ≤ b311 := Nat.le_trans (Nat.le_trans Z0 K307.1) (Nat.le_of_eq g311.symm)
              have sz_b311 : h0.size ≤ b311 := Nat.le_trans K307.1 (Nat.le_of_eq g311.symm)
              have ne_b303_b311 : b303 ≠ b311 := Nat.ne_of_lt (Nat.lt_of_lt_of_le A303.lt (Nat.le_of_eq g311.symm))
              have F315 := F306.ext E311
              have F316 := A303.ext E311
              have F317 := F308.ext E311
              have F318 := F309.ext E311
              have K319 : Keep h0 h311 [] := K307.ext E311
              have V320 : Arv Z h311 b311 k311 .char (5 : Int32) [(.int 0), (.int 0), (.int 0), (.int 0), (.int 0)] (.int 0) := (Arv.new A311 (by decide)).pad (pad_rep [] (.int 0) 5)
              have S321 : own_G p e below s0 T311 m 135 #[iv n_, iv c0, iv c1, iv c2, iv c3, iv c4, iv c5] [(.int c0), (.int 0), (.ref b311), (.ref b311), (.ref b303), (.ref b303)] := fun t kt => by
                refine S312 t ?_
                refine w_dup X311 hx hby d2_132 rfl ?_
                refine w_iconst X311 hx hby d2_133 ?_
                refine w_iloadN X311 hx hby d2_134 rfl ?_
                exact kt
              obtain ⟨cl322, Ar322, q322, Sz322, Nn322, Hh322, Gg322⟩ := id V320
              have hin322 : ¬ ((0 : Int32) < 0 ∨ cl322.slots.size ≤ ((0 : Int32)).toNatClampNeg) := inb_of Sz322 ⟨by decide, by decide⟩
              obtain ⟨T323, h323, X323, e323, W323, st323⟩ := stC X311 hx hZ e311 Ar322 (j := (0 : Int32)) hin322 (g := (mkF m 135 #[iv n_, iv c0, iv c1, iv c2, iv c3, iv c4, iv c5] [(.int c0), (.int 0), (.ref b311), (.ref b311), (.ref b303), (.ref b303)])) rfl rfl (hb hby d2_135)
              have S324 : own_G p e below s0 T323 m 136 #[iv n_, iv c0, iv c1, iv c2, iv c3, iv c4, iv c5] [(.ref b311), (.ref b303), (.ref b303)] := fun t kt => S321 t (st323 _ kt)
              have V325 := Arv.set Ar322 q322 Sz322 Nn322 Hh322 Gg322 (fits_nar_char _) W323 0 rfl (Nat.le_of_ble_eq_true rfl)
              have Sf326 := Safe.wr W323 Sf_b311 CR314.1 Sf313
              have Sf327 := Safe.wr W323 Sf_b311 CR314.1 Sf_b311
              have CR328 := CR314.trans (CHr.wr W323 Sf_b311 CR314.1)
              have F329 := F315.wr W323
              have F330 := F316.wr W323
              have F331 := F317.other W323 (Or.inl ne_b303_b311)
              have F332 := F318.other W323 (Or.inl ne_b303_b311)
              have N333 := Fr.snoc X323 N0 g_b311
              have K334 : Keep h0 h323 [] := K319.wr W323 (Or.inr sz_b311)
              have S335 : own_G p e below s0 T323 m 139 #[iv n_, iv c0, iv c1, iv c2, iv c3, iv c4, iv c5] [(.int c1), (.int 1), (.ref b311), (.ref b311), (.ref b303), (.ref b303)] := fun t kt => by
                refine S324 t ?_
                refine w_dup X323 hx hby d2_136 rfl ?_
                refine w_iconst X323 hx hby d2_137 ?_
                refine w_iloadN X323 hx hby d2_138 rfl ?_
                exact kt
              obtain ⟨cl336, Ar336, q336, Sz336, Nn336, Hh336, Gg336⟩ := id V325
              have hin336 : ¬ ((1 : Int32) < 0 ∨ cl336.slots.size ≤ ((1 : Int32)).toNatClampNeg) := inb_of Sz336 ⟨by decide, by decide⟩
              obtain ⟨T337, h337, X337, e337, W337, st337⟩ := stC X323 hx hZ e323 Ar336 (j := (1 : Int32)) hin336 (g := (mkF m 139 #[iv n_, iv c0, iv c1, iv c2, iv c3, iv c4, iv c5] [(.int c1), (.int 1), (.ref b311), (.ref b311), (.ref b303), (.ref b303)])) rfl rfl (hb hby d2_139)
              have S338 : own_G p e below s0 T337 m 140 #[iv n_, iv c0, iv c1, iv c2, iv c3, iv c4, iv c5] [(.ref b311), (.ref b303), (.ref b303)] := fun t kt => S335 t (st337 _ kt)
              have V339 := Arv.set Ar336 q336 Sz336 Nn336 Hh336 Gg336 (fits_nar_char _) W337 1 rfl (Nat.le_of_ble_eq_true rfl)
              have Sf340 := Safe.wr W337 Sf327 CR328.1 Sf326
              have Sf341 := Safe.wr W337 Sf327 CR328.1 Sf327
              have CR342 := CR328.trans (CHr.wr W337 Sf327 CR328.1)
              have F343 := F329.wr W337
              have F344 := F330.wr W337
              have F345 := F331.other W337 (Or.inl ne_b303_b311)
              have F346 := F332.other W337 (Or.inl ne_b303_b311)
              have N347 := Fr.snoc X337 N333 g_b311
              have K348 : Keep h0 h337 [] := K334.wr W337 (Or.inr sz_b311)
              have S349 : own_G p e below s0 T337 m 143 #[iv n_, iv c0, iv c1, iv c2, iv c3, iv c4, iv c5] [(.int c2), (.int 2), (.ref b311), (.ref b311), (.ref b303), (.ref b303)] := fun t kt => by
                refine S338 t ?_
                refine w_dup X337 hx hby d2_140 rfl ?_
                refine w_iconst X337 hx hby d2_141 ?_
                refine w_iloadN X337 hx hby d2_142 rfl ?_
                exact kt
              obtain ⟨cl350, Ar350, q350, Sz350, Nn350, Hh350, Gg350⟩ := id V339
              have hin350 : ¬ ((2 : Int32) < 0 ∨ cl350.slots.size ≤ ((2 : Int32)).toNatClampNeg) := inb_of Sz350 ⟨by decide, by decide⟩
              obtain ⟨T351, h351, X351, e351, W351, st351⟩ := stC X337 hx hZ e337 Ar350 (j := (2 : Int32)) hin350 (g := (mkF m 143 #[iv n_, iv c0, iv c1, iv c2, iv c3, iv c4, iv c5] [(.int c2), (.int 2), (.ref b311), (.ref b311), (.ref b303), (.ref b303)])) rfl rfl (hb hby d2_143)
              have S352 : own_G p e below s0 T351 m 144 #[iv n_, iv c0, iv c1, iv c2, iv c3, iv c4, iv c5] [(.ref b311), (.ref b303), (.ref b303)] := fun t kt => S349 t (st351 _ kt)
              have V353 := Arv.set Ar350 q350 Sz350 Nn350 Hh350 Gg350 (fits_nar_char _) W351 2 rfl (Nat.le_of_ble_eq_true rfl)
              have Sf354 := Safe.wr W351 Sf341 CR342.1 Sf340
              have Sf355 := Safe.wr W351 Sf341 CR342.1 Sf341
              have CR356 := CR342.trans (CHr.wr W351 Sf341 CR342.1)
              have F357 := F343.wr W351
              have F358 := F344.wr W351
              have F359 := F345.other W351 (Or.inl ne_b303_b311)
              have F360 := F346.other W351 (Or.inl ne_b303_b311)
              have N361 := Fr.snoc X351 N347 g_b311
              have K362 : Keep h0 h351 [] := K348.wr W351 (Or.inr sz_b311)
              have S363 : own_G p e below s0 T351 m 148 #[iv n_, iv c0, iv c1, iv c2, iv c3, iv c4, iv c5] [(.int c3), (.int 3), (.ref b311), (.ref b311), (.ref b303), (.ref b303)] := fun t kt => by
                refine S352 t ?_
                refine w_dup X351 hx hby d2_144 rfl ?_
                refine w_iconst X351 hx hby d2_145 ?_
                refine w_iload X351 hx hby d2_146 rfl ?_
                exact kt
              obtain ⟨cl364, Ar364, q364, Sz364, Nn364, Hh364, Gg364⟩ := id V353
              have hin364 : ¬ ((3 : Int32) < 0 ∨ cl364.slots.size ≤ ((3 : Int32)).toNatClampNeg) := inb_of Sz364 ⟨by decide, by decide⟩
              obtain ⟨T365, h365, X365, e365, W365, st365⟩ := stC X351 hx hZ e351 Ar364 (j := (3 : Int32)) hin364 (g := (mkF m 148 #[iv n_, iv c0, iv c1, iv c2, iv c3, iv c4, iv c5] [(.int c3), (.int 3), (.ref b311), (.ref b311), (.ref b303), (.ref b303)])) rfl rfl (hb hby d2_148)
              have S366 : own_G p e below s0 T365 m 149 #[iv n_, iv c0, iv c1, iv c2, iv c3, iv c4, iv c5] [(.ref b311), (.ref b303), (.ref b303)] := fun t kt => S363 t (st365 _ kt)
              have V367 := Arv.set Ar364 q364 Sz364 Nn364 Hh364 Gg364 (fits_nar_char _) W365 3 rfl (Nat.le_of_ble_eq_true rfl)
              have Sf368 := Safe.wr W365 Sf355 CR356.1 Sf354
              have Sf369 := Safe.wr W365 Sf355 CR356.1 Sf355
              have CR370 := CR356.trans (CHr.wr W365 Sf355 CR356.1)
              have F371 := F357.wr W365
              have F372 := F358.wr W365
              have F373 := F359.other W365 (Or.inl ne_b303_b311)
              have F374 := F360.other W365 (Or.inl ne_b303_b311)
              have N375 := Fr.snoc X365 N361 g_b311
              have K376 : Keep h0 h365 [] := K362.wr W365 (Or.inr sz_b311)
              have S377 : own_G p e below s0 T365 m 153 #[iv n_, iv c0, iv c1, iv c2, iv c3, iv c4, iv c5] [(.int c4), (.int 4), (.ref b311), (.ref b311), (.ref b303), (.ref b303)] := fun t kt => by
                refine S366 t ?_
                refine w_dup X365 hx hby d2_149 rfl ?_
                refine w_iconst X365 hx hby d2_150 ?_
                refine w_iload X365 hx hby d2_151 rfl ?_
                exact kt
              obtain ⟨cl378, Ar378, q378, Sz378, Nn378, Hh378, Gg378⟩ := id V367
              have hin378 : ¬ ((4 : Int32) < 0 ∨ cl378.slots.size ≤ ((4 : Int32)).toNatClampNeg) := inb_of Sz378 ⟨by decide, by decide⟩
              obtain ⟨T379, h379, X379, e379, W379, st379⟩ := stC X365 hx hZ e365 Ar378 (j := (4 : Int32)) hin378 (g := (mkF m 153 #[iv n_, iv c0, iv c1, iv c2, iv c3, iv c4, iv c5] [(.int c4), (.int 4), (.ref b311), (.ref b311), (.ref b303), (.ref b303)])) rfl rfl (hb hby d2_153)
              have S380 : own_G p e below s0 T379 m 154 #[iv n_, iv c0, iv c1, iv c2, iv c3, iv c4, iv c5] [(.ref b311), (.ref b303), (.ref b303)] := fun t kt => S377 t (st379 _ kt)
              have V381 := Arv.set Ar378 q378 Sz378 Nn378 Hh378 Gg378 (fits_nar_char _) W379 4 rfl (Nat.le_of_ble_eq_true rfl)
              have Sf382 := Safe.wr W379 Sf369 CR370.1 Sf368
              have Sf383 := Safe.wr W379 Sf369 CR370.1 Sf369
              have CR384 := CR370.trans (CHr.wr W379 Sf369 CR370.1)
              have F385 := F371.wr W379
              have F386 := F372.wr W379
              have F387 := F373.other W379 (Or.inl ne_b303_b311)
              have F388 := F374.other W379 (Or.inl ne_b303_b311)
              have N389 := Fr.snoc X379 N375 g_b311
              have K390 : Keep h0 h379 [] := K376.wr W379 (Or.inr sz_b311)
              obtain ⟨_, _, ⟨T393, L393, k393, n393⟩, -, X393, ⟨Lc393, hQ393, l393, y393, z393⟩, st393⟩ := X379.specialBack hx (y := own_y18) rfl hown (mvT hZ (own_w hw 21 rfl)) (mvT hZ (own_w hw 22 rfl)) (mvT hZ (own_w hw 23 rfl)) (by decide) (backOf (W := 1) (own_rm3k5 l Z a0 hw [] (b303) (b311) ((nar .char c0)) ((nar .char c1)) ((nar .char c2)) ((nar .char c3)) ((nar .char c4)) (k311) (cs) (.null) ((.int 0)) h379 n0 (Nat.le_trans Z0 K390.1) F386 g_b303 F387 F388 F385 hcs V381 (own_lat hb0) (own_lat hb1) (own_lat hb2) (own_lat hb3) (own_lat hb4)) hZ (own_w hw 23 rfl) (own_w hw 9 rfl) (by decide) (by decide)) (g := (mkF m 154 #[iv n_, iv c0, iv c1, iv c2, iv c3, iv c4, iv c5] [(.ref b311), (.ref b303), (.ref b303)])) rfl (by rw [hml]; rfl) (Steps.refl _) (a := b303) (argsL := [(.ref b311)]) (rest := [(.ref b303)]) (lenOf own_pd14 rfl) rfl (by show 2 * 0 + _ ≤ _; exact Nat.le_of_eq rfl) (hb hby d2_154) (fun _ _ => ⟨rfl, e379, (by decide : 2 + 1 ≤ _), (by decide : 9 + 5 ≤ _)⟩)
              dsimp only [Pt.U, Pt.locs, Pt.cells, Pt.slots] at X393 l393 y393 z393 st393 hQ393
              subst l393 y393 z393
              obtain ⟨rfl, Nq393, Kc391, Ec391, Cc391, tb391, kt391, gt391, sz391, nat391, Fv391, Va391⟩ := hQ393
              have N394 := Fr.app N389 Nq393
              have S395 : own_G p e below s0 T393 m 157 #[iv n_, iv c0, iv c1, iv c2, iv c3, iv c4, iv c5] [(.ref b303)] := fun t kt => S380 t (st393.trans kt)
              have Sf396 := Safe.keep Kc391 (allS Sf382 all0) CR384.1 Sf382
              have Sf397 := Safe.keep Kc391 (allS Sf382 all0) CR384.1 Sf383
              have CR398 := CR384.trans (CHr.keep Kc391 (allS Sf382 all0) CR384.1)
              have F399 := own_StaK F385 Kc391 (allS (own_ExaS F386) all0)
              have F400 := F386.keep Kc391
              have F401 := V381.keep Kc391 (ninS (Ne.symm ne_b303_b311) nin0)
              have K402 : Keep h0 T393.heap [] := K390.trans Kc391 (allS (Or.inr sz_b303) all0)
              have ne_b311_tb391 : b311 ≠ tb391 := Nat.ne_of_lt (Nat.lt_of_lt_of_le V381.lt sz391)
              obtain ⟨fs, hr, hrun, hended, -, hW, hBk, hsame⟩ := X393.leaveW hS0 ((Nat.le_trans (Nat.le_trans (Nat.le_trans (Nat.le_trans (Nat.le_trans (Nat.le_trans (Nat.le_trans (Nat.le_trans (Nat.le_refl _) E303.1) E311.1) (Keep.of_wr W323).1) (Keep.of_wr W337).1) (Keep.of_wr W351).1) (Keep.of_wr W365).1) (Keep.of_wr W379).1) Kc391.1)) (v := some (.ref b303)) (fun h => by rw [Bd.returns] at h; cases h)
              refine ⟨_, _, S395 _ ?_, hrun, hended, _, _, rfl, ?_, (by show CHr Z own_EL s.vm s.heap T393.vm T393.heap; rw [hh]; exact CR398.trans (CHv.at X393 hZ hEL CR398.1)), ⟨_, rfl⟩, hW, hBk, hsame.mono (by decide) (by decide)⟩
              · show Steps p.tables e below (T393.setTop (mkF m 157 #[iv n_, iv c0, iv c1, iv c2, iv c3, iv c4, iv c5] [(.ref b303)])) _
                jvm_step X393.here [X393.here.top, hx, (hb hby d2_157), X393.method', Bd.returns, Value.isRef, FieldType.isReference]
                first | (intro acts; rw [hr _ acts rfl rfl rfl]) | rw [hr _ _ rfl rfl rfl]
                exact Steps.refl _
              · show own_Q2 Z n_ c0 c1 c2 c3 c4 c5 cs h0 n0 _ T393.heap _
                exact ⟨b303, tb391, kt391, rfl, N394, K402, Ec391, Cc391, Fv391, (by have q := Va391; unfold own_bs; rw [if_neg hc1, if_neg hc17, if_neg hc37, if_neg hc61, if_neg hc89, if_pos hc122]; have e : n_ = (5 : Int32) := hc122; rw [e]; exact q)⟩
            · skip
              have S403 : own_G p e below s0 s₁ m 158 #[iv n_, iv c0, iv c1, iv c2, iv c3, iv c4, iv c5] [] := fun t kt => by
                refine S301 t ?_
                refine w_icmpYes X0 hx hby (pc' := 158) d2_122 (feq hc122).2 (by decide) ?_
                exact kt
              obtain ⟨T404, h404, X404, e404, E404, A404, D404, -, st404⟩ := newO X0 hx hZ hown (own_w hw 19 rfl) (own_w hw 10 rfl) (own_w hw 9 rfl) e0 (g := (mkF m 158 #[iv n_, iv c0, iv c1, iv c2, iv c3, iv c4, iv c5] [])) rfl (hb hby d2_158) (by decide) (by decide)
              obtain ⟨b404, g404⟩ : ∃ z, z = h0.size := ⟨_, rfl⟩
              rw [← g404] at A404 D404 st404
              have S405 : own_G p e below s0 T404 m 161 #[iv n_, iv c0, iv c1, iv c2, iv c3, iv c4, iv c5] [(.ref b404)] := fun t kt => S403 t (st404 _ kt)
              have Sf_b404 : Safe Z own_EL s.vm h404 b404 := Safe.ext E404 CR0.1 (Safe.new (Nat.le_of_eq g404.symm))
              have CR406 := CR0.trans (CHr.ext E404 CR0.1)
              have g_b404 : n0 ≤ b404 := Nat.le_trans Z0 (Nat.le_of_eq g404.symm)
              have sz_b404 : h0.size ≤ b404 := Nat.le_trans (Keep.refl h0 []).1 (Nat.le_of_eq g404.symm)
              have F407 := S_CS.ext E404
              have K408 : Keep h0 h404 [] := (Keep.refl h0 []).ext E404
              have F409 : Fld Z h404 b404 "java/lang/String" "value" "[B" .null := D404 (Or.inr (own_w hw 12 rfl)) (ty := (.array .byte)) (by decide)
              have F410 : Fld Z h404 b404 "java/lang/String" "coder" "B" (.int 0) := D404 (Or.inr (own_w hw 13 rfl)) (ty := .byte) (by decide)
              have S411 : own_G p e below s0 T404 m 164 #[iv n_, iv c0, iv c1, iv c2, iv c3, iv c4, iv c5] [(.int 6), (.ref b404), (.ref b404)] := fun t kt => by
                refine S405 t ?_
                refine w_dup X404 hx hby d2_161 rfl ?_
                refine w_bipush X404 hx hby d2_162 ?_
                exact kt
              obtain ⟨T412, h412, k412, X412, e412, E412, A412, st412⟩ := newP X404 hx hZ (own_w hw 20 rfl) e404 (g := (mkF m 164 #[iv n_, iv c0, iv c1, iv c2, iv c3, iv c4, iv c5] [(.int 6), (.ref b404), (.ref b404)])) rfl (hb hby d2_164) rfl (by decide) (cap := 6) (by decide) (by decide) (by decide) (by decide)
              obtain ⟨b412, g412⟩ : ∃ z, z = h404.size := ⟨_, rfl⟩
              rw [← g412] at A412 st412
              have S413 : own_G p e below s0 T412 m 166 #[iv n_, iv c0, iv c1, iv c2, iv c3, iv c4, iv c5] [(.ref b412), (.ref b404), (.ref b404)] := fun t kt => S411 t (st412 _ kt)
              have Sf_b412 : Safe Z own_EL s.vm h412 b412 := Safe.ext E412 CR406.1 (Safe.new (Nat.le_of_eq g412.symm))
              have Sf414 := Safe.ext E412 CR406.1 Sf_b404
              have CR415 := CR406.trans (CHr.ext E412 CR406.1)
              have g_b412 : n0 ≤ b412 := Nat.le_trans (Nat.le_trans Z0 K408.1) (Nat.le_of_eq g412.symm)
              have sz_b412 : h0.size ≤ b412 := Nat.le_trans K408.1 (Nat.le_of_eq g412.symm)
              have ne_b404_b412 : b404 ≠ b412 := Nat.ne_of_lt (Nat.lt_of_lt_of_le A404.lt (Nat.le_of_eq g412.symm))
              have F416 := F407.ext E412
              have F417 := A404.ext E412
              have F418 := F409.ext E412
              have F419 := F410.ext E412
              have K420 : Keep h0 h412 [] := K408.ext E412
              have V421 : Arv Z h412 b412 k412 .char (6 : Int32) [(.int 0), (.int 0), (.int 0), (.int 0), (.int 0), (.int 0)] (.int 0) := (Arv.new A412 (by decide)).pad (pad_rep [] (.int 0) 6)
              have S422 : own_G p e below s0 T412 m 169 #[iv n_, iv c0, iv c1, iv c2, iv c3, iv c4, iv c5] [(.int c0), (.int 0), (.ref b412), (.ref b412), (.ref b404), (.ref b404)] := fun t kt => by
                refine S413 t ?_
                refine w_dup X412 hx hby d2_166 rfl ?_
                refine w_iconst X412 hx hby d2_167 ?_
                refine w_iloadN X412 hx hby d2_168 rfl ?_
                exact kt
              obtain ⟨cl423, Ar423, q423, Sz423, Nn423, Hh423, Gg423⟩ := id V421
              have hin423 : ¬ ((0 : Int32) < 0 ∨ cl423.slots.size ≤ ((0 : Int32)).toNatClampNeg) := inb_of Sz423 ⟨by decide, by decide⟩
              obtain ⟨T424, h424, X424, e424, W424, st424⟩ := stC X412 hx hZ e412 Ar423 (j := (0 : Int32)) hin423 (g := (mkF m 169 #[iv n_, iv c0, iv c1, iv c2, iv c3, iv c4, iv c5] [(.int c0), (.int 0), (.ref b412), (.ref b412), (.ref b404), (.ref b404)])) rfl rfl (hb hby d2_169)
              have S425 : own_G p e below s0 T424 m 170 #[iv n_, iv c0, iv c1, iv c2, iv c3, iv c4, iv c5] [(.ref b412), (.ref b404), (.ref b404)] := fun t kt => S422 t (st424 _ kt)
              have V426 := Arv.set Ar423 q423 Sz423 Nn423 Hh423 Gg423 (fits_nar_char _) W424 0 rfl (Nat.le_of_ble_eq_true rfl)
              have Sf427 := Safe.wr W424 Sf_b412 CR415.1 Sf414
              have Sf428 := Safe.wr W424 Sf_b412 CR415.1 Sf_b412
              have CR429 := CR415.trans (CHr.wr W424 Sf_b412 CR415.1)
              have F430 := F416.wr W424
              have F431 := F417.wr W424
              have F432 := F418.other W424 (Or.inl ne_b404_b412)
              have F433 := F419.other W424 (Or.inl ne_b404_b412)
              have N434 := Fr.snoc X424 N0 g_b412
              have K435 : Keep h0 h424 [] := K420.wr W424 (Or.inr sz_b412)
              have S436 : own_G p e below s0 T424 m 173 #[iv n_, iv c0, iv c1, iv c2, iv c3, iv c4, iv c5] [(.int c1), (.int 1), (.ref b412), (.ref b412), (.ref b404), (.ref b404)] := fun t kt => by
                refine S425 t ?_
                refine w_dup X424 hx hby d2_170 rfl ?_
                refine w_iconst X424 hx hby d2_171 ?_
                refine w_iloadN X424 hx hby d2_172 rfl ?_
                exact kt
              obtain ⟨cl437, Ar437, q437, Sz437, Nn437, Hh437, Gg437⟩ := id V426
              have hin437 : ¬ ((1 : Int32) < 0 ∨ cl437.slots.size ≤ ((1 : Int32)).toNatClampNeg) := inb_of Sz437 ⟨by decide, by decide⟩
              obtain ⟨T438, h438, X438, e438, W438, st438⟩ := stC X424 hx hZ e424 Ar437 (j := (1 : Int32)) hin437 (g := (mkF m 173 #[iv n_, iv c0, iv c1, iv c2, iv c3, iv c4, iv c5] [(.int c1), (.int 1), (.ref b412), (.ref b412), (.ref b404), (.ref b404)])) rfl rfl (hb hby d2_173)
              have S439 : own_G p e below s0 T438 m 174 #[iv n_, iv c0, iv c1, iv c2, iv c3, iv c4, iv c5] [(.ref b412), (.ref b404), (.ref b404)] := fun t kt => S436 t (st438 _ kt)
              have V440 := Arv.set Ar437 q437 Sz437 Nn437 Hh437 Gg437 (fits_nar_char _) W438 1 rfl (Nat.le_of_ble_eq_true rfl)
              have Sf441 := Safe.wr W438 Sf428 CR429.1 Sf427
              have Sf442 := Safe.wr W438 Sf428 CR429.1 Sf428
              have CR443 := CR429.trans (CHr.wr W438 Sf428 CR429.1)
              have F444 := F430.wr W438
              have F445 := F431.wr W438
              have F446 := F432.other W438 (Or.inl ne_b404_b412)
              have F447 := F433.other W438 (Or.inl ne_b404_b412)
              have N448 := Fr.snoc X438 N434 g_b412
              have K449 : Keep h0 h438 [] := K435.wr W438 (Or.inr sz_b412)
              have S450 : own_G p e below s0 T438 m 177 #[iv n_, iv c0, iv c1, iv c2, iv c3, iv c4, iv c5] [(.int c2), (.int 2), (.ref b412), (.ref b412), (.ref b404), (.ref b404)] := fun t kt => by
                refine S439 t ?_
                refine w_dup X438 hx hby d2_174 rfl ?_
                refine w_iconst X438 hx hby d2_175 ?_
                refine w_iloadN X438 hx hby d2_176 rfl ?_
                exact kt
              obtain ⟨cl451, Ar451, q451, Sz451, Nn451, Hh451, Gg451⟩ := id V440
              have hin451 : ¬ ((2 : Int32) < 0 ∨ cl451.slots.size ≤ ((2 : Int32)).toNatClampNeg) := inb_of Sz451 ⟨by decide, by decide⟩
              obtain ⟨T452, h452, X452, e452, W452, st452⟩ := stC X438 hx hZ e438 Ar451 (j := (2 : Int32)) hin451 (g := (mkF m 177 #[iv n_, iv c0, iv c1, iv c2, iv c3, iv c4, iv c5] [(.int c2), (.int 2), (.ref b412), (.ref b412), (.ref b404), (.ref b404)])) rfl rfl (hb hby d2_177)
              have S453 : own_G p e below s0 T452 m 178 #[iv n_, iv c0, iv c1, iv c2, iv c3, iv c4, iv c5] [(.ref b412), (.ref b404), (.ref b404)] := fun t kt => S450 t (st452 _ kt)
              have V454 := Arv.set Ar451 q451 Sz451 Nn451 Hh451 Gg451 (fits_nar_char _) W452 2 rfl (Nat.le_of_ble_eq_true rfl)
              have Sf455 := Safe.wr W452 Sf442 CR443.1 Sf441
              have Sf456 := Safe.wr W452 Sf442 CR443.1 Sf442
              have CR457 := CR443.trans (CHr.wr W452 Sf442 CR443.1)
              have F458 := F444.wr W452
              have F459 := F445.wr W452
              have F460 := F446.other W452 (Or.inl ne_b404_b412)
              have F461 := F447.other W452 (Or.inl ne_b404_b412)
              have N462 := Fr.snoc X452 N448 g_b412
              have K463 : Keep h0 h452 [] := K449.wr W452 (Or.inr sz_b412)
              have S464 : own_G p e below s0 T452 m 182 #[iv n_, iv c0, iv c1, iv c2, iv c3, iv c4, iv c5] [(.int c3), (.int 3), (.ref b412), (.ref b412), (.ref b404), (.ref b404)] := fun t kt => by
                refine S453 t ?_
                refine w_dup X452 hx hby d2_178 rfl ?_
                refine w_iconst X452 hx hby d2_179 ?_
                refine w_iload X452 hx hby d2_180 rfl ?_
                exact kt
              obtain ⟨cl465, Ar465, q465, Sz465, Nn465, Hh465, Gg465⟩ := id V454
              have hin465 : ¬ ((3 : Int32) < 0 ∨ cl465.slots.size ≤ ((3 : Int32)).toNatClampNeg) := inb_of Sz465 ⟨by decide, by decide⟩
              obtain ⟨T466, h466, X466, e466, W466, st466⟩ := stC X452 hx hZ e452 Ar465 (j := (3 : Int32)) hin465 (g := (mkF m 182 #[iv n_, iv c0, iv c1, iv c2, iv c3, iv c4, iv c5] [(.int c3), (.int 3), (.ref b412), (.ref b412), (.ref b404), (.ref b404)])) rfl rfl (hb hby d2_182)
              have S467 : own_G p e below s0 T466 m 183 #[iv n_, iv c0, iv c1, iv c2, iv c3, iv c4, iv c5] [(.ref b412), (.ref b404), (.ref b404)] := fun t kt => S464 t (st466 _ kt)
              have V468 := Arv.set Ar465 q465 Sz465 Nn465 Hh465 Gg465 (fits_nar_char _) W466 3 rfl (Nat.le_of_ble_eq_true rfl)
              have Sf469 := Safe.wr W466 Sf456 CR457.1 Sf455
              have Sf470 := Safe.wr W466 Sf456 CR457.1 Sf456
              have CR471 := CR457.trans (CHr.wr W466 Sf456 CR457.1)
              have F472 := F458.wr W466
              have F473 := F459.wr W466
              have F474 := F460.other W466 (Or.inl ne_b404_b412)
              have F475 := F461.other W466 (Or.inl ne_b404_b412)
              have N476 := Fr.snoc X466 N462 g_b412
              have K477 : Keep h0 h466 [] := K463.wr W466 (Or.inr sz_b412)
              have S478 : own_G p e below s0 T466 m 187 #[iv n_, iv c0, iv c1, iv c2, iv c3, iv c4, iv c5] [(.int c4), (.int 4), (.ref b412), (.ref b412), (.ref b404), (.ref b404)] := fun t kt => by
                refine S467 t ?_
                refine w_dup X466 hx hby d2_183 rfl ?_
                refine w_iconst X466 hx hby d2_184 ?_
                refine w_iload X466 hx hby d2_185 rfl ?_
                exact kt
              obtain ⟨cl479, Ar479, q479, Sz479, Nn479, Hh479, Gg479⟩ := id V468
              have hin479 : ¬ ((4 : Int32) < 0 ∨ cl479.slots.size ≤ ((4 : Int32)).toNatClampNeg) := inb_of Sz479 ⟨by decide, by decide⟩
              obtain ⟨T480, h480, X480, e480, W480, st480⟩ := stC X466 hx hZ e466 Ar479 (j := (4 : Int32)) hin479 (g := (mkF m 187 #[iv n_, iv c0, iv c1, iv c2, iv c3, iv c4, iv c5] [(.int c4), (.int 4), (.ref b412), (.ref b412), (.ref b404), (.ref b404)])) rfl rfl (hb hby d2_187)
              have S481 : own_G p e below s0 T480 m 188 #[iv n_, iv c0, iv c1, iv c2, iv c3, iv c4, iv c5] [(.ref b412), (.ref b404), (.ref b404)] := fun t kt => S478 t (st480 _ kt)
              have V482 := Arv.set Ar479 q479 Sz479 Nn479 Hh479 Gg479 (fits_nar_char _) W480 4 rfl (Nat.le_of_ble_eq_true rfl)
              have Sf483 := Safe.wr W480 Sf470 CR471.1 Sf469
              have Sf484 := Safe.wr W480 Sf470 CR471.1 Sf470
              have CR485 := CR471.trans (CHr.wr W480 Sf470 CR471.1)
              have F486 := F472.wr W480
              have F487 := F473.wr W480
              have F488 := F474.other W480 (Or.inl ne_b404_b412)
              have F489 := F475.other W480 (Or.inl ne_b404_b412)
              have N490 := Fr.snoc X480 N476 g_b412
              have K491 : Keep h0 h480 [] := K477.wr W480 (Or.inr sz_b412)
              have S492 : own_G p e below s0 T480 m 192 #[iv n_, iv c0, iv c1, iv c2, iv c3, iv c4, iv c5] [(.int c5), (.int 5), (.ref b412), (.ref b412), (.ref b404), (.ref b404)] := fun t kt => by
                refine S481 t ?_
                refine w_dup X480 hx hby d2_188 rfl ?_
                refine w_iconst X480 hx hby d2_189 ?_
                refine w_iload X480 hx hby d2_190 rfl ?_
                exact kt
              obtain ⟨cl493, Ar493, q493, Sz493, Nn493, Hh493, Gg493⟩ := id V482
              have hin493 : ¬ ((5 : Int32) < 0 ∨ cl493.slots.size ≤ ((5 : Int32)).toNatClampNeg) := inb_of Sz493 ⟨by decide, by decide⟩
              obtain ⟨T494, h494, X494, e494, W494, st494⟩ := stC X480 hx hZ e480 Ar493 (j := (5 : Int32)) hin493 (g := (mkF m 192 #[iv n_, iv c0, iv c1, iv c2, iv c3, iv c4, iv c5] [(.int c5), (.int 5), (.ref b412), (.ref b412), (.ref b404), (.ref b404)])) rfl rfl (hb hby d2_192)
              have S495 : own_G p e below s0 T494 m 193 #[iv n_, iv c0, iv c1, iv c2, iv c3, iv c4, iv c5] [(.ref b412), (.ref b404), (.ref b404)] := fun t kt => S492 t (st494 _ kt)
              have V496 := Arv.set Ar493 q493 Sz493 Nn493 Hh493 Gg493 (fits_nar_char _) W494 5 rfl (Nat.le_of_ble_eq_true rfl)
              have Sf497 := Safe.wr W494 Sf484 CR485.1 Sf483
              have Sf498 := Safe.wr W494 Sf484 CR485.1 Sf484
              have CR499 := CR485.trans (CHr.wr W494 Sf484 CR485.1)
              have F500 := F486.wr W494
              have F501 := F487.wr W494
              have F502 := F488.other W494 (Or.inl ne_b404_b412)
              have F503 := F489.other W494 (Or.inl ne_b404_b412)
              have N504 := Fr.snoc X494 N490 g_b412
              have K505 : Keep h0 h494 [] := K491.wr W494 (Or.inr sz_b412)
              obtain ⟨_, _, ⟨T508, L508, k508, n508⟩, -, X508, ⟨Lc508, hQ508, l508, y508, z508⟩, st508⟩ := X494.specialBack hx (y := own_y18) rfl hown (mvT hZ (own_w hw 21 rfl)) (mvT hZ (own_w hw 22 rfl)) (mvT hZ (own_w hw 23 rfl)) (by decide) (backOf (W := 1) (own_rm3k6 l Z a0 hw [] (b404) (b412) ((nar .char c0)) ((nar .char c1)) ((nar .char c2)) ((nar .char c3)) ((nar .char c4)) ((nar .char c5)) (k412) (cs) (.null) ((.int 0)) h494 n0 (Nat.le_trans Z0 K505.1) F501 g_b404 F502 F503 F500 hcs V496 (own_lat hb0) (own_lat hb1) (own_lat hb2) (own_lat hb3) (own_lat hb4) (own_lat hb5)) hZ (own_w hw 23 rfl) (own_w hw 9 rfl) (by decide) (by decide)) (g := (mkF m 193 #[iv n_, iv c0, iv c1, iv c2, iv c3, iv c4, iv c5] [(.ref b412), (.ref b404), (.ref b404)])) rfl (by rw [hml]; rfl) (Steps.refl _) (a := b404) (argsL := [(.ref b412)]) (rest := [(.ref b404)]) (lenOf own_pd14 rfl) rfl (by show 2 * 0 + _ ≤ _; exact Nat.le_of_eq rfl) (hb hby d2_193) (fun _ _ => ⟨rfl, e494, (by decide : 2 + 1 ≤ _), (by decide : 10 + 6 ≤ _)⟩)
              dsimp only [Pt.U, Pt.locs, Pt.cells, Pt.slots] at X508 l508 y508 z508 st508 hQ508
              subst l508 y508 z508
              obtain ⟨rfl, Nq508, Kc506, Ec506, Cc506, tb506, kt506, gt506, sz506, nat506, Fv506, Va506⟩ := hQ508
              have N509 := Fr.app N504 Nq508
              have S510 : own_G p e below s0 T508 m 196 #[iv n_, iv c0, iv c1, iv c2, iv c3, iv c4, iv c5] [(.ref b404)] := fun t kt => S495 t (st508.trans kt)
              have Sf511 := Safe.keep Kc506 (allS Sf497 all0) CR499.1 Sf497
              have Sf512 := Safe.keep Kc506 (allS Sf497 all0) CR499.1 Sf498
              have CR513 := CR499.trans (CHr.keep Kc506 (allS Sf497 all0) CR499.1)
              have F514 := own_StaK F500 Kc506 (allS (own_ExaS F501) all0)
              have F515 := F501.keep Kc506
              have F516 := V496.keep Kc506 (ninS (Ne.symm ne_b404_b412) nin0)
              have K517 : Keep h0 T508.heap [] := K505.trans Kc506 (allS (Or.inr sz_b404) all0)
              have ne_b412_tb506 : b412 ≠ tb506 := Nat.ne_of_lt (Nat.lt_of_lt_of_le V496.lt sz506)
              obtain ⟨fs, hr, hrun, hended, -, hW, hBk, hsame⟩ := X508.leaveW hS0 ((Nat.le_trans (Nat.le_trans (Nat.le_trans (Nat.le_trans (Nat.le_trans (Nat.le_trans (Nat.le_trans (Nat.le_trans (Nat.le_trans (Nat.le_refl _) E404.1) E412.1) (Keep.of_wr W424).1) (Keep.of_wr W438).1) (Keep.of_wr W452).1) (Keep.of_wr W466).1) (Keep.of_wr W480).1) (Keep.of_wr W494).1) Kc506.1)) (v := some (.ref b404)) (fun h => by rw [Bd.returns] at h; cases h)
              refine ⟨_, _, S510 _ ?_, hrun, hended, _, _, rfl, ?_, (by show CHr Z own_EL s.vm s.heap T508.vm T508.heap; rw [hh]; exact CR513.trans (CHv.at X508 hZ hEL CR513.1)), ⟨_, rfl⟩, hW, hBk, hsame.mono (by decide) (by decide)⟩
              · show Steps p.tables e below (T508.setTop (mkF m 196 #[iv n_, iv c0, iv c1, iv c2, iv c3, iv c4, iv c5] [(.ref b404)])) _
                jvm_step X508.here [X508.here.top, hx, (hb hby d2_196), X508.method', Bd.returns, Value.isRef, FieldType.isReference]
                first | (intro acts; rw [hr _ acts rfl rfl rfl]) | rw [hr _ _ rfl rfl rfl]
                exact Steps.refl _
              · show own_Q2 Z n_ c0 c1 c2 c3 c4 c5 cs h0 n0 _ T508.heap _
                exact ⟨b404, tb506, kt506, rfl, N509, K517, Ec506, Cc506, Fv506, (by have q := Va506; unfold own_bs; rw [if_neg hc1, if_neg hc17, if_neg hc37, if_neg hc61, if_neg hc89, if_neg hc122]; have e : n_ = (6 : Int32) := (own_six hN hc1 hc17 hc37 hc61 hc89 hc122); rw [e]; exact q)⟩
theorem own_pd15 : parseMethodDescriptor "(I)C" = some ⟨[.int], some .char⟩ := by decide +kernel
theorem own_pd16 : parseMethodDescriptor "(ICCCCCC)Ljava/lang/String;" = some ⟨[.int, .char, .char, .char, .char, .char, .char], some (.object "java/lang/String")⟩ := by decide +kernel
theorem own_pd17 : parseMethodDescriptor "(Ljava/lang/String;Ljava/lang/String;)V" = some ⟨[(.object "java/lang/String"), (.object "java/lang/String")], none⟩ := by decide +kernel
theorem own_pd18 : parseMethodDescriptor "(CII)I" = some ⟨[.char, .int, .int], some .int⟩ := by decide +kernel
theorem own_ef0 (m : MethodId) (x0 : Int32) (x1 : Int32) (x2 : Int32) (x3 : Int32) (x4 : Int32) : entryFrame m #[(.int x0), (.int x1), (.int x2), (.int x3), (.int x4)] maxLocals = mkF m 0 #[iv x0, iv x1, iv x2, iv x3, iv x4, .unset, .unset, .unset, .unset, .unset, .unset, .unset, .unset, .unset, .unset] [] := by first | (simp [entryFrame, mkF, argsToLocals, Value.category, maxLocals]; done) | rfl
def own_Q0 (Z : State) (lS : Int32) (oS : Int32) (p_ : Int32) (q_ : Int32) (r_ : Int32) (cs : Int32) (h0 : Heap) (n0 : Nat) (v : Option Value) (h : Heap) (L : List Loc) : Prop := v = some (.int 1) ∧ Fr n0 L
set_option maxHeartbeats 40000000 in
theorem own_rm0 (l : Launch) (Z : State) (a0 : Array Value) (hw : ∀ d ∈ tables_1, d.before a0 Z = true) (ws : List Jvm.Cond) (lS : Int32) (oS : Int32) (p_ : Int32) (q_ : Int32) (r_ : Int32) (cs : Int32) (h0 : Heap) (n0 : Nat) (Z0 : n0 ≤ h0.size) (S_CS : Sta Z h0 "java/lang/String" "COMPACT_STRINGS" "Z" (.int cs)) (hcs : ¬ cs = (0 : Int32)) :
    MetFree l x (head1 (Jvm.Cond.code x code maxLocals ret :: ws) room_1) (fun argv U => argv = #[(.int lS), (.int oS), (.int p_), (.int q_), (.int r_)] ∧ Z.Warmed39 U.vm ∧ U.heap = h0 ∧ CHv Z own_EL U.vm h0) (fun _ _ _ _ _ => True) (fun _ U o U' => ∃ v L, o = .returned v ∧ own_Q0 Z lS oS p_ q_ r_ cs h0 n0 v U'.heap L ∧ CHr Z own_EL U.vm U.heap U'.vm U'.heap ∧ ReturnedEndW U o U' L room_1.cells room_1.slots) := by
  refine MetFree.of_bodySF (plainFor_of_name own_pn5) hisR ?_
  intro p e s m args below meth c s₁ Bd hml0 hP hK
  obtain ⟨rfl, hZ, hh, hC0⟩ := hP
  have hx := Bd.exec
  have hby := Bd.bytes
  have hml : c.maxLocals = 15 := hml0
  have hown : s.vm.findClass "com/example/invariant_to_halt/invarianttohalt/reader/SourceTextLinePinLaw" = some m.cls := findClass_of_methodNamed Bd.named
  have hnm := (name_of_methodNamed Bd.named Bd.method).1
  have X0 : Stand p l e room_1 (s.setVm s.vm) m #[(.int lS), (.int oS), (.int p_), (.int q_), (.int r_)] below meth c s₁ [] 0 0 := Stand.of_body Bd
  have e0 : s₁.heap = h0 := by rw [← hh, Bd.state]; rfl
  have N0 := Fr.nil n0
  have pre_ : own_G p e below (s₁.setTop (entryFrame m #[(.int lS), (.int oS), (.int p_), (.int q_), (.int r_)] maxLocals)) s₁ m 0 #[iv lS, iv oS, iv p_, iv q_, iv r_, .unset, .unset, .unset, .unset, .unset, .unset, .unset, .unset, .unset, .unset] [] := fun t k => castTop (own_ef0 m lS oS p_ q_ r_) k
  obtain ⟨s0, hs0⟩ : ∃ z, z = (s₁.setTop (entryFrame m #[(.int lS), (.int oS), (.int p_), (.int q_), (.int r_)] maxLocals)) := ⟨_, rfl⟩
  have pre0 : own_G p e below s0 s₁ m 0 #[iv lS, iv oS, iv p_, iv q_, iv r_, .unset, .unset, .unset, .unset, .unset, .unset, .unset, .unset, .unset, .unset] [] := hs0 ▸ pre_
  rw [← hs0]
  have CR0 : CHr Z own_EL s.vm h0 s.vm h0 := CHr.refl hC0
  have hEL := own_EW hw
  have hS0 : s.Since s.vm h0.size := (State.WarmedH.refl s).since _
  have wS := own_wS hw
  obtain ⟨T1, n_, off, c0, c1, c2, c3, c4, c5, X1, e1, hr0, S1⟩ : ∃ (T' : State) (n_ : Int32) (off : Int32) (c0 : Int32) (c1 : Int32) (c2 : Int32) (c3 : Int32) (c4 : Int32) (c5 : Int32), own_like X0 T' ∧ T'.heap = h0 ∧ ((0 ≤ n_.toInt ∧ n_.toInt ≤ 6) ∧ (0 ≤ off.toInt ∧ off.toInt ≤ n_.toInt) ∧ (0 ≤ c0.toInt ∧ c0.toInt ≤ 255) ∧ (0 ≤ c1.toInt ∧ c1.toInt ≤ 255) ∧ (0 ≤ c2.toInt ∧ c2.toInt ≤ 255) ∧ (0 ≤ c3.toInt ∧ c3.toInt ≤ 255) ∧ (0 ≤ c4.toInt ∧ c4.toInt ≤ 255) ∧ (0 ≤ c5.toInt ∧ c5.toInt ≤ 255)) ∧ (own_G p e below s0 T' m 67 #[iv lS, iv oS, iv p_, iv q_, iv r_, iv n_, iv off, iv c0, iv c1, iv c2, iv c3, iv c4, iv c5, .unset, .unset] []) := by
    have S3 : own_G p e below s0 s₁ m 21 #[iv lS, iv oS, iv p_, iv q_, iv r_, iv ((lS &&& (2147483647 : Int32)) % (7 : Int32)), iv ((oS &&& (2147483647 : Int32)) % (((lS &&& (2147483647 : Int32)) % (7 : Int32)) + (1 : Int32))), .unset, .unset, .unset, .unset, .unset, .unset, .unset, .unset] [(.int p_)] := fun t kt => by
      refine pre0 t ?_
      refine w_iloadN X0 hx hby at_0 rfl ?_
      refine X0.ldcInt hx hown (mvT hZ (own_w hw 0 rfl)) (g := (mkF m 1 #[iv lS, iv oS, iv p_, iv q_, iv r_, .unset, .unset, .unset, .unset, .unset, .unset, .unset, .unset, .unset, .unset] [(.int lS)])) rfl (hb hby at_1) _ ?_
      refine w_iand X0 hx hby at_3 ?_
      refine w_bipush X0 hx hby at_4 ?_
      refine iremM X0 hx rfl (hb hby at_6) rfl (by decide) ?_
      refine w_istore X0 hx hby at_7 (l' := #[iv lS, iv oS, iv p_, iv q_, iv r_, iv ((lS &&& (2147483647 : Int32)) % (7 : Int32)), .unset, .unset, .unset, .unset, .unset, .unset, .unset, .unset, .unset]) rfl ?_
      refine w_iloadN X0 hx hby at_9 rfl ?_
      refine X0.ldcInt hx hown (mvT hZ (own_w hw 0 rfl)) (g := (mkF m 10 #[iv lS, iv oS, iv p_, iv q_, iv r_, iv ((lS &&& (2147483647 : Int32)) % (7 : Int32)), .unset, .unset, .unset, .unset, .unset, .unset, .unset, .unset, .unset] [(.int oS)])) rfl (hb hby at_10) _ ?_
      refine w_iand X0 hx hby at_12 ?_
      refine w_iload X0 hx hby at_13 rfl ?_
      refine w_iconst X0 hx hby at_15 ?_
      refine w_iadd X0 hx hby at_16 ?_
      refine iremM X0 hx rfl (hb hby at_17) rfl (own_modn oS _ (own_mod7 _)).1 ?_
      refine w_istore X0 hx hby at_18 (l' := #[iv lS, iv oS, iv p_, iv q_, iv r_, iv ((lS &&& (2147483647 : Int32)) % (7 : Int32)), iv ((oS &&& (2147483647 : Int32)) % (((lS &&& (2147483647 : Int32)) % (7 : Int32)) + (1 : Int32))), .unset, .unset, .unset, .unset, .unset, .unset, .unset, .unset]) rfl ?_
      refine w_iloadN X0 hx hby at_20 rfl ?_
      exact kt
    obtain ⟨_, _, ⟨T4, L4, k4, n4⟩, -, X4, ⟨Lc4, hQ4, l4, y4, z4⟩, st4⟩ := Jvm.LawKit.callS X0 hx (y := own_y3) hown (mvT hZ (own_w hw 1 rfl)) (mvT hZ (own_w hw 2 rfl)) (mvT hZ (own_w hw 3 rfl)) (mvT hZ (own_w hw 4 rfl)) (by decide) (backOf (W := 0) (own_rm1 l Z a0 hw [] (p_) h0 n0 Z0) hZ (own_w hw 4 rfl) (own_w hw 3 rfl) (by decide) (by decide)) (g := (mkF m 21 #[iv lS, iv oS, iv p_, iv q_, iv r_, iv ((lS &&& (2147483647 : Int32)) % (7 : Int32)), iv ((oS &&& (2147483647 : Int32)) % (((lS &&& (2147483647 : Int32)) % (7 : Int32)) + (1 : Int32))), .unset, .unset, .unset, .unset, .unset, .unset, .unset, .unset] [(.int p_)])) rfl (by rw [hml]; rfl) (argsL := [(.int p_)]) (rest := []) (lenOf own_pd15 rfl) rfl (by show 2 * 0 + _ ≤ _; exact Nat.le_of_eq rfl) (hb hby at_21) (fun _ _ => ⟨rfl, e0, (by decide : 0 + 0 ≤ _), (by decide : 0 + 0 ≤ _)⟩)
    dsimp only [Pt.U, Pt.locs, Pt.cells, Pt.slots] at X4 l4 y4 z4 st4 hQ4
    subst l4 y4 z4
    obtain ⟨rfl, rfl, eq2⟩ := hQ4
    try rw [List.append_nil] at X4
    have S5 : own_G p e below s0 T4 m 24 #[iv lS, iv oS, iv p_, iv q_, iv r_, iv ((lS &&& (2147483647 : Int32)) % (7 : Int32)), iv ((oS &&& (2147483647 : Int32)) % (((lS &&& (2147483647 : Int32)) % (7 : Int32)) + (1 : Int32))), .unset, .unset, .unset, .unset, .unset, .unset, .unset, .unset] [(.int (own_ch p_))] := fun t kt => S3 t (st4 _ kt)
    have S7 : own_G p e below s0 T4 m 30 #[iv lS, iv oS, iv p_, iv q_, iv r_, iv ((lS &&& (2147483647 : Int32)) % (7 : Int32)), iv ((oS &&& (2147483647 : Int32)) % (((lS &&& (2147483647 : Int32)) % (7 : Int32)) + (1 : Int32))), iv (own_ch p_), .unset, .unset, .unset, .unset, .unset, .unset, .unset] [(.int ((p_.toUInt32 >>> ((16 : Int32) &&& 31).toUInt32).toInt32))] := fun t kt => by
      refine S5 t ?_
      refine w_istore X4 hx hby at_24 (l' := #[iv lS, iv oS, iv p_, iv q_, iv r_, iv ((lS &&& (2147483647 : Int32)) % (7 : Int32)), iv ((oS &&& (2147483647 : Int32)) % (((lS &&& (2147483647 : Int32)) % (7 : Int32)) + (1 : Int32))), iv (own_ch p_), .unset, .unset, .unset, .unset, .unset, .unset, .unset]) rfl ?_
      refine w_iloadN X4 hx hby at_26 rfl ?_
      refine w_bipush X4 hx hby at_27 ?_
      refine XS.iushr X4.here hx rfl (hb hby at_29) rfl ?_
      exact kt
    obtain ⟨_, _, ⟨T8, L8, k8, n8⟩, -, X8, ⟨Lc8, hQ8, l8, y8, z8⟩, st8⟩ := Jvm.LawKit.callS X4 hx (y := own_y3) hown (mvT hZ (own_w hw 1 rfl)) (mvT hZ (own_w hw 2 rfl)) (mvT hZ (own_w hw 3 rfl)) (mvT hZ (own_w hw 4 rfl)) (by decide) (backOf (W := 0) (own_rm1 l Z a0 hw [] (((p_.toUInt32 >>> ((16 : Int32) &&& 31).toUInt32).toInt32)) h0 n0 Z0) hZ (own_w hw 4 rfl) (own_w hw 3 rfl) (by decide) (by decide)) (g := (mkF m 30 #[iv lS, iv oS, iv p_, iv q_, iv r_, iv ((lS &&& (2147483647 : Int32)) % (7 : Int32)), iv ((oS &&& (2147483647 : Int32)) % (((lS &&& (2147483647 : Int32)) % (7 : Int32)) + (1 : Int32))), iv (own_ch p_), .unset, .unset, .unset, .unset, .unset, .unset, .unset] [(.int ((p_.toUInt32 >>> ((16 : Int32) &&& 31).toUInt32).toInt32))])) rfl (by rw [hml]; rfl) (argsL := [(.int ((p_.toUInt32 >>> ((16 : Int32) &&& 31).toUInt32).toInt32))]) (rest := []) (lenOf own_pd15 rfl) rfl (by show 2 * 0 + _ ≤ _; exact Nat.le_of_eq rfl) (hb hby at_30) (fun _ _ => ⟨rfl, eq2, (by decide : 0 + 0 ≤ _), (by decide : 0 + 0 ≤ _)⟩)
    dsimp only [Pt.U, Pt.locs, Pt.cells, Pt.slots] at X8 l8 y8 z8 st8 hQ8
    subst l8 y8 z8
    obtain ⟨rfl, rfl, eq6⟩ := hQ8
    try rw [List.append_nil] at X8
    have S9 : own_G p e below s0 T8 m 33 #[iv lS, iv oS, iv p_, iv q_, iv r_, iv ((lS &&& (2147483647 : Int32)) % (7 : Int32)), iv ((oS &&& (2147483647 : Int32)) % (((lS &&& (2147483647 : Int32)) % (7 : Int32)) + (1 : Int32))), iv (own_ch p_), .unset, .unset, .unset, .unset, .unset, .unset, .unset] [(.int (own_ch ((p_.toUInt32 >>> ((16 : Int32) &&& 31).toUInt32).toInt32)))] := fun t kt => S7 t (st8 _ kt)
    have S11 : own_G p e below s0 T8 m 36 #[iv lS, iv oS, iv p_, iv q_, iv r_, iv ((lS &&& (2147483647 : Int32)) % (7 : Int32)), iv ((oS &&& (2147483647 : Int32)) % (((lS &&& (2147483647 : Int32)) % (7 : Int32)) + (1 : Int32))), iv (own_ch p_), iv (own_ch ((p_.toUInt32 >>> ((16 : Int32) &&& 31).toUInt32).toInt32)), .unset, .unset, .unset, .unset, .unset, .unset] [(.int q_)] := fun t kt => by
      refine S9 t ?_
      refine w_istore X8 hx hby at_33 (l' := #[iv lS, iv oS, iv p_, iv q_, iv r_, iv ((lS &&& (2147483647 : Int32)) % (7 : Int32)), iv ((oS &&& (2147483647 : Int32)) % (((lS &&& (2147483647 : Int32)) % (7 : Int32)) + (1 : Int32))), iv (own_ch p_), iv (own_ch ((p_.toUInt32 >>> ((16 : Int32) &&& 31).toUInt32).toInt32)), .unset, .unset, .unset, .unset, .unset, .unset]) rfl ?_
      refine w_iloadN X8 hx hby at_35 rfl ?_
      exact kt
    obtain ⟨_, _, ⟨T12, L12, k12, n12⟩, -, X12, ⟨Lc12, hQ12, l12, y12, z12⟩, st12⟩ := Jvm.LawKit.callS X8 hx (y := own_y3) hown (mvT hZ (own_w hw 1 rfl)) (mvT hZ (own_w hw 2 rfl)) (mvT hZ (own_w hw 3 rfl)) (mvT hZ (own_w hw 4 rfl)) (by decide) (backOf (W := 0) (own_rm1 l Z a0 hw [] (q_) h0 n0 Z0) hZ (own_w hw 4 rfl) (own_w hw 3 rfl) (by decide) (by decide)) (g := (mkF m 36 #[iv lS, iv oS, iv p_, iv q_, iv r_, iv ((lS &&& (2147483647 : Int32)) % (7 : Int32)), iv ((oS &&& (2147483647 : Int32)) % (((lS &&& (2147483647 : Int32)) % (7 : Int32)) + (1 : Int32))), iv (own_ch p_), iv (own_ch ((p_.toUInt32 >>> ((16 : Int32) &&& 31).toUInt32).toInt32)), .unset, .unset, .unset, .unset, .unset, .unset] [(.int q_)])) rfl (by rw [hml]; rfl) (argsL := [(.int q_)]) (rest := []) (lenOf own_pd15 rfl) rfl (by show 2 * 0 + _ ≤ _; exact Nat.le_of_eq rfl) (hb hby at_36) (fun _ _ => ⟨rfl, eq6, (by decide : 0 + 0 ≤ _), (by decide : 0 + 0 ≤ _)⟩)
    dsimp only [Pt.U, Pt.locs, Pt.cells, Pt.slots] at X12 l12 y12 z12 st12 hQ12
    subst l12 y12 z12
    obtain ⟨rfl, rfl, eq10⟩ := hQ12
    try rw [List.append_nil] at X12
    have S13 : own_G p e below s0 T12 m 39 #[iv lS, iv oS, iv p_, iv q_, iv r_, iv ((lS &&& (2147483647 : Int32)) % (7 : Int32)), iv ((oS &&& (2147483647 : Int32)) % (((lS &&& (2147483647 : Int32)) % (7 : Int32)) + (1 : Int32))), iv (own_ch p_), iv (own_ch ((p_.toUInt32 >>> ((16 : Int32) &&& 31).toUInt32).toInt32)), .unset, .unset, .unset, .unset, .unset, .unset] [(.int (own_ch q_))] := fun t kt => S11 t (st12 _ kt)
    have S15 : own_G p e below s0 T12 m 45 #[iv lS, iv oS, iv p_, iv q_, iv r_, iv ((lS &&& (2147483647 : Int32)) % (7 : Int32)), iv ((oS &&& (2147483647 : Int32)) % (((lS &&& (2147483647 : Int32)) % (7 : Int32)) + (1 : Int32))), iv (own_ch p_), iv (own_ch ((p_.toUInt32 >>> ((16 : Int32) &&& 31).toUInt32).toInt32)), iv (own_ch q_), .unset, .unset, .unset, .unset, .unset] [(.int ((q_.toUInt32 >>> ((16 : Int32) &&& 31).toUInt32).toInt32))] := fun t kt => by
      refine S13 t ?_
      refine w_istore X12 hx hby at_39 (l' := #[iv lS, iv oS, iv p_, iv q_, iv r_, iv ((lS &&& (2147483647 : Int32)) % (7 : Int32)), iv ((oS &&& (2147483647 : Int32)) % (((lS &&& (2147483647 : Int32)) % (7 : Int32)) + (1 : Int32))), iv (own_ch p_), iv (own_ch ((p_.toUInt32 >>> ((16 : Int32) &&& 31).toUInt32).toInt32)), iv (own_ch q_), .unset, .unset, .unset, .unset, .unset]) rfl ?_
      refine w_iloadN X12 hx hby at_41 rfl ?_
      refine w_bipush X12 hx hby at_42 ?_
      refine XS.iushr X12.here hx rfl (hb hby at_44) rfl ?_
      exact kt
    obtain ⟨_, _, ⟨T16, L16, k16, n16⟩, -, X16, ⟨Lc16, hQ16, l16, y16, z16⟩, st16⟩ := Jvm.LawKit.callS X12 hx (y := own_y3) hown (mvT hZ (own_w hw 1 rfl)) (mvT hZ (own_w hw 2 rfl)) (mvT hZ (own_w hw 3 rfl)) (mvT hZ (own_w hw 4 rfl)) (by decide) (backOf (W := 0) (own_rm1 l Z a0 hw [] (((q_.toUInt32 >>> ((16 : Int32) &&& 31).toUInt32).toInt32)) h0 n0 Z0) hZ (own_w hw 4 rfl) (own_w hw 3 rfl) (by decide) (by decide)) (g := (mkF m 45 #[iv lS, iv oS, iv p_, iv q_, iv r_, iv ((lS &&& (2147483647 : Int32)) % (7 : Int32)), iv ((oS &&& (2147483647 : Int32)) % (((lS &&& (2147483647 : Int32)) % (7 : Int32)) + (1 : Int32))), iv (own_ch p_), iv (own_ch ((p_.toUInt32 >>> ((16 : Int32) &&& 31).toUInt32).toInt32)), iv (own_ch q_), .unset, .unset, .unset, .unset, .unset] [(.int ((q_.toUInt32 >>> ((16 : Int32) &&& 31).toUInt32).toInt32))])) rfl (by rw [hml]; rfl) (argsL := [(.int ((q_.toUInt32 >>> ((16 : Int32) &&& 31).toUInt32).toInt32))]) (rest := []) (lenOf own_pd15 rfl) rfl (by show 2 * 0 + _ ≤ _; exact Nat.le_of_eq rfl) (hb hby at_45) (fun _ _ => ⟨rfl, eq10, (by decide : 0 + 0 ≤ _), (by decide : 0 + 0 ≤ _)⟩)
    dsimp only [Pt.U, Pt.locs, Pt.cells, Pt.slots] at X16 l16 y16 z16 st16 hQ16
    subst l16 y16 z16
    obtain ⟨rfl, rfl, eq14⟩ := hQ16
    try rw [List.append_nil] at X16
    have S17 : own_G p e below s0 T16 m 48 #[iv lS, iv oS, iv p_, iv q_, iv r_, iv ((lS &&& (2147483647 : Int32)) % (7 : Int32)), iv ((oS &&& (2147483647 : Int32)) % (((lS &&& (2147483647 : Int32)) % (7 : Int32)) + (1 : Int32))), iv (own_ch p_), iv (own_ch ((p_.toUInt32 >>> ((16 : Int32) &&& 31).toUInt32).toInt32)), iv (own_ch q_), .unset, .unset, .unset, .unset, .unset] [(.int (own_ch ((q_.toUInt32 >>> ((16 : Int32) &&& 31).toUInt32).toInt32)))] := fun t kt => S15 t (st16 _ kt)
    have S19 : own_G p e below s0 T16 m 52 #[iv lS, iv oS, iv p_, iv q_, iv r_, iv ((lS &&& (2147483647 : Int32)) % (7 : Int32)), iv ((oS &&& (2147483647 : Int32)) % (((lS &&& (2147483647 : Int32)) % (7 : Int32)) + (1 : Int32))), iv (own_ch p_), iv (own_ch ((p_.toUInt32 >>> ((16 : Int32) &&& 31).toUInt32).toInt32)), iv (own_ch q_), iv (own_ch ((q_.toUInt32 >>> ((16 : Int32) &&& 31).toUInt32).toInt32)), .unset, .unset, .unset, .unset] [(.int r_)] := fun t kt => by
      refine S17 t ?_
      refine w_istore X16 hx hby at_48 (l' := #[iv lS, iv oS, iv p_, iv q_, iv r_, iv ((lS &&& (2147483647 : Int32)) % (7 : Int32)), iv ((oS &&& (2147483647 : Int32)) % (((lS &&& (2147483647 : Int32)) % (7 : Int32)) + (1 : Int32))), iv (own_ch p_), iv (own_ch ((p_.toUInt32 >>> ((16 : Int32) &&& 31).toUInt32).toInt32)), iv (own_ch q_), iv (own_ch ((q_.toUInt32 >>> ((16 : Int32) &&& 31).toUInt32).toInt32)), .unset, .unset, .unset, .unset]) rfl ?_
      refine w_iload X16 hx hby at_50 rfl ?_
      exact kt
    obtain ⟨_, _, ⟨T20, L20, k20, n20⟩, -, X20, ⟨Lc20, hQ20, l20, y20, z20⟩, st20⟩ := Jvm.LawKit.callS X16 hx (y := own_y3) hown (mvT hZ (own_w hw 1 rfl)) (mvT hZ (own_w hw 2 rfl)) (mvT hZ (own_w hw 3 rfl)) (mvT hZ (own_w hw 4 rfl)) (by decide) (backOf (W := 0) (own_rm1 l Z a0 hw [] (r_) h0 n0 Z0) hZ (own_w hw 4 rfl) (own_w hw 3 rfl) (by decide) (by decide)) (g := (mkF m 52 #[iv lS, iv oS, iv p_, iv q_, iv r_, iv ((lS &&& (2147483647 : Int32)) % (7 : Int32)), iv ((oS &&& (2147483647 : Int32)) % (((lS &&& (2147483647 : Int32)) % (7 : Int32)) + (1 : Int32))), iv (own_ch p_), iv (own_ch ((p_.toUInt32 >>> ((16 : Int32) &&& 31).toUInt32).toInt32)), iv (own_ch q_), iv (own_ch ((q_.toUInt32 >>> ((16 : Int32) &&& 31).toUInt32).toInt32)), .unset, .unset, .unset, .unset] [(.int r_)])) rfl (by rw [hml]; rfl) (argsL := [(.int r_)]) (rest := []) (lenOf own_pd15 rfl) rfl (by show 2 * 0 + _ ≤ _; exact Nat.le_of_eq rfl) (hb hby at_52) (fun _ _ => ⟨rfl, eq14, (by decide : 0 + 0 ≤ _), (by decide : 0 + 0 ≤ _)⟩)
    dsimp only [Pt.U, Pt.locs, Pt.cells, Pt.slots] at X20 l20 y20 z20 st20 hQ20
    subst l20 y20 z20
    obtain ⟨rfl, rfl, eq18⟩ := hQ20
    try rw [List.append_nil] at X20
    have S21 : own_G p e below s0 T20 m 55 #[iv lS, iv oS, iv p_, iv q_, iv r_, iv ((lS &&& (2147483647 : Int32)) % (7 : Int32)), iv ((oS &&& (2147483647 : Int32)) % (((lS &&& (2147483647 : Int32)) % (7 : Int32)) + (1 : Int32))), iv (own_ch p_), iv (own_ch ((p_.toUInt32 >>> ((16 : Int32) &&& 31).toUInt32).toInt32)), iv (own_ch q_), iv (own_ch ((q_.toUInt32 >>> ((16 : Int32) &&& 31).toUInt32).toInt32)), .unset, .unset, .unset, .unset] [(.int (own_ch r_))] := fun t kt => S19 t (st20 _ kt)
    have S23 : own_G p e below s0 T20 m 62 #[iv lS, iv oS, iv p_, iv q_, iv r_, iv ((lS &&& (2147483647 : Int32)) % (7 : Int32)), iv ((oS &&& (2147483647 : Int32)) % (((lS &&& (2147483647 : Int32)) % (7 : Int32)) + (1 : Int32))), iv (own_ch p_), iv (own_ch ((p_.toUInt32 >>> ((16 : Int32) &&& 31).toUInt32).toInt32)), iv (own_ch q_), iv (own_ch ((q_.toUInt32 >>> ((16 : Int32) &&& 31).toUInt32).toInt32)), iv (own_ch r_), .unset, .unset, .unset] [(.int ((r_.toUInt32 >>> ((16 : Int32) &&& 31).toUInt32).toInt32))] := fun t kt => by
      refine S21 t ?_
      refine w_istore X20 hx hby at_55 (l' := #[iv lS, iv oS, iv p_, iv q_, iv r_, iv ((lS &&& (2147483647 : Int32)) % (7 : Int32)), iv ((oS &&& (2147483647 : Int32)) % (((lS &&& (2147483647 : Int32)) % (7 : Int32)) + (1 : Int32))), iv (own_ch p_), iv (own_ch ((p_.toUInt32 >>> ((16 : Int32) &&& 31).toUInt32).toInt32)), iv (own_ch q_), iv (own_ch ((q_.toUInt32 >>> ((16 : Int32) &&& 31).toUInt32).toInt32)), iv (own_ch r_), .unset, .unset, .unset]) rfl ?_
      refine w_iload X20 hx hby at_57 rfl ?_
      refine w_bipush X20 hx hby at_59 ?_
      refine XS.iushr X20.here hx rfl (hb hby at_61) rfl ?_
      exact kt
    obtain ⟨_, _, ⟨T24, L24, k24, n24⟩, -, X24, ⟨Lc24, hQ24, l24, y24, z24⟩, st24⟩ := Jvm.LawKit.callS X20 hx (y := own_y3) hown (mvT hZ (own_w hw 1 rfl)) (mvT hZ (own_w hw 2 rfl)) (mvT hZ (own_w hw 3 rfl)) (mvT hZ (own_w hw 4 rfl)) (by decide) (backOf (W := 0) (own_rm1 l Z a0 hw [] (((r_.toUInt32 >>> ((16 : Int32) &&& 31).toUInt32).toInt32)) h0 n0 Z0) hZ (own_w hw 4 rfl) (own_w hw 3 rfl) (by decide) (by decide)) (g := (mkF m 62 #[iv lS, iv oS, iv p_, iv q_, iv r_, iv ((lS &&& (2147483647 : Int32)) % (7 : Int32)), iv ((oS &&& (2147483647 : Int32)) % (((lS &&& (2147483647 : Int32)) % (7 : Int32)) + (1 : Int32))), iv (own_ch p_), iv (own_ch ((p_.toUInt32 >>> ((16 : Int32) &&& 31).toUInt32).toInt32)), iv (own_ch q_), iv (own_ch ((q_.toUInt32 >>> ((16 : Int32) &&& 31).toUInt32).toInt32)), iv (own_ch r_), .unset, .unset, .unset] [(.int ((r_.toUInt32 >>> ((16 : Int32) &&& 31).toUInt32).toInt32))])) rfl (by rw [hml]; rfl) (argsL := [(.int ((r_.toUInt32 >>> ((16 : Int32) &&& 31).toUInt32).toInt32))]) (rest := []) (lenOf own_pd15 rfl) rfl (by show 2 * 0 + _ ≤ _; exact Nat.le_of_eq rfl) (hb hby at_62) (fun _ _ => ⟨rfl, eq18, (by decide : 0 + 0 ≤ _), (by decide : 0 + 0 ≤ _)⟩)
    dsimp only [Pt.U, Pt.locs, Pt.cells, Pt.slots] at X24 l24 y24 z24 st24 hQ24
    subst l24 y24 z24
    obtain ⟨rfl, rfl, eq22⟩ := hQ24
    try rw [List.append_nil] at X24
    have S25 : own_G p e below s0 T24 m 65 #[iv lS, iv oS, iv p_, iv q_, iv r_, iv ((lS &&& (2147483647 : Int32)) % (7 : Int32)), iv ((oS &&& (2147483647 : Int32)) % (((lS &&& (2147483647 : Int32)) % (7 : Int32)) + (1 : Int32))), iv (own_ch p_), iv (own_ch ((p_.toUInt32 >>> ((16 : Int32) &&& 31).toUInt32).toInt32)), iv (own_ch q_), iv (own_ch ((q_.toUInt32 >>> ((16 : Int32) &&& 31).toUInt32).toInt32)), iv (own_ch r_), .unset, .unset, .unset] [(.int (own_ch ((r_.toUInt32 >>> ((16 : Int32) &&& 31).toUInt32).toInt32)))] := fun t kt => S23 t (st24 _ kt)
    have S26 : own_G p e below s0 T24 m 67 #[iv lS, iv oS, iv p_, iv q_, iv r_, iv ((lS &&& (2147483647 : Int32)) % (7 : Int32)), iv ((oS &&& (2147483647 : Int32)) % (((lS &&& (2147483647 : Int32)) % (7 : Int32)) + (1 : Int32))), iv (own_ch p_), iv (own_ch ((p_.toUInt32 >>> ((16 : Int32) &&& 31).toUInt32).toInt32)), iv (own_ch q_), iv (own_ch ((q_.toUInt32 >>> ((16 : Int32) &&& 31).toUInt32).toInt32)), iv (own_ch r_), iv (own_ch ((r_.toUInt32 >>> ((16 : Int32) &&& 31).toUInt32).toInt32)), .unset, .unset] [] := fun t kt => by
      refine S25 t ?_
      refine w_istore X24 hx hby at_65 (l' := #[iv lS, iv oS, iv p_, iv q_, iv r_, iv ((lS &&& (2147483647 : Int32)) % (7 : Int32)), iv ((oS &&& (2147483647 : Int32)) % (((lS &&& (2147483647 : Int32)) % (7 : Int32)) + (1 : Int32))), iv (own_ch p_), iv (own_ch ((p_.toUInt32 >>> ((16 : Int32) &&& 31).toUInt32).toInt32)), iv (own_ch q_), iv (own_ch ((q_.toUInt32 >>> ((16 : Int32) &&& 31).toUInt32).toInt32)), iv (own_ch r_), iv (own_ch ((r_.toUInt32 >>> ((16 : Int32) &&& 31).toUInt32).toInt32)), .unset, .unset]) rfl ?_
      exact kt
    exact ⟨T24, (((lS &&& (2147483647 : Int32)) % (7 : Int32))), (((oS &&& (2147483647 : Int32)) % (((lS &&& (2147483647 : Int32)) % (7 : Int32)) + (1 : Int32)))), ((own_ch p_)), ((own_ch ((p_.toUInt32 >>> ((16 : Int32) &&& 31).toUInt32).toInt32))), ((own_ch q_)), ((own_ch ((q_.toUInt32 >>> ((16 : Int32) &&& 31).toUInt32).toInt32))), ((own_ch r_)), ((own_ch ((r_.toUInt32 >>> ((16 : Int32) &&& 31).toUInt32).toInt32))), X24, eq22, (⟨own_mod7 _, (own_modn _ _ (own_mod7 _)).2, own_ch_r _, own_ch_r _, own_ch_r _, own_ch_r _, own_ch_r _, own_ch_r _⟩), S26⟩
  have hn0 : ¬ n_ < (0 : Int32) := fun q => by have := Int32.lt_iff_toInt_lt.mp q; have z : (0 : Int32).toInt = 0 := rfl; omega
  have hn6 : n_.toNatClampNeg ≤ 6 := by have := nat_of hn0; omega
  have ho0 : ¬ off < (0 : Int32) := fun q => by have := Int32.lt_iff_toInt_lt.mp q; have z : (0 : Int32).toInt = 0 := rfl; omega
  obtain ⟨T27, h27, X27, e27, E27, A27, D27, -, st27⟩ := newO X1 hx hZ hown (own_w hw 5 rfl) (own_w hw 6 rfl) (own_w hw 7 rfl) e1 (g := (mkF m 67 #[iv lS, iv oS, iv p_, iv q_, iv r_, iv n_, iv off, iv c0, iv c1, iv c2, iv c3, iv c4, iv c5, .unset, .unset] [])) rfl (hb hby at_67) (by decide) (by decide)
  obtain ⟨b27, g27⟩ : ∃ z, z = h0.size := ⟨_, rfl⟩
  rw [← g27] at A27 D27 st27
  have S28 : own_G p e below s0 T27 m 70 #[iv lS, iv oS, iv p_, iv q_, iv r_, iv n_, iv off, iv c0, iv c1, iv c2, iv c3, iv c4, iv c5, .unset, .unset] [(.ref b27)] := fun t kt => S1 t (st27 _ kt)
  have Sf_b27 : Safe Z own_EL s.vm h27 b27 := Safe.ext E27 CR0.1 (Safe.new (Nat.le_of_eq g27.symm))
  have CR29 := CR0.trans (CHr.ext E27 CR0.1)
  have g_b27 : n0 ≤ b27 := Nat.le_trans Z0 (Nat.le_of_eq g27.symm)
  have sz_b27 : h0.size ≤ b27 := Nat.le_trans (Keep.refl h0 []).1 (Nat.le_of_eq g27.symm)
  have F30 := S_CS.ext E27
  have K31 : Keep h0 h27 [] := (Keep.refl h0 []).ext E27
  have F32 : Fld Z h27 b27 own_s0 "fileName" "Ljava/lang/String;" .null := D27 (Or.inr (own_w hw 39 rfl)) (ty := (.object "java/lang/String")) (by decide)
  have F33 : Fld Z h27 b27 own_s0 "text" "Ljava/lang/String;" .null := D27 (Or.inr (own_w hw 41 rfl)) (ty := (.object "java/lang/String")) (by decide)
  have F34 : Fld Z h27 b27 own_s0 "lineStarts" "[I" .null := D27 (Or.inr (own_w hw 93 rfl)) (ty := (.array .int)) (by decide)
  have S35 : own_G p e below s0 T27 m 71 #[iv lS, iv oS, iv p_, iv q_, iv r_, iv n_, iv off, iv c0, iv c1, iv c2, iv c3, iv c4, iv c5, .unset, .unset] [(.ref b27), (.ref b27)] := fun t kt => by
    refine S28 t ?_
    refine w_dup X27 hx hby at_70 rfl ?_
    exact kt
  obtain ⟨lit36, T36, h36, k36, lby36, kb36, X36, e36, E36, hS36, hk36, hZ36, ho36, LE36, LC36, LV36, LA36, -, -, hC36, -, hNe36, st36⟩ := ldcCH (EL := own_EL) (z := (1 : Int32)) (vs := [(.int 102)]) X27 hx hZ hown (own_w hw 8 rfl) wS e27 hS0 (Nat.le_trans (Nat.le_refl _) E27.1) hEL (List.mem_of_getElem? (i := 0) rfl) CR29.1 ⟨by decide, by decide⟩ (by decide) (by decide) (g := (mkF m 71 #[iv lS, iv oS, iv p_, iv q_, iv r_, iv n_, iv off, iv c0, iv c1, iv c2, iv c3, iv c4, iv c5, .unset, .unset] [(.ref b27), (.ref b27)])) rfl (hb hby at_71) (n := 4) (by decide) (by decide) (by decide) (by decide)
  have S37 : own_G p e below s0 T36 m 73 #[iv lS, iv oS, iv p_, iv q_, iv r_, iv n_, iv off, iv c0, iv c1, iv c2, iv c3, iv c4, iv c5, .unset, .unset] [(.ref lit36), (.ref b27), (.ref b27)] := fun t kt => S35 t (st36 _ kt)
  have Sf38 := hC36.safe (A27.lt) Sf_b27
  have CR39 := CR29.trans hC36
  have ne_b27_lit36 := (hNe36 _ Sf38).1
  have ne_b27_lby36 := (hNe36 _ Sf38).2
  have F40 := F30.ext E36
  have F41 := A27.ext E36
  have F42 := F32.ext E36
  have F43 := F33.ext E36
  have F44 := F34.ext E36
  have K45 : Keep h0 h36 [] := K31.ext E36
  have S48 : own_G p e below s0 T36 m 87 #[iv lS, iv oS, iv p_, iv q_, iv r_, iv n_, iv off, iv c0, iv c1, iv c2, iv c3, iv c4, iv c5, .unset, .unset] [(.int c5), (.int c4), (.int c3), (.int c2), (.int c1), (.int c0), (.int n_), (.ref lit36), (.ref b27), (.ref b27)] := fun t kt => by
    refine S37 t ?_
    refine w_iload X36 hx hby at_73 rfl ?_
    refine w_iload X36 hx hby at_75 rfl ?_
    refine w_iload X36 hx hby at_77 rfl ?_
    refine w_iload X36 hx hby at_79 rfl ?_
    refine w_iload X36 hx hby at_81 rfl ?_
    refine w_iload X36 hx hby at_83 rfl ?_
    refine w_iload X36 hx hby at_85 rfl ?_
    exact kt
  obtain ⟨_, _, ⟨T49, L49, k49, n49⟩, -, X49_, hSr49, hgr49, ⟨Lc49, hQ49, l49, y49, z49, hCr49⟩, st49⟩ := callSS X36 hx (y := own_y1) ho36 (mvT hZ36 (own_w hw 16 rfl)) (mvT hZ36 (own_w hw 17 rfl)) (mvT hZ36 (own_w hw 3 rfl)) (mvT hZ36 (own_w hw 18 rfl)) (by decide) (backOfSH (EL := own_EL) (s := s) (vm0 := T36.vm) (W := 3) (own_rm2 l Z a0 hw [] (n_) (c0) (c1) (c2) (c3) (c4) (c5) (cs) h36 n0 (Nat.le_trans Z0 K45.1) F40 hcs hr0.1 hr0.2.2.1 hr0.2.2.2.1 hr0.2.2.2.2.1 hr0.2.2.2.2.2.1 hr0.2.2.2.2.2.2.1 hr0.2.2.2.2.2.2.2) hZ36 (own_w hw 18 rfl) (own_w hw 3 rfl) (by decide) (by decide) hEL CR39.1) (g := (mkF m 87 #[iv lS, iv oS, iv p_, iv q_, iv r_, iv n_, iv off, iv c0, iv c1, iv c2, iv c3, iv c4, iv c5, .unset, .unset] [(.int c5), (.int c4), (.int c3), (.int c2), (.int c1), (.int c0), (.int n_), (.ref lit36), (.ref b27), (.ref b27)])) rfl (by rw [hml]; rfl) (argsL := [(.int n_), (.int c0), (.int c1), (.int c2), (.int c3), (.int c4), (.int c5)]) (rest := [(.ref lit36), (.ref b27), (.ref b27)]) (lenOf own_pd16 rfl) rfl (by show 2 * 0 + _ ≤ _; exact Nat.le_of_eq rfl) (hb hby at_87) (fun _ _ => ⟨rfl, e36, (by decide : 3 + 6 ≤ _), (by decide : 11 + 16 ≤ _)⟩)
  dsimp only [Pt.U, Pt.locs, Pt.cells, Pt.slots] at X49_ hSr49 hgr49 l49 y49 z49 hCr49 st49 hQ49
  subst l49 y49 z49
  obtain ⟨X49, hS49, hZ49, ho49⟩ := rebS hS36 (by rw [e36]; exact hk36) X49_ hSr49 hgr49 hZ36 ho36
  obtain ⟨r46, tb46, kt46, rfl, Nq49, Kc46, Ec46, Cc46, Fv46, Va46⟩ := hQ49
  have N50 := Fr.app N0 Nq49
  have S51 : own_G p e below s0 T49 m 90 #[iv lS, iv oS, iv p_, iv q_, iv r_, iv n_, iv off, iv c0, iv c1, iv c2, iv c3, iv c4, iv c5, .unset, .unset] [(.ref r46), (.ref lit36), (.ref b27), (.ref b27)] := fun t kt => S48 t (st49.trans kt)
  have Sf52 := hCr49.safe (F41.lt) Sf38
  have CR53 := CR39.trans hCr49
  have F54 := own_StaK F40 Kc46 all0
  have F55 := F41.keep Kc46
  have F56 := F42.keep Kc46 nin0
  have F57 := F43.keep Kc46 nin0
  have F58 := F44.keep Kc46 nin0
  have F59 := LE36.keep Kc46
  have F60 := LC36.keep Kc46 nin0
  have F61 := LV36.keep Kc46 nin0
  have F62 := LA36.keep Kc46 nin0
  have K63 : Keep h0 T49.heap [] := K45.trans Kc46 all0
  obtain ⟨_, _, ⟨T66, L66, k66, n66⟩, -, X66, ⟨Lc66, hQ66, l66, y66, z66⟩, st66⟩ := X49.specialBack hx (y := own_y0) rfl ho49 (mvT hZ49 (own_w hw 34 rfl)) (mvT hZ49 (own_w hw 35 rfl)) (mvT hZ49 (own_w hw 36 rfl)) (by decide) (backOf (W := 1) (own_rm6 l Z a0 hw [] (b27) (lit36) (r46) (cs) (tb46) (n_) (kt46) ((own_bs n_ c0 c1 c2 c3 c4 c5)) (n_.toNatClampNeg) (.null) (.null) (.null) T49.heap n0 (Nat.le_trans Z0 K63.1) F55 g_b27 F56 F57 F58 Ec46 Cc46 Fv46 F54 hcs Va46 (own_clamp_ofN hn0).symm hn6) hZ49 (own_w hw 36 rfl) (own_w hw 7 rfl) (by decide) (by decide)) (g := (mkF m 90 #[iv lS, iv oS, iv p_, iv q_, iv r_, iv n_, iv off, iv c0, iv c1, iv c2, iv c3, iv c4, iv c5, .unset, .unset] [(.ref r46), (.ref lit36), (.ref b27), (.ref b27)])) rfl (by rw [hml]; rfl) (Steps.refl _) (a := b27) (argsL := [(.ref lit36), (.ref r46)]) (rest := [(.ref b27)]) (lenOf own_pd17 rfl) rfl (by show 2 * 0 + _ ≤ _; exact Nat.le_of_eq rfl) (hb hby at_90) (fun _ _ => ⟨rfl, rfl, (by decide : 9 + 2 ≤ _), (by decide : 27 + 71 ≤ _)⟩)
  dsimp only [Pt.U, Pt.locs, Pt.cells, Pt.slots] at X66 l66 y66 z66 st66 hQ66
  subst l66 y66 z66
  obtain ⟨rfl, Nq66, Kc64, Ec64, lb64, kl64, es64, Fl64, VL64, Hc64⟩ := hQ66
  have N67 := Fr.app N50 Nq66
  have S68 : own_G p e below s0 T66 m 93 #[iv lS, iv oS, iv p_, iv q_, iv r_, iv n_, iv off, iv c0, iv c1, iv c2, iv c3, iv c4, iv c5, .unset, .unset] [(.ref b27)] := fun t kt => S51 t (st66.trans kt)
  have Sf69 := Safe.keep Kc64 (allS Sf52 all0) CR53.1 Sf52
  have CR70 := CR53.trans (CHr.keep Kc64 (allS Sf52 all0) CR53.1)
  have F71 := own_StaK F54 Kc64 (allS (own_ExaS F55) all0)
  have F72 := F55.keep Kc64
  have F73 := F59.keep Kc64
  have F74 := F60.keep Kc64 (ninS (Ne.symm ne_b27_lit36) nin0)
  have F75 := F61.keep Kc64 (ninS (Ne.symm ne_b27_lit36) nin0)
  have F76 := F62.keep Kc64 (ninS (Ne.symm ne_b27_lby36) nin0)
  have F77 := Ec46.keep Kc64
  have F78 := Cc46.keep Kc64 (ninS (Exa.ne Ec46 F55 (by decide)) nin0)
  have F79 := Fv46.keep Kc64 (ninS (Exa.ne Ec46 F55 (by decide)) nin0)
  have F80 := Va46.keep Kc64 (ninS (Ne.symm (Exa.neArv F55 Va46 (own_w hw 6 rfl))) nin0)
  have K81 : Keep h0 T66.heap [] := K63.trans Kc64 (allS (Or.inr sz_b27) all0)
  have S83 : own_G p e below s0 T66 m 101 #[iv lS, iv oS, iv p_, iv q_, iv r_, iv n_, iv off, iv c0, iv c1, iv c2, iv c3, iv c4, iv c5, rv b27, .unset] [(.int off), (.int 0), (.int c0), (.int 1)] := fun t kt => by
    refine S68 t ?_
    refine w_astore X66 hx hby at_93 rfl (l' := #[iv lS, iv oS, iv p_, iv q_, iv r_, iv n_, iv off, iv c0, iv c1, iv c2, iv c3, iv c4, iv c5, rv b27, .unset]) rfl ?_
    refine w_iconst X66 hx hby at_95 ?_
    refine w_iload X66 hx hby at_96 rfl ?_
    refine w_iconst X66 hx hby at_98 ?_
    refine w_iload X66 hx hby at_99 rfl ?_
    exact kt
  obtain ⟨_, _, ⟨T84, L84, k84, n84⟩, -, X84, ⟨Lc84, hQ84, l84, y84, z84⟩, st84⟩ := Jvm.LawKit.callS X66 hx (y := own_y2) ho49 (mvT hZ49 (own_w hw 94 rfl)) (mvT hZ49 (own_w hw 95 rfl)) (mvT hZ49 (own_w hw 3 rfl)) (mvT hZ49 (own_w hw 96 rfl)) (by decide) (backOf (W := 1) (own_rm17 l Z a0 hw [] (c0) ((0 : Int32)) (off) T66.heap n0 (Nat.le_trans Z0 K81.1)) hZ49 (own_w hw 96 rfl) (own_w hw 3 rfl) (by decide) (by decide)) (g := (mkF m 101 #[iv lS, iv oS, iv p_, iv q_, iv r_, iv n_, iv off, iv c0, iv c1, iv c2, iv c3, iv c4, iv c5, rv b27, .unset] [(.int off), (.int 0), (.int c0), (.int 1)])) rfl (by rw [hml]; rfl) (argsL := [(.int c0), (.int 0), (.int off)]) (rest := [(.int 1)]) (lenOf own_pd18 rfl) rfl (by show 2 * 0 + _ ≤ _; exact Nat.le_of_eq rfl) (hb hby at_101) (fun _ _ => ⟨rfl, rfl, (by decide : 11 + 0 ≤ _), (by decide : 98 + 0 ≤ _)⟩)
  dsimp only [Pt.U, Pt.locs, Pt.cells, Pt.slots] at X84 l84 y84 z84 st84 hQ84
  subst l84 y84 z84
  obtain ⟨rfl, rfl, eq82⟩ := hQ84
  try rw [List.append_nil] at X84
  have S85 : own_G p e below s0 T84 m 104 #[iv lS, iv oS, iv p_, iv q_, iv r_, iv n_, iv off, iv c0, iv c1, iv c2, iv c3, iv c4, iv c5, rv b27, .unset] [(.int (own_nl c0 (0 : Int32) off)), (.int 1)] := fun t kt => S83 t (st84 _ kt)
  have S87 : own_G p e below s0 T84 m 110 #[iv lS, iv oS, iv p_, iv q_, iv r_, iv n_, iv off, iv c0, iv c1, iv c2, iv c3, iv c4, iv c5, rv b27, .unset] [(.int off), (.int 1), (.int c1), (.int ((1 : Int32) + (own_nl c0 (0 : Int32) off)))] := fun t kt => by
    refine S85 t ?_
    refine w_iadd X84 hx hby at_104 ?_
    refine w_iload X84 hx hby at_105 rfl ?_
    refine w_iconst X84 hx hby at_107 ?_
    refine w_iload X84 hx hby at_108 rfl ?_
    exact kt
  obtain ⟨_, _, ⟨T88, L88, k88, n88⟩, -, X88, ⟨Lc88, hQ88, l88, y88, z88⟩, st88⟩ := Jvm.LawKit.callS X84 hx (y := own_y2) ho49 (mvT hZ49 (own_w hw 94 rfl)) (mvT hZ49 (own_w hw 95 rfl)) (mvT hZ49 (own_w hw 3 rfl)) (mvT hZ49 (own_w hw 96 rfl)) (by decide) (backOf (W := 1) (own_rm17 l Z a0 hw [] (c1) ((1 : Int32)) (off) T66.heap n0 (Nat.le_trans Z0 K81.1)) hZ49 (own_w hw 96 rfl) (own_w hw 3 rfl) (by decide) (by decide)) (g := (mkF m 110 #[iv lS, iv oS, iv p_, iv q_, iv r_, iv n_, iv off, iv c0, iv c1, iv c2, iv c3, iv c4, iv c5, rv b27, .unset] [(.int off), (.int 1), (.int c1), (.int ((1 : Int32) + (own_nl c0 (0 : Int32) off)))])) rfl (by rw [hml]; rfl) (argsL := [(.int c1), (.int 1), (.int off)]) (rest := [(.int ((1 : Int32) + (own_nl c0 (0 : Int32) off)))]) (lenOf own_pd18 rfl) rfl (by show 2 * 0 + _ ≤ _; exact Nat.le_of_eq rfl) (hb hby at_110) (fun _ _ => ⟨rfl, (eq82.trans rfl), (by decide : 11 + 0 ≤ _), (by decide : 98 + 0 ≤ _)⟩)
  dsimp only [Pt.U, Pt.locs, Pt.cells, Pt.slots] at X88 l88 y88 z88 st88 hQ88
  subst l88 y88 z88
  obtain ⟨rfl, rfl, eq86⟩ := hQ88
  try rw [List.append_nil] at X88
  have S89 : own_G p e below s0 T88 m 113 #[iv lS, iv oS, iv p_, iv q_, iv r_, iv n_, iv off, iv c0, iv c1, iv c2, iv c3, iv c4, iv c5, rv b27, .unset] [(.int (own_nl c1 (1 : Int32) off)), (.int ((1 : Int32) + (own_nl c0 (0 : Int32) off)))] := fun t kt => S87 t (st88 _ kt)
  have S91 : own_G p e below s0 T88 m 119 #[iv lS, iv oS, iv p_, iv q_, iv r_, iv n_, iv off, iv c0, iv c1, iv c2, iv c3, iv c4, iv c5, rv b27, .unset] [(.int off), (.int 2), (.int c2), (.int (((1 : Int32) + (own_nl c0 (0 : Int32) off)) + (own_nl c1 (1 : Int32) off)))] := fun t kt => by
    refine S89 t ?_
    refine w_iadd X88 hx hby at_113 ?_
    refine w_iload X88 hx hby at_114 rfl ?_
    refine w_iconst X88 hx hby at_116 ?_
    refine w_iload X88 hx hby at_117 rfl ?_
    exact kt
  obtain ⟨_, _, ⟨T92, L92, k92, n92⟩, -, X92, ⟨Lc92, hQ92, l92, y92, z92⟩, st92⟩ := Jvm.LawKit.callS X88 hx (y := own_y2) ho49 (mvT hZ49 (own_w hw 94 rfl)) (mvT hZ49 (own_w hw 95 rfl)) (mvT hZ49 (own_w hw 3 rfl)) (mvT hZ49 (own_w hw 96 rfl)) (by decide) (backOf (W := 1) (own_rm17 l Z a0 hw [] (c2) ((2 : Int32)) (off) T66.heap n0 (Nat.le_trans Z0 K81.1)) hZ49 (own_w hw 96 rfl) (own_w hw 3 rfl) (by decide) (by decide)) (g := (mkF m 119 #[iv lS, iv oS, iv p_, iv q_, iv r_, iv n_, iv off, iv c0, iv c1, iv c2, iv c3, iv c4, iv c5, rv b27, .unset] [(.int off), (.int 2), (.int c2), (.int (((1 : Int32) + (own_nl c0 (0 : Int32) off)) + (own_nl c1 (1 : Int32) off)))])) rfl (by rw [hml]; rfl) (argsL := [(.int c2), (.int 2), (.int off)]) (rest := [(.int (((1 : Int32) + (own_nl c0 (0 : Int32) off)) + (own_nl c1 (1 : Int32) off)))]) (lenOf own_pd18 rfl) rfl (by show 2 * 0 + _ ≤ _; exact Nat.le_of_eq rfl) (hb hby at_119) (fun _ _ => ⟨rfl, eq86, (by decide : 11 + 0 ≤ _), (by decide : 98 + 0 ≤ _)⟩)
  dsimp only [Pt.U, Pt.locs, Pt.cells, Pt.slots] at X92 l92 y92 z92 st92 hQ92
  subst l92 y92 z92
  obtain ⟨rfl, rfl, eq90⟩ := hQ92
  try rw [List.append_nil] at X92
  have S93 : own_G p e below s0 T92 m 122 #[iv lS, iv oS, iv p_, iv q_, iv r_, iv n_, iv off, iv c0, iv c1, iv c2, iv c3, iv c4, iv c5, rv b27, .unset] [(.int (own_nl c2 (2 : Int32) off)), (.int (((1 : Int32) + (own_nl c0 (0 : Int32) off)) + (own_nl c1 (1 : Int32) off)))] := fun t kt => S91 t (st92 _ kt)
  have S95 : own_G p e below s0 T92 m 128 #[iv lS, iv oS, iv p_, iv q_, iv r_, iv n_, iv off, iv c0, iv c1, iv c2, iv c3, iv c4, iv c5, rv b27, .unset] [(.int off), (.int 3), (.int c3), (.int ((((1 : Int32) + (own_nl c0 (0 : Int32) off)) + (own_nl c1 (1 : Int32) off)) + (own_nl c2 (2 : Int32) off)))] := fun t kt => by
    refine S93 t ?_
    refine w_iadd X92 hx hby at_122 ?_
    refine w_iload X92 hx hby at_123 rfl ?_
    refine w_iconst X92 hx hby at_125 ?_
    refine w_iload X92 hx hby at_126 rfl ?_
    exact kt
  obtain ⟨_, _, ⟨T96, L96, k96, n96⟩, -, X96, ⟨Lc96, hQ96, l96, y96, z96⟩, st96⟩ := Jvm.LawKit.callS X92 hx (y := own_y2) ho49 (mvT hZ49 (own_w hw 94 rfl)) (mvT hZ49 (own_w hw 95 rfl)) (mvT hZ49 (own_w hw 3 rfl)) (mvT hZ49 (own_w hw 96 rfl)) (by decide) (backOf (W := 1) (own_rm17 l Z a0 hw [] (c3) ((3 : Int32)) (off) T66.heap n0 (Nat.le_trans Z0 K81.1)) hZ49 (own_w hw 96 rfl) (own_w hw 3 rfl) (by decide) (by decide)) (g := (mkF m 128 #[iv lS, iv oS, iv p_, iv q_, iv r_, iv n_, iv off, iv c0, iv c1, iv c2, iv c3, iv c4, iv c5, rv b27, .unset] [(.int off), (.int 3), (.int c3), (.int ((((1 : Int32) + (own_nl c0 (0 : Int32) off)) + (own_nl c1 (1 : Int32) off)) + (own_nl c2 (2 : Int32) off)))])) rfl (by rw [hml]; rfl) (argsL := [(.int c3), (.int 3), (.int off)]) (rest := [(.int ((((1 : Int32) + (own_nl c0 (0 : Int32) off)) + (own_nl c1 (1 : Int32) off)) + (own_nl c2 (2 : Int32) off)))]) (lenOf own_pd18 rfl) rfl (by show 2 * 0 + _ ≤ _; exact Nat.le_of_eq rfl) (hb hby at_128) (fun _ _ => ⟨rfl, eq90, (by decide : 11 + 0 ≤ _), (by decide : 98 + 0 ≤ _)⟩)
  dsimp only [Pt.U, Pt.locs, Pt.cells, Pt.slots] at X96 l96 y96 z96 st96 hQ96
  subst l96 y96 z96
  obtain ⟨rfl, rfl, eq94⟩ := hQ96
  try rw [List.append_nil] at X96
  have S97 : own_G p e below s0 T96 m 131 #[iv lS, iv oS, iv p_, iv q_, iv r_, iv n_, iv off, iv c0, iv c1, iv c2, iv c3, iv c4, iv c5, rv b27, .unset] [(.int (own_nl c3 (3 : Int32) off)), (.int ((((1 : Int32) + (own_nl c0 (0 : Int32) off)) + (own_nl c1 (1 : Int32) off)) + (own_nl c2 (2 : Int32) off)))] := fun t kt => S95 t (st96 _ kt)
  have S99 : own_G p e below s0 T96 m 137 #[iv lS, iv oS, iv p_, iv q_, iv r_, iv n_, iv off, iv c0, iv c1, iv c2, iv c3, iv c4, iv c5, rv b27, .unset] [(.int off), (.int 4), (.int c4), (.int (((((1 : Int32) + (own_nl c0 (0 : Int32) off)) + (own_nl c1 (1 : Int32) off)) + (own_nl c2 (2 : Int32) off)) + (own_nl c3 (3 : Int32) off)))] := fun t kt => by
    refine S97 t ?_
    refine w_iadd X96 hx hby at_131 ?_
    refine w_iload X96 hx hby at_132 rfl ?_
    refine w_iconst X96 hx hby at_134 ?_
    refine w_iload X96 hx hby at_135 rfl ?_
    exact kt
  obtain ⟨_, _, ⟨T100, L100, k100, n100⟩, -, X100, ⟨Lc100, hQ100, l100, y100, z100⟩, st100⟩ := Jvm.LawKit.callS X96 hx (y := own_y2) ho49 (mvT hZ49 (own_w hw 94 rfl)) (mvT hZ49 (own_w hw 95 rfl)) (mvT hZ49 (own_w hw 3 rfl)) (mvT hZ49 (own_w hw 96 rfl)) (by decide) (backOf (W := 1) (own_rm17 l Z a0 hw [] (c4) ((4 : Int32)) (off) T66.heap n0 (Nat.le_trans Z0 K81.1)) hZ49 (own_w hw 96 rfl) (own_w hw 3 rfl) (by decide) (by decide)) (g := (mkF m 137 #[iv lS, iv oS, iv p_, iv q_, iv r_, iv n_, iv off, iv c0, iv c1, iv c2, iv c3, iv c4, iv c5, rv b27, .unset] [(.int off), (.int 4), (.int c4), (.int (((((1 : Int32) + (own_nl c0 (0 : Int32) off)) + (own_nl c1 (1 : Int32) off)) + (own_nl c2 (2 : Int32) off)) + (own_nl c3 (3 : Int32) off)))])) rfl (by rw [hml]; rfl) (argsL := [(.int c4), (.int 4), (.int off)]) (rest := [(.int (((((1 : Int32) + (own_nl c0 (0 : Int32) off)) + (own_nl c1 (1 : Int32) off)) + (own_nl c2 (2 : Int32) off)) + (own_nl c3 (3 : Int32) off)))]) (lenOf own_pd18 rfl) rfl (by show 2 * 0 + _ ≤ _; exact Nat.le_of_eq rfl) (hb hby at_137) (fun _ _ => ⟨rfl, eq94, (by decide : 11 + 0 ≤ _), (by decide : 98 + 0 ≤ _)⟩)
  dsimp only [Pt.U, Pt.locs, Pt.cells, Pt.slots] at X100 l100 y100 z100 st100 hQ100
  subst l100 y100 z100
  obtain ⟨rfl, rfl, eq98⟩ := hQ100
  try rw [List.append_nil] at X100
  have S101 : own_G p e below s0 T100 m 140 #[iv lS, iv oS, iv p_, iv q_, iv r_, iv n_, iv off, iv c0, iv c1, iv c2, iv c3, iv c4, iv c5, rv b27, .unset] [(.int (own_nl c4 (4 : Int32) off)), (.int (((((1 : Int32) + (own_nl c0 (0 : Int32) off)) + (own_nl c1 (1 : Int32) off)) + (own_nl c2 (2 : Int32) off)) + (own_nl c3 (3 : Int32) off)))] := fun t kt => S99 t (st100 _ kt)
  have S103 : own_G p e below s0 T100 m 146 #[iv lS, iv oS, iv p_, iv q_, iv r_, iv n_, iv off, iv c0, iv c1, iv c2, iv c3, iv c4, iv c5, rv b27, .unset] [(.int off), (.int 5), (.int c5), (.int ((((((1 : Int32) + (own_nl c0 (0 : Int32) off)) + (own_nl c1 (1 : Int32) off)) + (own_nl c2 (2 : Int32) off)) + (own_nl c3 (3 : Int32) off)) + (own_nl c4 (4 : Int32) off)))] := fun t kt => by
    refine S101 t ?_
    refine w_iadd X100 hx hby at_140 ?_
    refine w_iload X100 hx hby at_141 rfl ?_
    refine w_iconst X100 hx hby at_143 ?_
    refine w_iload X100 hx hby at_144 rfl ?_
    exact kt
  obtain ⟨_, _, ⟨T104, L104, k104, n104⟩, -, X104, ⟨Lc104, hQ104, l104, y104, z104⟩, st104⟩ := Jvm.LawKit.callS X100 hx (y := own_y2) ho49 (mvT hZ49 (own_w hw 94 rfl)) (mvT hZ49 (own_w hw 95 rfl)) (mvT hZ49 (own_w hw 3 rfl)) (mvT hZ49 (own_w hw 96 rfl)) (by decide) (backOf (W := 1) (own_rm17 l Z a0 hw [] (c5) ((5 : Int32)) (off) T66.heap n0 (Nat.le_trans Z0 K81.1)) hZ49 (own_w hw 96 rfl) (own_w hw 3 rfl) (by decide) (by decide)) (g := (mkF m 146 #[iv lS, iv oS, iv p_, iv q_, iv r_, iv n_, iv off, iv c0, iv c1, iv c2, iv c3, iv c4, iv c5, rv b27, .unset] [(.int off), (.int 5), (.int c5), (.int ((((((1 : Int32) + (own_nl c0 (0 : Int32) off)) + (own_nl c1 (1 : Int32) off)) + (own_nl c2 (2 : Int32) off)) + (own_nl c3 (3 : Int32) off)) + (own_nl c4 (4 : Int32) off)))])) rfl (by rw [hml]; rfl) (argsL := [(.int c5), (.int 5), (.int off)]) (rest := [(.int ((((((1 : Int32) + (own_nl c0 (0 : Int32) off)) + (own_nl c1 (1 : Int32) off)) + (own_nl c2 (2 : Int32) off)) + (own_nl c3 (3 : Int32) off)) + (own_nl c4 (4 : Int32) off)))]) (lenOf own_pd18 rfl) rfl (by show 2 * 0 + _ ≤ _; exact Nat.le_of_eq rfl) (hb hby at_146) (fun _ _ => ⟨rfl, eq98, (by decide : 11 + 0 ≤ _), (by decide : 98 + 0 ≤ _)⟩)
  dsimp only [Pt.U, Pt.locs, Pt.cells, Pt.slots] at X104 l104 y104 z104 st104 hQ104
  subst l104 y104 z104
  obtain ⟨rfl, rfl, eq102⟩ := hQ104
  try rw [List.append_nil] at X104
  have S105 : own_G p e below s0 T104 m 149 #[iv lS, iv oS, iv p_, iv q_, iv r_, iv n_, iv off, iv c0, iv c1, iv c2, iv c3, iv c4, iv c5, rv b27, .unset] [(.int (own_nl c5 (5 : Int32) off)), (.int ((((((1 : Int32) + (own_nl c0 (0 : Int32) off)) + (own_nl c1 (1 : Int32) off)) + (own_nl c2 (2 : Int32) off)) + (own_nl c3 (3 : Int32) off)) + (own_nl c4 (4 : Int32) off)))] := fun t kt => S103 t (st104 _ kt)
  have S106 : own_G p e below s0 T104 m 156 #[iv lS, iv oS, iv p_, iv q_, iv r_, iv n_, iv off, iv c0, iv c1, iv c2, iv c3, iv c4, iv c5, rv b27, iv (((((((1 : Int32) + (own_nl c0 (0 : Int32) off)) + (own_nl c1 (1 : Int32) off)) + (own_nl c2 (2 : Int32) off)) + (own_nl c3 (3 : Int32) off)) + (own_nl c4 (4 : Int32) off)) + (own_nl c5 (5 : Int32) off))] [(.int off), (.ref b27)] := fun t kt => by
    refine S105 t ?_
    refine w_iadd X104 hx hby at_149 ?_
    refine w_istore X104 hx hby at_150 (l' := #[iv lS, iv oS, iv p_, iv q_, iv r_, iv n_, iv off, iv c0, iv c1, iv c2, iv c3, iv c4, iv c5, rv b27, iv (((((((1 : Int32) + (own_nl c0 (0 : Int32) off)) + (own_nl c1 (1 : Int32) off)) + (own_nl c2 (2 : Int32) off)) + (own_nl c3 (3 : Int32) off)) + (own_nl c4 (4 : Int32) off)) + (own_nl c5 (5 : Int32) off))]) rfl ?_
    refine w_aload X104 hx hby at_152 rfl rfl ?_
    refine w_iload X104 hx hby at_154 rfl ?_
    exact kt
  have hEs := own_es_srt hn6 Hc64
  obtain ⟨cq108, kq108, q108a, q108b, q108c⟩ := isOf hZ49 eq102 Ec64
  obtain ⟨_, _, ⟨T108, L108, k108, n108⟩, -, X108, ⟨Lc108, hQ108, l108, y108, z108⟩, st108⟩ := X104.virtualBack hx (y := own_y4) (z := own_y4) ho49 (mvT hZ49 (own_w hw 97 rfl)) (mvT hZ49 (own_w hw 98 rfl)) (notFace_of_selects (args := #[]) (mvT hZ49 (own_w hw 100 rfl))) (mvT hZ49 (own_w hw 100 rfl)) (mvT hZ49 (own_w hw 99 rfl)) (by decide) (backOf (W := 0) (own_rm18 l Z a0 hw [] (b27) (off) (lb64) (kl64) (es64) T66.heap n0 (Nat.le_trans Z0 K81.1) Fl64 VL64 hEs.1 hEs.2) hZ49 (own_w hw 101 rfl) (own_w hw 7 rfl) (by decide) (by decide)) q108a q108c (g := (mkF m 156 #[iv lS, iv oS, iv p_, iv q_, iv r_, iv n_, iv off, iv c0, iv c1, iv c2, iv c3, iv c4, iv c5, rv b27, iv (((((((1 : Int32) + (own_nl c0 (0 : Int32) off)) + (own_nl c1 (1 : Int32) off)) + (own_nl c2 (2 : Int32) off)) + (own_nl c3 (3 : Int32) off)) + (own_nl c4 (4 : Int32) off)) + (own_nl c5 (5 : Int32) off))] [(.int off), (.ref b27)])) rfl (by rw [hml]; rfl) (Steps.refl _) (argsL := [(.int off)]) (rest := []) (lenOf own_pd6 rfl) rfl (by show 2 * 0 + _ ≤ _; exact Nat.le_of_eq rfl) (hb hby at_156) (fun _ _ => ⟨rfl, eq102, (by decide : 11 + 0 ≤ _), (by decide : 98 + 0 ≤ _)⟩)
  dsimp only [Pt.U, Pt.locs, Pt.cells, Pt.slots] at X108 l108 y108 z108 st108 hQ108
  subst l108 y108 z108
  obtain ⟨rfl, rfl, eq107⟩ := hQ108
  try rw [List.append_nil] at X108
  have S109 : own_G p e below s0 T108 m 159 #[iv lS, iv oS, iv p_, iv q_, iv r_, iv n_, iv off, iv c0, iv c1, iv c2, iv c3, iv c4, iv c5, rv b27, iv (((((((1 : Int32) + (own_nl c0 (0 : Int32) off)) + (own_nl c1 (1 : Int32) off)) + (own_nl c2 (2 : Int32) off)) + (own_nl c3 (3 : Int32) off)) + (own_nl c4 (4 : Int32) off)) + (own_nl c5 (5 : Int32) off))] [(.int (own_cle off es64))] := fun t kt => S106 t (st108.trans kt)
  have S110 : own_G p e below s0 T108 m 161 #[iv lS, iv oS, iv p_, iv q_, iv r_, iv n_, iv off, iv c0, iv c1, iv c2, iv c3, iv c4, iv c5, rv b27, iv (((((((1 : Int32) + (own_nl c0 (0 : Int32) off)) + (own_nl c1 (1 : Int32) off)) + (own_nl c2 (2 : Int32) off)) + (own_nl c3 (3 : Int32) off)) + (own_nl c4 (4 : Int32) off)) + (own_nl c5 (5 : Int32) off))] [(.int (((((((1 : Int32) + (own_nl c0 (0 : Int32) off)) + (own_nl c1 (1 : Int32) off)) + (own_nl c2 (2 : Int32) off)) + (own_nl c3 (3 : Int32) off)) + (own_nl c4 (4 : Int32) off)) + (own_nl c5 (5 : Int32) off))), (.int (own_cle off es64))] := fun t kt => by
    refine S109 t ?_
    refine w_iload X108 hx hby at_159 rfl ?_
    exact kt
  have hc161_111 : (own_cle off es64) = (((((((1 : Int32) + (own_nl c0 (0 : Int32) off)) + (own_nl c1 (1 : Int32) off)) + (own_nl c2 (2 : Int32) off)) + (own_nl c3 (3 : Int32) off)) + (own_nl c4 (4 : Int32) off)) + (own_nl c5 (5 : Int32) off)) := own_last hr0.1 hr0.2.1 hr0.2.2.1 hr0.2.2.2.1 hr0.2.2.2.2.1 hr0.2.2.2.2.2.1 hr0.2.2.2.2.2.2.1 hr0.2.2.2.2.2.2.2 Hc64
  have S112 : own_G p e below s0 T108 m 169 #[iv lS, iv oS, iv p_, iv q_, iv r_, iv n_, iv off, iv c0, iv c1, iv c2, iv c3, iv c4, iv c5, rv b27, iv (((((((1 : Int32) + (own_nl c0 (0 : Int32) off)) + (own_nl c1 (1 : Int32) off)) + (own_nl c2 (2 : Int32) off)) + (own_nl c3 (3 : Int32) off)) + (own_nl c4 (4 : Int32) off)) + (own_nl c5 (5 : Int32) off))] [(.int 1)] := fun t kt => by
    refine S110 t ?_
    refine w_icmpNo X108 hx hby at_161 (teq hc161_111).2 ?_
    refine w_iconst X108 hx hby at_164 ?_
    refine w_goto X108 hx hby (pc' := 169) at_165 (by decide) ?_
    exact kt
  obtain ⟨fs, hr, hrun, hended, -, hW, hBk, hsame⟩ := X108.leaveW hS49 (by rw [eq107]; exact (Nat.le_trans (Nat.le_refl _) Kc64.1)) (v := some (.int (nar .boolean (1 : Int32)))) (fun h => by rw [Bd.returns] at h; cases h)
  refine ⟨_, _, S112 _ ?_, hrun, hended, _, _, rfl, ?_, (by show CHr Z own_EL s.vm s.heap T108.vm T108.heap; rw [hh, eq107]; exact CR70.trans (CHv.at X108 hZ49 hEL CR70.1)), ⟨_, rfl⟩, hW, hBk, hsame.mono (by decide) (by decide)⟩
  · show Steps p.tables e below (T108.setTop (mkF m 169 #[iv lS, iv oS, iv p_, iv q_, iv r_, iv n_, iv off, iv c0, iv c1, iv c2, iv c3, iv c4, iv c5, rv b27, iv (((((((1 : Int32) + (own_nl c0 (0 : Int32) off)) + (own_nl c1 (1 : Int32) off)) + (own_nl c2 (2 : Int32) off)) + (own_nl c3 (3 : Int32) off)) + (own_nl c4 (4 : Int32) off)) + (own_nl c5 (5 : Int32) off))] [(.int 1)])) _
    exact retN X108 hx (t := .boolean) Bd.returns (by simp) (hb hby at_169) hr
  · show own_Q0 Z lS oS p_ q_ r_ cs h0 n0 _ T108.heap _
    rw [eq107]
    exact ⟨rfl, N67⟩
set_option maxHeartbeats 40000000 in
theorem own_comes {Post : Tables → Env → Array Value → State → Outcome → State → Prop} (hpost : ∀ tb e args s v u, (limb_1_1.after args s (.returned v) u = true ∧ limb_1_2.after args s (.returned v) u = true ∧ True) → FramedW s (.returned v) u (Jvm.fieldLocs frame_1_writes args s ++ Jvm.arrayLocs frame_1_arrays args s ++ Jvm.staticLocs frame_1_statics s) 24 2304 → Post tb e args s (.returned v) u) :
    ArmFor flags0 classFile x code maxLocals ret World_1 tables_1 room_1 Calls_1 rest_1 Pre_1 Post := by
  intro l hfl _ _ p e ha hc hk s m args below hf hA hF happ hP
  obtain ⟨hcalls, hrest, hpre⟩ := hP
  obtain ⟨-, -, -, hnamed, -, -, -, hat⟩ := (Spec.applies_iff hf).mp happ
  obtain ⟨hg, hn⟩ := and_e (Cond.before_iff.mp (show (Jvm.Cond.and given_1 narrow_1).before args s = true from hpre))
  obtain ⟨g1, g2⟩ := and_e hg
  obtain ⟨g3, g4⟩ := and_e g2
  obtain ⟨g5, g6⟩ := and_e g4
  obtain ⟨g7, g8⟩ := and_e g6
  obtain ⟨g9, g10⟩ := and_e g8
  obtain ⟨w0, w1, w2, w3, w4, rfl⟩ : ∃ w0 w1 w2 w3 w4 : Value, args = #[w0, w1, w2, w3, w4] := by
    have hs : args.size = 5 := by simpa [Cond.value, given_1] using g1
    obtain ⟨L⟩ := args
    match L, hs with
    | [w0, w1, w2, w3, w4], _ => exact ⟨w0, w1, w2, w3, w4, rfl⟩
  have hw := fun d (hd : d ∈ tables_1) => atoms_spec (ws := Jvm.Cond.code x code maxLocals ret :: tables_1) hat d (List.mem_cons_of_mem _ hd)
  have hfit : Fit s := fun {y c} hc i hi => by
    obtain ⟨ha, rfl⟩ := Array.getElem?_eq_some_iff.mp hc
    have q := List.all_eq_true.mp ((Array.all_eq_true_iff_forall_mem.mp hF) _ (Array.getElem_mem ha)) i (List.mem_range.mpr hi)
    simpa [Array.getElem?_eq_getElem hi] using q
  obtain ⟨hsets, hown0⟩ := atoms_of _ (rest_1_c_eq ▸ (show rest_1_c.before _ s = true from hrest))
  have hr0 := Cond.before_iff.mp hown0
  obtain ⟨i0, ei0⟩ := is_v g3
  obtain rfl : w0 = (.int i0) := Option.some.inj ei0
  obtain ⟨i1, ei1⟩ := is_v g5
  obtain rfl : w1 = (.int i1) := Option.some.inj ei1
  obtain ⟨i2, ei2⟩ := is_v g7
  obtain rfl : w2 = (.int i2) := Option.some.inj ei2
  obtain ⟨i3, ei3⟩ := is_v g9
  obtain rfl : w3 = (.int i3) := Option.some.inj ei3
  obtain ⟨i4, ei4⟩ := is_v g10
  obtain rfl : w4 = (.int i4) := Option.some.inj ei4
  obtain ⟨icS, eS⟩ := is_v (Cond.before_iff.mp (hsets _ (List.mem_of_getElem? (i := 1) rfl)))
  have S_CSs : Sta s s.heap "java/lang/String" "COMPACT_STRINGS" "Z" (.int icS) := Sta.start eS (Or.inl (hsets _ (List.mem_of_getElem? (i := 0) rfl)))
  have hcs0 : ¬ icS = (0 : Int32) := gotF (Cond.eq_ints eS rfl) (not_v (Cond.before_iff.mp (hsets _ (List.mem_of_getElem? (i := 2) rfl))))
  have hCH : CHv s own_EL s.vm s.heap := CHv.start (own_EW hw) (fun q hq => hcalls.1 q hq) (by first | exact (hsets _ (List.mem_of_getElem? (i := 2) rfl)) | exact Cond.before_iff.mpr (Cond.before_iff.mp (hsets _ (List.mem_of_getElem? (i := 2) rfl)))) (own_w hw 11 rfl) (own_w hw 10 rfl)
  obtain ⟨n, o, h1, h2, h3, _, L, rfl, ⟨rfl, N⟩, -, hq⟩ := own_rm0 l s _ hw tables_1 i0 i1 i2 i3 i4 icS s.heap s.heap.size (Nat.le_refl _) S_CSs hcs0 p e ha hc hk s m _ below hf ((Spec.applies_iff_loose hf).mp happ).1 ⟨rfl, State.Warmed39.refl s, rfl, hCH⟩ trivial
  refine ⟨n, _, h1, h2, h3, hpost _ _ _ _ _ _ ⟨Cond.after_iff.mpr rfl, Cond.after_iff.mpr (eq_i res_at (Term.int_eval (1)) rfl), trivial⟩ ⟨hq.1, hq.2.1, hq.2.2.1, (hq.2.2.2.sift fun y hy => Or.inr (N y hy)).mono (by decide) (by decide)⟩⟩
theorem main_1_1 : Claimed_1_1 := own_comes fun _ _ _ _ _ _ h hF => ⟨h.1, hF⟩
theorem main_1_2 : Claimed_1_2 := own_comes fun _ _ _ _ _ _ h hF => ⟨h.2.1, hF⟩
end Jvm.Pilot.@@N@@
namespace Jvm.Pilot.@@N@@
open Jvm Jvm.ClassFile Sem Op Lib Jvm.Free Jvm.Stand Jvm.Pilot.@@N@@.Jvm.D
/-! MADE BY PROGRAM (witnessworld.py) out of the Statement's table words and the real class files: 23 classes; the members and pool entries that the words name. The judged class is class 1, her method 4. -/
namespace start1
open Jvm.ClassFile
def u (s : String) : CpInfo := .utf8 (stringToUtf16 s)
/-- a pool by its gaps: so many unusable entries, then the entry; so many at the end -/
def gap : Nat → List CpInfo → List CpInfo
  | 0, r => r
  | n + 1, r => .unusable :: gap n r
def poolList (es : List (Nat × CpInfo)) (last : Nat) : List CpInfo := es.foldr (fun e r => gap e.1 (e.2 :: r)) (gap last [])
def pool (es : List (Nat × CpInfo)) (last : Nat) : Array CpInfo := ⟨poolList es last⟩
def fileOf (pool : Array CpInfo) (this : Nat) (attrs : Array Attribute := #[]) (ms : Array MethodInfo := #[]) (fl : Nat := 33) (sup : Nat := 0) (ifs : Array Nat := #[]) (fds : Array FieldInfo := #[]) : ClassFile where
  minorVersion := 0
  majorVersion := 65
  constantPool := pool
  accessFlags := fl
  thisClass := this
  superClass := sup
  interfaces := ifs
  fields := fds
  methods := ms
  attributes := attrs
def plain (name : String) (sup : Option ClassId) : Class where
  name := name
  kind := .ordinary
  loader := none
  accessFlags := 33
  super := sup
  interfaces := #[]
  cf := none
  fields := #[]
  methods := #[]
  instanceTypes := #[]
  staticTypes := #[]
  resolved := #[]
  callSites := []
  init := .initialized
  statics := none
  mirror := none

def pool0 : Array CpInfo := pool [(5, u "<init>"), (0, u "()V"), (1, .class_ 10), (1, u "java/lang/Object")] 113

def k0c0 : Code := { maxStack := 0, maxLocals := 1, code := object_method_1_code, exceptionTable := #[], attributes := #[] }
def k0m0 : Method := { name := "<init>", desc := "()V", sig := { parameters := [], returnType := none }, accessFlags := 1, code := some k0c0 }
/-- java/lang/Object -/
def k0 : Class := { plain "java/lang/Object" none with
  accessFlags := 33
  interfaces := #[]
  cf := some (fileOf pool0 8 #[] #[{ accessFlags := 1, nameIndex := 5, descriptorIndex := 6, attributes := #[] }] 33 0 #[] #[])
  fields := #[]
  methods := #[k0m0]
  instanceTypes := #[]
  staticTypes := #[]
  resolved := Array.replicate 124 none
  statics := none }

def pool1 : Array CpInfo := pool [(2, .class_ 4), (1, u "java/lang/Object"), (0, u "<init>"), (0, u "()V"), (0, .class_ 8), (0, u "java/lang/String"), (0, .methodref 7 10), (0, .nameAndType 5 11), (0, u "([C)V"), (0, .integer 2147483647), (0, .methodref 14 15), (0, .class_ 16), (0, .nameAndType 17 18), (0, u "com/example/invariant_to_halt/invarianttohalt/reader/SourceTextLinePinLaw"), (0, u "ch"), (0, u "(I)C"), (0, .class_ 20), (0, u "com/example/invariant_to_halt/invarianttohalt/reader/SourceText"), (0, .string 22), (0, u "f"), (0, .methodref 14 24), (0, .nameAndType 25 26), (0, u "make"), (0, u "(ICCCCCC)Ljava/lang/String;"), (0, .methodref 19 28), (0, .nameAndType 5 29), (0, u "(Ljava/lang/String;Ljava/lang/String;)V"), (0, .methodref 14 31), (0, .nameAndType 32 33), (0, u "nl"), (0, u "(CII)I"), (0, .methodref 19 35), (0, .nameAndType 36 37), (0, u "line"), (0, u "(I)I"), (3, u "law"), (0, u "(IIIII)Z")] 2

def k1m0 : Method := { name := "<init>", desc := "()V", sig := { parameters := [], returnType := none }, accessFlags := 1, code := none }
def k1c1 : Code := { maxStack := 2, maxLocals := 1, code := method_2_code, exceptionTable := #[], attributes := #[] }
def k1m1 : Method := { name := "ch", desc := "(I)C", sig := { parameters := [.int], returnType := some .char }, accessFlags := 10, code := some k1c1 }
def k1c2 : Code := { maxStack := 2, maxLocals := 3, code := method_3_code, exceptionTable := #[], attributes := #[] }
def k1m2 : Method := { name := "nl", desc := "(CII)I", sig := { parameters := [.char, .int, .int], returnType := some .int }, accessFlags := 10, code := some k1c2 }
def k1c3 : Code := { maxStack := 6, maxLocals := 7, code := method_4_code, exceptionTable := #[], attributes := #[] }
def k1m3 : Method := { name := "make", desc := "(ICCCCCC)Ljava/lang/String;", sig := { parameters := [.int, .char, .char, .char, .char, .char, .char], returnType := some (.object "java/lang/String") }, accessFlags := 10, code := some k1c3 }
def k1c4 : Code := { maxStack := 10, maxLocals := 15, code := code, exceptionTable := #[], attributes := #[] }
def k1m4 : Method := { name := "law", desc := "(IIIII)Z", sig := { parameters := [.int, .int, .int, .int, .int], returnType := some .boolean }, accessFlags := 9, code := some k1c4 }
/-- com/example/invariant_to_halt/invarianttohalt/reader/SourceTextLinePinLaw -/
def k1 : Class := { plain "com/example/invariant_to_halt/invarianttohalt/reader/SourceTextLinePinLaw" (some 0) with
  accessFlags := 49
  interfaces := #[]
  cf := some (fileOf pool1 14 #[] #[{ accessFlags := 1, nameIndex := 5, descriptorIndex := 6, attributes := #[] }, { accessFlags := 10, nameIndex := 17, descriptorIndex := 18, attributes := #[] }, { accessFlags := 10, nameIndex := 32, descriptorIndex := 33, attributes := #[] }, { accessFlags := 10, nameIndex := 25, descriptorIndex := 26, attributes := #[] }, { accessFlags := 9, nameIndex := 41, descriptorIndex := 42, attributes := #[] }] 49 2 #[] #[])
  fields := #[]
  methods := #[k1m0, k1m1, k1m2, k1m3, k1m4]
  instanceTypes := #[]
  staticTypes := #[]
  resolved := Array.replicate 45 none
  statics := none }

def pool2 : Array CpInfo := pool [(1, .methodref 2 3), (0, .class_ 4), (0, .nameAndType 5 6), (0, u "java/lang/Object"), (0, u "<init>"), (0, u "()V"), (0, .fieldref 8 9), (0, .class_ 10), (0, .nameAndType 11 12), (0, u "com/example/invariant_to_halt/invarianttohalt/reader/SourceText"), (0, u "fileName"), (0, u "Ljava/lang/String;"), (0, .fieldref 8 14), (0, .nameAndType 15 12), (0, u "text"), (0, .methodref 17 18), (0, .class_ 19), (0, .nameAndType 20 21), (0, u "java/lang/String"), (0, u "indexOf"), (0, u "(I)I"), (0, .methodref 23 24), (0, .class_ 25), (0, .nameAndType 26 27), (0, u "java/util/Arrays"), (0, u "copyOf"), (0, u "([II)[I"), (0, .methodref 17 29), (0, .nameAndType 20 30), (0, u "(II)I"), (0, .fieldref 8 32), (0, .nameAndType 33 34), (0, u "lineStarts"), (0, u "[I"), (0, .methodref 23 36), (0, .nameAndType 37 38), (0, u "binarySearch"), (0, u "([II)I"), (2, u "line"), (39, u "(Ljava/lang/String;Ljava/lang/String;)V")] 33

def k2c0 : Code := { maxStack := 4, maxLocals := 6, code := prog_62_method_1_code, exceptionTable := #[], attributes := #[] }
def k2m0 : Method := { name := "<init>", desc := "(Ljava/lang/String;Ljava/lang/String;)V", sig := { parameters := [(.object "java/lang/String"), (.object "java/lang/String")], returnType := none }, accessFlags := 0, code := some k2c0 }
def k2c1 : Code := { maxStack := 2, maxLocals := 3, code := prog_62_method_3_code, exceptionTable := #[], attributes := #[] }
def k2m1 : Method := { name := "line", desc := "(I)I", sig := { parameters := [.int], returnType := some .int }, accessFlags := 0, code := some k2c1 }
/-- com/example/invariant_to_halt/invarianttohalt/reader/SourceText -/
def k2 : Class := { plain "com/example/invariant_to_halt/invarianttohalt/reader/SourceText" (some 0) with
  accessFlags := 32
  interfaces := #[]
  cf := some (fileOf pool2 8 #[] #[{ accessFlags := 0, nameIndex := 5, descriptorIndex := 81, attributes := #[] }, { accessFlags := 0, nameIndex := 41, descriptorIndex := 21, attributes := #[] }] 32 2 #[] #[{ accessFlags := 18, nameIndex := 11, descriptorIndex := 12, attributes := #[] }, { accessFlags := 18, nameIndex := 15, descriptorIndex := 12, attributes := #[] }, { accessFlags := 18, nameIndex := 33, descriptorIndex := 34, attributes := #[] }])
  fields := #[{ name := "fileName", type := (.object "java/lang/String"), accessFlags := 18, slot := 0, constantValue := 0 }, { name := "text", type := (.object "java/lang/String"), accessFlags := 18, slot := 1, constantValue := 0 }, { name := "lineStarts", type := (.array .int), accessFlags := 18, slot := 2, constantValue := 0 }]
  methods := #[k2m0, k2m1]
  instanceTypes := #[(.object "java/lang/String"), (.object "java/lang/String"), (.array .int)]
  staticTypes := #[]
  resolved := Array.replicate 115 none
  statics := none }

def pool3 : Array CpInfo := pool [(1, .class_ 2), (0, u "java/io/Serializable"), (0, .class_ 4), (0, u "java/lang/Object")] 2

/-- java/io/Serializable -/
def k3 : Class := { plain "java/io/Serializable" (some 0) with
  accessFlags := 1537
  interfaces := #[]
  cf := some (fileOf pool3 1 #[] #[] 1537 3 #[] #[])
  fields := #[]
  methods := #[]
  instanceTypes := #[]
  staticTypes := #[]
  resolved := Array.replicate 7 none
  statics := none }

def pool4 : Array CpInfo := pool [(1, .class_ 2), (0, u "java/lang/Comparable"), (0, .class_ 4), (0, u "java/lang/Object")] 7

/-- java/lang/Comparable -/
def k4 : Class := { plain "java/lang/Comparable" (some 0) with
  accessFlags := 1537
  interfaces := #[]
  cf := some (fileOf pool4 1 #[] #[] 1537 3 #[] #[])
  fields := #[]
  methods := #[]
  instanceTypes := #[]
  staticTypes := #[]
  resolved := Array.replicate 12 none
  statics := none }

def pool5 : Array CpInfo := pool [(2, .class_ 4), (1, u "java/lang/CharSequence"), (42, .class_ 48), (0, u "java/lang/CharSequence$1CodePointIterator"), (10, .class_ 60), (0, u "java/lang/CharSequence$1CharIterator"), (5, .class_ 67), (0, u "java/lang/Object")] 63

/-- java/lang/CharSequence -/
def k5 : Class := { plain "java/lang/CharSequence" (some 0) with
  accessFlags := 1537
  interfaces := #[]
  cf := some (fileOf pool5 2 #[.nestMembers #[47, 59]] #[] 1537 66 #[] #[])
  fields := #[]
  methods := #[]
  instanceTypes := #[]
  staticTypes := #[]
  resolved := Array.replicate 131 none
  statics := none }

def pool6 : Array CpInfo := pool [(1, .class_ 2), (0, u "java/lang/constant/Constable"), (0, .class_ 4), (0, u "java/lang/Object")] 6

/-- java/lang/constant/Constable -/
def k6 : Class := { plain "java/lang/constant/Constable" (some 0) with
  accessFlags := 1537
  interfaces := #[]
  cf := some (fileOf pool6 1 #[] #[] 1537 3 #[] #[])
  fields := #[]
  methods := #[]
  instanceTypes := #[]
  staticTypes := #[]
  resolved := Array.replicate 11 none
  statics := none }

def pool7 : Array CpInfo := pool [(1, .class_ 2), (0, u "java/lang/constant/ConstantDesc"), (0, .class_ 4), (0, u "java/lang/Object")] 32

/-- java/lang/constant/ConstantDesc -/
def k7 : Class := { plain "java/lang/constant/ConstantDesc" (some 0) with
  accessFlags := 1537
  interfaces := #[]
  cf := some (fileOf pool7 1 #[] #[] 1537 3 #[] #[])
  fields := #[]
  methods := #[]
  instanceTypes := #[]
  staticTypes := #[]
  resolved := Array.replicate 37 none
  statics := none }

def pool8 : Array CpInfo := pool [(1, .methodref 2 3), (0, .class_ 4), (0, .nameAndType 5 6), (0, u "java/lang/Object"), (0, u "<init>"), (0, u "()V"), (0, .string 8), (0, u ""), (0, .fieldref 10 11), (0, .class_ 12), (0, .nameAndType 13 14), (0, u "java/lang/String"), (0, u "value"), (0, u "[B"), (0, .fieldref 10 16), (0, .nameAndType 17 18), (0, u "coder"), (0, u "B"), (2, u "hash"), (0, u "I"), (2, u "hashIsZero"), (0, u "Z"), (0, .methodref 10 28), (0, .nameAndType 5 29), (0, u "([CIILjava/lang/Void;)V"), (8, .fieldref 10 39), (0, .nameAndType 40 26), (0, u "COMPACT_STRINGS"), (1, .class_ 44), (1, u "java/lang/StringUTF16"), (0, u "compress"), (1, .methodref 42 48), (0, .nameAndType 49 50), (0, u "coderFromArrayLen"), (0, u "([BI)B"), (56, .class_ 109), (1, u "java/lang/StringLatin1"), (32, u "()Z"), (34, .methodref 42 178), (0, .nameAndType 45 179), (0, u "([CII)[B"), (154, u "()I"), (0, .methodref 10 336), (0, .nameAndType 17 337), (0, u "()B"), (154, .methodref 10 493), (0, .nameAndType 494 142), (0, u "isLatin1"), (10, .methodref 10 506), (0, .nameAndType 507 334), (0, u "length"), (67, .class_ 576), (0, u "java/lang/CharSequence"), (22, u "CASE_INSENSITIVE_ORDER"), (0, u "Ljava/util/Comparator;"), (32, .methodref 10 634), (0, .nameAndType 635 636), (0, u "indexOf"), (0, u "(II)I"), (0, .methodref 107 638), (0, .nameAndType 635 639), (0, u "([BIII)I"), (125, u "(I)I"), (244, u "([C)V"), (90, u "serialPersistentFields"), (0, u "[Ljava/io/ObjectStreamField;"), (0, .class_ 1104), (0, u "java/lang/String$CaseInsensitiveComparator"), (1, .class_ 1107), (0, u "java/io/Serializable"), (0, .class_ 1109), (0, u "java/lang/Comparable"), (0, .class_ 1111), (0, u "java/lang/constant/Constable"), (0, .class_ 1113), (0, u "java/lang/constant/ConstantDesc"), (2, u "serialVersionUID"), (0, u "J"), (3, u "REPL"), (0, u "C"), (2, u "LATIN1"), (1, u "UTF16")] 323

def k8m0 : Method := { name := "<init>", desc := "()V", sig := { parameters := [], returnType := none }, accessFlags := 1, code := none }
def k8c1 : Code := { maxStack := 5, maxLocals := 2, code := jdk_42_method_3_code, exceptionTable := #[], attributes := #[] }
def k8m1 : Method := { name := "<init>", desc := "([C)V", sig := { parameters := [(.array .char)], returnType := none }, accessFlags := 1, code := some k8c1 }
def k8c2 : Code := { maxStack := 2, maxLocals := 1, code := jdk_42_method_54_code, exceptionTable := #[], attributes := #[] }
def k8m2 : Method := { name := "length", desc := "()I", sig := { parameters := [], returnType := some .int }, accessFlags := 1, code := some k8c2 }
def k8c3 : Code := { maxStack := 3, maxLocals := 2, code := jdk_42_method_79_code, exceptionTable := #[], attributes := #[] }
def k8m3 : Method := { name := "indexOf", desc := "(I)I", sig := { parameters := [.int], returnType := some .int }, accessFlags := 1, code := some k8c3 }
def k8c4 : Code := { maxStack := 4, maxLocals := 3, code := jdk_42_method_80_code, exceptionTable := #[], attributes := #[] }
def k8m4 : Method := { name := "indexOf", desc := "(II)I", sig := { parameters := [.int, .int], returnType := some .int }, accessFlags := 1, code := some k8c4 }
def k8c5 : Code := { maxStack := 4, maxLocals := 6, code := jdk_42_method_149_code, exceptionTable := #[], attributes := #[] }
def k8m5 : Method := { name := "<init>", desc := "([CIILjava/lang/Void;)V", sig := { parameters := [(.array .char), .int, .int, (.object "java/lang/Void")], returnType := none }, accessFlags := 2, code := some k8c5 }
def k8c6 : Code := { maxStack := 1, maxLocals := 1, code := jdk_42_method_152_code, exceptionTable := #[], attributes := #[] }
def k8m6 : Method := { name := "coder", desc := "()B", sig := { parameters := [], returnType := some .byte }, accessFlags := 0, code := some k8c6 }
def k8c7 : Code := { maxStack := 1, maxLocals := 1, code := jdk_42_method_154_code, exceptionTable := #[], attributes := #[] }
def k8m7 : Method := { name := "isLatin1", desc := "()Z", sig := { parameters := [], returnType := some .boolean }, accessFlags := 0, code := some k8c7 }
/-- java/lang/String -/
def k8 : Class := { plain "java/lang/String" (some 0) with
  accessFlags := 49
  interfaces := #[3, 4, 5, 6, 7]
  cf := some (fileOf pool8 10 #[.nestMembers #[1103]] #[{ accessFlags := 1, nameIndex := 5, descriptorIndex := 6, attributes := #[] }, { accessFlags := 1, nameIndex := 5, descriptorIndex := 1010, attributes := #[] }, { accessFlags := 1, nameIndex := 507, descriptorIndex := 334, attributes := #[] }, { accessFlags := 1, nameIndex := 635, descriptorIndex := 765, attributes := #[] }, { accessFlags := 1, nameIndex := 635, descriptorIndex := 636, attributes := #[] }, { accessFlags := 2, nameIndex := 5, descriptorIndex := 29, attributes := #[] }, { accessFlags := 0, nameIndex := 17, descriptorIndex := 337, attributes := #[] }, { accessFlags := 0, nameIndex := 494, descriptorIndex := 142, attributes := #[] }] 49 2 #[1106, 1108, 575, 1110, 1112] #[{ accessFlags := 18, nameIndex := 13, descriptorIndex := 14, attributes := #[] }, { accessFlags := 18, nameIndex := 17, descriptorIndex := 18, attributes := #[] }, { accessFlags := 2, nameIndex := 21, descriptorIndex := 22, attributes := #[] }, { accessFlags := 2, nameIndex := 25, descriptorIndex := 26, attributes := #[] }, { accessFlags := 26, nameIndex := 1116, descriptorIndex := 1117, attributes := #[] }, { accessFlags := 24, nameIndex := 40, descriptorIndex := 26, attributes := #[] }, { accessFlags := 26, nameIndex := 1101, descriptorIndex := 1102, attributes := #[] }, { accessFlags := 26, nameIndex := 1121, descriptorIndex := 1122, attributes := #[] }, { accessFlags := 25, nameIndex := 599, descriptorIndex := 600, attributes := #[] }, { accessFlags := 24, nameIndex := 1125, descriptorIndex := 18, attributes := #[] }, { accessFlags := 24, nameIndex := 1127, descriptorIndex := 18, attributes := #[] }])
  fields := #[{ name := "value", type := (.array .byte), accessFlags := 18, slot := 0, constantValue := 0 }, { name := "coder", type := .byte, accessFlags := 18, slot := 1, constantValue := 0 }, { name := "hash", type := .int, accessFlags := 2, slot := 2, constantValue := 0 }, { name := "hashIsZero", type := .boolean, accessFlags := 2, slot := 3, constantValue := 0 }, { name := "serialVersionUID", type := .long, accessFlags := 26, slot := 0, constantValue := 0 }, { name := "COMPACT_STRINGS", type := .boolean, accessFlags := 24, slot := 1, constantValue := 0 }, { name := "serialPersistentFields", type := (.array (.object "java/io/ObjectStreamField")), accessFlags := 26, slot := 2, constantValue := 0 }, { name := "REPL", type := .char, accessFlags := 26, slot := 3, constantValue := 0 }, { name := "CASE_INSENSITIVE_ORDER", type := (.object "java/util/Comparator"), accessFlags := 25, slot := 4, constantValue := 0 }, { name := "LATIN1", type := .byte, accessFlags := 24, slot := 5, constantValue := 0 }, { name := "UTF16", type := .byte, accessFlags := 24, slot := 6, constantValue := 0 }]
  methods := #[k8m0, k8m1, k8m2, k8m3, k8m4, k8m5, k8m6, k8m7]
  instanceTypes := #[(.array .byte), .byte, .int, .boolean]
  staticTypes := #[.long, .boolean, (.array (.object "java/io/ObjectStreamField")), .char, (.object "java/util/Comparator"), .byte, .byte]
  resolved := Array.replicate 1451 none
  statics := some 0 }

def pool9 : Array CpInfo := pool [(4, .class_ 6), (1, u "java/lang/Object"), (0, u "<init>"), (0, u "()V"), (5, .class_ 16), (1, u "java/lang/StringLatin1"), (21, .methodref 39 40), (0, .class_ 41), (0, .nameAndType 42 43), (0, u "java/lang/Math"), (0, u "min"), (0, u "(II)I"), (44, .methodref 14 89), (0, .nameAndType 90 91), (0, u "canEncode"), (0, u "(I)Z"), (0, .methodref 39 93), (0, .nameAndType 94 43), (0, u "max"), (0, .methodref 14 96), (0, .nameAndType 97 98), (0, u "indexOfChar"), (0, u "([BIII)I"), (2, u "indexOf"), (19, u "$assertionsDisabled"), (0, u "Z"), (98, .class_ 223), (1, u "java/lang/StringLatin1$LinesSpliterator"), (166, .class_ 391), (0, u "java/lang/StringLatin1$CharsSpliterator")] 3

def k9m0 : Method := { name := "<init>", desc := "()V", sig := { parameters := [], returnType := none }, accessFlags := 0, code := none }
def k9c1 : Code := { maxStack := 2, maxLocals := 1, code := jdk_43_method_4_code, exceptionTable := #[], attributes := #[] }
def k9m1 : Method := { name := "canEncode", desc := "(I)Z", sig := { parameters := [.int], returnType := some .boolean }, accessFlags := 9, code := some k9c1 }
def k9c2 : Code := { maxStack := 4, maxLocals := 4, code := jdk_43_method_22_code, exceptionTable := #[], attributes := #[] }
def k9m2 : Method := { name := "indexOf", desc := "([BIII)I", sig := { parameters := [(.array .byte), .int, .int, .int], returnType := some .int }, accessFlags := 9, code := some k9c2 }
def k9c3 : Code := { maxStack := 2, maxLocals := 6, code := jdk_43_method_23_code, exceptionTable := #[], attributes := #[] }
def k9m3 : Method := { name := "indexOfChar", desc := "([BIII)I", sig := { parameters := [(.array .byte), .int, .int, .int], returnType := some .int }, accessFlags := 10, code := some k9c3 }
/-- java/lang/StringLatin1 -/
def k9 : Class := { plain "java/lang/StringLatin1" (some 0) with
  accessFlags := 48
  interfaces := #[]
  cf := some (fileOf pool9 14 #[.nestMembers #[390, 221]] #[{ accessFlags := 0, nameIndex := 7, descriptorIndex := 8, attributes := #[] }, { accessFlags := 9, nameIndex := 90, descriptorIndex := 91, attributes := #[] }, { accessFlags := 9, nameIndex := 101, descriptorIndex := 98, attributes := #[] }, { accessFlags := 10, nameIndex := 97, descriptorIndex := 98, attributes := #[] }] 48 4 #[] #[{ accessFlags := 4120, nameIndex := 121, descriptorIndex := 122, attributes := #[] }])
  fields := #[{ name := "$assertionsDisabled", type := .boolean, accessFlags := 4120, slot := 0, constantValue := 0 }]
  methods := #[k9m0, k9m1, k9m2, k9m3]
  instanceTypes := #[]
  staticTypes := #[.boolean]
  resolved := Array.replicate 395 none
  statics := none }

def pool10 : Array CpInfo := pool [(1, .class_ 2), (0, u "java/lang/Math"), (1, .class_ 6), (1, u "java/lang/Object"), (0, u "<init>"), (0, u "()V"), (89, .class_ 100), (1, u "java/lang/Math$RandomNumberGeneratorHolder"), (71, u "negativeZeroFloatBits"), (0, u "J"), (2, u "negativeZeroDoubleBits"), (21, u "max"), (2, u "min"), (43, u "$assertionsDisabled"), (0, u "Z"), (88, u "(II)I"), (2, u "twoToTheDoubleScaleDown"), (0, u "D"), (4, u "twoToTheDoubleScaleUp"), (9, u "E"), (3, u "PI"), (2, u "TAU"), (2, u "DEGREES_TO_RADIANS"), (0, u "RADIANS_TO_DEGREES")] 94

def k10m0 : Method := { name := "<init>", desc := "()V", sig := { parameters := [], returnType := none }, accessFlags := 2, code := none }
def k10c1 : Code := { maxStack := 2, maxLocals := 2, code := jdk_29_method_65_code, exceptionTable := #[], attributes := #[] }
def k10m1 : Method := { name := "max", desc := "(II)I", sig := { parameters := [.int, .int], returnType := some .int }, accessFlags := 9, code := some k10c1 }
def k10c2 : Code := { maxStack := 2, maxLocals := 2, code := jdk_29_method_69_code, exceptionTable := #[], attributes := #[] }
def k10m2 : Method := { name := "min", desc := "(II)I", sig := { parameters := [.int, .int], returnType := some .int }, accessFlags := 9, code := some k10c2 }
/-- java/lang/Math -/
def k10 : Class := { plain "java/lang/Math" (some 0) with
  accessFlags := 49
  interfaces := #[]
  cf := some (fileOf pool10 1 #[.nestMembers #[98]] #[{ accessFlags := 2, nameIndex := 7, descriptorIndex := 8, attributes := #[] }, { accessFlags := 9, nameIndex := 198, descriptorIndex := 335, attributes := #[] }, { accessFlags := 9, nameIndex := 201, descriptorIndex := 335, attributes := #[] }] 49 4 #[] #[{ accessFlags := 25, nameIndex := 354, descriptorIndex := 339, attributes := #[] }, { accessFlags := 25, nameIndex := 358, descriptorIndex := 339, attributes := #[] }, { accessFlags := 25, nameIndex := 361, descriptorIndex := 339, attributes := #[] }, { accessFlags := 26, nameIndex := 364, descriptorIndex := 339, attributes := #[] }, { accessFlags := 26, nameIndex := 365, descriptorIndex := 339, attributes := #[] }, { accessFlags := 26, nameIndex := 172, descriptorIndex := 173, attributes := #[] }, { accessFlags := 26, nameIndex := 176, descriptorIndex := 173, attributes := #[] }, { accessFlags := 8, nameIndex := 344, descriptorIndex := 339, attributes := #[] }, { accessFlags := 8, nameIndex := 338, descriptorIndex := 339, attributes := #[] }, { accessFlags := 4120, nameIndex := 245, descriptorIndex := 246, attributes := #[] }])
  fields := #[{ name := "E", type := .double, accessFlags := 25, slot := 0, constantValue := 0 }, { name := "PI", type := .double, accessFlags := 25, slot := 1, constantValue := 0 }, { name := "TAU", type := .double, accessFlags := 25, slot := 2, constantValue := 0 }, { name := "DEGREES_TO_RADIANS", type := .double, accessFlags := 26, slot := 3, constantValue := 0 }, { name := "RADIANS_TO_DEGREES", type := .double, accessFlags := 26, slot := 4, constantValue := 0 }, { name := "negativeZeroFloatBits", type := .long, accessFlags := 26, slot := 5, constantValue := 0 }, { name := "negativeZeroDoubleBits", type := .long, accessFlags := 26, slot := 6, constantValue := 0 }, { name := "twoToTheDoubleScaleUp", type := .double, accessFlags := 8, slot := 7, constantValue := 0 }, { name := "twoToTheDoubleScaleDown", type := .double, accessFlags := 8, slot := 8, constantValue := 0 }, { name := "$assertionsDisabled", type := .boolean, accessFlags := 4120, slot := 9, constantValue := 0 }]
  methods := #[k10m0, k10m1, k10m2]
  instanceTypes := #[]
  staticTypes := #[.double, .double, .double, .double, .double, .long, .long, .double, .double, .boolean]
  resolved := Array.replicate 460 none
  statics := none }

def pool11 : Array CpInfo := pool [(2, .class_ 4), (1, u "java/lang/Object"), (0, u "<init>"), (0, u "()V"), (7, .class_ 16), (1, u "java/util/Arrays"), (57, .class_ 76), (1, u "java/util/Arrays$NaturalOrder"), (36, .class_ 115), (1, u "java/util/Arrays$LegacyMergeSort"), (1, u "Z"), (32, .methodref 151 152), (0, .class_ 153), (0, .nameAndType 154 155), (0, u "java/lang/System"), (0, u "arraycopy"), (0, u "(Ljava/lang/Object;ILjava/lang/Object;II)V"), (51, u "binarySearch0"), (1, .methodref 14 210), (0, .nameAndType 207 211), (0, u "([IIII)I"), (90, u "copyOf"), (1, .methodref 305 306), (0, .class_ 307), (0, .nameAndType 308 309), (0, u "java/lang/Math"), (0, u "min"), (0, u "(II)I"), (65, .class_ 376), (0, u "java/util/Arrays$ArrayList"), (68, u "$assertionsDisabled"), (269, u "MIN_ARRAY_SORT_GRAN"), (0, u "I"), (2, u "INSERTIONSORT_THRESHOLD"), (74, u "binarySearch"), (4, u "([II)I"), (71, u "([II)[I"), (103, .class_ 976), (0, u "java/util/Arrays$ArrayItr")] 52

def k11m0 : Method := { name := "<init>", desc := "()V", sig := { parameters := [], returnType := none }, accessFlags := 2, code := none }
def k11c1 : Code := { maxStack := 4, maxLocals := 2, code := jdk_65_method_57_code, exceptionTable := #[], attributes := #[] }
def k11m1 : Method := { name := "binarySearch", desc := "([II)I", sig := { parameters := [(.array .int), .int], returnType := some .int }, accessFlags := 9, code := some k11c1 }
def k11c2 : Code := { maxStack := 2, maxLocals := 8, code := jdk_65_method_59_code, exceptionTable := #[], attributes := #[] }
def k11m2 : Method := { name := "binarySearch0", desc := "([IIII)I", sig := { parameters := [(.array .int), .int, .int, .int], returnType := some .int }, accessFlags := 10, code := some k11c2 }
def k11c3 : Code := { maxStack := 6, maxLocals := 3, code := jdk_65_method_123_code, exceptionTable := #[], attributes := #[] }
def k11m3 : Method := { name := "copyOf", desc := "([II)[I", sig := { parameters := [(.array .int), .int], returnType := some (.array .int) }, accessFlags := 9, code := some k11c3 }
/-- java/util/Arrays -/
def k11 : Class := { plain "java/util/Arrays" (some 0) with
  accessFlags := 49
  interfaces := #[]
  cf := some (fileOf pool11 14 #[.nestMembers #[975, 375, 113, 74]] #[{ accessFlags := 2, nameIndex := 5, descriptorIndex := 6, attributes := #[] }, { accessFlags := 9, nameIndex := 794, descriptorIndex := 799, attributes := #[] }, { accessFlags := 10, nameIndex := 207, descriptorIndex := 211, attributes := #[] }, { accessFlags := 9, nameIndex := 302, descriptorIndex := 871, attributes := #[] }] 49 2 #[] #[{ accessFlags := 26, nameIndex := 715, descriptorIndex := 716, attributes := #[] }, { accessFlags := 26, nameIndex := 719, descriptorIndex := 716, attributes := #[] }, { accessFlags := 4120, nameIndex := 445, descriptorIndex := 117, attributes := #[] }])
  fields := #[{ name := "MIN_ARRAY_SORT_GRAN", type := .int, accessFlags := 26, slot := 0, constantValue := 0 }, { name := "INSERTIONSORT_THRESHOLD", type := .int, accessFlags := 26, slot := 1, constantValue := 0 }, { name := "$assertionsDisabled", type := .boolean, accessFlags := 4120, slot := 2, constantValue := 0 }]
  methods := #[k11m0, k11m1, k11m2, k11m3]
  instanceTypes := #[]
  staticTypes := #[.int, .int, .boolean]
  resolved := Array.replicate 1029 none
  statics := none }

def pool12 : Array CpInfo := pool [(2, .class_ 4), (1, u "java/lang/Object"), (0, u "<init>"), (0, u "()V"), (1, .class_ 10), (1, u "java/lang/System"), (0, u "allowSecurityManager"), (0, u "I"), (16, u "cons"), (0, u "Ljava/io/Console;"), (77, .class_ 110), (1, u "java/lang/System$CallersHolder"), (43, u "initialErrStream"), (0, u "Ljava/io/PrintStream;"), (19, u "security"), (0, u "Ljava/lang/SecurityManager;"), (31, .class_ 209), (0, u "java/lang/System$1"), (7, u "props"), (0, u "Ljava/util/Properties;"), (2, u "lineSeparator"), (0, u "Ljava/lang/String;"), (96, .class_ 321), (1, u "java/lang/System$LoggerFinder"), (5, .class_ 328), (0, u "java/lang/System$Logger"), (67, u "err"), (2, u "out"), (91, u "notSupportedJnuEncoding"), (15, u "in"), (17, u "initialIn"), (0, u "Ljava/io/InputStream;"), (35, u "bootLayer"), (0, u "Ljava/lang/ModuleLayer;"), (99, .class_ 664), (0, u "java/lang/System$2"), (9, u "NEVER"), (2, u "MAYBE"), (49, u "arraycopy"), (0, u "(Ljava/lang/Object;ILjava/lang/Object;II)V"), (72, .class_ 802), (0, u "java/lang/System$Logger$Level")] 31

def k12m0 : Method := { name := "<init>", desc := "()V", sig := { parameters := [], returnType := none }, accessFlags := 2, code := none }
def k12m1 : Method := { name := "arraycopy", desc := "(Ljava/lang/Object;ILjava/lang/Object;II)V", sig := { parameters := [(.object "java/lang/Object"), .int, (.object "java/lang/Object"), .int, .int], returnType := none }, accessFlags := 265, code := none }
/-- java/lang/System -/
def k12 : Class := { plain "java/lang/System" (some 0) with
  accessFlags := 49
  interfaces := #[]
  cf := some (fileOf pool12 8 #[.nestMembers #[319, 327, 801, 108, 663, 208]] #[{ accessFlags := 2, nameIndex := 5, descriptorIndex := 6, attributes := #[] }, { accessFlags := 265, nameIndex := 727, descriptorIndex := 728, attributes := #[] }] 49 2 #[] #[{ accessFlags := 25, nameIndex := 507, descriptorIndex := 526, attributes := #[] }, { accessFlags := 25, nameIndex := 399, descriptorIndex := 155, attributes := #[] }, { accessFlags := 25, nameIndex := 396, descriptorIndex := 155, attributes := #[] }, { accessFlags := 10, nameIndex := 525, descriptorIndex := 526, attributes := #[] }, { accessFlags := 26, nameIndex := 674, descriptorIndex := 12, attributes := #[] }, { accessFlags := 26, nameIndex := 677, descriptorIndex := 12, attributes := #[] }, { accessFlags := 10, nameIndex := 11, descriptorIndex := 12, attributes := #[] }, { accessFlags := 74, nameIndex := 175, descriptorIndex := 176, attributes := #[] }, { accessFlags := 10, nameIndex := 491, descriptorIndex := 222, attributes := #[] }, { accessFlags := 74, nameIndex := 29, descriptorIndex := 30, attributes := #[] }, { accessFlags := 74, nameIndex := 154, descriptorIndex := 155, attributes := #[] }, { accessFlags := 10, nameIndex := 217, descriptorIndex := 218, attributes := #[] }, { accessFlags := 10, nameIndex := 221, descriptorIndex := 222, attributes := #[] }, { accessFlags := 8, nameIndex := 562, descriptorIndex := 563, attributes := #[] }])
  fields := #[{ name := "in", type := (.object "java/io/InputStream"), accessFlags := 25, slot := 0, constantValue := 0 }, { name := "out", type := (.object "java/io/PrintStream"), accessFlags := 25, slot := 1, constantValue := 0 }, { name := "err", type := (.object "java/io/PrintStream"), accessFlags := 25, slot := 2, constantValue := 0 }, { name := "initialIn", type := (.object "java/io/InputStream"), accessFlags := 10, slot := 3, constantValue := 0 }, { name := "NEVER", type := .int, accessFlags := 26, slot := 4, constantValue := 0 }, { name := "MAYBE", type := .int, accessFlags := 26, slot := 5, constantValue := 0 }, { name := "allowSecurityManager", type := .int, accessFlags := 10, slot := 6, constantValue := 0 }, { name := "security", type := (.object "java/lang/SecurityManager"), accessFlags := 74, slot := 7, constantValue := 0 }, { name := "notSupportedJnuEncoding", type := (.object "java/lang/String"), accessFlags := 10, slot := 8, constantValue := 0 }, { name := "cons", type := (.object "java/io/Console"), accessFlags := 74, slot := 9, constantValue := 0 }, { name := "initialErrStream", type := (.object "java/io/PrintStream"), accessFlags := 74, slot := 10, constantValue := 0 }, { name := "props", type := (.object "java/util/Properties"), accessFlags := 10, slot := 11, constantValue := 0 }, { name := "lineSeparator", type := (.object "java/lang/String"), accessFlags := 10, slot := 12, constantValue := 0 }, { name := "bootLayer", type := (.object "java/lang/ModuleLayer"), accessFlags := 8, slot := 13, constantValue := 0 }]
  methods := #[k12m0, k12m1]
  instanceTypes := #[]
  staticTypes := #[(.object "java/io/InputStream"), (.object "java/io/PrintStream"), (.object "java/io/PrintStream"), (.object "java/io/InputStream"), .int, .int, .int, (.object "java/lang/SecurityManager"), (.object "java/lang/String"), (.object "java/io/Console"), (.object "java/io/PrintStream"), (.object "java/util/Properties"), (.object "java/lang/String"), (.object "java/lang/ModuleLayer")]
  resolved := Array.replicate 834 none
  statics := none }

def pool13 : Array CpInfo := pool [(6, .class_ 8), (1, u "java/lang/Object"), (0, u "<init>"), (0, u "()V"), (1, .class_ 14), (1, u "java/lang/StringUTF16"), (31, u "$assertionsDisabled"), (0, u "Z"), (13, u "HI_BYTE_SHIFT"), (0, u "I"), (2, u "LO_BYTE_SHIFT"), (49, .methodref 12 116), (0, .nameAndType 117 118), (0, u "compress"), (0, u "([CI[BII)I"), (3, u "([CII)[B"), (138, u "coderFromArrayLen"), (0, u "([BI)B"), (106, .class_ 371), (1, u "java/lang/StringUTF16$LinesSpliterator"), (58, u "MAX_LENGTH"), (196, .class_ 628), (0, u "java/lang/StringUTF16$CodePointsSpliterator"), (0, .class_ 630), (0, u "java/lang/StringUTF16$CharsSpliterator")] 4

def k13m0 : Method := { name := "<init>", desc := "()V", sig := { parameters := [], returnType := none }, accessFlags := 0, code := none }
def k13c1 : Code := { maxStack := 2, maxLocals := 2, code := jdk_52_method_15_code, exceptionTable := #[], attributes := #[] }
def k13m1 : Method := { name := "coderFromArrayLen", desc := "([BI)B", sig := { parameters := [(.array .byte), .int], returnType := some .byte }, accessFlags := 8, code := some k13c1 }
def k13c2 : Code := { maxStack := 5, maxLocals := 6, code := jdk_52_method_16_code, exceptionTable := #[], attributes := #[] }
def k13m2 : Method := { name := "compress", desc := "([CII)[B", sig := { parameters := [(.array .char), .int, .int], returnType := some (.array .byte) }, accessFlags := 9, code := some k13c2 }
def k13c3 : Code := { maxStack := 3, maxLocals := 7, code := jdk_52_method_21_code, exceptionTable := #[], attributes := #[] }
def k13m3 : Method := { name := "compress", desc := "([CI[BII)I", sig := { parameters := [(.array .char), .int, (.array .byte), .int, .int], returnType := some .int }, accessFlags := 9, code := some k13c3 }
/-- java/lang/StringUTF16 -/
def k13 : Class := { plain "java/lang/StringUTF16" (some 0) with
  accessFlags := 48
  interfaces := #[]
  cf := some (fileOf pool13 12 #[.nestMembers #[627, 629, 369]] #[{ accessFlags := 0, nameIndex := 9, descriptorIndex := 10, attributes := #[] }, { accessFlags := 8, nameIndex := 261, descriptorIndex := 262, attributes := #[] }, { accessFlags := 9, nameIndex := 117, descriptorIndex := 122, attributes := #[] }, { accessFlags := 9, nameIndex := 117, descriptorIndex := 118, attributes := #[] }] 48 6 #[] #[{ accessFlags := 26, nameIndex := 61, descriptorIndex := 62, attributes := #[] }, { accessFlags := 26, nameIndex := 65, descriptorIndex := 62, attributes := #[] }, { accessFlags := 24, nameIndex := 430, descriptorIndex := 62, attributes := #[] }, { accessFlags := 4120, nameIndex := 46, descriptorIndex := 47, attributes := #[] }])
  fields := #[{ name := "HI_BYTE_SHIFT", type := .int, accessFlags := 26, slot := 0, constantValue := 0 }, { name := "LO_BYTE_SHIFT", type := .int, accessFlags := 26, slot := 1, constantValue := 0 }, { name := "MAX_LENGTH", type := .int, accessFlags := 24, slot := 2, constantValue := 0 }, { name := "$assertionsDisabled", type := .boolean, accessFlags := 4120, slot := 3, constantValue := 0 }]
  methods := #[k13m0, k13m1, k13m2, k13m3]
  instanceTypes := #[]
  staticTypes := #[.int, .int, .int, .boolean]
  resolved := Array.replicate 635 none
  statics := none }

def pool14 : Array CpInfo := pool [(2, .class_ 4), (1, u "java/lang/Object"), (0, u "<init>"), (0, u "()V"), (17, .class_ 26), (1, u "jdk/internal/util/Preconditions"), (28, .class_ 56), (0, u "jdk/internal/util/Preconditions$4"), (57, .class_ 115), (0, u "jdk/internal/util/Preconditions$1"), (7, u "SIOOBE_FORMATTER"), (0, u "Ljava/util/function/BiFunction;"), (0, .class_ 126), (0, u "jdk/internal/util/Preconditions$2"), (3, u "AIOOBE_FORMATTER"), (0, .class_ 132), (0, u "jdk/internal/util/Preconditions$3"), (3, u "IOOBE_FORMATTER")] 57

def k14m0 : Method := { name := "<init>", desc := "()V", sig := { parameters := [], returnType := none }, accessFlags := 1, code := none }
/-- jdk/internal/util/Preconditions -/
def k14 : Class := { plain "jdk/internal/util/Preconditions" (some 0) with
  accessFlags := 33
  interfaces := #[]
  cf := some (fileOf pool14 24 #[.nestMembers #[55, 131, 125, 114]] #[{ accessFlags := 1, nameIndex := 5, descriptorIndex := 6, attributes := #[] }] 33 2 #[] #[{ accessFlags := 25, nameIndex := 123, descriptorIndex := 124, attributes := #[] }, { accessFlags := 25, nameIndex := 130, descriptorIndex := 124, attributes := #[] }, { accessFlags := 25, nameIndex := 136, descriptorIndex := 124, attributes := #[] }])
  fields := #[{ name := "SIOOBE_FORMATTER", type := (.object "java/util/function/BiFunction"), accessFlags := 25, slot := 0, constantValue := 0 }, { name := "AIOOBE_FORMATTER", type := (.object "java/util/function/BiFunction"), accessFlags := 25, slot := 1, constantValue := 0 }, { name := "IOOBE_FORMATTER", type := (.object "java/util/function/BiFunction"), accessFlags := 25, slot := 2, constantValue := 0 }]
  methods := #[k14m0]
  instanceTypes := #[]
  staticTypes := #[(.object "java/util/function/BiFunction"), (.object "java/util/function/BiFunction"), (.object "java/util/function/BiFunction")]
  resolved := Array.replicate 194 none
  statics := some 1 }

def pool15 : Array CpInfo := pool [(9, u "<init>"), (6, .class_ 18), (1, u "java/lang/Object"), (0, u "()V"), (1, .class_ 23), (1, u "jdk/internal/util/ArraysSupport"), (0, u "LOG2_ARRAY_LONG_INDEX_SCALE"), (0, u "I"), (2, u "U"), (0, u "Ljdk/internal/misc/Unsafe;"), (8, u "BIG_ENDIAN"), (0, u "Z"), (8, u "LOG2_BYTE_BIT_SIZE"), (4, u "LOG2_ARRAY_INT_INDEX_SCALE"), (54, u "JLA"), (0, u "Ljdk/internal/access/JavaLangAccess;"), (11, u "LOG2_ARRAY_BOOLEAN_INDEX_SCALE"), (9, u "LOG2_ARRAY_BYTE_INDEX_SCALE"), (5, u "LOG2_ARRAY_CHAR_INDEX_SCALE"), (5, u "LOG2_ARRAY_SHORT_INDEX_SCALE"), (18, u "LOG2_ARRAY_FLOAT_INDEX_SCALE"), (24, u "LOG2_ARRAY_DOUBLE_INDEX_SCALE"), (89, u "T_BOOLEAN"), (2, u "T_CHAR"), (1, u "T_FLOAT"), (1, u "T_DOUBLE"), (1, u "T_BYTE"), (1, u "T_SHORT"), (1, u "T_INT"), (1, u "T_LONG"), (1, u "SOFT_MAX_ARRAY_LENGTH")] 83

def k15m0 : Method := { name := "<init>", desc := "()V", sig := { parameters := [], returnType := none }, accessFlags := 2, code := none }
/-- jdk/internal/util/ArraysSupport -/
def k15 : Class := { plain "jdk/internal/util/ArraysSupport" (some 0) with
  accessFlags := 33
  interfaces := #[]
  cf := some (fileOf pool15 21 #[] #[{ accessFlags := 2, nameIndex := 9, descriptorIndex := 19, attributes := #[] }] 33 16 #[] #[{ accessFlags := 24, nameIndex := 28, descriptorIndex := 29, attributes := #[] }, { accessFlags := 26, nameIndex := 38, descriptorIndex := 39, attributes := #[] }, { accessFlags := 25, nameIndex := 121, descriptorIndex := 25, attributes := #[] }, { accessFlags := 25, nameIndex := 131, descriptorIndex := 25, attributes := #[] }, { accessFlags := 25, nameIndex := 137, descriptorIndex := 25, attributes := #[] }, { accessFlags := 25, nameIndex := 143, descriptorIndex := 25, attributes := #[] }, { accessFlags := 25, nameIndex := 53, descriptorIndex := 25, attributes := #[] }, { accessFlags := 25, nameIndex := 24, descriptorIndex := 25, attributes := #[] }, { accessFlags := 25, nameIndex := 162, descriptorIndex := 25, attributes := #[] }, { accessFlags := 25, nameIndex := 187, descriptorIndex := 25, attributes := #[] }, { accessFlags := 26, nameIndex := 48, descriptorIndex := 25, attributes := #[] }, { accessFlags := 25, nameIndex := 277, descriptorIndex := 25, attributes := #[] }, { accessFlags := 25, nameIndex := 280, descriptorIndex := 25, attributes := #[] }, { accessFlags := 25, nameIndex := 282, descriptorIndex := 25, attributes := #[] }, { accessFlags := 25, nameIndex := 284, descriptorIndex := 25, attributes := #[] }, { accessFlags := 25, nameIndex := 286, descriptorIndex := 25, attributes := #[] }, { accessFlags := 25, nameIndex := 288, descriptorIndex := 25, attributes := #[] }, { accessFlags := 25, nameIndex := 290, descriptorIndex := 25, attributes := #[] }, { accessFlags := 25, nameIndex := 292, descriptorIndex := 25, attributes := #[] }, { accessFlags := 26, nameIndex := 108, descriptorIndex := 109, attributes := #[] }, { accessFlags := 25, nameIndex := 294, descriptorIndex := 25, attributes := #[] }])
  fields := #[{ name := "U", type := (.object "jdk/internal/misc/Unsafe"), accessFlags := 24, slot := 0, constantValue := 0 }, { name := "BIG_ENDIAN", type := .boolean, accessFlags := 26, slot := 1, constantValue := 0 }, { name := "LOG2_ARRAY_BOOLEAN_INDEX_SCALE", type := .int, accessFlags := 25, slot := 2, constantValue := 0 }, { name := "LOG2_ARRAY_BYTE_INDEX_SCALE", type := .int, accessFlags := 25, slot := 3, constantValue := 0 }, { name := "LOG2_ARRAY_CHAR_INDEX_SCALE", type := .int, accessFlags := 25, slot := 4, constantValue := 0 }, { name := "LOG2_ARRAY_SHORT_INDEX_SCALE", type := .int, accessFlags := 25, slot := 5, constantValue := 0 }, { name := "LOG2_ARRAY_INT_INDEX_SCALE", type := .int, accessFlags := 25, slot := 6, constantValue := 0 }, { name := "LOG2_ARRAY_LONG_INDEX_SCALE", type := .int, accessFlags := 25, slot := 7, constantValue := 0 }, { name := "LOG2_ARRAY_FLOAT_INDEX_SCALE", type := .int, accessFlags := 25, slot := 8, constantValue := 0 }, { name := "LOG2_ARRAY_DOUBLE_INDEX_SCALE", type := .int, accessFlags := 25, slot := 9, constantValue := 0 }, { name := "LOG2_BYTE_BIT_SIZE", type := .int, accessFlags := 26, slot := 10, constantValue := 0 }, { name := "T_BOOLEAN", type := .int, accessFlags := 25, slot := 11, constantValue := 0 }, { name := "T_CHAR", type := .int, accessFlags := 25, slot := 12, constantValue := 0 }, { name := "T_FLOAT", type := .int, accessFlags := 25, slot := 13, constantValue := 0 }, { name := "T_DOUBLE", type := .int, accessFlags := 25, slot := 14, constantValue := 0 }, { name := "T_BYTE", type := .int, accessFlags := 25, slot := 15, constantValue := 0 }, { name := "T_SHORT", type := .int, accessFlags := 25, slot := 16, constantValue := 0 }, { name := "T_INT", type := .int, accessFlags := 25, slot := 17, constantValue := 0 }, { name := "T_LONG", type := .int, accessFlags := 25, slot := 18, constantValue := 0 }, { name := "JLA", type := (.object "jdk/internal/access/JavaLangAccess"), accessFlags := 26, slot := 19, constantValue := 0 }, { name := "SOFT_MAX_ARRAY_LENGTH", type := .int, accessFlags := 25, slot := 20, constantValue := 0 }]
  methods := #[k15m0]
  instanceTypes := #[]
  staticTypes := #[(.object "jdk/internal/misc/Unsafe"), .boolean, .int, .int, .int, .int, .int, .int, .int, .int, .int, .int, .int, .int, .int, .int, .int, .int, .int, (.object "jdk/internal/access/JavaLangAccess"), .int]
  resolved := Array.replicate 378 none
  statics := none }

def pool16 : Array CpInfo := pool [(1, u "java/lang/Cloneable"), (0, .class_ 1), (0, u "java/lang/Object"), (0, .class_ 3)] 3

/-- java/lang/Cloneable -/
def k16 : Class := { plain "java/lang/Cloneable" (some 0) with
  accessFlags := 1537
  interfaces := #[]
  cf := some (fileOf pool16 2 #[] #[] 1537 4 #[] #[])
  fields := #[]
  methods := #[]
  instanceTypes := #[]
  staticTypes := #[]
  resolved := Array.replicate 8 none
  statics := none }

/-- the primitive byte -/
def k17 : Class := { plain "byte" none with kind := .primitive 'B', accessFlags := 0x411 }
/-- [B -/
def k18 : Class := { plain "[B" (some 0) with kind := .array 17 .byte, interfaces := #[16, 3], accessFlags := 1041 }

/-- the primitive char -/
def k19 : Class := { plain "char" none with kind := .primitive 'C', accessFlags := 0x411 }
/-- [C -/
def k20 : Class := { plain "[C" (some 0) with kind := .array 19 .char, interfaces := #[16, 3], accessFlags := 1041 }

/-- the primitive int -/
def k21 : Class := { plain "int" none with kind := .primitive 'I', accessFlags := 0x411 }
/-- [I -/
def k22 : Class := { plain "[I" (some 0) with kind := .array 21 .int, interfaces := #[16, 3], accessFlags := 1041 }

def heap : Heap := #[{ cls := 8, slots := #[.long 0, .int 1, .null, .int 0, .null, .int 0, .int 0], vm := .statics 8 },
  { cls := 14, slots := #[.null, .null, .null], vm := .statics 14 }]
def classes : Array Class := #[k0, k1, k2, k3, k4, k5, k6, k7, k8, k9, k10, k11, k12, k13, k14, k15, k16, k17, k18, k19, k20, k21, k22]
def interned : List (Array UInt16 × Addr) := []
def slotsUsed : Nat := 10
def theMethod : MethodId := ⟨1, 4⟩
def args0 : Array Value := #[.int 1, .int 2, .int 3, .int 4, .int 5]
def aboutOver (below : List Frame) : State where
  vm := { classes := classes, interned := interned.toArray }
  heap := heap
  slotsUsed := slotsUsed
  threads := #[{ frames := .invoking theMethod args0 :: below }]
def below0 : List Frame := [.native { method := ⟨0, 0⟩, args := #[] }]
def about1 : State := aboutOver below0
def p0 : Program := .bare "" "" ""
def e0 : Env := launch0.env 0 0 0
theorem w_frames : about1.frames = Frame.invoking theMethod args0 :: below0 := rfl
set_option maxRecDepth 65536 in
theorem w_args : argsFit about1.vm theMethod args0 = true := by decide +kernel
set_option maxRecDepth 65536 in
theorem w_heap : heapFits about1 = true := by decide +kernel
set_option maxRecDepth 65536 in
theorem w_runnable : about1.curStatus? = some .runnable := by decide +kernel
set_option maxRecDepth 65536 in
theorem w_alone : about1.alone = true := by decide +kernel
set_option maxRecDepth 65536 in
theorem w_named : about1.methodNamed? x = some theMethod := by decide +kernel
set_option maxRecDepth 65536 in
theorem w_hears : about1.hears theMethod below0 = true := by decide +kernel
set_option maxRecDepth 65536 in
theorem w_ripe : about1.ripe theMethod args0 below0 = true := by decide +kernel
theorem w_running : about1.status = .running := rfl
set_option maxRecDepth 65536 in
theorem w_room : about1.hasRoom e0.platform room_1 = true :=
  launch0.hasRoom_least _ room_1 (by decide +kernel) (by decide +kernel) (by decide +kernel) (by decide +kernel) (by decide +kernel) (by decide +kernel)
theorem allAtoms_all (ts : List Jvm.Cond) (a : Array Jvm.Value) (st : Jvm.State) : (allAtoms ts).before a st = ts.all (fun c => c.before a st) := by
  induction ts with
  | nil => rfl
  | cons c t ih =>
    show (Jvm.Cond.and c (allAtoms t)).before a st = _
    rw [Jvm.Cond.before_and, ih, List.all_cons]
def words1 : List Jvm.Cond := Jvm.Cond.code x code maxLocals ret :: tables_1
/-- a 'code' word, met by the world's own term for the bytes: nothing is compared byte by byte -/
theorem code_word {y : MethodName} {bytes : ByteArray} {mx : Nat} {rt : Option FieldType} {a : Array Value} {s : State} {m : MethodId} {meth : Method} {c : Code} (h1 : s.methodNamed? y = some m) (h2 : s.vm.method? m = some meth) (h3 : meth.code = some c) (h4 : c.code = bytes)
    (h5 : (c.maxLocals == mx && c.exceptionTable.isEmpty && decide (c.maxStack ≤ mostOperands) && decide (meth.sig.returnType = rt) && !meth.locks && decide (parseMethodDescriptor y.desc = some meth.sig)) = true) : (Jvm.Cond.code y bytes mx rt).before a s = true := by
  simp only [Bool.and_eq_true, beq_iff_eq, Bool.not_eq_true', decide_eq_true_eq] at h5
  obtain ⟨⟨⟨⟨⟨g1, g2⟩, g3⟩, g4⟩, g5⟩, g6⟩ := h5
  simp [Cond.before, Cond.holds, Cond.value, h1, h2, h3, h4, g1, g2, g3, g4, g5, g6]
def isCode : Jvm.Cond → Bool
  | .code _ _ _ _ => true
  | _ => false
theorem all_split {L : List Jvm.Cond} {P : Jvm.Cond → Bool} (h1 : L.all (fun c => isCode c || P c) = true) (h2 : ∀ c ∈ L.filter isCode, P c = true) : L.all P = true := by
  refine List.all_eq_true.mpr fun c hc => ?_
  have h := List.all_eq_true.mp h1 c hc
  rcases Bool.eq_false_or_eq_true (isCode c) with hi | hi
  · exact h2 c (List.mem_filter.mpr ⟨hc, hi⟩)
  · simpa [hi] using h
set_option maxRecDepth 65536 in
theorem w_c0 : (Jvm.Cond.code x code maxLocals ret).before args0 about1 = true := code_word (m := ⟨1, 4⟩) (meth := k1m4) (c := k1c4) (by decide +kernel) rfl rfl rfl (by decide +kernel)
set_option maxRecDepth 65536 in
theorem w_c1 : (Jvm.Cond.code ({ cls := "com/example/invariant_to_halt/invarianttohalt/reader/SourceTextLinePinLaw", name := "ch", desc := "(I)C" } : Jvm.MethodName) method_2_code (1 : Nat) (Option.some Jvm.ClassFile.FieldType.char)).before args0 about1 = true := code_word (m := ⟨1, 1⟩) (meth := k1m1) (c := k1c1) (by decide +kernel) rfl rfl rfl (by decide +kernel)
set_option maxRecDepth 65536 in
theorem w_c2 : (Jvm.Cond.code ({ cls := "com/example/invariant_to_halt/invarianttohalt/reader/SourceTextLinePinLaw", name := "make", desc := "(ICCCCCC)Ljava/lang/String;" } : Jvm.MethodName) method_4_code (7 : Nat) (Option.some (Jvm.ClassFile.FieldType.object "java/lang/String"))).before args0 about1 = true := code_word (m := ⟨1, 3⟩) (meth := k1m3) (c := k1c3) (by decide +kernel) rfl rfl rfl (by decide +kernel)
set_option maxRecDepth 65536 in
theorem w_c3 : (Jvm.Cond.code ({ cls := "java/lang/String", name := "<init>", desc := "([C)V" } : Jvm.MethodName) jdk_42_method_3_code (2 : Nat) (Option.none : Option Jvm.ClassFile.FieldType)).before args0 about1 = true := code_word (m := ⟨8, 1⟩) (meth := k8m1) (c := k8c1) (by decide +kernel) rfl rfl rfl (by decide +kernel)
set_option maxRecDepth 65536 in
theorem w_c4 : (Jvm.Cond.code ({ cls := "java/lang/String", name := "<init>", desc := "([CIILjava/lang/Void;)V" } : Jvm.MethodName) jdk_42_method_149_code (6 : Nat) (Option.none : Option Jvm.ClassFile.FieldType)).before args0 about1 = true := code_word (m := ⟨8, 5⟩) (meth := k8m5) (c := k8c5) (by decide +kernel) rfl rfl rfl (by decide +kernel)
set_option maxRecDepth 65536 in
theorem w_c5 : (Jvm.Cond.code ({ cls := "java/lang/Object", name := "<init>", desc := "()V" } : Jvm.MethodName) object_method_1_code (1 : Nat) (Option.none : Option Jvm.ClassFile.FieldType)).before args0 about1 = true := code_word (m := ⟨0, 0⟩) (meth := k0m0) (c := k0c0) (by decide +kernel) rfl rfl rfl (by decide +kernel)
set_option maxRecDepth 65536 in
theorem w_c6 : (Jvm.Cond.code ({ cls := "com/example/invariant_to_halt/invarianttohalt/reader/SourceText", name := "<init>", desc := "(Ljava/lang/String;Ljava/lang/String;)V" } : Jvm.MethodName) prog_62_method_1_code (6 : Nat) (Option.none : Option Jvm.ClassFile.FieldType)).before args0 about1 = true := code_word (m := ⟨2, 0⟩) (meth := k2m0) (c := k2c0) (by decide +kernel) rfl rfl rfl (by decide +kernel)
set_option maxRecDepth 65536 in
theorem w_c7 : (Jvm.Cond.code ({ cls := "java/lang/String", name := "indexOf", desc := "(I)I" } : Jvm.MethodName) jdk_42_method_79_code (2 : Nat) (Option.some Jvm.ClassFile.FieldType.int)).before args0 about1 = true := code_word (m := ⟨8, 3⟩) (meth := k8m3) (c := k8c3) (by decide +kernel) rfl rfl rfl (by decide +kernel)
set_option maxRecDepth 65536 in
theorem w_c8 : (Jvm.Cond.code ({ cls := "java/lang/String", name := "indexOf", desc := "(II)I" } : Jvm.MethodName) jdk_42_method_80_code (3 : Nat) (Option.some Jvm.ClassFile.FieldType.int)).before args0 about1 = true := code_word (m := ⟨8, 4⟩) (meth := k8m4) (c := k8c4) (by decide +kernel) rfl rfl rfl (by decide +kernel)
set_option maxRecDepth 65536 in
theorem w_c9 : (Jvm.Cond.code ({ cls := "java/lang/String", name := "isLatin1", desc := "()Z" } : Jvm.MethodName) jdk_42_method_154_code (1 : Nat) (Option.some Jvm.ClassFile.FieldType.boolean)).before args0 about1 = true := code_word (m := ⟨8, 7⟩) (meth := k8m7) (c := k8c7) (by decide +kernel) rfl rfl rfl (by decide +kernel)
set_option maxRecDepth 65536 in
theorem w_c10 : (Jvm.Cond.code ({ cls := "java/lang/String", name := "length", desc := "()I" } : Jvm.MethodName) jdk_42_method_54_code (1 : Nat) (Option.some Jvm.ClassFile.FieldType.int)).before args0 about1 = true := code_word (m := ⟨8, 2⟩) (meth := k8m2) (c := k8c2) (by decide +kernel) rfl rfl rfl (by decide +kernel)
set_option maxRecDepth 65536 in
theorem w_c11 : (Jvm.Cond.code ({ cls := "java/lang/String", name := "coder", desc := "()B" } : Jvm.MethodName) jdk_42_method_152_code (1 : Nat) (Option.some Jvm.ClassFile.FieldType.byte)).before args0 about1 = true := code_word (m := ⟨8, 6⟩) (meth := k8m6) (c := k8c6) (by decide +kernel) rfl rfl rfl (by decide +kernel)
set_option maxRecDepth 65536 in
theorem w_c12 : (Jvm.Cond.code ({ cls := "java/lang/StringLatin1", name := "indexOf", desc := "([BIII)I" } : Jvm.MethodName) jdk_43_method_22_code (4 : Nat) (Option.some Jvm.ClassFile.FieldType.int)).before args0 about1 = true := code_word (m := ⟨9, 2⟩) (meth := k9m2) (c := k9c2) (by decide +kernel) rfl rfl rfl (by decide +kernel)
set_option maxRecDepth 65536 in
theorem w_c13 : (Jvm.Cond.code ({ cls := "java/lang/StringLatin1", name := "canEncode", desc := "(I)Z" } : Jvm.MethodName) jdk_43_method_4_code (1 : Nat) (Option.some Jvm.ClassFile.FieldType.boolean)).before args0 about1 = true := code_word (m := ⟨9, 1⟩) (meth := k9m1) (c := k9c1) (by decide +kernel) rfl rfl rfl (by decide +kernel)
set_option maxRecDepth 65536 in
theorem w_c14 : (Jvm.Cond.code ({ cls := "java/lang/Math", name := "max", desc := "(II)I" } : Jvm.MethodName) jdk_29_method_65_code (2 : Nat) (Option.some Jvm.ClassFile.FieldType.int)).before args0 about1 = true := code_word (m := ⟨10, 1⟩) (meth := k10m1) (c := k10c1) (by decide +kernel) rfl rfl rfl (by decide +kernel)
set_option maxRecDepth 65536 in
theorem w_c15 : (Jvm.Cond.code ({ cls := "java/lang/Math", name := "min", desc := "(II)I" } : Jvm.MethodName) jdk_29_method_69_code (2 : Nat) (Option.some Jvm.ClassFile.FieldType.int)).before args0 about1 = true := code_word (m := ⟨10, 2⟩) (meth := k10m2) (c := k10c2) (by decide +kernel) rfl rfl rfl (by decide +kernel)
set_option maxRecDepth 65536 in
theorem w_c16 : (Jvm.Cond.code ({ cls := "java/util/Arrays", name := "copyOf", desc := "([II)[I" } : Jvm.MethodName) jdk_65_method_123_code (3 : Nat) (Option.some (Jvm.ClassFile.FieldType.array Jvm.ClassFile.FieldType.int))).before args0 about1 = true := code_word (m := ⟨11, 3⟩) (meth := k11m3) (c := k11c3) (by decide +kernel) rfl rfl rfl (by decide +kernel)
set_option maxRecDepth 65536 in
theorem w_c17 : (Jvm.Cond.code ({ cls := "com/example/invariant_to_halt/invarianttohalt/reader/SourceTextLinePinLaw", name := "nl", desc := "(CII)I" } : Jvm.MethodName) method_3_code (3 : Nat) (Option.some Jvm.ClassFile.FieldType.int)).before args0 about1 = true := code_word (m := ⟨1, 2⟩) (meth := k1m2) (c := k1c2) (by decide +kernel) rfl rfl rfl (by decide +kernel)
set_option maxRecDepth 65536 in
theorem w_c18 : (Jvm.Cond.code ({ cls := "com/example/invariant_to_halt/invarianttohalt/reader/SourceText", name := "line", desc := "(I)I" } : Jvm.MethodName) prog_62_method_3_code (3 : Nat) (Option.some Jvm.ClassFile.FieldType.int)).before args0 about1 = true := code_word (m := ⟨2, 1⟩) (meth := k2m1) (c := k2c1) (by decide +kernel) rfl rfl rfl (by decide +kernel)
set_option maxRecDepth 65536 in
theorem w_c19 : (Jvm.Cond.code ({ cls := "java/util/Arrays", name := "binarySearch", desc := "([II)I" } : Jvm.MethodName) jdk_65_method_57_code (2 : Nat) (Option.some Jvm.ClassFile.FieldType.int)).before args0 about1 = true := code_word (m := ⟨11, 1⟩) (meth := k11m1) (c := k11c1) (by decide +kernel) rfl rfl rfl (by decide +kernel)
set_option maxRecDepth 65536 in
theorem w_c20 : (Jvm.Cond.code ({ cls := "java/util/Arrays", name := "binarySearch0", desc := "([IIII)I" } : Jvm.MethodName) jdk_65_method_59_code (8 : Nat) (Option.some Jvm.ClassFile.FieldType.int)).before args0 about1 = true := code_word (m := ⟨11, 2⟩) (meth := k11m2) (c := k11c2) (by decide +kernel) rfl rfl rfl (by decide +kernel)
set_option maxRecDepth 65536 in
theorem w_c21 : (Jvm.Cond.code ({ cls := "java/lang/StringUTF16", name := "compress", desc := "([CII)[B" } : Jvm.MethodName) jdk_52_method_16_code (6 : Nat) (Option.some (Jvm.ClassFile.FieldType.array Jvm.ClassFile.FieldType.byte))).before args0 about1 = true := code_word (m := ⟨13, 2⟩) (meth := k13m2) (c := k13c2) (by decide +kernel) rfl rfl rfl (by decide +kernel)
set_option maxRecDepth 65536 in
theorem w_c22 : (Jvm.Cond.code ({ cls := "java/lang/StringUTF16", name := "compress", desc := "([CI[BII)I" } : Jvm.MethodName) jdk_52_method_21_code (7 : Nat) (Option.some Jvm.ClassFile.FieldType.int)).before args0 about1 = true := code_word (m := ⟨13, 3⟩) (meth := k13m3) (c := k13c3) (by decide +kernel) rfl rfl rfl (by decide +kernel)
set_option maxRecDepth 65536 in
theorem w_c23 : (Jvm.Cond.code ({ cls := "java/lang/StringUTF16", name := "coderFromArrayLen", desc := "([BI)B" } : Jvm.MethodName) jdk_52_method_15_code (2 : Nat) (Option.some Jvm.ClassFile.FieldType.byte)).before args0 about1 = true := code_word (m := ⟨13, 1⟩) (meth := k13m1) (c := k13c1) (by decide +kernel) rfl rfl rfl (by decide +kernel)
set_option maxRecDepth 65536 in
theorem w_c24 : (Jvm.Cond.code ({ cls := "java/lang/StringLatin1", name := "indexOfChar", desc := "([BIII)I" } : Jvm.MethodName) jdk_43_method_23_code (6 : Nat) (Option.some Jvm.ClassFile.FieldType.int)).before args0 about1 = true := code_word (m := ⟨9, 3⟩) (meth := k9m3) (c := k9c3) (by decide +kernel) rfl rfl rfl (by decide +kernel)
def codes1 : List Jvm.Cond := [Jvm.Cond.code x code maxLocals ret, Jvm.Cond.code ({ cls := "com/example/invariant_to_halt/invarianttohalt/reader/SourceTextLinePinLaw", name := "ch", desc := "(I)C" } : Jvm.MethodName) method_2_code (1 : Nat) (Option.some Jvm.ClassFile.FieldType.char), Jvm.Cond.code ({ cls := "com/example/invariant_to_halt/invarianttohalt/reader/SourceTextLinePinLaw", name := "make", desc := "(ICCCCCC)Ljava/lang/String;" } : Jvm.MethodName) method_4_code (7 : Nat) (Option.some (Jvm.ClassFile.FieldType.object "java/lang/String")), Jvm.Cond.code ({ cls := "java/lang/String", name := "<init>", desc := "([C)V" } : Jvm.MethodName) jdk_42_method_3_code (2 : Nat) (Option.none : Option Jvm.ClassFile.FieldType), Jvm.Cond.code ({ cls := "java/lang/String", name := "<init>", desc := "([CIILjava/lang/Void;)V" } : Jvm.MethodName) jdk_42_method_149_code (6 : Nat) (Option.none : Option Jvm.ClassFile.FieldType), Jvm.Cond.code ({ cls := "java/lang/Object", name := "<init>", desc := "()V" } : Jvm.MethodName) object_method_1_code (1 : Nat) (Option.none : Option Jvm.ClassFile.FieldType), Jvm.Cond.code ({ cls := "com/example/invariant_to_halt/invarianttohalt/reader/SourceText", name := "<init>", desc := "(Ljava/lang/String;Ljava/lang/String;)V" } : Jvm.MethodName) prog_62_method_1_code (6 : Nat) (Option.none : Option Jvm.ClassFile.FieldType), Jvm.Cond.code ({ cls := "java/lang/String", name := "indexOf", desc := "(I)I" } : Jvm.MethodName) jdk_42_method_79_code (2 : Nat) (Option.some Jvm.ClassFile.FieldType.int), Jvm.Cond.code ({ cls := "java/lang/String", name := "indexOf", desc := "(II)I" } : Jvm.MethodName) jdk_42_method_80_code (3 : Nat) (Option.some Jvm.ClassFile.FieldType.int), Jvm.Cond.code ({ cls := "java/lang/String", name := "isLatin1", desc := "()Z" } : Jvm.MethodName) jdk_42_method_154_code (1 : Nat) (Option.some Jvm.ClassFile.FieldType.boolean), Jvm.Cond.code ({ cls := "java/lang/String", name := "length", desc := "()I" } : Jvm.MethodName) jdk_42_method_54_code (1 : Nat) (Option.some Jvm.ClassFile.FieldType.int), Jvm.Cond.code ({ cls := "java/lang/String", name := "coder", desc := "()B" } : Jvm.MethodName) jdk_42_method_152_code (1 : Nat) (Option.some Jvm.ClassFile.FieldType.byte), Jvm.Cond.code ({ cls := "java/lang/StringLatin1", name := "indexOf", desc := "([BIII)I" } : Jvm.MethodName) jdk_43_method_22_code (4 : Nat) (Option.some Jvm.ClassFile.FieldType.int), Jvm.Cond.code ({ cls := "java/lang/StringLatin1", name := "canEncode", desc := "(I)Z" } : Jvm.MethodName) jdk_43_method_4_code (1 : Nat) (Option.some Jvm.ClassFile.FieldType.boolean), Jvm.Cond.code ({ cls := "java/lang/Math", name := "max", desc := "(II)I" } : Jvm.MethodName) jdk_29_method_65_code (2 : Nat) (Option.some Jvm.ClassFile.FieldType.int), Jvm.Cond.code ({ cls := "java/lang/Math", name := "min", desc := "(II)I" } : Jvm.MethodName) jdk_29_method_69_code (2 : Nat) (Option.some Jvm.ClassFile.FieldType.int), Jvm.Cond.code ({ cls := "java/util/Arrays", name := "copyOf", desc := "([II)[I" } : Jvm.MethodName) jdk_65_method_123_code (3 : Nat) (Option.some (Jvm.ClassFile.FieldType.array Jvm.ClassFile.FieldType.int)), Jvm.Cond.code ({ cls := "com/example/invariant_to_halt/invarianttohalt/reader/SourceTextLinePinLaw", name := "nl", desc := "(CII)I" } : Jvm.MethodName) method_3_code (3 : Nat) (Option.some Jvm.ClassFile.FieldType.int), Jvm.Cond.code ({ cls := "com/example/invariant_to_halt/invarianttohalt/reader/SourceText", name := "line", desc := "(I)I" } : Jvm.MethodName) prog_62_method_3_code (3 : Nat) (Option.some Jvm.ClassFile.FieldType.int), Jvm.Cond.code ({ cls := "java/util/Arrays", name := "binarySearch", desc := "([II)I" } : Jvm.MethodName) jdk_65_method_57_code (2 : Nat) (Option.some Jvm.ClassFile.FieldType.int), Jvm.Cond.code ({ cls := "java/util/Arrays", name := "binarySearch0", desc := "([IIII)I" } : Jvm.MethodName) jdk_65_method_59_code (8 : Nat) (Option.some Jvm.ClassFile.FieldType.int), Jvm.Cond.code ({ cls := "java/lang/StringUTF16", name := "compress", desc := "([CII)[B" } : Jvm.MethodName) jdk_52_method_16_code (6 : Nat) (Option.some (Jvm.ClassFile.FieldType.array Jvm.ClassFile.FieldType.byte)), Jvm.Cond.code ({ cls := "java/lang/StringUTF16", name := "compress", desc := "([CI[BII)I" } : Jvm.MethodName) jdk_52_method_21_code (7 : Nat) (Option.some Jvm.ClassFile.FieldType.int), Jvm.Cond.code ({ cls := "java/lang/StringUTF16", name := "coderFromArrayLen", desc := "([BI)B" } : Jvm.MethodName) jdk_52_method_15_code (2 : Nat) (Option.some Jvm.ClassFile.FieldType.byte), Jvm.Cond.code ({ cls := "java/lang/StringLatin1", name := "indexOfChar", desc := "([BIII)I" } : Jvm.MethodName) jdk_43_method_23_code (6 : Nat) (Option.some Jvm.ClassFile.FieldType.int)]
set_option maxRecDepth 65536 in
theorem codes_eq : words1.filter isCode = codes1 := rfl
theorem w_codes : ∀ c ∈ words1.filter isCode, c.before args0 about1 = true := by
  rw [codes_eq]
  intro c hc
  simp only [codes1, List.mem_cons, List.not_mem_nil, or_false] at hc
  rcases hc with rfl | rfl | rfl | rfl | rfl | rfl | rfl | rfl | rfl | rfl | rfl | rfl | rfl | rfl | rfl | rfl | rfl | rfl | rfl | rfl | rfl | rfl | rfl | rfl | rfl
  · exact w_c0
  · exact w_c1
  · exact w_c2
  · exact w_c3
  · exact w_c4
  · exact w_c5
  · exact w_c6
  · exact w_c7
  · exact w_c8
  · exact w_c9
  · exact w_c10
  · exact w_c11
  · exact w_c12
  · exact w_c13
  · exact w_c14
  · exact w_c15
  · exact w_c16
  · exact w_c17
  · exact w_c18
  · exact w_c19
  · exact w_c20
  · exact w_c21
  · exact w_c22
  · exact w_c23
  · exact w_c24
set_option maxRecDepth 65536 in
theorem w_t1 : (words1.take 24).all (fun c => isCode c || c.before args0 about1) = true := by decide +kernel
set_option maxRecDepth 65536 in
theorem w_t2 : ((words1.drop 24).take 24).all (fun c => isCode c || c.before args0 about1) = true := by decide +kernel
set_option maxRecDepth 65536 in
theorem w_t3 : (((words1.drop 24).drop 24).take 24).all (fun c => isCode c || c.before args0 about1) = true := by decide +kernel
set_option maxRecDepth 65536 in
theorem w_t4 : ((((words1.drop 24).drop 24).drop 24).take 24).all (fun c => isCode c || c.before args0 about1) = true := by decide +kernel
set_option maxRecDepth 65536 in
theorem w_t5 : (((((words1.drop 24).drop 24).drop 24).drop 24).take 24).all (fun c => isCode c || c.before args0 about1) = true := by decide +kernel
set_option maxRecDepth 65536 in
theorem w_t6 : (((((words1.drop 24).drop 24).drop 24).drop 24).drop 24).all (fun c => isCode c || c.before args0 about1) = true := by decide +kernel
theorem w_tables : (allAtoms (Jvm.Cond.code x code maxLocals ret :: tables_1)).before args0 about1 = true := by
  rw [allAtoms_all]
  show words1.all (fun c => c.before args0 about1) = true
  refine all_split ?_ w_codes
  rw [← List.take_append_drop 24 words1, List.all_append, w_t1, ← List.take_append_drop 24 (words1.drop 24), List.all_append, w_t2, ← List.take_append_drop 24 ((words1.drop 24).drop 24), List.all_append, w_t3, ← List.take_append_drop 24 (((words1.drop 24).drop 24).drop 24), List.all_append, w_t4, ← List.take_append_drop 24 ((((words1.drop 24).drop 24).drop 24).drop 24), List.all_append, w_t5, w_t6]
  rfl
set_option maxRecDepth 65536 in
theorem w_rest : rest_1_c.before args0 about1 = true := by decide +kernel
set_option maxRecDepth 65536 in
theorem w_case : (Jvm.Cond.and given_1 narrow_1).before args0 about1 = true := by decide +kernel
set_option maxRecDepth 65536 in
theorem w_consts : constsHeld consts_1 about1 := Jvm.Lit.constsHeldB_iff.mp (by decide +kernel)
theorem w_applies : (headSpec (Jvm.Cond.code x code maxLocals ret :: tables_1) room_1).applies x e0.platform about1 = true :=
  (Spec.applies_iff w_frames).mpr ⟨w_running, w_runnable, w_alone, w_named, w_hears, w_ripe, w_room, w_tables⟩
theorem atStart : AtStart classFile x code maxLocals ret World_1 tables_1 room_1 Calls_1 rest_1 Pre_1 launch0 p0 e0 about1 theMethod args0 below0 :=
  ⟨lists_1, trivial, launch0.admits_env _ _ _, launch0.least_env, fairChoices_fair.cas, fairChoices_fair.clock, w_frames, w_args, w_heap, w_applies, ⟨w_consts, trivial⟩, w_rest, w_case⟩
end start1
theorem witness_1 : WitnessClaimed_1 := ⟨start1.p0, start1.e0, start1.about1, start1.theMethod, start1.args0, start1.below0, start1.atStart⟩
end Jvm.Pilot.@@N@@
