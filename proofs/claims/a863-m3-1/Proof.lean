import JvmDerived
import JvmDerived.Pilot.@@N@@Statement
import JvmDerived.Pilot.@@N@@Code
set_option linter.unusedVariables false
set_option linter.unusedSimpArgs false
set_option maxRecDepth 65536
namespace Jvm.Pilot.@@N@@
open Jvm Jvm.ClassFile Sem Op Lib Jvm.Free Jvm.Stand Jvm.LawKit Jvm.RoadKit Bundle Jvm.Pilot.@@N@@.Jvm.D
abbrev own_s0 : String := "Ljava/util/function/BiFunction;"
abbrev own_s1 : String := "jdk/internal/util/Preconditions"
abbrev own_s2 : String := "java/lang/StringUTF16"
abbrev own_s3 : String := "$assertionsDisabled"
abbrev own_y0 : MethodName := ⟨"com/example/splode/splode/document/CoreSchemaRadixPinLaw", "make", "(ICCCCC)Ljava/lang/String;"⟩
abbrev own_y1 : MethodName := ⟨"jdk/internal/util/Preconditions", "checkIndex", "(IILjava/util/function/BiFunction;)I"⟩
abbrev own_y2 : MethodName := ⟨"com/example/splode/splode/document/CoreSchema", "radix", "(Ljava/lang/String;)Z"⟩
abbrev own_y3 : MethodName := ⟨"com/example/splode/splode/document/CoreSchemaRadixPinLaw", "octal", "(C)Z"⟩
abbrev own_y4 : MethodName := ⟨"com/example/splode/splode/document/CoreSchemaRadixPinLaw", "pick", "(I)C"⟩
abbrev own_y5 : MethodName := ⟨"com/example/splode/splode/document/CoreSchemaRadixPinLaw", "hex", "(C)Z"⟩
abbrev own_y6 : MethodName := ⟨"com/example/splode/splode/document/CoreSchema", "digit", "(CI)Z"⟩
abbrev own_y7 : MethodName := ⟨"java/lang/String", "<init>", "([CIILjava/lang/Void;)V"⟩
abbrev own_y8 : MethodName := ⟨"java/lang/StringUTF16", "coderFromArrayLen", "([BI)B"⟩
abbrev own_y9 : MethodName := ⟨"java/lang/StringUTF16", "compress", "([CI[BII)I"⟩
abbrev own_y10 : MethodName := ⟨"java/lang/StringUTF16", "newBytesLength", "(I)I"⟩
abbrev own_y11 : MethodName := ⟨"java/lang/StringUTF16", "checkIndex", "(I[B)V"⟩
abbrev own_y12 : MethodName := ⟨"java/lang/StringUTF16", "compress", "([CII)[B"⟩
abbrev own_y13 : MethodName := ⟨"java/lang/StringUTF16", "newBytesFor", "(I)[B"⟩
abbrev own_y14 : MethodName := ⟨"java/lang/StringUTF16", "toBytes", "([CII)[B"⟩
abbrev own_y15 : MethodName := ⟨"java/lang/StringUTF16", "putChar", "([BII)V"⟩
abbrev own_y16 : MethodName := ⟨"java/lang/StringLatin1", "charAt", "([BI)C"⟩
abbrev own_y17 : MethodName := ⟨"java/lang/StringUTF16", "getChar", "([BI)C"⟩
abbrev own_y18 : MethodName := ⟨"java/lang/StringUTF16", "charAt", "([BI)C"⟩
abbrev own_y19 : MethodName := ⟨"java/lang/StringUTF16", "length", "([B)I"⟩
abbrev own_y20 : MethodName := ⟨"java/lang/String", "checkIndex", "(II)V"⟩
abbrev own_y21 : MethodName := ⟨"java/lang/String", "<init>", "([C)V"⟩
abbrev own_y22 : MethodName := ⟨"java/lang/String", "isLatin1", "()Z"⟩
abbrev own_y23 : MethodName := ⟨"java/lang/String", "charAt", "(I)C"⟩
abbrev own_y24 : MethodName := ⟨"java/lang/String", "length", "()I"⟩
abbrev own_y25 : MethodName := ⟨"java/lang/String", "coder", "()B"⟩
section OwnKit
variable {p : Program} {l : Launch} {e : Env} {R : Room} {s : State} {m : MethodId} {args : Array Value} {below : List Frame} {meth : Method} {c : Code} {T : State} {locs : List Loc} {cells slots : Nat}
theorem own_retI (X : Stand p l e R s m args below meth c T locs cells slots) (hx : p.tables.exec = Jvm.exec) {pc : Nat} {Ls : Array Slot} {z : Int32} {rest : List Value} (hret : meth.sig.returnType = some .int) (hd : decode c.code pc = .ok (.ireturn, 1)) {fs : List Frame}
    (hl : ∀ (f : JFrame) (acts : List Action), f.method = m → f.locked = none → f.entered = [] → (doReturn e (T.setTop f) acts (some (.int z))).1 = T.setFrames fs) : Steps p.tables e below (T.setTop (mkF m pc Ls (.int z :: rest))) (T.setFrames fs) := by
  have hm' : T.vm.method? m = some meth := X.method'
  have hn : narrow .int (.int z) = .int z := rfl
  show Steps p.tables e below (T.setTop { method := m, pc := pc, locals := Ls, stack := _ :: rest, locked := none }) _
  jvm_step X.here [X.here.top, hx, hd, hm', hret, hn]
  first | (intro acts; rw [hl _ acts rfl rfl rfl]) | rw [hl _ _ rfl rfl rfl]
  exact Steps.refl _
/-- what leads on from there leads on from the start s0 -/
abbrev own_G (p : Program) (e : Env) (below : List Frame) (s0 T : State) (m : MethodId) (pc : Nat) (Ls : Array Slot) (St : List Value) : Prop := ∀ t, Steps p.tables e below (T.setTop (mkF m pc Ls St)) t → Steps p.tables e below s0 t
theorem own_w {Z : State} {a0 : Array Value} (hw : ∀ d ∈ tables_1, d.before a0 Z = true) (i : Nat) {d : Jvm.Cond} (h : tables_1[i]? = some d) : d.before a0 Z = true := hw _ (List.mem_of_getElem? h)
/-- where the run stands, with the same writes and figures as at X -/
abbrev own_like (_ : Stand p l e R s m args below meth c T locs cells slots) (T' : State) : Prop := Stand p l e R s m args below meth c T' locs cells slots
end OwnKit
section OwnSteps
variable {p : Program} {l : Launch} {e : Env} {R : Room} {s : State} {m : MethodId} {args : Array Value} {below : List Frame} {meth : Method} {c : Code} {T : State} {locs : List Loc} {cells slots : Nat} {bc : ByteArray} {pc : Nat} {Ls : Array Slot} {St : List Value} {t : State}
theorem w_iloadN (X : Stand p l e R s m args below meth c T locs cells slots) (hx : p.tables.exec = Jvm.exec) (hby : c.code = bc) {k : Fin 4} {v : Int32} (hd : decode bc pc = .ok (.iload_n k, 1)) (hl : Ls[k.val]? = some (.val (.int v))) (hr : Steps p.tables e below (T.setTop (mkF m (pc + 1) Ls (.int v :: St))) t) : Steps p.tables e below (T.setTop (mkF m pc Ls (St))) t := XS.iloadN X.here hx rfl (hb hby hd) hl hr
theorem w_iload (X : Stand p l e R s m args below meth c T locs cells slots) (hx : p.tables.exec = Jvm.exec) (hby : c.code = bc) {k : Nat} {v : Int32} (hd : decode bc pc = .ok (.iload k, 2)) (hl : Ls[k]? = some (.val (.int v))) (hr : Steps p.tables e below (T.setTop (mkF m (pc + 2) Ls (.int v :: St))) t) : Steps p.tables e below (T.setTop (mkF m pc Ls (St))) t := XS.iload X.here hx rfl (hb hby hd) hl hr
theorem w_istoreN (X : Stand p l e R s m args below meth c T locs cells slots) (hx : p.tables.exec = Jvm.exec) (hby : c.code = bc) {k : Fin 4} {v : Int32} {l' : Array Slot} (hd : decode bc pc = .ok (.istore_n k, 1)) (hl : storeLocals Ls k.val (.int v) = some l') (hr : Steps p.tables e below (T.setTop (mkF m (pc + 1) l' (St))) t) : Steps p.tables e below (T.setTop (mkF m pc Ls (.int v :: St))) t := XS.istoreN X.here hx rfl (hb hby hd) rfl hl hr
theorem w_istore (X : Stand p l e R s m args below meth c T locs cells slots) (hx : p.tables.exec = Jvm.exec) (hby : c.code = bc) {k : Nat} {v : Int32} {l' : Array Slot} (hd : decode bc pc = .ok (.istore k, 2)) (hl : storeLocals Ls k (.int v) = some l') (hr : Steps p.tables e below (T.setTop (mkF m (pc + 2) l' (St))) t) : Steps p.tables e below (T.setTop (mkF m pc Ls (.int v :: St))) t := XS.istore X.here hx rfl (hb hby hd) rfl hl hr
theorem w_aloadN (X : Stand p l e R s m args below meth c T locs cells slots) (hx : p.tables.exec = Jvm.exec) (hby : c.code = bc) {k : Fin 4} {v : Value} (hd : decode bc pc = .ok (.aload_n k, 1)) (hl : Ls[k.val]? = some (.val v)) (hv : v.isRef = true) (hr : Steps p.tables e below (T.setTop (mkF m (pc + 1) Ls (v :: St))) t) : Steps p.tables e below (T.setTop (mkF m pc Ls (St))) t := XS.aloadN X.here hx rfl (hb hby hd) hl hv hr
theorem w_aload (X : Stand p l e R s m args below meth c T locs cells slots) (hx : p.tables.exec = Jvm.exec) (hby : c.code = bc) {k : Nat} {v : Value} (hd : decode bc pc = .ok (.aload k, 2)) (hl : Ls[k]? = some (.val v)) (hv : v.isRef = true) (hr : Steps p.tables e below (T.setTop (mkF m (pc + 2) Ls (v :: St))) t) : Steps p.tables e below (T.setTop (mkF m pc Ls (St))) t := XS.aload X.here hx rfl (hb hby hd) hl hv hr
theorem w_astoreN (X : Stand p l e R s m args below meth c T locs cells slots) (hx : p.tables.exec = Jvm.exec) (hby : c.code = bc) {k : Fin 4} {v : Value} {l' : Array Slot} (hd : decode bc pc = .ok (.astore_n k, 1)) (hv : v.isRef = true) (hl : storeLocals Ls k.val v = some l') (hr : Steps p.tables e below (T.setTop (mkF m (pc + 1) l' (St))) t) : Steps p.tables e below (T.setTop (mkF m pc Ls (v :: St))) t := XS.astoreN X.here hx rfl (hb hby hd) rfl hv hl hr
theorem w_astore (X : Stand p l e R s m args below meth c T locs cells slots) (hx : p.tables.exec = Jvm.exec) (hby : c.code = bc) {k : Nat} {v : Value} {l' : Array Slot} (hd : decode bc pc = .ok (.astore k, 2)) (hv : v.isRef = true) (hl : storeLocals Ls k v = some l') (hr : Steps p.tables e below (T.setTop (mkF m (pc + 2) l' (St))) t) : Steps p.tables e below (T.setTop (mkF m pc Ls (v :: St))) t := XS.astore X.here hx rfl (hb hby hd) rfl hv hl hr
theorem w_iconst (X : Stand p l e R s m args below meth c T locs cells slots) (hx : p.tables.exec = Jvm.exec) (hby : c.code = bc) {i : Int} (hd : decode bc pc = .ok (.iconst i, 1)) (hr : Steps p.tables e below (T.setTop (mkF m (pc + 1) Ls (.int (Int32.ofInt i) :: St))) t) : Steps p.tables e below (T.setTop (mkF m pc Ls (St))) t := XS.iconst X.here hx rfl (hb hby hd) hr
theorem w_bipush (X : Stand p l e R s m args below meth c T locs cells slots) (hx : p.tables.exec = Jvm.exec) (hby : c.code = bc) {i : Int} (hd : decode bc pc = .ok (.bipush i, 2)) (hr : Steps p.tables e below (T.setTop (mkF m (pc + 2) Ls (.int (Int8.ofInt i).toInt32 :: St))) t) : Steps p.tables e below (T.setTop (mkF m pc Ls (St))) t := XS.bipush X.here hx rfl (hb hby hd) hr
theorem w_sipush (X : Stand p l e R s m args below meth c T locs cells slots) (hx : p.tables.exec = Jvm.exec) (hby : c.code = bc) {i : Int} (hd : decode bc pc = .ok (.sipush i, 3)) (hr : Steps p.tables e below (T.setTop (mkF m (pc + 3) Ls (.int (Int16.ofInt i).toInt32 :: St))) t) : Steps p.tables e below (T.setTop (mkF m pc Ls (St))) t := XS.sipush X.here hx rfl (hb hby hd) hr
theorem w_isub (X : Stand p l e R s m args below meth c T locs cells slots) (hx : p.tables.exec = Jvm.exec) (hby : c.code = bc) {x y : Int32} (hd : decode bc pc = .ok (.isub, 1)) (hr : Steps p.tables e below (T.setTop (mkF m (pc + 1) Ls (.int (x - y) :: St))) t) : Steps p.tables e below (T.setTop (mkF m pc Ls (.int y :: .int x :: St))) t := XS.isub X.here hx rfl (hb hby hd) rfl hr
theorem w_iand (X : Stand p l e R s m args below meth c T locs cells slots) (hx : p.tables.exec = Jvm.exec) (hby : c.code = bc) {x y : Int32} (hd : decode bc pc = .ok (.iand, 1)) (hr : Steps p.tables e below (T.setTop (mkF m (pc + 1) Ls (.int (x &&& y) :: St))) t) : Steps p.tables e below (T.setTop (mkF m pc Ls (.int y :: .int x :: St))) t := XS.iand X.here hx rfl (hb hby hd) rfl hr
theorem w_ior (X : Stand p l e R s m args below meth c T locs cells slots) (hx : p.tables.exec = Jvm.exec) (hby : c.code = bc) {x y : Int32} (hd : decode bc pc = .ok (.ior, 1)) (hr : Steps p.tables e below (T.setTop (mkF m (pc + 1) Ls (.int (x ||| y) :: St))) t) : Steps p.tables e below (T.setTop (mkF m pc Ls (.int y :: .int x :: St))) t := XS.ior X.here hx rfl (hb hby hd) rfl hr
theorem w_dup (X : Stand p l e R s m args below meth c T locs cells slots) (hx : p.tables.exec = Jvm.exec) (hby : c.code = bc) {x : Value} (hd : decode bc pc = .ok (.dup, 1)) (hc : x.category = 1) (hr : Steps p.tables e below (T.setTop (mkF m (pc + 1) Ls (x :: x :: St))) t) : Steps p.tables e below (T.setTop (mkF m pc Ls (x :: St))) t := XS.dup X.here hx rfl (hb hby hd) rfl hc hr
theorem w_iinc (X : Stand p l e R s m args below meth c T locs cells slots) (hx : p.tables.exec = Jvm.exec) (hby : c.code = bc) {k : Nat} {cst : Int} {x : Int32} {l' : Array Slot} (hd : decode bc pc = .ok (.iinc k cst, 3)) (hl : Ls[k]? = some (.val (.int x))) (hl' : storeLocals Ls k (.int (x + Int32.ofInt cst)) = some l') (hr : Steps p.tables e below (T.setTop (mkF m (pc + 3) l' (St))) t) : Steps p.tables e below (T.setTop (mkF m pc Ls (St))) t := XS.iinc X.here hx rfl (hb hby hd) hl hl' hr
theorem w_goto (X : Stand p l e R s m args below meth c T locs cells slots) (hx : p.tables.exec = Jvm.exec) (hby : c.code = bc) {o : Int} {pc' : Nat} (hd : decode bc pc = .ok (.goto o, 3)) (h : 0 ≤ (pc : Int) + o ∧ ((pc : Int) + o).toNat = pc') (hr : Steps p.tables e below (T.setTop (mkF m pc' Ls St)) t) : Steps p.tables e below (T.setTop (mkF m pc Ls St)) t := XS.goto X.here hx rfl rfl (hb hby hd) h.1 h.2 hr
theorem w_ifNo (X : Stand p l e R s m args below meth c T locs cells slots) (hx : p.tables.exec = Jvm.exec) (hby : c.code = bc) {cd : ClassFile.Cond} {o : Int} {x : Int32} (hd : decode bc pc = .ok (.ifCond cd o, 3)) (hc : ifCond.holds cd x = false) (hr : Steps p.tables e below (T.setTop (mkF m (pc + 3) Ls (St))) t) : Steps p.tables e below (T.setTop (mkF m pc Ls (.int x :: St))) t := XS.ifNo X.here hx rfl (hb hby hd) rfl hc hr
theorem w_ifYes (X : Stand p l e R s m args below meth c T locs cells slots) (hx : p.tables.exec = Jvm.exec) (hby : c.code = bc) {cd : ClassFile.Cond} {o : Int} {x : Int32} {pc' : Nat} (hd : decode bc pc = .ok (.ifCond cd o, 3)) (hc : ifCond.holds cd x = true) (h : 0 ≤ (pc : Int) + o ∧ ((pc : Int) + o).toNat = pc') (hr : Steps p.tables e below (T.setTop (mkF m pc' Ls St)) t) : Steps p.tables e below (T.setTop (mkF m pc Ls (.int x :: St))) t := XS.ifYes X.here hx rfl rfl (hb hby hd) rfl hc h.1 h.2 hr
theorem w_icmpNo (X : Stand p l e R s m args below meth c T locs cells slots) (hx : p.tables.exec = Jvm.exec) (hby : c.code = bc) {cd : ClassFile.Cond} {o : Int} {x y : Int32} (hd : decode bc pc = .ok (.if_icmp cd o, 3)) (hc : if_icmp.holds cd x y = false) (hr : Steps p.tables e below (T.setTop (mkF m (pc + 3) Ls (St))) t) : Steps p.tables e below (T.setTop (mkF m pc Ls (.int y :: .int x :: St))) t := XS.icmpNo X.here hx rfl (hb hby hd) rfl hc hr
theorem w_icmpYes (X : Stand p l e R s m args below meth c T locs cells slots) (hx : p.tables.exec = Jvm.exec) (hby : c.code = bc) {cd : ClassFile.Cond} {o : Int} {x y : Int32} {pc' : Nat} (hd : decode bc pc = .ok (.if_icmp cd o, 3)) (hc : if_icmp.holds cd x y = true) (h : 0 ≤ (pc : Int) + o ∧ ((pc : Int) + o).toNat = pc') (hr : Steps p.tables e below (T.setTop (mkF m pc' Ls St)) t) : Steps p.tables e below (T.setTop (mkF m pc Ls (.int y :: .int x :: St))) t := XS.icmpYes X.here hx rfl rfl (hb hby hd) rfl hc h.1 h.2 hr
end OwnSteps
theorem own_Llt {a b : Int64} (h : a < b) : ifCond.holds .lt (lcmpW a b) = true ∧ ifCond.holds .ge (lcmpW a b) = false ∧ ifCond.holds .gt (lcmpW b a) = true ∧ ifCond.holds .le (lcmpW b a) = false := by
  simp only [if0]
  exact ⟨(tlt ((lw_lt a b).mpr h)).1, (tlt ((lw_lt a b).mpr h)).2.1, (tlt ((lw_gt b a).mpr h)).2.2.1, (tlt ((lw_gt b a).mpr h)).2.2.2⟩
theorem own_Lnl {a b : Int64} (h : ¬ a < b) : ifCond.holds .lt (lcmpW a b) = false ∧ ifCond.holds .ge (lcmpW a b) = true ∧ ifCond.holds .gt (lcmpW b a) = false ∧ ifCond.holds .le (lcmpW b a) = true := by
  simp only [if0]
  have h1 : ¬ lcmpW a b < 0 := fun q => h ((lw_lt a b).mp q)
  have h2 : ¬ 0 < lcmpW b a := fun q => h ((lw_gt b a).mp q)
  exact ⟨(flt h1).1, (flt h1).2.1, (flt h2).2.2.1, (flt h2).2.2.2⟩
theorem own_Leq {a b : Int64} (h : a = b) : ifCond.holds .eq (lcmpW a b) = true ∧ ifCond.holds .ne (lcmpW a b) = false := by
  simp only [if0]
  exact teq ((lw_eq a b).mpr h)
theorem own_Lne {a b : Int64} (h : ¬ a = b) : ifCond.holds .eq (lcmpW a b) = false ∧ ifCond.holds .ne (lcmpW a b) = true := by
  simp only [if0]
  exact feq fun q => h ((lw_eq a b).mp q)
theorem own_StaK {Z : State} {h h' : Heap} {C n d : String} {v : Value} {ws : List Addr} (F : Sta Z h C n d v) (K : Keep h h' ws) (q : ∀ x ∈ ws, ∃ c : Cell, h[x]? = some c ∧ c.vm.isStatics = false) : Sta Z h' C n d v := by
  obtain ⟨cf, i, k, f, st, cell, h1, h2, h3, h4, h5, h6, h7⟩ := F
  refine ⟨cf, i, k, f, st, cell, h1, h2, h3, h4, K.2.1 st cell h5 (fun hm => ?_), h6, h7⟩
  obtain ⟨c, e1, e2⟩ := q _ hm
  rw [h5] at e1
  cases e1
  rw [h6] at e2
  cases e2
theorem own_ExaS {Z : State} {h : Heap} {a : Addr} {C : String} (E : Exa Z h a C) : ∃ c : Cell, h[a]? = some c ∧ c.vm.isStatics = false := by
  obtain ⟨c, k, e1, -, -, e2, -⟩ := E
  exact ⟨c, e1, e2⟩
/-- a boolean as the JVM's int -/
def own_b (b : Bool) : Int32 := if b then 1 else 0
theorem own_b_t : own_b true = 1 := rfl
theorem own_b_f : own_b false = 0 := rfl
theorem own_b0 {b : Bool} : own_b b = 0 ↔ b = false := by cases b <;> decide
theorem own_b_inj {b c : Bool} : own_b b = own_b c ↔ b = c := by cases b <;> cases c <;> decide
theorem own_leafT {b : Bool} (h : b = true) : (some (.int (nar .boolean (1 : Int32))) : Option Value) = some (.int (own_b b)) := by subst h; rfl
theorem own_leafF {b : Bool} (h : b = false) : (some (.int (nar .boolean (0 : Int32))) : Option Value) = some (.int (own_b b)) := by subst h; rfl
theorem own_bt {b : Bool} (h : b = true) : (1 : Int32) = own_b b := by subst h; rfl
theorem own_bf {b : Bool} (h : b = false) : (0 : Int32) = own_b b := by subst h; rfl
theorem own_b_nar (b : Bool) : nar .boolean (own_b b) = own_b b := by cases b <;> rfl
theorem own_wS {Z : State} {a0 : Array Value} (hw : ∀ d ∈ tables_1, d.before a0 Z = true) : ∀ a ∈ Bundle.stringAtoms, a.before a0 Z = true := by
  intro d hd
  simp only [Bundle.stringAtoms, List.mem_cons, List.not_mem_nil, or_false] at hd
  rcases hd with rfl | rfl | rfl | rfl | rfl | rfl | rfl
  · exact (own_w hw 11 rfl)
  · exact (own_w hw 10 rfl)
  · exact (own_w hw 23 rfl)
  · exact (own_w hw 24 rfl)
  · exact (own_w hw 25 rfl)
  · exact (own_w hw 26 rfl)
  · exact (own_w hw 27 rfl)
abbrev own_EL : List (String × Nat) := consts_1
theorem own_EW {Z : State} {a0 : Array Value} (hw : ∀ d ∈ tables_1, d.before a0 Z = true) : EW Z a0 own_EL := (EW.cons (own_w hw 22 rfl) (by decide) EW.nil)
theorem own_SafeArv {Z : State} {EL : List (String × Nat)} {vm : Vm} {h : Heap} {a : Addr} {k : ClassId} {ty : FieldType} {z : Int32} {vs : List Value} {dv : Value} (hal : Z.vm.Alike vm) (F : Arv Z h a k ty z vs dv) (ht : ty ≠ .byte) : Safe Z EL vm h a := by
  obtain ⟨c, A, -⟩ := F
  exact Safe.arr hal A ht
theorem own_backSE {p : Program} {l : Launch} {e : Env} {R : Room} {s : State} {args : Array Value} {below : List Frame} {Z : State} {a0 : Array Value} {EL : List (String × Nat)} {h : Heap} {vm0 : Vm} {y : MethodName} {bytes : ByteArray} {maxL : Nat} {ret : Option FieldType} {rm : Room} {len W : Nat} {as' : Array Value} {Q : Option Value → Heap → List Loc → Prop} {E : Vm → Prop}
    (hM : MetFree l y (head1 [Cond.code y bytes maxL ret] rm) (fun a U => a = as' ∧ Z.Warmed39 U.vm ∧ U.heap = h ∧ CHv Z EL U.vm h ∧ E U.vm) (fun _ _ _ _ _ => True) (fun _ U o U' => ∃ v L, o = .returned v ∧ Q v U'.heap L ∧ CHr Z EL U.vm U.heap U'.vm U'.heap ∧ ReturnedEndW U o U' L rm.cells rm.slots))
    (hZ : Z.Warmed39 vm0) (wc : (Cond.code y bytes maxL ret).before a0 Z = true) (wz : (Cond.initialized y.cls).before a0 Z = true) (hf : rm.frames + 1 ≤ R.frames) (hl : W + (maxL + 11) + rm.locals ≤ R.locals) (hEL : EW Z a0 EL) (H : CHv Z EL vm0 h) (hE : ∀ vm1, CHr Z EL vm0 h vm1 h → E vm1) :
    BackS l R p e below (s.setVm vm0) args y len W (fun A a => a = as' ∧ A.U.heap = h ∧ A.cells + rm.cells ≤ R.cells ∧ A.slots + rm.slots ≤ R.slots)
      (fun A _ v B => ∃ L, Q v B.U.heap L ∧ B.locs = A.locs ++ L ∧ B.cells = A.cells + rm.cells ∧ B.slots = A.slots + rm.slots ∧ CHr Z EL vm0 h B.U.vm B.U.heap) := by
  refine BackS.of_freeW (bytes := bytes) (maxL := maxL) (ret := ret) (E := fun _ first o t L k n => (k = rm.cells ∧ n = rm.slots) ∧ (∃ v, o = .returned v ∧ Q v t.heap L) ∧ CHr Z EL first.vm first.heap t.vm t.heap) hM hf hl ?_ ?_ (fun _ _ _ _ _ _ _ _ _ => trivial) ?_ ?_
  · intro m meth c A a Y hp
    have hU : Z.Warmed39 A.U.vm := wtrans (s := s.setVm vm0) hZ Y.warmed
    refine ⟨?_, mv hU wc, mv hU wz, hp.2.2⟩
    show (Cond.and _ .tt).before a A.U = true
    rw [Cond.before_and, mv hU wc]; rfl
  · intro m meth c A a g mk Y hp
    have q := CHv.at Y hZ hEL H
    exact ⟨hp.1, wtrans (s := s.setVm vm0) hZ Y.warmed, hp.2.1, q.1, hE _ q⟩
  · rintro _ _ _ _ ⟨v, L, h1, h2, h3, h4⟩
    exact ⟨L, _, _, h4, ⟨rfl, rfl⟩, ⟨v, h1, h2⟩, h3⟩
  · rintro m meth c A a g mk v t L k n Y hp - - ⟨⟨e1, e2⟩, ⟨v', e3, e4⟩, e5⟩
    cases e3
    subst e1 e2
    refine ⟨L, e4, rfl, rfl, rfl, (CHv.at Y hZ hEL H).trans ?_⟩
    rw [← hp.2.1]
    exact e5
theorem own_ArvS {Z : State} {h : Heap} {a : Addr} {k : ClassId} {ty : FieldType} {z : Int32} {vs : List Value} {dv : Value} (F : Arv Z h a k ty z vs dv) : ∃ c : Cell, h[a]? = some c ∧ c.vm.isStatics = false := by
  obtain ⟨c, A, -⟩ := F
  refine ⟨c, A.1, ?_⟩
  have q := A.2.1.1
  cases hv : c.vm <;> first | rfl | exact absurd hv (q _)
def own_lo (c : Int32) : Int32 := c.toInt8.toInt32
theorem own_lolo (c : Int32) : nar .byte (c.toInt8.toInt32) = own_lo c := by
  show ((c.toInt8.toInt32).toInt8).toInt32 = c.toInt8.toInt32
  rw [Int8.toInt8_toInt32]
theorem own_mfW {l : Launch} {y : MethodName} {S : Spec} {P : Array Value → State → Prop} {K : Program → Env → List Frame → State → Array Value → Prop} {Q Q' : Array Value → State → Outcome → State → Prop} (h : MetFree l y S P K Q) (i : ∀ a U o U', Q a U o U' → Q' a U o U') : MetFree l y S P K Q' := by
  intro p e ha hc hk s m args below hf happ hP hK
  obtain ⟨n, o, h1, h2, h3, h4⟩ := h p e ha hc hk s m args below hf happ hP hK
  exact ⟨n, o, h1, h2, h3, i _ _ _ _ h4⟩
def own_hi (c : Int32) : Int32 := (c >>> ((8 : Int32) &&& 31)).toInt8.toInt32
theorem own_shr0 (x : Int32) : x >>> ((0 : Int32) &&& 31) = x := by
  have a := c_ishr x 0 0 rfl
  exact Int32.toInt_inj.mp (by omega)
theorem own_shl0 (x : Int32) : x <<< ((0 : Int32) &&& 31) = x := by
  have a := c_ishl x 0 0 rfl
  have b := rng32 x
  have c := rng32 (x <<< ((0 : Int32) &&& 31))
  exact Int32.toInt_inj.mp (by omega)
theorem own_nlo (c : Int32) : nar .byte ((c >>> ((0 : Int32) &&& 31)).toInt8.toInt32) = own_lo c := by
  rw [own_shr0]
  exact own_lolo c
theorem own_nhi (c : Int32) : nar .byte ((c >>> ((8 : Int32) &&& 31)).toInt8.toInt32) = own_hi c := own_lolo (c >>> ((8 : Int32) &&& 31))
/-- a char -/
def own_ch (c : Int32) : Prop := 0 ≤ c.toInt ∧ c.toInt ≤ 65535
theorem own_nc (z : Int32) : own_ch (nar .char z) := by
  have a := c_i2c z
  show 0 ≤ (z.toUInt32.toUInt16.toUInt32.toInt32).toInt ∧ (z.toUInt32.toUInt16.toUInt32.toInt32).toInt ≤ 65535
  omega
theorem own_ncid {z : Int32} (h : own_ch z) : nar .char z = z := by
  have a := c_i2c z
  unfold own_ch at h
  exact Int32.toInt_inj.mp (show (z.toUInt32.toUInt16.toUInt32.toInt32).toInt = z.toInt by omega)
theorem own_latv {c : Int32} (h : own_ch c) (hl : ¬ (255 : Int32) < c) : nar .char ((own_lo c &&& (255 : Int32)).toUInt32.toUInt16.toUInt32.toInt32) = c := by
  have e : own_lo c &&& (255 : Int32) = c := by
    have a : (own_lo c).toInt = c.toInt8.toInt32.toInt := rfl
    have b := c_i2b c
    have m := c_mask (own_lo c) 255 8 (by decide) (by decide)
    rw [Int32.lt_iff_toInt_lt] at hl
    have z : (255 : Int32).toInt = 255 := rfl
    unfold own_ch at h
    exact Int32.toInt_inj.mp (by omega)
  rw [e]
  exact (own_ncid (own_nc c)).trans (own_ncid h)
theorem own_utfv {c : Int32} (h : own_ch c) : nar .char ((((own_lo c &&& (255 : Int32)) <<< ((0 : Int32) &&& 31)) ||| ((own_hi c &&& (255 : Int32)) <<< ((8 : Int32) &&& 31))).toUInt32.toUInt16.toUInt32.toInt32) = c := by
  have e : ((own_lo c &&& (255 : Int32)) <<< ((0 : Int32) &&& 31)) ||| ((own_hi c &&& (255 : Int32)) <<< ((8 : Int32) &&& 31)) = c := by
    rw [own_shl0, Int32.or_comm]
    have a : (own_lo c).toInt = c.toInt8.toInt32.toInt := rfl
    have b := c_i2b c
    have m := c_mask (own_lo c) 255 8 (by decide) (by decide)
    have a2 : (own_hi c).toInt = (c >>> ((8 : Int32) &&& 31)).toInt8.toInt32.toInt := rfl
    have b2 := c_i2b (c >>> ((8 : Int32) &&& 31))
    have s2 := c_ishr c 8 8 rfl
    have m2 := c_mask (own_hi c) 255 8 (by decide) (by decide)
    have t2 := c_ishl (own_hi c &&& (255 : Int32)) 8 8 rfl
    have r2 := rng32 ((own_hi c &&& (255 : Int32)) <<< ((8 : Int32) &&& 31))
    have o := c_or ((own_hi c &&& (255 : Int32)) <<< ((8 : Int32) &&& 31)) (own_lo c &&& (255 : Int32)) 8 (by decide) 256 rfl (by omega) (by omega) (by omega)
    have r3 := rng32 (((own_hi c &&& (255 : Int32)) <<< ((8 : Int32) &&& 31)) ||| (own_lo c &&& (255 : Int32)))
    unfold own_ch at h
    exact Int32.toInt_inj.mp (by omega)
  rw [e]
  exact (own_ncid (own_nc c)).trans (own_ncid h)
theorem own_ltN {i n : Nat} (h : i < n) (hn : n ≤ 100) : Int32.ofNat i < Int32.ofNat n := by
  rw [Int32.lt_iff_toInt_lt, Int32.toInt_ofNat_small (by omega), Int32.toInt_ofNat_small (by omega)]
  omega
def own_los (cs : List Int32) : List Value := cs.map fun c => .int (own_lo c)
def own_uts : List Int32 → List Value
  | [] => []
  | c :: cs => .int (own_lo c) :: .int (own_hi c) :: own_uts cs
theorem own_los_at : ∀ {cs : List Int32} {i : Nat} {c : Int32}, cs[i]? = some c → (own_los cs).getD i (.int 0) = .int (own_lo c)
  | [], i, c, h => by simp at h
  | d :: cs, 0, c, h => by
    obtain rfl : d = c := Option.some.inj h
    rfl
  | d :: cs, i + 1, c, h => own_los_at (cs := cs) (i := i) (by simpa using h)
theorem own_uts_at : ∀ {cs : List Int32} {i : Nat} {c : Int32}, cs[i]? = some c → (own_uts cs).getD (2 * i) (.int 0) = .int (own_lo c) ∧ (own_uts cs).getD (2 * i + 1) (.int 0) = .int (own_hi c)
  | [], i, c, h => by simp at h
  | d :: cs, 0, c, h => by
    obtain rfl : d = c := Option.some.inj h
    exact ⟨rfl, rfl⟩
  | d :: cs, i + 1, c, h => own_uts_at (cs := cs) (i := i) (by simpa using h)
theorem own_len_at : ∀ {cs : List Int32} {i : Nat} {c : Int32}, cs[i]? = some c → i < cs.length
  | cs, i, c, h => (List.getElem?_eq_some_iff.mp h).1
theorem own_mem_at {cs : List Int32} {i : Nat} {c : Int32} (h : cs[i]? = some c) : c ∈ cs := List.mem_of_getElem? h
/-- a String of these chars, of either coder -/
def own_Str (Z : State) (h : Heap) (a : Addr) (cs : List Int32) : Prop := Exa Z h a "java/lang/String" ∧ ∃ (tb : Addr) (kt : ClassId), Fld Z h a "java/lang/String" "value" "[B" (.ref tb) ∧
  ((Fld Z h a "java/lang/String" "coder" "B" (.int 0) ∧ Arv Z h tb kt .byte (Int32.ofNat cs.length) (own_los cs) (.int 0) ∧ ∀ c ∈ cs, ¬ (255 : Int32) < c) ∨ (Fld Z h a "java/lang/String" "coder" "B" (.int 1) ∧ Arv Z h tb kt .byte (Int32.ofNat (2 * cs.length)) (own_uts cs) (.int 0)))
theorem own_getI (bs : List Int32) (j : Nat) : (bs.map Value.int).getD j (.int 0) = .int (bs.getD j 0) := by
  rw [List.getD_eq_getElem?_getD, List.getD_eq_getElem?_getD, List.getElem?_map]
  cases bs[j]? <;> rfl
theorem own_and15 (x : Int32) : ¬ (x &&& (15 : Int32)) < 0 ∧ (x &&& (15 : Int32)) < (16 : Int32) := by
  have m := c_mask x (15 : Int32) 4 (by decide) (by decide)
  rw [Int32.lt_iff_toInt_lt, Int32.lt_iff_toInt_lt]
  have z : (0 : Int32).toInt = 0 := rfl
  have z2 : (16 : Int32).toInt = 16 := rfl
  omega
theorem own_mod6 (x : Int32) : 0 ≤ ((x &&& (2147483647 : Int32)) % (6 : Int32)).toInt ∧ ((x &&& (2147483647 : Int32)) % (6 : Int32)).toInt ≤ 5 := by
  have m := c_mask x (2147483647 : Int32) 31 (by decide) (by decide)
  have q := (c_iremV (x &&& (2147483647 : Int32)) 6).1 (by omega) (by decide)
  have z : (6 : Int32).toInt = 6 := rfl
  omega
theorem own_six {n : Int32} (h : 0 ≤ n.toInt ∧ n.toInt ≤ 5) : n = (0 : Int32) ∨ n = (1 : Int32) ∨ n = (2 : Int32) ∨ n = (3 : Int32) ∨ n = (4 : Int32) ∨ n = (5 : Int32) := by
  have j : ∀ i : Int32, n.toInt = i.toInt → n = i := fun i q => Int32.toInt_inj.mp q
  have z : n.toInt = 0 ∨ n.toInt = 1 ∨ n.toInt = 2 ∨ n.toInt = 3 ∨ n.toInt = 4 ∨ n.toInt = 5 := by omega
  rcases z with z | z | z | z | z | z
  · exact Or.inl (j _ (z.trans rfl))
  · exact Or.inr (Or.inl (j _ (z.trans rfl)))
  · exact Or.inr (Or.inr (Or.inl (j _ (z.trans rfl))))
  · exact Or.inr (Or.inr (Or.inr (Or.inl (j _ (z.trans rfl)))))
  · exact Or.inr (Or.inr (Or.inr (Or.inr (Or.inl (j _ (z.trans rfl))))))
  · exact Or.inr (Or.inr (Or.inr (Or.inr (Or.inr (j _ (z.trans rfl))))))
theorem own_five {n : Int32} (h : 0 ≤ n.toInt ∧ n.toInt ≤ 5) (h0 : ¬ n = (0 : Int32)) (h1 : ¬ n = (1 : Int32)) (h2 : ¬ n = (2 : Int32)) (h3 : ¬ n = (3 : Int32)) (h4 : ¬ n = (4 : Int32)) : n = (5 : Int32) := by
  rcases own_six h with e | e | e | e | e | e
  · exact absurd e h0
  · exact absurd e h1
  · exact absurd e h2
  · exact absurd e h3
  · exact absurd e h4
  · exact e
def own_cs (n c0 c1 c2 c3 c4 : Int32) : List Int32 := if n = (0 : Int32) then [] else if n = (1 : Int32) then [c0] else if n = (2 : Int32) then [c0, c1] else if n = (3 : Int32) then [c0, c1, c2] else if n = (4 : Int32) then [c0, c1, c2, c3] else [c0, c1, c2, c3, c4]
def own_oct (c : Int32) : Bool := decide (¬ c < (48 : Int32)) && decide (¬ (55 : Int32) < c)
def own_hex (c : Int32) : Bool := (decide (¬ c < (48 : Int32)) && decide (¬ (57 : Int32) < c)) || (decide (¬ c < (97 : Int32)) && decide (¬ (102 : Int32) < c)) || (decide (¬ c < (65 : Int32)) && decide (¬ (70 : Int32) < c))
def own_exp (n c0 c1 c2 c3 c4 : Int32) : Bool := decide ((2 : Int32) < n) && (decide (c0 = (48 : Int32)) && (if c1 = (111 : Int32) then own_oct c2 && ((decide (n < (4 : Int32)) || own_oct c3) && (decide (n < (5 : Int32)) || own_oct c4)) else if c1 = (120 : Int32) then own_hex c2 && ((decide (n < (4 : Int32)) || own_hex c3) && (decide (n < (5 : Int32)) || own_hex c4)) else false))
def own_fm (v : Value) : Prop := v = .null ∨ ∃ a, v = .ref a
theorem own_fm_of {v : Value} (h : v.isRef = true) : own_fm v := by
  cases v <;> first | exact Or.inl rfl | exact Or.inr ⟨_, rfl⟩ | cases h
theorem own_half {n : Nat} (h : n ≤ 5) : (Int32.ofNat (2 * n)) >>> ((1 : Int32) &&& 31) = Int32.ofNat n := by
  have a := c_ishr (Int32.ofNat (2 * n)) 1 1 rfl
  rw [Int32.toInt_ofNat_small (by omega)] at a
  exact Int32.toInt_inj.mp (by rw [a, Int32.toInt_ofNat_small (by omega)]; omega)
theorem own_Str_E {Z : State} {h : Heap} {a : Addr} {cs : List Int32} (S : own_Str Z h a cs) : Exa Z h a "java/lang/String" := by
  obtain ⟨E, -⟩ := S
  exact E
theorem own_bn0 {b : Bool} (h : ¬ own_b b = 0) : b = true := by
  cases b
  · exact absurd rfl h
  · rfl
/-- what compress leaves: the bytes of one coder or of the other -/
def own_By (Z : State) (h : Heap) (tb : Addr) (kt : ClassId) (ls : List Int32) : Prop := ((∀ c ∈ ls, ¬ (255 : Int32) < c) ∧ Arv Z h tb kt .byte (Int32.ofNat ls.length) (own_los ls) (.int 0)) ∨ ((∃ c ∈ ls, (255 : Int32) < c) ∧ Arv Z h tb kt .byte (Int32.ofNat (2 * ls.length)) (own_uts ls) (.int 0))
theorem own_By_u {Z : State} {h : Heap} {tb : Addr} {kt : ClassId} {ls : List Int32} (B : own_By Z h tb kt ls) (g : ∃ c ∈ ls, (255 : Int32) < c) : Arv Z h tb kt .byte (Int32.ofNat (2 * ls.length)) (own_uts ls) (.int 0) := by
  rcases B with ⟨q, -⟩ | ⟨-, A⟩
  · obtain ⟨c, hc, hg⟩ := g
    exact absurd hg (q c hc)
  · exact A
theorem own_By_l {Z : State} {h : Heap} {tb : Addr} {kt : ClassId} {ls : List Int32} (B : own_By Z h tb kt ls) (g : ¬ ∃ c ∈ ls, (255 : Int32) < c) : Arv Z h tb kt .byte (Int32.ofNat ls.length) (own_los ls) (.int 0) := by
  rcases B with ⟨-, A⟩ | ⟨q, -⟩
  · exact A
  · exact absurd q g
/-- what the inner compress tells -/
def own_C5 (Z : State) (h : Heap) (tb : Addr) (kt : ClassId) (ls : List Int32) (pp : Int32) : Prop := (pp = Int32.ofNat ls.length ∧ (∀ c ∈ ls, ¬ (255 : Int32) < c) ∧ Arv Z h tb kt .byte (Int32.ofNat ls.length) (own_los ls) (.int 0)) ∨ (∃ (i : Nat) (c : Int32), pp = Int32.ofNat i ∧ ls[i]? = some c ∧ (255 : Int32) < c)
theorem own_ofN_inj {i j : Nat} (hi : i ≤ 100) (hj : j ≤ 100) (h : Int32.ofNat i = Int32.ofNat j) : i = j := by
  have q := congrArg Int32.toInt h
  rw [Int32.toInt_ofNat_small (by omega), Int32.toInt_ofNat_small (by omega)] at q
  omega
theorem own_C5_l {Z : State} {h : Heap} {tb : Addr} {kt : ClassId} {ls : List Int32} {pp nn : Int32} (Q : own_C5 Z h tb kt ls pp) (hn : nn = Int32.ofNat ls.length) (h5 : ls.length ≤ 5) (e : pp = nn) : own_By Z h tb kt ls := by
  rcases Q with ⟨-, q, A⟩ | ⟨i, c, e2, hat, -⟩
  · exact Or.inl ⟨q, A⟩
  · have hi := own_len_at hat
    have := own_ofN_inj (by omega) (by omega) (e2.symm.trans (e.trans hn))
    omega
theorem own_C5_r {Z : State} {h : Heap} {tb : Addr} {kt : ClassId} {ls : List Int32} {pp nn : Int32} (Q : own_C5 Z h tb kt ls pp) (hn : nn = Int32.ofNat ls.length) (e : ¬ pp = nn) : ∃ (i : Nat) (c : Int32), pp = Int32.ofNat i ∧ ls[i]? = some c ∧ (255 : Int32) < c := by
  rcases Q with ⟨q, -⟩ | q
  · exact absurd (q.trans hn.symm) e
  · exact q
theorem own_cl {i : Nat} (h : i ≤ 100) : (Int32.ofNat i).toNatClampNeg = i := by
  have a := Int32.toInt_ofNat_small (n := i) (by omega)
  have b : ¬ Int32.ofNat i < (0 : Int32) := fun q => by have := Int32.lt_iff_toInt_lt.mp q; have z : (0 : Int32).toInt = 0 := rfl; omega
  have e := nat_of b
  omega
theorem own_ge0 {i : Nat} (h : i ≤ 100) : ¬ Int32.ofNat i < (0 : Int32) := fun q => by
  have a := Int32.toInt_ofNat_small (n := i) (by omega)
  have := Int32.lt_iff_toInt_lt.mp q
  have z : (0 : Int32).toInt = 0 := rfl
  omega
theorem own_dbl {i : Nat} (h : i ≤ 5) : (Int32.ofNat i) <<< ((1 : Int32) &&& 31) = Int32.ofNat (2 * i) := by
  have a := c_ishl (Int32.ofNat i) 1 1 rfl
  have r := rng32 ((Int32.ofNat i) <<< ((1 : Int32) &&& 31))
  rw [Int32.toInt_ofNat_small (by omega)] at a
  exact Int32.toInt_inj.mp (by rw [Int32.toInt_ofNat_small (by omega)]; omega)
theorem own_suc {i : Nat} (h : i ≤ 50) : (Int32.ofNat i) + (1 : Int32) = Int32.ofNat (i + 1) := by
  have a := c_iadd (Int32.ofNat i) 1
  have r := rng32 ((Int32.ofNat i) + (1 : Int32))
  have z : (1 : Int32).toInt = 1 := rfl
  rw [Int32.toInt_ofNat_small (by omega)] at a
  exact Int32.toInt_inj.mp (by rw [Int32.toInt_ofNat_small (by omega)]; omega)
theorem own_Ix {ix nn : Int32} {i : Nat} (hix : ix = Int32.ofNat i) (h5 : i ≤ 5) (hl : Int32.ofNat (2 * i + 1) < nn) : (¬ (ix <<< ((1 : Int32) &&& 31)) < (0 : Int32) ∧ (ix <<< ((1 : Int32) &&& 31)) < nn ∧ (ix <<< ((1 : Int32) &&& 31)).toNatClampNeg = 2 * i) ∧ (¬ ((ix <<< ((1 : Int32) &&& 31)) + (1 : Int32)) < (0 : Int32) ∧ ((ix <<< ((1 : Int32) &&& 31)) + (1 : Int32)) < nn ∧ ((ix <<< ((1 : Int32) &&& 31)) + (1 : Int32)).toNatClampNeg = 2 * i + 1) := by
  rw [hix, own_dbl h5, own_suc (by omega)]
  refine ⟨⟨own_ge0 (by omega), ?_, own_cl (by omega)⟩, own_ge0 (by omega), hl, own_cl (by omega)⟩
  rw [Int32.lt_iff_toInt_lt, Int32.toInt_ofNat_small (by omega)] at hl ⊢
  omega
theorem own_llt {i p nn : Int32} (h : ¬ p < i) (hn : p < nn) : i < nn := by
  rw [Int32.lt_iff_toInt_lt] at h hn ⊢
  omega
theorem own_nz {nn : Int32} {ls : List Int32} (hn : nn = Int32.ofNat ls.length) (h5 : ls.length ≤ 5) (hne : ls ≠ []) : ¬ nn = (0 : Int32) := fun q => by
  have := own_ofN_inj (i := ls.length) (j := 0) (by omega) (by omega) (hn.symm.trans q)
  exact hne (List.length_eq_zero_iff.mp this)
theorem own_cf0 (nn : Int32) : nar .byte ((((nn - nn).toUInt32 >>> ((31 : Int32) &&& 31).toUInt32).toInt32).toInt8.toInt32) = (0 : Int32) := by
  have e : nn - nn = (0 : Int32) := by
    have a := c_isub nn nn
    have r := rng32 (nn - nn)
    have z : (0 : Int32).toInt = 0 := rfl
    exact Int32.toInt_inj.mp (by omega)
  rw [e]
  decide
theorem own_cf1 {n : Nat} (h0 : 0 < n) (h5 : n ≤ 5) : nar .byte ((((Int32.ofNat n - Int32.ofNat (2 * n)).toUInt32 >>> ((31 : Int32) &&& 31).toUInt32).toInt32).toInt8.toInt32) = (1 : Int32) := by
  have : ∀ n, n < 6 → 0 < n → nar .byte ((((Int32.ofNat n - Int32.ofNat (2 * n)).toUInt32 >>> ((31 : Int32) &&& 31).toUInt32).toInt32).toInt8.toInt32) = (1 : Int32) := by decide +kernel
  exact this n (by omega) h0
theorem own_cs_len {n c0 c1 c2 c3 c4 : Int32} (h : 0 ≤ n.toInt ∧ n.toInt ≤ 5) : Int32.ofNat (own_cs n c0 c1 c2 c3 c4).length = n ∧ (own_cs n c0 c1 c2 c3 c4).length ≤ 5 := by
  rcases own_six h with rfl | rfl | rfl | rfl | rfl | rfl
  · exact ⟨rfl, Nat.le_of_ble_eq_true rfl⟩
  · exact ⟨rfl, Nat.le_of_ble_eq_true rfl⟩
  · exact ⟨rfl, Nat.le_of_ble_eq_true rfl⟩
  · exact ⟨rfl, Nat.le_of_ble_eq_true rfl⟩
  · exact ⟨rfl, Nat.le_of_ble_eq_true rfl⟩
  · exact ⟨rfl, Nat.le_of_ble_eq_true rfl⟩
theorem own_cs_at2 {n c0 c1 c2 c3 c4 : Int32} (h : 0 ≤ n.toInt ∧ n.toInt ≤ 5) (q : (2 : Int32) < n) : (own_cs n c0 c1 c2 c3 c4)[0]? = some c0 ∧ (own_cs n c0 c1 c2 c3 c4)[1]? = some c1 ∧ (own_cs n c0 c1 c2 c3 c4)[2]? = some c2 := by
  rcases own_six h with rfl | rfl | rfl | rfl | rfl | rfl
  · exact absurd q (by decide)
  · exact absurd q (by decide)
  · exact absurd q (by decide)
  · exact ⟨rfl, rfl, rfl⟩
  · exact ⟨rfl, rfl, rfl⟩
  · exact ⟨rfl, rfl, rfl⟩
theorem own_cs_at3 {n c0 c1 c2 c3 c4 : Int32} (h : 0 ≤ n.toInt ∧ n.toInt ≤ 5) (q : (3 : Int32) < n) : (own_cs n c0 c1 c2 c3 c4)[3]? = some c3 := by
  rcases own_six h with rfl | rfl | rfl | rfl | rfl | rfl
  · exact absurd q (by decide)
  · exact absurd q (by decide)
  · exact absurd q (by decide)
  · exact absurd q (by decide)
  · rfl
  · rfl
theorem own_cs_at4 {n c0 c1 c2 c3 c4 : Int32} (h : 0 ≤ n.toInt ∧ n.toInt ≤ 5) (q : (4 : Int32) < n) : (own_cs n c0 c1 c2 c3 c4)[4]? = some c4 := by
  rcases own_six h with rfl | rfl | rfl | rfl | rfl | rfl
  · exact absurd q (by decide)
  · exact absurd q (by decide)
  · exact absurd q (by decide)
  · exact absurd q (by decide)
  · exact absurd q (by decide)
  · rfl
theorem own_n5 {n : Int32} (h : 0 ≤ n.toInt ∧ n.toInt ≤ 5) : ¬ (5 : Int32) < n := fun q => by
  have := Int32.lt_iff_toInt_lt.mp q
  have z : (5 : Int32).toInt = 5 := rfl
  omega
theorem own_g3 {n : Int32} (h : (3 : Int32) < n) : ¬ n < (4 : Int32) := fun q => by
  rw [Int32.lt_iff_toInt_lt] at h q
  have z : (3 : Int32).toInt = 3 := rfl
  have z2 : (4 : Int32).toInt = 4 := rfl
  omega
theorem own_l3 {n : Int32} (h : ¬ (3 : Int32) < n) : n < (4 : Int32) ∧ n < (5 : Int32) := by
  rw [Int32.lt_iff_toInt_lt] at h
  rw [Int32.lt_iff_toInt_lt, Int32.lt_iff_toInt_lt]
  have z : (3 : Int32).toInt = 3 := rfl
  have z2 : (4 : Int32).toInt = 4 := rfl
  have z3 : (5 : Int32).toInt = 5 := rfl
  omega
theorem own_g4 {n : Int32} (h : (4 : Int32) < n) : ¬ n < (5 : Int32) := fun q => by
  rw [Int32.lt_iff_toInt_lt] at h q
  have z : (5 : Int32).toInt = 5 := rfl
  have z2 : (4 : Int32).toInt = 4 := rfl
  omega
theorem own_l4 {n : Int32} (h : ¬ (4 : Int32) < n) : n < (5 : Int32) := by
  rw [Int32.lt_iff_toInt_lt] at h ⊢
  have z : (5 : Int32).toInt = 5 := rfl
  have z2 : (4 : Int32).toInt = 4 := rfl
  omega

theorem d16_0 : decode jdk_41_method_11_code 0 = .ok (.iload_n 0, 1) := by decide +kernel
theorem d16_1 : decode jdk_41_method_11_code 1 = .ok (.ifCond .lt 8, 3) := by decide +kernel
theorem d16_4 : decode jdk_41_method_11_code 4 = .ok (.iload_n 0, 1) := by decide +kernel
theorem d16_5 : decode jdk_41_method_11_code 5 = .ok (.iload_n 1, 1) := by decide +kernel
theorem d16_6 : decode jdk_41_method_11_code 6 = .ok (.if_icmp .lt 10, 3) := by decide +kernel
theorem d16_16 : decode jdk_41_method_11_code 16 = .ok (.iload_n 0, 1) := by decide +kernel
theorem d16_17 : decode jdk_41_method_11_code 17 = .ok (.ireturn, 1) := by decide +kernel
theorem own_ef16r (m : MethodId) (x0 : Int32) (x1 : Int32) (x2 : Addr) : entryFrame m #[(.int x0), (.int x1), (.ref x2)] 3 = mkF m 0 #[iv x0, iv x1, rv x2] [] := by first | (simp [entryFrame, mkF, argsToLocals, Value.category]; done) | rfl
def own_Q16r (Z : State) (ix : Int32) (nn : Int32) (fa : Addr) (h0 : Heap) (n0 : Nat) (v : Option Value) (h : Heap) (L : List Loc) : Prop := v = some (.int ix) ∧ L = [] ∧ h = h0
theorem own_pn0 : plainName "jdk/internal/util/Preconditions" = true := by first | (simp [plainName, overriddenIn]; done) | decide +kernel
set_option maxHeartbeats 40000000 in
theorem own_rm16r (l : Launch) (Z : State) (a0 : Array Value) (hw : ∀ d ∈ tables_1, d.before a0 Z = true) (ws : List Jvm.Cond) (ix : Int32) (nn : Int32) (fa : Addr) (h0 : Heap) (n0 : Nat) (Z0 : n0 ≤ h0.size) (h1 : ¬ ix < (0 : Int32)) (h2 : ix < nn) :
    MetFree l own_y1 (head1 (Jvm.Cond.code own_y1 jdk_41_method_11_code 3 (some .int) :: ws) ({ frames := 0, cells := 0, slots := 0, locals := 0 } : Room)) (fun argv U => argv = #[(.int ix), (.int nn), (.ref fa)] ∧ Z.Warmed39 U.vm ∧ U.heap = h0) (fun _ _ _ _ _ => True) (fun _ U o U' => ∃ v L, o = .returned v ∧ own_Q16r Z ix nn fa h0 n0 v U'.heap L ∧ FrameEnd U o U' L ({ frames := 0, cells := 0, slots := 0, locals := 0 } : Room).cells ({ frames := 0, cells := 0, slots := 0, locals := 0 } : Room).slots) := by
  refine MetFree.of_bodySF (plainFor_of_name own_pn0) hisR ?_
  intro p e s m args below meth c s₁ Bd hml0 hP hK
  obtain ⟨rfl, hZ, hh⟩ := hP
  have hx := Bd.exec
  have hby := Bd.bytes
  have hml : c.maxLocals = 3 := hml0
  have hown : s.vm.findClass own_s1 = some m.cls := findClass_of_methodNamed Bd.named
  have hnm := (name_of_methodNamed Bd.named Bd.method).1
  have X0 : Stand p l e ({ frames := 0, cells := 0, slots := 0, locals := 0 } : Room) s m #[(.int ix), (.int nn), (.ref fa)] below meth c s₁ [] 0 0 := Stand.of_body Bd
  have e0 : s₁.heap = h0 := by rw [← hh, Bd.state]; rfl
  have N0 := Fr.nil n0
  have pre_ : own_G p e below (s₁.setTop (entryFrame m #[(.int ix), (.int nn), (.ref fa)] 3)) s₁ m 0 #[iv ix, iv nn, rv fa] [] := fun t k => castTop (own_ef16r m ix nn fa) k
  obtain ⟨s0, hs0⟩ : ∃ z, z = (s₁.setTop (entryFrame m #[(.int ix), (.int nn), (.ref fa)] 3)) := ⟨_, rfl⟩
  have pre0 : own_G p e below s0 s₁ m 0 #[iv ix, iv nn, rv fa] [] := hs0 ▸ pre_
  rw [← hs0]
  have S1 : own_G p e below s0 s₁ m 1 #[iv ix, iv nn, rv fa] [(.int ix)] := fun t kt => by
    refine pre0 t ?_
    refine w_iloadN X0 hx hby d16_0 rfl ?_
    exact kt
  have hc1_2 : ¬ (ix < (0 : Int32)) := h1
  have S3 : own_G p e below s0 s₁ m 6 #[iv ix, iv nn, rv fa] [(.int nn), (.int ix)] := fun t kt => by
    refine S1 t ?_
    refine w_ifNo X0 hx hby d16_1 ((if0 _ _).trans (flt hc1_2).1) ?_
    refine w_iloadN X0 hx hby d16_4 rfl ?_
    refine w_iloadN X0 hx hby d16_5 rfl ?_
    exact kt
  have hc6_4 : ix < nn := h2
  have S5 : own_G p e below s0 s₁ m 17 #[iv ix, iv nn, rv fa] [(.int ix)] := fun t kt => by
    refine S3 t ?_
    refine w_icmpYes X0 hx hby (pc' := 16) d16_6 (tlt hc6_4).1 (by decide) ?_
    refine w_iloadN X0 hx hby d16_16 rfl ?_
    exact kt
  obtain ⟨fs, hr, hrun, hended, hW, hsame⟩ := X0.leave (v := some (.int ix)) (fun h => by rw [Bd.returns] at h; cases h)
  refine ⟨_, _, S5 _ ?_, hrun, hended, _, _, rfl, ?_, ⟨_, rfl⟩, hW, hsame.mono (by decide) (by decide)⟩
  · show Steps p.tables e below (s₁.setTop (mkF m 17 #[iv ix, iv nn, rv fa] [(.int ix)])) _
    exact own_retI X0 hx Bd.returns (hb hby d16_17) hr
  · show own_Q16r Z ix nn fa h0 n0 _ s₁.heap _
    rw [e0]
    exact ⟨rfl, rfl, rfl⟩
theorem own_pd0 : parseMethodDescriptor "(IILjava/util/function/BiFunction;)I" = some ⟨[.int, .int, (.object "java/util/function/BiFunction")], some .int⟩ := by decide +kernel
theorem d15_0 : decode jdk_42_method_155_code 0 = .ok (.iload_n 0, 1) := by decide +kernel
theorem d15_1 : decode jdk_42_method_155_code 1 = .ok (.iload_n 1, 1) := by decide +kernel
theorem d15_2 : decode jdk_42_method_155_code 2 = .ok (.getstatic 1053, 3) := by decide +kernel
theorem d15_5 : decode jdk_42_method_155_code 5 = .ok (.invokestatic 1059, 3) := by decide +kernel
theorem d15_8 : decode jdk_42_method_155_code 8 = .ok (.pop, 1) := by decide +kernel
theorem d15_9 : decode jdk_42_method_155_code 9 = .ok (.return_, 1) := by decide +kernel
theorem own_ef15r (m : MethodId) (x0 : Int32) (x1 : Int32) : entryFrame m #[(.int x0), (.int x1)] 2 = mkF m 0 #[iv x0, iv x1] [] := by first | (simp [entryFrame, mkF, argsToLocals, Value.category]; done) | rfl
def own_Q15r (Z : State) (ix : Int32) (nn : Int32) (fa : Addr) (h0 : Heap) (n0 : Nat) (v : Option Value) (h : Heap) (L : List Loc) : Prop := v = none ∧ L = [] ∧ h = h0
theorem own_pn1 : plainName "java/lang/String" = true := by first | (simp [plainName, overriddenIn]; done) | decide +kernel
set_option maxHeartbeats 40000000 in
theorem own_rm15r (l : Launch) (Z : State) (a0 : Array Value) (hw : ∀ d ∈ tables_1, d.before a0 Z = true) (ws : List Jvm.Cond) (ix : Int32) (nn : Int32) (fa : Addr) (h0 : Heap) (n0 : Nat) (Z0 : n0 ≤ h0.size) (S_FM : Sta Z h0 own_s1 "SIOOBE_FORMATTER" own_s0 (.ref fa)) (h1 : ¬ ix < (0 : Int32)) (h2 : ix < nn) :
    MetFree l own_y20 (head1 (Jvm.Cond.code own_y20 jdk_42_method_155_code 2 none :: ws) ({ frames := 1, cells := 0, slots := 0, locals := 14 } : Room)) (fun argv U => argv = #[(.int ix), (.int nn)] ∧ Z.Warmed39 U.vm ∧ U.heap = h0) (fun _ _ _ _ _ => True) (fun _ U o U' => ∃ v L, o = .returned v ∧ own_Q15r Z ix nn fa h0 n0 v U'.heap L ∧ FrameEnd U o U' L ({ frames := 1, cells := 0, slots := 0, locals := 14 } : Room).cells ({ frames := 1, cells := 0, slots := 0, locals := 14 } : Room).slots) := by
  refine MetFree.of_bodySF (plainFor_of_name own_pn1) hisR ?_
  intro p e s m args below meth c s₁ Bd hml0 hP hK
  obtain ⟨rfl, hZ, hh⟩ := hP
  have hx := Bd.exec
  have hby := Bd.bytes
  have hml : c.maxLocals = 2 := hml0
  have hown : s.vm.findClass "java/lang/String" = some m.cls := findClass_of_methodNamed Bd.named
  have hnm := (name_of_methodNamed Bd.named Bd.method).1
  have X0 : Stand p l e ({ frames := 1, cells := 0, slots := 0, locals := 14 } : Room) s m #[(.int ix), (.int nn)] below meth c s₁ [] 0 0 := Stand.of_body Bd
  have e0 : s₁.heap = h0 := by rw [← hh, Bd.state]; rfl
  have N0 := Fr.nil n0
  have pre_ : own_G p e below (s₁.setTop (entryFrame m #[(.int ix), (.int nn)] 2)) s₁ m 0 #[iv ix, iv nn] [] := fun t k => castTop (own_ef15r m ix nn) k
  obtain ⟨s0, hs0⟩ : ∃ z, z = (s₁.setTop (entryFrame m #[(.int ix), (.int nn)] 2)) := ⟨_, rfl⟩
  have pre0 : own_G p e below s0 s₁ m 0 #[iv ix, iv nn] [] := hs0 ▸ pre_
  rw [← hs0]
  have S1 : own_G p e below s0 s₁ m 2 #[iv ix, iv nn] [(.int nn), (.int ix)] := fun t kt => by
    refine pre0 t ?_
    refine w_iloadN X0 hx hby d15_0 rfl ?_
    refine w_iloadN X0 hx hby d15_1 rfl ?_
    exact kt
  obtain ⟨T2, X2, e2, st2⟩ := getS2 X0 hx hZ hown (host := "") (Or.inl (own_w hw 72 rfl)) Via.refl e0 S_FM (g := (mkF m 2 #[iv ix, iv nn] [(.int nn), (.int ix)])) rfl (hb hby d15_2)
  have S3 : own_G p e below s0 T2 m 5 #[iv ix, iv nn] [(.ref fa), (.int nn), (.int ix)] := fun t kt => S1 t (st2 _ kt)
  obtain ⟨_, _, ⟨T5, L5, k5, n5⟩, -, X5, ⟨Lc5, hQ5, l5, y5, z5⟩, st5⟩ := Jvm.LawKit.callS X2 hx (y := own_y1) hown (mvT hZ (own_w hw 74 rfl)) (mvT hZ (own_w hw 75 rfl)) (mvT hZ (own_w hw 73 rfl)) (mvT hZ (own_w hw 76 rfl)) (by decide) (backOf (W := 0) (own_rm16r l Z a0 hw [] (ix) (nn) (fa) h0 n0 Z0 h1 h2) hZ (own_w hw 76 rfl) (own_w hw 73 rfl) (by decide) (by decide)) (g := (mkF m 5 #[iv ix, iv nn] [(.ref fa), (.int nn), (.int ix)])) rfl (by rw [hml]; rfl) (argsL := [(.int ix), (.int nn), (.ref fa)]) (rest := []) (lenOf own_pd0 rfl) rfl (by show 2 * 0 + _ ≤ _; exact Nat.le_of_eq rfl) (hb hby d15_5) (fun _ _ => ⟨rfl, e2, (by decide : 0 + 0 ≤ _), (by decide : 0 + 0 ≤ _)⟩)
  dsimp only [Pt.U, Pt.locs, Pt.cells, Pt.slots] at X5 l5 y5 z5 st5 hQ5
  subst l5 y5 z5
  obtain ⟨rfl, rfl, eq4⟩ := hQ5
  try rw [List.append_nil] at X5
  have S6 : own_G p e below s0 T5 m 8 #[iv ix, iv nn] [(.int ix)] := fun t kt => S3 t (st5 _ kt)
  have S7 : own_G p e below s0 T5 m 9 #[iv ix, iv nn] [] := fun t kt => by
    refine S6 t ?_
    refine XS.pop X5.here hx rfl (hb hby d15_8) rfl rfl ?_
    exact kt
  obtain ⟨fs, hr, hrun, hended, hW, hsame⟩ := X5.leave (v := none) (fun _ => rfl)
  refine ⟨_, _, S7 _ ?_, hrun, hended, _, _, rfl, ?_, ⟨_, rfl⟩, hW, hsame.mono (by decide) (by decide)⟩
  · show Steps p.tables e below (T5.setTop (mkF m 9 #[iv ix, iv nn] [])) _
    exact X5.returnOut hx Bd.returns (hb hby d15_9) hr
  · show own_Q15r Z ix nn fa h0 n0 _ T5.heap _
    rw [eq4]
    exact ⟨rfl, rfl, rfl⟩
theorem own_ef16n (m : MethodId) (x0 : Int32) (x1 : Int32) : entryFrame m #[(.int x0), (.int x1), .null] 3 = mkF m 0 #[iv x0, iv x1, .val .null] [] := by first | (simp [entryFrame, mkF, argsToLocals, Value.category]; done) | rfl
def own_Q16n (Z : State) (ix : Int32) (nn : Int32) (h0 : Heap) (n0 : Nat) (v : Option Value) (h : Heap) (L : List Loc) : Prop := v = some (.int ix) ∧ L = [] ∧ h = h0
set_option maxHeartbeats 40000000 in
theorem own_rm16n (l : Launch) (Z : State) (a0 : Array Value) (hw : ∀ d ∈ tables_1, d.before a0 Z = true) (ws : List Jvm.Cond) (ix : Int32) (nn : Int32) (h0 : Heap) (n0 : Nat) (Z0 : n0 ≤ h0.size) (h1 : ¬ ix < (0 : Int32)) (h2 : ix < nn) :
    MetFree l own_y1 (head1 (Jvm.Cond.code own_y1 jdk_41_method_11_code 3 (some .int) :: ws) ({ frames := 0, cells := 0, slots := 0, locals := 0 } : Room)) (fun argv U => argv = #[(.int ix), (.int nn), .null] ∧ Z.Warmed39 U.vm ∧ U.heap = h0) (fun _ _ _ _ _ => True) (fun _ U o U' => ∃ v L, o = .returned v ∧ own_Q16n Z ix nn h0 n0 v U'.heap L ∧ FrameEnd U o U' L ({ frames := 0, cells := 0, slots := 0, locals := 0 } : Room).cells ({ frames := 0, cells := 0, slots := 0, locals := 0 } : Room).slots) := by
  refine MetFree.of_bodySF (plainFor_of_name own_pn0) hisR ?_
  intro p e s m args below meth c s₁ Bd hml0 hP hK
  obtain ⟨rfl, hZ, hh⟩ := hP
  have hx := Bd.exec
  have hby := Bd.bytes
  have hml : c.maxLocals = 3 := hml0
  have hown : s.vm.findClass own_s1 = some m.cls := findClass_of_methodNamed Bd.named
  have hnm := (name_of_methodNamed Bd.named Bd.method).1
  have X0 : Stand p l e ({ frames := 0, cells := 0, slots := 0, locals := 0 } : Room) s m #[(.int ix), (.int nn), .null] below meth c s₁ [] 0 0 := Stand.of_body Bd
  have e0 : s₁.heap = h0 := by rw [← hh, Bd.state]; rfl
  have N0 := Fr.nil n0
  have pre_ : own_G p e below (s₁.setTop (entryFrame m #[(.int ix), (.int nn), .null] 3)) s₁ m 0 #[iv ix, iv nn, .val .null] [] := fun t k => castTop (own_ef16n m ix nn) k
  obtain ⟨s0, hs0⟩ : ∃ z, z = (s₁.setTop (entryFrame m #[(.int ix), (.int nn), .null] 3)) := ⟨_, rfl⟩
  have pre0 : own_G p e below s0 s₁ m 0 #[iv ix, iv nn, .val .null] [] := hs0 ▸ pre_
  rw [← hs0]
  have S1 : own_G p e below s0 s₁ m 1 #[iv ix, iv nn, .val .null] [(.int ix)] := fun t kt => by
    refine pre0 t ?_
    refine w_iloadN X0 hx hby d16_0 rfl ?_
    exact kt
  have hc1_2 : ¬ (ix < (0 : Int32)) := h1
  have S3 : own_G p e below s0 s₁ m 6 #[iv ix, iv nn, .val .null] [(.int nn), (.int ix)] := fun t kt => by
    refine S1 t ?_
    refine w_ifNo X0 hx hby d16_1 ((if0 _ _).trans (flt hc1_2).1) ?_
    refine w_iloadN X0 hx hby d16_4 rfl ?_
    refine w_iloadN X0 hx hby d16_5 rfl ?_
    exact kt
  have hc6_4 : ix < nn := h2
  have S5 : own_G p e below s0 s₁ m 17 #[iv ix, iv nn, .val .null] [(.int ix)] := fun t kt => by
    refine S3 t ?_
    refine w_icmpYes X0 hx hby (pc' := 16) d16_6 (tlt hc6_4).1 (by decide) ?_
    refine w_iloadN X0 hx hby d16_16 rfl ?_
    exact kt
  obtain ⟨fs, hr, hrun, hended, hW, hsame⟩ := X0.leave (v := some (.int ix)) (fun h => by rw [Bd.returns] at h; cases h)
  refine ⟨_, _, S5 _ ?_, hrun, hended, _, _, rfl, ?_, ⟨_, rfl⟩, hW, hsame.mono (by decide) (by decide)⟩
  · show Steps p.tables e below (s₁.setTop (mkF m 17 #[iv ix, iv nn, .val .null] [(.int ix)])) _
    exact own_retI X0 hx Bd.returns (hb hby d16_17) hr
  · show own_Q16n Z ix nn h0 n0 _ s₁.heap _
    rw [e0]
    exact ⟨rfl, rfl, rfl⟩
theorem own_ef15n (m : MethodId) (x0 : Int32) (x1 : Int32) : entryFrame m #[(.int x0), (.int x1)] 2 = mkF m 0 #[iv x0, iv x1] [] := by first | (simp [entryFrame, mkF, argsToLocals, Value.category]; done) | rfl
def own_Q15n (Z : State) (ix : Int32) (nn : Int32) (h0 : Heap) (n0 : Nat) (v : Option Value) (h : Heap) (L : List Loc) : Prop := v = none ∧ L = [] ∧ h = h0
set_option maxHeartbeats 40000000 in
theorem own_rm15n (l : Launch) (Z : State) (a0 : Array Value) (hw : ∀ d ∈ tables_1, d.before a0 Z = true) (ws : List Jvm.Cond) (ix : Int32) (nn : Int32) (h0 : Heap) (n0 : Nat) (Z0 : n0 ≤ h0.size) (S_FM : Sta Z h0 own_s1 "SIOOBE_FORMATTER" own_s0 .null) (h1 : ¬ ix < (0 : Int32)) (h2 : ix < nn) :
    MetFree l own_y20 (head1 (Jvm.Cond.code own_y20 jdk_42_method_155_code 2 none :: ws) ({ frames := 1, cells := 0, slots := 0, locals := 14 } : Room)) (fun argv U => argv = #[(.int ix), (.int nn)] ∧ Z.Warmed39 U.vm ∧ U.heap = h0) (fun _ _ _ _ _ => True) (fun _ U o U' => ∃ v L, o = .returned v ∧ own_Q15n Z ix nn h0 n0 v U'.heap L ∧ FrameEnd U o U' L ({ frames := 1, cells := 0, slots := 0, locals := 14 } : Room).cells ({ frames := 1, cells := 0, slots := 0, locals := 14 } : Room).slots) := by
  refine MetFree.of_bodySF (plainFor_of_name own_pn1) hisR ?_
  intro p e s m args below meth c s₁ Bd hml0 hP hK
  obtain ⟨rfl, hZ, hh⟩ := hP
  have hx := Bd.exec
  have hby := Bd.bytes
  have hml : c.maxLocals = 2 := hml0
  have hown : s.vm.findClass "java/lang/String" = some m.cls := findClass_of_methodNamed Bd.named
  have hnm := (name_of_methodNamed Bd.named Bd.method).1
  have X0 : Stand p l e ({ frames := 1, cells := 0, slots := 0, locals := 14 } : Room) s m #[(.int ix), (.int nn)] below meth c s₁ [] 0 0 := Stand.of_body Bd
  have e0 : s₁.heap = h0 := by rw [← hh, Bd.state]; rfl
  have N0 := Fr.nil n0
  have pre_ : own_G p e below (s₁.setTop (entryFrame m #[(.int ix), (.int nn)] 2)) s₁ m 0 #[iv ix, iv nn] [] := fun t k => castTop (own_ef15n m ix nn) k
  obtain ⟨s0, hs0⟩ : ∃ z, z = (s₁.setTop (entryFrame m #[(.int ix), (.int nn)] 2)) := ⟨_, rfl⟩
  have pre0 : own_G p e below s0 s₁ m 0 #[iv ix, iv nn] [] := hs0 ▸ pre_
  rw [← hs0]
  have S1 : own_G p e below s0 s₁ m 2 #[iv ix, iv nn] [(.int nn), (.int ix)] := fun t kt => by
    refine pre0 t ?_
    refine w_iloadN X0 hx hby d15_0 rfl ?_
    refine w_iloadN X0 hx hby d15_1 rfl ?_
    exact kt
  obtain ⟨T2, X2, e2, st2⟩ := getS2 X0 hx hZ hown (host := "") (Or.inl (own_w hw 72 rfl)) Via.refl e0 S_FM (g := (mkF m 2 #[iv ix, iv nn] [(.int nn), (.int ix)])) rfl (hb hby d15_2)
  have S3 : own_G p e below s0 T2 m 5 #[iv ix, iv nn] [.null, (.int nn), (.int ix)] := fun t kt => S1 t (st2 _ kt)
  obtain ⟨_, _, ⟨T5, L5, k5, n5⟩, -, X5, ⟨Lc5, hQ5, l5, y5, z5⟩, st5⟩ := Jvm.LawKit.callS X2 hx (y := own_y1) hown (mvT hZ (own_w hw 74 rfl)) (mvT hZ (own_w hw 75 rfl)) (mvT hZ (own_w hw 73 rfl)) (mvT hZ (own_w hw 76 rfl)) (by decide) (backOf (W := 0) (own_rm16n l Z a0 hw [] (ix) (nn) h0 n0 Z0 h1 h2) hZ (own_w hw 76 rfl) (own_w hw 73 rfl) (by decide) (by decide)) (g := (mkF m 5 #[iv ix, iv nn] [.null, (.int nn), (.int ix)])) rfl (by rw [hml]; rfl) (argsL := [(.int ix), (.int nn), .null]) (rest := []) (lenOf own_pd0 rfl) rfl (by show 2 * 0 + _ ≤ _; exact Nat.le_of_eq rfl) (hb hby d15_5) (fun _ _ => ⟨rfl, e2, (by decide : 0 + 0 ≤ _), (by decide : 0 + 0 ≤ _)⟩)
  dsimp only [Pt.U, Pt.locs, Pt.cells, Pt.slots] at X5 l5 y5 z5 st5 hQ5
  subst l5 y5 z5
  obtain ⟨rfl, rfl, eq4⟩ := hQ5
  try rw [List.append_nil] at X5
  have S6 : own_G p e below s0 T5 m 8 #[iv ix, iv nn] [(.int ix)] := fun t kt => S3 t (st5 _ kt)
  have S7 : own_G p e below s0 T5 m 9 #[iv ix, iv nn] [] := fun t kt => by
    refine S6 t ?_
    refine XS.pop X5.here hx rfl (hb hby d15_8) rfl rfl ?_
    exact kt
  obtain ⟨fs, hr, hrun, hended, hW, hsame⟩ := X5.leave (v := none) (fun _ => rfl)
  refine ⟨_, _, S7 _ ?_, hrun, hended, _, _, rfl, ?_, ⟨_, rfl⟩, hW, hsame.mono (by decide) (by decide)⟩
  · show Steps p.tables e below (T5.setTop (mkF m 9 #[iv ix, iv nn] [])) _
    exact X5.returnOut hx Bd.returns (hb hby d15_9) hr
  · show own_Q15n Z ix nn h0 n0 _ T5.heap _
    rw [eq4]
    exact ⟨rfl, rfl, rfl⟩
def own_Q15 (Z : State) (ix : Int32) (nn : Int32) (fm : Value) (h0 : Heap) (n0 : Nat) (v : Option Value) (h : Heap) (L : List Loc) : Prop := v = none ∧ L = [] ∧ h = h0
set_option maxHeartbeats 4000000 in
theorem own_rm15 (l : Launch) (Z : State) (a0 : Array Value) (hw : ∀ d ∈ tables_1, d.before a0 Z = true) (ws : List Jvm.Cond) (ix : Int32) (nn : Int32) (fm : Value) (h0 : Heap) (n0 : Nat) (Z0 : n0 ≤ h0.size) (S_FM : Sta Z h0 own_s1 "SIOOBE_FORMATTER" own_s0 fm) (hfm : own_fm fm) (h1 : ¬ ix < (0 : Int32)) (h2 : ix < nn) :
    MetFree l own_y20 (head1 (Jvm.Cond.code own_y20 jdk_42_method_155_code 2 none :: ws) ({ frames := 1, cells := 0, slots := 0, locals := 14 } : Room)) (fun argv U => argv = #[(.int ix), (.int nn)] ∧ Z.Warmed39 U.vm ∧ U.heap = h0) (fun _ _ _ _ _ => True) (fun _ U o U' => ∃ v L, o = .returned v ∧ own_Q15 Z ix nn fm h0 n0 v U'.heap L ∧ FrameEnd U o U' L ({ frames := 1, cells := 0, slots := 0, locals := 14 } : Room).cells ({ frames := 1, cells := 0, slots := 0, locals := 14 } : Room).slots) := by
  rcases hfm with rfl | ⟨fa, rfl⟩
  · exact own_rm15n l Z a0 hw ws ix nn h0 n0 Z0 S_FM h1 h2
  · exact own_rm15r l Z a0 hw ws ix nn fa h0 n0 Z0 S_FM h1 h2
theorem d24_0 : decode jdk_52_method_6_code 0 = .ok (.aload_n 0, 1) := by decide +kernel
theorem d24_1 : decode jdk_52_method_6_code 1 = .ok (.arraylength, 1) := by decide +kernel
theorem d24_2 : decode jdk_52_method_6_code 2 = .ok (.iconst 1, 1) := by decide +kernel
theorem d24_3 : decode jdk_52_method_6_code 3 = .ok (.ishr, 1) := by decide +kernel
theorem d24_4 : decode jdk_52_method_6_code 4 = .ok (.ireturn, 1) := by decide +kernel
theorem own_ef24 (m : MethodId) (x0 : Addr) : entryFrame m #[(.ref x0)] 1 = mkF m 0 #[rv x0] [] := by first | (simp [entryFrame, mkF, argsToLocals, Value.category]; done) | rfl
def own_Q24 (Z : State) (b : Addr) (kb : ClassId) (nn : Int32) (vs : List Value) (h0 : Heap) (n0 : Nat) (v : Option Value) (h : Heap) (L : List Loc) : Prop := v = some (.int (nn >>> ((1 : Int32) &&& 31))) ∧ L = [] ∧ h = h0
theorem own_pn2 : plainName "java/lang/StringUTF16" = true := by first | (simp [plainName, overriddenIn]; done) | decide +kernel
set_option maxHeartbeats 40000000 in
theorem own_rm24 (l : Launch) (Z : State) (a0 : Array Value) (hw : ∀ d ∈ tables_1, d.before a0 Z = true) (ws : List Jvm.Cond) (b : Addr) (kb : ClassId) (nn : Int32) (vs : List Value) (h0 : Heap) (n0 : Nat) (Z0 : n0 ≤ h0.size) (V_b : Arv Z h0 b kb .byte nn vs (.int 0)) :
    MetFree l own_y19 (head1 (Jvm.Cond.code own_y19 jdk_52_method_6_code 1 (some .int) :: ws) ({ frames := 0, cells := 0, slots := 0, locals := 0 } : Room)) (fun argv U => argv = #[(.ref b)] ∧ Z.Warmed39 U.vm ∧ U.heap = h0) (fun _ _ _ _ _ => True) (fun _ U o U' => ∃ v L, o = .returned v ∧ own_Q24 Z b kb nn vs h0 n0 v U'.heap L ∧ FrameEnd U o U' L ({ frames := 0, cells := 0, slots := 0, locals := 0 } : Room).cells ({ frames := 0, cells := 0, slots := 0, locals := 0 } : Room).slots) := by
  refine MetFree.of_bodySF (plainFor_of_name own_pn2) hisR ?_
  intro p e s m args below meth c s₁ Bd hml0 hP hK
  obtain ⟨rfl, hZ, hh⟩ := hP
  have hx := Bd.exec
  have hby := Bd.bytes
  have hml : c.maxLocals = 1 := hml0
  have hown : s.vm.findClass own_s2 = some m.cls := findClass_of_methodNamed Bd.named
  have hnm := (name_of_methodNamed Bd.named Bd.method).1
  have X0 : Stand p l e ({ frames := 0, cells := 0, slots := 0, locals := 0 } : Room) s m #[(.ref b)] below meth c s₁ [] 0 0 := Stand.of_body Bd
  have e0 : s₁.heap = h0 := by rw [← hh, Bd.state]; rfl
  have N0 := Fr.nil n0
  have pre_ : own_G p e below (s₁.setTop (entryFrame m #[(.ref b)] 1)) s₁ m 0 #[rv b] [] := fun t k => castTop (own_ef24 m b) k
  obtain ⟨s0, hs0⟩ : ∃ z, z = (s₁.setTop (entryFrame m #[(.ref b)] 1)) := ⟨_, rfl⟩
  have pre0 : own_G p e below s0 s₁ m 0 #[rv b] [] := hs0 ▸ pre_
  rw [← hs0]
  have S1 : own_G p e below s0 s₁ m 1 #[rv b] [(.ref b)] := fun t kt => by
    refine pre0 t ?_
    refine w_aloadN X0 hx hby d24_0 rfl rfl ?_
    exact kt
  obtain ⟨cl2, Ar2, -, Sz2, Nn2, -, -⟩ := id V_b
  have S3 : own_G p e below s0 s₁ m 4 #[rv b] [(.int (nn >>> ((1 : Int32) &&& 31)))] := fun t kt => by
    refine S1 t ?_
    refine X0.arraylength hx (by rw [e0]; exact Ar2.1) (State.isArrayOf_alike hZ.alike Ar2.2.1) (g := (mkF m 1 #[rv b] [(.ref b)])) rfl rfl (hb hby d24_1) _ ?_
    rw [len_of Sz2 Nn2]
    refine w_iconst X0 hx hby d24_2 ?_
    refine XS.ishr X0.here hx rfl (hb hby d24_3) rfl ?_
    exact kt
  obtain ⟨fs, hr, hrun, hended, hW, hsame⟩ := X0.leave (v := some (.int (nn >>> ((1 : Int32) &&& 31)))) (fun h => by rw [Bd.returns] at h; cases h)
  refine ⟨_, _, S3 _ ?_, hrun, hended, _, _, rfl, ?_, ⟨_, rfl⟩, hW, hsame.mono (by decide) (by decide)⟩
  · show Steps p.tables e below (s₁.setTop (mkF m 4 #[rv b] [(.int (nn >>> ((1 : Int32) &&& 31)))])) _
    exact own_retI X0 hx Bd.returns (hb hby d24_4) hr
  · show own_Q24 Z b kb nn vs h0 n0 _ s₁.heap _
    rw [e0]
    exact ⟨rfl, rfl, rfl⟩
theorem own_pd1 : parseMethodDescriptor "([B)I" = some ⟨[(.array .byte)], some .int⟩ := by decide +kernel
theorem own_pd2 : parseMethodDescriptor "(II)V" = some ⟨[.int, .int], none⟩ := by decide +kernel
theorem d23_0 : decode jdk_52_method_91_code 0 = .ok (.iload_n 0, 1) := by decide +kernel
theorem d23_1 : decode jdk_52_method_91_code 1 = .ok (.aload_n 1, 1) := by decide +kernel
theorem d23_2 : decode jdk_52_method_91_code 2 = .ok (.invokestatic 48, 3) := by decide +kernel
theorem d23_5 : decode jdk_52_method_91_code 5 = .ok (.invokestatic 414, 3) := by decide +kernel
theorem d23_8 : decode jdk_52_method_91_code 8 = .ok (.return_, 1) := by decide +kernel
theorem own_ef23 (m : MethodId) (x0 : Int32) (x1 : Addr) : entryFrame m #[(.int x0), (.ref x1)] 2 = mkF m 0 #[iv x0, rv x1] [] := by first | (simp [entryFrame, mkF, argsToLocals, Value.category]; done) | rfl
def own_Q23 (Z : State) (ix : Int32) (b : Addr) (kb : ClassId) (nn : Int32) (vs : List Value) (fm : Value) (h0 : Heap) (n0 : Nat) (v : Option Value) (h : Heap) (L : List Loc) : Prop := v = none ∧ L = [] ∧ h = h0
set_option maxHeartbeats 40000000 in
theorem own_rm23 (l : Launch) (Z : State) (a0 : Array Value) (hw : ∀ d ∈ tables_1, d.before a0 Z = true) (ws : List Jvm.Cond) (ix : Int32) (b : Addr) (kb : ClassId) (nn : Int32) (vs : List Value) (fm : Value) (h0 : Heap) (n0 : Nat) (Z0 : n0 ≤ h0.size) (V_b : Arv Z h0 b kb .byte nn vs (.int 0)) (S_FM : Sta Z h0 own_s1 "SIOOBE_FORMATTER" own_s0 fm) (hfm : own_fm fm) (h1 : ¬ ix < (0 : Int32)) (h2 : ix < (nn >>> ((1 : Int32) &&& 31))) :
    MetFree l own_y11 (head1 (Jvm.Cond.code own_y11 jdk_52_method_91_code 2 none :: ws) ({ frames := 2, cells := 0, slots := 0, locals := 27 } : Room)) (fun argv U => argv = #[(.int ix), (.ref b)] ∧ Z.Warmed39 U.vm ∧ U.heap = h0) (fun _ _ _ _ _ => True) (fun _ U o U' => ∃ v L, o = .returned v ∧ own_Q23 Z ix b kb nn vs fm h0 n0 v U'.heap L ∧ FrameEnd U o U' L ({ frames := 2, cells := 0, slots := 0, locals := 27 } : Room).cells ({ frames := 2, cells := 0, slots := 0, locals := 27 } : Room).slots) := by
  refine MetFree.of_bodySF (plainFor_of_name own_pn2) hisR ?_
  intro p e s m args below meth c s₁ Bd hml0 hP hK
  obtain ⟨rfl, hZ, hh⟩ := hP
  have hx := Bd.exec
  have hby := Bd.bytes
  have hml : c.maxLocals = 2 := hml0
  have hown : s.vm.findClass own_s2 = some m.cls := findClass_of_methodNamed Bd.named
  have hnm := (name_of_methodNamed Bd.named Bd.method).1
  have X0 : Stand p l e ({ frames := 2, cells := 0, slots := 0, locals := 27 } : Room) s m #[(.int ix), (.ref b)] below meth c s₁ [] 0 0 := Stand.of_body Bd
  have e0 : s₁.heap = h0 := by rw [← hh, Bd.state]; rfl
  have N0 := Fr.nil n0
  have pre_ : own_G p e below (s₁.setTop (entryFrame m #[(.int ix), (.ref b)] 2)) s₁ m 0 #[iv ix, rv b] [] := fun t k => castTop (own_ef23 m ix b) k
  obtain ⟨s0, hs0⟩ : ∃ z, z = (s₁.setTop (entryFrame m #[(.int ix), (.ref b)] 2)) := ⟨_, rfl⟩
  have pre0 : own_G p e below s0 s₁ m 0 #[iv ix, rv b] [] := hs0 ▸ pre_
  rw [← hs0]
  have S2 : own_G p e below s0 s₁ m 2 #[iv ix, rv b] [(.ref b), (.int ix)] := fun t kt => by
    refine pre0 t ?_
    refine w_iloadN X0 hx hby d23_0 rfl ?_
    refine w_aloadN X0 hx hby d23_1 rfl rfl ?_
    exact kt
  obtain ⟨_, _, ⟨T3, L3, k3, n3⟩, -, X3, ⟨Lc3, hQ3, l3, y3, z3⟩, st3⟩ := Jvm.LawKit.callS X0 hx (y := own_y19) hown (mvT hZ (own_w hw 103 rfl)) (mvT hZ (own_w hw 104 rfl)) (mvT hZ (own_w hw 47 rfl)) (mvT hZ (own_w hw 105 rfl)) (by decide) (backOf (W := 1) (own_rm24 l Z a0 hw [] (b) (kb) (nn) (vs) h0 n0 Z0 V_b) hZ (own_w hw 105 rfl) (own_w hw 47 rfl) (by decide) (by decide)) (g := (mkF m 2 #[iv ix, rv b] [(.ref b), (.int ix)])) rfl (by rw [hml]; rfl) (argsL := [(.ref b)]) (rest := [(.int ix)]) (lenOf own_pd1 rfl) rfl (by show 2 * 0 + _ ≤ _; exact Nat.le_of_eq rfl) (hb hby d23_2) (fun _ _ => ⟨rfl, e0, (by decide : 0 + 0 ≤ _), (by decide : 0 + 0 ≤ _)⟩)
  dsimp only [Pt.U, Pt.locs, Pt.cells, Pt.slots] at X3 l3 y3 z3 st3 hQ3
  subst l3 y3 z3
  obtain ⟨rfl, rfl, eq1⟩ := hQ3
  try rw [List.append_nil] at X3
  have S4 : own_G p e below s0 T3 m 5 #[iv ix, rv b] [(.int (nn >>> ((1 : Int32) &&& 31))), (.int ix)] := fun t kt => S2 t (st3 _ kt)
  obtain ⟨_, _, ⟨T6, L6, k6, n6⟩, -, X6, ⟨Lc6, hQ6, l6, y6, z6⟩, st6⟩ := Jvm.LawKit.callS X3 hx (y := own_y20) hown (mvT hZ (own_w hw 106 rfl)) (mvT hZ (own_w hw 70 rfl)) (mvT hZ (own_w hw 11 rfl)) (mvT hZ (own_w hw 71 rfl)) (by decide) (backOf (W := 0) (own_rm15 l Z a0 hw [] (ix) ((nn >>> ((1 : Int32) &&& 31))) (fm) h0 n0 Z0 S_FM hfm h1 h2) hZ (own_w hw 71 rfl) (own_w hw 11 rfl) (by decide) (by decide)) (g := (mkF m 5 #[iv ix, rv b] [(.int (nn >>> ((1 : Int32) &&& 31))), (.int ix)])) rfl (by rw [hml]; rfl) (argsL := [(.int ix), (.int (nn >>> ((1 : Int32) &&& 31)))]) (rest := []) (lenOf own_pd2 rfl) rfl (by show 2 * 0 + _ ≤ _; exact Nat.le_of_eq rfl) (hb hby d23_5) (fun _ _ => ⟨rfl, eq1, (by decide : 0 + 0 ≤ _), (by decide : 0 + 0 ≤ _)⟩)
  dsimp only [Pt.U, Pt.locs, Pt.cells, Pt.slots] at X6 l6 y6 z6 st6 hQ6
  subst l6 y6 z6
  obtain ⟨rfl, rfl, eq5⟩ := hQ6
  try rw [List.append_nil] at X6
  have S7 : own_G p e below s0 T6 m 8 #[iv ix, rv b] [] := fun t kt => S4 t (st6 _ kt)
  obtain ⟨fs, hr, hrun, hended, hW, hsame⟩ := X6.leave (v := none) (fun _ => rfl)
  refine ⟨_, _, S7 _ ?_, hrun, hended, _, _, rfl, ?_, ⟨_, rfl⟩, hW, hsame.mono (by decide) (by decide)⟩
  · show Steps p.tables e below (T6.setTop (mkF m 8 #[iv ix, rv b] [])) _
    exact X6.returnOut hx Bd.returns (hb hby d23_8) hr
  · show own_Q23 Z ix b kb nn vs fm h0 n0 _ T6.heap _
    rw [eq5]
    exact ⟨rfl, rfl, rfl⟩
theorem d21_0 : decode jdk_52_method_5_code 0 = .ok (.getstatic 44, 3) := by decide +kernel
theorem d21_3 : decode jdk_52_method_5_code 3 = .ok (.ifCond .ne 25, 3) := by decide +kernel
theorem d21_28 : decode jdk_52_method_5_code 28 = .ok (.iload_n 1, 1) := by decide +kernel
theorem d21_29 : decode jdk_52_method_5_code 29 = .ok (.iconst 1, 1) := by decide +kernel
theorem d21_30 : decode jdk_52_method_5_code 30 = .ok (.ishl, 1) := by decide +kernel
theorem d21_31 : decode jdk_52_method_5_code 31 = .ok (.istore_n 1, 1) := by decide +kernel
theorem d21_32 : decode jdk_52_method_5_code 32 = .ok (.aload_n 0, 1) := by decide +kernel
theorem d21_33 : decode jdk_52_method_5_code 33 = .ok (.iload_n 1, 1) := by decide +kernel
theorem d21_34 : decode jdk_52_method_5_code 34 = .ok (.iinc 1 1, 3) := by decide +kernel
theorem d21_37 : decode jdk_52_method_5_code 37 = .ok (.baload, 1) := by decide +kernel
theorem d21_38 : decode jdk_52_method_5_code 38 = .ok (.sipush 255, 3) := by decide +kernel
theorem d21_41 : decode jdk_52_method_5_code 41 = .ok (.iand, 1) := by decide +kernel
theorem d21_42 : decode jdk_52_method_5_code 42 = .ok (.getstatic 59, 3) := by decide +kernel
theorem d21_45 : decode jdk_52_method_5_code 45 = .ok (.ishl, 1) := by decide +kernel
theorem d21_46 : decode jdk_52_method_5_code 46 = .ok (.aload_n 0, 1) := by decide +kernel
theorem d21_47 : decode jdk_52_method_5_code 47 = .ok (.iload_n 1, 1) := by decide +kernel
theorem d21_48 : decode jdk_52_method_5_code 48 = .ok (.baload, 1) := by decide +kernel
theorem d21_49 : decode jdk_52_method_5_code 49 = .ok (.sipush 255, 3) := by decide +kernel
theorem d21_52 : decode jdk_52_method_5_code 52 = .ok (.iand, 1) := by decide +kernel
theorem d21_53 : decode jdk_52_method_5_code 53 = .ok (.getstatic 63, 3) := by decide +kernel
theorem d21_56 : decode jdk_52_method_5_code 56 = .ok (.ishl, 1) := by decide +kernel
theorem d21_57 : decode jdk_52_method_5_code 57 = .ok (.ior, 1) := by decide +kernel
theorem d21_58 : decode jdk_52_method_5_code 58 = .ok (.i2c, 1) := by decide +kernel
theorem d21_59 : decode jdk_52_method_5_code 59 = .ok (.ireturn, 1) := by decide +kernel
theorem own_ef21 (m : MethodId) (x0 : Addr) (x1 : Int32) : entryFrame m #[(.ref x0), (.int x1)] 2 = mkF m 0 #[rv x0, iv x1] [] := by first | (simp [entryFrame, mkF, argsToLocals, Value.category]; done) | rfl
def own_Q21 (Z : State) (b : Addr) (ix : Int32) (kb : ClassId) (nn : Int32) (vs : List Value) (i_ : Nat) (c_ : Int32) (h0 : Heap) (n0 : Nat) (v : Option Value) (h : Heap) (L : List Loc) : Prop := v = some (.int c_) ∧ L = [] ∧ h = h0
set_option maxHeartbeats 40000000 in
theorem own_rm21 (l : Launch) (Z : State) (a0 : Array Value) (hw : ∀ d ∈ tables_1, d.before a0 Z = true) (ws : List Jvm.Cond) (b : Addr) (ix : Int32) (kb : ClassId) (nn : Int32) (vs : List Value) (i_ : Nat) (c_ : Int32) (h0 : Heap) (n0 : Nat) (Z0 : n0 ≤ h0.size) (V_b : Arv Z h0 b kb .byte nn vs (.int 0)) (S_AD : Sta Z h0 own_s2 own_s3 "Z" (.int 1)) (S_HI : Sta Z h0 own_s2 "HI_BYTE_SHIFT" "I" (.int 0)) (S_LO : Sta Z h0 own_s2 "LO_BYTE_SHIFT" "I" (.int 8)) (hbc : own_ch c_) (hix : ix = Int32.ofNat i_) (h5 : i_ ≤ 5) (hl_ : Int32.ofNat (2 * i_ + 1) < nn) (hx_ : vs.getD (2 * i_) (.int 0) = .int (own_lo c_)) (hy_ : vs.getD (2 * i_ + 1) (.int 0) = .int (own_hi c_)) :
    MetFree l own_y17 (head1 (Jvm.Cond.code own_y17 jdk_52_method_5_code 2 (some .char) :: ws) ({ frames := 0, cells := 0, slots := 0, locals := 0 } : Room)) (fun argv U => argv = #[(.ref b), (.int ix)] ∧ Z.Warmed39 U.vm ∧ U.heap = h0) (fun _ _ _ _ _ => True) (fun _ U o U' => ∃ v L, o = .returned v ∧ own_Q21 Z b ix kb nn vs i_ c_ h0 n0 v U'.heap L ∧ FrameEnd U o U' L ({ frames := 0, cells := 0, slots := 0, locals := 0 } : Room).cells ({ frames := 0, cells := 0, slots := 0, locals := 0 } : Room).slots) := by
  refine MetFree.of_bodySF (plainFor_of_name own_pn2) hisR ?_
  intro p e s m args below meth c s₁ Bd hml0 hP hK
  obtain ⟨rfl, hZ, hh⟩ := hP
  have hx := Bd.exec
  have hby := Bd.bytes
  have hml : c.maxLocals = 2 := hml0
  have hown : s.vm.findClass own_s2 = some m.cls := findClass_of_methodNamed Bd.named
  have hnm := (name_of_methodNamed Bd.named Bd.method).1
  have X0 : Stand p l e ({ frames := 0, cells := 0, slots := 0, locals := 0 } : Room) s m #[(.ref b), (.int ix)] below meth c s₁ [] 0 0 := Stand.of_body Bd
  have e0 : s₁.heap = h0 := by rw [← hh, Bd.state]; rfl
  have N0 := Fr.nil n0
  have pre_ : own_G p e below (s₁.setTop (entryFrame m #[(.ref b), (.int ix)] 2)) s₁ m 0 #[rv b, iv ix] [] := fun t k => castTop (own_ef21 m b ix) k
  obtain ⟨s0, hs0⟩ : ∃ z, z = (s₁.setTop (entryFrame m #[(.ref b), (.int ix)] 2)) := ⟨_, rfl⟩
  have pre0 : own_G p e below s0 s₁ m 0 #[rv b, iv ix] [] := hs0 ▸ pre_
  rw [← hs0]
  obtain ⟨T1, X1, e1, st1⟩ := getS2 X0 hx hZ hown (host := "") (Or.inl (own_w hw 91 rfl)) Via.refl e0 S_AD (g := (mkF m 0 #[rv b, iv ix] [])) rfl (hb hby d21_0)
  have S2 : own_G p e below s0 T1 m 3 #[rv b, iv ix] [(.int 1)] := fun t kt => pre0 t (st1 _ kt)
  have hc3_3 : ¬ ((1 : Int32) = (0 : Int32)) := by decide
  have S5 : own_G p e below s0 T1 m 37 #[rv b, iv ((ix <<< ((1 : Int32) &&& 31)) + (1 : Int32))] [(.int (ix <<< ((1 : Int32) &&& 31))), (.ref b)] := fun t kt => by
    refine S2 t ?_
    refine w_ifYes X1 hx hby (pc' := 28) d21_3 ((if0 _ _).trans (feq hc3_3).2) (by decide) ?_
    refine w_iloadN X1 hx hby d21_28 rfl ?_
    refine w_iconst X1 hx hby d21_29 ?_
    refine XS.ishl X1.here hx rfl (hb hby d21_30) rfl ?_
    refine w_istoreN X1 hx hby d21_31 (l' := #[rv b, iv (ix <<< ((1 : Int32) &&& 31))]) rfl ?_
    refine w_aloadN X1 hx hby d21_32 rfl rfl ?_
    refine w_iloadN X1 hx hby d21_33 rfl ?_
    refine w_iinc X1 hx hby d21_34 rfl (l' := #[rv b, iv ((ix <<< ((1 : Int32) &&& 31)) + (1 : Int32))]) rfl ?_
    exact kt
  obtain ⟨cl4, Ar4, -, Sz4, Nn4, Hh4, -⟩ := id V_b
  have hin4 : ¬ ((ix <<< ((1 : Int32) &&& 31)) < 0 ∨ cl4.slots.size ≤ ((ix <<< ((1 : Int32) &&& 31))).toNatClampNeg) := inb_of Sz4 ⟨(own_Ix hix h5 hl_).1.1, (own_Ix hix h5 hl_).1.2.1⟩
  have S6 : own_G p e below s0 T1 m 42 #[rv b, iv ((ix <<< ((1 : Int32) &&& 31)) + (1 : Int32))] [(.int ((own_lo c_) &&& (255 : Int32)))] := fun t kt => by
    refine S5 t ?_
    refine X1.baloadBytes hx (j := (ix <<< ((1 : Int32) &&& 31))) (v := (.int (own_lo c_))) (by rw [e1]; exact Ar4.1) (State.isArrayOf_alike hZ.alike Ar4.2.1) Ar4.2.2 hin4 (Has.at Hh4 hin4 (by rw [(own_Ix hix h5 hl_).1.2.2]; exact hx_)) (g := (mkF m 37 #[rv b, iv ((ix <<< ((1 : Int32) &&& 31)) + (1 : Int32))] [(.int (ix <<< ((1 : Int32) &&& 31))), (.ref b)])) rfl rfl (hb hby d21_37) _ ?_
    refine w_sipush X1 hx hby d21_38 ?_
    refine w_iand X1 hx hby d21_41 ?_
    exact kt
  obtain ⟨T7, X7, e7, st7⟩ := getS2 X1 hx hZ hown (host := "") (Or.inl (own_w hw 92 rfl)) Via.refl e1 S_HI (g := (mkF m 42 #[rv b, iv ((ix <<< ((1 : Int32) &&& 31)) + (1 : Int32))] [(.int ((own_lo c_) &&& (255 : Int32)))])) rfl (hb hby d21_42)
  have S8 : own_G p e below s0 T7 m 45 #[rv b, iv ((ix <<< ((1 : Int32) &&& 31)) + (1 : Int32))] [(.int 0), (.int ((own_lo c_) &&& (255 : Int32)))] := fun t kt => S6 t (st7 _ kt)
  have S10 : own_G p e below s0 T7 m 48 #[rv b, iv ((ix <<< ((1 : Int32) &&& 31)) + (1 : Int32))] [(.int ((ix <<< ((1 : Int32) &&& 31)) + (1 : Int32))), (.ref b), (.int (((own_lo c_) &&& (255 : Int32)) <<< ((0 : Int32) &&& 31)))] := fun t kt => by
    refine S8 t ?_
    refine XS.ishl X7.here hx rfl (hb hby d21_45) rfl ?_
    refine w_aloadN X7 hx hby d21_46 rfl rfl ?_
    refine w_iloadN X7 hx hby d21_47 rfl ?_
    exact kt
  obtain ⟨cl9, Ar9, -, Sz9, Nn9, Hh9, -⟩ := id V_b
  have hin9 : ¬ (((ix <<< ((1 : Int32) &&& 31)) + (1 : Int32)) < 0 ∨ cl9.slots.size ≤ (((ix <<< ((1 : Int32) &&& 31)) + (1 : Int32))).toNatClampNeg) := inb_of Sz9 ⟨(own_Ix hix h5 hl_).2.1, (own_Ix hix h5 hl_).2.2.1⟩
  have S11 : own_G p e below s0 T7 m 53 #[rv b, iv ((ix <<< ((1 : Int32) &&& 31)) + (1 : Int32))] [(.int ((own_hi c_) &&& (255 : Int32))), (.int (((own_lo c_) &&& (255 : Int32)) <<< ((0 : Int32) &&& 31)))] := fun t kt => by
    refine S10 t ?_
    refine X7.baloadBytes hx (j := ((ix <<< ((1 : Int32) &&& 31)) + (1 : Int32))) (v := (.int (own_hi c_))) (by rw [e7]; exact Ar9.1) (State.isArrayOf_alike hZ.alike Ar9.2.1) Ar9.2.2 hin9 (Has.at Hh9 hin9 (by rw [(own_Ix hix h5 hl_).2.2.2]; exact hy_)) (g := (mkF m 48 #[rv b, iv ((ix <<< ((1 : Int32) &&& 31)) + (1 : Int32))] [(.int ((ix <<< ((1 : Int32) &&& 31)) + (1 : Int32))), (.ref b), (.int (((own_lo c_) &&& (255 : Int32)) <<< ((0 : Int32) &&& 31)))])) rfl rfl (hb hby d21_48) _ ?_
    refine w_sipush X7 hx hby d21_49 ?_
    refine w_iand X7 hx hby d21_52 ?_
    exact kt
  obtain ⟨T12, X12, e12, st12⟩ := getS2 X7 hx hZ hown (host := "") (Or.inl (own_w hw 93 rfl)) Via.refl e7 S_LO (g := (mkF m 53 #[rv b, iv ((ix <<< ((1 : Int32) &&& 31)) + (1 : Int32))] [(.int ((own_hi c_) &&& (255 : Int32))), (.int (((own_lo c_) &&& (255 : Int32)) <<< ((0 : Int32) &&& 31)))])) rfl (hb hby d21_53)
  have S13 : own_G p e below s0 T12 m 56 #[rv b, iv ((ix <<< ((1 : Int32) &&& 31)) + (1 : Int32))] [(.int 8), (.int ((own_hi c_) &&& (255 : Int32))), (.int (((own_lo c_) &&& (255 : Int32)) <<< ((0 : Int32) &&& 31)))] := fun t kt => S11 t (st12 _ kt)
  have S14 : own_G p e below s0 T12 m 59 #[rv b, iv ((ix <<< ((1 : Int32) &&& 31)) + (1 : Int32))] [(.int (((((own_lo c_) &&& (255 : Int32)) <<< ((0 : Int32) &&& 31)) ||| (((own_hi c_) &&& (255 : Int32)) <<< ((8 : Int32) &&& 31))).toUInt32.toUInt16.toUInt32.toInt32))] := fun t kt => by
    refine S13 t ?_
    refine XS.ishl X12.here hx rfl (hb hby d21_56) rfl ?_
    refine w_ior X12 hx hby d21_57 ?_
    refine XS.i2c X12.here hx rfl (hb hby d21_58) rfl ?_
    exact kt
  obtain ⟨fs, hr, hrun, hended, hW, hsame⟩ := X12.leave (v := some (.int (nar .char (((((own_lo c_) &&& (255 : Int32)) <<< ((0 : Int32) &&& 31)) ||| (((own_hi c_) &&& (255 : Int32)) <<< ((8 : Int32) &&& 31))).toUInt32.toUInt16.toUInt32.toInt32)))) (fun h => by rw [Bd.returns] at h; cases h)
  refine ⟨_, _, S14 _ ?_, hrun, hended, _, _, rfl, ?_, ⟨_, rfl⟩, hW, hsame.mono (by decide) (by decide)⟩
  · show Steps p.tables e below (T12.setTop (mkF m 59 #[rv b, iv ((ix <<< ((1 : Int32) &&& 31)) + (1 : Int32))] [(.int (((((own_lo c_) &&& (255 : Int32)) <<< ((0 : Int32) &&& 31)) ||| (((own_hi c_) &&& (255 : Int32)) <<< ((8 : Int32) &&& 31))).toUInt32.toUInt16.toUInt32.toInt32))])) _
    exact retN X12 hx (t := .char) Bd.returns (by simp) (hb hby d21_59) hr
  · show own_Q21 Z b ix kb nn vs i_ c_ h0 n0 _ T12.heap _
    rw [e12]
    exact ⟨(congrArg (fun z : Int32 => some (Value.int z)) (own_utfv hbc)), rfl, rfl⟩
theorem d20_0 : decode jdk_52_method_4_code 0 = .ok (.getstatic 44, 3) := by decide +kernel
theorem d20_3 : decode jdk_52_method_4_code 3 = .ok (.ifCond .ne 25, 3) := by decide +kernel
theorem d20_28 : decode jdk_52_method_4_code 28 = .ok (.iload_n 1, 1) := by decide +kernel
theorem d20_29 : decode jdk_52_method_4_code 29 = .ok (.iconst 1, 1) := by decide +kernel
theorem d20_30 : decode jdk_52_method_4_code 30 = .ok (.ishl, 1) := by decide +kernel
theorem d20_31 : decode jdk_52_method_4_code 31 = .ok (.istore_n 1, 1) := by decide +kernel
theorem d20_32 : decode jdk_52_method_4_code 32 = .ok (.aload_n 0, 1) := by decide +kernel
theorem d20_33 : decode jdk_52_method_4_code 33 = .ok (.iload_n 1, 1) := by decide +kernel
theorem d20_34 : decode jdk_52_method_4_code 34 = .ok (.iinc 1 1, 3) := by decide +kernel
theorem d20_37 : decode jdk_52_method_4_code 37 = .ok (.iload_n 2, 1) := by decide +kernel
theorem d20_38 : decode jdk_52_method_4_code 38 = .ok (.getstatic 59, 3) := by decide +kernel
theorem d20_41 : decode jdk_52_method_4_code 41 = .ok (.ishr, 1) := by decide +kernel
theorem d20_42 : decode jdk_52_method_4_code 42 = .ok (.i2b, 1) := by decide +kernel
theorem d20_43 : decode jdk_52_method_4_code 43 = .ok (.bastore, 1) := by decide +kernel
theorem d20_44 : decode jdk_52_method_4_code 44 = .ok (.aload_n 0, 1) := by decide +kernel
theorem d20_45 : decode jdk_52_method_4_code 45 = .ok (.iload_n 1, 1) := by decide +kernel
theorem d20_46 : decode jdk_52_method_4_code 46 = .ok (.iload_n 2, 1) := by decide +kernel
theorem d20_47 : decode jdk_52_method_4_code 47 = .ok (.getstatic 63, 3) := by decide +kernel
theorem d20_50 : decode jdk_52_method_4_code 50 = .ok (.ishr, 1) := by decide +kernel
theorem d20_51 : decode jdk_52_method_4_code 51 = .ok (.i2b, 1) := by decide +kernel
theorem d20_52 : decode jdk_52_method_4_code 52 = .ok (.bastore, 1) := by decide +kernel
theorem d20_53 : decode jdk_52_method_4_code 53 = .ok (.return_, 1) := by decide +kernel
theorem own_ef20 (m : MethodId) (x0 : Addr) (x1 : Int32) (x2 : Int32) : entryFrame m #[(.ref x0), (.int x1), (.int x2)] 3 = mkF m 0 #[rv x0, iv x1, iv x2] [] := by first | (simp [entryFrame, mkF, argsToLocals, Value.category]; done) | rfl
def own_Q20 (Z : State) (b : Addr) (ix : Int32) (c_ : Int32) (kb : ClassId) (nn : Int32) (vs : List Value) (i_ : Nat) (h0 : Heap) (n0 : Nat) (v : Option Value) (h : Heap) (L : List Loc) : Prop := v = none ∧ Fr n0 L ∧ Keep h0 h [b] ∧ Arv Z h b kb .byte nn ((vs.set (2 * i_) (.int (own_lo c_))).set (2 * i_ + 1) (.int (own_hi c_))) (.int 0)
set_option maxHeartbeats 40000000 in
theorem own_rm20 (l : Launch) (Z : State) (a0 : Array Value) (hw : ∀ d ∈ tables_1, d.before a0 Z = true) (ws : List Jvm.Cond) (b : Addr) (ix : Int32) (c_ : Int32) (kb : ClassId) (nn : Int32) (vs : List Value) (i_ : Nat) (h0 : Heap) (n0 : Nat) (Z0 : n0 ≤ h0.size) (V_b : Arv Z h0 b kb .byte nn vs (.int 0)) (g_b : n0 ≤ b) (S_AD : Sta Z h0 own_s2 own_s3 "Z" (.int 1)) (S_HI : Sta Z h0 own_s2 "HI_BYTE_SHIFT" "I" (.int 0)) (S_LO : Sta Z h0 own_s2 "LO_BYTE_SHIFT" "I" (.int 8)) (hix : ix = Int32.ofNat i_) (h5 : i_ ≤ 5) (hl_ : Int32.ofNat (2 * i_ + 1) < nn) (hv_ : 2 * i_ + 1 < vs.length) :
    MetFree l own_y15 (head1 (Jvm.Cond.code own_y15 jdk_52_method_4_code 3 none :: ws) ({ frames := 0, cells := 0, slots := 0, locals := 0 } : Room)) (fun argv U => argv = #[(.ref b), (.int ix), (.int c_)] ∧ Z.Warmed39 U.vm ∧ U.heap = h0) (fun _ _ _ _ _ => True) (fun _ U o U' => ∃ v L, o = .returned v ∧ own_Q20 Z b ix c_ kb nn vs i_ h0 n0 v U'.heap L ∧ FrameEnd U o U' L ({ frames := 0, cells := 0, slots := 0, locals := 0 } : Room).cells ({ frames := 0, cells := 0, slots := 0, locals := 0 } : Room).slots) := by
  refine MetFree.of_bodySF (plainFor_of_name own_pn2) hisR ?_
  intro p e s m args below meth c s₁ Bd hml0 hP hK
  obtain ⟨rfl, hZ, hh⟩ := hP
  have hx := Bd.exec
  have hby := Bd.bytes
  have hml : c.maxLocals = 3 := hml0
  have hown : s.vm.findClass own_s2 = some m.cls := findClass_of_methodNamed Bd.named
  have hnm := (name_of_methodNamed Bd.named Bd.method).1
  have X0 : Stand p l e ({ frames := 0, cells := 0, slots := 0, locals := 0 } : Room) s m #[(.ref b), (.int ix), (.int c_)] below meth c s₁ [] 0 0 := Stand.of_body Bd
  have e0 : s₁.heap = h0 := by rw [← hh, Bd.state]; rfl
  have N0 := Fr.nil n0
  have pre_ : own_G p e below (s₁.setTop (entryFrame m #[(.ref b), (.int ix), (.int c_)] 3)) s₁ m 0 #[rv b, iv ix, iv c_] [] := fun t k => castTop (own_ef20 m b ix c_) k
  obtain ⟨s0, hs0⟩ : ∃ z, z = (s₁.setTop (entryFrame m #[(.ref b), (.int ix), (.int c_)] 3)) := ⟨_, rfl⟩
  have pre0 : own_G p e below s0 s₁ m 0 #[rv b, iv ix, iv c_] [] := hs0 ▸ pre_
  rw [← hs0]
  obtain ⟨T1, X1, e1, st1⟩ := getS2 X0 hx hZ hown (host := "") (Or.inl (own_w hw 91 rfl)) Via.refl e0 S_AD (g := (mkF m 0 #[rv b, iv ix, iv c_] [])) rfl (hb hby d20_0)
  have S2 : own_G p e below s0 T1 m 3 #[rv b, iv ix, iv c_] [(.int 1)] := fun t kt => pre0 t (st1 _ kt)
  have hc3_3 : ¬ ((1 : Int32) = (0 : Int32)) := by decide
  have S4 : own_G p e below s0 T1 m 38 #[rv b, iv ((ix <<< ((1 : Int32) &&& 31)) + (1 : Int32)), iv c_] [(.int c_), (.int (ix <<< ((1 : Int32) &&& 31))), (.ref b)] := fun t kt => by
    refine S2 t ?_
    refine w_ifYes X1 hx hby (pc' := 28) d20_3 ((if0 _ _).trans (feq hc3_3).2) (by decide) ?_
    refine w_iloadN X1 hx hby d20_28 rfl ?_
    refine w_iconst X1 hx hby d20_29 ?_
    refine XS.ishl X1.here hx rfl (hb hby d20_30) rfl ?_
    refine w_istoreN X1 hx hby d20_31 (l' := #[rv b, iv (ix <<< ((1 : Int32) &&& 31)), iv c_]) rfl ?_
    refine w_aloadN X1 hx hby d20_32 rfl rfl ?_
    refine w_iloadN X1 hx hby d20_33 rfl ?_
    refine w_iinc X1 hx hby d20_34 rfl (l' := #[rv b, iv ((ix <<< ((1 : Int32) &&& 31)) + (1 : Int32)), iv c_]) rfl ?_
    refine w_iloadN X1 hx hby d20_37 rfl ?_
    exact kt
  obtain ⟨T5, X5, e5, st5⟩ := getS2 X1 hx hZ hown (host := "") (Or.inl (own_w hw 92 rfl)) Via.refl e1 S_HI (g := (mkF m 38 #[rv b, iv ((ix <<< ((1 : Int32) &&& 31)) + (1 : Int32)), iv c_] [(.int c_), (.int (ix <<< ((1 : Int32) &&& 31))), (.ref b)])) rfl (hb hby d20_38)
  have S6 : own_G p e below s0 T5 m 41 #[rv b, iv ((ix <<< ((1 : Int32) &&& 31)) + (1 : Int32)), iv c_] [(.int 0), (.int c_), (.int (ix <<< ((1 : Int32) &&& 31))), (.ref b)] := fun t kt => S4 t (st5 _ kt)
  have S7 : own_G p e below s0 T5 m 43 #[rv b, iv ((ix <<< ((1 : Int32) &&& 31)) + (1 : Int32)), iv c_] [(.int ((c_ >>> ((0 : Int32) &&& 31)).toInt8.toInt32)), (.int (ix <<< ((1 : Int32) &&& 31))), (.ref b)] := fun t kt => by
    refine S6 t ?_
    refine XS.ishr X5.here hx rfl (hb hby d20_41) rfl ?_
    refine XS.i2b X5.here hx rfl (hb hby d20_42) rfl ?_
    exact kt
  obtain ⟨cl8, Ar8, q8, Sz8, Nn8, Hh8, Gg8⟩ := id V_b
  have hin8 : ¬ ((ix <<< ((1 : Int32) &&& 31)) < 0 ∨ cl8.slots.size ≤ ((ix <<< ((1 : Int32) &&& 31))).toNatClampNeg) := inb_of Sz8 ⟨(own_Ix hix h5 hl_).1.1, (own_Ix hix h5 hl_).1.2.1⟩
  obtain ⟨T9, h9, X9, e9, W9, st9⟩ := stB X5 hx hZ e5 Ar8 (j := (ix <<< ((1 : Int32) &&& 31))) hin8 (g := (mkF m 43 #[rv b, iv ((ix <<< ((1 : Int32) &&& 31)) + (1 : Int32)), iv c_] [(.int ((c_ >>> ((0 : Int32) &&& 31)).toInt8.toInt32)), (.int (ix <<< ((1 : Int32) &&& 31))), (.ref b)])) rfl rfl (hb hby d20_43)
  have S10 : own_G p e below s0 T9 m 44 #[rv b, iv ((ix <<< ((1 : Int32) &&& 31)) + (1 : Int32)), iv c_] [] := fun t kt => S7 t (st9 _ kt)
  have V11 := Arv.set Ar8 q8 Sz8 Nn8 Hh8 Gg8 (fits_nar_byte _) W9 (2 * i_) (own_Ix hix h5 hl_).1.2.2 (by omega)
  have F12 := S_AD.wr W9
  have F13 := S_HI.wr W9
  have F14 := S_LO.wr W9
  have N15 := Fr.snoc X9 N0 g_b
  have K16 : Keep h0 h9 [b] := (Keep.refl h0 [b]).wr W9 (Or.inl (List.mem_of_getElem? (i := 0) rfl))
  have S17 : own_G p e below s0 T9 m 47 #[rv b, iv ((ix <<< ((1 : Int32) &&& 31)) + (1 : Int32)), iv c_] [(.int c_), (.int ((ix <<< ((1 : Int32) &&& 31)) + (1 : Int32))), (.ref b)] := fun t kt => by
    refine S10 t ?_
    refine w_aloadN X9 hx hby d20_44 rfl rfl ?_
    refine w_iloadN X9 hx hby d20_45 rfl ?_
    refine w_iloadN X9 hx hby d20_46 rfl ?_
    exact kt
  obtain ⟨T18, X18, e18, st18⟩ := getS2 X9 hx hZ hown (host := "") (Or.inl (own_w hw 93 rfl)) Via.refl e9 F14 (g := (mkF m 47 #[rv b, iv ((ix <<< ((1 : Int32) &&& 31)) + (1 : Int32)), iv c_] [(.int c_), (.int ((ix <<< ((1 : Int32) &&& 31)) + (1 : Int32))), (.ref b)])) rfl (hb hby d20_47)
  have S19 : own_G p e below s0 T18 m 50 #[rv b, iv ((ix <<< ((1 : Int32) &&& 31)) + (1 : Int32)), iv c_] [(.int 8), (.int c_), (.int ((ix <<< ((1 : Int32) &&& 31)) + (1 : Int32))), (.ref b)] := fun t kt => S17 t (st18 _ kt)
  have S20 : own_G p e below s0 T18 m 52 #[rv b, iv ((ix <<< ((1 : Int32) &&& 31)) + (1 : Int32)), iv c_] [(.int ((c_ >>> ((8 : Int32) &&& 31)).toInt8.toInt32)), (.int ((ix <<< ((1 : Int32) &&& 31)) + (1 : Int32))), (.ref b)] := fun t kt => by
    refine S19 t ?_
    refine XS.ishr X18.here hx rfl (hb hby d20_50) rfl ?_
    refine XS.i2b X18.here hx rfl (hb hby d20_51) rfl ?_
    exact kt
  obtain ⟨cl21, Ar21, q21, Sz21, Nn21, Hh21, Gg21⟩ := id V11
  have hin21 : ¬ (((ix <<< ((1 : Int32) &&& 31)) + (1 : Int32)) < 0 ∨ cl21.slots.size ≤ (((ix <<< ((1 : Int32) &&& 31)) + (1 : Int32))).toNatClampNeg) := inb_of Sz21 ⟨(own_Ix hix h5 hl_).2.1, (own_Ix hix h5 hl_).2.2.1⟩
  obtain ⟨T22, h22, X22, e22, W22, st22⟩ := stB X18 hx hZ e18 Ar21 (j := ((ix <<< ((1 : Int32) &&& 31)) + (1 : Int32))) hin21 (g := (mkF m 52 #[rv b, iv ((ix <<< ((1 : Int32) &&& 31)) + (1 : Int32)), iv c_] [(.int ((c_ >>> ((8 : Int32) &&& 31)).toInt8.toInt32)), (.int ((ix <<< ((1 : Int32) &&& 31)) + (1 : Int32))), (.ref b)])) rfl rfl (hb hby d20_52)
  have S23 : own_G p e below s0 T22 m 53 #[rv b, iv ((ix <<< ((1 : Int32) &&& 31)) + (1 : Int32)), iv c_] [] := fun t kt => S20 t (st22 _ kt)
  have V24 := Arv.set Ar21 q21 Sz21 Nn21 Hh21 Gg21 (fits_nar_byte _) W22 (2 * i_ + 1) (own_Ix hix h5 hl_).2.2.2 (by rw [List.length_set]; exact hv_)
  have F25 := F12.wr W22
  have F26 := F13.wr W22
  have F27 := F14.wr W22
  have N28 := Fr.snoc X22 N15 g_b
  have K29 : Keep h0 h22 [b] := K16.wr W22 (Or.inl (List.mem_of_getElem? (i := 0) rfl))
  obtain ⟨fs, hr, hrun, hended, hW, hsame⟩ := X22.leave (v := none) (fun _ => rfl)
  refine ⟨_, _, S23 _ ?_, hrun, hended, _, _, rfl, ?_, ⟨_, rfl⟩, hW, hsame.mono (by decide) (by decide)⟩
  · show Steps p.tables e below (T22.setTop (mkF m 53 #[rv b, iv ((ix <<< ((1 : Int32) &&& 31)) + (1 : Int32)), iv c_] [])) _
    exact X22.returnOut hx Bd.returns (hb hby d20_53) hr
  · show own_Q20 Z b ix c_ kb nn vs i_ h0 n0 _ T22.heap _
    rw [e22]
    exact ⟨rfl, N28, K29, (by have q : Arv Z h22 b kb .byte nn ((vs.set (2 * i_) (.int (nar .byte ((c_ >>> ((0 : Int32) &&& 31)).toInt8.toInt32)))).set (2 * i_ + 1) (.int (nar .byte ((c_ >>> ((8 : Int32) &&& 31)).toInt8.toInt32)))) (.int 0) := V24; rw [own_nlo, own_nhi] at q; exact q)⟩
theorem d19_0 : decode jdk_52_method_3_code 0 = .ok (.iload_n 0, 1) := by decide +kernel
theorem d19_1 : decode jdk_52_method_3_code 1 = .ok (.ifCond .ge 11, 3) := by decide +kernel
theorem d19_12 : decode jdk_52_method_3_code 12 = .ok (.iload_n 0, 1) := by decide +kernel
theorem d19_13 : decode jdk_52_method_3_code 13 = .ok (.ldc 20, 2) := by decide +kernel
theorem d19_15 : decode jdk_52_method_3_code 15 = .ok (.if_icmp .lt 40, 3) := by decide +kernel
theorem d19_55 : decode jdk_52_method_3_code 55 = .ok (.iload_n 0, 1) := by decide +kernel
theorem d19_56 : decode jdk_52_method_3_code 56 = .ok (.iconst 1, 1) := by decide +kernel
theorem d19_57 : decode jdk_52_method_3_code 57 = .ok (.ishl, 1) := by decide +kernel
theorem d19_58 : decode jdk_52_method_3_code 58 = .ok (.ireturn, 1) := by decide +kernel
theorem own_ef19k5 (m : MethodId) (x0 : Int32) : entryFrame m #[(.int x0)] 1 = mkF m 0 #[iv x0] [] := by first | (simp [entryFrame, mkF, argsToLocals, Value.category]; done) | rfl
def own_Q19k5 (Z : State)  (h0 : Heap) (n0 : Nat) (v : Option Value) (h : Heap) (L : List Loc) : Prop := v = some (.int 10) ∧ L = [] ∧ h = h0
set_option maxHeartbeats 40000000 in
theorem own_rm19k5 (l : Launch) (Z : State) (a0 : Array Value) (hw : ∀ d ∈ tables_1, d.before a0 Z = true) (ws : List Jvm.Cond)  (h0 : Heap) (n0 : Nat) (Z0 : n0 ≤ h0.size) :
    MetFree l own_y10 (head1 (Jvm.Cond.code own_y10 jdk_52_method_3_code 1 (some .int) :: ws) ({ frames := 0, cells := 0, slots := 0, locals := 0 } : Room)) (fun argv U => argv = #[(.int 5)] ∧ Z.Warmed39 U.vm ∧ U.heap = h0) (fun _ _ _ _ _ => True) (fun _ U o U' => ∃ v L, o = .returned v ∧ own_Q19k5 Z  h0 n0 v U'.heap L ∧ FrameEnd U o U' L ({ frames := 0, cells := 0, slots := 0, locals := 0 } : Room).cells ({ frames := 0, cells := 0, slots := 0, locals := 0 } : Room).slots) := by
  refine MetFree.of_bodySF (plainFor_of_name own_pn2) hisR ?_
  intro p e s m args below meth c s₁ Bd hml0 hP hK
  obtain ⟨rfl, hZ, hh⟩ := hP
  have hx := Bd.exec
  have hby := Bd.bytes
  have hml : c.maxLocals = 1 := hml0
  have hown : s.vm.findClass own_s2 = some m.cls := findClass_of_methodNamed Bd.named
  have hnm := (name_of_methodNamed Bd.named Bd.method).1
  have X0 : Stand p l e ({ frames := 0, cells := 0, slots := 0, locals := 0 } : Room) s m #[(.int 5)] below meth c s₁ [] 0 0 := Stand.of_body Bd
  have e0 : s₁.heap = h0 := by rw [← hh, Bd.state]; rfl
  have N0 := Fr.nil n0
  have pre_ : own_G p e below (s₁.setTop (entryFrame m #[(.int 5)] 1)) s₁ m 0 #[iv 5] [] := fun t k => castTop (own_ef19k5 m (5 : Int32)) k
  obtain ⟨s0, hs0⟩ : ∃ z, z = (s₁.setTop (entryFrame m #[(.int 5)] 1)) := ⟨_, rfl⟩
  have pre0 : own_G p e below s0 s₁ m 0 #[iv 5] [] := hs0 ▸ pre_
  rw [← hs0]
  have S1 : own_G p e below s0 s₁ m 1 #[iv 5] [(.int 5)] := fun t kt => by
    refine pre0 t ?_
    refine w_iloadN X0 hx hby d19_0 rfl ?_
    exact kt
  have hc1_2 : ¬ ((5 : Int32) < (0 : Int32)) := by decide
  have S3 : own_G p e below s0 s₁ m 15 #[iv 5] [(.int 1073741823), (.int 5)] := fun t kt => by
    refine S1 t ?_
    refine w_ifYes X0 hx hby (pc' := 12) d19_1 ((if0 _ _).trans (flt hc1_2).2.1) (by decide) ?_
    refine w_iloadN X0 hx hby d19_12 rfl ?_
    refine X0.ldcInt hx hown (mvT hZ (own_w hw 87 rfl)) (g := (mkF m 13 #[iv 5] [(.int 5)])) rfl (hb hby d19_13) _ ?_
    exact kt
  have hc15_4 : (5 : Int32) < (1073741823 : Int32) := by decide
  have S5 : own_G p e below s0 s₁ m 58 #[iv 5] [(.int 10)] := fun t kt => by
    refine S3 t ?_
    refine w_icmpYes X0 hx hby (pc' := 55) d19_15 (tlt hc15_4).1 (by decide) ?_
    refine w_iloadN X0 hx hby d19_55 rfl ?_
    refine w_iconst X0 hx hby d19_56 ?_
    refine XS.ishl X0.here hx rfl (hb hby d19_57) rfl ?_
    exact kt
  obtain ⟨fs, hr, hrun, hended, hW, hsame⟩ := X0.leave (v := some (.int 10)) (fun h => by rw [Bd.returns] at h; cases h)
  refine ⟨_, _, S5 _ ?_, hrun, hended, _, _, rfl, ?_, ⟨_, rfl⟩, hW, hsame.mono (by decide) (by decide)⟩
  · show Steps p.tables e below (s₁.setTop (mkF m 58 #[iv 5] [(.int 10)])) _
    exact own_retI X0 hx Bd.returns (hb hby d19_58) hr
  · show own_Q19k5 Z  h0 n0 _ s₁.heap _
    rw [e0]
    exact ⟨rfl, rfl, rfl⟩
theorem own_pd3 : parseMethodDescriptor "(I)I" = some ⟨[.int], some .int⟩ := by decide +kernel
theorem d18_0 : decode jdk_52_method_2_code 0 = .ok (.iload_n 0, 1) := by decide +kernel
theorem d18_1 : decode jdk_52_method_2_code 1 = .ok (.invokestatic 11, 3) := by decide +kernel
theorem d18_4 : decode jdk_52_method_2_code 4 = .ok (.newarray .byte, 2) := by decide +kernel
theorem d18_6 : decode jdk_52_method_2_code 6 = .ok (.areturn, 1) := by decide +kernel
theorem own_ef18k5 (m : MethodId) (x0 : Int32) : entryFrame m #[(.int x0)] 1 = mkF m 0 #[iv x0] [] := by first | (simp [entryFrame, mkF, argsToLocals, Value.category]; done) | rfl
def own_Q18k5 (Z : State)  (h0 : Heap) (n0 : Nat) (v : Option Value) (h : Heap) (L : List Loc) : Prop := ∃ (tb : Addr) (kt : ClassId), v = some (.ref tb) ∧ Fr n0 L ∧ n0 ≤ tb ∧ h0.size ≤ tb ∧ Keep h0 h [] ∧ Arv Z h tb kt .byte (10 : Int32) [(.int 0), (.int 0), (.int 0), (.int 0), (.int 0), (.int 0), (.int 0), (.int 0), (.int 0), (.int 0)] (.int 0)
set_option maxHeartbeats 40000000 in
theorem own_rm18k5 (l : Launch) (Z : State) (a0 : Array Value) (hw : ∀ d ∈ tables_1, d.before a0 Z = true) (ws : List Jvm.Cond)  (h0 : Heap) (n0 : Nat) (Z0 : n0 ≤ h0.size) :
    MetFree l own_y13 (head1 (Jvm.Cond.code own_y13 jdk_52_method_2_code 1 (some (.array .byte)) :: ws) ({ frames := 1, cells := 1, slots := 10, locals := 12 } : Room)) (fun argv U => argv = #[(.int 5)] ∧ Z.Warmed39 U.vm ∧ U.heap = h0) (fun _ _ _ _ _ => True) (fun _ U o U' => ∃ v L, o = .returned v ∧ own_Q18k5 Z  h0 n0 v U'.heap L ∧ FrameEnd U o U' L ({ frames := 1, cells := 1, slots := 10, locals := 12 } : Room).cells ({ frames := 1, cells := 1, slots := 10, locals := 12 } : Room).slots) := by
  refine MetFree.of_bodySF (plainFor_of_name own_pn2) hisR ?_
  intro p e s m args below meth c s₁ Bd hml0 hP hK
  obtain ⟨rfl, hZ, hh⟩ := hP
  have hx := Bd.exec
  have hby := Bd.bytes
  have hml : c.maxLocals = 1 := hml0
  have hown : s.vm.findClass own_s2 = some m.cls := findClass_of_methodNamed Bd.named
  have hnm := (name_of_methodNamed Bd.named Bd.method).1
  have X0 : Stand p l e ({ frames := 1, cells := 1, slots := 10, locals := 12 } : Room) s m #[(.int 5)] below meth c s₁ [] 0 0 := Stand.of_body Bd
  have e0 : s₁.heap = h0 := by rw [← hh, Bd.state]; rfl
  have N0 := Fr.nil n0
  have pre_ : own_G p e below (s₁.setTop (entryFrame m #[(.int 5)] 1)) s₁ m 0 #[iv 5] [] := fun t k => castTop (own_ef18k5 m (5 : Int32)) k
  obtain ⟨s0, hs0⟩ : ∃ z, z = (s₁.setTop (entryFrame m #[(.int 5)] 1)) := ⟨_, rfl⟩
  have pre0 : own_G p e below s0 s₁ m 0 #[iv 5] [] := hs0 ▸ pre_
  rw [← hs0]
  have S2 : own_G p e below s0 s₁ m 1 #[iv 5] [(.int 5)] := fun t kt => by
    refine pre0 t ?_
    refine w_iloadN X0 hx hby d18_0 rfl ?_
    exact kt
  obtain ⟨_, _, ⟨T3, L3, k3, n3⟩, -, X3, ⟨Lc3, hQ3, l3, y3, z3⟩, st3⟩ := Jvm.LawKit.callS X0 hx (y := own_y10) hown (mvT hZ (own_w hw 84 rfl)) (mvT hZ (own_w hw 85 rfl)) (mvT hZ (own_w hw 47 rfl)) (mvT hZ (own_w hw 86 rfl)) (by decide) (backOf (W := 0) (own_rm19k5 l Z a0 hw []  h0 n0 Z0 ) hZ (own_w hw 86 rfl) (own_w hw 47 rfl) (by decide) (by decide)) (g := (mkF m 1 #[iv 5] [(.int 5)])) rfl (by rw [hml]; rfl) (argsL := [(.int 5)]) (rest := []) (lenOf own_pd3 rfl) rfl (by show 2 * 0 + _ ≤ _; exact Nat.le_of_eq rfl) (hb hby d18_1) (fun _ _ => ⟨rfl, e0, (by decide : 0 + 0 ≤ _), (by decide : 0 + 0 ≤ _)⟩)
  dsimp only [Pt.U, Pt.locs, Pt.cells, Pt.slots] at X3 l3 y3 z3 st3 hQ3
  subst l3 y3 z3
  obtain ⟨rfl, rfl, eq1⟩ := hQ3
  try rw [List.append_nil] at X3
  have S4 : own_G p e below s0 T3 m 4 #[iv 5] [(.int 10)] := fun t kt => S2 t (st3 _ kt)
  obtain ⟨T5, h5, k5, X5, e5, E5, A5, st5⟩ := newP X3 hx hZ (own_w hw 23 rfl) eq1 (g := (mkF m 4 #[iv 5] [(.int 10)])) rfl (hb hby d18_4) rfl (by decide) (cap := 10) (by decide) (by decide) (by decide) (by decide)
  obtain ⟨b5, g5⟩ : ∃ z, z = h0.size := ⟨_, rfl⟩
  rw [← g5] at A5 st5
  have S6 : own_G p e below s0 T5 m 6 #[iv 5] [(.ref b5)] := fun t kt => S4 t (st5 _ kt)
  have g_b5 : n0 ≤ b5 := Nat.le_trans Z0 (Nat.le_of_eq g5.symm)
  have sz_b5 : h0.size ≤ b5 := Nat.le_trans (Keep.refl h0 []).1 (Nat.le_of_eq g5.symm)
  have K7 : Keep h0 h5 [] := (Keep.refl h0 []).ext E5
  have V8 : Arv Z h5 b5 k5 .byte (10 : Int32) [(.int 0), (.int 0), (.int 0), (.int 0), (.int 0), (.int 0), (.int 0), (.int 0), (.int 0), (.int 0)] (.int 0) := (Arv.new A5 (by decide)).pad (pad_rep [] (.int 0) 10)
  obtain ⟨fs, hr, hrun, hended, hW, hsame⟩ := X5.leave (v := some (.ref b5)) (fun h => by rw [Bd.returns] at h; cases h)
  refine ⟨_, _, S6 _ ?_, hrun, hended, _, _, rfl, ?_, ⟨_, rfl⟩, hW, hsame.mono (by decide) (by decide)⟩
  · show Steps p.tables e below (T5.setTop (mkF m 6 #[iv 5] [(.ref b5)])) _
    jvm_step X5.here [X5.here.top, hx, (hb hby d18_6), X5.method', Bd.returns, Value.isRef, FieldType.isReference]
    first | (intro acts; rw [hr _ acts rfl rfl rfl]) | rw [hr _ _ rfl rfl rfl]
    exact Steps.refl _
  · show own_Q18k5 Z  h0 n0 _ T5.heap _
    rw [e5]
    exact ⟨b5, k5, rfl, N0, g_b5, sz_b5, K7, V8⟩
theorem own_pd4 : parseMethodDescriptor "(I)[B" = some ⟨[.int], some (.array .byte)⟩ := by decide +kernel
theorem own_pd5 : parseMethodDescriptor "([BII)V" = some ⟨[(.array .byte), .int, .int], none⟩ := by decide +kernel
theorem d17_0 : decode jdk_52_method_14_code 0 = .ok (.iload_n 2, 1) := by decide +kernel
theorem d17_1 : decode jdk_52_method_14_code 1 = .ok (.invokestatic 107, 3) := by decide +kernel
theorem d17_4 : decode jdk_52_method_14_code 4 = .ok (.astore_n 3, 1) := by decide +kernel
theorem d17_5 : decode jdk_52_method_14_code 5 = .ok (.iconst 0, 1) := by decide +kernel
theorem d17_6 : decode jdk_52_method_14_code 6 = .ok (.istore 4, 2) := by decide +kernel
theorem d17_8 : decode jdk_52_method_14_code 8 = .ok (.iload 4, 2) := by decide +kernel
theorem d17_10 : decode jdk_52_method_14_code 10 = .ok (.iload_n 2, 1) := by decide +kernel
theorem d17_11 : decode jdk_52_method_14_code 11 = .ok (.if_icmp .ge 21, 3) := by decide +kernel
theorem d17_14 : decode jdk_52_method_14_code 14 = .ok (.aload_n 3, 1) := by decide +kernel
theorem d17_15 : decode jdk_52_method_14_code 15 = .ok (.iload 4, 2) := by decide +kernel
theorem d17_17 : decode jdk_52_method_14_code 17 = .ok (.aload_n 0, 1) := by decide +kernel
theorem d17_18 : decode jdk_52_method_14_code 18 = .ok (.iload_n 1, 1) := by decide +kernel
theorem d17_19 : decode jdk_52_method_14_code 19 = .ok (.caload, 1) := by decide +kernel
theorem d17_20 : decode jdk_52_method_14_code 20 = .ok (.invokestatic 111, 3) := by decide +kernel
theorem d17_23 : decode jdk_52_method_14_code 23 = .ok (.iinc 1 1, 3) := by decide +kernel
theorem d17_26 : decode jdk_52_method_14_code 26 = .ok (.iinc 4 1, 3) := by decide +kernel
theorem d17_29 : decode jdk_52_method_14_code 29 = .ok (.goto (-21), 3) := by decide +kernel
theorem d17_32 : decode jdk_52_method_14_code 32 = .ok (.aload_n 3, 1) := by decide +kernel
theorem d17_33 : decode jdk_52_method_14_code 33 = .ok (.areturn, 1) := by decide +kernel
theorem own_ef17k5 (m : MethodId) (x0 : Addr) (x1 : Int32) (x2 : Int32) : entryFrame m #[(.ref x0), (.int x1), (.int x2)] 5 = mkF m 0 #[rv x0, iv x1, iv x2, .unset, .unset] [] := by first | (simp [entryFrame, mkF, argsToLocals, Value.category]; done) | rfl
def own_Q17k5 (Z : State) (b : Addr) (c0 : Int32) (c1 : Int32) (c2 : Int32) (c3 : Int32) (c4 : Int32) (kb : ClassId) (h0 : Heap) (n0 : Nat) (v : Option Value) (h : Heap) (L : List Loc) : Prop := ∃ (tb : Addr) (kt : ClassId), v = some (.ref tb) ∧ Fr n0 L ∧ n0 ≤ tb ∧ h0.size ≤ tb ∧ Keep h0 h [] ∧ Arv Z h tb kt .byte (10 : Int32) [(.int (own_lo c0)), (.int (own_hi c0)), (.int (own_lo c1)), (.int (own_hi c1)), (.int (own_lo c2)), (.int (own_hi c2)), (.int (own_lo c3)), (.int (own_hi c3)), (.int (own_lo c4)), (.int (own_hi c4))] (.int 0)
set_option maxHeartbeats 40000000 in
theorem own_rm17k5 (l : Launch) (Z : State) (a0 : Array Value) (hw : ∀ d ∈ tables_1, d.before a0 Z = true) (ws : List Jvm.Cond) (b : Addr) (c0 : Int32) (c1 : Int32) (c2 : Int32) (c3 : Int32) (c4 : Int32) (kb : ClassId) (h0 : Heap) (n0 : Nat) (Z0 : n0 ≤ h0.size) (V_b : Arv Z h0 b kb .char (5 : Int32) [(.int c0), (.int c1), (.int c2), (.int c3), (.int c4)] (.int 0)) (S_AD : Sta Z h0 own_s2 own_s3 "Z" (.int 1)) (S_HI : Sta Z h0 own_s2 "HI_BYTE_SHIFT" "I" (.int 0)) (S_LO : Sta Z h0 own_s2 "LO_BYTE_SHIFT" "I" (.int 8)) :
    MetFree l own_y14 (head1 (Jvm.Cond.code own_y14 jdk_52_method_14_code 5 (some (.array .byte)) :: ws) ({ frames := 2, cells := 1, slots := 10, locals := 24 } : Room)) (fun argv U => argv = #[(.ref b), (.int 0), (.int 5)] ∧ Z.Warmed39 U.vm ∧ U.heap = h0) (fun _ _ _ _ _ => True) (fun _ U o U' => ∃ v L, o = .returned v ∧ own_Q17k5 Z b c0 c1 c2 c3 c4 kb h0 n0 v U'.heap L ∧ FrameEnd U o U' L ({ frames := 2, cells := 1, slots := 10, locals := 24 } : Room).cells ({ frames := 2, cells := 1, slots := 10, locals := 24 } : Room).slots) := by
  refine MetFree.of_bodySF (plainFor_of_name own_pn2) hisR ?_
  intro p e s m args below meth c s₁ Bd hml0 hP hK
  obtain ⟨rfl, hZ, hh⟩ := hP
  have hx := Bd.exec
  have hby := Bd.bytes
  have hml : c.maxLocals = 5 := hml0
  have hown : s.vm.findClass own_s2 = some m.cls := findClass_of_methodNamed Bd.named
  have hnm := (name_of_methodNamed Bd.named Bd.method).1
  have X0 : Stand p l e ({ frames := 2, cells := 1, slots := 10, locals := 24 } : Room) s m #[(.ref b), (.int 0), (.int 5)] below meth c s₁ [] 0 0 := Stand.of_body Bd
  have e0 : s₁.heap = h0 := by rw [← hh, Bd.state]; rfl
  have N0 := Fr.nil n0
  have pre_ : own_G p e below (s₁.setTop (entryFrame m #[(.ref b), (.int 0), (.int 5)] 5)) s₁ m 0 #[rv b, iv 0, iv 5, .unset, .unset] [] := fun t k => castTop (own_ef17k5 m b (0 : Int32) (5 : Int32)) k
  obtain ⟨s0, hs0⟩ : ∃ z, z = (s₁.setTop (entryFrame m #[(.ref b), (.int 0), (.int 5)] 5)) := ⟨_, rfl⟩
  have pre0 : own_G p e below s0 s₁ m 0 #[rv b, iv 0, iv 5, .unset, .unset] [] := hs0 ▸ pre_
  rw [← hs0]
  have S3 : own_G p e below s0 s₁ m 1 #[rv b, iv 0, iv 5, .unset, .unset] [(.int 5)] := fun t kt => by
    refine pre0 t ?_
    refine w_iloadN X0 hx hby d17_0 rfl ?_
    exact kt
  obtain ⟨_, _, ⟨T4, L4, k4, n4⟩, -, X4, ⟨Lc4, hQ4, l4, y4, z4⟩, st4⟩ := Jvm.LawKit.callS X0 hx (y := own_y13) hown (mvT hZ (own_w hw 81 rfl)) (mvT hZ (own_w hw 82 rfl)) (mvT hZ (own_w hw 47 rfl)) (mvT hZ (own_w hw 83 rfl)) (by decide) (backOf (W := 0) (own_rm18k5 l Z a0 hw []  h0 n0 Z0 ) hZ (own_w hw 83 rfl) (own_w hw 47 rfl) (by decide) (by decide)) (g := (mkF m 1 #[rv b, iv 0, iv 5, .unset, .unset] [(.int 5)])) rfl (by rw [hml]; rfl) (argsL := [(.int 5)]) (rest := []) (lenOf own_pd4 rfl) rfl (by show 2 * 0 + _ ≤ _; exact Nat.le_of_eq rfl) (hb hby d17_1) (fun _ _ => ⟨rfl, e0, (by decide : 0 + 1 ≤ _), (by decide : 0 + 10 ≤ _)⟩)
  dsimp only [Pt.U, Pt.locs, Pt.cells, Pt.slots] at X4 l4 y4 z4 st4 hQ4
  subst l4 y4 z4
  obtain ⟨tb1, kt1, rfl, Nq4, gt1, sz1, Kc1, Vc1⟩ := hQ4
  have N5 := Fr.app N0 Nq4
  have S6 : own_G p e below s0 T4 m 4 #[rv b, iv 0, iv 5, .unset, .unset] [(.ref tb1)] := fun t kt => S3 t (st4 _ kt)
  have F7 := V_b.keep Kc1 nin0
  have F8 := own_StaK S_AD Kc1 all0
  have F9 := own_StaK S_HI Kc1 all0
  have F10 := own_StaK S_LO Kc1 all0
  have K11 : Keep h0 T4.heap [] := (Keep.refl h0 []).trans Kc1 all0
  have ne_b_tb1 : b ≠ tb1 := Nat.ne_of_lt (Nat.lt_of_lt_of_le V_b.lt sz1)
  have S12 : own_G p e below s0 T4 m 11 #[rv b, iv 0, iv 5, rv tb1, iv 0] [(.int 5), (.int 0)] := fun t kt => by
    refine S6 t ?_
    refine w_astoreN X4 hx hby d17_4 rfl (l' := #[rv b, iv 0, iv 5, rv tb1, .unset]) rfl ?_
    refine w_iconst X4 hx hby d17_5 ?_
    refine w_istore X4 hx hby d17_6 (l' := #[rv b, iv 0, iv 5, rv tb1, iv 0]) rfl ?_
    refine w_iload X4 hx hby d17_8 rfl ?_
    refine w_iloadN X4 hx hby d17_10 rfl ?_
    exact kt
  have hc11_13 : (0 : Int32) < (5 : Int32) := by decide
  have S15 : own_G p e below s0 T4 m 19 #[rv b, iv 0, iv 5, rv tb1, iv 0] [(.int 0), (.ref b), (.int 0), (.ref tb1)] := fun t kt => by
    refine S12 t ?_
    refine w_icmpNo X4 hx hby d17_11 (tlt hc11_13).2.1 ?_
    refine w_aloadN X4 hx hby d17_14 rfl rfl ?_
    refine w_iload X4 hx hby d17_15 rfl ?_
    refine w_aloadN X4 hx hby d17_17 rfl rfl ?_
    refine w_iloadN X4 hx hby d17_18 rfl ?_
    exact kt
  obtain ⟨cl14, Ar14, -, Sz14, Nn14, Hh14, -⟩ := id F7
  have hin14 : ¬ ((0 : Int32) < 0 ∨ cl14.slots.size ≤ ((0 : Int32)).toNatClampNeg) := inb_of Sz14 ⟨by decide, by decide⟩
  have S18 : own_G p e below s0 T4 m 20 #[rv b, iv 0, iv 5, rv tb1, iv 0] [(.int c0), (.int 0), (.ref tb1)] := fun t kt => by
    refine S15 t ?_
    refine X4.caload hx (j := (0 : Int32)) (v := (.int c0)) Ar14.1 (State.isArrayOf_alike hZ.alike Ar14.2.1) Ar14.2.2 hin14 (Has.at Hh14 hin14 rfl) (g := (mkF m 19 #[rv b, iv 0, iv 5, rv tb1, iv 0] [(.int 0), (.ref b), (.int 0), (.ref tb1)])) rfl rfl (hb hby d17_19) _ ?_
    exact kt
  obtain ⟨_, _, ⟨T19, L19, k19, n19⟩, -, X19, ⟨Lc19, hQ19, l19, y19, z19⟩, st19⟩ := Jvm.LawKit.callS X4 hx (y := own_y15) hown (mvT hZ (own_w hw 88 rfl)) (mvT hZ (own_w hw 89 rfl)) (mvT hZ (own_w hw 47 rfl)) (mvT hZ (own_w hw 90 rfl)) (by decide) (backOf (W := 0) (own_rm20 l Z a0 hw [] (tb1) ((0 : Int32)) (c0) (kt1) ((10 : Int32)) ([(.int 0), (.int 0), (.int 0), (.int 0), (.int 0), (.int 0), (.int 0), (.int 0), (.int 0), (.int 0)]) (0) T4.heap n0 (Nat.le_trans Z0 K11.1) Vc1 gt1 F8 F9 F10 rfl (by decide) (by decide) (Nat.le_of_ble_eq_true rfl)) hZ (own_w hw 90 rfl) (own_w hw 47 rfl) (by decide) (by decide)) (g := (mkF m 20 #[rv b, iv 0, iv 5, rv tb1, iv 0] [(.int c0), (.int 0), (.ref tb1)])) rfl (by rw [hml]; rfl) (argsL := [(.ref tb1), (.int 0), (.int c0)]) (rest := []) (lenOf own_pd5 rfl) rfl (by show 2 * 0 + _ ≤ _; exact Nat.le_of_eq rfl) (hb hby d17_20) (fun _ _ => ⟨rfl, rfl, (by decide : 1 + 0 ≤ _), (by decide : 10 + 0 ≤ _)⟩)
  dsimp only [Pt.U, Pt.locs, Pt.cells, Pt.slots] at X19 l19 y19 z19 st19 hQ19
  subst l19 y19 z19
  obtain ⟨rfl, Nq19, Kc16, Vc16⟩ := hQ19
  have N20 := Fr.app N5 Nq19
  have S21 : own_G p e below s0 T19 m 23 #[rv b, iv 0, iv 5, rv tb1, iv 0] [] := fun t kt => S18 t (st19 _ kt)
  have F22 := F7.keep Kc16 (ninS ne_b_tb1 nin0)
  have F23 := own_StaK F8 Kc16 (allS (own_ArvS Vc1) all0)
  have F24 := own_StaK F9 Kc16 (allS (own_ArvS Vc1) all0)
  have F25 := own_StaK F10 Kc16 (allS (own_ArvS Vc1) all0)
  have K26 : Keep h0 T19.heap [] := K11.trans Kc16 (allS (Or.inr (Nat.le_trans (Keep.refl h0 []).1 sz1)) all0)
  have Vd16 : Arv Z T19.heap tb1 kt1 .byte (10 : Int32) [(.int (own_lo c0)), (.int (own_hi c0)), (.int 0), (.int 0), (.int 0), (.int 0), (.int 0), (.int 0), (.int 0), (.int 0)] (.int 0) := Vc16
  have S27 : own_G p e below s0 T19 m 11 #[rv b, iv 1, iv 5, rv tb1, iv 1] [(.int 5), (.int 1)] := fun t kt => by
    refine S21 t ?_
    refine w_iinc X19 hx hby d17_23 rfl (l' := #[rv b, iv 1, iv 5, rv tb1, iv 0]) rfl ?_
    refine w_iinc X19 hx hby d17_26 rfl (l' := #[rv b, iv 1, iv 5, rv tb1, iv 1]) rfl ?_
    refine w_goto X19 hx hby (pc' := 8) d17_29 (by decide) ?_
    refine w_iload X19 hx hby d17_8 rfl ?_
    refine w_iloadN X19 hx hby d17_10 rfl ?_
    exact kt
  have hc11_28 : (1 : Int32) < (5 : Int32) := by decide
  have S30 : own_G p e below s0 T19 m 19 #[rv b, iv 1, iv 5, rv tb1, iv 1] [(.int 1), (.ref b), (.int 1), (.ref tb1)] := fun t kt => by
    refine S27 t ?_
    refine w_icmpNo X19 hx hby d17_11 (tlt hc11_28).2.1 ?_
    refine w_aloadN X19 hx hby d17_14 rfl rfl ?_
    refine w_iload X19 hx hby d17_15 rfl ?_
    refine w_aloadN X19 hx hby d17_17 rfl rfl ?_
    refine w_iloadN X19 hx hby d17_18 rfl ?_
    exact kt
  obtain ⟨cl29, Ar29, -, Sz29, Nn29, Hh29, -⟩ := id F22
  have hin29 : ¬ ((1 : Int32) < 0 ∨ cl29.slots.size ≤ ((1 : Int32)).toNatClampNeg) := inb_of Sz29 ⟨by decide, by decide⟩
  have S33 : own_G p e below s0 T19 m 20 #[rv b, iv 1, iv 5, rv tb1, iv 1] [(.int c1), (.int 1), (.ref tb1)] := fun t kt => by
    refine S30 t ?_
    refine X19.caload hx (j := (1 : Int32)) (v := (.int c1)) Ar29.1 (State.isArrayOf_alike hZ.alike Ar29.2.1) Ar29.2.2 hin29 (Has.at Hh29 hin29 rfl) (g := (mkF m 19 #[rv b, iv 1, iv 5, rv tb1, iv 1] [(.int 1), (.ref b), (.int 1), (.ref tb1)])) rfl rfl (hb hby d17_19) _ ?_
    exact kt
  obtain ⟨_, _, ⟨T34, L34, k34, n34⟩, -, X34, ⟨Lc34, hQ34, l34, y34, z34⟩, st34⟩ := Jvm.LawKit.callS X19 hx (y := own_y15) hown (mvT hZ (own_w hw 88 rfl)) (mvT hZ (own_w hw 89 rfl)) (mvT hZ (own_w hw 47 rfl)) (mvT hZ (own_w hw 90 rfl)) (by decide) (backOf (W := 0) (own_rm20 l Z a0 hw [] (tb1) ((1 : Int32)) (c1) (kt1) ((10 : Int32)) ([(.int (own_lo c0)), (.int (own_hi c0)), (.int 0), (.int 0), (.int 0), (.int 0), (.int 0), (.int 0), (.int 0), (.int 0)]) (1) T19.heap n0 (Nat.le_trans Z0 K26.1) Vd16 gt1 F23 F24 F25 rfl (by decide) (by decide) (Nat.le_of_ble_eq_true rfl)) hZ (own_w hw 90 rfl) (own_w hw 47 rfl) (by decide) (by decide)) (g := (mkF m 20 #[rv b, iv 1, iv 5, rv tb1, iv 1] [(.int c1), (.int 1), (.ref tb1)])) rfl (by rw [hml]; rfl) (argsL := [(.ref tb1), (.int 1), (.int c1)]) (rest := []) (lenOf own_pd5 rfl) rfl (by show 2 * 0 + _ ≤ _; exact Nat.le_of_eq rfl) (hb hby d17_20) (fun _ _ => ⟨rfl, rfl, (by decide : 1 + 0 ≤ _), (by decide : 10 + 0 ≤ _)⟩)
  dsimp only [Pt.U, Pt.locs, Pt.cells, Pt.slots] at X34 l34 y34 z34 st34 hQ34
  subst l34 y34 z34
  obtain ⟨rfl, Nq34, Kc31, Vc31⟩ := hQ34
  have N35 := Fr.app N20 Nq34
  have S36 : own_G p e below s0 T34 m 23 #[rv b, iv 1, iv 5, rv tb1, iv 1] [] := fun t kt => S33 t (st34 _ kt)
  have F37 := F22.keep Kc31 (ninS ne_b_tb1 nin0)
  have F38 := own_StaK F23 Kc31 (allS (own_ArvS Vd16) all0)
  have F39 := own_StaK F24 Kc31 (allS (own_ArvS Vd16) all0)
  have F40 := own_StaK F25 Kc31 (allS (own_ArvS Vd16) all0)
  have K41 : Keep h0 T34.heap [] := K26.trans Kc31 (allS (Or.inr (Nat.le_trans (Keep.refl h0 []).1 sz1)) all0)
  have Vd31 : Arv Z T34.heap tb1 kt1 .byte (10 : Int32) [(.int (own_lo c0)), (.int (own_hi c0)), (.int (own_lo c1)), (.int (own_hi c1)), (.int 0), (.int 0), (.int 0), (.int 0), (.int 0), (.int 0)] (.int 0) := Vc31
  have S42 : own_G p e below s0 T34 m 11 #[rv b, iv 2, iv 5, rv tb1, iv 2] [(.int 5), (.int 2)] := fun t kt => by
    refine S36 t ?_
    refine w_iinc X34 hx hby d17_23 rfl (l' := #[rv b, iv 2, iv 5, rv tb1, iv 1]) rfl ?_
    refine w_iinc X34 hx hby d17_26 rfl (l' := #[rv b, iv 2, iv 5, rv tb1, iv 2]) rfl ?_
    refine w_goto X34 hx hby (pc' := 8) d17_29 (by decide) ?_
    refine w_iload X34 hx hby d17_8 rfl ?_
    refine w_iloadN X34 hx hby d17_10 rfl ?_
    exact kt
  have hc11_43 : (2 : Int32) < (5 : Int32) := by decide
  have S45 : own_G p e below s0 T34 m 19 #[rv b, iv 2, iv 5, rv tb1, iv 2] [(.int 2), (.ref b), (.int 2), (.ref tb1)] := fun t kt => by
    refine S42 t ?_
    refine w_icmpNo X34 hx hby d17_11 (tlt hc11_43).2.1 ?_
    refine w_aloadN X34 hx hby d17_14 rfl rfl ?_
    refine w_iload X34 hx hby d17_15 rfl ?_
    refine w_aloadN X34 hx hby d17_17 rfl rfl ?_
    refine w_iloadN X34 hx hby d17_18 rfl ?_
    exact kt
  obtain ⟨cl44, Ar44, -, Sz44, Nn44, Hh44, -⟩ := id F37
  have hin44 : ¬ ((2 : Int32) < 0 ∨ cl44.slots.size ≤ ((2 : Int32)).toNatClampNeg) := inb_of Sz44 ⟨by decide, by decide⟩
  have S48 : own_G p e below s0 T34 m 20 #[rv b, iv 2, iv 5, rv tb1, iv 2] [(.int c2), (.int 2), (.ref tb1)] := fun t kt => by
    refine S45 t ?_
    refine X34.caload hx (j := (2 : Int32)) (v := (.int c2)) Ar44.1 (State.isArrayOf_alike hZ.alike Ar44.2.1) Ar44.2.2 hin44 (Has.at Hh44 hin44 rfl) (g := (mkF m 19 #[rv b, iv 2, iv 5, rv tb1, iv 2] [(.int 2), (.ref b), (.int 2), (.ref tb1)])) rfl rfl (hb hby d17_19) _ ?_
    exact kt
  obtain ⟨_, _, ⟨T49, L49, k49, n49⟩, -, X49, ⟨Lc49, hQ49, l49, y49, z49⟩, st49⟩ := Jvm.LawKit.callS X34 hx (y := own_y15) hown (mvT hZ (own_w hw 88 rfl)) (mvT hZ (own_w hw 89 rfl)) (mvT hZ (own_w hw 47 rfl)) (mvT hZ (own_w hw 90 rfl)) (by decide) (backOf (W := 0) (own_rm20 l Z a0 hw [] (tb1) ((2 : Int32)) (c2) (kt1) ((10 : Int32)) ([(.int (own_lo c0)), (.int (own_hi c0)), (.int (own_lo c1)), (.int (own_hi c1)), (.int 0), (.int 0), (.int 0), (.int 0), (.int 0), (.int 0)]) (2) T34.heap n0 (Nat.le_trans Z0 K41.1) Vd31 gt1 F38 F39 F40 rfl (by decide) (by decide) (Nat.le_of_ble_eq_true rfl)) hZ (own_w hw 90 rfl) (own_w hw 47 rfl) (by decide) (by decide)) (g := (mkF m 20 #[rv b, iv 2, iv 5, rv tb1, iv 2] [(.int c2), (.int 2), (.ref tb1)])) rfl (by rw [hml]; rfl) (argsL := [(.ref tb1), (.int 2), (.int c2)]) (rest := []) (lenOf own_pd5 rfl) rfl (by show 2 * 0 + _ ≤ _; exact Nat.le_of_eq rfl) (hb hby d17_20) (fun _ _ => ⟨rfl, rfl, (by decide : 1 + 0 ≤ _), (by decide : 10 + 0 ≤ _)⟩)
  dsimp only [Pt.U, Pt.locs, Pt.cells, Pt.slots] at X49 l49 y49 z49 st49 hQ49
  subst l49 y49 z49
  obtain ⟨rfl, Nq49, Kc46, Vc46⟩ := hQ49
  have N50 := Fr.app N35 Nq49
  have S51 : own_G p e below s0 T49 m 23 #[rv b, iv 2, iv 5, rv tb1, iv 2] [] := fun t kt => S48 t (st49 _ kt)
  have F52 := F37.keep Kc46 (ninS ne_b_tb1 nin0)
  have F53 := own_StaK F38 Kc46 (allS (own_ArvS Vd31) all0)
  have F54 := own_StaK F39 Kc46 (allS (own_ArvS Vd31) all0)
  have F55 := own_StaK F40 Kc46 (allS (own_ArvS Vd31) all0)
  have K56 : Keep h0 T49.heap [] := K41.trans Kc46 (allS (Or.inr (Nat.le_trans (Keep.refl h0 []).1 sz1)) all0)
  have Vd46 : Arv Z T49.heap tb1 kt1 .byte (10 : Int32) [(.int (own_lo c0)), (.int (own_hi c0)), (.int (own_lo c1)), (.int (own_hi c1)), (.int (own_lo c2)), (.int (own_hi c2)), (.int 0), (.int 0), (.int 0), (.int 0)] (.int 0) := Vc46
  have S57 : own_G p e below s0 T49 m 11 #[rv b, iv 3, iv 5, rv tb1, iv 3] [(.int 5), (.int 3)] := fun t kt => by
    refine S51 t ?_
    refine w_iinc X49 hx hby d17_23 rfl (l' := #[rv b, iv 3, iv 5, rv tb1, iv 2]) rfl ?_
    refine w_iinc X49 hx hby d17_26 rfl (l' := #[rv b, iv 3, iv 5, rv tb1, iv 3]) rfl ?_
    refine w_goto X49 hx hby (pc' := 8) d17_29 (by decide) ?_
    refine w_iload X49 hx hby d17_8 rfl ?_
    refine w_iloadN X49 hx hby d17_10 rfl ?_
    exact kt
  have hc11_58 : (3 : Int32) < (5 : Int32) := by decide
  have S60 : own_G p e below s0 T49 m 19 #[rv b, iv 3, iv 5, rv tb1, iv 3] [(.int 3), (.ref b), (.int 3), (.ref tb1)] := fun t kt => by
    refine S57 t ?_
    refine w_icmpNo X49 hx hby d17_11 (tlt hc11_58).2.1 ?_
    refine w_aloadN X49 hx hby d17_14 rfl rfl ?_
    refine w_iload X49 hx hby d17_15 rfl ?_
    refine w_aloadN X49 hx hby d17_17 rfl rfl ?_
    refine w_iloadN X49 hx hby d17_18 rfl ?_
    exact kt
  obtain ⟨cl59, Ar59, -, Sz59, Nn59, Hh59, -⟩ := id F52
  have hin59 : ¬ ((3 : Int32) < 0 ∨ cl59.slots.size ≤ ((3 : Int32)).toNatClampNeg) := inb_of Sz59 ⟨by decide, by decide⟩
  have S63 : own_G p e below s0 T49 m 20 #[rv b, iv 3, iv 5, rv tb1, iv 3] [(.int c3), (.int 3), (.ref tb1)] := fun t kt => by
    refine S60 t ?_
    refine X49.caload hx (j := (3 : Int32)) (v := (.int c3)) Ar59.1 (State.isArrayOf_alike hZ.alike Ar59.2.1) Ar59.2.2 hin59 (Has.at Hh59 hin59 rfl) (g := (mkF m 19 #[rv b, iv 3, iv 5, rv tb1, iv 3] [(.int 3), (.ref b), (.int 3), (.ref tb1)])) rfl rfl (hb hby d17_19) _ ?_
    exact kt
  obtain ⟨_, _, ⟨T64, L64, k64, n64⟩, -, X64, ⟨Lc64, hQ64, l64, y64, z64⟩, st64⟩ := Jvm.LawKit.callS X49 hx (y := own_y15) hown (mvT hZ (own_w hw 88 rfl)) (mvT hZ (own_w hw 89 rfl)) (mvT hZ (own_w hw 47 rfl)) (mvT hZ (own_w hw 90 rfl)) (by decide) (backOf (W := 0) (own_rm20 l Z a0 hw [] (tb1) ((3 : Int32)) (c3) (kt1) ((10 : Int32)) ([(.int (own_lo c0)), (.int (own_hi c0)), (.int (own_lo c1)), (.int (own_hi c1)), (.int (own_lo c2)), (.int (own_hi c2)), (.int 0), (.int 0), (.int 0), (.int 0)]) (3) T49.heap n0 (Nat.le_trans Z0 K56.1) Vd46 gt1 F53 F54 F55 rfl (by decide) (by decide) (Nat.le_of_ble_eq_true rfl)) hZ (own_w hw 90 rfl) (own_w hw 47 rfl) (by decide) (by decide)) (g := (mkF m 20 #[rv b, iv 3, iv 5, rv tb1, iv 3] [(.int c3), (.int 3), (.ref tb1)])) rfl (by rw [hml]; rfl) (argsL := [(.ref tb1), (.int 3), (.int c3)]) (rest := []) (lenOf own_pd5 rfl) rfl (by show 2 * 0 + _ ≤ _; exact Nat.le_of_eq rfl) (hb hby d17_20) (fun _ _ => ⟨rfl, rfl, (by decide : 1 + 0 ≤ _), (by decide : 10 + 0 ≤ _)⟩)
  dsimp only [Pt.U, Pt.locs, Pt.cells, Pt.slots] at X64 l64 y64 z64 st64 hQ64
  subst l64 y64 z64
  obtain ⟨rfl, Nq64, Kc61, Vc61⟩ := hQ64
  have N65 := Fr.app N50 Nq64
  have S66 : own_G p e below s0 T64 m 23 #[rv b, iv 3, iv 5, rv tb1, iv 3] [] := fun t kt => S63 t (st64 _ kt)
  have F67 := F52.keep Kc61 (ninS ne_b_tb1 nin0)
  have F68 := own_StaK F53 Kc61 (allS (own_ArvS Vd46) all0)
  have F69 := own_StaK F54 Kc61 (allS (own_ArvS Vd46) all0)
  have F70 := own_StaK F55 Kc61 (allS (own_ArvS Vd46) all0)
  have K71 : Keep h0 T64.heap [] := K56.trans Kc61 (allS (Or.inr (Nat.le_trans (Keep.refl h0 []).1 sz1)) all0)
  have Vd61 : Arv Z T64.heap tb1 kt1 .byte (10 : Int32) [(.int (own_lo c0)), (.int (own_hi c0)), (.int (own_lo c1)), (.int (own_hi c1)), (.int (own_lo c2)), (.int (own_hi c2)), (.int (own_lo c3)), (.int (own_hi c3)), (.int 0), (.int 0)] (.int 0) := Vc61
  have S72 : own_G p e below s0 T64 m 11 #[rv b, iv 4, iv 5, rv tb1, iv 4] [(.int 5), (.int 4)] := fun t kt => by
    refine S66 t ?_
    refine w_iinc X64 hx hby d17_23 rfl (l' := #[rv b, iv 4, iv 5, rv tb1, iv 3]) rfl ?_
    refine w_iinc X64 hx hby d17_26 rfl (l' := #[rv b, iv 4, iv 5, rv tb1, iv 4]) rfl ?_
    refine w_goto X64 hx hby (pc' := 8) d17_29 (by decide) ?_
    refine w_iload X64 hx hby d17_8 rfl ?_
    refine w_iloadN X64 hx hby d17_10 rfl ?_
    exact kt
  have hc11_73 : (4 : Int32) < (5 : Int32) := by decide
  have S75 : own_G p e below s0 T64 m 19 #[rv b, iv 4, iv 5, rv tb1, iv 4] [(.int 4), (.ref b), (.int 4), (.ref tb1)] := fun t kt => by
    refine S72 t ?_
    refine w_icmpNo X64 hx hby d17_11 (tlt hc11_73).2.1 ?_
    refine w_aloadN X64 hx hby d17_14 rfl rfl ?_
    refine w_iload X64 hx hby d17_15 rfl ?_
    refine w_aloadN X64 hx hby d17_17 rfl rfl ?_
    refine w_iloadN X64 hx hby d17_18 rfl ?_
    exact kt
  obtain ⟨cl74, Ar74, -, Sz74, Nn74, Hh74, -⟩ := id F67
  have hin74 : ¬ ((4 : Int32) < 0 ∨ cl74.slots.size ≤ ((4 : Int32)).toNatClampNeg) := inb_of Sz74 ⟨by decide, by decide⟩
  have S78 : own_G p e below s0 T64 m 20 #[rv b, iv 4, iv 5, rv tb1, iv 4] [(.int c4), (.int 4), (.ref tb1)] := fun t kt => by
    refine S75 t ?_
    refine X64.caload hx (j := (4 : Int32)) (v := (.int c4)) Ar74.1 (State.isArrayOf_alike hZ.alike Ar74.2.1) Ar74.2.2 hin74 (Has.at Hh74 hin74 rfl) (g := (mkF m 19 #[rv b, iv 4, iv 5, rv tb1, iv 4] [(.int 4), (.ref b), (.int 4), (.ref tb1)])) rfl rfl (hb hby d17_19) _ ?_
    exact kt
  obtain ⟨_, _, ⟨T79, L79, k79, n79⟩, -, X79, ⟨Lc79, hQ79, l79, y79, z79⟩, st79⟩ := Jvm.LawKit.callS X64 hx (y := own_y15) hown (mvT hZ (own_w hw 88 rfl)) (mvT hZ (own_w hw 89 rfl)) (mvT hZ (own_w hw 47 rfl)) (mvT hZ (own_w hw 90 rfl)) (by decide) (backOf (W := 0) (own_rm20 l Z a0 hw [] (tb1) ((4 : Int32)) (c4) (kt1) ((10 : Int32)) ([(.int (own_lo c0)), (.int (own_hi c0)), (.int (own_lo c1)), (.int (own_hi c1)), (.int (own_lo c2)), (.int (own_hi c2)), (.int (own_lo c3)), (.int (own_hi c3)), (.int 0), (.int 0)]) (4) T64.heap n0 (Nat.le_trans Z0 K71.1) Vd61 gt1 F68 F69 F70 rfl (by decide) (by decide) (Nat.le_of_ble_eq_true rfl)) hZ (own_w hw 90 rfl) (own_w hw 47 rfl) (by decide) (by decide)) (g := (mkF m 20 #[rv b, iv 4, iv 5, rv tb1, iv 4] [(.int c4), (.int 4), (.ref tb1)])) rfl (by rw [hml]; rfl) (argsL := [(.ref tb1), (.int 4), (.int c4)]) (rest := []) (lenOf own_pd5 rfl) rfl (by show 2 * 0 + _ ≤ _; exact Nat.le_of_eq rfl) (hb hby d17_20) (fun _ _ => ⟨rfl, rfl, (by decide : 1 + 0 ≤ _), (by decide : 10 + 0 ≤ _)⟩)
  dsimp only [Pt.U, Pt.locs, Pt.cells, Pt.slots] at X79 l79 y79 z79 st79 hQ79
  subst l79 y79 z79
  obtain ⟨rfl, Nq79, Kc76, Vc76⟩ := hQ79
  have N80 := Fr.app N65 Nq79
  have S81 : own_G p e below s0 T79 m 23 #[rv b, iv 4, iv 5, rv tb1, iv 4] [] := fun t kt => S78 t (st79 _ kt)
  have F82 := F67.keep Kc76 (ninS ne_b_tb1 nin0)
  have F83 := own_StaK F68 Kc76 (allS (own_ArvS Vd61) all0)
  have F84 := own_StaK F69 Kc76 (allS (own_ArvS Vd61) all0)
  have F85 := own_StaK F70 Kc76 (allS (own_ArvS Vd61) all0)
  have K86 : Keep h0 T79.heap [] := K71.trans Kc76 (allS (Or.inr (Nat.le_trans (Keep.refl h0 []).1 sz1)) all0)
  have Vd76 : Arv Z T79.heap tb1 kt1 .byte (10 : Int32) [(.int (own_lo c0)), (.int (own_hi c0)), (.int (own_lo c1)), (.int (own_hi c1)), (.int (own_lo c2)), (.int (own_hi c2)), (.int (own_lo c3)), (.int (own_hi c3)), (.int (own_lo c4)), (.int (own_hi c4))] (.int 0) := Vc76
  have S87 : own_G p e below s0 T79 m 11 #[rv b, iv 5, iv 5, rv tb1, iv 5] [(.int 5), (.int 5)] := fun t kt => by
    refine S81 t ?_
    refine w_iinc X79 hx hby d17_23 rfl (l' := #[rv b, iv 5, iv 5, rv tb1, iv 4]) rfl ?_
    refine w_iinc X79 hx hby d17_26 rfl (l' := #[rv b, iv 5, iv 5, rv tb1, iv 5]) rfl ?_
    refine w_goto X79 hx hby (pc' := 8) d17_29 (by decide) ?_
    refine w_iload X79 hx hby d17_8 rfl ?_
    refine w_iloadN X79 hx hby d17_10 rfl ?_
    exact kt
  have hc11_88 : ¬ ((5 : Int32) < (5 : Int32)) := by decide
  have S89 : own_G p e below s0 T79 m 33 #[rv b, iv 5, iv 5, rv tb1, iv 5] [(.ref tb1)] := fun t kt => by
    refine S87 t ?_
    refine w_icmpYes X79 hx hby (pc' := 32) d17_11 (flt hc11_88).2.1 (by decide) ?_
    refine w_aloadN X79 hx hby d17_32 rfl rfl ?_
    exact kt
  obtain ⟨fs, hr, hrun, hended, hW, hsame⟩ := X79.leave (v := some (.ref tb1)) (fun h => by rw [Bd.returns] at h; cases h)
  refine ⟨_, _, S89 _ ?_, hrun, hended, _, _, rfl, ?_, ⟨_, rfl⟩, hW, hsame.mono (by decide) (by decide)⟩
  · show Steps p.tables e below (T79.setTop (mkF m 33 #[rv b, iv 5, iv 5, rv tb1, iv 5] [(.ref tb1)])) _
    jvm_step X79.here [X79.here.top, hx, (hb hby d17_33), X79.method', Bd.returns, Value.isRef, FieldType.isReference]
    first | (intro acts; rw [hr _ acts rfl rfl rfl]) | rw [hr _ _ rfl rfl rfl]
    exact Steps.refl _
  · show own_Q17k5 Z b c0 c1 c2 c3 c4 kb h0 n0 _ T79.heap _
    exact ⟨tb1, kt1, rfl, N80, gt1, (Nat.le_trans (Keep.refl h0 []).1 sz1), K86, Vd76⟩
theorem own_ef19k4 (m : MethodId) (x0 : Int32) : entryFrame m #[(.int x0)] 1 = mkF m 0 #[iv x0] [] := by first | (simp [entryFrame, mkF, argsToLocals, Value.category]; done) | rfl
def own_Q19k4 (Z : State)  (h0 : Heap) (n0 : Nat) (v : Option Value) (h : Heap) (L : List Loc) : Prop := v = some (.int 8) ∧ L = [] ∧ h = h0
set_option maxHeartbeats 40000000 in
theorem own_rm19k4 (l : Launch) (Z : State) (a0 : Array Value) (hw : ∀ d ∈ tables_1, d.before a0 Z = true) (ws : List Jvm.Cond)  (h0 : Heap) (n0 : Nat) (Z0 : n0 ≤ h0.size) :
    MetFree l own_y10 (head1 (Jvm.Cond.code own_y10 jdk_52_method_3_code 1 (some .int) :: ws) ({ frames := 0, cells := 0, slots := 0, locals := 0 } : Room)) (fun argv U => argv = #[(.int 4)] ∧ Z.Warmed39 U.vm ∧ U.heap = h0) (fun _ _ _ _ _ => True) (fun _ U o U' => ∃ v L, o = .returned v ∧ own_Q19k4 Z  h0 n0 v U'.heap L ∧ FrameEnd U o U' L ({ frames := 0, cells := 0, slots := 0, locals := 0 } : Room).cells ({ frames := 0, cells := 0, slots := 0, locals := 0 } : Room).slots) := by
  refine MetFree.of_bodySF (plainFor_of_name own_pn2) hisR ?_
  intro p e s m args below meth c s₁ Bd hml0 hP hK
  obtain ⟨rfl, hZ, hh⟩ := hP
  have hx := Bd.exec
  have hby := Bd.bytes
  have hml : c.maxLocals = 1 := hml0
  have hown : s.vm.findClass own_s2 = some m.cls := findClass_of_methodNamed Bd.named
  have hnm := (name_of_methodNamed Bd.named Bd.method).1
  have X0 : Stand p l e ({ frames := 0, cells := 0, slots := 0, locals := 0 } : Room) s m #[(.int 4)] below meth c s₁ [] 0 0 := Stand.of_body Bd
  have e0 : s₁.heap = h0 := by rw [← hh, Bd.state]; rfl
  have N0 := Fr.nil n0
  have pre_ : own_G p e below (s₁.setTop (entryFrame m #[(.int 4)] 1)) s₁ m 0 #[iv 4] [] := fun t k => castTop (own_ef19k4 m (4 : Int32)) k
  obtain ⟨s0, hs0⟩ : ∃ z, z = (s₁.setTop (entryFrame m #[(.int 4)] 1)) := ⟨_, rfl⟩
  have pre0 : own_G p e below s0 s₁ m 0 #[iv 4] [] := hs0 ▸ pre_
  rw [← hs0]
  have S1 : own_G p e below s0 s₁ m 1 #[iv 4] [(.int 4)] := fun t kt => by
    refine pre0 t ?_
    refine w_iloadN X0 hx hby d19_0 rfl ?_
    exact kt
  have hc1_2 : ¬ ((4 : Int32) < (0 : Int32)) := by decide
  have S3 : own_G p e below s0 s₁ m 15 #[iv 4] [(.int 1073741823), (.int 4)] := fun t kt => by
    refine S1 t ?_
    refine w_ifYes X0 hx hby (pc' := 12) d19_1 ((if0 _ _).trans (flt hc1_2).2.1) (by decide) ?_
    refine w_iloadN X0 hx hby d19_12 rfl ?_
    refine X0.ldcInt hx hown (mvT hZ (own_w hw 87 rfl)) (g := (mkF m 13 #[iv 4] [(.int 4)])) rfl (hb hby d19_13) _ ?_
    exact kt
  have hc15_4 : (4 : Int32) < (1073741823 : Int32) := by decide
  have S5 : own_G p e below s0 s₁ m 58 #[iv 4] [(.int 8)] := fun t kt => by
    refine S3 t ?_
    refine w_icmpYes X0 hx hby (pc' := 55) d19_15 (tlt hc15_4).1 (by decide) ?_
    refine w_iloadN X0 hx hby d19_55 rfl ?_
    refine w_iconst X0 hx hby d19_56 ?_
    refine XS.ishl X0.here hx rfl (hb hby d19_57) rfl ?_
    exact kt
  obtain ⟨fs, hr, hrun, hended, hW, hsame⟩ := X0.leave (v := some (.int 8)) (fun h => by rw [Bd.returns] at h; cases h)
  refine ⟨_, _, S5 _ ?_, hrun, hended, _, _, rfl, ?_, ⟨_, rfl⟩, hW, hsame.mono (by decide) (by decide)⟩
  · show Steps p.tables e below (s₁.setTop (mkF m 58 #[iv 4] [(.int 8)])) _
    exact own_retI X0 hx Bd.returns (hb hby d19_58) hr
  · show own_Q19k4 Z  h0 n0 _ s₁.heap _
    rw [e0]
    exact ⟨rfl, rfl, rfl⟩
theorem own_ef18k4 (m : MethodId) (x0 : Int32) : entryFrame m #[(.int x0)] 1 = mkF m 0 #[iv x0] [] := by first | (simp [entryFrame, mkF, argsToLocals, Value.category]; done) | rfl
def own_Q18k4 (Z : State)  (h0 : Heap) (n0 : Nat) (v : Option Value) (h : Heap) (L : List Loc) : Prop := ∃ (tb : Addr) (kt : ClassId), v = some (.ref tb) ∧ Fr n0 L ∧ n0 ≤ tb ∧ h0.size ≤ tb ∧ Keep h0 h [] ∧ Arv Z h tb kt .byte (8 : Int32) [(.int 0), (.int 0), (.int 0), (.int 0), (.int 0), (.int 0), (.int 0), (.int 0)] (.int 0)
set_option maxHeartbeats 40000000 in
theorem own_rm18k4 (l : Launch) (Z : State) (a0 : Array Value) (hw : ∀ d ∈ tables_1, d.before a0 Z = true) (ws : List Jvm.Cond)  (h0 : Heap) (n0 : Nat) (Z0 : n0 ≤ h0.size) :
    MetFree l own_y13 (head1 (Jvm.Cond.code own_y13 jdk_52_method_2_code 1 (some (.array .byte)) :: ws) ({ frames := 1, cells := 1, slots := 8, locals := 12 } : Room)) (fun argv U => argv = #[(.int 4)] ∧ Z.Warmed39 U.vm ∧ U.heap = h0) (fun _ _ _ _ _ => True) (fun _ U o U' => ∃ v L, o = .returned v ∧ own_Q18k4 Z  h0 n0 v U'.heap L ∧ FrameEnd U o U' L ({ frames := 1, cells := 1, slots := 8, locals := 12 } : Room).cells ({ frames := 1, cells := 1, slots := 8, locals := 12 } : Room).slots) := by
  refine MetFree.of_bodySF (plainFor_of_name own_pn2) hisR ?_
  intro p e s m args below meth c s₁ Bd hml0 hP hK
  obtain ⟨rfl, hZ, hh⟩ := hP
  have hx := Bd.exec
  have hby := Bd.bytes
  have hml : c.maxLocals = 1 := hml0
  have hown : s.vm.findClass own_s2 = some m.cls := findClass_of_methodNamed Bd.named
  have hnm := (name_of_methodNamed Bd.named Bd.method).1
  have X0 : Stand p l e ({ frames := 1, cells := 1, slots := 8, locals := 12 } : Room) s m #[(.int 4)] below meth c s₁ [] 0 0 := Stand.of_body Bd
  have e0 : s₁.heap = h0 := by rw [← hh, Bd.state]; rfl
  have N0 := Fr.nil n0
  have pre_ : own_G p e below (s₁.setTop (entryFrame m #[(.int 4)] 1)) s₁ m 0 #[iv 4] [] := fun t k => castTop (own_ef18k4 m (4 : Int32)) k
  obtain ⟨s0, hs0⟩ : ∃ z, z = (s₁.setTop (entryFrame m #[(.int 4)] 1)) := ⟨_, rfl⟩
  have pre0 : own_G p e below s0 s₁ m 0 #[iv 4] [] := hs0 ▸ pre_
  rw [← hs0]
  have S2 : own_G p e below s0 s₁ m 1 #[iv 4] [(.int 4)] := fun t kt => by
    refine pre0 t ?_
    refine w_iloadN X0 hx hby d18_0 rfl ?_
    exact kt
  obtain ⟨_, _, ⟨T3, L3, k3, n3⟩, -, X3, ⟨Lc3, hQ3, l3, y3, z3⟩, st3⟩ := Jvm.LawKit.callS X0 hx (y := own_y10) hown (mvT hZ (own_w hw 84 rfl)) (mvT hZ (own_w hw 85 rfl)) (mvT hZ (own_w hw 47 rfl)) (mvT hZ (own_w hw 86 rfl)) (by decide) (backOf (W := 0) (own_rm19k4 l Z a0 hw []  h0 n0 Z0 ) hZ (own_w hw 86 rfl) (own_w hw 47 rfl) (by decide) (by decide)) (g := (mkF m 1 #[iv 4] [(.int 4)])) rfl (by rw [hml]; rfl) (argsL := [(.int 4)]) (rest := []) (lenOf own_pd3 rfl) rfl (by show 2 * 0 + _ ≤ _; exact Nat.le_of_eq rfl) (hb hby d18_1) (fun _ _ => ⟨rfl, e0, (by decide : 0 + 0 ≤ _), (by decide : 0 + 0 ≤ _)⟩)
  dsimp only [Pt.U, Pt.locs, Pt.cells, Pt.slots] at X3 l3 y3 z3 st3 hQ3
  subst l3 y3 z3
  obtain ⟨rfl, rfl, eq1⟩ := hQ3
  try rw [List.append_nil] at X3
  have S4 : own_G p e below s0 T3 m 4 #[iv 4] [(.int 8)] := fun t kt => S2 t (st3 _ kt)
  obtain ⟨T5, h5, k5, X5, e5, E5, A5, st5⟩ := newP X3 hx hZ (own_w hw 23 rfl) eq1 (g := (mkF m 4 #[iv 4] [(.int 8)])) rfl (hb hby d18_4) rfl (by decide) (cap := 8) (by decide) (by decide) (by decide) (by decide)
  obtain ⟨b5, g5⟩ : ∃ z, z = h0.size := ⟨_, rfl⟩
  rw [← g5] at A5 st5
  have S6 : own_G p e below s0 T5 m 6 #[iv 4] [(.ref b5)] := fun t kt => S4 t (st5 _ kt)
  have g_b5 : n0 ≤ b5 := Nat.le_trans Z0 (Nat.le_of_eq g5.symm)
  have sz_b5 : h0.size ≤ b5 := Nat.le_trans (Keep.refl h0 []).1 (Nat.le_of_eq g5.symm)
  have K7 : Keep h0 h5 [] := (Keep.refl h0 []).ext E5
  have V8 : Arv Z h5 b5 k5 .byte (8 : Int32) [(.int 0), (.int 0), (.int 0), (.int 0), (.int 0), (.int 0), (.int 0), (.int 0)] (.int 0) := (Arv.new A5 (by decide)).pad (pad_rep [] (.int 0) 8)
  obtain ⟨fs, hr, hrun, hended, hW, hsame⟩ := X5.leave (v := some (.ref b5)) (fun h => by rw [Bd.returns] at h; cases h)
  refine ⟨_, _, S6 _ ?_, hrun, hended, _, _, rfl, ?_, ⟨_, rfl⟩, hW, hsame.mono (by decide) (by decide)⟩
  · show Steps p.tables e below (T5.setTop (mkF m 6 #[iv 4] [(.ref b5)])) _
    jvm_step X5.here [X5.here.top, hx, (hb hby d18_6), X5.method', Bd.returns, Value.isRef, FieldType.isReference]
    first | (intro acts; rw [hr _ acts rfl rfl rfl]) | rw [hr _ _ rfl rfl rfl]
    exact Steps.refl _
  · show own_Q18k4 Z  h0 n0 _ T5.heap _
    rw [e5]
    exact ⟨b5, k5, rfl, N0, g_b5, sz_b5, K7, V8⟩
theorem own_ef17k4 (m : MethodId) (x0 : Addr) (x1 : Int32) (x2 : Int32) : entryFrame m #[(.ref x0), (.int x1), (.int x2)] 5 = mkF m 0 #[rv x0, iv x1, iv x2, .unset, .unset] [] := by first | (simp [entryFrame, mkF, argsToLocals, Value.category]; done) | rfl
def own_Q17k4 (Z : State) (b : Addr) (c0 : Int32) (c1 : Int32) (c2 : Int32) (c3 : Int32) (kb : ClassId) (h0 : Heap) (n0 : Nat) (v : Option Value) (h : Heap) (L : List Loc) : Prop := ∃ (tb : Addr) (kt : ClassId), v = some (.ref tb) ∧ Fr n0 L ∧ n0 ≤ tb ∧ h0.size ≤ tb ∧ Keep h0 h [] ∧ Arv Z h tb kt .byte (8 : Int32) [(.int (own_lo c0)), (.int (own_hi c0)), (.int (own_lo c1)), (.int (own_hi c1)), (.int (own_lo c2)), (.int (own_hi c2)), (.int (own_lo c3)), (.int (own_hi c3))] (.int 0)
set_option maxHeartbeats 40000000 in
theorem own_rm17k4 (l : Launch) (Z : State) (a0 : Array Value) (hw : ∀ d ∈ tables_1, d.before a0 Z = true) (ws : List Jvm.Cond) (b : Addr) (c0 : Int32) (c1 : Int32) (c2 : Int32) (c3 : Int32) (kb : ClassId) (h0 : Heap) (n0 : Nat) (Z0 : n0 ≤ h0.size) (V_b : Arv Z h0 b kb .char (4 : Int32) [(.int c0), (.int c1), (.int c2), (.int c3)] (.int 0)) (S_AD : Sta Z h0 own_s2 own_s3 "Z" (.int 1)) (S_HI : Sta Z h0 own_s2 "HI_BYTE_SHIFT" "I" (.int 0)) (S_LO : Sta Z h0 own_s2 "LO_BYTE_SHIFT" "I" (.int 8)) :
    MetFree l own_y14 (head1 (Jvm.Cond.code own_y14 jdk_52_method_14_code 5 (some (.array .byte)) :: ws) ({ frames := 2, cells := 1, slots := 10, locals := 24 } : Room)) (fun argv U => argv = #[(.ref b), (.int 0), (.int 4)] ∧ Z.Warmed39 U.vm ∧ U.heap = h0) (fun _ _ _ _ _ => True) (fun _ U o U' => ∃ v L, o = .returned v ∧ own_Q17k4 Z b c0 c1 c2 c3 kb h0 n0 v U'.heap L ∧ FrameEnd U o U' L ({ frames := 2, cells := 1, slots := 10, locals := 24 } : Room).cells ({ frames := 2, cells := 1, slots := 10, locals := 24 } : Room).slots) := by
  refine MetFree.of_bodySF (plainFor_of_name own_pn2) hisR ?_
  intro p e s m args below meth c s₁ Bd hml0 hP hK
  obtain ⟨rfl, hZ, hh⟩ := hP
  have hx := Bd.exec
  have hby := Bd.bytes
  have hml : c.maxLocals = 5 := hml0
  have hown : s.vm.findClass own_s2 = some m.cls := findClass_of_methodNamed Bd.named
  have hnm := (name_of_methodNamed Bd.named Bd.method).1
  have X0 : Stand p l e ({ frames := 2, cells := 1, slots := 10, locals := 24 } : Room) s m #[(.ref b), (.int 0), (.int 4)] below meth c s₁ [] 0 0 := Stand.of_body Bd
  have e0 : s₁.heap = h0 := by rw [← hh, Bd.state]; rfl
  have N0 := Fr.nil n0
  have pre_ : own_G p e below (s₁.setTop (entryFrame m #[(.ref b), (.int 0), (.int 4)] 5)) s₁ m 0 #[rv b, iv 0, iv 4, .unset, .unset] [] := fun t k => castTop (own_ef17k4 m b (0 : Int32) (4 : Int32)) k
  obtain ⟨s0, hs0⟩ : ∃ z, z = (s₁.setTop (entryFrame m #[(.ref b), (.int 0), (.int 4)] 5)) := ⟨_, rfl⟩
  have pre0 : own_G p e below s0 s₁ m 0 #[rv b, iv 0, iv 4, .unset, .unset] [] := hs0 ▸ pre_
  rw [← hs0]
  have S3 : own_G p e below s0 s₁ m 1 #[rv b, iv 0, iv 4, .unset, .unset] [(.int 4)] := fun t kt => by
    refine pre0 t ?_
    refine w_iloadN X0 hx hby d17_0 rfl ?_
    exact kt
  obtain ⟨_, _, ⟨T4, L4, k4, n4⟩, -, X4, ⟨Lc4, hQ4, l4, y4, z4⟩, st4⟩ := Jvm.LawKit.callS X0 hx (y := own_y13) hown (mvT hZ (own_w hw 81 rfl)) (mvT hZ (own_w hw 82 rfl)) (mvT hZ (own_w hw 47 rfl)) (mvT hZ (own_w hw 83 rfl)) (by decide) (backOf (W := 0) (own_rm18k4 l Z a0 hw []  h0 n0 Z0 ) hZ (own_w hw 83 rfl) (own_w hw 47 rfl) (by decide) (by decide)) (g := (mkF m 1 #[rv b, iv 0, iv 4, .unset, .unset] [(.int 4)])) rfl (by rw [hml]; rfl) (argsL := [(.int 4)]) (rest := []) (lenOf own_pd4 rfl) rfl (by show 2 * 0 + _ ≤ _; exact Nat.le_of_eq rfl) (hb hby d17_1) (fun _ _ => ⟨rfl, e0, (by decide : 0 + 1 ≤ _), (by decide : 0 + 8 ≤ _)⟩)
  dsimp only [Pt.U, Pt.locs, Pt.cells, Pt.slots] at X4 l4 y4 z4 st4 hQ4
  subst l4 y4 z4
  obtain ⟨tb1, kt1, rfl, Nq4, gt1, sz1, Kc1, Vc1⟩ := hQ4
  have N5 := Fr.app N0 Nq4
  have S6 : own_G p e below s0 T4 m 4 #[rv b, iv 0, iv 4, .unset, .unset] [(.ref tb1)] := fun t kt => S3 t (st4 _ kt)
  have F7 := V_b.keep Kc1 nin0
  have F8 := own_StaK S_AD Kc1 all0
  have F9 := own_StaK S_HI Kc1 all0
  have F10 := own_StaK S_LO Kc1 all0
  have K11 : Keep h0 T4.heap [] := (Keep.refl h0 []).trans Kc1 all0
  have ne_b_tb1 : b ≠ tb1 := Nat.ne_of_lt (Nat.lt_of_lt_of_le V_b.lt sz1)
  have S12 : own_G p e below s0 T4 m 11 #[rv b, iv 0, iv 4, rv tb1, iv 0] [(.int 4), (.int 0)] := fun t kt => by
    refine S6 t ?_
    refine w_astoreN X4 hx hby d17_4 rfl (l' := #[rv b, iv 0, iv 4, rv tb1, .unset]) rfl ?_
    refine w_iconst X4 hx hby d17_5 ?_
    refine w_istore X4 hx hby d17_6 (l' := #[rv b, iv 0, iv 4, rv tb1, iv 0]) rfl ?_
    refine w_iload X4 hx hby d17_8 rfl ?_
    refine w_iloadN X4 hx hby d17_10 rfl ?_
    exact kt
  have hc11_13 : (0 : Int32) < (4 : Int32) := by decide
  have S15 : own_G p e below s0 T4 m 19 #[rv b, iv 0, iv 4, rv tb1, iv 0] [(.int 0), (.ref b), (.int 0), (.ref tb1)] := fun t kt => by
    refine S12 t ?_
    refine w_icmpNo X4 hx hby d17_11 (tlt hc11_13).2.1 ?_
    refine w_aloadN X4 hx hby d17_14 rfl rfl ?_
    refine w_iload X4 hx hby d17_15 rfl ?_
    refine w_aloadN X4 hx hby d17_17 rfl rfl ?_
    refine w_iloadN X4 hx hby d17_18 rfl ?_
    exact kt
  obtain ⟨cl14, Ar14, -, Sz14, Nn14, Hh14, -⟩ := id F7
  have hin14 : ¬ ((0 : Int32) < 0 ∨ cl14.slots.size ≤ ((0 : Int32)).toNatClampNeg) := inb_of Sz14 ⟨by decide, by decide⟩
  have S18 : own_G p e below s0 T4 m 20 #[rv b, iv 0, iv 4, rv tb1, iv 0] [(.int c0), (.int 0), (.ref tb1)] := fun t kt => by
    refine S15 t ?_
    refine X4.caload hx (j := (0 : Int32)) (v := (.int c0)) Ar14.1 (State.isArrayOf_alike hZ.alike Ar14.2.1) Ar14.2.2 hin14 (Has.at Hh14 hin14 rfl) (g := (mkF m 19 #[rv b, iv 0, iv 4, rv tb1, iv 0] [(.int 0), (.ref b), (.int 0), (.ref tb1)])) rfl rfl (hb hby d17_19) _ ?_
    exact kt
  obtain ⟨_, _, ⟨T19, L19, k19, n19⟩, -, X19, ⟨Lc19, hQ19, l19, y19, z19⟩, st19⟩ := Jvm.LawKit.callS X4 hx (y := own_y15) hown (mvT hZ (own_w hw 88 rfl)) (mvT hZ (own_w hw 89 rfl)) (mvT hZ (own_w hw 47 rfl)) (mvT hZ (own_w hw 90 rfl)) (by decide) (backOf (W := 0) (own_rm20 l Z a0 hw [] (tb1) ((0 : Int32)) (c0) (kt1) ((8 : Int32)) ([(.int 0), (.int 0), (.int 0), (.int 0), (.int 0), (.int 0), (.int 0), (.int 0)]) (0) T4.heap n0 (Nat.le_trans Z0 K11.1) Vc1 gt1 F8 F9 F10 rfl (by decide) (by decide) (Nat.le_of_ble_eq_true rfl)) hZ (own_w hw 90 rfl) (own_w hw 47 rfl) (by decide) (by decide)) (g := (mkF m 20 #[rv b, iv 0, iv 4, rv tb1, iv 0] [(.int c0), (.int 0), (.ref tb1)])) rfl (by rw [hml]; rfl) (argsL := [(.ref tb1), (.int 0), (.int c0)]) (rest := []) (lenOf own_pd5 rfl) rfl (by show 2 * 0 + _ ≤ _; exact Nat.le_of_eq rfl) (hb hby d17_20) (fun _ _ => ⟨rfl, rfl, (by decide : 1 + 0 ≤ _), (by decide : 8 + 0 ≤ _)⟩)
  dsimp only [Pt.U, Pt.locs, Pt.cells, Pt.slots] at X19 l19 y19 z19 st19 hQ19
  subst l19 y19 z19
  obtain ⟨rfl, Nq19, Kc16, Vc16⟩ := hQ19
  have N20 := Fr.app N5 Nq19
  have S21 : own_G p e below s0 T19 m 23 #[rv b, iv 0, iv 4, rv tb1, iv 0] [] := fun t kt => S18 t (st19 _ kt)
  have F22 := F7.keep Kc16 (ninS ne_b_tb1 nin0)
  have F23 := own_StaK F8 Kc16 (allS (own_ArvS Vc1) all0)
  have F24 := own_StaK F9 Kc16 (allS (own_ArvS Vc1) all0)
  have F25 := own_StaK F10 Kc16 (allS (own_ArvS Vc1) all0)
  have K26 : Keep h0 T19.heap [] := K11.trans Kc16 (allS (Or.inr (Nat.le_trans (Keep.refl h0 []).1 sz1)) all0)
  have Vd16 : Arv Z T19.heap tb1 kt1 .byte (8 : Int32) [(.int (own_lo c0)), (.int (own_hi c0)), (.int 0), (.int 0), (.int 0), (.int 0), (.int 0), (.int 0)] (.int 0) := Vc16
  have S27 : own_G p e below s0 T19 m 11 #[rv b, iv 1, iv 4, rv tb1, iv 1] [(.int 4), (.int 1)] := fun t kt => by
    refine S21 t ?_
    refine w_iinc X19 hx hby d17_23 rfl (l' := #[rv b, iv 1, iv 4, rv tb1, iv 0]) rfl ?_
    refine w_iinc X19 hx hby d17_26 rfl (l' := #[rv b, iv 1, iv 4, rv tb1, iv 1]) rfl ?_
    refine w_goto X19 hx hby (pc' := 8) d17_29 (by decide) ?_
    refine w_iload X19 hx hby d17_8 rfl ?_
    refine w_iloadN X19 hx hby d17_10 rfl ?_
    exact kt
  have hc11_28 : (1 : Int32) < (4 : Int32) := by decide
  have S30 : own_G p e below s0 T19 m 19 #[rv b, iv 1, iv 4, rv tb1, iv 1] [(.int 1), (.ref b), (.int 1), (.ref tb1)] := fun t kt => by
    refine S27 t ?_
    refine w_icmpNo X19 hx hby d17_11 (tlt hc11_28).2.1 ?_
    refine w_aloadN X19 hx hby d17_14 rfl rfl ?_
    refine w_iload X19 hx hby d17_15 rfl ?_
    refine w_aloadN X19 hx hby d17_17 rfl rfl ?_
    refine w_iloadN X19 hx hby d17_18 rfl ?_
    exact kt
  obtain ⟨cl29, Ar29, -, Sz29, Nn29, Hh29, -⟩ := id F22
  have hin29 : ¬ ((1 : Int32) < 0 ∨ cl29.slots.size ≤ ((1 : Int32)).toNatClampNeg) := inb_of Sz29 ⟨by decide, by decide⟩
  have S33 : own_G p e below s0 T19 m 20 #[rv b, iv 1, iv 4, rv tb1, iv 1] [(.int c1), (.int 1), (.ref tb1)] := fun t kt => by
    refine S30 t ?_
    refine X19.caload hx (j := (1 : Int32)) (v := (.int c1)) Ar29.1 (State.isArrayOf_alike hZ.alike Ar29.2.1) Ar29.2.2 hin29 (Has.at Hh29 hin29 rfl) (g := (mkF m 19 #[rv b, iv 1, iv 4, rv tb1, iv 1] [(.int 1), (.ref b), (.int 1), (.ref tb1)])) rfl rfl (hb hby d17_19) _ ?_
    exact kt
  obtain ⟨_, _, ⟨T34, L34, k34, n34⟩, -, X34, ⟨Lc34, hQ34, l34, y34, z34⟩, st34⟩ := Jvm.LawKit.callS X19 hx (y := own_y15) hown (mvT hZ (own_w hw 88 rfl)) (mvT hZ (own_w hw 89 rfl)) (mvT hZ (own_w hw 47 rfl)) (mvT hZ (own_w hw 90 rfl)) (by decide) (backOf (W := 0) (own_rm20 l Z a0 hw [] (tb1) ((1 : Int32)) (c1) (kt1) ((8 : Int32)) ([(.int (own_lo c0)), (.int (own_hi c0)), (.int 0), (.int 0), (.int 0), (.int 0), (.int 0), (.int 0)]) (1) T19.heap n0 (Nat.le_trans Z0 K26.1) Vd16 gt1 F23 F24 F25 rfl (by decide) (by decide) (Nat.le_of_ble_eq_true rfl)) hZ (own_w hw 90 rfl) (own_w hw 47 rfl) (by decide) (by decide)) (g := (mkF m 20 #[rv b, iv 1, iv 4, rv tb1, iv 1] [(.int c1), (.int 1), (.ref tb1)])) rfl (by rw [hml]; rfl) (argsL := [(.ref tb1), (.int 1), (.int c1)]) (rest := []) (lenOf own_pd5 rfl) rfl (by show 2 * 0 + _ ≤ _; exact Nat.le_of_eq rfl) (hb hby d17_20) (fun _ _ => ⟨rfl, rfl, (by decide : 1 + 0 ≤ _), (by decide : 8 + 0 ≤ _)⟩)
  dsimp only [Pt.U, Pt.locs, Pt.cells, Pt.slots] at X34 l34 y34 z34 st34 hQ34
  subst l34 y34 z34
  obtain ⟨rfl, Nq34, Kc31, Vc31⟩ := hQ34
  have N35 := Fr.app N20 Nq34
  have S36 : own_G p e below s0 T34 m 23 #[rv b, iv 1, iv 4, rv tb1, iv 1] [] := fun t kt => S33 t (st34 _ kt)
  have F37 := F22.keep Kc31 (ninS ne_b_tb1 nin0)
  have F38 := own_StaK F23 Kc31 (allS (own_ArvS Vd16) all0)
  have F39 := own_StaK F24 Kc31 (allS (own_ArvS Vd16) all0)
  have F40 := own_StaK F25 Kc31 (allS (own_ArvS Vd16) all0)
  have K41 : Keep h0 T34.heap [] := K26.trans Kc31 (allS (Or.inr (Nat.le_trans (Keep.refl h0 []).1 sz1)) all0)
  have Vd31 : Arv Z T34.heap tb1 kt1 .byte (8 : Int32) [(.int (own_lo c0)), (.int (own_hi c0)), (.int (own_lo c1)), (.int (own_hi c1)), (.int 0), (.int 0), (.int 0), (.int 0)] (.int 0) := Vc31
  have S42 : own_G p e below s0 T34 m 11 #[rv b, iv 2, iv 4, rv tb1, iv 2] [(.int 4), (.int 2)] := fun t kt => by
    refine S36 t ?_
    refine w_iinc X34 hx hby d17_23 rfl (l' := #[rv b, iv 2, iv 4, rv tb1, iv 1]) rfl ?_
    refine w_iinc X34 hx hby d17_26 rfl (l' := #[rv b, iv 2, iv 4, rv tb1, iv 2]) rfl ?_
    refine w_goto X34 hx hby (pc' := 8) d17_29 (by decide) ?_
    refine w_iload X34 hx hby d17_8 rfl ?_
    refine w_iloadN X34 hx hby d17_10 rfl ?_
    exact kt
  have hc11_43 : (2 : Int32) < (4 : Int32) := by decide
  have S45 : own_G p e below s0 T34 m 19 #[rv b, iv 2, iv 4, rv tb1, iv 2] [(.int 2), (.ref b), (.int 2), (.ref tb1)] := fun t kt => by
    refine S42 t ?_
    refine w_icmpNo X34 hx hby d17_11 (tlt hc11_43).2.1 ?_
    refine w_aloadN X34 hx hby d17_14 rfl rfl ?_
    refine w_iload X34 hx hby d17_15 rfl ?_
    refine w_aloadN X34 hx hby d17_17 rfl rfl ?_
    refine w_iloadN X34 hx hby d17_18 rfl ?_
    exact kt
  obtain ⟨cl44, Ar44, -, Sz44, Nn44, Hh44, -⟩ := id F37
  have hin44 : ¬ ((2 : Int32) < 0 ∨ cl44.slots.size ≤ ((2 : Int32)).toNatClampNeg) := inb_of Sz44 ⟨by decide, by decide⟩
  have S48 : own_G p e below s0 T34 m 20 #[rv b, iv 2, iv 4, rv tb1, iv 2] [(.int c2), (.int 2), (.ref tb1)] := fun t kt => by
    refine S45 t ?_
    refine X34.caload hx (j := (2 : Int32)) (v := (.int c2)) Ar44.1 (State.isArrayOf_alike hZ.alike Ar44.2.1) Ar44.2.2 hin44 (Has.at Hh44 hin44 rfl) (g := (mkF m 19 #[rv b, iv 2, iv 4, rv tb1, iv 2] [(.int 2), (.ref b), (.int 2), (.ref tb1)])) rfl rfl (hb hby d17_19) _ ?_
    exact kt
  obtain ⟨_, _, ⟨T49, L49, k49, n49⟩, -, X49, ⟨Lc49, hQ49, l49, y49, z49⟩, st49⟩ := Jvm.LawKit.callS X34 hx (y := own_y15) hown (mvT hZ (own_w hw 88 rfl)) (mvT hZ (own_w hw 89 rfl)) (mvT hZ (own_w hw 47 rfl)) (mvT hZ (own_w hw 90 rfl)) (by decide) (backOf (W := 0) (own_rm20 l Z a0 hw [] (tb1) ((2 : Int32)) (c2) (kt1) ((8 : Int32)) ([(.int (own_lo c0)), (.int (own_hi c0)), (.int (own_lo c1)), (.int (own_hi c1)), (.int 0), (.int 0), (.int 0), (.int 0)]) (2) T34.heap n0 (Nat.le_trans Z0 K41.1) Vd31 gt1 F38 F39 F40 rfl (by decide) (by decide) (Nat.le_of_ble_eq_true rfl)) hZ (own_w hw 90 rfl) (own_w hw 47 rfl) (by decide) (by decide)) (g := (mkF m 20 #[rv b, iv 2, iv 4, rv tb1, iv 2] [(.int c2), (.int 2), (.ref tb1)])) rfl (by rw [hml]; rfl) (argsL := [(.ref tb1), (.int 2), (.int c2)]) (rest := []) (lenOf own_pd5 rfl) rfl (by show 2 * 0 + _ ≤ _; exact Nat.le_of_eq rfl) (hb hby d17_20) (fun _ _ => ⟨rfl, rfl, (by decide : 1 + 0 ≤ _), (by decide : 8 + 0 ≤ _)⟩)
  dsimp only [Pt.U, Pt.locs, Pt.cells, Pt.slots] at X49 l49 y49 z49 st49 hQ49
  subst l49 y49 z49
  obtain ⟨rfl, Nq49, Kc46, Vc46⟩ := hQ49
  have N50 := Fr.app N35 Nq49
  have S51 : own_G p e below s0 T49 m 23 #[rv b, iv 2, iv 4, rv tb1, iv 2] [] := fun t kt => S48 t (st49 _ kt)
  have F52 := F37.keep Kc46 (ninS ne_b_tb1 nin0)
  have F53 := own_StaK F38 Kc46 (allS (own_ArvS Vd31) all0)
  have F54 := own_StaK F39 Kc46 (allS (own_ArvS Vd31) all0)
  have F55 := own_StaK F40 Kc46 (allS (own_ArvS Vd31) all0)
  have K56 : Keep h0 T49.heap [] := K41.trans Kc46 (allS (Or.inr (Nat.le_trans (Keep.refl h0 []).1 sz1)) all0)
  have Vd46 : Arv Z T49.heap tb1 kt1 .byte (8 : Int32) [(.int (own_lo c0)), (.int (own_hi c0)), (.int (own_lo c1)), (.int (own_hi c1)), (.int (own_lo c2)), (.int (own_hi c2)), (.int 0), (.int 0)] (.int 0) := Vc46
  have S57 : own_G p e below s0 T49 m 11 #[rv b, iv 3, iv 4, rv tb1, iv 3] [(.int 4), (.int 3)] := fun t kt => by
    refine S51 t ?_
    refine w_iinc X49 hx hby d17_23 rfl (l' := #[rv b, iv 3, iv 4, rv tb1, iv 2]) rfl ?_
    refine w_iinc X49 hx hby d17_26 rfl (l' := #[rv b, iv 3, iv 4, rv tb1, iv 3]) rfl ?_
    refine w_goto X49 hx hby (pc' := 8) d17_29 (by decide) ?_
    refine w_iload X49 hx hby d17_8 rfl ?_
    refine w_iloadN X49 hx hby d17_10 rfl ?_
    exact kt
  have hc11_58 : (3 : Int32) < (4 : Int32) := by decide
  have S60 : own_G p e below s0 T49 m 19 #[rv b, iv 3, iv 4, rv tb1, iv 3] [(.int 3), (.ref b), (.int 3), (.ref tb1)] := fun t kt => by
    refine S57 t ?_
    refine w_icmpNo X49 hx hby d17_11 (tlt hc11_58).2.1 ?_
    refine w_aloadN X49 hx hby d17_14 rfl rfl ?_
    refine w_iload X49 hx hby d17_15 rfl ?_
    refine w_aloadN X49 hx hby d17_17 rfl rfl ?_
    refine w_iloadN X49 hx hby d17_18 rfl ?_
    exact kt
  obtain ⟨cl59, Ar59, -, Sz59, Nn59, Hh59, -⟩ := id F52
  have hin59 : ¬ ((3 : Int32) < 0 ∨ cl59.slots.size ≤ ((3 : Int32)).toNatClampNeg) := inb_of Sz59 ⟨by decide, by decide⟩
  have S63 : own_G p e below s0 T49 m 20 #[rv b, iv 3, iv 4, rv tb1, iv 3] [(.int c3), (.int 3), (.ref tb1)] := fun t kt => by
    refine S60 t ?_
    refine X49.caload hx (j := (3 : Int32)) (v := (.int c3)) Ar59.1 (State.isArrayOf_alike hZ.alike Ar59.2.1) Ar59.2.2 hin59 (Has.at Hh59 hin59 rfl) (g := (mkF m 19 #[rv b, iv 3, iv 4, rv tb1, iv 3] [(.int 3), (.ref b), (.int 3), (.ref tb1)])) rfl rfl (hb hby d17_19) _ ?_
    exact kt
  obtain ⟨_, _, ⟨T64, L64, k64, n64⟩, -, X64, ⟨Lc64, hQ64, l64, y64, z64⟩, st64⟩ := Jvm.LawKit.callS X49 hx (y := own_y15) hown (mvT hZ (own_w hw 88 rfl)) (mvT hZ (own_w hw 89 rfl)) (mvT hZ (own_w hw 47 rfl)) (mvT hZ (own_w hw 90 rfl)) (by decide) (backOf (W := 0) (own_rm20 l Z a0 hw [] (tb1) ((3 : Int32)) (c3) (kt1) ((8 : Int32)) ([(.int (own_lo c0)), (.int (own_hi c0)), (.int (own_lo c1)), (.int (own_hi c1)), (.int (own_lo c2)), (.int (own_hi c2)), (.int 0), (.int 0)]) (3) T49.heap n0 (Nat.le_trans Z0 K56.1) Vd46 gt1 F53 F54 F55 rfl (by decide) (by decide) (Nat.le_of_ble_eq_true rfl)) hZ (own_w hw 90 rfl) (own_w hw 47 rfl) (by decide) (by decide)) (g := (mkF m 20 #[rv b, iv 3, iv 4, rv tb1, iv 3] [(.int c3), (.int 3), (.ref tb1)])) rfl (by rw [hml]; rfl) (argsL := [(.ref tb1), (.int 3), (.int c3)]) (rest := []) (lenOf own_pd5 rfl) rfl (by show 2 * 0 + _ ≤ _; exact Nat.le_of_eq rfl) (hb hby d17_20) (fun _ _ => ⟨rfl, rfl, (by decide : 1 + 0 ≤ _), (by decide : 8 + 0 ≤ _)⟩)
  dsimp only [Pt.U, Pt.locs, Pt.cells, Pt.slots] at X64 l64 y64 z64 st64 hQ64
  subst l64 y64 z64
  obtain ⟨rfl, Nq64, Kc61, Vc61⟩ := hQ64
  have N65 := Fr.app N50 Nq64
  have S66 : own_G p e below s0 T64 m 23 #[rv b, iv 3, iv 4, rv tb1, iv 3] [] := fun t kt => S63 t (st64 _ kt)
  have F67 := F52.keep Kc61 (ninS ne_b_tb1 nin0)
  have F68 := own_StaK F53 Kc61 (allS (own_ArvS Vd46) all0)
  have F69 := own_StaK F54 Kc61 (allS (own_ArvS Vd46) all0)
  have F70 := own_StaK F55 Kc61 (allS (own_ArvS Vd46) all0)
  have K71 : Keep h0 T64.heap [] := K56.trans Kc61 (allS (Or.inr (Nat.le_trans (Keep.refl h0 []).1 sz1)) all0)
  have Vd61 : Arv Z T64.heap tb1 kt1 .byte (8 : Int32) [(.int (own_lo c0)), (.int (own_hi c0)), (.int (own_lo c1)), (.int (own_hi c1)), (.int (own_lo c2)), (.int (own_hi c2)), (.int (own_lo c3)), (.int (own_hi c3))] (.int 0) := Vc61
  have S72 : own_G p e below s0 T64 m 11 #[rv b, iv 4, iv 4, rv tb1, iv 4] [(.int 4), (.int 4)] := fun t kt => by
    refine S66 t ?_
    refine w_iinc X64 hx hby d17_23 rfl (l' := #[rv b, iv 4, iv 4, rv tb1, iv 3]) rfl ?_
    refine w_iinc X64 hx hby d17_26 rfl (l' := #[rv b, iv 4, iv 4, rv tb1, iv 4]) rfl ?_
    refine w_goto X64 hx hby (pc' := 8) d17_29 (by decide) ?_
    refine w_iload X64 hx hby d17_8 rfl ?_
    refine w_iloadN X64 hx hby d17_10 rfl ?_
    exact kt
  have hc11_73 : ¬ ((4 : Int32) < (4 : Int32)) := by decide
  have S74 : own_G p e below s0 T64 m 33 #[rv b, iv 4, iv 4, rv tb1, iv 4] [(.ref tb1)] := fun t kt => by
    refine S72 t ?_
    refine w_icmpYes X64 hx hby (pc' := 32) d17_11 (flt hc11_73).2.1 (by decide) ?_
    refine w_aloadN X64 hx hby d17_32 rfl rfl ?_
    exact kt
  obtain ⟨fs, hr, hrun, hended, hW, hsame⟩ := X64.leave (v := some (.ref tb1)) (fun h => by rw [Bd.returns] at h; cases h)
  refine ⟨_, _, S74 _ ?_, hrun, hended, _, _, rfl, ?_, ⟨_, rfl⟩, hW, hsame.mono (by decide) (by decide)⟩
  · show Steps p.tables e below (T64.setTop (mkF m 33 #[rv b, iv 4, iv 4, rv tb1, iv 4] [(.ref tb1)])) _
    jvm_step X64.here [X64.here.top, hx, (hb hby d17_33), X64.method', Bd.returns, Value.isRef, FieldType.isReference]
    first | (intro acts; rw [hr _ acts rfl rfl rfl]) | rw [hr _ _ rfl rfl rfl]
    exact Steps.refl _
  · show own_Q17k4 Z b c0 c1 c2 c3 kb h0 n0 _ T64.heap _
    exact ⟨tb1, kt1, rfl, N65, gt1, (Nat.le_trans (Keep.refl h0 []).1 sz1), K71, Vd61⟩
theorem own_ef19k3 (m : MethodId) (x0 : Int32) : entryFrame m #[(.int x0)] 1 = mkF m 0 #[iv x0] [] := by first | (simp [entryFrame, mkF, argsToLocals, Value.category]; done) | rfl
def own_Q19k3 (Z : State)  (h0 : Heap) (n0 : Nat) (v : Option Value) (h : Heap) (L : List Loc) : Prop := v = some (.int 6) ∧ L = [] ∧ h = h0
set_option maxHeartbeats 40000000 in
theorem own_rm19k3 (l : Launch) (Z : State) (a0 : Array Value) (hw : ∀ d ∈ tables_1, d.before a0 Z = true) (ws : List Jvm.Cond)  (h0 : Heap) (n0 : Nat) (Z0 : n0 ≤ h0.size) :
    MetFree l own_y10 (head1 (Jvm.Cond.code own_y10 jdk_52_method_3_code 1 (some .int) :: ws) ({ frames := 0, cells := 0, slots := 0, locals := 0 } : Room)) (fun argv U => argv = #[(.int 3)] ∧ Z.Warmed39 U.vm ∧ U.heap = h0) (fun _ _ _ _ _ => True) (fun _ U o U' => ∃ v L, o = .returned v ∧ own_Q19k3 Z  h0 n0 v U'.heap L ∧ FrameEnd U o U' L ({ frames := 0, cells := 0, slots := 0, locals := 0 } : Room).cells ({ frames := 0, cells := 0, slots := 0, locals := 0 } : Room).slots) := by
  refine MetFree.of_bodySF (plainFor_of_name own_pn2) hisR ?_
  intro p e s m args below meth c s₁ Bd hml0 hP hK
  obtain ⟨rfl, hZ, hh⟩ := hP
  have hx := Bd.exec
  have hby := Bd.bytes
  have hml : c.maxLocals = 1 := hml0
  have hown : s.vm.findClass own_s2 = some m.cls := findClass_of_methodNamed Bd.named
  have hnm := (name_of_methodNamed Bd.named Bd.method).1
  have X0 : Stand p l e ({ frames := 0, cells := 0, slots := 0, locals := 0 } : Room) s m #[(.int 3)] below meth c s₁ [] 0 0 := Stand.of_body Bd
  have e0 : s₁.heap = h0 := by rw [← hh, Bd.state]; rfl
  have N0 := Fr.nil n0
  have pre_ : own_G p e below (s₁.setTop (entryFrame m #[(.int 3)] 1)) s₁ m 0 #[iv 3] [] := fun t k => castTop (own_ef19k3 m (3 : Int32)) k
  obtain ⟨s0, hs0⟩ : ∃ z, z = (s₁.setTop (entryFrame m #[(.int 3)] 1)) := ⟨_, rfl⟩
  have pre0 : own_G p e below s0 s₁ m 0 #[iv 3] [] := hs0 ▸ pre_
  rw [← hs0]
  have S1 : own_G p e below s0 s₁ m 1 #[iv 3] [(.int 3)] := fun t kt => by
    refine pre0 t ?_
    refine w_iloadN X0 hx hby d19_0 rfl ?_
    exact kt
  have hc1_2 : ¬ ((3 : Int32) < (0 : Int32)) := by decide
  have S3 : own_G p e below s0 s₁ m 15 #[iv 3] [(.int 1073741823), (.int 3)] := fun t kt => by
    refine S1 t ?_
    refine w_ifYes X0 hx hby (pc' := 12) d19_1 ((if0 _ _).trans (flt hc1_2).2.1) (by decide) ?_
    refine w_iloadN X0 hx hby d19_12 rfl ?_
    refine X0.ldcInt hx hown (mvT hZ (own_w hw 87 rfl)) (g := (mkF m 13 #[iv 3] [(.int 3)])) rfl (hb hby d19_13) _ ?_
    exact kt
  have hc15_4 : (3 : Int32) < (1073741823 : Int32) := by decide
  have S5 : own_G p e below s0 s₁ m 58 #[iv 3] [(.int 6)] := fun t kt => by
    refine S3 t ?_
    refine w_icmpYes X0 hx hby (pc' := 55) d19_15 (tlt hc15_4).1 (by decide) ?_
    refine w_iloadN X0 hx hby d19_55 rfl ?_
    refine w_iconst X0 hx hby d19_56 ?_
    refine XS.ishl X0.here hx rfl (hb hby d19_57) rfl ?_
    exact kt
  obtain ⟨fs, hr, hrun, hended, hW, hsame⟩ := X0.leave (v := some (.int 6)) (fun h => by rw [Bd.returns] at h; cases h)
  refine ⟨_, _, S5 _ ?_, hrun, hended, _, _, rfl, ?_, ⟨_, rfl⟩, hW, hsame.mono (by decide) (by decide)⟩
  · show Steps p.tables e below (s₁.setTop (mkF m 58 #[iv 3] [(.int 6)])) _
    exact own_retI X0 hx Bd.returns (hb hby d19_58) hr
  · show own_Q19k3 Z  h0 n0 _ s₁.heap _
    rw [e0]
    exact ⟨rfl, rfl, rfl⟩
theorem own_ef18k3 (m : MethodId) (x0 : Int32) : entryFrame m #[(.int x0)] 1 = mkF m 0 #[iv x0] [] := by first | (simp [entryFrame, mkF, argsToLocals, Value.category]; done) | rfl
def own_Q18k3 (Z : State)  (h0 : Heap) (n0 : Nat) (v : Option Value) (h : Heap) (L : List Loc) : Prop := ∃ (tb : Addr) (kt : ClassId), v = some (.ref tb) ∧ Fr n0 L ∧ n0 ≤ tb ∧ h0.size ≤ tb ∧ Keep h0 h [] ∧ Arv Z h tb kt .byte (6 : Int32) [(.int 0), (.int 0), (.int 0), (.int 0), (.int 0), (.int 0)] (.int 0)
set_option maxHeartbeats 40000000 in
theorem own_rm18k3 (l : Launch) (Z : State) (a0 : Array Value) (hw : ∀ d ∈ tables_1, d.before a0 Z = true) (ws : List Jvm.Cond)  (h0 : Heap) (n0 : Nat) (Z0 : n0 ≤ h0.size) :
    MetFree l own_y13 (head1 (Jvm.Cond.code own_y13 jdk_52_method_2_code 1 (some (.array .byte)) :: ws) ({ frames := 1, cells := 1, slots := 6, locals := 12 } : Room)) (fun argv U => argv = #[(.int 3)] ∧ Z.Warmed39 U.vm ∧ U.heap = h0) (fun _ _ _ _ _ => True) (fun _ U o U' => ∃ v L, o = .returned v ∧ own_Q18k3 Z  h0 n0 v U'.heap L ∧ FrameEnd U o U' L ({ frames := 1, cells := 1, slots := 6, locals := 12 } : Room).cells ({ frames := 1, cells := 1, slots := 6, locals := 12 } : Room).slots) := by
  refine MetFree.of_bodySF (plainFor_of_name own_pn2) hisR ?_
  intro p e s m args below meth c s₁ Bd hml0 hP hK
  obtain ⟨rfl, hZ, hh⟩ := hP
  have hx := Bd.exec
  have hby := Bd.bytes
  have hml : c.maxLocals = 1 := hml0
  have hown : s.vm.findClass own_s2 = some m.cls := findClass_of_methodNamed Bd.named
  have hnm := (name_of_methodNamed Bd.named Bd.method).1
  have X0 : Stand p l e ({ frames := 1, cells := 1, slots := 6, locals := 12 } : Room) s m #[(.int 3)] below meth c s₁ [] 0 0 := Stand.of_body Bd
  have e0 : s₁.heap = h0 := by rw [← hh, Bd.state]; rfl
  have N0 := Fr.nil n0
  have pre_ : own_G p e below (s₁.setTop (entryFrame m #[(.int 3)] 1)) s₁ m 0 #[iv 3] [] := fun t k => castTop (own_ef18k3 m (3 : Int32)) k
  obtain ⟨s0, hs0⟩ : ∃ z, z = (s₁.setTop (entryFrame m #[(.int 3)] 1)) := ⟨_, rfl⟩
  have pre0 : own_G p e below s0 s₁ m 0 #[iv 3] [] := hs0 ▸ pre_
  rw [← hs0]
  have S2 : own_G p e below s0 s₁ m 1 #[iv 3] [(.int 3)] := fun t kt => by
    refine pre0 t ?_
    refine w_iloadN X0 hx hby d18_0 rfl ?_
    exact kt
  obtain ⟨_, _, ⟨T3, L3, k3, n3⟩, -, X3, ⟨Lc3, hQ3, l3, y3, z3⟩, st3⟩ := Jvm.LawKit.callS X0 hx (y := own_y10) hown (mvT hZ (own_w hw 84 rfl)) (mvT hZ (own_w hw 85 rfl)) (mvT hZ (own_w hw 47 rfl)) (mvT hZ (own_w hw 86 rfl)) (by decide) (backOf (W := 0) (own_rm19k3 l Z a0 hw []  h0 n0 Z0 ) hZ (own_w hw 86 rfl) (own_w hw 47 rfl) (by decide) (by decide)) (g := (mkF m 1 #[iv 3] [(.int 3)])) rfl (by rw [hml]; rfl) (argsL := [(.int 3)]) (rest := []) (lenOf own_pd3 rfl) rfl (by show 2 * 0 + _ ≤ _; exact Nat.le_of_eq rfl) (hb hby d18_1) (fun _ _ => ⟨rfl, e0, (by decide : 0 + 0 ≤ _), (by decide : 0 + 0 ≤ _)⟩)
  dsimp only [Pt.U, Pt.locs, Pt.cells, Pt.slots] at X3 l3 y3 z3 st3 hQ3
  subst l3 y3 z3
  obtain ⟨rfl, rfl, eq1⟩ := hQ3
  try rw [List.append_nil] at X3
  have S4 : own_G p e below s0 T3 m 4 #[iv 3] [(.int 6)] := fun t kt => S2 t (st3 _ kt)
  obtain ⟨T5, h5, k5, X5, e5, E5, A5, st5⟩ := newP X3 hx hZ (own_w hw 23 rfl) eq1 (g := (mkF m 4 #[iv 3] [(.int 6)])) rfl (hb hby d18_4) rfl (by decide) (cap := 6) (by decide) (by decide) (by decide) (by decide)
  obtain ⟨b5, g5⟩ : ∃ z, z = h0.size := ⟨_, rfl⟩
  rw [← g5] at A5 st5
  have S6 : own_G p e below s0 T5 m 6 #[iv 3] [(.ref b5)] := fun t kt => S4 t (st5 _ kt)
  have g_b5 : n0 ≤ b5 := Nat.le_trans Z0 (Nat.le_of_eq g5.symm)
  have sz_b5 : h0.size ≤ b5 := Nat.le_trans (Keep.refl h0 []).1 (Nat.le_of_eq g5.symm)
  have K7 : Keep h0 h5 [] := (Keep.refl h0 []).ext E5
  have V8 : Arv Z h5 b5 k5 .byte (6 : Int32) [(.int 0), (.int 0), (.int 0), (.int 0), (.int 0), (.int 0)] (.int 0) := (Arv.new A5 (by decide)).pad (pad_rep [] (.int 0) 6)
  obtain ⟨fs, hr, hrun, hended, hW, hsame⟩ := X5.leave (v := some (.ref b5)) (fun h => by rw [Bd.returns] at h; cases h)
  refine ⟨_, _, S6 _ ?_, hrun, hended, _, _, rfl, ?_, ⟨_, rfl⟩, hW, hsame.mono (by decide) (by decide)⟩
  · show Steps p.tables e below (T5.setTop (mkF m 6 #[iv 3] [(.ref b5)])) _
    jvm_step X5.here [X5.here.top, hx, (hb hby d18_6), X5.method', Bd.returns, Value.isRef, FieldType.isReference]
    first | (intro acts; rw [hr _ acts rfl rfl rfl]) | rw [hr _ _ rfl rfl rfl]
    exact Steps.refl _
  · show own_Q18k3 Z  h0 n0 _ T5.heap _
    rw [e5]
    exact ⟨b5, k5, rfl, N0, g_b5, sz_b5, K7, V8⟩
theorem own_ef17k3 (m : MethodId) (x0 : Addr) (x1 : Int32) (x2 : Int32) : entryFrame m #[(.ref x0), (.int x1), (.int x2)] 5 = mkF m 0 #[rv x0, iv x1, iv x2, .unset, .unset] [] := by first | (simp [entryFrame, mkF, argsToLocals, Value.category]; done) | rfl
def own_Q17k3 (Z : State) (b : Addr) (c0 : Int32) (c1 : Int32) (c2 : Int32) (kb : ClassId) (h0 : Heap) (n0 : Nat) (v : Option Value) (h : Heap) (L : List Loc) : Prop := ∃ (tb : Addr) (kt : ClassId), v = some (.ref tb) ∧ Fr n0 L ∧ n0 ≤ tb ∧ h0.size ≤ tb ∧ Keep h0 h [] ∧ Arv Z h tb kt .byte (6 : Int32) [(.int (own_lo c0)), (.int (own_hi c0)), (.int (own_lo c1)), (.int (own_hi c1)), (.int (own_lo c2)), (.int (own_hi c2))] (.int 0)
set_option maxHeartbeats 40000000 in
theorem own_rm17k3 (l : Launch) (Z : State) (a0 : Array Value) (hw : ∀ d ∈ tables_1, d.before a0 Z = true) (ws : List Jvm.Cond) (b : Addr) (c0 : Int32) (c1 : Int32) (c2 : Int32) (kb : ClassId) (h0 : Heap) (n0 : Nat) (Z0 : n0 ≤ h0.size) (V_b : Arv Z h0 b kb .char (3 : Int32) [(.int c0), (.int c1), (.int c2)] (.int 0)) (S_AD : Sta Z h0 own_s2 own_s3 "Z" (.int 1)) (S_HI : Sta Z h0 own_s2 "HI_BYTE_SHIFT" "I" (.int 0)) (S_LO : Sta Z h0 own_s2 "LO_BYTE_SHIFT" "I" (.int 8)) :
    MetFree l own_y14 (head1 (Jvm.Cond.code own_y14 jdk_52_method_14_code 5 (some (.array .byte)) :: ws) ({ frames := 2, cells := 1, slots := 10, locals := 24 } : Room)) (fun argv U => argv = #[(.ref b), (.int 0), (.int 3)] ∧ Z.Warmed39 U.vm ∧ U.heap = h0) (fun _ _ _ _ _ => True) (fun _ U o U' => ∃ v L, o = .returned v ∧ own_Q17k3 Z b c0 c1 c2 kb h0 n0 v U'.heap L ∧ FrameEnd U o U' L ({ frames := 2, cells := 1, slots := 10, locals := 24 } : Room).cells ({ frames := 2, cells := 1, slots := 10, locals := 24 } : Room).slots) := by
  refine MetFree.of_bodySF (plainFor_of_name own_pn2) hisR ?_
  intro p e s m args below meth c s₁ Bd hml0 hP hK
  obtain ⟨rfl, hZ, hh⟩ := hP
  have hx := Bd.exec
  have hby := Bd.bytes
  have hml : c.maxLocals = 5 := hml0
  have hown : s.vm.findClass own_s2 = some m.cls := findClass_of_methodNamed Bd.named
  have hnm := (name_of_methodNamed Bd.named Bd.method).1
  have X0 : Stand p l e ({ frames := 2, cells := 1, slots := 10, locals := 24 } : Room) s m #[(.ref b), (.int 0), (.int 3)] below meth c s₁ [] 0 0 := Stand.of_body Bd
  have e0 : s₁.heap = h0 := by rw [← hh, Bd.state]; rfl
  have N0 := Fr.nil n0
  have pre_ : own_G p e below (s₁.setTop (entryFrame m #[(.ref b), (.int 0), (.int 3)] 5)) s₁ m 0 #[rv b, iv 0, iv 3, .unset, .unset] [] := fun t k => castTop (own_ef17k3 m b (0 : Int32) (3 : Int32)) k
  obtain ⟨s0, hs0⟩ : ∃ z, z = (s₁.setTop (entryFrame m #[(.ref b), (.int 0), (.int 3)] 5)) := ⟨_, rfl⟩
  have pre0 : own_G p e below s0 s₁ m 0 #[rv b, iv 0, iv 3, .unset, .unset] [] := hs0 ▸ pre_
  rw [← hs0]
  have S3 : own_G p e below s0 s₁ m 1 #[rv b, iv 0, iv 3, .unset, .unset] [(.int 3)] := fun t kt => by
    refine pre0 t ?_
    refine w_iloadN X0 hx hby d17_0 rfl ?_
    exact kt
  obtain ⟨_, _, ⟨T4, L4, k4, n4⟩, -, X4, ⟨Lc4, hQ4, l4, y4, z4⟩, st4⟩ := Jvm.LawKit.callS X0 hx (y := own_y13) hown (mvT hZ (own_w hw 81 rfl)) (mvT hZ (own_w hw 82 rfl)) (mvT hZ (own_w hw 47 rfl)) (mvT hZ (own_w hw 83 rfl)) (by decide) (backOf (W := 0) (own_rm18k3 l Z a0 hw []  h0 n0 Z0 ) hZ (own_w hw 83 rfl) (own_w hw 47 rfl) (by decide) (by decide)) (g := (mkF m 1 #[rv b, iv 0, iv 3, .unset, .unset] [(.int 3)])) rfl (by rw [hml]; rfl) (argsL := [(.int 3)]) (rest := []) (lenOf own_pd4 rfl) rfl (by show 2 * 0 + _ ≤ _; exact Nat.le_of_eq rfl) (hb hby d17_1) (fun _ _ => ⟨rfl, e0, (by decide : 0 + 1 ≤ _), (by decide : 0 + 6 ≤ _)⟩)
  dsimp only [Pt.U, Pt.locs, Pt.cells, Pt.slots] at X4 l4 y4 z4 st4 hQ4
  subst l4 y4 z4
  obtain ⟨tb1, kt1, rfl, Nq4, gt1, sz1, Kc1, Vc1⟩ := hQ4
  have N5 := Fr.app N0 Nq4
  have S6 : own_G p e below s0 T4 m 4 #[rv b, iv 0, iv 3, .unset, .unset] [(.ref tb1)] := fun t kt => S3 t (st4 _ kt)
  have F7 := V_b.keep Kc1 nin0
  have F8 := own_StaK S_AD Kc1 all0
  have F9 := own_StaK S_HI Kc1 all0
  have F10 := own_StaK S_LO Kc1 all0
  have K11 : Keep h0 T4.heap [] := (Keep.refl h0 []).trans Kc1 all0
  have ne_b_tb1 : b ≠ tb1 := Nat.ne_of_lt (Nat.lt_of_lt_of_le V_b.lt sz1)
  have S12 : own_G p e below s0 T4 m 11 #[rv b, iv 0, iv 3, rv tb1, iv 0] [(.int 3), (.int 0)] := fun t kt => by
    refine S6 t ?_
    refine w_astoreN X4 hx hby d17_4 rfl (l' := #[rv b, iv 0, iv 3, rv tb1, .unset]) rfl ?_
    refine w_iconst X4 hx hby d17_5 ?_
    refine w_istore X4 hx hby d17_6 (l' := #[rv b, iv 0, iv 3, rv tb1, iv 0]) rfl ?_
    refine w_iload X4 hx hby d17_8 rfl ?_
    refine w_iloadN X4 hx hby d17_10 rfl ?_
    exact kt
  have hc11_13 : (0 : Int32) < (3 : Int32) := by decide
  have S15 : own_G p e below s0 T4 m 19 #[rv b, iv 0, iv 3, rv tb1, iv 0] [(.int 0), (.ref b), (.int 0), (.ref tb1)] := fun t kt => by
    refine S12 t ?_
    refine w_icmpNo X4 hx hby d17_11 (tlt hc11_13).2.1 ?_
    refine w_aloadN X4 hx hby d17_14 rfl rfl ?_
    refine w_iload X4 hx hby d17_15 rfl ?_
    refine w_aloadN X4 hx hby d17_17 rfl rfl ?_
    refine w_iloadN X4 hx hby d17_18 rfl ?_
    exact kt
  obtain ⟨cl14, Ar14, -, Sz14, Nn14, Hh14, -⟩ := id F7
  have hin14 : ¬ ((0 : Int32) < 0 ∨ cl14.slots.size ≤ ((0 : Int32)).toNatClampNeg) := inb_of Sz14 ⟨by decide, by decide⟩
  have S18 : own_G p e below s0 T4 m 20 #[rv b, iv 0, iv 3, rv tb1, iv 0] [(.int c0), (.int 0), (.ref tb1)] := fun t kt => by
    refine S15 t ?_
    refine X4.caload hx (j := (0 : Int32)) (v := (.int c0)) Ar14.1 (State.isArrayOf_alike hZ.alike Ar14.2.1) Ar14.2.2 hin14 (Has.at Hh14 hin14 rfl) (g := (mkF m 19 #[rv b, iv 0, iv 3, rv tb1, iv 0] [(.int 0), (.ref b), (.int 0), (.ref tb1)])) rfl rfl (hb hby d17_19) _ ?_
    exact kt
  obtain ⟨_, _, ⟨T19, L19, k19, n19⟩, -, X19, ⟨Lc19, hQ19, l19, y19, z19⟩, st19⟩ := Jvm.LawKit.callS X4 hx (y := own_y15) hown (mvT hZ (own_w hw 88 rfl)) (mvT hZ (own_w hw 89 rfl)) (mvT hZ (own_w hw 47 rfl)) (mvT hZ (own_w hw 90 rfl)) (by decide) (backOf (W := 0) (own_rm20 l Z a0 hw [] (tb1) ((0 : Int32)) (c0) (kt1) ((6 : Int32)) ([(.int 0), (.int 0), (.int 0), (.int 0), (.int 0), (.int 0)]) (0) T4.heap n0 (Nat.le_trans Z0 K11.1) Vc1 gt1 F8 F9 F10 rfl (by decide) (by decide) (Nat.le_of_ble_eq_true rfl)) hZ (own_w hw 90 rfl) (own_w hw 47 rfl) (by decide) (by decide)) (g := (mkF m 20 #[rv b, iv 0, iv 3, rv tb1, iv 0] [(.int c0), (.int 0), (.ref tb1)])) rfl (by rw [hml]; rfl) (argsL := [(.ref tb1), (.int 0), (.int c0)]) (rest := []) (lenOf own_pd5 rfl) rfl (by show 2 * 0 + _ ≤ _; exact Nat.le_of_eq rfl) (hb hby d17_20) (fun _ _ => ⟨rfl, rfl, (by decide : 1 + 0 ≤ _), (by decide : 6 + 0 ≤ _)⟩)
  dsimp only [Pt.U, Pt.locs, Pt.cells, Pt.slots] at X19 l19 y19 z19 st19 hQ19
  subst l19 y19 z19
  obtain ⟨rfl, Nq19, Kc16, Vc16⟩ := hQ19
  have N20 := Fr.app N5 Nq19
  have S21 : own_G p e below s0 T19 m 23 #[rv b, iv 0, iv 3, rv tb1, iv 0] [] := fun t kt => S18 t (st19 _ kt)
  have F22 := F7.keep Kc16 (ninS ne_b_tb1 nin0)
  have F23 := own_StaK F8 Kc16 (allS (own_ArvS Vc1) all0)
  have F24 := own_StaK F9 Kc16 (allS (own_ArvS Vc1) all0)
  have F25 := own_StaK F10 Kc16 (allS (own_ArvS Vc1) all0)
  have K26 : Keep h0 T19.heap [] := K11.trans Kc16 (allS (Or.inr (Nat.le_trans (Keep.refl h0 []).1 sz1)) all0)
  have Vd16 : Arv Z T19.heap tb1 kt1 .byte (6 : Int32) [(.int (own_lo c0)), (.int (own_hi c0)), (.int 0), (.int 0), (.int 0), (.int 0)] (.int 0) := Vc16
  have S27 : own_G p e below s0 T19 m 11 #[rv b, iv 1, iv 3, rv tb1, iv 1] [(.int 3), (.int 1)] := fun t kt => by
    refine S21 t ?_
    refine w_iinc X19 hx hby d17_23 rfl (l' := #[rv b, iv 1, iv 3, rv tb1, iv 0]) rfl ?_
    refine w_iinc X19 hx hby d17_26 rfl (l' := #[rv b, iv 1, iv 3, rv tb1, iv 1]) rfl ?_
    refine w_goto X19 hx hby (pc' := 8) d17_29 (by decide) ?_
    refine w_iload X19 hx hby d17_8 rfl ?_
    refine w_iloadN X19 hx hby d17_10 rfl ?_
    exact kt
  have hc11_28 : (1 : Int32) < (3 : Int32) := by decide
  have S30 : own_G p e below s0 T19 m 19 #[rv b, iv 1, iv 3, rv tb1, iv 1] [(.int 1), (.ref b), (.int 1), (.ref tb1)] := fun t kt => by
    refine S27 t ?_
    refine w_icmpNo X19 hx hby d17_11 (tlt hc11_28).2.1 ?_
    refine w_aloadN X19 hx hby d17_14 rfl rfl ?_
    refine w_iload X19 hx hby d17_15 rfl ?_
    refine w_aloadN X19 hx hby d17_17 rfl rfl ?_
    refine w_iloadN X19 hx hby d17_18 rfl ?_
    exact kt
  obtain ⟨cl29, Ar29, -, Sz29, Nn29, Hh29, -⟩ := id F22
  have hin29 : ¬ ((1 : Int32) < 0 ∨ cl29.slots.size ≤ ((1 : Int32)).toNatClampNeg) := inb_of Sz29 ⟨by decide, by decide⟩
  have S33 : own_G p e below s0 T19 m 20 #[rv b, iv 1, iv 3, rv tb1, iv 1] [(.int c1), (.int 1), (.ref tb1)] := fun t kt => by
    refine S30 t ?_
    refine X19.caload hx (j := (1 : Int32)) (v := (.int c1)) Ar29.1 (State.isArrayOf_alike hZ.alike Ar29.2.1) Ar29.2.2 hin29 (Has.at Hh29 hin29 rfl) (g := (mkF m 19 #[rv b, iv 1, iv 3, rv tb1, iv 1] [(.int 1), (.ref b), (.int 1), (.ref tb1)])) rfl rfl (hb hby d17_19) _ ?_
    exact kt
  obtain ⟨_, _, ⟨T34, L34, k34, n34⟩, -, X34, ⟨Lc34, hQ34, l34, y34, z34⟩, st34⟩ := Jvm.LawKit.callS X19 hx (y := own_y15) hown (mvT hZ (own_w hw 88 rfl)) (mvT hZ (own_w hw 89 rfl)) (mvT hZ (own_w hw 47 rfl)) (mvT hZ (own_w hw 90 rfl)) (by decide) (backOf (W := 0) (own_rm20 l Z a0 hw [] (tb1) ((1 : Int32)) (c1) (kt1) ((6 : Int32)) ([(.int (own_lo c0)), (.int (own_hi c0)), (.int 0), (.int 0), (.int 0), (.int 0)]) (1) T19.heap n0 (Nat.le_trans Z0 K26.1) Vd16 gt1 F23 F24 F25 rfl (by decide) (by decide) (Nat.le_of_ble_eq_true rfl)) hZ (own_w hw 90 rfl) (own_w hw 47 rfl) (by decide) (by decide)) (g := (mkF m 20 #[rv b, iv 1, iv 3, rv tb1, iv 1] [(.int c1), (.int 1), (.ref tb1)])) rfl (by rw [hml]; rfl) (argsL := [(.ref tb1), (.int 1), (.int c1)]) (rest := []) (lenOf own_pd5 rfl) rfl (by show 2 * 0 + _ ≤ _; exact Nat.le_of_eq rfl) (hb hby d17_20) (fun _ _ => ⟨rfl, rfl, (by decide : 1 + 0 ≤ _), (by decide : 6 + 0 ≤ _)⟩)
  dsimp only [Pt.U, Pt.locs, Pt.cells, Pt.slots] at X34 l34 y34 z34 st34 hQ34
  subst l34 y34 z34
  obtain ⟨rfl, Nq34, Kc31, Vc31⟩ := hQ34
  have N35 := Fr.app N20 Nq34
  have S36 : own_G p e below s0 T34 m 23 #[rv b, iv 1, iv 3, rv tb1, iv 1] [] := fun t kt => S33 t (st34 _ kt)
  have F37 := F22.keep Kc31 (ninS ne_b_tb1 nin0)
  have F38 := own_StaK F23 Kc31 (allS (own_ArvS Vd16) all0)
  have F39 := own_StaK F24 Kc31 (allS (own_ArvS Vd16) all0)
  have F40 := own_StaK F25 Kc31 (allS (own_ArvS Vd16) all0)
  have K41 : Keep h0 T34.heap [] := K26.trans Kc31 (allS (Or.inr (Nat.le_trans (Keep.refl h0 []).1 sz1)) all0)
  have Vd31 : Arv Z T34.heap tb1 kt1 .byte (6 : Int32) [(.int (own_lo c0)), (.int (own_hi c0)), (.int (own_lo c1)), (.int (own_hi c1)), (.int 0), (.int 0)] (.int 0) := Vc31
  have S42 : own_G p e below s0 T34 m 11 #[rv b, iv 2, iv 3, rv tb1, iv 2] [(.int 3), (.int 2)] := fun t kt => by
    refine S36 t ?_
    refine w_iinc X34 hx hby d17_23 rfl (l' := #[rv b, iv 2, iv 3, rv tb1, iv 1]) rfl ?_
    refine w_iinc X34 hx hby d17_26 rfl (l' := #[rv b, iv 2, iv 3, rv tb1, iv 2]) rfl ?_
    refine w_goto X34 hx hby (pc' := 8) d17_29 (by decide) ?_
    refine w_iload X34 hx hby d17_8 rfl ?_
    refine w_iloadN X34 hx hby d17_10 rfl ?_
    exact kt
  have hc11_43 : (2 : Int32) < (3 : Int32) := by decide
  have S45 : own_G p e below s0 T34 m 19 #[rv b, iv 2, iv 3, rv tb1, iv 2] [(.int 2), (.ref b), (.int 2), (.ref tb1)] := fun t kt => by
    refine S42 t ?_
    refine w_icmpNo X34 hx hby d17_11 (tlt hc11_43).2.1 ?_
    refine w_aloadN X34 hx hby d17_14 rfl rfl ?_
    refine w_iload X34 hx hby d17_15 rfl ?_
    refine w_aloadN X34 hx hby d17_17 rfl rfl ?_
    refine w_iloadN X34 hx hby d17_18 rfl ?_
    exact kt
  obtain ⟨cl44, Ar44, -, Sz44, Nn44, Hh44, -⟩ := id F37
  have hin44 : ¬ ((2 : Int32) < 0 ∨ cl44.slots.size ≤ ((2 : Int32)).toNatClampNeg) := inb_of Sz44 ⟨by decide, by decide⟩
  have S48 : own_G p e below s0 T34 m 20 #[rv b, iv 2, iv 3, rv tb1, iv 2] [(.int c2), (.int 2), (.ref tb1)] := fun t kt => by
    refine S45 t ?_
    refine X34.caload hx (j := (2 : Int32)) (v := (.int c2)) Ar44.1 (State.isArrayOf_alike hZ.alike Ar44.2.1) Ar44.2.2 hin44 (Has.at Hh44 hin44 rfl) (g := (mkF m 19 #[rv b, iv 2, iv 3, rv tb1, iv 2] [(.int 2), (.ref b), (.int 2), (.ref tb1)])) rfl rfl (hb hby d17_19) _ ?_
    exact kt
  obtain ⟨_, _, ⟨T49, L49, k49, n49⟩, -, X49, ⟨Lc49, hQ49, l49, y49, z49⟩, st49⟩ := Jvm.LawKit.callS X34 hx (y := own_y15) hown (mvT hZ (own_w hw 88 rfl)) (mvT hZ (own_w hw 89 rfl)) (mvT hZ (own_w hw 47 rfl)) (mvT hZ (own_w hw 90 rfl)) (by decide) (backOf (W := 0) (own_rm20 l Z a0 hw [] (tb1) ((2 : Int32)) (c2) (kt1) ((6 : Int32)) ([(.int (own_lo c0)), (.int (own_hi c0)), (.int (own_lo c1)), (.int (own_hi c1)), (.int 0), (.int 0)]) (2) T34.heap n0 (Nat.le_trans Z0 K41.1) Vd31 gt1 F38 F39 F40 rfl (by decide) (by decide) (Nat.le_of_ble_eq_true rfl)) hZ (own_w hw 90 rfl) (own_w hw 47 rfl) (by decide) (by decide)) (g := (mkF m 20 #[rv b, iv 2, iv 3, rv tb1, iv 2] [(.int c2), (.int 2), (.ref tb1)])) rfl (by rw [hml]; rfl) (argsL := [(.ref tb1), (.int 2), (.int c2)]) (rest := []) (lenOf own_pd5 rfl) rfl (by show 2 * 0 + _ ≤ _; exact Nat.le_of_eq rfl) (hb hby d17_20) (fun _ _ => ⟨rfl, rfl, (by decide : 1 + 0 ≤ _), (by decide : 6 + 0 ≤ _)⟩)
  dsimp only [Pt.U, Pt.locs, Pt.cells, Pt.slots] at X49 l49 y49 z49 st49 hQ49
  subst l49 y49 z49
  obtain ⟨rfl, Nq49, Kc46, Vc46⟩ := hQ49
  have N50 := Fr.app N35 Nq49
  have S51 : own_G p e below s0 T49 m 23 #[rv b, iv 2, iv 3, rv tb1, iv 2] [] := fun t kt => S48 t (st49 _ kt)
  have F52 := F37.keep Kc46 (ninS ne_b_tb1 nin0)
  have F53 := own_StaK F38 Kc46 (allS (own_ArvS Vd31) all0)
  have F54 := own_StaK F39 Kc46 (allS (own_ArvS Vd31) all0)
  have F55 := own_StaK F40 Kc46 (allS (own_ArvS Vd31) all0)
  have K56 : Keep h0 T49.heap [] := K41.trans Kc46 (allS (Or.inr (Nat.le_trans (Keep.refl h0 []).1 sz1)) all0)
  have Vd46 : Arv Z T49.heap tb1 kt1 .byte (6 : Int32) [(.int (own_lo c0)), (.int (own_hi c0)), (.int (own_lo c1)), (.int (own_hi c1)), (.int (own_lo c2)), (.int (own_hi c2))] (.int 0) := Vc46
  have S57 : own_G p e below s0 T49 m 11 #[rv b, iv 3, iv 3, rv tb1, iv 3] [(.int 3), (.int 3)] := fun t kt => by
    refine S51 t ?_
    refine w_iinc X49 hx hby d17_23 rfl (l' := #[rv b, iv 3, iv 3, rv tb1, iv 2]) rfl ?_
    refine w_iinc X49 hx hby d17_26 rfl (l' := #[rv b, iv 3, iv 3, rv tb1, iv 3]) rfl ?_
    refine w_goto X49 hx hby (pc' := 8) d17_29 (by decide) ?_
    refine w_iload X49 hx hby d17_8 rfl ?_
    refine w_iloadN X49 hx hby d17_10 rfl ?_
    exact kt
  have hc11_58 : ¬ ((3 : Int32) < (3 : Int32)) := by decide
  have S59 : own_G p e below s0 T49 m 33 #[rv b, iv 3, iv 3, rv tb1, iv 3] [(.ref tb1)] := fun t kt => by
    refine S57 t ?_
    refine w_icmpYes X49 hx hby (pc' := 32) d17_11 (flt hc11_58).2.1 (by decide) ?_
    refine w_aloadN X49 hx hby d17_32 rfl rfl ?_
    exact kt
  obtain ⟨fs, hr, hrun, hended, hW, hsame⟩ := X49.leave (v := some (.ref tb1)) (fun h => by rw [Bd.returns] at h; cases h)
  refine ⟨_, _, S59 _ ?_, hrun, hended, _, _, rfl, ?_, ⟨_, rfl⟩, hW, hsame.mono (by decide) (by decide)⟩
  · show Steps p.tables e below (T49.setTop (mkF m 33 #[rv b, iv 3, iv 3, rv tb1, iv 3] [(.ref tb1)])) _
    jvm_step X49.here [X49.here.top, hx, (hb hby d17_33), X49.method', Bd.returns, Value.isRef, FieldType.isReference]
    first | (intro acts; rw [hr _ acts rfl rfl rfl]) | rw [hr _ _ rfl rfl rfl]
    exact Steps.refl _
  · show own_Q17k3 Z b c0 c1 c2 kb h0 n0 _ T49.heap _
    exact ⟨tb1, kt1, rfl, N50, gt1, (Nat.le_trans (Keep.refl h0 []).1 sz1), K56, Vd46⟩
theorem own_ef19k2 (m : MethodId) (x0 : Int32) : entryFrame m #[(.int x0)] 1 = mkF m 0 #[iv x0] [] := by first | (simp [entryFrame, mkF, argsToLocals, Value.category]; done) | rfl
def own_Q19k2 (Z : State)  (h0 : Heap) (n0 : Nat) (v : Option Value) (h : Heap) (L : List Loc) : Prop := v = some (.int 4) ∧ L = [] ∧ h = h0
set_option maxHeartbeats 40000000 in
theorem own_rm19k2 (l : Launch) (Z : State) (a0 : Array Value) (hw : ∀ d ∈ tables_1, d.before a0 Z = true) (ws : List Jvm.Cond)  (h0 : Heap) (n0 : Nat) (Z0 : n0 ≤ h0.size) :
    MetFree l own_y10 (head1 (Jvm.Cond.code own_y10 jdk_52_method_3_code 1 (some .int) :: ws) ({ frames := 0, cells := 0, slots := 0, locals := 0 } : Room)) (fun argv U => argv = #[(.int 2)] ∧ Z.Warmed39 U.vm ∧ U.heap = h0) (fun _ _ _ _ _ => True) (fun _ U o U' => ∃ v L, o = .returned v ∧ own_Q19k2 Z  h0 n0 v U'.heap L ∧ FrameEnd U o U' L ({ frames := 0, cells := 0, slots := 0, locals := 0 } : Room).cells ({ frames := 0, cells := 0, slots := 0, locals := 0 } : Room).slots) := by
  refine MetFree.of_bodySF (plainFor_of_name own_pn2) hisR ?_
  intro p e s m args below meth c s₁ Bd hml0 hP hK
  obtain ⟨rfl, hZ, hh⟩ := hP
  have hx := Bd.exec
  have hby := Bd.bytes
  have hml : c.maxLocals = 1 := hml0
  have hown : s.vm.findClass own_s2 = some m.cls := findClass_of_methodNamed Bd.named
  have hnm := (name_of_methodNamed Bd.named Bd.method).1
  have X0 : Stand p l e ({ frames := 0, cells := 0, slots := 0, locals := 0 } : Room) s m #[(.int 2)] below meth c s₁ [] 0 0 := Stand.of_body Bd
  have e0 : s₁.heap = h0 := by rw [← hh, Bd.state]; rfl
  have N0 := Fr.nil n0
  have pre_ : own_G p e below (s₁.setTop (entryFrame m #[(.int 2)] 1)) s₁ m 0 #[iv 2] [] := fun t k => castTop (own_ef19k2 m (2 : Int32)) k
  obtain ⟨s0, hs0⟩ : ∃ z, z = (s₁.setTop (entryFrame m #[(.int 2)] 1)) := ⟨_, rfl⟩
  have pre0 : own_G p e below s0 s₁ m 0 #[iv 2] [] := hs0 ▸ pre_
  rw [← hs0]
  have S1 : own_G p e below s0 s₁ m 1 #[iv 2] [(.int 2)] := fun t kt => by
    refine pre0 t ?_
    refine w_iloadN X0 hx hby d19_0 rfl ?_
    exact kt
  have hc1_2 : ¬ ((2 : Int32) < (0 : Int32)) := by decide
  have S3 : own_G p e below s0 s₁ m 15 #[iv 2] [(.int 1073741823), (.int 2)] := fun t kt => by
    refine S1 t ?_
    refine w_ifYes X0 hx hby (pc' := 12) d19_1 ((if0 _ _).trans (flt hc1_2).2.1) (by decide) ?_
    refine w_iloadN X0 hx hby d19_12 rfl ?_
    refine X0.ldcInt hx hown (mvT hZ (own_w hw 87 rfl)) (g := (mkF m 13 #[iv 2] [(.int 2)])) rfl (hb hby d19_13) _ ?_
    exact kt
  have hc15_4 : (2 : Int32) < (1073741823 : Int32) := by decide
  have S5 : own_G p e below s0 s₁ m 58 #[iv 2] [(.int 4)] := fun t kt => by
    refine S3 t ?_
    refine w_icmpYes X0 hx hby (pc' := 55) d19_15 (tlt hc15_4).1 (by decide) ?_
    refine w_iloadN X0 hx hby d19_55 rfl ?_
    refine w_iconst X0 hx hby d19_56 ?_
    refine XS.ishl X0.here hx rfl (hb hby d19_57) rfl ?_
    exact kt
  obtain ⟨fs, hr, hrun, hended, hW, hsame⟩ := X0.leave (v := some (.int 4)) (fun h => by rw [Bd.returns] at h; cases h)
  refine ⟨_, _, S5 _ ?_, hrun, hended, _, _, rfl, ?_, ⟨_, rfl⟩, hW, hsame.mono (by decide) (by decide)⟩
  · show Steps p.tables e below (s₁.setTop (mkF m 58 #[iv 2] [(.int 4)])) _
    exact own_retI X0 hx Bd.returns (hb hby d19_58) hr
  · show own_Q19k2 Z  h0 n0 _ s₁.heap _
    rw [e0]
    exact ⟨rfl, rfl, rfl⟩
theorem own_ef18k2 (m : MethodId) (x0 : Int32) : entryFrame m #[(.int x0)] 1 = mkF m 0 #[iv x0] [] := by first | (simp [entryFrame, mkF, argsToLocals, Value.category]; done) | rfl
def own_Q18k2 (Z : State)  (h0 : Heap) (n0 : Nat) (v : Option Value) (h : Heap) (L : List Loc) : Prop := ∃ (tb : Addr) (kt : ClassId), v = some (.ref tb) ∧ Fr n0 L ∧ n0 ≤ tb ∧ h0.size ≤ tb ∧ Keep h0 h [] ∧ Arv Z h tb kt .byte (4 : Int32) [(.int 0), (.int 0), (.int 0), (.int 0)] (.int 0)
set_option maxHeartbeats 40000000 in
theorem own_rm18k2 (l : Launch) (Z : State) (a0 : Array Value) (hw : ∀ d ∈ tables_1, d.before a0 Z = true) (ws : List Jvm.Cond)  (h0 : Heap) (n0 : Nat) (Z0 : n0 ≤ h0.size) :
    MetFree l own_y13 (head1 (Jvm.Cond.code own_y13 jdk_52_method_2_code 1 (some (.array .byte)) :: ws) ({ frames := 1, cells := 1, slots := 4, locals := 12 } : Room)) (fun argv U => argv = #[(.int 2)] ∧ Z.Warmed39 U.vm ∧ U.heap = h0) (fun _ _ _ _ _ => True) (fun _ U o U' => ∃ v L, o = .returned v ∧ own_Q18k2 Z  h0 n0 v U'.heap L ∧ FrameEnd U o U' L ({ frames := 1, cells := 1, slots := 4, locals := 12 } : Room).cells ({ frames := 1, cells := 1, slots := 4, locals := 12 } : Room).slots) := by
  refine MetFree.of_bodySF (plainFor_of_name own_pn2) hisR ?_
  intro p e s m args below meth c s₁ Bd hml0 hP hK
  obtain ⟨rfl, hZ, hh⟩ := hP
  have hx := Bd.exec
  have hby := Bd.bytes
  have hml : c.maxLocals = 1 := hml0
  have hown : s.vm.findClass own_s2 = some m.cls := findClass_of_methodNamed Bd.named
  have hnm := (name_of_methodNamed Bd.named Bd.method).1
  have X0 : Stand p l e ({ frames := 1, cells := 1, slots := 4, locals := 12 } : Room) s m #[(.int 2)] below meth c s₁ [] 0 0 := Stand.of_body Bd
  have e0 : s₁.heap = h0 := by rw [← hh, Bd.state]; rfl
  have N0 := Fr.nil n0
  have pre_ : own_G p e below (s₁.setTop (entryFrame m #[(.int 2)] 1)) s₁ m 0 #[iv 2] [] := fun t k => castTop (own_ef18k2 m (2 : Int32)) k
  obtain ⟨s0, hs0⟩ : ∃ z, z = (s₁.setTop (entryFrame m #[(.int 2)] 1)) := ⟨_, rfl⟩
  have pre0 : own_G p e below s0 s₁ m 0 #[iv 2] [] := hs0 ▸ pre_
  rw [← hs0]
  have S2 : own_G p e below s0 s₁ m 1 #[iv 2] [(.int 2)] := fun t kt => by
    refine pre0 t ?_
    refine w_iloadN X0 hx hby d18_0 rfl ?_
    exact kt
  obtain ⟨_, _, ⟨T3, L3, k3, n3⟩, -, X3, ⟨Lc3, hQ3, l3, y3, z3⟩, st3⟩ := Jvm.LawKit.callS X0 hx (y := own_y10) hown (mvT hZ (own_w hw 84 rfl)) (mvT hZ (own_w hw 85 rfl)) (mvT hZ (own_w hw 47 rfl)) (mvT hZ (own_w hw 86 rfl)) (by decide) (backOf (W := 0) (own_rm19k2 l Z a0 hw []  h0 n0 Z0 ) hZ (own_w hw 86 rfl) (own_w hw 47 rfl) (by decide) (by decide)) (g := (mkF m 1 #[iv 2] [(.int 2)])) rfl (by rw [hml]; rfl) (argsL := [(.int 2)]) (rest := []) (lenOf own_pd3 rfl) rfl (by show 2 * 0 + _ ≤ _; exact Nat.le_of_eq rfl) (hb hby d18_1) (fun _ _ => ⟨rfl, e0, (by decide : 0 + 0 ≤ _), (by decide : 0 + 0 ≤ _)⟩)
  dsimp only [Pt.U, Pt.locs, Pt.cells, Pt.slots] at X3 l3 y3 z3 st3 hQ3
  subst l3 y3 z3
  obtain ⟨rfl, rfl, eq1⟩ := hQ3
  try rw [List.append_nil] at X3
  have S4 : own_G p e below s0 T3 m 4 #[iv 2] [(.int 4)] := fun t kt => S2 t (st3 _ kt)
  obtain ⟨T5, h5, k5, X5, e5, E5, A5, st5⟩ := newP X3 hx hZ (own_w hw 23 rfl) eq1 (g := (mkF m 4 #[iv 2] [(.int 4)])) rfl (hb hby d18_4) rfl (by decide) (cap := 4) (by decide) (by decide) (by decide) (by decide)
  obtain ⟨b5, g5⟩ : ∃ z, z = h0.size := ⟨_, rfl⟩
  rw [← g5] at A5 st5
  have S6 : own_G p e below s0 T5 m 6 #[iv 2] [(.ref b5)] := fun t kt => S4 t (st5 _ kt)
  have g_b5 : n0 ≤ b5 := Nat.le_trans Z0 (Nat.le_of_eq g5.symm)
  have sz_b5 : h0.size ≤ b5 := Nat.le_trans (Keep.refl h0 []).1 (Nat.le_of_eq g5.symm)
  have K7 : Keep h0 h5 [] := (Keep.refl h0 []).ext E5
  have V8 : Arv Z h5 b5 k5 .byte (4 : Int32) [(.int 0), (.int 0), (.int 0), (.int 0)] (.int 0) := (Arv.new A5 (by decide)).pad (pad_rep [] (.int 0) 4)
  obtain ⟨fs, hr, hrun, hended, hW, hsame⟩ := X5.leave (v := some (.ref b5)) (fun h => by rw [Bd.returns] at h; cases h)
  refine ⟨_, _, S6 _ ?_, hrun, hended, _, _, rfl, ?_, ⟨_, rfl⟩, hW, hsame.mono (by decide) (by decide)⟩
  · show Steps p.tables e below (T5.setTop (mkF m 6 #[iv 2] [(.ref b5)])) _
    jvm_step X5.here [X5.here.top, hx, (hb hby d18_6), X5.method', Bd.returns, Value.isRef, FieldType.isReference]
    first | (intro acts; rw [hr _ acts rfl rfl rfl]) | rw [hr _ _ rfl rfl rfl]
    exact Steps.refl _
  · show own_Q18k2 Z  h0 n0 _ T5.heap _
    rw [e5]
    exact ⟨b5, k5, rfl, N0, g_b5, sz_b5, K7, V8⟩
theorem own_ef17k2 (m : MethodId) (x0 : Addr) (x1 : Int32) (x2 : Int32) : entryFrame m #[(.ref x0), (.int x1), (.int x2)] 5 = mkF m 0 #[rv x0, iv x1, iv x2, .unset, .unset] [] := by first | (simp [entryFrame, mkF, argsToLocals, Value.category]; done) | rfl
def own_Q17k2 (Z : State) (b : Addr) (c0 : Int32) (c1 : Int32) (kb : ClassId) (h0 : Heap) (n0 : Nat) (v : Option Value) (h : Heap) (L : List Loc) : Prop := ∃ (tb : Addr) (kt : ClassId), v = some (.ref tb) ∧ Fr n0 L ∧ n0 ≤ tb ∧ h0.size ≤ tb ∧ Keep h0 h [] ∧ Arv Z h tb kt .byte (4 : Int32) [(.int (own_lo c0)), (.int (own_hi c0)), (.int (own_lo c1)), (.int (own_hi c1))] (.int 0)
set_option maxHeartbeats 40000000 in
theorem own_rm17k2 (l : Launch) (Z : State) (a0 : Array Value) (hw : ∀ d ∈ tables_1, d.before a0 Z = true) (ws : List Jvm.Cond) (b : Addr) (c0 : Int32) (c1 : Int32) (kb : ClassId) (h0 : Heap) (n0 : Nat) (Z0 : n0 ≤ h0.size) (V_b : Arv Z h0 b kb .char (2 : Int32) [(.int c0), (.int c1)] (.int 0)) (S_AD : Sta Z h0 own_s2 own_s3 "Z" (.int 1)) (S_HI : Sta Z h0 own_s2 "HI_BYTE_SHIFT" "I" (.int 0)) (S_LO : Sta Z h0 own_s2 "LO_BYTE_SHIFT" "I" (.int 8)) :
    MetFree l own_y14 (head1 (Jvm.Cond.code own_y14 jdk_52_method_14_code 5 (some (.array .byte)) :: ws) ({ frames := 2, cells := 1, slots := 10, locals := 24 } : Room)) (fun argv U => argv = #[(.ref b), (.int 0), (.int 2)] ∧ Z.Warmed39 U.vm ∧ U.heap = h0) (fun _ _ _ _ _ => True) (fun _ U o U' => ∃ v L, o = .returned v ∧ own_Q17k2 Z b c0 c1 kb h0 n0 v U'.heap L ∧ FrameEnd U o U' L ({ frames := 2, cells := 1, slots := 10, locals := 24 } : Room).cells ({ frames := 2, cells := 1, slots := 10, locals := 24 } : Room).slots) := by
  refine MetFree.of_bodySF (plainFor_of_name own_pn2) hisR ?_
  intro p e s m args below meth c s₁ Bd hml0 hP hK
  obtain ⟨rfl, hZ, hh⟩ := hP
  have hx := Bd.exec
  have hby := Bd.bytes
  have hml : c.maxLocals = 5 := hml0
  have hown : s.vm.findClass own_s2 = some m.cls := findClass_of_methodNamed Bd.named
  have hnm := (name_of_methodNamed Bd.named Bd.method).1
  have X0 : Stand p l e ({ frames := 2, cells := 1, slots := 10, locals := 24 } : Room) s m #[(.ref b), (.int 0), (.int 2)] below meth c s₁ [] 0 0 := Stand.of_body Bd
  have e0 : s₁.heap = h0 := by rw [← hh, Bd.state]; rfl
  have N0 := Fr.nil n0
  have pre_ : own_G p e below (s₁.setTop (entryFrame m #[(.ref b), (.int 0), (.int 2)] 5)) s₁ m 0 #[rv b, iv 0, iv 2, .unset, .unset] [] := fun t k => castTop (own_ef17k2 m b (0 : Int32) (2 : Int32)) k
  obtain ⟨s0, hs0⟩ : ∃ z, z = (s₁.setTop (entryFrame m #[(.ref b), (.int 0), (.int 2)] 5)) := ⟨_, rfl⟩
  have pre0 : own_G p e below s0 s₁ m 0 #[rv b, iv 0, iv 2, .unset, .unset] [] := hs0 ▸ pre_
  rw [← hs0]
  have S3 : own_G p e below s0 s₁ m 1 #[rv b, iv 0, iv 2, .unset, .unset] [(.int 2)] := fun t kt => by
    refine pre0 t ?_
    refine w_iloadN X0 hx hby d17_0 rfl ?_
    exact kt
  obtain ⟨_, _, ⟨T4, L4, k4, n4⟩, -, X4, ⟨Lc4, hQ4, l4, y4, z4⟩, st4⟩ := Jvm.LawKit.callS X0 hx (y := own_y13) hown (mvT hZ (own_w hw 81 rfl)) (mvT hZ (own_w hw 82 rfl)) (mvT hZ (own_w hw 47 rfl)) (mvT hZ (own_w hw 83 rfl)) (by decide) (backOf (W := 0) (own_rm18k2 l Z a0 hw []  h0 n0 Z0 ) hZ (own_w hw 83 rfl) (own_w hw 47 rfl) (by decide) (by decide)) (g := (mkF m 1 #[rv b, iv 0, iv 2, .unset, .unset] [(.int 2)])) rfl (by rw [hml]; rfl) (argsL := [(.int 2)]) (rest := []) (lenOf own_pd4 rfl) rfl (by show 2 * 0 + _ ≤ _; exact Nat.le_of_eq rfl) (hb hby d17_1) (fun _ _ => ⟨rfl, e0, (by decide : 0 + 1 ≤ _), (by decide : 0 + 4 ≤ _)⟩)
  dsimp only [Pt.U, Pt.locs, Pt.cells, Pt.slots] at X4 l4 y4 z4 st4 hQ4
  subst l4 y4 z4
  obtain ⟨tb1, kt1, rfl, Nq4, gt1, sz1, Kc1, Vc1⟩ := hQ4
  have N5 := Fr.app N0 Nq4
  have S6 : own_G p e below s0 T4 m 4 #[rv b, iv 0, iv 2, .unset, .unset] [(.ref tb1)] := fun t kt => S3 t (st4 _ kt)
  have F7 := V_b.keep Kc1 nin0
  have F8 := own_StaK S_AD Kc1 all0
  have F9 := own_StaK S_HI Kc1 all0
  have F10 := own_StaK S_LO Kc1 all0
  have K11 : Keep h0 T4.heap [] := (Keep.refl h0 []).trans Kc1 all0
  have ne_b_tb1 : b ≠ tb1 := Nat.ne_of_lt (Nat.lt_of_lt_of_le V_b.lt sz1)
  have S12 : own_G p e below s0 T4 m 11 #[rv b, iv 0, iv 2, rv tb1, iv 0] [(.int 2), (.int 0)] := fun t kt => by
    refine S6 t ?_
    refine w_astoreN X4 hx hby d17_4 rfl (l' := #[rv b, iv 0, iv 2, rv tb1, .unset]) rfl ?_
    refine w_iconst X4 hx hby d17_5 ?_
    refine w_istore X4 hx hby d17_6 (l' := #[rv b, iv 0, iv 2, rv tb1, iv 0]) rfl ?_
    refine w_iload X4 hx hby d17_8 rfl ?_
    refine w_iloadN X4 hx hby d17_10 rfl ?_
    exact kt
  have hc11_13 : (0 : Int32) < (2 : Int32) := by decide
  have S15 : own_G p e below s0 T4 m 19 #[rv b, iv 0, iv 2, rv tb1, iv 0] [(.int 0), (.ref b), (.int 0), (.ref tb1)] := fun t kt => by
    refine S12 t ?_
    refine w_icmpNo X4 hx hby d17_11 (tlt hc11_13).2.1 ?_
    refine w_aloadN X4 hx hby d17_14 rfl rfl ?_
    refine w_iload X4 hx hby d17_15 rfl ?_
    refine w_aloadN X4 hx hby d17_17 rfl rfl ?_
    refine w_iloadN X4 hx hby d17_18 rfl ?_
    exact kt
  obtain ⟨cl14, Ar14, -, Sz14, Nn14, Hh14, -⟩ := id F7
  have hin14 : ¬ ((0 : Int32) < 0 ∨ cl14.slots.size ≤ ((0 : Int32)).toNatClampNeg) := inb_of Sz14 ⟨by decide, by decide⟩
  have S18 : own_G p e below s0 T4 m 20 #[rv b, iv 0, iv 2, rv tb1, iv 0] [(.int c0), (.int 0), (.ref tb1)] := fun t kt => by
    refine S15 t ?_
    refine X4.caload hx (j := (0 : Int32)) (v := (.int c0)) Ar14.1 (State.isArrayOf_alike hZ.alike Ar14.2.1) Ar14.2.2 hin14 (Has.at Hh14 hin14 rfl) (g := (mkF m 19 #[rv b, iv 0, iv 2, rv tb1, iv 0] [(.int 0), (.ref b), (.int 0), (.ref tb1)])) rfl rfl (hb hby d17_19) _ ?_
    exact kt
  obtain ⟨_, _, ⟨T19, L19, k19, n19⟩, -, X19, ⟨Lc19, hQ19, l19, y19, z19⟩, st19⟩ := Jvm.LawKit.callS X4 hx (y := own_y15) hown (mvT hZ (own_w hw 88 rfl)) (mvT hZ (own_w hw 89 rfl)) (mvT hZ (own_w hw 47 rfl)) (mvT hZ (own_w hw 90 rfl)) (by decide) (backOf (W := 0) (own_rm20 l Z a0 hw [] (tb1) ((0 : Int32)) (c0) (kt1) ((4 : Int32)) ([(.int 0), (.int 0), (.int 0), (.int 0)]) (0) T4.heap n0 (Nat.le_trans Z0 K11.1) Vc1 gt1 F8 F9 F10 rfl (by decide) (by decide) (Nat.le_of_ble_eq_true rfl)) hZ (own_w hw 90 rfl) (own_w hw 47 rfl) (by decide) (by decide)) (g := (mkF m 20 #[rv b, iv 0, iv 2, rv tb1, iv 0] [(.int c0), (.int 0), (.ref tb1)])) rfl (by rw [hml]; rfl) (argsL := [(.ref tb1), (.int 0), (.int c0)]) (rest := []) (lenOf own_pd5 rfl) rfl (by show 2 * 0 + _ ≤ _; exact Nat.le_of_eq rfl) (hb hby d17_20) (fun _ _ => ⟨rfl, rfl, (by decide : 1 + 0 ≤ _), (by decide : 4 + 0 ≤ _)⟩)
  dsimp only [Pt.U, Pt.locs, Pt.cells, Pt.slots] at X19 l19 y19 z19 st19 hQ19
  subst l19 y19 z19
  obtain ⟨rfl, Nq19, Kc16, Vc16⟩ := hQ19
  have N20 := Fr.app N5 Nq19
  have S21 : own_G p e below s0 T19 m 23 #[rv b, iv 0, iv 2, rv tb1, iv 0] [] := fun t kt => S18 t (st19 _ kt)
  have F22 := F7.keep Kc16 (ninS ne_b_tb1 nin0)
  have F23 := own_StaK F8 Kc16 (allS (own_ArvS Vc1) all0)
  have F24 := own_StaK F9 Kc16 (allS (own_ArvS Vc1) all0)
  have F25 := own_StaK F10 Kc16 (allS (own_ArvS Vc1) all0)
  have K26 : Keep h0 T19.heap [] := K11.trans Kc16 (allS (Or.inr (Nat.le_trans (Keep.refl h0 []).1 sz1)) all0)
  have Vd16 : Arv Z T19.heap tb1 kt1 .byte (4 : Int32) [(.int (own_lo c0)), (.int (own_hi c0)), (.int 0), (.int 0)] (.int 0) := Vc16
  have S27 : own_G p e below s0 T19 m 11 #[rv b, iv 1, iv 2, rv tb1, iv 1] [(.int 2), (.int 1)] := fun t kt => by
    refine S21 t ?_
    refine w_iinc X19 hx hby d17_23 rfl (l' := #[rv b, iv 1, iv 2, rv tb1, iv 0]) rfl ?_
    refine w_iinc X19 hx hby d17_26 rfl (l' := #[rv b, iv 1, iv 2, rv tb1, iv 1]) rfl ?_
    refine w_goto X19 hx hby (pc' := 8) d17_29 (by decide) ?_
    refine w_iload X19 hx hby d17_8 rfl ?_
    refine w_iloadN X19 hx hby d17_10 rfl ?_
    exact kt
  have hc11_28 : (1 : Int32) < (2 : Int32) := by decide
  have S30 : own_G p e below s0 T19 m 19 #[rv b, iv 1, iv 2, rv tb1, iv 1] [(.int 1), (.ref b), (.int 1), (.ref tb1)] := fun t kt => by
    refine S27 t ?_
    refine w_icmpNo X19 hx hby d17_11 (tlt hc11_28).2.1 ?_
    refine w_aloadN X19 hx hby d17_14 rfl rfl ?_
    refine w_iload X19 hx hby d17_15 rfl ?_
    refine w_aloadN X19 hx hby d17_17 rfl rfl ?_
    refine w_iloadN X19 hx hby d17_18 rfl ?_
    exact kt
  obtain ⟨cl29, Ar29, -, Sz29, Nn29, Hh29, -⟩ := id F22
  have hin29 : ¬ ((1 : Int32) < 0 ∨ cl29.slots.size ≤ ((1 : Int32)).toNatClampNeg) := inb_of Sz29 ⟨by decide, by decide⟩
  have S33 : own_G p e below s0 T19 m 20 #[rv b, iv 1, iv 2, rv tb1, iv 1] [(.int c1), (.int 1), (.ref tb1)] := fun t kt => by
    refine S30 t ?_
    refine X19.caload hx (j := (1 : Int32)) (v := (.int c1)) Ar29.1 (State.isArrayOf_alike hZ.alike Ar29.2.1) Ar29.2.2 hin29 (Has.at Hh29 hin29 rfl) (g := (mkF m 19 #[rv b, iv 1, iv 2, rv tb1, iv 1] [(.int 1), (.ref b), (.int 1), (.ref tb1)])) rfl rfl (hb hby d17_19) _ ?_
    exact kt
  obtain ⟨_, _, ⟨T34, L34, k34, n34⟩, -, X34, ⟨Lc34, hQ34, l34, y34, z34⟩, st34⟩ := Jvm.LawKit.callS X19 hx (y := own_y15) hown (mvT hZ (own_w hw 88 rfl)) (mvT hZ (own_w hw 89 rfl)) (mvT hZ (own_w hw 47 rfl)) (mvT hZ (own_w hw 90 rfl)) (by decide) (backOf (W := 0) (own_rm20 l Z a0 hw [] (tb1) ((1 : Int32)) (c1) (kt1) ((4 : Int32)) ([(.int (own_lo c0)), (.int (own_hi c0)), (.int 0), (.int 0)]) (1) T19.heap n0 (Nat.le_trans Z0 K26.1) Vd16 gt1 F23 F24 F25 rfl (by decide) (by decide) (Nat.le_of_ble_eq_true rfl)) hZ (own_w hw 90 rfl) (own_w hw 47 rfl) (by decide) (by decide)) (g := (mkF m 20 #[rv b, iv 1, iv 2, rv tb1, iv 1] [(.int c1), (.int 1), (.ref tb1)])) rfl (by rw [hml]; rfl) (argsL := [(.ref tb1), (.int 1), (.int c1)]) (rest := []) (lenOf own_pd5 rfl) rfl (by show 2 * 0 + _ ≤ _; exact Nat.le_of_eq rfl) (hb hby d17_20) (fun _ _ => ⟨rfl, rfl, (by decide : 1 + 0 ≤ _), (by decide : 4 + 0 ≤ _)⟩)
  dsimp only [Pt.U, Pt.locs, Pt.cells, Pt.slots] at X34 l34 y34 z34 st34 hQ34
  subst l34 y34 z34
  obtain ⟨rfl, Nq34, Kc31, Vc31⟩ := hQ34
  have N35 := Fr.app N20 Nq34
  have S36 : own_G p e below s0 T34 m 23 #[rv b, iv 1, iv 2, rv tb1, iv 1] [] := fun t kt => S33 t (st34 _ kt)
  have F37 := F22.keep Kc31 (ninS ne_b_tb1 nin0)
  have F38 := own_StaK F23 Kc31 (allS (own_ArvS Vd16) all0)
  have F39 := own_StaK F24 Kc31 (allS (own_ArvS Vd16) all0)
  have F40 := own_StaK F25 Kc31 (allS (own_ArvS Vd16) all0)
  have K41 : Keep h0 T34.heap [] := K26.trans Kc31 (allS (Or.inr (Nat.le_trans (Keep.refl h0 []).1 sz1)) all0)
  have Vd31 : Arv Z T34.heap tb1 kt1 .byte (4 : Int32) [(.int (own_lo c0)), (.int (own_hi c0)), (.int (own_lo c1)), (.int (own_hi c1))] (.int 0) := Vc31
  have S42 : own_G p e below s0 T34 m 11 #[rv b, iv 2, iv 2, rv tb1, iv 2] [(.int 2), (.int 2)] := fun t kt => by
    refine S36 t ?_
    refine w_iinc X34 hx hby d17_23 rfl (l' := #[rv b, iv 2, iv 2, rv tb1, iv 1]) rfl ?_
    refine w_iinc X34 hx hby d17_26 rfl (l' := #[rv b, iv 2, iv 2, rv tb1, iv 2]) rfl ?_
    refine w_goto X34 hx hby (pc' := 8) d17_29 (by decide) ?_
    refine w_iload X34 hx hby d17_8 rfl ?_
    refine w_iloadN X34 hx hby d17_10 rfl ?_
    exact kt
  have hc11_43 : ¬ ((2 : Int32) < (2 : Int32)) := by decide
  have S44 : own_G p e below s0 T34 m 33 #[rv b, iv 2, iv 2, rv tb1, iv 2] [(.ref tb1)] := fun t kt => by
    refine S42 t ?_
    refine w_icmpYes X34 hx hby (pc' := 32) d17_11 (flt hc11_43).2.1 (by decide) ?_
    refine w_aloadN X34 hx hby d17_32 rfl rfl ?_
    exact kt
  obtain ⟨fs, hr, hrun, hended, hW, hsame⟩ := X34.leave (v := some (.ref tb1)) (fun h => by rw [Bd.returns] at h; cases h)
  refine ⟨_, _, S44 _ ?_, hrun, hended, _, _, rfl, ?_, ⟨_, rfl⟩, hW, hsame.mono (by decide) (by decide)⟩
  · show Steps p.tables e below (T34.setTop (mkF m 33 #[rv b, iv 2, iv 2, rv tb1, iv 2] [(.ref tb1)])) _
    jvm_step X34.here [X34.here.top, hx, (hb hby d17_33), X34.method', Bd.returns, Value.isRef, FieldType.isReference]
    first | (intro acts; rw [hr _ acts rfl rfl rfl]) | rw [hr _ _ rfl rfl rfl]
    exact Steps.refl _
  · show own_Q17k2 Z b c0 c1 kb h0 n0 _ T34.heap _
    exact ⟨tb1, kt1, rfl, N35, gt1, (Nat.le_trans (Keep.refl h0 []).1 sz1), K41, Vd31⟩
theorem own_ef19k1 (m : MethodId) (x0 : Int32) : entryFrame m #[(.int x0)] 1 = mkF m 0 #[iv x0] [] := by first | (simp [entryFrame, mkF, argsToLocals, Value.category]; done) | rfl
def own_Q19k1 (Z : State)  (h0 : Heap) (n0 : Nat) (v : Option Value) (h : Heap) (L : List Loc) : Prop := v = some (.int 2) ∧ L = [] ∧ h = h0
set_option maxHeartbeats 40000000 in
theorem own_rm19k1 (l : Launch) (Z : State) (a0 : Array Value) (hw : ∀ d ∈ tables_1, d.before a0 Z = true) (ws : List Jvm.Cond)  (h0 : Heap) (n0 : Nat) (Z0 : n0 ≤ h0.size) :
    MetFree l own_y10 (head1 (Jvm.Cond.code own_y10 jdk_52_method_3_code 1 (some .int) :: ws) ({ frames := 0, cells := 0, slots := 0, locals := 0 } : Room)) (fun argv U => argv = #[(.int 1)] ∧ Z.Warmed39 U.vm ∧ U.heap = h0) (fun _ _ _ _ _ => True) (fun _ U o U' => ∃ v L, o = .returned v ∧ own_Q19k1 Z  h0 n0 v U'.heap L ∧ FrameEnd U o U' L ({ frames := 0, cells := 0, slots := 0, locals := 0 } : Room).cells ({ frames := 0, cells := 0, slots := 0, locals := 0 } : Room).slots) := by
  refine MetFree.of_bodySF (plainFor_of_name own_pn2) hisR ?_
  intro p e s m args below meth c s₁ Bd hml0 hP hK
  obtain ⟨rfl, hZ, hh⟩ := hP
  have hx := Bd.exec
  have hby := Bd.bytes
  have hml : c.maxLocals = 1 := hml0
  have hown : s.vm.findClass own_s2 = some m.cls := findClass_of_methodNamed Bd.named
  have hnm := (name_of_methodNamed Bd.named Bd.method).1
  have X0 : Stand p l e ({ frames := 0, cells := 0, slots := 0, locals := 0 } : Room) s m #[(.int 1)] below meth c s₁ [] 0 0 := Stand.of_body Bd
  have e0 : s₁.heap = h0 := by rw [← hh, Bd.state]; rfl
  have N0 := Fr.nil n0
  have pre_ : own_G p e below (s₁.setTop (entryFrame m #[(.int 1)] 1)) s₁ m 0 #[iv 1] [] := fun t k => castTop (own_ef19k1 m (1 : Int32)) k
  obtain ⟨s0, hs0⟩ : ∃ z, z = (s₁.setTop (entryFrame m #[(.int 1)] 1)) := ⟨_, rfl⟩
  have pre0 : own_G p e below s0 s₁ m 0 #[iv 1] [] := hs0 ▸ pre_
  rw [← hs0]
  have S1 : own_G p e below s0 s₁ m 1 #[iv 1] [(.int 1)] := fun t kt => by
    refine pre0 t ?_
    refine w_iloadN X0 hx hby d19_0 rfl ?_
    exact kt
  have hc1_2 : ¬ ((1 : Int32) < (0 : Int32)) := by decide
  have S3 : own_G p e below s0 s₁ m 15 #[iv 1] [(.int 1073741823), (.int 1)] := fun t kt => by
    refine S1 t ?_
    refine w_ifYes X0 hx hby (pc' := 12) d19_1 ((if0 _ _).trans (flt hc1_2).2.1) (by decide) ?_
    refine w_iloadN X0 hx hby d19_12 rfl ?_
    refine X0.ldcInt hx hown (mvT hZ (own_w hw 87 rfl)) (g := (mkF m 13 #[iv 1] [(.int 1)])) rfl (hb hby d19_13) _ ?_
    exact kt
  have hc15_4 : (1 : Int32) < (1073741823 : Int32) := by decide
  have S5 : own_G p e below s0 s₁ m 58 #[iv 1] [(.int 2)] := fun t kt => by
    refine S3 t ?_
    refine w_icmpYes X0 hx hby (pc' := 55) d19_15 (tlt hc15_4).1 (by decide) ?_
    refine w_iloadN X0 hx hby d19_55 rfl ?_
    refine w_iconst X0 hx hby d19_56 ?_
    refine XS.ishl X0.here hx rfl (hb hby d19_57) rfl ?_
    exact kt
  obtain ⟨fs, hr, hrun, hended, hW, hsame⟩ := X0.leave (v := some (.int 2)) (fun h => by rw [Bd.returns] at h; cases h)
  refine ⟨_, _, S5 _ ?_, hrun, hended, _, _, rfl, ?_, ⟨_, rfl⟩, hW, hsame.mono (by decide) (by decide)⟩
  · show Steps p.tables e below (s₁.setTop (mkF m 58 #[iv 1] [(.int 2)])) _
    exact own_retI X0 hx Bd.returns (hb hby d19_58) hr
  · show own_Q19k1 Z  h0 n0 _ s₁.heap _
    rw [e0]
    exact ⟨rfl, rfl, rfl⟩
theorem own_ef18k1 (m : MethodId) (x0 : Int32) : entryFrame m #[(.int x0)] 1 = mkF m 0 #[iv x0] [] := by first | (simp [entryFrame, mkF, argsToLocals, Value.category]; done) | rfl
def own_Q18k1 (Z : State)  (h0 : Heap) (n0 : Nat) (v : Option Value) (h : Heap) (L : List Loc) : Prop := ∃ (tb : Addr) (kt : ClassId), v = some (.ref tb) ∧ Fr n0 L ∧ n0 ≤ tb ∧ h0.size ≤ tb ∧ Keep h0 h [] ∧ Arv Z h tb kt .byte (2 : Int32) [(.int 0), (.int 0)] (.int 0)
set_option maxHeartbeats 40000000 in
theorem own_rm18k1 (l : Launch) (Z : State) (a0 : Array Value) (hw : ∀ d ∈ tables_1, d.before a0 Z = true) (ws : List Jvm.Cond)  (h0 : Heap) (n0 : Nat) (Z0 : n0 ≤ h0.size) :
    MetFree l own_y13 (head1 (Jvm.Cond.code own_y13 jdk_52_method_2_code 1 (some (.array .byte)) :: ws) ({ frames := 1, cells := 1, slots := 2, locals := 12 } : Room)) (fun argv U => argv = #[(.int 1)] ∧ Z.Warmed39 U.vm ∧ U.heap = h0) (fun _ _ _ _ _ => True) (fun _ U o U' => ∃ v L, o = .returned v ∧ own_Q18k1 Z  h0 n0 v U'.heap L ∧ FrameEnd U o U' L ({ frames := 1, cells := 1, slots := 2, locals := 12 } : Room).cells ({ frames := 1, cells := 1, slots := 2, locals := 12 } : Room).slots) := by
  refine MetFree.of_bodySF (plainFor_of_name own_pn2) hisR ?_
  intro p e s m args below meth c s₁ Bd hml0 hP hK
  obtain ⟨rfl, hZ, hh⟩ := hP
  have hx := Bd.exec
  have hby := Bd.bytes
  have hml : c.maxLocals = 1 := hml0
  have hown : s.vm.findClass own_s2 = some m.cls := findClass_of_methodNamed Bd.named
  have hnm := (name_of_methodNamed Bd.named Bd.method).1
  have X0 : Stand p l e ({ frames := 1, cells := 1, slots := 2, locals := 12 } : Room) s m #[(.int 1)] below meth c s₁ [] 0 0 := Stand.of_body Bd
  have e0 : s₁.heap = h0 := by rw [← hh, Bd.state]; rfl
  have N0 := Fr.nil n0
  have pre_ : own_G p e below (s₁.setTop (entryFrame m #[(.int 1)] 1)) s₁ m 0 #[iv 1] [] := fun t k => castTop (own_ef18k1 m (1 : Int32)) k
  obtain ⟨s0, hs0⟩ : ∃ z, z = (s₁.setTop (entryFrame m #[(.int 1)] 1)) := ⟨_, rfl⟩
  have pre0 : own_G p e below s0 s₁ m 0 #[iv 1] [] := hs0 ▸ pre_
  rw [← hs0]
  have S2 : own_G p e below s0 s₁ m 1 #[iv 1] [(.int 1)] := fun t kt => by
    refine pre0 t ?_
    refine w_iloadN X0 hx hby d18_0 rfl ?_
    exact kt
  obtain ⟨_, _, ⟨T3, L3, k3, n3⟩, -, X3, ⟨Lc3, hQ3, l3, y3, z3⟩, st3⟩ := Jvm.LawKit.callS X0 hx (y := own_y10) hown (mvT hZ (own_w hw 84 rfl)) (mvT hZ (own_w hw 85 rfl)) (mvT hZ (own_w hw 47 rfl)) (mvT hZ (own_w hw 86 rfl)) (by decide) (backOf (W := 0) (own_rm19k1 l Z a0 hw []  h0 n0 Z0 ) hZ (own_w hw 86 rfl) (own_w hw 47 rfl) (by decide) (by decide)) (g := (mkF m 1 #[iv 1] [(.int 1)])) rfl (by rw [hml]; rfl) (argsL := [(.int 1)]) (rest := []) (lenOf own_pd3 rfl) rfl (by show 2 * 0 + _ ≤ _; exact Nat.le_of_eq rfl) (hb hby d18_1) (fun _ _ => ⟨rfl, e0, (by decide : 0 + 0 ≤ _), (by decide : 0 + 0 ≤ _)⟩)
  dsimp only [Pt.U, Pt.locs, Pt.cells, Pt.slots] at X3 l3 y3 z3 st3 hQ3
  subst l3 y3 z3
  obtain ⟨rfl, rfl, eq1⟩ := hQ3
  try rw [List.append_nil] at X3
  have S4 : own_G p e below s0 T3 m 4 #[iv 1] [(.int 2)] := fun t kt => S2 t (st3 _ kt)
  obtain ⟨T5, h5, k5, X5, e5, E5, A5, st5⟩ := newP X3 hx hZ (own_w hw 23 rfl) eq1 (g := (mkF m 4 #[iv 1] [(.int 2)])) rfl (hb hby d18_4) rfl (by decide) (cap := 2) (by decide) (by decide) (by decide) (by decide)
  obtain ⟨b5, g5⟩ : ∃ z, z = h0.size := ⟨_, rfl⟩
  rw [← g5] at A5 st5
  have S6 : own_G p e below s0 T5 m 6 #[iv 1] [(.ref b5)] := fun t kt => S4 t (st5 _ kt)
  have g_b5 : n0 ≤ b5 := Nat.le_trans Z0 (Nat.le_of_eq g5.symm)
  have sz_b5 : h0.size ≤ b5 := Nat.le_trans (Keep.refl h0 []).1 (Nat.le_of_eq g5.symm)
  have K7 : Keep h0 h5 [] := (Keep.refl h0 []).ext E5
  have V8 : Arv Z h5 b5 k5 .byte (2 : Int32) [(.int 0), (.int 0)] (.int 0) := (Arv.new A5 (by decide)).pad (pad_rep [] (.int 0) 2)
  obtain ⟨fs, hr, hrun, hended, hW, hsame⟩ := X5.leave (v := some (.ref b5)) (fun h => by rw [Bd.returns] at h; cases h)
  refine ⟨_, _, S6 _ ?_, hrun, hended, _, _, rfl, ?_, ⟨_, rfl⟩, hW, hsame.mono (by decide) (by decide)⟩
  · show Steps p.tables e below (T5.setTop (mkF m 6 #[iv 1] [(.ref b5)])) _
    jvm_step X5.here [X5.here.top, hx, (hb hby d18_6), X5.method', Bd.returns, Value.isRef, FieldType.isReference]
    first | (intro acts; rw [hr _ acts rfl rfl rfl]) | rw [hr _ _ rfl rfl rfl]
    exact Steps.refl _
  · show own_Q18k1 Z  h0 n0 _ T5.heap _
    rw [e5]
    exact ⟨b5, k5, rfl, N0, g_b5, sz_b5, K7, V8⟩
theorem own_ef17k1 (m : MethodId) (x0 : Addr) (x1 : Int32) (x2 : Int32) : entryFrame m #[(.ref x0), (.int x1), (.int x2)] 5 = mkF m 0 #[rv x0, iv x1, iv x2, .unset, .unset] [] := by first | (simp [entryFrame, mkF, argsToLocals, Value.category]; done) | rfl
def own_Q17k1 (Z : State) (b : Addr) (c0 : Int32) (kb : ClassId) (h0 : Heap) (n0 : Nat) (v : Option Value) (h : Heap) (L : List Loc) : Prop := ∃ (tb : Addr) (kt : ClassId), v = some (.ref tb) ∧ Fr n0 L ∧ n0 ≤ tb ∧ h0.size ≤ tb ∧ Keep h0 h [] ∧ Arv Z h tb kt .byte (2 : Int32) [(.int (own_lo c0)), (.int (own_hi c0))] (.int 0)
set_option maxHeartbeats 40000000 in
theorem own_rm17k1 (l : Launch) (Z : State) (a0 : Array Value) (hw : ∀ d ∈ tables_1, d.before a0 Z = true) (ws : List Jvm.Cond) (b : Addr) (c0 : Int32) (kb : ClassId) (h0 : Heap) (n0 : Nat) (Z0 : n0 ≤ h0.size) (V_b : Arv Z h0 b kb .char (1 : Int32) [(.int c0)] (.int 0)) (S_AD : Sta Z h0 own_s2 own_s3 "Z" (.int 1)) (S_HI : Sta Z h0 own_s2 "HI_BYTE_SHIFT" "I" (.int 0)) (S_LO : Sta Z h0 own_s2 "LO_BYTE_SHIFT" "I" (.int 8)) :
    MetFree l own_y14 (head1 (Jvm.Cond.code own_y14 jdk_52_method_14_code 5 (some (.array .byte)) :: ws) ({ frames := 2, cells := 1, slots := 10, locals := 24 } : Room)) (fun argv U => argv = #[(.ref b), (.int 0), (.int 1)] ∧ Z.Warmed39 U.vm ∧ U.heap = h0) (fun _ _ _ _ _ => True) (fun _ U o U' => ∃ v L, o = .returned v ∧ own_Q17k1 Z b c0 kb h0 n0 v U'.heap L ∧ FrameEnd U o U' L ({ frames := 2, cells := 1, slots := 10, locals := 24 } : Room).cells ({ frames := 2, cells := 1, slots := 10, locals := 24 } : Room).slots) := by
  refine MetFree.of_bodySF (plainFor_of_name own_pn2) hisR ?_
  intro p e s m args below meth c s₁ Bd hml0 hP hK
  obtain ⟨rfl, hZ, hh⟩ := hP
  have hx := Bd.exec
  have hby := Bd.bytes
  have hml : c.maxLocals = 5 := hml0
  have hown : s.vm.findClass own_s2 = some m.cls := findClass_of_methodNamed Bd.named
  have hnm := (name_of_methodNamed Bd.named Bd.method).1
  have X0 : Stand p l e ({ frames := 2, cells := 1, slots := 10, locals := 24 } : Room) s m #[(.ref b), (.int 0), (.int 1)] below meth c s₁ [] 0 0 := Stand.of_body Bd
  have e0 : s₁.heap = h0 := by rw [← hh, Bd.state]; rfl
  have N0 := Fr.nil n0
  have pre_ : own_G p e below (s₁.setTop (entryFrame m #[(.ref b), (.int 0), (.int 1)] 5)) s₁ m 0 #[rv b, iv 0, iv 1, .unset, .unset] [] := fun t k => castTop (own_ef17k1 m b (0 : Int32) (1 : Int32)) k
  obtain ⟨s0, hs0⟩ : ∃ z, z = (s₁.setTop (entryFrame m #[(.ref b), (.int 0), (.int 1)] 5)) := ⟨_, rfl⟩
  have pre0 : own_G p e below s0 s₁ m 0 #[rv b, iv 0, iv 1, .unset, .unset] [] := hs0 ▸ pre_
  rw [← hs0]
  have S3 : own_G p e below s0 s₁ m 1 #[rv b, iv 0, iv 1, .unset, .unset] [(.int 1)] := fun t kt => by
    refine pre0 t ?_
    refine w_iloadN X0 hx hby d17_0 rfl ?_
    exact kt
  obtain ⟨_, _, ⟨T4, L4, k4, n4⟩, -, X4, ⟨Lc4, hQ4, l4, y4, z4⟩, st4⟩ := Jvm.LawKit.callS X0 hx (y := own_y13) hown (mvT hZ (own_w hw 81 rfl)) (mvT hZ (own_w hw 82 rfl)) (mvT hZ (own_w hw 47 rfl)) (mvT hZ (own_w hw 83 rfl)) (by decide) (backOf (W := 0) (own_rm18k1 l Z a0 hw []  h0 n0 Z0 ) hZ (own_w hw 83 rfl) (own_w hw 47 rfl) (by decide) (by decide)) (g := (mkF m 1 #[rv b, iv 0, iv 1, .unset, .unset] [(.int 1)])) rfl (by rw [hml]; rfl) (argsL := [(.int 1)]) (rest := []) (lenOf own_pd4 rfl) rfl (by show 2 * 0 + _ ≤ _; exact Nat.le_of_eq rfl) (hb hby d17_1) (fun _ _ => ⟨rfl, e0, (by decide : 0 + 1 ≤ _), (by decide : 0 + 2 ≤ _)⟩)
  dsimp only [Pt.U, Pt.locs, Pt.cells, Pt.slots] at X4 l4 y4 z4 st4 hQ4
  subst l4 y4 z4
  obtain ⟨tb1, kt1, rfl, Nq4, gt1, sz1, Kc1, Vc1⟩ := hQ4
  have N5 := Fr.app N0 Nq4
  have S6 : own_G p e below s0 T4 m 4 #[rv b, iv 0, iv 1, .unset, .unset] [(.ref tb1)] := fun t kt => S3 t (st4 _ kt)
  have F7 := V_b.keep Kc1 nin0
  have F8 := own_StaK S_AD Kc1 all0
  have F9 := own_StaK S_HI Kc1 all0
  have F10 := own_StaK S_LO Kc1 all0
  have K11 : Keep h0 T4.heap [] := (Keep.refl h0 []).trans Kc1 all0
  have ne_b_tb1 : b ≠ tb1 := Nat.ne_of_lt (Nat.lt_of_lt_of_le V_b.lt sz1)
  have S12 : own_G p e below s0 T4 m 11 #[rv b, iv 0, iv 1, rv tb1, iv 0] [(.int 1), (.int 0)] := fun t kt => by
    refine S6 t ?_
    refine w_astoreN X4 hx hby d17_4 rfl (l' := #[rv b, iv 0, iv 1, rv tb1, .unset]) rfl ?_
    refine w_iconst X4 hx hby d17_5 ?_
    refine w_istore X4 hx hby d17_6 (l' := #[rv b, iv 0, iv 1, rv tb1, iv 0]) rfl ?_
    refine w_iload X4 hx hby d17_8 rfl ?_
    refine w_iloadN X4 hx hby d17_10 rfl ?_
    exact kt
  have hc11_13 : (0 : Int32) < (1 : Int32) := by decide
  have S15 : own_G p e below s0 T4 m 19 #[rv b, iv 0, iv 1, rv tb1, iv 0] [(.int 0), (.ref b), (.int 0), (.ref tb1)] := fun t kt => by
    refine S12 t ?_
    refine w_icmpNo X4 hx hby d17_11 (tlt hc11_13).2.1 ?_
    refine w_aloadN X4 hx hby d17_14 rfl rfl ?_
    refine w_iload X4 hx hby d17_15 rfl ?_
    refine w_aloadN X4 hx hby d17_17 rfl rfl ?_
    refine w_iloadN X4 hx hby d17_18 rfl ?_
    exact kt
  obtain ⟨cl14, Ar14, -, Sz14, Nn14, Hh14, -⟩ := id F7
  have hin14 : ¬ ((0 : Int32) < 0 ∨ cl14.slots.size ≤ ((0 : Int32)).toNatClampNeg) := inb_of Sz14 ⟨by decide, by decide⟩
  have S18 : own_G p e below s0 T4 m 20 #[rv b, iv 0, iv 1, rv tb1, iv 0] [(.int c0), (.int 0), (.ref tb1)] := fun t kt => by
    refine S15 t ?_
    refine X4.caload hx (j := (0 : Int32)) (v := (.int c0)) Ar14.1 (State.isArrayOf_alike hZ.alike Ar14.2.1) Ar14.2.2 hin14 (Has.at Hh14 hin14 rfl) (g := (mkF m 19 #[rv b, iv 0, iv 1, rv tb1, iv 0] [(.int 0), (.ref b), (.int 0), (.ref tb1)])) rfl rfl (hb hby d17_19) _ ?_
    exact kt
  obtain ⟨_, _, ⟨T19, L19, k19, n19⟩, -, X19, ⟨Lc19, hQ19, l19, y19, z19⟩, st19⟩ := Jvm.LawKit.callS X4 hx (y := own_y15) hown (mvT hZ (own_w hw 88 rfl)) (mvT hZ (own_w hw 89 rfl)) (mvT hZ (own_w hw 47 rfl)) (mvT hZ (own_w hw 90 rfl)) (by decide) (backOf (W := 0) (own_rm20 l Z a0 hw [] (tb1) ((0 : Int32)) (c0) (kt1) ((2 : Int32)) ([(.int 0), (.int 0)]) (0) T4.heap n0 (Nat.le_trans Z0 K11.1) Vc1 gt1 F8 F9 F10 rfl (by decide) (by decide) (Nat.le_of_ble_eq_true rfl)) hZ (own_w hw 90 rfl) (own_w hw 47 rfl) (by decide) (by decide)) (g := (mkF m 20 #[rv b, iv 0, iv 1, rv tb1, iv 0] [(.int c0), (.int 0), (.ref tb1)])) rfl (by rw [hml]; rfl) (argsL := [(.ref tb1), (.int 0), (.int c0)]) (rest := []) (lenOf own_pd5 rfl) rfl (by show 2 * 0 + _ ≤ _; exact Nat.le_of_eq rfl) (hb hby d17_20) (fun _ _ => ⟨rfl, rfl, (by decide : 1 + 0 ≤ _), (by decide : 2 + 0 ≤ _)⟩)
  dsimp only [Pt.U, Pt.locs, Pt.cells, Pt.slots] at X19 l19 y19 z19 st19 hQ19
  subst l19 y19 z19
  obtain ⟨rfl, Nq19, Kc16, Vc16⟩ := hQ19
  have N20 := Fr.app N5 Nq19
  have S21 : own_G p e below s0 T19 m 23 #[rv b, iv 0, iv 1, rv tb1, iv 0] [] := fun t kt => S18 t (st19 _ kt)
  have F22 := F7.keep Kc16 (ninS ne_b_tb1 nin0)
  have F23 := own_StaK F8 Kc16 (allS (own_ArvS Vc1) all0)
  have F24 := own_StaK F9 Kc16 (allS (own_ArvS Vc1) all0)
  have F25 := own_StaK F10 Kc16 (allS (own_ArvS Vc1) all0)
  have K26 : Keep h0 T19.heap [] := K11.trans Kc16 (allS (Or.inr (Nat.le_trans (Keep.refl h0 []).1 sz1)) all0)
  have Vd16 : Arv Z T19.heap tb1 kt1 .byte (2 : Int32) [(.int (own_lo c0)), (.int (own_hi c0))] (.int 0) := Vc16
  have S27 : own_G p e below s0 T19 m 11 #[rv b, iv 1, iv 1, rv tb1, iv 1] [(.int 1), (.int 1)] := fun t kt => by
    refine S21 t ?_
    refine w_iinc X19 hx hby d17_23 rfl (l' := #[rv b, iv 1, iv 1, rv tb1, iv 0]) rfl ?_
    refine w_iinc X19 hx hby d17_26 rfl (l' := #[rv b, iv 1, iv 1, rv tb1, iv 1]) rfl ?_
    refine w_goto X19 hx hby (pc' := 8) d17_29 (by decide) ?_
    refine w_iload X19 hx hby d17_8 rfl ?_
    refine w_iloadN X19 hx hby d17_10 rfl ?_
    exact kt
  have hc11_28 : ¬ ((1 : Int32) < (1 : Int32)) := by decide
  have S29 : own_G p e below s0 T19 m 33 #[rv b, iv 1, iv 1, rv tb1, iv 1] [(.ref tb1)] := fun t kt => by
    refine S27 t ?_
    refine w_icmpYes X19 hx hby (pc' := 32) d17_11 (flt hc11_28).2.1 (by decide) ?_
    refine w_aloadN X19 hx hby d17_32 rfl rfl ?_
    exact kt
  obtain ⟨fs, hr, hrun, hended, hW, hsame⟩ := X19.leave (v := some (.ref tb1)) (fun h => by rw [Bd.returns] at h; cases h)
  refine ⟨_, _, S29 _ ?_, hrun, hended, _, _, rfl, ?_, ⟨_, rfl⟩, hW, hsame.mono (by decide) (by decide)⟩
  · show Steps p.tables e below (T19.setTop (mkF m 33 #[rv b, iv 1, iv 1, rv tb1, iv 1] [(.ref tb1)])) _
    jvm_step X19.here [X19.here.top, hx, (hb hby d17_33), X19.method', Bd.returns, Value.isRef, FieldType.isReference]
    first | (intro acts; rw [hr _ acts rfl rfl rfl]) | rw [hr _ _ rfl rfl rfl]
    exact Steps.refl _
  · show own_Q17k1 Z b c0 kb h0 n0 _ T19.heap _
    exact ⟨tb1, kt1, rfl, N20, gt1, (Nat.le_trans (Keep.refl h0 []).1 sz1), K26, Vd16⟩
def own_Q17 (Z : State) (b : Addr) (nn : Int32) (ls : List Int32) (kb : ClassId) (h0 : Heap) (n0 : Nat) (v : Option Value) (h : Heap) (L : List Loc) : Prop := ∃ (tb : Addr) (kt : ClassId), v = some (.ref tb) ∧ Fr n0 L ∧ n0 ≤ tb ∧ h0.size ≤ tb ∧ Keep h0 h [] ∧ Arv Z h tb kt .byte (Int32.ofNat (2 * ls.length)) (own_uts ls) (.int 0)
set_option maxHeartbeats 4000000 in
theorem own_rm17 (l : Launch) (Z : State) (a0 : Array Value) (hw : ∀ d ∈ tables_1, d.before a0 Z = true) (ws : List Jvm.Cond) (b : Addr) (nn : Int32) (ls : List Int32) (kb : ClassId) (h0 : Heap) (n0 : Nat) (Z0 : n0 ≤ h0.size) (V_b : Arv Z h0 b kb .char nn (ls.map Value.int) (.int 0)) (S_AD : Sta Z h0 own_s2 own_s3 "Z" (.int 1)) (S_HI : Sta Z h0 own_s2 "HI_BYTE_SHIFT" "I" (.int 0)) (S_LO : Sta Z h0 own_s2 "LO_BYTE_SHIFT" "I" (.int 8)) (hn : nn = Int32.ofNat ls.length) (h5 : ls.length ≤ 5) (hne : ls ≠ []) :
    MetFree l own_y14 (head1 (Jvm.Cond.code own_y14 jdk_52_method_14_code 5 (some (.array .byte)) :: ws) ({ frames := 2, cells := 1, slots := 10, locals := 24 } : Room)) (fun argv U => argv = #[(.ref b), (.int 0), (.int nn)] ∧ Z.Warmed39 U.vm ∧ U.heap = h0) (fun _ _ _ _ _ => True) (fun _ U o U' => ∃ v L, o = .returned v ∧ own_Q17 Z b nn ls kb h0 n0 v U'.heap L ∧ FrameEnd U o U' L ({ frames := 2, cells := 1, slots := 10, locals := 24 } : Room).cells ({ frames := 2, cells := 1, slots := 10, locals := 24 } : Room).slots) := by
  rcases ls with _ | ⟨c0, _ | ⟨c1, _ | ⟨c2, _ | ⟨c3, _ | ⟨c4, _ | ⟨c5, r⟩⟩⟩⟩⟩⟩
  · exact absurd rfl hne
  · subst hn
    exact own_rm17k1 l Z a0 hw ws b c0 kb h0 n0 Z0 V_b S_AD S_HI S_LO
  · subst hn
    exact own_rm17k2 l Z a0 hw ws b c0 c1 kb h0 n0 Z0 V_b S_AD S_HI S_LO
  · subst hn
    exact own_rm17k3 l Z a0 hw ws b c0 c1 c2 kb h0 n0 Z0 V_b S_AD S_HI S_LO
  · subst hn
    exact own_rm17k4 l Z a0 hw ws b c0 c1 c2 c3 kb h0 n0 Z0 V_b S_AD S_HI S_LO
  · subst hn
    exact own_rm17k5 l Z a0 hw ws b c0 c1 c2 c3 c4 kb h0 n0 Z0 V_b S_AD S_HI S_LO
  · exact absurd h5 (by simp only [List.length_cons]; omega)
theorem d10_0 : decode jdk_52_method_21_code 0 = .ok (.iconst 0, 1) := by decide +kernel
theorem d10_1 : decode jdk_52_method_21_code 1 = .ok (.istore 5, 2) := by decide +kernel
theorem d10_3 : decode jdk_52_method_21_code 3 = .ok (.iload 5, 2) := by decide +kernel
theorem d10_5 : decode jdk_52_method_21_code 5 = .ok (.iload 4, 2) := by decide +kernel
theorem d10_7 : decode jdk_52_method_21_code 7 = .ok (.if_icmp .ge 37, 3) := by decide +kernel
theorem d10_10 : decode jdk_52_method_21_code 10 = .ok (.aload_n 0, 1) := by decide +kernel
theorem d10_11 : decode jdk_52_method_21_code 11 = .ok (.iload_n 1, 1) := by decide +kernel
theorem d10_12 : decode jdk_52_method_21_code 12 = .ok (.caload, 1) := by decide +kernel
theorem d10_13 : decode jdk_52_method_21_code 13 = .ok (.istore 6, 2) := by decide +kernel
theorem d10_15 : decode jdk_52_method_21_code 15 = .ok (.iload 6, 2) := by decide +kernel
theorem d10_17 : decode jdk_52_method_21_code 17 = .ok (.sipush 255, 3) := by decide +kernel
theorem d10_20 : decode jdk_52_method_21_code 20 = .ok (.if_icmp .le 6, 3) := by decide +kernel
theorem d10_26 : decode jdk_52_method_21_code 26 = .ok (.aload_n 2, 1) := by decide +kernel
theorem d10_27 : decode jdk_52_method_21_code 27 = .ok (.iload_n 3, 1) := by decide +kernel
theorem d10_28 : decode jdk_52_method_21_code 28 = .ok (.iload 6, 2) := by decide +kernel
theorem d10_30 : decode jdk_52_method_21_code 30 = .ok (.i2b, 1) := by decide +kernel
theorem d10_31 : decode jdk_52_method_21_code 31 = .ok (.bastore, 1) := by decide +kernel
theorem d10_32 : decode jdk_52_method_21_code 32 = .ok (.iinc 1 1, 3) := by decide +kernel
theorem d10_35 : decode jdk_52_method_21_code 35 = .ok (.iinc 3 1, 3) := by decide +kernel
theorem d10_38 : decode jdk_52_method_21_code 38 = .ok (.iinc 5 1, 3) := by decide +kernel
theorem d10_41 : decode jdk_52_method_21_code 41 = .ok (.goto (-38), 3) := by decide +kernel
theorem d10_44 : decode jdk_52_method_21_code 44 = .ok (.iload 4, 2) := by decide +kernel
theorem d10_46 : decode jdk_52_method_21_code 46 = .ok (.ireturn, 1) := by decide +kernel
theorem own_ef10k1 (m : MethodId) (x0 : Addr) (x1 : Int32) (x2 : Addr) (x3 : Int32) (x4 : Int32) : entryFrame m #[(.ref x0), (.int x1), (.ref x2), (.int x3), (.int x4)] 7 = mkF m 0 #[rv x0, iv x1, rv x2, iv x3, iv x4, .unset, .unset] [] := by first | (simp [entryFrame, mkF, argsToLocals, Value.category]; done) | rfl
def own_Q10k1 (Z : State) (b : Addr) (tb : Addr) (c0 : Int32) (kb : ClassId) (kt : ClassId) (h0 : Heap) (n0 : Nat) (v : Option Value) (h : Heap) (L : List Loc) : Prop := v = some (.int 1) ∧ Fr n0 L ∧ Keep h0 h [tb] ∧ Arv Z h tb kt .byte (1 : Int32) [(.int (own_lo c0))] (.int 0)
set_option maxHeartbeats 40000000 in
theorem own_rm10k1 (l : Launch) (Z : State) (a0 : Array Value) (hw : ∀ d ∈ tables_1, d.before a0 Z = true) (ws : List Jvm.Cond) (b : Addr) (tb : Addr) (c0 : Int32) (kb : ClassId) (kt : ClassId) (h0 : Heap) (n0 : Nat) (Z0 : n0 ≤ h0.size) (V_b : Arv Z h0 b kb .char (1 : Int32) [(.int c0)] (.int 0)) (V_t : Arv Z h0 tb kt .byte (1 : Int32) [(.int 0)] (.int 0)) (g_tb : n0 ≤ tb) (ne_b_tb : b ≠ tb) (hl0 : ¬ (255 : Int32) < c0) :
    MetFree l own_y9 (head1 (Jvm.Cond.code own_y9 jdk_52_method_21_code 7 (some .int) :: ws) ({ frames := 0, cells := 0, slots := 0, locals := 0 } : Room)) (fun argv U => argv = #[(.ref b), (.int 0), (.ref tb), (.int 0), (.int 1)] ∧ Z.Warmed39 U.vm ∧ U.heap = h0) (fun _ _ _ _ _ => True) (fun _ U o U' => ∃ v L, o = .returned v ∧ own_Q10k1 Z b tb c0 kb kt h0 n0 v U'.heap L ∧ FrameEnd U o U' L ({ frames := 0, cells := 0, slots := 0, locals := 0 } : Room).cells ({ frames := 0, cells := 0, slots := 0, locals := 0 } : Room).slots) := by
  refine MetFree.of_bodySF (plainFor_of_name own_pn2) hisR ?_
  intro p e s m args below meth c s₁ Bd hml0 hP hK
  obtain ⟨rfl, hZ, hh⟩ := hP
  have hx := Bd.exec
  have hby := Bd.bytes
  have hml : c.maxLocals = 7 := hml0
  have hown : s.vm.findClass own_s2 = some m.cls := findClass_of_methodNamed Bd.named
  have hnm := (name_of_methodNamed Bd.named Bd.method).1
  have X0 : Stand p l e ({ frames := 0, cells := 0, slots := 0, locals := 0 } : Room) s m #[(.ref b), (.int 0), (.ref tb), (.int 0), (.int 1)] below meth c s₁ [] 0 0 := Stand.of_body Bd
  have e0 : s₁.heap = h0 := by rw [← hh, Bd.state]; rfl
  have N0 := Fr.nil n0
  have pre_ : own_G p e below (s₁.setTop (entryFrame m #[(.ref b), (.int 0), (.ref tb), (.int 0), (.int 1)] 7)) s₁ m 0 #[rv b, iv 0, rv tb, iv 0, iv 1, .unset, .unset] [] := fun t k => castTop (own_ef10k1 m b (0 : Int32) tb (0 : Int32) (1 : Int32)) k
  obtain ⟨s0, hs0⟩ : ∃ z, z = (s₁.setTop (entryFrame m #[(.ref b), (.int 0), (.ref tb), (.int 0), (.int 1)] 7)) := ⟨_, rfl⟩
  have pre0 : own_G p e below s0 s₁ m 0 #[rv b, iv 0, rv tb, iv 0, iv 1, .unset, .unset] [] := hs0 ▸ pre_
  rw [← hs0]
  have S1 : own_G p e below s0 s₁ m 7 #[rv b, iv 0, rv tb, iv 0, iv 1, iv 0, .unset] [(.int 1), (.int 0)] := fun t kt => by
    refine pre0 t ?_
    refine w_iconst X0 hx hby d10_0 ?_
    refine w_istore X0 hx hby d10_1 (l' := #[rv b, iv 0, rv tb, iv 0, iv 1, iv 0, .unset]) rfl ?_
    refine w_iload X0 hx hby d10_3 rfl ?_
    refine w_iload X0 hx hby d10_5 rfl ?_
    exact kt
  have hc7_2 : (0 : Int32) < (1 : Int32) := by decide
  have S4 : own_G p e below s0 s₁ m 12 #[rv b, iv 0, rv tb, iv 0, iv 1, iv 0, .unset] [(.int 0), (.ref b)] := fun t kt => by
    refine S1 t ?_
    refine w_icmpNo X0 hx hby d10_7 (tlt hc7_2).2.1 ?_
    refine w_aloadN X0 hx hby d10_10 rfl rfl ?_
    refine w_iloadN X0 hx hby d10_11 rfl ?_
    exact kt
  obtain ⟨cl3, Ar3, -, Sz3, Nn3, Hh3, -⟩ := id V_b
  have hin3 : ¬ ((0 : Int32) < 0 ∨ cl3.slots.size ≤ ((0 : Int32)).toNatClampNeg) := inb_of Sz3 ⟨by decide, by decide⟩
  have S5 : own_G p e below s0 s₁ m 20 #[rv b, iv 0, rv tb, iv 0, iv 1, iv 0, iv c0] [(.int 255), (.int c0)] := fun t kt => by
    refine S4 t ?_
    refine X0.caload hx (j := (0 : Int32)) (v := (.int c0)) (by rw [e0]; exact Ar3.1) (State.isArrayOf_alike hZ.alike Ar3.2.1) Ar3.2.2 hin3 (Has.at Hh3 hin3 rfl) (g := (mkF m 12 #[rv b, iv 0, rv tb, iv 0, iv 1, iv 0, .unset] [(.int 0), (.ref b)])) rfl rfl (hb hby d10_12) _ ?_
    refine w_istore X0 hx hby d10_13 (l' := #[rv b, iv 0, rv tb, iv 0, iv 1, iv 0, iv c0]) rfl ?_
    refine w_iload X0 hx hby d10_15 rfl ?_
    refine w_sipush X0 hx hby d10_17 ?_
    exact kt
  have hc20_6 : ¬ ((255 : Int32) < c0) := hl0
  have S7 : own_G p e below s0 s₁ m 31 #[rv b, iv 0, rv tb, iv 0, iv 1, iv 0, iv c0] [(.int (c0.toInt8.toInt32)), (.int 0), (.ref tb)] := fun t kt => by
    refine S5 t ?_
    refine w_icmpYes X0 hx hby (pc' := 26) d10_20 (flt hc20_6).2.2.2 (by decide) ?_
    refine w_aloadN X0 hx hby d10_26 rfl rfl ?_
    refine w_iloadN X0 hx hby d10_27 rfl ?_
    refine w_iload X0 hx hby d10_28 rfl ?_
    refine XS.i2b X0.here hx rfl (hb hby d10_30) rfl ?_
    exact kt
  obtain ⟨cl8, Ar8, q8, Sz8, Nn8, Hh8, Gg8⟩ := id V_t
  have hin8 : ¬ ((0 : Int32) < 0 ∨ cl8.slots.size ≤ ((0 : Int32)).toNatClampNeg) := inb_of Sz8 ⟨by decide, by decide⟩
  obtain ⟨T9, h9, X9, e9, W9, st9⟩ := stB X0 hx hZ e0 Ar8 (j := (0 : Int32)) hin8 (g := (mkF m 31 #[rv b, iv 0, rv tb, iv 0, iv 1, iv 0, iv c0] [(.int (c0.toInt8.toInt32)), (.int 0), (.ref tb)])) rfl rfl (hb hby d10_31)
  have S10 : own_G p e below s0 T9 m 32 #[rv b, iv 0, rv tb, iv 0, iv 1, iv 0, iv c0] [] := fun t kt => S7 t (st9 _ kt)
  have V11 := Arv.set Ar8 q8 Sz8 Nn8 Hh8 Gg8 (fits_nar_byte _) W9 0 rfl (Nat.le_of_ble_eq_true rfl)
  have F12 := V_b.other W9 ne_b_tb
  have N13 := Fr.snoc X9 N0 g_tb
  have K14 : Keep h0 h9 [tb] := (Keep.refl h0 [tb]).wr W9 (Or.inl (List.mem_of_getElem? (i := 0) rfl))
  have S15 : own_G p e below s0 T9 m 7 #[rv b, iv 1, rv tb, iv 1, iv 1, iv 1, iv c0] [(.int 1), (.int 1)] := fun t kt => by
    refine S10 t ?_
    refine w_iinc X9 hx hby d10_32 rfl (l' := #[rv b, iv 1, rv tb, iv 0, iv 1, iv 0, iv c0]) rfl ?_
    refine w_iinc X9 hx hby d10_35 rfl (l' := #[rv b, iv 1, rv tb, iv 1, iv 1, iv 0, iv c0]) rfl ?_
    refine w_iinc X9 hx hby d10_38 rfl (l' := #[rv b, iv 1, rv tb, iv 1, iv 1, iv 1, iv c0]) rfl ?_
    refine w_goto X9 hx hby (pc' := 3) d10_41 (by decide) ?_
    refine w_iload X9 hx hby d10_3 rfl ?_
    refine w_iload X9 hx hby d10_5 rfl ?_
    exact kt
  have hc7_16 : ¬ ((1 : Int32) < (1 : Int32)) := by decide
  have S17 : own_G p e below s0 T9 m 46 #[rv b, iv 1, rv tb, iv 1, iv 1, iv 1, iv c0] [(.int 1)] := fun t kt => by
    refine S15 t ?_
    refine w_icmpYes X9 hx hby (pc' := 44) d10_7 (flt hc7_16).2.1 (by decide) ?_
    refine w_iload X9 hx hby d10_44 rfl ?_
    exact kt
  obtain ⟨fs, hr, hrun, hended, hW, hsame⟩ := X9.leave (v := some (.int 1)) (fun h => by rw [Bd.returns] at h; cases h)
  refine ⟨_, _, S17 _ ?_, hrun, hended, _, _, rfl, ?_, ⟨_, rfl⟩, hW, hsame.mono (by decide) (by decide)⟩
  · show Steps p.tables e below (T9.setTop (mkF m 46 #[rv b, iv 1, rv tb, iv 1, iv 1, iv 1, iv c0] [(.int 1)])) _
    exact own_retI X9 hx Bd.returns (hb hby d10_46) hr
  · show own_Q10k1 Z b tb c0 kb kt h0 n0 _ T9.heap _
    rw [e9]
    exact ⟨rfl, N13, K14, (by have q : Arv Z h9 tb kt .byte (1 : Int32) [(.int (nar .byte (c0.toInt8.toInt32)))] (.int 0) := V11; simp only [own_lolo] at q; exact q)⟩
theorem own_ef10k2 (m : MethodId) (x0 : Addr) (x1 : Int32) (x2 : Addr) (x3 : Int32) (x4 : Int32) : entryFrame m #[(.ref x0), (.int x1), (.ref x2), (.int x3), (.int x4)] 7 = mkF m 0 #[rv x0, iv x1, rv x2, iv x3, iv x4, .unset, .unset] [] := by first | (simp [entryFrame, mkF, argsToLocals, Value.category]; done) | rfl
def own_Q10k2 (Z : State) (b : Addr) (tb : Addr) (c0 : Int32) (c1 : Int32) (kb : ClassId) (kt : ClassId) (h0 : Heap) (n0 : Nat) (v : Option Value) (h : Heap) (L : List Loc) : Prop := v = some (.int 2) ∧ Fr n0 L ∧ Keep h0 h [tb] ∧ Arv Z h tb kt .byte (2 : Int32) [(.int (own_lo c0)), (.int (own_lo c1))] (.int 0)
set_option maxHeartbeats 40000000 in
theorem own_rm10k2 (l : Launch) (Z : State) (a0 : Array Value) (hw : ∀ d ∈ tables_1, d.before a0 Z = true) (ws : List Jvm.Cond) (b : Addr) (tb : Addr) (c0 : Int32) (c1 : Int32) (kb : ClassId) (kt : ClassId) (h0 : Heap) (n0 : Nat) (Z0 : n0 ≤ h0.size) (V_b : Arv Z h0 b kb .char (2 : Int32) [(.int c0), (.int c1)] (.int 0)) (V_t : Arv Z h0 tb kt .byte (2 : Int32) [(.int 0), (.int 0)] (.int 0)) (g_tb : n0 ≤ tb) (ne_b_tb : b ≠ tb) (hl0 : ¬ (255 : Int32) < c0) (hl1 : ¬ (255 : Int32) < c1) :
    MetFree l own_y9 (head1 (Jvm.Cond.code own_y9 jdk_52_method_21_code 7 (some .int) :: ws) ({ frames := 0, cells := 0, slots := 0, locals := 0 } : Room)) (fun argv U => argv = #[(.ref b), (.int 0), (.ref tb), (.int 0), (.int 2)] ∧ Z.Warmed39 U.vm ∧ U.heap = h0) (fun _ _ _ _ _ => True) (fun _ U o U' => ∃ v L, o = .returned v ∧ own_Q10k2 Z b tb c0 c1 kb kt h0 n0 v U'.heap L ∧ FrameEnd U o U' L ({ frames := 0, cells := 0, slots := 0, locals := 0 } : Room).cells ({ frames := 0, cells := 0, slots := 0, locals := 0 } : Room).slots) := by
  refine MetFree.of_bodySF (plainFor_of_name own_pn2) hisR ?_
  intro p e s m args below meth c s₁ Bd hml0 hP hK
  obtain ⟨rfl, hZ, hh⟩ := hP
  have hx := Bd.exec
  have hby := Bd.bytes
  have hml : c.maxLocals = 7 := hml0
  have hown : s.vm.findClass own_s2 = some m.cls := findClass_of_methodNamed Bd.named
  have hnm := (name_of_methodNamed Bd.named Bd.method).1
  have X0 : Stand p l e ({ frames := 0, cells := 0, slots := 0, locals := 0 } : Room) s m #[(.ref b), (.int 0), (.ref tb), (.int 0), (.int 2)] below meth c s₁ [] 0 0 := Stand.of_body Bd
  have e0 : s₁.heap = h0 := by rw [← hh, Bd.state]; rfl
  have N0 := Fr.nil n0
  have pre_ : own_G p e below (s₁.setTop (entryFrame m #[(.ref b), (.int 0), (.ref tb), (.int 0), (.int 2)] 7)) s₁ m 0 #[rv b, iv 0, rv tb, iv 0, iv 2, .unset, .unset] [] := fun t k => castTop (own_ef10k2 m b (0 : Int32) tb (0 : Int32) (2 : Int32)) k
  obtain ⟨s0, hs0⟩ : ∃ z, z = (s₁.setTop (entryFrame m #[(.ref b), (.int 0), (.ref tb), (.int 0), (.int 2)] 7)) := ⟨_, rfl⟩
  have pre0 : own_G p e below s0 s₁ m 0 #[rv b, iv 0, rv tb, iv 0, iv 2, .unset, .unset] [] := hs0 ▸ pre_
  rw [← hs0]
  have S1 : own_G p e below s0 s₁ m 7 #[rv b, iv 0, rv tb, iv 0, iv 2, iv 0, .unset] [(.int 2), (.int 0)] := fun t kt => by
    refine pre0 t ?_
    refine w_iconst X0 hx hby d10_0 ?_
    refine w_istore X0 hx hby d10_1 (l' := #[rv b, iv 0, rv tb, iv 0, iv 2, iv 0, .unset]) rfl ?_
    refine w_iload X0 hx hby d10_3 rfl ?_
    refine w_iload X0 hx hby d10_5 rfl ?_
    exact kt
  have hc7_2 : (0 : Int32) < (2 : Int32) := by decide
  have S4 : own_G p e below s0 s₁ m 12 #[rv b, iv 0, rv tb, iv 0, iv 2, iv 0, .unset] [(.int 0), (.ref b)] := fun t kt => by
    refine S1 t ?_
    refine w_icmpNo X0 hx hby d10_7 (tlt hc7_2).2.1 ?_
    refine w_aloadN X0 hx hby d10_10 rfl rfl ?_
    refine w_iloadN X0 hx hby d10_11 rfl ?_
    exact kt
  obtain ⟨cl3, Ar3, -, Sz3, Nn3, Hh3, -⟩ := id V_b
  have hin3 : ¬ ((0 : Int32) < 0 ∨ cl3.slots.size ≤ ((0 : Int32)).toNatClampNeg) := inb_of Sz3 ⟨by decide, by decide⟩
  have S5 : own_G p e below s0 s₁ m 20 #[rv b, iv 0, rv tb, iv 0, iv 2, iv 0, iv c0] [(.int 255), (.int c0)] := fun t kt => by
    refine S4 t ?_
    refine X0.caload hx (j := (0 : Int32)) (v := (.int c0)) (by rw [e0]; exact Ar3.1) (State.isArrayOf_alike hZ.alike Ar3.2.1) Ar3.2.2 hin3 (Has.at Hh3 hin3 rfl) (g := (mkF m 12 #[rv b, iv 0, rv tb, iv 0, iv 2, iv 0, .unset] [(.int 0), (.ref b)])) rfl rfl (hb hby d10_12) _ ?_
    refine w_istore X0 hx hby d10_13 (l' := #[rv b, iv 0, rv tb, iv 0, iv 2, iv 0, iv c0]) rfl ?_
    refine w_iload X0 hx hby d10_15 rfl ?_
    refine w_sipush X0 hx hby d10_17 ?_
    exact kt
  have hc20_6 : ¬ ((255 : Int32) < c0) := hl0
  have S7 : own_G p e below s0 s₁ m 31 #[rv b, iv 0, rv tb, iv 0, iv 2, iv 0, iv c0] [(.int (c0.toInt8.toInt32)), (.int 0), (.ref tb)] := fun t kt => by
    refine S5 t ?_
    refine w_icmpYes X0 hx hby (pc' := 26) d10_20 (flt hc20_6).2.2.2 (by decide) ?_
    refine w_aloadN X0 hx hby d10_26 rfl rfl ?_
    refine w_iloadN X0 hx hby d10_27 rfl ?_
    refine w_iload X0 hx hby d10_28 rfl ?_
    refine XS.i2b X0.here hx rfl (hb hby d10_30) rfl ?_
    exact kt
  obtain ⟨cl8, Ar8, q8, Sz8, Nn8, Hh8, Gg8⟩ := id V_t
  have hin8 : ¬ ((0 : Int32) < 0 ∨ cl8.slots.size ≤ ((0 : Int32)).toNatClampNeg) := inb_of Sz8 ⟨by decide, by decide⟩
  obtain ⟨T9, h9, X9, e9, W9, st9⟩ := stB X0 hx hZ e0 Ar8 (j := (0 : Int32)) hin8 (g := (mkF m 31 #[rv b, iv 0, rv tb, iv 0, iv 2, iv 0, iv c0] [(.int (c0.toInt8.toInt32)), (.int 0), (.ref tb)])) rfl rfl (hb hby d10_31)
  have S10 : own_G p e below s0 T9 m 32 #[rv b, iv 0, rv tb, iv 0, iv 2, iv 0, iv c0] [] := fun t kt => S7 t (st9 _ kt)
  have V11 := Arv.set Ar8 q8 Sz8 Nn8 Hh8 Gg8 (fits_nar_byte _) W9 0 rfl (Nat.le_of_ble_eq_true rfl)
  have F12 := V_b.other W9 ne_b_tb
  have N13 := Fr.snoc X9 N0 g_tb
  have K14 : Keep h0 h9 [tb] := (Keep.refl h0 [tb]).wr W9 (Or.inl (List.mem_of_getElem? (i := 0) rfl))
  have S15 : own_G p e below s0 T9 m 7 #[rv b, iv 1, rv tb, iv 1, iv 2, iv 1, iv c0] [(.int 2), (.int 1)] := fun t kt => by
    refine S10 t ?_
    refine w_iinc X9 hx hby d10_32 rfl (l' := #[rv b, iv 1, rv tb, iv 0, iv 2, iv 0, iv c0]) rfl ?_
    refine w_iinc X9 hx hby d10_35 rfl (l' := #[rv b, iv 1, rv tb, iv 1, iv 2, iv 0, iv c0]) rfl ?_
    refine w_iinc X9 hx hby d10_38 rfl (l' := #[rv b, iv 1, rv tb, iv 1, iv 2, iv 1, iv c0]) rfl ?_
    refine w_goto X9 hx hby (pc' := 3) d10_41 (by decide) ?_
    refine w_iload X9 hx hby d10_3 rfl ?_
    refine w_iload X9 hx hby d10_5 rfl ?_
    exact kt
  have hc7_16 : (1 : Int32) < (2 : Int32) := by decide
  have S18 : own_G p e below s0 T9 m 12 #[rv b, iv 1, rv tb, iv 1, iv 2, iv 1, iv c0] [(.int 1), (.ref b)] := fun t kt => by
    refine S15 t ?_
    refine w_icmpNo X9 hx hby d10_7 (tlt hc7_16).2.1 ?_
    refine w_aloadN X9 hx hby d10_10 rfl rfl ?_
    refine w_iloadN X9 hx hby d10_11 rfl ?_
    exact kt
  obtain ⟨cl17, Ar17, -, Sz17, Nn17, Hh17, -⟩ := id F12
  have hin17 : ¬ ((1 : Int32) < 0 ∨ cl17.slots.size ≤ ((1 : Int32)).toNatClampNeg) := inb_of Sz17 ⟨by decide, by decide⟩
  have S19 : own_G p e below s0 T9 m 20 #[rv b, iv 1, rv tb, iv 1, iv 2, iv 1, iv c1] [(.int 255), (.int c1)] := fun t kt => by
    refine S18 t ?_
    refine X9.caload hx (j := (1 : Int32)) (v := (.int c1)) (by rw [e9]; exact Ar17.1) (State.isArrayOf_alike hZ.alike Ar17.2.1) Ar17.2.2 hin17 (Has.at Hh17 hin17 rfl) (g := (mkF m 12 #[rv b, iv 1, rv tb, iv 1, iv 2, iv 1, iv c0] [(.int 1), (.ref b)])) rfl rfl (hb hby d10_12) _ ?_
    refine w_istore X9 hx hby d10_13 (l' := #[rv b, iv 1, rv tb, iv 1, iv 2, iv 1, iv c1]) rfl ?_
    refine w_iload X9 hx hby d10_15 rfl ?_
    refine w_sipush X9 hx hby d10_17 ?_
    exact kt
  have hc20_20 : ¬ ((255 : Int32) < c1) := hl1
  have S21 : own_G p e below s0 T9 m 31 #[rv b, iv 1, rv tb, iv 1, iv 2, iv 1, iv c1] [(.int (c1.toInt8.toInt32)), (.int 1), (.ref tb)] := fun t kt => by
    refine S19 t ?_
    refine w_icmpYes X9 hx hby (pc' := 26) d10_20 (flt hc20_20).2.2.2 (by decide) ?_
    refine w_aloadN X9 hx hby d10_26 rfl rfl ?_
    refine w_iloadN X9 hx hby d10_27 rfl ?_
    refine w_iload X9 hx hby d10_28 rfl ?_
    refine XS.i2b X9.here hx rfl (hb hby d10_30) rfl ?_
    exact kt
  obtain ⟨cl22, Ar22, q22, Sz22, Nn22, Hh22, Gg22⟩ := id V11
  have hin22 : ¬ ((1 : Int32) < 0 ∨ cl22.slots.size ≤ ((1 : Int32)).toNatClampNeg) := inb_of Sz22 ⟨by decide, by decide⟩
  obtain ⟨T23, h23, X23, e23, W23, st23⟩ := stB X9 hx hZ e9 Ar22 (j := (1 : Int32)) hin22 (g := (mkF m 31 #[rv b, iv 1, rv tb, iv 1, iv 2, iv 1, iv c1] [(.int (c1.toInt8.toInt32)), (.int 1), (.ref tb)])) rfl rfl (hb hby d10_31)
  have S24 : own_G p e below s0 T23 m 32 #[rv b, iv 1, rv tb, iv 1, iv 2, iv 1, iv c1] [] := fun t kt => S21 t (st23 _ kt)
  have V25 := Arv.set Ar22 q22 Sz22 Nn22 Hh22 Gg22 (fits_nar_byte _) W23 1 rfl (Nat.le_of_ble_eq_true rfl)
  have F26 := F12.other W23 ne_b_tb
  have N27 := Fr.snoc X23 N13 g_tb
  have K28 : Keep h0 h23 [tb] := K14.wr W23 (Or.inl (List.mem_of_getElem? (i := 0) rfl))
  have S29 : own_G p e below s0 T23 m 7 #[rv b, iv 2, rv tb, iv 2, iv 2, iv 2, iv c1] [(.int 2), (.int 2)] := fun t kt => by
    refine S24 t ?_
    refine w_iinc X23 hx hby d10_32 rfl (l' := #[rv b, iv 2, rv tb, iv 1, iv 2, iv 1, iv c1]) rfl ?_
    refine w_iinc X23 hx hby d10_35 rfl (l' := #[rv b, iv 2, rv tb, iv 2, iv 2, iv 1, iv c1]) rfl ?_
    refine w_iinc X23 hx hby d10_38 rfl (l' := #[rv b, iv 2, rv tb, iv 2, iv 2, iv 2, iv c1]) rfl ?_
    refine w_goto X23 hx hby (pc' := 3) d10_41 (by decide) ?_
    refine w_iload X23 hx hby d10_3 rfl ?_
    refine w_iload X23 hx hby d10_5 rfl ?_
    exact kt
  have hc7_30 : ¬ ((2 : Int32) < (2 : Int32)) := by decide
  have S31 : own_G p e below s0 T23 m 46 #[rv b, iv 2, rv tb, iv 2, iv 2, iv 2, iv c1] [(.int 2)] := fun t kt => by
    refine S29 t ?_
    refine w_icmpYes X23 hx hby (pc' := 44) d10_7 (flt hc7_30).2.1 (by decide) ?_
    refine w_iload X23 hx hby d10_44 rfl ?_
    exact kt
  obtain ⟨fs, hr, hrun, hended, hW, hsame⟩ := X23.leave (v := some (.int 2)) (fun h => by rw [Bd.returns] at h; cases h)
  refine ⟨_, _, S31 _ ?_, hrun, hended, _, _, rfl, ?_, ⟨_, rfl⟩, hW, hsame.mono (by decide) (by decide)⟩
  · show Steps p.tables e below (T23.setTop (mkF m 46 #[rv b, iv 2, rv tb, iv 2, iv 2, iv 2, iv c1] [(.int 2)])) _
    exact own_retI X23 hx Bd.returns (hb hby d10_46) hr
  · show own_Q10k2 Z b tb c0 c1 kb kt h0 n0 _ T23.heap _
    rw [e23]
    exact ⟨rfl, N27, K28, (by have q : Arv Z h23 tb kt .byte (2 : Int32) [(.int (nar .byte (c0.toInt8.toInt32))), (.int (nar .byte (c1.toInt8.toInt32)))] (.int 0) := V25; simp only [own_lolo] at q; exact q)⟩
theorem own_ef10k3 (m : MethodId) (x0 : Addr) (x1 : Int32) (x2 : Addr) (x3 : Int32) (x4 : Int32) : entryFrame m #[(.ref x0), (.int x1), (.ref x2), (.int x3), (.int x4)] 7 = mkF m 0 #[rv x0, iv x1, rv x2, iv x3, iv x4, .unset, .unset] [] := by first | (simp [entryFrame, mkF, argsToLocals, Value.category]; done) | rfl
def own_Q10k3 (Z : State) (b : Addr) (tb : Addr) (c0 : Int32) (c1 : Int32) (c2 : Int32) (kb : ClassId) (kt : ClassId) (h0 : Heap) (n0 : Nat) (v : Option Value) (h : Heap) (L : List Loc) : Prop := v = some (.int 3) ∧ Fr n0 L ∧ Keep h0 h [tb] ∧ Arv Z h tb kt .byte (3 : Int32) [(.int (own_lo c0)), (.int (own_lo c1)), (.int (own_lo c2))] (.int 0)
set_option maxHeartbeats 40000000 in
theorem own_rm10k3 (l : Launch) (Z : State) (a0 : Array Value) (hw : ∀ d ∈ tables_1, d.before a0 Z = true) (ws : List Jvm.Cond) (b : Addr) (tb : Addr) (c0 : Int32) (c1 : Int32) (c2 : Int32) (kb : ClassId) (kt : ClassId) (h0 : Heap) (n0 : Nat) (Z0 : n0 ≤ h0.size) (V_b : Arv Z h0 b kb .char (3 : Int32) [(.int c0), (.int c1), (.int c2)] (.int 0)) (V_t : Arv Z h0 tb kt .byte (3 : Int32) [(.int 0), (.int 0), (.int 0)] (.int 0)) (g_tb : n0 ≤ tb) (ne_b_tb : b ≠ tb) (hl0 : ¬ (255 : Int32) < c0) (hl1 : ¬ (255 : Int32) < c1) (hl2 : ¬ (255 : Int32) < c2) :
    MetFree l own_y9 (head1 (Jvm.Cond.code own_y9 jdk_52_method_21_code 7 (some .int) :: ws) ({ frames := 0, cells := 0, slots := 0, locals := 0 } : Room)) (fun argv U => argv = #[(.ref b), (.int 0), (.ref tb), (.int 0), (.int 3)] ∧ Z.Warmed39 U.vm ∧ U.heap = h0) (fun _ _ _ _ _ => True) (fun _ U o U' => ∃ v L, o = .returned v ∧ own_Q10k3 Z b tb c0 c1 c2 kb kt h0 n0 v U'.heap L ∧ FrameEnd U o U' L ({ frames := 0, cells := 0, slots := 0, locals := 0 } : Room).cells ({ frames := 0, cells := 0, slots := 0, locals := 0 } : Room).slots) := by
  refine MetFree.of_bodySF (plainFor_of_name own_pn2) hisR ?_
  intro p e s m args below meth c s₁ Bd hml0 hP hK
  obtain ⟨rfl, hZ, hh⟩ := hP
  have hx := Bd.exec
  have hby := Bd.bytes
  have hml : c.maxLocals = 7 := hml0
  have hown : s.vm.findClass own_s2 = some m.cls := findClass_of_methodNamed Bd.named
  have hnm := (name_of_methodNamed Bd.named Bd.method).1
  have X0 : Stand p l e ({ frames := 0, cells := 0, slots := 0, locals := 0 } : Room) s m #[(.ref b), (.int 0), (.ref tb), (.int 0), (.int 3)] below meth c s₁ [] 0 0 := Stand.of_body Bd
  have e0 : s₁.heap = h0 := by rw [← hh, Bd.state]; rfl
  have N0 := Fr.nil n0
  have pre_ : own_G p e below (s₁.setTop (entryFrame m #[(.ref b), (.int 0), (.ref tb), (.int 0), (.int 3)] 7)) s₁ m 0 #[rv b, iv 0, rv tb, iv 0, iv 3, .unset, .unset] [] := fun t k => castTop (own_ef10k3 m b (0 : Int32) tb (0 : Int32) (3 : Int32)) k
  obtain ⟨s0, hs0⟩ : ∃ z, z = (s₁.setTop (entryFrame m #[(.ref b), (.int 0), (.ref tb), (.int 0), (.int 3)] 7)) := ⟨_, rfl⟩
  have pre0 : own_G p e below s0 s₁ m 0 #[rv b, iv 0, rv tb, iv 0, iv 3, .unset, .unset] [] := hs0 ▸ pre_
  rw [← hs0]
  have S1 : own_G p e below s0 s₁ m 7 #[rv b, iv 0, rv tb, iv 0, iv 3, iv 0, .unset] [(.int 3), (.int 0)] := fun t kt => by
    refine pre0 t ?_
    refine w_iconst X0 hx hby d10_0 ?_
    refine w_istore X0 hx hby d10_1 (l' := #[rv b, iv 0, rv tb, iv 0, iv 3, iv 0, .unset]) rfl ?_
    refine w_iload X0 hx hby d10_3 rfl ?_
    refine w_iload X0 hx hby d10_5 rfl ?_
    exact kt
  have hc7_2 : (0 : Int32) < (3 : Int32) := by decide
  have S4 : own_G p e below s0 s₁ m 12 #[rv b, iv 0, rv tb, iv 0, iv 3, iv 0, .unset] [(.int 0), (.ref b)] := fun t kt => by
    refine S1 t ?_
    refine w_icmpNo X0 hx hby d10_7 (tlt hc7_2).2.1 ?_
    refine w_aloadN X0 hx hby d10_10 rfl rfl ?_
    refine w_iloadN X0 hx hby d10_11 rfl ?_
    exact kt
  obtain ⟨cl3, Ar3, -, Sz3, Nn3, Hh3, -⟩ := id V_b
  have hin3 : ¬ ((0 : Int32) < 0 ∨ cl3.slots.size ≤ ((0 : Int32)).toNatClampNeg) := inb_of Sz3 ⟨by decide, by decide⟩
  have S5 : own_G p e below s0 s₁ m 20 #[rv b, iv 0, rv tb, iv 0, iv 3, iv 0, iv c0] [(.int 255), (.int c0)] := fun t kt => by
    refine S4 t ?_
    refine X0.caload hx (j := (0 : Int32)) (v := (.int c0)) (by rw [e0]; exact Ar3.1) (State.isArrayOf_alike hZ.alike Ar3.2.1) Ar3.2.2 hin3 (Has.at Hh3 hin3 rfl) (g := (mkF m 12 #[rv b, iv 0, rv tb, iv 0, iv 3, iv 0, .unset] [(.int 0), (.ref b)])) rfl rfl (hb hby d10_12) _ ?_
    refine w_istore X0 hx hby d10_13 (l' := #[rv b, iv 0, rv tb, iv 0, iv 3, iv 0, iv c0]) rfl ?_
    refine w_iload X0 hx hby d10_15 rfl ?_
    refine w_sipush X0 hx hby d10_17 ?_
    exact kt
  have hc20_6 : ¬ ((255 : Int32) < c0) := hl0
  have S7 : own_G p e below s0 s₁ m 31 #[rv b, iv 0, rv tb, iv 0, iv 3, iv 0, iv c0] [(.int (c0.toInt8.toInt32)), (.int 0), (.ref tb)] := fun t kt => by
    refine S5 t ?_
    refine w_icmpYes X0 hx hby (pc' := 26) d10_20 (flt hc20_6).2.2.2 (by decide) ?_
    refine w_aloadN X0 hx hby d10_26 rfl rfl ?_
    refine w_iloadN X0 hx hby d10_27 rfl ?_
    refine w_iload X0 hx hby d10_28 rfl ?_
    refine XS.i2b X0.here hx rfl (hb hby d10_30) rfl ?_
    exact kt
  obtain ⟨cl8, Ar8, q8, Sz8, Nn8, Hh8, Gg8⟩ := id V_t
  have hin8 : ¬ ((0 : Int32) < 0 ∨ cl8.slots.size ≤ ((0 : Int32)).toNatClampNeg) := inb_of Sz8 ⟨by decide, by decide⟩
  obtain ⟨T9, h9, X9, e9, W9, st9⟩ := stB X0 hx hZ e0 Ar8 (j := (0 : Int32)) hin8 (g := (mkF m 31 #[rv b, iv 0, rv tb, iv 0, iv 3, iv 0, iv c0] [(.int (c0.toInt8.toInt32)), (.int 0), (.ref tb)])) rfl rfl (hb hby d10_31)
  have S10 : own_G p e below s0 T9 m 32 #[rv b, iv 0, rv tb, iv 0, iv 3, iv 0, iv c0] [] := fun t kt => S7 t (st9 _ kt)
  have V11 := Arv.set Ar8 q8 Sz8 Nn8 Hh8 Gg8 (fits_nar_byte _) W9 0 rfl (Nat.le_of_ble_eq_true rfl)
  have F12 := V_b.other W9 ne_b_tb
  have N13 := Fr.snoc X9 N0 g_tb
  have K14 : Keep h0 h9 [tb] := (Keep.refl h0 [tb]).wr W9 (Or.inl (List.mem_of_getElem? (i := 0) rfl))
  have S15 : own_G p e below s0 T9 m 7 #[rv b, iv 1, rv tb, iv 1, iv 3, iv 1, iv c0] [(.int 3), (.int 1)] := fun t kt => by
    refine S10 t ?_
    refine w_iinc X9 hx hby d10_32 rfl (l' := #[rv b, iv 1, rv tb, iv 0, iv 3, iv 0, iv c0]) rfl ?_
    refine w_iinc X9 hx hby d10_35 rfl (l' := #[rv b, iv 1, rv tb, iv 1, iv 3, iv 0, iv c0]) rfl ?_
    refine w_iinc X9 hx hby d10_38 rfl (l' := #[rv b, iv 1, rv tb, iv 1, iv 3, iv 1, iv c0]) rfl ?_
    refine w_goto X9 hx hby (pc' := 3) d10_41 (by decide) ?_
    refine w_iload X9 hx hby d10_3 rfl ?_
    refine w_iload X9 hx hby d10_5 rfl ?_
    exact kt
  have hc7_16 : (1 : Int32) < (3 : Int32) := by decide
  have S18 : own_G p e below s0 T9 m 12 #[rv b, iv 1, rv tb, iv 1, iv 3, iv 1, iv c0] [(.int 1), (.ref b)] := fun t kt => by
    refine S15 t ?_
    refine w_icmpNo X9 hx hby d10_7 (tlt hc7_16).2.1 ?_
    refine w_aloadN X9 hx hby d10_10 rfl rfl ?_
    refine w_iloadN X9 hx hby d10_11 rfl ?_
    exact kt
  obtain ⟨cl17, Ar17, -, Sz17, Nn17, Hh17, -⟩ := id F12
  have hin17 : ¬ ((1 : Int32) < 0 ∨ cl17.slots.size ≤ ((1 : Int32)).toNatClampNeg) := inb_of Sz17 ⟨by decide, by decide⟩
  have S19 : own_G p e below s0 T9 m 20 #[rv b, iv 1, rv tb, iv 1, iv 3, iv 1, iv c1] [(.int 255), (.int c1)] := fun t kt => by
    refine S18 t ?_
    refine X9.caload hx (j := (1 : Int32)) (v := (.int c1)) (by rw [e9]; exact Ar17.1) (State.isArrayOf_alike hZ.alike Ar17.2.1) Ar17.2.2 hin17 (Has.at Hh17 hin17 rfl) (g := (mkF m 12 #[rv b, iv 1, rv tb, iv 1, iv 3, iv 1, iv c0] [(.int 1), (.ref b)])) rfl rfl (hb hby d10_12) _ ?_
    refine w_istore X9 hx hby d10_13 (l' := #[rv b, iv 1, rv tb, iv 1, iv 3, iv 1, iv c1]) rfl ?_
    refine w_iload X9 hx hby d10_15 rfl ?_
    refine w_sipush X9 hx hby d10_17 ?_
    exact kt
  have hc20_20 : ¬ ((255 : Int32) < c1) := hl1
  have S21 : own_G p e below s0 T9 m 31 #[rv b, iv 1, rv tb, iv 1, iv 3, iv 1, iv c1] [(.int (c1.toInt8.toInt32)), (.int 1), (.ref tb)] := fun t kt => by
    refine S19 t ?_
    refine w_icmpYes X9 hx hby (pc' := 26) d10_20 (flt hc20_20).2.2.2 (by decide) ?_
    refine w_aloadN X9 hx hby d10_26 rfl rfl ?_
    refine w_iloadN X9 hx hby d10_27 rfl ?_
    refine w_iload X9 hx hby d10_28 rfl ?_
    refine XS.i2b X9.here hx rfl (hb hby d10_30) rfl ?_
    exact kt
  obtain ⟨cl22, Ar22, q22, Sz22, Nn22, Hh22, Gg22⟩ := id V11
  have hin22 : ¬ ((1 : Int32) < 0 ∨ cl22.slots.size ≤ ((1 : Int32)).toNatClampNeg) := inb_of Sz22 ⟨by decide, by decide⟩
  obtain ⟨T23, h23, X23, e23, W23, st23⟩ := stB X9 hx hZ e9 Ar22 (j := (1 : Int32)) hin22 (g := (mkF m 31 #[rv b, iv 1, rv tb, iv 1, iv 3, iv 1, iv c1] [(.int (c1.toInt8.toInt32)), (.int 1), (.ref tb)])) rfl rfl (hb hby d10_31)
  have S24 : own_G p e below s0 T23 m 32 #[rv b, iv 1, rv tb, iv 1, iv 3, iv 1, iv c1] [] := fun t kt => S21 t (st23 _ kt)
  have V25 := Arv.set Ar22 q22 Sz22 Nn22 Hh22 Gg22 (fits_nar_byte _) W23 1 rfl (Nat.le_of_ble_eq_true rfl)
  have F26 := F12.other W23 ne_b_tb
  have N27 := Fr.snoc X23 N13 g_tb
  have K28 : Keep h0 h23 [tb] := K14.wr W23 (Or.inl (List.mem_of_getElem? (i := 0) rfl))
  have S29 : own_G p e below s0 T23 m 7 #[rv b, iv 2, rv tb, iv 2, iv 3, iv 2, iv c1] [(.int 3), (.int 2)] := fun t kt => by
    refine S24 t ?_
    refine w_iinc X23 hx hby d10_32 rfl (l' := #[rv b, iv 2, rv tb, iv 1, iv 3, iv 1, iv c1]) rfl ?_
    refine w_iinc X23 hx hby d10_35 rfl (l' := #[rv b, iv 2, rv tb, iv 2, iv 3, iv 1, iv c1]) rfl ?_
    refine w_iinc X23 hx hby d10_38 rfl (l' := #[rv b, iv 2, rv tb, iv 2, iv 3, iv 2, iv c1]) rfl ?_
    refine w_goto X23 hx hby (pc' := 3) d10_41 (by decide) ?_
    refine w_iload X23 hx hby d10_3 rfl ?_
    refine w_iload X23 hx hby d10_5 rfl ?_
    exact kt
  have hc7_30 : (2 : Int32) < (3 : Int32) := by decide
  have S32 : own_G p e below s0 T23 m 12 #[rv b, iv 2, rv tb, iv 2, iv 3, iv 2, iv c1] [(.int 2), (.ref b)] := fun t kt => by
    refine S29 t ?_
    refine w_icmpNo X23 hx hby d10_7 (tlt hc7_30).2.1 ?_
    refine w_aloadN X23 hx hby d10_10 rfl rfl ?_
    refine w_iloadN X23 hx hby d10_11 rfl ?_
    exact kt
  obtain ⟨cl31, Ar31, -, Sz31, Nn31, Hh31, -⟩ := id F26
  have hin31 : ¬ ((2 : Int32) < 0 ∨ cl31.slots.size ≤ ((2 : Int32)).toNatClampNeg) := inb_of Sz31 ⟨by decide, by decide⟩
  have S33 : own_G p e below s0 T23 m 20 #[rv b, iv 2, rv tb, iv 2, iv 3, iv 2, iv c2] [(.int 255), (.int c2)] := fun t kt => by
    refine S32 t ?_
    refine X23.caload hx (j := (2 : Int32)) (v := (.int c2)) (by rw [e23]; exact Ar31.1) (State.isArrayOf_alike hZ.alike Ar31.2.1) Ar31.2.2 hin31 (Has.at Hh31 hin31 rfl) (g := (mkF m 12 #[rv b, iv 2, rv tb, iv 2, iv 3, iv 2, iv c1] [(.int 2), (.ref b)])) rfl rfl (hb hby d10_12) _ ?_
    refine w_istore X23 hx hby d10_13 (l' := #[rv b, iv 2, rv tb, iv 2, iv 3, iv 2, iv c2]) rfl ?_
    refine w_iload X23 hx hby d10_15 rfl ?_
    refine w_sipush X23 hx hby d10_17 ?_
    exact kt
  have hc20_34 : ¬ ((255 : Int32) < c2) := hl2
  have S35 : own_G p e below s0 T23 m 31 #[rv b, iv 2, rv tb, iv 2, iv 3, iv 2, iv c2] [(.int (c2.toInt8.toInt32)), (.int 2), (.ref tb)] := fun t kt => by
    refine S33 t ?_
    refine w_icmpYes X23 hx hby (pc' := 26) d10_20 (flt hc20_34).2.2.2 (by decide) ?_
    refine w_aloadN X23 hx hby d10_26 rfl rfl ?_
    refine w_iloadN X23 hx hby d10_27 rfl ?_
    refine w_iload X23 hx hby d10_28 rfl ?_
    refine XS.i2b X23.here hx rfl (hb hby d10_30) rfl ?_
    exact kt
  obtain ⟨cl36, Ar36, q36, Sz36, Nn36, Hh36, Gg36⟩ := id V25
  have hin36 : ¬ ((2 : Int32) < 0 ∨ cl36.slots.size ≤ ((2 : Int32)).toNatClampNeg) := inb_of Sz36 ⟨by decide, by decide⟩
  obtain ⟨T37, h37, X37, e37, W37, st37⟩ := stB X23 hx hZ e23 Ar36 (j := (2 : Int32)) hin36 (g := (mkF m 31 #[rv b, iv 2, rv tb, iv 2, iv 3, iv 2, iv c2] [(.int (c2.toInt8.toInt32)), (.int 2), (.ref tb)])) rfl rfl (hb hby d10_31)
  have S38 : own_G p e below s0 T37 m 32 #[rv b, iv 2, rv tb, iv 2, iv 3, iv 2, iv c2] [] := fun t kt => S35 t (st37 _ kt)
  have V39 := Arv.set Ar36 q36 Sz36 Nn36 Hh36 Gg36 (fits_nar_byte _) W37 2 rfl (Nat.le_of_ble_eq_true rfl)
  have F40 := F26.other W37 ne_b_tb
  have N41 := Fr.snoc X37 N27 g_tb
  have K42 : Keep h0 h37 [tb] := K28.wr W37 (Or.inl (List.mem_of_getElem? (i := 0) rfl))
  have S43 : own_G p e below s0 T37 m 7 #[rv b, iv 3, rv tb, iv 3, iv 3, iv 3, iv c2] [(.int 3), (.int 3)] := fun t kt => by
    refine S38 t ?_
    refine w_iinc X37 hx hby d10_32 rfl (l' := #[rv b, iv 3, rv tb, iv 2, iv 3, iv 2, iv c2]) rfl ?_
    refine w_iinc X37 hx hby d10_35 rfl (l' := #[rv b, iv 3, rv tb, iv 3, iv 3, iv 2, iv c2]) rfl ?_
    refine w_iinc X37 hx hby d10_38 rfl (l' := #[rv b, iv 3, rv tb, iv 3, iv 3, iv 3, iv c2]) rfl ?_
    refine w_goto X37 hx hby (pc' := 3) d10_41 (by decide) ?_
    refine w_iload X37 hx hby d10_3 rfl ?_
    refine w_iload X37 hx hby d10_5 rfl ?_
    exact kt
  have hc7_44 : ¬ ((3 : Int32) < (3 : Int32)) := by decide
  have S45 : own_G p e below s0 T37 m 46 #[rv b, iv 3, rv tb, iv 3, iv 3, iv 3, iv c2] [(.int 3)] := fun t kt => by
    refine S43 t ?_
    refine w_icmpYes X37 hx hby (pc' := 44) d10_7 (flt hc7_44).2.1 (by decide) ?_
    refine w_iload X37 hx hby d10_44 rfl ?_
    exact kt
  obtain ⟨fs, hr, hrun, hended, hW, hsame⟩ := X37.leave (v := some (.int 3)) (fun h => by rw [Bd.returns] at h; cases h)
  refine ⟨_, _, S45 _ ?_, hrun, hended, _, _, rfl, ?_, ⟨_, rfl⟩, hW, hsame.mono (by decide) (by decide)⟩
  · show Steps p.tables e below (T37.setTop (mkF m 46 #[rv b, iv 3, rv tb, iv 3, iv 3, iv 3, iv c2] [(.int 3)])) _
    exact own_retI X37 hx Bd.returns (hb hby d10_46) hr
  · show own_Q10k3 Z b tb c0 c1 c2 kb kt h0 n0 _ T37.heap _
    rw [e37]
    exact ⟨rfl, N41, K42, (by have q : Arv Z h37 tb kt .byte (3 : Int32) [(.int (nar .byte (c0.toInt8.toInt32))), (.int (nar .byte (c1.toInt8.toInt32))), (.int (nar .byte (c2.toInt8.toInt32)))] (.int 0) := V39; simp only [own_lolo] at q; exact q)⟩
theorem own_ef10k4 (m : MethodId) (x0 : Addr) (x1 : Int32) (x2 : Addr) (x3 : Int32) (x4 : Int32) : entryFrame m #[(.ref x0), (.int x1), (.ref x2), (.int x3), (.int x4)] 7 = mkF m 0 #[rv x0, iv x1, rv x2, iv x3, iv x4, .unset, .unset] [] := by first | (simp [entryFrame, mkF, argsToLocals, Value.category]; done) | rfl
def own_Q10k4 (Z : State) (b : Addr) (tb : Addr) (c0 : Int32) (c1 : Int32) (c2 : Int32) (c3 : Int32) (kb : ClassId) (kt : ClassId) (h0 : Heap) (n0 : Nat) (v : Option Value) (h : Heap) (L : List Loc) : Prop := v = some (.int 4) ∧ Fr n0 L ∧ Keep h0 h [tb] ∧ Arv Z h tb kt .byte (4 : Int32) [(.int (own_lo c0)), (.int (own_lo c1)), (.int (own_lo c2)), (.int (own_lo c3))] (.int 0)
set_option maxHeartbeats 40000000 in
theorem own_rm10k4 (l : Launch) (Z : State) (a0 : Array Value) (hw : ∀ d ∈ tables_1, d.before a0 Z = true) (ws : List Jvm.Cond) (b : Addr) (tb : Addr) (c0 : Int32) (c1 : Int32) (c2 : Int32) (c3 : Int32) (kb : ClassId) (kt : ClassId) (h0 : Heap) (n0 : Nat) (Z0 : n0 ≤ h0.size) (V_b : Arv Z h0 b kb .char (4 : Int32) [(.int c0), (.int c1), (.int c2), (.int c3)] (.int 0)) (V_t : Arv Z h0 tb kt .byte (4 : Int32) [(.int 0), (.int 0), (.int 0), (.int 0)] (.int 0)) (g_tb : n0 ≤ tb) (ne_b_tb : b ≠ tb) (hl0 : ¬ (255 : Int32) < c0) (hl1 : ¬ (255 : Int32) < c1) (hl2 : ¬ (255 : Int32) < c2) (hl3 : ¬ (255 : Int32) < c3) :
    MetFree l own_y9 (head1 (Jvm.Cond.code own_y9 jdk_52_method_21_code 7 (some .int) :: ws) ({ frames := 0, cells := 0, slots := 0, locals := 0 } : Room)) (fun argv U => argv = #[(.ref b), (.int 0), (.ref tb), (.int 0), (.int 4)] ∧ Z.Warmed39 U.vm ∧ U.heap = h0) (fun _ _ _ _ _ => True) (fun _ U o U' => ∃ v L, o = .returned v ∧ own_Q10k4 Z b tb c0 c1 c2 c3 kb kt h0 n0 v U'.heap L ∧ FrameEnd U o U' L ({ frames := 0, cells := 0, slots := 0, locals := 0 } : Room).cells ({ frames := 0, cells := 0, slots := 0, locals := 0 } : Room).slots) := by
  refine MetFree.of_bodySF (plainFor_of_name own_pn2) hisR ?_
  intro p e s m args below meth c s₁ Bd hml0 hP hK
  obtain ⟨rfl, hZ, hh⟩ := hP
  have hx := Bd.exec
  have hby := Bd.bytes
  have hml : c.maxLocals = 7 := hml0
  have hown : s.vm.findClass own_s2 = some m.cls := findClass_of_methodNamed Bd.named
  have hnm := (name_of_methodNamed Bd.named Bd.method).1
  have X0 : Stand p l e ({ frames := 0, cells := 0, slots := 0, locals := 0 } : Room) s m #[(.ref b), (.int 0), (.ref tb), (.int 0), (.int 4)] below meth c s₁ [] 0 0 := Stand.of_body Bd
  have e0 : s₁.heap = h0 := by rw [← hh, Bd.state]; rfl
  have N0 := Fr.nil n0
  have pre_ : own_G p e below (s₁.setTop (entryFrame m #[(.ref b), (.int 0), (.ref tb), (.int 0), (.int 4)] 7)) s₁ m 0 #[rv b, iv 0, rv tb, iv 0, iv 4, .unset, .unset] [] := fun t k => castTop (own_ef10k4 m b (0 : Int32) tb (0 : Int32) (4 : Int32)) k
  obtain ⟨s0, hs0⟩ : ∃ z, z = (s₁.setTop (entryFrame m #[(.ref b), (.int 0), (.ref tb), (.int 0), (.int 4)] 7)) := ⟨_, rfl⟩
  have pre0 : own_G p e below s0 s₁ m 0 #[rv b, iv 0, rv tb, iv 0, iv 4, .unset, .unset] [] := hs0 ▸ pre_
  rw [← hs0]
  have S1 : own_G p e below s0 s₁ m 7 #[rv b, iv 0, rv tb, iv 0, iv 4, iv 0, .unset] [(.int 4), (.int 0)] := fun t kt => by
    refine pre0 t ?_
    refine w_iconst X0 hx hby d10_0 ?_
    refine w_istore X0 hx hby d10_1 (l' := #[rv b, iv 0, rv tb, iv 0, iv 4, iv 0, .unset]) rfl ?_
    refine w_iload X0 hx hby d10_3 rfl ?_
    refine w_iload X0 hx hby d10_5 rfl ?_
    exact kt
  have hc7_2 : (0 : Int32) < (4 : Int32) := by decide
  have S4 : own_G p e below s0 s₁ m 12 #[rv b, iv 0, rv tb, iv 0, iv 4, iv 0, .unset] [(.int 0), (.ref b)] := fun t kt => by
    refine S1 t ?_
    refine w_icmpNo X0 hx hby d10_7 (tlt hc7_2).2.1 ?_
    refine w_aloadN X0 hx hby d10_10 rfl rfl ?_
    refine w_iloadN X0 hx hby d10_11 rfl ?_
    exact kt
  obtain ⟨cl3, Ar3, -, Sz3, Nn3, Hh3, -⟩ := id V_b
  have hin3 : ¬ ((0 : Int32) < 0 ∨ cl3.slots.size ≤ ((0 : Int32)).toNatClampNeg) := inb_of Sz3 ⟨by decide, by decide⟩
  have S5 : own_G p e below s0 s₁ m 20 #[rv b, iv 0, rv tb, iv 0, iv 4, iv 0, iv c0] [(.int 255), (.int c0)] := fun t kt => by
    refine S4 t ?_
    refine X0.caload hx (j := (0 : Int32)) (v := (.int c0)) (by rw [e0]; exact Ar3.1) (State.isArrayOf_alike hZ.alike Ar3.2.1) Ar3.2.2 hin3 (Has.at Hh3 hin3 rfl) (g := (mkF m 12 #[rv b, iv 0, rv tb, iv 0, iv 4, iv 0, .unset] [(.int 0), (.ref b)])) rfl rfl (hb hby d10_12) _ ?_
    refine w_istore X0 hx hby d10_13 (l' := #[rv b, iv 0, rv tb, iv 0, iv 4, iv 0, iv c0]) rfl ?_
    refine w_iload X0 hx hby d10_15 rfl ?_
    refine w_sipush X0 hx hby d10_17 ?_
    exact kt
  have hc20_6 : ¬ ((255 : Int32) < c0) := hl0
  have S7 : own_G p e below s0 s₁ m 31 #[rv b, iv 0, rv tb, iv 0, iv 4, iv 0, iv c0] [(.int (c0.toInt8.toInt32)), (.int 0), (.ref tb)] := fun t kt => by
    refine S5 t ?_
    refine w_icmpYes X0 hx hby (pc' := 26) d10_20 (flt hc20_6).2.2.2 (by decide) ?_
    refine w_aloadN X0 hx hby d10_26 rfl rfl ?_
    refine w_iloadN X0 hx hby d10_27 rfl ?_
    refine w_iload X0 hx hby d10_28 rfl ?_
    refine XS.i2b X0.here hx rfl (hb hby d10_30) rfl ?_
    exact kt
  obtain ⟨cl8, Ar8, q8, Sz8, Nn8, Hh8, Gg8⟩ := id V_t
  have hin8 : ¬ ((0 : Int32) < 0 ∨ cl8.slots.size ≤ ((0 : Int32)).toNatClampNeg) := inb_of Sz8 ⟨by decide, by decide⟩
  obtain ⟨T9, h9, X9, e9, W9, st9⟩ := stB X0 hx hZ e0 Ar8 (j := (0 : Int32)) hin8 (g := (mkF m 31 #[rv b, iv 0, rv tb, iv 0, iv 4, iv 0, iv c0] [(.int (c0.toInt8.toInt32)), (.int 0), (.ref tb)])) rfl rfl (hb hby d10_31)
  have S10 : own_G p e below s0 T9 m 32 #[rv b, iv 0, rv tb, iv 0, iv 4, iv 0, iv c0] [] := fun t kt => S7 t (st9 _ kt)
  have V11 := Arv.set Ar8 q8 Sz8 Nn8 Hh8 Gg8 (fits_nar_byte _) W9 0 rfl (Nat.le_of_ble_eq_true rfl)
  have F12 := V_b.other W9 ne_b_tb
  have N13 := Fr.snoc X9 N0 g_tb
  have K14 : Keep h0 h9 [tb] := (Keep.refl h0 [tb]).wr W9 (Or.inl (List.mem_of_getElem? (i := 0) rfl))
  have S15 : own_G p e below s0 T9 m 7 #[rv b, iv 1, rv tb, iv 1, iv 4, iv 1, iv c0] [(.int 4), (.int 1)] := fun t kt => by
    refine S10 t ?_
    refine w_iinc X9 hx hby d10_32 rfl (l' := #[rv b, iv 1, rv tb, iv 0, iv 4, iv 0, iv c0]) rfl ?_
    refine w_iinc X9 hx hby d10_35 rfl (l' := #[rv b, iv 1, rv tb, iv 1, iv 4, iv 0, iv c0]) rfl ?_
    refine w_iinc X9 hx hby d10_38 rfl (l' := #[rv b, iv 1, rv tb, iv 1, iv 4, iv 1, iv c0]) rfl ?_
    refine w_goto X9 hx hby (pc' := 3) d10_41 (by decide) ?_
    refine w_iload X9 hx hby d10_3 rfl ?_
    refine w_iload X9 hx hby d10_5 rfl ?_
    exact kt
  have hc7_16 : (1 : Int32) < (4 : Int32) := by decide
  have S18 : own_G p e below s0 T9 m 12 #[rv b, iv 1, rv tb, iv 1, iv 4, iv 1, iv c0] [(.int 1), (.ref b)] := fun t kt => by
    refine S15 t ?_
    refine w_icmpNo X9 hx hby d10_7 (tlt hc7_16).2.1 ?_
    refine w_aloadN X9 hx hby d10_10 rfl rfl ?_
    refine w_iloadN X9 hx hby d10_11 rfl ?_
    exact kt
  obtain ⟨cl17, Ar17, -, Sz17, Nn17, Hh17, -⟩ := id F12
  have hin17 : ¬ ((1 : Int32) < 0 ∨ cl17.slots.size ≤ ((1 : Int32)).toNatClampNeg) := inb_of Sz17 ⟨by decide, by decide⟩
  have S19 : own_G p e below s0 T9 m 20 #[rv b, iv 1, rv tb, iv 1, iv 4, iv 1, iv c1] [(.int 255), (.int c1)] := fun t kt => by
    refine S18 t ?_
    refine X9.caload hx (j := (1 : Int32)) (v := (.int c1)) (by rw [e9]; exact Ar17.1) (State.isArrayOf_alike hZ.alike Ar17.2.1) Ar17.2.2 hin17 (Has.at Hh17 hin17 rfl) (g := (mkF m 12 #[rv b, iv 1, rv tb, iv 1, iv 4, iv 1, iv c0] [(.int 1), (.ref b)])) rfl rfl (hb hby d10_12) _ ?_
    refine w_istore X9 hx hby d10_13 (l' := #[rv b, iv 1, rv tb, iv 1, iv 4, iv 1, iv c1]) rfl ?_
    refine w_iload X9 hx hby d10_15 rfl ?_
    refine w_sipush X9 hx hby d10_17 ?_
    exact kt
  have hc20_20 : ¬ ((255 : Int32) < c1) := hl1
  have S21 : own_G p e below s0 T9 m 31 #[rv b, iv 1, rv tb, iv 1, iv 4, iv 1, iv c1] [(.int (c1.toInt8.toInt32)), (.int 1), (.ref tb)] := fun t kt => by
    refine S19 t ?_
    refine w_icmpYes X9 hx hby (pc' := 26) d10_20 (flt hc20_20).2.2.2 (by decide) ?_
    refine w_aloadN X9 hx hby d10_26 rfl rfl ?_
    refine w_iloadN X9 hx hby d10_27 rfl ?_
    refine w_iload X9 hx hby d10_28 rfl ?_
    refine XS.i2b X9.here hx rfl (hb hby d10_30) rfl ?_
    exact kt
  obtain ⟨cl22, Ar22, q22, Sz22, Nn22, Hh22, Gg22⟩ := id V11
  have hin22 : ¬ ((1 : Int32) < 0 ∨ cl22.slots.size ≤ ((1 : Int32)).toNatClampNeg) := inb_of Sz22 ⟨by decide, by decide⟩
  obtain ⟨T23, h23, X23, e23, W23, st23⟩ := stB X9 hx hZ e9 Ar22 (j := (1 : Int32)) hin22 (g := (mkF m 31 #[rv b, iv 1, rv tb, iv 1, iv 4, iv 1, iv c1] [(.int (c1.toInt8.toInt32)), (.int 1), (.ref tb)])) rfl rfl (hb hby d10_31)
  have S24 : own_G p e below s0 T23 m 32 #[rv b, iv 1, rv tb, iv 1, iv 4, iv 1, iv c1] [] := fun t kt => S21 t (st23 _ kt)
  have V25 := Arv.set Ar22 q22 Sz22 Nn22 Hh22 Gg22 (fits_nar_byte _) W23 1 rfl (Nat.le_of_ble_eq_true rfl)
  have F26 := F12.other W23 ne_b_tb
  have N27 := Fr.snoc X23 N13 g_tb
  have K28 : Keep h0 h23 [tb] := K14.wr W23 (Or.inl (List.mem_of_getElem? (i := 0) rfl))
  have S29 : own_G p e below s0 T23 m 7 #[rv b, iv 2, rv tb, iv 2, iv 4, iv 2, iv c1] [(.int 4), (.int 2)] := fun t kt => by
    refine S24 t ?_
    refine w_iinc X23 hx hby d10_32 rfl (l' := #[rv b, iv 2, rv tb, iv 1, iv 4, iv 1, iv c1]) rfl ?_
    refine w_iinc X23 hx hby d10_35 rfl (l' := #[rv b, iv 2, rv tb, iv 2, iv 4, iv 1, iv c1]) rfl ?_
    refine w_iinc X23 hx hby d10_38 rfl (l' := #[rv b, iv 2, rv tb, iv 2, iv 4, iv 2, iv c1]) rfl ?_
    refine w_goto X23 hx hby (pc' := 3) d10_41 (by decide) ?_
    refine w_iload X23 hx hby d10_3 rfl ?_
    refine w_iload X23 hx hby d10_5 rfl ?_
    exact kt
  have hc7_30 : (2 : Int32) < (4 : Int32) := by decide
  have S32 : own_G p e below s0 T23 m 12 #[rv b, iv 2, rv tb, iv 2, iv 4, iv 2, iv c1] [(.int 2), (.ref b)] := fun t kt => by
    refine S29 t ?_
    refine w_icmpNo X23 hx hby d10_7 (tlt hc7_30).2.1 ?_
    refine w_aloadN X23 hx hby d10_10 rfl rfl ?_
    refine w_iloadN X23 hx hby d10_11 rfl ?_
    exact kt
  obtain ⟨cl31, Ar31, -, Sz31, Nn31, Hh31, -⟩ := id F26
  have hin31 : ¬ ((2 : Int32) < 0 ∨ cl31.slots.size ≤ ((2 : Int32)).toNatClampNeg) := inb_of Sz31 ⟨by decide, by decide⟩
  have S33 : own_G p e below s0 T23 m 20 #[rv b, iv 2, rv tb, iv 2, iv 4, iv 2, iv c2] [(.int 255), (.int c2)] := fun t kt => by
    refine S32 t ?_
    refine X23.caload hx (j := (2 : Int32)) (v := (.int c2)) (by rw [e23]; exact Ar31.1) (State.isArrayOf_alike hZ.alike Ar31.2.1) Ar31.2.2 hin31 (Has.at Hh31 hin31 rfl) (g := (mkF m 12 #[rv b, iv 2, rv tb, iv 2, iv 4, iv 2, iv c1] [(.int 2), (.ref b)])) rfl rfl (hb hby d10_12) _ ?_
    refine w_istore X23 hx hby d10_13 (l' := #[rv b, iv 2, rv tb, iv 2, iv 4, iv 2, iv c2]) rfl ?_
    refine w_iload X23 hx hby d10_15 rfl ?_
    refine w_sipush X23 hx hby d10_17 ?_
    exact kt
  have hc20_34 : ¬ ((255 : Int32) < c2) := hl2
  have S35 : own_G p e below s0 T23 m 31 #[rv b, iv 2, rv tb, iv 2, iv 4, iv 2, iv c2] [(.int (c2.toInt8.toInt32)), (.int 2), (.ref tb)] := fun t kt => by
    refine S33 t ?_
    refine w_icmpYes X23 hx hby (pc' := 26) d10_20 (flt hc20_34).2.2.2 (by decide) ?_
    refine w_aloadN X23 hx hby d10_26 rfl rfl ?_
    refine w_iloadN X23 hx hby d10_27 rfl ?_
    refine w_iload X23 hx hby d10_28 rfl ?_
    refine XS.i2b X23.here hx rfl (hb hby d10_30) rfl ?_
    exact kt
  obtain ⟨cl36, Ar36, q36, Sz36, Nn36, Hh36, Gg36⟩ := id V25
  have hin36 : ¬ ((2 : Int32) < 0 ∨ cl36.slots.size ≤ ((2 : Int32)).toNatClampNeg) := inb_of Sz36 ⟨by decide, by decide⟩
  obtain ⟨T37, h37, X37, e37, W37, st37⟩ := stB X23 hx hZ e23 Ar36 (j := (2 : Int32)) hin36 (g := (mkF m 31 #[rv b, iv 2, rv tb, iv 2, iv 4, iv 2, iv c2] [(.int (c2.toInt8.toInt32)), (.int 2), (.ref tb)])) rfl rfl (hb hby d10_31)
  have S38 : own_G p e below s0 T37 m 32 #[rv b, iv 2, rv tb, iv 2, iv 4, iv 2, iv c2] [] := fun t kt => S35 t (st37 _ kt)
  have V39 := Arv.set Ar36 q36 Sz36 Nn36 Hh36 Gg36 (fits_nar_byte _) W37 2 rfl (Nat.le_of_ble_eq_true rfl)
  have F40 := F26.other W37 ne_b_tb
  have N41 := Fr.snoc X37 N27 g_tb
  have K42 : Keep h0 h37 [tb] := K28.wr W37 (Or.inl (List.mem_of_getElem? (i := 0) rfl))
  have S43 : own_G p e below s0 T37 m 7 #[rv b, iv 3, rv tb, iv 3, iv 4, iv 3, iv c2] [(.int 4), (.int 3)] := fun t kt => by
    refine S38 t ?_
    refine w_iinc X37 hx hby d10_32 rfl (l' := #[rv b, iv 3, rv tb, iv 2, iv 4, iv 2, iv c2]) rfl ?_
    refine w_iinc X37 hx hby d10_35 rfl (l' := #[rv b, iv 3, rv tb, iv 3, iv 4, iv 2, iv c2]) rfl ?_
    refine w_iinc X37 hx hby d10_38 rfl (l' := #[rv b, iv 3, rv tb, iv 3, iv 4, iv 3, iv c2]) rfl ?_
    refine w_goto X37 hx hby (pc' := 3) d10_41 (by decide) ?_
    refine w_iload X37 hx hby d10_3 rfl ?_
    refine w_iload X37 hx hby d10_5 rfl ?_
    exact kt
  have hc7_44 : (3 : Int32) < (4 : Int32) := by decide
  have S46 : own_G p e below s0 T37 m 12 #[rv b, iv 3, rv tb, iv 3, iv 4, iv 3, iv c2] [(.int 3), (.ref b)] := fun t kt => by
    refine S43 t ?_
    refine w_icmpNo X37 hx hby d10_7 (tlt hc7_44).2.1 ?_
    refine w_aloadN X37 hx hby d10_10 rfl rfl ?_
    refine w_iloadN X37 hx hby d10_11 rfl ?_
    exact kt
  obtain ⟨cl45, Ar45, -, Sz45, Nn45, Hh45, -⟩ := id F40
  have hin45 : ¬ ((3 : Int32) < 0 ∨ cl45.slots.size ≤ ((3 : Int32)).toNatClampNeg) := inb_of Sz45 ⟨by decide, by decide⟩
  have S47 : own_G p e below s0 T37 m 20 #[rv b, iv 3, rv tb, iv 3, iv 4, iv 3, iv c3] [(.int 255), (.int c3)] := fun t kt => by
    refine S46 t ?_
    refine X37.caload hx (j := (3 : Int32)) (v := (.int c3)) (by rw [e37]; exact Ar45.1) (State.isArrayOf_alike hZ.alike Ar45.2.1) Ar45.2.2 hin45 (Has.at Hh45 hin45 rfl) (g := (mkF m 12 #[rv b, iv 3, rv tb, iv 3, iv 4, iv 3, iv c2] [(.int 3), (.ref b)])) rfl rfl (hb hby d10_12) _ ?_
    refine w_istore X37 hx hby d10_13 (l' := #[rv b, iv 3, rv tb, iv 3, iv 4, iv 3, iv c3]) rfl ?_
    refine w_iload X37 hx hby d10_15 rfl ?_
    refine w_sipush X37 hx hby d10_17 ?_
    exact kt
  have hc20_48 : ¬ ((255 : Int32) < c3) := hl3
  have S49 : own_G p e below s0 T37 m 31 #[rv b, iv 3, rv tb, iv 3, iv 4, iv 3, iv c3] [(.int (c3.toInt8.toInt32)), (.int 3), (.ref tb)] := fun t kt => by
    refine S47 t ?_
    refine w_icmpYes X37 hx hby (pc' := 26) d10_20 (flt hc20_48).2.2.2 (by decide) ?_
    refine w_aloadN X37 hx hby d10_26 rfl rfl ?_
    refine w_iloadN X37 hx hby d10_27 rfl ?_
    refine w_iload X37 hx hby d10_28 rfl ?_
    refine XS.i2b X37.here hx rfl (hb hby d10_30) rfl ?_
    exact kt
  obtain ⟨cl50, Ar50, q50, Sz50, Nn50, Hh50, Gg50⟩ := id V39
  have hin50 : ¬ ((3 : Int32) < 0 ∨ cl50.slots.size ≤ ((3 : Int32)).toNatClampNeg) := inb_of Sz50 ⟨by decide, by decide⟩
  obtain ⟨T51, h51, X51, e51, W51, st51⟩ := stB X37 hx hZ e37 Ar50 (j := (3 : Int32)) hin50 (g := (mkF m 31 #[rv b, iv 3, rv tb, iv 3, iv 4, iv 3, iv c3] [(.int (c3.toInt8.toInt32)), (.int 3), (.ref tb)])) rfl rfl (hb hby d10_31)
  have S52 : own_G p e below s0 T51 m 32 #[rv b, iv 3, rv tb, iv 3, iv 4, iv 3, iv c3] [] := fun t kt => S49 t (st51 _ kt)
  have V53 := Arv.set Ar50 q50 Sz50 Nn50 Hh50 Gg50 (fits_nar_byte _) W51 3 rfl (Nat.le_of_ble_eq_true rfl)
  have F54 := F40.other W51 ne_b_tb
  have N55 := Fr.snoc X51 N41 g_tb
  have K56 : Keep h0 h51 [tb] := K42.wr W51 (Or.inl (List.mem_of_getElem? (i := 0) rfl))
  have S57 : own_G p e below s0 T51 m 7 #[rv b, iv 4, rv tb, iv 4, iv 4, iv 4, iv c3] [(.int 4), (.int 4)] := fun t kt => by
    refine S52 t ?_
    refine w_iinc X51 hx hby d10_32 rfl (l' := #[rv b, iv 4, rv tb, iv 3, iv 4, iv 3, iv c3]) rfl ?_
    refine w_iinc X51 hx hby d10_35 rfl (l' := #[rv b, iv 4, rv tb, iv 4, iv 4, iv 3, iv c3]) rfl ?_
    refine w_iinc X51 hx hby d10_38 rfl (l' := #[rv b, iv 4, rv tb, iv 4, iv 4, iv 4, iv c3]) rfl ?_
    refine w_goto X51 hx hby (pc' := 3) d10_41 (by decide) ?_
    refine w_iload X51 hx hby d10_3 rfl ?_
    refine w_iload X51 hx hby d10_5 rfl ?_
    exact kt
  have hc7_58 : ¬ ((4 : Int32) < (4 : Int32)) := by decide
  have S59 : own_G p e below s0 T51 m 46 #[rv b, iv 4, rv tb, iv 4, iv 4, iv 4, iv c3] [(.int 4)] := fun t kt => by
    refine S57 t ?_
    refine w_icmpYes X51 hx hby (pc' := 44) d10_7 (flt hc7_58).2.1 (by decide) ?_
    refine w_iload X51 hx hby d10_44 rfl ?_
    exact kt
  obtain ⟨fs, hr, hrun, hended, hW, hsame⟩ := X51.leave (v := some (.int 4)) (fun h => by rw [Bd.returns] at h; cases h)
  refine ⟨_, _, S59 _ ?_, hrun, hended, _, _, rfl, ?_, ⟨_, rfl⟩, hW, hsame.mono (by decide) (by decide)⟩
  · show Steps p.tables e below (T51.setTop (mkF m 46 #[rv b, iv 4, rv tb, iv 4, iv 4, iv 4, iv c3] [(.int 4)])) _
    exact own_retI X51 hx Bd.returns (hb hby d10_46) hr
  · show own_Q10k4 Z b tb c0 c1 c2 c3 kb kt h0 n0 _ T51.heap _
    rw [e51]
    exact ⟨rfl, N55, K56, (by have q : Arv Z h51 tb kt .byte (4 : Int32) [(.int (nar .byte (c0.toInt8.toInt32))), (.int (nar .byte (c1.toInt8.toInt32))), (.int (nar .byte (c2.toInt8.toInt32))), (.int (nar .byte (c3.toInt8.toInt32)))] (.int 0) := V53; simp only [own_lolo] at q; exact q)⟩
theorem own_ef10k5 (m : MethodId) (x0 : Addr) (x1 : Int32) (x2 : Addr) (x3 : Int32) (x4 : Int32) : entryFrame m #[(.ref x0), (.int x1), (.ref x2), (.int x3), (.int x4)] 7 = mkF m 0 #[rv x0, iv x1, rv x2, iv x3, iv x4, .unset, .unset] [] := by first | (simp [entryFrame, mkF, argsToLocals, Value.category]; done) | rfl
def own_Q10k5 (Z : State) (b : Addr) (tb : Addr) (c0 : Int32) (c1 : Int32) (c2 : Int32) (c3 : Int32) (c4 : Int32) (kb : ClassId) (kt : ClassId) (h0 : Heap) (n0 : Nat) (v : Option Value) (h : Heap) (L : List Loc) : Prop := v = some (.int 5) ∧ Fr n0 L ∧ Keep h0 h [tb] ∧ Arv Z h tb kt .byte (5 : Int32) [(.int (own_lo c0)), (.int (own_lo c1)), (.int (own_lo c2)), (.int (own_lo c3)), (.int (own_lo c4))] (.int 0)
set_option maxHeartbeats 40000000 in
theorem own_rm10k5 (l : Launch) (Z : State) (a0 : Array Value) (hw : ∀ d ∈ tables_1, d.before a0 Z = true) (ws : List Jvm.Cond) (b : Addr) (tb : Addr) (c0 : Int32) (c1 : Int32) (c2 : Int32) (c3 : Int32) (c4 : Int32) (kb : ClassId) (kt : ClassId) (h0 : Heap) (n0 : Nat) (Z0 : n0 ≤ h0.size) (V_b : Arv Z h0 b kb .char (5 : Int32) [(.int c0), (.int c1), (.int c2), (.int c3), (.int c4)] (.int 0)) (V_t : Arv Z h0 tb kt .byte (5 : Int32) [(.int 0), (.int 0), (.int 0), (.int 0), (.int 0)] (.int 0)) (g_tb : n0 ≤ tb) (ne_b_tb : b ≠ tb) (hl0 : ¬ (255 : Int32) < c0) (hl1 : ¬ (255 : Int32) < c1) (hl2 : ¬ (255 : Int32) < c2) (hl3 : ¬ (255 : Int32) < c3) (hl4 : ¬ (255 : Int32) < c4) :
    MetFree l own_y9 (head1 (Jvm.Cond.code own_y9 jdk_52_method_21_code 7 (some .int) :: ws) ({ frames := 0, cells := 0, slots := 0, locals := 0 } : Room)) (fun argv U => argv = #[(.ref b), (.int 0), (.ref tb), (.int 0), (.int 5)] ∧ Z.Warmed39 U.vm ∧ U.heap = h0) (fun _ _ _ _ _ => True) (fun _ U o U' => ∃ v L, o = .returned v ∧ own_Q10k5 Z b tb c0 c1 c2 c3 c4 kb kt h0 n0 v U'.heap L ∧ FrameEnd U o U' L ({ frames := 0, cells := 0, slots := 0, locals := 0 } : Room).cells ({ frames := 0, cells := 0, slots := 0, locals := 0 } : Room).slots) := by
  refine MetFree.of_bodySF (plainFor_of_name own_pn2) hisR ?_
  intro p e s m args below meth c s₁ Bd hml0 hP hK
  obtain ⟨rfl, hZ, hh⟩ := hP
  have hx := Bd.exec
  have hby := Bd.bytes
  have hml : c.maxLocals = 7 := hml0
  have hown : s.vm.findClass own_s2 = some m.cls := findClass_of_methodNamed Bd.named
  have hnm := (name_of_methodNamed Bd.named Bd.method).1
  have X0 : Stand p l e ({ frames := 0, cells := 0, slots := 0, locals := 0 } : Room) s m #[(.ref b), (.int 0), (.ref tb), (.int 0), (.int 5)] below meth c s₁ [] 0 0 := Stand.of_body Bd
  have e0 : s₁.heap = h0 := by rw [← hh, Bd.state]; rfl
  have N0 := Fr.nil n0
  have pre_ : own_G p e below (s₁.setTop (entryFrame m #[(.ref b), (.int 0), (.ref tb), (.int 0), (.int 5)] 7)) s₁ m 0 #[rv b, iv 0, rv tb, iv 0, iv 5, .unset, .unset] [] := fun t k => castTop (own_ef10k5 m b (0 : Int32) tb (0 : Int32) (5 : Int32)) k
  obtain ⟨s0, hs0⟩ : ∃ z, z = (s₁.setTop (entryFrame m #[(.ref b), (.int 0), (.ref tb), (.int 0), (.int 5)] 7)) := ⟨_, rfl⟩
  have pre0 : own_G p e below s0 s₁ m 0 #[rv b, iv 0, rv tb, iv 0, iv 5, .unset, .unset] [] := hs0 ▸ pre_
  rw [← hs0]
  have S1 : own_G p e below s0 s₁ m 7 #[rv b, iv 0, rv tb, iv 0, iv 5, iv 0, .unset] [(.int 5), (.int 0)] := fun t kt => by
    refine pre0 t ?_
    refine w_iconst X0 hx hby d10_0 ?_
    refine w_istore X0 hx hby d10_1 (l' := #[rv b, iv 0, rv tb, iv 0, iv 5, iv 0, .unset]) rfl ?_
    refine w_iload X0 hx hby d10_3 rfl ?_
    refine w_iload X0 hx hby d10_5 rfl ?_
    exact kt
  have hc7_2 : (0 : Int32) < (5 : Int32) := by decide
  have S4 : own_G p e below s0 s₁ m 12 #[rv b, iv 0, rv tb, iv 0, iv 5, iv 0, .unset] [(.int 0), (.ref b)] := fun t kt => by
    refine S1 t ?_
    refine w_icmpNo X0 hx hby d10_7 (tlt hc7_2).2.1 ?_
    refine w_aloadN X0 hx hby d10_10 rfl rfl ?_
    refine w_iloadN X0 hx hby d10_11 rfl ?_
    exact kt
  obtain ⟨cl3, Ar3, -, Sz3, Nn3, Hh3, -⟩ := id V_b
  have hin3 : ¬ ((0 : Int32) < 0 ∨ cl3.slots.size ≤ ((0 : Int32)).toNatClampNeg) := inb_of Sz3 ⟨by decide, by decide⟩
  have S5 : own_G p e below s0 s₁ m 20 #[rv b, iv 0, rv tb, iv 0, iv 5, iv 0, iv c0] [(.int 255), (.int c0)] := fun t kt => by
    refine S4 t ?_
    refine X0.caload hx (j := (0 : Int32)) (v := (.int c0)) (by rw [e0]; exact Ar3.1) (State.isArrayOf_alike hZ.alike Ar3.2.1) Ar3.2.2 hin3 (Has.at Hh3 hin3 rfl) (g := (mkF m 12 #[rv b, iv 0, rv tb, iv 0, iv 5, iv 0, .unset] [(.int 0), (.ref b)])) rfl rfl (hb hby d10_12) _ ?_
    refine w_istore X0 hx hby d10_13 (l' := #[rv b, iv 0, rv tb, iv 0, iv 5, iv 0, iv c0]) rfl ?_
    refine w_iload X0 hx hby d10_15 rfl ?_
    refine w_sipush X0 hx hby d10_17 ?_
    exact kt
  have hc20_6 : ¬ ((255 : Int32) < c0) := hl0
  have S7 : own_G p e below s0 s₁ m 31 #[rv b, iv 0, rv tb, iv 0, iv 5, iv 0, iv c0] [(.int (c0.toInt8.toInt32)), (.int 0), (.ref tb)] := fun t kt => by
    refine S5 t ?_
    refine w_icmpYes X0 hx hby (pc' := 26) d10_20 (flt hc20_6).2.2.2 (by decide) ?_
    refine w_aloadN X0 hx hby d10_26 rfl rfl ?_
    refine w_iloadN X0 hx hby d10_27 rfl ?_
    refine w_iload X0 hx hby d10_28 rfl ?_
    refine XS.i2b X0.here hx rfl (hb hby d10_30) rfl ?_
    exact kt
  obtain ⟨cl8, Ar8, q8, Sz8, Nn8, Hh8, Gg8⟩ := id V_t
  have hin8 : ¬ ((0 : Int32) < 0 ∨ cl8.slots.size ≤ ((0 : Int32)).toNatClampNeg) := inb_of Sz8 ⟨by decide, by decide⟩
  obtain ⟨T9, h9, X9, e9, W9, st9⟩ := stB X0 hx hZ e0 Ar8 (j := (0 : Int32)) hin8 (g := (mkF m 31 #[rv b, iv 0, rv tb, iv 0, iv 5, iv 0, iv c0] [(.int (c0.toInt8.toInt32)), (.int 0), (.ref tb)])) rfl rfl (hb hby d10_31)
  have S10 : own_G p e below s0 T9 m 32 #[rv b, iv 0, rv tb, iv 0, iv 5, iv 0, iv c0] [] := fun t kt => S7 t (st9 _ kt)
  have V11 := Arv.set Ar8 q8 Sz8 Nn8 Hh8 Gg8 (fits_nar_byte _) W9 0 rfl (Nat.le_of_ble_eq_true rfl)
  have F12 := V_b.other W9 ne_b_tb
  have N13 := Fr.snoc X9 N0 g_tb
  have K14 : Keep h0 h9 [tb] := (Keep.refl h0 [tb]).wr W9 (Or.inl (List.mem_of_getElem? (i := 0) rfl))
  have S15 : own_G p e below s0 T9 m 7 #[rv b, iv 1, rv tb, iv 1, iv 5, iv 1, iv c0] [(.int 5), (.int 1)] := fun t kt => by
    refine S10 t ?_
    refine w_iinc X9 hx hby d10_32 rfl (l' := #[rv b, iv 1, rv tb, iv 0, iv 5, iv 0, iv c0]) rfl ?_
    refine w_iinc X9 hx hby d10_35 rfl (l' := #[rv b, iv 1, rv tb, iv 1, iv 5, iv 0, iv c0]) rfl ?_
    refine w_iinc X9 hx hby d10_38 rfl (l' := #[rv b, iv 1, rv tb, iv 1, iv 5, iv 1, iv c0]) rfl ?_
    refine w_goto X9 hx hby (pc' := 3) d10_41 (by decide) ?_
    refine w_iload X9 hx hby d10_3 rfl ?_
    refine w_iload X9 hx hby d10_5 rfl ?_
    exact kt
  have hc7_16 : (1 : Int32) < (5 : Int32) := by decide
  have S18 : own_G p e below s0 T9 m 12 #[rv b, iv 1, rv tb, iv 1, iv 5, iv 1, iv c0] [(.int 1), (.ref b)] := fun t kt => by
    refine S15 t ?_
    refine w_icmpNo X9 hx hby d10_7 (tlt hc7_16).2.1 ?_
    refine w_aloadN X9 hx hby d10_10 rfl rfl ?_
    refine w_iloadN X9 hx hby d10_11 rfl ?_
    exact kt
  obtain ⟨cl17, Ar17, -, Sz17, Nn17, Hh17, -⟩ := id F12
  have hin17 : ¬ ((1 : Int32) < 0 ∨ cl17.slots.size ≤ ((1 : Int32)).toNatClampNeg) := inb_of Sz17 ⟨by decide, by decide⟩
  have S19 : own_G p e below s0 T9 m 20 #[rv b, iv 1, rv tb, iv 1, iv 5, iv 1, iv c1] [(.int 255), (.int c1)] := fun t kt => by
    refine S18 t ?_
    refine X9.caload hx (j := (1 : Int32)) (v := (.int c1)) (by rw [e9]; exact Ar17.1) (State.isArrayOf_alike hZ.alike Ar17.2.1) Ar17.2.2 hin17 (Has.at Hh17 hin17 rfl) (g := (mkF m 12 #[rv b, iv 1, rv tb, iv 1, iv 5, iv 1, iv c0] [(.int 1), (.ref b)])) rfl rfl (hb hby d10_12) _ ?_
    refine w_istore X9 hx hby d10_13 (l' := #[rv b, iv 1, rv tb, iv 1, iv 5, iv 1, iv c1]) rfl ?_
    refine w_iload X9 hx hby d10_15 rfl ?_
    refine w_sipush X9 hx hby d10_17 ?_
    exact kt
  have hc20_20 : ¬ ((255 : Int32) < c1) := hl1
  have S21 : own_G p e below s0 T9 m 31 #[rv b, iv 1, rv tb, iv 1, iv 5, iv 1, iv c1] [(.int (c1.toInt8.toInt32)), (.int 1), (.ref tb)] := fun t kt => by
    refine S19 t ?_
    refine w_icmpYes X9 hx hby (pc' := 26) d10_20 (flt hc20_20).2.2.2 (by decide) ?_
    refine w_aloadN X9 hx hby d10_26 rfl rfl ?_
    refine w_iloadN X9 hx hby d10_27 rfl ?_
    refine w_iload X9 hx hby d10_28 rfl ?_
    refine XS.i2b X9.here hx rfl (hb hby d10_30) rfl ?_
    exact kt
  obtain ⟨cl22, Ar22, q22, Sz22, Nn22, Hh22, Gg22⟩ := id V11
  have hin22 : ¬ ((1 : Int32) < 0 ∨ cl22.slots.size ≤ ((1 : Int32)).toNatClampNeg) := inb_of Sz22 ⟨by decide, by decide⟩
  obtain ⟨T23, h23, X23, e23, W23, st23⟩ := stB X9 hx hZ e9 Ar22 (j := (1 : Int32)) hin22 (g := (mkF m 31 #[rv b, iv 1, rv tb, iv 1, iv 5, iv 1, iv c1] [(.int (c1.toInt8.toInt32)), (.int 1), (.ref tb)])) rfl rfl (hb hby d10_31)
  have S24 : own_G p e below s0 T23 m 32 #[rv b, iv 1, rv tb, iv 1, iv 5, iv 1, iv c1] [] := fun t kt => S21 t (st23 _ kt)
  have V25 := Arv.set Ar22 q22 Sz22 Nn22 Hh22 Gg22 (fits_nar_byte _) W23 1 rfl (Nat.le_of_ble_eq_true rfl)
  have F26 := F12.other W23 ne_b_tb
  have N27 := Fr.snoc X23 N13 g_tb
  have K28 : Keep h0 h23 [tb] := K14.wr W23 (Or.inl (List.mem_of_getElem? (i := 0) rfl))
  have S29 : own_G p e below s0 T23 m 7 #[rv b, iv 2, rv tb, iv 2, iv 5, iv 2, iv c1] [(.int 5), (.int 2)] := fun t kt => by
    refine S24 t ?_
    refine w_iinc X23 hx hby d10_32 rfl (l' := #[rv b, iv 2, rv tb, iv 1, iv 5, iv 1, iv c1]) rfl ?_
    refine w_iinc X23 hx hby d10_35 rfl (l' := #[rv b, iv 2, rv tb, iv 2, iv 5, iv 1, iv c1]) rfl ?_
    refine w_iinc X23 hx hby d10_38 rfl (l' := #[rv b, iv 2, rv tb, iv 2, iv 5, iv 2, iv c1]) rfl ?_
    refine w_goto X23 hx hby (pc' := 3) d10_41 (by decide) ?_
    refine w_iload X23 hx hby d10_3 rfl ?_
    refine w_iload X23 hx hby d10_5 rfl ?_
    exact kt
  have hc7_30 : (2 : Int32) < (5 : Int32) := by decide
  have S32 : own_G p e below s0 T23 m 12 #[rv b, iv 2, rv tb, iv 2, iv 5, iv 2, iv c1] [(.int 2), (.ref b)] := fun t kt => by
    refine S29 t ?_
    refine w_icmpNo X23 hx hby d10_7 (tlt hc7_30).2.1 ?_
    refine w_aloadN X23 hx hby d10_10 rfl rfl ?_
    refine w_iloadN X23 hx hby d10_11 rfl ?_
    exact kt
  obtain ⟨cl31, Ar31, -, Sz31, Nn31, Hh31, -⟩ := id F26
  have hin31 : ¬ ((2 : Int32) < 0 ∨ cl31.slots.size ≤ ((2 : Int32)).toNatClampNeg) := inb_of Sz31 ⟨by decide, by decide⟩
  have S33 : own_G p e below s0 T23 m 20 #[rv b, iv 2, rv tb, iv 2, iv 5, iv 2, iv c2] [(.int 255), (.int c2)] := fun t kt => by
    refine S32 t ?_
    refine X23.caload hx (j := (2 : Int32)) (v := (.int c2)) (by rw [e23]; exact Ar31.1) (State.isArrayOf_alike hZ.alike Ar31.2.1) Ar31.2.2 hin31 (Has.at Hh31 hin31 rfl) (g := (mkF m 12 #[rv b, iv 2, rv tb, iv 2, iv 5, iv 2, iv c1] [(.int 2), (.ref b)])) rfl rfl (hb hby d10_12) _ ?_
    refine w_istore X23 hx hby d10_13 (l' := #[rv b, iv 2, rv tb, iv 2, iv 5, iv 2, iv c2]) rfl ?_
    refine w_iload X23 hx hby d10_15 rfl ?_
    refine w_sipush X23 hx hby d10_17 ?_
    exact kt
  have hc20_34 : ¬ ((255 : Int32) < c2) := hl2
  have S35 : own_G p e below s0 T23 m 31 #[rv b, iv 2, rv tb, iv 2, iv 5, iv 2, iv c2] [(.int (c2.toInt8.toInt32)), (.int 2), (.ref tb)] := fun t kt => by
    refine S33 t ?_
    refine w_icmpYes X23 hx hby (pc' := 26) d10_20 (flt hc20_34).2.2.2 (by decide) ?_
    refine w_aloadN X23 hx hby d10_26 rfl rfl ?_
    refine w_iloadN X23 hx hby d10_27 rfl ?_
    refine w_iload X23 hx hby d10_28 rfl ?_
    refine XS.i2b X23.here hx rfl (hb hby d10_30) rfl ?_
    exact kt
  obtain ⟨cl36, Ar36, q36, Sz36, Nn36, Hh36, Gg36⟩ := id V25
  have hin36 : ¬ ((2 : Int32) < 0 ∨ cl36.slots.size ≤ ((2 : Int32)).toNatClampNeg) := inb_of Sz36 ⟨by decide, by decide⟩
  obtain ⟨T37, h37, X37, e37, W37, st37⟩ := stB X23 hx hZ e23 Ar36 (j := (2 : Int32)) hin36 (g := (mkF m 31 #[rv b, iv 2, rv tb, iv 2, iv 5, iv 2, iv c2] [(.int (c2.toInt8.toInt32)), (.int 2), (.ref tb)])) rfl rfl (hb hby d10_31)
  have S38 : own_G p e below s0 T37 m 32 #[rv b, iv 2, rv tb, iv 2, iv 5, iv 2, iv c2] [] := fun t kt => S35 t (st37 _ kt)
  have V39 := Arv.set Ar36 q36 Sz36 Nn36 Hh36 Gg36 (fits_nar_byte _) W37 2 rfl (Nat.le_of_ble_eq_true rfl)
  have F40 := F26.other W37 ne_b_tb
  have N41 := Fr.snoc X37 N27 g_tb
  have K42 : Keep h0 h37 [tb] := K28.wr W37 (Or.inl (List.mem_of_getElem? (i := 0) rfl))
  have S43 : own_G p e below s0 T37 m 7 #[rv b, iv 3, rv tb, iv 3, iv 5, iv 3, iv c2] [(.int 5), (.int 3)] := fun t kt => by
    refine S38 t ?_
    refine w_iinc X37 hx hby d10_32 rfl (l' := #[rv b, iv 3, rv tb, iv 2, iv 5, iv 2, iv c2]) rfl ?_
    refine w_iinc X37 hx hby d10_35 rfl (l' := #[rv b, iv 3, rv tb, iv 3, iv 5, iv 2, iv c2]) rfl ?_
    refine w_iinc X37 hx hby d10_38 rfl (l' := #[rv b, iv 3, rv tb, iv 3, iv 5, iv 3, iv c2]) rfl ?_
    refine w_goto X37 hx hby (pc' := 3) d10_41 (by decide) ?_
    refine w_iload X37 hx hby d10_3 rfl ?_
    refine w_iload X37 hx hby d10_5 rfl ?_
    exact kt
  have hc7_44 : (3 : Int32) < (5 : Int32) := by decide
  have S46 : own_G p e below s0 T37 m 12 #[rv b, iv 3, rv tb, iv 3, iv 5, iv 3, iv c2] [(.int 3), (.ref b)] := fun t kt => by
    refine S43 t ?_
    refine w_icmpNo X37 hx hby d10_7 (tlt hc7_44).2.1 ?_
    refine w_aloadN X37 hx hby d10_10 rfl rfl ?_
    refine w_iloadN X37 hx hby d10_11 rfl ?_
    exact kt
  obtain ⟨cl45, Ar45, -, Sz45, Nn45, Hh45, -⟩ := id F40
  have hin45 : ¬ ((3 : Int32) < 0 ∨ cl45.slots.size ≤ ((3 : Int32)).toNatClampNeg) := inb_of Sz45 ⟨by decide, by decide⟩
  have S47 : own_G p e below s0 T37 m 20 #[rv b, iv 3, rv tb, iv 3, iv 5, iv 3, iv c3] [(.int 255), (.int c3)] := fun t kt => by
    refine S46 t ?_
    refine X37.caload hx (j := (3 : Int32)) (v := (.int c3)) (by rw [e37]; exact Ar45.1) (State.isArrayOf_alike hZ.alike Ar45.2.1) Ar45.2.2 hin45 (Has.at Hh45 hin45 rfl) (g := (mkF m 12 #[rv b, iv 3, rv tb, iv 3, iv 5, iv 3, iv c2] [(.int 3), (.ref b)])) rfl rfl (hb hby d10_12) _ ?_
    refine w_istore X37 hx hby d10_13 (l' := #[rv b, iv 3, rv tb, iv 3, iv 5, iv 3, iv c3]) rfl ?_
    refine w_iload X37 hx hby d10_15 rfl ?_
    refine w_sipush X37 hx hby d10_17 ?_
    exact kt
  have hc20_48 : ¬ ((255 : Int32) < c3) := hl3
  have S49 : own_G p e below s0 T37 m 31 #[rv b, iv 3, rv tb, iv 3, iv 5, iv 3, iv c3] [(.int (c3.toInt8.toInt32)), (.int 3), (.ref tb)] := fun t kt => by
    refine S47 t ?_
    refine w_icmpYes X37 hx hby (pc' := 26) d10_20 (flt hc20_48).2.2.2 (by decide) ?_
    refine w_aloadN X37 hx hby d10_26 rfl rfl ?_
    refine w_iloadN X37 hx hby d10_27 rfl ?_
    refine w_iload X37 hx hby d10_28 rfl ?_
    refine XS.i2b X37.here hx rfl (hb hby d10_30) rfl ?_
    exact kt
  obtain ⟨cl50, Ar50, q50, Sz50, Nn50, Hh50, Gg50⟩ := id V39
  have hin50 : ¬ ((3 : Int32) < 0 ∨ cl50.slots.size ≤ ((3 : Int32)).toNatClampNeg) := inb_of Sz50 ⟨by decide, by decide⟩
  obtain ⟨T51, h51, X51, e51, W51, st51⟩ := stB X37 hx hZ e37 Ar50 (j := (3 : Int32)) hin50 (g := (mkF m 31 #[rv b, iv 3, rv tb, iv 3, iv 5, iv 3, iv c3] [(.int (c3.toInt8.toInt32)), (.int 3), (.ref tb)])) rfl rfl (hb hby d10_31)
  have S52 : own_G p e below s0 T51 m 32 #[rv b, iv 3, rv tb, iv 3, iv 5, iv 3, iv c3] [] := fun t kt => S49 t (st51 _ kt)
  have V53 := Arv.set Ar50 q50 Sz50 Nn50 Hh50 Gg50 (fits_nar_byte _) W51 3 rfl (Nat.le_of_ble_eq_true rfl)
  have F54 := F40.other W51 ne_b_tb
  have N55 := Fr.snoc X51 N41 g_tb
  have K56 : Keep h0 h51 [tb] := K42.wr W51 (Or.inl (List.mem_of_getElem? (i := 0) rfl))
  have S57 : own_G p e below s0 T51 m 7 #[rv b, iv 4, rv tb, iv 4, iv 5, iv 4, iv c3] [(.int 5), (.int 4)] := fun t kt => by
    refine S52 t ?_
    refine w_iinc X51 hx hby d10_32 rfl (l' := #[rv b, iv 4, rv tb, iv 3, iv 5, iv 3, iv c3]) rfl ?_
    refine w_iinc X51 hx hby d10_35 rfl (l' := #[rv b, iv 4, rv tb, iv 4, iv 5, iv 3, iv c3]) rfl ?_
    refine w_iinc X51 hx hby d10_38 rfl (l' := #[rv b, iv 4, rv tb, iv 4, iv 5, iv 4, iv c3]) rfl ?_
    refine w_goto X51 hx hby (pc' := 3) d10_41 (by decide) ?_
    refine w_iload X51 hx hby d10_3 rfl ?_
    refine w_iload X51 hx hby d10_5 rfl ?_
    exact kt
  have hc7_58 : (4 : Int32) < (5 : Int32) := by decide
  have S60 : own_G p e below s0 T51 m 12 #[rv b, iv 4, rv tb, iv 4, iv 5, iv 4, iv c3] [(.int 4), (.ref b)] := fun t kt => by
    refine S57 t ?_
    refine w_icmpNo X51 hx hby d10_7 (tlt hc7_58).2.1 ?_
    refine w_aloadN X51 hx hby d10_10 rfl rfl ?_
    refine w_iloadN X51 hx hby d10_11 rfl ?_
    exact kt
  obtain ⟨cl59, Ar59, -, Sz59, Nn59, Hh59, -⟩ := id F54
  have hin59 : ¬ ((4 : Int32) < 0 ∨ cl59.slots.size ≤ ((4 : Int32)).toNatClampNeg) := inb_of Sz59 ⟨by decide, by decide⟩
  have S61 : own_G p e below s0 T51 m 20 #[rv b, iv 4, rv tb, iv 4, iv 5, iv 4, iv c4] [(.int 255), (.int c4)] := fun t kt => by
    refine S60 t ?_
    refine X51.caload hx (j := (4 : Int32)) (v := (.int c4)) (by rw [e51]; exact Ar59.1) (State.isArrayOf_alike hZ.alike Ar59.2.1) Ar59.2.2 hin59 (Has.at Hh59 hin59 rfl) (g := (mkF m 12 #[rv b, iv 4, rv tb, iv 4, iv 5, iv 4, iv c3] [(.int 4), (.ref b)])) rfl rfl (hb hby d10_12) _ ?_
    refine w_istore X51 hx hby d10_13 (l' := #[rv b, iv 4, rv tb, iv 4, iv 5, iv 4, iv c4]) rfl ?_
    refine w_iload X51 hx hby d10_15 rfl ?_
    refine w_sipush X51 hx hby d10_17 ?_
    exact kt
  have hc20_62 : ¬ ((255 : Int32) < c4) := hl4
  have S63 : own_G p e below s0 T51 m 31 #[rv b, iv 4, rv tb, iv 4, iv 5, iv 4, iv c4] [(.int (c4.toInt8.toInt32)), (.int 4), (.ref tb)] := fun t kt => by
    refine S61 t ?_
    refine w_icmpYes X51 hx hby (pc' := 26) d10_20 (flt hc20_62).2.2.2 (by decide) ?_
    refine w_aloadN X51 hx hby d10_26 rfl rfl ?_
    refine w_iloadN X51 hx hby d10_27 rfl ?_
    refine w_iload X51 hx hby d10_28 rfl ?_
    refine XS.i2b X51.here hx rfl (hb hby d10_30) rfl ?_
    exact kt
  obtain ⟨cl64, Ar64, q64, Sz64, Nn64, Hh64, Gg64⟩ := id V53
  have hin64 : ¬ ((4 : Int32) < 0 ∨ cl64.slots.size ≤ ((4 : Int32)).toNatClampNeg) := inb_of Sz64 ⟨by decide, by decide⟩
  obtain ⟨T65, h65, X65, e65, W65, st65⟩ := stB X51 hx hZ e51 Ar64 (j := (4 : Int32)) hin64 (g := (mkF m 31 #[rv b, iv 4, rv tb, iv 4, iv 5, iv 4, iv c4] [(.int (c4.toInt8.toInt32)), (.int 4), (.ref tb)])) rfl rfl (hb hby d10_31)
  have S66 : own_G p e below s0 T65 m 32 #[rv b, iv 4, rv tb, iv 4, iv 5, iv 4, iv c4] [] := fun t kt => S63 t (st65 _ kt)
  have V67 := Arv.set Ar64 q64 Sz64 Nn64 Hh64 Gg64 (fits_nar_byte _) W65 4 rfl (Nat.le_of_ble_eq_true rfl)
  have F68 := F54.other W65 ne_b_tb
  have N69 := Fr.snoc X65 N55 g_tb
  have K70 : Keep h0 h65 [tb] := K56.wr W65 (Or.inl (List.mem_of_getElem? (i := 0) rfl))
  have S71 : own_G p e below s0 T65 m 7 #[rv b, iv 5, rv tb, iv 5, iv 5, iv 5, iv c4] [(.int 5), (.int 5)] := fun t kt => by
    refine S66 t ?_
    refine w_iinc X65 hx hby d10_32 rfl (l' := #[rv b, iv 5, rv tb, iv 4, iv 5, iv 4, iv c4]) rfl ?_
    refine w_iinc X65 hx hby d10_35 rfl (l' := #[rv b, iv 5, rv tb, iv 5, iv 5, iv 4, iv c4]) rfl ?_
    refine w_iinc X65 hx hby d10_38 rfl (l' := #[rv b, iv 5, rv tb, iv 5, iv 5, iv 5, iv c4]) rfl ?_
    refine w_goto X65 hx hby (pc' := 3) d10_41 (by decide) ?_
    refine w_iload X65 hx hby d10_3 rfl ?_
    refine w_iload X65 hx hby d10_5 rfl ?_
    exact kt
  have hc7_72 : ¬ ((5 : Int32) < (5 : Int32)) := by decide
  have S73 : own_G p e below s0 T65 m 46 #[rv b, iv 5, rv tb, iv 5, iv 5, iv 5, iv c4] [(.int 5)] := fun t kt => by
    refine S71 t ?_
    refine w_icmpYes X65 hx hby (pc' := 44) d10_7 (flt hc7_72).2.1 (by decide) ?_
    refine w_iload X65 hx hby d10_44 rfl ?_
    exact kt
  obtain ⟨fs, hr, hrun, hended, hW, hsame⟩ := X65.leave (v := some (.int 5)) (fun h => by rw [Bd.returns] at h; cases h)
  refine ⟨_, _, S73 _ ?_, hrun, hended, _, _, rfl, ?_, ⟨_, rfl⟩, hW, hsame.mono (by decide) (by decide)⟩
  · show Steps p.tables e below (T65.setTop (mkF m 46 #[rv b, iv 5, rv tb, iv 5, iv 5, iv 5, iv c4] [(.int 5)])) _
    exact own_retI X65 hx Bd.returns (hb hby d10_46) hr
  · show own_Q10k5 Z b tb c0 c1 c2 c3 c4 kb kt h0 n0 _ T65.heap _
    rw [e65]
    exact ⟨rfl, N69, K70, (by have q : Arv Z h65 tb kt .byte (5 : Int32) [(.int (nar .byte (c0.toInt8.toInt32))), (.int (nar .byte (c1.toInt8.toInt32))), (.int (nar .byte (c2.toInt8.toInt32))), (.int (nar .byte (c3.toInt8.toInt32))), (.int (nar .byte (c4.toInt8.toInt32)))] (.int 0) := V67; simp only [own_lolo] at q; exact q)⟩
theorem d10_23 : decode jdk_52_method_21_code 23 = .ok (.iload 5, 2) := by decide +kernel
theorem d10_25 : decode jdk_52_method_21_code 25 = .ok (.ireturn, 1) := by decide +kernel
theorem own_ef10p0 (m : MethodId) (x0 : Addr) (x1 : Int32) (x2 : Addr) (x3 : Int32) (x4 : Int32) : entryFrame m #[(.ref x0), (.int x1), (.ref x2), (.int x3), (.int x4)] 7 = mkF m 0 #[rv x0, iv x1, rv x2, iv x3, iv x4, .unset, .unset] [] := by first | (simp [entryFrame, mkF, argsToLocals, Value.category]; done) | rfl
def own_Q10p0 (Z : State) (b : Addr) (tb : Addr) (nn : Int32) (c0 : Int32) (vs : List Value) (us : List Value) (kb : ClassId) (kt : ClassId) (h0 : Heap) (n0 : Nat) (v : Option Value) (h : Heap) (L : List Loc) : Prop := v = some (.int 0) ∧ Fr n0 L ∧ Keep h0 h [tb]
set_option maxHeartbeats 40000000 in
theorem own_rm10p0 (l : Launch) (Z : State) (a0 : Array Value) (hw : ∀ d ∈ tables_1, d.before a0 Z = true) (ws : List Jvm.Cond) (b : Addr) (tb : Addr) (nn : Int32) (c0 : Int32) (vs : List Value) (us : List Value) (kb : ClassId) (kt : ClassId) (h0 : Heap) (n0 : Nat) (Z0 : n0 ≤ h0.size) (V_b : Arv Z h0 b kb .char nn vs (.int 0)) (V_t : Arv Z h0 tb kt .byte nn us (.int 0)) (g_tb : n0 ≤ tb) (ne_b_tb : b ≠ tb) (hn_ : (0 : Int32) < nn) (hu : 0 ≤ us.length) (hx0 : vs.getD 0 (.int 0) = .int c0) (hg : (255 : Int32) < c0) :
    MetFree l own_y9 (head1 (Jvm.Cond.code own_y9 jdk_52_method_21_code 7 (some .int) :: ws) ({ frames := 0, cells := 0, slots := 0, locals := 0 } : Room)) (fun argv U => argv = #[(.ref b), (.int 0), (.ref tb), (.int 0), (.int nn)] ∧ Z.Warmed39 U.vm ∧ U.heap = h0) (fun _ _ _ _ _ => True) (fun _ U o U' => ∃ v L, o = .returned v ∧ own_Q10p0 Z b tb nn c0 vs us kb kt h0 n0 v U'.heap L ∧ FrameEnd U o U' L ({ frames := 0, cells := 0, slots := 0, locals := 0 } : Room).cells ({ frames := 0, cells := 0, slots := 0, locals := 0 } : Room).slots) := by
  refine MetFree.of_bodySF (plainFor_of_name own_pn2) hisR ?_
  intro p e s m args below meth c s₁ Bd hml0 hP hK
  obtain ⟨rfl, hZ, hh⟩ := hP
  have hx := Bd.exec
  have hby := Bd.bytes
  have hml : c.maxLocals = 7 := hml0
  have hown : s.vm.findClass own_s2 = some m.cls := findClass_of_methodNamed Bd.named
  have hnm := (name_of_methodNamed Bd.named Bd.method).1
  have X0 : Stand p l e ({ frames := 0, cells := 0, slots := 0, locals := 0 } : Room) s m #[(.ref b), (.int 0), (.ref tb), (.int 0), (.int nn)] below meth c s₁ [] 0 0 := Stand.of_body Bd
  have e0 : s₁.heap = h0 := by rw [← hh, Bd.state]; rfl
  have N0 := Fr.nil n0
  have pre_ : own_G p e below (s₁.setTop (entryFrame m #[(.ref b), (.int 0), (.ref tb), (.int 0), (.int nn)] 7)) s₁ m 0 #[rv b, iv 0, rv tb, iv 0, iv nn, .unset, .unset] [] := fun t k => castTop (own_ef10p0 m b (0 : Int32) tb (0 : Int32) nn) k
  obtain ⟨s0, hs0⟩ : ∃ z, z = (s₁.setTop (entryFrame m #[(.ref b), (.int 0), (.ref tb), (.int 0), (.int nn)] 7)) := ⟨_, rfl⟩
  have pre0 : own_G p e below s0 s₁ m 0 #[rv b, iv 0, rv tb, iv 0, iv nn, .unset, .unset] [] := hs0 ▸ pre_
  rw [← hs0]
  have S1 : own_G p e below s0 s₁ m 7 #[rv b, iv 0, rv tb, iv 0, iv nn, iv 0, .unset] [(.int nn), (.int 0)] := fun t kt => by
    refine pre0 t ?_
    refine w_iconst X0 hx hby d10_0 ?_
    refine w_istore X0 hx hby d10_1 (l' := #[rv b, iv 0, rv tb, iv 0, iv nn, iv 0, .unset]) rfl ?_
    refine w_iload X0 hx hby d10_3 rfl ?_
    refine w_iload X0 hx hby d10_5 rfl ?_
    exact kt
  have hc7_2 : (0 : Int32) < nn := own_llt (by decide) hn_
  have S4 : own_G p e below s0 s₁ m 12 #[rv b, iv 0, rv tb, iv 0, iv nn, iv 0, .unset] [(.int 0), (.ref b)] := fun t kt => by
    refine S1 t ?_
    refine w_icmpNo X0 hx hby d10_7 (tlt hc7_2).2.1 ?_
    refine w_aloadN X0 hx hby d10_10 rfl rfl ?_
    refine w_iloadN X0 hx hby d10_11 rfl ?_
    exact kt
  obtain ⟨cl3, Ar3, -, Sz3, Nn3, Hh3, -⟩ := id V_b
  have hin3 : ¬ ((0 : Int32) < 0 ∨ cl3.slots.size ≤ ((0 : Int32)).toNatClampNeg) := inb_of Sz3 ⟨by decide, own_llt (by decide) hn_⟩
  have S5 : own_G p e below s0 s₁ m 20 #[rv b, iv 0, rv tb, iv 0, iv nn, iv 0, iv c0] [(.int 255), (.int c0)] := fun t kt => by
    refine S4 t ?_
    refine X0.caload hx (j := (0 : Int32)) (v := (.int c0)) (by rw [e0]; exact Ar3.1) (State.isArrayOf_alike hZ.alike Ar3.2.1) Ar3.2.2 hin3 (Has.at Hh3 hin3 hx0) (g := (mkF m 12 #[rv b, iv 0, rv tb, iv 0, iv nn, iv 0, .unset] [(.int 0), (.ref b)])) rfl rfl (hb hby d10_12) _ ?_
    refine w_istore X0 hx hby d10_13 (l' := #[rv b, iv 0, rv tb, iv 0, iv nn, iv 0, iv c0]) rfl ?_
    refine w_iload X0 hx hby d10_15 rfl ?_
    refine w_sipush X0 hx hby d10_17 ?_
    exact kt
  have hc20_6 : (255 : Int32) < c0 := hg
  have S7 : own_G p e below s0 s₁ m 25 #[rv b, iv 0, rv tb, iv 0, iv nn, iv 0, iv c0] [(.int 0)] := fun t kt => by
    refine S5 t ?_
    refine w_icmpNo X0 hx hby d10_20 (tlt hc20_6).2.2.2 ?_
    refine w_iload X0 hx hby d10_23 rfl ?_
    exact kt
  obtain ⟨fs, hr, hrun, hended, hW, hsame⟩ := X0.leave (v := some (.int 0)) (fun h => by rw [Bd.returns] at h; cases h)
  refine ⟨_, _, S7 _ ?_, hrun, hended, _, _, rfl, ?_, ⟨_, rfl⟩, hW, hsame.mono (by decide) (by decide)⟩
  · show Steps p.tables e below (s₁.setTop (mkF m 25 #[rv b, iv 0, rv tb, iv 0, iv nn, iv 0, iv c0] [(.int 0)])) _
    exact own_retI X0 hx Bd.returns (hb hby d10_25) hr
  · show own_Q10p0 Z b tb nn c0 vs us kb kt h0 n0 _ s₁.heap _
    rw [e0]
    exact ⟨rfl, N0, (Keep.refl h0 [tb])⟩
theorem own_ef10p1 (m : MethodId) (x0 : Addr) (x1 : Int32) (x2 : Addr) (x3 : Int32) (x4 : Int32) : entryFrame m #[(.ref x0), (.int x1), (.ref x2), (.int x3), (.int x4)] 7 = mkF m 0 #[rv x0, iv x1, rv x2, iv x3, iv x4, .unset, .unset] [] := by first | (simp [entryFrame, mkF, argsToLocals, Value.category]; done) | rfl
def own_Q10p1 (Z : State) (b : Addr) (tb : Addr) (nn : Int32) (c0 : Int32) (c1 : Int32) (vs : List Value) (us : List Value) (kb : ClassId) (kt : ClassId) (h0 : Heap) (n0 : Nat) (v : Option Value) (h : Heap) (L : List Loc) : Prop := v = some (.int 1) ∧ Fr n0 L ∧ Keep h0 h [tb]
set_option maxHeartbeats 40000000 in
theorem own_rm10p1 (l : Launch) (Z : State) (a0 : Array Value) (hw : ∀ d ∈ tables_1, d.before a0 Z = true) (ws : List Jvm.Cond) (b : Addr) (tb : Addr) (nn : Int32) (c0 : Int32) (c1 : Int32) (vs : List Value) (us : List Value) (kb : ClassId) (kt : ClassId) (h0 : Heap) (n0 : Nat) (Z0 : n0 ≤ h0.size) (V_b : Arv Z h0 b kb .char nn vs (.int 0)) (V_t : Arv Z h0 tb kt .byte nn us (.int 0)) (g_tb : n0 ≤ tb) (ne_b_tb : b ≠ tb) (hn_ : (1 : Int32) < nn) (hu : 1 ≤ us.length) (hx0 : vs.getD 0 (.int 0) = .int c0) (hx1 : vs.getD 1 (.int 0) = .int c1) (hl0 : ¬ (255 : Int32) < c0) (hg : (255 : Int32) < c1) :
    MetFree l own_y9 (head1 (Jvm.Cond.code own_y9 jdk_52_method_21_code 7 (some .int) :: ws) ({ frames := 0, cells := 0, slots := 0, locals := 0 } : Room)) (fun argv U => argv = #[(.ref b), (.int 0), (.ref tb), (.int 0), (.int nn)] ∧ Z.Warmed39 U.vm ∧ U.heap = h0) (fun _ _ _ _ _ => True) (fun _ U o U' => ∃ v L, o = .returned v ∧ own_Q10p1 Z b tb nn c0 c1 vs us kb kt h0 n0 v U'.heap L ∧ FrameEnd U o U' L ({ frames := 0, cells := 0, slots := 0, locals := 0 } : Room).cells ({ frames := 0, cells := 0, slots := 0, locals := 0 } : Room).slots) := by
  refine MetFree.of_bodySF (plainFor_of_name own_pn2) hisR ?_
  intro p e s m args below meth c s₁ Bd hml0 hP hK
  obtain ⟨rfl, hZ, hh⟩ := hP
  have hx := Bd.exec
  have hby := Bd.bytes
  have hml : c.maxLocals = 7 := hml0
  have hown : s.vm.findClass own_s2 = some m.cls := findClass_of_methodNamed Bd.named
  have hnm := (name_of_methodNamed Bd.named Bd.method).1
  have X0 : Stand p l e ({ frames := 0, cells := 0, slots := 0, locals := 0 } : Room) s m #[(.ref b), (.int 0), (.ref tb), (.int 0), (.int nn)] below meth c s₁ [] 0 0 := Stand.of_body Bd
  have e0 : s₁.heap = h0 := by rw [← hh, Bd.state]; rfl
  have N0 := Fr.nil n0
  have pre_ : own_G p e below (s₁.setTop (entryFrame m #[(.ref b), (.int 0), (.ref tb), (.int 0), (.int nn)] 7)) s₁ m 0 #[rv b, iv 0, rv tb, iv 0, iv nn, .unset, .unset] [] := fun t k => castTop (own_ef10p1 m b (0 : Int32) tb (0 : Int32) nn) k
  obtain ⟨s0, hs0⟩ : ∃ z, z = (s₁.setTop (entryFrame m #[(.ref b), (.int 0), (.ref tb), (.int 0), (.int nn)] 7)) := ⟨_, rfl⟩
  have pre0 : own_G p e below s0 s₁ m 0 #[rv b, iv 0, rv tb, iv 0, iv nn, .unset, .unset] [] := hs0 ▸ pre_
  rw [← hs0]
  have S1 : own_G p e below s0 s₁ m 7 #[rv b, iv 0, rv tb, iv 0, iv nn, iv 0, .unset] [(.int nn), (.int 0)] := fun t kt => by
    refine pre0 t ?_
    refine w_iconst X0 hx hby d10_0 ?_
    refine w_istore X0 hx hby d10_1 (l' := #[rv b, iv 0, rv tb, iv 0, iv nn, iv 0, .unset]) rfl ?_
    refine w_iload X0 hx hby d10_3 rfl ?_
    refine w_iload X0 hx hby d10_5 rfl ?_
    exact kt
  have hc7_2 : (0 : Int32) < nn := own_llt (by decide) hn_
  have S4 : own_G p e below s0 s₁ m 12 #[rv b, iv 0, rv tb, iv 0, iv nn, iv 0, .unset] [(.int 0), (.ref b)] := fun t kt => by
    refine S1 t ?_
    refine w_icmpNo X0 hx hby d10_7 (tlt hc7_2).2.1 ?_
    refine w_aloadN X0 hx hby d10_10 rfl rfl ?_
    refine w_iloadN X0 hx hby d10_11 rfl ?_
    exact kt
  obtain ⟨cl3, Ar3, -, Sz3, Nn3, Hh3, -⟩ := id V_b
  have hin3 : ¬ ((0 : Int32) < 0 ∨ cl3.slots.size ≤ ((0 : Int32)).toNatClampNeg) := inb_of Sz3 ⟨by decide, own_llt (by decide) hn_⟩
  have S5 : own_G p e below s0 s₁ m 20 #[rv b, iv 0, rv tb, iv 0, iv nn, iv 0, iv c0] [(.int 255), (.int c0)] := fun t kt => by
    refine S4 t ?_
    refine X0.caload hx (j := (0 : Int32)) (v := (.int c0)) (by rw [e0]; exact Ar3.1) (State.isArrayOf_alike hZ.alike Ar3.2.1) Ar3.2.2 hin3 (Has.at Hh3 hin3 hx0) (g := (mkF m 12 #[rv b, iv 0, rv tb, iv 0, iv nn, iv 0, .unset] [(.int 0), (.ref b)])) rfl rfl (hb hby d10_12) _ ?_
    refine w_istore X0 hx hby d10_13 (l' := #[rv b, iv 0, rv tb, iv 0, iv nn, iv 0, iv c0]) rfl ?_
    refine w_iload X0 hx hby d10_15 rfl ?_
    refine w_sipush X0 hx hby d10_17 ?_
    exact kt
  have hc20_6 : ¬ ((255 : Int32) < c0) := hl0
  have S7 : own_G p e below s0 s₁ m 31 #[rv b, iv 0, rv tb, iv 0, iv nn, iv 0, iv c0] [(.int (c0.toInt8.toInt32)), (.int 0), (.ref tb)] := fun t kt => by
    refine S5 t ?_
    refine w_icmpYes X0 hx hby (pc' := 26) d10_20 (flt hc20_6).2.2.2 (by decide) ?_
    refine w_aloadN X0 hx hby d10_26 rfl rfl ?_
    refine w_iloadN X0 hx hby d10_27 rfl ?_
    refine w_iload X0 hx hby d10_28 rfl ?_
    refine XS.i2b X0.here hx rfl (hb hby d10_30) rfl ?_
    exact kt
  obtain ⟨cl8, Ar8, q8, Sz8, Nn8, Hh8, Gg8⟩ := id V_t
  have hin8 : ¬ ((0 : Int32) < 0 ∨ cl8.slots.size ≤ ((0 : Int32)).toNatClampNeg) := inb_of Sz8 ⟨by decide, own_llt (by decide) hn_⟩
  obtain ⟨T9, h9, X9, e9, W9, st9⟩ := stB X0 hx hZ e0 Ar8 (j := (0 : Int32)) hin8 (g := (mkF m 31 #[rv b, iv 0, rv tb, iv 0, iv nn, iv 0, iv c0] [(.int (c0.toInt8.toInt32)), (.int 0), (.ref tb)])) rfl rfl (hb hby d10_31)
  have S10 : own_G p e below s0 T9 m 32 #[rv b, iv 0, rv tb, iv 0, iv nn, iv 0, iv c0] [] := fun t kt => S7 t (st9 _ kt)
  have V11 := Arv.set Ar8 q8 Sz8 Nn8 Hh8 Gg8 (fits_nar_byte _) W9 0 rfl (by first | omega | (simp only [List.length_set]; omega))
  have F12 := V_b.other W9 ne_b_tb
  have N13 := Fr.snoc X9 N0 g_tb
  have K14 : Keep h0 h9 [tb] := (Keep.refl h0 [tb]).wr W9 (Or.inl (List.mem_of_getElem? (i := 0) rfl))
  have S15 : own_G p e below s0 T9 m 7 #[rv b, iv 1, rv tb, iv 1, iv nn, iv 1, iv c0] [(.int nn), (.int 1)] := fun t kt => by
    refine S10 t ?_
    refine w_iinc X9 hx hby d10_32 rfl (l' := #[rv b, iv 1, rv tb, iv 0, iv nn, iv 0, iv c0]) rfl ?_
    refine w_iinc X9 hx hby d10_35 rfl (l' := #[rv b, iv 1, rv tb, iv 1, iv nn, iv 0, iv c0]) rfl ?_
    refine w_iinc X9 hx hby d10_38 rfl (l' := #[rv b, iv 1, rv tb, iv 1, iv nn, iv 1, iv c0]) rfl ?_
    refine w_goto X9 hx hby (pc' := 3) d10_41 (by decide) ?_
    refine w_iload X9 hx hby d10_3 rfl ?_
    refine w_iload X9 hx hby d10_5 rfl ?_
    exact kt
  have hc7_16 : (1 : Int32) < nn := own_llt (by decide) hn_
  have S18 : own_G p e below s0 T9 m 12 #[rv b, iv 1, rv tb, iv 1, iv nn, iv 1, iv c0] [(.int 1), (.ref b)] := fun t kt => by
    refine S15 t ?_
    refine w_icmpNo X9 hx hby d10_7 (tlt hc7_16).2.1 ?_
    refine w_aloadN X9 hx hby d10_10 rfl rfl ?_
    refine w_iloadN X9 hx hby d10_11 rfl ?_
    exact kt
  obtain ⟨cl17, Ar17, -, Sz17, Nn17, Hh17, -⟩ := id F12
  have hin17 : ¬ ((1 : Int32) < 0 ∨ cl17.slots.size ≤ ((1 : Int32)).toNatClampNeg) := inb_of Sz17 ⟨by decide, own_llt (by decide) hn_⟩
  have S19 : own_G p e below s0 T9 m 20 #[rv b, iv 1, rv tb, iv 1, iv nn, iv 1, iv c1] [(.int 255), (.int c1)] := fun t kt => by
    refine S18 t ?_
    refine X9.caload hx (j := (1 : Int32)) (v := (.int c1)) (by rw [e9]; exact Ar17.1) (State.isArrayOf_alike hZ.alike Ar17.2.1) Ar17.2.2 hin17 (Has.at Hh17 hin17 hx1) (g := (mkF m 12 #[rv b, iv 1, rv tb, iv 1, iv nn, iv 1, iv c0] [(.int 1), (.ref b)])) rfl rfl (hb hby d10_12) _ ?_
    refine w_istore X9 hx hby d10_13 (l' := #[rv b, iv 1, rv tb, iv 1, iv nn, iv 1, iv c1]) rfl ?_
    refine w_iload X9 hx hby d10_15 rfl ?_
    refine w_sipush X9 hx hby d10_17 ?_
    exact kt
  have hc20_20 : (255 : Int32) < c1 := hg
  have S21 : own_G p e below s0 T9 m 25 #[rv b, iv 1, rv tb, iv 1, iv nn, iv 1, iv c1] [(.int 1)] := fun t kt => by
    refine S19 t ?_
    refine w_icmpNo X9 hx hby d10_20 (tlt hc20_20).2.2.2 ?_
    refine w_iload X9 hx hby d10_23 rfl ?_
    exact kt
  obtain ⟨fs, hr, hrun, hended, hW, hsame⟩ := X9.leave (v := some (.int 1)) (fun h => by rw [Bd.returns] at h; cases h)
  refine ⟨_, _, S21 _ ?_, hrun, hended, _, _, rfl, ?_, ⟨_, rfl⟩, hW, hsame.mono (by decide) (by decide)⟩
  · show Steps p.tables e below (T9.setTop (mkF m 25 #[rv b, iv 1, rv tb, iv 1, iv nn, iv 1, iv c1] [(.int 1)])) _
    exact own_retI X9 hx Bd.returns (hb hby d10_25) hr
  · show own_Q10p1 Z b tb nn c0 c1 vs us kb kt h0 n0 _ T9.heap _
    rw [e9]
    exact ⟨rfl, N13, K14⟩
theorem own_ef10p2 (m : MethodId) (x0 : Addr) (x1 : Int32) (x2 : Addr) (x3 : Int32) (x4 : Int32) : entryFrame m #[(.ref x0), (.int x1), (.ref x2), (.int x3), (.int x4)] 7 = mkF m 0 #[rv x0, iv x1, rv x2, iv x3, iv x4, .unset, .unset] [] := by first | (simp [entryFrame, mkF, argsToLocals, Value.category]; done) | rfl
def own_Q10p2 (Z : State) (b : Addr) (tb : Addr) (nn : Int32) (c0 : Int32) (c1 : Int32) (c2 : Int32) (vs : List Value) (us : List Value) (kb : ClassId) (kt : ClassId) (h0 : Heap) (n0 : Nat) (v : Option Value) (h : Heap) (L : List Loc) : Prop := v = some (.int 2) ∧ Fr n0 L ∧ Keep h0 h [tb]
set_option maxHeartbeats 40000000 in
theorem own_rm10p2 (l : Launch) (Z : State) (a0 : Array Value) (hw : ∀ d ∈ tables_1, d.before a0 Z = true) (ws : List Jvm.Cond) (b : Addr) (tb : Addr) (nn : Int32) (c0 : Int32) (c1 : Int32) (c2 : Int32) (vs : List Value) (us : List Value) (kb : ClassId) (kt : ClassId) (h0 : Heap) (n0 : Nat) (Z0 : n0 ≤ h0.size) (V_b : Arv Z h0 b kb .char nn vs (.int 0)) (V_t : Arv Z h0 tb kt .byte nn us (.int 0)) (g_tb : n0 ≤ tb) (ne_b_tb : b ≠ tb) (hn_ : (2 : Int32) < nn) (hu : 2 ≤ us.length) (hx0 : vs.getD 0 (.int 0) = .int c0) (hx1 : vs.getD 1 (.int 0) = .int c1) (hx2 : vs.getD 2 (.int 0) = .int c2) (hl0 : ¬ (255 : Int32) < c0) (hl1 : ¬ (255 : Int32) < c1) (hg : (255 : Int32) < c2) :
    MetFree l own_y9 (head1 (Jvm.Cond.code own_y9 jdk_52_method_21_code 7 (some .int) :: ws) ({ frames := 0, cells := 0, slots := 0, locals := 0 } : Room)) (fun argv U => argv = #[(.ref b), (.int 0), (.ref tb), (.int 0), (.int nn)] ∧ Z.Warmed39 U.vm ∧ U.heap = h0) (fun _ _ _ _ _ => True) (fun _ U o U' => ∃ v L, o = .returned v ∧ own_Q10p2 Z b tb nn c0 c1 c2 vs us kb kt h0 n0 v U'.heap L ∧ FrameEnd U o U' L ({ frames := 0, cells := 0, slots := 0, locals := 0 } : Room).cells ({ frames := 0, cells := 0, slots := 0, locals := 0 } : Room).slots) := by
  refine MetFree.of_bodySF (plainFor_of_name own_pn2) hisR ?_
  intro p e s m args below meth c s₁ Bd hml0 hP hK
  obtain ⟨rfl, hZ, hh⟩ := hP
  have hx := Bd.exec
  have hby := Bd.bytes
  have hml : c.maxLocals = 7 := hml0
  have hown : s.vm.findClass own_s2 = some m.cls := findClass_of_methodNamed Bd.named
  have hnm := (name_of_methodNamed Bd.named Bd.method).1
  have X0 : Stand p l e ({ frames := 0, cells := 0, slots := 0, locals := 0 } : Room) s m #[(.ref b), (.int 0), (.ref tb), (.int 0), (.int nn)] below meth c s₁ [] 0 0 := Stand.of_body Bd
  have e0 : s₁.heap = h0 := by rw [← hh, Bd.state]; rfl
  have N0 := Fr.nil n0
  have pre_ : own_G p e below (s₁.setTop (entryFrame m #[(.ref b), (.int 0), (.ref tb), (.int 0), (.int nn)] 7)) s₁ m 0 #[rv b, iv 0, rv tb, iv 0, iv nn, .unset, .unset] [] := fun t k => castTop (own_ef10p2 m b (0 : Int32) tb (0 : Int32) nn) k
  obtain ⟨s0, hs0⟩ : ∃ z, z = (s₁.setTop (entryFrame m #[(.ref b), (.int 0), (.ref tb), (.int 0), (.int nn)] 7)) := ⟨_, rfl⟩
  have pre0 : own_G p e below s0 s₁ m 0 #[rv b, iv 0, rv tb, iv 0, iv nn, .unset, .unset] [] := hs0 ▸ pre_
  rw [← hs0]
  have S1 : own_G p e below s0 s₁ m 7 #[rv b, iv 0, rv tb, iv 0, iv nn, iv 0, .unset] [(.int nn), (.int 0)] := fun t kt => by
    refine pre0 t ?_
    refine w_iconst X0 hx hby d10_0 ?_
    refine w_istore X0 hx hby d10_1 (l' := #[rv b, iv 0, rv tb, iv 0, iv nn, iv 0, .unset]) rfl ?_
    refine w_iload X0 hx hby d10_3 rfl ?_
    refine w_iload X0 hx hby d10_5 rfl ?_
    exact kt
  have hc7_2 : (0 : Int32) < nn := own_llt (by decide) hn_
  have S4 : own_G p e below s0 s₁ m 12 #[rv b, iv 0, rv tb, iv 0, iv nn, iv 0, .unset] [(.int 0), (.ref b)] := fun t kt => by
    refine S1 t ?_
    refine w_icmpNo X0 hx hby d10_7 (tlt hc7_2).2.1 ?_
    refine w_aloadN X0 hx hby d10_10 rfl rfl ?_
    refine w_iloadN X0 hx hby d10_11 rfl ?_
    exact kt
  obtain ⟨cl3, Ar3, -, Sz3, Nn3, Hh3, -⟩ := id V_b
  have hin3 : ¬ ((0 : Int32) < 0 ∨ cl3.slots.size ≤ ((0 : Int32)).toNatClampNeg) := inb_of Sz3 ⟨by decide, own_llt (by decide) hn_⟩
  have S5 : own_G p e below s0 s₁ m 20 #[rv b, iv 0, rv tb, iv 0, iv nn, iv 0, iv c0] [(.int 255), (.int c0)] := fun t kt => by
    refine S4 t ?_
    refine X0.caload hx (j := (0 : Int32)) (v := (.int c0)) (by rw [e0]; exact Ar3.1) (State.isArrayOf_alike hZ.alike Ar3.2.1) Ar3.2.2 hin3 (Has.at Hh3 hin3 hx0) (g := (mkF m 12 #[rv b, iv 0, rv tb, iv 0, iv nn, iv 0, .unset] [(.int 0), (.ref b)])) rfl rfl (hb hby d10_12) _ ?_
    refine w_istore X0 hx hby d10_13 (l' := #[rv b, iv 0, rv tb, iv 0, iv nn, iv 0, iv c0]) rfl ?_
    refine w_iload X0 hx hby d10_15 rfl ?_
    refine w_sipush X0 hx hby d10_17 ?_
    exact kt
  have hc20_6 : ¬ ((255 : Int32) < c0) := hl0
  have S7 : own_G p e below s0 s₁ m 31 #[rv b, iv 0, rv tb, iv 0, iv nn, iv 0, iv c0] [(.int (c0.toInt8.toInt32)), (.int 0), (.ref tb)] := fun t kt => by
    refine S5 t ?_
    refine w_icmpYes X0 hx hby (pc' := 26) d10_20 (flt hc20_6).2.2.2 (by decide) ?_
    refine w_aloadN X0 hx hby d10_26 rfl rfl ?_
    refine w_iloadN X0 hx hby d10_27 rfl ?_
    refine w_iload X0 hx hby d10_28 rfl ?_
    refine XS.i2b X0.here hx rfl (hb hby d10_30) rfl ?_
    exact kt
  obtain ⟨cl8, Ar8, q8, Sz8, Nn8, Hh8, Gg8⟩ := id V_t
  have hin8 : ¬ ((0 : Int32) < 0 ∨ cl8.slots.size ≤ ((0 : Int32)).toNatClampNeg) := inb_of Sz8 ⟨by decide, own_llt (by decide) hn_⟩
  obtain ⟨T9, h9, X9, e9, W9, st9⟩ := stB X0 hx hZ e0 Ar8 (j := (0 : Int32)) hin8 (g := (mkF m 31 #[rv b, iv 0, rv tb, iv 0, iv nn, iv 0, iv c0] [(.int (c0.toInt8.toInt32)), (.int 0), (.ref tb)])) rfl rfl (hb hby d10_31)
  have S10 : own_G p e below s0 T9 m 32 #[rv b, iv 0, rv tb, iv 0, iv nn, iv 0, iv c0] [] := fun t kt => S7 t (st9 _ kt)
  have V11 := Arv.set Ar8 q8 Sz8 Nn8 Hh8 Gg8 (fits_nar_byte _) W9 0 rfl (by first | omega | (simp only [List.length_set]; omega))
  have F12 := V_b.other W9 ne_b_tb
  have N13 := Fr.snoc X9 N0 g_tb
  have K14 : Keep h0 h9 [tb] := (Keep.refl h0 [tb]).wr W9 (Or.inl (List.mem_of_getElem? (i := 0) rfl))
  have S15 : own_G p e below s0 T9 m 7 #[rv b, iv 1, rv tb, iv 1, iv nn, iv 1, iv c0] [(.int nn), (.int 1)] := fun t kt => by
    refine S10 t ?_
    refine w_iinc X9 hx hby d10_32 rfl (l' := #[rv b, iv 1, rv tb, iv 0, iv nn, iv 0, iv c0]) rfl ?_
    refine w_iinc X9 hx hby d10_35 rfl (l' := #[rv b, iv 1, rv tb, iv 1, iv nn, iv 0, iv c0]) rfl ?_
    refine w_iinc X9 hx hby d10_38 rfl (l' := #[rv b, iv 1, rv tb, iv 1, iv nn, iv 1, iv c0]) rfl ?_
    refine w_goto X9 hx hby (pc' := 3) d10_41 (by decide) ?_
    refine w_iload X9 hx hby d10_3 rfl ?_
    refine w_iload X9 hx hby d10_5 rfl ?_
    exact kt
  have hc7_16 : (1 : Int32) < nn := own_llt (by decide) hn_
  have S18 : own_G p e below s0 T9 m 12 #[rv b, iv 1, rv tb, iv 1, iv nn, iv 1, iv c0] [(.int 1), (.ref b)] := fun t kt => by
    refine S15 t ?_
    refine w_icmpNo X9 hx hby d10_7 (tlt hc7_16).2.1 ?_
    refine w_aloadN X9 hx hby d10_10 rfl rfl ?_
    refine w_iloadN X9 hx hby d10_11 rfl ?_
    exact kt
  obtain ⟨cl17, Ar17, -, Sz17, Nn17, Hh17, -⟩ := id F12
  have hin17 : ¬ ((1 : Int32) < 0 ∨ cl17.slots.size ≤ ((1 : Int32)).toNatClampNeg) := inb_of Sz17 ⟨by decide, own_llt (by decide) hn_⟩
  have S19 : own_G p e below s0 T9 m 20 #[rv b, iv 1, rv tb, iv 1, iv nn, iv 1, iv c1] [(.int 255), (.int c1)] := fun t kt => by
    refine S18 t ?_
    refine X9.caload hx (j := (1 : Int32)) (v := (.int c1)) (by rw [e9]; exact Ar17.1) (State.isArrayOf_alike hZ.alike Ar17.2.1) Ar17.2.2 hin17 (Has.at Hh17 hin17 hx1) (g := (mkF m 12 #[rv b, iv 1, rv tb, iv 1, iv nn, iv 1, iv c0] [(.int 1), (.ref b)])) rfl rfl (hb hby d10_12) _ ?_
    refine w_istore X9 hx hby d10_13 (l' := #[rv b, iv 1, rv tb, iv 1, iv nn, iv 1, iv c1]) rfl ?_
    refine w_iload X9 hx hby d10_15 rfl ?_
    refine w_sipush X9 hx hby d10_17 ?_
    exact kt
  have hc20_20 : ¬ ((255 : Int32) < c1) := hl1
  have S21 : own_G p e below s0 T9 m 31 #[rv b, iv 1, rv tb, iv 1, iv nn, iv 1, iv c1] [(.int (c1.toInt8.toInt32)), (.int 1), (.ref tb)] := fun t kt => by
    refine S19 t ?_
    refine w_icmpYes X9 hx hby (pc' := 26) d10_20 (flt hc20_20).2.2.2 (by decide) ?_
    refine w_aloadN X9 hx hby d10_26 rfl rfl ?_
    refine w_iloadN X9 hx hby d10_27 rfl ?_
    refine w_iload X9 hx hby d10_28 rfl ?_
    refine XS.i2b X9.here hx rfl (hb hby d10_30) rfl ?_
    exact kt
  obtain ⟨cl22, Ar22, q22, Sz22, Nn22, Hh22, Gg22⟩ := id V11
  have hin22 : ¬ ((1 : Int32) < 0 ∨ cl22.slots.size ≤ ((1 : Int32)).toNatClampNeg) := inb_of Sz22 ⟨by decide, own_llt (by decide) hn_⟩
  obtain ⟨T23, h23, X23, e23, W23, st23⟩ := stB X9 hx hZ e9 Ar22 (j := (1 : Int32)) hin22 (g := (mkF m 31 #[rv b, iv 1, rv tb, iv 1, iv nn, iv 1, iv c1] [(.int (c1.toInt8.toInt32)), (.int 1), (.ref tb)])) rfl rfl (hb hby d10_31)
  have S24 : own_G p e below s0 T23 m 32 #[rv b, iv 1, rv tb, iv 1, iv nn, iv 1, iv c1] [] := fun t kt => S21 t (st23 _ kt)
  have V25 := Arv.set Ar22 q22 Sz22 Nn22 Hh22 Gg22 (fits_nar_byte _) W23 1 rfl (by first | omega | (simp only [List.length_set]; omega))
  have F26 := F12.other W23 ne_b_tb
  have N27 := Fr.snoc X23 N13 g_tb
  have K28 : Keep h0 h23 [tb] := K14.wr W23 (Or.inl (List.mem_of_getElem? (i := 0) rfl))
  have S29 : own_G p e below s0 T23 m 7 #[rv b, iv 2, rv tb, iv 2, iv nn, iv 2, iv c1] [(.int nn), (.int 2)] := fun t kt => by
    refine S24 t ?_
    refine w_iinc X23 hx hby d10_32 rfl (l' := #[rv b, iv 2, rv tb, iv 1, iv nn, iv 1, iv c1]) rfl ?_
    refine w_iinc X23 hx hby d10_35 rfl (l' := #[rv b, iv 2, rv tb, iv 2, iv nn, iv 1, iv c1]) rfl ?_
    refine w_iinc X23 hx hby d10_38 rfl (l' := #[rv b, iv 2, rv tb, iv 2, iv nn, iv 2, iv c1]) rfl ?_
    refine w_goto X23 hx hby (pc' := 3) d10_41 (by decide) ?_
    refine w_iload X23 hx hby d10_3 rfl ?_
    refine w_iload X23 hx hby d10_5 rfl ?_
    exact kt
  have hc7_30 : (2 : Int32) < nn := own_llt (by decide) hn_
  have S32 : own_G p e below s0 T23 m 12 #[rv b, iv 2, rv tb, iv 2, iv nn, iv 2, iv c1] [(.int 2), (.ref b)] := fun t kt => by
    refine S29 t ?_
    refine w_icmpNo X23 hx hby d10_7 (tlt hc7_30).2.1 ?_
    refine w_aloadN X23 hx hby d10_10 rfl rfl ?_
    refine w_iloadN X23 hx hby d10_11 rfl ?_
    exact kt
  obtain ⟨cl31, Ar31, -, Sz31, Nn31, Hh31, -⟩ := id F26
  have hin31 : ¬ ((2 : Int32) < 0 ∨ cl31.slots.size ≤ ((2 : Int32)).toNatClampNeg) := inb_of Sz31 ⟨by decide, own_llt (by decide) hn_⟩
  have S33 : own_G p e below s0 T23 m 20 #[rv b, iv 2, rv tb, iv 2, iv nn, iv 2, iv c2] [(.int 255), (.int c2)] := fun t kt => by
    refine S32 t ?_
    refine X23.caload hx (j := (2 : Int32)) (v := (.int c2)) (by rw [e23]; exact Ar31.1) (State.isArrayOf_alike hZ.alike Ar31.2.1) Ar31.2.2 hin31 (Has.at Hh31 hin31 hx2) (g := (mkF m 12 #[rv b, iv 2, rv tb, iv 2, iv nn, iv 2, iv c1] [(.int 2), (.ref b)])) rfl rfl (hb hby d10_12) _ ?_
    refine w_istore X23 hx hby d10_13 (l' := #[rv b, iv 2, rv tb, iv 2, iv nn, iv 2, iv c2]) rfl ?_
    refine w_iload X23 hx hby d10_15 rfl ?_
    refine w_sipush X23 hx hby d10_17 ?_
    exact kt
  have hc20_34 : (255 : Int32) < c2 := hg
  have S35 : own_G p e below s0 T23 m 25 #[rv b, iv 2, rv tb, iv 2, iv nn, iv 2, iv c2] [(.int 2)] := fun t kt => by
    refine S33 t ?_
    refine w_icmpNo X23 hx hby d10_20 (tlt hc20_34).2.2.2 ?_
    refine w_iload X23 hx hby d10_23 rfl ?_
    exact kt
  obtain ⟨fs, hr, hrun, hended, hW, hsame⟩ := X23.leave (v := some (.int 2)) (fun h => by rw [Bd.returns] at h; cases h)
  refine ⟨_, _, S35 _ ?_, hrun, hended, _, _, rfl, ?_, ⟨_, rfl⟩, hW, hsame.mono (by decide) (by decide)⟩
  · show Steps p.tables e below (T23.setTop (mkF m 25 #[rv b, iv 2, rv tb, iv 2, iv nn, iv 2, iv c2] [(.int 2)])) _
    exact own_retI X23 hx Bd.returns (hb hby d10_25) hr
  · show own_Q10p2 Z b tb nn c0 c1 c2 vs us kb kt h0 n0 _ T23.heap _
    rw [e23]
    exact ⟨rfl, N27, K28⟩
theorem own_ef10p3 (m : MethodId) (x0 : Addr) (x1 : Int32) (x2 : Addr) (x3 : Int32) (x4 : Int32) : entryFrame m #[(.ref x0), (.int x1), (.ref x2), (.int x3), (.int x4)] 7 = mkF m 0 #[rv x0, iv x1, rv x2, iv x3, iv x4, .unset, .unset] [] := by first | (simp [entryFrame, mkF, argsToLocals, Value.category]; done) | rfl
def own_Q10p3 (Z : State) (b : Addr) (tb : Addr) (nn : Int32) (c0 : Int32) (c1 : Int32) (c2 : Int32) (c3 : Int32) (vs : List Value) (us : List Value) (kb : ClassId) (kt : ClassId) (h0 : Heap) (n0 : Nat) (v : Option Value) (h : Heap) (L : List Loc) : Prop := v = some (.int 3) ∧ Fr n0 L ∧ Keep h0 h [tb]
set_option maxHeartbeats 40000000 in
theorem own_rm10p3 (l : Launch) (Z : State) (a0 : Array Value) (hw : ∀ d ∈ tables_1, d.before a0 Z = true) (ws : List Jvm.Cond) (b : Addr) (tb : Addr) (nn : Int32) (c0 : Int32) (c1 : Int32) (c2 : Int32) (c3 : Int32) (vs : List Value) (us : List Value) (kb : ClassId) (kt : ClassId) (h0 : Heap) (n0 : Nat) (Z0 : n0 ≤ h0.size) (V_b : Arv Z h0 b kb .char nn vs (.int 0)) (V_t : Arv Z h0 tb kt .byte nn us (.int 0)) (g_tb : n0 ≤ tb) (ne_b_tb : b ≠ tb) (hn_ : (3 : Int32) < nn) (hu : 3 ≤ us.length) (hx0 : vs.getD 0 (.int 0) = .int c0) (hx1 : vs.getD 1 (.int 0) = .int c1) (hx2 : vs.getD 2 (.int 0) = .int c2) (hx3 : vs.getD 3 (.int 0) = .int c3) (hl0 : ¬ (255 : Int32) < c0) (hl1 : ¬ (255 : Int32) < c1) (hl2 : ¬ (255 : Int32) < c2) (hg : (255 : Int32) < c3) :
    MetFree l own_y9 (head1 (Jvm.Cond.code own_y9 jdk_52_method_21_code 7 (some .int) :: ws) ({ frames := 0, cells := 0, slots := 0, locals := 0 } : Room)) (fun argv U => argv = #[(.ref b), (.int 0), (.ref tb), (.int 0), (.int nn)] ∧ Z.Warmed39 U.vm ∧ U.heap = h0) (fun _ _ _ _ _ => True) (fun _ U o U' => ∃ v L, o = .returned v ∧ own_Q10p3 Z b tb nn c0 c1 c2 c3 vs us kb kt h0 n0 v U'.heap L ∧ FrameEnd U o U' L ({ frames := 0, cells := 0, slots := 0, locals := 0 } : Room).cells ({ frames := 0, cells := 0, slots := 0, locals := 0 } : Room).slots) := by
  refine MetFree.of_bodySF (plainFor_of_name own_pn2) hisR ?_
  intro p e s m args below meth c s₁ Bd hml0 hP hK
  obtain ⟨rfl, hZ, hh⟩ := hP
  have hx := Bd.exec
  have hby := Bd.bytes
  have hml : c.maxLocals = 7 := hml0
  have hown : s.vm.findClass own_s2 = some m.cls := findClass_of_methodNamed Bd.named
  have hnm := (name_of_methodNamed Bd.named Bd.method).1
  have X0 : Stand p l e ({ frames := 0, cells := 0, slots := 0, locals := 0 } : Room) s m #[(.ref b), (.int 0), (.ref tb), (.int 0), (.int nn)] below meth c s₁ [] 0 0 := Stand.of_body Bd
  have e0 : s₁.heap = h0 := by rw [← hh, Bd.state]; rfl
  have N0 := Fr.nil n0
  have pre_ : own_G p e below (s₁.setTop (entryFrame m #[(.ref b), (.int 0), (.ref tb), (.int 0), (.int nn)] 7)) s₁ m 0 #[rv b, iv 0, rv tb, iv 0, iv nn, .unset, .unset] [] := fun t k => castTop (own_ef10p3 m b (0 : Int32) tb (0 : Int32) nn) k
  obtain ⟨s0, hs0⟩ : ∃ z, z = (s₁.setTop (entryFrame m #[(.ref b), (.int 0), (.ref tb), (.int 0), (.int nn)] 7)) := ⟨_, rfl⟩
  have pre0 : own_G p e below s0 s₁ m 0 #[rv b, iv 0, rv tb, iv 0, iv nn, .unset, .unset] [] := hs0 ▸ pre_
  rw [← hs0]
  have S1 : own_G p e below s0 s₁ m 7 #[rv b, iv 0, rv tb, iv 0, iv nn, iv 0, .unset] [(.int nn), (.int 0)] := fun t kt => by
    refine pre0 t ?_
    refine w_iconst X0 hx hby d10_0 ?_
    refine w_istore X0 hx hby d10_1 (l' := #[rv b, iv 0, rv tb, iv 0, iv nn, iv 0, .unset]) rfl ?_
    refine w_iload X0 hx hby d10_3 rfl ?_
    refine w_iload X0 hx hby d10_5 rfl ?_
    exact kt
  have hc7_2 : (0 : Int32) < nn := own_llt (by decide) hn_
  have S4 : own_G p e below s0 s₁ m 12 #[rv b, iv 0, rv tb, iv 0, iv nn, iv 0, .unset] [(.int 0), (.ref b)] := fun t kt => by
    refine S1 t ?_
    refine w_icmpNo X0 hx hby d10_7 (tlt hc7_2).2.1 ?_
    refine w_aloadN X0 hx hby d10_10 rfl rfl ?_
    refine w_iloadN X0 hx hby d10_11 rfl ?_
    exact kt
  obtain ⟨cl3, Ar3, -, Sz3, Nn3, Hh3, -⟩ := id V_b
  have hin3 : ¬ ((0 : Int32) < 0 ∨ cl3.slots.size ≤ ((0 : Int32)).toNatClampNeg) := inb_of Sz3 ⟨by decide, own_llt (by decide) hn_⟩
  have S5 : own_G p e below s0 s₁ m 20 #[rv b, iv 0, rv tb, iv 0, iv nn, iv 0, iv c0] [(.int 255), (.int c0)] := fun t kt => by
    refine S4 t ?_
    refine X0.caload hx (j := (0 : Int32)) (v := (.int c0)) (by rw [e0]; exact Ar3.1) (State.isArrayOf_alike hZ.alike Ar3.2.1) Ar3.2.2 hin3 (Has.at Hh3 hin3 hx0) (g := (mkF m 12 #[rv b, iv 0, rv tb, iv 0, iv nn, iv 0, .unset] [(.int 0), (.ref b)])) rfl rfl (hb hby d10_12) _ ?_
    refine w_istore X0 hx hby d10_13 (l' := #[rv b, iv 0, rv tb, iv 0, iv nn, iv 0, iv c0]) rfl ?_
    refine w_iload X0 hx hby d10_15 rfl ?_
    refine w_sipush X0 hx hby d10_17 ?_
    exact kt
  have hc20_6 : ¬ ((255 : Int32) < c0) := hl0
  have S7 : own_G p e below s0 s₁ m 31 #[rv b, iv 0, rv tb, iv 0, iv nn, iv 0, iv c0] [(.int (c0.toInt8.toInt32)), (.int 0), (.ref tb)] := fun t kt => by
    refine S5 t ?_
    refine w_icmpYes X0 hx hby (pc' := 26) d10_20 (flt hc20_6).2.2.2 (by decide) ?_
    refine w_aloadN X0 hx hby d10_26 rfl rfl ?_
    refine w_iloadN X0 hx hby d10_27 rfl ?_
    refine w_iload X0 hx hby d10_28 rfl ?_
    refine XS.i2b X0.here hx rfl (hb hby d10_30) rfl ?_
    exact kt
  obtain ⟨cl8, Ar8, q8, Sz8, Nn8, Hh8, Gg8⟩ := id V_t
  have hin8 : ¬ ((0 : Int32) < 0 ∨ cl8.slots.size ≤ ((0 : Int32)).toNatClampNeg) := inb_of Sz8 ⟨by decide, own_llt (by decide) hn_⟩
  obtain ⟨T9, h9, X9, e9, W9, st9⟩ := stB X0 hx hZ e0 Ar8 (j := (0 : Int32)) hin8 (g := (mkF m 31 #[rv b, iv 0, rv tb, iv 0, iv nn, iv 0, iv c0] [(.int (c0.toInt8.toInt32)), (.int 0), (.ref tb)])) rfl rfl (hb hby d10_31)
  have S10 : own_G p e below s0 T9 m 32 #[rv b, iv 0, rv tb, iv 0, iv nn, iv 0, iv c0] [] := fun t kt => S7 t (st9 _ kt)
  have V11 := Arv.set Ar8 q8 Sz8 Nn8 Hh8 Gg8 (fits_nar_byte _) W9 0 rfl (by first | omega | (simp only [List.length_set]; omega))
  have F12 := V_b.other W9 ne_b_tb
  have N13 := Fr.snoc X9 N0 g_tb
  have K14 : Keep h0 h9 [tb] := (Keep.refl h0 [tb]).wr W9 (Or.inl (List.mem_of_getElem? (i := 0) rfl))
  have S15 : own_G p e below s0 T9 m 7 #[rv b, iv 1, rv tb, iv 1, iv nn, iv 1, iv c0] [(.int nn), (.int 1)] := fun t kt => by
    refine S10 t ?_
    refine w_iinc X9 hx hby d10_32 rfl (l' := #[rv b, iv 1, rv tb, iv 0, iv nn, iv 0, iv c0]) rfl ?_
    refine w_iinc X9 hx hby d10_35 rfl (l' := #[rv b, iv 1, rv tb, iv 1, iv nn, iv 0, iv c0]) rfl ?_
    refine w_iinc X9 hx hby d10_38 rfl (l' := #[rv b, iv 1, rv tb, iv 1, iv nn, iv 1, iv c0]) rfl ?_
    refine w_goto X9 hx hby (pc' := 3) d10_41 (by decide) ?_
    refine w_iload X9 hx hby d10_3 rfl ?_
    refine w_iload X9 hx hby d10_5 rfl ?_
    exact kt
  have hc7_16 : (1 : Int32) < nn := own_llt (by decide) hn_
  have S18 : own_G p e below s0 T9 m 12 #[rv b, iv 1, rv tb, iv 1, iv nn, iv 1, iv c0] [(.int 1), (.ref b)] := fun t kt => by
    refine S15 t ?_
    refine w_icmpNo X9 hx hby d10_7 (tlt hc7_16).2.1 ?_
    refine w_aloadN X9 hx hby d10_10 rfl rfl ?_
    refine w_iloadN X9 hx hby d10_11 rfl ?_
    exact kt
  obtain ⟨cl17, Ar17, -, Sz17, Nn17, Hh17, -⟩ := id F12
  have hin17 : ¬ ((1 : Int32) < 0 ∨ cl17.slots.size ≤ ((1 : Int32)).toNatClampNeg) := inb_of Sz17 ⟨by decide, own_llt (by decide) hn_⟩
  have S19 : own_G p e below s0 T9 m 20 #[rv b, iv 1, rv tb, iv 1, iv nn, iv 1, iv c1] [(.int 255), (.int c1)] := fun t kt => by
    refine S18 t ?_
    refine X9.caload hx (j := (1 : Int32)) (v := (.int c1)) (by rw [e9]; exact Ar17.1) (State.isArrayOf_alike hZ.alike Ar17.2.1) Ar17.2.2 hin17 (Has.at Hh17 hin17 hx1) (g := (mkF m 12 #[rv b, iv 1, rv tb, iv 1, iv nn, iv 1, iv c0] [(.int 1), (.ref b)])) rfl rfl (hb hby d10_12) _ ?_
    refine w_istore X9 hx hby d10_13 (l' := #[rv b, iv 1, rv tb, iv 1, iv nn, iv 1, iv c1]) rfl ?_
    refine w_iload X9 hx hby d10_15 rfl ?_
    refine w_sipush X9 hx hby d10_17 ?_
    exact kt
  have hc20_20 : ¬ ((255 : Int32) < c1) := hl1
  have S21 : own_G p e below s0 T9 m 31 #[rv b, iv 1, rv tb, iv 1, iv nn, iv 1, iv c1] [(.int (c1.toInt8.toInt32)), (.int 1), (.ref tb)] := fun t kt => by
    refine S19 t ?_
    refine w_icmpYes X9 hx hby (pc' := 26) d10_20 (flt hc20_20).2.2.2 (by decide) ?_
    refine w_aloadN X9 hx hby d10_26 rfl rfl ?_
    refine w_iloadN X9 hx hby d10_27 rfl ?_
    refine w_iload X9 hx hby d10_28 rfl ?_
    refine XS.i2b X9.here hx rfl (hb hby d10_30) rfl ?_
    exact kt
  obtain ⟨cl22, Ar22, q22, Sz22, Nn22, Hh22, Gg22⟩ := id V11
  have hin22 : ¬ ((1 : Int32) < 0 ∨ cl22.slots.size ≤ ((1 : Int32)).toNatClampNeg) := inb_of Sz22 ⟨by decide, own_llt (by decide) hn_⟩
  obtain ⟨T23, h23, X23, e23, W23, st23⟩ := stB X9 hx hZ e9 Ar22 (j := (1 : Int32)) hin22 (g := (mkF m 31 #[rv b, iv 1, rv tb, iv 1, iv nn, iv 1, iv c1] [(.int (c1.toInt8.toInt32)), (.int 1), (.ref tb)])) rfl rfl (hb hby d10_31)
  have S24 : own_G p e below s0 T23 m 32 #[rv b, iv 1, rv tb, iv 1, iv nn, iv 1, iv c1] [] := fun t kt => S21 t (st23 _ kt)
  have V25 := Arv.set Ar22 q22 Sz22 Nn22 Hh22 Gg22 (fits_nar_byte _) W23 1 rfl (by first | omega | (simp only [List.length_set]; omega))
  have F26 := F12.other W23 ne_b_tb
  have N27 := Fr.snoc X23 N13 g_tb
  have K28 : Keep h0 h23 [tb] := K14.wr W23 (Or.inl (List.mem_of_getElem? (i := 0) rfl))
  have S29 : own_G p e below s0 T23 m 7 #[rv b, iv 2, rv tb, iv 2, iv nn, iv 2, iv c1] [(.int nn), (.int 2)] := fun t kt => by
    refine S24 t ?_
    refine w_iinc X23 hx hby d10_32 rfl (l' := #[rv b, iv 2, rv tb, iv 1, iv nn, iv 1, iv c1]) rfl ?_
    refine w_iinc X23 hx hby d10_35 rfl (l' := #[rv b, iv 2, rv tb, iv 2, iv nn, iv 1, iv c1]) rfl ?_
    refine w_iinc X23 hx hby d10_38 rfl (l' := #[rv b, iv 2, rv tb, iv 2, iv nn, iv 2, iv c1]) rfl ?_
    refine w_goto X23 hx hby (pc' := 3) d10_41 (by decide) ?_
    refine w_iload X23 hx hby d10_3 rfl ?_
    refine w_iload X23 hx hby d10_5 rfl ?_
    exact kt
  have hc7_30 : (2 : Int32) < nn := own_llt (by decide) hn_
  have S32 : own_G p e below s0 T23 m 12 #[rv b, iv 2, rv tb, iv 2, iv nn, iv 2, iv c1] [(.int 2), (.ref b)] := fun t kt => by
    refine S29 t ?_
    refine w_icmpNo X23 hx hby d10_7 (tlt hc7_30).2.1 ?_
    refine w_aloadN X23 hx hby d10_10 rfl rfl ?_
    refine w_iloadN X23 hx hby d10_11 rfl ?_
    exact kt
  obtain ⟨cl31, Ar31, -, Sz31, Nn31, Hh31, -⟩ := id F26
  have hin31 : ¬ ((2 : Int32) < 0 ∨ cl31.slots.size ≤ ((2 : Int32)).toNatClampNeg) := inb_of Sz31 ⟨by decide, own_llt (by decide) hn_⟩
  have S33 : own_G p e below s0 T23 m 20 #[rv b, iv 2, rv tb, iv 2, iv nn, iv 2, iv c2] [(.int 255), (.int c2)] := fun t kt => by
    refine S32 t ?_
    refine X23.caload hx (j := (2 : Int32)) (v := (.int c2)) (by rw [e23]; exact Ar31.1) (State.isArrayOf_alike hZ.alike Ar31.2.1) Ar31.2.2 hin31 (Has.at Hh31 hin31 hx2) (g := (mkF m 12 #[rv b, iv 2, rv tb, iv 2, iv nn, iv 2, iv c1] [(.int 2), (.ref b)])) rfl rfl (hb hby d10_12) _ ?_
    refine w_istore X23 hx hby d10_13 (l' := #[rv b, iv 2, rv tb, iv 2, iv nn, iv 2, iv c2]) rfl ?_
    refine w_iload X23 hx hby d10_15 rfl ?_
    refine w_sipush X23 hx hby d10_17 ?_
    exact kt
  have hc20_34 : ¬ ((255 : Int32) < c2) := hl2
  have S35 : own_G p e below s0 T23 m 31 #[rv b, iv 2, rv tb, iv 2, iv nn, iv 2, iv c2] [(.int (c2.toInt8.toInt32)), (.int 2), (.ref tb)] := fun t kt => by
    refine S33 t ?_
    refine w_icmpYes X23 hx hby (pc' := 26) d10_20 (flt hc20_34).2.2.2 (by decide) ?_
    refine w_aloadN X23 hx hby d10_26 rfl rfl ?_
    refine w_iloadN X23 hx hby d10_27 rfl ?_
    refine w_iload X23 hx hby d10_28 rfl ?_
    refine XS.i2b X23.here hx rfl (hb hby d10_30) rfl ?_
    exact kt
  obtain ⟨cl36, Ar36, q36, Sz36, Nn36, Hh36, Gg36⟩ := id V25
  have hin36 : ¬ ((2 : Int32) < 0 ∨ cl36.slots.size ≤ ((2 : Int32)).toNatClampNeg) := inb_of Sz36 ⟨by decide, own_llt (by decide) hn_⟩
  obtain ⟨T37, h37, X37, e37, W37, st37⟩ := stB X23 hx hZ e23 Ar36 (j := (2 : Int32)) hin36 (g := (mkF m 31 #[rv b, iv 2, rv tb, iv 2, iv nn, iv 2, iv c2] [(.int (c2.toInt8.toInt32)), (.int 2), (.ref tb)])) rfl rfl (hb hby d10_31)
  have S38 : own_G p e below s0 T37 m 32 #[rv b, iv 2, rv tb, iv 2, iv nn, iv 2, iv c2] [] := fun t kt => S35 t (st37 _ kt)
  have V39 := Arv.set Ar36 q36 Sz36 Nn36 Hh36 Gg36 (fits_nar_byte _) W37 2 rfl (by first | omega | (simp only [List.length_set]; omega))
  have F40 := F26.other W37 ne_b_tb
  have N41 := Fr.snoc X37 N27 g_tb
  have K42 : Keep h0 h37 [tb] := K28.wr W37 (Or.inl (List.mem_of_getElem? (i := 0) rfl))
  have S43 : own_G p e below s0 T37 m 7 #[rv b, iv 3, rv tb, iv 3, iv nn, iv 3, iv c2] [(.int nn), (.int 3)] := fun t kt => by
    refine S38 t ?_
    refine w_iinc X37 hx hby d10_32 rfl (l' := #[rv b, iv 3, rv tb, iv 2, iv nn, iv 2, iv c2]) rfl ?_
    refine w_iinc X37 hx hby d10_35 rfl (l' := #[rv b, iv 3, rv tb, iv 3, iv nn, iv 2, iv c2]) rfl ?_
    refine w_iinc X37 hx hby d10_38 rfl (l' := #[rv b, iv 3, rv tb, iv 3, iv nn, iv 3, iv c2]) rfl ?_
    refine w_goto X37 hx hby (pc' := 3) d10_41 (by decide) ?_
    refine w_iload X37 hx hby d10_3 rfl ?_
    refine w_iload X37 hx hby d10_5 rfl ?_
    exact kt
  have hc7_44 : (3 : Int32) < nn := own_llt (by decide) hn_
  have S46 : own_G p e below s0 T37 m 12 #[rv b, iv 3, rv tb, iv 3, iv nn, iv 3, iv c2] [(.int 3), (.ref b)] := fun t kt => by
    refine S43 t ?_
    refine w_icmpNo X37 hx hby d10_7 (tlt hc7_44).2.1 ?_
    refine w_aloadN X37 hx hby d10_10 rfl rfl ?_
    refine w_iloadN X37 hx hby d10_11 rfl ?_
    exact kt
  obtain ⟨cl45, Ar45, -, Sz45, Nn45, Hh45, -⟩ := id F40
  have hin45 : ¬ ((3 : Int32) < 0 ∨ cl45.slots.size ≤ ((3 : Int32)).toNatClampNeg) := inb_of Sz45 ⟨by decide, own_llt (by decide) hn_⟩
  have S47 : own_G p e below s0 T37 m 20 #[rv b, iv 3, rv tb, iv 3, iv nn, iv 3, iv c3] [(.int 255), (.int c3)] := fun t kt => by
    refine S46 t ?_
    refine X37.caload hx (j := (3 : Int32)) (v := (.int c3)) (by rw [e37]; exact Ar45.1) (State.isArrayOf_alike hZ.alike Ar45.2.1) Ar45.2.2 hin45 (Has.at Hh45 hin45 hx3) (g := (mkF m 12 #[rv b, iv 3, rv tb, iv 3, iv nn, iv 3, iv c2] [(.int 3), (.ref b)])) rfl rfl (hb hby d10_12) _ ?_
    refine w_istore X37 hx hby d10_13 (l' := #[rv b, iv 3, rv tb, iv 3, iv nn, iv 3, iv c3]) rfl ?_
    refine w_iload X37 hx hby d10_15 rfl ?_
    refine w_sipush X37 hx hby d10_17 ?_
    exact kt
  have hc20_48 : (255 : Int32) < c3 := hg
  have S49 : own_G p e below s0 T37 m 25 #[rv b, iv 3, rv tb, iv 3, iv nn, iv 3, iv c3] [(.int 3)] := fun t kt => by
    refine S47 t ?_
    refine w_icmpNo X37 hx hby d10_20 (tlt hc20_48).2.2.2 ?_
    refine w_iload X37 hx hby d10_23 rfl ?_
    exact kt
  obtain ⟨fs, hr, hrun, hended, hW, hsame⟩ := X37.leave (v := some (.int 3)) (fun h => by rw [Bd.returns] at h; cases h)
  refine ⟨_, _, S49 _ ?_, hrun, hended, _, _, rfl, ?_, ⟨_, rfl⟩, hW, hsame.mono (by decide) (by decide)⟩
  · show Steps p.tables e below (T37.setTop (mkF m 25 #[rv b, iv 3, rv tb, iv 3, iv nn, iv 3, iv c3] [(.int 3)])) _
    exact own_retI X37 hx Bd.returns (hb hby d10_25) hr
  · show own_Q10p3 Z b tb nn c0 c1 c2 c3 vs us kb kt h0 n0 _ T37.heap _
    rw [e37]
    exact ⟨rfl, N41, K42⟩
theorem own_ef10p4 (m : MethodId) (x0 : Addr) (x1 : Int32) (x2 : Addr) (x3 : Int32) (x4 : Int32) : entryFrame m #[(.ref x0), (.int x1), (.ref x2), (.int x3), (.int x4)] 7 = mkF m 0 #[rv x0, iv x1, rv x2, iv x3, iv x4, .unset, .unset] [] := by first | (simp [entryFrame, mkF, argsToLocals, Value.category]; done) | rfl
def own_Q10p4 (Z : State) (b : Addr) (tb : Addr) (nn : Int32) (c0 : Int32) (c1 : Int32) (c2 : Int32) (c3 : Int32) (c4 : Int32) (vs : List Value) (us : List Value) (kb : ClassId) (kt : ClassId) (h0 : Heap) (n0 : Nat) (v : Option Value) (h : Heap) (L : List Loc) : Prop := v = some (.int 4) ∧ Fr n0 L ∧ Keep h0 h [tb]
set_option maxHeartbeats 40000000 in
theorem own_rm10p4 (l : Launch) (Z : State) (a0 : Array Value) (hw : ∀ d ∈ tables_1, d.before a0 Z = true) (ws : List Jvm.Cond) (b : Addr) (tb : Addr) (nn : Int32) (c0 : Int32) (c1 : Int32) (c2 : Int32) (c3 : Int32) (c4 : Int32) (vs : List Value) (us : List Value) (kb : ClassId) (kt : ClassId) (h0 : Heap) (n0 : Nat) (Z0 : n0 ≤ h0.size) (V_b : Arv Z h0 b kb .char nn vs (.int 0)) (V_t : Arv Z h0 tb kt .byte nn us (.int 0)) (g_tb : n0 ≤ tb) (ne_b_tb : b ≠ tb) (hn_ : (4 : Int32) < nn) (hu : 4 ≤ us.length) (hx0 : vs.getD 0 (.int 0) = .int c0) (hx1 : vs.getD 1 (.int 0) = .int c1) (hx2 : vs.getD 2 (.int 0) = .int c2) (hx3 : vs.getD 3 (.int 0) = .int c3) (hx4 : vs.getD 4 (.int 0) = .int c4) (hl0 : ¬ (255 : Int32) < c0) (hl1 : ¬ (255 : Int32) < c1) (hl2 : ¬ (255 : Int32) < c2) (hl3 : ¬ (255 : Int32) < c3) (hg : (255 : Int32) < c4) :
    MetFree l own_y9 (head1 (Jvm.Cond.code own_y9 jdk_52_method_21_code 7 (some .int) :: ws) ({ frames := 0, cells := 0, slots := 0, locals := 0 } : Room)) (fun argv U => argv = #[(.ref b), (.int 0), (.ref tb), (.int 0), (.int nn)] ∧ Z.Warmed39 U.vm ∧ U.heap = h0) (fun _ _ _ _ _ => True) (fun _ U o U' => ∃ v L, o = .returned v ∧ own_Q10p4 Z b tb nn c0 c1 c2 c3 c4 vs us kb kt h0 n0 v U'.heap L ∧ FrameEnd U o U' L ({ frames := 0, cells := 0, slots := 0, locals := 0 } : Room).cells ({ frames := 0, cells := 0, slots := 0, locals := 0 } : Room).slots) := by
  refine MetFree.of_bodySF (plainFor_of_name own_pn2) hisR ?_
  intro p e s m args below meth c s₁ Bd hml0 hP hK
  obtain ⟨rfl, hZ, hh⟩ := hP
  have hx := Bd.exec
  have hby := Bd.bytes
  have hml : c.maxLocals = 7 := hml0
  have hown : s.vm.findClass own_s2 = some m.cls := findClass_of_methodNamed Bd.named
  have hnm := (name_of_methodNamed Bd.named Bd.method).1
  have X0 : Stand p l e ({ frames := 0, cells := 0, slots := 0, locals := 0 } : Room) s m #[(.ref b), (.int 0), (.ref tb), (.int 0), (.int nn)] below meth c s₁ [] 0 0 := Stand.of_body Bd
  have e0 : s₁.heap = h0 := by rw [← hh, Bd.state]; rfl
  have N0 := Fr.nil n0
  have pre_ : own_G p e below (s₁.setTop (entryFrame m #[(.ref b), (.int 0), (.ref tb), (.int 0), (.int nn)] 7)) s₁ m 0 #[rv b, iv 0, rv tb, iv 0, iv nn, .unset, .unset] [] := fun t k => castTop (own_ef10p4 m b (0 : Int32) tb (0 : Int32) nn) k
  obtain ⟨s0, hs0⟩ : ∃ z, z = (s₁.setTop (entryFrame m #[(.ref b), (.int 0), (.ref tb), (.int 0), (.int nn)] 7)) := ⟨_, rfl⟩
  have pre0 : own_G p e below s0 s₁ m 0 #[rv b, iv 0, rv tb, iv 0, iv nn, .unset, .unset] [] := hs0 ▸ pre_
  rw [← hs0]
  have S1 : own_G p e below s0 s₁ m 7 #[rv b, iv 0, rv tb, iv 0, iv nn, iv 0, .unset] [(.int nn), (.int 0)] := fun t kt => by
    refine pre0 t ?_
    refine w_iconst X0 hx hby d10_0 ?_
    refine w_istore X0 hx hby d10_1 (l' := #[rv b, iv 0, rv tb, iv 0, iv nn, iv 0, .unset]) rfl ?_
    refine w_iload X0 hx hby d10_3 rfl ?_
    refine w_iload X0 hx hby d10_5 rfl ?_
    exact kt
  have hc7_2 : (0 : Int32) < nn := own_llt (by decide) hn_
  have S4 : own_G p e below s0 s₁ m 12 #[rv b, iv 0, rv tb, iv 0, iv nn, iv 0, .unset] [(.int 0), (.ref b)] := fun t kt => by
    refine S1 t ?_
    refine w_icmpNo X0 hx hby d10_7 (tlt hc7_2).2.1 ?_
    refine w_aloadN X0 hx hby d10_10 rfl rfl ?_
    refine w_iloadN X0 hx hby d10_11 rfl ?_
    exact kt
  obtain ⟨cl3, Ar3, -, Sz3, Nn3, Hh3, -⟩ := id V_b
  have hin3 : ¬ ((0 : Int32) < 0 ∨ cl3.slots.size ≤ ((0 : Int32)).toNatClampNeg) := inb_of Sz3 ⟨by decide, own_llt (by decide) hn_⟩
  have S5 : own_G p e below s0 s₁ m 20 #[rv b, iv 0, rv tb, iv 0, iv nn, iv 0, iv c0] [(.int 255), (.int c0)] := fun t kt => by
    refine S4 t ?_
    refine X0.caload hx (j := (0 : Int32)) (v := (.int c0)) (by rw [e0]; exact Ar3.1) (State.isArrayOf_alike hZ.alike Ar3.2.1) Ar3.2.2 hin3 (Has.at Hh3 hin3 hx0) (g := (mkF m 12 #[rv b, iv 0, rv tb, iv 0, iv nn, iv 0, .unset] [(.int 0), (.ref b)])) rfl rfl (hb hby d10_12) _ ?_
    refine w_istore X0 hx hby d10_13 (l' := #[rv b, iv 0, rv tb, iv 0, iv nn, iv 0, iv c0]) rfl ?_
    refine w_iload X0 hx hby d10_15 rfl ?_
    refine w_sipush X0 hx hby d10_17 ?_
    exact kt
  have hc20_6 : ¬ ((255 : Int32) < c0) := hl0
  have S7 : own_G p e below s0 s₁ m 31 #[rv b, iv 0, rv tb, iv 0, iv nn, iv 0, iv c0] [(.int (c0.toInt8.toInt32)), (.int 0), (.ref tb)] := fun t kt => by
    refine S5 t ?_
    refine w_icmpYes X0 hx hby (pc' := 26) d10_20 (flt hc20_6).2.2.2 (by decide) ?_
    refine w_aloadN X0 hx hby d10_26 rfl rfl ?_
    refine w_iloadN X0 hx hby d10_27 rfl ?_
    refine w_iload X0 hx hby d10_28 rfl ?_
    refine XS.i2b X0.here hx rfl (hb hby d10_30) rfl ?_
    exact kt
  obtain ⟨cl8, Ar8, q8, Sz8, Nn8, Hh8, Gg8⟩ := id V_t
  have hin8 : ¬ ((0 : Int32) < 0 ∨ cl8.slots.size ≤ ((0 : Int32)).toNatClampNeg) := inb_of Sz8 ⟨by decide, own_llt (by decide) hn_⟩
  obtain ⟨T9, h9, X9, e9, W9, st9⟩ := stB X0 hx hZ e0 Ar8 (j := (0 : Int32)) hin8 (g := (mkF m 31 #[rv b, iv 0, rv tb, iv 0, iv nn, iv 0, iv c0] [(.int (c0.toInt8.toInt32)), (.int 0), (.ref tb)])) rfl rfl (hb hby d10_31)
  have S10 : own_G p e below s0 T9 m 32 #[rv b, iv 0, rv tb, iv 0, iv nn, iv 0, iv c0] [] := fun t kt => S7 t (st9 _ kt)
  have V11 := Arv.set Ar8 q8 Sz8 Nn8 Hh8 Gg8 (fits_nar_byte _) W9 0 rfl (by first | omega | (simp only [List.length_set]; omega))
  have F12 := V_b.other W9 ne_b_tb
  have N13 := Fr.snoc X9 N0 g_tb
  have K14 : Keep h0 h9 [tb] := (Keep.refl h0 [tb]).wr W9 (Or.inl (List.mem_of_getElem? (i := 0) rfl))
  have S15 : own_G p e below s0 T9 m 7 #[rv b, iv 1, rv tb, iv 1, iv nn, iv 1, iv c0] [(.int nn), (.int 1)] := fun t kt => by
    refine S10 t ?_
    refine w_iinc X9 hx hby d10_32 rfl (l' := #[rv b, iv 1, rv tb, iv 0, iv nn, iv 0, iv c0]) rfl ?_
    refine w_iinc X9 hx hby d10_35 rfl (l' := #[rv b, iv 1, rv tb, iv 1, iv nn, iv 0, iv c0]) rfl ?_
    refine w_iinc X9 hx hby d10_38 rfl (l' := #[rv b, iv 1, rv tb, iv 1, iv nn, iv 1, iv c0]) rfl ?_
    refine w_goto X9 hx hby (pc' := 3) d10_41 (by decide) ?_
    refine w_iload X9 hx hby d10_3 rfl ?_
    refine w_iload X9 hx hby d10_5 rfl ?_
    exact kt
  have hc7_16 : (1 : Int32) < nn := own_llt (by decide) hn_
  have S18 : own_G p e below s0 T9 m 12 #[rv b, iv 1, rv tb, iv 1, iv nn, iv 1, iv c0] [(.int 1), (.ref b)] := fun t kt => by
    refine S15 t ?_
    refine w_icmpNo X9 hx hby d10_7 (tlt hc7_16).2.1 ?_
    refine w_aloadN X9 hx hby d10_10 rfl rfl ?_
    refine w_iloadN X9 hx hby d10_11 rfl ?_
    exact kt
  obtain ⟨cl17, Ar17, -, Sz17, Nn17, Hh17, -⟩ := id F12
  have hin17 : ¬ ((1 : Int32) < 0 ∨ cl17.slots.size ≤ ((1 : Int32)).toNatClampNeg) := inb_of Sz17 ⟨by decide, own_llt (by decide) hn_⟩
  have S19 : own_G p e below s0 T9 m 20 #[rv b, iv 1, rv tb, iv 1, iv nn, iv 1, iv c1] [(.int 255), (.int c1)] := fun t kt => by
    refine S18 t ?_
    refine X9.caload hx (j := (1 : Int32)) (v := (.int c1)) (by rw [e9]; exact Ar17.1) (State.isArrayOf_alike hZ.alike Ar17.2.1) Ar17.2.2 hin17 (Has.at Hh17 hin17 hx1) (g := (mkF m 12 #[rv b, iv 1, rv tb, iv 1, iv nn, iv 1, iv c0] [(.int 1), (.ref b)])) rfl rfl (hb hby d10_12) _ ?_
    refine w_istore X9 hx hby d10_13 (l' := #[rv b, iv 1, rv tb, iv 1, iv nn, iv 1, iv c1]) rfl ?_
    refine w_iload X9 hx hby d10_15 rfl ?_
    refine w_sipush X9 hx hby d10_17 ?_
    exact kt
  have hc20_20 : ¬ ((255 : Int32) < c1) := hl1
  have S21 : own_G p e below s0 T9 m 31 #[rv b, iv 1, rv tb, iv 1, iv nn, iv 1, iv c1] [(.int (c1.toInt8.toInt32)), (.int 1), (.ref tb)] := fun t kt => by
    refine S19 t ?_
    refine w_icmpYes X9 hx hby (pc' := 26) d10_20 (flt hc20_20).2.2.2 (by decide) ?_
    refine w_aloadN X9 hx hby d10_26 rfl rfl ?_
    refine w_iloadN X9 hx hby d10_27 rfl ?_
    refine w_iload X9 hx hby d10_28 rfl ?_
    refine XS.i2b X9.here hx rfl (hb hby d10_30) rfl ?_
    exact kt
  obtain ⟨cl22, Ar22, q22, Sz22, Nn22, Hh22, Gg22⟩ := id V11
  have hin22 : ¬ ((1 : Int32) < 0 ∨ cl22.slots.size ≤ ((1 : Int32)).toNatClampNeg) := inb_of Sz22 ⟨by decide, own_llt (by decide) hn_⟩
  obtain ⟨T23, h23, X23, e23, W23, st23⟩ := stB X9 hx hZ e9 Ar22 (j := (1 : Int32)) hin22 (g := (mkF m 31 #[rv b, iv 1, rv tb, iv 1, iv nn, iv 1, iv c1] [(.int (c1.toInt8.toInt32)), (.int 1), (.ref tb)])) rfl rfl (hb hby d10_31)
  have S24 : own_G p e below s0 T23 m 32 #[rv b, iv 1, rv tb, iv 1, iv nn, iv 1, iv c1] [] := fun t kt => S21 t (st23 _ kt)
  have V25 := Arv.set Ar22 q22 Sz22 Nn22 Hh22 Gg22 (fits_nar_byte _) W23 1 rfl (by first | omega | (simp only [List.length_set]; omega))
  have F26 := F12.other W23 ne_b_tb
  have N27 := Fr.snoc X23 N13 g_tb
  have K28 : Keep h0 h23 [tb] := K14.wr W23 (Or.inl (List.mem_of_getElem? (i := 0) rfl))
  have S29 : own_G p e below s0 T23 m 7 #[rv b, iv 2, rv tb, iv 2, iv nn, iv 2, iv c1] [(.int nn), (.int 2)] := fun t kt => by
    refine S24 t ?_
    refine w_iinc X23 hx hby d10_32 rfl (l' := #[rv b, iv 2, rv tb, iv 1, iv nn, iv 1, iv c1]) rfl ?_
    refine w_iinc X23 hx hby d10_35 rfl (l' := #[rv b, iv 2, rv tb, iv 2, iv nn, iv 1, iv c1]) rfl ?_
    refine w_iinc X23 hx hby d10_38 rfl (l' := #[rv b, iv 2, rv tb, iv 2, iv nn, iv 2, iv c1]) rfl ?_
    refine w_goto X23 hx hby (pc' := 3) d10_41 (by decide) ?_
    refine w_iload X23 hx hby d10_3 rfl ?_
    refine w_iload X23 hx hby d10_5 rfl ?_
    exact kt
  have hc7_30 : (2 : Int32) < nn := own_llt (by decide) hn_
  have S32 : own_G p e below s0 T23 m 12 #[rv b, iv 2, rv tb, iv 2, iv nn, iv 2, iv c1] [(.int 2), (.ref b)] := fun t kt => by
    refine S29 t ?_
    refine w_icmpNo X23 hx hby d10_7 (tlt hc7_30).2.1 ?_
    refine w_aloadN X23 hx hby d10_10 rfl rfl ?_
    refine w_iloadN X23 hx hby d10_11 rfl ?_
    exact kt
  obtain ⟨cl31, Ar31, -, Sz31, Nn31, Hh31, -⟩ := id F26
  have hin31 : ¬ ((2 : Int32) < 0 ∨ cl31.slots.size ≤ ((2 : Int32)).toNatClampNeg) := inb_of Sz31 ⟨by decide, own_llt (by decide) hn_⟩
  have S33 : own_G p e below s0 T23 m 20 #[rv b, iv 2, rv tb, iv 2, iv nn, iv 2, iv c2] [(.int 255), (.int c2)] := fun t kt => by
    refine S32 t ?_
    refine X23.caload hx (j := (2 : Int32)) (v := (.int c2)) (by rw [e23]; exact Ar31.1) (State.isArrayOf_alike hZ.alike Ar31.2.1) Ar31.2.2 hin31 (Has.at Hh31 hin31 hx2) (g := (mkF m 12 #[rv b, iv 2, rv tb, iv 2, iv nn, iv 2, iv c1] [(.int 2), (.ref b)])) rfl rfl (hb hby d10_12) _ ?_
    refine w_istore X23 hx hby d10_13 (l' := #[rv b, iv 2, rv tb, iv 2, iv nn, iv 2, iv c2]) rfl ?_
    refine w_iload X23 hx hby d10_15 rfl ?_
    refine w_sipush X23 hx hby d10_17 ?_
    exact kt
  have hc20_34 : ¬ ((255 : Int32) < c2) := hl2
  have S35 : own_G p e below s0 T23 m 31 #[rv b, iv 2, rv tb, iv 2, iv nn, iv 2, iv c2] [(.int (c2.toInt8.toInt32)), (.int 2), (.ref tb)] := fun t kt => by
    refine S33 t ?_
    refine w_icmpYes X23 hx hby (pc' := 26) d10_20 (flt hc20_34).2.2.2 (by decide) ?_
    refine w_aloadN X23 hx hby d10_26 rfl rfl ?_
    refine w_iloadN X23 hx hby d10_27 rfl ?_
    refine w_iload X23 hx hby d10_28 rfl ?_
    refine XS.i2b X23.here hx rfl (hb hby d10_30) rfl ?_
    exact kt
  obtain ⟨cl36, Ar36, q36, Sz36, Nn36, Hh36, Gg36⟩ := id V25
  have hin36 : ¬ ((2 : Int32) < 0 ∨ cl36.slots.size ≤ ((2 : Int32)).toNatClampNeg) := inb_of Sz36 ⟨by decide, own_llt (by decide) hn_⟩
  obtain ⟨T37, h37, X37, e37, W37, st37⟩ := stB X23 hx hZ e23 Ar36 (j := (2 : Int32)) hin36 (g := (mkF m 31 #[rv b, iv 2, rv tb, iv 2, iv nn, iv 2, iv c2] [(.int (c2.toInt8.toInt32)), (.int 2), (.ref tb)])) rfl rfl (hb hby d10_31)
  have S38 : own_G p e below s0 T37 m 32 #[rv b, iv 2, rv tb, iv 2, iv nn, iv 2, iv c2] [] := fun t kt => S35 t (st37 _ kt)
  have V39 := Arv.set Ar36 q36 Sz36 Nn36 Hh36 Gg36 (fits_nar_byte _) W37 2 rfl (by first | omega | (simp only [List.length_set]; omega))
  have F40 := F26.other W37 ne_b_tb
  have N41 := Fr.snoc X37 N27 g_tb
  have K42 : Keep h0 h37 [tb] := K28.wr W37 (Or.inl (List.mem_of_getElem? (i := 0) rfl))
  have S43 : own_G p e below s0 T37 m 7 #[rv b, iv 3, rv tb, iv 3, iv nn, iv 3, iv c2] [(.int nn), (.int 3)] := fun t kt => by
    refine S38 t ?_
    refine w_iinc X37 hx hby d10_32 rfl (l' := #[rv b, iv 3, rv tb, iv 2, iv nn, iv 2, iv c2]) rfl ?_
    refine w_iinc X37 hx hby d10_35 rfl (l' := #[rv b, iv 3, rv tb, iv 3, iv nn, iv 2, iv c2]) rfl ?_
    refine w_iinc X37 hx hby d10_38 rfl (l' := #[rv b, iv 3, rv tb, iv 3, iv nn, iv 3, iv c2]) rfl ?_
    refine w_goto X37 hx hby (pc' := 3) d10_41 (by decide) ?_
    refine w_iload X37 hx hby d10_3 rfl ?_
    refine w_iload X37 hx hby d10_5 rfl ?_
    exact kt
  have hc7_44 : (3 : Int32) < nn := own_llt (by decide) hn_
  have S46 : own_G p e below s0 T37 m 12 #[rv b, iv 3, rv tb, iv 3, iv nn, iv 3, iv c2] [(.int 3), (.ref b)] := fun t kt => by
    refine S43 t ?_
    refine w_icmpNo X37 hx hby d10_7 (tlt hc7_44).2.1 ?_
    refine w_aloadN X37 hx hby d10_10 rfl rfl ?_
    refine w_iloadN X37 hx hby d10_11 rfl ?_
    exact kt
  obtain ⟨cl45, Ar45, -, Sz45, Nn45, Hh45, -⟩ := id F40
  have hin45 : ¬ ((3 : Int32) < 0 ∨ cl45.slots.size ≤ ((3 : Int32)).toNatClampNeg) := inb_of Sz45 ⟨by decide, own_llt (by decide) hn_⟩
  have S47 : own_G p e below s0 T37 m 20 #[rv b, iv 3, rv tb, iv 3, iv nn, iv 3, iv c3] [(.int 255), (.int c3)] := fun t kt => by
    refine S46 t ?_
    refine X37.caload hx (j := (3 : Int32)) (v := (.int c3)) (by rw [e37]; exact Ar45.1) (State.isArrayOf_alike hZ.alike Ar45.2.1) Ar45.2.2 hin45 (Has.at Hh45 hin45 hx3) (g := (mkF m 12 #[rv b, iv 3, rv tb, iv 3, iv nn, iv 3, iv c2] [(.int 3), (.ref b)])) rfl rfl (hb hby d10_12) _ ?_
    refine w_istore X37 hx hby d10_13 (l' := #[rv b, iv 3, rv tb, iv 3, iv nn, iv 3, iv c3]) rfl ?_
    refine w_iload X37 hx hby d10_15 rfl ?_
    refine w_sipush X37 hx hby d10_17 ?_
    exact kt
  have hc20_48 : ¬ ((255 : Int32) < c3) := hl3
  have S49 : own_G p e below s0 T37 m 31 #[rv b, iv 3, rv tb, iv 3, iv nn, iv 3, iv c3] [(.int (c3.toInt8.toInt32)), (.int 3), (.ref tb)] := fun t kt => by
    refine S47 t ?_
    refine w_icmpYes X37 hx hby (pc' := 26) d10_20 (flt hc20_48).2.2.2 (by decide) ?_
    refine w_aloadN X37 hx hby d10_26 rfl rfl ?_
    refine w_iloadN X37 hx hby d10_27 rfl ?_
    refine w_iload X37 hx hby d10_28 rfl ?_
    refine XS.i2b X37.here hx rfl (hb hby d10_30) rfl ?_
    exact kt
  obtain ⟨cl50, Ar50, q50, Sz50, Nn50, Hh50, Gg50⟩ := id V39
  have hin50 : ¬ ((3 : Int32) < 0 ∨ cl50.slots.size ≤ ((3 : Int32)).toNatClampNeg) := inb_of Sz50 ⟨by decide, own_llt (by decide) hn_⟩
  obtain ⟨T51, h51, X51, e51, W51, st51⟩ := stB X37 hx hZ e37 Ar50 (j := (3 : Int32)) hin50 (g := (mkF m 31 #[rv b, iv 3, rv tb, iv 3, iv nn, iv 3, iv c3] [(.int (c3.toInt8.toInt32)), (.int 3), (.ref tb)])) rfl rfl (hb hby d10_31)
  have S52 : own_G p e below s0 T51 m 32 #[rv b, iv 3, rv tb, iv 3, iv nn, iv 3, iv c3] [] := fun t kt => S49 t (st51 _ kt)
  have V53 := Arv.set Ar50 q50 Sz50 Nn50 Hh50 Gg50 (fits_nar_byte _) W51 3 rfl (by first | omega | (simp only [List.length_set]; omega))
  have F54 := F40.other W51 ne_b_tb
  have N55 := Fr.snoc X51 N41 g_tb
  have K56 : Keep h0 h51 [tb] := K42.wr W51 (Or.inl (List.mem_of_getElem? (i := 0) rfl))
  have S57 : own_G p e below s0 T51 m 7 #[rv b, iv 4, rv tb, iv 4, iv nn, iv 4, iv c3] [(.int nn), (.int 4)] := fun t kt => by
    refine S52 t ?_
    refine w_iinc X51 hx hby d10_32 rfl (l' := #[rv b, iv 4, rv tb, iv 3, iv nn, iv 3, iv c3]) rfl ?_
    refine w_iinc X51 hx hby d10_35 rfl (l' := #[rv b, iv 4, rv tb, iv 4, iv nn, iv 3, iv c3]) rfl ?_
    refine w_iinc X51 hx hby d10_38 rfl (l' := #[rv b, iv 4, rv tb, iv 4, iv nn, iv 4, iv c3]) rfl ?_
    refine w_goto X51 hx hby (pc' := 3) d10_41 (by decide) ?_
    refine w_iload X51 hx hby d10_3 rfl ?_
    refine w_iload X51 hx hby d10_5 rfl ?_
    exact kt
  have hc7_58 : (4 : Int32) < nn := own_llt (by decide) hn_
  have S60 : own_G p e below s0 T51 m 12 #[rv b, iv 4, rv tb, iv 4, iv nn, iv 4, iv c3] [(.int 4), (.ref b)] := fun t kt => by
    refine S57 t ?_
    refine w_icmpNo X51 hx hby d10_7 (tlt hc7_58).2.1 ?_
    refine w_aloadN X51 hx hby d10_10 rfl rfl ?_
    refine w_iloadN X51 hx hby d10_11 rfl ?_
    exact kt
  obtain ⟨cl59, Ar59, -, Sz59, Nn59, Hh59, -⟩ := id F54
  have hin59 : ¬ ((4 : Int32) < 0 ∨ cl59.slots.size ≤ ((4 : Int32)).toNatClampNeg) := inb_of Sz59 ⟨by decide, own_llt (by decide) hn_⟩
  have S61 : own_G p e below s0 T51 m 20 #[rv b, iv 4, rv tb, iv 4, iv nn, iv 4, iv c4] [(.int 255), (.int c4)] := fun t kt => by
    refine S60 t ?_
    refine X51.caload hx (j := (4 : Int32)) (v := (.int c4)) (by rw [e51]; exact Ar59.1) (State.isArrayOf_alike hZ.alike Ar59.2.1) Ar59.2.2 hin59 (Has.at Hh59 hin59 hx4) (g := (mkF m 12 #[rv b, iv 4, rv tb, iv 4, iv nn, iv 4, iv c3] [(.int 4), (.ref b)])) rfl rfl (hb hby d10_12) _ ?_
    refine w_istore X51 hx hby d10_13 (l' := #[rv b, iv 4, rv tb, iv 4, iv nn, iv 4, iv c4]) rfl ?_
    refine w_iload X51 hx hby d10_15 rfl ?_
    refine w_sipush X51 hx hby d10_17 ?_
    exact kt
  have hc20_62 : (255 : Int32) < c4 := hg
  have S63 : own_G p e below s0 T51 m 25 #[rv b, iv 4, rv tb, iv 4, iv nn, iv 4, iv c4] [(.int 4)] := fun t kt => by
    refine S61 t ?_
    refine w_icmpNo X51 hx hby d10_20 (tlt hc20_62).2.2.2 ?_
    refine w_iload X51 hx hby d10_23 rfl ?_
    exact kt
  obtain ⟨fs, hr, hrun, hended, hW, hsame⟩ := X51.leave (v := some (.int 4)) (fun h => by rw [Bd.returns] at h; cases h)
  refine ⟨_, _, S63 _ ?_, hrun, hended, _, _, rfl, ?_, ⟨_, rfl⟩, hW, hsame.mono (by decide) (by decide)⟩
  · show Steps p.tables e below (T51.setTop (mkF m 25 #[rv b, iv 4, rv tb, iv 4, iv nn, iv 4, iv c4] [(.int 4)])) _
    exact own_retI X51 hx Bd.returns (hb hby d10_25) hr
  · show own_Q10p4 Z b tb nn c0 c1 c2 c3 c4 vs us kb kt h0 n0 _ T51.heap _
    rw [e51]
    exact ⟨rfl, N55, K56⟩
def own_Q10 (Z : State) (b : Addr) (tb : Addr) (nn : Int32) (ls : List Int32) (kb : ClassId) (kt : ClassId) (h0 : Heap) (n0 : Nat) (v : Option Value) (h : Heap) (L : List Loc) : Prop := ∃ (pp : Int32), v = some (.int pp) ∧ Fr n0 L ∧ Keep h0 h [tb] ∧ own_C5 Z h tb kt ls pp
set_option maxHeartbeats 4000000 in
theorem own_rm10 (l : Launch) (Z : State) (a0 : Array Value) (hw : ∀ d ∈ tables_1, d.before a0 Z = true) (ws : List Jvm.Cond) (b : Addr) (tb : Addr) (nn : Int32) (ls : List Int32) (kb : ClassId) (kt : ClassId) (h0 : Heap) (n0 : Nat) (Z0 : n0 ≤ h0.size) (V_b : Arv Z h0 b kb .char nn (ls.map Value.int) (.int 0)) (V_t : Arv Z h0 tb kt .byte nn (List.replicate ls.length (.int 0)) (.int 0)) (g_tb : n0 ≤ tb) (ne_b_tb : b ≠ tb) (hn : nn = Int32.ofNat ls.length) (h5 : ls.length ≤ 5) (hne : ls ≠ []) :
    MetFree l own_y9 (head1 (Jvm.Cond.code own_y9 jdk_52_method_21_code 7 (some .int) :: ws) ({ frames := 0, cells := 0, slots := 0, locals := 0 } : Room)) (fun argv U => argv = #[(.ref b), (.int 0), (.ref tb), (.int 0), (.int nn)] ∧ Z.Warmed39 U.vm ∧ U.heap = h0) (fun _ _ _ _ _ => True) (fun _ U o U' => ∃ v L, o = .returned v ∧ own_Q10 Z b tb nn ls kb kt h0 n0 v U'.heap L ∧ FrameEnd U o U' L ({ frames := 0, cells := 0, slots := 0, locals := 0 } : Room).cells ({ frames := 0, cells := 0, slots := 0, locals := 0 } : Room).slots) := by
  rcases ls with _ | ⟨c0, _ | ⟨c1, _ | ⟨c2, _ | ⟨c3, _ | ⟨c4, _ | ⟨c5, r⟩⟩⟩⟩⟩⟩
  · exact absurd rfl hne
  · subst hn
    by_cases g0 : (255 : Int32) < c0
    · refine own_mfW (own_rm10p0 l Z a0 hw ws b tb _ c0 ([c0].map Value.int) (List.replicate 1 (.int 0)) kb kt h0 n0 Z0 V_b V_t g_tb ne_b_tb (own_ltN (i := 0) (n := 1) (by decide) (by decide)) (Nat.le_of_ble_eq_true rfl) rfl g0) ?_
      rintro _ _ _ _ ⟨v, L, ho, ⟨hv, N, K⟩, hF⟩
      exact ⟨v, L, ho, ⟨_, hv, N, K, Or.inr ⟨0, c0, rfl, rfl, g0⟩⟩, hF⟩
    refine own_mfW (own_rm10k1 l Z a0 hw ws b tb c0 kb kt h0 n0 Z0 V_b V_t g_tb ne_b_tb g0) ?_
    rintro _ _ _ _ ⟨v, L, ho, ⟨hv, N, K, Va⟩, hF⟩
    exact ⟨v, L, ho, ⟨_, hv, N, K, Or.inl ⟨rfl, fun c hc => by simp only [List.mem_cons, List.not_mem_nil, or_false] at hc; rcases hc with rfl <;> assumption, Va⟩⟩, hF⟩
  · subst hn
    by_cases g0 : (255 : Int32) < c0
    · refine own_mfW (own_rm10p0 l Z a0 hw ws b tb _ c0 ([c0, c1].map Value.int) (List.replicate 2 (.int 0)) kb kt h0 n0 Z0 V_b V_t g_tb ne_b_tb (own_ltN (i := 0) (n := 2) (by decide) (by decide)) (Nat.le_of_ble_eq_true rfl) rfl g0) ?_
      rintro _ _ _ _ ⟨v, L, ho, ⟨hv, N, K⟩, hF⟩
      exact ⟨v, L, ho, ⟨_, hv, N, K, Or.inr ⟨0, c0, rfl, rfl, g0⟩⟩, hF⟩
    by_cases g1 : (255 : Int32) < c1
    · refine own_mfW (own_rm10p1 l Z a0 hw ws b tb _ c0 c1 ([c0, c1].map Value.int) (List.replicate 2 (.int 0)) kb kt h0 n0 Z0 V_b V_t g_tb ne_b_tb (own_ltN (i := 1) (n := 2) (by decide) (by decide)) (Nat.le_of_ble_eq_true rfl) rfl rfl g0 g1) ?_
      rintro _ _ _ _ ⟨v, L, ho, ⟨hv, N, K⟩, hF⟩
      exact ⟨v, L, ho, ⟨_, hv, N, K, Or.inr ⟨1, c1, rfl, rfl, g1⟩⟩, hF⟩
    refine own_mfW (own_rm10k2 l Z a0 hw ws b tb c0 c1 kb kt h0 n0 Z0 V_b V_t g_tb ne_b_tb g0 g1) ?_
    rintro _ _ _ _ ⟨v, L, ho, ⟨hv, N, K, Va⟩, hF⟩
    exact ⟨v, L, ho, ⟨_, hv, N, K, Or.inl ⟨rfl, fun c hc => by simp only [List.mem_cons, List.not_mem_nil, or_false] at hc; rcases hc with rfl | rfl <;> assumption, Va⟩⟩, hF⟩
  · subst hn
    by_cases g0 : (255 : Int32) < c0
    · refine own_mfW (own_rm10p0 l Z a0 hw ws b tb _ c0 ([c0, c1, c2].map Value.int) (List.replicate 3 (.int 0)) kb kt h0 n0 Z0 V_b V_t g_tb ne_b_tb (own_ltN (i := 0) (n := 3) (by decide) (by decide)) (Nat.le_of_ble_eq_true rfl) rfl g0) ?_
      rintro _ _ _ _ ⟨v, L, ho, ⟨hv, N, K⟩, hF⟩
      exact ⟨v, L, ho, ⟨_, hv, N, K, Or.inr ⟨0, c0, rfl, rfl, g0⟩⟩, hF⟩
    by_cases g1 : (255 : Int32) < c1
    · refine own_mfW (own_rm10p1 l Z a0 hw ws b tb _ c0 c1 ([c0, c1, c2].map Value.int) (List.replicate 3 (.int 0)) kb kt h0 n0 Z0 V_b V_t g_tb ne_b_tb (own_ltN (i := 1) (n := 3) (by decide) (by decide)) (Nat.le_of_ble_eq_true rfl) rfl rfl g0 g1) ?_
      rintro _ _ _ _ ⟨v, L, ho, ⟨hv, N, K⟩, hF⟩
      exact ⟨v, L, ho, ⟨_, hv, N, K, Or.inr ⟨1, c1, rfl, rfl, g1⟩⟩, hF⟩
    by_cases g2 : (255 : Int32) < c2
    · refine own_mfW (own_rm10p2 l Z a0 hw ws b tb _ c0 c1 c2 ([c0, c1, c2].map Value.int) (List.replicate 3 (.int 0)) kb kt h0 n0 Z0 V_b V_t g_tb ne_b_tb (own_ltN (i := 2) (n := 3) (by decide) (by decide)) (Nat.le_of_ble_eq_true rfl) rfl rfl rfl g0 g1 g2) ?_
      rintro _ _ _ _ ⟨v, L, ho, ⟨hv, N, K⟩, hF⟩
      exact ⟨v, L, ho, ⟨_, hv, N, K, Or.inr ⟨2, c2, rfl, rfl, g2⟩⟩, hF⟩
    refine own_mfW (own_rm10k3 l Z a0 hw ws b tb c0 c1 c2 kb kt h0 n0 Z0 V_b V_t g_tb ne_b_tb g0 g1 g2) ?_
    rintro _ _ _ _ ⟨v, L, ho, ⟨hv, N, K, Va⟩, hF⟩
    exact ⟨v, L, ho, ⟨_, hv, N, K, Or.inl ⟨rfl, fun c hc => by simp only [List.mem_cons, List.not_mem_nil, or_false] at hc; rcases hc with rfl | rfl | rfl <;> assumption, Va⟩⟩, hF⟩
  · subst hn
    by_cases g0 : (255 : Int32) < c0
    · refine own_mfW (own_rm10p0 l Z a0 hw ws b tb _ c0 ([c0, c1, c2, c3].map Value.int) (List.replicate 4 (.int 0)) kb kt h0 n0 Z0 V_b V_t g_tb ne_b_tb (own_ltN (i := 0) (n := 4) (by decide) (by decide)) (Nat.le_of_ble_eq_true rfl) rfl g0) ?_
      rintro _ _ _ _ ⟨v, L, ho, ⟨hv, N, K⟩, hF⟩
      exact ⟨v, L, ho, ⟨_, hv, N, K, Or.inr ⟨0, c0, rfl, rfl, g0⟩⟩, hF⟩
    by_cases g1 : (255 : Int32) < c1
    · refine own_mfW (own_rm10p1 l Z a0 hw ws b tb _ c0 c1 ([c0, c1, c2, c3].map Value.int) (List.replicate 4 (.int 0)) kb kt h0 n0 Z0 V_b V_t g_tb ne_b_tb (own_ltN (i := 1) (n := 4) (by decide) (by decide)) (Nat.le_of_ble_eq_true rfl) rfl rfl g0 g1) ?_
      rintro _ _ _ _ ⟨v, L, ho, ⟨hv, N, K⟩, hF⟩
      exact ⟨v, L, ho, ⟨_, hv, N, K, Or.inr ⟨1, c1, rfl, rfl, g1⟩⟩, hF⟩
    by_cases g2 : (255 : Int32) < c2
    · refine own_mfW (own_rm10p2 l Z a0 hw ws b tb _ c0 c1 c2 ([c0, c1, c2, c3].map Value.int) (List.replicate 4 (.int 0)) kb kt h0 n0 Z0 V_b V_t g_tb ne_b_tb (own_ltN (i := 2) (n := 4) (by decide) (by decide)) (Nat.le_of_ble_eq_true rfl) rfl rfl rfl g0 g1 g2) ?_
      rintro _ _ _ _ ⟨v, L, ho, ⟨hv, N, K⟩, hF⟩
      exact ⟨v, L, ho, ⟨_, hv, N, K, Or.inr ⟨2, c2, rfl, rfl, g2⟩⟩, hF⟩
    by_cases g3 : (255 : Int32) < c3
    · refine own_mfW (own_rm10p3 l Z a0 hw ws b tb _ c0 c1 c2 c3 ([c0, c1, c2, c3].map Value.int) (List.replicate 4 (.int 0)) kb kt h0 n0 Z0 V_b V_t g_tb ne_b_tb (own_ltN (i := 3) (n := 4) (by decide) (by decide)) (Nat.le_of_ble_eq_true rfl) rfl rfl rfl rfl g0 g1 g2 g3) ?_
      rintro _ _ _ _ ⟨v, L, ho, ⟨hv, N, K⟩, hF⟩
      exact ⟨v, L, ho, ⟨_, hv, N, K, Or.inr ⟨3, c3, rfl, rfl, g3⟩⟩, hF⟩
    refine own_mfW (own_rm10k4 l Z a0 hw ws b tb c0 c1 c2 c3 kb kt h0 n0 Z0 V_b V_t g_tb ne_b_tb g0 g1 g2 g3) ?_
    rintro _ _ _ _ ⟨v, L, ho, ⟨hv, N, K, Va⟩, hF⟩
    exact ⟨v, L, ho, ⟨_, hv, N, K, Or.inl ⟨rfl, fun c hc => by simp only [List.mem_cons, List.not_mem_nil, or_false] at hc; rcases hc with rfl | rfl | rfl | rfl <;> assumption, Va⟩⟩, hF⟩
  · subst hn
    by_cases g0 : (255 : Int32) < c0
    · refine own_mfW (own_rm10p0 l Z a0 hw ws b tb _ c0 ([c0, c1, c2, c3, c4].map Value.int) (List.replicate 5 (.int 0)) kb kt h0 n0 Z0 V_b V_t g_tb ne_b_tb (own_ltN (i := 0) (n := 5) (by decide) (by decide)) (Nat.le_of_ble_eq_true rfl) rfl g0) ?_
      rintro _ _ _ _ ⟨v, L, ho, ⟨hv, N, K⟩, hF⟩
      exact ⟨v, L, ho, ⟨_, hv, N, K, Or.inr ⟨0, c0, rfl, rfl, g0⟩⟩, hF⟩
    by_cases g1 : (255 : Int32) < c1
    · refine own_mfW (own_rm10p1 l Z a0 hw ws b tb _ c0 c1 ([c0, c1, c2, c3, c4].map Value.int) (List.replicate 5 (.int 0)) kb kt h0 n0 Z0 V_b V_t g_tb ne_b_tb (own_ltN (i := 1) (n := 5) (by decide) (by decide)) (Nat.le_of_ble_eq_true rfl) rfl rfl g0 g1) ?_
      rintro _ _ _ _ ⟨v, L, ho, ⟨hv, N, K⟩, hF⟩
      exact ⟨v, L, ho, ⟨_, hv, N, K, Or.inr ⟨1, c1, rfl, rfl, g1⟩⟩, hF⟩
    by_cases g2 : (255 : Int32) < c2
    · refine own_mfW (own_rm10p2 l Z a0 hw ws b tb _ c0 c1 c2 ([c0, c1, c2, c3, c4].map Value.int) (List.replicate 5 (.int 0)) kb kt h0 n0 Z0 V_b V_t g_tb ne_b_tb (own_ltN (i := 2) (n := 5) (by decide) (by decide)) (Nat.le_of_ble_eq_true rfl) rfl rfl rfl g0 g1 g2) ?_
      rintro _ _ _ _ ⟨v, L, ho, ⟨hv, N, K⟩, hF⟩
      exact ⟨v, L, ho, ⟨_, hv, N, K, Or.inr ⟨2, c2, rfl, rfl, g2⟩⟩, hF⟩
    by_cases g3 : (255 : Int32) < c3
    · refine own_mfW (own_rm10p3 l Z a0 hw ws b tb _ c0 c1 c2 c3 ([c0, c1, c2, c3, c4].map Value.int) (List.replicate 5 (.int 0)) kb kt h0 n0 Z0 V_b V_t g_tb ne_b_tb (own_ltN (i := 3) (n := 5) (by decide) (by decide)) (Nat.le_of_ble_eq_true rfl) rfl rfl rfl rfl g0 g1 g2 g3) ?_
      rintro _ _ _ _ ⟨v, L, ho, ⟨hv, N, K⟩, hF⟩
      exact ⟨v, L, ho, ⟨_, hv, N, K, Or.inr ⟨3, c3, rfl, rfl, g3⟩⟩, hF⟩
    by_cases g4 : (255 : Int32) < c4
    · refine own_mfW (own_rm10p4 l Z a0 hw ws b tb _ c0 c1 c2 c3 c4 ([c0, c1, c2, c3, c4].map Value.int) (List.replicate 5 (.int 0)) kb kt h0 n0 Z0 V_b V_t g_tb ne_b_tb (own_ltN (i := 4) (n := 5) (by decide) (by decide)) (Nat.le_of_ble_eq_true rfl) rfl rfl rfl rfl rfl g0 g1 g2 g3 g4) ?_
      rintro _ _ _ _ ⟨v, L, ho, ⟨hv, N, K⟩, hF⟩
      exact ⟨v, L, ho, ⟨_, hv, N, K, Or.inr ⟨4, c4, rfl, rfl, g4⟩⟩, hF⟩
    refine own_mfW (own_rm10k5 l Z a0 hw ws b tb c0 c1 c2 c3 c4 kb kt h0 n0 Z0 V_b V_t g_tb ne_b_tb g0 g1 g2 g3 g4) ?_
    rintro _ _ _ _ ⟨v, L, ho, ⟨hv, N, K, Va⟩, hF⟩
    exact ⟨v, L, ho, ⟨_, hv, N, K, Or.inl ⟨rfl, fun c hc => by simp only [List.mem_cons, List.not_mem_nil, or_false] at hc; rcases hc with rfl | rfl | rfl | rfl | rfl <;> assumption, Va⟩⟩, hF⟩
  · exact absurd h5 (by simp only [List.length_cons]; omega)
theorem own_pd6 : parseMethodDescriptor "([CI[BII)I" = some ⟨[(.array .char), .int, (.array .byte), .int, .int], some .int⟩ := by decide +kernel
theorem own_pd7 : parseMethodDescriptor "([CII)[B" = some ⟨[(.array .char), .int, .int], some (.array .byte)⟩ := by decide +kernel
theorem own_pd8 : parseMethodDescriptor "([BI)C" = some ⟨[(.array .byte), .int], some .char⟩ := by decide +kernel
theorem d9_0 : decode jdk_52_method_16_code 0 = .ok (.iload_n 2, 1) := by decide +kernel
theorem d9_1 : decode jdk_52_method_16_code 1 = .ok (.newarray .byte, 2) := by decide +kernel
theorem d9_3 : decode jdk_52_method_16_code 3 = .ok (.astore_n 3, 1) := by decide +kernel
theorem d9_4 : decode jdk_52_method_16_code 4 = .ok (.aload_n 0, 1) := by decide +kernel
theorem d9_5 : decode jdk_52_method_16_code 5 = .ok (.iload_n 1, 1) := by decide +kernel
theorem d9_6 : decode jdk_52_method_16_code 6 = .ok (.aload_n 3, 1) := by decide +kernel
theorem d9_7 : decode jdk_52_method_16_code 7 = .ok (.iconst 0, 1) := by decide +kernel
theorem d9_8 : decode jdk_52_method_16_code 8 = .ok (.iload_n 2, 1) := by decide +kernel
theorem d9_9 : decode jdk_52_method_16_code 9 = .ok (.invokestatic 115, 3) := by decide +kernel
theorem d9_12 : decode jdk_52_method_16_code 12 = .ok (.istore 4, 2) := by decide +kernel
theorem d9_14 : decode jdk_52_method_16_code 14 = .ok (.iload 4, 2) := by decide +kernel
theorem d9_16 : decode jdk_52_method_16_code 16 = .ok (.iload_n 2, 1) := by decide +kernel
theorem d9_17 : decode jdk_52_method_16_code 17 = .ok (.if_icmp .eq 40, 3) := by decide +kernel
theorem d9_20 : decode jdk_52_method_16_code 20 = .ok (.aload_n 0, 1) := by decide +kernel
theorem d9_21 : decode jdk_52_method_16_code 21 = .ok (.iload_n 1, 1) := by decide +kernel
theorem d9_22 : decode jdk_52_method_16_code 22 = .ok (.iload_n 2, 1) := by decide +kernel
theorem d9_23 : decode jdk_52_method_16_code 23 = .ok (.invokestatic 119, 3) := by decide +kernel
theorem d9_26 : decode jdk_52_method_16_code 26 = .ok (.astore 5, 2) := by decide +kernel
theorem d9_28 : decode jdk_52_method_16_code 28 = .ok (.aload 5, 2) := by decide +kernel
theorem d9_30 : decode jdk_52_method_16_code 30 = .ok (.iload 4, 2) := by decide +kernel
theorem d9_32 : decode jdk_52_method_16_code 32 = .ok (.invokestatic 71, 3) := by decide +kernel
theorem d9_35 : decode jdk_52_method_16_code 35 = .ok (.sipush 255, 3) := by decide +kernel
theorem d9_38 : decode jdk_52_method_16_code 38 = .ok (.if_icmp .gt 16, 3) := by decide +kernel
theorem d9_54 : decode jdk_52_method_16_code 54 = .ok (.aload 5, 2) := by decide +kernel
theorem d9_56 : decode jdk_52_method_16_code 56 = .ok (.areturn, 1) := by decide +kernel
theorem d9_57 : decode jdk_52_method_16_code 57 = .ok (.aload_n 3, 1) := by decide +kernel
theorem d9_58 : decode jdk_52_method_16_code 58 = .ok (.areturn, 1) := by decide +kernel
theorem own_ef9 (m : MethodId) (x0 : Addr) (x1 : Int32) (x2 : Int32) : entryFrame m #[(.ref x0), (.int x1), (.int x2)] 6 = mkF m 0 #[rv x0, iv x1, iv x2, .unset, .unset, .unset] [] := by first | (simp [entryFrame, mkF, argsToLocals, Value.category]; done) | rfl
def own_Q9 (Z : State) (b : Addr) (nn : Int32) (ls : List Int32) (kb : ClassId) (h0 : Heap) (n0 : Nat) (v : Option Value) (h : Heap) (L : List Loc) : Prop := ∃ (tb : Addr) (kt : ClassId), v = some (.ref tb) ∧ Fr n0 L ∧ n0 ≤ tb ∧ h0.size ≤ tb ∧ Keep h0 h [] ∧ own_By Z h tb kt ls
set_option maxHeartbeats 40000000 in
theorem own_rm9 (l : Launch) (Z : State) (a0 : Array Value) (hw : ∀ d ∈ tables_1, d.before a0 Z = true) (ws : List Jvm.Cond) (b : Addr) (nn : Int32) (ls : List Int32) (kb : ClassId) (h0 : Heap) (n0 : Nat) (Z0 : n0 ≤ h0.size) (V_b : Arv Z h0 b kb .char nn (ls.map Value.int) (.int 0)) (S_AD : Sta Z h0 own_s2 own_s3 "Z" (.int 1)) (S_HI : Sta Z h0 own_s2 "HI_BYTE_SHIFT" "I" (.int 0)) (S_LO : Sta Z h0 own_s2 "LO_BYTE_SHIFT" "I" (.int 8)) (hbs : ∀ c ∈ ls, own_ch c) (hn : nn = Int32.ofNat ls.length) (h5 : ls.length ≤ 5) (hne : ls ≠ []) :
    MetFree l own_y12 (head1 (Jvm.Cond.code own_y12 jdk_52_method_16_code 6 (some (.array .byte)) :: ws) ({ frames := 3, cells := 2, slots := 15, locals := 40 } : Room)) (fun argv U => argv = #[(.ref b), (.int 0), (.int nn)] ∧ Z.Warmed39 U.vm ∧ U.heap = h0) (fun _ _ _ _ _ => True) (fun _ U o U' => ∃ v L, o = .returned v ∧ own_Q9 Z b nn ls kb h0 n0 v U'.heap L ∧ FrameEnd U o U' L ({ frames := 3, cells := 2, slots := 15, locals := 40 } : Room).cells ({ frames := 3, cells := 2, slots := 15, locals := 40 } : Room).slots) := by
  refine MetFree.of_bodySF (plainFor_of_name own_pn2) hisR ?_
  intro p e s m args below meth c s₁ Bd hml0 hP hK
  obtain ⟨rfl, hZ, hh⟩ := hP
  have hx := Bd.exec
  have hby := Bd.bytes
  have hml : c.maxLocals = 6 := hml0
  have hown : s.vm.findClass own_s2 = some m.cls := findClass_of_methodNamed Bd.named
  have hnm := (name_of_methodNamed Bd.named Bd.method).1
  have X0 : Stand p l e ({ frames := 3, cells := 2, slots := 15, locals := 40 } : Room) s m #[(.ref b), (.int 0), (.int nn)] below meth c s₁ [] 0 0 := Stand.of_body Bd
  have e0 : s₁.heap = h0 := by rw [← hh, Bd.state]; rfl
  have N0 := Fr.nil n0
  have pre_ : own_G p e below (s₁.setTop (entryFrame m #[(.ref b), (.int 0), (.int nn)] 6)) s₁ m 0 #[rv b, iv 0, iv nn, .unset, .unset, .unset] [] := fun t k => castTop (own_ef9 m b (0 : Int32) nn) k
  obtain ⟨s0, hs0⟩ : ∃ z, z = (s₁.setTop (entryFrame m #[(.ref b), (.int 0), (.int nn)] 6)) := ⟨_, rfl⟩
  have pre0 : own_G p e below s0 s₁ m 0 #[rv b, iv 0, iv nn, .unset, .unset, .unset] [] := hs0 ▸ pre_
  rw [← hs0]
  have S1 : own_G p e below s0 s₁ m 1 #[rv b, iv 0, iv nn, .unset, .unset, .unset] [(.int nn)] := fun t kt => by
    refine pre0 t ?_
    refine w_iloadN X0 hx hby d9_0 rfl ?_
    exact kt
  obtain ⟨T2, h2, k2, X2, e2, E2, A2, st2⟩ := newP X0 hx hZ (own_w hw 23 rfl) e0 (g := (mkF m 1 #[rv b, iv 0, iv nn, .unset, .unset, .unset] [(.int nn)])) rfl (hb hby d9_1) rfl (by rw [hn]; exact own_ge0 (by omega)) (cap := 5) (by rw [hn, own_cl (by omega)]; exact h5) (by decide) (by decide) (by decide)
  obtain ⟨b2, g2⟩ : ∃ z, z = h0.size := ⟨_, rfl⟩
  rw [← g2] at A2 st2
  have S3 : own_G p e below s0 T2 m 3 #[rv b, iv 0, iv nn, .unset, .unset, .unset] [(.ref b2)] := fun t kt => S1 t (st2 _ kt)
  have g_b2 : n0 ≤ b2 := Nat.le_trans Z0 (Nat.le_of_eq g2.symm)
  have sz_b2 : h0.size ≤ b2 := Nat.le_trans (Keep.refl h0 []).1 (Nat.le_of_eq g2.symm)
  have ne_b_b2 : b ≠ b2 := Nat.ne_of_lt (Nat.lt_of_lt_of_le V_b.lt (Nat.le_of_eq g2.symm))
  have F4 := V_b.ext E2
  have F5 := S_AD.ext E2
  have F6 := S_HI.ext E2
  have F7 := S_LO.ext E2
  have K8 : Keep h0 h2 [] := (Keep.refl h0 []).ext E2
  have V9 : Arv Z h2 b2 k2 .byte nn (List.replicate ls.length (.int 0)) (.int 0) := (Arv.new A2 (by rw [hn]; exact own_ge0 (by omega))).pad (pad_rep [] (.int 0) ls.length)
  have S12 : own_G p e below s0 T2 m 9 #[rv b, iv 0, iv nn, rv b2, .unset, .unset] [(.int nn), (.int 0), (.ref b2), (.int 0), (.ref b)] := fun t kt => by
    refine S3 t ?_
    refine w_astoreN X2 hx hby d9_3 rfl (l' := #[rv b, iv 0, iv nn, rv b2, .unset, .unset]) rfl ?_
    refine w_aloadN X2 hx hby d9_4 rfl rfl ?_
    refine w_iloadN X2 hx hby d9_5 rfl ?_
    refine w_aloadN X2 hx hby d9_6 rfl rfl ?_
    refine w_iconst X2 hx hby d9_7 ?_
    refine w_iloadN X2 hx hby d9_8 rfl ?_
    exact kt
  obtain ⟨_, _, ⟨T13, L13, k13, n13⟩, -, X13, ⟨Lc13, hQ13, l13, y13, z13⟩, st13⟩ := Jvm.LawKit.callS X2 hx (y := own_y9) hown (mvT hZ (own_w hw 49 rfl)) (mvT hZ (own_w hw 50 rfl)) (mvT hZ (own_w hw 47 rfl)) (mvT hZ (own_w hw 51 rfl)) (by decide) (backOf (W := 0) (own_rm10 l Z a0 hw [] (b) (b2) (nn) (ls) (kb) (k2) h2 n0 (Nat.le_trans Z0 K8.1) F4 V9 g_b2 ne_b_b2 hn h5 hne) hZ (own_w hw 51 rfl) (own_w hw 47 rfl) (by decide) (by decide)) (g := (mkF m 9 #[rv b, iv 0, iv nn, rv b2, .unset, .unset] [(.int nn), (.int 0), (.ref b2), (.int 0), (.ref b)])) rfl (by rw [hml]; rfl) (argsL := [(.ref b), (.int 0), (.ref b2), (.int 0), (.int nn)]) (rest := []) (lenOf own_pd6 rfl) rfl (by show 2 * 0 + _ ≤ _; exact Nat.le_of_eq rfl) (hb hby d9_9) (fun _ _ => ⟨rfl, e2, (by decide : 1 + 0 ≤ _), (by decide : 5 + 0 ≤ _)⟩)
  dsimp only [Pt.U, Pt.locs, Pt.cells, Pt.slots] at X13 l13 y13 z13 st13 hQ13
  subst l13 y13 z13
  obtain ⟨pp, rfl, Nq13, Kc10, Hd10⟩ := hQ13
  have N14 := Fr.app N0 Nq13
  have S15 : own_G p e below s0 T13 m 12 #[rv b, iv 0, iv nn, rv b2, .unset, .unset] [(.int pp)] := fun t kt => S12 t (st13 _ kt)
  have F16 := F4.keep Kc10 (ninS ne_b_b2 nin0)
  have F17 := own_StaK F5 Kc10 (allS (own_ArvS V9) all0)
  have F18 := own_StaK F6 Kc10 (allS (own_ArvS V9) all0)
  have F19 := own_StaK F7 Kc10 (allS (own_ArvS V9) all0)
  have K20 : Keep h0 T13.heap [] := K8.trans Kc10 (allS (Or.inr sz_b2) all0)
  have S21 : own_G p e below s0 T13 m 17 #[rv b, iv 0, iv nn, rv b2, iv pp, .unset] [(.int nn), (.int pp)] := fun t kt => by
    refine S15 t ?_
    refine w_istore X13 hx hby d9_12 (l' := #[rv b, iv 0, iv nn, rv b2, iv pp, .unset]) rfl ?_
    refine w_iload X13 hx hby d9_14 rfl ?_
    refine w_iloadN X13 hx hby d9_16 rfl ?_
    exact kt
  by_cases hc17 : pp = nn
  · skip
    have S22 : own_G p e below s0 T13 m 58 #[rv b, iv 0, iv nn, rv b2, iv pp, .unset] [(.ref b2)] := fun t kt => by
      refine S21 t ?_
      refine w_icmpYes X13 hx hby (pc' := 57) d9_17 (teq hc17).1 (by decide) ?_
      refine w_aloadN X13 hx hby d9_57 rfl rfl ?_
      exact kt
    obtain ⟨fs, hr, hrun, hended, hW, hsame⟩ := X13.leave (v := some (.ref b2)) (fun h => by rw [Bd.returns] at h; cases h)
    refine ⟨_, _, S22 _ ?_, hrun, hended, _, _, rfl, ?_, ⟨_, rfl⟩, hW, hsame.mono (by decide) (by decide)⟩
    · show Steps p.tables e below (T13.setTop (mkF m 58 #[rv b, iv 0, iv nn, rv b2, iv pp, .unset] [(.ref b2)])) _
      jvm_step X13.here [X13.here.top, hx, (hb hby d9_58), X13.method', Bd.returns, Value.isRef, FieldType.isReference]
      first | (intro acts; rw [hr _ acts rfl rfl rfl]) | rw [hr _ _ rfl rfl rfl]
      exact Steps.refl _
    · show own_Q9 Z b nn ls kb h0 n0 _ T13.heap _
      exact ⟨b2, k2, rfl, N14, g_b2, sz_b2, K20, own_C5_l Hd10 hn h5 hc17⟩
  · skip
    have S23 : own_G p e below s0 T13 m 23 #[rv b, iv 0, iv nn, rv b2, iv pp, .unset] [(.int nn), (.int 0), (.ref b)] := fun t kt => by
      refine S21 t ?_
      refine w_icmpNo X13 hx hby d9_17 (feq hc17).1 ?_
      refine w_aloadN X13 hx hby d9_20 rfl rfl ?_
      refine w_iloadN X13 hx hby d9_21 rfl ?_
      refine w_iloadN X13 hx hby d9_22 rfl ?_
      exact kt
    obtain ⟨i_, c_, hpi, hat, hgt⟩ := own_C5_r Hd10 hn hc17
    have hil := own_len_at hat
    obtain ⟨_, _, ⟨T26, L26, k26, n26⟩, -, X26, ⟨Lc26, hQ26, l26, y26, z26⟩, st26⟩ := Jvm.LawKit.callS X13 hx (y := own_y14) hown (mvT hZ (own_w hw 78 rfl)) (mvT hZ (own_w hw 79 rfl)) (mvT hZ (own_w hw 47 rfl)) (mvT hZ (own_w hw 80 rfl)) (by decide) (backOf (W := 0) (own_rm17 l Z a0 hw [] (b) (nn) (ls) (kb) T13.heap n0 (Nat.le_trans Z0 K20.1) F16 F17 F18 F19 hn h5 hne) hZ (own_w hw 80 rfl) (own_w hw 47 rfl) (by decide) (by decide)) (g := (mkF m 23 #[rv b, iv 0, iv nn, rv b2, iv pp, .unset] [(.int nn), (.int 0), (.ref b)])) rfl (by rw [hml]; rfl) (argsL := [(.ref b), (.int 0), (.int nn)]) (rest := []) (lenOf own_pd7 rfl) rfl (by show 2 * 0 + _ ≤ _; exact Nat.le_of_eq rfl) (hb hby d9_23) (fun _ _ => ⟨rfl, rfl, (by decide : 1 + 1 ≤ _), (by decide : 5 + 10 ≤ _)⟩)
    dsimp only [Pt.U, Pt.locs, Pt.cells, Pt.slots] at X26 l26 y26 z26 st26 hQ26
    subst l26 y26 z26
    obtain ⟨tb24, kt24, rfl, Nq26, gt24, sz24, Kc24, Vc24⟩ := hQ26
    have N27 := Fr.app N14 Nq26
    have S28 : own_G p e below s0 T26 m 26 #[rv b, iv 0, iv nn, rv b2, iv pp, .unset] [(.ref tb24)] := fun t kt => S23 t (st26 _ kt)
    have F29 := F16.keep Kc24 nin0
    have F30 := own_StaK F17 Kc24 all0
    have F31 := own_StaK F18 Kc24 all0
    have F32 := own_StaK F19 Kc24 all0
    have K33 : Keep h0 T26.heap [] := K20.trans Kc24 all0
    have ne_b_tb24 : b ≠ tb24 := Nat.ne_of_lt (Nat.lt_of_lt_of_le F16.lt sz24)
    have S35 : own_G p e below s0 T26 m 32 #[rv b, iv 0, iv nn, rv b2, iv pp, rv tb24] [(.int pp), (.ref tb24)] := fun t kt => by
      refine S28 t ?_
      refine w_astore X26 hx hby d9_26 rfl (l' := #[rv b, iv 0, iv nn, rv b2, iv pp, rv tb24]) rfl ?_
      refine w_aload X26 hx hby d9_28 rfl rfl ?_
      refine w_iload X26 hx hby d9_30 rfl ?_
      exact kt
    obtain ⟨_, _, ⟨T36, L36, k36, n36⟩, -, X36, ⟨Lc36, hQ36, l36, y36, z36⟩, st36⟩ := Jvm.LawKit.callS X26 hx (y := own_y17) hown (mvT hZ (own_w hw 94 rfl)) (mvT hZ (own_w hw 95 rfl)) (mvT hZ (own_w hw 47 rfl)) (mvT hZ (own_w hw 96 rfl)) (by decide) (backOf (W := 0) (own_rm21 l Z a0 hw [] (tb24) (pp) (kt24) ((Int32.ofNat (2 * ls.length))) ((own_uts ls)) (i_) (c_) T26.heap n0 (Nat.le_trans Z0 K33.1) Vc24 F30 F31 F32 (hbs _ (own_mem_at hat)) hpi (by omega) (own_ltN (by omega) (by omega)) (own_uts_at hat).1 (own_uts_at hat).2) hZ (own_w hw 96 rfl) (own_w hw 47 rfl) (by decide) (by decide)) (g := (mkF m 32 #[rv b, iv 0, iv nn, rv b2, iv pp, rv tb24] [(.int pp), (.ref tb24)])) rfl (by rw [hml]; rfl) (argsL := [(.ref tb24), (.int pp)]) (rest := []) (lenOf own_pd8 rfl) rfl (by show 2 * 0 + _ ≤ _; exact Nat.le_of_eq rfl) (hb hby d9_32) (fun _ _ => ⟨rfl, rfl, (by decide : 2 + 0 ≤ _), (by decide : 15 + 0 ≤ _)⟩)
    dsimp only [Pt.U, Pt.locs, Pt.cells, Pt.slots] at X36 l36 y36 z36 st36 hQ36
    subst l36 y36 z36
    obtain ⟨rfl, rfl, eq34⟩ := hQ36
    try rw [List.append_nil] at X36
    have S37 : own_G p e below s0 T36 m 35 #[rv b, iv 0, iv nn, rv b2, iv pp, rv tb24] [(.int c_)] := fun t kt => S35 t (st36 _ kt)
    have S38 : own_G p e below s0 T36 m 38 #[rv b, iv 0, iv nn, rv b2, iv pp, rv tb24] [(.int 255), (.int c_)] := fun t kt => by
      refine S37 t ?_
      refine w_sipush X36 hx hby d9_35 ?_
      exact kt
    have hc38_39 : (255 : Int32) < c_ := hgt
    have S40 : own_G p e below s0 T36 m 56 #[rv b, iv 0, iv nn, rv b2, iv pp, rv tb24] [(.ref tb24)] := fun t kt => by
      refine S38 t ?_
      refine w_icmpYes X36 hx hby (pc' := 54) d9_38 (tlt hc38_39).2.2.1 (by decide) ?_
      refine w_aload X36 hx hby d9_54 rfl rfl ?_
      exact kt
    obtain ⟨fs, hr, hrun, hended, hW, hsame⟩ := X36.leave (v := some (.ref tb24)) (fun h => by rw [Bd.returns] at h; cases h)
    refine ⟨_, _, S40 _ ?_, hrun, hended, _, _, rfl, ?_, ⟨_, rfl⟩, hW, hsame.mono (by decide) (by decide)⟩
    · show Steps p.tables e below (T36.setTop (mkF m 56 #[rv b, iv 0, iv nn, rv b2, iv pp, rv tb24] [(.ref tb24)])) _
      jvm_step X36.here [X36.here.top, hx, (hb hby d9_56), X36.method', Bd.returns, Value.isRef, FieldType.isReference]
      first | (intro acts; rw [hr _ acts rfl rfl rfl]) | rw [hr _ _ rfl rfl rfl]
      exact Steps.refl _
    · show own_Q9 Z b nn ls kb h0 n0 _ T36.heap _
      rw [(eq34.trans rfl)]
      exact ⟨tb24, kt24, rfl, N27, gt24, (Nat.le_trans K20.1 sz24), K33, Or.inr ⟨⟨c_, own_mem_at hat, hgt⟩, Vc24⟩⟩
theorem d11_0 : decode jdk_52_method_15_code 0 = .ok (.iload_n 1, 1) := by decide +kernel
theorem d11_1 : decode jdk_52_method_15_code 1 = .ok (.aload_n 0, 1) := by decide +kernel
theorem d11_2 : decode jdk_52_method_15_code 2 = .ok (.arraylength, 1) := by decide +kernel
theorem d11_3 : decode jdk_52_method_15_code 3 = .ok (.isub, 1) := by decide +kernel
theorem d11_4 : decode jdk_52_method_15_code 4 = .ok (.bipush 31, 2) := by decide +kernel
theorem d11_6 : decode jdk_52_method_15_code 6 = .ok (.iushr, 1) := by decide +kernel
theorem d11_7 : decode jdk_52_method_15_code 7 = .ok (.i2b, 1) := by decide +kernel
theorem d11_8 : decode jdk_52_method_15_code 8 = .ok (.ireturn, 1) := by decide +kernel
theorem own_ef11q0 (m : MethodId) (x0 : Addr) (x1 : Int32) : entryFrame m #[(.ref x0), (.int x1)] 2 = mkF m 0 #[rv x0, iv x1] [] := by first | (simp [entryFrame, mkF, argsToLocals, Value.category]; done) | rfl
def own_Q11q0 (Z : State) (tb : Addr) (nn : Int32) (kt : ClassId) (vs : List Value) (h0 : Heap) (n0 : Nat) (v : Option Value) (h : Heap) (L : List Loc) : Prop := v = some (.int 0) ∧ L = [] ∧ h = h0
set_option maxHeartbeats 40000000 in
theorem own_rm11q0 (l : Launch) (Z : State) (a0 : Array Value) (hw : ∀ d ∈ tables_1, d.before a0 Z = true) (ws : List Jvm.Cond) (tb : Addr) (nn : Int32) (kt : ClassId) (vs : List Value) (h0 : Heap) (n0 : Nat) (Z0 : n0 ≤ h0.size) (V_t : Arv Z h0 tb kt .byte nn vs (.int 0)) :
    MetFree l own_y8 (head1 (Jvm.Cond.code own_y8 jdk_52_method_15_code 2 (some .byte) :: ws) ({ frames := 0, cells := 0, slots := 0, locals := 0 } : Room)) (fun argv U => argv = #[(.ref tb), (.int nn)] ∧ Z.Warmed39 U.vm ∧ U.heap = h0) (fun _ _ _ _ _ => True) (fun _ U o U' => ∃ v L, o = .returned v ∧ own_Q11q0 Z tb nn kt vs h0 n0 v U'.heap L ∧ FrameEnd U o U' L ({ frames := 0, cells := 0, slots := 0, locals := 0 } : Room).cells ({ frames := 0, cells := 0, slots := 0, locals := 0 } : Room).slots) := by
  refine MetFree.of_bodySF (plainFor_of_name own_pn2) hisR ?_
  intro p e s m args below meth c s₁ Bd hml0 hP hK
  obtain ⟨rfl, hZ, hh⟩ := hP
  have hx := Bd.exec
  have hby := Bd.bytes
  have hml : c.maxLocals = 2 := hml0
  have hown : s.vm.findClass own_s2 = some m.cls := findClass_of_methodNamed Bd.named
  have hnm := (name_of_methodNamed Bd.named Bd.method).1
  have X0 : Stand p l e ({ frames := 0, cells := 0, slots := 0, locals := 0 } : Room) s m #[(.ref tb), (.int nn)] below meth c s₁ [] 0 0 := Stand.of_body Bd
  have e0 : s₁.heap = h0 := by rw [← hh, Bd.state]; rfl
  have N0 := Fr.nil n0
  have pre_ : own_G p e below (s₁.setTop (entryFrame m #[(.ref tb), (.int nn)] 2)) s₁ m 0 #[rv tb, iv nn] [] := fun t k => castTop (own_ef11q0 m tb nn) k
  obtain ⟨s0, hs0⟩ : ∃ z, z = (s₁.setTop (entryFrame m #[(.ref tb), (.int nn)] 2)) := ⟨_, rfl⟩
  have pre0 : own_G p e below s0 s₁ m 0 #[rv tb, iv nn] [] := hs0 ▸ pre_
  rw [← hs0]
  have S1 : own_G p e below s0 s₁ m 2 #[rv tb, iv nn] [(.ref tb), (.int nn)] := fun t kt => by
    refine pre0 t ?_
    refine w_iloadN X0 hx hby d11_0 rfl ?_
    refine w_aloadN X0 hx hby d11_1 rfl rfl ?_
    exact kt
  obtain ⟨cl2, Ar2, -, Sz2, Nn2, -, -⟩ := id V_t
  have S3 : own_G p e below s0 s₁ m 8 #[rv tb, iv nn] [(.int ((((nn - nn).toUInt32 >>> ((31 : Int32) &&& 31).toUInt32).toInt32).toInt8.toInt32))] := fun t kt => by
    refine S1 t ?_
    refine X0.arraylength hx (by rw [e0]; exact Ar2.1) (State.isArrayOf_alike hZ.alike Ar2.2.1) (g := (mkF m 2 #[rv tb, iv nn] [(.ref tb), (.int nn)])) rfl rfl (hb hby d11_2) _ ?_
    rw [len_of Sz2 Nn2]
    refine w_isub X0 hx hby d11_3 ?_
    refine w_bipush X0 hx hby d11_4 ?_
    refine XS.iushr X0.here hx rfl (hb hby d11_6) rfl ?_
    refine XS.i2b X0.here hx rfl (hb hby d11_7) rfl ?_
    exact kt
  obtain ⟨fs, hr, hrun, hended, hW, hsame⟩ := X0.leave (v := some (.int (nar .byte ((((nn - nn).toUInt32 >>> ((31 : Int32) &&& 31).toUInt32).toInt32).toInt8.toInt32)))) (fun h => by rw [Bd.returns] at h; cases h)
  refine ⟨_, _, S3 _ ?_, hrun, hended, _, _, rfl, ?_, ⟨_, rfl⟩, hW, hsame.mono (by decide) (by decide)⟩
  · show Steps p.tables e below (s₁.setTop (mkF m 8 #[rv tb, iv nn] [(.int ((((nn - nn).toUInt32 >>> ((31 : Int32) &&& 31).toUInt32).toInt32).toInt8.toInt32))])) _
    exact retN X0 hx (t := .byte) Bd.returns (by simp) (hb hby d11_8) hr
  · show own_Q11q0 Z tb nn kt vs h0 n0 _ s₁.heap _
    rw [e0]
    exact ⟨(congrArg (fun z : Int32 => some (Value.int z)) (own_cf0 nn)), rfl, rfl⟩
theorem own_ef11q1 (m : MethodId) (x0 : Addr) (x1 : Int32) : entryFrame m #[(.ref x0), (.int x1)] 2 = mkF m 0 #[rv x0, iv x1] [] := by first | (simp [entryFrame, mkF, argsToLocals, Value.category]; done) | rfl
def own_Q11q1 (Z : State) (tb : Addr) (nn : Int32) (kt : ClassId) (vs : List Value) (k_ : Nat) (h0 : Heap) (n0 : Nat) (v : Option Value) (h : Heap) (L : List Loc) : Prop := v = some (.int 1) ∧ L = [] ∧ h = h0
set_option maxHeartbeats 40000000 in
theorem own_rm11q1 (l : Launch) (Z : State) (a0 : Array Value) (hw : ∀ d ∈ tables_1, d.before a0 Z = true) (ws : List Jvm.Cond) (tb : Addr) (nn : Int32) (kt : ClassId) (vs : List Value) (k_ : Nat) (h0 : Heap) (n0 : Nat) (Z0 : n0 ≤ h0.size) (V_t : Arv Z h0 tb kt .byte (Int32.ofNat (2 * k_)) vs (.int 0)) (hn : nn = Int32.ofNat k_) (h0_ : 0 < k_) (h5 : k_ ≤ 5) :
    MetFree l own_y8 (head1 (Jvm.Cond.code own_y8 jdk_52_method_15_code 2 (some .byte) :: ws) ({ frames := 0, cells := 0, slots := 0, locals := 0 } : Room)) (fun argv U => argv = #[(.ref tb), (.int nn)] ∧ Z.Warmed39 U.vm ∧ U.heap = h0) (fun _ _ _ _ _ => True) (fun _ U o U' => ∃ v L, o = .returned v ∧ own_Q11q1 Z tb nn kt vs k_ h0 n0 v U'.heap L ∧ FrameEnd U o U' L ({ frames := 0, cells := 0, slots := 0, locals := 0 } : Room).cells ({ frames := 0, cells := 0, slots := 0, locals := 0 } : Room).slots) := by
  refine MetFree.of_bodySF (plainFor_of_name own_pn2) hisR ?_
  intro p e s m args below meth c s₁ Bd hml0 hP hK
  obtain ⟨rfl, hZ, hh⟩ := hP
  have hx := Bd.exec
  have hby := Bd.bytes
  have hml : c.maxLocals = 2 := hml0
  have hown : s.vm.findClass own_s2 = some m.cls := findClass_of_methodNamed Bd.named
  have hnm := (name_of_methodNamed Bd.named Bd.method).1
  have X0 : Stand p l e ({ frames := 0, cells := 0, slots := 0, locals := 0 } : Room) s m #[(.ref tb), (.int nn)] below meth c s₁ [] 0 0 := Stand.of_body Bd
  have e0 : s₁.heap = h0 := by rw [← hh, Bd.state]; rfl
  have N0 := Fr.nil n0
  have pre_ : own_G p e below (s₁.setTop (entryFrame m #[(.ref tb), (.int nn)] 2)) s₁ m 0 #[rv tb, iv nn] [] := fun t k => castTop (own_ef11q1 m tb nn) k
  obtain ⟨s0, hs0⟩ : ∃ z, z = (s₁.setTop (entryFrame m #[(.ref tb), (.int nn)] 2)) := ⟨_, rfl⟩
  have pre0 : own_G p e below s0 s₁ m 0 #[rv tb, iv nn] [] := hs0 ▸ pre_
  rw [← hs0]
  have S1 : own_G p e below s0 s₁ m 2 #[rv tb, iv nn] [(.ref tb), (.int nn)] := fun t kt => by
    refine pre0 t ?_
    refine w_iloadN X0 hx hby d11_0 rfl ?_
    refine w_aloadN X0 hx hby d11_1 rfl rfl ?_
    exact kt
  obtain ⟨cl2, Ar2, -, Sz2, Nn2, -, -⟩ := id V_t
  have S3 : own_G p e below s0 s₁ m 8 #[rv tb, iv nn] [(.int ((((nn - (Int32.ofNat (2 * k_))).toUInt32 >>> ((31 : Int32) &&& 31).toUInt32).toInt32).toInt8.toInt32))] := fun t kt => by
    refine S1 t ?_
    refine X0.arraylength hx (by rw [e0]; exact Ar2.1) (State.isArrayOf_alike hZ.alike Ar2.2.1) (g := (mkF m 2 #[rv tb, iv nn] [(.ref tb), (.int nn)])) rfl rfl (hb hby d11_2) _ ?_
    rw [len_of Sz2 Nn2]
    refine w_isub X0 hx hby d11_3 ?_
    refine w_bipush X0 hx hby d11_4 ?_
    refine XS.iushr X0.here hx rfl (hb hby d11_6) rfl ?_
    refine XS.i2b X0.here hx rfl (hb hby d11_7) rfl ?_
    exact kt
  obtain ⟨fs, hr, hrun, hended, hW, hsame⟩ := X0.leave (v := some (.int (nar .byte ((((nn - (Int32.ofNat (2 * k_))).toUInt32 >>> ((31 : Int32) &&& 31).toUInt32).toInt32).toInt8.toInt32)))) (fun h => by rw [Bd.returns] at h; cases h)
  refine ⟨_, _, S3 _ ?_, hrun, hended, _, _, rfl, ?_, ⟨_, rfl⟩, hW, hsame.mono (by decide) (by decide)⟩
  · show Steps p.tables e below (s₁.setTop (mkF m 8 #[rv tb, iv nn] [(.int ((((nn - (Int32.ofNat (2 * k_))).toUInt32 >>> ((31 : Int32) &&& 31).toUInt32).toInt32).toInt8.toInt32))])) _
    exact retN X0 hx (t := .byte) Bd.returns (by simp) (hb hby d11_8) hr
  · show own_Q11q1 Z tb nn kt vs k_ h0 n0 _ s₁.heap _
    rw [e0]
    exact ⟨by rw [hn]; exact (congrArg (fun z : Int32 => some (Value.int z)) (own_cf1 h0_ h5)), rfl, rfl⟩
theorem own_pd9 : parseMethodDescriptor "([BI)B" = some ⟨[(.array .byte), .int], some .byte⟩ := by decide +kernel
theorem d4_0 : decode jdk_42_method_149_code 0 = .ok (.aload_n 0, 1) := by decide +kernel
theorem d4_1 : decode jdk_42_method_149_code 1 = .ok (.invokespecial 1, 3) := by decide +kernel
theorem d4_4 : decode jdk_42_method_149_code 4 = .ok (.iload_n 3, 1) := by decide +kernel
theorem d4_5 : decode jdk_42_method_149_code 5 = .ok (.ifCond .ne 22, 3) := by decide +kernel
theorem d4_27 : decode jdk_42_method_149_code 27 = .ok (.getstatic 38, 3) := by decide +kernel
theorem d4_30 : decode jdk_42_method_149_code 30 = .ok (.ifCond .eq 28, 3) := by decide +kernel
theorem d4_33 : decode jdk_42_method_149_code 33 = .ok (.aload_n 1, 1) := by decide +kernel
theorem d4_34 : decode jdk_42_method_149_code 34 = .ok (.iload_n 2, 1) := by decide +kernel
theorem d4_35 : decode jdk_42_method_149_code 35 = .ok (.iload_n 3, 1) := by decide +kernel
theorem d4_36 : decode jdk_42_method_149_code 36 = .ok (.invokestatic 177, 3) := by decide +kernel
theorem d4_39 : decode jdk_42_method_149_code 39 = .ok (.astore 5, 2) := by decide +kernel
theorem d4_41 : decode jdk_42_method_149_code 41 = .ok (.aload_n 0, 1) := by decide +kernel
theorem d4_42 : decode jdk_42_method_149_code 42 = .ok (.aload 5, 2) := by decide +kernel
theorem d4_44 : decode jdk_42_method_149_code 44 = .ok (.iload_n 3, 1) := by decide +kernel
theorem d4_45 : decode jdk_42_method_149_code 45 = .ok (.invokestatic 47, 3) := by decide +kernel
theorem d4_48 : decode jdk_42_method_149_code 48 = .ok (.putfield 15, 3) := by decide +kernel
theorem d4_51 : decode jdk_42_method_149_code 51 = .ok (.aload_n 0, 1) := by decide +kernel
theorem d4_52 : decode jdk_42_method_149_code 52 = .ok (.aload 5, 2) := by decide +kernel
theorem d4_54 : decode jdk_42_method_149_code 54 = .ok (.putfield 9, 3) := by decide +kernel
theorem d4_57 : decode jdk_42_method_149_code 57 = .ok (.return_, 1) := by decide +kernel
theorem own_ef4 (m : MethodId) (x0 : Addr) (x1 : Addr) (x2 : Int32) (x3 : Int32) : entryFrame m #[(.ref x0), (.ref x1), (.int x2), (.int x3), .null] 6 = mkF m 0 #[rv x0, rv x1, iv x2, iv x3, .val .null, .unset] [] := by first | (simp [entryFrame, mkF, argsToLocals, Value.category]; done) | rfl
def own_Q4 (Z : State) (a : Addr) (b : Addr) (nn : Int32) (ls : List Int32) (kb : ClassId) (cs : Int32) (uv : Value) (uc : Value) (h0 : Heap) (n0 : Nat) (v : Option Value) (h : Heap) (L : List Loc) : Prop := v = none ∧ Fr n0 L ∧ Keep h0 h [a] ∧ own_Str Z h a ls
set_option maxHeartbeats 40000000 in
theorem own_rm4 (l : Launch) (Z : State) (a0 : Array Value) (hw : ∀ d ∈ tables_1, d.before a0 Z = true) (ws : List Jvm.Cond) (a : Addr) (b : Addr) (nn : Int32) (ls : List Int32) (kb : ClassId) (cs : Int32) (uv : Value) (uc : Value) (h0 : Heap) (n0 : Nat) (Z0 : n0 ≤ h0.size) (E_a : Exa Z h0 a "java/lang/String") (g_a : n0 ≤ a) (F_value : Fld Z h0 a "java/lang/String" "value" "[B" uv) (F_coder : Fld Z h0 a "java/lang/String" "coder" "B" uc) (S_CS : Sta Z h0 "java/lang/String" "COMPACT_STRINGS" "Z" (.int cs)) (hcs : ¬ cs = (0 : Int32)) (V_b : Arv Z h0 b kb .char nn (ls.map Value.int) (.int 0)) (S_AD : Sta Z h0 own_s2 own_s3 "Z" (.int 1)) (S_HI : Sta Z h0 own_s2 "HI_BYTE_SHIFT" "I" (.int 0)) (S_LO : Sta Z h0 own_s2 "LO_BYTE_SHIFT" "I" (.int 8)) (hbs : ∀ c ∈ ls, own_ch c) (hn : nn = Int32.ofNat ls.length) (h5 : ls.length ≤ 5) (hne : ls ≠ []) :
    MetFree l own_y7 (head1 (Jvm.Cond.code own_y7 jdk_42_method_149_code 6 none :: ws) ({ frames := 4, cells := 2, slots := 15, locals := 57 } : Room)) (fun argv U => argv = #[(.ref a), (.ref b), (.int 0), (.int nn), .null] ∧ Z.Warmed39 U.vm ∧ U.heap = h0) (fun _ _ _ _ _ => True) (fun _ U o U' => ∃ v L, o = .returned v ∧ own_Q4 Z a b nn ls kb cs uv uc h0 n0 v U'.heap L ∧ FrameEnd U o U' L ({ frames := 4, cells := 2, slots := 15, locals := 57 } : Room).cells ({ frames := 4, cells := 2, slots := 15, locals := 57 } : Room).slots) := by
  refine MetFree.of_bodySF (plainFor_of_name own_pn1) hisR ?_
  intro p e s m args below meth c s₁ Bd hml0 hP hK
  obtain ⟨rfl, hZ, hh⟩ := hP
  have hx := Bd.exec
  have hby := Bd.bytes
  have hml : c.maxLocals = 6 := hml0
  have hown : s.vm.findClass "java/lang/String" = some m.cls := findClass_of_methodNamed Bd.named
  have hnm := (name_of_methodNamed Bd.named Bd.method).1
  have X0 : Stand p l e ({ frames := 4, cells := 2, slots := 15, locals := 57 } : Room) s m #[(.ref a), (.ref b), (.int 0), (.int nn), .null] below meth c s₁ [] 0 0 := Stand.of_body Bd
  have e0 : s₁.heap = h0 := by rw [← hh, Bd.state]; rfl
  have N0 := Fr.nil n0
  have pre_ : own_G p e below (s₁.setTop (entryFrame m #[(.ref a), (.ref b), (.int 0), (.int nn), .null] 6)) s₁ m 0 #[rv a, rv b, iv 0, iv nn, .val .null, .unset] [] := fun t k => castTop (own_ef4 m a b (0 : Int32) nn) k
  obtain ⟨s0, hs0⟩ : ∃ z, z = (s₁.setTop (entryFrame m #[(.ref a), (.ref b), (.int 0), (.int nn), .null] 6)) := ⟨_, rfl⟩
  have pre0 : own_G p e below s0 s₁ m 0 #[rv a, rv b, iv 0, iv nn, .val .null, .unset] [] := hs0 ▸ pre_
  rw [← hs0]
  have S1 : own_G p e below s0 s₁ m 1 #[rv a, rv b, iv 0, iv nn, .val .null, .unset] [(.ref a)] := fun t kt => by
    refine pre0 t ?_
    refine w_aloadN X0 hx hby d4_0 rfl rfl ?_
    exact kt
  obtain ⟨T2, X2, e2, st2⟩ := initO X0 hx hZ hown (own_w hw 19 rfl) (own_w hw 20 rfl) (own_w hw 21 rfl) e0 (g := (mkF m 1 #[rv a, rv b, iv 0, iv nn, .val .null, .unset] [(.ref a)])) rfl (by rw [hml]; rfl) rfl (hb hby d4_1) (by decide) (W := 0) (by show 2 * 0 + _ ≤ _; exact Nat.le_of_eq rfl) (by decide)
  have S3 : own_G p e below s0 T2 m 4 #[rv a, rv b, iv 0, iv nn, .val .null, .unset] [] := fun t kt => S1 t (st2 _ kt)
  have S4 : own_G p e below s0 T2 m 5 #[rv a, rv b, iv 0, iv nn, .val .null, .unset] [(.int nn)] := fun t kt => by
    refine S3 t ?_
    refine w_iloadN X2 hx hby d4_4 rfl ?_
    exact kt
  have hc5_5 : ¬ (nn = (0 : Int32)) := own_nz hn h5 hne
  have S6 : own_G p e below s0 T2 m 27 #[rv a, rv b, iv 0, iv nn, .val .null, .unset] [] := fun t kt => by
    refine S4 t ?_
    refine w_ifYes X2 hx hby (pc' := 27) d4_5 ((if0 _ _).trans (feq hc5_5).2) (by decide) ?_
    exact kt
  obtain ⟨T7, X7, e7, st7⟩ := getS2 X2 hx hZ hown (host := "") (Or.inl (own_w hw 44 rfl)) Via.refl e2 S_CS (g := (mkF m 27 #[rv a, rv b, iv 0, iv nn, .val .null, .unset] [])) rfl (hb hby d4_27)
  have S8 : own_G p e below s0 T7 m 30 #[rv a, rv b, iv 0, iv nn, .val .null, .unset] [(.int cs)] := fun t kt => S6 t (st7 _ kt)
  have hc30_9 : ¬ (cs = (0 : Int32)) := hcs
  have S12 : own_G p e below s0 T7 m 36 #[rv a, rv b, iv 0, iv nn, .val .null, .unset] [(.int nn), (.int 0), (.ref b)] := fun t kt => by
    refine S8 t ?_
    refine w_ifNo X7 hx hby d4_30 ((if0 _ _).trans (feq hc30_9).1) ?_
    refine w_aloadN X7 hx hby d4_33 rfl rfl ?_
    refine w_iloadN X7 hx hby d4_34 rfl ?_
    refine w_iloadN X7 hx hby d4_35 rfl ?_
    exact kt
  obtain ⟨_, _, ⟨T13, L13, k13, n13⟩, -, X13, ⟨Lc13, hQ13, l13, y13, z13⟩, st13⟩ := Jvm.LawKit.callS X7 hx (y := own_y12) hown (mvT hZ (own_w hw 45 rfl)) (mvT hZ (own_w hw 46 rfl)) (mvT hZ (own_w hw 47 rfl)) (mvT hZ (own_w hw 48 rfl)) (by decide) (backOf (W := 0) (own_rm9 l Z a0 hw [] (b) (nn) (ls) (kb) h0 n0 Z0 V_b S_AD S_HI S_LO hbs hn h5 hne) hZ (own_w hw 48 rfl) (own_w hw 47 rfl) (by decide) (by decide)) (g := (mkF m 36 #[rv a, rv b, iv 0, iv nn, .val .null, .unset] [(.int nn), (.int 0), (.ref b)])) rfl (by rw [hml]; rfl) (argsL := [(.ref b), (.int 0), (.int nn)]) (rest := []) (lenOf own_pd7 rfl) rfl (by show 2 * 0 + _ ≤ _; exact Nat.le_of_eq rfl) (hb hby d4_36) (fun _ _ => ⟨rfl, e7, (by decide : 0 + 2 ≤ _), (by decide : 0 + 15 ≤ _)⟩)
  dsimp only [Pt.U, Pt.locs, Pt.cells, Pt.slots] at X13 l13 y13 z13 st13 hQ13
  subst l13 y13 z13
  obtain ⟨tb10, kt10, rfl, Nq13, gt10, sz10, Kc10, Vc10⟩ := hQ13
  have N14 := Fr.app N0 Nq13
  have S15 : own_G p e below s0 T13 m 39 #[rv a, rv b, iv 0, iv nn, .val .null, .unset] [(.ref tb10)] := fun t kt => S12 t (st13 _ kt)
  have F16 := E_a.keep Kc10
  have F17 := F_value.keep Kc10 nin0
  have F18 := F_coder.keep Kc10 nin0
  have F19 := own_StaK S_CS Kc10 all0
  have F20 := V_b.keep Kc10 nin0
  have F21 := own_StaK S_AD Kc10 all0
  have F22 := own_StaK S_HI Kc10 all0
  have F23 := own_StaK S_LO Kc10 all0
  have K24 : Keep h0 T13.heap [a] := (Keep.refl h0 [a]).trans Kc10 all0
  have ne_a_tb10 : a ≠ tb10 := Nat.ne_of_lt (Nat.lt_of_lt_of_le E_a.lt sz10)
  have ne_b_tb10 : b ≠ tb10 := Nat.ne_of_lt (Nat.lt_of_lt_of_le V_b.lt sz10)
  by_cases hg : ∃ c ∈ ls, (255 : Int32) < c
  · skip
    have VB := own_By_u Vc10 hg
    have S26 : own_G p e below s0 T13 m 45 #[rv a, rv b, iv 0, iv nn, .val .null, rv tb10] [(.int nn), (.ref tb10), (.ref a)] := fun t kt => by
      refine S15 t ?_
      refine w_astore X13 hx hby d4_39 rfl (l' := #[rv a, rv b, iv 0, iv nn, .val .null, rv tb10]) rfl ?_
      refine w_aloadN X13 hx hby d4_41 rfl rfl ?_
      refine w_aload X13 hx hby d4_42 rfl rfl ?_
      refine w_iloadN X13 hx hby d4_44 rfl ?_
      exact kt
    obtain ⟨_, _, ⟨T27, L27, k27, n27⟩, -, X27, ⟨Lc27, hQ27, l27, y27, z27⟩, st27⟩ := Jvm.LawKit.callS X13 hx (y := own_y8) hown (mvT hZ (own_w hw 52 rfl)) (mvT hZ (own_w hw 53 rfl)) (mvT hZ (own_w hw 47 rfl)) (mvT hZ (own_w hw 54 rfl)) (by decide) (backOf (W := 1) (own_rm11q1 l Z a0 hw [] (tb10) (nn) (kt10) ((own_uts ls)) (ls.length) T13.heap n0 (Nat.le_trans Z0 K24.1) VB hn (List.length_pos_iff.mpr hne) h5) hZ (own_w hw 54 rfl) (own_w hw 47 rfl) (by decide) (by decide)) (g := (mkF m 45 #[rv a, rv b, iv 0, iv nn, .val .null, rv tb10] [(.int nn), (.ref tb10), (.ref a)])) rfl (by rw [hml]; rfl) (argsL := [(.ref tb10), (.int nn)]) (rest := [(.ref a)]) (lenOf own_pd9 rfl) rfl (by show 2 * 0 + _ ≤ _; exact Nat.le_of_eq rfl) (hb hby d4_45) (fun _ _ => ⟨rfl, rfl, (by decide : 2 + 0 ≤ _), (by decide : 15 + 0 ≤ _)⟩)
    dsimp only [Pt.U, Pt.locs, Pt.cells, Pt.slots] at X27 l27 y27 z27 st27 hQ27
    subst l27 y27 z27
    obtain ⟨rfl, rfl, eq25⟩ := hQ27
    try rw [List.append_nil] at X27
    have S28 : own_G p e below s0 T27 m 48 #[rv a, rv b, iv 0, iv nn, .val .null, rv tb10] [(.int 1), (.ref a)] := fun t kt => S26 t (st27 _ kt)
    obtain ⟨T29, h29, X29, e29, W29, st29⟩ := putFN X27 hx hZ hown (own_w hw 29 rfl) Via.refl (eq25.trans rfl) F18 F16 (Or.inr ⟨(own_w hw 25 rfl), rfl, hnm⟩) (own_w hw 10 rfl) (ty := .byte) (v' := (.int 1)) (by decide) rfl (by decide) (g := (mkF m 48 #[rv a, rv b, iv 0, iv nn, .val .null, rv tb10] [(.int 1), (.ref a)])) rfl rfl (hb hby d4_48)
    have S30 : own_G p e below s0 T29 m 51 #[rv a, rv b, iv 0, iv nn, .val .null, rv tb10] [] := fun t kt => S28 t (st29 _ kt)
    have F31 := F16.wr W29
    have F32 := F17.other W29 (Or.inr (slot_ne (Or.inr (own_w hw 24 rfl)) (Or.inr (own_w hw 25 rfl)) (by decide) (t := (.array .byte)) (t' := .byte) (by decide) (by decide)))
    have F33 := F18.same W29
    have F34 := F19.wr W29
    have F35 := F20.other W29 (Ne.symm (Exa.neArv F16 F20 (own_w hw 10 rfl)))
    have F36 := F21.wr W29
    have F37 := F22.wr W29
    have F38 := F23.wr W29
    have F39 := VB.other W29 (Ne.symm ne_a_tb10)
    have N40 := Fr.snoc X29 N14 g_a
    have K41 : Keep h0 h29 [a] := K24.wr W29 (Or.inl (List.mem_of_getElem? (i := 0) rfl))
    have S42 : own_G p e below s0 T29 m 54 #[rv a, rv b, iv 0, iv nn, .val .null, rv tb10] [(.ref tb10), (.ref a)] := fun t kt => by
      refine S30 t ?_
      refine w_aloadN X29 hx hby d4_51 rfl rfl ?_
      refine w_aload X29 hx hby d4_52 rfl rfl ?_
      exact kt
    obtain ⟨T43, h43, X43, e43, W43, st43⟩ := putF X29 hx hZ hown (host := "") (Or.inl (own_w hw 28 rfl)) Via.refl e29 F32 F31 (Or.inr ⟨(own_w hw 24 rfl), rfl, hnm⟩) (own_w hw 10 rfl) (ty := (.array .byte)) (by decide) rfl rfl (g := (mkF m 54 #[rv a, rv b, iv 0, iv nn, .val .null, rv tb10] [(.ref tb10), (.ref a)])) rfl rfl (hb hby d4_54)
    have S44 : own_G p e below s0 T43 m 57 #[rv a, rv b, iv 0, iv nn, .val .null, rv tb10] [] := fun t kt => S42 t (st43 _ kt)
    have F45 := F31.wr W43
    have F46 := F32.same W43
    have F47 := F33.other W43 (Or.inr (slot_ne (Or.inr (own_w hw 25 rfl)) (Or.inr (own_w hw 24 rfl)) (by decide) (t := .byte) (t' := (.array .byte)) (by decide) (by decide)))
    have F48 := F34.wr W43
    have F49 := F35.other W43 (Ne.symm (Exa.neArv F31 F35 (own_w hw 10 rfl)))
    have F50 := F36.wr W43
    have F51 := F37.wr W43
    have F52 := F38.wr W43
    have F53 := F39.other W43 (Ne.symm ne_a_tb10)
    have N54 := Fr.snoc X43 N40 g_a
    have K55 : Keep h0 h43 [a] := K41.wr W43 (Or.inl (List.mem_of_getElem? (i := 0) rfl))
    obtain ⟨fs, hr, hrun, hended, hW, hsame⟩ := X43.leave (v := none) (fun _ => rfl)
    refine ⟨_, _, S44 _ ?_, hrun, hended, _, _, rfl, ?_, ⟨_, rfl⟩, hW, hsame.mono (by decide) (by decide)⟩
    · show Steps p.tables e below (T43.setTop (mkF m 57 #[rv a, rv b, iv 0, iv nn, .val .null, rv tb10] [])) _
      exact X43.returnOut hx Bd.returns (hb hby d4_57) hr
    · show own_Q4 Z a b nn ls kb cs uv uc h0 n0 _ T43.heap _
      rw [e43]
      exact ⟨rfl, N54, K55, F45, tb10, kt10, F46, Or.inr ⟨F47, F53⟩⟩
  · skip
    have VB := own_By_l Vc10 hg
    have S57 : own_G p e below s0 T13 m 45 #[rv a, rv b, iv 0, iv nn, .val .null, rv tb10] [(.int nn), (.ref tb10), (.ref a)] := fun t kt => by
      refine S15 t ?_
      refine w_astore X13 hx hby d4_39 rfl (l' := #[rv a, rv b, iv 0, iv nn, .val .null, rv tb10]) rfl ?_
      refine w_aloadN X13 hx hby d4_41 rfl rfl ?_
      refine w_aload X13 hx hby d4_42 rfl rfl ?_
      refine w_iloadN X13 hx hby d4_44 rfl ?_
      exact kt
    obtain ⟨_, _, ⟨T58, L58, k58, n58⟩, -, X58, ⟨Lc58, hQ58, l58, y58, z58⟩, st58⟩ := Jvm.LawKit.callS X13 hx (y := own_y8) hown (mvT hZ (own_w hw 52 rfl)) (mvT hZ (own_w hw 53 rfl)) (mvT hZ (own_w hw 47 rfl)) (mvT hZ (own_w hw 54 rfl)) (by decide) (backOf (W := 1) (own_rm11q0 l Z a0 hw [] (tb10) (nn) (kt10) ((own_los ls)) T13.heap n0 (Nat.le_trans Z0 K24.1) (by rw [hn]; exact VB)) hZ (own_w hw 54 rfl) (own_w hw 47 rfl) (by decide) (by decide)) (g := (mkF m 45 #[rv a, rv b, iv 0, iv nn, .val .null, rv tb10] [(.int nn), (.ref tb10), (.ref a)])) rfl (by rw [hml]; rfl) (argsL := [(.ref tb10), (.int nn)]) (rest := [(.ref a)]) (lenOf own_pd9 rfl) rfl (by show 2 * 0 + _ ≤ _; exact Nat.le_of_eq rfl) (hb hby d4_45) (fun _ _ => ⟨rfl, rfl, (by decide : 2 + 0 ≤ _), (by decide : 15 + 0 ≤ _)⟩)
    dsimp only [Pt.U, Pt.locs, Pt.cells, Pt.slots] at X58 l58 y58 z58 st58 hQ58
    subst l58 y58 z58
    obtain ⟨rfl, rfl, eq56⟩ := hQ58
    try rw [List.append_nil] at X58
    have S59 : own_G p e below s0 T58 m 48 #[rv a, rv b, iv 0, iv nn, .val .null, rv tb10] [(.int 0), (.ref a)] := fun t kt => S57 t (st58 _ kt)
    obtain ⟨T60, h60, X60, e60, W60, st60⟩ := putFN X58 hx hZ hown (own_w hw 29 rfl) Via.refl (eq56.trans rfl) F18 F16 (Or.inr ⟨(own_w hw 25 rfl), rfl, hnm⟩) (own_w hw 10 rfl) (ty := .byte) (v' := (.int 0)) (by decide) rfl (by decide) (g := (mkF m 48 #[rv a, rv b, iv 0, iv nn, .val .null, rv tb10] [(.int 0), (.ref a)])) rfl rfl (hb hby d4_48)
    have S61 : own_G p e below s0 T60 m 51 #[rv a, rv b, iv 0, iv nn, .val .null, rv tb10] [] := fun t kt => S59 t (st60 _ kt)
    have F62 := F16.wr W60
    have F63 := F17.other W60 (Or.inr (slot_ne (Or.inr (own_w hw 24 rfl)) (Or.inr (own_w hw 25 rfl)) (by decide) (t := (.array .byte)) (t' := .byte) (by decide) (by decide)))
    have F64 := F18.same W60
    have F65 := F19.wr W60
    have F66 := F20.other W60 (Ne.symm (Exa.neArv F16 F20 (own_w hw 10 rfl)))
    have F67 := F21.wr W60
    have F68 := F22.wr W60
    have F69 := F23.wr W60
    have F70 := VB.other W60 (Ne.symm ne_a_tb10)
    have N71 := Fr.snoc X60 N14 g_a
    have K72 : Keep h0 h60 [a] := K24.wr W60 (Or.inl (List.mem_of_getElem? (i := 0) rfl))
    have S73 : own_G p e below s0 T60 m 54 #[rv a, rv b, iv 0, iv nn, .val .null, rv tb10] [(.ref tb10), (.ref a)] := fun t kt => by
      refine S61 t ?_
      refine w_aloadN X60 hx hby d4_51 rfl rfl ?_
      refine w_aload X60 hx hby d4_52 rfl rfl ?_
      exact kt
    obtain ⟨T74, h74, X74, e74, W74, st74⟩ := putF X60 hx hZ hown (host := "") (Or.inl (own_w hw 28 rfl)) Via.refl e60 F63 F62 (Or.inr ⟨(own_w hw 24 rfl), rfl, hnm⟩) (own_w hw 10 rfl) (ty := (.array .byte)) (by decide) rfl rfl (g := (mkF m 54 #[rv a, rv b, iv 0, iv nn, .val .null, rv tb10] [(.ref tb10), (.ref a)])) rfl rfl (hb hby d4_54)
    have S75 : own_G p e below s0 T74 m 57 #[rv a, rv b, iv 0, iv nn, .val .null, rv tb10] [] := fun t kt => S73 t (st74 _ kt)
    have F76 := F62.wr W74
    have F77 := F63.same W74
    have F78 := F64.other W74 (Or.inr (slot_ne (Or.inr (own_w hw 25 rfl)) (Or.inr (own_w hw 24 rfl)) (by decide) (t := .byte) (t' := (.array .byte)) (by decide) (by decide)))
    have F79 := F65.wr W74
    have F80 := F66.other W74 (Ne.symm (Exa.neArv F62 F66 (own_w hw 10 rfl)))
    have F81 := F67.wr W74
    have F82 := F68.wr W74
    have F83 := F69.wr W74
    have F84 := F70.other W74 (Ne.symm ne_a_tb10)
    have N85 := Fr.snoc X74 N71 g_a
    have K86 : Keep h0 h74 [a] := K72.wr W74 (Or.inl (List.mem_of_getElem? (i := 0) rfl))
    obtain ⟨fs, hr, hrun, hended, hW, hsame⟩ := X74.leave (v := none) (fun _ => rfl)
    refine ⟨_, _, S75 _ ?_, hrun, hended, _, _, rfl, ?_, ⟨_, rfl⟩, hW, hsame.mono (by decide) (by decide)⟩
    · show Steps p.tables e below (T74.setTop (mkF m 57 #[rv a, rv b, iv 0, iv nn, .val .null, rv tb10] [])) _
      exact X74.returnOut hx Bd.returns (hb hby d4_57) hr
    · show own_Q4 Z a b nn ls kb cs uv uc h0 n0 _ T74.heap _
      rw [e74]
      exact ⟨rfl, N85, K86, F76, tb10, kt10, F77, Or.inl ⟨F78, F84, fun c hc q => hg ⟨c, hc, q⟩⟩⟩
theorem own_pd10 : parseMethodDescriptor "([CIILjava/lang/Void;)V" = some ⟨[(.array .char), .int, .int, (.object "java/lang/Void")], none⟩ := by decide +kernel
theorem d3_0 : decode jdk_42_method_3_code 0 = .ok (.aload_n 0, 1) := by decide +kernel
theorem d3_1 : decode jdk_42_method_3_code 1 = .ok (.aload_n 1, 1) := by decide +kernel
theorem d3_2 : decode jdk_42_method_3_code 2 = .ok (.iconst 0, 1) := by decide +kernel
theorem d3_3 : decode jdk_42_method_3_code 3 = .ok (.aload_n 1, 1) := by decide +kernel
theorem d3_4 : decode jdk_42_method_3_code 4 = .ok (.arraylength, 1) := by decide +kernel
theorem d3_5 : decode jdk_42_method_3_code 5 = .ok (.aconst_null, 1) := by decide +kernel
theorem d3_6 : decode jdk_42_method_3_code 6 = .ok (.invokespecial 27, 3) := by decide +kernel
theorem d3_9 : decode jdk_42_method_3_code 9 = .ok (.return_, 1) := by decide +kernel
theorem own_ef3 (m : MethodId) (x0 : Addr) (x1 : Addr) : entryFrame m #[(.ref x0), (.ref x1)] 2 = mkF m 0 #[rv x0, rv x1] [] := by first | (simp [entryFrame, mkF, argsToLocals, Value.category]; done) | rfl
def own_Q3 (Z : State) (a : Addr) (b : Addr) (nn : Int32) (ls : List Int32) (kb : ClassId) (cs : Int32) (uv : Value) (uc : Value) (h0 : Heap) (n0 : Nat) (v : Option Value) (h : Heap) (L : List Loc) : Prop := v = none ∧ Fr n0 L ∧ Keep h0 h [a] ∧ own_Str Z h a ls
set_option maxHeartbeats 40000000 in
theorem own_rm3 (l : Launch) (Z : State) (a0 : Array Value) (hw : ∀ d ∈ tables_1, d.before a0 Z = true) (ws : List Jvm.Cond) (a : Addr) (b : Addr) (nn : Int32) (ls : List Int32) (kb : ClassId) (cs : Int32) (uv : Value) (uc : Value) (h0 : Heap) (n0 : Nat) (Z0 : n0 ≤ h0.size) (E_a : Exa Z h0 a "java/lang/String") (g_a : n0 ≤ a) (F_value : Fld Z h0 a "java/lang/String" "value" "[B" uv) (F_coder : Fld Z h0 a "java/lang/String" "coder" "B" uc) (S_CS : Sta Z h0 "java/lang/String" "COMPACT_STRINGS" "Z" (.int cs)) (hcs : ¬ cs = (0 : Int32)) (V_b : Arv Z h0 b kb .char nn (ls.map Value.int) (.int 0)) (S_AD : Sta Z h0 own_s2 own_s3 "Z" (.int 1)) (S_HI : Sta Z h0 own_s2 "HI_BYTE_SHIFT" "I" (.int 0)) (S_LO : Sta Z h0 own_s2 "LO_BYTE_SHIFT" "I" (.int 8)) (hbs : ∀ c ∈ ls, own_ch c) (hn : nn = Int32.ofNat ls.length) (h5 : ls.length ≤ 5) (hne : ls ≠ []) :
    MetFree l own_y21 (head1 (Jvm.Cond.code own_y21 jdk_42_method_3_code 2 none :: ws) ({ frames := 5, cells := 2, slots := 15, locals := 74 } : Room)) (fun argv U => argv = #[(.ref a), (.ref b)] ∧ Z.Warmed39 U.vm ∧ U.heap = h0) (fun _ _ _ _ _ => True) (fun _ U o U' => ∃ v L, o = .returned v ∧ own_Q3 Z a b nn ls kb cs uv uc h0 n0 v U'.heap L ∧ FrameEnd U o U' L ({ frames := 5, cells := 2, slots := 15, locals := 74 } : Room).cells ({ frames := 5, cells := 2, slots := 15, locals := 74 } : Room).slots) := by
  refine MetFree.of_bodySF (plainFor_of_name own_pn1) hisR ?_
  intro p e s m args below meth c s₁ Bd hml0 hP hK
  obtain ⟨rfl, hZ, hh⟩ := hP
  have hx := Bd.exec
  have hby := Bd.bytes
  have hml : c.maxLocals = 2 := hml0
  have hown : s.vm.findClass "java/lang/String" = some m.cls := findClass_of_methodNamed Bd.named
  have hnm := (name_of_methodNamed Bd.named Bd.method).1
  have X0 : Stand p l e ({ frames := 5, cells := 2, slots := 15, locals := 74 } : Room) s m #[(.ref a), (.ref b)] below meth c s₁ [] 0 0 := Stand.of_body Bd
  have e0 : s₁.heap = h0 := by rw [← hh, Bd.state]; rfl
  have N0 := Fr.nil n0
  have pre_ : own_G p e below (s₁.setTop (entryFrame m #[(.ref a), (.ref b)] 2)) s₁ m 0 #[rv a, rv b] [] := fun t k => castTop (own_ef3 m a b) k
  obtain ⟨s0, hs0⟩ : ∃ z, z = (s₁.setTop (entryFrame m #[(.ref a), (.ref b)] 2)) := ⟨_, rfl⟩
  have pre0 : own_G p e below s0 s₁ m 0 #[rv a, rv b] [] := hs0 ▸ pre_
  rw [← hs0]
  have S1 : own_G p e below s0 s₁ m 4 #[rv a, rv b] [(.ref b), (.int 0), (.ref b), (.ref a)] := fun t kt => by
    refine pre0 t ?_
    refine w_aloadN X0 hx hby d3_0 rfl rfl ?_
    refine w_aloadN X0 hx hby d3_1 rfl rfl ?_
    refine w_iconst X0 hx hby d3_2 ?_
    refine w_aloadN X0 hx hby d3_3 rfl rfl ?_
    exact kt
  obtain ⟨cl2, Ar2, -, Sz2, Nn2, -, -⟩ := id V_b
  have S5 : own_G p e below s0 s₁ m 6 #[rv a, rv b] [.null, (.int nn), (.int 0), (.ref b), (.ref a)] := fun t kt => by
    refine S1 t ?_
    refine X0.arraylength hx (by rw [e0]; exact Ar2.1) (State.isArrayOf_alike hZ.alike Ar2.2.1) (g := (mkF m 4 #[rv a, rv b] [(.ref b), (.int 0), (.ref b), (.ref a)])) rfl rfl (hb hby d3_4) _ ?_
    rw [len_of Sz2 Nn2]
    refine XS.aconstNull X0.here hx rfl (hb hby d3_5) ?_
    exact kt
  obtain ⟨_, _, ⟨T6, L6, k6, n6⟩, -, X6, ⟨Lc6, hQ6, l6, y6, z6⟩, st6⟩ := X0.specialBack hx (y := own_y7) rfl hown (mvT hZ (own_w hw 15 rfl)) (mvT hZ (own_w hw 16 rfl)) (mvT hZ (own_w hw 18 rfl)) (by decide) (backOf (W := 0) (own_rm4 l Z a0 hw [] (a) (b) (nn) (ls) (kb) (cs) (uv) (uc) h0 n0 Z0 E_a g_a F_value F_coder S_CS hcs V_b S_AD S_HI S_LO hbs hn h5 hne) hZ (own_w hw 18 rfl) (own_w hw 11 rfl) (by decide) (by decide)) (g := (mkF m 6 #[rv a, rv b] [.null, (.int nn), (.int 0), (.ref b), (.ref a)])) rfl (by rw [hml]; rfl) (Steps.refl _) (a := a) (argsL := [(.ref b), (.int 0), (.int nn), .null]) (rest := []) (lenOf own_pd10 rfl) rfl (by show 2 * 0 + _ ≤ _; exact Nat.le_of_eq rfl) (hb hby d3_6) (fun _ _ => ⟨rfl, e0, (by decide : 0 + 2 ≤ _), (by decide : 0 + 15 ≤ _)⟩)
  dsimp only [Pt.U, Pt.locs, Pt.cells, Pt.slots] at X6 l6 y6 z6 st6 hQ6
  subst l6 y6 z6
  obtain ⟨rfl, Nq6, Kc3, OS3⟩ := hQ6
  have N7 := Fr.app N0 Nq6
  have S8 : own_G p e below s0 T6 m 9 #[rv a, rv b] [] := fun t kt => S5 t (st6.trans kt)
  have F9 := E_a.keep Kc3
  have F10 := own_StaK S_CS Kc3 (allS (own_ExaS E_a) all0)
  have F11 := V_b.keep Kc3 (ninS (Ne.symm (Exa.neArv E_a V_b (own_w hw 10 rfl))) nin0)
  have F12 := own_StaK S_AD Kc3 (allS (own_ExaS E_a) all0)
  have F13 := own_StaK S_HI Kc3 (allS (own_ExaS E_a) all0)
  have F14 := own_StaK S_LO Kc3 (allS (own_ExaS E_a) all0)
  have K15 : Keep h0 T6.heap [a] := (Keep.refl h0 [a]).trans Kc3 (allS (Or.inl (List.mem_of_getElem? (i := 0) rfl)) all0)
  obtain ⟨fs, hr, hrun, hended, hW, hsame⟩ := X6.leave (v := none) (fun _ => rfl)
  refine ⟨_, _, S8 _ ?_, hrun, hended, _, _, rfl, ?_, ⟨_, rfl⟩, hW, hsame.mono (by decide) (by decide)⟩
  · show Steps p.tables e below (T6.setTop (mkF m 9 #[rv a, rv b] [])) _
    exact X6.returnOut hx Bd.returns (hb hby d3_9) hr
  · show own_Q3 Z a b nn ls kb cs uv uc h0 n0 _ T6.heap _
    exact ⟨rfl, N7, K15, OS3⟩
theorem d4_8 : decode jdk_42_method_149_code 8 = .ok (.aload_n 0, 1) := by decide +kernel
theorem d4_9 : decode jdk_42_method_149_code 9 = .ok (.ldc 7, 2) := by decide +kernel
theorem d4_11 : decode jdk_42_method_149_code 11 = .ok (.getfield 9, 3) := by decide +kernel
theorem d4_14 : decode jdk_42_method_149_code 14 = .ok (.putfield 9, 3) := by decide +kernel
theorem d4_17 : decode jdk_42_method_149_code 17 = .ok (.aload_n 0, 1) := by decide +kernel
theorem d4_18 : decode jdk_42_method_149_code 18 = .ok (.ldc 7, 2) := by decide +kernel
theorem d4_20 : decode jdk_42_method_149_code 20 = .ok (.getfield 15, 3) := by decide +kernel
theorem d4_23 : decode jdk_42_method_149_code 23 = .ok (.putfield 15, 3) := by decide +kernel
theorem d4_26 : decode jdk_42_method_149_code 26 = .ok (.return_, 1) := by decide +kernel
theorem own_ef4k0 (m : MethodId) (x0 : Addr) (x1 : Addr) (x2 : Int32) (x3 : Int32) : entryFrame m #[(.ref x0), (.ref x1), (.int x2), (.int x3), .null] 6 = mkF m 0 #[rv x0, rv x1, iv x2, iv x3, .val .null, .unset] [] := by first | (simp [entryFrame, mkF, argsToLocals, Value.category]; done) | rfl
def own_Q4k0 (Z : State) (a : Addr) (b : Addr) (uv : Value) (uc : Value) (h0 : Heap) (n0 : Nat) (v : Option Value) (h : Heap) (L : List Loc) : Prop := v = none ∧ Fr n0 L ∧ Keep h0 h [a] ∧ Exa Z h a "java/lang/String" ∧ Fld Z h a "java/lang/String" "coder" "B" (.int 0) ∧ ∃ (tb : Addr) (kt : ClassId), a ≠ tb ∧ Fld Z h a "java/lang/String" "value" "[B" (.ref tb) ∧ Arv Z h tb kt .byte (0 : Int32) [] (.int 0)
set_option maxHeartbeats 40000000 in
theorem own_rm4k0 (l : Launch) (Z : State) (a0 : Array Value) (hw : ∀ d ∈ tables_1, d.before a0 Z = true) (ws : List Jvm.Cond) (a : Addr) (b : Addr) (uv : Value) (uc : Value) (h0 : Heap) (n0 : Nat) (Z0 : n0 ≤ h0.size) (E_a : Exa Z h0 a "java/lang/String") (g_a : n0 ≤ a) (F_value : Fld Z h0 a "java/lang/String" "value" "[B" uv) (F_coder : Fld Z h0 a "java/lang/String" "coder" "B" uc) :
    MetFree l own_y7 (head1 (Jvm.Cond.code own_y7 jdk_42_method_149_code 6 none :: ws) ({ frames := 1, cells := 4, slots := 8, locals := 12 } : Room)) (fun argv U => argv = #[(.ref a), (.ref b), (.int 0), (.int 0), .null] ∧ Z.Warmed39 U.vm ∧ U.heap = h0 ∧ CHv Z own_EL U.vm h0 ∧ Safe Z own_EL U.vm h0 a) (fun _ _ _ _ _ => True) (fun _ U o U' => ∃ v L, o = .returned v ∧ own_Q4k0 Z a b uv uc h0 n0 v U'.heap L ∧ CHr Z own_EL U.vm U.heap U'.vm U'.heap ∧ ReturnedEndW U o U' L ({ frames := 1, cells := 4, slots := 8, locals := 12 } : Room).cells ({ frames := 1, cells := 4, slots := 8, locals := 12 } : Room).slots) := by
  refine MetFree.of_bodySF (plainFor_of_name own_pn1) hisR ?_
  intro p e s m args below meth c s₁ Bd hml0 hP hK
  obtain ⟨rfl, hZ, hh, hC0, Sf_a⟩ := hP
  have hx := Bd.exec
  have hby := Bd.bytes
  have hml : c.maxLocals = 6 := hml0
  have hown : s.vm.findClass "java/lang/String" = some m.cls := findClass_of_methodNamed Bd.named
  have hnm := (name_of_methodNamed Bd.named Bd.method).1
  have X0 : Stand p l e ({ frames := 1, cells := 4, slots := 8, locals := 12 } : Room) (s.setVm s.vm) m #[(.ref a), (.ref b), (.int 0), (.int 0), .null] below meth c s₁ [] 0 0 := Stand.of_body Bd
  have e0 : s₁.heap = h0 := by rw [← hh, Bd.state]; rfl
  have N0 := Fr.nil n0
  have pre_ : own_G p e below (s₁.setTop (entryFrame m #[(.ref a), (.ref b), (.int 0), (.int 0), .null] 6)) s₁ m 0 #[rv a, rv b, iv 0, iv 0, .val .null, .unset] [] := fun t k => castTop (own_ef4k0 m a b (0 : Int32) (0 : Int32)) k
  obtain ⟨s0, hs0⟩ : ∃ z, z = (s₁.setTop (entryFrame m #[(.ref a), (.ref b), (.int 0), (.int 0), .null] 6)) := ⟨_, rfl⟩
  have pre0 : own_G p e below s0 s₁ m 0 #[rv a, rv b, iv 0, iv 0, .val .null, .unset] [] := hs0 ▸ pre_
  rw [← hs0]
  have CR0 : CHr Z own_EL s.vm h0 s.vm h0 := CHr.refl hC0
  have hEL := own_EW hw
  have hS0 : s.Since s.vm h0.size := (State.WarmedH.refl s).since _
  have wS := own_wS hw
  have S1 : own_G p e below s0 s₁ m 1 #[rv a, rv b, iv 0, iv 0, .val .null, .unset] [(.ref a)] := fun t kt => by
    refine pre0 t ?_
    refine w_aloadN X0 hx hby d4_0 rfl rfl ?_
    exact kt
  obtain ⟨T2, X2, e2, st2⟩ := initO X0 hx hZ hown (own_w hw 19 rfl) (own_w hw 20 rfl) (own_w hw 21 rfl) e0 (g := (mkF m 1 #[rv a, rv b, iv 0, iv 0, .val .null, .unset] [(.ref a)])) rfl (by rw [hml]; rfl) rfl (hb hby d4_1) (by decide) (W := 0) (by show 2 * 0 + _ ≤ _; exact Nat.le_of_eq rfl) (by decide)
  have S3 : own_G p e below s0 T2 m 4 #[rv a, rv b, iv 0, iv 0, .val .null, .unset] [] := fun t kt => S1 t (st2 _ kt)
  have S4 : own_G p e below s0 T2 m 5 #[rv a, rv b, iv 0, iv 0, .val .null, .unset] [(.int 0)] := fun t kt => by
    refine S3 t ?_
    refine w_iloadN X2 hx hby d4_4 rfl ?_
    exact kt
  have hc5_5 : (0 : Int32) = (0 : Int32) := by decide
  have S6 : own_G p e below s0 T2 m 9 #[rv a, rv b, iv 0, iv 0, .val .null, .unset] [(.ref a)] := fun t kt => by
    refine S4 t ?_
    refine w_ifNo X2 hx hby d4_5 ((if0 _ _).trans (teq hc5_5).2) ?_
    refine w_aloadN X2 hx hby d4_8 rfl rfl ?_
    exact kt
  obtain ⟨lit7, T7, h7, k7, lby7, kb7, X7, e7, E7, hS7, hk7, hZ7, ho7, LE7, LC7, LV7, LA7, -, -, hC7, -, hNe7, st7⟩ := ldcCH (EL := own_EL) (z := (0 : Int32)) (vs := []) X2 hx hZ hown (own_w hw 22 rfl) wS e2 hS0 (Nat.le_refl _) hEL (List.mem_of_getElem? (i := 0) rfl) CR0.1 ⟨by decide, by decide⟩ (by decide) (by decide) (g := (mkF m 9 #[rv a, rv b, iv 0, iv 0, .val .null, .unset] [(.ref a)])) rfl (hb hby d4_9) (n := 0) (by decide) (by decide) (by decide) (by decide)
  have S8 : own_G p e below s0 T7 m 11 #[rv a, rv b, iv 0, iv 0, .val .null, .unset] [(.ref lit7), (.ref a)] := fun t kt => S6 t (st7 _ kt)
  have Sf9 := hC7.safe (E_a.lt) Sf_a
  have CR10 := CR0.trans hC7
  have ne_a_lit7 := (hNe7 _ Sf9).1
  have ne_a_lby7 := (hNe7 _ Sf9).2
  have F11 := E_a.ext E7
  have F12 := F_value.ext E7
  have F13 := F_coder.ext E7
  have K14 : Keep h0 h7 [a] := (Keep.refl h0 [a]).ext E7
  obtain ⟨T15, X15, e15, st15⟩ := getF X7 hx hZ7 ho7 (host := "") (Or.inl (own_w hw 28 rfl)) Via.refl e7 LV7 (g := (mkF m 11 #[rv a, rv b, iv 0, iv 0, .val .null, .unset] [(.ref lit7), (.ref a)])) rfl rfl (hb hby d4_11)
  have S16 : own_G p e below s0 T15 m 14 #[rv a, rv b, iv 0, iv 0, .val .null, .unset] [(.ref lby7), (.ref a)] := fun t kt => S8 t (st15 _ kt)
  obtain ⟨T17, h17, X17, e17, W17, st17⟩ := putF X15 hx hZ7 ho7 (host := "") (Or.inl (own_w hw 28 rfl)) Via.refl e15 F12 F11 (Or.inr ⟨(own_w hw 24 rfl), rfl, hnm⟩) (own_w hw 10 rfl) (ty := (.array .byte)) (by decide) rfl rfl (g := (mkF m 14 #[rv a, rv b, iv 0, iv 0, .val .null, .unset] [(.ref lby7), (.ref a)])) rfl rfl (hb hby d4_14)
  have S18 : own_G p e below s0 T17 m 17 #[rv a, rv b, iv 0, iv 0, .val .null, .unset] [] := fun t kt => S16 t (st17 _ kt)
  have Sf19 := Safe.wr W17 Sf9 CR10.1 Sf9
  have CR20 := CR10.trans (CHr.wr W17 Sf9 CR10.1)
  have F21 := F11.wr W17
  have F22 := F12.same W17
  have F23 := F13.other W17 (Or.inr (slot_ne (Or.inr (own_w hw 25 rfl)) (Or.inr (own_w hw 24 rfl)) (by decide) (t := .byte) (t' := (.array .byte)) (by decide) (by decide)))
  have F24 := LE7.wr W17
  have F25 := LC7.other W17 (Or.inl (Ne.symm ne_a_lit7))
  have F26 := LV7.other W17 (Or.inl (Ne.symm ne_a_lit7))
  have F27 := LA7.other W17 (Ne.symm ne_a_lby7)
  have N28 := Fr.snoc X17 N0 g_a
  have K29 : Keep h0 h17 [a] := K14.wr W17 (Or.inl (List.mem_of_getElem? (i := 0) rfl))
  have S30 : own_G p e below s0 T17 m 18 #[rv a, rv b, iv 0, iv 0, .val .null, .unset] [(.ref a)] := fun t kt => by
    refine S18 t ?_
    refine w_aloadN X17 hx hby d4_17 rfl rfl ?_
    exact kt
  obtain ⟨lit31, T31, h31, k31, lby31, kb31, X31, e31, E31, hS31, hk31, hZ31, ho31, LE31, LC31, LV31, LA31, -, -, hC31, -, hNe31, st31⟩ := ldcCH (EL := own_EL) (z := (0 : Int32)) (vs := []) X17 hx hZ7 ho7 (own_w hw 22 rfl) wS e17 hS7 (Nat.le_trans hk7 (Keep.of_wr W17).1) hEL (List.mem_of_getElem? (i := 0) rfl) CR20.1 ⟨by decide, by decide⟩ (by decide) (by decide) (g := (mkF m 18 #[rv a, rv b, iv 0, iv 0, .val .null, .unset] [(.ref a)])) rfl (hb hby d4_18) (n := 0) (by decide) (by decide) (by decide) (by decide)
  have S32 : own_G p e below s0 T31 m 20 #[rv a, rv b, iv 0, iv 0, .val .null, .unset] [(.ref lit31), (.ref a)] := fun t kt => S30 t (st31 _ kt)
  have Sf33 := hC31.safe (F21.lt) Sf19
  have CR34 := CR20.trans hC31
  have ne_a_lit31 := (hNe31 _ Sf33).1
  have ne_a_lby31 := (hNe31 _ Sf33).2
  have F35 := F21.ext E31
  have F36 := F22.ext E31
  have F37 := F23.ext E31
  have F38 := F24.ext E31
  have F39 := F25.ext E31
  have F40 := F26.ext E31
  have F41 := F27.ext E31
  have K42 : Keep h0 h31 [a] := K29.ext E31
  obtain ⟨T43, X43, e43, st43⟩ := getF X31 hx hZ31 ho31 (host := "") (Or.inl (own_w hw 29 rfl)) Via.refl e31 LC31 (g := (mkF m 20 #[rv a, rv b, iv 0, iv 0, .val .null, .unset] [(.ref lit31), (.ref a)])) rfl rfl (hb hby d4_20)
  have S44 : own_G p e below s0 T43 m 23 #[rv a, rv b, iv 0, iv 0, .val .null, .unset] [(.int 0), (.ref a)] := fun t kt => S32 t (st43 _ kt)
  obtain ⟨T45, h45, X45, e45, W45, st45⟩ := putFN X43 hx hZ31 ho31 (own_w hw 29 rfl) Via.refl e43 F37 F35 (Or.inr ⟨(own_w hw 25 rfl), rfl, hnm⟩) (own_w hw 10 rfl) (ty := .byte) (v' := (.int 0)) (by decide) rfl (by decide) (g := (mkF m 23 #[rv a, rv b, iv 0, iv 0, .val .null, .unset] [(.int 0), (.ref a)])) rfl rfl (hb hby d4_23)
  have S46 : own_G p e below s0 T45 m 26 #[rv a, rv b, iv 0, iv 0, .val .null, .unset] [] := fun t kt => S44 t (st45 _ kt)
  have Sf47 := Safe.wr W45 Sf33 CR34.1 Sf33
  have CR48 := CR34.trans (CHr.wr W45 Sf33 CR34.1)
  have F49 := F35.wr W45
  have F50 := F36.other W45 (Or.inr (slot_ne (Or.inr (own_w hw 24 rfl)) (Or.inr (own_w hw 25 rfl)) (by decide) (t := (.array .byte)) (t' := .byte) (by decide) (by decide)))
  have F51 := F37.same W45
  have F52 := F38.wr W45
  have F53 := F39.other W45 (Or.inl (Ne.symm ne_a_lit7))
  have F54 := F40.other W45 (Or.inl (Ne.symm ne_a_lit7))
  have F55 := F41.other W45 (Ne.symm ne_a_lby7)
  have F56 := LE31.wr W45
  have F57 := LC31.other W45 (Or.inl (Ne.symm ne_a_lit31))
  have F58 := LV31.other W45 (Or.inl (Ne.symm ne_a_lit31))
  have F59 := LA31.other W45 (Ne.symm ne_a_lby31)
  have N60 := Fr.snoc X45 N28 g_a
  have K61 : Keep h0 h45 [a] := K42.wr W45 (Or.inl (List.mem_of_getElem? (i := 0) rfl))
  obtain ⟨fs, hr, hrun, hended, -, hW, hBk, hsame⟩ := X45.leaveW hS31 (by rw [e45]; exact (Nat.le_trans hk31 (Keep.of_wr W45).1)) (v := none) (fun _ => rfl)
  refine ⟨_, _, S46 _ ?_, hrun, hended, _, _, rfl, ?_, (by show CHr Z own_EL s.vm s.heap T45.vm T45.heap; rw [hh, e45]; exact CR48.trans (CHv.at X45 hZ31 hEL CR48.1)), ⟨_, rfl⟩, hW, hBk, hsame.mono (by decide) (by decide)⟩
  · show Steps p.tables e below (T45.setTop (mkF m 26 #[rv a, rv b, iv 0, iv 0, .val .null, .unset] [])) _
    exact X45.returnOut hx Bd.returns (hb hby d4_26) hr
  · show own_Q4k0 Z a b uv uc h0 n0 _ T45.heap _
    rw [e45]
    exact ⟨rfl, N60, K61, F49, F51, lby7, kb7, ne_a_lby7, F50, F55⟩
theorem own_ef3k0 (m : MethodId) (x0 : Addr) (x1 : Addr) : entryFrame m #[(.ref x0), (.ref x1)] 2 = mkF m 0 #[rv x0, rv x1] [] := by first | (simp [entryFrame, mkF, argsToLocals, Value.category]; done) | rfl
def own_Q3k0 (Z : State) (a : Addr) (b : Addr) (kb : ClassId) (uv : Value) (uc : Value) (h0 : Heap) (n0 : Nat) (v : Option Value) (h : Heap) (L : List Loc) : Prop := v = none ∧ Fr n0 L ∧ Keep h0 h [a] ∧ Exa Z h a "java/lang/String" ∧ Fld Z h a "java/lang/String" "coder" "B" (.int 0) ∧ ∃ (tb : Addr) (kt : ClassId), a ≠ tb ∧ Fld Z h a "java/lang/String" "value" "[B" (.ref tb) ∧ Arv Z h tb kt .byte (0 : Int32) [] (.int 0)
set_option maxHeartbeats 40000000 in
theorem own_rm3k0 (l : Launch) (Z : State) (a0 : Array Value) (hw : ∀ d ∈ tables_1, d.before a0 Z = true) (ws : List Jvm.Cond) (a : Addr) (b : Addr) (kb : ClassId) (uv : Value) (uc : Value) (h0 : Heap) (n0 : Nat) (Z0 : n0 ≤ h0.size) (E_a : Exa Z h0 a "java/lang/String") (g_a : n0 ≤ a) (F_value : Fld Z h0 a "java/lang/String" "value" "[B" uv) (F_coder : Fld Z h0 a "java/lang/String" "coder" "B" uc) (V_b : Arv Z h0 b kb .char (0 : Int32) [] (.int 0)) :
    MetFree l own_y21 (head1 (Jvm.Cond.code own_y21 jdk_42_method_3_code 2 none :: ws) ({ frames := 2, cells := 4, slots := 8, locals := 29 } : Room)) (fun argv U => argv = #[(.ref a), (.ref b)] ∧ Z.Warmed39 U.vm ∧ U.heap = h0 ∧ CHv Z own_EL U.vm h0 ∧ Safe Z own_EL U.vm h0 a) (fun _ _ _ _ _ => True) (fun _ U o U' => ∃ v L, o = .returned v ∧ own_Q3k0 Z a b kb uv uc h0 n0 v U'.heap L ∧ CHr Z own_EL U.vm U.heap U'.vm U'.heap ∧ ReturnedEndW U o U' L ({ frames := 2, cells := 4, slots := 8, locals := 29 } : Room).cells ({ frames := 2, cells := 4, slots := 8, locals := 29 } : Room).slots) := by
  refine MetFree.of_bodySF (plainFor_of_name own_pn1) hisR ?_
  intro p e s m args below meth c s₁ Bd hml0 hP hK
  obtain ⟨rfl, hZ, hh, hC0, Sf_a⟩ := hP
  have hx := Bd.exec
  have hby := Bd.bytes
  have hml : c.maxLocals = 2 := hml0
  have hown : s.vm.findClass "java/lang/String" = some m.cls := findClass_of_methodNamed Bd.named
  have hnm := (name_of_methodNamed Bd.named Bd.method).1
  have X0 : Stand p l e ({ frames := 2, cells := 4, slots := 8, locals := 29 } : Room) (s.setVm s.vm) m #[(.ref a), (.ref b)] below meth c s₁ [] 0 0 := Stand.of_body Bd
  have e0 : s₁.heap = h0 := by rw [← hh, Bd.state]; rfl
  have N0 := Fr.nil n0
  have pre_ : own_G p e below (s₁.setTop (entryFrame m #[(.ref a), (.ref b)] 2)) s₁ m 0 #[rv a, rv b] [] := fun t k => castTop (own_ef3k0 m a b) k
  obtain ⟨s0, hs0⟩ : ∃ z, z = (s₁.setTop (entryFrame m #[(.ref a), (.ref b)] 2)) := ⟨_, rfl⟩
  have pre0 : own_G p e below s0 s₁ m 0 #[rv a, rv b] [] := hs0 ▸ pre_
  rw [← hs0]
  have CR0 : CHr Z own_EL s.vm h0 s.vm h0 := CHr.refl hC0
  have hEL := own_EW hw
  have hS0 : s.Since s.vm h0.size := (State.WarmedH.refl s).since _
  have wS := own_wS hw
  have S1 : own_G p e below s0 s₁ m 4 #[rv a, rv b] [(.ref b), (.int 0), (.ref b), (.ref a)] := fun t kt => by
    refine pre0 t ?_
    refine w_aloadN X0 hx hby d3_0 rfl rfl ?_
    refine w_aloadN X0 hx hby d3_1 rfl rfl ?_
    refine w_iconst X0 hx hby d3_2 ?_
    refine w_aloadN X0 hx hby d3_3 rfl rfl ?_
    exact kt
  obtain ⟨cl2, Ar2, -, Sz2, Nn2, -, -⟩ := id V_b
  have S5 : own_G p e below s0 s₁ m 6 #[rv a, rv b] [.null, (.int 0), (.int 0), (.ref b), (.ref a)] := fun t kt => by
    refine S1 t ?_
    refine X0.arraylength hx (by rw [e0]; exact Ar2.1) (State.isArrayOf_alike hZ.alike Ar2.2.1) (g := (mkF m 4 #[rv a, rv b] [(.ref b), (.int 0), (.ref b), (.ref a)])) rfl rfl (hb hby d3_4) _ ?_
    rw [len_of Sz2 Nn2]
    refine XS.aconstNull X0.here hx rfl (hb hby d3_5) ?_
    exact kt
  obtain ⟨_, _, ⟨T6, L6, k6, n6⟩, -, X6_, hSr6, hgr6, ⟨Lc6, hQ6, l6, y6, z6, hCr6⟩, st6⟩ := X0.specialBackS hx (y := own_y7) rfl hown (mvT hZ (own_w hw 15 rfl)) (mvT hZ (own_w hw 16 rfl)) (mvT hZ (own_w hw 18 rfl)) (by decide) (own_backSE (EL := own_EL) (s := s) (vm0 := s.vm) (W := 0) (own_rm4k0 l Z a0 hw [] (a) (b) (uv) (uc) h0 n0 Z0 E_a g_a F_value F_coder) hZ (own_w hw 18 rfl) (own_w hw 11 rfl) (by decide) (by decide) hEL CR0.1 (fun _ A => A.safe (E_a.lt) Sf_a)) (g := (mkF m 6 #[rv a, rv b] [.null, (.int 0), (.int 0), (.ref b), (.ref a)])) rfl (by rw [hml]; rfl) (Steps.refl _) (a := a) (argsL := [(.ref b), (.int 0), (.int 0), .null]) (rest := []) (lenOf own_pd10 rfl) rfl (by show 2 * 0 + _ ≤ _; exact Nat.le_of_eq rfl) (hb hby d3_6) (fun _ _ => ⟨rfl, e0, (by decide : 0 + 4 ≤ _), (by decide : 0 + 8 ≤ _)⟩)
  dsimp only [Pt.U, Pt.locs, Pt.cells, Pt.slots] at X6_ hSr6 hgr6 l6 y6 z6 hCr6 st6 hQ6
  subst l6 y6 z6
  obtain ⟨X6, hS6, hZ6, ho6⟩ := rebS hS0 (by rw [e0]; exact (Nat.le_refl _)) X6_ hSr6 hgr6 hZ hown
  obtain ⟨rfl, Nq6, Kc3, Ec3, Cc3, tb3, kt3, nat3, Fv3, Va3⟩ := hQ6
  have N7 := Fr.app N0 Nq6
  have S8 : own_G p e below s0 T6 m 9 #[rv a, rv b] [] := fun t kt => S5 t (st6.trans kt)
  have Sf9 := hCr6.safe (E_a.lt) Sf_a
  have CR10 := CR0.trans hCr6
  have F11 := E_a.keep Kc3
  have F12 := V_b.keep Kc3 (ninS (Ne.symm (Exa.neArv E_a V_b (own_w hw 10 rfl))) nin0)
  have K13 : Keep h0 T6.heap [a] := (Keep.refl h0 [a]).trans Kc3 (allS (Or.inl (List.mem_of_getElem? (i := 0) rfl)) all0)
  obtain ⟨fs, hr, hrun, hended, -, hW, hBk, hsame⟩ := X6.leaveW hS6 ((Nat.le_refl _)) (v := none) (fun _ => rfl)
  refine ⟨_, _, S8 _ ?_, hrun, hended, _, _, rfl, ?_, (by show CHr Z own_EL s.vm s.heap T6.vm T6.heap; rw [hh]; exact CR10.trans (CHv.at X6 hZ6 hEL CR10.1)), ⟨_, rfl⟩, hW, hBk, hsame.mono (by decide) (by decide)⟩
  · show Steps p.tables e below (T6.setTop (mkF m 9 #[rv a, rv b] [])) _
    exact X6.returnOut hx Bd.returns (hb hby d3_9) hr
  · show own_Q3k0 Z a b kb uv uc h0 n0 _ T6.heap _
    exact ⟨rfl, N7, K13, Ec3, Cc3, tb3, kt3, nat3, Fv3, Va3⟩
theorem d8_0 : decode jdk_42_method_152_code 0 = .ok (.getstatic 38, 3) := by decide +kernel
theorem d8_3 : decode jdk_42_method_152_code 3 = .ok (.ifCond .eq 10, 3) := by decide +kernel
theorem d8_6 : decode jdk_42_method_152_code 6 = .ok (.aload_n 0, 1) := by decide +kernel
theorem d8_7 : decode jdk_42_method_152_code 7 = .ok (.getfield 15, 3) := by decide +kernel
theorem d8_10 : decode jdk_42_method_152_code 10 = .ok (.goto 4, 3) := by decide +kernel
theorem d8_14 : decode jdk_42_method_152_code 14 = .ok (.ireturn, 1) := by decide +kernel
theorem own_ef8q1 (m : MethodId) (x0 : Addr) : entryFrame m #[(.ref x0)] 1 = mkF m 0 #[rv x0] [] := by first | (simp [entryFrame, mkF, argsToLocals, Value.category]; done) | rfl
def own_Q8q1 (Z : State) (a : Addr) (cs : Int32) (h0 : Heap) (n0 : Nat) (v : Option Value) (h : Heap) (L : List Loc) : Prop := v = some (.int 1) ∧ L = [] ∧ h = h0
set_option maxHeartbeats 40000000 in
theorem own_rm8q1 (l : Launch) (Z : State) (a0 : Array Value) (hw : ∀ d ∈ tables_1, d.before a0 Z = true) (ws : List Jvm.Cond) (a : Addr) (cs : Int32) (h0 : Heap) (n0 : Nat) (Z0 : n0 ≤ h0.size) (S_CS : Sta Z h0 "java/lang/String" "COMPACT_STRINGS" "Z" (.int cs)) (hcs : ¬ cs = (0 : Int32)) (F_coder : Fld Z h0 a "java/lang/String" "coder" "B" (.int 1)) :
    MetFree l own_y25 (head1 (Jvm.Cond.code own_y25 jdk_42_method_152_code 1 (some .byte) :: ws) ({ frames := 0, cells := 0, slots := 0, locals := 0 } : Room)) (fun argv U => argv = #[(.ref a)] ∧ Z.Warmed39 U.vm ∧ U.heap = h0) (fun _ _ _ _ _ => True) (fun _ U o U' => ∃ v L, o = .returned v ∧ own_Q8q1 Z a cs h0 n0 v U'.heap L ∧ FrameEnd U o U' L ({ frames := 0, cells := 0, slots := 0, locals := 0 } : Room).cells ({ frames := 0, cells := 0, slots := 0, locals := 0 } : Room).slots) := by
  refine MetFree.of_bodySF (plainFor_of_name own_pn1) hisR ?_
  intro p e s m args below meth c s₁ Bd hml0 hP hK
  obtain ⟨rfl, hZ, hh⟩ := hP
  have hx := Bd.exec
  have hby := Bd.bytes
  have hml : c.maxLocals = 1 := hml0
  have hown : s.vm.findClass "java/lang/String" = some m.cls := findClass_of_methodNamed Bd.named
  have hnm := (name_of_methodNamed Bd.named Bd.method).1
  have X0 : Stand p l e ({ frames := 0, cells := 0, slots := 0, locals := 0 } : Room) s m #[(.ref a)] below meth c s₁ [] 0 0 := Stand.of_body Bd
  have e0 : s₁.heap = h0 := by rw [← hh, Bd.state]; rfl
  have N0 := Fr.nil n0
  have pre_ : own_G p e below (s₁.setTop (entryFrame m #[(.ref a)] 1)) s₁ m 0 #[rv a] [] := fun t k => castTop (own_ef8q1 m a) k
  obtain ⟨s0, hs0⟩ : ∃ z, z = (s₁.setTop (entryFrame m #[(.ref a)] 1)) := ⟨_, rfl⟩
  have pre0 : own_G p e below s0 s₁ m 0 #[rv a] [] := hs0 ▸ pre_
  rw [← hs0]
  obtain ⟨T1, X1, e1, st1⟩ := getS2 X0 hx hZ hown (host := "") (Or.inl (own_w hw 44 rfl)) Via.refl e0 S_CS (g := (mkF m 0 #[rv a] [])) rfl (hb hby d8_0)
  have S2 : own_G p e below s0 T1 m 3 #[rv a] [(.int cs)] := fun t kt => pre0 t (st1 _ kt)
  have hc3_3 : ¬ (cs = (0 : Int32)) := hcs
  have S4 : own_G p e below s0 T1 m 7 #[rv a] [(.ref a)] := fun t kt => by
    refine S2 t ?_
    refine w_ifNo X1 hx hby d8_3 ((if0 _ _).trans (feq hc3_3).1) ?_
    refine w_aloadN X1 hx hby d8_6 rfl rfl ?_
    exact kt
  obtain ⟨T5, X5, e5, st5⟩ := getF X1 hx hZ hown (host := "") (Or.inl (own_w hw 29 rfl)) Via.refl e1 F_coder (g := (mkF m 7 #[rv a] [(.ref a)])) rfl rfl (hb hby d8_7)
  have S6 : own_G p e below s0 T5 m 10 #[rv a] [(.int 1)] := fun t kt => S4 t (st5 _ kt)
  have S7 : own_G p e below s0 T5 m 14 #[rv a] [(.int 1)] := fun t kt => by
    refine S6 t ?_
    refine w_goto X5 hx hby (pc' := 14) d8_10 (by decide) ?_
    exact kt
  obtain ⟨fs, hr, hrun, hended, hW, hsame⟩ := X5.leave (v := some (.int (nar .byte (1 : Int32)))) (fun h => by rw [Bd.returns] at h; cases h)
  refine ⟨_, _, S7 _ ?_, hrun, hended, _, _, rfl, ?_, ⟨_, rfl⟩, hW, hsame.mono (by decide) (by decide)⟩
  · show Steps p.tables e below (T5.setTop (mkF m 14 #[rv a] [(.int 1)])) _
    exact retN X5 hx (t := .byte) Bd.returns (by simp) (hb hby d8_14) hr
  · show own_Q8q1 Z a cs h0 n0 _ T5.heap _
    rw [e5]
    exact ⟨rfl, rfl, rfl⟩
theorem d13_0 : decode jdk_42_method_154_code 0 = .ok (.getstatic 38, 3) := by decide +kernel
theorem d13_3 : decode jdk_42_method_154_code 3 = .ok (.ifCond .eq 14, 3) := by decide +kernel
theorem d13_6 : decode jdk_42_method_154_code 6 = .ok (.aload_n 0, 1) := by decide +kernel
theorem d13_7 : decode jdk_42_method_154_code 7 = .ok (.getfield 15, 3) := by decide +kernel
theorem d13_10 : decode jdk_42_method_154_code 10 = .ok (.ifCond .ne 7, 3) := by decide +kernel
theorem d13_17 : decode jdk_42_method_154_code 17 = .ok (.iconst 0, 1) := by decide +kernel
theorem d13_18 : decode jdk_42_method_154_code 18 = .ok (.ireturn, 1) := by decide +kernel
theorem own_ef13q1 (m : MethodId) (x0 : Addr) : entryFrame m #[(.ref x0)] 1 = mkF m 0 #[rv x0] [] := by first | (simp [entryFrame, mkF, argsToLocals, Value.category]; done) | rfl
def own_Q13q1 (Z : State) (a : Addr) (cs : Int32) (h0 : Heap) (n0 : Nat) (v : Option Value) (h : Heap) (L : List Loc) : Prop := v = some (.int 0) ∧ L = [] ∧ h = h0
set_option maxHeartbeats 40000000 in
theorem own_rm13q1 (l : Launch) (Z : State) (a0 : Array Value) (hw : ∀ d ∈ tables_1, d.before a0 Z = true) (ws : List Jvm.Cond) (a : Addr) (cs : Int32) (h0 : Heap) (n0 : Nat) (Z0 : n0 ≤ h0.size) (S_CS : Sta Z h0 "java/lang/String" "COMPACT_STRINGS" "Z" (.int cs)) (hcs : ¬ cs = (0 : Int32)) (F_coder : Fld Z h0 a "java/lang/String" "coder" "B" (.int 1)) :
    MetFree l own_y22 (head1 (Jvm.Cond.code own_y22 jdk_42_method_154_code 1 (some .boolean) :: ws) ({ frames := 0, cells := 0, slots := 0, locals := 0 } : Room)) (fun argv U => argv = #[(.ref a)] ∧ Z.Warmed39 U.vm ∧ U.heap = h0) (fun _ _ _ _ _ => True) (fun _ U o U' => ∃ v L, o = .returned v ∧ own_Q13q1 Z a cs h0 n0 v U'.heap L ∧ FrameEnd U o U' L ({ frames := 0, cells := 0, slots := 0, locals := 0 } : Room).cells ({ frames := 0, cells := 0, slots := 0, locals := 0 } : Room).slots) := by
  refine MetFree.of_bodySF (plainFor_of_name own_pn1) hisR ?_
  intro p e s m args below meth c s₁ Bd hml0 hP hK
  obtain ⟨rfl, hZ, hh⟩ := hP
  have hx := Bd.exec
  have hby := Bd.bytes
  have hml : c.maxLocals = 1 := hml0
  have hown : s.vm.findClass "java/lang/String" = some m.cls := findClass_of_methodNamed Bd.named
  have hnm := (name_of_methodNamed Bd.named Bd.method).1
  have X0 : Stand p l e ({ frames := 0, cells := 0, slots := 0, locals := 0 } : Room) s m #[(.ref a)] below meth c s₁ [] 0 0 := Stand.of_body Bd
  have e0 : s₁.heap = h0 := by rw [← hh, Bd.state]; rfl
  have N0 := Fr.nil n0
  have pre_ : own_G p e below (s₁.setTop (entryFrame m #[(.ref a)] 1)) s₁ m 0 #[rv a] [] := fun t k => castTop (own_ef13q1 m a) k
  obtain ⟨s0, hs0⟩ : ∃ z, z = (s₁.setTop (entryFrame m #[(.ref a)] 1)) := ⟨_, rfl⟩
  have pre0 : own_G p e below s0 s₁ m 0 #[rv a] [] := hs0 ▸ pre_
  rw [← hs0]
  obtain ⟨T1, X1, e1, st1⟩ := getS2 X0 hx hZ hown (host := "") (Or.inl (own_w hw 44 rfl)) Via.refl e0 S_CS (g := (mkF m 0 #[rv a] [])) rfl (hb hby d13_0)
  have S2 : own_G p e below s0 T1 m 3 #[rv a] [(.int cs)] := fun t kt => pre0 t (st1 _ kt)
  have hc3_3 : ¬ (cs = (0 : Int32)) := hcs
  have S4 : own_G p e below s0 T1 m 7 #[rv a] [(.ref a)] := fun t kt => by
    refine S2 t ?_
    refine w_ifNo X1 hx hby d13_3 ((if0 _ _).trans (feq hc3_3).1) ?_
    refine w_aloadN X1 hx hby d13_6 rfl rfl ?_
    exact kt
  obtain ⟨T5, X5, e5, st5⟩ := getF X1 hx hZ hown (host := "") (Or.inl (own_w hw 29 rfl)) Via.refl e1 F_coder (g := (mkF m 7 #[rv a] [(.ref a)])) rfl rfl (hb hby d13_7)
  have S6 : own_G p e below s0 T5 m 10 #[rv a] [(.int 1)] := fun t kt => S4 t (st5 _ kt)
  have hc10_7 : ¬ ((1 : Int32) = (0 : Int32)) := by decide
  have S8 : own_G p e below s0 T5 m 18 #[rv a] [(.int 0)] := fun t kt => by
    refine S6 t ?_
    refine w_ifYes X5 hx hby (pc' := 17) d13_10 ((if0 _ _).trans (feq hc10_7).2) (by decide) ?_
    refine w_iconst X5 hx hby d13_17 ?_
    exact kt
  obtain ⟨fs, hr, hrun, hended, hW, hsame⟩ := X5.leave (v := some (.int (nar .boolean (0 : Int32)))) (fun h => by rw [Bd.returns] at h; cases h)
  refine ⟨_, _, S8 _ ?_, hrun, hended, _, _, rfl, ?_, ⟨_, rfl⟩, hW, hsame.mono (by decide) (by decide)⟩
  · show Steps p.tables e below (T5.setTop (mkF m 18 #[rv a] [(.int 0)])) _
    exact retN X5 hx (t := .boolean) Bd.returns (by simp) (hb hby d13_18) hr
  · show own_Q13q1 Z a cs h0 n0 _ T5.heap _
    rw [e5]
    exact ⟨rfl, rfl, rfl⟩
theorem own_pd11 : parseMethodDescriptor "()B" = some ⟨[], some .byte⟩ := by decide +kernel
theorem d7_0 : decode jdk_42_method_54_code 0 = .ok (.aload_n 0, 1) := by decide +kernel
theorem d7_1 : decode jdk_42_method_54_code 1 = .ok (.getfield 9, 3) := by decide +kernel
theorem d7_4 : decode jdk_42_method_54_code 4 = .ok (.arraylength, 1) := by decide +kernel
theorem d7_5 : decode jdk_42_method_54_code 5 = .ok (.aload_n 0, 1) := by decide +kernel
theorem d7_6 : decode jdk_42_method_54_code 6 = .ok (.invokevirtual 335, 3) := by decide +kernel
theorem d7_9 : decode jdk_42_method_54_code 9 = .ok (.ishr, 1) := by decide +kernel
theorem d7_10 : decode jdk_42_method_54_code 10 = .ok (.ireturn, 1) := by decide +kernel
theorem own_ef7q1 (m : MethodId) (x0 : Addr) : entryFrame m #[(.ref x0)] 1 = mkF m 0 #[rv x0] [] := by first | (simp [entryFrame, mkF, argsToLocals, Value.category]; done) | rfl
def own_Q7q1 (Z : State) (a : Addr) (cs : Int32) (b : Addr) (kb : ClassId) (nn : Int32) (vs : List Value) (h0 : Heap) (n0 : Nat) (v : Option Value) (h : Heap) (L : List Loc) : Prop := v = some (.int (nn >>> ((1 : Int32) &&& 31))) ∧ L = [] ∧ h = h0
set_option maxHeartbeats 40000000 in
theorem own_rm7q1 (l : Launch) (Z : State) (a0 : Array Value) (hw : ∀ d ∈ tables_1, d.before a0 Z = true) (ws : List Jvm.Cond) (a : Addr) (cs : Int32) (b : Addr) (kb : ClassId) (nn : Int32) (vs : List Value) (h0 : Heap) (n0 : Nat) (Z0 : n0 ≤ h0.size) (E_a : Exa Z h0 a "java/lang/String") (S_CS : Sta Z h0 "java/lang/String" "COMPACT_STRINGS" "Z" (.int cs)) (hcs : ¬ cs = (0 : Int32)) (F_coder : Fld Z h0 a "java/lang/String" "coder" "B" (.int 1)) (F_value : Fld Z h0 a "java/lang/String" "value" "[B" (.ref b)) (V_b : Arv Z h0 b kb .byte nn vs (.int 0)) :
    MetFree l own_y24 (head1 (Jvm.Cond.code own_y24 jdk_42_method_54_code 1 (some .int) :: ws) ({ frames := 1, cells := 0, slots := 0, locals := 13 } : Room)) (fun argv U => argv = #[(.ref a)] ∧ Z.Warmed39 U.vm ∧ U.heap = h0) (fun _ _ _ _ _ => True) (fun _ U o U' => ∃ v L, o = .returned v ∧ own_Q7q1 Z a cs b kb nn vs h0 n0 v U'.heap L ∧ FrameEnd U o U' L ({ frames := 1, cells := 0, slots := 0, locals := 13 } : Room).cells ({ frames := 1, cells := 0, slots := 0, locals := 13 } : Room).slots) := by
  refine MetFree.of_bodySF (plainFor_of_name own_pn1) hisR ?_
  intro p e s m args below meth c s₁ Bd hml0 hP hK
  obtain ⟨rfl, hZ, hh⟩ := hP
  have hx := Bd.exec
  have hby := Bd.bytes
  have hml : c.maxLocals = 1 := hml0
  have hown : s.vm.findClass "java/lang/String" = some m.cls := findClass_of_methodNamed Bd.named
  have hnm := (name_of_methodNamed Bd.named Bd.method).1
  have X0 : Stand p l e ({ frames := 1, cells := 0, slots := 0, locals := 13 } : Room) s m #[(.ref a)] below meth c s₁ [] 0 0 := Stand.of_body Bd
  have e0 : s₁.heap = h0 := by rw [← hh, Bd.state]; rfl
  have N0 := Fr.nil n0
  have pre_ : own_G p e below (s₁.setTop (entryFrame m #[(.ref a)] 1)) s₁ m 0 #[rv a] [] := fun t k => castTop (own_ef7q1 m a) k
  obtain ⟨s0, hs0⟩ : ∃ z, z = (s₁.setTop (entryFrame m #[(.ref a)] 1)) := ⟨_, rfl⟩
  have pre0 : own_G p e below s0 s₁ m 0 #[rv a] [] := hs0 ▸ pre_
  rw [← hs0]
  have S1 : own_G p e below s0 s₁ m 1 #[rv a] [(.ref a)] := fun t kt => by
    refine pre0 t ?_
    refine w_aloadN X0 hx hby d7_0 rfl rfl ?_
    exact kt
  obtain ⟨T2, X2, e2, st2⟩ := getF X0 hx hZ hown (host := "") (Or.inl (own_w hw 28 rfl)) Via.refl e0 F_value (g := (mkF m 1 #[rv a] [(.ref a)])) rfl rfl (hb hby d7_1)
  have S3 : own_G p e below s0 T2 m 4 #[rv a] [(.ref b)] := fun t kt => S1 t (st2 _ kt)
  obtain ⟨cl4, Ar4, -, Sz4, Nn4, -, -⟩ := id V_b
  have S6 : own_G p e below s0 T2 m 6 #[rv a] [(.ref a), (.int nn)] := fun t kt => by
    refine S3 t ?_
    refine X2.arraylength hx (by rw [e2]; exact Ar4.1) (State.isArrayOf_alike hZ.alike Ar4.2.1) (g := (mkF m 4 #[rv a] [(.ref b)])) rfl rfl (hb hby d7_4) _ ?_
    rw [len_of Sz4 Nn4]
    refine w_aloadN X2 hx hby d7_5 rfl rfl ?_
    exact kt
  obtain ⟨cq7, kq7, q7a, q7b, q7c⟩ := isOf hZ e2 E_a
  obtain ⟨_, _, ⟨T7, L7, k7, n7⟩, -, X7, ⟨Lc7, hQ7, l7, y7, z7⟩, st7⟩ := X2.virtualBack hx (y := own_y25) (z := own_y25) hown (mvT hZ (own_w hw 39 rfl)) (mvT hZ (own_w hw 40 rfl)) (notFace_of_selects (args := #[]) (mvT hZ (own_w hw 42 rfl))) (mvT hZ (own_w hw 42 rfl)) (mvT hZ (own_w hw 41 rfl)) (by decide) (backOf (W := 1) (own_rm8q1 l Z a0 hw [] (a) (cs) h0 n0 Z0 S_CS hcs F_coder) hZ (own_w hw 43 rfl) (own_w hw 11 rfl) (by decide) (by decide)) q7a q7c (g := (mkF m 6 #[rv a] [(.ref a), (.int nn)])) rfl (by rw [hml]; rfl) (Steps.refl _) (argsL := []) (rest := [(.int nn)]) (lenOf own_pd11 rfl) rfl (by show 2 * 0 + _ ≤ _; exact Nat.le_of_eq rfl) (hb hby d7_6) (fun _ _ => ⟨rfl, e2, (by decide : 0 + 0 ≤ _), (by decide : 0 + 0 ≤ _)⟩)
  dsimp only [Pt.U, Pt.locs, Pt.cells, Pt.slots] at X7 l7 y7 z7 st7 hQ7
  subst l7 y7 z7
  obtain ⟨rfl, rfl, eq5⟩ := hQ7
  try rw [List.append_nil] at X7
  have S8 : own_G p e below s0 T7 m 9 #[rv a] [(.int 1), (.int nn)] := fun t kt => S6 t (st7.trans kt)
  have S9 : own_G p e below s0 T7 m 10 #[rv a] [(.int (nn >>> ((1 : Int32) &&& 31)))] := fun t kt => by
    refine S8 t ?_
    refine XS.ishr X7.here hx rfl (hb hby d7_9) rfl ?_
    exact kt
  obtain ⟨fs, hr, hrun, hended, hW, hsame⟩ := X7.leave (v := some (.int (nn >>> ((1 : Int32) &&& 31)))) (fun h => by rw [Bd.returns] at h; cases h)
  refine ⟨_, _, S9 _ ?_, hrun, hended, _, _, rfl, ?_, ⟨_, rfl⟩, hW, hsame.mono (by decide) (by decide)⟩
  · show Steps p.tables e below (T7.setTop (mkF m 10 #[rv a] [(.int (nn >>> ((1 : Int32) &&& 31)))])) _
    exact own_retI X7 hx Bd.returns (hb hby d7_10) hr
  · show own_Q7q1 Z a cs b kb nn vs h0 n0 _ T7.heap _
    rw [eq5]
    exact ⟨rfl, rfl, rfl⟩
theorem own_ef8q0 (m : MethodId) (x0 : Addr) : entryFrame m #[(.ref x0)] 1 = mkF m 0 #[rv x0] [] := by first | (simp [entryFrame, mkF, argsToLocals, Value.category]; done) | rfl
def own_Q8q0 (Z : State) (a : Addr) (cs : Int32) (h0 : Heap) (n0 : Nat) (v : Option Value) (h : Heap) (L : List Loc) : Prop := v = some (.int 0) ∧ L = [] ∧ h = h0
set_option maxHeartbeats 40000000 in
theorem own_rm8q0 (l : Launch) (Z : State) (a0 : Array Value) (hw : ∀ d ∈ tables_1, d.before a0 Z = true) (ws : List Jvm.Cond) (a : Addr) (cs : Int32) (h0 : Heap) (n0 : Nat) (Z0 : n0 ≤ h0.size) (S_CS : Sta Z h0 "java/lang/String" "COMPACT_STRINGS" "Z" (.int cs)) (hcs : ¬ cs = (0 : Int32)) (F_coder : Fld Z h0 a "java/lang/String" "coder" "B" (.int 0)) :
    MetFree l own_y25 (head1 (Jvm.Cond.code own_y25 jdk_42_method_152_code 1 (some .byte) :: ws) ({ frames := 0, cells := 0, slots := 0, locals := 0 } : Room)) (fun argv U => argv = #[(.ref a)] ∧ Z.Warmed39 U.vm ∧ U.heap = h0) (fun _ _ _ _ _ => True) (fun _ U o U' => ∃ v L, o = .returned v ∧ own_Q8q0 Z a cs h0 n0 v U'.heap L ∧ FrameEnd U o U' L ({ frames := 0, cells := 0, slots := 0, locals := 0 } : Room).cells ({ frames := 0, cells := 0, slots := 0, locals := 0 } : Room).slots) := by
  refine MetFree.of_bodySF (plainFor_of_name own_pn1) hisR ?_
  intro p e s m args below meth c s₁ Bd hml0 hP hK
  obtain ⟨rfl, hZ, hh⟩ := hP
  have hx := Bd.exec
  have hby := Bd.bytes
  have hml : c.maxLocals = 1 := hml0
  have hown : s.vm.findClass "java/lang/String" = some m.cls := findClass_of_methodNamed Bd.named
  have hnm := (name_of_methodNamed Bd.named Bd.method).1
  have X0 : Stand p l e ({ frames := 0, cells := 0, slots := 0, locals := 0 } : Room) s m #[(.ref a)] below meth c s₁ [] 0 0 := Stand.of_body Bd
  have e0 : s₁.heap = h0 := by rw [← hh, Bd.state]; rfl
  have N0 := Fr.nil n0
  have pre_ : own_G p e below (s₁.setTop (entryFrame m #[(.ref a)] 1)) s₁ m 0 #[rv a] [] := fun t k => castTop (own_ef8q0 m a) k
  obtain ⟨s0, hs0⟩ : ∃ z, z = (s₁.setTop (entryFrame m #[(.ref a)] 1)) := ⟨_, rfl⟩
  have pre0 : own_G p e below s0 s₁ m 0 #[rv a] [] := hs0 ▸ pre_
  rw [← hs0]
  obtain ⟨T1, X1, e1, st1⟩ := getS2 X0 hx hZ hown (host := "") (Or.inl (own_w hw 44 rfl)) Via.refl e0 S_CS (g := (mkF m 0 #[rv a] [])) rfl (hb hby d8_0)
  have S2 : own_G p e below s0 T1 m 3 #[rv a] [(.int cs)] := fun t kt => pre0 t (st1 _ kt)
  have hc3_3 : ¬ (cs = (0 : Int32)) := hcs
  have S4 : own_G p e below s0 T1 m 7 #[rv a] [(.ref a)] := fun t kt => by
    refine S2 t ?_
    refine w_ifNo X1 hx hby d8_3 ((if0 _ _).trans (feq hc3_3).1) ?_
    refine w_aloadN X1 hx hby d8_6 rfl rfl ?_
    exact kt
  obtain ⟨T5, X5, e5, st5⟩ := getF X1 hx hZ hown (host := "") (Or.inl (own_w hw 29 rfl)) Via.refl e1 F_coder (g := (mkF m 7 #[rv a] [(.ref a)])) rfl rfl (hb hby d8_7)
  have S6 : own_G p e below s0 T5 m 10 #[rv a] [(.int 0)] := fun t kt => S4 t (st5 _ kt)
  have S7 : own_G p e below s0 T5 m 14 #[rv a] [(.int 0)] := fun t kt => by
    refine S6 t ?_
    refine w_goto X5 hx hby (pc' := 14) d8_10 (by decide) ?_
    exact kt
  obtain ⟨fs, hr, hrun, hended, hW, hsame⟩ := X5.leave (v := some (.int (nar .byte (0 : Int32)))) (fun h => by rw [Bd.returns] at h; cases h)
  refine ⟨_, _, S7 _ ?_, hrun, hended, _, _, rfl, ?_, ⟨_, rfl⟩, hW, hsame.mono (by decide) (by decide)⟩
  · show Steps p.tables e below (T5.setTop (mkF m 14 #[rv a] [(.int 0)])) _
    exact retN X5 hx (t := .byte) Bd.returns (by simp) (hb hby d8_14) hr
  · show own_Q8q0 Z a cs h0 n0 _ T5.heap _
    rw [e5]
    exact ⟨rfl, rfl, rfl⟩
theorem d13_13 : decode jdk_42_method_154_code 13 = .ok (.iconst 1, 1) := by decide +kernel
theorem d13_14 : decode jdk_42_method_154_code 14 = .ok (.goto 4, 3) := by decide +kernel
theorem own_ef13q0 (m : MethodId) (x0 : Addr) : entryFrame m #[(.ref x0)] 1 = mkF m 0 #[rv x0] [] := by first | (simp [entryFrame, mkF, argsToLocals, Value.category]; done) | rfl
def own_Q13q0 (Z : State) (a : Addr) (cs : Int32) (h0 : Heap) (n0 : Nat) (v : Option Value) (h : Heap) (L : List Loc) : Prop := v = some (.int 1) ∧ L = [] ∧ h = h0
set_option maxHeartbeats 40000000 in
theorem own_rm13q0 (l : Launch) (Z : State) (a0 : Array Value) (hw : ∀ d ∈ tables_1, d.before a0 Z = true) (ws : List Jvm.Cond) (a : Addr) (cs : Int32) (h0 : Heap) (n0 : Nat) (Z0 : n0 ≤ h0.size) (S_CS : Sta Z h0 "java/lang/String" "COMPACT_STRINGS" "Z" (.int cs)) (hcs : ¬ cs = (0 : Int32)) (F_coder : Fld Z h0 a "java/lang/String" "coder" "B" (.int 0)) :
    MetFree l own_y22 (head1 (Jvm.Cond.code own_y22 jdk_42_method_154_code 1 (some .boolean) :: ws) ({ frames := 0, cells := 0, slots := 0, locals := 0 } : Room)) (fun argv U => argv = #[(.ref a)] ∧ Z.Warmed39 U.vm ∧ U.heap = h0) (fun _ _ _ _ _ => True) (fun _ U o U' => ∃ v L, o = .returned v ∧ own_Q13q0 Z a cs h0 n0 v U'.heap L ∧ FrameEnd U o U' L ({ frames := 0, cells := 0, slots := 0, locals := 0 } : Room).cells ({ frames := 0, cells := 0, slots := 0, locals := 0 } : Room).slots) := by
  refine MetFree.of_bodySF (plainFor_of_name own_pn1) hisR ?_
  intro p e s m args below meth c s₁ Bd hml0 hP hK
  obtain ⟨rfl, hZ, hh⟩ := hP
  have hx := Bd.exec
  have hby := Bd.bytes
  have hml : c.maxLocals = 1 := hml0
  have hown : s.vm.findClass "java/lang/String" = some m.cls := findClass_of_methodNamed Bd.named
  have hnm := (name_of_methodNamed Bd.named Bd.method).1
  have X0 : Stand p l e ({ frames := 0, cells := 0, slots := 0, locals := 0 } : Room) s m #[(.ref a)] below meth c s₁ [] 0 0 := Stand.of_body Bd
  have e0 : s₁.heap = h0 := by rw [← hh, Bd.state]; rfl
  have N0 := Fr.nil n0
  have pre_ : own_G p e below (s₁.setTop (entryFrame m #[(.ref a)] 1)) s₁ m 0 #[rv a] [] := fun t k => castTop (own_ef13q0 m a) k
  obtain ⟨s0, hs0⟩ : ∃ z, z = (s₁.setTop (entryFrame m #[(.ref a)] 1)) := ⟨_, rfl⟩
  have pre0 : own_G p e below s0 s₁ m 0 #[rv a] [] := hs0 ▸ pre_
  rw [← hs0]
  obtain ⟨T1, X1, e1, st1⟩ := getS2 X0 hx hZ hown (host := "") (Or.inl (own_w hw 44 rfl)) Via.refl e0 S_CS (g := (mkF m 0 #[rv a] [])) rfl (hb hby d13_0)
  have S2 : own_G p e below s0 T1 m 3 #[rv a] [(.int cs)] := fun t kt => pre0 t (st1 _ kt)
  have hc3_3 : ¬ (cs = (0 : Int32)) := hcs
  have S4 : own_G p e below s0 T1 m 7 #[rv a] [(.ref a)] := fun t kt => by
    refine S2 t ?_
    refine w_ifNo X1 hx hby d13_3 ((if0 _ _).trans (feq hc3_3).1) ?_
    refine w_aloadN X1 hx hby d13_6 rfl rfl ?_
    exact kt
  obtain ⟨T5, X5, e5, st5⟩ := getF X1 hx hZ hown (host := "") (Or.inl (own_w hw 29 rfl)) Via.refl e1 F_coder (g := (mkF m 7 #[rv a] [(.ref a)])) rfl rfl (hb hby d13_7)
  have S6 : own_G p e below s0 T5 m 10 #[rv a] [(.int 0)] := fun t kt => S4 t (st5 _ kt)
  have hc10_7 : (0 : Int32) = (0 : Int32) := by decide
  have S8 : own_G p e below s0 T5 m 18 #[rv a] [(.int 1)] := fun t kt => by
    refine S6 t ?_
    refine w_ifNo X5 hx hby d13_10 ((if0 _ _).trans (teq hc10_7).2) ?_
    refine w_iconst X5 hx hby d13_13 ?_
    refine w_goto X5 hx hby (pc' := 18) d13_14 (by decide) ?_
    exact kt
  obtain ⟨fs, hr, hrun, hended, hW, hsame⟩ := X5.leave (v := some (.int (nar .boolean (1 : Int32)))) (fun h => by rw [Bd.returns] at h; cases h)
  refine ⟨_, _, S8 _ ?_, hrun, hended, _, _, rfl, ?_, ⟨_, rfl⟩, hW, hsame.mono (by decide) (by decide)⟩
  · show Steps p.tables e below (T5.setTop (mkF m 18 #[rv a] [(.int 1)])) _
    exact retN X5 hx (t := .boolean) Bd.returns (by simp) (hb hby d13_18) hr
  · show own_Q13q0 Z a cs h0 n0 _ T5.heap _
    rw [e5]
    exact ⟨rfl, rfl, rfl⟩
theorem own_ef7q0 (m : MethodId) (x0 : Addr) : entryFrame m #[(.ref x0)] 1 = mkF m 0 #[rv x0] [] := by first | (simp [entryFrame, mkF, argsToLocals, Value.category]; done) | rfl
def own_Q7q0 (Z : State) (a : Addr) (cs : Int32) (b : Addr) (kb : ClassId) (nn : Int32) (vs : List Value) (h0 : Heap) (n0 : Nat) (v : Option Value) (h : Heap) (L : List Loc) : Prop := v = some (.int nn) ∧ L = [] ∧ h = h0
set_option maxHeartbeats 40000000 in
theorem own_rm7q0 (l : Launch) (Z : State) (a0 : Array Value) (hw : ∀ d ∈ tables_1, d.before a0 Z = true) (ws : List Jvm.Cond) (a : Addr) (cs : Int32) (b : Addr) (kb : ClassId) (nn : Int32) (vs : List Value) (h0 : Heap) (n0 : Nat) (Z0 : n0 ≤ h0.size) (E_a : Exa Z h0 a "java/lang/String") (S_CS : Sta Z h0 "java/lang/String" "COMPACT_STRINGS" "Z" (.int cs)) (hcs : ¬ cs = (0 : Int32)) (F_coder : Fld Z h0 a "java/lang/String" "coder" "B" (.int 0)) (F_value : Fld Z h0 a "java/lang/String" "value" "[B" (.ref b)) (V_b : Arv Z h0 b kb .byte nn vs (.int 0)) :
    MetFree l own_y24 (head1 (Jvm.Cond.code own_y24 jdk_42_method_54_code 1 (some .int) :: ws) ({ frames := 1, cells := 0, slots := 0, locals := 13 } : Room)) (fun argv U => argv = #[(.ref a)] ∧ Z.Warmed39 U.vm ∧ U.heap = h0) (fun _ _ _ _ _ => True) (fun _ U o U' => ∃ v L, o = .returned v ∧ own_Q7q0 Z a cs b kb nn vs h0 n0 v U'.heap L ∧ FrameEnd U o U' L ({ frames := 1, cells := 0, slots := 0, locals := 13 } : Room).cells ({ frames := 1, cells := 0, slots := 0, locals := 13 } : Room).slots) := by
  refine MetFree.of_bodySF (plainFor_of_name own_pn1) hisR ?_
  intro p e s m args below meth c s₁ Bd hml0 hP hK
  obtain ⟨rfl, hZ, hh⟩ := hP
  have hx := Bd.exec
  have hby := Bd.bytes
  have hml : c.maxLocals = 1 := hml0
  have hown : s.vm.findClass "java/lang/String" = some m.cls := findClass_of_methodNamed Bd.named
  have hnm := (name_of_methodNamed Bd.named Bd.method).1
  have X0 : Stand p l e ({ frames := 1, cells := 0, slots := 0, locals := 13 } : Room) s m #[(.ref a)] below meth c s₁ [] 0 0 := Stand.of_body Bd
  have e0 : s₁.heap = h0 := by rw [← hh, Bd.state]; rfl
  have N0 := Fr.nil n0
  have pre_ : own_G p e below (s₁.setTop (entryFrame m #[(.ref a)] 1)) s₁ m 0 #[rv a] [] := fun t k => castTop (own_ef7q0 m a) k
  obtain ⟨s0, hs0⟩ : ∃ z, z = (s₁.setTop (entryFrame m #[(.ref a)] 1)) := ⟨_, rfl⟩
  have pre0 : own_G p e below s0 s₁ m 0 #[rv a] [] := hs0 ▸ pre_
  rw [← hs0]
  have S1 : own_G p e below s0 s₁ m 1 #[rv a] [(.ref a)] := fun t kt => by
    refine pre0 t ?_
    refine w_aloadN X0 hx hby d7_0 rfl rfl ?_
    exact kt
  obtain ⟨T2, X2, e2, st2⟩ := getF X0 hx hZ hown (host := "") (Or.inl (own_w hw 28 rfl)) Via.refl e0 F_value (g := (mkF m 1 #[rv a] [(.ref a)])) rfl rfl (hb hby d7_1)
  have S3 : own_G p e below s0 T2 m 4 #[rv a] [(.ref b)] := fun t kt => S1 t (st2 _ kt)
  obtain ⟨cl4, Ar4, -, Sz4, Nn4, -, -⟩ := id V_b
  have S6 : own_G p e below s0 T2 m 6 #[rv a] [(.ref a), (.int nn)] := fun t kt => by
    refine S3 t ?_
    refine X2.arraylength hx (by rw [e2]; exact Ar4.1) (State.isArrayOf_alike hZ.alike Ar4.2.1) (g := (mkF m 4 #[rv a] [(.ref b)])) rfl rfl (hb hby d7_4) _ ?_
    rw [len_of Sz4 Nn4]
    refine w_aloadN X2 hx hby d7_5 rfl rfl ?_
    exact kt
  obtain ⟨cq7, kq7, q7a, q7b, q7c⟩ := isOf hZ e2 E_a
  obtain ⟨_, _, ⟨T7, L7, k7, n7⟩, -, X7, ⟨Lc7, hQ7, l7, y7, z7⟩, st7⟩ := X2.virtualBack hx (y := own_y25) (z := own_y25) hown (mvT hZ (own_w hw 39 rfl)) (mvT hZ (own_w hw 40 rfl)) (notFace_of_selects (args := #[]) (mvT hZ (own_w hw 42 rfl))) (mvT hZ (own_w hw 42 rfl)) (mvT hZ (own_w hw 41 rfl)) (by decide) (backOf (W := 1) (own_rm8q0 l Z a0 hw [] (a) (cs) h0 n0 Z0 S_CS hcs F_coder) hZ (own_w hw 43 rfl) (own_w hw 11 rfl) (by decide) (by decide)) q7a q7c (g := (mkF m 6 #[rv a] [(.ref a), (.int nn)])) rfl (by rw [hml]; rfl) (Steps.refl _) (argsL := []) (rest := [(.int nn)]) (lenOf own_pd11 rfl) rfl (by show 2 * 0 + _ ≤ _; exact Nat.le_of_eq rfl) (hb hby d7_6) (fun _ _ => ⟨rfl, e2, (by decide : 0 + 0 ≤ _), (by decide : 0 + 0 ≤ _)⟩)
  dsimp only [Pt.U, Pt.locs, Pt.cells, Pt.slots] at X7 l7 y7 z7 st7 hQ7
  subst l7 y7 z7
  obtain ⟨rfl, rfl, eq5⟩ := hQ7
  try rw [List.append_nil] at X7
  have S8 : own_G p e below s0 T7 m 9 #[rv a] [(.int 0), (.int nn)] := fun t kt => S6 t (st7.trans kt)
  have S9 : own_G p e below s0 T7 m 10 #[rv a] [(.int (nn >>> ((0 : Int32) &&& 31)))] := fun t kt => by
    refine S8 t ?_
    refine XS.ishr X7.here hx rfl (hb hby d7_9) rfl ?_
    exact kt
  obtain ⟨fs, hr, hrun, hended, hW, hsame⟩ := X7.leave (v := some (.int (nn >>> ((0 : Int32) &&& 31)))) (fun h => by rw [Bd.returns] at h; cases h)
  refine ⟨_, _, S9 _ ?_, hrun, hended, _, _, rfl, ?_, ⟨_, rfl⟩, hW, hsame.mono (by decide) (by decide)⟩
  · show Steps p.tables e below (T7.setTop (mkF m 10 #[rv a] [(.int (nn >>> ((0 : Int32) &&& 31)))])) _
    exact own_retI X7 hx Bd.returns (hb hby d7_10) hr
  · show own_Q7q0 Z a cs b kb nn vs h0 n0 _ T7.heap _
    rw [eq5]
    exact ⟨by rw [own_shr0], rfl, rfl⟩
def own_Q7 (Z : State) (a : Addr) (ls : List Int32) (n_ : Int32) (cs : Int32) (h0 : Heap) (n0 : Nat) (v : Option Value) (h : Heap) (L : List Loc) : Prop := v = some (.int n_) ∧ L = [] ∧ h = h0
set_option maxHeartbeats 4000000 in
theorem own_rm7 (l : Launch) (Z : State) (a0 : Array Value) (hw : ∀ d ∈ tables_1, d.before a0 Z = true) (ws : List Jvm.Cond) (a : Addr) (ls : List Int32) (n_ : Int32) (cs : Int32) (h0 : Heap) (n0 : Nat) (Z0 : n0 ≤ h0.size) (S_CS : Sta Z h0 "java/lang/String" "COMPACT_STRINGS" "Z" (.int cs)) (hcs : ¬ cs = (0 : Int32)) (hS : own_Str Z h0 a ls) (h5 : ls.length ≤ 5) (hnl : Int32.ofNat ls.length = n_) :
    MetFree l own_y24 (head1 (Jvm.Cond.code own_y24 jdk_42_method_54_code 1 (some .int) :: ws) ({ frames := 1, cells := 0, slots := 0, locals := 13 } : Room)) (fun argv U => argv = #[(.ref a)] ∧ Z.Warmed39 U.vm ∧ U.heap = h0) (fun _ _ _ _ _ => True) (fun _ U o U' => ∃ v L, o = .returned v ∧ own_Q7 Z a ls n_ cs h0 n0 v U'.heap L ∧ FrameEnd U o U' L ({ frames := 1, cells := 0, slots := 0, locals := 13 } : Room).cells ({ frames := 1, cells := 0, slots := 0, locals := 13 } : Room).slots) := by
  obtain ⟨E, tb, kt, Fv, ⟨Fc, A, -⟩ | ⟨Fc, A⟩⟩ := hS
  · refine own_mfW (own_rm7q0 l Z a0 hw ws a cs tb kt _ _ h0 n0 Z0 E S_CS hcs Fc Fv A) ?_
    rintro _ _ _ _ ⟨v, L, ho, ⟨hv, hL, hh⟩, hF⟩
    exact ⟨v, L, ho, ⟨hv.trans (congrArg (fun z : Int32 => some (Value.int z)) hnl), hL, hh⟩, hF⟩
  · refine own_mfW (own_rm7q1 l Z a0 hw ws a cs tb kt _ _ h0 n0 Z0 E S_CS hcs Fc Fv A) ?_
    rintro _ _ _ _ ⟨v, L, ho, ⟨hv, hL, hh⟩, hF⟩
    exact ⟨v, L, ho, ⟨hv.trans (congrArg (fun z : Int32 => some (Value.int z)) ((own_half h5).trans hnl)), hL, hh⟩, hF⟩
theorem own_pd12 : parseMethodDescriptor "(I[B)V" = some ⟨[.int, (.array .byte)], none⟩ := by decide +kernel
theorem d22_0 : decode jdk_52_method_83_code 0 = .ok (.iload_n 1, 1) := by decide +kernel
theorem d22_1 : decode jdk_52_method_83_code 1 = .ok (.aload_n 0, 1) := by decide +kernel
theorem d22_2 : decode jdk_52_method_83_code 2 = .ok (.invokestatic 67, 3) := by decide +kernel
theorem d22_5 : decode jdk_52_method_83_code 5 = .ok (.aload_n 0, 1) := by decide +kernel
theorem d22_6 : decode jdk_52_method_83_code 6 = .ok (.iload_n 1, 1) := by decide +kernel
theorem d22_7 : decode jdk_52_method_83_code 7 = .ok (.invokestatic 71, 3) := by decide +kernel
theorem d22_10 : decode jdk_52_method_83_code 10 = .ok (.ireturn, 1) := by decide +kernel
theorem own_ef22 (m : MethodId) (x0 : Addr) (x1 : Int32) : entryFrame m #[(.ref x0), (.int x1)] 2 = mkF m 0 #[rv x0, iv x1] [] := by first | (simp [entryFrame, mkF, argsToLocals, Value.category]; done) | rfl
def own_Q22 (Z : State) (b : Addr) (ix : Int32) (kb : ClassId) (nn : Int32) (vs : List Value) (i_ : Nat) (c_ : Int32) (fm : Value) (h0 : Heap) (n0 : Nat) (v : Option Value) (h : Heap) (L : List Loc) : Prop := v = some (.int c_) ∧ L = [] ∧ h = h0
set_option maxHeartbeats 40000000 in
theorem own_rm22 (l : Launch) (Z : State) (a0 : Array Value) (hw : ∀ d ∈ tables_1, d.before a0 Z = true) (ws : List Jvm.Cond) (b : Addr) (ix : Int32) (kb : ClassId) (nn : Int32) (vs : List Value) (i_ : Nat) (c_ : Int32) (fm : Value) (h0 : Heap) (n0 : Nat) (Z0 : n0 ≤ h0.size) (V_b : Arv Z h0 b kb .byte nn vs (.int 0)) (S_FM : Sta Z h0 own_s1 "SIOOBE_FORMATTER" own_s0 fm) (hfm : own_fm fm) (S_AD : Sta Z h0 own_s2 own_s3 "Z" (.int 1)) (S_HI : Sta Z h0 own_s2 "HI_BYTE_SHIFT" "I" (.int 0)) (S_LO : Sta Z h0 own_s2 "LO_BYTE_SHIFT" "I" (.int 8)) (hbc : own_ch c_) (hix : ix = Int32.ofNat i_) (h5 : i_ ≤ 5) (hl_ : Int32.ofNat (2 * i_ + 1) < nn) (hx_ : vs.getD (2 * i_) (.int 0) = .int (own_lo c_)) (hy_ : vs.getD (2 * i_ + 1) (.int 0) = .int (own_hi c_)) (h1 : ¬ ix < (0 : Int32)) (hm_ : ix < (nn >>> ((1 : Int32) &&& 31))) :
    MetFree l own_y18 (head1 (Jvm.Cond.code own_y18 jdk_52_method_83_code 2 (some .char) :: ws) ({ frames := 3, cells := 0, slots := 0, locals := 40 } : Room)) (fun argv U => argv = #[(.ref b), (.int ix)] ∧ Z.Warmed39 U.vm ∧ U.heap = h0) (fun _ _ _ _ _ => True) (fun _ U o U' => ∃ v L, o = .returned v ∧ own_Q22 Z b ix kb nn vs i_ c_ fm h0 n0 v U'.heap L ∧ FrameEnd U o U' L ({ frames := 3, cells := 0, slots := 0, locals := 40 } : Room).cells ({ frames := 3, cells := 0, slots := 0, locals := 40 } : Room).slots) := by
  refine MetFree.of_bodySF (plainFor_of_name own_pn2) hisR ?_
  intro p e s m args below meth c s₁ Bd hml0 hP hK
  obtain ⟨rfl, hZ, hh⟩ := hP
  have hx := Bd.exec
  have hby := Bd.bytes
  have hml : c.maxLocals = 2 := hml0
  have hown : s.vm.findClass own_s2 = some m.cls := findClass_of_methodNamed Bd.named
  have hnm := (name_of_methodNamed Bd.named Bd.method).1
  have X0 : Stand p l e ({ frames := 3, cells := 0, slots := 0, locals := 40 } : Room) s m #[(.ref b), (.int ix)] below meth c s₁ [] 0 0 := Stand.of_body Bd
  have e0 : s₁.heap = h0 := by rw [← hh, Bd.state]; rfl
  have N0 := Fr.nil n0
  have pre_ : own_G p e below (s₁.setTop (entryFrame m #[(.ref b), (.int ix)] 2)) s₁ m 0 #[rv b, iv ix] [] := fun t k => castTop (own_ef22 m b ix) k
  obtain ⟨s0, hs0⟩ : ∃ z, z = (s₁.setTop (entryFrame m #[(.ref b), (.int ix)] 2)) := ⟨_, rfl⟩
  have pre0 : own_G p e below s0 s₁ m 0 #[rv b, iv ix] [] := hs0 ▸ pre_
  rw [← hs0]
  have S2 : own_G p e below s0 s₁ m 2 #[rv b, iv ix] [(.ref b), (.int ix)] := fun t kt => by
    refine pre0 t ?_
    refine w_iloadN X0 hx hby d22_0 rfl ?_
    refine w_aloadN X0 hx hby d22_1 rfl rfl ?_
    exact kt
  obtain ⟨_, _, ⟨T3, L3, k3, n3⟩, -, X3, ⟨Lc3, hQ3, l3, y3, z3⟩, st3⟩ := Jvm.LawKit.callS X0 hx (y := own_y11) hown (mvT hZ (own_w hw 100 rfl)) (mvT hZ (own_w hw 101 rfl)) (mvT hZ (own_w hw 47 rfl)) (mvT hZ (own_w hw 102 rfl)) (by decide) (backOf (W := 0) (own_rm23 l Z a0 hw [] (ix) (b) (kb) (nn) (vs) (fm) h0 n0 Z0 V_b S_FM hfm h1 hm_) hZ (own_w hw 102 rfl) (own_w hw 47 rfl) (by decide) (by decide)) (g := (mkF m 2 #[rv b, iv ix] [(.ref b), (.int ix)])) rfl (by rw [hml]; rfl) (argsL := [(.int ix), (.ref b)]) (rest := []) (lenOf own_pd12 rfl) rfl (by show 2 * 0 + _ ≤ _; exact Nat.le_of_eq rfl) (hb hby d22_2) (fun _ _ => ⟨rfl, e0, (by decide : 0 + 0 ≤ _), (by decide : 0 + 0 ≤ _)⟩)
  dsimp only [Pt.U, Pt.locs, Pt.cells, Pt.slots] at X3 l3 y3 z3 st3 hQ3
  subst l3 y3 z3
  obtain ⟨rfl, rfl, eq1⟩ := hQ3
  try rw [List.append_nil] at X3
  have S4 : own_G p e below s0 T3 m 5 #[rv b, iv ix] [] := fun t kt => S2 t (st3 _ kt)
  have S6 : own_G p e below s0 T3 m 7 #[rv b, iv ix] [(.int ix), (.ref b)] := fun t kt => by
    refine S4 t ?_
    refine w_aloadN X3 hx hby d22_5 rfl rfl ?_
    refine w_iloadN X3 hx hby d22_6 rfl ?_
    exact kt
  obtain ⟨_, _, ⟨T7, L7, k7, n7⟩, -, X7, ⟨Lc7, hQ7, l7, y7, z7⟩, st7⟩ := Jvm.LawKit.callS X3 hx (y := own_y17) hown (mvT hZ (own_w hw 94 rfl)) (mvT hZ (own_w hw 95 rfl)) (mvT hZ (own_w hw 47 rfl)) (mvT hZ (own_w hw 96 rfl)) (by decide) (backOf (W := 0) (own_rm21 l Z a0 hw [] (b) (ix) (kb) (nn) (vs) (i_) (c_) h0 n0 Z0 V_b S_AD S_HI S_LO hbc hix h5 hl_ hx_ hy_) hZ (own_w hw 96 rfl) (own_w hw 47 rfl) (by decide) (by decide)) (g := (mkF m 7 #[rv b, iv ix] [(.int ix), (.ref b)])) rfl (by rw [hml]; rfl) (argsL := [(.ref b), (.int ix)]) (rest := []) (lenOf own_pd8 rfl) rfl (by show 2 * 0 + _ ≤ _; exact Nat.le_of_eq rfl) (hb hby d22_7) (fun _ _ => ⟨rfl, eq1, (by decide : 0 + 0 ≤ _), (by decide : 0 + 0 ≤ _)⟩)
  dsimp only [Pt.U, Pt.locs, Pt.cells, Pt.slots] at X7 l7 y7 z7 st7 hQ7
  subst l7 y7 z7
  obtain ⟨rfl, rfl, eq5⟩ := hQ7
  try rw [List.append_nil] at X7
  have S8 : own_G p e below s0 T7 m 10 #[rv b, iv ix] [(.int c_)] := fun t kt => S6 t (st7 _ kt)
  obtain ⟨fs, hr, hrun, hended, hW, hsame⟩ := X7.leave (v := some (.int (nar .char c_))) (fun h => by rw [Bd.returns] at h; cases h)
  refine ⟨_, _, S8 _ ?_, hrun, hended, _, _, rfl, ?_, ⟨_, rfl⟩, hW, hsame.mono (by decide) (by decide)⟩
  · show Steps p.tables e below (T7.setTop (mkF m 10 #[rv b, iv ix] [(.int c_)])) _
    exact retN X7 hx (t := .char) Bd.returns (by simp) (hb hby d22_10) hr
  · show own_Q22 Z b ix kb nn vs i_ c_ fm h0 n0 _ T7.heap _
    rw [eq5]
    exact ⟨(congrArg (fun z : Int32 => some (Value.int z)) (own_ncid hbc)), rfl, rfl⟩
theorem d14_0 : decode jdk_43_method_2_code 0 = .ok (.iload_n 1, 1) := by decide +kernel
theorem d14_1 : decode jdk_43_method_2_code 1 = .ok (.aload_n 0, 1) := by decide +kernel
theorem d14_2 : decode jdk_43_method_2_code 2 = .ok (.arraylength, 1) := by decide +kernel
theorem d14_3 : decode jdk_43_method_2_code 3 = .ok (.invokestatic 9, 3) := by decide +kernel
theorem d14_6 : decode jdk_43_method_2_code 6 = .ok (.aload_n 0, 1) := by decide +kernel
theorem d14_7 : decode jdk_43_method_2_code 7 = .ok (.iload_n 1, 1) := by decide +kernel
theorem d14_8 : decode jdk_43_method_2_code 8 = .ok (.baload, 1) := by decide +kernel
theorem d14_9 : decode jdk_43_method_2_code 9 = .ok (.sipush 255, 3) := by decide +kernel
theorem d14_12 : decode jdk_43_method_2_code 12 = .ok (.iand, 1) := by decide +kernel
theorem d14_13 : decode jdk_43_method_2_code 13 = .ok (.i2c, 1) := by decide +kernel
theorem d14_14 : decode jdk_43_method_2_code 14 = .ok (.ireturn, 1) := by decide +kernel
theorem own_ef14 (m : MethodId) (x0 : Addr) (x1 : Int32) : entryFrame m #[(.ref x0), (.int x1)] 2 = mkF m 0 #[rv x0, iv x1] [] := by first | (simp [entryFrame, mkF, argsToLocals, Value.category]; done) | rfl
def own_Q14 (Z : State) (b : Addr) (ix : Int32) (kb : ClassId) (nn : Int32) (vs : List Value) (c_ : Int32) (fm : Value) (h0 : Heap) (n0 : Nat) (v : Option Value) (h : Heap) (L : List Loc) : Prop := v = some (.int c_) ∧ L = [] ∧ h = h0
theorem own_pn3 : plainName "java/lang/StringLatin1" = true := by first | (simp [plainName, overriddenIn]; done) | decide +kernel
set_option maxHeartbeats 40000000 in
theorem own_rm14 (l : Launch) (Z : State) (a0 : Array Value) (hw : ∀ d ∈ tables_1, d.before a0 Z = true) (ws : List Jvm.Cond) (b : Addr) (ix : Int32) (kb : ClassId) (nn : Int32) (vs : List Value) (c_ : Int32) (fm : Value) (h0 : Heap) (n0 : Nat) (Z0 : n0 ≤ h0.size) (V_b : Arv Z h0 b kb .byte nn vs (.int 0)) (S_FM : Sta Z h0 own_s1 "SIOOBE_FORMATTER" own_s0 fm) (hfm : own_fm fm) (hbc : own_ch c_) (hlt : ¬ (255 : Int32) < c_) (hx_ : vs.getD ix.toNatClampNeg (.int 0) = .int (own_lo c_)) (h1 : ¬ ix < (0 : Int32)) (hl_ : ix < nn) :
    MetFree l own_y16 (head1 (Jvm.Cond.code own_y16 jdk_43_method_2_code 2 (some .char) :: ws) ({ frames := 2, cells := 0, slots := 0, locals := 27 } : Room)) (fun argv U => argv = #[(.ref b), (.int ix)] ∧ Z.Warmed39 U.vm ∧ U.heap = h0) (fun _ _ _ _ _ => True) (fun _ U o U' => ∃ v L, o = .returned v ∧ own_Q14 Z b ix kb nn vs c_ fm h0 n0 v U'.heap L ∧ FrameEnd U o U' L ({ frames := 2, cells := 0, slots := 0, locals := 27 } : Room).cells ({ frames := 2, cells := 0, slots := 0, locals := 27 } : Room).slots) := by
  refine MetFree.of_bodySF (plainFor_of_name own_pn3) hisR ?_
  intro p e s m args below meth c s₁ Bd hml0 hP hK
  obtain ⟨rfl, hZ, hh⟩ := hP
  have hx := Bd.exec
  have hby := Bd.bytes
  have hml : c.maxLocals = 2 := hml0
  have hown : s.vm.findClass "java/lang/StringLatin1" = some m.cls := findClass_of_methodNamed Bd.named
  have hnm := (name_of_methodNamed Bd.named Bd.method).1
  have X0 : Stand p l e ({ frames := 2, cells := 0, slots := 0, locals := 27 } : Room) s m #[(.ref b), (.int ix)] below meth c s₁ [] 0 0 := Stand.of_body Bd
  have e0 : s₁.heap = h0 := by rw [← hh, Bd.state]; rfl
  have N0 := Fr.nil n0
  have pre_ : own_G p e below (s₁.setTop (entryFrame m #[(.ref b), (.int ix)] 2)) s₁ m 0 #[rv b, iv ix] [] := fun t k => castTop (own_ef14 m b ix) k
  obtain ⟨s0, hs0⟩ : ∃ z, z = (s₁.setTop (entryFrame m #[(.ref b), (.int ix)] 2)) := ⟨_, rfl⟩
  have pre0 : own_G p e below s0 s₁ m 0 #[rv b, iv ix] [] := hs0 ▸ pre_
  rw [← hs0]
  have S1 : own_G p e below s0 s₁ m 2 #[rv b, iv ix] [(.ref b), (.int ix)] := fun t kt => by
    refine pre0 t ?_
    refine w_iloadN X0 hx hby d14_0 rfl ?_
    refine w_aloadN X0 hx hby d14_1 rfl rfl ?_
    exact kt
  obtain ⟨cl2, Ar2, -, Sz2, Nn2, -, -⟩ := id V_b
  have S4 : own_G p e below s0 s₁ m 3 #[rv b, iv ix] [(.int nn), (.int ix)] := fun t kt => by
    refine S1 t ?_
    refine X0.arraylength hx (by rw [e0]; exact Ar2.1) (State.isArrayOf_alike hZ.alike Ar2.2.1) (g := (mkF m 2 #[rv b, iv ix] [(.ref b), (.int ix)])) rfl rfl (hb hby d14_2) _ ?_
    rw [len_of Sz2 Nn2]
    exact kt
  obtain ⟨_, _, ⟨T5, L5, k5, n5⟩, -, X5, ⟨Lc5, hQ5, l5, y5, z5⟩, st5⟩ := Jvm.LawKit.callS X0 hx (y := own_y20) hown (mvT hZ (own_w hw 69 rfl)) (mvT hZ (own_w hw 70 rfl)) (mvT hZ (own_w hw 11 rfl)) (mvT hZ (own_w hw 71 rfl)) (by decide) (backOf (W := 0) (own_rm15 l Z a0 hw [] (ix) (nn) (fm) h0 n0 Z0 S_FM hfm h1 hl_) hZ (own_w hw 71 rfl) (own_w hw 11 rfl) (by decide) (by decide)) (g := (mkF m 3 #[rv b, iv ix] [(.int nn), (.int ix)])) rfl (by rw [hml]; rfl) (argsL := [(.int ix), (.int nn)]) (rest := []) (lenOf own_pd2 rfl) rfl (by show 2 * 0 + _ ≤ _; exact Nat.le_of_eq rfl) (hb hby d14_3) (fun _ _ => ⟨rfl, e0, (by decide : 0 + 0 ≤ _), (by decide : 0 + 0 ≤ _)⟩)
  dsimp only [Pt.U, Pt.locs, Pt.cells, Pt.slots] at X5 l5 y5 z5 st5 hQ5
  subst l5 y5 z5
  obtain ⟨rfl, rfl, eq3⟩ := hQ5
  try rw [List.append_nil] at X5
  have S6 : own_G p e below s0 T5 m 6 #[rv b, iv ix] [] := fun t kt => S4 t (st5 _ kt)
  have S8 : own_G p e below s0 T5 m 8 #[rv b, iv ix] [(.int ix), (.ref b)] := fun t kt => by
    refine S6 t ?_
    refine w_aloadN X5 hx hby d14_6 rfl rfl ?_
    refine w_iloadN X5 hx hby d14_7 rfl ?_
    exact kt
  obtain ⟨cl7, Ar7, -, Sz7, Nn7, Hh7, -⟩ := id V_b
  have hin7 : ¬ (ix < 0 ∨ cl7.slots.size ≤ (ix).toNatClampNeg) := inb_of Sz7 ⟨h1, hl_⟩
  have S9 : own_G p e below s0 T5 m 14 #[rv b, iv ix] [(.int (((own_lo c_) &&& (255 : Int32)).toUInt32.toUInt16.toUInt32.toInt32))] := fun t kt => by
    refine S8 t ?_
    refine X5.baloadBytes hx (j := ix) (v := (.int (own_lo c_))) (by rw [eq3]; exact Ar7.1) (State.isArrayOf_alike hZ.alike Ar7.2.1) Ar7.2.2 hin7 (Has.at Hh7 hin7 hx_) (g := (mkF m 8 #[rv b, iv ix] [(.int ix), (.ref b)])) rfl rfl (hb hby d14_8) _ ?_
    refine w_sipush X5 hx hby d14_9 ?_
    refine w_iand X5 hx hby d14_12 ?_
    refine XS.i2c X5.here hx rfl (hb hby d14_13) rfl ?_
    exact kt
  obtain ⟨fs, hr, hrun, hended, hW, hsame⟩ := X5.leave (v := some (.int (nar .char (((own_lo c_) &&& (255 : Int32)).toUInt32.toUInt16.toUInt32.toInt32)))) (fun h => by rw [Bd.returns] at h; cases h)
  refine ⟨_, _, S9 _ ?_, hrun, hended, _, _, rfl, ?_, ⟨_, rfl⟩, hW, hsame.mono (by decide) (by decide)⟩
  · show Steps p.tables e below (T5.setTop (mkF m 14 #[rv b, iv ix] [(.int (((own_lo c_) &&& (255 : Int32)).toUInt32.toUInt16.toUInt32.toInt32))])) _
    exact retN X5 hx (t := .char) Bd.returns (by simp) (hb hby d14_14) hr
  · show own_Q14 Z b ix kb nn vs c_ fm h0 n0 _ T5.heap _
    rw [eq3]
    exact ⟨(congrArg (fun z : Int32 => some (Value.int z)) (own_latv hbc hlt)), rfl, rfl⟩
theorem own_pd13 : parseMethodDescriptor "()Z" = some ⟨[], some .boolean⟩ := by decide +kernel
theorem d12_0 : decode jdk_42_method_56_code 0 = .ok (.aload_n 0, 1) := by decide +kernel
theorem d12_1 : decode jdk_42_method_56_code 1 = .ok (.invokevirtual 492, 3) := by decide +kernel
theorem d12_4 : decode jdk_42_method_56_code 4 = .ok (.ifCond .eq 12, 3) := by decide +kernel
theorem d12_16 : decode jdk_42_method_56_code 16 = .ok (.aload_n 0, 1) := by decide +kernel
theorem d12_17 : decode jdk_42_method_56_code 17 = .ok (.getfield 9, 3) := by decide +kernel
theorem d12_20 : decode jdk_42_method_56_code 20 = .ok (.iload_n 1, 1) := by decide +kernel
theorem d12_21 : decode jdk_42_method_56_code 21 = .ok (.invokestatic 498, 3) := by decide +kernel
theorem d12_24 : decode jdk_42_method_56_code 24 = .ok (.ireturn, 1) := by decide +kernel
theorem own_ef12q1 (m : MethodId) (x0 : Addr) (x1 : Int32) : entryFrame m #[(.ref x0), (.int x1)] 2 = mkF m 0 #[rv x0, iv x1] [] := by first | (simp [entryFrame, mkF, argsToLocals, Value.category]; done) | rfl
def own_Q12q1 (Z : State) (a : Addr) (ix : Int32) (cs : Int32) (b : Addr) (kb : ClassId) (nn : Int32) (vs : List Value) (i_ : Nat) (c_ : Int32) (fm : Value) (h0 : Heap) (n0 : Nat) (v : Option Value) (h : Heap) (L : List Loc) : Prop := v = some (.int c_) ∧ L = [] ∧ h = h0
set_option maxHeartbeats 40000000 in
theorem own_rm12q1 (l : Launch) (Z : State) (a0 : Array Value) (hw : ∀ d ∈ tables_1, d.before a0 Z = true) (ws : List Jvm.Cond) (a : Addr) (ix : Int32) (cs : Int32) (b : Addr) (kb : ClassId) (nn : Int32) (vs : List Value) (i_ : Nat) (c_ : Int32) (fm : Value) (h0 : Heap) (n0 : Nat) (Z0 : n0 ≤ h0.size) (E_a : Exa Z h0 a "java/lang/String") (S_CS : Sta Z h0 "java/lang/String" "COMPACT_STRINGS" "Z" (.int cs)) (hcs : ¬ cs = (0 : Int32)) (F_coder : Fld Z h0 a "java/lang/String" "coder" "B" (.int 1)) (F_value : Fld Z h0 a "java/lang/String" "value" "[B" (.ref b)) (V_b : Arv Z h0 b kb .byte nn vs (.int 0)) (S_FM : Sta Z h0 own_s1 "SIOOBE_FORMATTER" own_s0 fm) (hfm : own_fm fm) (S_AD : Sta Z h0 own_s2 own_s3 "Z" (.int 1)) (S_HI : Sta Z h0 own_s2 "HI_BYTE_SHIFT" "I" (.int 0)) (S_LO : Sta Z h0 own_s2 "LO_BYTE_SHIFT" "I" (.int 8)) (hbc : own_ch c_) (hix : ix = Int32.ofNat i_) (h5 : i_ ≤ 5) (hl_ : Int32.ofNat (2 * i_ + 1) < nn) (hx_ : vs.getD (2 * i_) (.int 0) = .int (own_lo c_)) (hy_ : vs.getD (2 * i_ + 1) (.int 0) = .int (own_hi c_)) (h1 : ¬ ix < (0 : Int32)) (hm_ : ix < (nn >>> ((1 : Int32) &&& 31))) :
    MetFree l own_y23 (head1 (Jvm.Cond.code own_y23 jdk_42_method_56_code 2 (some .char) :: ws) ({ frames := 4, cells := 0, slots := 0, locals := 53 } : Room)) (fun argv U => argv = #[(.ref a), (.int ix)] ∧ Z.Warmed39 U.vm ∧ U.heap = h0) (fun _ _ _ _ _ => True) (fun _ U o U' => ∃ v L, o = .returned v ∧ own_Q12q1 Z a ix cs b kb nn vs i_ c_ fm h0 n0 v U'.heap L ∧ FrameEnd U o U' L ({ frames := 4, cells := 0, slots := 0, locals := 53 } : Room).cells ({ frames := 4, cells := 0, slots := 0, locals := 53 } : Room).slots) := by
  refine MetFree.of_bodySF (plainFor_of_name own_pn1) hisR ?_
  intro p e s m args below meth c s₁ Bd hml0 hP hK
  obtain ⟨rfl, hZ, hh⟩ := hP
  have hx := Bd.exec
  have hby := Bd.bytes
  have hml : c.maxLocals = 2 := hml0
  have hown : s.vm.findClass "java/lang/String" = some m.cls := findClass_of_methodNamed Bd.named
  have hnm := (name_of_methodNamed Bd.named Bd.method).1
  have X0 : Stand p l e ({ frames := 4, cells := 0, slots := 0, locals := 53 } : Room) s m #[(.ref a), (.int ix)] below meth c s₁ [] 0 0 := Stand.of_body Bd
  have e0 : s₁.heap = h0 := by rw [← hh, Bd.state]; rfl
  have N0 := Fr.nil n0
  have pre_ : own_G p e below (s₁.setTop (entryFrame m #[(.ref a), (.int ix)] 2)) s₁ m 0 #[rv a, iv ix] [] := fun t k => castTop (own_ef12q1 m a ix) k
  obtain ⟨s0, hs0⟩ : ∃ z, z = (s₁.setTop (entryFrame m #[(.ref a), (.int ix)] 2)) := ⟨_, rfl⟩
  have pre0 : own_G p e below s0 s₁ m 0 #[rv a, iv ix] [] := hs0 ▸ pre_
  rw [← hs0]
  have S2 : own_G p e below s0 s₁ m 1 #[rv a, iv ix] [(.ref a)] := fun t kt => by
    refine pre0 t ?_
    refine w_aloadN X0 hx hby d12_0 rfl rfl ?_
    exact kt
  obtain ⟨cq3, kq3, q3a, q3b, q3c⟩ := isOf hZ e0 E_a
  obtain ⟨_, _, ⟨T3, L3, k3, n3⟩, -, X3, ⟨Lc3, hQ3, l3, y3, z3⟩, st3⟩ := X0.virtualBack hx (y := own_y22) (z := own_y22) hown (mvT hZ (own_w hw 60 rfl)) (mvT hZ (own_w hw 61 rfl)) (notFace_of_selects (args := #[]) (mvT hZ (own_w hw 63 rfl))) (mvT hZ (own_w hw 63 rfl)) (mvT hZ (own_w hw 62 rfl)) (by decide) (backOf (W := 0) (own_rm13q1 l Z a0 hw [] (a) (cs) h0 n0 Z0 S_CS hcs F_coder) hZ (own_w hw 64 rfl) (own_w hw 11 rfl) (by decide) (by decide)) q3a q3c (g := (mkF m 1 #[rv a, iv ix] [(.ref a)])) rfl (by rw [hml]; rfl) (Steps.refl _) (argsL := []) (rest := []) (lenOf own_pd13 rfl) rfl (by show 2 * 0 + _ ≤ _; exact Nat.le_of_eq rfl) (hb hby d12_1) (fun _ _ => ⟨rfl, e0, (by decide : 0 + 0 ≤ _), (by decide : 0 + 0 ≤ _)⟩)
  dsimp only [Pt.U, Pt.locs, Pt.cells, Pt.slots] at X3 l3 y3 z3 st3 hQ3
  subst l3 y3 z3
  obtain ⟨rfl, rfl, eq1⟩ := hQ3
  try rw [List.append_nil] at X3
  have S4 : own_G p e below s0 T3 m 4 #[rv a, iv ix] [(.int 0)] := fun t kt => S2 t (st3.trans kt)
  have hc4_5 : (0 : Int32) = (0 : Int32) := by decide
  have S6 : own_G p e below s0 T3 m 17 #[rv a, iv ix] [(.ref a)] := fun t kt => by
    refine S4 t ?_
    refine w_ifYes X3 hx hby (pc' := 16) d12_4 ((if0 _ _).trans (teq hc4_5).1) (by decide) ?_
    refine w_aloadN X3 hx hby d12_16 rfl rfl ?_
    exact kt
  obtain ⟨T7, X7, e7, st7⟩ := getF X3 hx hZ hown (host := "") (Or.inl (own_w hw 28 rfl)) Via.refl eq1 F_value (g := (mkF m 17 #[rv a, iv ix] [(.ref a)])) rfl rfl (hb hby d12_17)
  have S8 : own_G p e below s0 T7 m 20 #[rv a, iv ix] [(.ref b)] := fun t kt => S6 t (st7 _ kt)
  have S10 : own_G p e below s0 T7 m 21 #[rv a, iv ix] [(.int ix), (.ref b)] := fun t kt => by
    refine S8 t ?_
    refine w_iloadN X7 hx hby d12_20 rfl ?_
    exact kt
  obtain ⟨_, _, ⟨T11, L11, k11, n11⟩, -, X11, ⟨Lc11, hQ11, l11, y11, z11⟩, st11⟩ := Jvm.LawKit.callS X7 hx (y := own_y18) hown (mvT hZ (own_w hw 97 rfl)) (mvT hZ (own_w hw 98 rfl)) (mvT hZ (own_w hw 47 rfl)) (mvT hZ (own_w hw 99 rfl)) (by decide) (backOf (W := 0) (own_rm22 l Z a0 hw [] (b) (ix) (kb) (nn) (vs) (i_) (c_) (fm) h0 n0 Z0 V_b S_FM hfm S_AD S_HI S_LO hbc hix h5 hl_ hx_ hy_ h1 hm_) hZ (own_w hw 99 rfl) (own_w hw 47 rfl) (by decide) (by decide)) (g := (mkF m 21 #[rv a, iv ix] [(.int ix), (.ref b)])) rfl (by rw [hml]; rfl) (argsL := [(.ref b), (.int ix)]) (rest := []) (lenOf own_pd8 rfl) rfl (by show 2 * 0 + _ ≤ _; exact Nat.le_of_eq rfl) (hb hby d12_21) (fun _ _ => ⟨rfl, e7, (by decide : 0 + 0 ≤ _), (by decide : 0 + 0 ≤ _)⟩)
  dsimp only [Pt.U, Pt.locs, Pt.cells, Pt.slots] at X11 l11 y11 z11 st11 hQ11
  subst l11 y11 z11
  obtain ⟨rfl, rfl, eq9⟩ := hQ11
  try rw [List.append_nil] at X11
  have S12 : own_G p e below s0 T11 m 24 #[rv a, iv ix] [(.int c_)] := fun t kt => S10 t (st11 _ kt)
  obtain ⟨fs, hr, hrun, hended, hW, hsame⟩ := X11.leave (v := some (.int (nar .char c_))) (fun h => by rw [Bd.returns] at h; cases h)
  refine ⟨_, _, S12 _ ?_, hrun, hended, _, _, rfl, ?_, ⟨_, rfl⟩, hW, hsame.mono (by decide) (by decide)⟩
  · show Steps p.tables e below (T11.setTop (mkF m 24 #[rv a, iv ix] [(.int c_)])) _
    exact retN X11 hx (t := .char) Bd.returns (by simp) (hb hby d12_24) hr
  · show own_Q12q1 Z a ix cs b kb nn vs i_ c_ fm h0 n0 _ T11.heap _
    rw [eq9]
    exact ⟨(congrArg (fun z : Int32 => some (Value.int z)) (own_ncid hbc)), rfl, rfl⟩
theorem d12_7 : decode jdk_42_method_56_code 7 = .ok (.aload_n 0, 1) := by decide +kernel
theorem d12_8 : decode jdk_42_method_56_code 8 = .ok (.getfield 9, 3) := by decide +kernel
theorem d12_11 : decode jdk_42_method_56_code 11 = .ok (.iload_n 1, 1) := by decide +kernel
theorem d12_12 : decode jdk_42_method_56_code 12 = .ok (.invokestatic 495, 3) := by decide +kernel
theorem d12_15 : decode jdk_42_method_56_code 15 = .ok (.ireturn, 1) := by decide +kernel
theorem own_ef12q0 (m : MethodId) (x0 : Addr) (x1 : Int32) : entryFrame m #[(.ref x0), (.int x1)] 2 = mkF m 0 #[rv x0, iv x1] [] := by first | (simp [entryFrame, mkF, argsToLocals, Value.category]; done) | rfl
def own_Q12q0 (Z : State) (a : Addr) (ix : Int32) (cs : Int32) (b : Addr) (kb : ClassId) (nn : Int32) (vs : List Value) (c_ : Int32) (fm : Value) (h0 : Heap) (n0 : Nat) (v : Option Value) (h : Heap) (L : List Loc) : Prop := v = some (.int c_) ∧ L = [] ∧ h = h0
set_option maxHeartbeats 40000000 in
theorem own_rm12q0 (l : Launch) (Z : State) (a0 : Array Value) (hw : ∀ d ∈ tables_1, d.before a0 Z = true) (ws : List Jvm.Cond) (a : Addr) (ix : Int32) (cs : Int32) (b : Addr) (kb : ClassId) (nn : Int32) (vs : List Value) (c_ : Int32) (fm : Value) (h0 : Heap) (n0 : Nat) (Z0 : n0 ≤ h0.size) (E_a : Exa Z h0 a "java/lang/String") (S_CS : Sta Z h0 "java/lang/String" "COMPACT_STRINGS" "Z" (.int cs)) (hcs : ¬ cs = (0 : Int32)) (F_coder : Fld Z h0 a "java/lang/String" "coder" "B" (.int 0)) (F_value : Fld Z h0 a "java/lang/String" "value" "[B" (.ref b)) (V_b : Arv Z h0 b kb .byte nn vs (.int 0)) (S_FM : Sta Z h0 own_s1 "SIOOBE_FORMATTER" own_s0 fm) (hfm : own_fm fm) (hbc : own_ch c_) (hlt : ¬ (255 : Int32) < c_) (hx_ : vs.getD ix.toNatClampNeg (.int 0) = .int (own_lo c_)) (h1 : ¬ ix < (0 : Int32)) (hl_ : ix < nn) :
    MetFree l own_y23 (head1 (Jvm.Cond.code own_y23 jdk_42_method_56_code 2 (some .char) :: ws) ({ frames := 4, cells := 0, slots := 0, locals := 53 } : Room)) (fun argv U => argv = #[(.ref a), (.int ix)] ∧ Z.Warmed39 U.vm ∧ U.heap = h0) (fun _ _ _ _ _ => True) (fun _ U o U' => ∃ v L, o = .returned v ∧ own_Q12q0 Z a ix cs b kb nn vs c_ fm h0 n0 v U'.heap L ∧ FrameEnd U o U' L ({ frames := 4, cells := 0, slots := 0, locals := 53 } : Room).cells ({ frames := 4, cells := 0, slots := 0, locals := 53 } : Room).slots) := by
  refine MetFree.of_bodySF (plainFor_of_name own_pn1) hisR ?_
  intro p e s m args below meth c s₁ Bd hml0 hP hK
  obtain ⟨rfl, hZ, hh⟩ := hP
  have hx := Bd.exec
  have hby := Bd.bytes
  have hml : c.maxLocals = 2 := hml0
  have hown : s.vm.findClass "java/lang/String" = some m.cls := findClass_of_methodNamed Bd.named
  have hnm := (name_of_methodNamed Bd.named Bd.method).1
  have X0 : Stand p l e ({ frames := 4, cells := 0, slots := 0, locals := 53 } : Room) s m #[(.ref a), (.int ix)] below meth c s₁ [] 0 0 := Stand.of_body Bd
  have e0 : s₁.heap = h0 := by rw [← hh, Bd.state]; rfl
  have N0 := Fr.nil n0
  have pre_ : own_G p e below (s₁.setTop (entryFrame m #[(.ref a), (.int ix)] 2)) s₁ m 0 #[rv a, iv ix] [] := fun t k => castTop (own_ef12q0 m a ix) k
  obtain ⟨s0, hs0⟩ : ∃ z, z = (s₁.setTop (entryFrame m #[(.ref a), (.int ix)] 2)) := ⟨_, rfl⟩
  have pre0 : own_G p e below s0 s₁ m 0 #[rv a, iv ix] [] := hs0 ▸ pre_
  rw [← hs0]
  have S2 : own_G p e below s0 s₁ m 1 #[rv a, iv ix] [(.ref a)] := fun t kt => by
    refine pre0 t ?_
    refine w_aloadN X0 hx hby d12_0 rfl rfl ?_
    exact kt
  obtain ⟨cq3, kq3, q3a, q3b, q3c⟩ := isOf hZ e0 E_a
  obtain ⟨_, _, ⟨T3, L3, k3, n3⟩, -, X3, ⟨Lc3, hQ3, l3, y3, z3⟩, st3⟩ := X0.virtualBack hx (y := own_y22) (z := own_y22) hown (mvT hZ (own_w hw 60 rfl)) (mvT hZ (own_w hw 61 rfl)) (notFace_of_selects (args := #[]) (mvT hZ (own_w hw 63 rfl))) (mvT hZ (own_w hw 63 rfl)) (mvT hZ (own_w hw 62 rfl)) (by decide) (backOf (W := 0) (own_rm13q0 l Z a0 hw [] (a) (cs) h0 n0 Z0 S_CS hcs F_coder) hZ (own_w hw 64 rfl) (own_w hw 11 rfl) (by decide) (by decide)) q3a q3c (g := (mkF m 1 #[rv a, iv ix] [(.ref a)])) rfl (by rw [hml]; rfl) (Steps.refl _) (argsL := []) (rest := []) (lenOf own_pd13 rfl) rfl (by show 2 * 0 + _ ≤ _; exact Nat.le_of_eq rfl) (hb hby d12_1) (fun _ _ => ⟨rfl, e0, (by decide : 0 + 0 ≤ _), (by decide : 0 + 0 ≤ _)⟩)
  dsimp only [Pt.U, Pt.locs, Pt.cells, Pt.slots] at X3 l3 y3 z3 st3 hQ3
  subst l3 y3 z3
  obtain ⟨rfl, rfl, eq1⟩ := hQ3
  try rw [List.append_nil] at X3
  have S4 : own_G p e below s0 T3 m 4 #[rv a, iv ix] [(.int 1)] := fun t kt => S2 t (st3.trans kt)
  have hc4_5 : ¬ ((1 : Int32) = (0 : Int32)) := by decide
  have S6 : own_G p e below s0 T3 m 8 #[rv a, iv ix] [(.ref a)] := fun t kt => by
    refine S4 t ?_
    refine w_ifNo X3 hx hby d12_4 ((if0 _ _).trans (feq hc4_5).1) ?_
    refine w_aloadN X3 hx hby d12_7 rfl rfl ?_
    exact kt
  obtain ⟨T7, X7, e7, st7⟩ := getF X3 hx hZ hown (host := "") (Or.inl (own_w hw 28 rfl)) Via.refl eq1 F_value (g := (mkF m 8 #[rv a, iv ix] [(.ref a)])) rfl rfl (hb hby d12_8)
  have S8 : own_G p e below s0 T7 m 11 #[rv a, iv ix] [(.ref b)] := fun t kt => S6 t (st7 _ kt)
  have S10 : own_G p e below s0 T7 m 12 #[rv a, iv ix] [(.int ix), (.ref b)] := fun t kt => by
    refine S8 t ?_
    refine w_iloadN X7 hx hby d12_11 rfl ?_
    exact kt
  obtain ⟨_, _, ⟨T11, L11, k11, n11⟩, -, X11, ⟨Lc11, hQ11, l11, y11, z11⟩, st11⟩ := Jvm.LawKit.callS X7 hx (y := own_y16) hown (mvT hZ (own_w hw 65 rfl)) (mvT hZ (own_w hw 66 rfl)) (mvT hZ (own_w hw 67 rfl)) (mvT hZ (own_w hw 68 rfl)) (by decide) (backOf (W := 0) (own_rm14 l Z a0 hw [] (b) (ix) (kb) (nn) (vs) (c_) (fm) h0 n0 Z0 V_b S_FM hfm hbc hlt hx_ h1 hl_) hZ (own_w hw 68 rfl) (own_w hw 67 rfl) (by decide) (by decide)) (g := (mkF m 12 #[rv a, iv ix] [(.int ix), (.ref b)])) rfl (by rw [hml]; rfl) (argsL := [(.ref b), (.int ix)]) (rest := []) (lenOf own_pd8 rfl) rfl (by show 2 * 0 + _ ≤ _; exact Nat.le_of_eq rfl) (hb hby d12_12) (fun _ _ => ⟨rfl, e7, (by decide : 0 + 0 ≤ _), (by decide : 0 + 0 ≤ _)⟩)
  dsimp only [Pt.U, Pt.locs, Pt.cells, Pt.slots] at X11 l11 y11 z11 st11 hQ11
  subst l11 y11 z11
  obtain ⟨rfl, rfl, eq9⟩ := hQ11
  try rw [List.append_nil] at X11
  have S12 : own_G p e below s0 T11 m 15 #[rv a, iv ix] [(.int c_)] := fun t kt => S10 t (st11 _ kt)
  obtain ⟨fs, hr, hrun, hended, hW, hsame⟩ := X11.leave (v := some (.int (nar .char c_))) (fun h => by rw [Bd.returns] at h; cases h)
  refine ⟨_, _, S12 _ ?_, hrun, hended, _, _, rfl, ?_, ⟨_, rfl⟩, hW, hsame.mono (by decide) (by decide)⟩
  · show Steps p.tables e below (T11.setTop (mkF m 15 #[rv a, iv ix] [(.int c_)])) _
    exact retN X11 hx (t := .char) Bd.returns (by simp) (hb hby d12_15) hr
  · show own_Q12q0 Z a ix cs b kb nn vs c_ fm h0 n0 _ T11.heap _
    rw [eq9]
    exact ⟨(congrArg (fun z : Int32 => some (Value.int z)) (own_ncid hbc)), rfl, rfl⟩
def own_Q12 (Z : State) (a : Addr) (ix : Int32) (ls : List Int32) (i_ : Nat) (cs : Int32) (c_ : Int32) (fm : Value) (h0 : Heap) (n0 : Nat) (v : Option Value) (h : Heap) (L : List Loc) : Prop := v = some (.int c_) ∧ L = [] ∧ h = h0
set_option maxHeartbeats 4000000 in
theorem own_rm12 (l : Launch) (Z : State) (a0 : Array Value) (hw : ∀ d ∈ tables_1, d.before a0 Z = true) (ws : List Jvm.Cond) (a : Addr) (ix : Int32) (ls : List Int32) (i_ : Nat) (cs : Int32) (c_ : Int32) (fm : Value) (h0 : Heap) (n0 : Nat) (Z0 : n0 ≤ h0.size) (S_CS : Sta Z h0 "java/lang/String" "COMPACT_STRINGS" "Z" (.int cs)) (hcs : ¬ cs = (0 : Int32)) (S_FM : Sta Z h0 own_s1 "SIOOBE_FORMATTER" own_s0 fm) (hfm : own_fm fm) (S_AD : Sta Z h0 own_s2 own_s3 "Z" (.int 1)) (S_HI : Sta Z h0 own_s2 "HI_BYTE_SHIFT" "I" (.int 0)) (S_LO : Sta Z h0 own_s2 "LO_BYTE_SHIFT" "I" (.int 8)) (hS : own_Str Z h0 a ls) (h5 : ls.length ≤ 5) (hix : ix = Int32.ofNat i_) (hat : ls[i_]? = some c_) (hbc : own_ch c_) :
    MetFree l own_y23 (head1 (Jvm.Cond.code own_y23 jdk_42_method_56_code 2 (some .char) :: ws) ({ frames := 4, cells := 0, slots := 0, locals := 53 } : Room)) (fun argv U => argv = #[(.ref a), (.int ix)] ∧ Z.Warmed39 U.vm ∧ U.heap = h0) (fun _ _ _ _ _ => True) (fun _ U o U' => ∃ v L, o = .returned v ∧ own_Q12 Z a ix ls i_ cs c_ fm h0 n0 v U'.heap L ∧ FrameEnd U o U' L ({ frames := 4, cells := 0, slots := 0, locals := 53 } : Room).cells ({ frames := 4, cells := 0, slots := 0, locals := 53 } : Room).slots) := by
  have hi := own_len_at hat
  subst hix
  obtain ⟨E, tb, kt, Fv, ⟨Fc, A, hL⟩ | ⟨Fc, A⟩⟩ := hS
  · exact own_rm12q0 l Z a0 hw ws a _ cs tb kt _ _ c_ fm h0 n0 Z0 E S_CS hcs Fc Fv A S_FM hfm hbc (hL _ (own_mem_at hat)) (by rw [own_cl (by omega)]; exact own_los_at hat) (own_ge0 (by omega)) (own_ltN hi (by omega))
  · have hu := own_uts_at hat
    exact own_rm12q1 l Z a0 hw ws a _ cs tb kt _ _ i_ c_ fm h0 n0 Z0 E S_CS hcs Fc Fv A S_FM hfm S_AD S_HI S_LO hbc rfl (by omega) (own_ltN (by omega) (by omega)) hu.1 hu.2 (own_ge0 (by omega)) (by rw [own_half h5]; exact own_ltN hi (by omega))
theorem d26_0 : decode prog_6_method_8_code 0 = .ok (.iload_n 0, 1) := by decide +kernel
theorem d26_1 : decode prog_6_method_8_code 1 = .ok (.bipush 48, 2) := by decide +kernel
theorem d26_3 : decode prog_6_method_8_code 3 = .ok (.if_icmp .lt 24, 3) := by decide +kernel
theorem d26_6 : decode prog_6_method_8_code 6 = .ok (.iload_n 0, 1) := by decide +kernel
theorem d26_7 : decode prog_6_method_8_code 7 = .ok (.iload_n 1, 1) := by decide +kernel
theorem d26_8 : decode prog_6_method_8_code 8 = .ok (.bipush 8, 2) := by decide +kernel
theorem d26_10 : decode prog_6_method_8_code 10 = .ok (.if_icmp .ne 8, 3) := by decide +kernel
theorem d26_13 : decode prog_6_method_8_code 13 = .ok (.bipush 55, 2) := by decide +kernel
theorem d26_15 : decode prog_6_method_8_code 15 = .ok (.goto 5, 3) := by decide +kernel
theorem d26_20 : decode prog_6_method_8_code 20 = .ok (.if_icmp .gt 7, 3) := by decide +kernel
theorem d26_23 : decode prog_6_method_8_code 23 = .ok (.iconst 1, 1) := by decide +kernel
theorem d26_24 : decode prog_6_method_8_code 24 = .ok (.goto 4, 3) := by decide +kernel
theorem d26_27 : decode prog_6_method_8_code 27 = .ok (.iconst 0, 1) := by decide +kernel
theorem d26_28 : decode prog_6_method_8_code 28 = .ok (.istore_n 2, 1) := by decide +kernel
theorem d26_29 : decode prog_6_method_8_code 29 = .ok (.iload_n 1, 1) := by decide +kernel
theorem d26_30 : decode prog_6_method_8_code 30 = .ok (.bipush 16, 2) := by decide +kernel
theorem d26_32 : decode prog_6_method_8_code 32 = .ok (.if_icmp .ne 31, 3) := by decide +kernel
theorem d26_63 : decode prog_6_method_8_code 63 = .ok (.iconst 0, 1) := by decide +kernel
theorem d26_64 : decode prog_6_method_8_code 64 = .ok (.istore_n 3, 1) := by decide +kernel
theorem d26_65 : decode prog_6_method_8_code 65 = .ok (.iload_n 2, 1) := by decide +kernel
theorem d26_66 : decode prog_6_method_8_code 66 = .ok (.ifCond .ne 7, 3) := by decide +kernel
theorem d26_69 : decode prog_6_method_8_code 69 = .ok (.iload_n 3, 1) := by decide +kernel
theorem d26_70 : decode prog_6_method_8_code 70 = .ok (.ifCond .eq 7, 3) := by decide +kernel
theorem d26_73 : decode prog_6_method_8_code 73 = .ok (.iconst 1, 1) := by decide +kernel
theorem d26_74 : decode prog_6_method_8_code 74 = .ok (.goto 4, 3) := by decide +kernel
theorem d26_77 : decode prog_6_method_8_code 77 = .ok (.iconst 0, 1) := by decide +kernel
theorem d26_78 : decode prog_6_method_8_code 78 = .ok (.ireturn, 1) := by decide +kernel
theorem own_efdg8 (m : MethodId) (x0 : Int32) (x1 : Int32) : entryFrame m #[(.int x0), (.int x1)] 4 = mkF m 0 #[iv x0, iv x1, .unset, .unset] [] := by first | (simp [entryFrame, mkF, argsToLocals, Value.category]; done) | rfl
def own_Qdg8 (Z : State) (x0 : Int32) (h0 : Heap) (n0 : Nat) (v : Option Value) (h : Heap) (L : List Loc) : Prop := v = some (.int (own_b (own_oct x0))) ∧ L = [] ∧ h = h0
theorem own_pn4 : plainName "com/example/splode/splode/document/CoreSchema" = true := by first | (simp [plainName, overriddenIn]; done) | decide +kernel
set_option maxHeartbeats 40000000 in
theorem own_rmdg8 (l : Launch) (Z : State) (a0 : Array Value) (hw : ∀ d ∈ tables_1, d.before a0 Z = true) (ws : List Jvm.Cond) (x0 : Int32) (h0 : Heap) (n0 : Nat) (Z0 : n0 ≤ h0.size) :
    MetFree l own_y6 (head1 (Jvm.Cond.code own_y6 prog_6_method_8_code 4 (some .boolean) :: ws) ({ frames := 0, cells := 0, slots := 0, locals := 0 } : Room)) (fun argv U => argv = #[(.int x0), (.int 8)] ∧ Z.Warmed39 U.vm ∧ U.heap = h0) (fun _ _ _ _ _ => True) (fun _ U o U' => ∃ v L, o = .returned v ∧ own_Qdg8 Z x0 h0 n0 v U'.heap L ∧ FrameEnd U o U' L ({ frames := 0, cells := 0, slots := 0, locals := 0 } : Room).cells ({ frames := 0, cells := 0, slots := 0, locals := 0 } : Room).slots) := by
  refine MetFree.of_bodySF (plainFor_of_name own_pn4) hisR ?_
  intro p e s m args below meth c s₁ Bd hml0 hP hK
  obtain ⟨rfl, hZ, hh⟩ := hP
  have hx := Bd.exec
  have hby := Bd.bytes
  have hml : c.maxLocals = 4 := hml0
  have hown : s.vm.findClass "com/example/splode/splode/document/CoreSchema" = some m.cls := findClass_of_methodNamed Bd.named
  have hnm := (name_of_methodNamed Bd.named Bd.method).1
  have X0 : Stand p l e ({ frames := 0, cells := 0, slots := 0, locals := 0 } : Room) s m #[(.int x0), (.int 8)] below meth c s₁ [] 0 0 := Stand.of_body Bd
  have e0 : s₁.heap = h0 := by rw [← hh, Bd.state]; rfl
  have N0 := Fr.nil n0
  have pre_ : own_G p e below (s₁.setTop (entryFrame m #[(.int x0), (.int 8)] 4)) s₁ m 0 #[iv x0, iv 8, .unset, .unset] [] := fun t k => castTop (own_efdg8 m x0 (8 : Int32)) k
  obtain ⟨s0, hs0⟩ : ∃ z, z = (s₁.setTop (entryFrame m #[(.int x0), (.int 8)] 4)) := ⟨_, rfl⟩
  have pre0 : own_G p e below s0 s₁ m 0 #[iv x0, iv 8, .unset, .unset] [] := hs0 ▸ pre_
  rw [← hs0]
  have S1 : own_G p e below s0 s₁ m 3 #[iv x0, iv 8, .unset, .unset] [(.int 48), (.int x0)] := fun t kt => by
    refine pre0 t ?_
    refine w_iloadN X0 hx hby d26_0 rfl ?_
    refine w_bipush X0 hx hby d26_1 ?_
    exact kt
  by_cases hc3 : x0 < (48 : Int32)
  · skip
    have S2 : own_G p e below s0 s₁ m 32 #[iv x0, iv 8, iv 0, .unset] [(.int 16), (.int 8)] := fun t kt => by
      refine S1 t ?_
      refine w_icmpYes X0 hx hby (pc' := 27) d26_3 (tlt hc3).1 (by decide) ?_
      refine w_iconst X0 hx hby d26_27 ?_
      refine w_istoreN X0 hx hby d26_28 (l' := #[iv x0, iv 8, iv 0, .unset]) rfl ?_
      refine w_iloadN X0 hx hby d26_29 rfl ?_
      refine w_bipush X0 hx hby d26_30 ?_
      exact kt
    have hc32_3 : ¬ ((8 : Int32) = (16 : Int32)) := by decide
    have S4 : own_G p e below s0 s₁ m 66 #[iv x0, iv 8, iv 0, iv 0] [(.int 0)] := fun t kt => by
      refine S2 t ?_
      refine w_icmpYes X0 hx hby (pc' := 63) d26_32 (feq hc32_3).2 (by decide) ?_
      refine w_iconst X0 hx hby d26_63 ?_
      refine w_istoreN X0 hx hby d26_64 (l' := #[iv x0, iv 8, iv 0, iv 0]) rfl ?_
      refine w_iloadN X0 hx hby d26_65 rfl ?_
      exact kt
    have hc66_5 : (0 : Int32) = (0 : Int32) := by decide
    have S6 : own_G p e below s0 s₁ m 70 #[iv x0, iv 8, iv 0, iv 0] [(.int 0)] := fun t kt => by
      refine S4 t ?_
      refine w_ifNo X0 hx hby d26_66 ((if0 _ _).trans (teq hc66_5).2) ?_
      refine w_iloadN X0 hx hby d26_69 rfl ?_
      exact kt
    have hc70_7 : (0 : Int32) = (0 : Int32) := by decide
    have S8 : own_G p e below s0 s₁ m 78 #[iv x0, iv 8, iv 0, iv 0] [(.int 0)] := fun t kt => by
      refine S6 t ?_
      refine w_ifYes X0 hx hby (pc' := 77) d26_70 ((if0 _ _).trans (teq hc70_7).1) (by decide) ?_
      refine w_iconst X0 hx hby d26_77 ?_
      exact kt
    obtain ⟨fs, hr, hrun, hended, hW, hsame⟩ := X0.leave (v := some (.int (nar .boolean (0 : Int32)))) (fun h => by rw [Bd.returns] at h; cases h)
    refine ⟨_, _, S8 _ ?_, hrun, hended, _, _, rfl, ?_, ⟨_, rfl⟩, hW, hsame.mono (by decide) (by decide)⟩
    · show Steps p.tables e below (s₁.setTop (mkF m 78 #[iv x0, iv 8, iv 0, iv 0] [(.int 0)])) _
      exact retN X0 hx (t := .boolean) Bd.returns (by simp) (hb hby d26_78) hr
    · show own_Qdg8 Z x0 h0 n0 _ s₁.heap _
      rw [e0]
      exact ⟨own_leafF (by first | (simp only [own_oct, decide_true, decide_false, not_true_eq_false, not_false_eq_true, and_true, true_and, and_false, false_and, and_self, or_true, true_or, or_false, false_or, or_self, if_true, if_false, Bool.not_true, Bool.not_false, Bool.and_true, Bool.true_and, Bool.and_false, Bool.false_and, *]; done) | (simp only [own_oct, decide_true, decide_false, not_true_eq_false, not_false_eq_true, and_true, true_and, and_false, false_and, and_self, or_true, true_or, or_false, false_or, or_self, if_true, if_false, Bool.not_true, Bool.not_false, Bool.and_true, Bool.true_and, Bool.and_false, Bool.false_and, *]; decide)), rfl, rfl⟩
  · skip
    have S9 : own_G p e below s0 s₁ m 10 #[iv x0, iv 8, .unset, .unset] [(.int 8), (.int 8), (.int x0)] := fun t kt => by
      refine S1 t ?_
      refine w_icmpNo X0 hx hby d26_3 (flt hc3).1 ?_
      refine w_iloadN X0 hx hby d26_6 rfl ?_
      refine w_iloadN X0 hx hby d26_7 rfl ?_
      refine w_bipush X0 hx hby d26_8 ?_
      exact kt
    have hc10_10 : (8 : Int32) = (8 : Int32) := by decide
    have S11 : own_G p e below s0 s₁ m 20 #[iv x0, iv 8, .unset, .unset] [(.int 55), (.int x0)] := fun t kt => by
      refine S9 t ?_
      refine w_icmpNo X0 hx hby d26_10 (teq hc10_10).2 ?_
      refine w_bipush X0 hx hby d26_13 ?_
      refine w_goto X0 hx hby (pc' := 20) d26_15 (by decide) ?_
      exact kt
    by_cases hc20 : (55 : Int32) < x0
    · skip
      have S12 : own_G p e below s0 s₁ m 32 #[iv x0, iv 8, iv 0, .unset] [(.int 16), (.int 8)] := fun t kt => by
        refine S11 t ?_
        refine w_icmpYes X0 hx hby (pc' := 27) d26_20 (tlt hc20).2.2.1 (by decide) ?_
        refine w_iconst X0 hx hby d26_27 ?_
        refine w_istoreN X0 hx hby d26_28 (l' := #[iv x0, iv 8, iv 0, .unset]) rfl ?_
        refine w_iloadN X0 hx hby d26_29 rfl ?_
        refine w_bipush X0 hx hby d26_30 ?_
        exact kt
      have hc32_13 : ¬ ((8 : Int32) = (16 : Int32)) := by decide
      have S14 : own_G p e below s0 s₁ m 66 #[iv x0, iv 8, iv 0, iv 0] [(.int 0)] := fun t kt => by
        refine S12 t ?_
        refine w_icmpYes X0 hx hby (pc' := 63) d26_32 (feq hc32_13).2 (by decide) ?_
        refine w_iconst X0 hx hby d26_63 ?_
        refine w_istoreN X0 hx hby d26_64 (l' := #[iv x0, iv 8, iv 0, iv 0]) rfl ?_
        refine w_iloadN X0 hx hby d26_65 rfl ?_
        exact kt
      have hc66_15 : (0 : Int32) = (0 : Int32) := by decide
      have S16 : own_G p e below s0 s₁ m 70 #[iv x0, iv 8, iv 0, iv 0] [(.int 0)] := fun t kt => by
        refine S14 t ?_
        refine w_ifNo X0 hx hby d26_66 ((if0 _ _).trans (teq hc66_15).2) ?_
        refine w_iloadN X0 hx hby d26_69 rfl ?_
        exact kt
      have hc70_17 : (0 : Int32) = (0 : Int32) := by decide
      have S18 : own_G p e below s0 s₁ m 78 #[iv x0, iv 8, iv 0, iv 0] [(.int 0)] := fun t kt => by
        refine S16 t ?_
        refine w_ifYes X0 hx hby (pc' := 77) d26_70 ((if0 _ _).trans (teq hc70_17).1) (by decide) ?_
        refine w_iconst X0 hx hby d26_77 ?_
        exact kt
      obtain ⟨fs, hr, hrun, hended, hW, hsame⟩ := X0.leave (v := some (.int (nar .boolean (0 : Int32)))) (fun h => by rw [Bd.returns] at h; cases h)
      refine ⟨_, _, S18 _ ?_, hrun, hended, _, _, rfl, ?_, ⟨_, rfl⟩, hW, hsame.mono (by decide) (by decide)⟩
      · show Steps p.tables e below (s₁.setTop (mkF m 78 #[iv x0, iv 8, iv 0, iv 0] [(.int 0)])) _
        exact retN X0 hx (t := .boolean) Bd.returns (by simp) (hb hby d26_78) hr
      · show own_Qdg8 Z x0 h0 n0 _ s₁.heap _
        rw [e0]
        exact ⟨own_leafF (by first | (simp only [own_oct, decide_true, decide_false, not_true_eq_false, not_false_eq_true, and_true, true_and, and_false, false_and, and_self, or_true, true_or, or_false, false_or, or_self, if_true, if_false, Bool.not_true, Bool.not_false, Bool.and_true, Bool.true_and, Bool.and_false, Bool.false_and, *]; done) | (simp only [own_oct, decide_true, decide_false, not_true_eq_false, not_false_eq_true, and_true, true_and, and_false, false_and, and_self, or_true, true_or, or_false, false_or, or_self, if_true, if_false, Bool.not_true, Bool.not_false, Bool.and_true, Bool.true_and, Bool.and_false, Bool.false_and, *]; decide)), rfl, rfl⟩
    · skip
      have S19 : own_G p e below s0 s₁ m 32 #[iv x0, iv 8, iv 1, .unset] [(.int 16), (.int 8)] := fun t kt => by
        refine S11 t ?_
        refine w_icmpNo X0 hx hby d26_20 (flt hc20).2.2.1 ?_
        refine w_iconst X0 hx hby d26_23 ?_
        refine w_goto X0 hx hby (pc' := 28) d26_24 (by decide) ?_
        refine w_istoreN X0 hx hby d26_28 (l' := #[iv x0, iv 8, iv 1, .unset]) rfl ?_
        refine w_iloadN X0 hx hby d26_29 rfl ?_
        refine w_bipush X0 hx hby d26_30 ?_
        exact kt
      have hc32_20 : ¬ ((8 : Int32) = (16 : Int32)) := by decide
      have S21 : own_G p e below s0 s₁ m 66 #[iv x0, iv 8, iv 1, iv 0] [(.int 1)] := fun t kt => by
        refine S19 t ?_
        refine w_icmpYes X0 hx hby (pc' := 63) d26_32 (feq hc32_20).2 (by decide) ?_
        refine w_iconst X0 hx hby d26_63 ?_
        refine w_istoreN X0 hx hby d26_64 (l' := #[iv x0, iv 8, iv 1, iv 0]) rfl ?_
        refine w_iloadN X0 hx hby d26_65 rfl ?_
        exact kt
      have hc66_22 : ¬ ((1 : Int32) = (0 : Int32)) := by decide
      have S23 : own_G p e below s0 s₁ m 78 #[iv x0, iv 8, iv 1, iv 0] [(.int 1)] := fun t kt => by
        refine S21 t ?_
        refine w_ifYes X0 hx hby (pc' := 73) d26_66 ((if0 _ _).trans (feq hc66_22).2) (by decide) ?_
        refine w_iconst X0 hx hby d26_73 ?_
        refine w_goto X0 hx hby (pc' := 78) d26_74 (by decide) ?_
        exact kt
      obtain ⟨fs, hr, hrun, hended, hW, hsame⟩ := X0.leave (v := some (.int (nar .boolean (1 : Int32)))) (fun h => by rw [Bd.returns] at h; cases h)
      refine ⟨_, _, S23 _ ?_, hrun, hended, _, _, rfl, ?_, ⟨_, rfl⟩, hW, hsame.mono (by decide) (by decide)⟩
      · show Steps p.tables e below (s₁.setTop (mkF m 78 #[iv x0, iv 8, iv 1, iv 0] [(.int 1)])) _
        exact retN X0 hx (t := .boolean) Bd.returns (by simp) (hb hby d26_78) hr
      · show own_Qdg8 Z x0 h0 n0 _ s₁.heap _
        rw [e0]
        exact ⟨own_leafT (by first | (simp only [own_oct, decide_true, decide_false, not_true_eq_false, not_false_eq_true, and_true, true_and, and_false, false_and, and_self, or_true, true_or, or_false, false_or, or_self, if_true, if_false, Bool.not_true, Bool.not_false, Bool.and_true, Bool.true_and, Bool.and_false, Bool.false_and, *]; done) | (simp only [own_oct, decide_true, decide_false, not_true_eq_false, not_false_eq_true, and_true, true_and, and_false, false_and, and_self, or_true, true_or, or_false, false_or, or_self, if_true, if_false, Bool.not_true, Bool.not_false, Bool.and_true, Bool.true_and, Bool.and_false, Bool.false_and, *]; decide)), rfl, rfl⟩
theorem d26_18 : decode prog_6_method_8_code 18 = .ok (.bipush 57, 2) := by decide +kernel
theorem d26_35 : decode prog_6_method_8_code 35 = .ok (.iload_n 0, 1) := by decide +kernel
theorem d26_36 : decode prog_6_method_8_code 36 = .ok (.bipush 97, 2) := by decide +kernel
theorem d26_38 : decode prog_6_method_8_code 38 = .ok (.if_icmp .lt 9, 3) := by decide +kernel
theorem d26_41 : decode prog_6_method_8_code 41 = .ok (.iload_n 0, 1) := by decide +kernel
theorem d26_42 : decode prog_6_method_8_code 42 = .ok (.bipush 102, 2) := by decide +kernel
theorem d26_44 : decode prog_6_method_8_code 44 = .ok (.if_icmp .le 15, 3) := by decide +kernel
theorem d26_47 : decode prog_6_method_8_code 47 = .ok (.iload_n 0, 1) := by decide +kernel
theorem d26_48 : decode prog_6_method_8_code 48 = .ok (.bipush 65, 2) := by decide +kernel
theorem d26_50 : decode prog_6_method_8_code 50 = .ok (.if_icmp .lt 13, 3) := by decide +kernel
theorem d26_53 : decode prog_6_method_8_code 53 = .ok (.iload_n 0, 1) := by decide +kernel
theorem d26_54 : decode prog_6_method_8_code 54 = .ok (.bipush 70, 2) := by decide +kernel
theorem d26_56 : decode prog_6_method_8_code 56 = .ok (.if_icmp .gt 7, 3) := by decide +kernel
theorem d26_59 : decode prog_6_method_8_code 59 = .ok (.iconst 1, 1) := by decide +kernel
theorem d26_60 : decode prog_6_method_8_code 60 = .ok (.goto 4, 3) := by decide +kernel
theorem own_efdg16 (m : MethodId) (x0 : Int32) (x1 : Int32) : entryFrame m #[(.int x0), (.int x1)] 4 = mkF m 0 #[iv x0, iv x1, .unset, .unset] [] := by first | (simp [entryFrame, mkF, argsToLocals, Value.category]; done) | rfl
def own_Qdg16 (Z : State) (x0 : Int32) (h0 : Heap) (n0 : Nat) (v : Option Value) (h : Heap) (L : List Loc) : Prop := v = some (.int (own_b (own_hex x0))) ∧ L = [] ∧ h = h0
set_option maxHeartbeats 40000000 in
theorem own_rmdg16 (l : Launch) (Z : State) (a0 : Array Value) (hw : ∀ d ∈ tables_1, d.before a0 Z = true) (ws : List Jvm.Cond) (x0 : Int32) (h0 : Heap) (n0 : Nat) (Z0 : n0 ≤ h0.size) :
    MetFree l own_y6 (head1 (Jvm.Cond.code own_y6 prog_6_method_8_code 4 (some .boolean) :: ws) ({ frames := 0, cells := 0, slots := 0, locals := 0 } : Room)) (fun argv U => argv = #[(.int x0), (.int 16)] ∧ Z.Warmed39 U.vm ∧ U.heap = h0) (fun _ _ _ _ _ => True) (fun _ U o U' => ∃ v L, o = .returned v ∧ own_Qdg16 Z x0 h0 n0 v U'.heap L ∧ FrameEnd U o U' L ({ frames := 0, cells := 0, slots := 0, locals := 0 } : Room).cells ({ frames := 0, cells := 0, slots := 0, locals := 0 } : Room).slots) := by
  refine MetFree.of_bodySF (plainFor_of_name own_pn4) hisR ?_
  intro p e s m args below meth c s₁ Bd hml0 hP hK
  obtain ⟨rfl, hZ, hh⟩ := hP
  have hx := Bd.exec
  have hby := Bd.bytes
  have hml : c.maxLocals = 4 := hml0
  have hown : s.vm.findClass "com/example/splode/splode/document/CoreSchema" = some m.cls := findClass_of_methodNamed Bd.named
  have hnm := (name_of_methodNamed Bd.named Bd.method).1
  have X0 : Stand p l e ({ frames := 0, cells := 0, slots := 0, locals := 0 } : Room) s m #[(.int x0), (.int 16)] below meth c s₁ [] 0 0 := Stand.of_body Bd
  have e0 : s₁.heap = h0 := by rw [← hh, Bd.state]; rfl
  have N0 := Fr.nil n0
  have pre_ : own_G p e below (s₁.setTop (entryFrame m #[(.int x0), (.int 16)] 4)) s₁ m 0 #[iv x0, iv 16, .unset, .unset] [] := fun t k => castTop (own_efdg16 m x0 (16 : Int32)) k
  obtain ⟨s0, hs0⟩ : ∃ z, z = (s₁.setTop (entryFrame m #[(.int x0), (.int 16)] 4)) := ⟨_, rfl⟩
  have pre0 : own_G p e below s0 s₁ m 0 #[iv x0, iv 16, .unset, .unset] [] := hs0 ▸ pre_
  rw [← hs0]
  have S1 : own_G p e below s0 s₁ m 3 #[iv x0, iv 16, .unset, .unset] [(.int 48), (.int x0)] := fun t kt => by
    refine pre0 t ?_
    refine w_iloadN X0 hx hby d26_0 rfl ?_
    refine w_bipush X0 hx hby d26_1 ?_
    exact kt
  by_cases hc3 : x0 < (48 : Int32)
  · skip
    have S2 : own_G p e below s0 s₁ m 32 #[iv x0, iv 16, iv 0, .unset] [(.int 16), (.int 16)] := fun t kt => by
      refine S1 t ?_
      refine w_icmpYes X0 hx hby (pc' := 27) d26_3 (tlt hc3).1 (by decide) ?_
      refine w_iconst X0 hx hby d26_27 ?_
      refine w_istoreN X0 hx hby d26_28 (l' := #[iv x0, iv 16, iv 0, .unset]) rfl ?_
      refine w_iloadN X0 hx hby d26_29 rfl ?_
      refine w_bipush X0 hx hby d26_30 ?_
      exact kt
    have hc32_3 : (16 : Int32) = (16 : Int32) := by decide
    have S4 : own_G p e below s0 s₁ m 38 #[iv x0, iv 16, iv 0, .unset] [(.int 97), (.int x0)] := fun t kt => by
      refine S2 t ?_
      refine w_icmpNo X0 hx hby d26_32 (teq hc32_3).2 ?_
      refine w_iloadN X0 hx hby d26_35 rfl ?_
      refine w_bipush X0 hx hby d26_36 ?_
      exact kt
    by_cases hc38 : x0 < (97 : Int32)
    · skip
      have S5 : own_G p e below s0 s₁ m 50 #[iv x0, iv 16, iv 0, .unset] [(.int 65), (.int x0)] := fun t kt => by
        refine S4 t ?_
        refine w_icmpYes X0 hx hby (pc' := 47) d26_38 (tlt hc38).1 (by decide) ?_
        refine w_iloadN X0 hx hby d26_47 rfl ?_
        refine w_bipush X0 hx hby d26_48 ?_
        exact kt
      by_cases hc50 : x0 < (65 : Int32)
      · skip
        have S6 : own_G p e below s0 s₁ m 66 #[iv x0, iv 16, iv 0, iv 0] [(.int 0)] := fun t kt => by
          refine S5 t ?_
          refine w_icmpYes X0 hx hby (pc' := 63) d26_50 (tlt hc50).1 (by decide) ?_
          refine w_iconst X0 hx hby d26_63 ?_
          refine w_istoreN X0 hx hby d26_64 (l' := #[iv x0, iv 16, iv 0, iv 0]) rfl ?_
          refine w_iloadN X0 hx hby d26_65 rfl ?_
          exact kt
        have hc66_7 : (0 : Int32) = (0 : Int32) := by decide
        have S8 : own_G p e below s0 s₁ m 70 #[iv x0, iv 16, iv 0, iv 0] [(.int 0)] := fun t kt => by
          refine S6 t ?_
          refine w_ifNo X0 hx hby d26_66 ((if0 _ _).trans (teq hc66_7).2) ?_
          refine w_iloadN X0 hx hby d26_69 rfl ?_
          exact kt
        have hc70_9 : (0 : Int32) = (0 : Int32) := by decide
        have S10 : own_G p e below s0 s₁ m 78 #[iv x0, iv 16, iv 0, iv 0] [(.int 0)] := fun t kt => by
          refine S8 t ?_
          refine w_ifYes X0 hx hby (pc' := 77) d26_70 ((if0 _ _).trans (teq hc70_9).1) (by decide) ?_
          refine w_iconst X0 hx hby d26_77 ?_
          exact kt
        obtain ⟨fs, hr, hrun, hended, hW, hsame⟩ := X0.leave (v := some (.int (nar .boolean (0 : Int32)))) (fun h => by rw [Bd.returns] at h; cases h)
        refine ⟨_, _, S10 _ ?_, hrun, hended, _, _, rfl, ?_, ⟨_, rfl⟩, hW, hsame.mono (by decide) (by decide)⟩
        · show Steps p.tables e below (s₁.setTop (mkF m 78 #[iv x0, iv 16, iv 0, iv 0] [(.int 0)])) _
          exact retN X0 hx (t := .boolean) Bd.returns (by simp) (hb hby d26_78) hr
        · show own_Qdg16 Z x0 h0 n0 _ s₁.heap _
          rw [e0]
          exact ⟨own_leafF (by first | (simp only [own_hex, Bool.or_true, Bool.true_or, Bool.or_false, Bool.false_or, decide_true, decide_false, not_true_eq_false, not_false_eq_true, and_true, true_and, and_false, false_and, and_self, or_true, true_or, or_false, false_or, or_self, if_true, if_false, Bool.not_true, Bool.not_false, Bool.and_true, Bool.true_and, Bool.and_false, Bool.false_and, *]; done) | (simp only [own_hex, Bool.or_true, Bool.true_or, Bool.or_false, Bool.false_or, decide_true, decide_false, not_true_eq_false, not_false_eq_true, and_true, true_and, and_false, false_and, and_self, or_true, true_or, or_false, false_or, or_self, if_true, if_false, Bool.not_true, Bool.not_false, Bool.and_true, Bool.true_and, Bool.and_false, Bool.false_and, *]; decide)), rfl, rfl⟩
      · skip
        have S11 : own_G p e below s0 s₁ m 56 #[iv x0, iv 16, iv 0, .unset] [(.int 70), (.int x0)] := fun t kt => by
          refine S5 t ?_
          refine w_icmpNo X0 hx hby d26_50 (flt hc50).1 ?_
          refine w_iloadN X0 hx hby d26_53 rfl ?_
          refine w_bipush X0 hx hby d26_54 ?_
          exact kt
        by_cases hc56 : (70 : Int32) < x0
        · skip
          have S12 : own_G p e below s0 s₁ m 66 #[iv x0, iv 16, iv 0, iv 0] [(.int 0)] := fun t kt => by
            refine S11 t ?_
            refine w_icmpYes X0 hx hby (pc' := 63) d26_56 (tlt hc56).2.2.1 (by decide) ?_
            refine w_iconst X0 hx hby d26_63 ?_
            refine w_istoreN X0 hx hby d26_64 (l' := #[iv x0, iv 16, iv 0, iv 0]) rfl ?_
            refine w_iloadN X0 hx hby d26_65 rfl ?_
            exact kt
          have hc66_13 : (0 : Int32) = (0 : Int32) := by decide
          have S14 : own_G p e below s0 s₁ m 70 #[iv x0, iv 16, iv 0, iv 0] [(.int 0)] := fun t kt => by
            refine S12 t ?_
            refine w_ifNo X0 hx hby d26_66 ((if0 _ _).trans (teq hc66_13).2) ?_
            refine w_iloadN X0 hx hby d26_69 rfl ?_
            exact kt
          have hc70_15 : (0 : Int32) = (0 : Int32) := by decide
          have S16 : own_G p e below s0 s₁ m 78 #[iv x0, iv 16, iv 0, iv 0] [(.int 0)] := fun t kt => by
            refine S14 t ?_
            refine w_ifYes X0 hx hby (pc' := 77) d26_70 ((if0 _ _).trans (teq hc70_15).1) (by decide) ?_
            refine w_iconst X0 hx hby d26_77 ?_
            exact kt
          obtain ⟨fs, hr, hrun, hended, hW, hsame⟩ := X0.leave (v := some (.int (nar .boolean (0 : Int32)))) (fun h => by rw [Bd.returns] at h; cases h)
          refine ⟨_, _, S16 _ ?_, hrun, hended, _, _, rfl, ?_, ⟨_, rfl⟩, hW, hsame.mono (by decide) (by decide)⟩
          · show Steps p.tables e below (s₁.setTop (mkF m 78 #[iv x0, iv 16, iv 0, iv 0] [(.int 0)])) _
            exact retN X0 hx (t := .boolean) Bd.returns (by simp) (hb hby d26_78) hr
          · show own_Qdg16 Z x0 h0 n0 _ s₁.heap _
            rw [e0]
            exact ⟨own_leafF (by first | (simp only [own_hex, Bool.or_true, Bool.true_or, Bool.or_false, Bool.false_or, decide_true, decide_false, not_true_eq_false, not_false_eq_true, and_true, true_and, and_false, false_and, and_self, or_true, true_or, or_false, false_or, or_self, if_true, if_false, Bool.not_true, Bool.not_false, Bool.and_true, Bool.true_and, Bool.and_false, Bool.false_and, *]; done) | (simp only [own_hex, Bool.or_true, Bool.true_or, Bool.or_false, Bool.false_or, decide_true, decide_false, not_true_eq_false, not_false_eq_true, and_true, true_and, and_false, false_and, and_self, or_true, true_or, or_false, false_or, or_self, if_true, if_false, Bool.not_true, Bool.not_false, Bool.and_true, Bool.true_and, Bool.and_false, Bool.false_and, *]; decide)), rfl, rfl⟩
        · skip
          have S17 : own_G p e below s0 s₁ m 66 #[iv x0, iv 16, iv 0, iv 1] [(.int 0)] := fun t kt => by
            refine S11 t ?_
            refine w_icmpNo X0 hx hby d26_56 (flt hc56).2.2.1 ?_
            refine w_iconst X0 hx hby d26_59 ?_
            refine w_goto X0 hx hby (pc' := 64) d26_60 (by decide) ?_
            refine w_istoreN X0 hx hby d26_64 (l' := #[iv x0, iv 16, iv 0, iv 1]) rfl ?_
            refine w_iloadN X0 hx hby d26_65 rfl ?_
            exact kt
          have hc66_18 : (0 : Int32) = (0 : Int32) := by decide
          have S19 : own_G p e below s0 s₁ m 70 #[iv x0, iv 16, iv 0, iv 1] [(.int 1)] := fun t kt => by
            refine S17 t ?_
            refine w_ifNo X0 hx hby d26_66 ((if0 _ _).trans (teq hc66_18).2) ?_
            refine w_iloadN X0 hx hby d26_69 rfl ?_
            exact kt
          have hc70_20 : ¬ ((1 : Int32) = (0 : Int32)) := by decide
          have S21 : own_G p e below s0 s₁ m 78 #[iv x0, iv 16, iv 0, iv 1] [(.int 1)] := fun t kt => by
            refine S19 t ?_
            refine w_ifNo X0 hx hby d26_70 ((if0 _ _).trans (feq hc70_20).1) ?_
            refine w_iconst X0 hx hby d26_73 ?_
            refine w_goto X0 hx hby (pc' := 78) d26_74 (by decide) ?_
            exact kt
          obtain ⟨fs, hr, hrun, hended, hW, hsame⟩ := X0.leave (v := some (.int (nar .boolean (1 : Int32)))) (fun h => by rw [Bd.returns] at h; cases h)
          refine ⟨_, _, S21 _ ?_, hrun, hended, _, _, rfl, ?_, ⟨_, rfl⟩, hW, hsame.mono (by decide) (by decide)⟩
          · show Steps p.tables e below (s₁.setTop (mkF m 78 #[iv x0, iv 16, iv 0, iv 1] [(.int 1)])) _
            exact retN X0 hx (t := .boolean) Bd.returns (by simp) (hb hby d26_78) hr
          · show own_Qdg16 Z x0 h0 n0 _ s₁.heap _
            rw [e0]
            exact ⟨own_leafT (by first | (simp only [own_hex, Bool.or_true, Bool.true_or, Bool.or_false, Bool.false_or, decide_true, decide_false, not_true_eq_false, not_false_eq_true, and_true, true_and, and_false, false_and, and_self, or_true, true_or, or_false, false_or, or_self, if_true, if_false, Bool.not_true, Bool.not_false, Bool.and_true, Bool.true_and, Bool.and_false, Bool.false_and, *]; done) | (simp only [own_hex, Bool.or_true, Bool.true_or, Bool.or_false, Bool.false_or, decide_true, decide_false, not_true_eq_false, not_false_eq_true, and_true, true_and, and_false, false_and, and_self, or_true, true_or, or_false, false_or, or_self, if_true, if_false, Bool.not_true, Bool.not_false, Bool.and_true, Bool.true_and, Bool.and_false, Bool.false_and, *]; decide)), rfl, rfl⟩
    · skip
      have S22 : own_G p e below s0 s₁ m 44 #[iv x0, iv 16, iv 0, .unset] [(.int 102), (.int x0)] := fun t kt => by
        refine S4 t ?_
        refine w_icmpNo X0 hx hby d26_38 (flt hc38).1 ?_
        refine w_iloadN X0 hx hby d26_41 rfl ?_
        refine w_bipush X0 hx hby d26_42 ?_
        exact kt
      by_cases hc44 : (102 : Int32) < x0
      · skip
        have S23 : own_G p e below s0 s₁ m 50 #[iv x0, iv 16, iv 0, .unset] [(.int 65), (.int x0)] := fun t kt => by
          refine S22 t ?_
          refine w_icmpNo X0 hx hby d26_44 (tlt hc44).2.2.2 ?_
          refine w_iloadN X0 hx hby d26_47 rfl ?_
          refine w_bipush X0 hx hby d26_48 ?_
          exact kt
        by_cases hc50 : x0 < (65 : Int32)
        · skip
          have S24 : own_G p e below s0 s₁ m 66 #[iv x0, iv 16, iv 0, iv 0] [(.int 0)] := fun t kt => by
            refine S23 t ?_
            refine w_icmpYes X0 hx hby (pc' := 63) d26_50 (tlt hc50).1 (by decide) ?_
            refine w_iconst X0 hx hby d26_63 ?_
            refine w_istoreN X0 hx hby d26_64 (l' := #[iv x0, iv 16, iv 0, iv 0]) rfl ?_
            refine w_iloadN X0 hx hby d26_65 rfl ?_
            exact kt
          have hc66_25 : (0 : Int32) = (0 : Int32) := by decide
          have S26 : own_G p e below s0 s₁ m 70 #[iv x0, iv 16, iv 0, iv 0] [(.int 0)] := fun t kt => by
            refine S24 t ?_
            refine w_ifNo X0 hx hby d26_66 ((if0 _ _).trans (teq hc66_25).2) ?_
            refine w_iloadN X0 hx hby d26_69 rfl ?_
            exact kt
          have hc70_27 : (0 : Int32) = (0 : Int32) := by decide
          have S28 : own_G p e below s0 s₁ m 78 #[iv x0, iv 16, iv 0, iv 0] [(.int 0)] := fun t kt => by
            refine S26 t ?_
            refine w_ifYes X0 hx hby (pc' := 77) d26_70 ((if0 _ _).trans (teq hc70_27).1) (by decide) ?_
            refine w_iconst X0 hx hby d26_77 ?_
            exact kt
          obtain ⟨fs, hr, hrun, hended, hW, hsame⟩ := X0.leave (v := some (.int (nar .boolean (0 : Int32)))) (fun h => by rw [Bd.returns] at h; cases h)
          refine ⟨_, _, S28 _ ?_, hrun, hended, _, _, rfl, ?_, ⟨_, rfl⟩, hW, hsame.mono (by decide) (by decide)⟩
          · show Steps p.tables e below (s₁.setTop (mkF m 78 #[iv x0, iv 16, iv 0, iv 0] [(.int 0)])) _
            exact retN X0 hx (t := .boolean) Bd.returns (by simp) (hb hby d26_78) hr
          · show own_Qdg16 Z x0 h0 n0 _ s₁.heap _
            rw [e0]
            exact ⟨own_leafF (by first | (simp only [own_hex, Bool.or_true, Bool.true_or, Bool.or_false, Bool.false_or, decide_true, decide_false, not_true_eq_false, not_false_eq_true, and_true, true_and, and_false, false_and, and_self, or_true, true_or, or_false, false_or, or_self, if_true, if_false, Bool.not_true, Bool.not_false, Bool.and_true, Bool.true_and, Bool.and_false, Bool.false_and, *]; done) | (simp only [own_hex, Bool.or_true, Bool.true_or, Bool.or_false, Bool.false_or, decide_true, decide_false, not_true_eq_false, not_false_eq_true, and_true, true_and, and_false, false_and, and_self, or_true, true_or, or_false, false_or, or_self, if_true, if_false, Bool.not_true, Bool.not_false, Bool.and_true, Bool.true_and, Bool.and_false, Bool.false_and, *]; decide)), rfl, rfl⟩
        · skip
          have S29 : own_G p e below s0 s₁ m 56 #[iv x0, iv 16, iv 0, .unset] [(.int 70), (.int x0)] := fun t kt => by
            refine S23 t ?_
            refine w_icmpNo X0 hx hby d26_50 (flt hc50).1 ?_
            refine w_iloadN X0 hx hby d26_53 rfl ?_
            refine w_bipush X0 hx hby d26_54 ?_
            exact kt
          by_cases hc56 : (70 : Int32) < x0
          · skip
            have S30 : own_G p e below s0 s₁ m 66 #[iv x0, iv 16, iv 0, iv 0] [(.int 0)] := fun t kt => by
              refine S29 t ?_
              refine w_icmpYes X0 hx hby (pc' := 63) d26_56 (tlt hc56).2.2.1 (by decide) ?_
              refine w_iconst X0 hx hby d26_63 ?_
              refine w_istoreN X0 hx hby d26_64 (l' := #[iv x0, iv 16, iv 0, iv 0]) rfl ?_
              refine w_iloadN X0 hx hby d26_65 rfl ?_
              exact kt
            have hc66_31 : (0 : Int32) = (0 : Int32) := by decide
            have S32 : own_G p e below s0 s₁ m 70 #[iv x0, iv 16, iv 0, iv 0] [(.int 0)] := fun t kt => by
              refine S30 t ?_
              refine w_ifNo X0 hx hby d26_66 ((if0 _ _).trans (teq hc66_31).2) ?_
              refine w_iloadN X0 hx hby d26_69 rfl ?_
              exact kt
            have hc70_33 : (0 : Int32) = (0 : Int32) := by decide
            have S34 : own_G p e below s0 s₁ m 78 #[iv x0, iv 16, iv 0, iv 0] [(.int 0)] := fun t kt => by
              refine S32 t ?_
              refine w_ifYes X0 hx hby (pc' := 77) d26_70 ((if0 _ _).trans (teq hc70_33).1) (by decide) ?_
              refine w_iconst X0 hx hby d26_77 ?_
              exact kt
            obtain ⟨fs, hr, hrun, hended, hW, hsame⟩ := X0.leave (v := some (.int (nar .boolean (0 : Int32)))) (fun h => by rw [Bd.returns] at h; cases h)
            refine ⟨_, _, S34 _ ?_, hrun, hended, _, _, rfl, ?_, ⟨_, rfl⟩, hW, hsame.mono (by decide) (by decide)⟩
            · show Steps p.tables e below (s₁.setTop (mkF m 78 #[iv x0, iv 16, iv 0, iv 0] [(.int 0)])) _
              exact retN X0 hx (t := .boolean) Bd.returns (by simp) (hb hby d26_78) hr
            · show own_Qdg16 Z x0 h0 n0 _ s₁.heap _
              rw [e0]
              exact ⟨own_leafF (by first | (simp only [own_hex, Bool.or_true, Bool.true_or, Bool.or_false, Bool.false_or, decide_true, decide_false, not_true_eq_false, not_false_eq_true, and_true, true_and, and_false, false_and, and_self, or_true, true_or, or_false, false_or, or_self, if_true, if_false, Bool.not_true, Bool.not_false, Bool.and_true, Bool.true_and, Bool.and_false, Bool.false_and, *]; done) | (simp only [own_hex, Bool.or_true, Bool.true_or, Bool.or_false, Bool.false_or, decide_true, decide_false, not_true_eq_false, not_false_eq_true, and_true, true_and, and_false, false_and, and_self, or_true, true_or, or_false, false_or, or_self, if_true, if_false, Bool.not_true, Bool.not_false, Bool.and_true, Bool.true_and, Bool.and_false, Bool.false_and, *]; decide)), rfl, rfl⟩
          · skip
            have S35 : own_G p e below s0 s₁ m 66 #[iv x0, iv 16, iv 0, iv 1] [(.int 0)] := fun t kt => by
              refine S29 t ?_
              refine w_icmpNo X0 hx hby d26_56 (flt hc56).2.2.1 ?_
              refine w_iconst X0 hx hby d26_59 ?_
              refine w_goto X0 hx hby (pc' := 64) d26_60 (by decide) ?_
              refine w_istoreN X0 hx hby d26_64 (l' := #[iv x0, iv 16, iv 0, iv 1]) rfl ?_
              refine w_iloadN X0 hx hby d26_65 rfl ?_
              exact kt
            have hc66_36 : (0 : Int32) = (0 : Int32) := by decide
            have S37 : own_G p e below s0 s₁ m 70 #[iv x0, iv 16, iv 0, iv 1] [(.int 1)] := fun t kt => by
              refine S35 t ?_
              refine w_ifNo X0 hx hby d26_66 ((if0 _ _).trans (teq hc66_36).2) ?_
              refine w_iloadN X0 hx hby d26_69 rfl ?_
              exact kt
            have hc70_38 : ¬ ((1 : Int32) = (0 : Int32)) := by decide
            have S39 : own_G p e below s0 s₁ m 78 #[iv x0, iv 16, iv 0, iv 1] [(.int 1)] := fun t kt => by
              refine S37 t ?_
              refine w_ifNo X0 hx hby d26_70 ((if0 _ _).trans (feq hc70_38).1) ?_
              refine w_iconst X0 hx hby d26_73 ?_
              refine w_goto X0 hx hby (pc' := 78) d26_74 (by decide) ?_
              exact kt
            obtain ⟨fs, hr, hrun, hended, hW, hsame⟩ := X0.leave (v := some (.int (nar .boolean (1 : Int32)))) (fun h => by rw [Bd.returns] at h; cases h)
            refine ⟨_, _, S39 _ ?_, hrun, hended, _, _, rfl, ?_, ⟨_, rfl⟩, hW, hsame.mono (by decide) (by decide)⟩
            · show Steps p.tables e below (s₁.setTop (mkF m 78 #[iv x0, iv 16, iv 0, iv 1] [(.int 1)])) _
              exact retN X0 hx (t := .boolean) Bd.returns (by simp) (hb hby d26_78) hr
            · show own_Qdg16 Z x0 h0 n0 _ s₁.heap _
              rw [e0]
              exact ⟨own_leafT (by first | (simp only [own_hex, Bool.or_true, Bool.true_or, Bool.or_false, Bool.false_or, decide_true, decide_false, not_true_eq_false, not_false_eq_true, and_true, true_and, and_false, false_and, and_self, or_true, true_or, or_false, false_or, or_self, if_true, if_false, Bool.not_true, Bool.not_false, Bool.and_true, Bool.true_and, Bool.and_false, Bool.false_and, *]; done) | (simp only [own_hex, Bool.or_true, Bool.true_or, Bool.or_false, Bool.false_or, decide_true, decide_false, not_true_eq_false, not_false_eq_true, and_true, true_and, and_false, false_and, and_self, or_true, true_or, or_false, false_or, or_self, if_true, if_false, Bool.not_true, Bool.not_false, Bool.and_true, Bool.true_and, Bool.and_false, Bool.false_and, *]; decide)), rfl, rfl⟩
      · skip
        have S40 : own_G p e below s0 s₁ m 66 #[iv x0, iv 16, iv 0, iv 1] [(.int 0)] := fun t kt => by
          refine S22 t ?_
          refine w_icmpYes X0 hx hby (pc' := 59) d26_44 (flt hc44).2.2.2 (by decide) ?_
          refine w_iconst X0 hx hby d26_59 ?_
          refine w_goto X0 hx hby (pc' := 64) d26_60 (by decide) ?_
          refine w_istoreN X0 hx hby d26_64 (l' := #[iv x0, iv 16, iv 0, iv 1]) rfl ?_
          refine w_iloadN X0 hx hby d26_65 rfl ?_
          exact kt
        have hc66_41 : (0 : Int32) = (0 : Int32) := by decide
        have S42 : own_G p e below s0 s₁ m 70 #[iv x0, iv 16, iv 0, iv 1] [(.int 1)] := fun t kt => by
          refine S40 t ?_
          refine w_ifNo X0 hx hby d26_66 ((if0 _ _).trans (teq hc66_41).2) ?_
          refine w_iloadN X0 hx hby d26_69 rfl ?_
          exact kt
        have hc70_43 : ¬ ((1 : Int32) = (0 : Int32)) := by decide
        have S44 : own_G p e below s0 s₁ m 78 #[iv x0, iv 16, iv 0, iv 1] [(.int 1)] := fun t kt => by
          refine S42 t ?_
          refine w_ifNo X0 hx hby d26_70 ((if0 _ _).trans (feq hc70_43).1) ?_
          refine w_iconst X0 hx hby d26_73 ?_
          refine w_goto X0 hx hby (pc' := 78) d26_74 (by decide) ?_
          exact kt
        obtain ⟨fs, hr, hrun, hended, hW, hsame⟩ := X0.leave (v := some (.int (nar .boolean (1 : Int32)))) (fun h => by rw [Bd.returns] at h; cases h)
        refine ⟨_, _, S44 _ ?_, hrun, hended, _, _, rfl, ?_, ⟨_, rfl⟩, hW, hsame.mono (by decide) (by decide)⟩
        · show Steps p.tables e below (s₁.setTop (mkF m 78 #[iv x0, iv 16, iv 0, iv 1] [(.int 1)])) _
          exact retN X0 hx (t := .boolean) Bd.returns (by simp) (hb hby d26_78) hr
        · show own_Qdg16 Z x0 h0 n0 _ s₁.heap _
          rw [e0]
          exact ⟨own_leafT (by first | (simp only [own_hex, Bool.or_true, Bool.true_or, Bool.or_false, Bool.false_or, decide_true, decide_false, not_true_eq_false, not_false_eq_true, and_true, true_and, and_false, false_and, and_self, or_true, true_or, or_false, false_or, or_self, if_true, if_false, Bool.not_true, Bool.not_false, Bool.and_true, Bool.true_and, Bool.and_false, Bool.false_and, *]; done) | (simp only [own_hex, Bool.or_true, Bool.true_or, Bool.or_false, Bool.false_or, decide_true, decide_false, not_true_eq_false, not_false_eq_true, and_true, true_and, and_false, false_and, and_self, or_true, true_or, or_false, false_or, or_self, if_true, if_false, Bool.not_true, Bool.not_false, Bool.and_true, Bool.true_and, Bool.and_false, Bool.false_and, *]; decide)), rfl, rfl⟩
  · skip
    have S45 : own_G p e below s0 s₁ m 10 #[iv x0, iv 16, .unset, .unset] [(.int 8), (.int 16), (.int x0)] := fun t kt => by
      refine S1 t ?_
      refine w_icmpNo X0 hx hby d26_3 (flt hc3).1 ?_
      refine w_iloadN X0 hx hby d26_6 rfl ?_
      refine w_iloadN X0 hx hby d26_7 rfl ?_
      refine w_bipush X0 hx hby d26_8 ?_
      exact kt
    have hc10_46 : ¬ ((16 : Int32) = (8 : Int32)) := by decide
    have S47 : own_G p e below s0 s₁ m 20 #[iv x0, iv 16, .unset, .unset] [(.int 57), (.int x0)] := fun t kt => by
      refine S45 t ?_
      refine w_icmpYes X0 hx hby (pc' := 18) d26_10 (feq hc10_46).2 (by decide) ?_
      refine w_bipush X0 hx hby d26_18 ?_
      exact kt
    by_cases hc20 : (57 : Int32) < x0
    · skip
      have S48 : own_G p e below s0 s₁ m 32 #[iv x0, iv 16, iv 0, .unset] [(.int 16), (.int 16)] := fun t kt => by
        refine S47 t ?_
        refine w_icmpYes X0 hx hby (pc' := 27) d26_20 (tlt hc20).2.2.1 (by decide) ?_
        refine w_iconst X0 hx hby d26_27 ?_
        refine w_istoreN X0 hx hby d26_28 (l' := #[iv x0, iv 16, iv 0, .unset]) rfl ?_
        refine w_iloadN X0 hx hby d26_29 rfl ?_
        refine w_bipush X0 hx hby d26_30 ?_
        exact kt
      have hc32_49 : (16 : Int32) = (16 : Int32) := by decide
      have S50 : own_G p e below s0 s₁ m 38 #[iv x0, iv 16, iv 0, .unset] [(.int 97), (.int x0)] := fun t kt => by
        refine S48 t ?_
        refine w_icmpNo X0 hx hby d26_32 (teq hc32_49).2 ?_
        refine w_iloadN X0 hx hby d26_35 rfl ?_
        refine w_bipush X0 hx hby d26_36 ?_
        exact kt
      by_cases hc38 : x0 < (97 : Int32)
      · skip
        have S51 : own_G p e below s0 s₁ m 50 #[iv x0, iv 16, iv 0, .unset] [(.int 65), (.int x0)] := fun t kt => by
          refine S50 t ?_
          refine w_icmpYes X0 hx hby (pc' := 47) d26_38 (tlt hc38).1 (by decide) ?_
          refine w_iloadN X0 hx hby d26_47 rfl ?_
          refine w_bipush X0 hx hby d26_48 ?_
          exact kt
        by_cases hc50 : x0 < (65 : Int32)
        · skip
          have S52 : own_G p e below s0 s₁ m 66 #[iv x0, iv 16, iv 0, iv 0] [(.int 0)] := fun t kt => by
            refine S51 t ?_
            refine w_icmpYes X0 hx hby (pc' := 63) d26_50 (tlt hc50).1 (by decide) ?_
            refine w_iconst X0 hx hby d26_63 ?_
            refine w_istoreN X0 hx hby d26_64 (l' := #[iv x0, iv 16, iv 0, iv 0]) rfl ?_
            refine w_iloadN X0 hx hby d26_65 rfl ?_
            exact kt
          have hc66_53 : (0 : Int32) = (0 : Int32) := by decide
          have S54 : own_G p e below s0 s₁ m 70 #[iv x0, iv 16, iv 0, iv 0] [(.int 0)] := fun t kt => by
            refine S52 t ?_
            refine w_ifNo X0 hx hby d26_66 ((if0 _ _).trans (teq hc66_53).2) ?_
            refine w_iloadN X0 hx hby d26_69 rfl ?_
            exact kt
          have hc70_55 : (0 : Int32) = (0 : Int32) := by decide
          have S56 : own_G p e below s0 s₁ m 78 #[iv x0, iv 16, iv 0, iv 0] [(.int 0)] := fun t kt => by
            refine S54 t ?_
            refine w_ifYes X0 hx hby (pc' := 77) d26_70 ((if0 _ _).trans (teq hc70_55).1) (by decide) ?_
            refine w_iconst X0 hx hby d26_77 ?_
            exact kt
          obtain ⟨fs, hr, hrun, hended, hW, hsame⟩ := X0.leave (v := some (.int (nar .boolean (0 : Int32)))) (fun h => by rw [Bd.returns] at h; cases h)
          refine ⟨_, _, S56 _ ?_, hrun, hended, _, _, rfl, ?_, ⟨_, rfl⟩, hW, hsame.mono (by decide) (by decide)⟩
          · show Steps p.tables e below (s₁.setTop (mkF m 78 #[iv x0, iv 16, iv 0, iv 0] [(.int 0)])) _
            exact retN X0 hx (t := .boolean) Bd.returns (by simp) (hb hby d26_78) hr
          · show own_Qdg16 Z x0 h0 n0 _ s₁.heap _
            rw [e0]
            exact ⟨own_leafF (by first | (simp only [own_hex, Bool.or_true, Bool.true_or, Bool.or_false, Bool.false_or, decide_true, decide_false, not_true_eq_false, not_false_eq_true, and_true, true_and, and_false, false_and, and_self, or_true, true_or, or_false, false_or, or_self, if_true, if_false, Bool.not_true, Bool.not_false, Bool.and_true, Bool.true_and, Bool.and_false, Bool.false_and, *]; done) | (simp only [own_hex, Bool.or_true, Bool.true_or, Bool.or_false, Bool.false_or, decide_true, decide_false, not_true_eq_false, not_false_eq_true, and_true, true_and, and_false, false_and, and_self, or_true, true_or, or_false, false_or, or_self, if_true, if_false, Bool.not_true, Bool.not_false, Bool.and_true, Bool.true_and, Bool.and_false, Bool.false_and, *]; decide)), rfl, rfl⟩
        · skip
          have S57 : own_G p e below s0 s₁ m 56 #[iv x0, iv 16, iv 0, .unset] [(.int 70), (.int x0)] := fun t kt => by
            refine S51 t ?_
            refine w_icmpNo X0 hx hby d26_50 (flt hc50).1 ?_
            refine w_iloadN X0 hx hby d26_53 rfl ?_
            refine w_bipush X0 hx hby d26_54 ?_
            exact kt
          by_cases hc56 : (70 : Int32) < x0
          · skip
            have S58 : own_G p e below s0 s₁ m 66 #[iv x0, iv 16, iv 0, iv 0] [(.int 0)] := fun t kt => by
              refine S57 t ?_
              refine w_icmpYes X0 hx hby (pc' := 63) d26_56 (tlt hc56).2.2.1 (by decide) ?_
              refine w_iconst X0 hx hby d26_63 ?_
              refine w_istoreN X0 hx hby d26_64 (l' := #[iv x0, iv 16, iv 0, iv 0]) rfl ?_
              refine w_iloadN X0 hx hby d26_65 rfl ?_
              exact kt
            have hc66_59 : (0 : Int32) = (0 : Int32) := by decide
            have S60 : own_G p e below s0 s₁ m 70 #[iv x0, iv 16, iv 0, iv 0] [(.int 0)] := fun t kt => by
              refine S58 t ?_
              refine w_ifNo X0 hx hby d26_66 ((if0 _ _).trans (teq hc66_59).2) ?_
              refine w_iloadN X0 hx hby d26_69 rfl ?_
              exact kt
            have hc70_61 : (0 : Int32) = (0 : Int32) := by decide
            have S62 : own_G p e below s0 s₁ m 78 #[iv x0, iv 16, iv 0, iv 0] [(.int 0)] := fun t kt => by
              refine S60 t ?_
              refine w_ifYes X0 hx hby (pc' := 77) d26_70 ((if0 _ _).trans (teq hc70_61).1) (by decide) ?_
              refine w_iconst X0 hx hby d26_77 ?_
              exact kt
            obtain ⟨fs, hr, hrun, hended, hW, hsame⟩ := X0.leave (v := some (.int (nar .boolean (0 : Int32)))) (fun h => by rw [Bd.returns] at h; cases h)
            refine ⟨_, _, S62 _ ?_, hrun, hended, _, _, rfl, ?_, ⟨_, rfl⟩, hW, hsame.mono (by decide) (by decide)⟩
            · show Steps p.tables e below (s₁.setTop (mkF m 78 #[iv x0, iv 16, iv 0, iv 0] [(.int 0)])) _
              exact retN X0 hx (t := .boolean) Bd.returns (by simp) (hb hby d26_78) hr
            · show own_Qdg16 Z x0 h0 n0 _ s₁.heap _
              rw [e0]
              exact ⟨own_leafF (by first | (simp only [own_hex, Bool.or_true, Bool.true_or, Bool.or_false, Bool.false_or, decide_true, decide_false, not_true_eq_false, not_false_eq_true, and_true, true_and, and_false, false_and, and_self, or_true, true_or, or_false, false_or, or_self, if_true, if_false, Bool.not_true, Bool.not_false, Bool.and_true, Bool.true_and, Bool.and_false, Bool.false_and, *]; done) | (simp only [own_hex, Bool.or_true, Bool.true_or, Bool.or_false, Bool.false_or, decide_true, decide_false, not_true_eq_false, not_false_eq_true, and_true, true_and, and_false, false_and, and_self, or_true, true_or, or_false, false_or, or_self, if_true, if_false, Bool.not_true, Bool.not_false, Bool.and_true, Bool.true_and, Bool.and_false, Bool.false_and, *]; decide)), rfl, rfl⟩
          · skip
            have S63 : own_G p e below s0 s₁ m 66 #[iv x0, iv 16, iv 0, iv 1] [(.int 0)] := fun t kt => by
              refine S57 t ?_
              refine w_icmpNo X0 hx hby d26_56 (flt hc56).2.2.1 ?_
              refine w_iconst X0 hx hby d26_59 ?_
              refine w_goto X0 hx hby (pc' := 64) d26_60 (by decide) ?_
              refine w_istoreN X0 hx hby d26_64 (l' := #[iv x0, iv 16, iv 0, iv 1]) rfl ?_
              refine w_iloadN X0 hx hby d26_65 rfl ?_
              exact kt
            have hc66_64 : (0 : Int32) = (0 : Int32) := by decide
            have S65 : own_G p e below s0 s₁ m 70 #[iv x0, iv 16, iv 0, iv 1] [(.int 1)] := fun t kt => by
              refine S63 t ?_
              refine w_ifNo X0 hx hby d26_66 ((if0 _ _).trans (teq hc66_64).2) ?_
              refine w_iloadN X0 hx hby d26_69 rfl ?_
              exact kt
            have hc70_66 : ¬ ((1 : Int32) = (0 : Int32)) := by decide
            have S67 : own_G p e below s0 s₁ m 78 #[iv x0, iv 16, iv 0, iv 1] [(.int 1)] := fun t kt => by
              refine S65 t ?_
              refine w_ifNo X0 hx hby d26_70 ((if0 _ _).trans (feq hc70_66).1) ?_
              refine w_iconst X0 hx hby d26_73 ?_
              refine w_goto X0 hx hby (pc' := 78) d26_74 (by decide) ?_
              exact kt
            obtain ⟨fs, hr, hrun, hended, hW, hsame⟩ := X0.leave (v := some (.int (nar .boolean (1 : Int32)))) (fun h => by rw [Bd.returns] at h; cases h)
            refine ⟨_, _, S67 _ ?_, hrun, hended, _, _, rfl, ?_, ⟨_, rfl⟩, hW, hsame.mono (by decide) (by decide)⟩
            · show Steps p.tables e below (s₁.setTop (mkF m 78 #[iv x0, iv 16, iv 0, iv 1] [(.int 1)])) _
              exact retN X0 hx (t := .boolean) Bd.returns (by simp) (hb hby d26_78) hr
            · show own_Qdg16 Z x0 h0 n0 _ s₁.heap _
              rw [e0]
              exact ⟨own_leafT (by first | (simp only [own_hex, Bool.or_true, Bool.true_or, Bool.or_false, Bool.false_or, decide_true, decide_false, not_true_eq_false, not_false_eq_true, and_true, true_and, and_false, false_and, and_self, or_true, true_or, or_false, false_or, or_self, if_true, if_false, Bool.not_true, Bool.not_false, Bool.and_true, Bool.true_and, Bool.and_false, Bool.false_and, *]; done) | (simp only [own_hex, Bool.or_true, Bool.true_or, Bool.or_false, Bool.false_or, decide_true, decide_false, not_true_eq_false, not_false_eq_true, and_true, true_and, and_false, false_and, and_self, or_true, true_or, or_false, false_or, or_self, if_true, if_false, Bool.not_true, Bool.not_false, Bool.and_true, Bool.true_and, Bool.and_false, Bool.false_and, *]; decide)), rfl, rfl⟩
      · skip
        have S68 : own_G p e below s0 s₁ m 44 #[iv x0, iv 16, iv 0, .unset] [(.int 102), (.int x0)] := fun t kt => by
          refine S50 t ?_
          refine w_icmpNo X0 hx hby d26_38 (flt hc38).1 ?_
          refine w_iloadN X0 hx hby d26_41 rfl ?_
          refine w_bipush X0 hx hby d26_42 ?_
          exact kt
        by_cases hc44 : (102 : Int32) < x0
        · skip
          have S69 : own_G p e below s0 s₁ m 50 #[iv x0, iv 16, iv 0, .unset] [(.int 65), (.int x0)] := fun t kt => by
            refine S68 t ?_
            refine w_icmpNo X0 hx hby d26_44 (tlt hc44).2.2.2 ?_
            refine w_iloadN X0 hx hby d26_47 rfl ?_
            refine w_bipush X0 hx hby d26_48 ?_
            exact kt
          by_cases hc50 : x0 < (65 : Int32)
          · skip
            have S70 : own_G p e below s0 s₁ m 66 #[iv x0, iv 16, iv 0, iv 0] [(.int 0)] := fun t kt => by
              refine S69 t ?_
              refine w_icmpYes X0 hx hby (pc' := 63) d26_50 (tlt hc50).1 (by decide) ?_
              refine w_iconst X0 hx hby d26_63 ?_
              refine w_istoreN X0 hx hby d26_64 (l' := #[iv x0, iv 16, iv 0, iv 0]) rfl ?_
              refine w_iloadN X0 hx hby d26_65 rfl ?_
              exact kt
            have hc66_71 : (0 : Int32) = (0 : Int32) := by decide
            have S72 : own_G p e below s0 s₁ m 70 #[iv x0, iv 16, iv 0, iv 0] [(.int 0)] := fun t kt => by
              refine S70 t ?_
              refine w_ifNo X0 hx hby d26_66 ((if0 _ _).trans (teq hc66_71).2) ?_
              refine w_iloadN X0 hx hby d26_69 rfl ?_
              exact kt
            have hc70_73 : (0 : Int32) = (0 : Int32) := by decide
            have S74 : own_G p e below s0 s₁ m 78 #[iv x0, iv 16, iv 0, iv 0] [(.int 0)] := fun t kt => by
              refine S72 t ?_
              refine w_ifYes X0 hx hby (pc' := 77) d26_70 ((if0 _ _).trans (teq hc70_73).1) (by decide) ?_
              refine w_iconst X0 hx hby d26_77 ?_
              exact kt
            obtain ⟨fs, hr, hrun, hended, hW, hsame⟩ := X0.leave (v := some (.int (nar .boolean (0 : Int32)))) (fun h => by rw [Bd.returns] at h; cases h)
            refine ⟨_, _, S74 _ ?_, hrun, hended, _, _, rfl, ?_, ⟨_, rfl⟩, hW, hsame.mono (by decide) (by decide)⟩
            · show Steps p.tables e below (s₁.setTop (mkF m 78 #[iv x0, iv 16, iv 0, iv 0] [(.int 0)])) _
              exact retN X0 hx (t := .boolean) Bd.returns (by simp) (hb hby d26_78) hr
            · show own_Qdg16 Z x0 h0 n0 _ s₁.heap _
              rw [e0]
              exact ⟨own_leafF (by first | (simp only [own_hex, Bool.or_true, Bool.true_or, Bool.or_false, Bool.false_or, decide_true, decide_false, not_true_eq_false, not_false_eq_true, and_true, true_and, and_false, false_and, and_self, or_true, true_or, or_false, false_or, or_self, if_true, if_false, Bool.not_true, Bool.not_false, Bool.and_true, Bool.true_and, Bool.and_false, Bool.false_and, *]; done) | (simp only [own_hex, Bool.or_true, Bool.true_or, Bool.or_false, Bool.false_or, decide_true, decide_false, not_true_eq_false, not_false_eq_true, and_true, true_and, and_false, false_and, and_self, or_true, true_or, or_false, false_or, or_self, if_true, if_false, Bool.not_true, Bool.not_false, Bool.and_true, Bool.true_and, Bool.and_false, Bool.false_and, *]; decide)), rfl, rfl⟩
          · skip
            have S75 : own_G p e below s0 s₁ m 56 #[iv x0, iv 16, iv 0, .unset] [(.int 70), (.int x0)] := fun t kt => by
              refine S69 t ?_
              refine w_icmpNo X0 hx hby d26_50 (flt hc50).1 ?_
              refine w_iloadN X0 hx hby d26_53 rfl ?_
              refine w_bipush X0 hx hby d26_54 ?_
              exact kt
            by_cases hc56 : (70 : Int32) < x0
            · skip
              have S76 : own_G p e below s0 s₁ m 66 #[iv x0, iv 16, iv 0, iv 0] [(.int 0)] := fun t kt => by
                refine S75 t ?_
                refine w_icmpYes X0 hx hby (pc' := 63) d26_56 (tlt hc56).2.2.1 (by decide) ?_
                refine w_iconst X0 hx hby d26_63 ?_
                refine w_istoreN X0 hx hby d26_64 (l' := #[iv x0, iv 16, iv 0, iv 0]) rfl ?_
                refine w_iloadN X0 hx hby d26_65 rfl ?_
                exact kt
              have hc66_77 : (0 : Int32) = (0 : Int32) := by decide
              have S78 : own_G p e below s0 s₁ m 70 #[iv x0, iv 16, iv 0, iv 0] [(.int 0)] := fun t kt => by
                refine S76 t ?_
                refine w_ifNo X0 hx hby d26_66 ((if0 _ _).trans (teq hc66_77).2) ?_
                refine w_iloadN X0 hx hby d26_69 rfl ?_
                exact kt
              have hc70_79 : (0 : Int32) = (0 : Int32) := by decide
              have S80 : own_G p e below s0 s₁ m 78 #[iv x0, iv 16, iv 0, iv 0] [(.int 0)] := fun t kt => by
                refine S78 t ?_
                refine w_ifYes X0 hx hby (pc' := 77) d26_70 ((if0 _ _).trans (teq hc70_79).1) (by decide) ?_
                refine w_iconst X0 hx hby d26_77 ?_
                exact kt
              obtain ⟨fs, hr, hrun, hended, hW, hsame⟩ := X0.leave (v := some (.int (nar .boolean (0 : Int32)))) (fun h => by rw [Bd.returns] at h; cases h)
              refine ⟨_, _, S80 _ ?_, hrun, hended, _, _, rfl, ?_, ⟨_, rfl⟩, hW, hsame.mono (by decide) (by decide)⟩
              · show Steps p.tables e below (s₁.setTop (mkF m 78 #[iv x0, iv 16, iv 0, iv 0] [(.int 0)])) _
                exact retN X0 hx (t := .boolean) Bd.returns (by simp) (hb hby d26_78) hr
              · show own_Qdg16 Z x0 h0 n0 _ s₁.heap _
                rw [e0]
                exact ⟨own_leafF (by first | (simp only [own_hex, Bool.or_true, Bool.true_or, Bool.or_false, Bool.false_or, decide_true, decide_false, not_true_eq_false, not_false_eq_true, and_true, true_and, and_false, false_and, and_self, or_true, true_or, or_false, false_or, or_self, if_true, if_false, Bool.not_true, Bool.not_false, Bool.and_true, Bool.true_and, Bool.and_false, Bool.false_and, *]; done) | (simp only [own_hex, Bool.or_true, Bool.true_or, Bool.or_false, Bool.false_or, decide_true, decide_false, not_true_eq_false, not_false_eq_true, and_true, true_and, and_false, false_and, and_self, or_true, true_or, or_false, false_or, or_self, if_true, if_false, Bool.not_true, Bool.not_false, Bool.and_true, Bool.true_and, Bool.and_false, Bool.false_and, *]; decide)), rfl, rfl⟩
            · skip
              have S81 : own_G p e below s0 s₁ m 66 #[iv x0, iv 16, iv 0, iv 1] [(.int 0)] := fun t kt => by
                refine S75 t ?_
                refine w_icmpNo X0 hx hby d26_56 (flt hc56).2.2.1 ?_
                refine w_iconst X0 hx hby d26_59 ?_
                refine w_goto X0 hx hby (pc' := 64) d26_60 (by decide) ?_
                refine w_istoreN X0 hx hby d26_64 (l' := #[iv x0, iv 16, iv 0, iv 1]) rfl ?_
                refine w_iloadN X0 hx hby d26_65 rfl ?_
                exact kt
              have hc66_82 : (0 : Int32) = (0 : Int32) := by decide
              have S83 : own_G p e below s0 s₁ m 70 #[iv x0, iv 16, iv 0, iv 1] [(.int 1)] := fun t kt => by
                refine S81 t ?_
                refine w_ifNo X0 hx hby d26_66 ((if0 _ _).trans (teq hc66_82).2) ?_
                refine w_iloadN X0 hx hby d26_69 rfl ?_
                exact kt
              have hc70_84 : ¬ ((1 : Int32) = (0 : Int32)) := by decide
              have S85 : own_G p e below s0 s₁ m 78 #[iv x0, iv 16, iv 0, iv 1] [(.int 1)] := fun t kt => by
                refine S83 t ?_
                refine w_ifNo X0 hx hby d26_70 ((if0 _ _).trans (feq hc70_84).1) ?_
                refine w_iconst X0 hx hby d26_73 ?_
                refine w_goto X0 hx hby (pc' := 78) d26_74 (by decide) ?_
                exact kt
              obtain ⟨fs, hr, hrun, hended, hW, hsame⟩ := X0.leave (v := some (.int (nar .boolean (1 : Int32)))) (fun h => by rw [Bd.returns] at h; cases h)
              refine ⟨_, _, S85 _ ?_, hrun, hended, _, _, rfl, ?_, ⟨_, rfl⟩, hW, hsame.mono (by decide) (by decide)⟩
              · show Steps p.tables e below (s₁.setTop (mkF m 78 #[iv x0, iv 16, iv 0, iv 1] [(.int 1)])) _
                exact retN X0 hx (t := .boolean) Bd.returns (by simp) (hb hby d26_78) hr
              · show own_Qdg16 Z x0 h0 n0 _ s₁.heap _
                rw [e0]
                exact ⟨own_leafT (by first | (simp only [own_hex, Bool.or_true, Bool.true_or, Bool.or_false, Bool.false_or, decide_true, decide_false, not_true_eq_false, not_false_eq_true, and_true, true_and, and_false, false_and, and_self, or_true, true_or, or_false, false_or, or_self, if_true, if_false, Bool.not_true, Bool.not_false, Bool.and_true, Bool.true_and, Bool.and_false, Bool.false_and, *]; done) | (simp only [own_hex, Bool.or_true, Bool.true_or, Bool.or_false, Bool.false_or, decide_true, decide_false, not_true_eq_false, not_false_eq_true, and_true, true_and, and_false, false_and, and_self, or_true, true_or, or_false, false_or, or_self, if_true, if_false, Bool.not_true, Bool.not_false, Bool.and_true, Bool.true_and, Bool.and_false, Bool.false_and, *]; decide)), rfl, rfl⟩
        · skip
          have S86 : own_G p e below s0 s₁ m 66 #[iv x0, iv 16, iv 0, iv 1] [(.int 0)] := fun t kt => by
            refine S68 t ?_
            refine w_icmpYes X0 hx hby (pc' := 59) d26_44 (flt hc44).2.2.2 (by decide) ?_
            refine w_iconst X0 hx hby d26_59 ?_
            refine w_goto X0 hx hby (pc' := 64) d26_60 (by decide) ?_
            refine w_istoreN X0 hx hby d26_64 (l' := #[iv x0, iv 16, iv 0, iv 1]) rfl ?_
            refine w_iloadN X0 hx hby d26_65 rfl ?_
            exact kt
          have hc66_87 : (0 : Int32) = (0 : Int32) := by decide
          have S88 : own_G p e below s0 s₁ m 70 #[iv x0, iv 16, iv 0, iv 1] [(.int 1)] := fun t kt => by
            refine S86 t ?_
            refine w_ifNo X0 hx hby d26_66 ((if0 _ _).trans (teq hc66_87).2) ?_
            refine w_iloadN X0 hx hby d26_69 rfl ?_
            exact kt
          have hc70_89 : ¬ ((1 : Int32) = (0 : Int32)) := by decide
          have S90 : own_G p e below s0 s₁ m 78 #[iv x0, iv 16, iv 0, iv 1] [(.int 1)] := fun t kt => by
            refine S88 t ?_
            refine w_ifNo X0 hx hby d26_70 ((if0 _ _).trans (feq hc70_89).1) ?_
            refine w_iconst X0 hx hby d26_73 ?_
            refine w_goto X0 hx hby (pc' := 78) d26_74 (by decide) ?_
            exact kt
          obtain ⟨fs, hr, hrun, hended, hW, hsame⟩ := X0.leave (v := some (.int (nar .boolean (1 : Int32)))) (fun h => by rw [Bd.returns] at h; cases h)
          refine ⟨_, _, S90 _ ?_, hrun, hended, _, _, rfl, ?_, ⟨_, rfl⟩, hW, hsame.mono (by decide) (by decide)⟩
          · show Steps p.tables e below (s₁.setTop (mkF m 78 #[iv x0, iv 16, iv 0, iv 1] [(.int 1)])) _
            exact retN X0 hx (t := .boolean) Bd.returns (by simp) (hb hby d26_78) hr
          · show own_Qdg16 Z x0 h0 n0 _ s₁.heap _
            rw [e0]
            exact ⟨own_leafT (by first | (simp only [own_hex, Bool.or_true, Bool.true_or, Bool.or_false, Bool.false_or, decide_true, decide_false, not_true_eq_false, not_false_eq_true, and_true, true_and, and_false, false_and, and_self, or_true, true_or, or_false, false_or, or_self, if_true, if_false, Bool.not_true, Bool.not_false, Bool.and_true, Bool.true_and, Bool.and_false, Bool.false_and, *]; done) | (simp only [own_hex, Bool.or_true, Bool.true_or, Bool.or_false, Bool.false_or, decide_true, decide_false, not_true_eq_false, not_false_eq_true, and_true, true_and, and_false, false_and, and_self, or_true, true_or, or_false, false_or, or_self, if_true, if_false, Bool.not_true, Bool.not_false, Bool.and_true, Bool.true_and, Bool.and_false, Bool.false_and, *]; decide)), rfl, rfl⟩
    · skip
      have S91 : own_G p e below s0 s₁ m 32 #[iv x0, iv 16, iv 1, .unset] [(.int 16), (.int 16)] := fun t kt => by
        refine S47 t ?_
        refine w_icmpNo X0 hx hby d26_20 (flt hc20).2.2.1 ?_
        refine w_iconst X0 hx hby d26_23 ?_
        refine w_goto X0 hx hby (pc' := 28) d26_24 (by decide) ?_
        refine w_istoreN X0 hx hby d26_28 (l' := #[iv x0, iv 16, iv 1, .unset]) rfl ?_
        refine w_iloadN X0 hx hby d26_29 rfl ?_
        refine w_bipush X0 hx hby d26_30 ?_
        exact kt
      have hc32_92 : (16 : Int32) = (16 : Int32) := by decide
      have S93 : own_G p e below s0 s₁ m 38 #[iv x0, iv 16, iv 1, .unset] [(.int 97), (.int x0)] := fun t kt => by
        refine S91 t ?_
        refine w_icmpNo X0 hx hby d26_32 (teq hc32_92).2 ?_
        refine w_iloadN X0 hx hby d26_35 rfl ?_
        refine w_bipush X0 hx hby d26_36 ?_
        exact kt
      by_cases hc38 : x0 < (97 : Int32)
      · skip
        have S94 : own_G p e below s0 s₁ m 50 #[iv x0, iv 16, iv 1, .unset] [(.int 65), (.int x0)] := fun t kt => by
          refine S93 t ?_
          refine w_icmpYes X0 hx hby (pc' := 47) d26_38 (tlt hc38).1 (by decide) ?_
          refine w_iloadN X0 hx hby d26_47 rfl ?_
          refine w_bipush X0 hx hby d26_48 ?_
          exact kt
        by_cases hc50 : x0 < (65 : Int32)
        · skip
          have S95 : own_G p e below s0 s₁ m 66 #[iv x0, iv 16, iv 1, iv 0] [(.int 1)] := fun t kt => by
            refine S94 t ?_
            refine w_icmpYes X0 hx hby (pc' := 63) d26_50 (tlt hc50).1 (by decide) ?_
            refine w_iconst X0 hx hby d26_63 ?_
            refine w_istoreN X0 hx hby d26_64 (l' := #[iv x0, iv 16, iv 1, iv 0]) rfl ?_
            refine w_iloadN X0 hx hby d26_65 rfl ?_
            exact kt
          have hc66_96 : ¬ ((1 : Int32) = (0 : Int32)) := by decide
          have S97 : own_G p e below s0 s₁ m 78 #[iv x0, iv 16, iv 1, iv 0] [(.int 1)] := fun t kt => by
            refine S95 t ?_
            refine w_ifYes X0 hx hby (pc' := 73) d26_66 ((if0 _ _).trans (feq hc66_96).2) (by decide) ?_
            refine w_iconst X0 hx hby d26_73 ?_
            refine w_goto X0 hx hby (pc' := 78) d26_74 (by decide) ?_
            exact kt
          obtain ⟨fs, hr, hrun, hended, hW, hsame⟩ := X0.leave (v := some (.int (nar .boolean (1 : Int32)))) (fun h => by rw [Bd.returns] at h; cases h)
          refine ⟨_, _, S97 _ ?_, hrun, hended, _, _, rfl, ?_, ⟨_, rfl⟩, hW, hsame.mono (by decide) (by decide)⟩
          · show Steps p.tables e below (s₁.setTop (mkF m 78 #[iv x0, iv 16, iv 1, iv 0] [(.int 1)])) _
            exact retN X0 hx (t := .boolean) Bd.returns (by simp) (hb hby d26_78) hr
          · show own_Qdg16 Z x0 h0 n0 _ s₁.heap _
            rw [e0]
            exact ⟨own_leafT (by first | (simp only [own_hex, Bool.or_true, Bool.true_or, Bool.or_false, Bool.false_or, decide_true, decide_false, not_true_eq_false, not_false_eq_true, and_true, true_and, and_false, false_and, and_self, or_true, true_or, or_false, false_or, or_self, if_true, if_false, Bool.not_true, Bool.not_false, Bool.and_true, Bool.true_and, Bool.and_false, Bool.false_and, *]; done) | (simp only [own_hex, Bool.or_true, Bool.true_or, Bool.or_false, Bool.false_or, decide_true, decide_false, not_true_eq_false, not_false_eq_true, and_true, true_and, and_false, false_and, and_self, or_true, true_or, or_false, false_or, or_self, if_true, if_false, Bool.not_true, Bool.not_false, Bool.and_true, Bool.true_and, Bool.and_false, Bool.false_and, *]; decide)), rfl, rfl⟩
        · skip
          have S98 : own_G p e below s0 s₁ m 56 #[iv x0, iv 16, iv 1, .unset] [(.int 70), (.int x0)] := fun t kt => by
            refine S94 t ?_
            refine w_icmpNo X0 hx hby d26_50 (flt hc50).1 ?_
            refine w_iloadN X0 hx hby d26_53 rfl ?_
            refine w_bipush X0 hx hby d26_54 ?_
            exact kt
          by_cases hc56 : (70 : Int32) < x0
          · skip
            have S99 : own_G p e below s0 s₁ m 66 #[iv x0, iv 16, iv 1, iv 0] [(.int 1)] := fun t kt => by
              refine S98 t ?_
              refine w_icmpYes X0 hx hby (pc' := 63) d26_56 (tlt hc56).2.2.1 (by decide) ?_
              refine w_iconst X0 hx hby d26_63 ?_
              refine w_istoreN X0 hx hby d26_64 (l' := #[iv x0, iv 16, iv 1, iv 0]) rfl ?_
              refine w_iloadN X0 hx hby d26_65 rfl ?_
              exact kt
            have hc66_100 : ¬ ((1 : Int32) = (0 : Int32)) := by decide
            have S101 : own_G p e below s0 s₁ m 78 #[iv x0, iv 16, iv 1, iv 0] [(.int 1)] := fun t kt => by
              refine S99 t ?_
              refine w_ifYes X0 hx hby (pc' := 73) d26_66 ((if0 _ _).trans (feq hc66_100).2) (by decide) ?_
              refine w_iconst X0 hx hby d26_73 ?_
              refine w_goto X0 hx hby (pc' := 78) d26_74 (by decide) ?_
              exact kt
            obtain ⟨fs, hr, hrun, hended, hW, hsame⟩ := X0.leave (v := some (.int (nar .boolean (1 : Int32)))) (fun h => by rw [Bd.returns] at h; cases h)
            refine ⟨_, _, S101 _ ?_, hrun, hended, _, _, rfl, ?_, ⟨_, rfl⟩, hW, hsame.mono (by decide) (by decide)⟩
            · show Steps p.tables e below (s₁.setTop (mkF m 78 #[iv x0, iv 16, iv 1, iv 0] [(.int 1)])) _
              exact retN X0 hx (t := .boolean) Bd.returns (by simp) (hb hby d26_78) hr
            · show own_Qdg16 Z x0 h0 n0 _ s₁.heap _
              rw [e0]
              exact ⟨own_leafT (by first | (simp only [own_hex, Bool.or_true, Bool.true_or, Bool.or_false, Bool.false_or, decide_true, decide_false, not_true_eq_false, not_false_eq_true, and_true, true_and, and_false, false_and, and_self, or_true, true_or, or_false, false_or, or_self, if_true, if_false, Bool.not_true, Bool.not_false, Bool.and_true, Bool.true_and, Bool.and_false, Bool.false_and, *]; done) | (simp only [own_hex, Bool.or_true, Bool.true_or, Bool.or_false, Bool.false_or, decide_true, decide_false, not_true_eq_false, not_false_eq_true, and_true, true_and, and_false, false_and, and_self, or_true, true_or, or_false, false_or, or_self, if_true, if_false, Bool.not_true, Bool.not_false, Bool.and_true, Bool.true_and, Bool.and_false, Bool.false_and, *]; decide)), rfl, rfl⟩
          · skip
            have S102 : own_G p e below s0 s₁ m 66 #[iv x0, iv 16, iv 1, iv 1] [(.int 1)] := fun t kt => by
              refine S98 t ?_
              refine w_icmpNo X0 hx hby d26_56 (flt hc56).2.2.1 ?_
              refine w_iconst X0 hx hby d26_59 ?_
              refine w_goto X0 hx hby (pc' := 64) d26_60 (by decide) ?_
              refine w_istoreN X0 hx hby d26_64 (l' := #[iv x0, iv 16, iv 1, iv 1]) rfl ?_
              refine w_iloadN X0 hx hby d26_65 rfl ?_
              exact kt
            have hc66_103 : ¬ ((1 : Int32) = (0 : Int32)) := by decide
            have S104 : own_G p e below s0 s₁ m 78 #[iv x0, iv 16, iv 1, iv 1] [(.int 1)] := fun t kt => by
              refine S102 t ?_
              refine w_ifYes X0 hx hby (pc' := 73) d26_66 ((if0 _ _).trans (feq hc66_103).2) (by decide) ?_
              refine w_iconst X0 hx hby d26_73 ?_
              refine w_goto X0 hx hby (pc' := 78) d26_74 (by decide) ?_
              exact kt
            obtain ⟨fs, hr, hrun, hended, hW, hsame⟩ := X0.leave (v := some (.int (nar .boolean (1 : Int32)))) (fun h => by rw [Bd.returns] at h; cases h)
            refine ⟨_, _, S104 _ ?_, hrun, hended, _, _, rfl, ?_, ⟨_, rfl⟩, hW, hsame.mono (by decide) (by decide)⟩
            · show Steps p.tables e below (s₁.setTop (mkF m 78 #[iv x0, iv 16, iv 1, iv 1] [(.int 1)])) _
              exact retN X0 hx (t := .boolean) Bd.returns (by simp) (hb hby d26_78) hr
            · show own_Qdg16 Z x0 h0 n0 _ s₁.heap _
              rw [e0]
              exact ⟨own_leafT (by first | (simp only [own_hex, Bool.or_true, Bool.true_or, Bool.or_false, Bool.false_or, decide_true, decide_false, not_true_eq_false, not_false_eq_true, and_true, true_and, and_false, false_and, and_self, or_true, true_or, or_false, false_or, or_self, if_true, if_false, Bool.not_true, Bool.not_false, Bool.and_true, Bool.true_and, Bool.and_false, Bool.false_and, *]; done) | (simp only [own_hex, Bool.or_true, Bool.true_or, Bool.or_false, Bool.false_or, decide_true, decide_false, not_true_eq_false, not_false_eq_true, and_true, true_and, and_false, false_and, and_self, or_true, true_or, or_false, false_or, or_self, if_true, if_false, Bool.not_true, Bool.not_false, Bool.and_true, Bool.true_and, Bool.and_false, Bool.false_and, *]; decide)), rfl, rfl⟩
      · skip
        have S105 : own_G p e below s0 s₁ m 44 #[iv x0, iv 16, iv 1, .unset] [(.int 102), (.int x0)] := fun t kt => by
          refine S93 t ?_
          refine w_icmpNo X0 hx hby d26_38 (flt hc38).1 ?_
          refine w_iloadN X0 hx hby d26_41 rfl ?_
          refine w_bipush X0 hx hby d26_42 ?_
          exact kt
        by_cases hc44 : (102 : Int32) < x0
        · skip
          have S106 : own_G p e below s0 s₁ m 50 #[iv x0, iv 16, iv 1, .unset] [(.int 65), (.int x0)] := fun t kt => by
            refine S105 t ?_
            refine w_icmpNo X0 hx hby d26_44 (tlt hc44).2.2.2 ?_
            refine w_iloadN X0 hx hby d26_47 rfl ?_
            refine w_bipush X0 hx hby d26_48 ?_
            exact kt
          by_cases hc50 : x0 < (65 : Int32)
          · skip
            have S107 : own_G p e below s0 s₁ m 66 #[iv x0, iv 16, iv 1, iv 0] [(.int 1)] := fun t kt => by
              refine S106 t ?_
              refine w_icmpYes X0 hx hby (pc' := 63) d26_50 (tlt hc50).1 (by decide) ?_
              refine w_iconst X0 hx hby d26_63 ?_
              refine w_istoreN X0 hx hby d26_64 (l' := #[iv x0, iv 16, iv 1, iv 0]) rfl ?_
              refine w_iloadN X0 hx hby d26_65 rfl ?_
              exact kt
            have hc66_108 : ¬ ((1 : Int32) = (0 : Int32)) := by decide
            have S109 : own_G p e below s0 s₁ m 78 #[iv x0, iv 16, iv 1, iv 0] [(.int 1)] := fun t kt => by
              refine S107 t ?_
              refine w_ifYes X0 hx hby (pc' := 73) d26_66 ((if0 _ _).trans (feq hc66_108).2) (by decide) ?_
              refine w_iconst X0 hx hby d26_73 ?_
              refine w_goto X0 hx hby (pc' := 78) d26_74 (by decide) ?_
              exact kt
            obtain ⟨fs, hr, hrun, hended, hW, hsame⟩ := X0.leave (v := some (.int (nar .boolean (1 : Int32)))) (fun h => by rw [Bd.returns] at h; cases h)
            refine ⟨_, _, S109 _ ?_, hrun, hended, _, _, rfl, ?_, ⟨_, rfl⟩, hW, hsame.mono (by decide) (by decide)⟩
            · show Steps p.tables e below (s₁.setTop (mkF m 78 #[iv x0, iv 16, iv 1, iv 0] [(.int 1)])) _
              exact retN X0 hx (t := .boolean) Bd.returns (by simp) (hb hby d26_78) hr
            · show own_Qdg16 Z x0 h0 n0 _ s₁.heap _
              rw [e0]
              exact ⟨own_leafT (by first | (simp only [own_hex, Bool.or_true, Bool.true_or, Bool.or_false, Bool.false_or, decide_true, decide_false, not_true_eq_false, not_false_eq_true, and_true, true_and, and_false, false_and, and_self, or_true, true_or, or_false, false_or, or_self, if_true, if_false, Bool.not_true, Bool.not_false, Bool.and_true, Bool.true_and, Bool.and_false, Bool.false_and, *]; done) | (simp only [own_hex, Bool.or_true, Bool.true_or, Bool.or_false, Bool.false_or, decide_true, decide_false, not_true_eq_false, not_false_eq_true, and_true, true_and, and_false, false_and, and_self, or_true, true_or, or_false, false_or, or_self, if_true, if_false, Bool.not_true, Bool.not_false, Bool.and_true, Bool.true_and, Bool.and_false, Bool.false_and, *]; decide)), rfl, rfl⟩
          · skip
            have S110 : own_G p e below s0 s₁ m 56 #[iv x0, iv 16, iv 1, .unset] [(.int 70), (.int x0)] := fun t kt => by
              refine S106 t ?_
              refine w_icmpNo X0 hx hby d26_50 (flt hc50).1 ?_
              refine w_iloadN X0 hx hby d26_53 rfl ?_
              refine w_bipush X0 hx hby d26_54 ?_
              exact kt
            by_cases hc56 : (70 : Int32) < x0
            · skip
              have S111 : own_G p e below s0 s₁ m 66 #[iv x0, iv 16, iv 1, iv 0] [(.int 1)] := fun t kt => by
                refine S110 t ?_
                refine w_icmpYes X0 hx hby (pc' := 63) d26_56 (tlt hc56).2.2.1 (by decide) ?_
                refine w_iconst X0 hx hby d26_63 ?_
                refine w_istoreN X0 hx hby d26_64 (l' := #[iv x0, iv 16, iv 1, iv 0]) rfl ?_
                refine w_iloadN X0 hx hby d26_65 rfl ?_
                exact kt
              have hc66_112 : ¬ ((1 : Int32) = (0 : Int32)) := by decide
              have S113 : own_G p e below s0 s₁ m 78 #[iv x0, iv 16, iv 1, iv 0] [(.int 1)] := fun t kt => by
                refine S111 t ?_
                refine w_ifYes X0 hx hby (pc' := 73) d26_66 ((if0 _ _).trans (feq hc66_112).2) (by decide) ?_
                refine w_iconst X0 hx hby d26_73 ?_
                refine w_goto X0 hx hby (pc' := 78) d26_74 (by decide) ?_
                exact kt
              obtain ⟨fs, hr, hrun, hended, hW, hsame⟩ := X0.leave (v := some (.int (nar .boolean (1 : Int32)))) (fun h => by rw [Bd.returns] at h; cases h)
              refine ⟨_, _, S113 _ ?_, hrun, hended, _, _, rfl, ?_, ⟨_, rfl⟩, hW, hsame.mono (by decide) (by decide)⟩
              · show Steps p.tables e below (s₁.setTop (mkF m 78 #[iv x0, iv 16, iv 1, iv 0] [(.int 1)])) _
                exact retN X0 hx (t := .boolean) Bd.returns (by simp) (hb hby d26_78) hr
              · show own_Qdg16 Z x0 h0 n0 _ s₁.heap _
                rw [e0]
                exact ⟨own_leafT (by first | (simp only [own_hex, Bool.or_true, Bool.true_or, Bool.or_false, Bool.false_or, decide_true, decide_false, not_true_eq_false, not_false_eq_true, and_true, true_and, and_false, false_and, and_self, or_true, true_or, or_false, false_or, or_self, if_true, if_false, Bool.not_true, Bool.not_false, Bool.and_true, Bool.true_and, Bool.and_false, Bool.false_and, *]; done) | (simp only [own_hex, Bool.or_true, Bool.true_or, Bool.or_false, Bool.false_or, decide_true, decide_false, not_true_eq_false, not_false_eq_true, and_true, true_and, and_false, false_and, and_self, or_true, true_or, or_false, false_or, or_self, if_true, if_false, Bool.not_true, Bool.not_false, Bool.and_true, Bool.true_and, Bool.and_false, Bool.false_and, *]; decide)), rfl, rfl⟩
            · skip
              have S114 : own_G p e below s0 s₁ m 66 #[iv x0, iv 16, iv 1, iv 1] [(.int 1)] := fun t kt => by
                refine S110 t ?_
                refine w_icmpNo X0 hx hby d26_56 (flt hc56).2.2.1 ?_
                refine w_iconst X0 hx hby d26_59 ?_
                refine w_goto X0 hx hby (pc' := 64) d26_60 (by decide) ?_
                refine w_istoreN X0 hx hby d26_64 (l' := #[iv x0, iv 16, iv 1, iv 1]) rfl ?_
                refine w_iloadN X0 hx hby d26_65 rfl ?_
                exact kt
              have hc66_115 : ¬ ((1 : Int32) = (0 : Int32)) := by decide
              have S116 : own_G p e below s0 s₁ m 78 #[iv x0, iv 16, iv 1, iv 1] [(.int 1)] := fun t kt => by
                refine S114 t ?_
                refine w_ifYes X0 hx hby (pc' := 73) d26_66 ((if0 _ _).trans (feq hc66_115).2) (by decide) ?_
                refine w_iconst X0 hx hby d26_73 ?_
                refine w_goto X0 hx hby (pc' := 78) d26_74 (by decide) ?_
                exact kt
              obtain ⟨fs, hr, hrun, hended, hW, hsame⟩ := X0.leave (v := some (.int (nar .boolean (1 : Int32)))) (fun h => by rw [Bd.returns] at h; cases h)
              refine ⟨_, _, S116 _ ?_, hrun, hended, _, _, rfl, ?_, ⟨_, rfl⟩, hW, hsame.mono (by decide) (by decide)⟩
              · show Steps p.tables e below (s₁.setTop (mkF m 78 #[iv x0, iv 16, iv 1, iv 1] [(.int 1)])) _
                exact retN X0 hx (t := .boolean) Bd.returns (by simp) (hb hby d26_78) hr
              · show own_Qdg16 Z x0 h0 n0 _ s₁.heap _
                rw [e0]
                exact ⟨own_leafT (by first | (simp only [own_hex, Bool.or_true, Bool.true_or, Bool.or_false, Bool.false_or, decide_true, decide_false, not_true_eq_false, not_false_eq_true, and_true, true_and, and_false, false_and, and_self, or_true, true_or, or_false, false_or, or_self, if_true, if_false, Bool.not_true, Bool.not_false, Bool.and_true, Bool.true_and, Bool.and_false, Bool.false_and, *]; done) | (simp only [own_hex, Bool.or_true, Bool.true_or, Bool.or_false, Bool.false_or, decide_true, decide_false, not_true_eq_false, not_false_eq_true, and_true, true_and, and_false, false_and, and_self, or_true, true_or, or_false, false_or, or_self, if_true, if_false, Bool.not_true, Bool.not_false, Bool.and_true, Bool.true_and, Bool.and_false, Bool.false_and, *]; decide)), rfl, rfl⟩
        · skip
          have S117 : own_G p e below s0 s₁ m 66 #[iv x0, iv 16, iv 1, iv 1] [(.int 1)] := fun t kt => by
            refine S105 t ?_
            refine w_icmpYes X0 hx hby (pc' := 59) d26_44 (flt hc44).2.2.2 (by decide) ?_
            refine w_iconst X0 hx hby d26_59 ?_
            refine w_goto X0 hx hby (pc' := 64) d26_60 (by decide) ?_
            refine w_istoreN X0 hx hby d26_64 (l' := #[iv x0, iv 16, iv 1, iv 1]) rfl ?_
            refine w_iloadN X0 hx hby d26_65 rfl ?_
            exact kt
          have hc66_118 : ¬ ((1 : Int32) = (0 : Int32)) := by decide
          have S119 : own_G p e below s0 s₁ m 78 #[iv x0, iv 16, iv 1, iv 1] [(.int 1)] := fun t kt => by
            refine S117 t ?_
            refine w_ifYes X0 hx hby (pc' := 73) d26_66 ((if0 _ _).trans (feq hc66_118).2) (by decide) ?_
            refine w_iconst X0 hx hby d26_73 ?_
            refine w_goto X0 hx hby (pc' := 78) d26_74 (by decide) ?_
            exact kt
          obtain ⟨fs, hr, hrun, hended, hW, hsame⟩ := X0.leave (v := some (.int (nar .boolean (1 : Int32)))) (fun h => by rw [Bd.returns] at h; cases h)
          refine ⟨_, _, S119 _ ?_, hrun, hended, _, _, rfl, ?_, ⟨_, rfl⟩, hW, hsame.mono (by decide) (by decide)⟩
          · show Steps p.tables e below (s₁.setTop (mkF m 78 #[iv x0, iv 16, iv 1, iv 1] [(.int 1)])) _
            exact retN X0 hx (t := .boolean) Bd.returns (by simp) (hb hby d26_78) hr
          · show own_Qdg16 Z x0 h0 n0 _ s₁.heap _
            rw [e0]
            exact ⟨own_leafT (by first | (simp only [own_hex, Bool.or_true, Bool.true_or, Bool.or_false, Bool.false_or, decide_true, decide_false, not_true_eq_false, not_false_eq_true, and_true, true_and, and_false, false_and, and_self, or_true, true_or, or_false, false_or, or_self, if_true, if_false, Bool.not_true, Bool.not_false, Bool.and_true, Bool.true_and, Bool.and_false, Bool.false_and, *]; done) | (simp only [own_hex, Bool.or_true, Bool.true_or, Bool.or_false, Bool.false_or, decide_true, decide_false, not_true_eq_false, not_false_eq_true, and_true, true_and, and_false, false_and, and_self, or_true, true_or, or_false, false_or, or_self, if_true, if_false, Bool.not_true, Bool.not_false, Bool.and_true, Bool.true_and, Bool.and_false, Bool.false_and, *]; decide)), rfl, rfl⟩
theorem d27_0 : decode method_3_code 0 = .ok (.iload_n 0, 1) := by decide +kernel
theorem d27_1 : decode method_3_code 1 = .ok (.bipush 48, 2) := by decide +kernel
theorem d27_3 : decode method_3_code 3 = .ok (.if_icmp .lt 13, 3) := by decide +kernel
theorem d27_6 : decode method_3_code 6 = .ok (.iload_n 0, 1) := by decide +kernel
theorem d27_7 : decode method_3_code 7 = .ok (.bipush 55, 2) := by decide +kernel
theorem d27_9 : decode method_3_code 9 = .ok (.if_icmp .gt 7, 3) := by decide +kernel
theorem d27_12 : decode method_3_code 12 = .ok (.iconst 1, 1) := by decide +kernel
theorem d27_13 : decode method_3_code 13 = .ok (.goto 4, 3) := by decide +kernel
theorem d27_16 : decode method_3_code 16 = .ok (.iconst 0, 1) := by decide +kernel
theorem d27_17 : decode method_3_code 17 = .ok (.ireturn, 1) := by decide +kernel
theorem own_ef27 (m : MethodId) (x0 : Int32) : entryFrame m #[(.int x0)] 1 = mkF m 0 #[iv x0] [] := by first | (simp [entryFrame, mkF, argsToLocals, Value.category]; done) | rfl
def own_Q27 (Z : State) (x0 : Int32) (h0 : Heap) (n0 : Nat) (v : Option Value) (h : Heap) (L : List Loc) : Prop := v = some (.int (own_b (own_oct x0))) ∧ L = [] ∧ h = h0
theorem own_pn5 : plainName "com/example/splode/splode/document/CoreSchemaRadixPinLaw" = true := by first | (simp [plainName, overriddenIn]; done) | decide +kernel
set_option maxHeartbeats 40000000 in
theorem own_rm27 (l : Launch) (Z : State) (a0 : Array Value) (hw : ∀ d ∈ tables_1, d.before a0 Z = true) (ws : List Jvm.Cond) (x0 : Int32) (h0 : Heap) (n0 : Nat) (Z0 : n0 ≤ h0.size) :
    MetFree l own_y3 (head1 (Jvm.Cond.code own_y3 method_3_code 1 (some .boolean) :: ws) ({ frames := 0, cells := 0, slots := 0, locals := 0 } : Room)) (fun argv U => argv = #[(.int x0)] ∧ Z.Warmed39 U.vm ∧ U.heap = h0) (fun _ _ _ _ _ => True) (fun _ U o U' => ∃ v L, o = .returned v ∧ own_Q27 Z x0 h0 n0 v U'.heap L ∧ FrameEnd U o U' L ({ frames := 0, cells := 0, slots := 0, locals := 0 } : Room).cells ({ frames := 0, cells := 0, slots := 0, locals := 0 } : Room).slots) := by
  refine MetFree.of_bodySF (plainFor_of_name own_pn5) hisR ?_
  intro p e s m args below meth c s₁ Bd hml0 hP hK
  obtain ⟨rfl, hZ, hh⟩ := hP
  have hx := Bd.exec
  have hby := Bd.bytes
  have hml : c.maxLocals = 1 := hml0
  have hown : s.vm.findClass "com/example/splode/splode/document/CoreSchemaRadixPinLaw" = some m.cls := findClass_of_methodNamed Bd.named
  have hnm := (name_of_methodNamed Bd.named Bd.method).1
  have X0 : Stand p l e ({ frames := 0, cells := 0, slots := 0, locals := 0 } : Room) s m #[(.int x0)] below meth c s₁ [] 0 0 := Stand.of_body Bd
  have e0 : s₁.heap = h0 := by rw [← hh, Bd.state]; rfl
  have N0 := Fr.nil n0
  have pre_ : own_G p e below (s₁.setTop (entryFrame m #[(.int x0)] 1)) s₁ m 0 #[iv x0] [] := fun t k => castTop (own_ef27 m x0) k
  obtain ⟨s0, hs0⟩ : ∃ z, z = (s₁.setTop (entryFrame m #[(.int x0)] 1)) := ⟨_, rfl⟩
  have pre0 : own_G p e below s0 s₁ m 0 #[iv x0] [] := hs0 ▸ pre_
  rw [← hs0]
  have S1 : own_G p e below s0 s₁ m 3 #[iv x0] [(.int 48), (.int x0)] := fun t kt => by
    refine pre0 t ?_
    refine w_iloadN X0 hx hby d27_0 rfl ?_
    refine w_bipush X0 hx hby d27_1 ?_
    exact kt
  by_cases hc3 : x0 < (48 : Int32)
  · skip
    have S2 : own_G p e below s0 s₁ m 17 #[iv x0] [(.int 0)] := fun t kt => by
      refine S1 t ?_
      refine w_icmpYes X0 hx hby (pc' := 16) d27_3 (tlt hc3).1 (by decide) ?_
      refine w_iconst X0 hx hby d27_16 ?_
      exact kt
    obtain ⟨fs, hr, hrun, hended, hW, hsame⟩ := X0.leave (v := some (.int (nar .boolean (0 : Int32)))) (fun h => by rw [Bd.returns] at h; cases h)
    refine ⟨_, _, S2 _ ?_, hrun, hended, _, _, rfl, ?_, ⟨_, rfl⟩, hW, hsame.mono (by decide) (by decide)⟩
    · show Steps p.tables e below (s₁.setTop (mkF m 17 #[iv x0] [(.int 0)])) _
      exact retN X0 hx (t := .boolean) Bd.returns (by simp) (hb hby d27_17) hr
    · show own_Q27 Z x0 h0 n0 _ s₁.heap _
      rw [e0]
      exact ⟨own_leafF (by first | (simp only [own_oct, decide_true, decide_false, not_true_eq_false, not_false_eq_true, and_true, true_and, and_false, false_and, and_self, or_true, true_or, or_false, false_or, or_self, if_true, if_false, Bool.not_true, Bool.not_false, Bool.and_true, Bool.true_and, Bool.and_false, Bool.false_and, *]; done) | (simp only [own_oct, decide_true, decide_false, not_true_eq_false, not_false_eq_true, and_true, true_and, and_false, false_and, and_self, or_true, true_or, or_false, false_or, or_self, if_true, if_false, Bool.not_true, Bool.not_false, Bool.and_true, Bool.true_and, Bool.and_false, Bool.false_and, *]; decide)), rfl, rfl⟩
  · skip
    have S3 : own_G p e below s0 s₁ m 9 #[iv x0] [(.int 55), (.int x0)] := fun t kt => by
      refine S1 t ?_
      refine w_icmpNo X0 hx hby d27_3 (flt hc3).1 ?_
      refine w_iloadN X0 hx hby d27_6 rfl ?_
      refine w_bipush X0 hx hby d27_7 ?_
      exact kt
    by_cases hc9 : (55 : Int32) < x0
    · skip
      have S4 : own_G p e below s0 s₁ m 17 #[iv x0] [(.int 0)] := fun t kt => by
        refine S3 t ?_
        refine w_icmpYes X0 hx hby (pc' := 16) d27_9 (tlt hc9).2.2.1 (by decide) ?_
        refine w_iconst X0 hx hby d27_16 ?_
        exact kt
      obtain ⟨fs, hr, hrun, hended, hW, hsame⟩ := X0.leave (v := some (.int (nar .boolean (0 : Int32)))) (fun h => by rw [Bd.returns] at h; cases h)
      refine ⟨_, _, S4 _ ?_, hrun, hended, _, _, rfl, ?_, ⟨_, rfl⟩, hW, hsame.mono (by decide) (by decide)⟩
      · show Steps p.tables e below (s₁.setTop (mkF m 17 #[iv x0] [(.int 0)])) _
        exact retN X0 hx (t := .boolean) Bd.returns (by simp) (hb hby d27_17) hr
      · show own_Q27 Z x0 h0 n0 _ s₁.heap _
        rw [e0]
        exact ⟨own_leafF (by first | (simp only [own_oct, decide_true, decide_false, not_true_eq_false, not_false_eq_true, and_true, true_and, and_false, false_and, and_self, or_true, true_or, or_false, false_or, or_self, if_true, if_false, Bool.not_true, Bool.not_false, Bool.and_true, Bool.true_and, Bool.and_false, Bool.false_and, *]; done) | (simp only [own_oct, decide_true, decide_false, not_true_eq_false, not_false_eq_true, and_true, true_and, and_false, false_and, and_self, or_true, true_or, or_false, false_or, or_self, if_true, if_false, Bool.not_true, Bool.not_false, Bool.and_true, Bool.true_and, Bool.and_false, Bool.false_and, *]; decide)), rfl, rfl⟩
    · skip
      have S5 : own_G p e below s0 s₁ m 17 #[iv x0] [(.int 1)] := fun t kt => by
        refine S3 t ?_
        refine w_icmpNo X0 hx hby d27_9 (flt hc9).2.2.1 ?_
        refine w_iconst X0 hx hby d27_12 ?_
        refine w_goto X0 hx hby (pc' := 17) d27_13 (by decide) ?_
        exact kt
      obtain ⟨fs, hr, hrun, hended, hW, hsame⟩ := X0.leave (v := some (.int (nar .boolean (1 : Int32)))) (fun h => by rw [Bd.returns] at h; cases h)
      refine ⟨_, _, S5 _ ?_, hrun, hended, _, _, rfl, ?_, ⟨_, rfl⟩, hW, hsame.mono (by decide) (by decide)⟩
      · show Steps p.tables e below (s₁.setTop (mkF m 17 #[iv x0] [(.int 1)])) _
        exact retN X0 hx (t := .boolean) Bd.returns (by simp) (hb hby d27_17) hr
      · show own_Q27 Z x0 h0 n0 _ s₁.heap _
        rw [e0]
        exact ⟨own_leafT (by first | (simp only [own_oct, decide_true, decide_false, not_true_eq_false, not_false_eq_true, and_true, true_and, and_false, false_and, and_self, or_true, true_or, or_false, false_or, or_self, if_true, if_false, Bool.not_true, Bool.not_false, Bool.and_true, Bool.true_and, Bool.and_false, Bool.false_and, *]; done) | (simp only [own_oct, decide_true, decide_false, not_true_eq_false, not_false_eq_true, and_true, true_and, and_false, false_and, and_self, or_true, true_or, or_false, false_or, or_self, if_true, if_false, Bool.not_true, Bool.not_false, Bool.and_true, Bool.true_and, Bool.and_false, Bool.false_and, *]; decide)), rfl, rfl⟩
theorem d25_0 : decode method_4_code 0 = .ok (.iload_n 0, 1) := by decide +kernel
theorem d25_1 : decode method_4_code 1 = .ok (.bipush 48, 2) := by decide +kernel
theorem d25_3 : decode method_4_code 3 = .ok (.if_icmp .lt 11, 3) := by decide +kernel
theorem d25_6 : decode method_4_code 6 = .ok (.iload_n 0, 1) := by decide +kernel
theorem d25_7 : decode method_4_code 7 = .ok (.bipush 57, 2) := by decide +kernel
theorem d25_9 : decode method_4_code 9 = .ok (.if_icmp .gt 5, 3) := by decide +kernel
theorem d25_12 : decode method_4_code 12 = .ok (.iconst 1, 1) := by decide +kernel
theorem d25_13 : decode method_4_code 13 = .ok (.ireturn, 1) := by decide +kernel
theorem d25_14 : decode method_4_code 14 = .ok (.iload_n 0, 1) := by decide +kernel
theorem d25_15 : decode method_4_code 15 = .ok (.bipush 97, 2) := by decide +kernel
theorem d25_17 : decode method_4_code 17 = .ok (.if_icmp .lt 11, 3) := by decide +kernel
theorem d25_20 : decode method_4_code 20 = .ok (.iload_n 0, 1) := by decide +kernel
theorem d25_21 : decode method_4_code 21 = .ok (.bipush 102, 2) := by decide +kernel
theorem d25_23 : decode method_4_code 23 = .ok (.if_icmp .gt 5, 3) := by decide +kernel
theorem d25_26 : decode method_4_code 26 = .ok (.iconst 1, 1) := by decide +kernel
theorem d25_27 : decode method_4_code 27 = .ok (.ireturn, 1) := by decide +kernel
theorem d25_28 : decode method_4_code 28 = .ok (.iload_n 0, 1) := by decide +kernel
theorem d25_29 : decode method_4_code 29 = .ok (.bipush 65, 2) := by decide +kernel
theorem d25_31 : decode method_4_code 31 = .ok (.if_icmp .lt 13, 3) := by decide +kernel
theorem d25_34 : decode method_4_code 34 = .ok (.iload_n 0, 1) := by decide +kernel
theorem d25_35 : decode method_4_code 35 = .ok (.bipush 70, 2) := by decide +kernel
theorem d25_37 : decode method_4_code 37 = .ok (.if_icmp .gt 7, 3) := by decide +kernel
theorem d25_40 : decode method_4_code 40 = .ok (.iconst 1, 1) := by decide +kernel
theorem d25_41 : decode method_4_code 41 = .ok (.goto 4, 3) := by decide +kernel
theorem d25_44 : decode method_4_code 44 = .ok (.iconst 0, 1) := by decide +kernel
theorem d25_45 : decode method_4_code 45 = .ok (.ireturn, 1) := by decide +kernel
theorem own_ef25 (m : MethodId) (x0 : Int32) : entryFrame m #[(.int x0)] 1 = mkF m 0 #[iv x0] [] := by first | (simp [entryFrame, mkF, argsToLocals, Value.category]; done) | rfl
def own_Q25 (Z : State) (x0 : Int32) (h0 : Heap) (n0 : Nat) (v : Option Value) (h : Heap) (L : List Loc) : Prop := v = some (.int (own_b (own_hex x0))) ∧ L = [] ∧ h = h0
set_option maxHeartbeats 40000000 in
theorem own_rm25 (l : Launch) (Z : State) (a0 : Array Value) (hw : ∀ d ∈ tables_1, d.before a0 Z = true) (ws : List Jvm.Cond) (x0 : Int32) (h0 : Heap) (n0 : Nat) (Z0 : n0 ≤ h0.size) :
    MetFree l own_y5 (head1 (Jvm.Cond.code own_y5 method_4_code 1 (some .boolean) :: ws) ({ frames := 0, cells := 0, slots := 0, locals := 0 } : Room)) (fun argv U => argv = #[(.int x0)] ∧ Z.Warmed39 U.vm ∧ U.heap = h0) (fun _ _ _ _ _ => True) (fun _ U o U' => ∃ v L, o = .returned v ∧ own_Q25 Z x0 h0 n0 v U'.heap L ∧ FrameEnd U o U' L ({ frames := 0, cells := 0, slots := 0, locals := 0 } : Room).cells ({ frames := 0, cells := 0, slots := 0, locals := 0 } : Room).slots) := by
  refine MetFree.of_bodySF (plainFor_of_name own_pn5) hisR ?_
  intro p e s m args below meth c s₁ Bd hml0 hP hK
  obtain ⟨rfl, hZ, hh⟩ := hP
  have hx := Bd.exec
  have hby := Bd.bytes
  have hml : c.maxLocals = 1 := hml0
  have hown : s.vm.findClass "com/example/splode/splode/document/CoreSchemaRadixPinLaw" = some m.cls := findClass_of_methodNamed Bd.named
  have hnm := (name_of_methodNamed Bd.named Bd.method).1
  have X0 : Stand p l e ({ frames := 0, cells := 0, slots := 0, locals := 0 } : Room) s m #[(.int x0)] below meth c s₁ [] 0 0 := Stand.of_body Bd
  have e0 : s₁.heap = h0 := by rw [← hh, Bd.state]; rfl
  have N0 := Fr.nil n0
  have pre_ : own_G p e below (s₁.setTop (entryFrame m #[(.int x0)] 1)) s₁ m 0 #[iv x0] [] := fun t k => castTop (own_ef25 m x0) k
  obtain ⟨s0, hs0⟩ : ∃ z, z = (s₁.setTop (entryFrame m #[(.int x0)] 1)) := ⟨_, rfl⟩
  have pre0 : own_G p e below s0 s₁ m 0 #[iv x0] [] := hs0 ▸ pre_
  rw [← hs0]
  have S1 : own_G p e below s0 s₁ m 3 #[iv x0] [(.int 48), (.int x0)] := fun t kt => by
    refine pre0 t ?_
    refine w_iloadN X0 hx hby d25_0 rfl ?_
    refine w_bipush X0 hx hby d25_1 ?_
    exact kt
  by_cases hc3 : x0 < (48 : Int32)
  · skip
    have S2 : own_G p e below s0 s₁ m 17 #[iv x0] [(.int 97), (.int x0)] := fun t kt => by
      refine S1 t ?_
      refine w_icmpYes X0 hx hby (pc' := 14) d25_3 (tlt hc3).1 (by decide) ?_
      refine w_iloadN X0 hx hby d25_14 rfl ?_
      refine w_bipush X0 hx hby d25_15 ?_
      exact kt
    by_cases hc17 : x0 < (97 : Int32)
    · skip
      have S3 : own_G p e below s0 s₁ m 31 #[iv x0] [(.int 65), (.int x0)] := fun t kt => by
        refine S2 t ?_
        refine w_icmpYes X0 hx hby (pc' := 28) d25_17 (tlt hc17).1 (by decide) ?_
        refine w_iloadN X0 hx hby d25_28 rfl ?_
        refine w_bipush X0 hx hby d25_29 ?_
        exact kt
      by_cases hc31 : x0 < (65 : Int32)
      · skip
        have S4 : own_G p e below s0 s₁ m 45 #[iv x0] [(.int 0)] := fun t kt => by
          refine S3 t ?_
          refine w_icmpYes X0 hx hby (pc' := 44) d25_31 (tlt hc31).1 (by decide) ?_
          refine w_iconst X0 hx hby d25_44 ?_
          exact kt
        obtain ⟨fs, hr, hrun, hended, hW, hsame⟩ := X0.leave (v := some (.int (nar .boolean (0 : Int32)))) (fun h => by rw [Bd.returns] at h; cases h)
        refine ⟨_, _, S4 _ ?_, hrun, hended, _, _, rfl, ?_, ⟨_, rfl⟩, hW, hsame.mono (by decide) (by decide)⟩
        · show Steps p.tables e below (s₁.setTop (mkF m 45 #[iv x0] [(.int 0)])) _
          exact retN X0 hx (t := .boolean) Bd.returns (by simp) (hb hby d25_45) hr
        · show own_Q25 Z x0 h0 n0 _ s₁.heap _
          rw [e0]
          exact ⟨own_leafF (by first | (simp only [own_hex, Bool.or_true, Bool.true_or, Bool.or_false, Bool.false_or, decide_true, decide_false, not_true_eq_false, not_false_eq_true, and_true, true_and, and_false, false_and, and_self, or_true, true_or, or_false, false_or, or_self, if_true, if_false, Bool.not_true, Bool.not_false, Bool.and_true, Bool.true_and, Bool.and_false, Bool.false_and, *]; done) | (simp only [own_hex, Bool.or_true, Bool.true_or, Bool.or_false, Bool.false_or, decide_true, decide_false, not_true_eq_false, not_false_eq_true, and_true, true_and, and_false, false_and, and_self, or_true, true_or, or_false, false_or, or_self, if_true, if_false, Bool.not_true, Bool.not_false, Bool.and_true, Bool.true_and, Bool.and_false, Bool.false_and, *]; decide)), rfl, rfl⟩
      · skip
        have S5 : own_G p e below s0 s₁ m 37 #[iv x0] [(.int 70), (.int x0)] := fun t kt => by
          refine S3 t ?_
          refine w_icmpNo X0 hx hby d25_31 (flt hc31).1 ?_
          refine w_iloadN X0 hx hby d25_34 rfl ?_
          refine w_bipush X0 hx hby d25_35 ?_
          exact kt
        by_cases hc37 : (70 : Int32) < x0
        · skip
          have S6 : own_G p e below s0 s₁ m 45 #[iv x0] [(.int 0)] := fun t kt => by
            refine S5 t ?_
            refine w_icmpYes X0 hx hby (pc' := 44) d25_37 (tlt hc37).2.2.1 (by decide) ?_
            refine w_iconst X0 hx hby d25_44 ?_
            exact kt
          obtain ⟨fs, hr, hrun, hended, hW, hsame⟩ := X0.leave (v := some (.int (nar .boolean (0 : Int32)))) (fun h => by rw [Bd.returns] at h; cases h)
          refine ⟨_, _, S6 _ ?_, hrun, hended, _, _, rfl, ?_, ⟨_, rfl⟩, hW, hsame.mono (by decide) (by decide)⟩
          · show Steps p.tables e below (s₁.setTop (mkF m 45 #[iv x0] [(.int 0)])) _
            exact retN X0 hx (t := .boolean) Bd.returns (by simp) (hb hby d25_45) hr
          · show own_Q25 Z x0 h0 n0 _ s₁.heap _
            rw [e0]
            exact ⟨own_leafF (by first | (simp only [own_hex, Bool.or_true, Bool.true_or, Bool.or_false, Bool.false_or, decide_true, decide_false, not_true_eq_false, not_false_eq_true, and_true, true_and, and_false, false_and, and_self, or_true, true_or, or_false, false_or, or_self, if_true, if_false, Bool.not_true, Bool.not_false, Bool.and_true, Bool.true_and, Bool.and_false, Bool.false_and, *]; done) | (simp only [own_hex, Bool.or_true, Bool.true_or, Bool.or_false, Bool.false_or, decide_true, decide_false, not_true_eq_false, not_false_eq_true, and_true, true_and, and_false, false_and, and_self, or_true, true_or, or_false, false_or, or_self, if_true, if_false, Bool.not_true, Bool.not_false, Bool.and_true, Bool.true_and, Bool.and_false, Bool.false_and, *]; decide)), rfl, rfl⟩
        · skip
          have S7 : own_G p e below s0 s₁ m 45 #[iv x0] [(.int 1)] := fun t kt => by
            refine S5 t ?_
            refine w_icmpNo X0 hx hby d25_37 (flt hc37).2.2.1 ?_
            refine w_iconst X0 hx hby d25_40 ?_
            refine w_goto X0 hx hby (pc' := 45) d25_41 (by decide) ?_
            exact kt
          obtain ⟨fs, hr, hrun, hended, hW, hsame⟩ := X0.leave (v := some (.int (nar .boolean (1 : Int32)))) (fun h => by rw [Bd.returns] at h; cases h)
          refine ⟨_, _, S7 _ ?_, hrun, hended, _, _, rfl, ?_, ⟨_, rfl⟩, hW, hsame.mono (by decide) (by decide)⟩
          · show Steps p.tables e below (s₁.setTop (mkF m 45 #[iv x0] [(.int 1)])) _
            exact retN X0 hx (t := .boolean) Bd.returns (by simp) (hb hby d25_45) hr
          · show own_Q25 Z x0 h0 n0 _ s₁.heap _
            rw [e0]
            exact ⟨own_leafT (by first | (simp only [own_hex, Bool.or_true, Bool.true_or, Bool.or_false, Bool.false_or, decide_true, decide_false, not_true_eq_false, not_false_eq_true, and_true, true_and, and_false, false_and, and_self, or_true, true_or, or_false, false_or, or_self, if_true, if_false, Bool.not_true, Bool.not_false, Bool.and_true, Bool.true_and, Bool.and_false, Bool.false_and, *]; done) | (simp only [own_hex, Bool.or_true, Bool.true_or, Bool.or_false, Bool.false_or, decide_true, decide_false, not_true_eq_false, not_false_eq_true, and_true, true_and, and_false, false_and, and_self, or_true, true_or, or_false, false_or, or_self, if_true, if_false, Bool.not_true, Bool.not_false, Bool.and_true, Bool.true_and, Bool.and_false, Bool.false_and, *]; decide)), rfl, rfl⟩
    · skip
      have S8 : own_G p e below s0 s₁ m 23 #[iv x0] [(.int 102), (.int x0)] := fun t kt => by
        refine S2 t ?_
        refine w_icmpNo X0 hx hby d25_17 (flt hc17).1 ?_
        refine w_iloadN X0 hx hby d25_20 rfl ?_
        refine w_bipush X0 hx hby d25_21 ?_
        exact kt
      by_cases hc23 : (102 : Int32) < x0
      · skip
        have S9 : own_G p e below s0 s₁ m 31 #[iv x0] [(.int 65), (.int x0)] := fun t kt => by
          refine S8 t ?_
          refine w_icmpYes X0 hx hby (pc' := 28) d25_23 (tlt hc23).2.2.1 (by decide) ?_
          refine w_iloadN X0 hx hby d25_28 rfl ?_
          refine w_bipush X0 hx hby d25_29 ?_
          exact kt
        by_cases hc31 : x0 < (65 : Int32)
        · skip
          have S10 : own_G p e below s0 s₁ m 45 #[iv x0] [(.int 0)] := fun t kt => by
            refine S9 t ?_
            refine w_icmpYes X0 hx hby (pc' := 44) d25_31 (tlt hc31).1 (by decide) ?_
            refine w_iconst X0 hx hby d25_44 ?_
            exact kt
          obtain ⟨fs, hr, hrun, hended, hW, hsame⟩ := X0.leave (v := some (.int (nar .boolean (0 : Int32)))) (fun h => by rw [Bd.returns] at h; cases h)
          refine ⟨_, _, S10 _ ?_, hrun, hended, _, _, rfl, ?_, ⟨_, rfl⟩, hW, hsame.mono (by decide) (by decide)⟩
          · show Steps p.tables e below (s₁.setTop (mkF m 45 #[iv x0] [(.int 0)])) _
            exact retN X0 hx (t := .boolean) Bd.returns (by simp) (hb hby d25_45) hr
          · show own_Q25 Z x0 h0 n0 _ s₁.heap _
            rw [e0]
            exact ⟨own_leafF (by first | (simp only [own_hex, Bool.or_true, Bool.true_or, Bool.or_false, Bool.false_or, decide_true, decide_false, not_true_eq_false, not_false_eq_true, and_true, true_and, and_false, false_and, and_self, or_true, true_or, or_false, false_or, or_self, if_true, if_false, Bool.not_true, Bool.not_false, Bool.and_true, Bool.true_and, Bool.and_false, Bool.false_and, *]; done) | (simp only [own_hex, Bool.or_true, Bool.true_or, Bool.or_false, Bool.false_or, decide_true, decide_false, not_true_eq_false, not_false_eq_true, and_true, true_and, and_false, false_and, and_self, or_true, true_or, or_false, false_or, or_self, if_true, if_false, Bool.not_true, Bool.not_false, Bool.and_true, Bool.true_and, Bool.and_false, Bool.false_and, *]; decide)), rfl, rfl⟩
        · skip
          have S11 : own_G p e below s0 s₁ m 37 #[iv x0] [(.int 70), (.int x0)] := fun t kt => by
            refine S9 t ?_
            refine w_icmpNo X0 hx hby d25_31 (flt hc31).1 ?_
            refine w_iloadN X0 hx hby d25_34 rfl ?_
            refine w_bipush X0 hx hby d25_35 ?_
            exact kt
          by_cases hc37 : (70 : Int32) < x0
          · skip
            have S12 : own_G p e below s0 s₁ m 45 #[iv x0] [(.int 0)] := fun t kt => by
              refine S11 t ?_
              refine w_icmpYes X0 hx hby (pc' := 44) d25_37 (tlt hc37).2.2.1 (by decide) ?_
              refine w_iconst X0 hx hby d25_44 ?_
              exact kt
            obtain ⟨fs, hr, hrun, hended, hW, hsame⟩ := X0.leave (v := some (.int (nar .boolean (0 : Int32)))) (fun h => by rw [Bd.returns] at h; cases h)
            refine ⟨_, _, S12 _ ?_, hrun, hended, _, _, rfl, ?_, ⟨_, rfl⟩, hW, hsame.mono (by decide) (by decide)⟩
            · show Steps p.tables e below (s₁.setTop (mkF m 45 #[iv x0] [(.int 0)])) _
              exact retN X0 hx (t := .boolean) Bd.returns (by simp) (hb hby d25_45) hr
            · show own_Q25 Z x0 h0 n0 _ s₁.heap _
              rw [e0]
              exact ⟨own_leafF (by first | (simp only [own_hex, Bool.or_true, Bool.true_or, Bool.or_false, Bool.false_or, decide_true, decide_false, not_true_eq_false, not_false_eq_true, and_true, true_and, and_false, false_and, and_self, or_true, true_or, or_false, false_or, or_self, if_true, if_false, Bool.not_true, Bool.not_false, Bool.and_true, Bool.true_and, Bool.and_false, Bool.false_and, *]; done) | (simp only [own_hex, Bool.or_true, Bool.true_or, Bool.or_false, Bool.false_or, decide_true, decide_false, not_true_eq_false, not_false_eq_true, and_true, true_and, and_false, false_and, and_self, or_true, true_or, or_false, false_or, or_self, if_true, if_false, Bool.not_true, Bool.not_false, Bool.and_true, Bool.true_and, Bool.and_false, Bool.false_and, *]; decide)), rfl, rfl⟩
          · skip
            have S13 : own_G p e below s0 s₁ m 45 #[iv x0] [(.int 1)] := fun t kt => by
              refine S11 t ?_
              refine w_icmpNo X0 hx hby d25_37 (flt hc37).2.2.1 ?_
              refine w_iconst X0 hx hby d25_40 ?_
              refine w_goto X0 hx hby (pc' := 45) d25_41 (by decide) ?_
              exact kt
            obtain ⟨fs, hr, hrun, hended, hW, hsame⟩ := X0.leave (v := some (.int (nar .boolean (1 : Int32)))) (fun h => by rw [Bd.returns] at h; cases h)
            refine ⟨_, _, S13 _ ?_, hrun, hended, _, _, rfl, ?_, ⟨_, rfl⟩, hW, hsame.mono (by decide) (by decide)⟩
            · show Steps p.tables e below (s₁.setTop (mkF m 45 #[iv x0] [(.int 1)])) _
              exact retN X0 hx (t := .boolean) Bd.returns (by simp) (hb hby d25_45) hr
            · show own_Q25 Z x0 h0 n0 _ s₁.heap _
              rw [e0]
              exact ⟨own_leafT (by first | (simp only [own_hex, Bool.or_true, Bool.true_or, Bool.or_false, Bool.false_or, decide_true, decide_false, not_true_eq_false, not_false_eq_true, and_true, true_and, and_false, false_and, and_self, or_true, true_or, or_false, false_or, or_self, if_true, if_false, Bool.not_true, Bool.not_false, Bool.and_true, Bool.true_and, Bool.and_false, Bool.false_and, *]; done) | (simp only [own_hex, Bool.or_true, Bool.true_or, Bool.or_false, Bool.false_or, decide_true, decide_false, not_true_eq_false, not_false_eq_true, and_true, true_and, and_false, false_and, and_self, or_true, true_or, or_false, false_or, or_self, if_true, if_false, Bool.not_true, Bool.not_false, Bool.and_true, Bool.true_and, Bool.and_false, Bool.false_and, *]; decide)), rfl, rfl⟩
      · skip
        have S14 : own_G p e below s0 s₁ m 27 #[iv x0] [(.int 1)] := fun t kt => by
          refine S8 t ?_
          refine w_icmpNo X0 hx hby d25_23 (flt hc23).2.2.1 ?_
          refine w_iconst X0 hx hby d25_26 ?_
          exact kt
        obtain ⟨fs, hr, hrun, hended, hW, hsame⟩ := X0.leave (v := some (.int (nar .boolean (1 : Int32)))) (fun h => by rw [Bd.returns] at h; cases h)
        refine ⟨_, _, S14 _ ?_, hrun, hended, _, _, rfl, ?_, ⟨_, rfl⟩, hW, hsame.mono (by decide) (by decide)⟩
        · show Steps p.tables e below (s₁.setTop (mkF m 27 #[iv x0] [(.int 1)])) _
          exact retN X0 hx (t := .boolean) Bd.returns (by simp) (hb hby d25_27) hr
        · show own_Q25 Z x0 h0 n0 _ s₁.heap _
          rw [e0]
          exact ⟨own_leafT (by first | (simp only [own_hex, Bool.or_true, Bool.true_or, Bool.or_false, Bool.false_or, decide_true, decide_false, not_true_eq_false, not_false_eq_true, and_true, true_and, and_false, false_and, and_self, or_true, true_or, or_false, false_or, or_self, if_true, if_false, Bool.not_true, Bool.not_false, Bool.and_true, Bool.true_and, Bool.and_false, Bool.false_and, *]; done) | (simp only [own_hex, Bool.or_true, Bool.true_or, Bool.or_false, Bool.false_or, decide_true, decide_false, not_true_eq_false, not_false_eq_true, and_true, true_and, and_false, false_and, and_self, or_true, true_or, or_false, false_or, or_self, if_true, if_false, Bool.not_true, Bool.not_false, Bool.and_true, Bool.true_and, Bool.and_false, Bool.false_and, *]; decide)), rfl, rfl⟩
  · skip
    have S15 : own_G p e below s0 s₁ m 9 #[iv x0] [(.int 57), (.int x0)] := fun t kt => by
      refine S1 t ?_
      refine w_icmpNo X0 hx hby d25_3 (flt hc3).1 ?_
      refine w_iloadN X0 hx hby d25_6 rfl ?_
      refine w_bipush X0 hx hby d25_7 ?_
      exact kt
    by_cases hc9 : (57 : Int32) < x0
    · skip
      have S16 : own_G p e below s0 s₁ m 17 #[iv x0] [(.int 97), (.int x0)] := fun t kt => by
        refine S15 t ?_
        refine w_icmpYes X0 hx hby (pc' := 14) d25_9 (tlt hc9).2.2.1 (by decide) ?_
        refine w_iloadN X0 hx hby d25_14 rfl ?_
        refine w_bipush X0 hx hby d25_15 ?_
        exact kt
      by_cases hc17 : x0 < (97 : Int32)
      · skip
        have S17 : own_G p e below s0 s₁ m 31 #[iv x0] [(.int 65), (.int x0)] := fun t kt => by
          refine S16 t ?_
          refine w_icmpYes X0 hx hby (pc' := 28) d25_17 (tlt hc17).1 (by decide) ?_
          refine w_iloadN X0 hx hby d25_28 rfl ?_
          refine w_bipush X0 hx hby d25_29 ?_
          exact kt
        by_cases hc31 : x0 < (65 : Int32)
        · skip
          have S18 : own_G p e below s0 s₁ m 45 #[iv x0] [(.int 0)] := fun t kt => by
            refine S17 t ?_
            refine w_icmpYes X0 hx hby (pc' := 44) d25_31 (tlt hc31).1 (by decide) ?_
            refine w_iconst X0 hx hby d25_44 ?_
            exact kt
          obtain ⟨fs, hr, hrun, hended, hW, hsame⟩ := X0.leave (v := some (.int (nar .boolean (0 : Int32)))) (fun h => by rw [Bd.returns] at h; cases h)
          refine ⟨_, _, S18 _ ?_, hrun, hended, _, _, rfl, ?_, ⟨_, rfl⟩, hW, hsame.mono (by decide) (by decide)⟩
          · show Steps p.tables e below (s₁.setTop (mkF m 45 #[iv x0] [(.int 0)])) _
            exact retN X0 hx (t := .boolean) Bd.returns (by simp) (hb hby d25_45) hr
          · show own_Q25 Z x0 h0 n0 _ s₁.heap _
            rw [e0]
            exact ⟨own_leafF (by first | (simp only [own_hex, Bool.or_true, Bool.true_or, Bool.or_false, Bool.false_or, decide_true, decide_false, not_true_eq_false, not_false_eq_true, and_true, true_and, and_false, false_and, and_self, or_true, true_or, or_false, false_or, or_self, if_true, if_false, Bool.not_true, Bool.not_false, Bool.and_true, Bool.true_and, Bool.and_false, Bool.false_and, *]; done) | (simp only [own_hex, Bool.or_true, Bool.true_or, Bool.or_false, Bool.false_or, decide_true, decide_false, not_true_eq_false, not_false_eq_true, and_true, true_and, and_false, false_and, and_self, or_true, true_or, or_false, false_or, or_self, if_true, if_false, Bool.not_true, Bool.not_false, Bool.and_true, Bool.true_and, Bool.and_false, Bool.false_and, *]; decide)), rfl, rfl⟩
        · skip
          have S19 : own_G p e below s0 s₁ m 37 #[iv x0] [(.int 70), (.int x0)] := fun t kt => by
            refine S17 t ?_
            refine w_icmpNo X0 hx hby d25_31 (flt hc31).1 ?_
            refine w_iloadN X0 hx hby d25_34 rfl ?_
            refine w_bipush X0 hx hby d25_35 ?_
            exact kt
          by_cases hc37 : (70 : Int32) < x0
          · skip
            have S20 : own_G p e below s0 s₁ m 45 #[iv x0] [(.int 0)] := fun t kt => by
              refine S19 t ?_
              refine w_icmpYes X0 hx hby (pc' := 44) d25_37 (tlt hc37).2.2.1 (by decide) ?_
              refine w_iconst X0 hx hby d25_44 ?_
              exact kt
            obtain ⟨fs, hr, hrun, hended, hW, hsame⟩ := X0.leave (v := some (.int (nar .boolean (0 : Int32)))) (fun h => by rw [Bd.returns] at h; cases h)
            refine ⟨_, _, S20 _ ?_, hrun, hended, _, _, rfl, ?_, ⟨_, rfl⟩, hW, hsame.mono (by decide) (by decide)⟩
            · show Steps p.tables e below (s₁.setTop (mkF m 45 #[iv x0] [(.int 0)])) _
              exact retN X0 hx (t := .boolean) Bd.returns (by simp) (hb hby d25_45) hr
            · show own_Q25 Z x0 h0 n0 _ s₁.heap _
              rw [e0]
              exact ⟨own_leafF (by first | (simp only [own_hex, Bool.or_true, Bool.true_or, Bool.or_false, Bool.false_or, decide_true, decide_false, not_true_eq_false, not_false_eq_true, and_true, true_and, and_false, false_and, and_self, or_true, true_or, or_false, false_or, or_self, if_true, if_false, Bool.not_true, Bool.not_false, Bool.and_true, Bool.true_and, Bool.and_false, Bool.false_and, *]; done) | (simp only [own_hex, Bool.or_true, Bool.true_or, Bool.or_false, Bool.false_or, decide_true, decide_false, not_true_eq_false, not_false_eq_true, and_true, true_and, and_false, false_and, and_self, or_true, true_or, or_false, false_or, or_self, if_true, if_false, Bool.not_true, Bool.not_false, Bool.and_true, Bool.true_and, Bool.and_false, Bool.false_and, *]; decide)), rfl, rfl⟩
          · skip
            have S21 : own_G p e below s0 s₁ m 45 #[iv x0] [(.int 1)] := fun t kt => by
              refine S19 t ?_
              refine w_icmpNo X0 hx hby d25_37 (flt hc37).2.2.1 ?_
              refine w_iconst X0 hx hby d25_40 ?_
              refine w_goto X0 hx hby (pc' := 45) d25_41 (by decide) ?_
              exact kt
            obtain ⟨fs, hr, hrun, hended, hW, hsame⟩ := X0.leave (v := some (.int (nar .boolean (1 : Int32)))) (fun h => by rw [Bd.returns] at h; cases h)
            refine ⟨_, _, S21 _ ?_, hrun, hended, _, _, rfl, ?_, ⟨_, rfl⟩, hW, hsame.mono (by decide) (by decide)⟩
            · show Steps p.tables e below (s₁.setTop (mkF m 45 #[iv x0] [(.int 1)])) _
              exact retN X0 hx (t := .boolean) Bd.returns (by simp) (hb hby d25_45) hr
            · show own_Q25 Z x0 h0 n0 _ s₁.heap _
              rw [e0]
              exact ⟨own_leafT (by first | (simp only [own_hex, Bool.or_true, Bool.true_or, Bool.or_false, Bool.false_or, decide_true, decide_false, not_true_eq_false, not_false_eq_true, and_true, true_and, and_false, false_and, and_self, or_true, true_or, or_false, false_or, or_self, if_true, if_false, Bool.not_true, Bool.not_false, Bool.and_true, Bool.true_and, Bool.and_false, Bool.false_and, *]; done) | (simp only [own_hex, Bool.or_true, Bool.true_or, Bool.or_false, Bool.false_or, decide_true, decide_false, not_true_eq_false, not_false_eq_true, and_true, true_and, and_false, false_and, and_self, or_true, true_or, or_false, false_or, or_self, if_true, if_false, Bool.not_true, Bool.not_false, Bool.and_true, Bool.true_and, Bool.and_false, Bool.false_and, *]; decide)), rfl, rfl⟩
      · skip
        have S22 : own_G p e below s0 s₁ m 23 #[iv x0] [(.int 102), (.int x0)] := fun t kt => by
          refine S16 t ?_
          refine w_icmpNo X0 hx hby d25_17 (flt hc17).1 ?_
          refine w_iloadN X0 hx hby d25_20 rfl ?_
          refine w_bipush X0 hx hby d25_21 ?_
          exact kt
        by_cases hc23 : (102 : Int32) < x0
        · skip
          have S23 : own_G p e below s0 s₁ m 31 #[iv x0] [(.int 65), (.int x0)] := fun t kt => by
            refine S22 t ?_
            refine w_icmpYes X0 hx hby (pc' := 28) d25_23 (tlt hc23).2.2.1 (by decide) ?_
            refine w_iloadN X0 hx hby d25_28 rfl ?_
            refine w_bipush X0 hx hby d25_29 ?_
            exact kt
          by_cases hc31 : x0 < (65 : Int32)
          · skip
            have S24 : own_G p e below s0 s₁ m 45 #[iv x0] [(.int 0)] := fun t kt => by
              refine S23 t ?_
              refine w_icmpYes X0 hx hby (pc' := 44) d25_31 (tlt hc31).1 (by decide) ?_
              refine w_iconst X0 hx hby d25_44 ?_
              exact kt
            obtain ⟨fs, hr, hrun, hended, hW, hsame⟩ := X0.leave (v := some (.int (nar .boolean (0 : Int32)))) (fun h => by rw [Bd.returns] at h; cases h)
            refine ⟨_, _, S24 _ ?_, hrun, hended, _, _, rfl, ?_, ⟨_, rfl⟩, hW, hsame.mono (by decide) (by decide)⟩
            · show Steps p.tables e below (s₁.setTop (mkF m 45 #[iv x0] [(.int 0)])) _
              exact retN X0 hx (t := .boolean) Bd.returns (by simp) (hb hby d25_45) hr
            · show own_Q25 Z x0 h0 n0 _ s₁.heap _
              rw [e0]
              exact ⟨own_leafF (by first | (simp only [own_hex, Bool.or_true, Bool.true_or, Bool.or_false, Bool.false_or, decide_true, decide_false, not_true_eq_false, not_false_eq_true, and_true, true_and, and_false, false_and, and_self, or_true, true_or, or_false, false_or, or_self, if_true, if_false, Bool.not_true, Bool.not_false, Bool.and_true, Bool.true_and, Bool.and_false, Bool.false_and, *]; done) | (simp only [own_hex, Bool.or_true, Bool.true_or, Bool.or_false, Bool.false_or, decide_true, decide_false, not_true_eq_false, not_false_eq_true, and_true, true_and, and_false, false_and, and_self, or_true, true_or, or_false, false_or, or_self, if_true, if_false, Bool.not_true, Bool.not_false, Bool.and_true, Bool.true_and, Bool.and_false, Bool.false_and, *]; decide)), rfl, rfl⟩
          · skip
            have S25 : own_G p e below s0 s₁ m 37 #[iv x0] [(.int 70), (.int x0)] := fun t kt => by
              refine S23 t ?_
              refine w_icmpNo X0 hx hby d25_31 (flt hc31).1 ?_
              refine w_iloadN X0 hx hby d25_34 rfl ?_
              refine w_bipush X0 hx hby d25_35 ?_
              exact kt
            by_cases hc37 : (70 : Int32) < x0
            · skip
              have S26 : own_G p e below s0 s₁ m 45 #[iv x0] [(.int 0)] := fun t kt => by
                refine S25 t ?_
                refine w_icmpYes X0 hx hby (pc' := 44) d25_37 (tlt hc37).2.2.1 (by decide) ?_
                refine w_iconst X0 hx hby d25_44 ?_
                exact kt
              obtain ⟨fs, hr, hrun, hended, hW, hsame⟩ := X0.leave (v := some (.int (nar .boolean (0 : Int32)))) (fun h => by rw [Bd.returns] at h; cases h)
              refine ⟨_, _, S26 _ ?_, hrun, hended, _, _, rfl, ?_, ⟨_, rfl⟩, hW, hsame.mono (by decide) (by decide)⟩
              · show Steps p.tables e below (s₁.setTop (mkF m 45 #[iv x0] [(.int 0)])) _
                exact retN X0 hx (t := .boolean) Bd.returns (by simp) (hb hby d25_45) hr
              · show own_Q25 Z x0 h0 n0 _ s₁.heap _
                rw [e0]
                exact ⟨own_leafF (by first | (simp only [own_hex, Bool.or_true, Bool.true_or, Bool.or_false, Bool.false_or, decide_true, decide_false, not_true_eq_false, not_false_eq_true, and_true, true_and, and_false, false_and, and_self, or_true, true_or, or_false, false_or, or_self, if_true, if_false, Bool.not_true, Bool.not_false, Bool.and_true, Bool.true_and, Bool.and_false, Bool.false_and, *]; done) | (simp only [own_hex, Bool.or_true, Bool.true_or, Bool.or_false, Bool.false_or, decide_true, decide_false, not_true_eq_false, not_false_eq_true, and_true, true_and, and_false, false_and, and_self, or_true, true_or, or_false, false_or, or_self, if_true, if_false, Bool.not_true, Bool.not_false, Bool.and_true, Bool.true_and, Bool.and_false, Bool.false_and, *]; decide)), rfl, rfl⟩
            · skip
              have S27 : own_G p e below s0 s₁ m 45 #[iv x0] [(.int 1)] := fun t kt => by
                refine S25 t ?_
                refine w_icmpNo X0 hx hby d25_37 (flt hc37).2.2.1 ?_
                refine w_iconst X0 hx hby d25_40 ?_
                refine w_goto X0 hx hby (pc' := 45) d25_41 (by decide) ?_
                exact kt
              obtain ⟨fs, hr, hrun, hended, hW, hsame⟩ := X0.leave (v := some (.int (nar .boolean (1 : Int32)))) (fun h => by rw [Bd.returns] at h; cases h)
              refine ⟨_, _, S27 _ ?_, hrun, hended, _, _, rfl, ?_, ⟨_, rfl⟩, hW, hsame.mono (by decide) (by decide)⟩
              · show Steps p.tables e below (s₁.setTop (mkF m 45 #[iv x0] [(.int 1)])) _
                exact retN X0 hx (t := .boolean) Bd.returns (by simp) (hb hby d25_45) hr
              · show own_Q25 Z x0 h0 n0 _ s₁.heap _
                rw [e0]
                exact ⟨own_leafT (by first | (simp only [own_hex, Bool.or_true, Bool.true_or, Bool.or_false, Bool.false_or, decide_true, decide_false, not_true_eq_false, not_false_eq_true, and_true, true_and, and_false, false_and, and_self, or_true, true_or, or_false, false_or, or_self, if_true, if_false, Bool.not_true, Bool.not_false, Bool.and_true, Bool.true_and, Bool.and_false, Bool.false_and, *]; done) | (simp only [own_hex, Bool.or_true, Bool.true_or, Bool.or_false, Bool.false_or, decide_true, decide_false, not_true_eq_false, not_false_eq_true, and_true, true_and, and_false, false_and, and_self, or_true, true_or, or_false, false_or, or_self, if_true, if_false, Bool.not_true, Bool.not_false, Bool.and_true, Bool.true_and, Bool.and_false, Bool.false_and, *]; decide)), rfl, rfl⟩
        · skip
          have S28 : own_G p e below s0 s₁ m 27 #[iv x0] [(.int 1)] := fun t kt => by
            refine S22 t ?_
            refine w_icmpNo X0 hx hby d25_23 (flt hc23).2.2.1 ?_
            refine w_iconst X0 hx hby d25_26 ?_
            exact kt
          obtain ⟨fs, hr, hrun, hended, hW, hsame⟩ := X0.leave (v := some (.int (nar .boolean (1 : Int32)))) (fun h => by rw [Bd.returns] at h; cases h)
          refine ⟨_, _, S28 _ ?_, hrun, hended, _, _, rfl, ?_, ⟨_, rfl⟩, hW, hsame.mono (by decide) (by decide)⟩
          · show Steps p.tables e below (s₁.setTop (mkF m 27 #[iv x0] [(.int 1)])) _
            exact retN X0 hx (t := .boolean) Bd.returns (by simp) (hb hby d25_27) hr
          · show own_Q25 Z x0 h0 n0 _ s₁.heap _
            rw [e0]
            exact ⟨own_leafT (by first | (simp only [own_hex, Bool.or_true, Bool.true_or, Bool.or_false, Bool.false_or, decide_true, decide_false, not_true_eq_false, not_false_eq_true, and_true, true_and, and_false, false_and, and_self, or_true, true_or, or_false, false_or, or_self, if_true, if_false, Bool.not_true, Bool.not_false, Bool.and_true, Bool.true_and, Bool.and_false, Bool.false_and, *]; done) | (simp only [own_hex, Bool.or_true, Bool.true_or, Bool.or_false, Bool.false_or, decide_true, decide_false, not_true_eq_false, not_false_eq_true, and_true, true_and, and_false, false_and, and_self, or_true, true_or, or_false, false_or, or_self, if_true, if_false, Bool.not_true, Bool.not_false, Bool.and_true, Bool.true_and, Bool.and_false, Bool.false_and, *]; decide)), rfl, rfl⟩
    · skip
      have S29 : own_G p e below s0 s₁ m 13 #[iv x0] [(.int 1)] := fun t kt => by
        refine S15 t ?_
        refine w_icmpNo X0 hx hby d25_9 (flt hc9).2.2.1 ?_
        refine w_iconst X0 hx hby d25_12 ?_
        exact kt
      obtain ⟨fs, hr, hrun, hended, hW, hsame⟩ := X0.leave (v := some (.int (nar .boolean (1 : Int32)))) (fun h => by rw [Bd.returns] at h; cases h)
      refine ⟨_, _, S29 _ ?_, hrun, hended, _, _, rfl, ?_, ⟨_, rfl⟩, hW, hsame.mono (by decide) (by decide)⟩
      · show Steps p.tables e below (s₁.setTop (mkF m 13 #[iv x0] [(.int 1)])) _
        exact retN X0 hx (t := .boolean) Bd.returns (by simp) (hb hby d25_13) hr
      · show own_Q25 Z x0 h0 n0 _ s₁.heap _
        rw [e0]
        exact ⟨own_leafT (by first | (simp only [own_hex, Bool.or_true, Bool.true_or, Bool.or_false, Bool.false_or, decide_true, decide_false, not_true_eq_false, not_false_eq_true, and_true, true_and, and_false, false_and, and_self, or_true, true_or, or_false, false_or, or_self, if_true, if_false, Bool.not_true, Bool.not_false, Bool.and_true, Bool.true_and, Bool.and_false, Bool.false_and, *]; done) | (simp only [own_hex, Bool.or_true, Bool.true_or, Bool.or_false, Bool.false_or, decide_true, decide_false, not_true_eq_false, not_false_eq_true, and_true, true_and, and_false, false_and, and_self, or_true, true_or, or_false, false_or, or_self, if_true, if_false, Bool.not_true, Bool.not_false, Bool.and_true, Bool.true_and, Bool.and_false, Bool.false_and, *]; decide)), rfl, rfl⟩
theorem own_pd14 : parseMethodDescriptor "()I" = some ⟨[], some .int⟩ := by decide +kernel
theorem own_pd15 : parseMethodDescriptor "(I)C" = some ⟨[.int], some .char⟩ := by decide +kernel
theorem own_pd16 : parseMethodDescriptor "(CI)Z" = some ⟨[.char, .int], some .boolean⟩ := by decide +kernel
theorem d6_0 : decode prog_6_method_3_code 0 = .ok (.aload_n 0, 1) := by decide +kernel
theorem d6_1 : decode prog_6_method_3_code 1 = .ok (.invokevirtual 23, 3) := by decide +kernel
theorem d6_4 : decode prog_6_method_3_code 4 = .ok (.iconst 2, 1) := by decide +kernel
theorem d6_5 : decode prog_6_method_3_code 5 = .ok (.if_icmp .le 21, 3) := by decide +kernel
theorem d6_8 : decode prog_6_method_3_code 8 = .ok (.aload_n 0, 1) := by decide +kernel
theorem d6_9 : decode prog_6_method_3_code 9 = .ok (.iconst 0, 1) := by decide +kernel
theorem d6_10 : decode prog_6_method_3_code 10 = .ok (.invokevirtual 13, 3) := by decide +kernel
theorem d6_13 : decode prog_6_method_3_code 13 = .ok (.bipush 48, 2) := by decide +kernel
theorem d6_15 : decode prog_6_method_3_code 15 = .ok (.if_icmp .ne 11, 3) := by decide +kernel
theorem d6_18 : decode prog_6_method_3_code 18 = .ok (.aload_n 0, 1) := by decide +kernel
theorem d6_19 : decode prog_6_method_3_code 19 = .ok (.iconst 1, 1) := by decide +kernel
theorem d6_20 : decode prog_6_method_3_code 20 = .ok (.invokevirtual 13, 3) := by decide +kernel
theorem d6_23 : decode prog_6_method_3_code 23 = .ok (.goto 4, 3) := by decide +kernel
theorem d6_26 : decode prog_6_method_3_code 26 = .ok (.iconst 0, 1) := by decide +kernel
theorem d6_27 : decode prog_6_method_3_code 27 = .ok (.istore_n 1, 1) := by decide +kernel
theorem d6_28 : decode prog_6_method_3_code 28 = .ok (.iload_n 1, 1) := by decide +kernel
theorem d6_29 : decode prog_6_method_3_code 29 = .ok (.bipush 111, 2) := by decide +kernel
theorem d6_31 : decode prog_6_method_3_code 31 = .ok (.if_icmp .ne 8, 3) := by decide +kernel
theorem d6_34 : decode prog_6_method_3_code 34 = .ok (.bipush 8, 2) := by decide +kernel
theorem d6_36 : decode prog_6_method_3_code 36 = .ok (.goto 5, 3) := by decide +kernel
theorem d6_39 : decode prog_6_method_3_code 39 = .ok (.bipush 16, 2) := by decide +kernel
theorem d6_41 : decode prog_6_method_3_code 41 = .ok (.istore_n 2, 1) := by decide +kernel
theorem d6_42 : decode prog_6_method_3_code 42 = .ok (.iload_n 1, 1) := by decide +kernel
theorem d6_43 : decode prog_6_method_3_code 43 = .ok (.bipush 111, 2) := by decide +kernel
theorem d6_45 : decode prog_6_method_3_code 45 = .ok (.if_icmp .eq 9, 3) := by decide +kernel
theorem d6_48 : decode prog_6_method_3_code 48 = .ok (.iload_n 1, 1) := by decide +kernel
theorem d6_49 : decode prog_6_method_3_code 49 = .ok (.bipush 120, 2) := by decide +kernel
theorem d6_51 : decode prog_6_method_3_code 51 = .ok (.if_icmp .ne 7, 3) := by decide +kernel
theorem d6_54 : decode prog_6_method_3_code 54 = .ok (.iconst 1, 1) := by decide +kernel
theorem d6_55 : decode prog_6_method_3_code 55 = .ok (.goto 4, 3) := by decide +kernel
theorem d6_58 : decode prog_6_method_3_code 58 = .ok (.iconst 0, 1) := by decide +kernel
theorem d6_59 : decode prog_6_method_3_code 59 = .ok (.istore_n 3, 1) := by decide +kernel
theorem d6_60 : decode prog_6_method_3_code 60 = .ok (.iconst 2, 1) := by decide +kernel
theorem d6_61 : decode prog_6_method_3_code 61 = .ok (.istore 4, 2) := by decide +kernel
theorem d6_63 : decode prog_6_method_3_code 63 = .ok (.iload_n 3, 1) := by decide +kernel
theorem d6_64 : decode prog_6_method_3_code 64 = .ok (.ifCond .eq 29, 3) := by decide +kernel
theorem d6_67 : decode prog_6_method_3_code 67 = .ok (.iload 4, 2) := by decide +kernel
theorem d6_69 : decode prog_6_method_3_code 69 = .ok (.aload_n 0, 1) := by decide +kernel
theorem d6_70 : decode prog_6_method_3_code 70 = .ok (.invokevirtual 23, 3) := by decide +kernel
theorem d6_73 : decode prog_6_method_3_code 73 = .ok (.if_icmp .ge 20, 3) := by decide +kernel
theorem d6_76 : decode prog_6_method_3_code 76 = .ok (.aload_n 0, 1) := by decide +kernel
theorem d6_77 : decode prog_6_method_3_code 77 = .ok (.iload 4, 2) := by decide +kernel
theorem d6_79 : decode prog_6_method_3_code 79 = .ok (.invokevirtual 13, 3) := by decide +kernel
theorem d6_82 : decode prog_6_method_3_code 82 = .ok (.iload_n 2, 1) := by decide +kernel
theorem d6_83 : decode prog_6_method_3_code 83 = .ok (.invokestatic 48, 3) := by decide +kernel
theorem d6_86 : decode prog_6_method_3_code 86 = .ok (.istore_n 3, 1) := by decide +kernel
theorem d6_87 : decode prog_6_method_3_code 87 = .ok (.iinc 4 1, 3) := by decide +kernel
theorem d6_90 : decode prog_6_method_3_code 90 = .ok (.goto (-27), 3) := by decide +kernel
theorem d6_93 : decode prog_6_method_3_code 93 = .ok (.iload_n 3, 1) := by decide +kernel
theorem d6_94 : decode prog_6_method_3_code 94 = .ok (.ireturn, 1) := by decide +kernel
theorem own_ef6 (m : MethodId) (x0 : Addr) : entryFrame m #[(.ref x0)] 5 = mkF m 0 #[rv x0, .unset, .unset, .unset, .unset] [] := by first | (simp [entryFrame, mkF, argsToLocals, Value.category]; done) | rfl
def own_Q6 (Z : State) (a : Addr) (n_ : Int32) (c0 : Int32) (c1 : Int32) (c2 : Int32) (c3 : Int32) (c4 : Int32) (cs : Int32) (fm : Value) (h0 : Heap) (n0 : Nat) (v : Option Value) (h : Heap) (L : List Loc) : Prop := v = some (.int (own_b (own_exp n_ c0 c1 c2 c3 c4))) ∧ L = [] ∧ h = h0
set_option maxHeartbeats 40000000 in
theorem own_rm6 (l : Launch) (Z : State) (a0 : Array Value) (hw : ∀ d ∈ tables_1, d.before a0 Z = true) (ws : List Jvm.Cond) (a : Addr) (n_ : Int32) (c0 : Int32) (c1 : Int32) (c2 : Int32) (c3 : Int32) (c4 : Int32) (cs : Int32) (fm : Value) (h0 : Heap) (n0 : Nat) (Z0 : n0 ≤ h0.size) (S_CS : Sta Z h0 "java/lang/String" "COMPACT_STRINGS" "Z" (.int cs)) (hcs : ¬ cs = (0 : Int32)) (S_FM : Sta Z h0 own_s1 "SIOOBE_FORMATTER" own_s0 fm) (hfm : own_fm fm) (S_AD : Sta Z h0 own_s2 own_s3 "Z" (.int 1)) (S_HI : Sta Z h0 own_s2 "HI_BYTE_SHIFT" "I" (.int 0)) (S_LO : Sta Z h0 own_s2 "LO_BYTE_SHIFT" "I" (.int 8)) (hN : 0 ≤ n_.toInt ∧ n_.toInt ≤ 5) (hS : own_Str Z h0 a (own_cs n_ c0 c1 c2 c3 c4)) (hb0 : own_ch c0) (hb1 : own_ch c1) (hb2 : own_ch c2) (hb3 : own_ch c3) (hb4 : own_ch c4) :
    MetFree l own_y2 (head1 (Jvm.Cond.code own_y2 prog_6_method_3_code 5 (some .boolean) :: ws) ({ frames := 5, cells := 0, slots := 0, locals := 66 } : Room)) (fun argv U => argv = #[(.ref a)] ∧ Z.Warmed39 U.vm ∧ U.heap = h0) (fun _ _ _ _ _ => True) (fun _ U o U' => ∃ v L, o = .returned v ∧ own_Q6 Z a n_ c0 c1 c2 c3 c4 cs fm h0 n0 v U'.heap L ∧ FrameEnd U o U' L ({ frames := 5, cells := 0, slots := 0, locals := 66 } : Room).cells ({ frames := 5, cells := 0, slots := 0, locals := 66 } : Room).slots) := by
  refine MetFree.of_bodySF (plainFor_of_name own_pn4) hisR ?_
  intro p e s m args below meth c s₁ Bd hml0 hP hK
  obtain ⟨rfl, hZ, hh⟩ := hP
  have hx := Bd.exec
  have hby := Bd.bytes
  have hml : c.maxLocals = 5 := hml0
  have hown : s.vm.findClass "com/example/splode/splode/document/CoreSchema" = some m.cls := findClass_of_methodNamed Bd.named
  have hnm := (name_of_methodNamed Bd.named Bd.method).1
  have X0 : Stand p l e ({ frames := 5, cells := 0, slots := 0, locals := 66 } : Room) s m #[(.ref a)] below meth c s₁ [] 0 0 := Stand.of_body Bd
  have e0 : s₁.heap = h0 := by rw [← hh, Bd.state]; rfl
  have N0 := Fr.nil n0
  have pre_ : own_G p e below (s₁.setTop (entryFrame m #[(.ref a)] 5)) s₁ m 0 #[rv a, .unset, .unset, .unset, .unset] [] := fun t k => castTop (own_ef6 m a) k
  obtain ⟨s0, hs0⟩ : ∃ z, z = (s₁.setTop (entryFrame m #[(.ref a)] 5)) := ⟨_, rfl⟩
  have pre0 : own_G p e below s0 s₁ m 0 #[rv a, .unset, .unset, .unset, .unset] [] := hs0 ▸ pre_
  rw [← hs0]
  have S2 : own_G p e below s0 s₁ m 1 #[rv a, .unset, .unset, .unset, .unset] [(.ref a)] := fun t kt => by
    refine pre0 t ?_
    refine w_aloadN X0 hx hby d6_0 rfl rfl ?_
    exact kt
  obtain ⟨cq3, kq3, q3a, q3b, q3c⟩ := isOf hZ e0 (own_Str_E hS)
  obtain ⟨_, _, ⟨T3, L3, k3, n3⟩, -, X3, ⟨Lc3, hQ3, l3, y3, z3⟩, st3⟩ := X0.virtualBack hx (y := own_y24) (z := own_y24) hown (mvT hZ (own_w hw 34 rfl)) (mvT hZ (own_w hw 35 rfl)) (notFace_of_selects (args := #[]) (mvT hZ (own_w hw 37 rfl))) (mvT hZ (own_w hw 37 rfl)) (mvT hZ (own_w hw 36 rfl)) (by decide) (backOf (W := 0) (own_rm7 l Z a0 hw [] (a) ((own_cs n_ c0 c1 c2 c3 c4)) (n_) (cs) h0 n0 Z0 S_CS hcs hS (own_cs_len hN).2 (own_cs_len hN).1) hZ (own_w hw 38 rfl) (own_w hw 11 rfl) (by decide) (by decide)) q3a q3c (g := (mkF m 1 #[rv a, .unset, .unset, .unset, .unset] [(.ref a)])) rfl (by rw [hml]; rfl) (Steps.refl _) (argsL := []) (rest := []) (lenOf own_pd14 rfl) rfl (by show 2 * 0 + _ ≤ _; exact Nat.le_of_eq rfl) (hb hby d6_1) (fun _ _ => ⟨rfl, e0, (by decide : 0 + 0 ≤ _), (by decide : 0 + 0 ≤ _)⟩)
  dsimp only [Pt.U, Pt.locs, Pt.cells, Pt.slots] at X3 l3 y3 z3 st3 hQ3
  subst l3 y3 z3
  obtain ⟨rfl, rfl, eq1⟩ := hQ3
  try rw [List.append_nil] at X3
  have S4 : own_G p e below s0 T3 m 4 #[rv a, .unset, .unset, .unset, .unset] [(.int n_)] := fun t kt => S2 t (st3.trans kt)
  have S5 : own_G p e below s0 T3 m 5 #[rv a, .unset, .unset, .unset, .unset] [(.int 2), (.int n_)] := fun t kt => by
    refine S4 t ?_
    refine w_iconst X3 hx hby d6_4 ?_
    exact kt
  by_cases hc5 : (2 : Int32) < n_
  · skip
    have S7 : own_G p e below s0 T3 m 10 #[rv a, .unset, .unset, .unset, .unset] [(.int 0), (.ref a)] := fun t kt => by
      refine S5 t ?_
      refine w_icmpNo X3 hx hby d6_5 (tlt hc5).2.2.2 ?_
      refine w_aloadN X3 hx hby d6_8 rfl rfl ?_
      refine w_iconst X3 hx hby d6_9 ?_
      exact kt
    obtain ⟨cq8, kq8, q8a, q8b, q8c⟩ := isOf hZ eq1 (own_Str_E hS)
    obtain ⟨_, _, ⟨T8, L8, k8, n8⟩, -, X8, ⟨Lc8, hQ8, l8, y8, z8⟩, st8⟩ := X3.virtualBack hx (y := own_y23) (z := own_y23) hown (mvT hZ (own_w hw 55 rfl)) (mvT hZ (own_w hw 56 rfl)) (notFace_of_selects (args := #[]) (mvT hZ (own_w hw 58 rfl))) (mvT hZ (own_w hw 58 rfl)) (mvT hZ (own_w hw 57 rfl)) (by decide) (backOf (W := 0) (own_rm12 l Z a0 hw [] (a) ((0 : Int32)) ((own_cs n_ c0 c1 c2 c3 c4)) (0) (cs) (c0) (fm) h0 n0 Z0 S_CS hcs S_FM hfm S_AD S_HI S_LO hS (own_cs_len hN).2 rfl (own_cs_at2 hN hc5).1 hb0) hZ (own_w hw 59 rfl) (own_w hw 11 rfl) (by decide) (by decide)) q8a q8c (g := (mkF m 10 #[rv a, .unset, .unset, .unset, .unset] [(.int 0), (.ref a)])) rfl (by rw [hml]; rfl) (Steps.refl _) (argsL := [(.int 0)]) (rest := []) (lenOf own_pd15 rfl) rfl (by show 2 * 0 + _ ≤ _; exact Nat.le_of_eq rfl) (hb hby d6_10) (fun _ _ => ⟨rfl, eq1, (by decide : 0 + 0 ≤ _), (by decide : 0 + 0 ≤ _)⟩)
    dsimp only [Pt.U, Pt.locs, Pt.cells, Pt.slots] at X8 l8 y8 z8 st8 hQ8
    subst l8 y8 z8
    obtain ⟨rfl, rfl, eq6⟩ := hQ8
    try rw [List.append_nil] at X8
    have S9 : own_G p e below s0 T8 m 13 #[rv a, .unset, .unset, .unset, .unset] [(.int c0)] := fun t kt => S7 t (st8.trans kt)
    have S10 : own_G p e below s0 T8 m 15 #[rv a, .unset, .unset, .unset, .unset] [(.int 48), (.int c0)] := fun t kt => by
      refine S9 t ?_
      refine w_bipush X8 hx hby d6_13 ?_
      exact kt
    by_cases hc15 : c0 = (48 : Int32)
    · skip
      have S12 : own_G p e below s0 T8 m 20 #[rv a, .unset, .unset, .unset, .unset] [(.int 1), (.ref a)] := fun t kt => by
        refine S10 t ?_
        refine w_icmpNo X8 hx hby d6_15 (teq hc15).2 ?_
        refine w_aloadN X8 hx hby d6_18 rfl rfl ?_
        refine w_iconst X8 hx hby d6_19 ?_
        exact kt
      obtain ⟨cq13, kq13, q13a, q13b, q13c⟩ := isOf hZ eq6 (own_Str_E hS)
      obtain ⟨_, _, ⟨T13, L13, k13, n13⟩, -, X13, ⟨Lc13, hQ13, l13, y13, z13⟩, st13⟩ := X8.virtualBack hx (y := own_y23) (z := own_y23) hown (mvT hZ (own_w hw 55 rfl)) (mvT hZ (own_w hw 56 rfl)) (notFace_of_selects (args := #[]) (mvT hZ (own_w hw 58 rfl))) (mvT hZ (own_w hw 58 rfl)) (mvT hZ (own_w hw 57 rfl)) (by decide) (backOf (W := 0) (own_rm12 l Z a0 hw [] (a) ((1 : Int32)) ((own_cs n_ c0 c1 c2 c3 c4)) (1) (cs) (c1) (fm) h0 n0 Z0 S_CS hcs S_FM hfm S_AD S_HI S_LO hS (own_cs_len hN).2 rfl (own_cs_at2 hN hc5).2.1 hb1) hZ (own_w hw 59 rfl) (own_w hw 11 rfl) (by decide) (by decide)) q13a q13c (g := (mkF m 20 #[rv a, .unset, .unset, .unset, .unset] [(.int 1), (.ref a)])) rfl (by rw [hml]; rfl) (Steps.refl _) (argsL := [(.int 1)]) (rest := []) (lenOf own_pd15 rfl) rfl (by show 2 * 0 + _ ≤ _; exact Nat.le_of_eq rfl) (hb hby d6_20) (fun _ _ => ⟨rfl, eq6, (by decide : 0 + 0 ≤ _), (by decide : 0 + 0 ≤ _)⟩)
      dsimp only [Pt.U, Pt.locs, Pt.cells, Pt.slots] at X13 l13 y13 z13 st13 hQ13
      subst l13 y13 z13
      obtain ⟨rfl, rfl, eq11⟩ := hQ13
      try rw [List.append_nil] at X13
      have S14 : own_G p e below s0 T13 m 23 #[rv a, .unset, .unset, .unset, .unset] [(.int c1)] := fun t kt => S12 t (st13.trans kt)
      have S15 : own_G p e below s0 T13 m 31 #[rv a, iv c1, .unset, .unset, .unset] [(.int 111), (.int c1)] := fun t kt => by
        refine S14 t ?_
        refine w_goto X13 hx hby (pc' := 27) d6_23 (by decide) ?_
        refine w_istoreN X13 hx hby d6_27 (l' := #[rv a, iv c1, .unset, .unset, .unset]) rfl ?_
        refine w_iloadN X13 hx hby d6_28 rfl ?_
        refine w_bipush X13 hx hby d6_29 ?_
        exact kt
      by_cases hc31 : c1 = (111 : Int32)
      · skip
        have S16 : own_G p e below s0 T13 m 45 #[rv a, iv c1, iv 8, .unset, .unset] [(.int 111), (.int c1)] := fun t kt => by
          refine S15 t ?_
          refine w_icmpNo X13 hx hby d6_31 (teq hc31).2 ?_
          refine w_bipush X13 hx hby d6_34 ?_
          refine w_goto X13 hx hby (pc' := 41) d6_36 (by decide) ?_
          refine w_istoreN X13 hx hby d6_41 (l' := #[rv a, iv c1, iv 8, .unset, .unset]) rfl ?_
          refine w_iloadN X13 hx hby d6_42 rfl ?_
          refine w_bipush X13 hx hby d6_43 ?_
          exact kt
        have hc45_17 : c1 = (111 : Int32) := hc31
        have S18 : own_G p e below s0 T13 m 64 #[rv a, iv c1, iv 8, iv 1, iv 2] [(.int 1)] := fun t kt => by
          refine S16 t ?_
          refine w_icmpYes X13 hx hby (pc' := 54) d6_45 (teq hc45_17).1 (by decide) ?_
          refine w_iconst X13 hx hby d6_54 ?_
          refine w_goto X13 hx hby (pc' := 59) d6_55 (by decide) ?_
          refine w_istoreN X13 hx hby d6_59 (l' := #[rv a, iv c1, iv 8, iv 1, .unset]) rfl ?_
          refine w_iconst X13 hx hby d6_60 ?_
          refine w_istore X13 hx hby d6_61 (l' := #[rv a, iv c1, iv 8, iv 1, iv 2]) rfl ?_
          refine w_iloadN X13 hx hby d6_63 rfl ?_
          exact kt
        have hc64_19 : ¬ ((1 : Int32) = (0 : Int32)) := by decide
        have S21 : own_G p e below s0 T13 m 70 #[rv a, iv c1, iv 8, iv 1, iv 2] [(.ref a), (.int 2)] := fun t kt => by
          refine S18 t ?_
          refine w_ifNo X13 hx hby d6_64 ((if0 _ _).trans (feq hc64_19).1) ?_
          refine w_iload X13 hx hby d6_67 rfl ?_
          refine w_aloadN X13 hx hby d6_69 rfl rfl ?_
          exact kt
        obtain ⟨cq22, kq22, q22a, q22b, q22c⟩ := isOf hZ eq11 (own_Str_E hS)
        obtain ⟨_, _, ⟨T22, L22, k22, n22⟩, -, X22, ⟨Lc22, hQ22, l22, y22, z22⟩, st22⟩ := X13.virtualBack hx (y := own_y24) (z := own_y24) hown (mvT hZ (own_w hw 34 rfl)) (mvT hZ (own_w hw 35 rfl)) (notFace_of_selects (args := #[]) (mvT hZ (own_w hw 37 rfl))) (mvT hZ (own_w hw 37 rfl)) (mvT hZ (own_w hw 36 rfl)) (by decide) (backOf (W := 1) (own_rm7 l Z a0 hw [] (a) ((own_cs n_ c0 c1 c2 c3 c4)) (n_) (cs) h0 n0 Z0 S_CS hcs hS (own_cs_len hN).2 (own_cs_len hN).1) hZ (own_w hw 38 rfl) (own_w hw 11 rfl) (by decide) (by decide)) q22a q22c (g := (mkF m 70 #[rv a, iv c1, iv 8, iv 1, iv 2] [(.ref a), (.int 2)])) rfl (by rw [hml]; rfl) (Steps.refl _) (argsL := []) (rest := [(.int 2)]) (lenOf own_pd14 rfl) rfl (by show 2 * 0 + _ ≤ _; exact Nat.le_of_eq rfl) (hb hby d6_70) (fun _ _ => ⟨rfl, eq11, (by decide : 0 + 0 ≤ _), (by decide : 0 + 0 ≤ _)⟩)
        dsimp only [Pt.U, Pt.locs, Pt.cells, Pt.slots] at X22 l22 y22 z22 st22 hQ22
        subst l22 y22 z22
        obtain ⟨rfl, rfl, eq20⟩ := hQ22
        try rw [List.append_nil] at X22
        have S23 : own_G p e below s0 T22 m 73 #[rv a, iv c1, iv 8, iv 1, iv 2] [(.int n_), (.int 2)] := fun t kt => S21 t (st22.trans kt)
        have hc73_24 : (2 : Int32) < n_ := hc5
        have S26 : own_G p e below s0 T22 m 79 #[rv a, iv c1, iv 8, iv 1, iv 2] [(.int 2), (.ref a)] := fun t kt => by
          refine S23 t ?_
          refine w_icmpNo X22 hx hby d6_73 (tlt hc73_24).2.1 ?_
          refine w_aloadN X22 hx hby d6_76 rfl rfl ?_
          refine w_iload X22 hx hby d6_77 rfl ?_
          exact kt
        obtain ⟨cq27, kq27, q27a, q27b, q27c⟩ := isOf hZ eq20 (own_Str_E hS)
        obtain ⟨_, _, ⟨T27, L27, k27, n27⟩, -, X27, ⟨Lc27, hQ27, l27, y27, z27⟩, st27⟩ := X22.virtualBack hx (y := own_y23) (z := own_y23) hown (mvT hZ (own_w hw 55 rfl)) (mvT hZ (own_w hw 56 rfl)) (notFace_of_selects (args := #[]) (mvT hZ (own_w hw 58 rfl))) (mvT hZ (own_w hw 58 rfl)) (mvT hZ (own_w hw 57 rfl)) (by decide) (backOf (W := 0) (own_rm12 l Z a0 hw [] (a) ((2 : Int32)) ((own_cs n_ c0 c1 c2 c3 c4)) (2) (cs) (c2) (fm) h0 n0 Z0 S_CS hcs S_FM hfm S_AD S_HI S_LO hS (own_cs_len hN).2 rfl (own_cs_at2 hN hc5).2.2 hb2) hZ (own_w hw 59 rfl) (own_w hw 11 rfl) (by decide) (by decide)) q27a q27c (g := (mkF m 79 #[rv a, iv c1, iv 8, iv 1, iv 2] [(.int 2), (.ref a)])) rfl (by rw [hml]; rfl) (Steps.refl _) (argsL := [(.int 2)]) (rest := []) (lenOf own_pd15 rfl) rfl (by show 2 * 0 + _ ≤ _; exact Nat.le_of_eq rfl) (hb hby d6_79) (fun _ _ => ⟨rfl, eq20, (by decide : 0 + 0 ≤ _), (by decide : 0 + 0 ≤ _)⟩)
        dsimp only [Pt.U, Pt.locs, Pt.cells, Pt.slots] at X27 l27 y27 z27 st27 hQ27
        subst l27 y27 z27
        obtain ⟨rfl, rfl, eq25⟩ := hQ27
        try rw [List.append_nil] at X27
        have S28 : own_G p e below s0 T27 m 82 #[rv a, iv c1, iv 8, iv 1, iv 2] [(.int c2)] := fun t kt => S26 t (st27.trans kt)
        have S30 : own_G p e below s0 T27 m 83 #[rv a, iv c1, iv 8, iv 1, iv 2] [(.int 8), (.int c2)] := fun t kt => by
          refine S28 t ?_
          refine w_iloadN X27 hx hby d6_82 rfl ?_
          exact kt
        obtain ⟨_, _, ⟨T31, L31, k31, n31⟩, -, X31, ⟨Lc31, hQ31, l31, y31, z31⟩, st31⟩ := Jvm.LawKit.callS X27 hx (y := own_y6) hown (mvT hZ (own_w hw 110 rfl)) (mvT hZ (own_w hw 111 rfl)) (mvT hZ (own_w hw 32 rfl)) (mvT hZ (own_w hw 112 rfl)) (by decide) (backOf (W := 0) (own_rmdg8 l Z a0 hw [] (c2) h0 n0 Z0 ) hZ (own_w hw 112 rfl) (own_w hw 32 rfl) (by decide) (by decide)) (g := (mkF m 83 #[rv a, iv c1, iv 8, iv 1, iv 2] [(.int 8), (.int c2)])) rfl (by rw [hml]; rfl) (argsL := [(.int c2), (.int 8)]) (rest := []) (lenOf own_pd16 rfl) rfl (by show 2 * 0 + _ ≤ _; exact Nat.le_of_eq rfl) (hb hby d6_83) (fun _ _ => ⟨rfl, eq25, (by decide : 0 + 0 ≤ _), (by decide : 0 + 0 ≤ _)⟩)
        dsimp only [Pt.U, Pt.locs, Pt.cells, Pt.slots] at X31 l31 y31 z31 st31 hQ31
        subst l31 y31 z31
        obtain ⟨rfl, rfl, eq29⟩ := hQ31
        try rw [List.append_nil] at X31
        have S32 : own_G p e below s0 T31 m 86 #[rv a, iv c1, iv 8, iv 1, iv 2] [(.int (own_b (own_oct c2)))] := fun t kt => S30 t (st31 _ kt)
        have S33 : own_G p e below s0 T31 m 64 #[rv a, iv c1, iv 8, iv (own_b (own_oct c2)), iv 3] [(.int (own_b (own_oct c2)))] := fun t kt => by
          refine S32 t ?_
          refine w_istoreN X31 hx hby d6_86 (l' := #[rv a, iv c1, iv 8, iv (own_b (own_oct c2)), iv 2]) rfl ?_
          refine w_iinc X31 hx hby d6_87 rfl (l' := #[rv a, iv c1, iv 8, iv (own_b (own_oct c2)), iv 3]) rfl ?_
          refine w_goto X31 hx hby (pc' := 63) d6_90 (by decide) ?_
          refine w_iloadN X31 hx hby d6_63 rfl ?_
          exact kt
        by_cases hc64 : (own_b (own_oct c2)) = (0 : Int32)
        · skip
          have S34 : own_G p e below s0 T31 m 94 #[rv a, iv c1, iv 8, iv (own_b (own_oct c2)), iv 3] [(.int (own_b (own_oct c2)))] := fun t kt => by
            refine S33 t ?_
            refine w_ifYes X31 hx hby (pc' := 93) d6_64 ((if0 _ _).trans (teq hc64).1) (by decide) ?_
            refine w_iloadN X31 hx hby d6_93 rfl ?_
            exact kt
          obtain ⟨fs, hr, hrun, hended, hW, hsame⟩ := X31.leave (v := some (.int (nar .boolean (own_b (own_oct c2))))) (fun h => by rw [Bd.returns] at h; cases h)
          refine ⟨_, _, S34 _ ?_, hrun, hended, _, _, rfl, ?_, ⟨_, rfl⟩, hW, hsame.mono (by decide) (by decide)⟩
          · show Steps p.tables e below (T31.setTop (mkF m 94 #[rv a, iv c1, iv 8, iv (own_b (own_oct c2)), iv 3] [(.int (own_b (own_oct c2)))])) _
            exact retN X31 hx (t := .boolean) Bd.returns (by simp) (hb hby d6_94) hr
          · show own_Q6 Z a n_ c0 c1 c2 c3 c4 cs fm h0 n0 _ T31.heap _
            rw [eq29]
            exact ⟨by rw [own_b_nar]; exact congrArg (fun z : Bool => some (Value.int (own_b z))) (by simp [own_exp, hc5, hc15, hc31, own_b0.mp hc64]), rfl, rfl⟩
        · skip
          have S36 : own_G p e below s0 T31 m 70 #[rv a, iv c1, iv 8, iv (own_b (own_oct c2)), iv 3] [(.ref a), (.int 3)] := fun t kt => by
            refine S33 t ?_
            refine w_ifNo X31 hx hby d6_64 ((if0 _ _).trans (feq hc64).1) ?_
            refine w_iload X31 hx hby d6_67 rfl ?_
            refine w_aloadN X31 hx hby d6_69 rfl rfl ?_
            exact kt
          obtain ⟨cq37, kq37, q37a, q37b, q37c⟩ := isOf hZ eq29 (own_Str_E hS)
          obtain ⟨_, _, ⟨T37, L37, k37, n37⟩, -, X37, ⟨Lc37, hQ37, l37, y37, z37⟩, st37⟩ := X31.virtualBack hx (y := own_y24) (z := own_y24) hown (mvT hZ (own_w hw 34 rfl)) (mvT hZ (own_w hw 35 rfl)) (notFace_of_selects (args := #[]) (mvT hZ (own_w hw 37 rfl))) (mvT hZ (own_w hw 37 rfl)) (mvT hZ (own_w hw 36 rfl)) (by decide) (backOf (W := 1) (own_rm7 l Z a0 hw [] (a) ((own_cs n_ c0 c1 c2 c3 c4)) (n_) (cs) h0 n0 Z0 S_CS hcs hS (own_cs_len hN).2 (own_cs_len hN).1) hZ (own_w hw 38 rfl) (own_w hw 11 rfl) (by decide) (by decide)) q37a q37c (g := (mkF m 70 #[rv a, iv c1, iv 8, iv (own_b (own_oct c2)), iv 3] [(.ref a), (.int 3)])) rfl (by rw [hml]; rfl) (Steps.refl _) (argsL := []) (rest := [(.int 3)]) (lenOf own_pd14 rfl) rfl (by show 2 * 0 + _ ≤ _; exact Nat.le_of_eq rfl) (hb hby d6_70) (fun _ _ => ⟨rfl, eq29, (by decide : 0 + 0 ≤ _), (by decide : 0 + 0 ≤ _)⟩)
          dsimp only [Pt.U, Pt.locs, Pt.cells, Pt.slots] at X37 l37 y37 z37 st37 hQ37
          subst l37 y37 z37
          obtain ⟨rfl, rfl, eq35⟩ := hQ37
          try rw [List.append_nil] at X37
          have S38 : own_G p e below s0 T37 m 73 #[rv a, iv c1, iv 8, iv (own_b (own_oct c2)), iv 3] [(.int n_), (.int 3)] := fun t kt => S36 t (st37.trans kt)
          by_cases hc73 : (3 : Int32) < n_
          · skip
            have S40 : own_G p e below s0 T37 m 79 #[rv a, iv c1, iv 8, iv (own_b (own_oct c2)), iv 3] [(.int 3), (.ref a)] := fun t kt => by
              refine S38 t ?_
              refine w_icmpNo X37 hx hby d6_73 (tlt hc73).2.1 ?_
              refine w_aloadN X37 hx hby d6_76 rfl rfl ?_
              refine w_iload X37 hx hby d6_77 rfl ?_
              exact kt
            obtain ⟨cq41, kq41, q41a, q41b, q41c⟩ := isOf hZ eq35 (own_Str_E hS)
            obtain ⟨_, _, ⟨T41, L41, k41, n41⟩, -, X41, ⟨Lc41, hQ41, l41, y41, z41⟩, st41⟩ := X37.virtualBack hx (y := own_y23) (z := own_y23) hown (mvT hZ (own_w hw 55 rfl)) (mvT hZ (own_w hw 56 rfl)) (notFace_of_selects (args := #[]) (mvT hZ (own_w hw 58 rfl))) (mvT hZ (own_w hw 58 rfl)) (mvT hZ (own_w hw 57 rfl)) (by decide) (backOf (W := 0) (own_rm12 l Z a0 hw [] (a) ((3 : Int32)) ((own_cs n_ c0 c1 c2 c3 c4)) (3) (cs) (c3) (fm) h0 n0 Z0 S_CS hcs S_FM hfm S_AD S_HI S_LO hS (own_cs_len hN).2 rfl (own_cs_at3 hN hc73) hb3) hZ (own_w hw 59 rfl) (own_w hw 11 rfl) (by decide) (by decide)) q41a q41c (g := (mkF m 79 #[rv a, iv c1, iv 8, iv (own_b (own_oct c2)), iv 3] [(.int 3), (.ref a)])) rfl (by rw [hml]; rfl) (Steps.refl _) (argsL := [(.int 3)]) (rest := []) (lenOf own_pd15 rfl) rfl (by show 2 * 0 + _ ≤ _; exact Nat.le_of_eq rfl) (hb hby d6_79) (fun _ _ => ⟨rfl, eq35, (by decide : 0 + 0 ≤ _), (by decide : 0 + 0 ≤ _)⟩)
            dsimp only [Pt.U, Pt.locs, Pt.cells, Pt.slots] at X41 l41 y41 z41 st41 hQ41
            subst l41 y41 z41
            obtain ⟨rfl, rfl, eq39⟩ := hQ41
            try rw [List.append_nil] at X41
            have S42 : own_G p e below s0 T41 m 82 #[rv a, iv c1, iv 8, iv (own_b (own_oct c2)), iv 3] [(.int c3)] := fun t kt => S40 t (st41.trans kt)
            have S44 : own_G p e below s0 T41 m 83 #[rv a, iv c1, iv 8, iv (own_b (own_oct c2)), iv 3] [(.int 8), (.int c3)] := fun t kt => by
              refine S42 t ?_
              refine w_iloadN X41 hx hby d6_82 rfl ?_
              exact kt
            obtain ⟨_, _, ⟨T45, L45, k45, n45⟩, -, X45, ⟨Lc45, hQ45, l45, y45, z45⟩, st45⟩ := Jvm.LawKit.callS X41 hx (y := own_y6) hown (mvT hZ (own_w hw 110 rfl)) (mvT hZ (own_w hw 111 rfl)) (mvT hZ (own_w hw 32 rfl)) (mvT hZ (own_w hw 112 rfl)) (by decide) (backOf (W := 0) (own_rmdg8 l Z a0 hw [] (c3) h0 n0 Z0 ) hZ (own_w hw 112 rfl) (own_w hw 32 rfl) (by decide) (by decide)) (g := (mkF m 83 #[rv a, iv c1, iv 8, iv (own_b (own_oct c2)), iv 3] [(.int 8), (.int c3)])) rfl (by rw [hml]; rfl) (argsL := [(.int c3), (.int 8)]) (rest := []) (lenOf own_pd16 rfl) rfl (by show 2 * 0 + _ ≤ _; exact Nat.le_of_eq rfl) (hb hby d6_83) (fun _ _ => ⟨rfl, eq39, (by decide : 0 + 0 ≤ _), (by decide : 0 + 0 ≤ _)⟩)
            dsimp only [Pt.U, Pt.locs, Pt.cells, Pt.slots] at X45 l45 y45 z45 st45 hQ45
            subst l45 y45 z45
            obtain ⟨rfl, rfl, eq43⟩ := hQ45
            try rw [List.append_nil] at X45
            have S46 : own_G p e below s0 T45 m 86 #[rv a, iv c1, iv 8, iv (own_b (own_oct c2)), iv 3] [(.int (own_b (own_oct c3)))] := fun t kt => S44 t (st45 _ kt)
            have S47 : own_G p e below s0 T45 m 64 #[rv a, iv c1, iv 8, iv (own_b (own_oct c3)), iv 4] [(.int (own_b (own_oct c3)))] := fun t kt => by
              refine S46 t ?_
              refine w_istoreN X45 hx hby d6_86 (l' := #[rv a, iv c1, iv 8, iv (own_b (own_oct c3)), iv 3]) rfl ?_
              refine w_iinc X45 hx hby d6_87 rfl (l' := #[rv a, iv c1, iv 8, iv (own_b (own_oct c3)), iv 4]) rfl ?_
              refine w_goto X45 hx hby (pc' := 63) d6_90 (by decide) ?_
              refine w_iloadN X45 hx hby d6_63 rfl ?_
              exact kt
            by_cases hc64' : (own_b (own_oct c3)) = (0 : Int32)
            · skip
              have S48 : own_G p e below s0 T45 m 94 #[rv a, iv c1, iv 8, iv (own_b (own_oct c3)), iv 4] [(.int (own_b (own_oct c3)))] := fun t kt => by
                refine S47 t ?_
                refine w_ifYes X45 hx hby (pc' := 93) d6_64 ((if0 _ _).trans (teq hc64').1) (by decide) ?_
                refine w_iloadN X45 hx hby d6_93 rfl ?_
                exact kt
              obtain ⟨fs, hr, hrun, hended, hW, hsame⟩ := X45.leave (v := some (.int (nar .boolean (own_b (own_oct c3))))) (fun h => by rw [Bd.returns] at h; cases h)
              refine ⟨_, _, S48 _ ?_, hrun, hended, _, _, rfl, ?_, ⟨_, rfl⟩, hW, hsame.mono (by decide) (by decide)⟩
              · show Steps p.tables e below (T45.setTop (mkF m 94 #[rv a, iv c1, iv 8, iv (own_b (own_oct c3)), iv 4] [(.int (own_b (own_oct c3)))])) _
                exact retN X45 hx (t := .boolean) Bd.returns (by simp) (hb hby d6_94) hr
              · show own_Q6 Z a n_ c0 c1 c2 c3 c4 cs fm h0 n0 _ T45.heap _
                rw [eq43]
                exact ⟨by rw [own_b_nar]; exact congrArg (fun z : Bool => some (Value.int (own_b z))) (by simp [own_exp, hc5, hc15, hc31, own_bn0 hc64, own_g3 hc73, own_b0.mp hc64']), rfl, rfl⟩
            · skip
              have S50 : own_G p e below s0 T45 m 70 #[rv a, iv c1, iv 8, iv (own_b (own_oct c3)), iv 4] [(.ref a), (.int 4)] := fun t kt => by
                refine S47 t ?_
                refine w_ifNo X45 hx hby d6_64 ((if0 _ _).trans (feq hc64').1) ?_
                refine w_iload X45 hx hby d6_67 rfl ?_
                refine w_aloadN X45 hx hby d6_69 rfl rfl ?_
                exact kt
              obtain ⟨cq51, kq51, q51a, q51b, q51c⟩ := isOf hZ eq43 (own_Str_E hS)
              obtain ⟨_, _, ⟨T51, L51, k51, n51⟩, -, X51, ⟨Lc51, hQ51, l51, y51, z51⟩, st51⟩ := X45.virtualBack hx (y := own_y24) (z := own_y24) hown (mvT hZ (own_w hw 34 rfl)) (mvT hZ (own_w hw 35 rfl)) (notFace_of_selects (args := #[]) (mvT hZ (own_w hw 37 rfl))) (mvT hZ (own_w hw 37 rfl)) (mvT hZ (own_w hw 36 rfl)) (by decide) (backOf (W := 1) (own_rm7 l Z a0 hw [] (a) ((own_cs n_ c0 c1 c2 c3 c4)) (n_) (cs) h0 n0 Z0 S_CS hcs hS (own_cs_len hN).2 (own_cs_len hN).1) hZ (own_w hw 38 rfl) (own_w hw 11 rfl) (by decide) (by decide)) q51a q51c (g := (mkF m 70 #[rv a, iv c1, iv 8, iv (own_b (own_oct c3)), iv 4] [(.ref a), (.int 4)])) rfl (by rw [hml]; rfl) (Steps.refl _) (argsL := []) (rest := [(.int 4)]) (lenOf own_pd14 rfl) rfl (by show 2 * 0 + _ ≤ _; exact Nat.le_of_eq rfl) (hb hby d6_70) (fun _ _ => ⟨rfl, eq43, (by decide : 0 + 0 ≤ _), (by decide : 0 + 0 ≤ _)⟩)
              dsimp only [Pt.U, Pt.locs, Pt.cells, Pt.slots] at X51 l51 y51 z51 st51 hQ51
              subst l51 y51 z51
              obtain ⟨rfl, rfl, eq49⟩ := hQ51
              try rw [List.append_nil] at X51
              have S52 : own_G p e below s0 T51 m 73 #[rv a, iv c1, iv 8, iv (own_b (own_oct c3)), iv 4] [(.int n_), (.int 4)] := fun t kt => S50 t (st51.trans kt)
              by_cases hc73' : (4 : Int32) < n_
              · skip
                have S54 : own_G p e below s0 T51 m 79 #[rv a, iv c1, iv 8, iv (own_b (own_oct c3)), iv 4] [(.int 4), (.ref a)] := fun t kt => by
                  refine S52 t ?_
                  refine w_icmpNo X51 hx hby d6_73 (tlt hc73').2.1 ?_
                  refine w_aloadN X51 hx hby d6_76 rfl rfl ?_
                  refine w_iload X51 hx hby d6_77 rfl ?_
                  exact kt
                obtain ⟨cq55, kq55, q55a, q55b, q55c⟩ := isOf hZ eq49 (own_Str_E hS)
                obtain ⟨_, _, ⟨T55, L55, k55, n55⟩, -, X55, ⟨Lc55, hQ55, l55, y55, z55⟩, st55⟩ := X51.virtualBack hx (y := own_y23) (z := own_y23) hown (mvT hZ (own_w hw 55 rfl)) (mvT hZ (own_w hw 56 rfl)) (notFace_of_selects (args := #[]) (mvT hZ (own_w hw 58 rfl))) (mvT hZ (own_w hw 58 rfl)) (mvT hZ (own_w hw 57 rfl)) (by decide) (backOf (W := 0) (own_rm12 l Z a0 hw [] (a) ((4 : Int32)) ((own_cs n_ c0 c1 c2 c3 c4)) (4) (cs) (c4) (fm) h0 n0 Z0 S_CS hcs S_FM hfm S_AD S_HI S_LO hS (own_cs_len hN).2 rfl (own_cs_at4 hN hc73') hb4) hZ (own_w hw 59 rfl) (own_w hw 11 rfl) (by decide) (by decide)) q55a q55c (g := (mkF m 79 #[rv a, iv c1, iv 8, iv (own_b (own_oct c3)), iv 4] [(.int 4), (.ref a)])) rfl (by rw [hml]; rfl) (Steps.refl _) (argsL := [(.int 4)]) (rest := []) (lenOf own_pd15 rfl) rfl (by show 2 * 0 + _ ≤ _; exact Nat.le_of_eq rfl) (hb hby d6_79) (fun _ _ => ⟨rfl, eq49, (by decide : 0 + 0 ≤ _), (by decide : 0 + 0 ≤ _)⟩)
                dsimp only [Pt.U, Pt.locs, Pt.cells, Pt.slots] at X55 l55 y55 z55 st55 hQ55
                subst l55 y55 z55
                obtain ⟨rfl, rfl, eq53⟩ := hQ55
                try rw [List.append_nil] at X55
                have S56 : own_G p e below s0 T55 m 82 #[rv a, iv c1, iv 8, iv (own_b (own_oct c3)), iv 4] [(.int c4)] := fun t kt => S54 t (st55.trans kt)
                have S58 : own_G p e below s0 T55 m 83 #[rv a, iv c1, iv 8, iv (own_b (own_oct c3)), iv 4] [(.int 8), (.int c4)] := fun t kt => by
                  refine S56 t ?_
                  refine w_iloadN X55 hx hby d6_82 rfl ?_
                  exact kt
                obtain ⟨_, _, ⟨T59, L59, k59, n59⟩, -, X59, ⟨Lc59, hQ59, l59, y59, z59⟩, st59⟩ := Jvm.LawKit.callS X55 hx (y := own_y6) hown (mvT hZ (own_w hw 110 rfl)) (mvT hZ (own_w hw 111 rfl)) (mvT hZ (own_w hw 32 rfl)) (mvT hZ (own_w hw 112 rfl)) (by decide) (backOf (W := 0) (own_rmdg8 l Z a0 hw [] (c4) h0 n0 Z0 ) hZ (own_w hw 112 rfl) (own_w hw 32 rfl) (by decide) (by decide)) (g := (mkF m 83 #[rv a, iv c1, iv 8, iv (own_b (own_oct c3)), iv 4] [(.int 8), (.int c4)])) rfl (by rw [hml]; rfl) (argsL := [(.int c4), (.int 8)]) (rest := []) (lenOf own_pd16 rfl) rfl (by show 2 * 0 + _ ≤ _; exact Nat.le_of_eq rfl) (hb hby d6_83) (fun _ _ => ⟨rfl, eq53, (by decide : 0 + 0 ≤ _), (by decide : 0 + 0 ≤ _)⟩)
                dsimp only [Pt.U, Pt.locs, Pt.cells, Pt.slots] at X59 l59 y59 z59 st59 hQ59
                subst l59 y59 z59
                obtain ⟨rfl, rfl, eq57⟩ := hQ59
                try rw [List.append_nil] at X59
                have S60 : own_G p e below s0 T59 m 86 #[rv a, iv c1, iv 8, iv (own_b (own_oct c3)), iv 4] [(.int (own_b (own_oct c4)))] := fun t kt => S58 t (st59 _ kt)
                have S61 : own_G p e below s0 T59 m 64 #[rv a, iv c1, iv 8, iv (own_b (own_oct c4)), iv 5] [(.int (own_b (own_oct c4)))] := fun t kt => by
                  refine S60 t ?_
                  refine w_istoreN X59 hx hby d6_86 (l' := #[rv a, iv c1, iv 8, iv (own_b (own_oct c4)), iv 4]) rfl ?_
                  refine w_iinc X59 hx hby d6_87 rfl (l' := #[rv a, iv c1, iv 8, iv (own_b (own_oct c4)), iv 5]) rfl ?_
                  refine w_goto X59 hx hby (pc' := 63) d6_90 (by decide) ?_
                  refine w_iloadN X59 hx hby d6_63 rfl ?_
                  exact kt
                by_cases hc64'' : (own_b (own_oct c4)) = (0 : Int32)
                · skip
                  have S62 : own_G p e below s0 T59 m 94 #[rv a, iv c1, iv 8, iv (own_b (own_oct c4)), iv 5] [(.int (own_b (own_oct c4)))] := fun t kt => by
                    refine S61 t ?_
                    refine w_ifYes X59 hx hby (pc' := 93) d6_64 ((if0 _ _).trans (teq hc64'').1) (by decide) ?_
                    refine w_iloadN X59 hx hby d6_93 rfl ?_
                    exact kt
                  obtain ⟨fs, hr, hrun, hended, hW, hsame⟩ := X59.leave (v := some (.int (nar .boolean (own_b (own_oct c4))))) (fun h => by rw [Bd.returns] at h; cases h)
                  refine ⟨_, _, S62 _ ?_, hrun, hended, _, _, rfl, ?_, ⟨_, rfl⟩, hW, hsame.mono (by decide) (by decide)⟩
                  · show Steps p.tables e below (T59.setTop (mkF m 94 #[rv a, iv c1, iv 8, iv (own_b (own_oct c4)), iv 5] [(.int (own_b (own_oct c4)))])) _
                    exact retN X59 hx (t := .boolean) Bd.returns (by simp) (hb hby d6_94) hr
                  · show own_Q6 Z a n_ c0 c1 c2 c3 c4 cs fm h0 n0 _ T59.heap _
                    rw [eq57]
                    exact ⟨by rw [own_b_nar]; exact congrArg (fun z : Bool => some (Value.int (own_b z))) (by simp [own_exp, hc5, hc15, hc31, own_bn0 hc64, own_g3 hc73, own_bn0 hc64', own_g4 hc73', own_b0.mp hc64'']), rfl, rfl⟩
                · skip
                  have S64 : own_G p e below s0 T59 m 70 #[rv a, iv c1, iv 8, iv (own_b (own_oct c4)), iv 5] [(.ref a), (.int 5)] := fun t kt => by
                    refine S61 t ?_
                    refine w_ifNo X59 hx hby d6_64 ((if0 _ _).trans (feq hc64'').1) ?_
                    refine w_iload X59 hx hby d6_67 rfl ?_
                    refine w_aloadN X59 hx hby d6_69 rfl rfl ?_
                    exact kt
                  obtain ⟨cq65, kq65, q65a, q65b, q65c⟩ := isOf hZ eq57 (own_Str_E hS)
                  obtain ⟨_, _, ⟨T65, L65, k65, n65⟩, -, X65, ⟨Lc65, hQ65, l65, y65, z65⟩, st65⟩ := X59.virtualBack hx (y := own_y24) (z := own_y24) hown (mvT hZ (own_w hw 34 rfl)) (mvT hZ (own_w hw 35 rfl)) (notFace_of_selects (args := #[]) (mvT hZ (own_w hw 37 rfl))) (mvT hZ (own_w hw 37 rfl)) (mvT hZ (own_w hw 36 rfl)) (by decide) (backOf (W := 1) (own_rm7 l Z a0 hw [] (a) ((own_cs n_ c0 c1 c2 c3 c4)) (n_) (cs) h0 n0 Z0 S_CS hcs hS (own_cs_len hN).2 (own_cs_len hN).1) hZ (own_w hw 38 rfl) (own_w hw 11 rfl) (by decide) (by decide)) q65a q65c (g := (mkF m 70 #[rv a, iv c1, iv 8, iv (own_b (own_oct c4)), iv 5] [(.ref a), (.int 5)])) rfl (by rw [hml]; rfl) (Steps.refl _) (argsL := []) (rest := [(.int 5)]) (lenOf own_pd14 rfl) rfl (by show 2 * 0 + _ ≤ _; exact Nat.le_of_eq rfl) (hb hby d6_70) (fun _ _ => ⟨rfl, eq57, (by decide : 0 + 0 ≤ _), (by decide : 0 + 0 ≤ _)⟩)
                  dsimp only [Pt.U, Pt.locs, Pt.cells, Pt.slots] at X65 l65 y65 z65 st65 hQ65
                  subst l65 y65 z65
                  obtain ⟨rfl, rfl, eq63⟩ := hQ65
                  try rw [List.append_nil] at X65
                  have S66 : own_G p e below s0 T65 m 73 #[rv a, iv c1, iv 8, iv (own_b (own_oct c4)), iv 5] [(.int n_), (.int 5)] := fun t kt => S64 t (st65.trans kt)
                  have hc73_67 : ¬ ((5 : Int32) < n_) := own_n5 hN
                  have S68 : own_G p e below s0 T65 m 94 #[rv a, iv c1, iv 8, iv (own_b (own_oct c4)), iv 5] [(.int (own_b (own_oct c4)))] := fun t kt => by
                    refine S66 t ?_
                    refine w_icmpYes X65 hx hby (pc' := 93) d6_73 (flt hc73_67).2.1 (by decide) ?_
                    refine w_iloadN X65 hx hby d6_93 rfl ?_
                    exact kt
                  obtain ⟨fs, hr, hrun, hended, hW, hsame⟩ := X65.leave (v := some (.int (nar .boolean (own_b (own_oct c4))))) (fun h => by rw [Bd.returns] at h; cases h)
                  refine ⟨_, _, S68 _ ?_, hrun, hended, _, _, rfl, ?_, ⟨_, rfl⟩, hW, hsame.mono (by decide) (by decide)⟩
                  · show Steps p.tables e below (T65.setTop (mkF m 94 #[rv a, iv c1, iv 8, iv (own_b (own_oct c4)), iv 5] [(.int (own_b (own_oct c4)))])) _
                    exact retN X65 hx (t := .boolean) Bd.returns (by simp) (hb hby d6_94) hr
                  · show own_Q6 Z a n_ c0 c1 c2 c3 c4 cs fm h0 n0 _ T65.heap _
                    rw [eq63]
                    exact ⟨by rw [own_b_nar]; exact congrArg (fun z : Bool => some (Value.int (own_b z))) (by simp [own_exp, hc5, hc15, hc31, own_bn0 hc64, own_g3 hc73, own_bn0 hc64', own_g4 hc73', own_bn0 hc64'']), rfl, rfl⟩
              · skip
                have S69 : own_G p e below s0 T51 m 94 #[rv a, iv c1, iv 8, iv (own_b (own_oct c3)), iv 4] [(.int (own_b (own_oct c3)))] := fun t kt => by
                  refine S52 t ?_
                  refine w_icmpYes X51 hx hby (pc' := 93) d6_73 (flt hc73').2.1 (by decide) ?_
                  refine w_iloadN X51 hx hby d6_93 rfl ?_
                  exact kt
                obtain ⟨fs, hr, hrun, hended, hW, hsame⟩ := X51.leave (v := some (.int (nar .boolean (own_b (own_oct c3))))) (fun h => by rw [Bd.returns] at h; cases h)
                refine ⟨_, _, S69 _ ?_, hrun, hended, _, _, rfl, ?_, ⟨_, rfl⟩, hW, hsame.mono (by decide) (by decide)⟩
                · show Steps p.tables e below (T51.setTop (mkF m 94 #[rv a, iv c1, iv 8, iv (own_b (own_oct c3)), iv 4] [(.int (own_b (own_oct c3)))])) _
                  exact retN X51 hx (t := .boolean) Bd.returns (by simp) (hb hby d6_94) hr
                · show own_Q6 Z a n_ c0 c1 c2 c3 c4 cs fm h0 n0 _ T51.heap _
                  rw [eq49]
                  exact ⟨by rw [own_b_nar]; exact congrArg (fun z : Bool => some (Value.int (own_b z))) (by simp [own_exp, hc5, hc15, hc31, own_bn0 hc64, own_g3 hc73, own_bn0 hc64', own_l4 hc73']), rfl, rfl⟩
          · skip
            have S70 : own_G p e below s0 T37 m 94 #[rv a, iv c1, iv 8, iv (own_b (own_oct c2)), iv 3] [(.int (own_b (own_oct c2)))] := fun t kt => by
              refine S38 t ?_
              refine w_icmpYes X37 hx hby (pc' := 93) d6_73 (flt hc73).2.1 (by decide) ?_
              refine w_iloadN X37 hx hby d6_93 rfl ?_
              exact kt
            obtain ⟨fs, hr, hrun, hended, hW, hsame⟩ := X37.leave (v := some (.int (nar .boolean (own_b (own_oct c2))))) (fun h => by rw [Bd.returns] at h; cases h)
            refine ⟨_, _, S70 _ ?_, hrun, hended, _, _, rfl, ?_, ⟨_, rfl⟩, hW, hsame.mono (by decide) (by decide)⟩
            · show Steps p.tables e below (T37.setTop (mkF m 94 #[rv a, iv c1, iv 8, iv (own_b (own_oct c2)), iv 3] [(.int (own_b (own_oct c2)))])) _
              exact retN X37 hx (t := .boolean) Bd.returns (by simp) (hb hby d6_94) hr
            · show own_Q6 Z a n_ c0 c1 c2 c3 c4 cs fm h0 n0 _ T37.heap _
              rw [eq35]
              exact ⟨by rw [own_b_nar]; exact congrArg (fun z : Bool => some (Value.int (own_b z))) (by simp [own_exp, hc5, hc15, hc31, own_bn0 hc64, own_l3 hc73]), rfl, rfl⟩
      · skip
        have S71 : own_G p e below s0 T13 m 45 #[rv a, iv c1, iv 16, .unset, .unset] [(.int 111), (.int c1)] := fun t kt => by
          refine S15 t ?_
          refine w_icmpYes X13 hx hby (pc' := 39) d6_31 (feq hc31).2 (by decide) ?_
          refine w_bipush X13 hx hby d6_39 ?_
          refine w_istoreN X13 hx hby d6_41 (l' := #[rv a, iv c1, iv 16, .unset, .unset]) rfl ?_
          refine w_iloadN X13 hx hby d6_42 rfl ?_
          refine w_bipush X13 hx hby d6_43 ?_
          exact kt
        have hc45_72 : ¬ (c1 = (111 : Int32)) := hc31
        have S73 : own_G p e below s0 T13 m 51 #[rv a, iv c1, iv 16, .unset, .unset] [(.int 120), (.int c1)] := fun t kt => by
          refine S71 t ?_
          refine w_icmpNo X13 hx hby d6_45 (feq hc45_72).1 ?_
          refine w_iloadN X13 hx hby d6_48 rfl ?_
          refine w_bipush X13 hx hby d6_49 ?_
          exact kt
        by_cases hc51 : c1 = (120 : Int32)
        · skip
          have S74 : own_G p e below s0 T13 m 64 #[rv a, iv c1, iv 16, iv 1, iv 2] [(.int 1)] := fun t kt => by
            refine S73 t ?_
            refine w_icmpNo X13 hx hby d6_51 (teq hc51).2 ?_
            refine w_iconst X13 hx hby d6_54 ?_
            refine w_goto X13 hx hby (pc' := 59) d6_55 (by decide) ?_
            refine w_istoreN X13 hx hby d6_59 (l' := #[rv a, iv c1, iv 16, iv 1, .unset]) rfl ?_
            refine w_iconst X13 hx hby d6_60 ?_
            refine w_istore X13 hx hby d6_61 (l' := #[rv a, iv c1, iv 16, iv 1, iv 2]) rfl ?_
            refine w_iloadN X13 hx hby d6_63 rfl ?_
            exact kt
          have hc64_75 : ¬ ((1 : Int32) = (0 : Int32)) := by decide
          have S77 : own_G p e below s0 T13 m 70 #[rv a, iv c1, iv 16, iv 1, iv 2] [(.ref a), (.int 2)] := fun t kt => by
            refine S74 t ?_
            refine w_ifNo X13 hx hby d6_64 ((if0 _ _).trans (feq hc64_75).1) ?_
            refine w_iload X13 hx hby d6_67 rfl ?_
            refine w_aloadN X13 hx hby d6_69 rfl rfl ?_
            exact kt
          obtain ⟨cq78, kq78, q78a, q78b, q78c⟩ := isOf hZ eq11 (own_Str_E hS)
          obtain ⟨_, _, ⟨T78, L78, k78, n78⟩, -, X78, ⟨Lc78, hQ78, l78, y78, z78⟩, st78⟩ := X13.virtualBack hx (y := own_y24) (z := own_y24) hown (mvT hZ (own_w hw 34 rfl)) (mvT hZ (own_w hw 35 rfl)) (notFace_of_selects (args := #[]) (mvT hZ (own_w hw 37 rfl))) (mvT hZ (own_w hw 37 rfl)) (mvT hZ (own_w hw 36 rfl)) (by decide) (backOf (W := 1) (own_rm7 l Z a0 hw [] (a) ((own_cs n_ c0 c1 c2 c3 c4)) (n_) (cs) h0 n0 Z0 S_CS hcs hS (own_cs_len hN).2 (own_cs_len hN).1) hZ (own_w hw 38 rfl) (own_w hw 11 rfl) (by decide) (by decide)) q78a q78c (g := (mkF m 70 #[rv a, iv c1, iv 16, iv 1, iv 2] [(.ref a), (.int 2)])) rfl (by rw [hml]; rfl) (Steps.refl _) (argsL := []) (rest := [(.int 2)]) (lenOf own_pd14 rfl) rfl (by show 2 * 0 + _ ≤ _; exact Nat.le_of_eq rfl) (hb hby d6_70) (fun _ _ => ⟨rfl, eq11, (by decide : 0 + 0 ≤ _), (by decide : 0 + 0 ≤ _)⟩)
          dsimp only [Pt.U, Pt.locs, Pt.cells, Pt.slots] at X78 l78 y78 z78 st78 hQ78
          subst l78 y78 z78
          obtain ⟨rfl, rfl, eq76⟩ := hQ78
          try rw [List.append_nil] at X78
          have S79 : own_G p e below s0 T78 m 73 #[rv a, iv c1, iv 16, iv 1, iv 2] [(.int n_), (.int 2)] := fun t kt => S77 t (st78.trans kt)
          have hc73_80 : (2 : Int32) < n_ := hc5
          have S82 : own_G p e below s0 T78 m 79 #[rv a, iv c1, iv 16, iv 1, iv 2] [(.int 2), (.ref a)] := fun t kt => by
            refine S79 t ?_
            refine w_icmpNo X78 hx hby d6_73 (tlt hc73_80).2.1 ?_
            refine w_aloadN X78 hx hby d6_76 rfl rfl ?_
            refine w_iload X78 hx hby d6_77 rfl ?_
            exact kt
          obtain ⟨cq83, kq83, q83a, q83b, q83c⟩ := isOf hZ eq76 (own_Str_E hS)
          obtain ⟨_, _, ⟨T83, L83, k83, n83⟩, -, X83, ⟨Lc83, hQ83, l83, y83, z83⟩, st83⟩ := X78.virtualBack hx (y := own_y23) (z := own_y23) hown (mvT hZ (own_w hw 55 rfl)) (mvT hZ (own_w hw 56 rfl)) (notFace_of_selects (args := #[]) (mvT hZ (own_w hw 58 rfl))) (mvT hZ (own_w hw 58 rfl)) (mvT hZ (own_w hw 57 rfl)) (by decide) (backOf (W := 0) (own_rm12 l Z a0 hw [] (a) ((2 : Int32)) ((own_cs n_ c0 c1 c2 c3 c4)) (2) (cs) (c2) (fm) h0 n0 Z0 S_CS hcs S_FM hfm S_AD S_HI S_LO hS (own_cs_len hN).2 rfl (own_cs_at2 hN hc5).2.2 hb2) hZ (own_w hw 59 rfl) (own_w hw 11 rfl) (by decide) (by decide)) q83a q83c (g := (mkF m 79 #[rv a, iv c1, iv 16, iv 1, iv 2] [(.int 2), (.ref a)])) rfl (by rw [hml]; rfl) (Steps.refl _) (argsL := [(.int 2)]) (rest := []) (lenOf own_pd15 rfl) rfl (by show 2 * 0 + _ ≤ _; exact Nat.le_of_eq rfl) (hb hby d6_79) (fun _ _ => ⟨rfl, eq76, (by decide : 0 + 0 ≤ _), (by decide : 0 + 0 ≤ _)⟩)
          dsimp only [Pt.U, Pt.locs, Pt.cells, Pt.slots] at X83 l83 y83 z83 st83 hQ83
          subst l83 y83 z83
          obtain ⟨rfl, rfl, eq81⟩ := hQ83
          try rw [List.append_nil] at X83
          have S84 : own_G p e below s0 T83 m 82 #[rv a, iv c1, iv 16, iv 1, iv 2] [(.int c2)] := fun t kt => S82 t (st83.trans kt)
          have S86 : own_G p e below s0 T83 m 83 #[rv a, iv c1, iv 16, iv 1, iv 2] [(.int 16), (.int c2)] := fun t kt => by
            refine S84 t ?_
            refine w_iloadN X83 hx hby d6_82 rfl ?_
            exact kt
          obtain ⟨_, _, ⟨T87, L87, k87, n87⟩, -, X87, ⟨Lc87, hQ87, l87, y87, z87⟩, st87⟩ := Jvm.LawKit.callS X83 hx (y := own_y6) hown (mvT hZ (own_w hw 110 rfl)) (mvT hZ (own_w hw 111 rfl)) (mvT hZ (own_w hw 32 rfl)) (mvT hZ (own_w hw 112 rfl)) (by decide) (backOf (W := 0) (own_rmdg16 l Z a0 hw [] (c2) h0 n0 Z0 ) hZ (own_w hw 112 rfl) (own_w hw 32 rfl) (by decide) (by decide)) (g := (mkF m 83 #[rv a, iv c1, iv 16, iv 1, iv 2] [(.int 16), (.int c2)])) rfl (by rw [hml]; rfl) (argsL := [(.int c2), (.int 16)]) (rest := []) (lenOf own_pd16 rfl) rfl (by show 2 * 0 + _ ≤ _; exact Nat.le_of_eq rfl) (hb hby d6_83) (fun _ _ => ⟨rfl, eq81, (by decide : 0 + 0 ≤ _), (by decide : 0 + 0 ≤ _)⟩)
          dsimp only [Pt.U, Pt.locs, Pt.cells, Pt.slots] at X87 l87 y87 z87 st87 hQ87
          subst l87 y87 z87
          obtain ⟨rfl, rfl, eq85⟩ := hQ87
          try rw [List.append_nil] at X87
          have S88 : own_G p e below s0 T87 m 86 #[rv a, iv c1, iv 16, iv 1, iv 2] [(.int (own_b (own_hex c2)))] := fun t kt => S86 t (st87 _ kt)
          have S89 : own_G p e below s0 T87 m 64 #[rv a, iv c1, iv 16, iv (own_b (own_hex c2)), iv 3] [(.int (own_b (own_hex c2)))] := fun t kt => by
            refine S88 t ?_
            refine w_istoreN X87 hx hby d6_86 (l' := #[rv a, iv c1, iv 16, iv (own_b (own_hex c2)), iv 2]) rfl ?_
            refine w_iinc X87 hx hby d6_87 rfl (l' := #[rv a, iv c1, iv 16, iv (own_b (own_hex c2)), iv 3]) rfl ?_
            refine w_goto X87 hx hby (pc' := 63) d6_90 (by decide) ?_
            refine w_iloadN X87 hx hby d6_63 rfl ?_
            exact kt
          by_cases hc64 : (own_b (own_hex c2)) = (0 : Int32)
          · skip
            have S90 : own_G p e below s0 T87 m 94 #[rv a, iv c1, iv 16, iv (own_b (own_hex c2)), iv 3] [(.int (own_b (own_hex c2)))] := fun t kt => by
              refine S89 t ?_
              refine w_ifYes X87 hx hby (pc' := 93) d6_64 ((if0 _ _).trans (teq hc64).1) (by decide) ?_
              refine w_iloadN X87 hx hby d6_93 rfl ?_
              exact kt
            obtain ⟨fs, hr, hrun, hended, hW, hsame⟩ := X87.leave (v := some (.int (nar .boolean (own_b (own_hex c2))))) (fun h => by rw [Bd.returns] at h; cases h)
            refine ⟨_, _, S90 _ ?_, hrun, hended, _, _, rfl, ?_, ⟨_, rfl⟩, hW, hsame.mono (by decide) (by decide)⟩
            · show Steps p.tables e below (T87.setTop (mkF m 94 #[rv a, iv c1, iv 16, iv (own_b (own_hex c2)), iv 3] [(.int (own_b (own_hex c2)))])) _
              exact retN X87 hx (t := .boolean) Bd.returns (by simp) (hb hby d6_94) hr
            · show own_Q6 Z a n_ c0 c1 c2 c3 c4 cs fm h0 n0 _ T87.heap _
              rw [eq85]
              exact ⟨by rw [own_b_nar]; exact congrArg (fun z : Bool => some (Value.int (own_b z))) (by simp [own_exp, hc5, hc15, hc31, hc51, own_b0.mp hc64]), rfl, rfl⟩
          · skip
            have S92 : own_G p e below s0 T87 m 70 #[rv a, iv c1, iv 16, iv (own_b (own_hex c2)), iv 3] [(.ref a), (.int 3)] := fun t kt => by
              refine S89 t ?_
              refine w_ifNo X87 hx hby d6_64 ((if0 _ _).trans (feq hc64).1) ?_
              refine w_iload X87 hx hby d6_67 rfl ?_
              refine w_aloadN X87 hx hby d6_69 rfl rfl ?_
              exact kt
            obtain ⟨cq93, kq93, q93a, q93b, q93c⟩ := isOf hZ eq85 (own_Str_E hS)
            obtain ⟨_, _, ⟨T93, L93, k93, n93⟩, -, X93, ⟨Lc93, hQ93, l93, y93, z93⟩, st93⟩ := X87.virtualBack hx (y := own_y24) (z := own_y24) hown (mvT hZ (own_w hw 34 rfl)) (mvT hZ (own_w hw 35 rfl)) (notFace_of_selects (args := #[]) (mvT hZ (own_w hw 37 rfl))) (mvT hZ (own_w hw 37 rfl)) (mvT hZ (own_w hw 36 rfl)) (by decide) (backOf (W := 1) (own_rm7 l Z a0 hw [] (a) ((own_cs n_ c0 c1 c2 c3 c4)) (n_) (cs) h0 n0 Z0 S_CS hcs hS (own_cs_len hN).2 (own_cs_len hN).1) hZ (own_w hw 38 rfl) (own_w hw 11 rfl) (by decide) (by decide)) q93a q93c (g := (mkF m 70 #[rv a, iv c1, iv 16, iv (own_b (own_hex c2)), iv 3] [(.ref a), (.int 3)])) rfl (by rw [hml]; rfl) (Steps.refl _) (argsL := []) (rest := [(.int 3)]) (lenOf own_pd14 rfl) rfl (by show 2 * 0 + _ ≤ _; exact Nat.le_of_eq rfl) (hb hby d6_70) (fun _ _ => ⟨rfl, eq85, (by decide : 0 + 0 ≤ _), (by decide : 0 + 0 ≤ _)⟩)
            dsimp only [Pt.U, Pt.locs, Pt.cells, Pt.slots] at X93 l93 y93 z93 st93 hQ93
            subst l93 y93 z93
            obtain ⟨rfl, rfl, eq91⟩ := hQ93
            try rw [List.append_nil] at X93
            have S94 : own_G p e below s0 T93 m 73 #[rv a, iv c1, iv 16, iv (own_b (own_hex c2)), iv 3] [(.int n_), (.int 3)] := fun t kt => S92 t (st93.trans kt)
            by_cases hc73 : (3 : Int32) < n_
            · skip
              have S96 : own_G p e below s0 T93 m 79 #[rv a, iv c1, iv 16, iv (own_b (own_hex c2)), iv 3] [(.int 3), (.ref a)] := fun t kt => by
                refine S94 t ?_
                refine w_icmpNo X93 hx hby d6_73 (tlt hc73).2.1 ?_
                refine w_aloadN X93 hx hby d6_76 rfl rfl ?_
                refine w_iload X93 hx hby d6_77 rfl ?_
                exact kt
              obtain ⟨cq97, kq97, q97a, q97b, q97c⟩ := isOf hZ eq91 (own_Str_E hS)
              obtain ⟨_, _, ⟨T97, L97, k97, n97⟩, -, X97, ⟨Lc97, hQ97, l97, y97, z97⟩, st97⟩ := X93.virtualBack hx (y := own_y23) (z := own_y23) hown (mvT hZ (own_w hw 55 rfl)) (mvT hZ (own_w hw 56 rfl)) (notFace_of_selects (args := #[]) (mvT hZ (own_w hw 58 rfl))) (mvT hZ (own_w hw 58 rfl)) (mvT hZ (own_w hw 57 rfl)) (by decide) (backOf (W := 0) (own_rm12 l Z a0 hw [] (a) ((3 : Int32)) ((own_cs n_ c0 c1 c2 c3 c4)) (3) (cs) (c3) (fm) h0 n0 Z0 S_CS hcs S_FM hfm S_AD S_HI S_LO hS (own_cs_len hN).2 rfl (own_cs_at3 hN hc73) hb3) hZ (own_w hw 59 rfl) (own_w hw 11 rfl) (by decide) (by decide)) q97a q97c (g := (mkF m 79 #[rv a, iv c1, iv 16, iv (own_b (own_hex c2)), iv 3] [(.int 3), (.ref a)])) rfl (by rw [hml]; rfl) (Steps.refl _) (argsL := [(.int 3)]) (rest := []) (lenOf own_pd15 rfl) rfl (by show 2 * 0 + _ ≤ _; exact Nat.le_of_eq rfl) (hb hby d6_79) (fun _ _ => ⟨rfl, eq91, (by decide : 0 + 0 ≤ _), (by decide : 0 + 0 ≤ _)⟩)
              dsimp only [Pt.U, Pt.locs, Pt.cells, Pt.slots] at X97 l97 y97 z97 st97 hQ97
              subst l97 y97 z97
              obtain ⟨rfl, rfl, eq95⟩ := hQ97
              try rw [List.append_nil] at X97
              have S98 : own_G p e below s0 T97 m 82 #[rv a, iv c1, iv 16, iv (own_b (own_hex c2)), iv 3] [(.int c3)] := fun t kt => S96 t (st97.trans kt)
              have S100 : own_G p e below s0 T97 m 83 #[rv a, iv c1, iv 16, iv (own_b (own_hex c2)), iv 3] [(.int 16), (.int c3)] := fun t kt => by
                refine S98 t ?_
                refine w_iloadN X97 hx hby d6_82 rfl ?_
                exact kt
              obtain ⟨_, _, ⟨T101, L101, k101, n101⟩, -, X101, ⟨Lc101, hQ101, l101, y101, z101⟩, st101⟩ := Jvm.LawKit.callS X97 hx (y := own_y6) hown (mvT hZ (own_w hw 110 rfl)) (mvT hZ (own_w hw 111 rfl)) (mvT hZ (own_w hw 32 rfl)) (mvT hZ (own_w hw 112 rfl)) (by decide) (backOf (W := 0) (own_rmdg16 l Z a0 hw [] (c3) h0 n0 Z0 ) hZ (own_w hw 112 rfl) (own_w hw 32 rfl) (by decide) (by decide)) (g := (mkF m 83 #[rv a, iv c1, iv 16, iv (own_b (own_hex c2)), iv 3] [(.int 16), (.int c3)])) rfl (by rw [hml]; rfl) (argsL := [(.int c3), (.int 16)]) (rest := []) (lenOf own_pd16 rfl) rfl (by show 2 * 0 + _ ≤ _; exact Nat.le_of_eq rfl) (hb hby d6_83) (fun _ _ => ⟨rfl, eq95, (by decide : 0 + 0 ≤ _), (by decide : 0 + 0 ≤ _)⟩)
              dsimp only [Pt.U, Pt.locs, Pt.cells, Pt.slots] at X101 l101 y101 z101 st101 hQ101
              subst l101 y101 z101
              obtain ⟨rfl, rfl, eq99⟩ := hQ101
              try rw [List.append_nil] at X101
              have S102 : own_G p e below s0 T101 m 86 #[rv a, iv c1, iv 16, iv (own_b (own_hex c2)), iv 3] [(.int (own_b (own_hex c3)))] := fun t kt => S100 t (st101 _ kt)
              have S103 : own_G p e below s0 T101 m 64 #[rv a, iv c1, iv 16, iv (own_b (own_hex c3)), iv 4] [(.int (own_b (own_hex c3)))] := fun t kt => by
                refine S102 t ?_
                refine w_istoreN X101 hx hby d6_86 (l' := #[rv a, iv c1, iv 16, iv (own_b (own_hex c3)), iv 3]) rfl ?_
                refine w_iinc X101 hx hby d6_87 rfl (l' := #[rv a, iv c1, iv 16, iv (own_b (own_hex c3)), iv 4]) rfl ?_
                refine w_goto X101 hx hby (pc' := 63) d6_90 (by decide) ?_
                refine w_iloadN X101 hx hby d6_63 rfl ?_
                exact kt
              by_cases hc64' : (own_b (own_hex c3)) = (0 : Int32)
              · skip
                have S104 : own_G p e below s0 T101 m 94 #[rv a, iv c1, iv 16, iv (own_b (own_hex c3)), iv 4] [(.int (own_b (own_hex c3)))] := fun t kt => by
                  refine S103 t ?_
                  refine w_ifYes X101 hx hby (pc' := 93) d6_64 ((if0 _ _).trans (teq hc64').1) (by decide) ?_
                  refine w_iloadN X101 hx hby d6_93 rfl ?_
                  exact kt
                obtain ⟨fs, hr, hrun, hended, hW, hsame⟩ := X101.leave (v := some (.int (nar .boolean (own_b (own_hex c3))))) (fun h => by rw [Bd.returns] at h; cases h)
                refine ⟨_, _, S104 _ ?_, hrun, hended, _, _, rfl, ?_, ⟨_, rfl⟩, hW, hsame.mono (by decide) (by decide)⟩
                · show Steps p.tables e below (T101.setTop (mkF m 94 #[rv a, iv c1, iv 16, iv (own_b (own_hex c3)), iv 4] [(.int (own_b (own_hex c3)))])) _
                  exact retN X101 hx (t := .boolean) Bd.returns (by simp) (hb hby d6_94) hr
                · show own_Q6 Z a n_ c0 c1 c2 c3 c4 cs fm h0 n0 _ T101.heap _
                  rw [eq99]
                  exact ⟨by rw [own_b_nar]; exact congrArg (fun z : Bool => some (Value.int (own_b z))) (by simp [own_exp, hc5, hc15, hc31, hc51, own_bn0 hc64, own_g3 hc73, own_b0.mp hc64']), rfl, rfl⟩
              · skip
                have S106 : own_G p e below s0 T101 m 70 #[rv a, iv c1, iv 16, iv (own_b (own_hex c3)), iv 4] [(.ref a), (.int 4)] := fun t kt => by
                  refine S103 t ?_
                  refine w_ifNo X101 hx hby d6_64 ((if0 _ _).trans (feq hc64').1) ?_
                  refine w_iload X101 hx hby d6_67 rfl ?_
                  refine w_aloadN X101 hx hby d6_69 rfl rfl ?_
                  exact kt
                obtain ⟨cq107, kq107, q107a, q107b, q107c⟩ := isOf hZ eq99 (own_Str_E hS)
                obtain ⟨_, _, ⟨T107, L107, k107, n107⟩, -, X107, ⟨Lc107, hQ107, l107, y107, z107⟩, st107⟩ := X101.virtualBack hx (y := own_y24) (z := own_y24) hown (mvT hZ (own_w hw 34 rfl)) (mvT hZ (own_w hw 35 rfl)) (notFace_of_selects (args := #[]) (mvT hZ (own_w hw 37 rfl))) (mvT hZ (own_w hw 37 rfl)) (mvT hZ (own_w hw 36 rfl)) (by decide) (backOf (W := 1) (own_rm7 l Z a0 hw [] (a) ((own_cs n_ c0 c1 c2 c3 c4)) (n_) (cs) h0 n0 Z0 S_CS hcs hS (own_cs_len hN).2 (own_cs_len hN).1) hZ (own_w hw 38 rfl) (own_w hw 11 rfl) (by decide) (by decide)) q107a q107c (g := (mkF m 70 #[rv a, iv c1, iv 16, iv (own_b (own_hex c3)), iv 4] [(.ref a), (.int 4)])) rfl (by rw [hml]; rfl) (Steps.refl _) (argsL := []) (rest := [(.int 4)]) (lenOf own_pd14 rfl) rfl (by show 2 * 0 + _ ≤ _; exact Nat.le_of_eq rfl) (hb hby d6_70) (fun _ _ => ⟨rfl, eq99, (by decide : 0 + 0 ≤ _), (by decide : 0 + 0 ≤ _)⟩)
                dsimp only [Pt.U, Pt.locs, Pt.cells, Pt.slots] at X107 l107 y107 z107 st107 hQ107
                subst l107 y107 z107
                obtain ⟨rfl, rfl, eq105⟩ := hQ107
                try rw [List.append_nil] at X107
                have S108 : own_G p e below s0 T107 m 73 #[rv a, iv c1, iv 16, iv (own_b (own_hex c3)), iv 4] [(.int n_), (.int 4)] := fun t kt => S106 t (st107.trans kt)
                by_cases hc73' : (4 : Int32) < n_
                · skip
                  have S110 : own_G p e below s0 T107 m 79 #[rv a, iv c1, iv 16, iv (own_b (own_hex c3)), iv 4] [(.int 4), (.ref a)] := fun t kt => by
                    refine S108 t ?_
                    refine w_icmpNo X107 hx hby d6_73 (tlt hc73').2.1 ?_
                    refine w_aloadN X107 hx hby d6_76 rfl rfl ?_
                    refine w_iload X107 hx hby d6_77 rfl ?_
                    exact kt
                  obtain ⟨cq111, kq111, q111a, q111b, q111c⟩ := isOf hZ eq105 (own_Str_E hS)
                  obtain ⟨_, _, ⟨T111, L111, k111, n111⟩, -, X111, ⟨Lc111, hQ111, l111, y111, z111⟩, st111⟩ := X107.virtualBack hx (y := own_y23) (z := own_y23) hown (mvT hZ (own_w hw 55 rfl)) (mvT hZ (own_w hw 56 rfl)) (notFace_of_selects (args := #[]) (mvT hZ (own_w hw 58 rfl))) (mvT hZ (own_w hw 58 rfl)) (mvT hZ (own_w hw 57 rfl)) (by decide) (backOf (W := 0) (own_rm12 l Z a0 hw [] (a) ((4 : Int32)) ((own_cs n_ c0 c1 c2 c3 c4)) (4) (cs) (c4) (fm) h0 n0 Z0 S_CS hcs S_FM hfm S_AD S_HI S_LO hS (own_cs_len hN).2 rfl (own_cs_at4 hN hc73') hb4) hZ (own_w hw 59 rfl) (own_w hw 11 rfl) (by decide) (by decide)) q111a q111c (g := (mkF m 79 #[rv a, iv c1, iv 16, iv (own_b (own_hex c3)), iv 4] [(.int 4), (.ref a)])) rfl (by rw [hml]; rfl) (Steps.refl _) (argsL := [(.int 4)]) (rest := []) (lenOf own_pd15 rfl) rfl (by show 2 * 0 + _ ≤ _; exact Nat.le_of_eq rfl) (hb hby d6_79) (fun _ _ => ⟨rfl, eq105, (by decide : 0 + 0 ≤ _), (by decide : 0 + 0 ≤ _)⟩)
                  dsimp only [Pt.U, Pt.locs, Pt.cells, Pt.slots] at X111 l111 y111 z111 st111 hQ111
                  subst l111 y111 z111
                  obtain ⟨rfl, rfl, eq109⟩ := hQ111
                  try rw [List.append_nil] at X111
                  have S112 : own_G p e below s0 T111 m 82 #[rv a, iv c1, iv 16, iv (own_b (own_hex c3)), iv 4] [(.int c4)] := fun t kt => S110 t (st111.trans kt)
                  have S114 : own_G p e below s0 T111 m 83 #[rv a, iv c1, iv 16, iv (own_b (own_hex c3)), iv 4] [(.int 16), (.int c4)] := fun t kt => by
                    refine S112 t ?_
                    refine w_iloadN X111 hx hby d6_82 rfl ?_
                    exact kt
                  obtain ⟨_, _, ⟨T115, L115, k115, n115⟩, -, X115, ⟨Lc115, hQ115, l115, y115, z115⟩, st115⟩ := Jvm.LawKit.callS X111 hx (y := own_y6) hown (mvT hZ (own_w hw 110 rfl)) (mvT hZ (own_w hw 111 rfl)) (mvT hZ (own_w hw 32 rfl)) (mvT hZ (own_w hw 112 rfl)) (by decide) (backOf (W := 0) (own_rmdg16 l Z a0 hw [] (c4) h0 n0 Z0 ) hZ (own_w hw 112 rfl) (own_w hw 32 rfl) (by decide) (by decide)) (g := (mkF m 83 #[rv a, iv c1, iv 16, iv (own_b (own_hex c3)), iv 4] [(.int 16), (.int c4)])) rfl (by rw [hml]; rfl) (argsL := [(.int c4), (.int 16)]) (rest := []) (lenOf own_pd16 rfl) rfl (by show 2 * 0 + _ ≤ _; exact Nat.le_of_eq rfl) (hb hby d6_83) (fun _ _ => ⟨rfl, eq109, (by decide : 0 + 0 ≤ _), (by decide : 0 + 0 ≤ _)⟩)
                  dsimp only [Pt.U, Pt.locs, Pt.cells, Pt.slots] at X115 l115 y115 z115 st115 hQ115
                  subst l115 y115 z115
                  obtain ⟨rfl, rfl, eq113⟩ := hQ115
                  try rw [List.append_nil] at X115
                  have S116 : own_G p e below s0 T115 m 86 #[rv a, iv c1, iv 16, iv (own_b (own_hex c3)), iv 4] [(.int (own_b (own_hex c4)))] := fun t kt => S114 t (st115 _ kt)
                  have S117 : own_G p e below s0 T115 m 64 #[rv a, iv c1, iv 16, iv (own_b (own_hex c4)), iv 5] [(.int (own_b (own_hex c4)))] := fun t kt => by
                    refine S116 t ?_
                    refine w_istoreN X115 hx hby d6_86 (l' := #[rv a, iv c1, iv 16, iv (own_b (own_hex c4)), iv 4]) rfl ?_
                    refine w_iinc X115 hx hby d6_87 rfl (l' := #[rv a, iv c1, iv 16, iv (own_b (own_hex c4)), iv 5]) rfl ?_
                    refine w_goto X115 hx hby (pc' := 63) d6_90 (by decide) ?_
                    refine w_iloadN X115 hx hby d6_63 rfl ?_
                    exact kt
                  by_cases hc64'' : (own_b (own_hex c4)) = (0 : Int32)
                  · skip
                    have S118 : own_G p e below s0 T115 m 94 #[rv a, iv c1, iv 16, iv (own_b (own_hex c4)), iv 5] [(.int (own_b (own_hex c4)))] := fun t kt => by
                      refine S117 t ?_
                      refine w_ifYes X115 hx hby (pc' := 93) d6_64 ((if0 _ _).trans (teq hc64'').1) (by decide) ?_
                      refine w_iloadN X115 hx hby d6_93 rfl ?_
                      exact kt
                    obtain ⟨fs, hr, hrun, hended, hW, hsame⟩ := X115.leave (v := some (.int (nar .boolean (own_b (own_hex c4))))) (fun h => by rw [Bd.returns] at h; cases h)
                    refine ⟨_, _, S118 _ ?_, hrun, hended, _, _, rfl, ?_, ⟨_, rfl⟩, hW, hsame.mono (by decide) (by decide)⟩
                    · show Steps p.tables e below (T115.setTop (mkF m 94 #[rv a, iv c1, iv 16, iv (own_b (own_hex c4)), iv 5] [(.int (own_b (own_hex c4)))])) _
                      exact retN X115 hx (t := .boolean) Bd.returns (by simp) (hb hby d6_94) hr
                    · show own_Q6 Z a n_ c0 c1 c2 c3 c4 cs fm h0 n0 _ T115.heap _
                      rw [eq113]
                      exact ⟨by rw [own_b_nar]; exact congrArg (fun z : Bool => some (Value.int (own_b z))) (by simp [own_exp, hc5, hc15, hc31, hc51, own_bn0 hc64, own_g3 hc73, own_bn0 hc64', own_g4 hc73', own_b0.mp hc64'']), rfl, rfl⟩
                  · skip
                    have S120 : own_G p e below s0 T115 m 70 #[rv a, iv c1, iv 16, iv (own_b (own_hex c4)), iv 5] [(.ref a), (.int 5)] := fun t kt => by
                      refine S117 t ?_
                      refine w_ifNo X115 hx hby d6_64 ((if0 _ _).trans (feq hc64'').1) ?_
                      refine w_iload X115 hx hby d6_67 rfl ?_
                      refine w_aloadN X115 hx hby d6_69 rfl rfl ?_
                      exact kt
                    obtain ⟨cq121, kq121, q121a, q121b, q121c⟩ := isOf hZ eq113 (own_Str_E hS)
                    obtain ⟨_, _, ⟨T121, L121, k121, n121⟩, -, X121, ⟨Lc121, hQ121, l121, y121, z121⟩, st121⟩ := X115.virtualBack hx (y := own_y24) (z := own_y24) hown (mvT hZ (own_w hw 34 rfl)) (mvT hZ (own_w hw 35 rfl)) (notFace_of_selects (args := #[]) (mvT hZ (own_w hw 37 rfl))) (mvT hZ (own_w hw 37 rfl)) (mvT hZ (own_w hw 36 rfl)) (by decide) (backOf (W := 1) (own_rm7 l Z a0 hw [] (a) ((own_cs n_ c0 c1 c2 c3 c4)) (n_) (cs) h0 n0 Z0 S_CS hcs hS (own_cs_len hN).2 (own_cs_len hN).1) hZ (own_w hw 38 rfl) (own_w hw 11 rfl) (by decide) (by decide)) q121a q121c (g := (mkF m 70 #[rv a, iv c1, iv 16, iv (own_b (own_hex c4)), iv 5] [(.ref a), (.int 5)])) rfl (by rw [hml]; rfl) (Steps.refl _) (argsL := []) (rest := [(.int 5)]) (lenOf own_pd14 rfl) rfl (by show 2 * 0 + _ ≤ _; exact Nat.le_of_eq rfl) (hb hby d6_70) (fun _ _ => ⟨rfl, eq113, (by decide : 0 + 0 ≤ _), (by decide : 0 + 0 ≤ _)⟩)
                    dsimp only [Pt.U, Pt.locs, Pt.cells, Pt.slots] at X121 l121 y121 z121 st121 hQ121
                    subst l121 y121 z121
                    obtain ⟨rfl, rfl, eq119⟩ := hQ121
                    try rw [List.append_nil] at X121
                    have S122 : own_G p e below s0 T121 m 73 #[rv a, iv c1, iv 16, iv (own_b (own_hex c4)), iv 5] [(.int n_), (.int 5)] := fun t kt => S120 t (st121.trans kt)
                    have hc73_123 : ¬ ((5 : Int32) < n_) := own_n5 hN
                    have S124 : own_G p e below s0 T121 m 94 #[rv a, iv c1, iv 16, iv (own_b (own_hex c4)), iv 5] [(.int (own_b (own_hex c4)))] := fun t kt => by
                      refine S122 t ?_
                      refine w_icmpYes X121 hx hby (pc' := 93) d6_73 (flt hc73_123).2.1 (by decide) ?_
                      refine w_iloadN X121 hx hby d6_93 rfl ?_
                      exact kt
                    obtain ⟨fs, hr, hrun, hended, hW, hsame⟩ := X121.leave (v := some (.int (nar .boolean (own_b (own_hex c4))))) (fun h => by rw [Bd.returns] at h; cases h)
                    refine ⟨_, _, S124 _ ?_, hrun, hended, _, _, rfl, ?_, ⟨_, rfl⟩, hW, hsame.mono (by decide) (by decide)⟩
                    · show Steps p.tables e below (T121.setTop (mkF m 94 #[rv a, iv c1, iv 16, iv (own_b (own_hex c4)), iv 5] [(.int (own_b (own_hex c4)))])) _
                      exact retN X121 hx (t := .boolean) Bd.returns (by simp) (hb hby d6_94) hr
                    · show own_Q6 Z a n_ c0 c1 c2 c3 c4 cs fm h0 n0 _ T121.heap _
                      rw [eq119]
                      exact ⟨by rw [own_b_nar]; exact congrArg (fun z : Bool => some (Value.int (own_b z))) (by simp [own_exp, hc5, hc15, hc31, hc51, own_bn0 hc64, own_g3 hc73, own_bn0 hc64', own_g4 hc73', own_bn0 hc64'']), rfl, rfl⟩
                · skip
                  have S125 : own_G p e below s0 T107 m 94 #[rv a, iv c1, iv 16, iv (own_b (own_hex c3)), iv 4] [(.int (own_b (own_hex c3)))] := fun t kt => by
                    refine S108 t ?_
                    refine w_icmpYes X107 hx hby (pc' := 93) d6_73 (flt hc73').2.1 (by decide) ?_
                    refine w_iloadN X107 hx hby d6_93 rfl ?_
                    exact kt
                  obtain ⟨fs, hr, hrun, hended, hW, hsame⟩ := X107.leave (v := some (.int (nar .boolean (own_b (own_hex c3))))) (fun h => by rw [Bd.returns] at h; cases h)
                  refine ⟨_, _, S125 _ ?_, hrun, hended, _, _, rfl, ?_, ⟨_, rfl⟩, hW, hsame.mono (by decide) (by decide)⟩
                  · show Steps p.tables e below (T107.setTop (mkF m 94 #[rv a, iv c1, iv 16, iv (own_b (own_hex c3)), iv 4] [(.int (own_b (own_hex c3)))])) _
                    exact retN X107 hx (t := .boolean) Bd.returns (by simp) (hb hby d6_94) hr
                  · show own_Q6 Z a n_ c0 c1 c2 c3 c4 cs fm h0 n0 _ T107.heap _
                    rw [eq105]
                    exact ⟨by rw [own_b_nar]; exact congrArg (fun z : Bool => some (Value.int (own_b z))) (by simp [own_exp, hc5, hc15, hc31, hc51, own_bn0 hc64, own_g3 hc73, own_bn0 hc64', own_l4 hc73']), rfl, rfl⟩
            · skip
              have S126 : own_G p e below s0 T93 m 94 #[rv a, iv c1, iv 16, iv (own_b (own_hex c2)), iv 3] [(.int (own_b (own_hex c2)))] := fun t kt => by
                refine S94 t ?_
                refine w_icmpYes X93 hx hby (pc' := 93) d6_73 (flt hc73).2.1 (by decide) ?_
                refine w_iloadN X93 hx hby d6_93 rfl ?_
                exact kt
              obtain ⟨fs, hr, hrun, hended, hW, hsame⟩ := X93.leave (v := some (.int (nar .boolean (own_b (own_hex c2))))) (fun h => by rw [Bd.returns] at h; cases h)
              refine ⟨_, _, S126 _ ?_, hrun, hended, _, _, rfl, ?_, ⟨_, rfl⟩, hW, hsame.mono (by decide) (by decide)⟩
              · show Steps p.tables e below (T93.setTop (mkF m 94 #[rv a, iv c1, iv 16, iv (own_b (own_hex c2)), iv 3] [(.int (own_b (own_hex c2)))])) _
                exact retN X93 hx (t := .boolean) Bd.returns (by simp) (hb hby d6_94) hr
              · show own_Q6 Z a n_ c0 c1 c2 c3 c4 cs fm h0 n0 _ T93.heap _
                rw [eq91]
                exact ⟨by rw [own_b_nar]; exact congrArg (fun z : Bool => some (Value.int (own_b z))) (by simp [own_exp, hc5, hc15, hc31, hc51, own_bn0 hc64, own_l3 hc73]), rfl, rfl⟩
        · skip
          have S127 : own_G p e below s0 T13 m 64 #[rv a, iv c1, iv 16, iv 0, iv 2] [(.int 0)] := fun t kt => by
            refine S73 t ?_
            refine w_icmpYes X13 hx hby (pc' := 58) d6_51 (feq hc51).2 (by decide) ?_
            refine w_iconst X13 hx hby d6_58 ?_
            refine w_istoreN X13 hx hby d6_59 (l' := #[rv a, iv c1, iv 16, iv 0, .unset]) rfl ?_
            refine w_iconst X13 hx hby d6_60 ?_
            refine w_istore X13 hx hby d6_61 (l' := #[rv a, iv c1, iv 16, iv 0, iv 2]) rfl ?_
            refine w_iloadN X13 hx hby d6_63 rfl ?_
            exact kt
          have hc64_128 : (0 : Int32) = (0 : Int32) := by decide
          have S129 : own_G p e below s0 T13 m 94 #[rv a, iv c1, iv 16, iv 0, iv 2] [(.int 0)] := fun t kt => by
            refine S127 t ?_
            refine w_ifYes X13 hx hby (pc' := 93) d6_64 ((if0 _ _).trans (teq hc64_128).1) (by decide) ?_
            refine w_iloadN X13 hx hby d6_93 rfl ?_
            exact kt
          obtain ⟨fs, hr, hrun, hended, hW, hsame⟩ := X13.leave (v := some (.int (nar .boolean (0 : Int32)))) (fun h => by rw [Bd.returns] at h; cases h)
          refine ⟨_, _, S129 _ ?_, hrun, hended, _, _, rfl, ?_, ⟨_, rfl⟩, hW, hsame.mono (by decide) (by decide)⟩
          · show Steps p.tables e below (T13.setTop (mkF m 94 #[rv a, iv c1, iv 16, iv 0, iv 2] [(.int 0)])) _
            exact retN X13 hx (t := .boolean) Bd.returns (by simp) (hb hby d6_94) hr
          · show own_Q6 Z a n_ c0 c1 c2 c3 c4 cs fm h0 n0 _ T13.heap _
            rw [eq11]
            exact ⟨own_leafF (by simp [own_exp, hc5, hc15, hc31, hc51]), rfl, rfl⟩
    · skip
      have S130 : own_G p e below s0 T8 m 31 #[rv a, iv 0, .unset, .unset, .unset] [(.int 111), (.int 0)] := fun t kt => by
        refine S10 t ?_
        refine w_icmpYes X8 hx hby (pc' := 26) d6_15 (feq hc15).2 (by decide) ?_
        refine w_iconst X8 hx hby d6_26 ?_
        refine w_istoreN X8 hx hby d6_27 (l' := #[rv a, iv 0, .unset, .unset, .unset]) rfl ?_
        refine w_iloadN X8 hx hby d6_28 rfl ?_
        refine w_bipush X8 hx hby d6_29 ?_
        exact kt
      have hc31_131 : ¬ ((0 : Int32) = (111 : Int32)) := by decide
      have S132 : own_G p e below s0 T8 m 45 #[rv a, iv 0, iv 16, .unset, .unset] [(.int 111), (.int 0)] := fun t kt => by
        refine S130 t ?_
        refine w_icmpYes X8 hx hby (pc' := 39) d6_31 (feq hc31_131).2 (by decide) ?_
        refine w_bipush X8 hx hby d6_39 ?_
        refine w_istoreN X8 hx hby d6_41 (l' := #[rv a, iv 0, iv 16, .unset, .unset]) rfl ?_
        refine w_iloadN X8 hx hby d6_42 rfl ?_
        refine w_bipush X8 hx hby d6_43 ?_
        exact kt
      have hc45_133 : ¬ ((0 : Int32) = (111 : Int32)) := by decide
      have S134 : own_G p e below s0 T8 m 51 #[rv a, iv 0, iv 16, .unset, .unset] [(.int 120), (.int 0)] := fun t kt => by
        refine S132 t ?_
        refine w_icmpNo X8 hx hby d6_45 (feq hc45_133).1 ?_
        refine w_iloadN X8 hx hby d6_48 rfl ?_
        refine w_bipush X8 hx hby d6_49 ?_
        exact kt
      have hc51_135 : ¬ ((0 : Int32) = (120 : Int32)) := by decide
      have S136 : own_G p e below s0 T8 m 64 #[rv a, iv 0, iv 16, iv 0, iv 2] [(.int 0)] := fun t kt => by
        refine S134 t ?_
        refine w_icmpYes X8 hx hby (pc' := 58) d6_51 (feq hc51_135).2 (by decide) ?_
        refine w_iconst X8 hx hby d6_58 ?_
        refine w_istoreN X8 hx hby d6_59 (l' := #[rv a, iv 0, iv 16, iv 0, .unset]) rfl ?_
        refine w_iconst X8 hx hby d6_60 ?_
        refine w_istore X8 hx hby d6_61 (l' := #[rv a, iv 0, iv 16, iv 0, iv 2]) rfl ?_
        refine w_iloadN X8 hx hby d6_63 rfl ?_
        exact kt
      have hc64_137 : (0 : Int32) = (0 : Int32) := by decide
      have S138 : own_G p e below s0 T8 m 94 #[rv a, iv 0, iv 16, iv 0, iv 2] [(.int 0)] := fun t kt => by
        refine S136 t ?_
        refine w_ifYes X8 hx hby (pc' := 93) d6_64 ((if0 _ _).trans (teq hc64_137).1) (by decide) ?_
        refine w_iloadN X8 hx hby d6_93 rfl ?_
        exact kt
      obtain ⟨fs, hr, hrun, hended, hW, hsame⟩ := X8.leave (v := some (.int (nar .boolean (0 : Int32)))) (fun h => by rw [Bd.returns] at h; cases h)
      refine ⟨_, _, S138 _ ?_, hrun, hended, _, _, rfl, ?_, ⟨_, rfl⟩, hW, hsame.mono (by decide) (by decide)⟩
      · show Steps p.tables e below (T8.setTop (mkF m 94 #[rv a, iv 0, iv 16, iv 0, iv 2] [(.int 0)])) _
        exact retN X8 hx (t := .boolean) Bd.returns (by simp) (hb hby d6_94) hr
      · show own_Q6 Z a n_ c0 c1 c2 c3 c4 cs fm h0 n0 _ T8.heap _
        rw [eq6]
        exact ⟨own_leafF (by simp [own_exp, hc5, hc15]), rfl, rfl⟩
  · skip
    have S139 : own_G p e below s0 T3 m 31 #[rv a, iv 0, .unset, .unset, .unset] [(.int 111), (.int 0)] := fun t kt => by
      refine S5 t ?_
      refine w_icmpYes X3 hx hby (pc' := 26) d6_5 (flt hc5).2.2.2 (by decide) ?_
      refine w_iconst X3 hx hby d6_26 ?_
      refine w_istoreN X3 hx hby d6_27 (l' := #[rv a, iv 0, .unset, .unset, .unset]) rfl ?_
      refine w_iloadN X3 hx hby d6_28 rfl ?_
      refine w_bipush X3 hx hby d6_29 ?_
      exact kt
    have hc31_140 : ¬ ((0 : Int32) = (111 : Int32)) := by decide
    have S141 : own_G p e below s0 T3 m 45 #[rv a, iv 0, iv 16, .unset, .unset] [(.int 111), (.int 0)] := fun t kt => by
      refine S139 t ?_
      refine w_icmpYes X3 hx hby (pc' := 39) d6_31 (feq hc31_140).2 (by decide) ?_
      refine w_bipush X3 hx hby d6_39 ?_
      refine w_istoreN X3 hx hby d6_41 (l' := #[rv a, iv 0, iv 16, .unset, .unset]) rfl ?_
      refine w_iloadN X3 hx hby d6_42 rfl ?_
      refine w_bipush X3 hx hby d6_43 ?_
      exact kt
    have hc45_142 : ¬ ((0 : Int32) = (111 : Int32)) := by decide
    have S143 : own_G p e below s0 T3 m 51 #[rv a, iv 0, iv 16, .unset, .unset] [(.int 120), (.int 0)] := fun t kt => by
      refine S141 t ?_
      refine w_icmpNo X3 hx hby d6_45 (feq hc45_142).1 ?_
      refine w_iloadN X3 hx hby d6_48 rfl ?_
      refine w_bipush X3 hx hby d6_49 ?_
      exact kt
    have hc51_144 : ¬ ((0 : Int32) = (120 : Int32)) := by decide
    have S145 : own_G p e below s0 T3 m 64 #[rv a, iv 0, iv 16, iv 0, iv 2] [(.int 0)] := fun t kt => by
      refine S143 t ?_
      refine w_icmpYes X3 hx hby (pc' := 58) d6_51 (feq hc51_144).2 (by decide) ?_
      refine w_iconst X3 hx hby d6_58 ?_
      refine w_istoreN X3 hx hby d6_59 (l' := #[rv a, iv 0, iv 16, iv 0, .unset]) rfl ?_
      refine w_iconst X3 hx hby d6_60 ?_
      refine w_istore X3 hx hby d6_61 (l' := #[rv a, iv 0, iv 16, iv 0, iv 2]) rfl ?_
      refine w_iloadN X3 hx hby d6_63 rfl ?_
      exact kt
    have hc64_146 : (0 : Int32) = (0 : Int32) := by decide
    have S147 : own_G p e below s0 T3 m 94 #[rv a, iv 0, iv 16, iv 0, iv 2] [(.int 0)] := fun t kt => by
      refine S145 t ?_
      refine w_ifYes X3 hx hby (pc' := 93) d6_64 ((if0 _ _).trans (teq hc64_146).1) (by decide) ?_
      refine w_iloadN X3 hx hby d6_93 rfl ?_
      exact kt
    obtain ⟨fs, hr, hrun, hended, hW, hsame⟩ := X3.leave (v := some (.int (nar .boolean (0 : Int32)))) (fun h => by rw [Bd.returns] at h; cases h)
    refine ⟨_, _, S147 _ ?_, hrun, hended, _, _, rfl, ?_, ⟨_, rfl⟩, hW, hsame.mono (by decide) (by decide)⟩
    · show Steps p.tables e below (T3.setTop (mkF m 94 #[rv a, iv 0, iv 16, iv 0, iv 2] [(.int 0)])) _
      exact retN X3 hx (t := .boolean) Bd.returns (by simp) (hb hby d6_94) hr
    · show own_Q6 Z a n_ c0 c1 c2 c3 c4 cs fm h0 n0 _ T3.heap _
      rw [eq1]
      exact ⟨own_leafF (by simp [own_exp, hc5]), rfl, rfl⟩
theorem d1_0 : decode method_5_code 0 = .ok (.iload_n 0, 1) := by decide +kernel
theorem d1_1 : decode method_5_code 1 = .ok (.bipush 16, 2) := by decide +kernel
theorem d1_3 : decode method_5_code 3 = .ok (.iushr, 1) := by decide +kernel
theorem d1_4 : decode method_5_code 4 = .ok (.iconst 3, 1) := by decide +kernel
theorem d1_5 : decode method_5_code 5 = .ok (.iand, 1) := by decide +kernel
theorem d1_6 : decode method_5_code 6 = .ok (.istore_n 1, 1) := by decide +kernel
theorem d1_7 : decode method_5_code 7 = .ok (.iload_n 1, 1) := by decide +kernel
theorem d1_8 : decode method_5_code 8 = .ok (.ifCond .ne 105, 3) := by decide +kernel
theorem d1_11 : decode method_5_code 11 = .ok (.bipush 16, 2) := by decide +kernel
theorem d1_13 : decode method_5_code 13 = .ok (.newarray .char, 2) := by decide +kernel
theorem d1_15 : decode method_5_code 15 = .ok (.dup, 1) := by decide +kernel
theorem d1_16 : decode method_5_code 16 = .ok (.iconst 0, 1) := by decide +kernel
theorem d1_17 : decode method_5_code 17 = .ok (.bipush 48, 2) := by decide +kernel
theorem d1_19 : decode method_5_code 19 = .ok (.castore, 1) := by decide +kernel
theorem d1_20 : decode method_5_code 20 = .ok (.dup, 1) := by decide +kernel
theorem d1_21 : decode method_5_code 21 = .ok (.iconst 1, 1) := by decide +kernel
theorem d1_22 : decode method_5_code 22 = .ok (.bipush 55, 2) := by decide +kernel
theorem d1_24 : decode method_5_code 24 = .ok (.castore, 1) := by decide +kernel
theorem d1_25 : decode method_5_code 25 = .ok (.dup, 1) := by decide +kernel
theorem d1_26 : decode method_5_code 26 = .ok (.iconst 2, 1) := by decide +kernel
theorem d1_27 : decode method_5_code 27 = .ok (.bipush 56, 2) := by decide +kernel
theorem d1_29 : decode method_5_code 29 = .ok (.castore, 1) := by decide +kernel
theorem d1_30 : decode method_5_code 30 = .ok (.dup, 1) := by decide +kernel
theorem d1_31 : decode method_5_code 31 = .ok (.iconst 3, 1) := by decide +kernel
theorem d1_32 : decode method_5_code 32 = .ok (.bipush 57, 2) := by decide +kernel
theorem d1_34 : decode method_5_code 34 = .ok (.castore, 1) := by decide +kernel
theorem d1_35 : decode method_5_code 35 = .ok (.dup, 1) := by decide +kernel
theorem d1_36 : decode method_5_code 36 = .ok (.iconst 4, 1) := by decide +kernel
theorem d1_37 : decode method_5_code 37 = .ok (.bipush 97, 2) := by decide +kernel
theorem d1_39 : decode method_5_code 39 = .ok (.castore, 1) := by decide +kernel
theorem d1_40 : decode method_5_code 40 = .ok (.dup, 1) := by decide +kernel
theorem d1_41 : decode method_5_code 41 = .ok (.iconst 5, 1) := by decide +kernel
theorem d1_42 : decode method_5_code 42 = .ok (.bipush 102, 2) := by decide +kernel
theorem d1_44 : decode method_5_code 44 = .ok (.castore, 1) := by decide +kernel
theorem d1_45 : decode method_5_code 45 = .ok (.dup, 1) := by decide +kernel
theorem d1_46 : decode method_5_code 46 = .ok (.bipush 6, 2) := by decide +kernel
theorem d1_48 : decode method_5_code 48 = .ok (.bipush 103, 2) := by decide +kernel
theorem d1_50 : decode method_5_code 50 = .ok (.castore, 1) := by decide +kernel
theorem d1_51 : decode method_5_code 51 = .ok (.dup, 1) := by decide +kernel
theorem d1_52 : decode method_5_code 52 = .ok (.bipush 7, 2) := by decide +kernel
theorem d1_54 : decode method_5_code 54 = .ok (.bipush 65, 2) := by decide +kernel
theorem d1_56 : decode method_5_code 56 = .ok (.castore, 1) := by decide +kernel
theorem d1_57 : decode method_5_code 57 = .ok (.dup, 1) := by decide +kernel
theorem d1_58 : decode method_5_code 58 = .ok (.bipush 8, 2) := by decide +kernel
theorem d1_60 : decode method_5_code 60 = .ok (.bipush 70, 2) := by decide +kernel
theorem d1_62 : decode method_5_code 62 = .ok (.castore, 1) := by decide +kernel
theorem d1_63 : decode method_5_code 63 = .ok (.dup, 1) := by decide +kernel
theorem d1_64 : decode method_5_code 64 = .ok (.bipush 9, 2) := by decide +kernel
theorem d1_66 : decode method_5_code 66 = .ok (.bipush 71, 2) := by decide +kernel
theorem d1_68 : decode method_5_code 68 = .ok (.castore, 1) := by decide +kernel
theorem d1_69 : decode method_5_code 69 = .ok (.dup, 1) := by decide +kernel
theorem d1_70 : decode method_5_code 70 = .ok (.bipush 10, 2) := by decide +kernel
theorem d1_72 : decode method_5_code 72 = .ok (.bipush 111, 2) := by decide +kernel
theorem d1_74 : decode method_5_code 74 = .ok (.castore, 1) := by decide +kernel
theorem d1_75 : decode method_5_code 75 = .ok (.dup, 1) := by decide +kernel
theorem d1_76 : decode method_5_code 76 = .ok (.bipush 11, 2) := by decide +kernel
theorem d1_78 : decode method_5_code 78 = .ok (.bipush 120, 2) := by decide +kernel
theorem d1_80 : decode method_5_code 80 = .ok (.castore, 1) := by decide +kernel
theorem d1_81 : decode method_5_code 81 = .ok (.dup, 1) := by decide +kernel
theorem d1_82 : decode method_5_code 82 = .ok (.bipush 12, 2) := by decide +kernel
theorem d1_84 : decode method_5_code 84 = .ok (.bipush 88, 2) := by decide +kernel
theorem d1_86 : decode method_5_code 86 = .ok (.castore, 1) := by decide +kernel
theorem d1_87 : decode method_5_code 87 = .ok (.dup, 1) := by decide +kernel
theorem d1_88 : decode method_5_code 88 = .ok (.bipush 13, 2) := by decide +kernel
theorem d1_90 : decode method_5_code 90 = .ok (.bipush 79, 2) := by decide +kernel
theorem d1_92 : decode method_5_code 92 = .ok (.castore, 1) := by decide +kernel
theorem d1_93 : decode method_5_code 93 = .ok (.dup, 1) := by decide +kernel
theorem d1_94 : decode method_5_code 94 = .ok (.bipush 14, 2) := by decide +kernel
theorem d1_96 : decode method_5_code 96 = .ok (.bipush 47, 2) := by decide +kernel
theorem d1_98 : decode method_5_code 98 = .ok (.castore, 1) := by decide +kernel
theorem d1_99 : decode method_5_code 99 = .ok (.dup, 1) := by decide +kernel
theorem d1_100 : decode method_5_code 100 = .ok (.bipush 15, 2) := by decide +kernel
theorem d1_102 : decode method_5_code 102 = .ok (.bipush 58, 2) := by decide +kernel
theorem d1_104 : decode method_5_code 104 = .ok (.castore, 1) := by decide +kernel
theorem d1_105 : decode method_5_code 105 = .ok (.astore_n 2, 1) := by decide +kernel
theorem d1_106 : decode method_5_code 106 = .ok (.aload_n 2, 1) := by decide +kernel
theorem d1_107 : decode method_5_code 107 = .ok (.iload_n 0, 1) := by decide +kernel
theorem d1_108 : decode method_5_code 108 = .ok (.bipush 15, 2) := by decide +kernel
theorem d1_110 : decode method_5_code 110 = .ok (.iand, 1) := by decide +kernel
theorem d1_111 : decode method_5_code 111 = .ok (.caload, 1) := by decide +kernel
theorem d1_112 : decode method_5_code 112 = .ok (.ireturn, 1) := by decide +kernel
theorem d1_113 : decode method_5_code 113 = .ok (.iload_n 1, 1) := by decide +kernel
theorem d1_114 : decode method_5_code 114 = .ok (.iconst 1, 1) := by decide +kernel
theorem d1_115 : decode method_5_code 115 = .ok (.if_icmp .ne 10, 3) := by decide +kernel
theorem d1_118 : decode method_5_code 118 = .ok (.iload_n 0, 1) := by decide +kernel
theorem d1_119 : decode method_5_code 119 = .ok (.sipush 255, 3) := by decide +kernel
theorem d1_122 : decode method_5_code 122 = .ok (.iand, 1) := by decide +kernel
theorem d1_123 : decode method_5_code 123 = .ok (.i2c, 1) := by decide +kernel
theorem d1_124 : decode method_5_code 124 = .ok (.ireturn, 1) := by decide +kernel
theorem d1_125 : decode method_5_code 125 = .ok (.iload_n 0, 1) := by decide +kernel
theorem d1_126 : decode method_5_code 126 = .ok (.ldc 31, 2) := by decide +kernel
theorem d1_128 : decode method_5_code 128 = .ok (.iand, 1) := by decide +kernel
theorem d1_129 : decode method_5_code 129 = .ok (.i2c, 1) := by decide +kernel
theorem d1_130 : decode method_5_code 130 = .ok (.ireturn, 1) := by decide +kernel
theorem own_ef1 (m : MethodId) (x0 : Int32) : entryFrame m #[(.int x0)] 3 = mkF m 0 #[iv x0, .unset, .unset] [] := by first | (simp [entryFrame, mkF, argsToLocals, Value.category]; done) | rfl
def own_Q1 (Z : State) (x_ : Int32) (h0 : Heap) (n0 : Nat) (v : Option Value) (h : Heap) (L : List Loc) : Prop := ∃ (q : Int32), v = some (.int q) ∧ Fr n0 L ∧ Keep h0 h [] ∧ own_ch q
set_option maxHeartbeats 40000000 in
theorem own_rm1 (l : Launch) (Z : State) (a0 : Array Value) (hw : ∀ d ∈ tables_1, d.before a0 Z = true) (ws : List Jvm.Cond) (x_ : Int32) (h0 : Heap) (n0 : Nat) (Z0 : n0 ≤ h0.size) :
    MetFree l own_y4 (head1 (Jvm.Cond.code own_y4 method_5_code 3 (some .char) :: ws) ({ frames := 0, cells := 1, slots := 16, locals := 0 } : Room)) (fun argv U => argv = #[(.int x_)] ∧ Z.Warmed39 U.vm ∧ U.heap = h0) (fun _ _ _ _ _ => True) (fun _ U o U' => ∃ v L, o = .returned v ∧ own_Q1 Z x_ h0 n0 v U'.heap L ∧ FrameEnd U o U' L ({ frames := 0, cells := 1, slots := 16, locals := 0 } : Room).cells ({ frames := 0, cells := 1, slots := 16, locals := 0 } : Room).slots) := by
  refine MetFree.of_bodySF (plainFor_of_name own_pn5) hisR ?_
  intro p e s m args below meth c s₁ Bd hml0 hP hK
  obtain ⟨rfl, hZ, hh⟩ := hP
  have hx := Bd.exec
  have hby := Bd.bytes
  have hml : c.maxLocals = 3 := hml0
  have hown : s.vm.findClass "com/example/splode/splode/document/CoreSchemaRadixPinLaw" = some m.cls := findClass_of_methodNamed Bd.named
  have hnm := (name_of_methodNamed Bd.named Bd.method).1
  have X0 : Stand p l e ({ frames := 0, cells := 1, slots := 16, locals := 0 } : Room) s m #[(.int x_)] below meth c s₁ [] 0 0 := Stand.of_body Bd
  have e0 : s₁.heap = h0 := by rw [← hh, Bd.state]; rfl
  have N0 := Fr.nil n0
  have pre_ : own_G p e below (s₁.setTop (entryFrame m #[(.int x_)] 3)) s₁ m 0 #[iv x_, .unset, .unset] [] := fun t k => castTop (own_ef1 m x_) k
  obtain ⟨s0, hs0⟩ : ∃ z, z = (s₁.setTop (entryFrame m #[(.int x_)] 3)) := ⟨_, rfl⟩
  have pre0 : own_G p e below s0 s₁ m 0 #[iv x_, .unset, .unset] [] := hs0 ▸ pre_
  rw [← hs0]
  have S1 : own_G p e below s0 s₁ m 8 #[iv x_, iv (((x_.toUInt32 >>> ((16 : Int32) &&& 31).toUInt32).toInt32) &&& (3 : Int32)), .unset] [(.int (((x_.toUInt32 >>> ((16 : Int32) &&& 31).toUInt32).toInt32) &&& (3 : Int32)))] := fun t kt => by
    refine pre0 t ?_
    refine w_iloadN X0 hx hby d1_0 rfl ?_
    refine w_bipush X0 hx hby d1_1 ?_
    refine XS.iushr X0.here hx rfl (hb hby d1_3) rfl ?_
    refine w_iconst X0 hx hby d1_4 ?_
    refine w_iand X0 hx hby d1_5 ?_
    refine w_istoreN X0 hx hby d1_6 (l' := #[iv x_, iv (((x_.toUInt32 >>> ((16 : Int32) &&& 31).toUInt32).toInt32) &&& (3 : Int32)), .unset]) rfl ?_
    refine w_iloadN X0 hx hby d1_7 rfl ?_
    exact kt
  by_cases hc8 : (((x_.toUInt32 >>> ((16 : Int32) &&& 31).toUInt32).toInt32) &&& (3 : Int32)) = (0 : Int32)
  · skip
    have S2 : own_G p e below s0 s₁ m 13 #[iv x_, iv (((x_.toUInt32 >>> ((16 : Int32) &&& 31).toUInt32).toInt32) &&& (3 : Int32)), .unset] [(.int 16)] := fun t kt => by
      refine S1 t ?_
      refine w_ifNo X0 hx hby d1_8 ((if0 _ _).trans (teq hc8).2) ?_
      refine w_bipush X0 hx hby d1_11 ?_
      exact kt
    obtain ⟨T3, h3, k3, X3, e3, E3, A3, st3⟩ := newP X0 hx hZ (own_w hw 5 rfl) e0 (g := (mkF m 13 #[iv x_, iv (((x_.toUInt32 >>> ((16 : Int32) &&& 31).toUInt32).toInt32) &&& (3 : Int32)), .unset] [(.int 16)])) rfl (hb hby d1_13) rfl (by decide) (cap := 16) (by decide) (by decide) (by decide) (by decide)
    obtain ⟨b3, g3⟩ : ∃ z, z = h0.size := ⟨_, rfl⟩
    rw [← g3] at A3 st3
    have S4 : own_G p e below s0 T3 m 15 #[iv x_, iv (((x_.toUInt32 >>> ((16 : Int32) &&& 31).toUInt32).toInt32) &&& (3 : Int32)), .unset] [(.ref b3)] := fun t kt => S2 t (st3 _ kt)
    have g_b3 : n0 ≤ b3 := Nat.le_trans Z0 (Nat.le_of_eq g3.symm)
    have sz_b3 : h0.size ≤ b3 := Nat.le_trans (Keep.refl h0 []).1 (Nat.le_of_eq g3.symm)
    have K5 : Keep h0 h3 [] := (Keep.refl h0 []).ext E3
    have V6 : Arv Z h3 b3 k3 .char (16 : Int32) [(.int 0), (.int 0), (.int 0), (.int 0), (.int 0), (.int 0), (.int 0), (.int 0), (.int 0), (.int 0), (.int 0), (.int 0), (.int 0), (.int 0), (.int 0), (.int 0)] (.int 0) := (Arv.new A3 (by decide)).pad (pad_rep [] (.int 0) 16)
    have S7 : own_G p e below s0 T3 m 19 #[iv x_, iv (((x_.toUInt32 >>> ((16 : Int32) &&& 31).toUInt32).toInt32) &&& (3 : Int32)), .unset] [(.int 48), (.int 0), (.ref b3), (.ref b3)] := fun t kt => by
      refine S4 t ?_
      refine w_dup X3 hx hby d1_15 rfl ?_
      refine w_iconst X3 hx hby d1_16 ?_
      refine w_bipush X3 hx hby d1_17 ?_
      exact kt
    obtain ⟨cl8, Ar8, q8, Sz8, Nn8, Hh8, Gg8⟩ := id V6
    have hin8 : ¬ ((0 : Int32) < 0 ∨ cl8.slots.size ≤ ((0 : Int32)).toNatClampNeg) := inb_of Sz8 ⟨by decide, by decide⟩
    obtain ⟨T9, h9, X9, e9, W9, st9⟩ := stC X3 hx hZ e3 Ar8 (j := (0 : Int32)) hin8 (g := (mkF m 19 #[iv x_, iv (((x_.toUInt32 >>> ((16 : Int32) &&& 31).toUInt32).toInt32) &&& (3 : Int32)), .unset] [(.int 48), (.int 0), (.ref b3), (.ref b3)])) rfl rfl (hb hby d1_19)
    have S10 : own_G p e below s0 T9 m 20 #[iv x_, iv (((x_.toUInt32 >>> ((16 : Int32) &&& 31).toUInt32).toInt32) &&& (3 : Int32)), .unset] [(.ref b3)] := fun t kt => S7 t (st9 _ kt)
    have V11 := Arv.set Ar8 q8 Sz8 Nn8 Hh8 Gg8 (fits_nar_char _) W9 0 rfl (Nat.le_of_ble_eq_true rfl)
    have N12 := Fr.snoc X9 N0 g_b3
    have K13 : Keep h0 h9 [] := K5.wr W9 (Or.inr sz_b3)
    have S14 : own_G p e below s0 T9 m 24 #[iv x_, iv (((x_.toUInt32 >>> ((16 : Int32) &&& 31).toUInt32).toInt32) &&& (3 : Int32)), .unset] [(.int 55), (.int 1), (.ref b3), (.ref b3)] := fun t kt => by
      refine S10 t ?_
      refine w_dup X9 hx hby d1_20 rfl ?_
      refine w_iconst X9 hx hby d1_21 ?_
      refine w_bipush X9 hx hby d1_22 ?_
      exact kt
    obtain ⟨cl15, Ar15, q15, Sz15, Nn15, Hh15, Gg15⟩ := id V11
    have hin15 : ¬ ((1 : Int32) < 0 ∨ cl15.slots.size ≤ ((1 : Int32)).toNatClampNeg) := inb_of Sz15 ⟨by decide, by decide⟩
    obtain ⟨T16, h16, X16, e16, W16, st16⟩ := stC X9 hx hZ e9 Ar15 (j := (1 : Int32)) hin15 (g := (mkF m 24 #[iv x_, iv (((x_.toUInt32 >>> ((16 : Int32) &&& 31).toUInt32).toInt32) &&& (3 : Int32)), .unset] [(.int 55), (.int 1), (.ref b3), (.ref b3)])) rfl rfl (hb hby d1_24)
    have S17 : own_G p e below s0 T16 m 25 #[iv x_, iv (((x_.toUInt32 >>> ((16 : Int32) &&& 31).toUInt32).toInt32) &&& (3 : Int32)), .unset] [(.ref b3)] := fun t kt => S14 t (st16 _ kt)
    have V18 := Arv.set Ar15 q15 Sz15 Nn15 Hh15 Gg15 (fits_nar_char _) W16 1 rfl (Nat.le_of_ble_eq_true rfl)
    have N19 := Fr.snoc X16 N12 g_b3
    have K20 : Keep h0 h16 [] := K13.wr W16 (Or.inr sz_b3)
    have S21 : own_G p e below s0 T16 m 29 #[iv x_, iv (((x_.toUInt32 >>> ((16 : Int32) &&& 31).toUInt32).toInt32) &&& (3 : Int32)), .unset] [(.int 56), (.int 2), (.ref b3), (.ref b3)] := fun t kt => by
      refine S17 t ?_
      refine w_dup X16 hx hby d1_25 rfl ?_
      refine w_iconst X16 hx hby d1_26 ?_
      refine w_bipush X16 hx hby d1_27 ?_
      exact kt
    obtain ⟨cl22, Ar22, q22, Sz22, Nn22, Hh22, Gg22⟩ := id V18
    have hin22 : ¬ ((2 : Int32) < 0 ∨ cl22.slots.size ≤ ((2 : Int32)).toNatClampNeg) := inb_of Sz22 ⟨by decide, by decide⟩
    obtain ⟨T23, h23, X23, e23, W23, st23⟩ := stC X16 hx hZ e16 Ar22 (j := (2 : Int32)) hin22 (g := (mkF m 29 #[iv x_, iv (((x_.toUInt32 >>> ((16 : Int32) &&& 31).toUInt32).toInt32) &&& (3 : Int32)), .unset] [(.int 56), (.int 2), (.ref b3), (.ref b3)])) rfl rfl (hb hby d1_29)
    have S24 : own_G p e below s0 T23 m 30 #[iv x_, iv (((x_.toUInt32 >>> ((16 : Int32) &&& 31).toUInt32).toInt32) &&& (3 : Int32)), .unset] [(.ref b3)] := fun t kt => S21 t (st23 _ kt)
    have V25 := Arv.set Ar22 q22 Sz22 Nn22 Hh22 Gg22 (fits_nar_char _) W23 2 rfl (Nat.le_of_ble_eq_true rfl)
    have N26 := Fr.snoc X23 N19 g_b3
    have K27 : Keep h0 h23 [] := K20.wr W23 (Or.inr sz_b3)
    have S28 : own_G p e below s0 T23 m 34 #[iv x_, iv (((x_.toUInt32 >>> ((16 : Int32) &&& 31).toUInt32).toInt32) &&& (3 : Int32)), .unset] [(.int 57), (.int 3), (.ref b3), (.ref b3)] := fun t kt => by
      refine S24 t ?_
      refine w_dup X23 hx hby d1_30 rfl ?_
      refine w_iconst X23 hx hby d1_31 ?_
      refine w_bipush X23 hx hby d1_32 ?_
      exact kt
    obtain ⟨cl29, Ar29, q29, Sz29, Nn29, Hh29, Gg29⟩ := id V25
    have hin29 : ¬ ((3 : Int32) < 0 ∨ cl29.slots.size ≤ ((3 : Int32)).toNatClampNeg) := inb_of Sz29 ⟨by decide, by decide⟩
    obtain ⟨T30, h30, X30, e30, W30, st30⟩ := stC X23 hx hZ e23 Ar29 (j := (3 : Int32)) hin29 (g := (mkF m 34 #[iv x_, iv (((x_.toUInt32 >>> ((16 : Int32) &&& 31).toUInt32).toInt32) &&& (3 : Int32)), .unset] [(.int 57), (.int 3), (.ref b3), (.ref b3)])) rfl rfl (hb hby d1_34)
    have S31 : own_G p e below s0 T30 m 35 #[iv x_, iv (((x_.toUInt32 >>> ((16 : Int32) &&& 31).toUInt32).toInt32) &&& (3 : Int32)), .unset] [(.ref b3)] := fun t kt => S28 t (st30 _ kt)
    have V32 := Arv.set Ar29 q29 Sz29 Nn29 Hh29 Gg29 (fits_nar_char _) W30 3 rfl (Nat.le_of_ble_eq_true rfl)
    have N33 := Fr.snoc X30 N26 g_b3
    have K34 : Keep h0 h30 [] := K27.wr W30 (Or.inr sz_b3)
    have S35 : own_G p e below s0 T30 m 39 #[iv x_, iv (((x_.toUInt32 >>> ((16 : Int32) &&& 31).toUInt32).toInt32) &&& (3 : Int32)), .unset] [(.int 97), (.int 4), (.ref b3), (.ref b3)] := fun t kt => by
      refine S31 t ?_
      refine w_dup X30 hx hby d1_35 rfl ?_
      refine w_iconst X30 hx hby d1_36 ?_
      refine w_bipush X30 hx hby d1_37 ?_
      exact kt
    obtain ⟨cl36, Ar36, q36, Sz36, Nn36, Hh36, Gg36⟩ := id V32
    have hin36 : ¬ ((4 : Int32) < 0 ∨ cl36.slots.size ≤ ((4 : Int32)).toNatClampNeg) := inb_of Sz36 ⟨by decide, by decide⟩
    obtain ⟨T37, h37, X37, e37, W37, st37⟩ := stC X30 hx hZ e30 Ar36 (j := (4 : Int32)) hin36 (g := (mkF m 39 #[iv x_, iv (((x_.toUInt32 >>> ((16 : Int32) &&& 31).toUInt32).toInt32) &&& (3 : Int32)), .unset] [(.int 97), (.int 4), (.ref b3), (.ref b3)])) rfl rfl (hb hby d1_39)
    have S38 : own_G p e below s0 T37 m 40 #[iv x_, iv (((x_.toUInt32 >>> ((16 : Int32) &&& 31).toUInt32).toInt32) &&& (3 : Int32)), .unset] [(.ref b3)] := fun t kt => S35 t (st37 _ kt)
    have V39 := Arv.set Ar36 q36 Sz36 Nn36 Hh36 Gg36 (fits_nar_char _) W37 4 rfl (Nat.le_of_ble_eq_true rfl)
    have N40 := Fr.snoc X37 N33 g_b3
    have K41 : Keep h0 h37 [] := K34.wr W37 (Or.inr sz_b3)
    have S42 : own_G p e below s0 T37 m 44 #[iv x_, iv (((x_.toUInt32 >>> ((16 : Int32) &&& 31).toUInt32).toInt32) &&& (3 : Int32)), .unset] [(.int 102), (.int 5), (.ref b3), (.ref b3)] := fun t kt => by
      refine S38 t ?_
      refine w_dup X37 hx hby d1_40 rfl ?_
      refine w_iconst X37 hx hby d1_41 ?_
      refine w_bipush X37 hx hby d1_42 ?_
      exact kt
    obtain ⟨cl43, Ar43, q43, Sz43, Nn43, Hh43, Gg43⟩ := id V39
    have hin43 : ¬ ((5 : Int32) < 0 ∨ cl43.slots.size ≤ ((5 : Int32)).toNatClampNeg) := inb_of Sz43 ⟨by decide, by decide⟩
    obtain ⟨T44, h44, X44, e44, W44, st44⟩ := stC X37 hx hZ e37 Ar43 (j := (5 : Int32)) hin43 (g := (mkF m 44 #[iv x_, iv (((x_.toUInt32 >>> ((16 : Int32) &&& 31).toUInt32).toInt32) &&& (3 : Int32)), .unset] [(.int 102), (.int 5), (.ref b3), (.ref b3)])) rfl rfl (hb hby d1_44)
    have S45 : own_G p e below s0 T44 m 45 #[iv x_, iv (((x_.toUInt32 >>> ((16 : Int32) &&& 31).toUInt32).toInt32) &&& (3 : Int32)), .unset] [(.ref b3)] := fun t kt => S42 t (st44 _ kt)
    have V46 := Arv.set Ar43 q43 Sz43 Nn43 Hh43 Gg43 (fits_nar_char _) W44 5 rfl (Nat.le_of_ble_eq_true rfl)
    have N47 := Fr.snoc X44 N40 g_b3
    have K48 : Keep h0 h44 [] := K41.wr W44 (Or.inr sz_b3)
    have S49 : own_G p e below s0 T44 m 50 #[iv x_, iv (((x_.toUInt32 >>> ((16 : Int32) &&& 31).toUInt32).toInt32) &&& (3 : Int32)), .unset] [(.int 103), (.int 6), (.ref b3), (.ref b3)] := fun t kt => by
      refine S45 t ?_
      refine w_dup X44 hx hby d1_45 rfl ?_
      refine w_bipush X44 hx hby d1_46 ?_
      refine w_bipush X44 hx hby d1_48 ?_
      exact kt
    obtain ⟨cl50, Ar50, q50, Sz50, Nn50, Hh50, Gg50⟩ := id V46
    have hin50 : ¬ ((6 : Int32) < 0 ∨ cl50.slots.size ≤ ((6 : Int32)).toNatClampNeg) := inb_of Sz50 ⟨by decide, by decide⟩
    obtain ⟨T51, h51, X51, e51, W51, st51⟩ := stC X44 hx hZ e44 Ar50 (j := (6 : Int32)) hin50 (g := (mkF m 50 #[iv x_, iv (((x_.toUInt32 >>> ((16 : Int32) &&& 31).toUInt32).toInt32) &&& (3 : Int32)), .unset] [(.int 103), (.int 6), (.ref b3), (.ref b3)])) rfl rfl (hb hby d1_50)
    have S52 : own_G p e below s0 T51 m 51 #[iv x_, iv (((x_.toUInt32 >>> ((16 : Int32) &&& 31).toUInt32).toInt32) &&& (3 : Int32)), .unset] [(.ref b3)] := fun t kt => S49 t (st51 _ kt)
    have V53 := Arv.set Ar50 q50 Sz50 Nn50 Hh50 Gg50 (fits_nar_char _) W51 6 rfl (Nat.le_of_ble_eq_true rfl)
    have N54 := Fr.snoc X51 N47 g_b3
    have K55 : Keep h0 h51 [] := K48.wr W51 (Or.inr sz_b3)
    have S56 : own_G p e below s0 T51 m 56 #[iv x_, iv (((x_.toUInt32 >>> ((16 : Int32) &&& 31).toUInt32).toInt32) &&& (3 : Int32)), .unset] [(.int 65), (.int 7), (.ref b3), (.ref b3)] := fun t kt => by
      refine S52 t ?_
      refine w_dup X51 hx hby d1_51 rfl ?_
      refine w_bipush X51 hx hby d1_52 ?_
      refine w_bipush X51 hx hby d1_54 ?_
      exact kt
    obtain ⟨cl57, Ar57, q57, Sz57, Nn57, Hh57, Gg57⟩ := id V53
    have hin57 : ¬ ((7 : Int32) < 0 ∨ cl57.slots.size ≤ ((7 : Int32)).toNatClampNeg) := inb_of Sz57 ⟨by decide, by decide⟩
    obtain ⟨T58, h58, X58, e58, W58, st58⟩ := stC X51 hx hZ e51 Ar57 (j := (7 : Int32)) hin57 (g := (mkF m 56 #[iv x_, iv (((x_.toUInt32 >>> ((16 : Int32) &&& 31).toUInt32).toInt32) &&& (3 : Int32)), .unset] [(.int 65), (.int 7), (.ref b3), (.ref b3)])) rfl rfl (hb hby d1_56)
    have S59 : own_G p e below s0 T58 m 57 #[iv x_, iv (((x_.toUInt32 >>> ((16 : Int32) &&& 31).toUInt32).toInt32) &&& (3 : Int32)), .unset] [(.ref b3)] := fun t kt => S56 t (st58 _ kt)
    have V60 := Arv.set Ar57 q57 Sz57 Nn57 Hh57 Gg57 (fits_nar_char _) W58 7 rfl (Nat.le_of_ble_eq_true rfl)
    have N61 := Fr.snoc X58 N54 g_b3
    have K62 : Keep h0 h58 [] := K55.wr W58 (Or.inr sz_b3)
    have S63 : own_G p e below s0 T58 m 62 #[iv x_, iv (((x_.toUInt32 >>> ((16 : Int32) &&& 31).toUInt32).toInt32) &&& (3 : Int32)), .unset] [(.int 70), (.int 8), (.ref b3), (.ref b3)] := fun t kt => by
      refine S59 t ?_
      refine w_dup X58 hx hby d1_57 rfl ?_
      refine w_bipush X58 hx hby d1_58 ?_
      refine w_bipush X58 hx hby d1_60 ?_
      exact kt
    obtain ⟨cl64, Ar64, q64, Sz64, Nn64, Hh64, Gg64⟩ := id V60
    have hin64 : ¬ ((8 : Int32) < 0 ∨ cl64.slots.size ≤ ((8 : Int32)).toNatClampNeg) := inb_of Sz64 ⟨by decide, by decide⟩
    obtain ⟨T65, h65, X65, e65, W65, st65⟩ := stC X58 hx hZ e58 Ar64 (j := (8 : Int32)) hin64 (g := (mkF m 62 #[iv x_, iv (((x_.toUInt32 >>> ((16 : Int32) &&& 31).toUInt32).toInt32) &&& (3 : Int32)), .unset] [(.int 70), (.int 8), (.ref b3), (.ref b3)])) rfl rfl (hb hby d1_62)
    have S66 : own_G p e below s0 T65 m 63 #[iv x_, iv (((x_.toUInt32 >>> ((16 : Int32) &&& 31).toUInt32).toInt32) &&& (3 : Int32)), .unset] [(.ref b3)] := fun t kt => S63 t (st65 _ kt)
    have V67 := Arv.set Ar64 q64 Sz64 Nn64 Hh64 Gg64 (fits_nar_char _) W65 8 rfl (Nat.le_of_ble_eq_true rfl)
    have N68 := Fr.snoc X65 N61 g_b3
    have K69 : Keep h0 h65 [] := K62.wr W65 (Or.inr sz_b3)
    have S70 : own_G p e below s0 T65 m 68 #[iv x_, iv (((x_.toUInt32 >>> ((16 : Int32) &&& 31).toUInt32).toInt32) &&& (3 : Int32)), .unset] [(.int 71), (.int 9), (.ref b3), (.ref b3)] := fun t kt => by
      refine S66 t ?_
      refine w_dup X65 hx hby d1_63 rfl ?_
      refine w_bipush X65 hx hby d1_64 ?_
      refine w_bipush X65 hx hby d1_66 ?_
      exact kt
    obtain ⟨cl71, Ar71, q71, Sz71, Nn71, Hh71, Gg71⟩ := id V67
    have hin71 : ¬ ((9 : Int32) < 0 ∨ cl71.slots.size ≤ ((9 : Int32)).toNatClampNeg) := inb_of Sz71 ⟨by decide, by decide⟩
    obtain ⟨T72, h72, X72, e72, W72, st72⟩ := stC X65 hx hZ e65 Ar71 (j := (9 : Int32)) hin71 (g := (mkF m 68 #[iv x_, iv (((x_.toUInt32 >>> ((16 : Int32) &&& 31).toUInt32).toInt32) &&& (3 : Int32)), .unset] [(.int 71), (.int 9), (.ref b3), (.ref b3)])) rfl rfl (hb hby d1_68)
    have S73 : own_G p e below s0 T72 m 69 #[iv x_, iv (((x_.toUInt32 >>> ((16 : Int32) &&& 31).toUInt32).toInt32) &&& (3 : Int32)), .unset] [(.ref b3)] := fun t kt => S70 t (st72 _ kt)
    have V74 := Arv.set Ar71 q71 Sz71 Nn71 Hh71 Gg71 (fits_nar_char _) W72 9 rfl (Nat.le_of_ble_eq_true rfl)
    have N75 := Fr.snoc X72 N68 g_b3
    have K76 : Keep h0 h72 [] := K69.wr W72 (Or.inr sz_b3)
    have S77 : own_G p e below s0 T72 m 74 #[iv x_, iv (((x_.toUInt32 >>> ((16 : Int32) &&& 31).toUInt32).toInt32) &&& (3 : Int32)), .unset] [(.int 111), (.int 10), (.ref b3), (.ref b3)] := fun t kt => by
      refine S73 t ?_
      refine w_dup X72 hx hby d1_69 rfl ?_
      refine w_bipush X72 hx hby d1_70 ?_
      refine w_bipush X72 hx hby d1_72 ?_
      exact kt
    obtain ⟨cl78, Ar78, q78, Sz78, Nn78, Hh78, Gg78⟩ := id V74
    have hin78 : ¬ ((10 : Int32) < 0 ∨ cl78.slots.size ≤ ((10 : Int32)).toNatClampNeg) := inb_of Sz78 ⟨by decide, by decide⟩
    obtain ⟨T79, h79, X79, e79, W79, st79⟩ := stC X72 hx hZ e72 Ar78 (j := (10 : Int32)) hin78 (g := (mkF m 74 #[iv x_, iv (((x_.toUInt32 >>> ((16 : Int32) &&& 31).toUInt32).toInt32) &&& (3 : Int32)), .unset] [(.int 111), (.int 10), (.ref b3), (.ref b3)])) rfl rfl (hb hby d1_74)
    have S80 : own_G p e below s0 T79 m 75 #[iv x_, iv (((x_.toUInt32 >>> ((16 : Int32) &&& 31).toUInt32).toInt32) &&& (3 : Int32)), .unset] [(.ref b3)] := fun t kt => S77 t (st79 _ kt)
    have V81 := Arv.set Ar78 q78 Sz78 Nn78 Hh78 Gg78 (fits_nar_char _) W79 10 rfl (Nat.le_of_ble_eq_true rfl)
    have N82 := Fr.snoc X79 N75 g_b3
    have K83 : Keep h0 h79 [] := K76.wr W79 (Or.inr sz_b3)
    have S84 : own_G p e below s0 T79 m 80 #[iv x_, iv (((x_.toUInt32 >>> ((16 : Int32) &&& 31).toUInt32).toInt32) &&& (3 : Int32)), .unset] [(.int 120), (.int 11), (.ref b3), (.ref b3)] := fun t kt => by
      refine S80 t ?_
      refine w_dup X79 hx hby d1_75 rfl ?_
      refine w_bipush X79 hx hby d1_76 ?_
      refine w_bipush X79 hx hby d1_78 ?_
      exact kt
    obtain ⟨cl85, Ar85, q85, Sz85, Nn85, Hh85, Gg85⟩ := id V81
    have hin85 : ¬ ((11 : Int32) < 0 ∨ cl85.slots.size ≤ ((11 : Int32)).toNatClampNeg) := inb_of Sz85 ⟨by decide, by decide⟩
    obtain ⟨T86, h86, X86, e86, W86, st86⟩ := stC X79 hx hZ e79 Ar85 (j := (11 : Int32)) hin85 (g := (mkF m 80 #[iv x_, iv (((x_.toUInt32 >>> ((16 : Int32) &&& 31).toUInt32).toInt32) &&& (3 : Int32)), .unset] [(.int 120), (.int 11), (.ref b3), (.ref b3)])) rfl rfl (hb hby d1_80)
    have S87 : own_G p e below s0 T86 m 81 #[iv x_, iv (((x_.toUInt32 >>> ((16 : Int32) &&& 31).toUInt32).toInt32) &&& (3 : Int32)), .unset] [(.ref b3)] := fun t kt => S84 t (st86 _ kt)
    have V88 := Arv.set Ar85 q85 Sz85 Nn85 Hh85 Gg85 (fits_nar_char _) W86 11 rfl (Nat.le_of_ble_eq_true rfl)
    have N89 := Fr.snoc X86 N82 g_b3
    have K90 : Keep h0 h86 [] := K83.wr W86 (Or.inr sz_b3)
    have S91 : own_G p e below s0 T86 m 86 #[iv x_, iv (((x_.toUInt32 >>> ((16 : Int32) &&& 31).toUInt32).toInt32) &&& (3 : Int32)), .unset] [(.int 88), (.int 12), (.ref b3), (.ref b3)] := fun t kt => by
      refine S87 t ?_
      refine w_dup X86 hx hby d1_81 rfl ?_
      refine w_bipush X86 hx hby d1_82 ?_
      refine w_bipush X86 hx hby d1_84 ?_
      exact kt
    obtain ⟨cl92, Ar92, q92, Sz92, Nn92, Hh92, Gg92⟩ := id V88
    have hin92 : ¬ ((12 : Int32) < 0 ∨ cl92.slots.size ≤ ((12 : Int32)).toNatClampNeg) := inb_of Sz92 ⟨by decide, by decide⟩
    obtain ⟨T93, h93, X93, e93, W93, st93⟩ := stC X86 hx hZ e86 Ar92 (j := (12 : Int32)) hin92 (g := (mkF m 86 #[iv x_, iv (((x_.toUInt32 >>> ((16 : Int32) &&& 31).toUInt32).toInt32) &&& (3 : Int32)), .unset] [(.int 88), (.int 12), (.ref b3), (.ref b3)])) rfl rfl (hb hby d1_86)
    have S94 : own_G p e below s0 T93 m 87 #[iv x_, iv (((x_.toUInt32 >>> ((16 : Int32) &&& 31).toUInt32).toInt32) &&& (3 : Int32)), .unset] [(.ref b3)] := fun t kt => S91 t (st93 _ kt)
    have V95 := Arv.set Ar92 q92 Sz92 Nn92 Hh92 Gg92 (fits_nar_char _) W93 12 rfl (Nat.le_of_ble_eq_true rfl)
    have N96 := Fr.snoc X93 N89 g_b3
    have K97 : Keep h0 h93 [] := K90.wr W93 (Or.inr sz_b3)
    have S98 : own_G p e below s0 T93 m 92 #[iv x_, iv (((x_.toUInt32 >>> ((16 : Int32) &&& 31).toUInt32).toInt32) &&& (3 : Int32)), .unset] [(.int 79), (.int 13), (.ref b3), (.ref b3)] := fun t kt => by
      refine S94 t ?_
      refine w_dup X93 hx hby d1_87 rfl ?_
      refine w_bipush X93 hx hby d1_88 ?_
      refine w_bipush X93 hx hby d1_90 ?_
      exact kt
    obtain ⟨cl99, Ar99, q99, Sz99, Nn99, Hh99, Gg99⟩ := id V95
    have hin99 : ¬ ((13 : Int32) < 0 ∨ cl99.slots.size ≤ ((13 : Int32)).toNatClampNeg) := inb_of Sz99 ⟨by decide, by decide⟩
    obtain ⟨T100, h100, X100, e100, W100, st100⟩ := stC X93 hx hZ e93 Ar99 (j := (13 : Int32)) hin99 (g := (mkF m 92 #[iv x_, iv (((x_.toUInt32 >>> ((16 : Int32) &&& 31).toUInt32).toInt32) &&& (3 : Int32)), .unset] [(.int 79), (.int 13), (.ref b3), (.ref b3)])) rfl rfl (hb hby d1_92)
    have S101 : own_G p e below s0 T100 m 93 #[iv x_, iv (((x_.toUInt32 >>> ((16 : Int32) &&& 31).toUInt32).toInt32) &&& (3 : Int32)), .unset] [(.ref b3)] := fun t kt => S98 t (st100 _ kt)
    have V102 := Arv.set Ar99 q99 Sz99 Nn99 Hh99 Gg99 (fits_nar_char _) W100 13 rfl (Nat.le_of_ble_eq_true rfl)
    have N103 := Fr.snoc X100 N96 g_b3
    have K104 : Keep h0 h100 [] := K97.wr W100 (Or.inr sz_b3)
    have S105 : own_G p e below s0 T100 m 98 #[iv x_, iv (((x_.toUInt32 >>> ((16 : Int32) &&& 31).toUInt32).toInt32) &&& (3 : Int32)), .unset] [(.int 47), (.int 14), (.ref b3), (.ref b3)] := fun t kt => by
      refine S101 t ?_
      refine w_dup X100 hx hby d1_93 rfl ?_
      refine w_bipush X100 hx hby d1_94 ?_
      refine w_bipush X100 hx hby d1_96 ?_
      exact kt
    obtain ⟨cl106, Ar106, q106, Sz106, Nn106, Hh106, Gg106⟩ := id V102
    have hin106 : ¬ ((14 : Int32) < 0 ∨ cl106.slots.size ≤ ((14 : Int32)).toNatClampNeg) := inb_of Sz106 ⟨by decide, by decide⟩
    obtain ⟨T107, h107, X107, e107, W107, st107⟩ := stC X100 hx hZ e100 Ar106 (j := (14 : Int32)) hin106 (g := (mkF m 98 #[iv x_, iv (((x_.toUInt32 >>> ((16 : Int32) &&& 31).toUInt32).toInt32) &&& (3 : Int32)), .unset] [(.int 47), (.int 14), (.ref b3), (.ref b3)])) rfl rfl (hb hby d1_98)
    have S108 : own_G p e below s0 T107 m 99 #[iv x_, iv (((x_.toUInt32 >>> ((16 : Int32) &&& 31).toUInt32).toInt32) &&& (3 : Int32)), .unset] [(.ref b3)] := fun t kt => S105 t (st107 _ kt)
    have V109 := Arv.set Ar106 q106 Sz106 Nn106 Hh106 Gg106 (fits_nar_char _) W107 14 rfl (Nat.le_of_ble_eq_true rfl)
    have N110 := Fr.snoc X107 N103 g_b3
    have K111 : Keep h0 h107 [] := K104.wr W107 (Or.inr sz_b3)
    have S112 : own_G p e below s0 T107 m 104 #[iv x_, iv (((x_.toUInt32 >>> ((16 : Int32) &&& 31).toUInt32).toInt32) &&& (3 : Int32)), .unset] [(.int 58), (.int 15), (.ref b3), (.ref b3)] := fun t kt => by
      refine S108 t ?_
      refine w_dup X107 hx hby d1_99 rfl ?_
      refine w_bipush X107 hx hby d1_100 ?_
      refine w_bipush X107 hx hby d1_102 ?_
      exact kt
    obtain ⟨cl113, Ar113, q113, Sz113, Nn113, Hh113, Gg113⟩ := id V109
    have hin113 : ¬ ((15 : Int32) < 0 ∨ cl113.slots.size ≤ ((15 : Int32)).toNatClampNeg) := inb_of Sz113 ⟨by decide, by decide⟩
    obtain ⟨T114, h114, X114, e114, W114, st114⟩ := stC X107 hx hZ e107 Ar113 (j := (15 : Int32)) hin113 (g := (mkF m 104 #[iv x_, iv (((x_.toUInt32 >>> ((16 : Int32) &&& 31).toUInt32).toInt32) &&& (3 : Int32)), .unset] [(.int 58), (.int 15), (.ref b3), (.ref b3)])) rfl rfl (hb hby d1_104)
    have S115 : own_G p e below s0 T114 m 105 #[iv x_, iv (((x_.toUInt32 >>> ((16 : Int32) &&& 31).toUInt32).toInt32) &&& (3 : Int32)), .unset] [(.ref b3)] := fun t kt => S112 t (st114 _ kt)
    have V116 := Arv.set Ar113 q113 Sz113 Nn113 Hh113 Gg113 (fits_nar_char _) W114 15 rfl (Nat.le_of_ble_eq_true rfl)
    have N117 := Fr.snoc X114 N110 g_b3
    have K118 : Keep h0 h114 [] := K111.wr W114 (Or.inr sz_b3)
    have S120 : own_G p e below s0 T114 m 111 #[iv x_, iv (((x_.toUInt32 >>> ((16 : Int32) &&& 31).toUInt32).toInt32) &&& (3 : Int32)), rv b3] [(.int (x_ &&& (15 : Int32))), (.ref b3)] := fun t kt => by
      refine S115 t ?_
      refine w_astoreN X114 hx hby d1_105 rfl (l' := #[iv x_, iv (((x_.toUInt32 >>> ((16 : Int32) &&& 31).toUInt32).toInt32) &&& (3 : Int32)), rv b3]) rfl ?_
      refine w_aloadN X114 hx hby d1_106 rfl rfl ?_
      refine w_iloadN X114 hx hby d1_107 rfl ?_
      refine w_bipush X114 hx hby d1_108 ?_
      refine w_iand X114 hx hby d1_110 ?_
      exact kt
    obtain ⟨zq, hzq⟩ : ∃ z : Int32, ([(.int (nar .char (48 : Int32))), (.int (nar .char (55 : Int32))), (.int (nar .char (56 : Int32))), (.int (nar .char (57 : Int32))), (.int (nar .char (97 : Int32))), (.int (nar .char (102 : Int32))), (.int (nar .char (103 : Int32))), (.int (nar .char (65 : Int32))), (.int (nar .char (70 : Int32))), (.int (nar .char (71 : Int32))), (.int (nar .char (111 : Int32))), (.int (nar .char (120 : Int32))), (.int (nar .char (88 : Int32))), (.int (nar .char (79 : Int32))), (.int (nar .char (47 : Int32))), (.int (nar .char (58 : Int32)))] : List Value).getD ((x_ &&& (15 : Int32))).toNatClampNeg (.int 0) = .int z := ⟨_, own_getI [(nar .char (48 : Int32)), (nar .char (55 : Int32)), (nar .char (56 : Int32)), (nar .char (57 : Int32)), (nar .char (97 : Int32)), (nar .char (102 : Int32)), (nar .char (103 : Int32)), (nar .char (65 : Int32)), (nar .char (70 : Int32)), (nar .char (71 : Int32)), (nar .char (111 : Int32)), (nar .char (120 : Int32)), (nar .char (88 : Int32)), (nar .char (79 : Int32)), (nar .char (47 : Int32)), (nar .char (58 : Int32))] _⟩
    obtain ⟨cl119, Ar119, -, Sz119, Nn119, Hh119, -⟩ := id V116
    have hin119 : ¬ ((x_ &&& (15 : Int32)) < 0 ∨ cl119.slots.size ≤ ((x_ &&& (15 : Int32))).toNatClampNeg) := inb_of Sz119 ⟨(own_and15 _).1, (own_and15 _).2⟩
    have S121 : own_G p e below s0 T114 m 112 #[iv x_, iv (((x_.toUInt32 >>> ((16 : Int32) &&& 31).toUInt32).toInt32) &&& (3 : Int32)), rv b3] [(.int zq)] := fun t kt => by
      refine S120 t ?_
      refine X114.caload hx (j := (x_ &&& (15 : Int32))) (v := (.int zq)) (by rw [e114]; exact Ar119.1) (State.isArrayOf_alike hZ.alike Ar119.2.1) Ar119.2.2 hin119 (Has.at Hh119 hin119 hzq) (g := (mkF m 111 #[iv x_, iv (((x_.toUInt32 >>> ((16 : Int32) &&& 31).toUInt32).toInt32) &&& (3 : Int32)), rv b3] [(.int (x_ &&& (15 : Int32))), (.ref b3)])) rfl rfl (hb hby d1_111) _ ?_
      exact kt
    obtain ⟨fs, hr, hrun, hended, hW, hsame⟩ := X114.leave (v := some (.int (nar .char zq))) (fun h => by rw [Bd.returns] at h; cases h)
    refine ⟨_, _, S121 _ ?_, hrun, hended, _, _, rfl, ?_, ⟨_, rfl⟩, hW, hsame.mono (by decide) (by decide)⟩
    · show Steps p.tables e below (T114.setTop (mkF m 112 #[iv x_, iv (((x_.toUInt32 >>> ((16 : Int32) &&& 31).toUInt32).toInt32) &&& (3 : Int32)), rv b3] [(.int zq)])) _
      exact retN X114 hx (t := .char) Bd.returns (by simp) (hb hby d1_112) hr
    · show own_Q1 Z x_ h0 n0 _ T114.heap _
      rw [e114]
      exact ⟨nar .char zq, rfl, N117, K118, own_nc _⟩
  · skip
    have S122 : own_G p e below s0 s₁ m 115 #[iv x_, iv (((x_.toUInt32 >>> ((16 : Int32) &&& 31).toUInt32).toInt32) &&& (3 : Int32)), .unset] [(.int 1), (.int (((x_.toUInt32 >>> ((16 : Int32) &&& 31).toUInt32).toInt32) &&& (3 : Int32)))] := fun t kt => by
      refine S1 t ?_
      refine w_ifYes X0 hx hby (pc' := 113) d1_8 ((if0 _ _).trans (feq hc8).2) (by decide) ?_
      refine w_iloadN X0 hx hby d1_113 rfl ?_
      refine w_iconst X0 hx hby d1_114 ?_
      exact kt
    by_cases hc115 : (((x_.toUInt32 >>> ((16 : Int32) &&& 31).toUInt32).toInt32) &&& (3 : Int32)) = (1 : Int32)
    · skip
      have S123 : own_G p e below s0 s₁ m 124 #[iv x_, iv (((x_.toUInt32 >>> ((16 : Int32) &&& 31).toUInt32).toInt32) &&& (3 : Int32)), .unset] [(.int ((x_ &&& (255 : Int32)).toUInt32.toUInt16.toUInt32.toInt32))] := fun t kt => by
        refine S122 t ?_
        refine w_icmpNo X0 hx hby d1_115 (teq hc115).2 ?_
        refine w_iloadN X0 hx hby d1_118 rfl ?_
        refine w_sipush X0 hx hby d1_119 ?_
        refine w_iand X0 hx hby d1_122 ?_
        refine XS.i2c X0.here hx rfl (hb hby d1_123) rfl ?_
        exact kt
      obtain ⟨fs, hr, hrun, hended, hW, hsame⟩ := X0.leave (v := some (.int (nar .char ((x_ &&& (255 : Int32)).toUInt32.toUInt16.toUInt32.toInt32)))) (fun h => by rw [Bd.returns] at h; cases h)
      refine ⟨_, _, S123 _ ?_, hrun, hended, _, _, rfl, ?_, ⟨_, rfl⟩, hW, hsame.mono (by decide) (by decide)⟩
      · show Steps p.tables e below (s₁.setTop (mkF m 124 #[iv x_, iv (((x_.toUInt32 >>> ((16 : Int32) &&& 31).toUInt32).toInt32) &&& (3 : Int32)), .unset] [(.int ((x_ &&& (255 : Int32)).toUInt32.toUInt16.toUInt32.toInt32))])) _
        exact retN X0 hx (t := .char) Bd.returns (by simp) (hb hby d1_124) hr
      · show own_Q1 Z x_ h0 n0 _ s₁.heap _
        rw [e0]
        exact ⟨nar .char ((x_ &&& (255 : Int32)).toUInt32.toUInt16.toUInt32.toInt32), rfl, N0, (Keep.refl h0 []), own_nc _⟩
    · skip
      have S124 : own_G p e below s0 s₁ m 130 #[iv x_, iv (((x_.toUInt32 >>> ((16 : Int32) &&& 31).toUInt32).toInt32) &&& (3 : Int32)), .unset] [(.int ((x_ &&& (65535 : Int32)).toUInt32.toUInt16.toUInt32.toInt32))] := fun t kt => by
        refine S122 t ?_
        refine w_icmpYes X0 hx hby (pc' := 125) d1_115 (feq hc115).2 (by decide) ?_
        refine w_iloadN X0 hx hby d1_125 rfl ?_
        refine X0.ldcInt hx hown (mvT hZ (own_w hw 77 rfl)) (g := (mkF m 126 #[iv x_, iv (((x_.toUInt32 >>> ((16 : Int32) &&& 31).toUInt32).toInt32) &&& (3 : Int32)), .unset] [(.int x_)])) rfl (hb hby d1_126) _ ?_
        refine w_iand X0 hx hby d1_128 ?_
        refine XS.i2c X0.here hx rfl (hb hby d1_129) rfl ?_
        exact kt
      obtain ⟨fs, hr, hrun, hended, hW, hsame⟩ := X0.leave (v := some (.int (nar .char ((x_ &&& (65535 : Int32)).toUInt32.toUInt16.toUInt32.toInt32)))) (fun h => by rw [Bd.returns] at h; cases h)
      refine ⟨_, _, S124 _ ?_, hrun, hended, _, _, rfl, ?_, ⟨_, rfl⟩, hW, hsame.mono (by decide) (by decide)⟩
      · show Steps p.tables e below (s₁.setTop (mkF m 130 #[iv x_, iv (((x_.toUInt32 >>> ((16 : Int32) &&& 31).toUInt32).toInt32) &&& (3 : Int32)), .unset] [(.int ((x_ &&& (65535 : Int32)).toUInt32.toUInt16.toUInt32.toInt32))])) _
        exact retN X0 hx (t := .char) Bd.returns (by simp) (hb hby d1_130) hr
      · show own_Q1 Z x_ h0 n0 _ s₁.heap _
        rw [e0]
        exact ⟨nar .char ((x_ &&& (65535 : Int32)).toUInt32.toUInt16.toUInt32.toInt32), rfl, N0, (Keep.refl h0 []), own_nc _⟩
theorem own_pd17 : parseMethodDescriptor "([C)V" = some ⟨[(.array .char)], none⟩ := by decide +kernel
theorem d2_0 : decode method_6_code 0 = .ok (.iload_n 0, 1) := by decide +kernel
theorem d2_1 : decode method_6_code 1 = .ok (.ifCond .ne 14, 3) := by decide +kernel
theorem d2_4 : decode method_6_code 4 = .ok (.new 32, 3) := by decide +kernel
theorem d2_7 : decode method_6_code 7 = .ok (.dup, 1) := by decide +kernel
theorem d2_8 : decode method_6_code 8 = .ok (.iconst 0, 1) := by decide +kernel
theorem d2_9 : decode method_6_code 9 = .ok (.newarray .char, 2) := by decide +kernel
theorem d2_11 : decode method_6_code 11 = .ok (.invokespecial 34, 3) := by decide +kernel
theorem d2_14 : decode method_6_code 14 = .ok (.areturn, 1) := by decide +kernel
theorem d2_15 : decode method_6_code 15 = .ok (.iload_n 0, 1) := by decide +kernel
theorem d2_16 : decode method_6_code 16 = .ok (.iconst 1, 1) := by decide +kernel
theorem d2_17 : decode method_6_code 17 = .ok (.if_icmp .ne 18, 3) := by decide +kernel
theorem d2_20 : decode method_6_code 20 = .ok (.new 32, 3) := by decide +kernel
theorem d2_23 : decode method_6_code 23 = .ok (.dup, 1) := by decide +kernel
theorem d2_24 : decode method_6_code 24 = .ok (.iconst 1, 1) := by decide +kernel
theorem d2_25 : decode method_6_code 25 = .ok (.newarray .char, 2) := by decide +kernel
theorem d2_27 : decode method_6_code 27 = .ok (.dup, 1) := by decide +kernel
theorem d2_28 : decode method_6_code 28 = .ok (.iconst 0, 1) := by decide +kernel
theorem d2_29 : decode method_6_code 29 = .ok (.iload_n 1, 1) := by decide +kernel
theorem d2_30 : decode method_6_code 30 = .ok (.castore, 1) := by decide +kernel
theorem d2_31 : decode method_6_code 31 = .ok (.invokespecial 34, 3) := by decide +kernel
theorem d2_34 : decode method_6_code 34 = .ok (.areturn, 1) := by decide +kernel
theorem d2_35 : decode method_6_code 35 = .ok (.iload_n 0, 1) := by decide +kernel
theorem d2_36 : decode method_6_code 36 = .ok (.iconst 2, 1) := by decide +kernel
theorem d2_37 : decode method_6_code 37 = .ok (.if_icmp .ne 22, 3) := by decide +kernel
theorem d2_40 : decode method_6_code 40 = .ok (.new 32, 3) := by decide +kernel
theorem d2_43 : decode method_6_code 43 = .ok (.dup, 1) := by decide +kernel
theorem d2_44 : decode method_6_code 44 = .ok (.iconst 2, 1) := by decide +kernel
theorem d2_45 : decode method_6_code 45 = .ok (.newarray .char, 2) := by decide +kernel
theorem d2_47 : decode method_6_code 47 = .ok (.dup, 1) := by decide +kernel
theorem d2_48 : decode method_6_code 48 = .ok (.iconst 0, 1) := by decide +kernel
theorem d2_49 : decode method_6_code 49 = .ok (.iload_n 1, 1) := by decide +kernel
theorem d2_50 : decode method_6_code 50 = .ok (.castore, 1) := by decide +kernel
theorem d2_51 : decode method_6_code 51 = .ok (.dup, 1) := by decide +kernel
theorem d2_52 : decode method_6_code 52 = .ok (.iconst 1, 1) := by decide +kernel
theorem d2_53 : decode method_6_code 53 = .ok (.iload_n 2, 1) := by decide +kernel
theorem d2_54 : decode method_6_code 54 = .ok (.castore, 1) := by decide +kernel
theorem d2_55 : decode method_6_code 55 = .ok (.invokespecial 34, 3) := by decide +kernel
theorem d2_58 : decode method_6_code 58 = .ok (.areturn, 1) := by decide +kernel
theorem d2_59 : decode method_6_code 59 = .ok (.iload_n 0, 1) := by decide +kernel
theorem d2_60 : decode method_6_code 60 = .ok (.iconst 3, 1) := by decide +kernel
theorem d2_61 : decode method_6_code 61 = .ok (.if_icmp .ne 26, 3) := by decide +kernel
theorem d2_64 : decode method_6_code 64 = .ok (.new 32, 3) := by decide +kernel
theorem d2_67 : decode method_6_code 67 = .ok (.dup, 1) := by decide +kernel
theorem d2_68 : decode method_6_code 68 = .ok (.iconst 3, 1) := by decide +kernel
theorem d2_69 : decode method_6_code 69 = .ok (.newarray .char, 2) := by decide +kernel
theorem d2_71 : decode method_6_code 71 = .ok (.dup, 1) := by decide +kernel
theorem d2_72 : decode method_6_code 72 = .ok (.iconst 0, 1) := by decide +kernel
theorem d2_73 : decode method_6_code 73 = .ok (.iload_n 1, 1) := by decide +kernel
theorem d2_74 : decode method_6_code 74 = .ok (.castore, 1) := by decide +kernel
theorem d2_75 : decode method_6_code 75 = .ok (.dup, 1) := by decide +kernel
theorem d2_76 : decode method_6_code 76 = .ok (.iconst 1, 1) := by decide +kernel
theorem d2_77 : decode method_6_code 77 = .ok (.iload_n 2, 1) := by decide +kernel
theorem d2_78 : decode method_6_code 78 = .ok (.castore, 1) := by decide +kernel
theorem d2_79 : decode method_6_code 79 = .ok (.dup, 1) := by decide +kernel
theorem d2_80 : decode method_6_code 80 = .ok (.iconst 2, 1) := by decide +kernel
theorem d2_81 : decode method_6_code 81 = .ok (.iload_n 3, 1) := by decide +kernel
theorem d2_82 : decode method_6_code 82 = .ok (.castore, 1) := by decide +kernel
theorem d2_83 : decode method_6_code 83 = .ok (.invokespecial 34, 3) := by decide +kernel
theorem d2_86 : decode method_6_code 86 = .ok (.areturn, 1) := by decide +kernel
theorem d2_87 : decode method_6_code 87 = .ok (.iload_n 0, 1) := by decide +kernel
theorem d2_88 : decode method_6_code 88 = .ok (.iconst 4, 1) := by decide +kernel
theorem d2_89 : decode method_6_code 89 = .ok (.if_icmp .ne 31, 3) := by decide +kernel
theorem d2_92 : decode method_6_code 92 = .ok (.new 32, 3) := by decide +kernel
theorem d2_95 : decode method_6_code 95 = .ok (.dup, 1) := by decide +kernel
theorem d2_96 : decode method_6_code 96 = .ok (.iconst 4, 1) := by decide +kernel
theorem d2_97 : decode method_6_code 97 = .ok (.newarray .char, 2) := by decide +kernel
theorem d2_99 : decode method_6_code 99 = .ok (.dup, 1) := by decide +kernel
theorem d2_100 : decode method_6_code 100 = .ok (.iconst 0, 1) := by decide +kernel
theorem d2_101 : decode method_6_code 101 = .ok (.iload_n 1, 1) := by decide +kernel
theorem d2_102 : decode method_6_code 102 = .ok (.castore, 1) := by decide +kernel
theorem d2_103 : decode method_6_code 103 = .ok (.dup, 1) := by decide +kernel
theorem d2_104 : decode method_6_code 104 = .ok (.iconst 1, 1) := by decide +kernel
theorem d2_105 : decode method_6_code 105 = .ok (.iload_n 2, 1) := by decide +kernel
theorem d2_106 : decode method_6_code 106 = .ok (.castore, 1) := by decide +kernel
theorem d2_107 : decode method_6_code 107 = .ok (.dup, 1) := by decide +kernel
theorem d2_108 : decode method_6_code 108 = .ok (.iconst 2, 1) := by decide +kernel
theorem d2_109 : decode method_6_code 109 = .ok (.iload_n 3, 1) := by decide +kernel
theorem d2_110 : decode method_6_code 110 = .ok (.castore, 1) := by decide +kernel
theorem d2_111 : decode method_6_code 111 = .ok (.dup, 1) := by decide +kernel
theorem d2_112 : decode method_6_code 112 = .ok (.iconst 3, 1) := by decide +kernel
theorem d2_113 : decode method_6_code 113 = .ok (.iload 4, 2) := by decide +kernel
theorem d2_115 : decode method_6_code 115 = .ok (.castore, 1) := by decide +kernel
theorem d2_116 : decode method_6_code 116 = .ok (.invokespecial 34, 3) := by decide +kernel
theorem d2_119 : decode method_6_code 119 = .ok (.areturn, 1) := by decide +kernel
theorem d2_120 : decode method_6_code 120 = .ok (.new 32, 3) := by decide +kernel
theorem d2_123 : decode method_6_code 123 = .ok (.dup, 1) := by decide +kernel
theorem d2_124 : decode method_6_code 124 = .ok (.iconst 5, 1) := by decide +kernel
theorem d2_125 : decode method_6_code 125 = .ok (.newarray .char, 2) := by decide +kernel
theorem d2_127 : decode method_6_code 127 = .ok (.dup, 1) := by decide +kernel
theorem d2_128 : decode method_6_code 128 = .ok (.iconst 0, 1) := by decide +kernel
theorem d2_129 : decode method_6_code 129 = .ok (.iload_n 1, 1) := by decide +kernel
theorem d2_130 : decode method_6_code 130 = .ok (.castore, 1) := by decide +kernel
theorem d2_131 : decode method_6_code 131 = .ok (.dup, 1) := by decide +kernel
theorem d2_132 : decode method_6_code 132 = .ok (.iconst 1, 1) := by decide +kernel
theorem d2_133 : decode method_6_code 133 = .ok (.iload_n 2, 1) := by decide +kernel
theorem d2_134 : decode method_6_code 134 = .ok (.castore, 1) := by decide +kernel
theorem d2_135 : decode method_6_code 135 = .ok (.dup, 1) := by decide +kernel
theorem d2_136 : decode method_6_code 136 = .ok (.iconst 2, 1) := by decide +kernel
theorem d2_137 : decode method_6_code 137 = .ok (.iload_n 3, 1) := by decide +kernel
theorem d2_138 : decode method_6_code 138 = .ok (.castore, 1) := by decide +kernel
theorem d2_139 : decode method_6_code 139 = .ok (.dup, 1) := by decide +kernel
theorem d2_140 : decode method_6_code 140 = .ok (.iconst 3, 1) := by decide +kernel
theorem d2_141 : decode method_6_code 141 = .ok (.iload 4, 2) := by decide +kernel
theorem d2_143 : decode method_6_code 143 = .ok (.castore, 1) := by decide +kernel
theorem d2_144 : decode method_6_code 144 = .ok (.dup, 1) := by decide +kernel
theorem d2_145 : decode method_6_code 145 = .ok (.iconst 4, 1) := by decide +kernel
theorem d2_146 : decode method_6_code 146 = .ok (.iload 5, 2) := by decide +kernel
theorem d2_148 : decode method_6_code 148 = .ok (.castore, 1) := by decide +kernel
theorem d2_149 : decode method_6_code 149 = .ok (.invokespecial 34, 3) := by decide +kernel
theorem d2_152 : decode method_6_code 152 = .ok (.areturn, 1) := by decide +kernel
theorem own_ef2 (m : MethodId) (x0 : Int32) (x1 : Int32) (x2 : Int32) (x3 : Int32) (x4 : Int32) (x5 : Int32) : entryFrame m #[(.int x0), (.int x1), (.int x2), (.int x3), (.int x4), (.int x5)] 6 = mkF m 0 #[iv x0, iv x1, iv x2, iv x3, iv x4, iv x5] [] := by first | (simp [entryFrame, mkF, argsToLocals, Value.category]; done) | rfl
def own_Q2 (Z : State) (n_ : Int32) (c0 : Int32) (c1 : Int32) (c2 : Int32) (c3 : Int32) (c4 : Int32) (cs : Int32) (h0 : Heap) (n0 : Nat) (v : Option Value) (h : Heap) (L : List Loc) : Prop := ∃ (r : Addr), v = some (.ref r) ∧ Fr n0 L ∧ Keep h0 h [] ∧ own_Str Z h r (own_cs n_ c0 c1 c2 c3 c4)
set_option maxHeartbeats 40000000 in
theorem own_rm2 (l : Launch) (Z : State) (a0 : Array Value) (hw : ∀ d ∈ tables_1, d.before a0 Z = true) (ws : List Jvm.Cond) (n_ : Int32) (c0 : Int32) (c1 : Int32) (c2 : Int32) (c3 : Int32) (c4 : Int32) (cs : Int32) (h0 : Heap) (n0 : Nat) (Z0 : n0 ≤ h0.size) (S_CS : Sta Z h0 "java/lang/String" "COMPACT_STRINGS" "Z" (.int cs)) (hcs : ¬ cs = (0 : Int32)) (S_AD : Sta Z h0 own_s2 own_s3 "Z" (.int 1)) (S_HI : Sta Z h0 own_s2 "HI_BYTE_SHIFT" "I" (.int 0)) (S_LO : Sta Z h0 own_s2 "LO_BYTE_SHIFT" "I" (.int 8)) (hN : 0 ≤ n_.toInt ∧ n_.toInt ≤ 5) (hb0 : own_ch c0) (hb1 : own_ch c1) (hb2 : own_ch c2) (hb3 : own_ch c3) (hb4 : own_ch c4) :
    MetFree l own_y0 (head1 (Jvm.Cond.code own_y0 method_6_code 6 (some (.object "java/lang/String")) :: ws) ({ frames := 6, cells := 6, slots := 24, locals := 88 } : Room)) (fun argv U => argv = #[(.int n_), (.int c0), (.int c1), (.int c2), (.int c3), (.int c4)] ∧ Z.Warmed39 U.vm ∧ U.heap = h0 ∧ CHv Z own_EL U.vm h0) (fun _ _ _ _ _ => True) (fun _ U o U' => ∃ v L, o = .returned v ∧ own_Q2 Z n_ c0 c1 c2 c3 c4 cs h0 n0 v U'.heap L ∧ CHr Z own_EL U.vm U.heap U'.vm U'.heap ∧ ReturnedEndW U o U' L ({ frames := 6, cells := 6, slots := 24, locals := 88 } : Room).cells ({ frames := 6, cells := 6, slots := 24, locals := 88 } : Room).slots) := by
  refine MetFree.of_bodySF (plainFor_of_name own_pn5) hisR ?_
  intro p e s m args below meth c s₁ Bd hml0 hP hK
  obtain ⟨rfl, hZ, hh, hC0⟩ := hP
  have hx := Bd.exec
  have hby := Bd.bytes
  have hml : c.maxLocals = 6 := hml0
  have hown : s.vm.findClass "com/example/splode/splode/document/CoreSchemaRadixPinLaw" = some m.cls := findClass_of_methodNamed Bd.named
  have hnm := (name_of_methodNamed Bd.named Bd.method).1
  have X0 : Stand p l e ({ frames := 6, cells := 6, slots := 24, locals := 88 } : Room) (s.setVm s.vm) m #[(.int n_), (.int c0), (.int c1), (.int c2), (.int c3), (.int c4)] below meth c s₁ [] 0 0 := Stand.of_body Bd
  have e0 : s₁.heap = h0 := by rw [← hh, Bd.state]; rfl
  have N0 := Fr.nil n0
  have pre_ : own_G p e below (s₁.setTop (entryFrame m #[(.int n_), (.int c0), (.int c1), (.int c2), (.int c3), (.int c4)] 6)) s₁ m 0 #[iv n_, iv c0, iv c1, iv c2, iv c3, iv c4] [] := fun t k => castTop (own_ef2 m n_ c0 c1 c2 c3 c4) k
  obtain ⟨s0, hs0⟩ : ∃ z, z = (s₁.setTop (entryFrame m #[(.int n_), (.int c0), (.int c1), (.int c2), (.int c3), (.int c4)] 6)) := ⟨_, rfl⟩
  have pre0 : own_G p e below s0 s₁ m 0 #[iv n_, iv c0, iv c1, iv c2, iv c3, iv c4] [] := hs0 ▸ pre_
  rw [← hs0]
  have CR0 : CHr Z own_EL s.vm h0 s.vm h0 := CHr.refl hC0
  have hEL := own_EW hw
  have hS0 : s.Since s.vm h0.size := (State.WarmedH.refl s).since _
  have wS := own_wS hw
  have S1 : own_G p e below s0 s₁ m 1 #[iv n_, iv c0, iv c1, iv c2, iv c3, iv c4] [(.int n_)] := fun t kt => by
    refine pre0 t ?_
    refine w_iloadN X0 hx hby d2_0 rfl ?_
    exact kt
  by_cases hc1 : n_ = (0 : Int32)
  · skip
    have S2 : own_G p e below s0 s₁ m 4 #[iv n_, iv c0, iv c1, iv c2, iv c3, iv c4] [] := fun t kt => by
      refine S1 t ?_
      refine w_ifNo X0 hx hby d2_1 ((if0 _ _).trans (teq hc1).2) ?_
      exact kt
    obtain ⟨T3, h3, X3, e3, E3, A3, D3, -, st3⟩ := newO X0 hx hZ hown (own_w hw 9 rfl) (own_w hw 10 rfl) (own_w hw 11 rfl) e0 (g := (mkF m 4 #[iv n_, iv c0, iv c1, iv c2, iv c3, iv c4] [])) rfl (hb hby d2_4) (by decide) (by decide)
    obtain ⟨b3, g3⟩ : ∃ z, z = h0.size := ⟨_, rfl⟩
    rw [← g3] at A3 D3 st3
    have S4 : own_G p e below s0 T3 m 7 #[iv n_, iv c0, iv c1, iv c2, iv c3, iv c4] [(.ref b3)] := fun t kt => S2 t (st3 _ kt)
    have Sf_b3 : Safe Z own_EL s.vm h3 b3 := Safe.ext E3 CR0.1 (Safe.new (Nat.le_of_eq g3.symm))
    have CR5 := CR0.trans (CHr.ext E3 CR0.1)
    have g_b3 : n0 ≤ b3 := Nat.le_trans Z0 (Nat.le_of_eq g3.symm)
    have sz_b3 : h0.size ≤ b3 := Nat.le_trans (Keep.refl h0 []).1 (Nat.le_of_eq g3.symm)
    have F6 := S_CS.ext E3
    have F7 := S_AD.ext E3
    have F8 := S_HI.ext E3
    have F9 := S_LO.ext E3
    have K10 : Keep h0 h3 [] := (Keep.refl h0 []).ext E3
    have F11 : Fld Z h3 b3 "java/lang/String" "value" "[B" .null := D3 (Or.inr (own_w hw 24 rfl)) (ty := (.array .byte)) (by decide)
    have F12 : Fld Z h3 b3 "java/lang/String" "coder" "B" (.int 0) := D3 (Or.inr (own_w hw 25 rfl)) (ty := .byte) (by decide)
    have S13 : own_G p e below s0 T3 m 9 #[iv n_, iv c0, iv c1, iv c2, iv c3, iv c4] [(.int 0), (.ref b3), (.ref b3)] := fun t kt => by
      refine S4 t ?_
      refine w_dup X3 hx hby d2_7 rfl ?_
      refine w_iconst X3 hx hby d2_8 ?_
      exact kt
    obtain ⟨T14, h14, k14, X14, e14, E14, A14, st14⟩ := newP X3 hx hZ (own_w hw 5 rfl) e3 (g := (mkF m 9 #[iv n_, iv c0, iv c1, iv c2, iv c3, iv c4] [(.int 0), (.ref b3), (.ref b3)])) rfl (hb hby d2_9) rfl (by decide) (cap := 0) (by decide) (by decide) (by decide) (by decide)
    obtain ⟨b14, g14⟩ : ∃ z, z = h3.size := ⟨_, rfl⟩
    rw [← g14] at A14 st14
    have S15 : own_G p e below s0 T14 m 11 #[iv n_, iv c0, iv c1, iv c2, iv c3, iv c4] [(.ref b14), (.ref b3), (.ref b3)] := fun t kt => S13 t (st14 _ kt)
    have Sf_b14 : Safe Z own_EL s.vm h14 b14 := Safe.ext E14 CR5.1 (Safe.new (Nat.le_of_eq g14.symm))
    have Sf16 := Safe.ext E14 CR5.1 Sf_b3
    have CR17 := CR5.trans (CHr.ext E14 CR5.1)
    have g_b14 : n0 ≤ b14 := Nat.le_trans (Nat.le_trans Z0 K10.1) (Nat.le_of_eq g14.symm)
    have sz_b14 : h0.size ≤ b14 := Nat.le_trans K10.1 (Nat.le_of_eq g14.symm)
    have ne_b3_b14 : b3 ≠ b14 := Nat.ne_of_lt (Nat.lt_of_lt_of_le A3.lt (Nat.le_of_eq g14.symm))
    have F18 := F6.ext E14
    have F19 := F7.ext E14
    have F20 := F8.ext E14
    have F21 := F9.ext E14
    have F22 := A3.ext E14
    have F23 := F11.ext E14
    have F24 := F12.ext E14
    have K25 : Keep h0 h14 [] := K10.ext E14
    have V26 : Arv Z h14 b14 k14 .char (0 : Int32) [] (.int 0) := Arv.new A14 (by decide)
    obtain ⟨_, _, ⟨T29, L29, k29, n29⟩, -, X29_, hSr29, hgr29, ⟨Lc29, hQ29, l29, y29, z29, hCr29⟩, st29⟩ := X14.specialBackS hx (y := own_y21) rfl hown (mvT hZ (own_w hw 12 rfl)) (mvT hZ (own_w hw 13 rfl)) (mvT hZ (own_w hw 14 rfl)) (by decide) (own_backSE (EL := own_EL) (s := s) (vm0 := s.vm) (W := 1) (own_rm3k0 l Z a0 hw [] (b3) (b14) (k14) (.null) ((.int 0)) h14 n0 (Nat.le_trans Z0 K25.1) F22 g_b3 F23 F24 V26) hZ (own_w hw 14 rfl) (own_w hw 11 rfl) (by decide) (by decide) hEL CR17.1 (fun _ A => A.safe (F22.lt) Sf16)) (g := (mkF m 11 #[iv n_, iv c0, iv c1, iv c2, iv c3, iv c4] [(.ref b14), (.ref b3), (.ref b3)])) rfl (by rw [hml]; rfl) (Steps.refl _) (a := b3) (argsL := [(.ref b14)]) (rest := [(.ref b3)]) (lenOf own_pd17 rfl) rfl (by show 2 * 0 + _ ≤ _; exact Nat.le_of_eq rfl) (hb hby d2_11) (fun _ _ => ⟨rfl, e14, (by decide : 2 + 4 ≤ _), (by decide : 4 + 8 ≤ _)⟩)
    dsimp only [Pt.U, Pt.locs, Pt.cells, Pt.slots] at X29_ hSr29 hgr29 l29 y29 z29 hCr29 st29 hQ29
    subst l29 y29 z29
    obtain ⟨X29, hS29, hZ29, ho29⟩ := rebS hS0 (by rw [e14]; exact (Nat.le_trans (Nat.le_trans (Nat.le_refl _) E3.1) E14.1)) X29_ hSr29 hgr29 hZ hown
    obtain ⟨rfl, Nq29, Kc27, Ec27, Cc27, tb27, kt27, nat27, Fv27, Va27⟩ := hQ29
    have N30 := Fr.app N0 Nq29
    have S31 : own_G p e below s0 T29 m 14 #[iv n_, iv c0, iv c1, iv c2, iv c3, iv c4] [(.ref b3)] := fun t kt => S15 t (st29.trans kt)
    have Sf32 := hCr29.safe (F22.lt) Sf16
    have Sf33 := hCr29.safe (V26.lt) Sf_b14
    have CR34 := CR17.trans hCr29
    have F35 := own_StaK F18 Kc27 (allS (own_ExaS F22) all0)
    have F36 := own_StaK F19 Kc27 (allS (own_ExaS F22) all0)
    have F37 := own_StaK F20 Kc27 (allS (own_ExaS F22) all0)
    have F38 := own_StaK F21 Kc27 (allS (own_ExaS F22) all0)
    have F39 := F22.keep Kc27
    have F40 := V26.keep Kc27 (ninS (Ne.symm ne_b3_b14) nin0)
    have K41 : Keep h0 T29.heap [] := K25.trans Kc27 (allS (Or.inr sz_b3) all0)
    obtain ⟨fs, hr, hrun, hended, -, hW, hBk, hsame⟩ := X29.leaveW hS29 ((Nat.le_refl _)) (v := some (.ref b3)) (fun h => by rw [Bd.returns] at h; cases h)
    refine ⟨_, _, S31 _ ?_, hrun, hended, _, _, rfl, ?_, (by show CHr Z own_EL s.vm s.heap T29.vm T29.heap; rw [hh]; exact CR34.trans (CHv.at X29 hZ29 hEL CR34.1)), ⟨_, rfl⟩, hW, hBk, hsame.mono (by decide) (by decide)⟩
    · show Steps p.tables e below (T29.setTop (mkF m 14 #[iv n_, iv c0, iv c1, iv c2, iv c3, iv c4] [(.ref b3)])) _
      jvm_step X29.here [X29.here.top, hx, (hb hby d2_14), X29.method', Bd.returns, Value.isRef, FieldType.isReference]
      first | (intro acts; rw [hr _ acts rfl rfl rfl]) | rw [hr _ _ rfl rfl rfl]
      exact Steps.refl _
    · show own_Q2 Z n_ c0 c1 c2 c3 c4 cs h0 n0 _ T29.heap _
      exact ⟨b3, rfl, N30, K41, (by rw [show n_ = (0 : Int32) from hc1]; show own_Str Z _ b3 []; exact ⟨Ec27, tb27, kt27, Fv27, Or.inl ⟨Cc27, Va27, fun c hc => by cases hc⟩⟩)⟩
  · skip
    have S42 : own_G p e below s0 s₁ m 17 #[iv n_, iv c0, iv c1, iv c2, iv c3, iv c4] [(.int 1), (.int n_)] := fun t kt => by
      refine S1 t ?_
      refine w_ifYes X0 hx hby (pc' := 15) d2_1 ((if0 _ _).trans (feq hc1).2) (by decide) ?_
      refine w_iloadN X0 hx hby d2_15 rfl ?_
      refine w_iconst X0 hx hby d2_16 ?_
      exact kt
    by_cases hc17 : n_ = (1 : Int32)
    · skip
      have S43 : own_G p e below s0 s₁ m 20 #[iv n_, iv c0, iv c1, iv c2, iv c3, iv c4] [] := fun t kt => by
        refine S42 t ?_
        refine w_icmpNo X0 hx hby d2_17 (teq hc17).2 ?_
        exact kt
      obtain ⟨T44, h44, X44, e44, E44, A44, D44, -, st44⟩ := newO X0 hx hZ hown (own_w hw 9 rfl) (own_w hw 10 rfl) (own_w hw 11 rfl) e0 (g := (mkF m 20 #[iv n_, iv c0, iv c1, iv c2, iv c3, iv c4] [])) rfl (hb hby d2_20) (by decide) (by decide)
      obtain ⟨b44, g44⟩ : ∃ z, z = h0.size := ⟨_, rfl⟩
      rw [← g44] at A44 D44 st44
      have S45 : own_G p e below s0 T44 m 23 #[iv n_, iv c0, iv c1, iv c2, iv c3, iv c4] [(.ref b44)] := fun t kt => S43 t (st44 _ kt)
      have Sf_b44 : Safe Z own_EL s.vm h44 b44 := Safe.ext E44 CR0.1 (Safe.new (Nat.le_of_eq g44.symm))
      have CR46 := CR0.trans (CHr.ext E44 CR0.1)
      have g_b44 : n0 ≤ b44 := Nat.le_trans Z0 (Nat.le_of_eq g44.symm)
      have sz_b44 : h0.size ≤ b44 := Nat.le_trans (Keep.refl h0 []).1 (Nat.le_of_eq g44.symm)
      have F47 := S_CS.ext E44
      have F48 := S_AD.ext E44
      have F49 := S_HI.ext E44
      have F50 := S_LO.ext E44
      have K51 : Keep h0 h44 [] := (Keep.refl h0 []).ext E44
      have F52 : Fld Z h44 b44 "java/lang/String" "value" "[B" .null := D44 (Or.inr (own_w hw 24 rfl)) (ty := (.array .byte)) (by decide)
      have F53 : Fld Z h44 b44 "java/lang/String" "coder" "B" (.int 0) := D44 (Or.inr (own_w hw 25 rfl)) (ty := .byte) (by decide)
      have S54 : own_G p e below s0 T44 m 25 #[iv n_, iv c0, iv c1, iv c2, iv c3, iv c4] [(.int 1), (.ref b44), (.ref b44)] := fun t kt => by
        refine S45 t ?_
        refine w_dup X44 hx hby d2_23 rfl ?_
        refine w_iconst X44 hx hby d2_24 ?_
        exact kt
      obtain ⟨T55, h55, k55, X55, e55, E55, A55, st55⟩ := newP X44 hx hZ (own_w hw 5 rfl) e44 (g := (mkF m 25 #[iv n_, iv c0, iv c1, iv c2, iv c3, iv c4] [(.int 1), (.ref b44), (.ref b44)])) rfl (hb hby d2_25) rfl (by decide) (cap := 1) (by decide) (by decide) (by decide) (by decide)
      obtain ⟨b55, g55⟩ : ∃ z, z = h44.size := ⟨_, rfl⟩
      rw [← g55] at A55 st55
      have S56 : own_G p e below s0 T55 m 27 #[iv n_, iv c0, iv c1, iv c2, iv c3, iv c4] [(.ref b55), (.ref b44), (.ref b44)] := fun t kt => S54 t (st55 _ kt)
      have Sf_b55 : Safe Z own_EL s.vm h55 b55 := Safe.ext E55 CR46.1 (Safe.new (Nat.le_of_eq g55.symm))
      have Sf57 := Safe.ext E55 CR46.1 Sf_b44
      have CR58 := CR46.trans (CHr.ext E55 CR46.1)
      have g_b55 : n0 ≤ b55 := Nat.le_trans (Nat.le_trans Z0 K51.1) (Nat.le_of_eq g55.symm)
      have sz_b55 : h0.size ≤ b55 := Nat.le_trans K51.1 (Nat.le_of_eq g55.symm)
      have ne_b44_b55 : b44 ≠ b55 := Nat.ne_of_lt (Nat.lt_of_lt_of_le A44.lt (Nat.le_of_eq g55.symm))
      have F59 := F47.ext E55
      have F60 := F48.ext E55
      have F61 := F49.ext E55
      have F62 := F50.ext E55
      have F63 := A44.ext E55
      have F64 := F52.ext E55
      have F65 := F53.ext E55
      have K66 : Keep h0 h55 [] := K51.ext E55
      have V67 : Arv Z h55 b55 k55 .char (1 : Int32) [(.int 0)] (.int 0) := (Arv.new A55 (by decide)).pad (pad_rep [] (.int 0) 1)
      have S68 : own_G p e below s0 T55 m 30 #[iv n_, iv c0, iv c1, iv c2, iv c3, iv c4] [(.int c0), (.int 0), (.ref b55), (.ref b55), (.ref b44), (.ref b44)] := fun t kt => by
        refine S56 t ?_
        refine w_dup X55 hx hby d2_27 rfl ?_
        refine w_iconst X55 hx hby d2_28 ?_
        refine w_iloadN X55 hx hby d2_29 rfl ?_
        exact kt
      obtain ⟨cl69, Ar69, q69, Sz69, Nn69, Hh69, Gg69⟩ := id V67
      have hin69 : ¬ ((0 : Int32) < 0 ∨ cl69.slots.size ≤ ((0 : Int32)).toNatClampNeg) := inb_of Sz69 ⟨by decide, by decide⟩
      obtain ⟨T70, h70, X70, e70, W70, st70⟩ := stC X55 hx hZ e55 Ar69 (j := (0 : Int32)) hin69 (g := (mkF m 30 #[iv n_, iv c0, iv c1, iv c2, iv c3, iv c4] [(.int c0), (.int 0), (.ref b55), (.ref b55), (.ref b44), (.ref b44)])) rfl rfl (hb hby d2_30)
      have S71 : own_G p e below s0 T70 m 31 #[iv n_, iv c0, iv c1, iv c2, iv c3, iv c4] [(.ref b55), (.ref b44), (.ref b44)] := fun t kt => S68 t (st70 _ kt)
      have V72 := Arv.set Ar69 q69 Sz69 Nn69 Hh69 Gg69 (fits_nar_char _) W70 0 rfl (Nat.le_of_ble_eq_true rfl)
      have Sf73 := Safe.wr W70 Sf_b55 CR58.1 Sf57
      have Sf74 := Safe.wr W70 Sf_b55 CR58.1 Sf_b55
      have CR75 := CR58.trans (CHr.wr W70 Sf_b55 CR58.1)
      have F76 := F59.wr W70
      have F77 := F60.wr W70
      have F78 := F61.wr W70
      have F79 := F62.wr W70
      have F80 := F63.wr W70
      have F81 := F64.other W70 (Or.inl ne_b44_b55)
      have F82 := F65.other W70 (Or.inl ne_b44_b55)
      have N83 := Fr.snoc X70 N0 g_b55
      have K84 : Keep h0 h70 [] := K66.wr W70 (Or.inr sz_b55)
      obtain ⟨_, _, ⟨T87, L87, k87, n87⟩, -, X87, ⟨Lc87, hQ87, l87, y87, z87⟩, st87⟩ := X70.specialBack hx (y := own_y21) rfl hown (mvT hZ (own_w hw 12 rfl)) (mvT hZ (own_w hw 13 rfl)) (mvT hZ (own_w hw 14 rfl)) (by decide) (backOf (W := 1) (own_rm3 l Z a0 hw [] (b44) (b55) ((1 : Int32)) ([(nar .char c0)]) (k55) (cs) (.null) ((.int 0)) h70 n0 (Nat.le_trans Z0 K84.1) F80 g_b44 F81 F82 F76 hcs V72 F77 F78 F79 (by intro c hc; simp only [List.mem_cons, List.not_mem_nil, or_false] at hc; rcases hc with rfl <;> exact own_nc _) rfl (Nat.le_of_ble_eq_true rfl) (List.cons_ne_nil _ _)) hZ (own_w hw 14 rfl) (own_w hw 11 rfl) (by decide) (by decide)) (g := (mkF m 31 #[iv n_, iv c0, iv c1, iv c2, iv c3, iv c4] [(.ref b55), (.ref b44), (.ref b44)])) rfl (by rw [hml]; rfl) (Steps.refl _) (a := b44) (argsL := [(.ref b55)]) (rest := [(.ref b44)]) (lenOf own_pd17 rfl) rfl (by show 2 * 0 + _ ≤ _; exact Nat.le_of_eq rfl) (hb hby d2_31) (fun _ _ => ⟨rfl, e70, (by decide : 2 + 2 ≤ _), (by decide : 5 + 15 ≤ _)⟩)
      dsimp only [Pt.U, Pt.locs, Pt.cells, Pt.slots] at X87 l87 y87 z87 st87 hQ87
      subst l87 y87 z87
      obtain ⟨rfl, Nq87, Kc85, OS85⟩ := hQ87
      have N88 := Fr.app N83 Nq87
      have S89 : own_G p e below s0 T87 m 34 #[iv n_, iv c0, iv c1, iv c2, iv c3, iv c4] [(.ref b44)] := fun t kt => S71 t (st87.trans kt)
      have Sf90 := Safe.keep Kc85 (allS Sf73 all0) CR75.1 Sf73
      have Sf91 := Safe.keep Kc85 (allS Sf73 all0) CR75.1 Sf74
      have CR92 := CR75.trans (CHr.keep Kc85 (allS Sf73 all0) CR75.1)
      have F93 := own_StaK F76 Kc85 (allS (own_ExaS F80) all0)
      have F94 := own_StaK F77 Kc85 (allS (own_ExaS F80) all0)
      have F95 := own_StaK F78 Kc85 (allS (own_ExaS F80) all0)
      have F96 := own_StaK F79 Kc85 (allS (own_ExaS F80) all0)
      have F97 := F80.keep Kc85
      have F98 := V72.keep Kc85 (ninS (Ne.symm ne_b44_b55) nin0)
      have K99 : Keep h0 T87.heap [] := K84.trans Kc85 (allS (Or.inr sz_b44) all0)
      obtain ⟨fs, hr, hrun, hended, -, hW, hBk, hsame⟩ := X87.leaveW hS0 ((Nat.le_trans (Nat.le_trans (Nat.le_trans (Nat.le_trans (Nat.le_refl _) E44.1) E55.1) (Keep.of_wr W70).1) Kc85.1)) (v := some (.ref b44)) (fun h => by rw [Bd.returns] at h; cases h)
      refine ⟨_, _, S89 _ ?_, hrun, hended, _, _, rfl, ?_, (by show CHr Z own_EL s.vm s.heap T87.vm T87.heap; rw [hh]; exact CR92.trans (CHv.at X87 hZ hEL CR92.1)), ⟨_, rfl⟩, hW, hBk, hsame.mono (by decide) (by decide)⟩
      · show Steps p.tables e below (T87.setTop (mkF m 34 #[iv n_, iv c0, iv c1, iv c2, iv c3, iv c4] [(.ref b44)])) _
        jvm_step X87.here [X87.here.top, hx, (hb hby d2_34), X87.method', Bd.returns, Value.isRef, FieldType.isReference]
        first | (intro acts; rw [hr _ acts rfl rfl rfl]) | rw [hr _ _ rfl rfl rfl]
        exact Steps.refl _
      · show own_Q2 Z n_ c0 c1 c2 c3 c4 cs h0 n0 _ T87.heap _
        exact ⟨b44, rfl, N88, K99, (by have q := OS85; rw [own_ncid hb0] at q; rw [show n_ = (1 : Int32) from hc17]; exact q)⟩
    · skip
      have S100 : own_G p e below s0 s₁ m 37 #[iv n_, iv c0, iv c1, iv c2, iv c3, iv c4] [(.int 2), (.int n_)] := fun t kt => by
        refine S42 t ?_
        refine w_icmpYes X0 hx hby (pc' := 35) d2_17 (feq hc17).2 (by decide) ?_
        refine w_iloadN X0 hx hby d2_35 rfl ?_
        refine w_iconst X0 hx hby d2_36 ?_
        exact kt
      by_cases hc37 : n_ = (2 : Int32)
      · skip
        have S101 : own_G p e below s0 s₁ m 40 #[iv n_, iv c0, iv c1, iv c2, iv c3, iv c4] [] := fun t kt => by
          refine S100 t ?_
          refine w_icmpNo X0 hx hby d2_37 (teq hc37).2 ?_
          exact kt
        obtain ⟨T102, h102, X102, e102, E102, A102, D102, -, st102⟩ := newO X0 hx hZ hown (own_w hw 9 rfl) (own_w hw 10 rfl) (own_w hw 11 rfl) e0 (g := (mkF m 40 #[iv n_, iv c0, iv c1, iv c2, iv c3, iv c4] [])) rfl (hb hby d2_40) (by decide) (by decide)
        obtain ⟨b102, g102⟩ : ∃ z, z = h0.size := ⟨_, rfl⟩
        rw [← g102] at A102 D102 st102
        have S103 : own_G p e below s0 T102 m 43 #[iv n_, iv c0, iv c1, iv c2, iv c3, iv c4] [(.ref b102)] := fun t kt => S101 t (st102 _ kt)
        have Sf_b102 : Safe Z own_EL s.vm h102 b102 := Safe.ext E102 CR0.1 (Safe.new (Nat.le_of_eq g102.symm))
        have CR104 := CR0.trans (CHr.ext E102 CR0.1)
        have g_b102 : n0 ≤ b102 := Nat.le_trans Z0 (Nat.le_of_eq g102.symm)
        have sz_b102 : h0.size ≤ b102 := Nat.le_trans (Keep.refl h0 []).1 (Nat.le_of_eq g102.symm)
        have F105 := S_CS.ext E102
        have F106 := S_AD.ext E102
        have F107 := S_HI.ext E102
        have F108 := S_LO.ext E102
        have K109 : Keep h0 h102 [] := (Keep.refl h0 []).ext E102
        have F110 : Fld Z h102 b102 "java/lang/String" "value" "[B" .null := D102 (Or.inr (own_w hw 24 rfl)) (ty := (.array .byte)) (by decide)
        have F111 : Fld Z h102 b102 "java/lang/String" "coder" "B" (.int 0) := D102 (Or.inr (own_w hw 25 rfl)) (ty := .byte) (by decide)
        have S112 : own_G p e below s0 T102 m 45 #[iv n_, iv c0, iv c1, iv c2, iv c3, iv c4] [(.int 2), (.ref b102), (.ref b102)] := fun t kt => by
          refine S103 t ?_
          refine w_dup X102 hx hby d2_43 rfl ?_
          refine w_iconst X102 hx hby d2_44 ?_
          exact kt
        obtain ⟨T113, h113, k113, X113, e113, E113, A113, st113⟩ := newP X102 hx hZ (own_w hw 5 rfl) e102 (g := (mkF m 45 #[iv n_, iv c0, iv c1, iv c2, iv c3, iv c4] [(.int 2), (.ref b102), (.ref b102)])) rfl (hb hby d2_45) rfl (by decide) (cap := 2) (by decide) (by decide) (by decide) (by decide)
        obtain ⟨b113, g113⟩ : ∃ z, z = h102.size := ⟨_, rfl⟩
        rw [← g113] at A113 st113
        have S114 : own_G p e below s0 T113 m 47 #[iv n_, iv c0, iv c1, iv c2, iv c3, iv c4] [(.ref b113), (.ref b102), (.ref b102)] := fun t kt => S112 t (st113 _ kt)
        have Sf_b113 : Safe Z own_EL s.vm h113 b113 := Safe.ext E113 CR104.1 (Safe.new (Nat.le_of_eq g113.symm))
        have Sf115 := Safe.ext E113 CR104.1 Sf_b102
        have CR116 := CR104.trans (CHr.ext E113 CR104.1)
        have g_b113 : n0 ≤ b113 := Nat.le_trans (Nat.le_trans Z0 K109.1) (Nat.le_of_eq g113.symm)
        have sz_b113 : h0.size ≤ b113 := Nat.le_trans K109.1 (Nat.le_of_eq g113.symm)
        have ne_b102_b113 : b102 ≠ b113 := Nat.ne_of_lt (Nat.lt_of_lt_of_le A102.lt (Nat.le_of_eq g113.symm))
        have F117 := F105.ext E113
        have F118 := F106.ext E113
        have F119 := F107.ext E113
        have F120 := F108.ext E113
        have F121 := A102.ext E113
        have F122 := F110.ext E113
        have F123 := F111.ext E113
        have K124 : Keep h0 h113 [] := K109.ext E113
        have V125 : Arv Z h113 b113 k113 .char (2 : Int32) [(.int 0), (.int 0)] (.int 0) := (Arv.new A113 (by decide)).pad (pad_rep [] (.int 0) 2)
        have S126 : own_G p e below s0 T113 m 50 #[iv n_, iv c0, iv c1, iv c2, iv c3, iv c4] [(.int c0), (.int 0), (.ref b113), (.ref b113), (.ref b102), (.ref b102)] := fun t kt => by
          refine S114 t ?_
          refine w_dup X113 hx hby d2_47 rfl ?_
          refine w_iconst X113 hx hby d2_48 ?_
          refine w_iloadN X113 hx hby d2_49 rfl ?_
          exact kt
        obtain ⟨cl127, Ar127, q127, Sz127, Nn127, Hh127, Gg127⟩ := id V125
        have hin127 : ¬ ((0 : Int32) < 0 ∨ cl127.slots.size ≤ ((0 : Int32)).toNatClampNeg) := inb_of Sz127 ⟨by decide, by decide⟩
        obtain ⟨T128, h128, X128, e128, W128, st128⟩ := stC X113 hx hZ e113 Ar127 (j := (0 : Int32)) hin127 (g := (mkF m 50 #[iv n_, iv c0, iv c1, iv c2, iv c3, iv c4] [(.int c0), (.int 0), (.ref b113), (.ref b113), (.ref b102), (.ref b102)])) rfl rfl (hb hby d2_50)
        have S129 : own_G p e below s0 T128 m 51 #[iv n_, iv c0, iv c1, iv c2, iv c3, iv c4] [(.ref b113), (.ref b102), (.ref b102)] := fun t kt => S126 t (st128 _ kt)
        have V130 := Arv.set Ar127 q127 Sz127 Nn127 Hh127 Gg127 (fits_nar_char _) W128 0 rfl (Nat.le_of_ble_eq_true rfl)
        have Sf131 := Safe.wr W128 Sf_b113 CR116.1 Sf115
        have Sf132 := Safe.wr W128 Sf_b113 CR116.1 Sf_b113
        have CR133 := CR116.trans (CHr.wr W128 Sf_b113 CR116.1)
        have F134 := F117.wr W128
        have F135 := F118.wr W128
        have F136 := F119.wr W128
        have F137 := F120.wr W128
        have F138 := F121.wr W128
        have F139 := F122.other W128 (Or.inl ne_b102_b113)
        have F140 := F123.other W128 (Or.inl ne_b102_b113)
        have N141 := Fr.snoc X128 N0 g_b113
        have K142 : Keep h0 h128 [] := K124.wr W128 (Or.inr sz_b113)
        have S143 : own_G p e below s0 T128 m 54 #[iv n_, iv c0, iv c1, iv c2, iv c3, iv c4] [(.int c1), (.int 1), (.ref b113), (.ref b113), (.ref b102), (.ref b102)] := fun t kt => by
          refine S129 t ?_
          refine w_dup X128 hx hby d2_51 rfl ?_
          refine w_iconst X128 hx hby d2_52 ?_
          refine w_iloadN X128 hx hby d2_53 rfl ?_
          exact kt
        obtain ⟨cl144, Ar144, q144, Sz144, Nn144, Hh144, Gg144⟩ := id V130
        have hin144 : ¬ ((1 : Int32) < 0 ∨ cl144.slots.size ≤ ((1 : Int32)).toNatClampNeg) := inb_of Sz144 ⟨by decide, by decide⟩
        obtain ⟨T145, h145, X145, e145, W145, st145⟩ := stC X128 hx hZ e128 Ar144 (j := (1 : Int32)) hin144 (g := (mkF m 54 #[iv n_, iv c0, iv c1, iv c2, iv c3, iv c4] [(.int c1), (.int 1), (.ref b113), (.ref b113), (.ref b102), (.ref b102)])) rfl rfl (hb hby d2_54)
        have S146 : own_G p e below s0 T145 m 55 #[iv n_, iv c0, iv c1, iv c2, iv c3, iv c4] [(.ref b113), (.ref b102), (.ref b102)] := fun t kt => S143 t (st145 _ kt)
        have V147 := Arv.set Ar144 q144 Sz144 Nn144 Hh144 Gg144 (fits_nar_char _) W145 1 rfl (Nat.le_of_ble_eq_true rfl)
        have Sf148 := Safe.wr W145 Sf132 CR133.1 Sf131
        have Sf149 := Safe.wr W145 Sf132 CR133.1 Sf132
        have CR150 := CR133.trans (CHr.wr W145 Sf132 CR133.1)
        have F151 := F134.wr W145
        have F152 := F135.wr W145
        have F153 := F136.wr W145
        have F154 := F137.wr W145
        have F155 := F138.wr W145
        have F156 := F139.other W145 (Or.inl ne_b102_b113)
        have F157 := F140.other W145 (Or.inl ne_b102_b113)
        have N158 := Fr.snoc X145 N141 g_b113
        have K159 : Keep h0 h145 [] := K142.wr W145 (Or.inr sz_b113)
        obtain ⟨_, _, ⟨T162, L162, k162, n162⟩, -, X162, ⟨Lc162, hQ162, l162, y162, z162⟩, st162⟩ := X145.specialBack hx (y := own_y21) rfl hown (mvT hZ (own_w hw 12 rfl)) (mvT hZ (own_w hw 13 rfl)) (mvT hZ (own_w hw 14 rfl)) (by decide) (backOf (W := 1) (own_rm3 l Z a0 hw [] (b102) (b113) ((2 : Int32)) ([(nar .char c0), (nar .char c1)]) (k113) (cs) (.null) ((.int 0)) h145 n0 (Nat.le_trans Z0 K159.1) F155 g_b102 F156 F157 F151 hcs V147 F152 F153 F154 (by intro c hc; simp only [List.mem_cons, List.not_mem_nil, or_false] at hc; rcases hc with rfl | rfl <;> exact own_nc _) rfl (Nat.le_of_ble_eq_true rfl) (List.cons_ne_nil _ _)) hZ (own_w hw 14 rfl) (own_w hw 11 rfl) (by decide) (by decide)) (g := (mkF m 55 #[iv n_, iv c0, iv c1, iv c2, iv c3, iv c4] [(.ref b113), (.ref b102), (.ref b102)])) rfl (by rw [hml]; rfl) (Steps.refl _) (a := b102) (argsL := [(.ref b113)]) (rest := [(.ref b102)]) (lenOf own_pd17 rfl) rfl (by show 2 * 0 + _ ≤ _; exact Nat.le_of_eq rfl) (hb hby d2_55) (fun _ _ => ⟨rfl, e145, (by decide : 2 + 2 ≤ _), (by decide : 6 + 15 ≤ _)⟩)
        dsimp only [Pt.U, Pt.locs, Pt.cells, Pt.slots] at X162 l162 y162 z162 st162 hQ162
        subst l162 y162 z162
        obtain ⟨rfl, Nq162, Kc160, OS160⟩ := hQ162
        have N163 := Fr.app N158 Nq162
        have S164 : own_G p e below s0 T162 m 58 #[iv n_, iv c0, iv c1, iv c2, iv c3, iv c4] [(.ref b102)] := fun t kt => S146 t (st162.trans kt)
        have Sf165 := Safe.keep Kc160 (allS Sf148 all0) CR150.1 Sf148
        have Sf166 := Safe.keep Kc160 (allS Sf148 all0) CR150.1 Sf149
        have CR167 := CR150.trans (CHr.keep Kc160 (allS Sf148 all0) CR150.1)
        have F168 := own_StaK F151 Kc160 (allS (own_ExaS F155) all0)
        have F169 := own_StaK F152 Kc160 (allS (own_ExaS F155) all0)
        have F170 := own_StaK F153 Kc160 (allS (own_ExaS F155) all0)
        have F171 := own_StaK F154 Kc160 (allS (own_ExaS F155) all0)
        have F172 := F155.keep Kc160
        have F173 := V147.keep Kc160 (ninS (Ne.symm ne_b102_b113) nin0)
        have K174 : Keep h0 T162.heap [] := K159.trans Kc160 (allS (Or.inr sz_b102) all0)
        obtain ⟨fs, hr, hrun, hended, -, hW, hBk, hsame⟩ := X162.leaveW hS0 ((Nat.le_trans (Nat.le_trans (Nat.le_trans (Nat.le_trans (Nat.le_trans (Nat.le_refl _) E102.1) E113.1) (Keep.of_wr W128).1) (Keep.of_wr W145).1) Kc160.1)) (v := some (.ref b102)) (fun h => by rw [Bd.returns] at h; cases h)
        refine ⟨_, _, S164 _ ?_, hrun, hended, _, _, rfl, ?_, (by show CHr Z own_EL s.vm s.heap T162.vm T162.heap; rw [hh]; exact CR167.trans (CHv.at X162 hZ hEL CR167.1)), ⟨_, rfl⟩, hW, hBk, hsame.mono (by decide) (by decide)⟩
        · show Steps p.tables e below (T162.setTop (mkF m 58 #[iv n_, iv c0, iv c1, iv c2, iv c3, iv c4] [(.ref b102)])) _
          jvm_step X162.here [X162.here.top, hx, (hb hby d2_58), X162.method', Bd.returns, Value.isRef, FieldType.isReference]
          first | (intro acts; rw [hr _ acts rfl rfl rfl]) | rw [hr _ _ rfl rfl rfl]
          exact Steps.refl _
        · show own_Q2 Z n_ c0 c1 c2 c3 c4 cs h0 n0 _ T162.heap _
          exact ⟨b102, rfl, N163, K174, (by have q := OS160; rw [own_ncid hb0, own_ncid hb1] at q; rw [show n_ = (2 : Int32) from hc37]; exact q)⟩
      · skip
        have S175 : own_G p e below s0 s₁ m 61 #[iv n_, iv c0, iv c1, iv c2, iv c3, iv c4] [(.int 3), (.int n_)] := fun t kt => by
          refine S100 t ?_
          refine w_icmpYes X0 hx hby (pc' := 59) d2_37 (feq hc37).2 (by decide) ?_
          refine w_iloadN X0 hx hby d2_59 rfl ?_
          refine w_iconst X0 hx hby d2_60 ?_
          exact kt
        by_cases hc61 : n_ = (3 : Int32)
        · skip
          have S176 : own_G p e below s0 s₁ m 64 #[iv n_, iv c0, iv c1, iv c2, iv c3, iv c4] [] := fun t kt => by
            refine S175 t ?_
            refine w_icmpNo X0 hx hby d2_61 (teq hc61).2 ?_
            exact kt
          obtain ⟨T177, h177, X177, e177, E177, A177, D177, -, st177⟩ := newO X0 hx hZ hown (own_w hw 9 rfl) (own_w hw 10 rfl) (own_w hw 11 rfl) e0 (g := (mkF m 64 #[iv n_, iv c0, iv c1, iv c2, iv c3, iv c4] [])) rfl (hb hby d2_64) (by decide) (by decide)
          obtain ⟨b177, g177⟩ : ∃ z, z = h0.size := ⟨_, rfl⟩
          rw [← g177] at A177 D177 st177
          have S178 : own_G p e below s0 T177 m 67 #[iv n_, iv c0, iv c1, iv c2, iv c3, iv c4] [(.ref b177)] := fun t kt => S176 t (st177 _ kt)
          have Sf_b177 : Safe Z own_EL s.vm h177 b177 := Safe.ext E177 CR0.1 (Safe.new (Nat.le_of_eq g177.symm))
          have CR179 := CR0.trans (CHr.ext E177 CR0.1)
          have g_b177 : n0 ≤ b177 := Nat.le_trans Z0 (Nat.le_of_eq g177.symm)
          have sz_b177 : h0.size ≤ b177 := Nat.le_trans (Keep.refl h0 []).1 (Nat.le_of_eq g177.symm)
          have F180 := S_CS.ext E177
          have F181 := S_AD.ext E177
          have F182 := S_HI.ext E177
          have F183 := S_LO.ext E177
          have K184 : Keep h0 h177 [] := (Keep.refl h0 []).ext E177
          have F185 : Fld Z h177 b177 "java/lang/String" "value" "[B" .null := D177 (Or.inr (own_w hw 24 rfl)) (ty := (.array .byte)) (by decide)
          have F186 : Fld Z h177 b177 "java/lang/String" "coder" "B" (.int 0) := D177 (Or.inr (own_w hw 25 rfl)) (ty := .byte) (by decide)
          have S187 : own_G p e below s0 T177 m 69 #[iv n_, iv c0, iv c1, iv c2, iv c3, iv c4] [(.int 3), (.ref b177), (.ref b177)] := fun t kt => by
            refine S178 t ?_
            refine w_dup X177 hx hby d2_67 rfl ?_
            refine w_iconst X177 hx hby d2_68 ?_
            exact kt
          obtain ⟨T188, h188, k188, X188, e188, E188, A188, st188⟩ := newP X177 hx hZ (own_w hw 5 rfl) e177 (g := (mkF m 69 #[iv n_, iv c0, iv c1, iv c2, iv c3, iv c4] [(.int 3), (.ref b177), (.ref b177)])) rfl (hb hby d2_69) rfl (by decide) (cap := 3) (by decide) (by decide) (by decide) (by decide)
          obtain ⟨b188, g188⟩ : ∃ z, z = h177.size := ⟨_, rfl⟩
          rw [← g188] at A188 st188
          have S189 : own_G p e below s0 T188 m 71 #[iv n_, iv c0, iv c1, iv c2, iv c3, iv c4] [(.ref b188), (.ref b177), (.ref b177)] := fun t kt => S187 t (st188 _ kt)
          have Sf_b188 : Safe Z own_EL s.vm h188 b188 := Safe.ext E188 CR179.1 (Safe.new (Nat.le_of_eq g188.symm))
          have Sf190 := Safe.ext E188 CR179.1 Sf_b177
          have CR191 := CR179.trans (CHr.ext E188 CR179.1)
          have g_b188 : n0 ≤ b188 := Nat.le_trans (Nat.le_trans Z0 K184.1) (Nat.le_of_eq g188.symm)
          have sz_b188 : h0.size ≤ b188 := Nat.le_trans K184.1 (Nat.le_of_eq g188.symm)
          have ne_b177_b188 : b177 ≠ b188 := Nat.ne_of_lt (Nat.lt_of_lt_of_le A177.lt (Nat.le_of_eq g188.symm))
          have F192 := F180.ext E188
          have F193 := F181.ext E188
          have F194 := F182.ext E188
          have F195 := F183.ext E188
          have F196 := A177.ext E188
          have F197 := F185.ext E188
          have F198 := F186.ext E188
          have K199 : Keep h0 h188 [] := K184.ext E188
          have V200 : Arv Z h188 b188 k188 .char (3 : Int32) [(.int 0), (.int 0), (.int 0)] (.int 0) := (Arv.new A188 (by decide)).pad (pad_rep [] (.int 0) 3)
          have S201 : own_G p e below s0 T188 m 74 #[iv n_, iv c0, iv c1, iv c2, iv c3, iv c4] [(.int c0), (.int 0), (.ref b188), (.ref b188), (.ref b177), (.ref b177)] := fun t kt => by
            refine S189 t ?_
            refine w_dup X188 hx hby d2_71 rfl ?_
            refine w_iconst X188 hx hby d2_72 ?_
            refine w_iloadN X188 hx hby d2_73 rfl ?_
            exact kt
          obtain ⟨cl202, Ar202, q202, Sz202, Nn202, Hh202, Gg202⟩ := id V200
          have hin202 : ¬ ((0 : Int32) < 0 ∨ cl202.slots.size ≤ ((0 : Int32)).toNatClampNeg) := inb_of Sz202 ⟨by decide, by decide⟩
          obtain ⟨T203, h203, X203, e203, W203, st203⟩ := stC X188 hx hZ e188 Ar202 (j := (0 : Int32)) hin202 (g := (mkF m 74 #[iv n_, iv c0, iv c1, iv c2, iv c3, iv c4] [(.int c0), (.int 0), (.ref b188), (.ref b188), (.ref b177), (.ref b177)])) rfl rfl (hb hby d2_74)
          have S204 : own_G p e below s0 T203 m 75 #[iv n_, iv c0, iv c1, iv c2, iv c3, iv c4] [(.ref b188), (.ref b177), (.ref b177)] := fun t kt => S201 t (st203 _ kt)
          have V205 := Arv.set Ar202 q202 Sz202 Nn202 Hh202 Gg202 (fits_nar_char _) W203 0 rfl (Nat.le_of_ble_eq_true rfl)
          have Sf206 := Safe.wr W203 Sf_b188 CR191.1 Sf190
          have Sf207 := Safe.wr W203 Sf_b188 CR191.1 Sf_b188
          have CR208 := CR191.trans (CHr.wr W203 Sf_b188 CR191.1)
          have F209 := F192.wr W203
          have F210 := F193.wr W203
          have F211 := F194.wr W203
          have F212 := F195.wr W203
          have F213 := F196.wr W203
          have F214 := F197.other W203 (Or.inl ne_b177_b188)
          have F215 := F198.other W203 (Or.inl ne_b177_b188)
          have N216 := Fr.snoc X203 N0 g_b188
          have K217 : Keep h0 h203 [] := K199.wr W203 (Or.inr sz_b188)
          have S218 : own_G p e below s0 T203 m 78 #[iv n_, iv c0, iv c1, iv c2, iv c3, iv c4] [(.int c1), (.int 1), (.ref b188), (.ref b188), (.ref b177), (.ref b177)] := fun t kt => by
            refine S204 t ?_
            refine w_dup X203 hx hby d2_75 rfl ?_
            refine w_iconst X203 hx hby d2_76 ?_
            refine w_iloadN X203 hx hby d2_77 rfl ?_
            exact kt
          obtain ⟨cl219, Ar219, q219, Sz219, Nn219, Hh219, Gg219⟩ := id V205
          have hin219 : ¬ ((1 : Int32) < 0 ∨ cl219.slots.size ≤ ((1 : Int32)).toNatClampNeg) := inb_of Sz219 ⟨by decide, by decide⟩
          obtain ⟨T220, h220, X220, e220, W220, st220⟩ := stC X203 hx hZ e203 Ar219 (j := (1 : Int32)) hin219 (g := (mkF m 78 #[iv n_, iv c0, iv c1, iv c2, iv c3, iv c4] [(.int c1), (.int 1), (.ref b188), (.ref b188), (.ref b177), (.ref b177)])) rfl rfl (hb hby d2_78)
          have S221 : own_G p e below s0 T220 m 79 #[iv n_, iv c0, iv c1, iv c2, iv c3, iv c4] [(.ref b188), (.ref b177), (.ref b177)] := fun t kt => S218 t (st220 _ kt)
          have V222 := Arv.set Ar219 q219 Sz219 Nn219 Hh219 Gg219 (fits_nar_char _) W220 1 rfl (Nat.le_of_ble_eq_true rfl)
          have Sf223 := Safe.wr W220 Sf207 CR208.1 Sf206
          have Sf224 := Safe.wr W220 Sf207 CR208.1 Sf207
          have CR225 := CR208.trans (CHr.wr W220 Sf207 CR208.1)
          have F226 := F209.wr W220
          have F227 := F210.wr W220
          have F228 := F211.wr W220
          have F229 := F212.wr W220
          have F230 := F213.wr W220
          have F231 := F214.other W220 (Or.inl ne_b177_b188)
          have F232 := F215.other W220 (Or.inl ne_b177_b188)
          have N233 := Fr.snoc X220 N216 g_b188
          have K234 : Keep h0 h220 [] := K217.wr W220 (Or.inr sz_b188)
          have S235 : own_G p e below s0 T220 m 82 #[iv n_, iv c0, iv c1, iv c2, iv c3, iv c4] [(.int c2), (.int 2), (.ref b188), (.ref b188), (.ref b177), (.ref b177)] := fun t kt => by
            refine S221 t ?_
            refine w_dup X220 hx hby d2_79 rfl ?_
            refine w_iconst X220 hx hby d2_80 ?_
            refine w_iloadN X220 hx hby d2_81 rfl ?_
            exact kt
          obtain ⟨cl236, Ar236, q236, Sz236, Nn236, Hh236, Gg236⟩ := id V222
          have hin236 : ¬ ((2 : Int32) < 0 ∨ cl236.slots.size ≤ ((2 : Int32)).toNatClampNeg) := inb_of Sz236 ⟨by decide, by decide⟩
          obtain ⟨T237, h237, X237, e237, W237, st237⟩ := stC X220 hx hZ e220 Ar236 (j := (2 : Int32)) hin236 (g := (mkF m 82 #[iv n_, iv c0, iv c1, iv c2, iv c3, iv c4] [(.int c2), (.int 2), (.ref b188), (.ref b188), (.ref b177), (.ref b177)])) rfl rfl (hb hby d2_82)
          have S238 : own_G p e below s0 T237 m 83 #[iv n_, iv c0, iv c1, iv c2, iv c3, iv c4] [(.ref b188), (.ref b177), (.ref b177)] := fun t kt => S235 t (st237 _ kt)
          have V239 := Arv.set Ar236 q236 Sz236 Nn236 Hh236 Gg236 (fits_nar_char _) W237 2 rfl (Nat.le_of_ble_eq_true rfl)
          have Sf240 := Safe.wr W237 Sf224 CR225.1 Sf223
          have Sf241 := Safe.wr W237 Sf224 CR225.1 Sf224
          have CR242 := CR225.trans (CHr.wr W237 Sf224 CR225.1)
          have F243 := F226.wr W237
          have F244 := F227.wr W237
          have F245 := F228.wr W237
          have F246 := F229.wr W237
          have F247 := F230.wr W237
          have F248 := F231.other W237 (Or.inl ne_b177_b188)
          have F249 := F232.other W237 (Or.inl ne_b177_b188)
          have N250 := Fr.snoc X237 N233 g_b188
          have K251 : Keep h0 h237 [] := K234.wr W237 (Or.inr sz_b188)
          obtain ⟨_, _, ⟨T254, L254, k254, n254⟩, -, X254, ⟨Lc254, hQ254, l254, y254, z254⟩, st254⟩ := X237.specialBack hx (y := own_y21) rfl hown (mvT hZ (own_w hw 12 rfl)) (mvT hZ (own_w hw 13 rfl)) (mvT hZ (own_w hw 14 rfl)) (by decide) (backOf (W := 1) (own_rm3 l Z a0 hw [] (b177) (b188) ((3 : Int32)) ([(nar .char c0), (nar .char c1), (nar .char c2)]) (k188) (cs) (.null) ((.int 0)) h237 n0 (Nat.le_trans Z0 K251.1) F247 g_b177 F248 F249 F243 hcs V239 F244 F245 F246 (by intro c hc; simp only [List.mem_cons, List.not_mem_nil, or_false] at hc; rcases hc with rfl | rfl | rfl <;> exact own_nc _) rfl (Nat.le_of_ble_eq_true rfl) (List.cons_ne_nil _ _)) hZ (own_w hw 14 rfl) (own_w hw 11 rfl) (by decide) (by decide)) (g := (mkF m 83 #[iv n_, iv c0, iv c1, iv c2, iv c3, iv c4] [(.ref b188), (.ref b177), (.ref b177)])) rfl (by rw [hml]; rfl) (Steps.refl _) (a := b177) (argsL := [(.ref b188)]) (rest := [(.ref b177)]) (lenOf own_pd17 rfl) rfl (by show 2 * 0 + _ ≤ _; exact Nat.le_of_eq rfl) (hb hby d2_83) (fun _ _ => ⟨rfl, e237, (by decide : 2 + 2 ≤ _), (by decide : 7 + 15 ≤ _)⟩)
          dsimp only [Pt.U, Pt.locs, Pt.cells, Pt.slots] at X254 l254 y254 z254 st254 hQ254
          subst l254 y254 z254
          obtain ⟨rfl, Nq254, Kc252, OS252⟩ := hQ254
          have N255 := Fr.app N250 Nq254
          have S256 : own_G p e below s0 T254 m 86 #[iv n_, iv c0, iv c1, iv c2, iv c3, iv c4] [(.ref b177)] := fun t kt => S238 t (st254.trans kt)
          have Sf257 := Safe.keep Kc252 (allS Sf240 all0) CR242.1 Sf240
          have Sf258 := Safe.keep Kc252 (allS Sf240 all0) CR242.1 Sf241
          have CR259 := CR242.trans (CHr.keep Kc252 (allS Sf240 all0) CR242.1)
          have F260 := own_StaK F243 Kc252 (allS (own_ExaS F247) all0)
          have F261 := own_StaK F244 Kc252 (allS (own_ExaS F247) all0)
          have F262 := own_StaK F245 Kc252 (allS (own_ExaS F247) all0)
          have F263 := own_StaK F246 Kc252 (allS (own_ExaS F247) all0)
          have F264 := F247.keep Kc252
          have F265 := V239.keep Kc252 (ninS (Ne.symm ne_b177_b188) nin0)
          have K266 : Keep h0 T254.heap [] := K251.trans Kc252 (allS (Or.inr sz_b177) all0)
          obtain ⟨fs, hr, hrun, hended, -, hW, hBk, hsame⟩ := X254.leaveW hS0 ((Nat.le_trans (Nat.le_trans (Nat.le_trans (Nat.le_trans (Nat.le_trans (Nat.le_trans (Nat.le_refl _) E177.1) E188.1) (Keep.of_wr W203).1) (Keep.of_wr W220).1) (Keep.of_wr W237).1) Kc252.1)) (v := some (.ref b177)) (fun h => by rw [Bd.returns] at h; cases h)
          refine ⟨_, _, S256 _ ?_, hrun, hended, _, _, rfl, ?_, (by show CHr Z own_EL s.vm s.heap T254.vm T254.heap; rw [hh]; exact CR259.trans (CHv.at X254 hZ hEL CR259.1)), ⟨_, rfl⟩, hW, hBk, hsame.mono (by decide) (by decide)⟩
          · show Steps p.tables e below (T254.setTop (mkF m 86 #[iv n_, iv c0, iv c1, iv c2, iv c3, iv c4] [(.ref b177)])) _
            jvm_step X254.here [X254.here.top, hx, (hb hby d2_86), X254.method', Bd.returns, Value.isRef, FieldType.isReference]
            first | (intro acts; rw [hr _ acts rfl rfl rfl]) | rw [hr _ _ rfl rfl rfl]
            exact Steps.refl _
          · show own_Q2 Z n_ c0 c1 c2 c3 c4 cs h0 n0 _ T254.heap _
            exact ⟨b177, rfl, N255, K266, (by have q := OS252; rw [own_ncid hb0, own_ncid hb1, own_ncid hb2] at q; rw [show n_ = (3 : Int32) from hc61]; exact q)⟩
        · skip
          have S267 : own_G p e below s0 s₁ m 89 #[iv n_, iv c0, iv c1, iv c2, iv c3, iv c4] [(.int 4), (.int n_)] := fun t kt => by
            refine S175 t ?_
            refine w_icmpYes X0 hx hby (pc' := 87) d2_61 (feq hc61).2 (by decide) ?_
            refine w_iloadN X0 hx hby d2_87 rfl ?_
            refine w_iconst X0 hx hby d2_88 ?_
            exact kt
          by_cases hc89 : n_ = (4 : Int32)
          · skip
            have S268 : own_G p e below s0 s₁ m 92 #[iv n_, iv c0, iv c1, iv c2, iv c3, iv c4] [] := fun t kt => by
              refine S267 t ?_
              refine w_icmpNo X0 hx hby d2_89 (teq hc89).2 ?_
              exact kt
            obtain ⟨T269, h269, X269, e269, E269, A269, D269, -, st269⟩ := newO X0 hx hZ hown (own_w hw 9 rfl) (own_w hw 10 rfl) (own_w hw 11 rfl) e0 (g := (mkF m 92 #[iv n_, iv c0, iv c1, iv c2, iv c3, iv c4] [])) rfl (hb hby d2_92) (by decide) (by decide)
            obtain ⟨b269, g269⟩ : ∃ z, z = h0.size := ⟨_, rfl⟩
            rw [← g269] at A269 D269 st269
            have S270 : own_G p e below s0 T269 m 95 #[iv n_, iv c0, iv c1, iv c2, iv c3, iv c4] [(.ref b269)] := fun t kt => S268 t (st269 _ kt)
            have Sf_b269 : Safe Z own_EL s.vm h269 b269 := Safe.ext E269 CR0.1 (Safe.new (Nat.le_of_eq g269.symm))
            have CR271 := CR0.trans (CHr.ext E269 CR0.1)
            have g_b269 : n0 ≤ b269 := Nat.le_trans Z0 (Nat.le_of_eq g269.symm)
            have sz_b269 : h0.size ≤ b269 := Nat.le_trans (Keep.refl h0 []).1 (Nat.le_of_eq g269.symm)
            have F272 := S_CS.ext E269
            have F273 := S_AD.ext E269
            have F274 := S_HI.ext E269
            have F275 := S_LO.ext E269
            have K276 : Keep h0 h269 [] := (Keep.refl h0 []).ext E269
            have F277 : Fld Z h269 b269 "java/lang/String" "value" "[B" .null := D269 (Or.inr (own_w hw 24 rfl)) (ty := (.array .byte)) (by decide)
            have F278 : Fld Z h269 b269 "java/lang/String" "coder" "B" (.int 0) := D269 (Or.inr (own_w hw 25 rfl)) (ty := .byte) (by decide)
            have S279 : own_G p e below s0 T269 m 97 #[iv n_, iv c0, iv c1, iv c2, iv c3, iv c4] [(.int 4), (.ref b269), (.ref b269)] := fun t kt => by
              refine S270 t ?_
              refine w_dup X269 hx hby d2_95 rfl ?_
              refine w_iconst X269 hx hby d2_96 ?_
              exact kt
            obtain ⟨T280, h280, k280, X280, e280, E280, A280, st280⟩ := newP X269 hx hZ (own_w hw 5 rfl) e269 (g := (mkF m 97 #[iv n_, iv c0, iv c1, iv c2, iv c3, iv c4] [(.int 4), (.ref b269), (.ref b269)])) rfl (hb hby d2_97) rfl (by decide) (cap := 4) (by decide) (by decide) (by decide) (by decide)
            obtain ⟨b280, g280⟩ : ∃ z, z = h269.size := ⟨_, rfl⟩
            rw [← g280] at A280 st280
            have S281 : own_G p e below s0 T280 m 99 #[iv n_, iv c0, iv c1, iv c2, iv c3, iv c4] [(.ref b280), (.ref b269), (.ref b269)] := fun t kt => S279 t (st280 _ kt)
            have Sf_b280 : Safe Z own_EL s.vm h280 b280 := Safe.ext E280 CR271.1 (Safe.new (Nat.le_of_eq g280.symm))
            have Sf282 := Safe.ext E280 CR271.1 Sf_b269
            have CR283 := CR271.trans (CHr.ext E280 CR271.1)
            have g_b280 : n0 ≤ b280 := Nat.le_trans (Nat.le_trans Z0 K276.1) (Nat.le_of_eq g280.symm)
            have sz_b280 : h0.size ≤ b280 := Nat.le_trans K276.1 (Nat.le_of_eq g280.symm)
            have ne_b269_b280 : b269 ≠ b280 := Nat.ne_of_lt (Nat.lt_of_lt_of_le A269.lt (Nat.le_of_eq g280.symm))
            have F284 := F272.ext E280
            have F285 := F273.ext E280
            have F286 := F274.ext E280
            have F287 := F275.ext E280
            have F288 := A269.ext E280
            have F289 := F277.ext E280
            have F290 := F278.ext E280
            have K291 : Keep h0 h280 [] := K276.ext E280
            have V292 : Arv Z h280 b280 k280 .char (4 : Int32) [(.int 0), (.int 0), (.int 0), (.int 0)] (.int 0) := (Arv.new A280 (by decide)).pad (pad_rep [] (.int 0) 4)
            have S293 : own_G p e below s0 T280 m 102 #[iv n_, iv c0, iv c1, iv c2, iv c3, iv c4] [(.int c0), (.int 0), (.ref b280), (.ref b280), (.ref b269), (.ref b269)] := fun t kt => by
              refine S281 t ?_
              refine w_dup X280 hx hby d2_99 rfl ?_
              refine w_iconst X280 hx hby d2_100 ?_
              refine w_iloadN X280 hx hby d2_101 rfl ?_
              exact kt
            obtain ⟨cl294, Ar294, q294, Sz294, Nn294, Hh294, Gg294⟩ := id V292
            have hin294 : ¬ ((0 : Int32) < 0 ∨ cl294.slots.size ≤ ((0 : Int32)).toNatClampNeg) := inb_of Sz294 ⟨by decide, by decide⟩
            obtain ⟨T295, h295, X295, e295, W295, st295⟩ := stC X280 hx hZ e280 Ar294 (j := (0 : Int32)) hin294 (g := (mkF m 102 #[iv n_, iv c0, iv c1, iv c2, iv c3, iv c4] [(.int c0), (.int 0), (.ref b280), (.ref b280), (.ref b269), (.ref b269)])) rfl rfl (hb hby d2_102)
            have S296 : own_G p e below s0 T295 m 103 #[iv n_, iv c0, iv c1, iv c2, iv c3, iv c4] [(.ref b280), (.ref b269), (.ref b269)] := fun t kt => S293 t (st295 _ kt)
            have V297 := Arv.set Ar294 q294 Sz294 Nn294 Hh294 Gg294 (fits_nar_char _) W295 0 rfl (Nat.le_of_ble_eq_true rfl)
            have Sf298 := Safe.wr W295 Sf_b280 CR283.1 Sf282
            have Sf299 := Safe.wr W295 Sf_b280 CR283.1 Sf_b280
            have CR300 := CR283.trans (CHr.wr W295 Sf_b280 CR283.1)
            have F301 := F284.wr W295
            have F302 := F285.wr W295
            have F303 := F286.wr W295
            have F304 := F287.wr W295
            have F305 := F288.wr W295
            have F306 := F289.other W295 (Or.inl ne_b269_b280)
            have F307 := F290.other W295 (Or.inl ne_b269_b280)
            have N308 := Fr.snoc X295 N0 g_b280
            have K309 : Keep h0 h295 [] := K291.wr W295 (Or.inr sz_b280)
            have S310 : own_G p e below s0 T295 m 106 #[iv n_, iv c0, iv c1, iv c2, iv c3, iv c4] [(.int c1), (.int 1), (.ref b280), (.ref b280), (.ref b269), (.ref b269)] := fun t kt => by
              refine S296 t ?_
              refine w_dup X295 hx hby d2_103 rfl ?_
              refine w_iconst X295 hx hby d2_104 ?_
              refine w_iloadN X295 hx hby d2_105 rfl ?_
              exact kt
            obtain ⟨cl311, Ar311, q311, Sz311, Nn311, Hh311, Gg311⟩ := id V297
            have hin311 : ¬ ((1 : Int32) < 0 ∨ cl311.slots.size ≤ ((1 : Int32)).toNatClampNeg) := inb_of Sz311 ⟨by decide, by decide⟩
            obtain ⟨T312, h312, X312, e312, W312, st312⟩ := stC X295 hx hZ e295 Ar311 (j := (1 : Int32)) hin311 (g := (mkF m 106 #[iv n_, iv c0, iv c1, iv c2, iv c3, iv c4] [(.int c1), (.int 1), (.ref b280), (.ref b280), (.ref b269), (.ref b269)])) rfl rfl (hb hby d2_106)
            have S313 : own_G p e below s0 T312 m 107 #[iv n_, iv c0, iv c1, iv c2, iv c3, iv c4] [(.ref b280), (.ref b269), (.ref b269)] := fun t kt => S310 t (st312 _ kt)
            have V314 := Arv.set Ar311 q311 Sz311 Nn311 Hh311 Gg311 (fits_nar_char _) W312 1 rfl (Nat.le_of_ble_eq_true rfl)
            have Sf315 := Safe.wr W312 Sf299 CR300.1 Sf298
            have Sf316 := Safe.wr W312 Sf299 CR300.1 Sf299
            have CR317 := CR300.trans (CHr.wr W312 Sf299 CR300.1)
            have F318 := F301.wr W312
            have F319 := F302.wr W312
            have F320 := F303.wr W312
            have F321 := F304.wr W312
            have F322 := F305.wr W312
            have F323 := F306.other W312 (Or.inl ne_b269_b280)
            have F324 := F307.other W312 (Or.inl ne_b269_b280)
            have N325 := Fr.snoc X312 N308 g_b280
            have K326 : Keep h0 h312 [] := K309.wr W312 (Or.inr sz_b280)
            have S327 : own_G p e below s0 T312 m 110 #[iv n_, iv c0, iv c1, iv c2, iv c3, iv c4] [(.int c2), (.int 2), (.ref b280), (.ref b280), (.ref b269), (.ref b269)] := fun t kt => by
              refine S313 t ?_
              refine w_dup X312 hx hby d2_107 rfl ?_
              refine w_iconst X312 hx hby d2_108 ?_
              refine w_iloadN X312 hx hby d2_109 rfl ?_
              exact kt
            obtain ⟨cl328, Ar328, q328, Sz328, Nn328, Hh328, Gg328⟩ := id V314
            have hin328 : ¬ ((2 : Int32) < 0 ∨ cl328.slots.size ≤ ((2 : Int32)).toNatClampNeg) := inb_of Sz328 ⟨by decide, by decide⟩
            obtain ⟨T329, h329, X329, e329, W329, st329⟩ := stC X312 hx hZ e312 Ar328 (j := (2 : Int32)) hin328 (g := (mkF m 110 #[iv n_, iv c0, iv c1, iv c2, iv c3, iv c4] [(.int c2), (.int 2), (.ref b280), (.ref b280), (.ref b269), (.ref b269)])) rfl rfl (hb hby d2_110)
            have S330 : own_G p e below s0 T329 m 111 #[iv n_, iv c0, iv c1, iv c2, iv c3, iv c4] [(.ref b280), (.ref b269), (.ref b269)] := fun t kt => S327 t (st329 _ kt)
            have V331 := Arv.set Ar328 q328 Sz328 Nn328 Hh328 Gg328 (fits_nar_char _) W329 2 rfl (Nat.le_of_ble_eq_true rfl)
            have Sf332 := Safe.wr W329 Sf316 CR317.1 Sf315
            have Sf333 := Safe.wr W329 Sf316 CR317.1 Sf316
            have CR334 := CR317.trans (CHr.wr W329 Sf316 CR317.1)
            have F335 := F318.wr W329
            have F336 := F319.wr W329
            have F337 := F320.wr W329
            have F338 := F321.wr W329
            have F339 := F322.wr W329
            have F340 := F323.other W329 (Or.inl ne_b269_b280)
            have F341 := F324.other W329 (Or.inl ne_b269_b280)
            have N342 := Fr.snoc X329 N325 g_b280
            have K343 : Keep h0 h329 [] := K326.wr W329 (Or.inr sz_b280)
            have S344 : own_G p e below s0 T329 m 115 #[iv n_, iv c0, iv c1, iv c2, iv c3, iv c4] [(.int c3), (.int 3), (.ref b280), (.ref b280), (.ref b269), (.ref b269)] := fun t kt => by
              refine S330 t ?_
              refine w_dup X329 hx hby d2_111 rfl ?_
              refine w_iconst X329 hx hby d2_112 ?_
              refine w_iload X329 hx hby d2_113 rfl ?_
              exact kt
            obtain ⟨cl345, Ar345, q345, Sz345, Nn345, Hh345, Gg345⟩ := id V331
            have hin345 : ¬ ((3 : Int32) < 0 ∨ cl345.slots.size ≤ ((3 : Int32)).toNatClampNeg) := inb_of Sz345 ⟨by decide, by decide⟩
            obtain ⟨T346, h346, X346, e346, W346, st346⟩ := stC X329 hx hZ e329 Ar345 (j := (3 : Int32)) hin345 (g := (mkF m 115 #[iv n_, iv c0, iv c1, iv c2, iv c3, iv c4] [(.int c3), (.int 3), (.ref b280), (.ref b280), (.ref b269), (.ref b269)])) rfl rfl (hb hby d2_115)
            have S347 : own_G p e below s0 T346 m 116 #[iv n_, iv c0, iv c1, iv c2, iv c3, iv c4] [(.ref b280), (.ref b269), (.ref b269)] := fun t kt => S344 t (st346 _ kt)
            have V348 := Arv.set Ar345 q345 Sz345 Nn345 Hh345 Gg345 (fits_nar_char _) W346 3 rfl (Nat.le_of_ble_eq_true rfl)
            have Sf349 := Safe.wr W346 Sf333 CR334.1 Sf332
            have Sf350 := Safe.wr W346 Sf333 CR334.1 Sf333
            have CR351 := CR334.trans (CHr.wr W346 Sf333 CR334.1)
            have F352 := F335.wr W346
            have F353 := F336.wr W346
            have F354 := F337.wr W346
            have F355 := F338.wr W346
            have F356 := F339.wr W346
            have F357 := F340.other W346 (Or.inl ne_b269_b280)
            have F358 := F341.other W346 (Or.inl ne_b269_b280)
            have N359 := Fr.snoc X346 N342 g_b280
            have K360 : Keep h0 h346 [] := K343.wr W346 (Or.inr sz_b280)
            obtain ⟨_, _, ⟨T363, L363, k363, n363⟩, -, X363, ⟨Lc363, hQ363, l363, y363, z363⟩, st363⟩ := X346.specialBack hx (y := own_y21) rfl hown (mvT hZ (own_w hw 12 rfl)) (mvT hZ (own_w hw 13 rfl)) (mvT hZ (own_w hw 14 rfl)) (by decide) (backOf (W := 1) (own_rm3 l Z a0 hw [] (b269) (b280) ((4 : Int32)) ([(nar .char c0), (nar .char c1), (nar .char c2), (nar .char c3)]) (k280) (cs) (.null) ((.int 0)) h346 n0 (Nat.le_trans Z0 K360.1) F356 g_b269 F357 F358 F352 hcs V348 F353 F354 F355 (by intro c hc; simp only [List.mem_cons, List.not_mem_nil, or_false] at hc; rcases hc with rfl | rfl | rfl | rfl <;> exact own_nc _) rfl (Nat.le_of_ble_eq_true rfl) (List.cons_ne_nil _ _)) hZ (own_w hw 14 rfl) (own_w hw 11 rfl) (by decide) (by decide)) (g := (mkF m 116 #[iv n_, iv c0, iv c1, iv c2, iv c3, iv c4] [(.ref b280), (.ref b269), (.ref b269)])) rfl (by rw [hml]; rfl) (Steps.refl _) (a := b269) (argsL := [(.ref b280)]) (rest := [(.ref b269)]) (lenOf own_pd17 rfl) rfl (by show 2 * 0 + _ ≤ _; exact Nat.le_of_eq rfl) (hb hby d2_116) (fun _ _ => ⟨rfl, e346, (by decide : 2 + 2 ≤ _), (by decide : 8 + 15 ≤ _)⟩)
            dsimp only [Pt.U, Pt.locs, Pt.cells, Pt.slots] at X363 l363 y363 z363 st363 hQ363
            subst l363 y363 z363
            obtain ⟨rfl, Nq363, Kc361, OS361⟩ := hQ363
            have N364 := Fr.app N359 Nq363
            have S365 : own_G p e below s0 T363 m 119 #[iv n_, iv c0, iv c1, iv c2, iv c3, iv c4] [(.ref b269)] := fun t kt => S347 t (st363.trans kt)
            have Sf366 := Safe.keep Kc361 (allS Sf349 all0) CR351.1 Sf349
            have Sf367 := Safe.keep Kc361 (allS Sf349 all0) CR351.1 Sf350
            have CR368 := CR351.trans (CHr.keep Kc361 (allS Sf349 all0) CR351.1)
            have F369 := own_StaK F352 Kc361 (allS (own_ExaS F356) all0)
            have F370 := own_StaK F353 Kc361 (allS (own_ExaS F356) all0)
            have F371 := own_StaK F354 Kc361 (allS (own_ExaS F356) all0)
            have F372 := own_StaK F355 Kc361 (allS (own_ExaS F356) all0)
            have F373 := F356.keep Kc361
            have F374 := V348.keep Kc361 (ninS (Ne.symm ne_b269_b280) nin0)
            have K375 : Keep h0 T363.heap [] := K360.trans Kc361 (allS (Or.inr sz_b269) all0)
            obtain ⟨fs, hr, hrun, hended, -, hW, hBk, hsame⟩ := X363.leaveW hS0 ((Nat.le_trans (Nat.le_trans (Nat.le_trans (Nat.le_trans (Nat.le_trans (Nat.le_trans (Nat.le_trans (Nat.le_refl _) E269.1) E280.1) (Keep.of_wr W295).1) (Keep.of_wr W312).1) (Keep.of_wr W329).1) (Keep.of_wr W346).1) Kc361.1)) (v := some (.ref b269)) (fun h => by rw [Bd.returns] at h; cases h)
            refine ⟨_, _, S365 _ ?_, hrun, hended, _, _, rfl, ?_, (by show CHr Z own_EL s.vm s.heap T363.vm T363.heap; rw [hh]; exact CR368.trans (CHv.at X363 hZ hEL CR368.1)), ⟨_, rfl⟩, hW, hBk, hsame.mono (by decide) (by decide)⟩
            · show Steps p.tables e below (T363.setTop (mkF m 119 #[iv n_, iv c0, iv c1, iv c2, iv c3, iv c4] [(.ref b269)])) _
              jvm_step X363.here [X363.here.top, hx, (hb hby d2_119), X363.method', Bd.returns, Value.isRef, FieldType.isReference]
              first | (intro acts; rw [hr _ acts rfl rfl rfl]) | rw [hr _ _ rfl rfl rfl]
              exact Steps.refl _
            · show own_Q2 Z n_ c0 c1 c2 c3 c4 cs h0 n0 _ T363.heap _
              exact ⟨b269, rfl, N364, K375, (by have q := OS361; rw [own_ncid hb0, own_ncid hb1, own_ncid hb2, own_ncid hb3] at q; rw [show n_ = (4 : Int32) from hc89]; exact q)⟩
          · skip
            have S376 : own_G p e below s0 s₁ m 120 #[iv n_, iv c0, iv c1, iv c2, iv c3, iv c4] [] := fun t kt => by
              refine S267 t ?_
              refine w_icmpYes X0 hx hby (pc' := 120) d2_89 (feq hc89).2 (by decide) ?_
              exact kt
            obtain ⟨T377, h377, X377, e377, E377, A377, D377, -, st377⟩ := newO X0 hx hZ hown (own_w hw 9 rfl) (own_w hw 10 rfl) (own_w hw 11 rfl) e0 (g := (mkF m 120 #[iv n_, iv c0, iv c1, iv c2, iv c3, iv c4] [])) rfl (hb hby d2_120) (by decide) (by decide)
            obtain ⟨b377, g377⟩ : ∃ z, z = h0.size := ⟨_, rfl⟩
            rw [← g377] at A377 D377 st377
            have S378 : own_G p e below s0 T377 m 123 #[iv n_, iv c0, iv c1, iv c2, iv c3, iv c4] [(.ref b377)] := fun t kt => S376 t (st377 _ kt)
            have Sf_b377 : Safe Z own_EL s.vm h377 b377 := Safe.ext E377 CR0.1 (Safe.new (Nat.le_of_eq g377.symm))
            have CR379 := CR0.trans (CHr.ext E377 CR0.1)
            have g_b377 : n0 ≤ b377 := Nat.le_trans Z0 (Nat.le_of_eq g377.symm)
            have sz_b377 : h0.size ≤ b377 := Nat.le_trans (Keep.refl h0 []).1 (Nat.le_of_eq g377.symm)
            have F380 := S_CS.ext E377
            have F381 := S_AD.ext E377
            have F382 := S_HI.ext E377
            have F383 := S_LO.ext E377
            have K384 : Keep h0 h377 [] := (Keep.refl h0 []).ext E377
            have F385 : Fld Z h377 b377 "java/lang/String" "value" "[B" .null := D377 (Or.inr (own_w hw 24 rfl)) (ty := (.array .byte)) (by decide)
            have F386 : Fld Z h377 b377 "java/lang/String" "coder" "B" (.int 0) := D377 (Or.inr (own_w hw 25 rfl)) (ty := .byte) (by decide)
            have S387 : own_G p e below s0 T377 m 125 #[iv n_, iv c0, iv c1, iv c2, iv c3, iv c4] [(.int 5), (.ref b377), (.ref b377)] := fun t kt => by
              refine S378 t ?_
              refine w_dup X377 hx hby d2_123 rfl ?_
              refine w_iconst X377 hx hby d2_124 ?_
              exact kt
            obtain ⟨T388, h388, k388, X388, e388, E388, A388, st388⟩ := newP X377 hx hZ (own_w hw 5 rfl) e377 (g := (mkF m 125 #[iv n_, iv c0, iv c1, iv c2, iv c3, iv c4] [(.int 5), (.ref b377), (.ref b377)])) rfl (hb hby d2_125) rfl (by decide) (cap := 5) (by decide) (by decide) (by decide) (by decide)
            obtain ⟨b388, g388⟩ : ∃ z, z = h377.size := ⟨_, rfl⟩
            rw [← g388] at A388 st388
            have S389 : own_G p e below s0 T388 m 127 #[iv n_, iv c0, iv c1, iv c2, iv c3, iv c4] [(.ref b388), (.ref b377), (.ref b377)] := fun t kt => S387 t (st388 _ kt)
            have Sf_b388 : Safe Z own_EL s.vm h388 b388 := Safe.ext E388 CR379.1 (Safe.new (Nat.le_of_eq g388.symm))
            have Sf390 := Safe.ext E388 CR379.1 Sf_b377
            have CR391 := CR379.trans (CHr.ext E388 CR379.1)
            have g_b388 : n0 ≤ b388 := Nat.le_trans (Nat.le_trans Z0 K384.1) (Nat.le_of_eq g388.symm)
            have sz_b388 : h0.size ≤ b388 := Nat.le_trans K384.1 (Nat.le_of_eq g388.symm)
            have ne_b377_b388 : b377 ≠ b388 := Nat.ne_of_lt (Nat.lt_of_lt_of_le A377.lt (Nat.le_of_eq g388.symm))
            have F392 := F380.ext E388
            have F393 := F381.ext E388
            have F394 := F382.ext E388
            have F395 := F383.ext E388
            have F396 := A377.ext E388
            have F397 := F385.ext E388
            have F398 := F386.ext E388
            have K399 : Keep h0 h388 [] := K384.ext E388
            have V400 : Arv Z h388 b388 k388 .char (5 : Int32) [(.int 0), (.int 0), (.int 0), (.int 0), (.int 0)] (.int 0) := (Arv.new A388 (by decide)).pad (pad_rep [] (.int 0) 5)
            have S401 : own_G p e below s0 T388 m 130 #[iv n_, iv c0, iv c1, iv c2, iv c3, iv c4] [(.int c0), (.int 0), (.ref b388), (.ref b388), (.ref b377), (.ref b377)] := fun t kt => by
              refine S389 t ?_
              refine w_dup X388 hx hby d2_127 rfl ?_
              refine w_iconst X388 hx hby d2_128 ?_
              refine w_iloadN X388 hx hby d2_129 rfl ?_
              exact kt
            obtain ⟨cl402, Ar402, q402, Sz402, Nn402, Hh402, Gg402⟩ := id V400
            have hin402 : ¬ ((0 : Int32) < 0 ∨ cl402.slots.size ≤ ((0 : Int32)).toNatClampNeg) := inb_of Sz402 ⟨by decide, by decide⟩
            obtain ⟨T403, h403, X403, e403, W403, st403⟩ := stC X388 hx hZ e388 Ar402 (j := (0 : Int32)) hin402 (g := (mkF m 130 #[iv n_, iv c0, iv c1, iv c2, iv c3, iv c4] [(.int c0), (.int 0), (.ref b388), (.ref b388), (.ref b377), (.ref b377)])) rfl rfl (hb hby d2_130)
            have S404 : own_G p e below s0 T403 m 131 #[iv n_, iv c0, iv c1, iv c2, iv c3, iv c4] [(.ref b388), (.ref b377), (.ref b377)] := fun t kt => S401 t (st403 _ kt)
            have V405 := Arv.set Ar402 q402 Sz402 Nn402 Hh402 Gg402 (fits_nar_char _) W403 0 rfl (Nat.le_of_ble_eq_true rfl)
            have Sf406 := Safe.wr W403 Sf_b388 CR391.1 Sf390
            have Sf407 := Safe.wr W403 Sf_b388 CR391.1 Sf_b388
            have CR408 := CR391.trans (CHr.wr W403 Sf_b388 CR391.1)
            have F409 := F392.wr W403
            have F410 := F393.wr W403
            have F411 := F394.wr W403
            have F412 := F395.wr W403
            have F413 := F396.wr W403
            have F414 := F397.other W403 (Or.inl ne_b377_b388)
            have F415 := F398.other W403 (Or.inl ne_b377_b388)
            have N416 := Fr.snoc X403 N0 g_b388
            have K417 : Keep h0 h403 [] := K399.wr W403 (Or.inr sz_b388)
            have S418 : own_G p e below s0 T403 m 134 #[iv n_, iv c0, iv c1, iv c2, iv c3, iv c4] [(.int c1), (.int 1), (.ref b388), (.ref b388), (.ref b377), (.ref b377)] := fun t kt => by
              refine S404 t ?_
              refine w_dup X403 hx hby d2_131 rfl ?_
              refine w_iconst X403 hx hby d2_132 ?_
              refine w_iloadN X403 hx hby d2_133 rfl ?_
              exact kt
            obtain ⟨cl419, Ar419, q419, Sz419, Nn419, Hh419, Gg419⟩ := id V405
            have hin419 : ¬ ((1 : Int32) < 0 ∨ cl419.slots.size ≤ ((1 : Int32)).toNatClampNeg) := inb_of Sz419 ⟨by decide, by decide⟩
            obtain ⟨T420, h420, X420, e420, W420, st420⟩ := stC X403 hx hZ e403 Ar419 (j := (1 : Int32)) hin419 (g := (mkF m 134 #[iv n_, iv c0, iv c1, iv c2, iv c3, iv c4] [(.int c1), (.int 1), (.ref b388), (.ref b388), (.ref b377), (.ref b377)])) rfl rfl (hb hby d2_134)
            have S421 : own_G p e below s0 T420 m 135 #[iv n_, iv c0, iv c1, iv c2, iv c3, iv c4] [(.ref b388), (.ref b377), (.ref b377)] := fun t kt => S418 t (st420 _ kt)
            have V422 := Arv.set Ar419 q419 Sz419 Nn419 Hh419 Gg419 (fits_nar_char _) W420 1 rfl (Nat.le_of_ble_eq_true rfl)
            have Sf423 := Safe.wr W420 Sf407 CR408.1 Sf406
            have Sf424 := Safe.wr W420 Sf407 CR408.1 Sf407
            have CR425 := CR408.trans (CHr.wr W420 Sf407 CR408.1)
            have F426 := F409.wr W420
            have F427 := F410.wr W420
            have F428 := F411.wr W420
            have F429 := F412.wr W420
            have F430 := F413.wr W420
            have F431 := F414.other W420 (Or.inl ne_b377_b388)
            have F432 := F415.other W420 (Or.inl ne_b377_b388)
            have N433 := Fr.snoc X420 N416 g_b388
            have K434 : Keep h0 h420 [] := K417.wr W420 (Or.inr sz_b388)
            have S435 : own_G p e below s0 T420 m 138 #[iv n_, iv c0, iv c1, iv c2, iv c3, iv c4] [(.int c2), (.int 2), (.ref b388), (.ref b388), (.ref b377), (.ref b377)] := fun t kt => by
              refine S421 t ?_
              refine w_dup X420 hx hby d2_135 rfl ?_
              refine w_iconst X420 hx hby d2_136 ?_
              refine w_iloadN X420 hx hby d2_137 rfl ?_
              exact kt
            obtain ⟨cl436, Ar436, q436, Sz436, Nn436, Hh436, Gg436⟩ := id V422
            have hin436 : ¬ ((2 : Int32) < 0 ∨ cl436.slots.size ≤ ((2 : Int32)).toNatClampNeg) := inb_of Sz436 ⟨by decide, by decide⟩
            obtain ⟨T437, h437, X437, e437, W437, st437⟩ := stC X420 hx hZ e420 Ar436 (j := (2 : Int32)) hin436 (g := (mkF m 138 #[iv n_, iv c0, iv c1, iv c2, iv c3, iv c4] [(.int c2), (.int 2), (.ref b388), (.ref b388), (.ref b377), (.ref b377)])) rfl rfl (hb hby d2_138)
            have S438 : own_G p e below s0 T437 m 139 #[iv n_, iv c0, iv c1, iv c2, iv c3, iv c4] [(.ref b388), (.ref b377), (.ref b377)] := fun t kt => S435 t (st437 _ kt)
            have V439 := Arv.set Ar436 q436 Sz436 Nn436 Hh436 Gg436 (fits_nar_char _) W437 2 rfl (Nat.le_of_ble_eq_true rfl)
            have Sf440 := Safe.wr W437 Sf424 CR425.1 Sf423
            have Sf441 := Safe.wr W437 Sf424 CR425.1 Sf424
            have CR442 := CR425.trans (CHr.wr W437 Sf424 CR425.1)
            have F443 := F426.wr W437
            have F444 := F427.wr W437
            have F445 := F428.wr W437
            have F446 := F429.wr W437
            have F447 := F430.wr W437
            have F448 := F431.other W437 (Or.inl ne_b377_b388)
            have F449 := F432.other W437 (Or.inl ne_b377_b388)
            have N450 := Fr.snoc X437 N433 g_b388
            have K451 : Keep h0 h437 [] := K434.wr W437 (Or.inr sz_b388)
            have S452 : own_G p e below s0 T437 m 143 #[iv n_, iv c0, iv c1, iv c2, iv c3, iv c4] [(.int c3), (.int 3), (.ref b388), (.ref b388), (.ref b377), (.ref b377)] := fun t kt => by
              refine S438 t ?_
              refine w_dup X437 hx hby d2_139 rfl ?_
              refine w_iconst X437 hx hby d2_140 ?_
              refine w_iload X437 hx hby d2_141 rfl ?_
              exact kt
            obtain ⟨cl453, Ar453, q453, Sz453, Nn453, Hh453, Gg453⟩ := id V439
            have hin453 : ¬ ((3 : Int32) < 0 ∨ cl453.slots.size ≤ ((3 : Int32)).toNatClampNeg) := inb_of Sz453 ⟨by decide, by decide⟩
            obtain ⟨T454, h454, X454, e454, W454, st454⟩ := stC X437 hx hZ e437 Ar453 (j := (3 : Int32)) hin453 (g := (mkF m 143 #[iv n_, iv c0, iv c1, iv c2, iv c3, iv c4] [(.int c3), (.int 3), (.ref b388), (.ref b388), (.ref b377), (.ref b377)])) rfl rfl (hb hby d2_143)
            have S455 : own_G p e below s0 T454 m 144 #[iv n_, iv c0, iv c1, iv c2, iv c3, iv c4] [(.ref b388), (.ref b377), (.ref b377)] := fun t kt => S452 t (st454 _ kt)
            have V456 := Arv.set Ar453 q453 Sz453 Nn453 Hh453 Gg453 (fits_nar_char _) W454 3 rfl (Nat.le_of_ble_eq_true rfl)
            have Sf457 := Safe.wr W454 Sf441 CR442.1 Sf440
            have Sf458 := Safe.wr W454 Sf441 CR442.1 Sf441
            have CR459 := CR442.trans (CHr.wr W454 Sf441 CR442.1)
            have F460 := F443.wr W454
            have F461 := F444.wr W454
            have F462 := F445.wr W454
            have F463 := F446.wr W454
            have F464 := F447.wr W454
            have F465 := F448.other W454 (Or.inl ne_b377_b388)
            have F466 := F449.other W454 (Or.inl ne_b377_b388)
            have N467 := Fr.snoc X454 N450 g_b388
            have K468 : Keep h0 h454 [] := K451.wr W454 (Or.inr sz_b388)
            have S469 : own_G p e below s0 T454 m 148 #[iv n_, iv c0, iv c1, iv c2, iv c3, iv c4] [(.int c4), (.int 4), (.ref b388), (.ref b388), (.ref b377), (.ref b377)] := fun t kt => by
              refine S455 t ?_
              refine w_dup X454 hx hby d2_144 rfl ?_
              refine w_iconst X454 hx hby d2_145 ?_
              refine w_iload X454 hx hby d2_146 rfl ?_
              exact kt
            obtain ⟨cl470, Ar470, q470, Sz470, Nn470, Hh470, Gg470⟩ := id V456
            have hin470 : ¬ ((4 : Int32) < 0 ∨ cl470.slots.size ≤ ((4 : Int32)).toNatClampNeg) := inb_of Sz470 ⟨by decide, by decide⟩
            obtain ⟨T471, h471, X471, e471, W471, st471⟩ := stC X454 hx hZ e454 Ar470 (j := (4 : Int32)) hin470 (g := (mkF m 148 #[iv n_, iv c0, iv c1, iv c2, iv c3, iv c4] [(.int c4), (.int 4), (.ref b388), (.ref b388), (.ref b377), (.ref b377)])) rfl rfl (hb hby d2_148)
            have S472 : own_G p e below s0 T471 m 149 #[iv n_, iv c0, iv c1, iv c2, iv c3, iv c4] [(.ref b388), (.ref b377), (.ref b377)] := fun t kt => S469 t (st471 _ kt)
            have V473 := Arv.set Ar470 q470 Sz470 Nn470 Hh470 Gg470 (fits_nar_char _) W471 4 rfl (Nat.le_of_ble_eq_true rfl)
            have Sf474 := Safe.wr W471 Sf458 CR459.1 Sf457
            have Sf475 := Safe.wr W471 Sf458 CR459.1 Sf458
            have CR476 := CR459.trans (CHr.wr W471 Sf458 CR459.1)
            have F477 := F460.wr W471
            have F478 := F461.wr W471
            have F479 := F462.wr W471
            have F480 := F463.wr W471
            have F481 := F464.wr W471
            have F482 := F465.other W471 (Or.inl ne_b377_b388)
            have F483 := F466.other W471 (Or.inl ne_b377_b388)
            have N484 := Fr.snoc X471 N467 g_b388
            have K485 : Keep h0 h471 [] := K468.wr W471 (Or.inr sz_b388)
            obtain ⟨_, _, ⟨T488, L488, k488, n488⟩, -, X488, ⟨Lc488, hQ488, l488, y488, z488⟩, st488⟩ := X471.specialBack hx (y := own_y21) rfl hown (mvT hZ (own_w hw 12 rfl)) (mvT hZ (own_w hw 13 rfl)) (mvT hZ (own_w hw 14 rfl)) (by decide) (backOf (W := 1) (own_rm3 l Z a0 hw [] (b377) (b388) ((5 : Int32)) ([(nar .char c0), (nar .char c1), (nar .char c2), (nar .char c3), (nar .char c4)]) (k388) (cs) (.null) ((.int 0)) h471 n0 (Nat.le_trans Z0 K485.1) F481 g_b377 F482 F483 F477 hcs V473 F478 F479 F480 (by intro c hc; simp only [List.mem_cons, List.not_mem_nil, or_false] at hc; rcases hc with rfl | rfl | rfl | rfl | rfl <;> exact own_nc _) rfl (Nat.le_of_ble_eq_true rfl) (List.cons_ne_nil _ _)) hZ (own_w hw 14 rfl) (own_w hw 11 rfl) (by decide) (by decide)) (g := (mkF m 149 #[iv n_, iv c0, iv c1, iv c2, iv c3, iv c4] [(.ref b388), (.ref b377), (.ref b377)])) rfl (by rw [hml]; rfl) (Steps.refl _) (a := b377) (argsL := [(.ref b388)]) (rest := [(.ref b377)]) (lenOf own_pd17 rfl) rfl (by show 2 * 0 + _ ≤ _; exact Nat.le_of_eq rfl) (hb hby d2_149) (fun _ _ => ⟨rfl, e471, (by decide : 2 + 2 ≤ _), (by decide : 9 + 15 ≤ _)⟩)
            dsimp only [Pt.U, Pt.locs, Pt.cells, Pt.slots] at X488 l488 y488 z488 st488 hQ488
            subst l488 y488 z488
            obtain ⟨rfl, Nq488, Kc486, OS486⟩ := hQ488
            have N489 := Fr.app N484 Nq488
            have S490 : own_G p e below s0 T488 m 152 #[iv n_, iv c0, iv c1, iv c2, iv c3, iv c4] [(.ref b377)] := fun t kt => S472 t (st488.trans kt)
            have Sf491 := Safe.keep Kc486 (allS Sf474 all0) CR476.1 Sf474
            have Sf492 := Safe.keep Kc486 (allS Sf474 all0) CR476.1 Sf475
            have CR493 := CR476.trans (CHr.keep Kc486 (allS Sf474 all0) CR476.1)
            have F494 := own_StaK F477 Kc486 (allS (own_ExaS F481) all0)
            have F495 := own_StaK F478 Kc486 (allS (own_ExaS F481) all0)
            have F496 := own_StaK F479 Kc486 (allS (own_ExaS F481) all0)
            have F497 := own_StaK F480 Kc486 (allS (own_ExaS F481) all0)
            have F498 := F481.keep Kc486
            have F499 := V473.keep Kc486 (ninS (Ne.symm ne_b377_b388) nin0)
            have K500 : Keep h0 T488.heap [] := K485.trans Kc486 (allS (Or.inr sz_b377) all0)
            obtain ⟨fs, hr, hrun, hended, -, hW, hBk, hsame⟩ := X488.leaveW hS0 ((Nat.le_trans (Nat.le_trans (Nat.le_trans (Nat.le_trans (Nat.le_trans (Nat.le_trans (Nat.le_trans (Nat.le_trans (Nat.le_refl _) E377.1) E388.1) (Keep.of_wr W403).1) (Keep.of_wr W420).1) (Keep.of_wr W437).1) (Keep.of_wr W454).1) (Keep.of_wr W471).1) Kc486.1)) (v := some (.ref b377)) (fun h => by rw [Bd.returns] at h; cases h)
            refine ⟨_, _, S490 _ ?_, hrun, hended, _, _, rfl, ?_, (by show CHr Z own_EL s.vm s.heap T488.vm T488.heap; rw [hh]; exact CR493.trans (CHv.at X488 hZ hEL CR493.1)), ⟨_, rfl⟩, hW, hBk, hsame.mono (by decide) (by decide)⟩
            · show Steps p.tables e below (T488.setTop (mkF m 152 #[iv n_, iv c0, iv c1, iv c2, iv c3, iv c4] [(.ref b377)])) _
              jvm_step X488.here [X488.here.top, hx, (hb hby d2_152), X488.method', Bd.returns, Value.isRef, FieldType.isReference]
              first | (intro acts; rw [hr _ acts rfl rfl rfl]) | rw [hr _ _ rfl rfl rfl]
              exact Steps.refl _
            · show own_Q2 Z n_ c0 c1 c2 c3 c4 cs h0 n0 _ T488.heap _
              exact ⟨b377, rfl, N489, K500, (by have q := OS486; rw [own_ncid hb0, own_ncid hb1, own_ncid hb2, own_ncid hb3, own_ncid hb4] at q; rw [show n_ = (5 : Int32) from own_five hN hc1 hc17 hc37 hc61 hc89]; exact q)⟩
theorem own_pd18 : parseMethodDescriptor "(ICCCCC)Ljava/lang/String;" = some ⟨[.int, .char, .char, .char, .char, .char], some (.object "java/lang/String")⟩ := by decide +kernel
theorem own_pd19 : parseMethodDescriptor "(C)Z" = some ⟨[.char], some .boolean⟩ := by decide +kernel
theorem own_pd20 : parseMethodDescriptor "(Ljava/lang/String;)Z" = some ⟨[(.object "java/lang/String")], some .boolean⟩ := by decide +kernel
theorem own_ef0 (m : MethodId) (x0 : Int32) (x1 : Int32) (x2 : Int32) (x3 : Int32) (x4 : Int32) (x5 : Int32) : entryFrame m #[(.int x0), (.int x1), (.int x2), (.int x3), (.int x4), (.int x5)] maxLocals = mkF m 0 #[iv x0, iv x1, iv x2, iv x3, iv x4, iv x5, .unset, .unset, .unset, .unset, .unset, .unset, .unset, .unset] [] := by first | (simp [entryFrame, mkF, argsToLocals, Value.category, maxLocals]; done) | rfl
def own_Q0 (Z : State) (lN : Int32) (x0 : Int32) (x1 : Int32) (x2 : Int32) (x3 : Int32) (x4 : Int32) (cs : Int32) (fm : Value) (h0 : Heap) (n0 : Nat) (v : Option Value) (h : Heap) (L : List Loc) : Prop := v = some (.int 1) ∧ Fr n0 L
set_option maxHeartbeats 40000000 in
theorem own_rm0 (l : Launch) (Z : State) (a0 : Array Value) (hw : ∀ d ∈ tables_1, d.before a0 Z = true) (ws : List Jvm.Cond) (lN : Int32) (x0 : Int32) (x1 : Int32) (x2 : Int32) (x3 : Int32) (x4 : Int32) (cs : Int32) (fm : Value) (h0 : Heap) (n0 : Nat) (Z0 : n0 ≤ h0.size) (S_CS : Sta Z h0 "java/lang/String" "COMPACT_STRINGS" "Z" (.int cs)) (hcs : ¬ cs = (0 : Int32)) (S_FM : Sta Z h0 own_s1 "SIOOBE_FORMATTER" own_s0 fm) (hfm : own_fm fm) (S_AD : Sta Z h0 own_s2 own_s3 "Z" (.int 1)) (S_HI : Sta Z h0 own_s2 "HI_BYTE_SHIFT" "I" (.int 0)) (S_LO : Sta Z h0 own_s2 "LO_BYTE_SHIFT" "I" (.int 8)) :
    MetFree l x (head1 (Jvm.Cond.code x code maxLocals ret :: ws) room_1) (fun argv U => argv = #[(.int lN), (.int x0), (.int x1), (.int x2), (.int x3), (.int x4)] ∧ Z.Warmed39 U.vm ∧ U.heap = h0 ∧ CHv Z own_EL U.vm h0) (fun _ _ _ _ _ => True) (fun _ U o U' => ∃ v L, o = .returned v ∧ own_Q0 Z lN x0 x1 x2 x3 x4 cs fm h0 n0 v U'.heap L ∧ CHr Z own_EL U.vm U.heap U'.vm U'.heap ∧ ReturnedEndW U o U' L room_1.cells room_1.slots) := by
  refine MetFree.of_bodySF (plainFor_of_name own_pn5) hisR ?_
  intro p e s m args below meth c s₁ Bd hml0 hP hK
  obtain ⟨rfl, hZ, hh, hC0⟩ := hP
  have hx := Bd.exec
  have hby := Bd.bytes
  have hml : c.maxLocals = 14 := hml0
  have hown : s.vm.findClass "com/example/splode/splode/document/CoreSchemaRadixPinLaw" = some m.cls := findClass_of_methodNamed Bd.named
  have hnm := (name_of_methodNamed Bd.named Bd.method).1
  have X0 : Stand p l e room_1 (s.setVm s.vm) m #[(.int lN), (.int x0), (.int x1), (.int x2), (.int x3), (.int x4)] below meth c s₁ [] 0 0 := Stand.of_body Bd
  have e0 : s₁.heap = h0 := by rw [← hh, Bd.state]; rfl
  have N0 := Fr.nil n0
  have pre_ : own_G p e below (s₁.setTop (entryFrame m #[(.int lN), (.int x0), (.int x1), (.int x2), (.int x3), (.int x4)] maxLocals)) s₁ m 0 #[iv lN, iv x0, iv x1, iv x2, iv x3, iv x4, .unset, .unset, .unset, .unset, .unset, .unset, .unset, .unset] [] := fun t k => castTop (own_ef0 m lN x0 x1 x2 x3 x4) k
  obtain ⟨s0, hs0⟩ : ∃ z, z = (s₁.setTop (entryFrame m #[(.int lN), (.int x0), (.int x1), (.int x2), (.int x3), (.int x4)] maxLocals)) := ⟨_, rfl⟩
  have pre0 : own_G p e below s0 s₁ m 0 #[iv lN, iv x0, iv x1, iv x2, iv x3, iv x4, .unset, .unset, .unset, .unset, .unset, .unset, .unset, .unset] [] := hs0 ▸ pre_
  rw [← hs0]
  have CR0 : CHr Z own_EL s.vm h0 s.vm h0 := CHr.refl hC0
  have hEL := own_EW hw
  have hS0 : s.Since s.vm h0.size := (State.WarmedH.refl s).since _
  have wS := own_wS hw
  obtain ⟨T1, n_, X1, e1, hr0, S1⟩ : ∃ (T' : State) (n_ : Int32), own_like X0 T' ∧ T'.heap = h0 ∧ (0 ≤ n_.toInt ∧ n_.toInt ≤ 5) ∧ (own_G p e below s0 T' m 9 #[iv lN, iv x0, iv x1, iv x2, iv x3, iv x4, iv n_, .unset, .unset, .unset, .unset, .unset, .unset, .unset] []) := by
    have S2 : own_G p e below s0 s₁ m 9 #[iv lN, iv x0, iv x1, iv x2, iv x3, iv x4, iv ((lN &&& (2147483647 : Int32)) % (6 : Int32)), .unset, .unset, .unset, .unset, .unset, .unset, .unset] [] := fun t kt => by
      refine pre0 t ?_
      refine w_iloadN X0 hx hby at_0 rfl ?_
      refine X0.ldcInt hx hown (mvT hZ (own_w hw 0 rfl)) (g := (mkF m 1 #[iv lN, iv x0, iv x1, iv x2, iv x3, iv x4, .unset, .unset, .unset, .unset, .unset, .unset, .unset, .unset] [(.int lN)])) rfl (hb hby at_1) _ ?_
      refine w_iand X0 hx hby at_3 ?_
      refine w_bipush X0 hx hby at_4 ?_
      refine iremM X0 hx rfl (hb hby at_6) rfl (by decide) ?_
      refine w_istore X0 hx hby at_7 (l' := #[iv lN, iv x0, iv x1, iv x2, iv x3, iv x4, iv ((lN &&& (2147483647 : Int32)) % (6 : Int32)), .unset, .unset, .unset, .unset, .unset, .unset, .unset]) rfl ?_
      exact kt
    exact ⟨s₁, (((lN &&& (2147483647 : Int32)) % (6 : Int32))), X0, e0, (own_mod6 _), S2⟩
  have S5 : own_G p e below s0 T1 m 10 #[iv lN, iv x0, iv x1, iv x2, iv x3, iv x4, iv n_, .unset, .unset, .unset, .unset, .unset, .unset, .unset] [(.int x0)] := fun t kt => by
    refine S1 t ?_
    refine w_iloadN X1 hx hby at_9 rfl ?_
    exact kt
  obtain ⟨_, _, ⟨T6, L6, k6, n6⟩, -, X6, ⟨Lc6, hQ6, l6, y6, z6⟩, st6⟩ := Jvm.LawKit.callS X1 hx (y := own_y4) hown (mvT hZ (own_w hw 1 rfl)) (mvT hZ (own_w hw 2 rfl)) (mvT hZ (own_w hw 3 rfl)) (mvT hZ (own_w hw 4 rfl)) (by decide) (backOf (W := 0) (own_rm1 l Z a0 hw [] (x0) h0 n0 Z0 ) hZ (own_w hw 4 rfl) (own_w hw 3 rfl) (by decide) (by decide)) (g := (mkF m 10 #[iv lN, iv x0, iv x1, iv x2, iv x3, iv x4, iv n_, .unset, .unset, .unset, .unset, .unset, .unset, .unset] [(.int x0)])) rfl (by rw [hml]; rfl) (argsL := [(.int x0)]) (rest := []) (lenOf own_pd15 rfl) rfl (by show 2 * 0 + _ ≤ _; exact Nat.le_of_eq rfl) (hb hby at_10) (fun _ _ => ⟨rfl, e1, (by decide : 0 + 1 ≤ _), (by decide : 0 + 16 ≤ _)⟩)
  dsimp only [Pt.U, Pt.locs, Pt.cells, Pt.slots] at X6 l6 y6 z6 st6 hQ6
  subst l6 y6 z6
  obtain ⟨d0_, rfl, Nq6, Kc3, hb_d0_⟩ := hQ6
  have N7 := Fr.app N0 Nq6
  have S8 : own_G p e below s0 T6 m 13 #[iv lN, iv x0, iv x1, iv x2, iv x3, iv x4, iv n_, .unset, .unset, .unset, .unset, .unset, .unset, .unset] [(.int d0_)] := fun t kt => S5 t (st6 _ kt)
  have CR9 := CR0.trans (CHr.keep Kc3 all0 CR0.1)
  have F10 := own_StaK S_CS Kc3 all0
  have F11 := own_StaK S_FM Kc3 all0
  have F12 := own_StaK S_AD Kc3 all0
  have F13 := own_StaK S_HI Kc3 all0
  have F14 := own_StaK S_LO Kc3 all0
  have K15 : Keep h0 T6.heap [] := (Keep.refl h0 []).trans Kc3 all0
  have S18 : own_G p e below s0 T6 m 16 #[iv lN, iv x0, iv x1, iv x2, iv x3, iv x4, iv n_, iv d0_, .unset, .unset, .unset, .unset, .unset, .unset] [(.int x1)] := fun t kt => by
    refine S8 t ?_
    refine w_istore X6 hx hby at_13 (l' := #[iv lN, iv x0, iv x1, iv x2, iv x3, iv x4, iv n_, iv d0_, .unset, .unset, .unset, .unset, .unset, .unset]) rfl ?_
    refine w_iloadN X6 hx hby at_15 rfl ?_
    exact kt
  obtain ⟨_, _, ⟨T19, L19, k19, n19⟩, -, X19, ⟨Lc19, hQ19, l19, y19, z19⟩, st19⟩ := Jvm.LawKit.callS X6 hx (y := own_y4) hown (mvT hZ (own_w hw 1 rfl)) (mvT hZ (own_w hw 2 rfl)) (mvT hZ (own_w hw 3 rfl)) (mvT hZ (own_w hw 4 rfl)) (by decide) (backOf (W := 0) (own_rm1 l Z a0 hw [] (x1) T6.heap n0 (Nat.le_trans Z0 K15.1) ) hZ (own_w hw 4 rfl) (own_w hw 3 rfl) (by decide) (by decide)) (g := (mkF m 16 #[iv lN, iv x0, iv x1, iv x2, iv x3, iv x4, iv n_, iv d0_, .unset, .unset, .unset, .unset, .unset, .unset] [(.int x1)])) rfl (by rw [hml]; rfl) (argsL := [(.int x1)]) (rest := []) (lenOf own_pd15 rfl) rfl (by show 2 * 0 + _ ≤ _; exact Nat.le_of_eq rfl) (hb hby at_16) (fun _ _ => ⟨rfl, rfl, (by decide : 1 + 1 ≤ _), (by decide : 16 + 16 ≤ _)⟩)
  dsimp only [Pt.U, Pt.locs, Pt.cells, Pt.slots] at X19 l19 y19 z19 st19 hQ19
  subst l19 y19 z19
  obtain ⟨d1_, rfl, Nq19, Kc16, hb_d1_⟩ := hQ19
  have N20 := Fr.app N7 Nq19
  have S21 : own_G p e below s0 T19 m 19 #[iv lN, iv x0, iv x1, iv x2, iv x3, iv x4, iv n_, iv d0_, .unset, .unset, .unset, .unset, .unset, .unset] [(.int d1_)] := fun t kt => S18 t (st19 _ kt)
  have CR22 := CR9.trans (CHr.keep Kc16 all0 CR9.1)
  have F23 := own_StaK F10 Kc16 all0
  have F24 := own_StaK F11 Kc16 all0
  have F25 := own_StaK F12 Kc16 all0
  have F26 := own_StaK F13 Kc16 all0
  have F27 := own_StaK F14 Kc16 all0
  have K28 : Keep h0 T19.heap [] := K15.trans Kc16 all0
  have S31 : own_G p e below s0 T19 m 22 #[iv lN, iv x0, iv x1, iv x2, iv x3, iv x4, iv n_, iv d0_, iv d1_, .unset, .unset, .unset, .unset, .unset] [(.int x2)] := fun t kt => by
    refine S21 t ?_
    refine w_istore X19 hx hby at_19 (l' := #[iv lN, iv x0, iv x1, iv x2, iv x3, iv x4, iv n_, iv d0_, iv d1_, .unset, .unset, .unset, .unset, .unset]) rfl ?_
    refine w_iloadN X19 hx hby at_21 rfl ?_
    exact kt
  obtain ⟨_, _, ⟨T32, L32, k32, n32⟩, -, X32, ⟨Lc32, hQ32, l32, y32, z32⟩, st32⟩ := Jvm.LawKit.callS X19 hx (y := own_y4) hown (mvT hZ (own_w hw 1 rfl)) (mvT hZ (own_w hw 2 rfl)) (mvT hZ (own_w hw 3 rfl)) (mvT hZ (own_w hw 4 rfl)) (by decide) (backOf (W := 0) (own_rm1 l Z a0 hw [] (x2) T19.heap n0 (Nat.le_trans Z0 K28.1) ) hZ (own_w hw 4 rfl) (own_w hw 3 rfl) (by decide) (by decide)) (g := (mkF m 22 #[iv lN, iv x0, iv x1, iv x2, iv x3, iv x4, iv n_, iv d0_, iv d1_, .unset, .unset, .unset, .unset, .unset] [(.int x2)])) rfl (by rw [hml]; rfl) (argsL := [(.int x2)]) (rest := []) (lenOf own_pd15 rfl) rfl (by show 2 * 0 + _ ≤ _; exact Nat.le_of_eq rfl) (hb hby at_22) (fun _ _ => ⟨rfl, rfl, (by decide : 2 + 1 ≤ _), (by decide : 32 + 16 ≤ _)⟩)
  dsimp only [Pt.U, Pt.locs, Pt.cells, Pt.slots] at X32 l32 y32 z32 st32 hQ32
  subst l32 y32 z32
  obtain ⟨d2_, rfl, Nq32, Kc29, hb_d2_⟩ := hQ32
  have N33 := Fr.app N20 Nq32
  have S34 : own_G p e below s0 T32 m 25 #[iv lN, iv x0, iv x1, iv x2, iv x3, iv x4, iv n_, iv d0_, iv d1_, .unset, .unset, .unset, .unset, .unset] [(.int d2_)] := fun t kt => S31 t (st32 _ kt)
  have CR35 := CR22.trans (CHr.keep Kc29 all0 CR22.1)
  have F36 := own_StaK F23 Kc29 all0
  have F37 := own_StaK F24 Kc29 all0
  have F38 := own_StaK F25 Kc29 all0
  have F39 := own_StaK F26 Kc29 all0
  have F40 := own_StaK F27 Kc29 all0
  have K41 : Keep h0 T32.heap [] := K28.trans Kc29 all0
  have S44 : own_G p e below s0 T32 m 29 #[iv lN, iv x0, iv x1, iv x2, iv x3, iv x4, iv n_, iv d0_, iv d1_, iv d2_, .unset, .unset, .unset, .unset] [(.int x3)] := fun t kt => by
    refine S34 t ?_
    refine w_istore X32 hx hby at_25 (l' := #[iv lN, iv x0, iv x1, iv x2, iv x3, iv x4, iv n_, iv d0_, iv d1_, iv d2_, .unset, .unset, .unset, .unset]) rfl ?_
    refine w_iload X32 hx hby at_27 rfl ?_
    exact kt
  obtain ⟨_, _, ⟨T45, L45, k45, n45⟩, -, X45, ⟨Lc45, hQ45, l45, y45, z45⟩, st45⟩ := Jvm.LawKit.callS X32 hx (y := own_y4) hown (mvT hZ (own_w hw 1 rfl)) (mvT hZ (own_w hw 2 rfl)) (mvT hZ (own_w hw 3 rfl)) (mvT hZ (own_w hw 4 rfl)) (by decide) (backOf (W := 0) (own_rm1 l Z a0 hw [] (x3) T32.heap n0 (Nat.le_trans Z0 K41.1) ) hZ (own_w hw 4 rfl) (own_w hw 3 rfl) (by decide) (by decide)) (g := (mkF m 29 #[iv lN, iv x0, iv x1, iv x2, iv x3, iv x4, iv n_, iv d0_, iv d1_, iv d2_, .unset, .unset, .unset, .unset] [(.int x3)])) rfl (by rw [hml]; rfl) (argsL := [(.int x3)]) (rest := []) (lenOf own_pd15 rfl) rfl (by show 2 * 0 + _ ≤ _; exact Nat.le_of_eq rfl) (hb hby at_29) (fun _ _ => ⟨rfl, rfl, (by decide : 3 + 1 ≤ _), (by decide : 48 + 16 ≤ _)⟩)
  dsimp only [Pt.U, Pt.locs, Pt.cells, Pt.slots] at X45 l45 y45 z45 st45 hQ45
  subst l45 y45 z45
  obtain ⟨d3_, rfl, Nq45, Kc42, hb_d3_⟩ := hQ45
  have N46 := Fr.app N33 Nq45
  have S47 : own_G p e below s0 T45 m 32 #[iv lN, iv x0, iv x1, iv x2, iv x3, iv x4, iv n_, iv d0_, iv d1_, iv d2_, .unset, .unset, .unset, .unset] [(.int d3_)] := fun t kt => S44 t (st45 _ kt)
  have CR48 := CR35.trans (CHr.keep Kc42 all0 CR35.1)
  have F49 := own_StaK F36 Kc42 all0
  have F50 := own_StaK F37 Kc42 all0
  have F51 := own_StaK F38 Kc42 all0
  have F52 := own_StaK F39 Kc42 all0
  have F53 := own_StaK F40 Kc42 all0
  have K54 : Keep h0 T45.heap [] := K41.trans Kc42 all0
  have S57 : own_G p e below s0 T45 m 36 #[iv lN, iv x0, iv x1, iv x2, iv x3, iv x4, iv n_, iv d0_, iv d1_, iv d2_, iv d3_, .unset, .unset, .unset] [(.int x4)] := fun t kt => by
    refine S47 t ?_
    refine w_istore X45 hx hby at_32 (l' := #[iv lN, iv x0, iv x1, iv x2, iv x3, iv x4, iv n_, iv d0_, iv d1_, iv d2_, iv d3_, .unset, .unset, .unset]) rfl ?_
    refine w_iload X45 hx hby at_34 rfl ?_
    exact kt
  obtain ⟨_, _, ⟨T58, L58, k58, n58⟩, -, X58, ⟨Lc58, hQ58, l58, y58, z58⟩, st58⟩ := Jvm.LawKit.callS X45 hx (y := own_y4) hown (mvT hZ (own_w hw 1 rfl)) (mvT hZ (own_w hw 2 rfl)) (mvT hZ (own_w hw 3 rfl)) (mvT hZ (own_w hw 4 rfl)) (by decide) (backOf (W := 0) (own_rm1 l Z a0 hw [] (x4) T45.heap n0 (Nat.le_trans Z0 K54.1) ) hZ (own_w hw 4 rfl) (own_w hw 3 rfl) (by decide) (by decide)) (g := (mkF m 36 #[iv lN, iv x0, iv x1, iv x2, iv x3, iv x4, iv n_, iv d0_, iv d1_, iv d2_, iv d3_, .unset, .unset, .unset] [(.int x4)])) rfl (by rw [hml]; rfl) (argsL := [(.int x4)]) (rest := []) (lenOf own_pd15 rfl) rfl (by show 2 * 0 + _ ≤ _; exact Nat.le_of_eq rfl) (hb hby at_36) (fun _ _ => ⟨rfl, rfl, (by decide : 4 + 1 ≤ _), (by decide : 64 + 16 ≤ _)⟩)
  dsimp only [Pt.U, Pt.locs, Pt.cells, Pt.slots] at X58 l58 y58 z58 st58 hQ58
  subst l58 y58 z58
  obtain ⟨d4_, rfl, Nq58, Kc55, hb_d4_⟩ := hQ58
  have N59 := Fr.app N46 Nq58
  have S60 : own_G p e below s0 T58 m 39 #[iv lN, iv x0, iv x1, iv x2, iv x3, iv x4, iv n_, iv d0_, iv d1_, iv d2_, iv d3_, .unset, .unset, .unset] [(.int d4_)] := fun t kt => S57 t (st58 _ kt)
  have CR61 := CR48.trans (CHr.keep Kc55 all0 CR48.1)
  have F62 := own_StaK F49 Kc55 all0
  have F63 := own_StaK F50 Kc55 all0
  have F64 := own_StaK F51 Kc55 all0
  have F65 := own_StaK F52 Kc55 all0
  have F66 := own_StaK F53 Kc55 all0
  have K67 : Keep h0 T58.heap [] := K54.trans Kc55 all0
  have S70 : own_G p e below s0 T58 m 53 #[iv lN, iv x0, iv x1, iv x2, iv x3, iv x4, iv n_, iv d0_, iv d1_, iv d2_, iv d3_, iv d4_, .unset, .unset] [(.int d4_), (.int d3_), (.int d2_), (.int d1_), (.int d0_), (.int n_)] := fun t kt => by
    refine S60 t ?_
    refine w_istore X58 hx hby at_39 (l' := #[iv lN, iv x0, iv x1, iv x2, iv x3, iv x4, iv n_, iv d0_, iv d1_, iv d2_, iv d3_, iv d4_, .unset, .unset]) rfl ?_
    refine w_iload X58 hx hby at_41 rfl ?_
    refine w_iload X58 hx hby at_43 rfl ?_
    refine w_iload X58 hx hby at_45 rfl ?_
    refine w_iload X58 hx hby at_47 rfl ?_
    refine w_iload X58 hx hby at_49 rfl ?_
    refine w_iload X58 hx hby at_51 rfl ?_
    exact kt
  obtain ⟨_, _, ⟨T71, L71, k71, n71⟩, -, X71_, hSr71, hgr71, ⟨Lc71, hQ71, l71, y71, z71, hCr71⟩, st71⟩ := callSS X58 hx (y := own_y0) hown (mvT hZ (own_w hw 6 rfl)) (mvT hZ (own_w hw 7 rfl)) (mvT hZ (own_w hw 3 rfl)) (mvT hZ (own_w hw 8 rfl)) (by decide) (backOfSH (EL := own_EL) (s := s) (vm0 := s.vm) (W := 0) (own_rm2 l Z a0 hw [] (n_) (d0_) (d1_) (d2_) (d3_) (d4_) (cs) T58.heap n0 (Nat.le_trans Z0 K67.1) F62 hcs F64 F65 F66 hr0 hb_d0_ hb_d1_ hb_d2_ hb_d3_ hb_d4_) hZ (own_w hw 8 rfl) (own_w hw 3 rfl) (by decide) (by decide) hEL CR61.1) (g := (mkF m 53 #[iv lN, iv x0, iv x1, iv x2, iv x3, iv x4, iv n_, iv d0_, iv d1_, iv d2_, iv d3_, iv d4_, .unset, .unset] [(.int d4_), (.int d3_), (.int d2_), (.int d1_), (.int d0_), (.int n_)])) rfl (by rw [hml]; rfl) (argsL := [(.int n_), (.int d0_), (.int d1_), (.int d2_), (.int d3_), (.int d4_)]) (rest := []) (lenOf own_pd18 rfl) rfl (by show 2 * 0 + _ ≤ _; exact Nat.le_of_eq rfl) (hb hby at_53) (fun _ _ => ⟨rfl, rfl, (by decide : 5 + 6 ≤ _), (by decide : 80 + 24 ≤ _)⟩)
  dsimp only [Pt.U, Pt.locs, Pt.cells, Pt.slots] at X71_ hSr71 hgr71 l71 y71 z71 hCr71 st71 hQ71
  subst l71 y71 z71
  obtain ⟨X71, hS71, hZ71, ho71⟩ := rebS hS0 ((Nat.le_trans (Nat.le_trans (Nat.le_trans (Nat.le_trans (Nat.le_trans (Nat.le_refl _) Kc3.1) Kc16.1) Kc29.1) Kc42.1) Kc55.1)) X71_ hSr71 hgr71 hZ hown
  obtain ⟨r_, rfl, Nq71, Kc68, OS68⟩ := hQ71
  have N72 := Fr.app N59 Nq71
  have S73 : own_G p e below s0 T71 m 56 #[iv lN, iv x0, iv x1, iv x2, iv x3, iv x4, iv n_, iv d0_, iv d1_, iv d2_, iv d3_, iv d4_, .unset, .unset] [(.ref r_)] := fun t kt => S70 t (st71.trans kt)
  have CR74 := CR61.trans hCr71
  have F75 := own_StaK F62 Kc68 all0
  have F76 := own_StaK F63 Kc68 all0
  have F77 := own_StaK F64 Kc68 all0
  have F78 := own_StaK F65 Kc68 all0
  have F79 := own_StaK F66 Kc68 all0
  have K80 : Keep h0 T71.heap [] := K67.trans Kc68 all0
  have S81 : own_G p e below s0 T71 m 58 #[iv lN, iv x0, iv x1, iv x2, iv x3, iv x4, iv n_, iv d0_, iv d1_, iv d2_, iv d3_, iv d4_, rv r_, .unset] [] := fun t kt => by
    refine S73 t ?_
    refine w_astore X71 hx hby at_56 rfl (l' := #[iv lN, iv x0, iv x1, iv x2, iv x3, iv x4, iv n_, iv d0_, iv d1_, iv d2_, iv d3_, iv d4_, rv r_, .unset]) rfl ?_
    exact kt
  obtain ⟨T82, ex, X82, e82, hr58, S82⟩ : ∃ (T' : State) (ex : Int32), own_like X71 T' ∧ T'.heap = T71.heap ∧ (ex = own_b (own_exp n_ d0_ d1_ d2_ d3_ d4_)) ∧ (own_G p e below s0 T' m 186 #[iv lN, iv x0, iv x1, iv x2, iv x3, iv x4, iv n_, iv d0_, iv d1_, iv d2_, iv d3_, iv d4_, rv r_, iv ex] []) := by
    have S83 : own_G p e below s0 T71 m 61 #[iv lN, iv x0, iv x1, iv x2, iv x3, iv x4, iv n_, iv d0_, iv d1_, iv d2_, iv d3_, iv d4_, rv r_, .unset] [(.int 2), (.int n_)] := fun t kt => by
      refine S81 t ?_
      refine w_iload X71 hx hby at_58 rfl ?_
      refine w_iconst X71 hx hby at_60 ?_
      exact kt
    by_cases hc61 : (2 : Int32) < n_
    · skip
      have S84 : own_G p e below s0 T71 m 68 #[iv lN, iv x0, iv x1, iv x2, iv x3, iv x4, iv n_, iv d0_, iv d1_, iv d2_, iv d3_, iv d4_, rv r_, .unset] [(.int 48), (.int d0_)] := fun t kt => by
        refine S83 t ?_
        refine w_icmpNo X71 hx hby at_61 (tlt hc61).2.2.2 ?_
        refine w_iload X71 hx hby at_64 rfl ?_
        refine w_bipush X71 hx hby at_66 ?_
        exact kt
      by_cases hc68 : d0_ = (48 : Int32)
      · skip
        have S85 : own_G p e below s0 T71 m 81 #[iv lN, iv x0, iv x1, iv x2, iv x3, iv x4, iv n_, iv d0_, iv d1_, iv d2_, iv d3_, iv d4_, rv r_, .unset] [(.int 111), (.int d1_)] := fun t kt => by
          refine S84 t ?_
          refine w_icmpYes X71 hx hby (pc' := 77) at_68 (teq hc68).1 (by decide) ?_
          refine w_iload X71 hx hby at_77 rfl ?_
          refine w_bipush X71 hx hby at_79 ?_
          exact kt
        by_cases hc81 : d1_ = (111 : Int32)
        · skip
          have S87 : own_G p e below s0 T71 m 86 #[iv lN, iv x0, iv x1, iv x2, iv x3, iv x4, iv n_, iv d0_, iv d1_, iv d2_, iv d3_, iv d4_, rv r_, .unset] [(.int d2_)] := fun t kt => by
            refine S85 t ?_
            refine w_icmpNo X71 hx hby at_81 (teq hc81).2 ?_
            refine w_iload X71 hx hby at_84 rfl ?_
            exact kt
          obtain ⟨_, _, ⟨T88, L88, k88, n88⟩, -, X88, ⟨Lc88, hQ88, l88, y88, z88⟩, st88⟩ := Jvm.LawKit.callS X71 hx (y := own_y3) ho71 (mvT hZ71 (own_w hw 113 rfl)) (mvT hZ71 (own_w hw 114 rfl)) (mvT hZ71 (own_w hw 3 rfl)) (mvT hZ71 (own_w hw 115 rfl)) (by decide) (backOf (W := 0) (own_rm27 l Z a0 hw [] (d2_) T71.heap n0 (Nat.le_trans Z0 K80.1)) hZ71 (own_w hw 115 rfl) (own_w hw 3 rfl) (by decide) (by decide)) (g := (mkF m 86 #[iv lN, iv x0, iv x1, iv x2, iv x3, iv x4, iv n_, iv d0_, iv d1_, iv d2_, iv d3_, iv d4_, rv r_, .unset] [(.int d2_)])) rfl (by rw [hml]; rfl) (argsL := [(.int d2_)]) (rest := []) (lenOf own_pd19 rfl) rfl (by show 2 * 0 + _ ≤ _; exact Nat.le_of_eq rfl) (hb hby at_86) (fun _ _ => ⟨rfl, rfl, (by decide : 11 + 0 ≤ _), (by decide : 104 + 0 ≤ _)⟩)
          dsimp only [Pt.U, Pt.locs, Pt.cells, Pt.slots] at X88 l88 y88 z88 st88 hQ88
          subst l88 y88 z88
          obtain ⟨rfl, rfl, eq86⟩ := hQ88
          try rw [List.append_nil] at X88
          have S89 : own_G p e below s0 T88 m 89 #[iv lN, iv x0, iv x1, iv x2, iv x3, iv x4, iv n_, iv d0_, iv d1_, iv d2_, iv d3_, iv d4_, rv r_, .unset] [(.int (own_b (own_oct d2_)))] := fun t kt => S87 t (st88 _ kt)
          by_cases hc89 : (own_b (own_oct d2_)) = (0 : Int32)
          · skip
            have S90 : own_G p e below s0 T88 m 186 #[iv lN, iv x0, iv x1, iv x2, iv x3, iv x4, iv n_, iv d0_, iv d1_, iv d2_, iv d3_, iv d4_, rv r_, iv 0] [] := fun t kt => by
              refine S89 t ?_
              refine w_ifYes X88 hx hby (pc' := 124) at_89 ((if0 _ _).trans (teq hc89).1) (by decide) ?_
              refine w_iconst X88 hx hby at_124 ?_
              refine w_istore X88 hx hby at_125 (l' := #[iv lN, iv x0, iv x1, iv x2, iv x3, iv x4, iv n_, iv d0_, iv d1_, iv d2_, iv d3_, iv d4_, rv r_, iv 0]) rfl ?_
              refine w_goto X88 hx hby (pc' := 186) at_127 (by decide) ?_
              exact kt
            exact ⟨T88, ((0 : Int32)), X88, (eq86.trans rfl), (own_bf (by simp [own_exp, hc61, hc68, hc81, own_b0.mp hc89])), S90⟩
          · skip
            have S91 : own_G p e below s0 T88 m 95 #[iv lN, iv x0, iv x1, iv x2, iv x3, iv x4, iv n_, iv d0_, iv d1_, iv d2_, iv d3_, iv d4_, rv r_, .unset] [(.int 4), (.int n_)] := fun t kt => by
              refine S89 t ?_
              refine w_ifNo X88 hx hby at_89 ((if0 _ _).trans (feq hc89).1) ?_
              refine w_iload X88 hx hby at_92 rfl ?_
              refine w_iconst X88 hx hby at_94 ?_
              exact kt
            by_cases hc95 : n_ < (4 : Int32)
            · skip
              have S92 : own_G p e below s0 T88 m 109 #[iv lN, iv x0, iv x1, iv x2, iv x3, iv x4, iv n_, iv d0_, iv d1_, iv d2_, iv d3_, iv d4_, rv r_, .unset] [(.int 5), (.int n_)] := fun t kt => by
                refine S91 t ?_
                refine w_icmpYes X88 hx hby (pc' := 106) at_95 (tlt hc95).1 (by decide) ?_
                refine w_iload X88 hx hby at_106 rfl ?_
                refine w_iconst X88 hx hby at_108 ?_
                exact kt
              by_cases hc109 : n_ < (5 : Int32)
              · skip
                have S93 : own_G p e below s0 T88 m 186 #[iv lN, iv x0, iv x1, iv x2, iv x3, iv x4, iv n_, iv d0_, iv d1_, iv d2_, iv d3_, iv d4_, rv r_, iv 1] [] := fun t kt => by
                  refine S92 t ?_
                  refine w_icmpYes X88 hx hby (pc' := 120) at_109 (tlt hc109).1 (by decide) ?_
                  refine w_iconst X88 hx hby at_120 ?_
                  refine w_goto X88 hx hby (pc' := 125) at_121 (by decide) ?_
                  refine w_istore X88 hx hby at_125 (l' := #[iv lN, iv x0, iv x1, iv x2, iv x3, iv x4, iv n_, iv d0_, iv d1_, iv d2_, iv d3_, iv d4_, rv r_, iv 1]) rfl ?_
                  refine w_goto X88 hx hby (pc' := 186) at_127 (by decide) ?_
                  exact kt
                exact ⟨T88, ((1 : Int32)), X88, (eq86.trans rfl), (own_bt (by simp [own_exp, hc61, hc68, hc81, own_bn0 hc89, hc95, hc109])), S93⟩
              · skip
                have S95 : own_G p e below s0 T88 m 114 #[iv lN, iv x0, iv x1, iv x2, iv x3, iv x4, iv n_, iv d0_, iv d1_, iv d2_, iv d3_, iv d4_, rv r_, .unset] [(.int d4_)] := fun t kt => by
                  refine S92 t ?_
                  refine w_icmpNo X88 hx hby at_109 (flt hc109).1 ?_
                  refine w_iload X88 hx hby at_112 rfl ?_
                  exact kt
                obtain ⟨_, _, ⟨T96, L96, k96, n96⟩, -, X96, ⟨Lc96, hQ96, l96, y96, z96⟩, st96⟩ := Jvm.LawKit.callS X88 hx (y := own_y3) ho71 (mvT hZ71 (own_w hw 113 rfl)) (mvT hZ71 (own_w hw 114 rfl)) (mvT hZ71 (own_w hw 3 rfl)) (mvT hZ71 (own_w hw 115 rfl)) (by decide) (backOf (W := 0) (own_rm27 l Z a0 hw [] (d4_) T71.heap n0 (Nat.le_trans Z0 K80.1)) hZ71 (own_w hw 115 rfl) (own_w hw 3 rfl) (by decide) (by decide)) (g := (mkF m 114 #[iv lN, iv x0, iv x1, iv x2, iv x3, iv x4, iv n_, iv d0_, iv d1_, iv d2_, iv d3_, iv d4_, rv r_, .unset] [(.int d4_)])) rfl (by rw [hml]; rfl) (argsL := [(.int d4_)]) (rest := []) (lenOf own_pd19 rfl) rfl (by show 2 * 0 + _ ≤ _; exact Nat.le_of_eq rfl) (hb hby at_114) (fun _ _ => ⟨rfl, (eq86.trans rfl), (by decide : 11 + 0 ≤ _), (by decide : 104 + 0 ≤ _)⟩)
                dsimp only [Pt.U, Pt.locs, Pt.cells, Pt.slots] at X96 l96 y96 z96 st96 hQ96
                subst l96 y96 z96
                obtain ⟨rfl, rfl, eq94⟩ := hQ96
                try rw [List.append_nil] at X96
                have S97 : own_G p e below s0 T96 m 117 #[iv lN, iv x0, iv x1, iv x2, iv x3, iv x4, iv n_, iv d0_, iv d1_, iv d2_, iv d3_, iv d4_, rv r_, .unset] [(.int (own_b (own_oct d4_)))] := fun t kt => S95 t (st96 _ kt)
                by_cases hc117 : (own_b (own_oct d4_)) = (0 : Int32)
                · skip
                  have S98 : own_G p e below s0 T96 m 186 #[iv lN, iv x0, iv x1, iv x2, iv x3, iv x4, iv n_, iv d0_, iv d1_, iv d2_, iv d3_, iv d4_, rv r_, iv 0] [] := fun t kt => by
                    refine S97 t ?_
                    refine w_ifYes X96 hx hby (pc' := 124) at_117 ((if0 _ _).trans (teq hc117).1) (by decide) ?_
                    refine w_iconst X96 hx hby at_124 ?_
                    refine w_istore X96 hx hby at_125 (l' := #[iv lN, iv x0, iv x1, iv x2, iv x3, iv x4, iv n_, iv d0_, iv d1_, iv d2_, iv d3_, iv d4_, rv r_, iv 0]) rfl ?_
                    refine w_goto X96 hx hby (pc' := 186) at_127 (by decide) ?_
                    exact kt
                  exact ⟨T96, ((0 : Int32)), X96, eq94, (own_bf (by simp [own_exp, hc61, hc68, hc81, own_bn0 hc89, hc95, hc109, own_b0.mp hc117])), S98⟩
                · skip
                  have S99 : own_G p e below s0 T96 m 186 #[iv lN, iv x0, iv x1, iv x2, iv x3, iv x4, iv n_, iv d0_, iv d1_, iv d2_, iv d3_, iv d4_, rv r_, iv 1] [] := fun t kt => by
                    refine S97 t ?_
                    refine w_ifNo X96 hx hby at_117 ((if0 _ _).trans (feq hc117).1) ?_
                    refine w_iconst X96 hx hby at_120 ?_
                    refine w_goto X96 hx hby (pc' := 125) at_121 (by decide) ?_
                    refine w_istore X96 hx hby at_125 (l' := #[iv lN, iv x0, iv x1, iv x2, iv x3, iv x4, iv n_, iv d0_, iv d1_, iv d2_, iv d3_, iv d4_, rv r_, iv 1]) rfl ?_
                    refine w_goto X96 hx hby (pc' := 186) at_127 (by decide) ?_
                    exact kt
                  exact ⟨T96, ((1 : Int32)), X96, eq94, (own_bt (by simp [own_exp, hc61, hc68, hc81, own_bn0 hc89, hc95, hc109, own_bn0 hc117])), S99⟩
            · skip
              have S101 : own_G p e below s0 T88 m 100 #[iv lN, iv x0, iv x1, iv x2, iv x3, iv x4, iv n_, iv d0_, iv d1_, iv d2_, iv d3_, iv d4_, rv r_, .unset] [(.int d3_)] := fun t kt => by
                refine S91 t ?_
                refine w_icmpNo X88 hx hby at_95 (flt hc95).1 ?_
                refine w_iload X88 hx hby at_98 rfl ?_
                exact kt
              obtain ⟨_, _, ⟨T102, L102, k102, n102⟩, -, X102, ⟨Lc102, hQ102, l102, y102, z102⟩, st102⟩ := Jvm.LawKit.callS X88 hx (y := own_y3) ho71 (mvT hZ71 (own_w hw 113 rfl)) (mvT hZ71 (own_w hw 114 rfl)) (mvT hZ71 (own_w hw 3 rfl)) (mvT hZ71 (own_w hw 115 rfl)) (by decide) (backOf (W := 0) (own_rm27 l Z a0 hw [] (d3_) T71.heap n0 (Nat.le_trans Z0 K80.1)) hZ71 (own_w hw 115 rfl) (own_w hw 3 rfl) (by decide) (by decide)) (g := (mkF m 100 #[iv lN, iv x0, iv x1, iv x2, iv x3, iv x4, iv n_, iv d0_, iv d1_, iv d2_, iv d3_, iv d4_, rv r_, .unset] [(.int d3_)])) rfl (by rw [hml]; rfl) (argsL := [(.int d3_)]) (rest := []) (lenOf own_pd19 rfl) rfl (by show 2 * 0 + _ ≤ _; exact Nat.le_of_eq rfl) (hb hby at_100) (fun _ _ => ⟨rfl, (eq86.trans rfl), (by decide : 11 + 0 ≤ _), (by decide : 104 + 0 ≤ _)⟩)
              dsimp only [Pt.U, Pt.locs, Pt.cells, Pt.slots] at X102 l102 y102 z102 st102 hQ102
              subst l102 y102 z102
              obtain ⟨rfl, rfl, eq100⟩ := hQ102
              try rw [List.append_nil] at X102
              have S103 : own_G p e below s0 T102 m 103 #[iv lN, iv x0, iv x1, iv x2, iv x3, iv x4, iv n_, iv d0_, iv d1_, iv d2_, iv d3_, iv d4_, rv r_, .unset] [(.int (own_b (own_oct d3_)))] := fun t kt => S101 t (st102 _ kt)
              by_cases hc103 : (own_b (own_oct d3_)) = (0 : Int32)
              · skip
                have S104 : own_G p e below s0 T102 m 186 #[iv lN, iv x0, iv x1, iv x2, iv x3, iv x4, iv n_, iv d0_, iv d1_, iv d2_, iv d3_, iv d4_, rv r_, iv 0] [] := fun t kt => by
                  refine S103 t ?_
                  refine w_ifYes X102 hx hby (pc' := 124) at_103 ((if0 _ _).trans (teq hc103).1) (by decide) ?_
                  refine w_iconst X102 hx hby at_124 ?_
                  refine w_istore X102 hx hby at_125 (l' := #[iv lN, iv x0, iv x1, iv x2, iv x3, iv x4, iv n_, iv d0_, iv d1_, iv d2_, iv d3_, iv d4_, rv r_, iv 0]) rfl ?_
                  refine w_goto X102 hx hby (pc' := 186) at_127 (by decide) ?_
                  exact kt
                exact ⟨T102, ((0 : Int32)), X102, eq100, (own_bf (by simp [own_exp, hc61, hc68, hc81, own_bn0 hc89, hc95, own_b0.mp hc103])), S104⟩
              · skip
                have S105 : own_G p e below s0 T102 m 109 #[iv lN, iv x0, iv x1, iv x2, iv x3, iv x4, iv n_, iv d0_, iv d1_, iv d2_, iv d3_, iv d4_, rv r_, .unset] [(.int 5), (.int n_)] := fun t kt => by
                  refine S103 t ?_
                  refine w_ifNo X102 hx hby at_103 ((if0 _ _).trans (feq hc103).1) ?_
                  refine w_iload X102 hx hby at_106 rfl ?_
                  refine w_iconst X102 hx hby at_108 ?_
                  exact kt
                by_cases hc109 : n_ < (5 : Int32)
                · skip
                  have S106 : own_G p e below s0 T102 m 186 #[iv lN, iv x0, iv x1, iv x2, iv x3, iv x4, iv n_, iv d0_, iv d1_, iv d2_, iv d3_, iv d4_, rv r_, iv 1] [] := fun t kt => by
                    refine S105 t ?_
                    refine w_icmpYes X102 hx hby (pc' := 120) at_109 (tlt hc109).1 (by decide) ?_
                    refine w_iconst X102 hx hby at_120 ?_
                    refine w_goto X102 hx hby (pc' := 125) at_121 (by decide) ?_
                    refine w_istore X102 hx hby at_125 (l' := #[iv lN, iv x0, iv x1, iv x2, iv x3, iv x4, iv n_, iv d0_, iv d1_, iv d2_, iv d3_, iv d4_, rv r_, iv 1]) rfl ?_
                    refine w_goto X102 hx hby (pc' := 186) at_127 (by decide) ?_
                    exact kt
                  exact ⟨T102, ((1 : Int32)), X102, eq100, (own_bt (by simp [own_exp, hc61, hc68, hc81, own_bn0 hc89, hc95, own_bn0 hc103, hc109])), S106⟩
                · skip
                  have S108 : own_G p e below s0 T102 m 114 #[iv lN, iv x0, iv x1, iv x2, iv x3, iv x4, iv n_, iv d0_, iv d1_, iv d2_, iv d3_, iv d4_, rv r_, .unset] [(.int d4_)] := fun t kt => by
                    refine S105 t ?_
                    refine w_icmpNo X102 hx hby at_109 (flt hc109).1 ?_
                    refine w_iload X102 hx hby at_112 rfl ?_
                    exact kt
                  obtain ⟨_, _, ⟨T109, L109, k109, n109⟩, -, X109, ⟨Lc109, hQ109, l109, y109, z109⟩, st109⟩ := Jvm.LawKit.callS X102 hx (y := own_y3) ho71 (mvT hZ71 (own_w hw 113 rfl)) (mvT hZ71 (own_w hw 114 rfl)) (mvT hZ71 (own_w hw 3 rfl)) (mvT hZ71 (own_w hw 115 rfl)) (by decide) (backOf (W := 0) (own_rm27 l Z a0 hw [] (d4_) T71.heap n0 (Nat.le_trans Z0 K80.1)) hZ71 (own_w hw 115 rfl) (own_w hw 3 rfl) (by decide) (by decide)) (g := (mkF m 114 #[iv lN, iv x0, iv x1, iv x2, iv x3, iv x4, iv n_, iv d0_, iv d1_, iv d2_, iv d3_, iv d4_, rv r_, .unset] [(.int d4_)])) rfl (by rw [hml]; rfl) (argsL := [(.int d4_)]) (rest := []) (lenOf own_pd19 rfl) rfl (by show 2 * 0 + _ ≤ _; exact Nat.le_of_eq rfl) (hb hby at_114) (fun _ _ => ⟨rfl, eq100, (by decide : 11 + 0 ≤ _), (by decide : 104 + 0 ≤ _)⟩)
                  dsimp only [Pt.U, Pt.locs, Pt.cells, Pt.slots] at X109 l109 y109 z109 st109 hQ109
                  subst l109 y109 z109
                  obtain ⟨rfl, rfl, eq107⟩ := hQ109
                  try rw [List.append_nil] at X109
                  have S110 : own_G p e below s0 T109 m 117 #[iv lN, iv x0, iv x1, iv x2, iv x3, iv x4, iv n_, iv d0_, iv d1_, iv d2_, iv d3_, iv d4_, rv r_, .unset] [(.int (own_b (own_oct d4_)))] := fun t kt => S108 t (st109 _ kt)
                  by_cases hc117 : (own_b (own_oct d4_)) = (0 : Int32)
                  · skip
                    have S111 : own_G p e below s0 T109 m 186 #[iv lN, iv x0, iv x1, iv x2, iv x3, iv x4, iv n_, iv d0_, iv d1_, iv d2_, iv d3_, iv d4_, rv r_, iv 0] [] := fun t kt => by
                      refine S110 t ?_
                      refine w_ifYes X109 hx hby (pc' := 124) at_117 ((if0 _ _).trans (teq hc117).1) (by decide) ?_
                      refine w_iconst X109 hx hby at_124 ?_
                      refine w_istore X109 hx hby at_125 (l' := #[iv lN, iv x0, iv x1, iv x2, iv x3, iv x4, iv n_, iv d0_, iv d1_, iv d2_, iv d3_, iv d4_, rv r_, iv 0]) rfl ?_
                      refine w_goto X109 hx hby (pc' := 186) at_127 (by decide) ?_
                      exact kt
                    exact ⟨T109, ((0 : Int32)), X109, eq107, (own_bf (by simp [own_exp, hc61, hc68, hc81, own_bn0 hc89, hc95, own_bn0 hc103, hc109, own_b0.mp hc117])), S111⟩
                  · skip
                    have S112 : own_G p e below s0 T109 m 186 #[iv lN, iv x0, iv x1, iv x2, iv x3, iv x4, iv n_, iv d0_, iv d1_, iv d2_, iv d3_, iv d4_, rv r_, iv 1] [] := fun t kt => by
                      refine S110 t ?_
                      refine w_ifNo X109 hx hby at_117 ((if0 _ _).trans (feq hc117).1) ?_
                      refine w_iconst X109 hx hby at_120 ?_
                      refine w_goto X109 hx hby (pc' := 125) at_121 (by decide) ?_
                      refine w_istore X109 hx hby at_125 (l' := #[iv lN, iv x0, iv x1, iv x2, iv x3, iv x4, iv n_, iv d0_, iv d1_, iv d2_, iv d3_, iv d4_, rv r_, iv 1]) rfl ?_
                      refine w_goto X109 hx hby (pc' := 186) at_127 (by decide) ?_
                      exact kt
                    exact ⟨T109, ((1 : Int32)), X109, eq107, (own_bt (by simp [own_exp, hc61, hc68, hc81, own_bn0 hc89, hc95, own_bn0 hc103, hc109, own_bn0 hc117])), S112⟩
        · skip
          have S113 : own_G p e below s0 T71 m 134 #[iv lN, iv x0, iv x1, iv x2, iv x3, iv x4, iv n_, iv d0_, iv d1_, iv d2_, iv d3_, iv d4_, rv r_, .unset] [(.int 120), (.int d1_)] := fun t kt => by
            refine S85 t ?_
            refine w_icmpYes X71 hx hby (pc' := 130) at_81 (feq hc81).2 (by decide) ?_
            refine w_iload X71 hx hby at_130 rfl ?_
            refine w_bipush X71 hx hby at_132 ?_
            exact kt
          by_cases hc134 : d1_ = (120 : Int32)
          · skip
            have S115 : own_G p e below s0 T71 m 139 #[iv lN, iv x0, iv x1, iv x2, iv x3, iv x4, iv n_, iv d0_, iv d1_, iv d2_, iv d3_, iv d4_, rv r_, .unset] [(.int d2_)] := fun t kt => by
              refine S113 t ?_
              refine w_icmpNo X71 hx hby at_134 (teq hc134).2 ?_
              refine w_iload X71 hx hby at_137 rfl ?_
              exact kt
            obtain ⟨_, _, ⟨T116, L116, k116, n116⟩, -, X116, ⟨Lc116, hQ116, l116, y116, z116⟩, st116⟩ := Jvm.LawKit.callS X71 hx (y := own_y5) ho71 (mvT hZ71 (own_w hw 107 rfl)) (mvT hZ71 (own_w hw 108 rfl)) (mvT hZ71 (own_w hw 3 rfl)) (mvT hZ71 (own_w hw 109 rfl)) (by decide) (backOf (W := 0) (own_rm25 l Z a0 hw [] (d2_) T71.heap n0 (Nat.le_trans Z0 K80.1)) hZ71 (own_w hw 109 rfl) (own_w hw 3 rfl) (by decide) (by decide)) (g := (mkF m 139 #[iv lN, iv x0, iv x1, iv x2, iv x3, iv x4, iv n_, iv d0_, iv d1_, iv d2_, iv d3_, iv d4_, rv r_, .unset] [(.int d2_)])) rfl (by rw [hml]; rfl) (argsL := [(.int d2_)]) (rest := []) (lenOf own_pd19 rfl) rfl (by show 2 * 0 + _ ≤ _; exact Nat.le_of_eq rfl) (hb hby at_139) (fun _ _ => ⟨rfl, rfl, (by decide : 11 + 0 ≤ _), (by decide : 104 + 0 ≤ _)⟩)
            dsimp only [Pt.U, Pt.locs, Pt.cells, Pt.slots] at X116 l116 y116 z116 st116 hQ116
            subst l116 y116 z116
            obtain ⟨rfl, rfl, eq114⟩ := hQ116
            try rw [List.append_nil] at X116
            have S117 : own_G p e below s0 T116 m 142 #[iv lN, iv x0, iv x1, iv x2, iv x3, iv x4, iv n_, iv d0_, iv d1_, iv d2_, iv d3_, iv d4_, rv r_, .unset] [(.int (own_b (own_hex d2_)))] := fun t kt => S115 t (st116 _ kt)
            by_cases hc142 : (own_b (own_hex d2_)) = (0 : Int32)
            · skip
              have S118 : own_G p e below s0 T116 m 186 #[iv lN, iv x0, iv x1, iv x2, iv x3, iv x4, iv n_, iv d0_, iv d1_, iv d2_, iv d3_, iv d4_, rv r_, iv 0] [] := fun t kt => by
                refine S117 t ?_
                refine w_ifYes X116 hx hby (pc' := 177) at_142 ((if0 _ _).trans (teq hc142).1) (by decide) ?_
                refine w_iconst X116 hx hby at_177 ?_
                refine w_istore X116 hx hby at_178 (l' := #[iv lN, iv x0, iv x1, iv x2, iv x3, iv x4, iv n_, iv d0_, iv d1_, iv d2_, iv d3_, iv d4_, rv r_, iv 0]) rfl ?_
                refine w_goto X116 hx hby (pc' := 186) at_180 (by decide) ?_
                exact kt
              exact ⟨T116, ((0 : Int32)), X116, (eq114.trans rfl), (own_bf (by simp [own_exp, hc61, hc68, hc81, hc134, own_b0.mp hc142])), S118⟩
            · skip
              have S119 : own_G p e below s0 T116 m 148 #[iv lN, iv x0, iv x1, iv x2, iv x3, iv x4, iv n_, iv d0_, iv d1_, iv d2_, iv d3_, iv d4_, rv r_, .unset] [(.int 4), (.int n_)] := fun t kt => by
                refine S117 t ?_
                refine w_ifNo X116 hx hby at_142 ((if0 _ _).trans (feq hc142).1) ?_
                refine w_iload X116 hx hby at_145 rfl ?_
                refine w_iconst X116 hx hby at_147 ?_
                exact kt
              by_cases hc148 : n_ < (4 : Int32)
              · skip
                have S120 : own_G p e below s0 T116 m 162 #[iv lN, iv x0, iv x1, iv x2, iv x3, iv x4, iv n_, iv d0_, iv d1_, iv d2_, iv d3_, iv d4_, rv r_, .unset] [(.int 5), (.int n_)] := fun t kt => by
                  refine S119 t ?_
                  refine w_icmpYes X116 hx hby (pc' := 159) at_148 (tlt hc148).1 (by decide) ?_
                  refine w_iload X116 hx hby at_159 rfl ?_
                  refine w_iconst X116 hx hby at_161 ?_
                  exact kt
                by_cases hc162 : n_ < (5 : Int32)
                · skip
                  have S121 : own_G p e below s0 T116 m 186 #[iv lN, iv x0, iv x1, iv x2, iv x3, iv x4, iv n_, iv d0_, iv d1_, iv d2_, iv d3_, iv d4_, rv r_, iv 1] [] := fun t kt => by
                    refine S120 t ?_
                    refine w_icmpYes X116 hx hby (pc' := 173) at_162 (tlt hc162).1 (by decide) ?_
                    refine w_iconst X116 hx hby at_173 ?_
                    refine w_goto X116 hx hby (pc' := 178) at_174 (by decide) ?_
                    refine w_istore X116 hx hby at_178 (l' := #[iv lN, iv x0, iv x1, iv x2, iv x3, iv x4, iv n_, iv d0_, iv d1_, iv d2_, iv d3_, iv d4_, rv r_, iv 1]) rfl ?_
                    refine w_goto X116 hx hby (pc' := 186) at_180 (by decide) ?_
                    exact kt
                  exact ⟨T116, ((1 : Int32)), X116, (eq114.trans rfl), (own_bt (by simp [own_exp, hc61, hc68, hc81, hc134, own_bn0 hc142, hc148, hc162])), S121⟩
                · skip
                  have S123 : own_G p e below s0 T116 m 167 #[iv lN, iv x0, iv x1, iv x2, iv x3, iv x4, iv n_, iv d0_, iv d1_, iv d2_, iv d3_, iv d4_, rv r_, .unset] [(.int d4_)] := fun t kt => by
                    refine S120 t ?_
                    refine w_icmpNo X116 hx hby at_162 (flt hc162).1 ?_
                    refine w_iload X116 hx hby at_165 rfl ?_
                    exact kt
                  obtain ⟨_, _, ⟨T124, L124, k124, n124⟩, -, X124, ⟨Lc124, hQ124, l124, y124, z124⟩, st124⟩ := Jvm.LawKit.callS X116 hx (y := own_y5) ho71 (mvT hZ71 (own_w hw 107 rfl)) (mvT hZ71 (own_w hw 108 rfl)) (mvT hZ71 (own_w hw 3 rfl)) (mvT hZ71 (own_w hw 109 rfl)) (by decide) (backOf (W := 0) (own_rm25 l Z a0 hw [] (d4_) T71.heap n0 (Nat.le_trans Z0 K80.1)) hZ71 (own_w hw 109 rfl) (own_w hw 3 rfl) (by decide) (by decide)) (g := (mkF m 167 #[iv lN, iv x0, iv x1, iv x2, iv x3, iv x4, iv n_, iv d0_, iv d1_, iv d2_, iv d3_, iv d4_, rv r_, .unset] [(.int d4_)])) rfl (by rw [hml]; rfl) (argsL := [(.int d4_)]) (rest := []) (lenOf own_pd19 rfl) rfl (by show 2 * 0 + _ ≤ _; exact Nat.le_of_eq rfl) (hb hby at_167) (fun _ _ => ⟨rfl, (eq114.trans rfl), (by decide : 11 + 0 ≤ _), (by decide : 104 + 0 ≤ _)⟩)
                  dsimp only [Pt.U, Pt.locs, Pt.cells, Pt.slots] at X124 l124 y124 z124 st124 hQ124
                  subst l124 y124 z124
                  obtain ⟨rfl, rfl, eq122⟩ := hQ124
                  try rw [List.append_nil] at X124
                  have S125 : own_G p e below s0 T124 m 170 #[iv lN, iv x0, iv x1, iv x2, iv x3, iv x4, iv n_, iv d0_, iv d1_, iv d2_, iv d3_, iv d4_, rv r_, .unset] [(.int (own_b (own_hex d4_)))] := fun t kt => S123 t (st124 _ kt)
                  by_cases hc170 : (own_b (own_hex d4_)) = (0 : Int32)
                  · skip
                    have S126 : own_G p e below s0 T124 m 186 #[iv lN, iv x0, iv x1, iv x2, iv x3, iv x4, iv n_, iv d0_, iv d1_, iv d2_, iv d3_, iv d4_, rv r_, iv 0] [] := fun t kt => by
                      refine S125 t ?_
                      refine w_ifYes X124 hx hby (pc' := 177) at_170 ((if0 _ _).trans (teq hc170).1) (by decide) ?_
                      refine w_iconst X124 hx hby at_177 ?_
                      refine w_istore X124 hx hby at_178 (l' := #[iv lN, iv x0, iv x1, iv x2, iv x3, iv x4, iv n_, iv d0_, iv d1_, iv d2_, iv d3_, iv d4_, rv r_, iv 0]) rfl ?_
                      refine w_goto X124 hx hby (pc' := 186) at_180 (by decide) ?_
                      exact kt
                    exact ⟨T124, ((0 : Int32)), X124, eq122, (own_bf (by simp [own_exp, hc61, hc68, hc81, hc134, own_bn0 hc142, hc148, hc162, own_b0.mp hc170])), S126⟩
                  · skip
                    have S127 : own_G p e below s0 T124 m 186 #[iv lN, iv x0, iv x1, iv x2, iv x3, iv x4, iv n_, iv d0_, iv d1_, iv d2_, iv d3_, iv d4_, rv r_, iv 1] [] := fun t kt => by
                      refine S125 t ?_
                      refine w_ifNo X124 hx hby at_170 ((if0 _ _).trans (feq hc170).1) ?_
                      refine w_iconst X124 hx hby at_173 ?_
                      refine w_goto X124 hx hby (pc' := 178) at_174 (by decide) ?_
                      refine w_istore X124 hx hby at_178 (l' := #[iv lN, iv x0, iv x1, iv x2, iv x3, iv x4, iv n_, iv d0_, iv d1_, iv d2_, iv d3_, iv d4_, rv r_, iv 1]) rfl ?_
                      refine w_goto X124 hx hby (pc' := 186) at_180 (by decide) ?_
                      exact kt
                    exact ⟨T124, ((1 : Int32)), X124, eq122, (own_bt (by simp [own_exp, hc61, hc68, hc81, hc134, own_bn0 hc142, hc148, hc162, own_bn0 hc170])), S127⟩
              · skip
                have S129 : own_G p e below s0 T116 m 153 #[iv lN, iv x0, iv x1, iv x2, iv x3, iv x4, iv n_, iv d0_, iv d1_, iv d2_, iv d3_, iv d4_, rv r_, .unset] [(.int d3_)] := fun t kt => by
                  refine S119 t ?_
                  refine w_icmpNo X116 hx hby at_148 (flt hc148).1 ?_
                  refine w_iload X116 hx hby at_151 rfl ?_
                  exact kt
                obtain ⟨_, _, ⟨T130, L130, k130, n130⟩, -, X130, ⟨Lc130, hQ130, l130, y130, z130⟩, st130⟩ := Jvm.LawKit.callS X116 hx (y := own_y5) ho71 (mvT hZ71 (own_w hw 107 rfl)) (mvT hZ71 (own_w hw 108 rfl)) (mvT hZ71 (own_w hw 3 rfl)) (mvT hZ71 (own_w hw 109 rfl)) (by decide) (backOf (W := 0) (own_rm25 l Z a0 hw [] (d3_) T71.heap n0 (Nat.le_trans Z0 K80.1)) hZ71 (own_w hw 109 rfl) (own_w hw 3 rfl) (by decide) (by decide)) (g := (mkF m 153 #[iv lN, iv x0, iv x1, iv x2, iv x3, iv x4, iv n_, iv d0_, iv d1_, iv d2_, iv d3_, iv d4_, rv r_, .unset] [(.int d3_)])) rfl (by rw [hml]; rfl) (argsL := [(.int d3_)]) (rest := []) (lenOf own_pd19 rfl) rfl (by show 2 * 0 + _ ≤ _; exact Nat.le_of_eq rfl) (hb hby at_153) (fun _ _ => ⟨rfl, (eq114.trans rfl), (by decide : 11 + 0 ≤ _), (by decide : 104 + 0 ≤ _)⟩)
                dsimp only [Pt.U, Pt.locs, Pt.cells, Pt.slots] at X130 l130 y130 z130 st130 hQ130
                subst l130 y130 z130
                obtain ⟨rfl, rfl, eq128⟩ := hQ130
                try rw [List.append_nil] at X130
                have S131 : own_G p e below s0 T130 m 156 #[iv lN, iv x0, iv x1, iv x2, iv x3, iv x4, iv n_, iv d0_, iv d1_, iv d2_, iv d3_, iv d4_, rv r_, .unset] [(.int (own_b (own_hex d3_)))] := fun t kt => S129 t (st130 _ kt)
                by_cases hc156 : (own_b (own_hex d3_)) = (0 : Int32)
                · skip
                  have S132 : own_G p e below s0 T130 m 186 #[iv lN, iv x0, iv x1, iv x2, iv x3, iv x4, iv n_, iv d0_, iv d1_, iv d2_, iv d3_, iv d4_, rv r_, iv 0] [] := fun t kt => by
                    refine S131 t ?_
                    refine w_ifYes X130 hx hby (pc' := 177) at_156 ((if0 _ _).trans (teq hc156).1) (by decide) ?_
                    refine w_iconst X130 hx hby at_177 ?_
                    refine w_istore X130 hx hby at_178 (l' := #[iv lN, iv x0, iv x1, iv x2, iv x3, iv x4, iv n_, iv d0_, iv d1_, iv d2_, iv d3_, iv d4_, rv r_, iv 0]) rfl ?_
                    refine w_goto X130 hx hby (pc' := 186) at_180 (by decide) ?_
                    exact kt
                  exact ⟨T130, ((0 : Int32)), X130, eq128, (own_bf (by simp [own_exp, hc61, hc68, hc81, hc134, own_bn0 hc142, hc148, own_b0.mp hc156])), S132⟩
                · skip
                  have S133 : own_G p e below s0 T130 m 162 #[iv lN, iv x0, iv x1, iv x2, iv x3, iv x4, iv n_, iv d0_, iv d1_, iv d2_, iv d3_, iv d4_, rv r_, .unset] [(.int 5), (.int n_)] := fun t kt => by
                    refine S131 t ?_
                    refine w_ifNo X130 hx hby at_156 ((if0 _ _).trans (feq hc156).1) ?_
                    refine w_iload X130 hx hby at_159 rfl ?_
                    refine w_iconst X130 hx hby at_161 ?_
                    exact kt
                  by_cases hc162 : n_ < (5 : Int32)
                  · skip
                    have S134 : own_G p e below s0 T130 m 186 #[iv lN, iv x0, iv x1, iv x2, iv x3, iv x4, iv n_, iv d0_, iv d1_, iv d2_, iv d3_, iv d4_, rv r_, iv 1] [] := fun t kt => by
                      refine S133 t ?_
                      refine w_icmpYes X130 hx hby (pc' := 173) at_162 (tlt hc162).1 (by decide) ?_
                      refine w_iconst X130 hx hby at_173 ?_
                      refine w_goto X130 hx hby (pc' := 178) at_174 (by decide) ?_
                      refine w_istore X130 hx hby at_178 (l' := #[iv lN, iv x0, iv x1, iv x2, iv x3, iv x4, iv n_, iv d0_, iv d1_, iv d2_, iv d3_, iv d4_, rv r_, iv 1]) rfl ?_
                      refine w_goto X130 hx hby (pc' := 186) at_180 (by decide) ?_
                      exact kt
                    exact ⟨T130, ((1 : Int32)), X130, eq128, (own_bt (by simp [own_exp, hc61, hc68, hc81, hc134, own_bn0 hc142, hc148, own_bn0 hc156, hc162])), S134⟩
                  · skip
                    have S136 : own_G p e below s0 T130 m 167 #[iv lN, iv x0, iv x1, iv x2, iv x3, iv x4, iv n_, iv d0_, iv d1_, iv d2_, iv d3_, iv d4_, rv r_, .unset] [(.int d4_)] := fun t kt => by
                      refine S133 t ?_
                      refine w_icmpNo X130 hx hby at_162 (flt hc162).1 ?_
                      refine w_iload X130 hx hby at_165 rfl ?_
                      exact kt
                    obtain ⟨_, _, ⟨T137, L137, k137, n137⟩, -, X137, ⟨Lc137, hQ137, l137, y137, z137⟩, st137⟩ := Jvm.LawKit.callS X130 hx (y := own_y5) ho71 (mvT hZ71 (own_w hw 107 rfl)) (mvT hZ71 (own_w hw 108 rfl)) (mvT hZ71 (own_w hw 3 rfl)) (mvT hZ71 (own_w hw 109 rfl)) (by decide) (backOf (W := 0) (own_rm25 l Z a0 hw [] (d4_) T71.heap n0 (Nat.le_trans Z0 K80.1)) hZ71 (own_w hw 109 rfl) (own_w hw 3 rfl) (by decide) (by decide)) (g := (mkF m 167 #[iv lN, iv x0, iv x1, iv x2, iv x3, iv x4, iv n_, iv d0_, iv d1_, iv d2_, iv d3_, iv d4_, rv r_, .unset] [(.int d4_)])) rfl (by rw [hml]; rfl) (argsL := [(.int d4_)]) (rest := []) (lenOf own_pd19 rfl) rfl (by show 2 * 0 + _ ≤ _; exact Nat.le_of_eq rfl) (hb hby at_167) (fun _ _ => ⟨rfl, eq128, (by decide : 11 + 0 ≤ _), (by decide : 104 + 0 ≤ _)⟩)
                    dsimp only [Pt.U, Pt.locs, Pt.cells, Pt.slots] at X137 l137 y137 z137 st137 hQ137
                    subst l137 y137 z137
                    obtain ⟨rfl, rfl, eq135⟩ := hQ137
                    try rw [List.append_nil] at X137
                    have S138 : own_G p e below s0 T137 m 170 #[iv lN, iv x0, iv x1, iv x2, iv x3, iv x4, iv n_, iv d0_, iv d1_, iv d2_, iv d3_, iv d4_, rv r_, .unset] [(.int (own_b (own_hex d4_)))] := fun t kt => S136 t (st137 _ kt)
                    by_cases hc170 : (own_b (own_hex d4_)) = (0 : Int32)
                    · skip
                      have S139 : own_G p e below s0 T137 m 186 #[iv lN, iv x0, iv x1, iv x2, iv x3, iv x4, iv n_, iv d0_, iv d1_, iv d2_, iv d3_, iv d4_, rv r_, iv 0] [] := fun t kt => by
                        refine S138 t ?_
                        refine w_ifYes X137 hx hby (pc' := 177) at_170 ((if0 _ _).trans (teq hc170).1) (by decide) ?_
                        refine w_iconst X137 hx hby at_177 ?_
                        refine w_istore X137 hx hby at_178 (l' := #[iv lN, iv x0, iv x1, iv x2, iv x3, iv x4, iv n_, iv d0_, iv d1_, iv d2_, iv d3_, iv d4_, rv r_, iv 0]) rfl ?_
                        refine w_goto X137 hx hby (pc' := 186) at_180 (by decide) ?_
                        exact kt
                      exact ⟨T137, ((0 : Int32)), X137, eq135, (own_bf (by simp [own_exp, hc61, hc68, hc81, hc134, own_bn0 hc142, hc148, own_bn0 hc156, hc162, own_b0.mp hc170])), S139⟩
                    · skip
                      have S140 : own_G p e below s0 T137 m 186 #[iv lN, iv x0, iv x1, iv x2, iv x3, iv x4, iv n_, iv d0_, iv d1_, iv d2_, iv d3_, iv d4_, rv r_, iv 1] [] := fun t kt => by
                        refine S138 t ?_
                        refine w_ifNo X137 hx hby at_170 ((if0 _ _).trans (feq hc170).1) ?_
                        refine w_iconst X137 hx hby at_173 ?_
                        refine w_goto X137 hx hby (pc' := 178) at_174 (by decide) ?_
                        refine w_istore X137 hx hby at_178 (l' := #[iv lN, iv x0, iv x1, iv x2, iv x3, iv x4, iv n_, iv d0_, iv d1_, iv d2_, iv d3_, iv d4_, rv r_, iv 1]) rfl ?_
                        refine w_goto X137 hx hby (pc' := 186) at_180 (by decide) ?_
                        exact kt
                      exact ⟨T137, ((1 : Int32)), X137, eq135, (own_bt (by simp [own_exp, hc61, hc68, hc81, hc134, own_bn0 hc142, hc148, own_bn0 hc156, hc162, own_bn0 hc170])), S140⟩
          · skip
            have S141 : own_G p e below s0 T71 m 186 #[iv lN, iv x0, iv x1, iv x2, iv x3, iv x4, iv n_, iv d0_, iv d1_, iv d2_, iv d3_, iv d4_, rv r_, iv 0] [] := fun t kt => by
              refine S113 t ?_
              refine w_icmpYes X71 hx hby (pc' := 183) at_134 (feq hc134).2 (by decide) ?_
              refine w_iconst X71 hx hby at_183 ?_
              refine w_istore X71 hx hby at_184 (l' := #[iv lN, iv x0, iv x1, iv x2, iv x3, iv x4, iv n_, iv d0_, iv d1_, iv d2_, iv d3_, iv d4_, rv r_, iv 0]) rfl ?_
              exact kt
            exact ⟨T71, ((0 : Int32)), X71, rfl, (own_bf (by simp [own_exp, hc61, hc68, hc81, hc134])), S141⟩
      · skip
        have S142 : own_G p e below s0 T71 m 186 #[iv lN, iv x0, iv x1, iv x2, iv x3, iv x4, iv n_, iv d0_, iv d1_, iv d2_, iv d3_, iv d4_, rv r_, iv 0] [] := fun t kt => by
          refine S84 t ?_
          refine w_icmpNo X71 hx hby at_68 (feq hc68).1 ?_
          refine w_iconst X71 hx hby at_71 ?_
          refine w_istore X71 hx hby at_72 (l' := #[iv lN, iv x0, iv x1, iv x2, iv x3, iv x4, iv n_, iv d0_, iv d1_, iv d2_, iv d3_, iv d4_, rv r_, iv 0]) rfl ?_
          refine w_goto X71 hx hby (pc' := 186) at_74 (by decide) ?_
          exact kt
        exact ⟨T71, ((0 : Int32)), X71, rfl, (own_bf (by simp [own_exp, hc61, hc68])), S142⟩
    · skip
      have S143 : own_G p e below s0 T71 m 186 #[iv lN, iv x0, iv x1, iv x2, iv x3, iv x4, iv n_, iv d0_, iv d1_, iv d2_, iv d3_, iv d4_, rv r_, iv 0] [] := fun t kt => by
        refine S83 t ?_
        refine w_icmpYes X71 hx hby (pc' := 71) at_61 (flt hc61).2.2.2 (by decide) ?_
        refine w_iconst X71 hx hby at_71 ?_
        refine w_istore X71 hx hby at_72 (l' := #[iv lN, iv x0, iv x1, iv x2, iv x3, iv x4, iv n_, iv d0_, iv d1_, iv d2_, iv d3_, iv d4_, rv r_, iv 0]) rfl ?_
        refine w_goto X71 hx hby (pc' := 186) at_74 (by decide) ?_
        exact kt
      exact ⟨T71, ((0 : Int32)), X71, rfl, (own_bf (by simp [own_exp, hc61])), S143⟩
  have S145 : own_G p e below s0 T82 m 188 #[iv lN, iv x0, iv x1, iv x2, iv x3, iv x4, iv n_, iv d0_, iv d1_, iv d2_, iv d3_, iv d4_, rv r_, iv ex] [(.ref r_)] := fun t kt => by
    refine S82 t ?_
    refine w_aload X82 hx hby at_186 rfl rfl ?_
    exact kt
  obtain ⟨_, _, ⟨T146, L146, k146, n146⟩, -, X146, ⟨Lc146, hQ146, l146, y146, z146⟩, st146⟩ := Jvm.LawKit.callS X82 hx (y := own_y2) ho71 (mvT hZ71 (own_w hw 30 rfl)) (mvT hZ71 (own_w hw 31 rfl)) (mvT hZ71 (own_w hw 32 rfl)) (mvT hZ71 (own_w hw 33 rfl)) (by decide) (backOf (W := 0) (own_rm6 l Z a0 hw [] (r_) (n_) (d0_) (d1_) (d2_) (d3_) (d4_) (cs) (fm) T71.heap n0 (Nat.le_trans Z0 K80.1) F75 hcs F76 hfm F77 F78 F79 hr0 OS68 hb_d0_ hb_d1_ hb_d2_ hb_d3_ hb_d4_) hZ71 (own_w hw 33 rfl) (own_w hw 32 rfl) (by decide) (by decide)) (g := (mkF m 188 #[iv lN, iv x0, iv x1, iv x2, iv x3, iv x4, iv n_, iv d0_, iv d1_, iv d2_, iv d3_, iv d4_, rv r_, iv ex] [(.ref r_)])) rfl (by rw [hml]; rfl) (argsL := [(.ref r_)]) (rest := []) (lenOf own_pd20 rfl) rfl (by show 2 * 0 + _ ≤ _; exact Nat.le_of_eq rfl) (hb hby at_188) (fun _ _ => ⟨rfl, e82, (by decide : 11 + 0 ≤ _), (by decide : 104 + 0 ≤ _)⟩)
  dsimp only [Pt.U, Pt.locs, Pt.cells, Pt.slots] at X146 l146 y146 z146 st146 hQ146
  subst l146 y146 z146
  obtain ⟨rfl, rfl, eq144⟩ := hQ146
  try rw [List.append_nil] at X146
  have S147 : own_G p e below s0 T146 m 191 #[iv lN, iv x0, iv x1, iv x2, iv x3, iv x4, iv n_, iv d0_, iv d1_, iv d2_, iv d3_, iv d4_, rv r_, iv ex] [(.int (own_b (own_exp n_ d0_ d1_ d2_ d3_ d4_)))] := fun t kt => S145 t (st146 _ kt)
  have S148 : own_G p e below s0 T146 m 193 #[iv lN, iv x0, iv x1, iv x2, iv x3, iv x4, iv n_, iv d0_, iv d1_, iv d2_, iv d3_, iv d4_, rv r_, iv ex] [(.int ex), (.int (own_b (own_exp n_ d0_ d1_ d2_ d3_ d4_)))] := fun t kt => by
    refine S147 t ?_
    refine w_iload X146 hx hby at_191 rfl ?_
    exact kt
  have hc193_149 : (own_b (own_exp n_ d0_ d1_ d2_ d3_ d4_)) = ex := hr58.symm
  have S150 : own_G p e below s0 T146 m 201 #[iv lN, iv x0, iv x1, iv x2, iv x3, iv x4, iv n_, iv d0_, iv d1_, iv d2_, iv d3_, iv d4_, rv r_, iv ex] [(.int 1)] := fun t kt => by
    refine S148 t ?_
    refine w_icmpNo X146 hx hby at_193 (teq hc193_149).2 ?_
    refine w_iconst X146 hx hby at_196 ?_
    refine w_goto X146 hx hby (pc' := 201) at_197 (by decide) ?_
    exact kt
  obtain ⟨fs, hr, hrun, hended, -, hW, hBk, hsame⟩ := X146.leaveW hS71 (by rw [eq144]; exact (Nat.le_refl _)) (v := some (.int (nar .boolean (1 : Int32)))) (fun h => by rw [Bd.returns] at h; cases h)
  refine ⟨_, _, S150 _ ?_, hrun, hended, _, _, rfl, ?_, (by show CHr Z own_EL s.vm s.heap T146.vm T146.heap; rw [hh, eq144]; exact CR74.trans (CHv.at X146 hZ71 hEL CR74.1)), ⟨_, rfl⟩, hW, hBk, hsame.mono (by decide) (by decide)⟩
  · show Steps p.tables e below (T146.setTop (mkF m 201 #[iv lN, iv x0, iv x1, iv x2, iv x3, iv x4, iv n_, iv d0_, iv d1_, iv d2_, iv d3_, iv d4_, rv r_, iv ex] [(.int 1)])) _
    exact retN X146 hx (t := .boolean) Bd.returns (by simp) (hb hby at_201) hr
  · show own_Q0 Z lN x0 x1 x2 x3 x4 cs fm h0 n0 _ T146.heap _
    rw [eq144]
    exact ⟨rfl, N72⟩
set_option maxHeartbeats 40000000 in
theorem own_comes {Post : Tables → Env → Array Value → State → Outcome → State → Prop} (hpost : ∀ tb e args s v u, (limb_1_1.after args s (.returned v) u = true ∧ limb_1_2.after args s (.returned v) u = true ∧ True) → FramedW s (.returned v) u (Jvm.fieldLocs frame_1_writes args s ++ Jvm.arrayLocs frame_1_arrays args s ++ Jvm.staticLocs frame_1_statics s) 32 1280 → Post tb e args s (.returned v) u) :
    ArmFor flags0 classFile x code maxLocals ret World_1 tables_1 room_1 Calls_1 rest_1 Pre_1 Post := by
  intro l hfl _ _ p e ha hc hk s m args below hf hA hF happ hP
  obtain ⟨hcalls, hrest, hpre⟩ := hP
  obtain ⟨-, -, -, hnamed, -, -, -, hat⟩ := (Spec.applies_iff hf).mp happ
  obtain ⟨hg, hn⟩ := and_e (Cond.before_iff.mp (show (Jvm.Cond.and given_1 narrow_1).before args s = true from hpre))
  obtain ⟨g1, g2⟩ := and_e hg
  obtain ⟨g3, g4⟩ := and_e g2
  obtain ⟨g5, g6⟩ := and_e g4
  obtain ⟨g7, g8⟩ := and_e g6
  obtain ⟨g9, g10⟩ := and_e g8
  obtain ⟨g11, g12⟩ := and_e g10
  obtain ⟨w0, w1, w2, w3, w4, w5, rfl⟩ : ∃ w0 w1 w2 w3 w4 w5 : Value, args = #[w0, w1, w2, w3, w4, w5] := by
    have hs : args.size = 6 := by simpa [Cond.value, given_1] using g1
    obtain ⟨L⟩ := args
    match L, hs with
    | [w0, w1, w2, w3, w4, w5], _ => exact ⟨w0, w1, w2, w3, w4, w5, rfl⟩
  have hw := fun d (hd : d ∈ tables_1) => atoms_spec (ws := Jvm.Cond.code x code maxLocals ret :: tables_1) hat d (List.mem_cons_of_mem _ hd)
  have hfit : Fit s := fun {y c} hc i hi => by
    obtain ⟨ha, rfl⟩ := Array.getElem?_eq_some_iff.mp hc
    have q := List.all_eq_true.mp ((Array.all_eq_true_iff_forall_mem.mp hF) _ (Array.getElem_mem ha)) i (List.mem_range.mpr hi)
    simpa [Array.getElem?_eq_getElem hi] using q
  obtain ⟨hsets, hown0⟩ := atoms_of _ (rest_1_c_eq ▸ (show rest_1_c.before _ s = true from hrest))
  have hr0 := Cond.before_iff.mp hown0
  obtain ⟨i0, ei0⟩ := is_v g3
  obtain rfl : w0 = (.int i0) := Option.some.inj ei0
  obtain ⟨i1, ei1⟩ := is_v g5
  obtain rfl : w1 = (.int i1) := Option.some.inj ei1
  obtain ⟨i2, ei2⟩ := is_v g7
  obtain rfl : w2 = (.int i2) := Option.some.inj ei2
  obtain ⟨i3, ei3⟩ := is_v g9
  obtain rfl : w3 = (.int i3) := Option.some.inj ei3
  obtain ⟨i4, ei4⟩ := is_v g11
  obtain rfl : w4 = (.int i4) := Option.some.inj ei4
  obtain ⟨i5, ei5⟩ := is_v g12
  obtain rfl : w5 = (.int i5) := Option.some.inj ei5
  obtain ⟨icS, eS⟩ := is_v (Cond.before_iff.mp (hsets _ (List.mem_of_getElem? (i := 1) rfl)))
  have S_CSs : Sta s s.heap "java/lang/String" "COMPACT_STRINGS" "Z" (.int icS) := Sta.start eS (Or.inl (hsets _ (List.mem_of_getElem? (i := 0) rfl)))
  have hcs0 : ¬ icS = (0 : Int32) := gotF (Cond.eq_ints eS rfl) (not_v (Cond.before_iff.mp (hsets _ (List.mem_of_getElem? (i := 2) rfl))))
  obtain ⟨fmS, eF, rF⟩ := Cond.isRef_spec (hsets _ (List.mem_of_getElem? (i := 8) rfl))
  have S_FMs : Sta s s.heap own_s1 "SIOOBE_FORMATTER" own_s0 fmS := Sta.start eF (Or.inl (hsets _ (List.mem_of_getElem? (i := 7) rfl)))
  have hfm0 := own_fm_of rF
  have S_ADs : Sta s s.heap own_s2 own_s3 "Z" (.int 1) := by
    have q := Cond.before_iff.mp (hsets _ (List.mem_of_getElem? (i := 12) rfl))
    obtain ⟨vx, vy, ex, ey, kx, ky⟩ := cmp_v (Or.inl q)
    obtain rfl : vy = .int 1 := (Option.some.inj ey).symm
    obtain ⟨vz, rfl⟩ := ky
    have hq := gotT (Cond.eq_ints ex ey) q
    subst hq
    exact Sta.start ex (Or.inl (hsets _ (List.mem_of_getElem? (i := 11) rfl)))
  have S_HIs : Sta s s.heap own_s2 "HI_BYTE_SHIFT" "I" (.int 0) := by
    have q := Cond.before_iff.mp (hsets _ (List.mem_of_getElem? (i := 15) rfl))
    obtain ⟨vx, vy, ex, ey, kx, ky⟩ := cmp_v (Or.inl q)
    obtain rfl : vy = .int 0 := (Option.some.inj ey).symm
    obtain ⟨vz, rfl⟩ := ky
    have hq := gotT (Cond.eq_ints ex ey) q
    subst hq
    exact Sta.start ex (Or.inl (hsets _ (List.mem_of_getElem? (i := 14) rfl)))
  have S_LOs : Sta s s.heap own_s2 "LO_BYTE_SHIFT" "I" (.int 8) := by
    have q := Cond.before_iff.mp (hsets _ (List.mem_of_getElem? (i := 18) rfl))
    obtain ⟨vx, vy, ex, ey, kx, ky⟩ := cmp_v (Or.inl q)
    obtain rfl : vy = .int 8 := (Option.some.inj ey).symm
    obtain ⟨vz, rfl⟩ := ky
    have hq := gotT (Cond.eq_ints ex ey) q
    subst hq
    exact Sta.start ex (Or.inl (hsets _ (List.mem_of_getElem? (i := 17) rfl)))
  have hCH : CHv s own_EL s.vm s.heap := CHv.start (own_EW hw) (fun q hq => hcalls.1 q hq) (by first | exact (hsets _ (List.mem_of_getElem? (i := 2) rfl)) | exact Cond.before_iff.mpr (Cond.before_iff.mp (hsets _ (List.mem_of_getElem? (i := 2) rfl)))) (own_w hw 23 rfl) (own_w hw 10 rfl)
  obtain ⟨n, o, h1, h2, h3, _, L, rfl, ⟨rfl, N⟩, -, hq⟩ := own_rm0 l s _ hw tables_1 i0 i1 i2 i3 i4 i5 icS fmS s.heap s.heap.size (Nat.le_refl _) S_CSs hcs0 S_FMs hfm0 S_ADs S_HIs S_LOs p e ha hc hk s m _ below hf ((Spec.applies_iff_loose hf).mp happ).1 ⟨rfl, State.Warmed39.refl s, rfl, hCH⟩ trivial
  refine ⟨n, _, h1, h2, h3, hpost _ _ _ _ _ _ ⟨Cond.after_iff.mpr rfl, Cond.after_iff.mpr (eq_i res_at (Term.int_eval (1)) rfl), trivial⟩ ⟨hq.1, hq.2.1, hq.2.2.1, (hq.2.2.2.sift fun y hy => Or.inr (N y hy)).mono (by decide) (by decide)⟩⟩
theorem main_1_1 : Claimed_1_1 := own_comes fun _ _ _ _ _ _ h hF => ⟨h.1, hF⟩
theorem main_1_2 : Claimed_1_2 := own_comes fun _ _ _ _ _ _ h hF => ⟨h.2.1, hF⟩
end Jvm.Pilot.@@N@@
namespace Jvm.Pilot.@@N@@
open Jvm Jvm.ClassFile Sem Op Lib Jvm.Free Jvm.Stand Jvm.Pilot.@@N@@.Jvm.D
/-! MADE BY PROGRAM (witnessworld.py) out of the Statement's table words and the real class files: 20 classes; the members and pool entries that the words name. The judged class is class 1, her method 1. -/
namespace start1
open Jvm.ClassFile
def u (s : String) : CpInfo := .utf8 (stringToUtf16 s)
/-- a pool by its gaps: so many unusable entries, then the entry; so many at the end -/
def gap : Nat → List CpInfo → List CpInfo
  | 0, r => r
  | n + 1, r => .unusable :: gap n r
def poolList (es : List (Nat × CpInfo)) (last : Nat) : List CpInfo := es.foldr (fun e r => gap e.1 (e.2 :: r)) (gap last [])
def pool (es : List (Nat × CpInfo)) (last : Nat) : Array CpInfo := ⟨poolList es last⟩
def fileOf (pool : Array CpInfo) (this : Nat) (attrs : Array Attribute := #[]) (ms : Array MethodInfo := #[]) (fl : Nat := 33) (sup : Nat := 0) (ifs : Array Nat := #[]) (fds : Array FieldInfo := #[]) : ClassFile where
  minorVersion := 0
  majorVersion := 65
  constantPool := pool
  accessFlags := fl
  thisClass := this
  superClass := sup
  interfaces := ifs
  fields := fds
  methods := ms
  attributes := attrs
def plain (name : String) (sup : Option ClassId) : Class where
  name := name
  kind := .ordinary
  loader := none
  accessFlags := 33
  super := sup
  interfaces := #[]
  cf := none
  fields := #[]
  methods := #[]
  instanceTypes := #[]
  staticTypes := #[]
  resolved := #[]
  callSites := []
  init := .initialized
  statics := none
  mirror := none

def pool0 : Array CpInfo := pool [(5, u "<init>"), (0, u "()V"), (1, .class_ 10), (1, u "java/lang/Object")] 113

def k0c0 : Code := { maxStack := 0, maxLocals := 1, code := object_method_1_code, exceptionTable := #[], attributes := #[] }
def k0m0 : Method := { name := "<init>", desc := "()V", sig := { parameters := [], returnType := none }, accessFlags := 1, code := some k0c0 }
/-- java/lang/Object -/
def k0 : Class := { plain "java/lang/Object" none with
  accessFlags := 33
  interfaces := #[]
  cf := some (fileOf pool0 8 #[] #[{ accessFlags := 1, nameIndex := 5, descriptorIndex := 6, attributes := #[] }] 33 0 #[] #[])
  fields := #[]
  methods := #[k0m0]
  instanceTypes := #[]
  staticTypes := #[]
  resolved := Array.replicate 124 none
  statics := none }

def pool1 : Array CpInfo := pool [(2, .class_ 4), (1, u "java/lang/Object"), (0, u "<init>"), (0, u "()V"), (0, .integer 2147483647), (0, .methodref 9 10), (0, .class_ 11), (0, .nameAndType 12 13), (0, u "com/example/splode/splode/document/CoreSchemaRadixPinLaw"), (0, u "pick"), (0, u "(I)C"), (0, .methodref 9 15), (0, .nameAndType 16 17), (0, u "make"), (0, u "(ICCCCC)Ljava/lang/String;"), (0, .methodref 9 19), (0, .nameAndType 20 21), (0, u "octal"), (0, u "(C)Z"), (0, .methodref 9 23), (0, .nameAndType 24 21), (0, u "hex"), (0, .methodref 26 27), (0, .class_ 28), (0, .nameAndType 29 30), (0, u "com/example/splode/splode/document/CoreSchema"), (0, u "radix"), (0, u "(Ljava/lang/String;)Z"), (0, .integer 65535), (0, .class_ 33), (0, u "java/lang/String"), (0, .methodref 32 35), (0, .nameAndType 5 36), (0, u "([C)V"), (2, u "law"), (0, u "(IIIIII)Z")] 3

def k1m0 : Method := { name := "<init>", desc := "()V", sig := { parameters := [], returnType := none }, accessFlags := 2, code := none }
def k1c1 : Code := { maxStack := 6, maxLocals := 14, code := code, exceptionTable := #[], attributes := #[] }
def k1m1 : Method := { name := "law", desc := "(IIIIII)Z", sig := { parameters := [.int, .int, .int, .int, .int, .int], returnType := some .boolean }, accessFlags := 9, code := some k1c1 }
def k1c2 : Code := { maxStack := 2, maxLocals := 1, code := method_3_code, exceptionTable := #[], attributes := #[] }
def k1m2 : Method := { name := "octal", desc := "(C)Z", sig := { parameters := [.char], returnType := some .boolean }, accessFlags := 10, code := some k1c2 }
def k1c3 : Code := { maxStack := 2, maxLocals := 1, code := method_4_code, exceptionTable := #[], attributes := #[] }
def k1m3 : Method := { name := "hex", desc := "(C)Z", sig := { parameters := [.char], returnType := some .boolean }, accessFlags := 10, code := some k1c3 }
def k1c4 : Code := { maxStack := 4, maxLocals := 3, code := method_5_code, exceptionTable := #[], attributes := #[] }
def k1m4 : Method := { name := "pick", desc := "(I)C", sig := { parameters := [.int], returnType := some .char }, accessFlags := 10, code := some k1c4 }
def k1c5 : Code := { maxStack := 6, maxLocals := 6, code := method_6_code, exceptionTable := #[], attributes := #[] }
def k1m5 : Method := { name := "make", desc := "(ICCCCC)Ljava/lang/String;", sig := { parameters := [.int, .char, .char, .char, .char, .char], returnType := some (.object "java/lang/String") }, accessFlags := 10, code := some k1c5 }
/-- com/example/splode/splode/document/CoreSchemaRadixPinLaw -/
def k1 : Class := { plain "com/example/splode/splode/document/CoreSchemaRadixPinLaw" (some 0) with
  accessFlags := 49
  interfaces := #[]
  cf := some (fileOf pool1 9 #[] #[{ accessFlags := 2, nameIndex := 5, descriptorIndex := 6, attributes := #[] }, { accessFlags := 9, nameIndex := 39, descriptorIndex := 40, attributes := #[] }, { accessFlags := 10, nameIndex := 20, descriptorIndex := 21, attributes := #[] }, { accessFlags := 10, nameIndex := 24, descriptorIndex := 21, attributes := #[] }, { accessFlags := 10, nameIndex := 12, descriptorIndex := 13, attributes := #[] }, { accessFlags := 10, nameIndex := 16, descriptorIndex := 17, attributes := #[] }] 49 2 #[] #[])
  fields := #[]
  methods := #[k1m0, k1m1, k1m2, k1m3, k1m4, k1m5]
  instanceTypes := #[]
  staticTypes := #[]
  resolved := Array.replicate 44 none
  statics := none }

def pool2 : Array CpInfo := pool [(1, .class_ 2), (0, u "java/io/Serializable"), (0, .class_ 4), (0, u "java/lang/Object")] 2

/-- java/io/Serializable -/
def k2 : Class := { plain "java/io/Serializable" (some 0) with
  accessFlags := 1537
  interfaces := #[]
  cf := some (fileOf pool2 1 #[] #[] 1537 3 #[] #[])
  fields := #[]
  methods := #[]
  instanceTypes := #[]
  staticTypes := #[]
  resolved := Array.replicate 7 none
  statics := none }

def pool3 : Array CpInfo := pool [(1, .class_ 2), (0, u "java/lang/Comparable"), (0, .class_ 4), (0, u "java/lang/Object")] 7

/-- java/lang/Comparable -/
def k3 : Class := { plain "java/lang/Comparable" (some 0) with
  accessFlags := 1537
  interfaces := #[]
  cf := some (fileOf pool3 1 #[] #[] 1537 3 #[] #[])
  fields := #[]
  methods := #[]
  instanceTypes := #[]
  staticTypes := #[]
  resolved := Array.replicate 12 none
  statics := none }

def pool4 : Array CpInfo := pool [(2, .class_ 4), (1, u "java/lang/CharSequence"), (42, .class_ 48), (0, u "java/lang/CharSequence$1CodePointIterator"), (10, .class_ 60), (0, u "java/lang/CharSequence$1CharIterator"), (5, .class_ 67), (0, u "java/lang/Object")] 63

/-- java/lang/CharSequence -/
def k4 : Class := { plain "java/lang/CharSequence" (some 0) with
  accessFlags := 1537
  interfaces := #[]
  cf := some (fileOf pool4 2 #[.nestMembers #[47, 59]] #[] 1537 66 #[] #[])
  fields := #[]
  methods := #[]
  instanceTypes := #[]
  staticTypes := #[]
  resolved := Array.replicate 131 none
  statics := none }

def pool5 : Array CpInfo := pool [(1, .class_ 2), (0, u "java/lang/constant/Constable"), (0, .class_ 4), (0, u "java/lang/Object")] 6

/-- java/lang/constant/Constable -/
def k5 : Class := { plain "java/lang/constant/Constable" (some 0) with
  accessFlags := 1537
  interfaces := #[]
  cf := some (fileOf pool5 1 #[] #[] 1537 3 #[] #[])
  fields := #[]
  methods := #[]
  instanceTypes := #[]
  staticTypes := #[]
  resolved := Array.replicate 11 none
  statics := none }

def pool6 : Array CpInfo := pool [(1, .class_ 2), (0, u "java/lang/constant/ConstantDesc"), (0, .class_ 4), (0, u "java/lang/Object")] 32

/-- java/lang/constant/ConstantDesc -/
def k6 : Class := { plain "java/lang/constant/ConstantDesc" (some 0) with
  accessFlags := 1537
  interfaces := #[]
  cf := some (fileOf pool6 1 #[] #[] 1537 3 #[] #[])
  fields := #[]
  methods := #[]
  instanceTypes := #[]
  staticTypes := #[]
  resolved := Array.replicate 37 none
  statics := none }

def pool7 : Array CpInfo := pool [(1, .methodref 2 3), (0, .class_ 4), (0, .nameAndType 5 6), (0, u "java/lang/Object"), (0, u "<init>"), (0, u "()V"), (0, .string 8), (0, u ""), (0, .fieldref 10 11), (0, .class_ 12), (0, .nameAndType 13 14), (0, u "java/lang/String"), (0, u "value"), (0, u "[B"), (0, .fieldref 10 16), (0, .nameAndType 17 18), (0, u "coder"), (0, u "B"), (2, u "hash"), (0, u "I"), (2, u "hashIsZero"), (0, u "Z"), (0, .methodref 10 28), (0, .nameAndType 5 29), (0, u "([CIILjava/lang/Void;)V"), (8, .fieldref 10 39), (0, .nameAndType 40 26), (0, u "COMPACT_STRINGS"), (1, .class_ 44), (1, u "java/lang/StringUTF16"), (0, u "compress"), (1, .methodref 42 48), (0, .nameAndType 49 50), (0, u "coderFromArrayLen"), (0, u "([BI)B"), (56, .class_ 109), (1, u "java/lang/StringLatin1"), (32, u "()Z"), (34, .methodref 42 178), (0, .nameAndType 45 179), (0, u "([CII)[B"), (154, u "()I"), (0, .methodref 10 336), (0, .nameAndType 17 337), (0, u "()B"), (25, u "([BI)C"), (27, u "(II)V"), (35, u "(I)C"), (64, .methodref 10 493), (0, .nameAndType 494 142), (0, u "isLatin1"), (0, .methodref 107 496), (0, .nameAndType 497 363), (0, u "charAt"), (0, .methodref 42 496), (2, u "checkIndex"), (5, u "length"), (67, .class_ 576), (0, u "java/lang/CharSequence"), (22, u "CASE_INSENSITIVE_ORDER"), (0, u "Ljava/util/Comparator;"), (409, u "([C)V"), (42, .fieldref 1054 1055), (0, .class_ 1056), (0, .nameAndType 1057 1058), (0, u "jdk/internal/util/Preconditions"), (0, u "SIOOBE_FORMATTER"), (0, u "Ljava/util/function/BiFunction;"), (0, .methodref 1054 1060), (0, .nameAndType 501 1061), (0, u "(IILjava/util/function/BiFunction;)I"), (39, u "serialPersistentFields"), (0, u "[Ljava/io/ObjectStreamField;"), (0, .class_ 1104), (0, u "java/lang/String$CaseInsensitiveComparator"), (1, .class_ 1107), (0, u "java/io/Serializable"), (0, .class_ 1109), (0, u "java/lang/Comparable"), (0, .class_ 1111), (0, u "java/lang/constant/Constable"), (0, .class_ 1113), (0, u "java/lang/constant/ConstantDesc"), (2, u "serialVersionUID"), (0, u "J"), (3, u "REPL"), (0, u "C"), (2, u "LATIN1"), (1, u "UTF16")] 323

def k7m0 : Method := { name := "<init>", desc := "()V", sig := { parameters := [], returnType := none }, accessFlags := 1, code := none }
def k7c1 : Code := { maxStack := 5, maxLocals := 2, code := jdk_42_method_3_code, exceptionTable := #[], attributes := #[] }
def k7m1 : Method := { name := "<init>", desc := "([C)V", sig := { parameters := [(.array .char)], returnType := none }, accessFlags := 1, code := some k7c1 }
def k7c2 : Code := { maxStack := 2, maxLocals := 1, code := jdk_42_method_54_code, exceptionTable := #[], attributes := #[] }
def k7m2 : Method := { name := "length", desc := "()I", sig := { parameters := [], returnType := some .int }, accessFlags := 1, code := some k7c2 }
def k7c3 : Code := { maxStack := 2, maxLocals := 2, code := jdk_42_method_56_code, exceptionTable := #[], attributes := #[] }
def k7m3 : Method := { name := "charAt", desc := "(I)C", sig := { parameters := [.int], returnType := some .char }, accessFlags := 1, code := some k7c3 }
def k7c4 : Code := { maxStack := 4, maxLocals := 6, code := jdk_42_method_149_code, exceptionTable := #[], attributes := #[] }
def k7m4 : Method := { name := "<init>", desc := "([CIILjava/lang/Void;)V", sig := { parameters := [(.array .char), .int, .int, (.object "java/lang/Void")], returnType := none }, accessFlags := 2, code := some k7c4 }
def k7c5 : Code := { maxStack := 1, maxLocals := 1, code := jdk_42_method_152_code, exceptionTable := #[], attributes := #[] }
def k7m5 : Method := { name := "coder", desc := "()B", sig := { parameters := [], returnType := some .byte }, accessFlags := 0, code := some k7c5 }
def k7c6 : Code := { maxStack := 1, maxLocals := 1, code := jdk_42_method_154_code, exceptionTable := #[], attributes := #[] }
def k7m6 : Method := { name := "isLatin1", desc := "()Z", sig := { parameters := [], returnType := some .boolean }, accessFlags := 0, code := some k7c6 }
def k7c7 : Code := { maxStack := 3, maxLocals := 2, code := jdk_42_method_155_code, exceptionTable := #[], attributes := #[] }
def k7m7 : Method := { name := "checkIndex", desc := "(II)V", sig := { parameters := [.int, .int], returnType := none }, accessFlags := 8, code := some k7c7 }
/-- java/lang/String -/
def k7 : Class := { plain "java/lang/String" (some 0) with
  accessFlags := 49
  interfaces := #[2, 3, 4, 5, 6]
  cf := some (fileOf pool7 10 #[.nestMembers #[1103]] #[{ accessFlags := 1, nameIndex := 5, descriptorIndex := 6, attributes := #[] }, { accessFlags := 1, nameIndex := 5, descriptorIndex := 1010, attributes := #[] }, { accessFlags := 1, nameIndex := 507, descriptorIndex := 334, attributes := #[] }, { accessFlags := 1, nameIndex := 497, descriptorIndex := 427, attributes := #[] }, { accessFlags := 2, nameIndex := 5, descriptorIndex := 29, attributes := #[] }, { accessFlags := 0, nameIndex := 17, descriptorIndex := 337, attributes := #[] }, { accessFlags := 0, nameIndex := 494, descriptorIndex := 142, attributes := #[] }, { accessFlags := 8, nameIndex := 501, descriptorIndex := 391, attributes := #[] }] 49 2 #[1106, 1108, 575, 1110, 1112] #[{ accessFlags := 18, nameIndex := 13, descriptorIndex := 14, attributes := #[] }, { accessFlags := 18, nameIndex := 17, descriptorIndex := 18, attributes := #[] }, { accessFlags := 2, nameIndex := 21, descriptorIndex := 22, attributes := #[] }, { accessFlags := 2, nameIndex := 25, descriptorIndex := 26, attributes := #[] }, { accessFlags := 26, nameIndex := 1116, descriptorIndex := 1117, attributes := #[] }, { accessFlags := 24, nameIndex := 40, descriptorIndex := 26, attributes := #[] }, { accessFlags := 26, nameIndex := 1101, descriptorIndex := 1102, attributes := #[] }, { accessFlags := 26, nameIndex := 1121, descriptorIndex := 1122, attributes := #[] }, { accessFlags := 25, nameIndex := 599, descriptorIndex := 600, attributes := #[] }, { accessFlags := 24, nameIndex := 1125, descriptorIndex := 18, attributes := #[] }, { accessFlags := 24, nameIndex := 1127, descriptorIndex := 18, attributes := #[] }])
  fields := #[{ name := "value", type := (.array .byte), accessFlags := 18, slot := 0, constantValue := 0 }, { name := "coder", type := .byte, accessFlags := 18, slot := 1, constantValue := 0 }, { name := "hash", type := .int, accessFlags := 2, slot := 2, constantValue := 0 }, { name := "hashIsZero", type := .boolean, accessFlags := 2, slot := 3, constantValue := 0 }, { name := "serialVersionUID", type := .long, accessFlags := 26, slot := 0, constantValue := 0 }, { name := "COMPACT_STRINGS", type := .boolean, accessFlags := 24, slot := 1, constantValue := 0 }, { name := "serialPersistentFields", type := (.array (.object "java/io/ObjectStreamField")), accessFlags := 26, slot := 2, constantValue := 0 }, { name := "REPL", type := .char, accessFlags := 26, slot := 3, constantValue := 0 }, { name := "CASE_INSENSITIVE_ORDER", type := (.object "java/util/Comparator"), accessFlags := 25, slot := 4, constantValue := 0 }, { name := "LATIN1", type := .byte, accessFlags := 24, slot := 5, constantValue := 0 }, { name := "UTF16", type := .byte, accessFlags := 24, slot := 6, constantValue := 0 }]
  methods := #[k7m0, k7m1, k7m2, k7m3, k7m4, k7m5, k7m6, k7m7]
  instanceTypes := #[(.array .byte), .byte, .int, .boolean]
  staticTypes := #[.long, .boolean, (.array (.object "java/io/ObjectStreamField")), .char, (.object "java/util/Comparator"), .byte, .byte]
  resolved := Array.replicate 1451 none
  statics := some 0 }

def pool8 : Array CpInfo := pool [(2, .class_ 4), (1, u "java/lang/Object"), (0, u "<init>"), (0, u "()V"), (1, .class_ 10), (1, u "java/lang/String"), (2, .methodref 8 14), (0, .nameAndType 15 16), (0, u "charAt"), (0, u "(I)C"), (1, .class_ 20), (1, u "com/example/splode/splode/document/CoreSchema$Type"), (2, .methodref 8 24), (0, .nameAndType 25 26), (0, u "length"), (0, u "()I"), (1, .class_ 30), (1, u "com/example/splode/splode/document/CoreSchema"), (0, u "NULLS"), (0, u "Ljava/util/Set;"), (11, u "BOOLEANS"), (3, .methodref 28 49), (0, .nameAndType 50 51), (0, u "digit"), (0, u "(CI)Z"), (2, u "radix"), (0, u "(Ljava/lang/String;)Z"), (5, u "NOT_FINITE")] 77

def k8m0 : Method := { name := "<init>", desc := "()V", sig := { parameters := [], returnType := none }, accessFlags := 2, code := none }
def k8c1 : Code := { maxStack := 2, maxLocals := 5, code := prog_6_method_3_code, exceptionTable := #[], attributes := #[] }
def k8m1 : Method := { name := "radix", desc := "(Ljava/lang/String;)Z", sig := { parameters := [(.object "java/lang/String")], returnType := some .boolean }, accessFlags := 8, code := some k8c1 }
def k8c2 : Code := { maxStack := 3, maxLocals := 4, code := prog_6_method_8_code, exceptionTable := #[], attributes := #[] }
def k8m2 : Method := { name := "digit", desc := "(CI)Z", sig := { parameters := [.char, .int], returnType := some .boolean }, accessFlags := 10, code := some k8c2 }
/-- com/example/splode/splode/document/CoreSchema -/
def k8 : Class := { plain "com/example/splode/splode/document/CoreSchema" (some 0) with
  accessFlags := 48
  interfaces := #[]
  cf := some (fileOf pool8 28 #[.nestMembers #[18]] #[{ accessFlags := 2, nameIndex := 5, descriptorIndex := 6, attributes := #[] }, { accessFlags := 8, nameIndex := 54, descriptorIndex := 55, attributes := #[] }, { accessFlags := 10, nameIndex := 50, descriptorIndex := 51, attributes := #[] }] 48 2 #[] #[{ accessFlags := 26, nameIndex := 31, descriptorIndex := 32, attributes := #[] }, { accessFlags := 26, nameIndex := 44, descriptorIndex := 32, attributes := #[] }, { accessFlags := 24, nameIndex := 61, descriptorIndex := 32, attributes := #[] }])
  fields := #[{ name := "NULLS", type := (.object "java/util/Set"), accessFlags := 26, slot := 0, constantValue := 0 }, { name := "BOOLEANS", type := (.object "java/util/Set"), accessFlags := 26, slot := 1, constantValue := 0 }, { name := "NOT_FINITE", type := (.object "java/util/Set"), accessFlags := 24, slot := 2, constantValue := 0 }]
  methods := #[k8m0, k8m1, k8m2]
  instanceTypes := #[]
  staticTypes := #[(.object "java/util/Set"), (.object "java/util/Set"), (.object "java/util/Set")]
  resolved := Array.replicate 139 none
  statics := none }

def pool9 : Array CpInfo := pool [(3, .class_ 4), (0, u "java/lang/String"), (1, .class_ 8), (1, u "java/lang/Object"), (0, u "<init>"), (0, u "()V"), (0, .methodref 12 13), (0, .class_ 14), (0, .nameAndType 15 16), (0, u "java/lang/StringUTF16"), (0, u "newBytesLength"), (0, u "(I)I"), (3, .integer 1073741823), (23, .fieldref 12 45), (0, .nameAndType 46 47), (0, u "$assertionsDisabled"), (0, u "Z"), (0, .methodref 12 49), (0, .nameAndType 50 51), (0, u "length"), (0, u "([B)I"), (7, .fieldref 12 60), (0, .nameAndType 61 62), (0, u "HI_BYTE_SHIFT"), (0, u "I"), (0, .fieldref 12 64), (0, .nameAndType 65 62), (0, u "LO_BYTE_SHIFT"), (1, .methodref 12 68), (0, .nameAndType 69 70), (0, u "checkIndex"), (0, u "(I[B)V"), (0, .methodref 12 72), (0, .nameAndType 73 74), (0, u "getChar"), (0, u "([BI)C"), (32, .methodref 12 108), (0, .nameAndType 109 110), (0, u "newBytesFor"), (0, u "(I)[B"), (0, .methodref 12 112), (0, .nameAndType 113 114), (0, u "putChar"), (0, u "([BII)V"), (0, .methodref 12 116), (0, .nameAndType 117 118), (0, u "compress"), (0, u "([CI[BII)I"), (0, .methodref 12 120), (0, .nameAndType 121 122), (0, u "toBytes"), (0, u "([CII)[B"), (138, u "coderFromArrayLen"), (0, u "([BI)B"), (106, .class_ 371), (1, u "java/lang/StringUTF16$LinesSpliterator"), (20, u "charAt"), (21, .methodref 3 415), (0, .nameAndType 69 416), (0, u "(II)V"), (13, u "MAX_LENGTH"), (196, .class_ 628), (0, u "java/lang/StringUTF16$CodePointsSpliterator"), (0, .class_ 630), (0, u "java/lang/StringUTF16$CharsSpliterator")] 4

def k9m0 : Method := { name := "<init>", desc := "()V", sig := { parameters := [], returnType := none }, accessFlags := 0, code := none }
def k9c1 : Code := { maxStack := 1, maxLocals := 1, code := jdk_52_method_2_code, exceptionTable := #[], attributes := #[] }
def k9m1 : Method := { name := "newBytesFor", desc := "(I)[B", sig := { parameters := [.int], returnType := some (.array .byte) }, accessFlags := 9, code := some k9c1 }
def k9c2 : Code := { maxStack := 4, maxLocals := 1, code := jdk_52_method_3_code, exceptionTable := #[], attributes := #[] }
def k9m2 : Method := { name := "newBytesLength", desc := "(I)I", sig := { parameters := [.int], returnType := some .int }, accessFlags := 9, code := some k9c2 }
def k9c3 : Code := { maxStack := 4, maxLocals := 3, code := jdk_52_method_4_code, exceptionTable := #[], attributes := #[] }
def k9m3 : Method := { name := "putChar", desc := "([BII)V", sig := { parameters := [(.array .byte), .int, .int], returnType := none }, accessFlags := 8, code := some k9c3 }
def k9c4 : Code := { maxStack := 3, maxLocals := 2, code := jdk_52_method_5_code, exceptionTable := #[], attributes := #[] }
def k9m4 : Method := { name := "getChar", desc := "([BI)C", sig := { parameters := [(.array .byte), .int], returnType := some .char }, accessFlags := 8, code := some k9c4 }
def k9c5 : Code := { maxStack := 2, maxLocals := 1, code := jdk_52_method_6_code, exceptionTable := #[], attributes := #[] }
def k9m5 : Method := { name := "length", desc := "([B)I", sig := { parameters := [(.array .byte)], returnType := some .int }, accessFlags := 9, code := some k9c5 }
def k9c6 : Code := { maxStack := 4, maxLocals := 5, code := jdk_52_method_14_code, exceptionTable := #[], attributes := #[] }
def k9m6 : Method := { name := "toBytes", desc := "([CII)[B", sig := { parameters := [(.array .char), .int, .int], returnType := some (.array .byte) }, accessFlags := 9, code := some k9c6 }
def k9c7 : Code := { maxStack := 2, maxLocals := 2, code := jdk_52_method_15_code, exceptionTable := #[], attributes := #[] }
def k9m7 : Method := { name := "coderFromArrayLen", desc := "([BI)B", sig := { parameters := [(.array .byte), .int], returnType := some .byte }, accessFlags := 8, code := some k9c7 }
def k9c8 : Code := { maxStack := 5, maxLocals := 6, code := jdk_52_method_16_code, exceptionTable := #[], attributes := #[] }
def k9m8 : Method := { name := "compress", desc := "([CII)[B", sig := { parameters := [(.array .char), .int, .int], returnType := some (.array .byte) }, accessFlags := 9, code := some k9c8 }
def k9c9 : Code := { maxStack := 3, maxLocals := 7, code := jdk_52_method_21_code, exceptionTable := #[], attributes := #[] }
def k9m9 : Method := { name := "compress", desc := "([CI[BII)I", sig := { parameters := [(.array .char), .int, (.array .byte), .int, .int], returnType := some .int }, accessFlags := 9, code := some k9c9 }
def k9c10 : Code := { maxStack := 2, maxLocals := 2, code := jdk_52_method_83_code, exceptionTable := #[], attributes := #[] }
def k9m10 : Method := { name := "charAt", desc := "([BI)C", sig := { parameters := [(.array .byte), .int], returnType := some .char }, accessFlags := 9, code := some k9c10 }
def k9c11 : Code := { maxStack := 2, maxLocals := 2, code := jdk_52_method_91_code, exceptionTable := #[], attributes := #[] }
def k9m11 : Method := { name := "checkIndex", desc := "(I[B)V", sig := { parameters := [.int, (.array .byte)], returnType := none }, accessFlags := 9, code := some k9c11 }
/-- java/lang/StringUTF16 -/
def k9 : Class := { plain "java/lang/StringUTF16" (some 0) with
  accessFlags := 48
  interfaces := #[]
  cf := some (fileOf pool9 12 #[.nestMembers #[627, 629, 369]] #[{ accessFlags := 0, nameIndex := 9, descriptorIndex := 10, attributes := #[] }, { accessFlags := 9, nameIndex := 109, descriptorIndex := 110, attributes := #[] }, { accessFlags := 9, nameIndex := 15, descriptorIndex := 16, attributes := #[] }, { accessFlags := 8, nameIndex := 113, descriptorIndex := 114, attributes := #[] }, { accessFlags := 8, nameIndex := 73, descriptorIndex := 74, attributes := #[] }, { accessFlags := 9, nameIndex := 50, descriptorIndex := 51, attributes := #[] }, { accessFlags := 9, nameIndex := 121, descriptorIndex := 122, attributes := #[] }, { accessFlags := 8, nameIndex := 261, descriptorIndex := 262, attributes := #[] }, { accessFlags := 9, nameIndex := 117, descriptorIndex := 122, attributes := #[] }, { accessFlags := 9, nameIndex := 117, descriptorIndex := 118, attributes := #[] }, { accessFlags := 9, nameIndex := 392, descriptorIndex := 74, attributes := #[] }, { accessFlags := 9, nameIndex := 69, descriptorIndex := 70, attributes := #[] }] 48 6 #[] #[{ accessFlags := 26, nameIndex := 61, descriptorIndex := 62, attributes := #[] }, { accessFlags := 26, nameIndex := 65, descriptorIndex := 62, attributes := #[] }, { accessFlags := 24, nameIndex := 430, descriptorIndex := 62, attributes := #[] }, { accessFlags := 4120, nameIndex := 46, descriptorIndex := 47, attributes := #[] }])
  fields := #[{ name := "HI_BYTE_SHIFT", type := .int, accessFlags := 26, slot := 0, constantValue := 0 }, { name := "LO_BYTE_SHIFT", type := .int, accessFlags := 26, slot := 1, constantValue := 0 }, { name := "MAX_LENGTH", type := .int, accessFlags := 24, slot := 2, constantValue := 0 }, { name := "$assertionsDisabled", type := .boolean, accessFlags := 4120, slot := 3, constantValue := 0 }]
  methods := #[k9m0, k9m1, k9m2, k9m3, k9m4, k9m5, k9m6, k9m7, k9m8, k9m9, k9m10, k9m11]
  instanceTypes := #[]
  staticTypes := #[.int, .int, .int, .boolean]
  resolved := Array.replicate 635 none
  statics := some 1 }

def pool10 : Array CpInfo := pool [(1, .class_ 2), (0, u "java/lang/String"), (1, .class_ 6), (1, u "java/lang/Object"), (0, u "<init>"), (0, u "()V"), (0, .methodref 1 10), (0, .nameAndType 11 12), (0, u "checkIndex"), (0, u "(II)V"), (1, .class_ 16), (1, u "java/lang/StringLatin1"), (36, u "([BI)C"), (67, u "$assertionsDisabled"), (0, u "Z"), (98, .class_ 223), (1, u "java/lang/StringLatin1$LinesSpliterator"), (28, u "charAt"), (137, .class_ 391), (0, u "java/lang/StringLatin1$CharsSpliterator")] 3

def k10m0 : Method := { name := "<init>", desc := "()V", sig := { parameters := [], returnType := none }, accessFlags := 0, code := none }
def k10c1 : Code := { maxStack := 2, maxLocals := 2, code := jdk_43_method_2_code, exceptionTable := #[], attributes := #[] }
def k10m1 : Method := { name := "charAt", desc := "([BI)C", sig := { parameters := [(.array .byte), .int], returnType := some .char }, accessFlags := 9, code := some k10c1 }
/-- java/lang/StringLatin1 -/
def k10 : Class := { plain "java/lang/StringLatin1" (some 0) with
  accessFlags := 48
  interfaces := #[]
  cf := some (fileOf pool10 14 #[.nestMembers #[390, 221]] #[{ accessFlags := 0, nameIndex := 7, descriptorIndex := 8, attributes := #[] }, { accessFlags := 9, nameIndex := 252, descriptorIndex := 53, attributes := #[] }] 48 4 #[] #[{ accessFlags := 4120, nameIndex := 121, descriptorIndex := 122, attributes := #[] }])
  fields := #[{ name := "$assertionsDisabled", type := .boolean, accessFlags := 4120, slot := 0, constantValue := 0 }]
  methods := #[k10m0, k10m1]
  instanceTypes := #[]
  staticTypes := #[.boolean]
  resolved := Array.replicate 395 none
  statics := none }

def pool11 : Array CpInfo := pool [(2, .class_ 4), (1, u "java/lang/Object"), (0, u "<init>"), (0, u "()V"), (17, .class_ 26), (1, u "jdk/internal/util/Preconditions"), (6, u "checkIndex"), (21, .class_ 56), (0, u "jdk/internal/util/Preconditions$4"), (57, .class_ 115), (0, u "jdk/internal/util/Preconditions$1"), (7, u "SIOOBE_FORMATTER"), (0, u "Ljava/util/function/BiFunction;"), (0, .class_ 126), (0, u "jdk/internal/util/Preconditions$2"), (3, u "AIOOBE_FORMATTER"), (0, .class_ 132), (0, u "jdk/internal/util/Preconditions$3"), (3, u "IOOBE_FORMATTER"), (41, u "(IILjava/util/function/BiFunction;)I")] 15

def k11m0 : Method := { name := "<init>", desc := "()V", sig := { parameters := [], returnType := none }, accessFlags := 1, code := none }
def k11c1 : Code := { maxStack := 3, maxLocals := 3, code := jdk_41_method_11_code, exceptionTable := #[], attributes := #[] }
def k11m1 : Method := { name := "checkIndex", desc := "(IILjava/util/function/BiFunction;)I", sig := { parameters := [.int, .int, (.object "java/util/function/BiFunction")], returnType := some .int }, accessFlags := 9, code := some k11c1 }
/-- jdk/internal/util/Preconditions -/
def k11 : Class := { plain "jdk/internal/util/Preconditions" (some 0) with
  accessFlags := 33
  interfaces := #[]
  cf := some (fileOf pool11 24 #[.nestMembers #[55, 131, 125, 114]] #[{ accessFlags := 1, nameIndex := 5, descriptorIndex := 6, attributes := #[] }, { accessFlags := 9, nameIndex := 33, descriptorIndex := 178, attributes := #[] }] 33 2 #[] #[{ accessFlags := 25, nameIndex := 123, descriptorIndex := 124, attributes := #[] }, { accessFlags := 25, nameIndex := 130, descriptorIndex := 124, attributes := #[] }, { accessFlags := 25, nameIndex := 136, descriptorIndex := 124, attributes := #[] }])
  fields := #[{ name := "SIOOBE_FORMATTER", type := (.object "java/util/function/BiFunction"), accessFlags := 25, slot := 0, constantValue := 0 }, { name := "AIOOBE_FORMATTER", type := (.object "java/util/function/BiFunction"), accessFlags := 25, slot := 1, constantValue := 0 }, { name := "IOOBE_FORMATTER", type := (.object "java/util/function/BiFunction"), accessFlags := 25, slot := 2, constantValue := 0 }]
  methods := #[k11m0, k11m1]
  instanceTypes := #[]
  staticTypes := #[(.object "java/util/function/BiFunction"), (.object "java/util/function/BiFunction"), (.object "java/util/function/BiFunction")]
  resolved := Array.replicate 194 none
  statics := some 2 }

def pool12 : Array CpInfo := pool [(9, u "<init>"), (6, .class_ 18), (1, u "java/lang/Object"), (0, u "()V"), (1, .class_ 23), (1, u "jdk/internal/util/ArraysSupport"), (0, u "LOG2_ARRAY_LONG_INDEX_SCALE"), (0, u "I"), (2, u "U"), (0, u "Ljdk/internal/misc/Unsafe;"), (8, u "BIG_ENDIAN"), (0, u "Z"), (8, u "LOG2_BYTE_BIT_SIZE"), (4, u "LOG2_ARRAY_INT_INDEX_SCALE"), (54, u "JLA"), (0, u "Ljdk/internal/access/JavaLangAccess;"), (11, u "LOG2_ARRAY_BOOLEAN_INDEX_SCALE"), (9, u "LOG2_ARRAY_BYTE_INDEX_SCALE"), (5, u "LOG2_ARRAY_CHAR_INDEX_SCALE"), (5, u "LOG2_ARRAY_SHORT_INDEX_SCALE"), (18, u "LOG2_ARRAY_FLOAT_INDEX_SCALE"), (24, u "LOG2_ARRAY_DOUBLE_INDEX_SCALE"), (89, u "T_BOOLEAN"), (2, u "T_CHAR"), (1, u "T_FLOAT"), (1, u "T_DOUBLE"), (1, u "T_BYTE"), (1, u "T_SHORT"), (1, u "T_INT"), (1, u "T_LONG"), (1, u "SOFT_MAX_ARRAY_LENGTH")] 83

def k12m0 : Method := { name := "<init>", desc := "()V", sig := { parameters := [], returnType := none }, accessFlags := 2, code := none }
/-- jdk/internal/util/ArraysSupport -/
def k12 : Class := { plain "jdk/internal/util/ArraysSupport" (some 0) with
  accessFlags := 33
  interfaces := #[]
  cf := some (fileOf pool12 21 #[] #[{ accessFlags := 2, nameIndex := 9, descriptorIndex := 19, attributes := #[] }] 33 16 #[] #[{ accessFlags := 24, nameIndex := 28, descriptorIndex := 29, attributes := #[] }, { accessFlags := 26, nameIndex := 38, descriptorIndex := 39, attributes := #[] }, { accessFlags := 25, nameIndex := 121, descriptorIndex := 25, attributes := #[] }, { accessFlags := 25, nameIndex := 131, descriptorIndex := 25, attributes := #[] }, { accessFlags := 25, nameIndex := 137, descriptorIndex := 25, attributes := #[] }, { accessFlags := 25, nameIndex := 143, descriptorIndex := 25, attributes := #[] }, { accessFlags := 25, nameIndex := 53, descriptorIndex := 25, attributes := #[] }, { accessFlags := 25, nameIndex := 24, descriptorIndex := 25, attributes := #[] }, { accessFlags := 25, nameIndex := 162, descriptorIndex := 25, attributes := #[] }, { accessFlags := 25, nameIndex := 187, descriptorIndex := 25, attributes := #[] }, { accessFlags := 26, nameIndex := 48, descriptorIndex := 25, attributes := #[] }, { accessFlags := 25, nameIndex := 277, descriptorIndex := 25, attributes := #[] }, { accessFlags := 25, nameIndex := 280, descriptorIndex := 25, attributes := #[] }, { accessFlags := 25, nameIndex := 282, descriptorIndex := 25, attributes := #[] }, { accessFlags := 25, nameIndex := 284, descriptorIndex := 25, attributes := #[] }, { accessFlags := 25, nameIndex := 286, descriptorIndex := 25, attributes := #[] }, { accessFlags := 25, nameIndex := 288, descriptorIndex := 25, attributes := #[] }, { accessFlags := 25, nameIndex := 290, descriptorIndex := 25, attributes := #[] }, { accessFlags := 25, nameIndex := 292, descriptorIndex := 25, attributes := #[] }, { accessFlags := 26, nameIndex := 108, descriptorIndex := 109, attributes := #[] }, { accessFlags := 25, nameIndex := 294, descriptorIndex := 25, attributes := #[] }])
  fields := #[{ name := "U", type := (.object "jdk/internal/misc/Unsafe"), accessFlags := 24, slot := 0, constantValue := 0 }, { name := "BIG_ENDIAN", type := .boolean, accessFlags := 26, slot := 1, constantValue := 0 }, { name := "LOG2_ARRAY_BOOLEAN_INDEX_SCALE", type := .int, accessFlags := 25, slot := 2, constantValue := 0 }, { name := "LOG2_ARRAY_BYTE_INDEX_SCALE", type := .int, accessFlags := 25, slot := 3, constantValue := 0 }, { name := "LOG2_ARRAY_CHAR_INDEX_SCALE", type := .int, accessFlags := 25, slot := 4, constantValue := 0 }, { name := "LOG2_ARRAY_SHORT_INDEX_SCALE", type := .int, accessFlags := 25, slot := 5, constantValue := 0 }, { name := "LOG2_ARRAY_INT_INDEX_SCALE", type := .int, accessFlags := 25, slot := 6, constantValue := 0 }, { name := "LOG2_ARRAY_LONG_INDEX_SCALE", type := .int, accessFlags := 25, slot := 7, constantValue := 0 }, { name := "LOG2_ARRAY_FLOAT_INDEX_SCALE", type := .int, accessFlags := 25, slot := 8, constantValue := 0 }, { name := "LOG2_ARRAY_DOUBLE_INDEX_SCALE", type := .int, accessFlags := 25, slot := 9, constantValue := 0 }, { name := "LOG2_BYTE_BIT_SIZE", type := .int, accessFlags := 26, slot := 10, constantValue := 0 }, { name := "T_BOOLEAN", type := .int, accessFlags := 25, slot := 11, constantValue := 0 }, { name := "T_CHAR", type := .int, accessFlags := 25, slot := 12, constantValue := 0 }, { name := "T_FLOAT", type := .int, accessFlags := 25, slot := 13, constantValue := 0 }, { name := "T_DOUBLE", type := .int, accessFlags := 25, slot := 14, constantValue := 0 }, { name := "T_BYTE", type := .int, accessFlags := 25, slot := 15, constantValue := 0 }, { name := "T_SHORT", type := .int, accessFlags := 25, slot := 16, constantValue := 0 }, { name := "T_INT", type := .int, accessFlags := 25, slot := 17, constantValue := 0 }, { name := "T_LONG", type := .int, accessFlags := 25, slot := 18, constantValue := 0 }, { name := "JLA", type := (.object "jdk/internal/access/JavaLangAccess"), accessFlags := 26, slot := 19, constantValue := 0 }, { name := "SOFT_MAX_ARRAY_LENGTH", type := .int, accessFlags := 25, slot := 20, constantValue := 0 }]
  methods := #[k12m0]
  instanceTypes := #[]
  staticTypes := #[(.object "jdk/internal/misc/Unsafe"), .boolean, .int, .int, .int, .int, .int, .int, .int, .int, .int, .int, .int, .int, .int, .int, .int, .int, .int, (.object "jdk/internal/access/JavaLangAccess"), .int]
  resolved := Array.replicate 378 none
  statics := none }

def pool13 : Array CpInfo := pool [(1, u "java/lang/Cloneable"), (0, .class_ 1), (0, u "java/lang/Object"), (0, .class_ 3)] 3

/-- java/lang/Cloneable -/
def k13 : Class := { plain "java/lang/Cloneable" (some 0) with
  accessFlags := 1537
  interfaces := #[]
  cf := some (fileOf pool13 2 #[] #[] 1537 4 #[] #[])
  fields := #[]
  methods := #[]
  instanceTypes := #[]
  staticTypes := #[]
  resolved := Array.replicate 8 none
  statics := none }

/-- the primitive byte -/
def k14 : Class := { plain "byte" none with kind := .primitive 'B', accessFlags := 0x411 }
/-- [B -/
def k15 : Class := { plain "[B" (some 0) with kind := .array 14 .byte, interfaces := #[13, 2], accessFlags := 1041 }

/-- the primitive char -/
def k16 : Class := { plain "char" none with kind := .primitive 'C', accessFlags := 0x411 }
/-- [C -/
def k17 : Class := { plain "[C" (some 0) with kind := .array 16 .char, interfaces := #[13, 2], accessFlags := 1041 }

/-- the primitive int -/
def k18 : Class := { plain "int" none with kind := .primitive 'I', accessFlags := 0x411 }
/-- [I -/
def k19 : Class := { plain "[I" (some 0) with kind := .array 18 .int, interfaces := #[13, 2], accessFlags := 1041 }

def heap : Heap := #[{ cls := 7, slots := #[.long 0, .int 1, .null, .int 0, .null, .int 0, .int 0], vm := .statics 7 },
  { cls := 9, slots := #[.int 0, .int 8, .int 0, .int 1], vm := .statics 9 },
  { cls := 11, slots := #[.null, .null, .null], vm := .statics 11 }]
def classes : Array Class := #[k0, k1, k2, k3, k4, k5, k6, k7, k8, k9, k10, k11, k12, k13, k14, k15, k16, k17, k18, k19]
def interned : List (Array UInt16 × Addr) := []
def slotsUsed : Nat := 14
def theMethod : MethodId := ⟨1, 1⟩
def args0 : Array Value := #[.int 3, .int 1, .int 2, .int 3, .int 4, .int 5]
def aboutOver (below : List Frame) : State where
  vm := { classes := classes, interned := interned.toArray }
  heap := heap
  slotsUsed := slotsUsed
  threads := #[{ frames := .invoking theMethod args0 :: below }]
def below0 : List Frame := [.native { method := ⟨0, 0⟩, args := #[] }]
def about1 : State := aboutOver below0
def p0 : Program := .bare "" "" ""
def e0 : Env := launch0.env 0 0 0
theorem w_frames : about1.frames = Frame.invoking theMethod args0 :: below0 := rfl
set_option maxRecDepth 65536 in
theorem w_args : argsFit about1.vm theMethod args0 = true := by decide +kernel
set_option maxRecDepth 65536 in
theorem w_heap : heapFits about1 = true := by decide +kernel
set_option maxRecDepth 65536 in
theorem w_runnable : about1.curStatus? = some .runnable := by decide +kernel
set_option maxRecDepth 65536 in
theorem w_alone : about1.alone = true := by decide +kernel
set_option maxRecDepth 65536 in
theorem w_named : about1.methodNamed? x = some theMethod := by decide +kernel
set_option maxRecDepth 65536 in
theorem w_hears : about1.hears theMethod below0 = true := by decide +kernel
set_option maxRecDepth 65536 in
theorem w_ripe : about1.ripe theMethod args0 below0 = true := by decide +kernel
theorem w_running : about1.status = .running := rfl
set_option maxRecDepth 65536 in
theorem w_room : about1.hasRoom e0.platform room_1 = true :=
  launch0.hasRoom_least _ room_1 (by decide +kernel) (by decide +kernel) (by decide +kernel) (by decide +kernel) (by decide +kernel) (by decide +kernel)
theorem allAtoms_all (ts : List Jvm.Cond) (a : Array Jvm.Value) (st : Jvm.State) : (allAtoms ts).before a st = ts.all (fun c => c.before a st) := by
  induction ts with
  | nil => rfl
  | cons c t ih =>
    show (Jvm.Cond.and c (allAtoms t)).before a st = _
    rw [Jvm.Cond.before_and, ih, List.all_cons]
def words1 : List Jvm.Cond := Jvm.Cond.code x code maxLocals ret :: tables_1
/-- a 'code' word, met by the world's own term for the bytes: nothing is compared byte by byte -/
theorem code_word {y : MethodName} {bytes : ByteArray} {mx : Nat} {rt : Option FieldType} {a : Array Value} {s : State} {m : MethodId} {meth : Method} {c : Code} (h1 : s.methodNamed? y = some m) (h2 : s.vm.method? m = some meth) (h3 : meth.code = some c) (h4 : c.code = bytes)
    (h5 : (c.maxLocals == mx && c.exceptionTable.isEmpty && decide (c.maxStack ≤ mostOperands) && decide (meth.sig.returnType = rt) && !meth.locks && decide (parseMethodDescriptor y.desc = some meth.sig)) = true) : (Jvm.Cond.code y bytes mx rt).before a s = true := by
  simp only [Bool.and_eq_true, beq_iff_eq, Bool.not_eq_true', decide_eq_true_eq] at h5
  obtain ⟨⟨⟨⟨⟨g1, g2⟩, g3⟩, g4⟩, g5⟩, g6⟩ := h5
  simp [Cond.before, Cond.holds, Cond.value, h1, h2, h3, h4, g1, g2, g3, g4, g5, g6]
def isCode : Jvm.Cond → Bool
  | .code _ _ _ _ => true
  | _ => false
theorem all_split {L : List Jvm.Cond} {P : Jvm.Cond → Bool} (h1 : L.all (fun c => isCode c || P c) = true) (h2 : ∀ c ∈ L.filter isCode, P c = true) : L.all P = true := by
  refine List.all_eq_true.mpr fun c hc => ?_
  have h := List.all_eq_true.mp h1 c hc
  rcases Bool.eq_false_or_eq_true (isCode c) with hi | hi
  · exact h2 c (List.mem_filter.mpr ⟨hc, hi⟩)
  · simpa [hi] using h
set_option maxRecDepth 65536 in
theorem w_c0 : (Jvm.Cond.code x code maxLocals ret).before args0 about1 = true := code_word (m := ⟨1, 1⟩) (meth := k1m1) (c := k1c1) (by decide +kernel) rfl rfl rfl (by decide +kernel)
set_option maxRecDepth 65536 in
theorem w_c1 : (Jvm.Cond.code ({ cls := "com/example/splode/splode/document/CoreSchemaRadixPinLaw", name := "pick", desc := "(I)C" } : Jvm.MethodName) method_5_code (3 : Nat) (Option.some Jvm.ClassFile.FieldType.char)).before args0 about1 = true := code_word (m := ⟨1, 4⟩) (meth := k1m4) (c := k1c4) (by decide +kernel) rfl rfl rfl (by decide +kernel)
set_option maxRecDepth 65536 in
theorem w_c2 : (Jvm.Cond.code ({ cls := "com/example/splode/splode/document/CoreSchemaRadixPinLaw", name := "make", desc := "(ICCCCC)Ljava/lang/String;" } : Jvm.MethodName) method_6_code (6 : Nat) (Option.some (Jvm.ClassFile.FieldType.object "java/lang/String"))).before args0 about1 = true := code_word (m := ⟨1, 5⟩) (meth := k1m5) (c := k1c5) (by decide +kernel) rfl rfl rfl (by decide +kernel)
set_option maxRecDepth 65536 in
theorem w_c3 : (Jvm.Cond.code ({ cls := "java/lang/String", name := "<init>", desc := "([C)V" } : Jvm.MethodName) jdk_42_method_3_code (2 : Nat) (Option.none : Option Jvm.ClassFile.FieldType)).before args0 about1 = true := code_word (m := ⟨7, 1⟩) (meth := k7m1) (c := k7c1) (by decide +kernel) rfl rfl rfl (by decide +kernel)
set_option maxRecDepth 65536 in
theorem w_c4 : (Jvm.Cond.code ({ cls := "java/lang/String", name := "<init>", desc := "([CIILjava/lang/Void;)V" } : Jvm.MethodName) jdk_42_method_149_code (6 : Nat) (Option.none : Option Jvm.ClassFile.FieldType)).before args0 about1 = true := code_word (m := ⟨7, 4⟩) (meth := k7m4) (c := k7c4) (by decide +kernel) rfl rfl rfl (by decide +kernel)
set_option maxRecDepth 65536 in
theorem w_c5 : (Jvm.Cond.code ({ cls := "java/lang/Object", name := "<init>", desc := "()V" } : Jvm.MethodName) object_method_1_code (1 : Nat) (Option.none : Option Jvm.ClassFile.FieldType)).before args0 about1 = true := code_word (m := ⟨0, 0⟩) (meth := k0m0) (c := k0c0) (by decide +kernel) rfl rfl rfl (by decide +kernel)
set_option maxRecDepth 65536 in
theorem w_c6 : (Jvm.Cond.code ({ cls := "com/example/splode/splode/document/CoreSchema", name := "radix", desc := "(Ljava/lang/String;)Z" } : Jvm.MethodName) prog_6_method_3_code (5 : Nat) (Option.some Jvm.ClassFile.FieldType.boolean)).before args0 about1 = true := code_word (m := ⟨8, 1⟩) (meth := k8m1) (c := k8c1) (by decide +kernel) rfl rfl rfl (by decide +kernel)
set_option maxRecDepth 65536 in
theorem w_c7 : (Jvm.Cond.code ({ cls := "java/lang/String", name := "length", desc := "()I" } : Jvm.MethodName) jdk_42_method_54_code (1 : Nat) (Option.some Jvm.ClassFile.FieldType.int)).before args0 about1 = true := code_word (m := ⟨7, 2⟩) (meth := k7m2) (c := k7c2) (by decide +kernel) rfl rfl rfl (by decide +kernel)
set_option maxRecDepth 65536 in
theorem w_c8 : (Jvm.Cond.code ({ cls := "java/lang/String", name := "coder", desc := "()B" } : Jvm.MethodName) jdk_42_method_152_code (1 : Nat) (Option.some Jvm.ClassFile.FieldType.byte)).before args0 about1 = true := code_word (m := ⟨7, 5⟩) (meth := k7m5) (c := k7c5) (by decide +kernel) rfl rfl rfl (by decide +kernel)
set_option maxRecDepth 65536 in
theorem w_c9 : (Jvm.Cond.code ({ cls := "java/lang/StringUTF16", name := "compress", desc := "([CII)[B" } : Jvm.MethodName) jdk_52_method_16_code (6 : Nat) (Option.some (Jvm.ClassFile.FieldType.array Jvm.ClassFile.FieldType.byte))).before args0 about1 = true := code_word (m := ⟨9, 8⟩) (meth := k9m8) (c := k9c8) (by decide +kernel) rfl rfl rfl (by decide +kernel)
set_option maxRecDepth 65536 in
theorem w_c10 : (Jvm.Cond.code ({ cls := "java/lang/StringUTF16", name := "compress", desc := "([CI[BII)I" } : Jvm.MethodName) jdk_52_method_21_code (7 : Nat) (Option.some Jvm.ClassFile.FieldType.int)).before args0 about1 = true := code_word (m := ⟨9, 9⟩) (meth := k9m9) (c := k9c9) (by decide +kernel) rfl rfl rfl (by decide +kernel)
set_option maxRecDepth 65536 in
theorem w_c11 : (Jvm.Cond.code ({ cls := "java/lang/StringUTF16", name := "coderFromArrayLen", desc := "([BI)B" } : Jvm.MethodName) jdk_52_method_15_code (2 : Nat) (Option.some Jvm.ClassFile.FieldType.byte)).before args0 about1 = true := code_word (m := ⟨9, 7⟩) (meth := k9m7) (c := k9c7) (by decide +kernel) rfl rfl rfl (by decide +kernel)
set_option maxRecDepth 65536 in
theorem w_c12 : (Jvm.Cond.code ({ cls := "java/lang/String", name := "charAt", desc := "(I)C" } : Jvm.MethodName) jdk_42_method_56_code (2 : Nat) (Option.some Jvm.ClassFile.FieldType.char)).before args0 about1 = true := code_word (m := ⟨7, 3⟩) (meth := k7m3) (c := k7c3) (by decide +kernel) rfl rfl rfl (by decide +kernel)
set_option maxRecDepth 65536 in
theorem w_c13 : (Jvm.Cond.code ({ cls := "java/lang/String", name := "isLatin1", desc := "()Z" } : Jvm.MethodName) jdk_42_method_154_code (1 : Nat) (Option.some Jvm.ClassFile.FieldType.boolean)).before args0 about1 = true := code_word (m := ⟨7, 6⟩) (meth := k7m6) (c := k7c6) (by decide +kernel) rfl rfl rfl (by decide +kernel)
set_option maxRecDepth 65536 in
theorem w_c14 : (Jvm.Cond.code ({ cls := "java/lang/StringLatin1", name := "charAt", desc := "([BI)C" } : Jvm.MethodName) jdk_43_method_2_code (2 : Nat) (Option.some Jvm.ClassFile.FieldType.char)).before args0 about1 = true := code_word (m := ⟨10, 1⟩) (meth := k10m1) (c := k10c1) (by decide +kernel) rfl rfl rfl (by decide +kernel)
set_option maxRecDepth 65536 in
theorem w_c15 : (Jvm.Cond.code ({ cls := "java/lang/String", name := "checkIndex", desc := "(II)V" } : Jvm.MethodName) jdk_42_method_155_code (2 : Nat) (Option.none : Option Jvm.ClassFile.FieldType)).before args0 about1 = true := code_word (m := ⟨7, 7⟩) (meth := k7m7) (c := k7c7) (by decide +kernel) rfl rfl rfl (by decide +kernel)
set_option maxRecDepth 65536 in
theorem w_c16 : (Jvm.Cond.code ({ cls := "jdk/internal/util/Preconditions", name := "checkIndex", desc := "(IILjava/util/function/BiFunction;)I" } : Jvm.MethodName) jdk_41_method_11_code (3 : Nat) (Option.some Jvm.ClassFile.FieldType.int)).before args0 about1 = true := code_word (m := ⟨11, 1⟩) (meth := k11m1) (c := k11c1) (by decide +kernel) rfl rfl rfl (by decide +kernel)
set_option maxRecDepth 65536 in
theorem w_c17 : (Jvm.Cond.code ({ cls := "java/lang/StringUTF16", name := "toBytes", desc := "([CII)[B" } : Jvm.MethodName) jdk_52_method_14_code (5 : Nat) (Option.some (Jvm.ClassFile.FieldType.array Jvm.ClassFile.FieldType.byte))).before args0 about1 = true := code_word (m := ⟨9, 6⟩) (meth := k9m6) (c := k9c6) (by decide +kernel) rfl rfl rfl (by decide +kernel)
set_option maxRecDepth 65536 in
theorem w_c18 : (Jvm.Cond.code ({ cls := "java/lang/StringUTF16", name := "newBytesFor", desc := "(I)[B" } : Jvm.MethodName) jdk_52_method_2_code (1 : Nat) (Option.some (Jvm.ClassFile.FieldType.array Jvm.ClassFile.FieldType.byte))).before args0 about1 = true := code_word (m := ⟨9, 1⟩) (meth := k9m1) (c := k9c1) (by decide +kernel) rfl rfl rfl (by decide +kernel)
set_option maxRecDepth 65536 in
theorem w_c19 : (Jvm.Cond.code ({ cls := "java/lang/StringUTF16", name := "newBytesLength", desc := "(I)I" } : Jvm.MethodName) jdk_52_method_3_code (1 : Nat) (Option.some Jvm.ClassFile.FieldType.int)).before args0 about1 = true := code_word (m := ⟨9, 2⟩) (meth := k9m2) (c := k9c2) (by decide +kernel) rfl rfl rfl (by decide +kernel)
set_option maxRecDepth 65536 in
theorem w_c20 : (Jvm.Cond.code ({ cls := "java/lang/StringUTF16", name := "putChar", desc := "([BII)V" } : Jvm.MethodName) jdk_52_method_4_code (3 : Nat) (Option.none : Option Jvm.ClassFile.FieldType)).before args0 about1 = true := code_word (m := ⟨9, 3⟩) (meth := k9m3) (c := k9c3) (by decide +kernel) rfl rfl rfl (by decide +kernel)
set_option maxRecDepth 65536 in
theorem w_c21 : (Jvm.Cond.code ({ cls := "java/lang/StringUTF16", name := "getChar", desc := "([BI)C" } : Jvm.MethodName) jdk_52_method_5_code (2 : Nat) (Option.some Jvm.ClassFile.FieldType.char)).before args0 about1 = true := code_word (m := ⟨9, 4⟩) (meth := k9m4) (c := k9c4) (by decide +kernel) rfl rfl rfl (by decide +kernel)
set_option maxRecDepth 65536 in
theorem w_c22 : (Jvm.Cond.code ({ cls := "java/lang/StringUTF16", name := "charAt", desc := "([BI)C" } : Jvm.MethodName) jdk_52_method_83_code (2 : Nat) (Option.some Jvm.ClassFile.FieldType.char)).before args0 about1 = true := code_word (m := ⟨9, 10⟩) (meth := k9m10) (c := k9c10) (by decide +kernel) rfl rfl rfl (by decide +kernel)
set_option maxRecDepth 65536 in
theorem w_c23 : (Jvm.Cond.code ({ cls := "java/lang/StringUTF16", name := "checkIndex", desc := "(I[B)V" } : Jvm.MethodName) jdk_52_method_91_code (2 : Nat) (Option.none : Option Jvm.ClassFile.FieldType)).before args0 about1 = true := code_word (m := ⟨9, 11⟩) (meth := k9m11) (c := k9c11) (by decide +kernel) rfl rfl rfl (by decide +kernel)
set_option maxRecDepth 65536 in
theorem w_c24 : (Jvm.Cond.code ({ cls := "java/lang/StringUTF16", name := "length", desc := "([B)I" } : Jvm.MethodName) jdk_52_method_6_code (1 : Nat) (Option.some Jvm.ClassFile.FieldType.int)).before args0 about1 = true := code_word (m := ⟨9, 5⟩) (meth := k9m5) (c := k9c5) (by decide +kernel) rfl rfl rfl (by decide +kernel)
set_option maxRecDepth 65536 in
theorem w_c25 : (Jvm.Cond.code ({ cls := "com/example/splode/splode/document/CoreSchemaRadixPinLaw", name := "hex", desc := "(C)Z" } : Jvm.MethodName) method_4_code (1 : Nat) (Option.some Jvm.ClassFile.FieldType.boolean)).before args0 about1 = true := code_word (m := ⟨1, 3⟩) (meth := k1m3) (c := k1c3) (by decide +kernel) rfl rfl rfl (by decide +kernel)
set_option maxRecDepth 65536 in
theorem w_c26 : (Jvm.Cond.code ({ cls := "com/example/splode/splode/document/CoreSchema", name := "digit", desc := "(CI)Z" } : Jvm.MethodName) prog_6_method_8_code (4 : Nat) (Option.some Jvm.ClassFile.FieldType.boolean)).before args0 about1 = true := code_word (m := ⟨8, 2⟩) (meth := k8m2) (c := k8c2) (by decide +kernel) rfl rfl rfl (by decide +kernel)
set_option maxRecDepth 65536 in
theorem w_c27 : (Jvm.Cond.code ({ cls := "com/example/splode/splode/document/CoreSchemaRadixPinLaw", name := "octal", desc := "(C)Z" } : Jvm.MethodName) method_3_code (1 : Nat) (Option.some Jvm.ClassFile.FieldType.boolean)).before args0 about1 = true := code_word (m := ⟨1, 2⟩) (meth := k1m2) (c := k1c2) (by decide +kernel) rfl rfl rfl (by decide +kernel)
def codes1 : List Jvm.Cond := [Jvm.Cond.code x code maxLocals ret, Jvm.Cond.code ({ cls := "com/example/splode/splode/document/CoreSchemaRadixPinLaw", name := "pick", desc := "(I)C" } : Jvm.MethodName) method_5_code (3 : Nat) (Option.some Jvm.ClassFile.FieldType.char), Jvm.Cond.code ({ cls := "com/example/splode/splode/document/CoreSchemaRadixPinLaw", name := "make", desc := "(ICCCCC)Ljava/lang/String;" } : Jvm.MethodName) method_6_code (6 : Nat) (Option.some (Jvm.ClassFile.FieldType.object "java/lang/String")), Jvm.Cond.code ({ cls := "java/lang/String", name := "<init>", desc := "([C)V" } : Jvm.MethodName) jdk_42_method_3_code (2 : Nat) (Option.none : Option Jvm.ClassFile.FieldType), Jvm.Cond.code ({ cls := "java/lang/String", name := "<init>", desc := "([CIILjava/lang/Void;)V" } : Jvm.MethodName) jdk_42_method_149_code (6 : Nat) (Option.none : Option Jvm.ClassFile.FieldType), Jvm.Cond.code ({ cls := "java/lang/Object", name := "<init>", desc := "()V" } : Jvm.MethodName) object_method_1_code (1 : Nat) (Option.none : Option Jvm.ClassFile.FieldType), Jvm.Cond.code ({ cls := "com/example/splode/splode/document/CoreSchema", name := "radix", desc := "(Ljava/lang/String;)Z" } : Jvm.MethodName) prog_6_method_3_code (5 : Nat) (Option.some Jvm.ClassFile.FieldType.boolean), Jvm.Cond.code ({ cls := "java/lang/String", name := "length", desc := "()I" } : Jvm.MethodName) jdk_42_method_54_code (1 : Nat) (Option.some Jvm.ClassFile.FieldType.int), Jvm.Cond.code ({ cls := "java/lang/String", name := "coder", desc := "()B" } : Jvm.MethodName) jdk_42_method_152_code (1 : Nat) (Option.some Jvm.ClassFile.FieldType.byte), Jvm.Cond.code ({ cls := "java/lang/StringUTF16", name := "compress", desc := "([CII)[B" } : Jvm.MethodName) jdk_52_method_16_code (6 : Nat) (Option.some (Jvm.ClassFile.FieldType.array Jvm.ClassFile.FieldType.byte)), Jvm.Cond.code ({ cls := "java/lang/StringUTF16", name := "compress", desc := "([CI[BII)I" } : Jvm.MethodName) jdk_52_method_21_code (7 : Nat) (Option.some Jvm.ClassFile.FieldType.int), Jvm.Cond.code ({ cls := "java/lang/StringUTF16", name := "coderFromArrayLen", desc := "([BI)B" } : Jvm.MethodName) jdk_52_method_15_code (2 : Nat) (Option.some Jvm.ClassFile.FieldType.byte), Jvm.Cond.code ({ cls := "java/lang/String", name := "charAt", desc := "(I)C" } : Jvm.MethodName) jdk_42_method_56_code (2 : Nat) (Option.some Jvm.ClassFile.FieldType.char), Jvm.Cond.code ({ cls := "java/lang/String", name := "isLatin1", desc := "()Z" } : Jvm.MethodName) jdk_42_method_154_code (1 : Nat) (Option.some Jvm.ClassFile.FieldType.boolean), Jvm.Cond.code ({ cls := "java/lang/StringLatin1", name := "charAt", desc := "([BI)C" } : Jvm.MethodName) jdk_43_method_2_code (2 : Nat) (Option.some Jvm.ClassFile.FieldType.char), Jvm.Cond.code ({ cls := "java/lang/String", name := "checkIndex", desc := "(II)V" } : Jvm.MethodName) jdk_42_method_155_code (2 : Nat) (Option.none : Option Jvm.ClassFile.FieldType), Jvm.Cond.code ({ cls := "jdk/internal/util/Preconditions", name := "checkIndex", desc := "(IILjava/util/function/BiFunction;)I" } : Jvm.MethodName) jdk_41_method_11_code (3 : Nat) (Option.some Jvm.ClassFile.FieldType.int), Jvm.Cond.code ({ cls := "java/lang/StringUTF16", name := "toBytes", desc := "([CII)[B" } : Jvm.MethodName) jdk_52_method_14_code (5 : Nat) (Option.some (Jvm.ClassFile.FieldType.array Jvm.ClassFile.FieldType.byte)), Jvm.Cond.code ({ cls := "java/lang/StringUTF16", name := "newBytesFor", desc := "(I)[B" } : Jvm.MethodName) jdk_52_method_2_code (1 : Nat) (Option.some (Jvm.ClassFile.FieldType.array Jvm.ClassFile.FieldType.byte)), Jvm.Cond.code ({ cls := "java/lang/StringUTF16", name := "newBytesLength", desc := "(I)I" } : Jvm.MethodName) jdk_52_method_3_code (1 : Nat) (Option.some Jvm.ClassFile.FieldType.int), Jvm.Cond.code ({ cls := "java/lang/StringUTF16", name := "putChar", desc := "([BII)V" } : Jvm.MethodName) jdk_52_method_4_code (3 : Nat) (Option.none : Option Jvm.ClassFile.FieldType), Jvm.Cond.code ({ cls := "java/lang/StringUTF16", name := "getChar", desc := "([BI)C" } : Jvm.MethodName) jdk_52_method_5_code (2 : Nat) (Option.some Jvm.ClassFile.FieldType.char), Jvm.Cond.code ({ cls := "java/lang/StringUTF16", name := "charAt", desc := "([BI)C" } : Jvm.MethodName) jdk_52_method_83_code (2 : Nat) (Option.some Jvm.ClassFile.FieldType.char), Jvm.Cond.code ({ cls := "java/lang/StringUTF16", name := "checkIndex", desc := "(I[B)V" } : Jvm.MethodName) jdk_52_method_91_code (2 : Nat) (Option.none : Option Jvm.ClassFile.FieldType), Jvm.Cond.code ({ cls := "java/lang/StringUTF16", name := "length", desc := "([B)I" } : Jvm.MethodName) jdk_52_method_6_code (1 : Nat) (Option.some Jvm.ClassFile.FieldType.int), Jvm.Cond.code ({ cls := "com/example/splode/splode/document/CoreSchemaRadixPinLaw", name := "hex", desc := "(C)Z" } : Jvm.MethodName) method_4_code (1 : Nat) (Option.some Jvm.ClassFile.FieldType.boolean), Jvm.Cond.code ({ cls := "com/example/splode/splode/document/CoreSchema", name := "digit", desc := "(CI)Z" } : Jvm.MethodName) prog_6_method_8_code (4 : Nat) (Option.some Jvm.ClassFile.FieldType.boolean), Jvm.Cond.code ({ cls := "com/example/splode/splode/document/CoreSchemaRadixPinLaw", name := "octal", desc := "(C)Z" } : Jvm.MethodName) method_3_code (1 : Nat) (Option.some Jvm.ClassFile.FieldType.boolean)]
set_option maxRecDepth 65536 in
theorem codes_eq : words1.filter isCode = codes1 := rfl
theorem w_codes : ∀ c ∈ words1.filter isCode, c.before args0 about1 = true := by
  rw [codes_eq]
  intro c hc
  simp only [codes1, List.mem_cons, List.not_mem_nil, or_false] at hc
  rcases hc with rfl | rfl | rfl | rfl | rfl | rfl | rfl | rfl | rfl | rfl | rfl | rfl | rfl | rfl | rfl | rfl | rfl | rfl | rfl | rfl | rfl | rfl | rfl | rfl | rfl | rfl | rfl | rfl
  · exact w_c0
  · exact w_c1
  · exact w_c2
  · exact w_c3
  · exact w_c4
  · exact w_c5
  · exact w_c6
  · exact w_c7
  · exact w_c8
  · exact w_c9
  · exact w_c10
  · exact w_c11
  · exact w_c12
  · exact w_c13
  · exact w_c14
  · exact w_c15
  · exact w_c16
  · exact w_c17
  · exact w_c18
  · exact w_c19
  · exact w_c20
  · exact w_c21
  · exact w_c22
  · exact w_c23
  · exact w_c24
  · exact w_c25
  · exact w_c26
  · exact w_c27
set_option maxRecDepth 65536 in
theorem w_t1 : (words1.take 24).all (fun c => isCode c || c.before args0 about1) = true := by decide +kernel
set_option maxRecDepth 65536 in
theorem w_t2 : ((words1.drop 24).take 24).all (fun c => isCode c || c.before args0 about1) = true := by decide +kernel
set_option maxRecDepth 65536 in
theorem w_t3 : (((words1.drop 24).drop 24).take 24).all (fun c => isCode c || c.before args0 about1) = true := by decide +kernel
set_option maxRecDepth 65536 in
theorem w_t4 : ((((words1.drop 24).drop 24).drop 24).take 24).all (fun c => isCode c || c.before args0 about1) = true := by decide +kernel
set_option maxRecDepth 65536 in
theorem w_t5 : ((((words1.drop 24).drop 24).drop 24).drop 24).all (fun c => isCode c || c.before args0 about1) = true := by decide +kernel
theorem w_tables : (allAtoms (Jvm.Cond.code x code maxLocals ret :: tables_1)).before args0 about1 = true := by
  rw [allAtoms_all]
  show words1.all (fun c => c.before args0 about1) = true
  refine all_split ?_ w_codes
  rw [← List.take_append_drop 24 words1, List.all_append, w_t1, ← List.take_append_drop 24 (words1.drop 24), List.all_append, w_t2, ← List.take_append_drop 24 ((words1.drop 24).drop 24), List.all_append, w_t3, ← List.take_append_drop 24 (((words1.drop 24).drop 24).drop 24), List.all_append, w_t4, w_t5]
  rfl
set_option maxRecDepth 65536 in
theorem w_rest : rest_1_c.before args0 about1 = true := by decide +kernel
set_option maxRecDepth 65536 in
theorem w_case : (Jvm.Cond.and given_1 narrow_1).before args0 about1 = true := by decide +kernel
set_option maxRecDepth 65536 in
theorem w_consts : constsHeld consts_1 about1 := Jvm.Lit.constsHeldB_iff.mp (by decide +kernel)
theorem w_applies : (headSpec (Jvm.Cond.code x code maxLocals ret :: tables_1) room_1).applies x e0.platform about1 = true :=
  (Spec.applies_iff w_frames).mpr ⟨w_running, w_runnable, w_alone, w_named, w_hears, w_ripe, w_room, w_tables⟩
theorem atStart : AtStart classFile x code maxLocals ret World_1 tables_1 room_1 Calls_1 rest_1 Pre_1 launch0 p0 e0 about1 theMethod args0 below0 :=
  ⟨lists_1, trivial, launch0.admits_env _ _ _, launch0.least_env, fairChoices_fair.cas, fairChoices_fair.clock, w_frames, w_args, w_heap, w_applies, ⟨w_consts, trivial⟩, w_rest, w_case⟩
end start1
theorem witness_1 : WitnessClaimed_1 := ⟨start1.p0, start1.e0, start1.about1, start1.theMethod, start1.args0, start1.below0, start1.atStart⟩
end Jvm.Pilot.@@N@@
