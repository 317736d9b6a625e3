import JvmDerived
import JvmDerived.Pilot.@@N@@Statement
import JvmDerived.Pilot.@@N@@Code
set_option linter.unusedVariables false
set_option linter.unusedSimpArgs false
@@BLOCK:NumsL.lean.txt@@
namespace Jvm.RoadKit
open Sem ClassFile Op Lib Jvm.Stand Jvm.Free Jvm.LawKit
section New
variable {p : Program} {l : Launch} {e : Env} {R : Room} {s : State} {m : MethodId} {args : Array Value} {below : List Frame} {meth : Method} {c : Code} {T : State} {locs : List Loc} {cells slots : Nat}
theorem retI (X : Stand p l e R s m args below meth c T locs cells slots) (hx : p.tables.exec = Jvm.exec) {pc : Nat} {Ls : Array Slot} {z : Int32} {rest : List Value} (hret : meth.sig.returnType = some .int) (hd : decode c.code pc = .ok (.ireturn, 1)) {fs : List Frame}
    (hl : ∀ (f : JFrame) (acts : List Action), f.method = m → f.locked = none → f.entered = [] → (doReturn e (T.setTop f) acts (some (.int z))).1 = T.setFrames fs) : Steps p.tables e below (T.setTop (mkF m pc Ls (.int z :: rest))) (T.setFrames fs) :=
  retOut X hx hret rfl (Or.inl ⟨rfl, Or.inl rfl, z, rfl⟩) hd hl
theorem retJ (X : Stand p l e R s m args below meth c T locs cells slots) (hx : p.tables.exec = Jvm.exec) {pc : Nat} {Ls : Array Slot} {z : Int64} {rest : List Value} (hret : meth.sig.returnType = some .long) (hd : decode c.code pc = .ok (.lreturn, 1)) {fs : List Frame}
    (hl : ∀ (f : JFrame) (acts : List Action), f.method = m → f.locked = none → f.entered = [] → (doReturn e (T.setTop f) acts (some (.long z))).1 = T.setFrames fs) : Steps p.tables e below (T.setTop (mkF m pc Ls (.long z :: rest))) (T.setFrames fs) :=
  retOut X hx hret rfl (Or.inr (Or.inl ⟨rfl, rfl, z, rfl⟩)) hd hl
theorem retA (X : Stand p l e R s m args below meth c T locs cells slots) (hx : p.tables.exec = Jvm.exec) {pc : Nat} {Ls : Array Slot} {w : Value} {t : FieldType} {rest : List Value} (hret : meth.sig.returnType = some t) (hn : narrow t w = w) (ht : t.isReference = true ∧ w.isRef = true) (hd : decode c.code pc = .ok (.areturn, 1)) {fs : List Frame}
    (hl : ∀ (f : JFrame) (acts : List Action), f.method = m → f.locked = none → f.entered = [] → (doReturn e (T.setTop f) acts (some w)).1 = T.setFrames fs) : Steps p.tables e below (T.setTop (mkF m pc Ls (w :: rest))) (T.setFrames fs) :=
  retOut X hx hret hn (Or.inr (Or.inr (Or.inr (Or.inr ⟨rfl, ht.1, ht.2⟩)))) hd hl
def Go (p : Program) (e : Env) (below : List Frame) (T : State) (f : JFrame) (Post : Outcome → State → Prop) : Prop :=
  ∃ s₂ o, Steps p.tables e below (T.setTop f) s₂ ∧ s₂.status = .running ∧ Ended s₂ below o ∧ Post o s₂
theorem Go.by {T T' : State} {f f' : JFrame} {Post : Outcome → State → Prop} (st : ∀ t, Steps p.tables e below (T'.setTop f') t → Steps p.tables e below (T.setTop f) t) (k : Go p e below T' f' Post) : Go p e below T f Post := by
  obtain ⟨s2, o, a, b⟩ := k
  exact ⟨s2, o, st _ a, b⟩
theorem Go.start {T : State} {f g : JFrame} {Post : Outcome → State → Prop} (q : f = g) (k : Go p e below T g Post) : ∃ s₂ o, Steps p.tables e below (T.setTop f) s₂ ∧ s₂.status = .running ∧ Ended s₂ below o ∧ Post o s₂ := by
  subst q; exact k
theorem Go.done {T s₂ : State} {f : JFrame} {o : Outcome} {Post : Outcome → State → Prop} (a : Steps p.tables e below (T.setTop f) s₂) (b : s₂.status = .running) (c : Ended s₂ below o) (d : Post o s₂) : Go p e below T f Post := ⟨s₂, o, a, b, c, d⟩
def own_ushr (x y : Int32) : Int32 := (x.toUInt32 >>> (y &&& 31).toUInt32).toInt32
def own_ushrL (x : Int64) (y : Int32) : Int64 := (x.toUInt64 >>> (y &&& 63).toInt64.toUInt64).toInt64
theorem own_cmpV (x y : Int64) : lcmpW x y = lcmpV x y := lcW x y
theorem own_holdsLt (z : Int32) : ifCond.holds .lt z = decide (z < 0) := rfl
theorem own_holdsGe (z : Int32) : ifCond.holds .ge z = decide (z ≥ 0) := rfl
theorem own_holdsGt (z : Int32) : ifCond.holds .gt z = decide (z > 0) := rfl
theorem own_holdsLe (z : Int32) : ifCond.holds .le z = decide (z ≤ 0) := rfl
theorem own_holdsEq (z : Int32) : ifCond.holds .eq z = (z == 0) := rfl
theorem own_holdsNe (z : Int32) : ifCond.holds .ne z = (z != 0) := rfl
theorem ctlt {x y : Int64} (h : x < y) : ifCond.holds .lt (lcmpW x y) = true ∧ ifCond.holds .ge (lcmpW x y) = false ∧ ifCond.holds .gt (lcmpW y x) = true ∧ ifCond.holds .le (lcmpW y x) = false := by
  rw [own_holdsLt, own_holdsGe, own_holdsGt, own_holdsLe, own_cmpV, own_cmpV]
  refine ⟨decide_eq_true ((lc_lt x y).mpr h), decide_eq_false fun q => ?_, decide_eq_true ((lc_gt y x).mpr h), decide_eq_false fun q => ?_⟩
  · exact Int64.not_le.mpr h ((lc_ge x y).mp q)
  · exact Int64.not_le.mpr h ((lc_le y x).mp q)
theorem cflt {x y : Int64} (h : ¬ x < y) : ifCond.holds .lt (lcmpW x y) = false ∧ ifCond.holds .ge (lcmpW x y) = true ∧ ifCond.holds .gt (lcmpW y x) = false ∧ ifCond.holds .le (lcmpW y x) = true := by
  rw [own_holdsLt, own_holdsGe, own_holdsGt, own_holdsLe, own_cmpV, own_cmpV]
  exact ⟨decide_eq_false fun q => h ((lc_lt x y).mp q), decide_eq_true ((lc_ge x y).mpr (Int64.not_lt.mp h)), decide_eq_false fun q => h ((lc_gt y x).mp q), decide_eq_true ((lc_le y x).mpr (Int64.not_lt.mp h))⟩
theorem cteq {x y : Int64} (h : x = y) : ifCond.holds .eq (lcmpW x y) = true ∧ ifCond.holds .ne (lcmpW x y) = false := by
  rw [own_holdsEq, own_holdsNe, own_cmpV, (lc_eq x y).mpr h]; exact ⟨rfl, rfl⟩
theorem cfeq {x y : Int64} (h : ¬ x = y) : ifCond.holds .eq (lcmpW x y) = false ∧ ifCond.holds .ne (lcmpW x y) = true := by
  have q : ¬ lcmpV x y = 0 := fun r => h ((lc_eq x y).mp r)
  rw [own_holdsEq, own_holdsNe, own_cmpV]
  exact ⟨beq_false_of_ne q, bne_iff_ne.mpr q⟩
theorem Arr.keep {Z : State} {h h' : Heap} {a : Addr} {cl : Cell} {ty : FieldType} {ws : List Addr} (F : Arr Z h a cl ty) (K : Keep h h' ws) (q : a ∉ ws) : Arr Z h' a cl ty := ⟨K.2.1 a cl F.1 q, F.2⟩
theorem own_selPriv {y : MethodName} {s : State} {args : Array Value} {n : Nat} (hy : y.cls ≠ "java/lang/invoke/MethodHandle" ∧ y.cls ≠ "java/lang/invoke/VarHandle") (hins : (Cond.instantiable y.cls n).before args s = true) (hpriv : (Cond.privateMethod y).before args s = true) (hinst : (Cond.instanceMethod y).before args s = true) :
    (Cond.selects y.cls y y).before args s = true := by
  obtain ⟨c, k, hc, hk, -, hniab, -, -⟩ := Cond.instantiable_spec hins
  have hni : k.isInterface = false := (Bool.or_eq_false_iff.mp hniab).1
  obtain ⟨mk, methM, hnamed, hmethM, -, -⟩ := Cond.instanceMethod_spec hinst
  have hfound : s.methodFound? y.cls y.name y.desc = some mk := State.methodFound?_of_named hnamed hy
  have hcls : mk.cls = c := Option.some.inj ((findClass_of_methodNamed hnamed).symm.trans hc)
  have hsel : selectMethod {} s.vm c mk = .method mk := selectMethod_private hmethM (Cond.privateMethod_at hpriv mk methM hnamed hmethM)
  simp only [Cond.before, Cond.holds, Cond.value, hc, hfound, hnamed, hsel, hcls, hk]
  simp; exact hni
end New
end Jvm.RoadKit
namespace Jvm.Pilot.@@N@@
open Jvm Jvm.ClassFile Sem Op Lib Jvm.Free Jvm.Stand Jvm.LawKit Jvm.RoadKit Bundle Jvm.Pilot.@@N@@.Jvm.D
theorem d1_0 : decode prog_13_method_1_code 0 = .ok (.aload_n 0, 1) := by decide +kernel
theorem d1_1 : decode prog_13_method_1_code 1 = .ok (.invokespecial 1, 3) := by decide +kernel
theorem d1_4 : decode prog_13_method_1_code 4 = .ok (.iload_n 3, 1) := by decide +kernel
theorem d1_5 : decode prog_13_method_1_code 5 = .ok (.iconst 1, 1) := by decide +kernel
theorem d1_6 : decode prog_13_method_1_code 6 = .ok (.if_icmp .lt 20, 3) := by decide +kernel
theorem d1_9 : decode prog_13_method_1_code 9 = .ok (.iload_n 3, 1) := by decide +kernel
theorem d1_10 : decode prog_13_method_1_code 10 = .ok (.bipush 30, 2) := by decide +kernel
theorem d1_12 : decode prog_13_method_1_code 12 = .ok (.if_icmp .gt 14, 3) := by decide +kernel
theorem d1_15 : decode prog_13_method_1_code 15 = .ok (.lload 4, 2) := by decide +kernel
theorem d1_17 : decode prog_13_method_1_code 17 = .ok (.lconst 1, 1) := by decide +kernel
theorem d1_18 : decode prog_13_method_1_code 18 = .ok (.lcmp, 1) := by decide +kernel
theorem d1_19 : decode prog_13_method_1_code 19 = .ok (.ifCond .lt 7, 3) := by decide +kernel
theorem d1_22 : decode prog_13_method_1_code 22 = .ok (.iconst 1, 1) := by decide +kernel
theorem d1_23 : decode prog_13_method_1_code 23 = .ok (.goto 4, 3) := by decide +kernel
theorem d1_27 : decode prog_13_method_1_code 27 = .ok (.istore 6, 2) := by decide +kernel
theorem d1_29 : decode prog_13_method_1_code 29 = .ok (.iload 6, 2) := by decide +kernel
theorem d1_31 : decode prog_13_method_1_code 31 = .ok (.ifCond .eq 27, 3) := by decide +kernel
theorem d1_34 : decode prog_13_method_1_code 34 = .ok (.lload 4, 2) := by decide +kernel
theorem d1_36 : decode prog_13_method_1_code 36 = .ok (.ldc2_w 11, 3) := by decide +kernel
theorem d1_39 : decode prog_13_method_1_code 39 = .ok (.iload_n 3, 1) := by decide +kernel
theorem d1_40 : decode prog_13_method_1_code 40 = .ok (.iconst 1, 1) := by decide +kernel
theorem d1_41 : decode prog_13_method_1_code 41 = .ok (.isub, 1) := by decide +kernel
theorem d1_42 : decode prog_13_method_1_code 42 = .ok (.lshr, 1) := by decide +kernel
theorem d1_43 : decode prog_13_method_1_code 43 = .ok (.lcmp, 1) := by decide +kernel
theorem d1_44 : decode prog_13_method_1_code 44 = .ok (.ifCond .gt 14, 3) := by decide +kernel
theorem d1_47 : decode prog_13_method_1_code 47 = .ok (.lload 4, 2) := by decide +kernel
theorem d1_49 : decode prog_13_method_1_code 49 = .ok (.iload_n 3, 1) := by decide +kernel
theorem d1_50 : decode prog_13_method_1_code 50 = .ok (.iconst 1, 1) := by decide +kernel
theorem d1_51 : decode prog_13_method_1_code 51 = .ok (.isub, 1) := by decide +kernel
theorem d1_52 : decode prog_13_method_1_code 52 = .ok (.lshl, 1) := by decide +kernel
theorem d1_53 : decode prog_13_method_1_code 53 = .ok (.lload_n 1, 1) := by decide +kernel
theorem d1_54 : decode prog_13_method_1_code 54 = .ok (.lcmp, 1) := by decide +kernel
theorem d1_55 : decode prog_13_method_1_code 55 = .ok (.ifCond .ge 20, 3) := by decide +kernel
theorem d1_75 : decode prog_13_method_1_code 75 = .ok (.aload_n 0, 1) := by decide +kernel
theorem d1_76 : decode prog_13_method_1_code 76 = .ok (.lload_n 1, 1) := by decide +kernel
theorem d1_77 : decode prog_13_method_1_code 77 = .ok (.putfield 22, 3) := by decide +kernel
theorem d1_80 : decode prog_13_method_1_code 80 = .ok (.aload_n 0, 1) := by decide +kernel
theorem d1_81 : decode prog_13_method_1_code 81 = .ok (.iload_n 3, 1) := by decide +kernel
theorem d1_82 : decode prog_13_method_1_code 82 = .ok (.putfield 26, 3) := by decide +kernel
theorem d1_85 : decode prog_13_method_1_code 85 = .ok (.aload_n 0, 1) := by decide +kernel
theorem d1_86 : decode prog_13_method_1_code 86 = .ok (.lload 4, 2) := by decide +kernel
theorem d1_88 : decode prog_13_method_1_code 88 = .ok (.putfield 30, 3) := by decide +kernel
theorem d1_91 : decode prog_13_method_1_code 91 = .ok (.return_, 1) := by decide +kernel
theorem pn_0 : plainName "com/example/huangpu/huangpu/synopsis/AggregateTree" = true := by first | (simp [plainName, overriddenIn]; done) | decide +kernel
theorem ef_1 (m : MethodId) (x0 : Addr) (x1 : Int64) (x2 : Int32) (x3 : Int64) : entryFrame m #[(.ref x0), (.long x1), (.int x2), (.long x3)] 7 = mkF m 0 #[.val (.ref x0), .val (.long x1), .second, .val (.int x2), .val (.long x3), .second, .unset] [] := by first | (simp [entryFrame, mkF, argsToLocals, Value.category]; done) | rfl
def Q1 (Z : State) (a1 : Addr) (q2 : Int64) (p3 : Int32) (q4 : Int64) (u_mUnitMillis : Value) (u_mLevels : Value) (u_mLeafMillis : Value) (h0 : Heap) (n0 : Nat) (v : Option Value) (h : Heap) (L : List Loc) : Prop := v = none ∧ Fr n0 L ∧ Keep h0 h [a1] ∧ Exa Z h a1 "com/example/huangpu/huangpu/synopsis/AggregateTree" ∧ Fld Z h a1 "com/example/huangpu/huangpu/synopsis/AggregateTree" "mUnitMillis" "J" (.long q2) ∧ Fld Z h a1 "com/example/huangpu/huangpu/synopsis/AggregateTree" "mLevels" "I" (.int p3) ∧ Fld Z h a1 "com/example/huangpu/huangpu/synopsis/AggregateTree" "mLeafMillis" "J" (.long q4)
set_option maxRecDepth 65536 in
set_option maxHeartbeats 40000000 in
theorem rm1 (l : Launch) (Z : State) (a0 : Array Value) (hw : ∀ d ∈ tables_1, d.before a0 Z = true) (ws : List Jvm.Cond) (a1 : Addr) (q2 : Int64) (p3 : Int32) (q4 : Int64) (u_mUnitMillis : Value) (u_mLevels : Value) (u_mLeafMillis : Value) (h0 : Heap) (n0 : Nat) (Z0 : n0 ≤ h0.size) (E1 : Exa Z h0 a1 "com/example/huangpu/huangpu/synopsis/AggregateTree") (F_mUnitMillis : Fld Z h0 a1 "com/example/huangpu/huangpu/synopsis/AggregateTree" "mUnitMillis" "J" u_mUnitMillis) (F_mLevels : Fld Z h0 a1 "com/example/huangpu/huangpu/synopsis/AggregateTree" "mLevels" "I" u_mLevels) (F_mLeafMillis : Fld Z h0 a1 "com/example/huangpu/huangpu/synopsis/AggregateTree" "mLeafMillis" "J" u_mLeafMillis) (g1 : n0 ≤ a1) (hp1 : ¬ p3 < (1 : Int32)) (hp2 : ¬ (30 : Int32) < p3) (hp3 : ¬ q4 < (1 : Int64)) (hp4 : ¬ ((9223372036854775807 : Int64) >>> ((p3 - (1 : Int32)) &&& 63).toInt64) < q4) (hp5 : ¬ (q4 <<< ((p3 - (1 : Int32)) &&& 63).toInt64) < q2) :
    MetFree l (⟨"com/example/huangpu/huangpu/synopsis/AggregateTree", "<init>", "(JIJ)V"⟩ : MethodName) (head1 (Jvm.Cond.code (⟨"com/example/huangpu/huangpu/synopsis/AggregateTree", "<init>", "(JIJ)V"⟩ : MethodName) prog_13_method_1_code 7 none :: ws) ({ frames := 1, cells := 0, slots := 0, locals := 12 } : Room)) (fun a U => a = #[(.ref a1), (.long q2), (.int p3), (.long q4)] ∧ Z.Warmed39 U.vm ∧ U.heap = h0) (fun _ _ _ _ _ => True) (fun _ U o U' => ∃ v L, o = .returned v ∧ Q1 Z a1 q2 p3 q4 u_mUnitMillis u_mLevels u_mLeafMillis h0 n0 v U'.heap L ∧ FrameEnd U o U' L ({ frames := 1, cells := 0, slots := 0, locals := 12 } : Room).cells ({ frames := 1, cells := 0, slots := 0, locals := 12 } : Room).slots) := by
  refine MetFree.of_bodySF (plainFor_of_name pn_0) hisR ?_
  intro p e s m args below meth c s₁ Bd hml0 hP hK
  obtain ⟨rfl, hZ, hh⟩ := hP
  have hx := Bd.exec
  have hby := Bd.bytes
  have hml : c.maxLocals = 7 := hml0
  have hown : s.vm.findClass "com/example/huangpu/huangpu/synopsis/AggregateTree" = some m.cls := findClass_of_methodNamed Bd.named
  have hnm := (name_of_methodNamed Bd.named Bd.method).1
  have X0 : Stand p l e ({ frames := 1, cells := 0, slots := 0, locals := 12 } : Room) s m #[(.ref a1), (.long q2), (.int p3), (.long q4)] below meth c s₁ [] 0 0 := Stand.of_body Bd
  have e0 : s₁.heap = h0 := by rw [← hh, Bd.state]; rfl
  have N0 := Fr.nil n0
  refine Go.start (ef_1 m a1 q2 p3 q4) ?_
  show Go p e below s₁ (mkF m 0 #[.val (.ref a1), .val (.long q2), .second, .val (.int p3), .val (.long q4), .second, .unset] []) _
  have K0 := Keep.refl h0 [a1]
  refine Go.by (fun t k => XS.aloadN X0.here hx rfl (hb hby d1_0) rfl rfl k) ?_
  show Go p e below s₁ (mkF m 1 #[.val (.ref a1), .val (.long q2), .second, .val (.int p3), .val (.long q4), .second, .unset] [(.ref a1)]) _
  obtain ⟨T1, X1, e1, st1⟩ := initO X0 hx hZ hown (hw _ (List.mem_of_getElem? (i := 8) rfl)) (hw _ (List.mem_of_getElem? (i := 9) rfl)) (hw _ (List.mem_of_getElem? (i := 10) rfl)) e0 (g := (mkF m 1 #[.val (.ref a1), .val (.long q2), .second, .val (.int p3), .val (.long q4), .second, .unset] [(.ref a1)])) rfl (by rw [hml]; rfl) rfl (hb hby d1_1) (by decide) (W := 0) (by show 2 * 0 + _ ≤ _; exact Nat.le_of_eq rfl) (by decide)
  refine Go.by st1 ?_
  show Go p e below T1 (mkF m 4 #[.val (.ref a1), .val (.long q2), .second, .val (.int p3), .val (.long q4), .second, .unset] []) _
  refine Go.by (fun t k => XS.iloadN X1.here hx rfl (hb hby d1_4) rfl k) ?_
  show Go p e below T1 (mkF m 5 #[.val (.ref a1), .val (.long q2), .second, .val (.int p3), .val (.long q4), .second, .unset] [(.int p3)]) _
  refine Go.by (fun t k => XS.iconst X1.here hx rfl (hb hby d1_5) k) ?_
  show Go p e below T1 (mkF m 6 #[.val (.ref a1), .val (.long q2), .second, .val (.int p3), .val (.long q4), .second, .unset] [(.int (1 : Int32)), (.int p3)]) _
  refine Go.by (fun t k => XS.icmpNo X1.here hx rfl (hb hby d1_6) rfl (flt (show ¬ (p3 < (1 : Int32)) from hp1)).1 k) ?_
  show Go p e below T1 (mkF m 9 #[.val (.ref a1), .val (.long q2), .second, .val (.int p3), .val (.long q4), .second, .unset] []) _
  refine Go.by (fun t k => XS.iloadN X1.here hx rfl (hb hby d1_9) rfl k) ?_
  show Go p e below T1 (mkF m 10 #[.val (.ref a1), .val (.long q2), .second, .val (.int p3), .val (.long q4), .second, .unset] [(.int p3)]) _
  refine Go.by (fun t k => XS.bipush X1.here hx rfl (hb hby d1_10) k) ?_
  show Go p e below T1 (mkF m 12 #[.val (.ref a1), .val (.long q2), .second, .val (.int p3), .val (.long q4), .second, .unset] [(.int (30 : Int32)), (.int p3)]) _
  refine Go.by (fun t k => XS.icmpNo X1.here hx rfl (hb hby d1_12) rfl (flt (show ¬ ((30 : Int32) < p3) from hp2)).2.2.1 k) ?_
  show Go p e below T1 (mkF m 15 #[.val (.ref a1), .val (.long q2), .second, .val (.int p3), .val (.long q4), .second, .unset] []) _
  refine Go.by (fun t k => XS.lload X1.here hx rfl (hb hby d1_15) rfl k) ?_
  show Go p e below T1 (mkF m 17 #[.val (.ref a1), .val (.long q2), .second, .val (.int p3), .val (.long q4), .second, .unset] [(.long q4)]) _
  refine Go.by (fun t k => XS.lconst X1.here hx rfl (hb hby d1_17) k) ?_
  show Go p e below T1 (mkF m 18 #[.val (.ref a1), .val (.long q2), .second, .val (.int p3), .val (.long q4), .second, .unset] [(.long (1 : Int64)), (.long q4)]) _
  refine Go.by (fun t k => XS.lcmp X1.here hx rfl (hb hby d1_18) rfl k) ?_
  show Go p e below T1 (mkF m 19 #[.val (.ref a1), .val (.long q2), .second, .val (.int p3), .val (.long q4), .second, .unset] [(.int (lcmpW q4 (1 : Int64)))]) _
  refine Go.by (fun t k => XS.ifNo X1.here hx rfl (hb hby d1_19) rfl (cflt (show ¬ (q4 < (1 : Int64)) from hp3)).1 k) ?_
  show Go p e below T1 (mkF m 22 #[.val (.ref a1), .val (.long q2), .second, .val (.int p3), .val (.long q4), .second, .unset] []) _
  refine Go.by (fun t k => XS.iconst X1.here hx rfl (hb hby d1_22) k) ?_
  show Go p e below T1 (mkF m 23 #[.val (.ref a1), .val (.long q2), .second, .val (.int p3), .val (.long q4), .second, .unset] [(.int (1 : Int32))]) _
  refine Go.by (fun t k => XS.goto X1.here hx rfl (pc0 := 23) (pc' := 27) rfl (hb hby d1_23) (by decide) (by decide) k) ?_
  show Go p e below T1 (mkF m 27 #[.val (.ref a1), .val (.long q2), .second, .val (.int p3), .val (.long q4), .second, .unset] [(.int (1 : Int32))]) _
  refine Go.by (fun t k => XS.istore X1.here hx rfl (hb hby d1_27) rfl (l' := #[.val (.ref a1), .val (.long q2), .second, .val (.int p3), .val (.long q4), .second, .val (.int (1 : Int32))]) rfl k) ?_
  show Go p e below T1 (mkF m 29 #[.val (.ref a1), .val (.long q2), .second, .val (.int p3), .val (.long q4), .second, .val (.int (1 : Int32))] []) _
  refine Go.by (fun t k => XS.iload X1.here hx rfl (hb hby d1_29) rfl k) ?_
  show Go p e below T1 (mkF m 31 #[.val (.ref a1), .val (.long q2), .second, .val (.int p3), .val (.long q4), .second, .val (.int (1 : Int32))] [(.int (1 : Int32))]) _
  refine Go.by (fun t k => XS.ifNo X1.here hx rfl (hb hby d1_31) rfl ((if0 _ _).trans (feq (show ¬ ((1 : Int32) = (0 : Int32)) from (by decide))).1) k) ?_
  show Go p e below T1 (mkF m 34 #[.val (.ref a1), .val (.long q2), .second, .val (.int p3), .val (.long q4), .second, .val (.int (1 : Int32))] []) _
  refine Go.by (fun t k => XS.lload X1.here hx rfl (hb hby d1_34) rfl k) ?_
  show Go p e below T1 (mkF m 36 #[.val (.ref a1), .val (.long q2), .second, .val (.int p3), .val (.long q4), .second, .val (.int (1 : Int32))] [(.long q4)]) _
  refine Go.by (fun t k => X1.ldc2Long hx hown (mvT hZ (hw _ (List.mem_of_getElem? (i := 11) rfl))) (g := (mkF m 36 #[.val (.ref a1), .val (.long q2), .second, .val (.int p3), .val (.long q4), .second, .val (.int (1 : Int32))] [(.long q4)])) rfl (hb hby d1_36) t k) ?_
  show Go p e below T1 (mkF m 39 #[.val (.ref a1), .val (.long q2), .second, .val (.int p3), .val (.long q4), .second, .val (.int (1 : Int32))] [(.long (9223372036854775807 : Int64)), (.long q4)]) _
  refine Go.by (fun t k => XS.iloadN X1.here hx rfl (hb hby d1_39) rfl k) ?_
  show Go p e below T1 (mkF m 40 #[.val (.ref a1), .val (.long q2), .second, .val (.int p3), .val (.long q4), .second, .val (.int (1 : Int32))] [(.int p3), (.long (9223372036854775807 : Int64)), (.long q4)]) _
  refine Go.by (fun t k => XS.iconst X1.here hx rfl (hb hby d1_40) k) ?_
  show Go p e below T1 (mkF m 41 #[.val (.ref a1), .val (.long q2), .second, .val (.int p3), .val (.long q4), .second, .val (.int (1 : Int32))] [(.int (1 : Int32)), (.int p3), (.long (9223372036854775807 : Int64)), (.long q4)]) _
  refine Go.by (fun t k => XS.isub X1.here hx rfl (hb hby d1_41) rfl k) ?_
  show Go p e below T1 (mkF m 42 #[.val (.ref a1), .val (.long q2), .second, .val (.int p3), .val (.long q4), .second, .val (.int (1 : Int32))] [(.int (p3 - (1 : Int32))), (.long (9223372036854775807 : Int64)), (.long q4)]) _
  refine Go.by (fun t k => XS.lshr X1.here hx rfl (hb hby d1_42) rfl k) ?_
  show Go p e below T1 (mkF m 43 #[.val (.ref a1), .val (.long q2), .second, .val (.int p3), .val (.long q4), .second, .val (.int (1 : Int32))] [(.long ((9223372036854775807 : Int64) >>> ((p3 - (1 : Int32)) &&& 63).toInt64)), (.long q4)]) _
  refine Go.by (fun t k => XS.lcmp X1.here hx rfl (hb hby d1_43) rfl k) ?_
  show Go p e below T1 (mkF m 44 #[.val (.ref a1), .val (.long q2), .second, .val (.int p3), .val (.long q4), .second, .val (.int (1 : Int32))] [(.int (lcmpW q4 ((9223372036854775807 : Int64) >>> ((p3 - (1 : Int32)) &&& 63).toInt64)))]) _
  refine Go.by (fun t k => XS.ifNo X1.here hx rfl (hb hby d1_44) rfl (cflt (show ¬ (((9223372036854775807 : Int64) >>> ((p3 - (1 : Int32)) &&& 63).toInt64) < q4) from hp4)).2.2.1 k) ?_
  show Go p e below T1 (mkF m 47 #[.val (.ref a1), .val (.long q2), .second, .val (.int p3), .val (.long q4), .second, .val (.int (1 : Int32))] []) _
  refine Go.by (fun t k => XS.lload X1.here hx rfl (hb hby d1_47) rfl k) ?_
  show Go p e below T1 (mkF m 49 #[.val (.ref a1), .val (.long q2), .second, .val (.int p3), .val (.long q4), .second, .val (.int (1 : Int32))] [(.long q4)]) _
  refine Go.by (fun t k => XS.iloadN X1.here hx rfl (hb hby d1_49) rfl k) ?_
  show Go p e below T1 (mkF m 50 #[.val (.ref a1), .val (.long q2), .second, .val (.int p3), .val (.long q4), .second, .val (.int (1 : Int32))] [(.int p3), (.long q4)]) _
  refine Go.by (fun t k => XS.iconst X1.here hx rfl (hb hby d1_50) k) ?_
  show Go p e below T1 (mkF m 51 #[.val (.ref a1), .val (.long q2), .second, .val (.int p3), .val (.long q4), .second, .val (.int (1 : Int32))] [(.int (1 : Int32)), (.int p3), (.long q4)]) _
  refine Go.by (fun t k => XS.isub X1.here hx rfl (hb hby d1_51) rfl k) ?_
  show Go p e below T1 (mkF m 52 #[.val (.ref a1), .val (.long q2), .second, .val (.int p3), .val (.long q4), .second, .val (.int (1 : Int32))] [(.int (p3 - (1 : Int32))), (.long q4)]) _
  refine Go.by (fun t k => XS.lshl X1.here hx rfl (hb hby d1_52) rfl k) ?_
  show Go p e below T1 (mkF m 53 #[.val (.ref a1), .val (.long q2), .second, .val (.int p3), .val (.long q4), .second, .val (.int (1 : Int32))] [(.long (q4 <<< ((p3 - (1 : Int32)) &&& 63).toInt64))]) _
  refine Go.by (fun t k => XS.lloadN X1.here hx rfl (hb hby d1_53) rfl k) ?_
  show Go p e below T1 (mkF m 54 #[.val (.ref a1), .val (.long q2), .second, .val (.int p3), .val (.long q4), .second, .val (.int (1 : Int32))] [(.long q2), (.long (q4 <<< ((p3 - (1 : Int32)) &&& 63).toInt64))]) _
  refine Go.by (fun t k => XS.lcmp X1.here hx rfl (hb hby d1_54) rfl k) ?_
  show Go p e below T1 (mkF m 55 #[.val (.ref a1), .val (.long q2), .second, .val (.int p3), .val (.long q4), .second, .val (.int (1 : Int32))] [(.int (lcmpW (q4 <<< ((p3 - (1 : Int32)) &&& 63).toInt64) q2))]) _
  refine Go.by (fun t k => XS.ifYes X1.here hx rfl (pc0 := 55) (pc' := 75) rfl (hb hby d1_55) rfl (cflt (show ¬ ((q4 <<< ((p3 - (1 : Int32)) &&& 63).toInt64) < q2) from hp5)).2.1 (by decide) (by decide) k) ?_
  show Go p e below T1 (mkF m 75 #[.val (.ref a1), .val (.long q2), .second, .val (.int p3), .val (.long q4), .second, .val (.int (1 : Int32))] []) _
  refine Go.by (fun t k => XS.aloadN X1.here hx rfl (hb hby d1_75) rfl rfl k) ?_
  show Go p e below T1 (mkF m 76 #[.val (.ref a1), .val (.long q2), .second, .val (.int p3), .val (.long q4), .second, .val (.int (1 : Int32))] [(.ref a1)]) _
  refine Go.by (fun t k => XS.lloadN X1.here hx rfl (hb hby d1_76) rfl k) ?_
  show Go p e below T1 (mkF m 77 #[.val (.ref a1), .val (.long q2), .second, .val (.int p3), .val (.long q4), .second, .val (.int (1 : Int32))] [(.long q2), (.ref a1)]) _
  obtain ⟨T2, h2, X2, e2, W2, st2⟩ := putF X1 hx hZ hown (host := "") (Or.inl (hw _ (List.mem_of_getElem? (i := 12) rfl))) Via.refl e1 F_mUnitMillis E1 (Or.inr ⟨(hw _ (List.mem_of_getElem? (i := 13) rfl)), rfl, hnm⟩) (hw _ (List.mem_of_getElem? (i := 3) rfl)) (ty := .long) (by decide) rfl rfl (g := (mkF m 77 #[.val (.ref a1), .val (.long q2), .second, .val (.int p3), .val (.long q4), .second, .val (.int (1 : Int32))] [(.long q2), (.ref a1)])) rfl rfl (hb hby d1_77)
  have F2 := F_mUnitMillis.same W2
  have N2 := Fr.snoc X2 N0 g1
  have Z2 : n0 ≤ h2.size := by rw [W2.size]; exact Z0
  have K2 := K0.wr W2 (Or.inl (List.mem_of_getElem? (i := 0) rfl))
  refine Go.by st2 ?_
  show Go p e below T2 (mkF m 80 #[.val (.ref a1), .val (.long q2), .second, .val (.int p3), .val (.long q4), .second, .val (.int (1 : Int32))] []) _
  refine Go.by (fun t k => XS.aloadN X2.here hx rfl (hb hby d1_80) rfl rfl k) ?_
  show Go p e below T2 (mkF m 81 #[.val (.ref a1), .val (.long q2), .second, .val (.int p3), .val (.long q4), .second, .val (.int (1 : Int32))] [(.ref a1)]) _
  refine Go.by (fun t k => XS.iloadN X2.here hx rfl (hb hby d1_81) rfl k) ?_
  show Go p e below T2 (mkF m 82 #[.val (.ref a1), .val (.long q2), .second, .val (.int p3), .val (.long q4), .second, .val (.int (1 : Int32))] [(.int p3), (.ref a1)]) _
  have fa3 := F_mLevels.other W2 (Or.inr (slot_ne (Or.inr (hw _ (List.mem_of_getElem? (i := 15) rfl))) (Or.inr (hw _ (List.mem_of_getElem? (i := 13) rfl))) (by decide) (t := .int) (t' := .long) (by decide) (by decide)))
  have fa4 := E1.wr W2
  obtain ⟨T5, h5, X5, e5, W5, st5⟩ := putF X2 hx hZ hown (host := "") (Or.inl (hw _ (List.mem_of_getElem? (i := 14) rfl))) Via.refl e2 fa3 fa4 (Or.inr ⟨(hw _ (List.mem_of_getElem? (i := 15) rfl)), rfl, hnm⟩) (hw _ (List.mem_of_getElem? (i := 3) rfl)) (ty := .int) (by decide) rfl rfl (g := (mkF m 82 #[.val (.ref a1), .val (.long q2), .second, .val (.int p3), .val (.long q4), .second, .val (.int (1 : Int32))] [(.int p3), (.ref a1)])) rfl rfl (hb hby d1_82)
  have F5 := fa3.same W5
  have N5 := Fr.snoc X5 N2 g1
  have Z5 : n0 ≤ h5.size := by rw [W5.size]; exact Z2
  have K5 := K2.wr W5 (Or.inl (List.mem_of_getElem? (i := 0) rfl))
  refine Go.by st5 ?_
  show Go p e below T5 (mkF m 85 #[.val (.ref a1), .val (.long q2), .second, .val (.int p3), .val (.long q4), .second, .val (.int (1 : Int32))] []) _
  refine Go.by (fun t k => XS.aloadN X5.here hx rfl (hb hby d1_85) rfl rfl k) ?_
  show Go p e below T5 (mkF m 86 #[.val (.ref a1), .val (.long q2), .second, .val (.int p3), .val (.long q4), .second, .val (.int (1 : Int32))] [(.ref a1)]) _
  refine Go.by (fun t k => XS.lload X5.here hx rfl (hb hby d1_86) rfl k) ?_
  show Go p e below T5 (mkF m 88 #[.val (.ref a1), .val (.long q2), .second, .val (.int p3), .val (.long q4), .second, .val (.int (1 : Int32))] [(.long q4), (.ref a1)]) _
  have fa6 := F_mLeafMillis.other W2 (Or.inr (slot_ne (Or.inr (hw _ (List.mem_of_getElem? (i := 17) rfl))) (Or.inr (hw _ (List.mem_of_getElem? (i := 13) rfl))) (by decide) (t := .long) (t' := .long) (by decide) (by decide)))
  have fa7 := fa6.other W5 (Or.inr (slot_ne (Or.inr (hw _ (List.mem_of_getElem? (i := 17) rfl))) (Or.inr (hw _ (List.mem_of_getElem? (i := 15) rfl))) (by decide) (t := .long) (t' := .int) (by decide) (by decide)))
  have fa8 := fa4.wr W5
  obtain ⟨T9, h9, X9, e9, W9, st9⟩ := putF X5 hx hZ hown (host := "") (Or.inl (hw _ (List.mem_of_getElem? (i := 16) rfl))) Via.refl e5 fa7 fa8 (Or.inr ⟨(hw _ (List.mem_of_getElem? (i := 17) rfl)), rfl, hnm⟩) (hw _ (List.mem_of_getElem? (i := 3) rfl)) (ty := .long) (by decide) rfl rfl (g := (mkF m 88 #[.val (.ref a1), .val (.long q2), .second, .val (.int p3), .val (.long q4), .second, .val (.int (1 : Int32))] [(.long q4), (.ref a1)])) rfl rfl (hb hby d1_88)
  have F9 := fa7.same W9
  have N9 := Fr.snoc X9 N5 g1
  have Z9 : n0 ≤ h9.size := by rw [W9.size]; exact Z5
  have K9 := K5.wr W9 (Or.inl (List.mem_of_getElem? (i := 0) rfl))
  refine Go.by st9 ?_
  show Go p e below T9 (mkF m 91 #[.val (.ref a1), .val (.long q2), .second, .val (.int p3), .val (.long q4), .second, .val (.int (1 : Int32))] []) _
  obtain ⟨fs, hr, hrun, hended, hW, hsame⟩ := X9.leave (v := none) (fun _ => rfl)
  refine Go.done (X9.returnOut hx Bd.returns (hb hby d1_91) hr) hrun hended ⟨_, _, rfl, ?_, ⟨_, rfl⟩, hW, hsame.mono (by decide) (by decide)⟩
  show Q1 Z a1 q2 p3 q4 u_mUnitMillis u_mLevels u_mLeafMillis h0 n0 _ T9.heap _
  rw [e9]
  have fa10 := fa8.wr W9
  have fa11 := F2.other W5 (Or.inr (slot_ne (Or.inr (hw _ (List.mem_of_getElem? (i := 13) rfl))) (Or.inr (hw _ (List.mem_of_getElem? (i := 15) rfl))) (by decide) (t := .long) (t' := .int) (by decide) (by decide)))
  have fa12 := fa11.other W9 (Or.inr (slot_ne (Or.inr (hw _ (List.mem_of_getElem? (i := 13) rfl))) (Or.inr (hw _ (List.mem_of_getElem? (i := 17) rfl))) (by decide) (t := .long) (t' := .long) (by decide) (by decide)))
  have fa13 := F5.other W9 (Or.inr (slot_ne (Or.inr (hw _ (List.mem_of_getElem? (i := 15) rfl))) (Or.inr (hw _ (List.mem_of_getElem? (i := 17) rfl))) (by decide) (t := .int) (t' := .long) (by decide) (by decide)))
  exact ⟨rfl, N9, K9, fa10, fa12, fa13, F9⟩
theorem d4_0 : decode prog_13_method_11_code 0 = .ok (.iconst 1, 1) := by decide +kernel
theorem d4_1 : decode prog_13_method_11_code 1 = .ok (.aload_n 0, 1) := by decide +kernel
theorem d4_2 : decode prog_13_method_11_code 2 = .ok (.getfield 26, 3) := by decide +kernel
theorem d4_5 : decode prog_13_method_11_code 5 = .ok (.iconst 1, 1) := by decide +kernel
theorem d4_6 : decode prog_13_method_11_code 6 = .ok (.isub, 1) := by decide +kernel
theorem d4_7 : decode prog_13_method_11_code 7 = .ok (.ishl, 1) := by decide +kernel
theorem d4_8 : decode prog_13_method_11_code 8 = .ok (.ireturn, 1) := by decide +kernel
theorem ef_4 (m : MethodId) (x0 : Addr) : entryFrame m #[(.ref x0)] 1 = mkF m 0 #[.val (.ref x0)] [] := by first | (simp [entryFrame, mkF, argsToLocals, Value.category]; done) | rfl
def Q4 (Z : State) (a1 : Addr) (u_mLevels : Int32) (h0 : Heap) (n0 : Nat) (v : Option Value) (h : Heap) (L : List Loc) : Prop := v = some (.int ((1 : Int32) <<< ((u_mLevels - (1 : Int32)) &&& 31))) ∧ Fr n0 L ∧ h = h0
set_option maxRecDepth 65536 in
set_option maxHeartbeats 40000000 in
theorem rm4 (l : Launch) (Z : State) (a0 : Array Value) (hw : ∀ d ∈ tables_1, d.before a0 Z = true) (ws : List Jvm.Cond) (a1 : Addr) (u_mLevels : Int32) (h0 : Heap) (n0 : Nat) (Z0 : n0 ≤ h0.size) (F_mLevels : Fld Z h0 a1 "com/example/huangpu/huangpu/synopsis/AggregateTree" "mLevels" "I" (.int u_mLevels)) :
    MetFree l (⟨"com/example/huangpu/huangpu/synopsis/AggregateTree", "firstLeaf", "()I"⟩ : MethodName) (head1 (Jvm.Cond.code (⟨"com/example/huangpu/huangpu/synopsis/AggregateTree", "firstLeaf", "()I"⟩ : MethodName) prog_13_method_11_code 1 (some .int) :: ws) ({ frames := 0, cells := 0, slots := 0, locals := 0 } : Room)) (fun a U => a = #[(.ref a1)] ∧ Z.Warmed39 U.vm ∧ U.heap = h0) (fun _ _ _ _ _ => True) (fun _ U o U' => ∃ v L, o = .returned v ∧ Q4 Z a1 u_mLevels h0 n0 v U'.heap L ∧ FrameEnd U o U' L ({ frames := 0, cells := 0, slots := 0, locals := 0 } : Room).cells ({ frames := 0, cells := 0, slots := 0, locals := 0 } : Room).slots) := by
  refine MetFree.of_bodySF (plainFor_of_name pn_0) hisR ?_
  intro p e s m args below meth c s₁ Bd hml0 hP hK
  obtain ⟨rfl, hZ, hh⟩ := hP
  have hx := Bd.exec
  have hby := Bd.bytes
  have hml : c.maxLocals = 1 := hml0
  have hown : s.vm.findClass "com/example/huangpu/huangpu/synopsis/AggregateTree" = some m.cls := findClass_of_methodNamed Bd.named
  have hnm := (name_of_methodNamed Bd.named Bd.method).1
  have X0 : Stand p l e ({ frames := 0, cells := 0, slots := 0, locals := 0 } : Room) s m #[(.ref a1)] below meth c s₁ [] 0 0 := Stand.of_body Bd
  have e0 : s₁.heap = h0 := by rw [← hh, Bd.state]; rfl
  have N0 := Fr.nil n0
  refine Go.start (ef_4 m a1) ?_
  show Go p e below s₁ (mkF m 0 #[.val (.ref a1)] []) _
  refine Go.by (fun t k => XS.iconst X0.here hx rfl (hb hby d4_0) k) ?_
  show Go p e below s₁ (mkF m 1 #[.val (.ref a1)] [(.int (1 : Int32))]) _
  refine Go.by (fun t k => XS.aloadN X0.here hx rfl (hb hby d4_1) rfl rfl k) ?_
  show Go p e below s₁ (mkF m 2 #[.val (.ref a1)] [(.ref a1), (.int (1 : Int32))]) _
  obtain ⟨T1, X1, e1, st1⟩ := getF X0 hx hZ hown (host := "") (Or.inl (hw _ (List.mem_of_getElem? (i := 14) rfl))) Via.refl e0 F_mLevels (g := (mkF m 2 #[.val (.ref a1)] [(.ref a1), (.int (1 : Int32))])) rfl rfl (hb hby d4_2)
  refine Go.by st1 ?_
  show Go p e below T1 (mkF m 5 #[.val (.ref a1)] [(.int u_mLevels), (.int (1 : Int32))]) _
  refine Go.by (fun t k => XS.iconst X1.here hx rfl (hb hby d4_5) k) ?_
  show Go p e below T1 (mkF m 6 #[.val (.ref a1)] [(.int (1 : Int32)), (.int u_mLevels), (.int (1 : Int32))]) _
  refine Go.by (fun t k => XS.isub X1.here hx rfl (hb hby d4_6) rfl k) ?_
  show Go p e below T1 (mkF m 7 #[.val (.ref a1)] [(.int (u_mLevels - (1 : Int32))), (.int (1 : Int32))]) _
  refine Go.by (fun t k => XS.ishl X1.here hx rfl (hb hby d4_7) rfl k) ?_
  show Go p e below T1 (mkF m 8 #[.val (.ref a1)] [(.int ((1 : Int32) <<< ((u_mLevels - (1 : Int32)) &&& 31)))]) _
  obtain ⟨fs, hr, hrun, hended, hW, hsame⟩ := X1.leave (v := some (.int ((1 : Int32) <<< ((u_mLevels - (1 : Int32)) &&& 31)))) (fun h => by rw [Bd.returns] at h; cases h)
  refine Go.done (retI X1 hx Bd.returns (hb hby d4_8) hr) hrun hended ⟨_, _, rfl, ?_, ⟨_, rfl⟩, hW, hsame.mono (by decide) (by decide)⟩
  show Q4 Z a1 u_mLevels h0 n0 _ T1.heap _
  rw [e1]
  exact ⟨rfl, N0, rfl⟩
theorem pd_0 : parseMethodDescriptor "()I" = some ⟨[], some .int⟩ := by decide +kernel
theorem d3_0 : decode prog_13_method_2_code 0 = .ok (.aload_n 0, 1) := by decide +kernel
theorem d3_1 : decode prog_13_method_2_code 1 = .ok (.invokevirtual 33, 3) := by decide +kernel
theorem d3_4 : decode prog_13_method_2_code 4 = .ok (.lload_n 1, 1) := by decide +kernel
theorem d3_5 : decode prog_13_method_2_code 5 = .ok (.aload_n 0, 1) := by decide +kernel
theorem d3_6 : decode prog_13_method_2_code 6 = .ok (.getfield 30, 3) := by decide +kernel
theorem d3_9 : decode prog_13_method_2_code 9 = .ok (.ldiv, 1) := by decide +kernel
theorem d3_10 : decode prog_13_method_2_code 10 = .ok (.l2i, 1) := by decide +kernel
theorem d3_11 : decode prog_13_method_2_code 11 = .ok (.iadd, 1) := by decide +kernel
theorem d3_12 : decode prog_13_method_2_code 12 = .ok (.ireturn, 1) := by decide +kernel
theorem ef_3 (m : MethodId) (x0 : Addr) (x1 : Int64) : entryFrame m #[(.ref x0), (.long x1)] 3 = mkF m 0 #[.val (.ref x0), .val (.long x1), .second] [] := by first | (simp [entryFrame, mkF, argsToLocals, Value.category]; done) | rfl
def Q3 (Z : State) (a1 : Addr) (q2 : Int64) (u_mLevels : Int32) (u_mLeafMillis : Int64) (h0 : Heap) (n0 : Nat) (v : Option Value) (h : Heap) (L : List Loc) : Prop := v = some (.int (((1 : Int32) <<< ((u_mLevels - (1 : Int32)) &&& 31)) + ((q2 / u_mLeafMillis).toInt32))) ∧ Fr n0 L ∧ h = h0
set_option maxRecDepth 65536 in
set_option maxHeartbeats 40000000 in
theorem rm3 (l : Launch) (Z : State) (a0 : Array Value) (hw : ∀ d ∈ tables_1, d.before a0 Z = true) (ws : List Jvm.Cond) (a1 : Addr) (q2 : Int64) (u_mLevels : Int32) (u_mLeafMillis : Int64) (h0 : Heap) (n0 : Nat) (Z0 : n0 ≤ h0.size) (E1 : Exa Z h0 a1 "com/example/huangpu/huangpu/synopsis/AggregateTree") (F_mLevels : Fld Z h0 a1 "com/example/huangpu/huangpu/synopsis/AggregateTree" "mLevels" "I" (.int u_mLevels)) (F_mLeafMillis : Fld Z h0 a1 "com/example/huangpu/huangpu/synopsis/AggregateTree" "mLeafMillis" "J" (.long u_mLeafMillis)) (hz : ¬ u_mLeafMillis = (0 : Int64)) :
    MetFree l (⟨"com/example/huangpu/huangpu/synopsis/AggregateTree", "leafOf", "(J)I"⟩ : MethodName) (head1 (Jvm.Cond.code (⟨"com/example/huangpu/huangpu/synopsis/AggregateTree", "leafOf", "(J)I"⟩ : MethodName) prog_13_method_2_code 3 (some .int) :: ws) ({ frames := 1, cells := 0, slots := 0, locals := 12 } : Room)) (fun a U => a = #[(.ref a1), (.long q2)] ∧ Z.Warmed39 U.vm ∧ U.heap = h0) (fun _ _ _ _ _ => True) (fun _ U o U' => ∃ v L, o = .returned v ∧ Q3 Z a1 q2 u_mLevels u_mLeafMillis h0 n0 v U'.heap L ∧ FrameEnd U o U' L ({ frames := 1, cells := 0, slots := 0, locals := 12 } : Room).cells ({ frames := 1, cells := 0, slots := 0, locals := 12 } : Room).slots) := by
  refine MetFree.of_bodySF (plainFor_of_name pn_0) hisR ?_
  intro p e s m args below meth c s₁ Bd hml0 hP hK
  obtain ⟨rfl, hZ, hh⟩ := hP
  have hx := Bd.exec
  have hby := Bd.bytes
  have hml : c.maxLocals = 3 := hml0
  have hown : s.vm.findClass "com/example/huangpu/huangpu/synopsis/AggregateTree" = some m.cls := findClass_of_methodNamed Bd.named
  have hnm := (name_of_methodNamed Bd.named Bd.method).1
  have X0 : Stand p l e ({ frames := 1, cells := 0, slots := 0, locals := 12 } : Room) s m #[(.ref a1), (.long q2)] below meth c s₁ [] 0 0 := Stand.of_body Bd
  have e0 : s₁.heap = h0 := by rw [← hh, Bd.state]; rfl
  have N0 := Fr.nil n0
  refine Go.start (ef_3 m a1 q2) ?_
  show Go p e below s₁ (mkF m 0 #[.val (.ref a1), .val (.long q2), .second] []) _
  refine Go.by (fun t k => XS.aloadN X0.here hx rfl (hb hby d3_0) rfl rfl k) ?_
  show Go p e below s₁ (mkF m 1 #[.val (.ref a1), .val (.long q2), .second] [(.ref a1)]) _
  obtain ⟨cq1, q1, q1'⟩ := E1.cell
  obtain ⟨_, _, ⟨T1, L1, k1, n1⟩, -, X1, ⟨Lc1, hQ1, l1, y1, z1⟩, st1⟩ := X0.privateBack hx (y := (⟨"com/example/huangpu/huangpu/synopsis/AggregateTree", "firstLeaf", "()I"⟩ : MethodName)) hown (mvT hZ (hw _ (List.mem_of_getElem? (i := 23) rfl))) (mvT hZ (hw _ (List.mem_of_getElem? (i := 24) rfl))) (own_selPriv (by decide) (mvT hZ (hw _ (List.mem_of_getElem? (i := 3) rfl))) (mvP hZ (hw _ (List.mem_of_getElem? (i := 25) rfl))) (mvT hZ (hw _ (List.mem_of_getElem? (i := 24) rfl)))) (Cond.privateMethod_at (mvP hZ (hw _ (List.mem_of_getElem? (i := 25) rfl)) (args := #[]))) (mvT hZ (hw _ (List.mem_of_getElem? (i := 26) rfl))) (by decide) (backOf (W := 0) (rm4 l Z a0 hw [] a1 u_mLevels h0 n0 Z0 F_mLevels) hZ (hw _ (List.mem_of_getElem? (i := 26) rfl)) (hw _ (List.mem_of_getElem? (i := 4) rfl)) (by decide) (by decide)) (g := (mkF m 1 #[.val (.ref a1), .val (.long q2), .second] [(.ref a1)])) rfl (by rw [hml]; rfl) (Steps.refl _) (a := a1) (by rw [e0]; exact q1) q1' (argsL := []) (rest := []) (lenOf pd_0 rfl) rfl (by show 2 * 0 + _ ≤ _; exact Nat.le_of_eq rfl) (hb hby d3_1) (fun _ _ => ⟨rfl, e0, (by decide : 0 + 0 ≤ _), (by decide : 0 + 0 ≤ _)⟩)
  dsimp only [Pt.U, Pt.locs, Pt.cells, Pt.slots] at X1 l1 y1 z1 st1 hQ1
  subst l1 y1 z1
  obtain ⟨rfl, N1q, e1q⟩ := hQ1
  have N1 := Fr.app N0 N1q
  refine Go.by (fun t k => st1.trans k) ?_
  show Go p e below T1 (mkF m 4 #[.val (.ref a1), .val (.long q2), .second] [(.int ((1 : Int32) <<< ((u_mLevels - (1 : Int32)) &&& 31)))]) _
  refine Go.by (fun t k => XS.lloadN X1.here hx rfl (hb hby d3_4) rfl k) ?_
  show Go p e below T1 (mkF m 5 #[.val (.ref a1), .val (.long q2), .second] [(.long q2), (.int ((1 : Int32) <<< ((u_mLevels - (1 : Int32)) &&& 31)))]) _
  refine Go.by (fun t k => XS.aloadN X1.here hx rfl (hb hby d3_5) rfl rfl k) ?_
  show Go p e below T1 (mkF m 6 #[.val (.ref a1), .val (.long q2), .second] [(.ref a1), (.long q2), (.int ((1 : Int32) <<< ((u_mLevels - (1 : Int32)) &&& 31)))]) _
  obtain ⟨T2, X2, e2, st2⟩ := getF X1 hx hZ hown (host := "") (Or.inl (hw _ (List.mem_of_getElem? (i := 16) rfl))) Via.refl e1q F_mLeafMillis (g := (mkF m 6 #[.val (.ref a1), .val (.long q2), .second] [(.ref a1), (.long q2), (.int ((1 : Int32) <<< ((u_mLevels - (1 : Int32)) &&& 31)))])) rfl rfl (hb hby d3_6)
  refine Go.by st2 ?_
  show Go p e below T2 (mkF m 9 #[.val (.ref a1), .val (.long q2), .second] [(.long u_mLeafMillis), (.long q2), (.int ((1 : Int32) <<< ((u_mLevels - (1 : Int32)) &&& 31)))]) _
  refine Go.by (fun t k => XS.ldiv X2.here hx rfl (hb hby d3_9) rfl hz k) ?_
  show Go p e below T2 (mkF m 10 #[.val (.ref a1), .val (.long q2), .second] [(.long (q2 / u_mLeafMillis)), (.int ((1 : Int32) <<< ((u_mLevels - (1 : Int32)) &&& 31)))]) _
  refine Go.by (fun t k => XS.l2i X2.here hx rfl (hb hby d3_10) rfl k) ?_
  show Go p e below T2 (mkF m 11 #[.val (.ref a1), .val (.long q2), .second] [(.int ((q2 / u_mLeafMillis).toInt32)), (.int ((1 : Int32) <<< ((u_mLevels - (1 : Int32)) &&& 31)))]) _
  refine Go.by (fun t k => XS.iadd X2.here hx rfl (hb hby d3_11) rfl k) ?_
  show Go p e below T2 (mkF m 12 #[.val (.ref a1), .val (.long q2), .second] [(.int (((1 : Int32) <<< ((u_mLevels - (1 : Int32)) &&& 31)) + ((q2 / u_mLeafMillis).toInt32)))]) _
  obtain ⟨fs, hr, hrun, hended, hW, hsame⟩ := X2.leave (v := some (.int (((1 : Int32) <<< ((u_mLevels - (1 : Int32)) &&& 31)) + ((q2 / u_mLeafMillis).toInt32)))) (fun h => by rw [Bd.returns] at h; cases h)
  refine Go.done (retI X2 hx Bd.returns (hb hby d3_12) hr) hrun hended ⟨_, _, rfl, ?_, ⟨_, rfl⟩, hW, hsame.mono (by decide) (by decide)⟩
  show Q3 Z a1 q2 u_mLevels u_mLeafMillis h0 n0 _ T2.heap _
  rw [e2]
  exact ⟨rfl, N1, rfl⟩
theorem own_shfin : ∀ k : Fin 30, ((((Int32.ofInt ((k.val : Int) + 1) - 1) &&& 63).toInt64).toBitVec.smod 64).toNat = k.val ∧ (((Int32.ofInt ((k.val : Int) + 1) - 1) &&& 31).toBitVec.smod 32).toNat = k.val := by decide +kernel
theorem own_lv (lv : Int32) (h1 : 1 ≤ lv.toInt) (h2 : lv.toInt ≤ 30) : ∃ k : Nat, k < 30 ∧ lv.toInt = (k : Int) + 1 ∧ ((((lv - 1) &&& 63).toInt64.toBitVec.smod 64).toNat = k) ∧ (((lv - 1) &&& 31).toBitVec.smod 32).toNat = k := by
  refine ⟨(lv.toInt - 1).toNat, by omega, by omega, ?_⟩
  have f := own_shfin ⟨(lv.toInt - 1).toNat, by omega⟩
  have e : (((lv.toInt - 1).toNat : Nat) : Int) + 1 = lv.toInt := by omega
  have e3 : Int32.ofInt lv.toInt = lv := Int32.ofInt_toInt lv
  simp only [e, e3] at f
  exact f
theorem own_pow (k : Nat) (h : k < 30) : (1 : Int) ≤ 2 ^ k ∧ (2 : Int) ^ k ≤ 536870912 := by
  have h1 : 0 < (2 : Nat) ^ k := Nat.pow_pos (by decide)
  have h2 : (2 : Nat) ^ k ≤ 2 ^ 29 := Nat.pow_le_pow_right (by decide) (by omega)
  have e : ((2 : Nat) ^ k : Int) = (((2 : Nat) ^ k : Nat) : Int) := by simp
  have e2 : (2 : Int) ^ k = (((2 : Nat) ^ k : Nat) : Int) := by simp
  rw [e2]; omega
theorem own_max : (9223372036854775807 : Int64).toInt = 9223372036854775807 := rfl
theorem own_one64 : (1 : Int64).toInt = 1 := rfl
theorem own_zero64 : (0 : Int64).toInt = 0 := rfl
theorem own_and (x : Int64) : 0 ≤ (x &&& (9223372036854775807 : Int64)).toInt := by
  have e := Jvm.Kit.i64_mask x 9223372036854775807 (k := 63) (by decide) (by decide)
  omega
theorem own_rem (x y : Int64) (hx : 0 ≤ x.toInt) (hy : 0 < y.toInt) : 0 ≤ (x - x / y * y).toInt ∧ (x - x / y * y).toInt < y.toInt := by
  rw [Jvm.Kit.i64_rem_nonneg hx]
  exact ⟨Int.emod_nonneg _ (by omega), Int.emod_lt_of_pos _ hy⟩
theorem own_ne (x : Int64) (h : 0 < x.toInt) : x ≠ 0 := fun q => by rw [q, own_zero64] at h; omega
theorem own_lm (lv : Int32) (lm : Int64) (k : Nat) (hk : k < 30) (hs : (((lv - 1) &&& 63).toInt64.toBitVec.smod 64).toNat = k) (h : (9223372036854775807 : Int64) >>> ((lv - (1 : Int32)) &&& 63).toInt64 = lm) : lm.toInt = 9223372036854775807 / 2 ^ k ∧ 0 < lm.toInt ∧ lm.toInt * 2 ^ k ≤ 9223372036854775807 := by
  have p := own_pow k hk
  have e : lm.toInt = 9223372036854775807 / 2 ^ k := by rw [← h, Jvm.Kit.i64_shr _ _ hs, own_max]
  rw [e]
  refine ⟨rfl, ?_, Int.ediv_mul_le _ (by omega)⟩
  have q : (1 : Int) ≤ 9223372036854775807 / 2 ^ k := (Int.le_ediv_iff_mul_le (by omega)).mpr (by omega)
  omega
theorem own_cv (lv : Int32) (lm lf cv : Int64) (k : Nat) (hk : k < 30) (hs : (((lv - 1) &&& 63).toInt64.toBitVec.smod 64).toNat = k) (h1 : lm.toInt * 2 ^ k ≤ 9223372036854775807) (h2 : 0 < lf.toInt) (h3 : lf.toInt ≤ lm.toInt) (h : lf <<< ((lv - (1 : Int32)) &&& 63).toInt64 = cv) : cv.toInt = lf.toInt * 2 ^ k ∧ 0 < cv.toInt := by
  have p := own_pow k hk
  have a : lf.toInt * 2 ^ k ≤ lm.toInt * 2 ^ k := Int.mul_le_mul_of_nonneg_right h3 (by omega)
  have b : 0 < lf.toInt * 2 ^ k := Int.mul_pos h2 (by omega)
  have e : cv.toInt = lf.toInt * 2 ^ k := by rw [← h]; exact Jvm.Kit.i64_shl _ _ hs (by omega) (by omega)
  rw [e]; exact ⟨rfl, b⟩

theorem own_lev (p1 lv : Int32) (h : (1 : Int32) + ((p1 &&& (2147483647 : Int32)) % (30 : Int32)) = lv) : 1 ≤ lv.toInt ∧ lv.toInt ≤ 30 := by
  have e := Jvm.Kit.i32_mask p1 2147483647 (k := 31) (by decide) (by decide)
  have e1 : ((p1 &&& (2147483647 : Int32)) % (30 : Int32)).toInt = (p1 &&& (2147483647 : Int32)).toInt % 30 := Jvm.Kit.i32_rem_nonneg (by omega)
  have o : (1 : Int32).toInt = 1 := rfl
  have e2 := Jvm.Kit.i32_add (p := 1) (q := (p1 &&& (2147483647 : Int32)) % (30 : Int32)) (by omega) (by omega)
  rw [← h, e2, e1]; omega
theorem own_lf (q lm lf : Int64) (h0 : 0 < lm.toInt) (h : (1 : Int64) + ((q &&& (9223372036854775807 : Int64)) - (q &&& (9223372036854775807 : Int64)) / lm * lm) = lf) : 0 < lf.toInt ∧ lf.toInt ≤ lm.toInt := by
  have r := own_rem (q &&& (9223372036854775807 : Int64)) lm (own_and q) h0
  have b := lm.toInt_lt
  have o := own_one64
  have e := Jvm.Kit.i64_add (x := 1) (y := (q &&& (9223372036854775807 : Int64)) - (q &&& (9223372036854775807 : Int64)) / lm * lm) (by omega) (by omega)
  rw [← h, e]; omega
theorem own_of (q un off : Int64) (h0 : 0 < un.toInt) (h : (q &&& (9223372036854775807 : Int64)) - (q &&& (9223372036854775807 : Int64)) / un * un = off) : 0 ≤ off.toInt ∧ off.toInt < un.toInt := by
  rw [← h]; exact own_rem _ _ (own_and q) h0
theorem own_not1 (lv : Int32) (h : 1 ≤ lv.toInt ∧ lv.toInt ≤ 30) : ¬ lv < (1 : Int32) ∧ ¬ (30 : Int32) < lv := by
  have o : (1 : Int32).toInt = 1 := rfl
  have o2 : (30 : Int32).toInt = 30 := rfl
  rw [Int32.lt_iff_toInt_lt, Int32.lt_iff_toInt_lt]; omega
theorem own_nlt (x y : Int64) (h : y.toInt ≤ x.toInt) : ¬ x < y := by rw [Int64.lt_iff_toInt_lt]; omega
theorem own_end (lv : Int32) (lf un off : Int64) (fl lfv : Int32) (k64 : Int64) (k : Nat) (hk : k < 30) (hs : (((lv - 1) &&& 31).toBitVec.smod 32).toNat = k) (h1 : 0 < lf.toInt) (h2 : off.toInt < un.toInt) (h3 : 0 ≤ off.toInt) (h4 : un.toInt ≤ lf.toInt * 2 ^ k)
    (hfl : (1 : Int32) <<< ((lv - (1 : Int32)) &&& 31) = fl) (hv : ((1 : Int32) <<< ((lv - (1 : Int32)) &&& 31)) + ((off / lf).toInt32) = lfv) (hk64 : lfv.toInt64 - fl.toInt64 = k64) :
    k64.toInt = off.toInt / lf.toInt ∧ 0 ≤ k64.toInt ∧ k64.toInt < fl.toInt ∧ (k64 * lf).toInt ≤ off.toInt ∧ (off - k64 * lf).toInt < lf.toInt := by
  have p := own_pow k hk
  have o : (1 : Int32).toInt = 1 := rfl
  have b1 := off.toInt_lt
  have b2 := lf.toInt_lt
  have efl : fl.toInt = 2 ^ k := by
    rw [← hfl, Jvm.Kit.i32_shl _ _ hs (by rw [o]; omega) (by rw [o]; omega), o]; omega
  have ediv : (off / lf).toInt = off.toInt / lf.toInt := by
    rw [Jvm.Kit.i64_div (by omega), Int.tdiv_eq_ediv_of_nonneg h3]
  have q0 : 0 ≤ off.toInt / lf.toInt := Int.ediv_nonneg h3 (by omega)
  have q1 : off.toInt / lf.toInt < 2 ^ k := Int.ediv_lt_of_lt_mul h1 (by rw [Int.mul_comm]; omega)
  have e32 : (off / lf).toInt32.toInt = off.toInt / lf.toInt := by rw [Jvm.Kit.i32_of_i64 (by omega) (by omega), ediv]
  have elf : lfv.toInt = 2 ^ k + off.toInt / lf.toInt := by
    rw [← hv, hfl, Jvm.Kit.i32_add (by omega) (by omega), efl, e32]
  have ek : k64.toInt = off.toInt / lf.toInt := by
    rw [← hk64, Jvm.Kit.i64_sub (by rw [Jvm.Kit.i64_of_i32, Jvm.Kit.i64_of_i32]; omega) (by rw [Jvm.Kit.i64_of_i32, Jvm.Kit.i64_of_i32]; omega), Jvm.Kit.i64_of_i32, Jvm.Kit.i64_of_i32]; omega
  have m1 : off.toInt / lf.toInt * lf.toInt ≤ off.toInt := Int.ediv_mul_le _ (by omega)
  have m2 : off.toInt < off.toInt / lf.toInt * lf.toInt + lf.toInt := by
    have := Int.lt_ediv_add_one_mul_self off.toInt h1
    rw [Int.add_mul] at this; omega
  have m0 : 0 ≤ off.toInt / lf.toInt * lf.toInt := Int.mul_nonneg q0 (by omega)
  have em : (k64 * lf).toInt = off.toInt / lf.toInt * lf.toInt := by
    rw [Jvm.Kit.i64_mul (by rw [ek]; omega) (by rw [ek]; omega), ek]
  have es : (off - k64 * lf).toInt = off.toInt - off.toInt / lf.toInt * lf.toInt := by
    rw [Jvm.Kit.i64_sub (by rw [em]; omega) (by rw [em]; omega), em]
  rw [em, es, ek, efl]
  omega
theorem pd_1 : parseMethodDescriptor "(JIJ)V" = some ⟨[.long, .int, .long], none⟩ := by decide +kernel
theorem pd_2 : parseMethodDescriptor "(J)I" = some ⟨[.long], some .int⟩ := by decide +kernel
theorem pn_1 : plainName "com/example/huangpu/huangpu/synopsis/AggregateTreeLeafOfPinLaw" = true := by first | (simp [plainName, overriddenIn]; done) | decide +kernel
theorem ef_0 (m : MethodId) (x0 : Int32) (x1 : Int64) (x2 : Int64) (x3 : Int64) : entryFrame m #[(.int x0), (.long x1), (.long x2), (.long x3)] maxLocals = mkF m 0 #[.val (.int x0), .val (.long x1), .second, .val (.long x2), .second, .val (.long x3), .second, .unset, .unset, .unset, .unset, .unset, .unset, .unset, .unset, .unset, .unset, .unset, .unset, .unset, .unset, .unset, .unset, .unset, .unset] [] := by first | (simp [entryFrame, mkF, argsToLocals, Value.category, maxLocals]; done) | rfl
def Q0 (Z : State) (p1 : Int32) (q2 : Int64) (q3 : Int64) (q4 : Int64) (h0 : Heap) (n0 : Nat) (v : Option Value) (h : Heap) (L : List Loc) : Prop := v = some (.int 1) ∧ Fr n0 L
set_option maxRecDepth 65536 in
set_option maxHeartbeats 40000000 in
theorem rm0 (l : Launch) (Z : State) (a0 : Array Value) (hw : ∀ d ∈ tables_1, d.before a0 Z = true) (ws : List Jvm.Cond) (p1 : Int32) (q2 : Int64) (q3 : Int64) (q4 : Int64) (h0 : Heap) (n0 : Nat) (Z0 : n0 ≤ h0.size) :
    MetFree l x (head1 (Jvm.Cond.code x code maxLocals ret :: ws) room_1) (fun a U => a = #[(.int p1), (.long q2), (.long q3), (.long q4)] ∧ Z.Warmed39 U.vm ∧ U.heap = h0) (fun _ _ _ _ _ => True) (fun _ U o U' => ∃ v L, o = .returned v ∧ Q0 Z p1 q2 q3 q4 h0 n0 v U'.heap L ∧ FrameEnd U o U' L room_1.cells room_1.slots) := by
  refine MetFree.of_bodySF (plainFor_of_name pn_1) hisR ?_
  intro p e s m args below meth c s₁ Bd hml0 hP hK
  obtain ⟨rfl, hZ, hh⟩ := hP
  have hx := Bd.exec
  have hby := Bd.bytes
  have hml : c.maxLocals = 25 := hml0
  have hown : s.vm.findClass "com/example/huangpu/huangpu/synopsis/AggregateTreeLeafOfPinLaw" = some m.cls := findClass_of_methodNamed Bd.named
  have hnm := (name_of_methodNamed Bd.named Bd.method).1
  have X0 : Stand p l e room_1 s m #[(.int p1), (.long q2), (.long q3), (.long q4)] below meth c s₁ [] 0 0 := Stand.of_body Bd
  have e0 : s₁.heap = h0 := by rw [← hh, Bd.state]; rfl
  have N0 := Fr.nil n0
  refine Go.start (ef_0 m p1 q2 q3 q4) ?_
  show Go p e below s₁ (mkF m 0 #[.val (.int p1), .val (.long q2), .second, .val (.long q3), .second, .val (.long q4), .second, .unset, .unset, .unset, .unset, .unset, .unset, .unset, .unset, .unset, .unset, .unset, .unset, .unset, .unset, .unset, .unset, .unset, .unset] []) _
  refine Go.by (fun t k => XS.iconst X0.here hx rfl (hb hby at_0) k) ?_
  show Go p e below s₁ (mkF m 1 #[.val (.int p1), .val (.long q2), .second, .val (.long q3), .second, .val (.long q4), .second, .unset, .unset, .unset, .unset, .unset, .unset, .unset, .unset, .unset, .unset, .unset, .unset, .unset, .unset, .unset, .unset, .unset, .unset] [(.int (1 : Int32))]) _
  refine Go.by (fun t k => XS.iloadN X0.here hx rfl (hb hby at_1) rfl k) ?_
  show Go p e below s₁ (mkF m 2 #[.val (.int p1), .val (.long q2), .second, .val (.long q3), .second, .val (.long q4), .second, .unset, .unset, .unset, .unset, .unset, .unset, .unset, .unset, .unset, .unset, .unset, .unset, .unset, .unset, .unset, .unset, .unset, .unset] [(.int p1), (.int (1 : Int32))]) _
  refine Go.by (fun t k => X0.ldcInt hx hown (mvT hZ (hw _ (List.mem_of_getElem? (i := 0) rfl))) (g := (mkF m 2 #[.val (.int p1), .val (.long q2), .second, .val (.long q3), .second, .val (.long q4), .second, .unset, .unset, .unset, .unset, .unset, .unset, .unset, .unset, .unset, .unset, .unset, .unset, .unset, .unset, .unset, .unset, .unset, .unset] [(.int p1), (.int (1 : Int32))])) rfl (hb hby at_2) t k) ?_
  show Go p e below s₁ (mkF m 4 #[.val (.int p1), .val (.long q2), .second, .val (.long q3), .second, .val (.long q4), .second, .unset, .unset, .unset, .unset, .unset, .unset, .unset, .unset, .unset, .unset, .unset, .unset, .unset, .unset, .unset, .unset, .unset, .unset] [(.int (2147483647 : Int32)), (.int p1), (.int (1 : Int32))]) _
  refine Go.by (fun t k => XS.iand X0.here hx rfl (hb hby at_4) rfl k) ?_
  show Go p e below s₁ (mkF m 5 #[.val (.int p1), .val (.long q2), .second, .val (.long q3), .second, .val (.long q4), .second, .unset, .unset, .unset, .unset, .unset, .unset, .unset, .unset, .unset, .unset, .unset, .unset, .unset, .unset, .unset, .unset, .unset, .unset] [(.int (p1 &&& (2147483647 : Int32))), (.int (1 : Int32))]) _
  refine Go.by (fun t k => XS.bipush X0.here hx rfl (hb hby at_5) k) ?_
  show Go p e below s₁ (mkF m 7 #[.val (.int p1), .val (.long q2), .second, .val (.long q3), .second, .val (.long q4), .second, .unset, .unset, .unset, .unset, .unset, .unset, .unset, .unset, .unset, .unset, .unset, .unset, .unset, .unset, .unset, .unset, .unset, .unset] [(.int (30 : Int32)), (.int (p1 &&& (2147483647 : Int32))), (.int (1 : Int32))]) _
  refine Go.by (fun t k => iremM X0 hx rfl (hb hby at_7) rfl (by decide) k) ?_
  show Go p e below s₁ (mkF m 8 #[.val (.int p1), .val (.long q2), .second, .val (.long q3), .second, .val (.long q4), .second, .unset, .unset, .unset, .unset, .unset, .unset, .unset, .unset, .unset, .unset, .unset, .unset, .unset, .unset, .unset, .unset, .unset, .unset] [(.int ((p1 &&& (2147483647 : Int32)) % (30 : Int32))), (.int (1 : Int32))]) _
  refine Go.by (fun t k => XS.iadd X0.here hx rfl (hb hby at_8) rfl k) ?_
  show Go p e below s₁ (mkF m 9 #[.val (.int p1), .val (.long q2), .second, .val (.long q3), .second, .val (.long q4), .second, .unset, .unset, .unset, .unset, .unset, .unset, .unset, .unset, .unset, .unset, .unset, .unset, .unset, .unset, .unset, .unset, .unset, .unset] [(.int ((1 : Int32) + ((p1 &&& (2147483647 : Int32)) % (30 : Int32))))]) _
  refine Go.by (fun t k => XS.istore X0.here hx rfl (hb hby at_9) rfl (l' := #[.val (.int p1), .val (.long q2), .second, .val (.long q3), .second, .val (.long q4), .second, .val (.int ((1 : Int32) + ((p1 &&& (2147483647 : Int32)) % (30 : Int32)))), .unset, .unset, .unset, .unset, .unset, .unset, .unset, .unset, .unset, .unset, .unset, .unset, .unset, .unset, .unset, .unset, .unset]) rfl k) ?_
  show Go p e below s₁ (mkF m 11 #[.val (.int p1), .val (.long q2), .second, .val (.long q3), .second, .val (.long q4), .second, .val (.int ((1 : Int32) + ((p1 &&& (2147483647 : Int32)) % (30 : Int32)))), .unset, .unset, .unset, .unset, .unset, .unset, .unset, .unset, .unset, .unset, .unset, .unset, .unset, .unset, .unset, .unset, .unset] []) _
  generalize h_lv : ((1 : Int32) + ((p1 &&& (2147483647 : Int32)) % (30 : Int32))) = lv
  have L := own_lev p1 lv h_lv
  obtain ⟨k, hk, hlk, hs, hs2⟩ := own_lv lv L.1 L.2
  refine Go.by (fun t k => X0.ldc2Long hx hown (mvT hZ (hw _ (List.mem_of_getElem? (i := 1) rfl))) (g := (mkF m 11 #[.val (.int p1), .val (.long q2), .second, .val (.long q3), .second, .val (.long q4), .second, .val (.int lv), .unset, .unset, .unset, .unset, .unset, .unset, .unset, .unset, .unset, .unset, .unset, .unset, .unset, .unset, .unset, .unset, .unset] [])) rfl (hb hby at_11) t k) ?_
  show Go p e below s₁ (mkF m 14 #[.val (.int p1), .val (.long q2), .second, .val (.long q3), .second, .val (.long q4), .second, .val (.int lv), .unset, .unset, .unset, .unset, .unset, .unset, .unset, .unset, .unset, .unset, .unset, .unset, .unset, .unset, .unset, .unset, .unset] [(.long (9223372036854775807 : Int64))]) _
  refine Go.by (fun t k => XS.iload X0.here hx rfl (hb hby at_14) rfl k) ?_
  show Go p e below s₁ (mkF m 16 #[.val (.int p1), .val (.long q2), .second, .val (.long q3), .second, .val (.long q4), .second, .val (.int lv), .unset, .unset, .unset, .unset, .unset, .unset, .unset, .unset, .unset, .unset, .unset, .unset, .unset, .unset, .unset, .unset, .unset] [(.int lv), (.long (9223372036854775807 : Int64))]) _
  refine Go.by (fun t k => XS.iconst X0.here hx rfl (hb hby at_16) k) ?_
  show Go p e below s₁ (mkF m 17 #[.val (.int p1), .val (.long q2), .second, .val (.long q3), .second, .val (.long q4), .second, .val (.int lv), .unset, .unset, .unset, .unset, .unset, .unset, .unset, .unset, .unset, .unset, .unset, .unset, .unset, .unset, .unset, .unset, .unset] [(.int (1 : Int32)), (.int lv), (.long (9223372036854775807 : Int64))]) _
  refine Go.by (fun t k => XS.isub X0.here hx rfl (hb hby at_17) rfl k) ?_
  show Go p e below s₁ (mkF m 18 #[.val (.int p1), .val (.long q2), .second, .val (.long q3), .second, .val (.long q4), .second, .val (.int lv), .unset, .unset, .unset, .unset, .unset, .unset, .unset, .unset, .unset, .unset, .unset, .unset, .unset, .unset, .unset, .unset, .unset] [(.int (lv - (1 : Int32))), (.long (9223372036854775807 : Int64))]) _
  refine Go.by (fun t k => XS.lshr X0.here hx rfl (hb hby at_18) rfl k) ?_
  show Go p e below s₁ (mkF m 19 #[.val (.int p1), .val (.long q2), .second, .val (.long q3), .second, .val (.long q4), .second, .val (.int lv), .unset, .unset, .unset, .unset, .unset, .unset, .unset, .unset, .unset, .unset, .unset, .unset, .unset, .unset, .unset, .unset, .unset] [(.long ((9223372036854775807 : Int64) >>> ((lv - (1 : Int32)) &&& 63).toInt64))]) _
  refine Go.by (fun t k => XS.lstore X0.here hx rfl (hb hby at_19) rfl (l' := #[.val (.int p1), .val (.long q2), .second, .val (.long q3), .second, .val (.long q4), .second, .val (.int lv), .val (.long ((9223372036854775807 : Int64) >>> ((lv - (1 : Int32)) &&& 63).toInt64)), .second, .unset, .unset, .unset, .unset, .unset, .unset, .unset, .unset, .unset, .unset, .unset, .unset, .unset, .unset, .unset]) rfl k) ?_
  show Go p e below s₁ (mkF m 21 #[.val (.int p1), .val (.long q2), .second, .val (.long q3), .second, .val (.long q4), .second, .val (.int lv), .val (.long ((9223372036854775807 : Int64) >>> ((lv - (1 : Int32)) &&& 63).toInt64)), .second, .unset, .unset, .unset, .unset, .unset, .unset, .unset, .unset, .unset, .unset, .unset, .unset, .unset, .unset, .unset] []) _
  generalize h_lm : ((9223372036854775807 : Int64) >>> ((lv - (1 : Int32)) &&& 63).toInt64) = lm
  have M := own_lm lv lm k hk hs h_lm
  have nlm := own_ne lm M.2.1
  refine Go.by (fun t k => XS.lconst X0.here hx rfl (hb hby at_21) k) ?_
  show Go p e below s₁ (mkF m 22 #[.val (.int p1), .val (.long q2), .second, .val (.long q3), .second, .val (.long q4), .second, .val (.int lv), .val (.long lm), .second, .unset, .unset, .unset, .unset, .unset, .unset, .unset, .unset, .unset, .unset, .unset, .unset, .unset, .unset, .unset] [(.long (1 : Int64))]) _
  refine Go.by (fun t k => XS.lloadN X0.here hx rfl (hb hby at_22) rfl k) ?_
  show Go p e below s₁ (mkF m 23 #[.val (.int p1), .val (.long q2), .second, .val (.long q3), .second, .val (.long q4), .second, .val (.int lv), .val (.long lm), .second, .unset, .unset, .unset, .unset, .unset, .unset, .unset, .unset, .unset, .unset, .unset, .unset, .unset, .unset, .unset] [(.long q2), (.long (1 : Int64))]) _
  refine Go.by (fun t k => X0.ldc2Long hx hown (mvT hZ (hw _ (List.mem_of_getElem? (i := 1) rfl))) (g := (mkF m 23 #[.val (.int p1), .val (.long q2), .second, .val (.long q3), .second, .val (.long q4), .second, .val (.int lv), .val (.long lm), .second, .unset, .unset, .unset, .unset, .unset, .unset, .unset, .unset, .unset, .unset, .unset, .unset, .unset, .unset, .unset] [(.long q2), (.long (1 : Int64))])) rfl (hb hby at_23) t k) ?_
  show Go p e below s₁ (mkF m 26 #[.val (.int p1), .val (.long q2), .second, .val (.long q3), .second, .val (.long q4), .second, .val (.int lv), .val (.long lm), .second, .unset, .unset, .unset, .unset, .unset, .unset, .unset, .unset, .unset, .unset, .unset, .unset, .unset, .unset, .unset] [(.long (9223372036854775807 : Int64)), (.long q2), (.long (1 : Int64))]) _
  refine Go.by (fun t k => XS.land X0.here hx rfl (hb hby at_26) rfl k) ?_
  show Go p e below s₁ (mkF m 27 #[.val (.int p1), .val (.long q2), .second, .val (.long q3), .second, .val (.long q4), .second, .val (.int lv), .val (.long lm), .second, .unset, .unset, .unset, .unset, .unset, .unset, .unset, .unset, .unset, .unset, .unset, .unset, .unset, .unset, .unset] [(.long (q2 &&& (9223372036854775807 : Int64))), (.long (1 : Int64))]) _
  refine Go.by (fun t k => XS.lload X0.here hx rfl (hb hby at_27) rfl k) ?_
  show Go p e below s₁ (mkF m 29 #[.val (.int p1), .val (.long q2), .second, .val (.long q3), .second, .val (.long q4), .second, .val (.int lv), .val (.long lm), .second, .unset, .unset, .unset, .unset, .unset, .unset, .unset, .unset, .unset, .unset, .unset, .unset, .unset, .unset, .unset] [(.long lm), (.long (q2 &&& (9223372036854775807 : Int64))), (.long (1 : Int64))]) _
  refine Go.by (fun t k => XS.lrem X0.here hx rfl (hb hby at_29) rfl nlm k) ?_
  show Go p e below s₁ (mkF m 30 #[.val (.int p1), .val (.long q2), .second, .val (.long q3), .second, .val (.long q4), .second, .val (.int lv), .val (.long lm), .second, .unset, .unset, .unset, .unset, .unset, .unset, .unset, .unset, .unset, .unset, .unset, .unset, .unset, .unset, .unset] [(.long ((q2 &&& (9223372036854775807 : Int64)) - (q2 &&& (9223372036854775807 : Int64)) / lm * lm)), (.long (1 : Int64))]) _
  refine Go.by (fun t k => XS.ladd X0.here hx rfl (hb hby at_30) rfl k) ?_
  show Go p e below s₁ (mkF m 31 #[.val (.int p1), .val (.long q2), .second, .val (.long q3), .second, .val (.long q4), .second, .val (.int lv), .val (.long lm), .second, .unset, .unset, .unset, .unset, .unset, .unset, .unset, .unset, .unset, .unset, .unset, .unset, .unset, .unset, .unset] [(.long ((1 : Int64) + ((q2 &&& (9223372036854775807 : Int64)) - (q2 &&& (9223372036854775807 : Int64)) / lm * lm)))]) _
  refine Go.by (fun t k => XS.lstore X0.here hx rfl (hb hby at_31) rfl (l' := #[.val (.int p1), .val (.long q2), .second, .val (.long q3), .second, .val (.long q4), .second, .val (.int lv), .val (.long lm), .second, .val (.long ((1 : Int64) + ((q2 &&& (9223372036854775807 : Int64)) - (q2 &&& (9223372036854775807 : Int64)) / lm * lm))), .second, .unset, .unset, .unset, .unset, .unset, .unset, .unset, .unset, .unset, .unset, .unset, .unset, .unset]) rfl k) ?_
  show Go p e below s₁ (mkF m 33 #[.val (.int p1), .val (.long q2), .second, .val (.long q3), .second, .val (.long q4), .second, .val (.int lv), .val (.long lm), .second, .val (.long ((1 : Int64) + ((q2 &&& (9223372036854775807 : Int64)) - (q2 &&& (9223372036854775807 : Int64)) / lm * lm))), .second, .unset, .unset, .unset, .unset, .unset, .unset, .unset, .unset, .unset, .unset, .unset, .unset, .unset] []) _
  generalize h_lf : ((1 : Int64) + ((q2 &&& (9223372036854775807 : Int64)) - (q2 &&& (9223372036854775807 : Int64)) / lm * lm)) = lf
  have F := own_lf q2 lm lf M.2.1 h_lf
  refine Go.by (fun t k => XS.lload X0.here hx rfl (hb hby at_33) rfl k) ?_
  show Go p e below s₁ (mkF m 35 #[.val (.int p1), .val (.long q2), .second, .val (.long q3), .second, .val (.long q4), .second, .val (.int lv), .val (.long lm), .second, .val (.long lf), .second, .unset, .unset, .unset, .unset, .unset, .unset, .unset, .unset, .unset, .unset, .unset, .unset, .unset] [(.long lf)]) _
  refine Go.by (fun t k => XS.iload X0.here hx rfl (hb hby at_35) rfl k) ?_
  show Go p e below s₁ (mkF m 37 #[.val (.int p1), .val (.long q2), .second, .val (.long q3), .second, .val (.long q4), .second, .val (.int lv), .val (.long lm), .second, .val (.long lf), .second, .unset, .unset, .unset, .unset, .unset, .unset, .unset, .unset, .unset, .unset, .unset, .unset, .unset] [(.int lv), (.long lf)]) _
  refine Go.by (fun t k => XS.iconst X0.here hx rfl (hb hby at_37) k) ?_
  show Go p e below s₁ (mkF m 38 #[.val (.int p1), .val (.long q2), .second, .val (.long q3), .second, .val (.long q4), .second, .val (.int lv), .val (.long lm), .second, .val (.long lf), .second, .unset, .unset, .unset, .unset, .unset, .unset, .unset, .unset, .unset, .unset, .unset, .unset, .unset] [(.int (1 : Int32)), (.int lv), (.long lf)]) _
  refine Go.by (fun t k => XS.isub X0.here hx rfl (hb hby at_38) rfl k) ?_
  show Go p e below s₁ (mkF m 39 #[.val (.int p1), .val (.long q2), .second, .val (.long q3), .second, .val (.long q4), .second, .val (.int lv), .val (.long lm), .second, .val (.long lf), .second, .unset, .unset, .unset, .unset, .unset, .unset, .unset, .unset, .unset, .unset, .unset, .unset, .unset] [(.int (lv - (1 : Int32))), (.long lf)]) _
  refine Go.by (fun t k => XS.lshl X0.here hx rfl (hb hby at_39) rfl k) ?_
  show Go p e below s₁ (mkF m 40 #[.val (.int p1), .val (.long q2), .second, .val (.long q3), .second, .val (.long q4), .second, .val (.int lv), .val (.long lm), .second, .val (.long lf), .second, .unset, .unset, .unset, .unset, .unset, .unset, .unset, .unset, .unset, .unset, .unset, .unset, .unset] [(.long (lf <<< ((lv - (1 : Int32)) &&& 63).toInt64))]) _
  refine Go.by (fun t k => XS.lstore X0.here hx rfl (hb hby at_40) rfl (l' := #[.val (.int p1), .val (.long q2), .second, .val (.long q3), .second, .val (.long q4), .second, .val (.int lv), .val (.long lm), .second, .val (.long lf), .second, .val (.long (lf <<< ((lv - (1 : Int32)) &&& 63).toInt64)), .second, .unset, .unset, .unset, .unset, .unset, .unset, .unset, .unset, .unset, .unset, .unset]) rfl k) ?_
  show Go p e below s₁ (mkF m 42 #[.val (.int p1), .val (.long q2), .second, .val (.long q3), .second, .val (.long q4), .second, .val (.int lv), .val (.long lm), .second, .val (.long lf), .second, .val (.long (lf <<< ((lv - (1 : Int32)) &&& 63).toInt64)), .second, .unset, .unset, .unset, .unset, .unset, .unset, .unset, .unset, .unset, .unset, .unset] []) _
  generalize h_cv : (lf <<< ((lv - (1 : Int32)) &&& 63).toInt64) = cv
  have C := own_cv lv lm lf cv k hk hs M.2.2 F.1 F.2 h_cv
  have ncv := own_ne cv C.2
  refine Go.by (fun t k => XS.lconst X0.here hx rfl (hb hby at_42) k) ?_
  show Go p e below s₁ (mkF m 43 #[.val (.int p1), .val (.long q2), .second, .val (.long q3), .second, .val (.long q4), .second, .val (.int lv), .val (.long lm), .second, .val (.long lf), .second, .val (.long cv), .second, .unset, .unset, .unset, .unset, .unset, .unset, .unset, .unset, .unset, .unset, .unset] [(.long (1 : Int64))]) _
  refine Go.by (fun t k => XS.lloadN X0.here hx rfl (hb hby at_43) rfl k) ?_
  show Go p e below s₁ (mkF m 44 #[.val (.int p1), .val (.long q2), .second, .val (.long q3), .second, .val (.long q4), .second, .val (.int lv), .val (.long lm), .second, .val (.long lf), .second, .val (.long cv), .second, .unset, .unset, .unset, .unset, .unset, .unset, .unset, .unset, .unset, .unset, .unset] [(.long q3), (.long (1 : Int64))]) _
  refine Go.by (fun t k => X0.ldc2Long hx hown (mvT hZ (hw _ (List.mem_of_getElem? (i := 1) rfl))) (g := (mkF m 44 #[.val (.int p1), .val (.long q2), .second, .val (.long q3), .second, .val (.long q4), .second, .val (.int lv), .val (.long lm), .second, .val (.long lf), .second, .val (.long cv), .second, .unset, .unset, .unset, .unset, .unset, .unset, .unset, .unset, .unset, .unset, .unset] [(.long q3), (.long (1 : Int64))])) rfl (hb hby at_44) t k) ?_
  show Go p e below s₁ (mkF m 47 #[.val (.int p1), .val (.long q2), .second, .val (.long q3), .second, .val (.long q4), .second, .val (.int lv), .val (.long lm), .second, .val (.long lf), .second, .val (.long cv), .second, .unset, .unset, .unset, .unset, .unset, .unset, .unset, .unset, .unset, .unset, .unset] [(.long (9223372036854775807 : Int64)), (.long q3), (.long (1 : Int64))]) _
  refine Go.by (fun t k => XS.land X0.here hx rfl (hb hby at_47) rfl k) ?_
  show Go p e below s₁ (mkF m 48 #[.val (.int p1), .val (.long q2), .second, .val (.long q3), .second, .val (.long q4), .second, .val (.int lv), .val (.long lm), .second, .val (.long lf), .second, .val (.long cv), .second, .unset, .unset, .unset, .unset, .unset, .unset, .unset, .unset, .unset, .unset, .unset] [(.long (q3 &&& (9223372036854775807 : Int64))), (.long (1 : Int64))]) _
  refine Go.by (fun t k => XS.lload X0.here hx rfl (hb hby at_48) rfl k) ?_
  show Go p e below s₁ (mkF m 50 #[.val (.int p1), .val (.long q2), .second, .val (.long q3), .second, .val (.long q4), .second, .val (.int lv), .val (.long lm), .second, .val (.long lf), .second, .val (.long cv), .second, .unset, .unset, .unset, .unset, .unset, .unset, .unset, .unset, .unset, .unset, .unset] [(.long cv), (.long (q3 &&& (9223372036854775807 : Int64))), (.long (1 : Int64))]) _
  refine Go.by (fun t k => XS.lrem X0.here hx rfl (hb hby at_50) rfl ncv k) ?_
  show Go p e below s₁ (mkF m 51 #[.val (.int p1), .val (.long q2), .second, .val (.long q3), .second, .val (.long q4), .second, .val (.int lv), .val (.long lm), .second, .val (.long lf), .second, .val (.long cv), .second, .unset, .unset, .unset, .unset, .unset, .unset, .unset, .unset, .unset, .unset, .unset] [(.long ((q3 &&& (9223372036854775807 : Int64)) - (q3 &&& (9223372036854775807 : Int64)) / cv * cv)), (.long (1 : Int64))]) _
  refine Go.by (fun t k => XS.ladd X0.here hx rfl (hb hby at_51) rfl k) ?_
  show Go p e below s₁ (mkF m 52 #[.val (.int p1), .val (.long q2), .second, .val (.long q3), .second, .val (.long q4), .second, .val (.int lv), .val (.long lm), .second, .val (.long lf), .second, .val (.long cv), .second, .unset, .unset, .unset, .unset, .unset, .unset, .unset, .unset, .unset, .unset, .unset] [(.long ((1 : Int64) + ((q3 &&& (9223372036854775807 : Int64)) - (q3 &&& (9223372036854775807 : Int64)) / cv * cv)))]) _
  refine Go.by (fun t k => XS.lstore X0.here hx rfl (hb hby at_52) rfl (l' := #[.val (.int p1), .val (.long q2), .second, .val (.long q3), .second, .val (.long q4), .second, .val (.int lv), .val (.long lm), .second, .val (.long lf), .second, .val (.long cv), .second, .val (.long ((1 : Int64) + ((q3 &&& (9223372036854775807 : Int64)) - (q3 &&& (9223372036854775807 : Int64)) / cv * cv))), .second, .unset, .unset, .unset, .unset, .unset, .unset, .unset, .unset, .unset]) rfl k) ?_
  show Go p e below s₁ (mkF m 54 #[.val (.int p1), .val (.long q2), .second, .val (.long q3), .second, .val (.long q4), .second, .val (.int lv), .val (.long lm), .second, .val (.long lf), .second, .val (.long cv), .second, .val (.long ((1 : Int64) + ((q3 &&& (9223372036854775807 : Int64)) - (q3 &&& (9223372036854775807 : Int64)) / cv * cv))), .second, .unset, .unset, .unset, .unset, .unset, .unset, .unset, .unset, .unset] []) _
  generalize h_un : ((1 : Int64) + ((q3 &&& (9223372036854775807 : Int64)) - (q3 &&& (9223372036854775807 : Int64)) / cv * cv)) = un
  have U := own_lf q3 cv un C.2 h_un
  have nun := own_ne un U.1
  refine Go.by (fun t k => XS.lload X0.here hx rfl (hb hby at_54) rfl k) ?_
  show Go p e below s₁ (mkF m 56 #[.val (.int p1), .val (.long q2), .second, .val (.long q3), .second, .val (.long q4), .second, .val (.int lv), .val (.long lm), .second, .val (.long lf), .second, .val (.long cv), .second, .val (.long un), .second, .unset, .unset, .unset, .unset, .unset, .unset, .unset, .unset, .unset] [(.long q4)]) _
  refine Go.by (fun t k => X0.ldc2Long hx hown (mvT hZ (hw _ (List.mem_of_getElem? (i := 1) rfl))) (g := (mkF m 56 #[.val (.int p1), .val (.long q2), .second, .val (.long q3), .second, .val (.long q4), .second, .val (.int lv), .val (.long lm), .second, .val (.long lf), .second, .val (.long cv), .second, .val (.long un), .second, .unset, .unset, .unset, .unset, .unset, .unset, .unset, .unset, .unset] [(.long q4)])) rfl (hb hby at_56) t k) ?_
  show Go p e below s₁ (mkF m 59 #[.val (.int p1), .val (.long q2), .second, .val (.long q3), .second, .val (.long q4), .second, .val (.int lv), .val (.long lm), .second, .val (.long lf), .second, .val (.long cv), .second, .val (.long un), .second, .unset, .unset, .unset, .unset, .unset, .unset, .unset, .unset, .unset] [(.long (9223372036854775807 : Int64)), (.long q4)]) _
  refine Go.by (fun t k => XS.land X0.here hx rfl (hb hby at_59) rfl k) ?_
  show Go p e below s₁ (mkF m 60 #[.val (.int p1), .val (.long q2), .second, .val (.long q3), .second, .val (.long q4), .second, .val (.int lv), .val (.long lm), .second, .val (.long lf), .second, .val (.long cv), .second, .val (.long un), .second, .unset, .unset, .unset, .unset, .unset, .unset, .unset, .unset, .unset] [(.long (q4 &&& (9223372036854775807 : Int64)))]) _
  refine Go.by (fun t k => XS.lload X0.here hx rfl (hb hby at_60) rfl k) ?_
  show Go p e below s₁ (mkF m 62 #[.val (.int p1), .val (.long q2), .second, .val (.long q3), .second, .val (.long q4), .second, .val (.int lv), .val (.long lm), .second, .val (.long lf), .second, .val (.long cv), .second, .val (.long un), .second, .unset, .unset, .unset, .unset, .unset, .unset, .unset, .unset, .unset] [(.long un), (.long (q4 &&& (9223372036854775807 : Int64)))]) _
  refine Go.by (fun t k => XS.lrem X0.here hx rfl (hb hby at_62) rfl nun k) ?_
  show Go p e below s₁ (mkF m 63 #[.val (.int p1), .val (.long q2), .second, .val (.long q3), .second, .val (.long q4), .second, .val (.int lv), .val (.long lm), .second, .val (.long lf), .second, .val (.long cv), .second, .val (.long un), .second, .unset, .unset, .unset, .unset, .unset, .unset, .unset, .unset, .unset] [(.long ((q4 &&& (9223372036854775807 : Int64)) - (q4 &&& (9223372036854775807 : Int64)) / un * un))]) _
  refine Go.by (fun t k => XS.lstore X0.here hx rfl (hb hby at_63) rfl (l' := #[.val (.int p1), .val (.long q2), .second, .val (.long q3), .second, .val (.long q4), .second, .val (.int lv), .val (.long lm), .second, .val (.long lf), .second, .val (.long cv), .second, .val (.long un), .second, .val (.long ((q4 &&& (9223372036854775807 : Int64)) - (q4 &&& (9223372036854775807 : Int64)) / un * un)), .second, .unset, .unset, .unset, .unset, .unset, .unset, .unset]) rfl k) ?_
  show Go p e below s₁ (mkF m 65 #[.val (.int p1), .val (.long q2), .second, .val (.long q3), .second, .val (.long q4), .second, .val (.int lv), .val (.long lm), .second, .val (.long lf), .second, .val (.long cv), .second, .val (.long un), .second, .val (.long ((q4 &&& (9223372036854775807 : Int64)) - (q4 &&& (9223372036854775807 : Int64)) / un * un)), .second, .unset, .unset, .unset, .unset, .unset, .unset, .unset] []) _
  generalize h_off : ((q4 &&& (9223372036854775807 : Int64)) - (q4 &&& (9223372036854775807 : Int64)) / un * un) = off
  have O := own_of q4 un off U.1 h_off
  obtain ⟨T1, h1, X1, e1, E1, A1, D1, -, st1⟩ := newO X0 hx hZ hown (hw _ (List.mem_of_getElem? (i := 2) rfl)) (hw _ (List.mem_of_getElem? (i := 3) rfl)) (hw _ (List.mem_of_getElem? (i := 4) rfl)) e0 (g := (mkF m 65 #[.val (.int p1), .val (.long q2), .second, .val (.long q3), .second, .val (.long q4), .second, .val (.int lv), .val (.long lm), .second, .val (.long lf), .second, .val (.long cv), .second, .val (.long un), .second, .val (.long off), .second, .unset, .unset, .unset, .unset, .unset, .unset, .unset] [])) rfl (hb hby at_65) (by decide) (by decide)
  obtain ⟨b1, g1⟩ : ∃ z, z = h0.size := ⟨_, rfl⟩
  rw [← g1] at A1 D1 st1
  have gn1 : n0 ≤ b1 := Nat.le_trans Z0 (Nat.le_of_eq g1.symm)
  have Z1 : n0 ≤ h1.size := Nat.le_trans Z0 E1.1
  have F1_mUnitMillis : Fld Z h1 b1 "com/example/huangpu/huangpu/synopsis/AggregateTree" "mUnitMillis" "J" (.long (0 : Int64)) := D1 (Or.inr (hw _ (List.mem_of_getElem? (i := 13) rfl))) (ty := .long) (by decide)
  have F1_mLevels : Fld Z h1 b1 "com/example/huangpu/huangpu/synopsis/AggregateTree" "mLevels" "I" (.int (0 : Int32)) := D1 (Or.inr (hw _ (List.mem_of_getElem? (i := 15) rfl))) (ty := .int) (by decide)
  have F1_mLeafMillis : Fld Z h1 b1 "com/example/huangpu/huangpu/synopsis/AggregateTree" "mLeafMillis" "J" (.long (0 : Int64)) := D1 (Or.inr (hw _ (List.mem_of_getElem? (i := 17) rfl))) (ty := .long) (by decide)
  refine Go.by st1 ?_
  show Go p e below T1 (mkF m 68 #[.val (.int p1), .val (.long q2), .second, .val (.long q3), .second, .val (.long q4), .second, .val (.int lv), .val (.long lm), .second, .val (.long lf), .second, .val (.long cv), .second, .val (.long un), .second, .val (.long off), .second, .unset, .unset, .unset, .unset, .unset, .unset, .unset] [(.ref b1)]) _
  refine Go.by (fun t k => XS.dup X1.here hx rfl (hb hby at_68) rfl rfl k) ?_
  show Go p e below T1 (mkF m 69 #[.val (.int p1), .val (.long q2), .second, .val (.long q3), .second, .val (.long q4), .second, .val (.int lv), .val (.long lm), .second, .val (.long lf), .second, .val (.long cv), .second, .val (.long un), .second, .val (.long off), .second, .unset, .unset, .unset, .unset, .unset, .unset, .unset] [(.ref b1), (.ref b1)]) _
  refine Go.by (fun t k => XS.lload X1.here hx rfl (hb hby at_69) rfl k) ?_
  show Go p e below T1 (mkF m 71 #[.val (.int p1), .val (.long q2), .second, .val (.long q3), .second, .val (.long q4), .second, .val (.int lv), .val (.long lm), .second, .val (.long lf), .second, .val (.long cv), .second, .val (.long un), .second, .val (.long off), .second, .unset, .unset, .unset, .unset, .unset, .unset, .unset] [(.long un), (.ref b1), (.ref b1)]) _
  refine Go.by (fun t k => XS.iload X1.here hx rfl (hb hby at_71) rfl k) ?_
  show Go p e below T1 (mkF m 73 #[.val (.int p1), .val (.long q2), .second, .val (.long q3), .second, .val (.long q4), .second, .val (.int lv), .val (.long lm), .second, .val (.long lf), .second, .val (.long cv), .second, .val (.long un), .second, .val (.long off), .second, .unset, .unset, .unset, .unset, .unset, .unset, .unset] [(.int lv), (.long un), (.ref b1), (.ref b1)]) _
  refine Go.by (fun t k => XS.lload X1.here hx rfl (hb hby at_73) rfl k) ?_
  show Go p e below T1 (mkF m 75 #[.val (.int p1), .val (.long q2), .second, .val (.long q3), .second, .val (.long q4), .second, .val (.int lv), .val (.long lm), .second, .val (.long lf), .second, .val (.long cv), .second, .val (.long un), .second, .val (.long off), .second, .unset, .unset, .unset, .unset, .unset, .unset, .unset] [(.long lf), (.int lv), (.long un), (.ref b1), (.ref b1)]) _
  obtain ⟨_, _, ⟨T2, L2, k2, n2⟩, -, X2, ⟨Lc2, hQ2, l2, y2, z2⟩, st2⟩ := X1.specialBack hx (y := (⟨"com/example/huangpu/huangpu/synopsis/AggregateTree", "<init>", "(JIJ)V"⟩ : MethodName)) rfl hown (mvT hZ (hw _ (List.mem_of_getElem? (i := 5) rfl))) (mvT hZ (hw _ (List.mem_of_getElem? (i := 6) rfl))) (mvT hZ (hw _ (List.mem_of_getElem? (i := 7) rfl))) (by decide) (backOf (W := 1) (rm1 l Z a0 hw [] b1 un lv lf ((.long (0 : Int64))) ((.int (0 : Int32))) ((.long (0 : Int64))) h1 n0 Z1 A1 F1_mUnitMillis F1_mLevels F1_mLeafMillis gn1 (own_not1 lv L).1 (own_not1 lv L).2 (own_nlt _ _ (by rw [own_one64]; exact F.1)) (own_nlt _ _ (by rw [h_lm]; exact F.2)) (own_nlt _ _ (by rw [h_cv]; exact U.2))) hZ (hw _ (List.mem_of_getElem? (i := 7) rfl)) (hw _ (List.mem_of_getElem? (i := 4) rfl)) (by decide) (by decide)) (g := (mkF m 75 #[.val (.int p1), .val (.long q2), .second, .val (.long q3), .second, .val (.long q4), .second, .val (.int lv), .val (.long lm), .second, .val (.long lf), .second, .val (.long cv), .second, .val (.long un), .second, .val (.long off), .second, .unset, .unset, .unset, .unset, .unset, .unset, .unset] [(.long lf), (.int lv), (.long un), (.ref b1), (.ref b1)])) rfl (by rw [hml]; rfl) (Steps.refl _) (a := b1) (argsL := [(.long un), (.int lv), (.long lf)]) (rest := [(.ref b1)]) (lenOf pd_1 rfl) rfl (by show 2 * 0 + _ ≤ _; exact Nat.le_of_eq rfl) (hb hby at_75) (fun _ _ => ⟨rfl, e1, (by decide : 1 + 0 ≤ _), (by decide : 3 + 0 ≤ _)⟩)
  dsimp only [Pt.U, Pt.locs, Pt.cells, Pt.slots] at X2 l2 y2 z2 st2 hQ2
  subst l2 y2 z2
  obtain ⟨rfl, N2q, K2q, E2q, F2q_mUnitMillis, F2q_mLevels, F2q_mLeafMillis⟩ := hQ2
  have N2 := Fr.app N0 N2q
  have Z2 : n0 ≤ T2.heap.size := Nat.le_trans Z1 K2q.1
  refine Go.by (fun t k => st2.trans k) ?_
  show Go p e below T2 (mkF m 78 #[.val (.int p1), .val (.long q2), .second, .val (.long q3), .second, .val (.long q4), .second, .val (.int lv), .val (.long lm), .second, .val (.long lf), .second, .val (.long cv), .second, .val (.long un), .second, .val (.long off), .second, .unset, .unset, .unset, .unset, .unset, .unset, .unset] [(.ref b1)]) _
  refine Go.by (fun t k => XS.astore X2.here hx rfl (hb hby at_78) rfl rfl (l' := #[.val (.int p1), .val (.long q2), .second, .val (.long q3), .second, .val (.long q4), .second, .val (.int lv), .val (.long lm), .second, .val (.long lf), .second, .val (.long cv), .second, .val (.long un), .second, .val (.long off), .second, .val (.ref b1), .unset, .unset, .unset, .unset, .unset, .unset]) rfl k) ?_
  show Go p e below T2 (mkF m 80 #[.val (.int p1), .val (.long q2), .second, .val (.long q3), .second, .val (.long q4), .second, .val (.int lv), .val (.long lm), .second, .val (.long lf), .second, .val (.long cv), .second, .val (.long un), .second, .val (.long off), .second, .val (.ref b1), .unset, .unset, .unset, .unset, .unset, .unset] []) _
  refine Go.by (fun t k => XS.aload X2.here hx rfl (hb hby at_80) rfl rfl k) ?_
  show Go p e below T2 (mkF m 82 #[.val (.int p1), .val (.long q2), .second, .val (.long q3), .second, .val (.long q4), .second, .val (.int lv), .val (.long lm), .second, .val (.long lf), .second, .val (.long cv), .second, .val (.long un), .second, .val (.long off), .second, .val (.ref b1), .unset, .unset, .unset, .unset, .unset, .unset] [(.ref b1)]) _
  refine Go.by (fun t k => XS.lload X2.here hx rfl (hb hby at_82) rfl k) ?_
  show Go p e below T2 (mkF m 84 #[.val (.int p1), .val (.long q2), .second, .val (.long q3), .second, .val (.long q4), .second, .val (.int lv), .val (.long lm), .second, .val (.long lf), .second, .val (.long cv), .second, .val (.long un), .second, .val (.long off), .second, .val (.ref b1), .unset, .unset, .unset, .unset, .unset, .unset] [(.long off), (.ref b1)]) _
  obtain ⟨cq3, kq3, q3a, q3b, q3c⟩ := isOf hZ rfl E2q
  obtain ⟨_, _, ⟨T3, L3, k3, n3⟩, -, X3, ⟨Lc3, hQ3, l3, y3, z3⟩, st3⟩ := X2.virtualBack hx (y := (⟨"com/example/huangpu/huangpu/synopsis/AggregateTree", "leafOf", "(J)I"⟩ : MethodName)) (z := (⟨"com/example/huangpu/huangpu/synopsis/AggregateTree", "leafOf", "(J)I"⟩ : MethodName)) hown (mvT hZ (hw _ (List.mem_of_getElem? (i := 18) rfl))) (mvT hZ (hw _ (List.mem_of_getElem? (i := 19) rfl))) (notFace_of_selects (args := #[]) (mvT hZ (hw _ (List.mem_of_getElem? (i := 21) rfl)))) (mvT hZ (hw _ (List.mem_of_getElem? (i := 21) rfl))) (mvT hZ (hw _ (List.mem_of_getElem? (i := 20) rfl))) (by decide) (backOf (W := 0) (rm3 l Z a0 hw [] b1 off lv lf T2.heap n0 Z2 E2q F2q_mLevels F2q_mLeafMillis (own_ne lf F.1)) hZ (hw _ (List.mem_of_getElem? (i := 22) rfl)) (hw _ (List.mem_of_getElem? (i := 4) rfl)) (by decide) (by decide)) q3a q3c (g := (mkF m 84 #[.val (.int p1), .val (.long q2), .second, .val (.long q3), .second, .val (.long q4), .second, .val (.int lv), .val (.long lm), .second, .val (.long lf), .second, .val (.long cv), .second, .val (.long un), .second, .val (.long off), .second, .val (.ref b1), .unset, .unset, .unset, .unset, .unset, .unset] [(.long off), (.ref b1)])) rfl (by rw [hml]; rfl) (Steps.refl _) (argsL := [(.long off)]) (rest := []) (lenOf pd_2 rfl) rfl (by show 2 * 0 + _ ≤ _; exact Nat.le_of_eq rfl) (hb hby at_84) (fun _ _ => ⟨rfl, rfl, (by decide : 1 + 0 ≤ _), (by decide : 3 + 0 ≤ _)⟩)
  dsimp only [Pt.U, Pt.locs, Pt.cells, Pt.slots] at X3 l3 y3 z3 st3 hQ3
  subst l3 y3 z3
  obtain ⟨rfl, N3q, e3q⟩ := hQ3
  have N3 := Fr.app N2 N3q
  refine Go.by (fun t k => st3.trans k) ?_
  show Go p e below T3 (mkF m 87 #[.val (.int p1), .val (.long q2), .second, .val (.long q3), .second, .val (.long q4), .second, .val (.int lv), .val (.long lm), .second, .val (.long lf), .second, .val (.long cv), .second, .val (.long un), .second, .val (.long off), .second, .val (.ref b1), .unset, .unset, .unset, .unset, .unset, .unset] [(.int (((1 : Int32) <<< ((lv - (1 : Int32)) &&& 31)) + ((off / lf).toInt32)))]) _
  refine Go.by (fun t k => XS.istore X3.here hx rfl (hb hby at_87) rfl (l' := #[.val (.int p1), .val (.long q2), .second, .val (.long q3), .second, .val (.long q4), .second, .val (.int lv), .val (.long lm), .second, .val (.long lf), .second, .val (.long cv), .second, .val (.long un), .second, .val (.long off), .second, .val (.ref b1), .val (.int (((1 : Int32) <<< ((lv - (1 : Int32)) &&& 31)) + ((off / lf).toInt32))), .unset, .unset, .unset, .unset, .unset]) rfl k) ?_
  show Go p e below T3 (mkF m 89 #[.val (.int p1), .val (.long q2), .second, .val (.long q3), .second, .val (.long q4), .second, .val (.int lv), .val (.long lm), .second, .val (.long lf), .second, .val (.long cv), .second, .val (.long un), .second, .val (.long off), .second, .val (.ref b1), .val (.int (((1 : Int32) <<< ((lv - (1 : Int32)) &&& 31)) + ((off / lf).toInt32))), .unset, .unset, .unset, .unset, .unset] []) _
  generalize h_lfv : (((1 : Int32) <<< ((lv - (1 : Int32)) &&& 31)) + ((off / lf).toInt32)) = lfv
  refine Go.by (fun t k => XS.iconst X3.here hx rfl (hb hby at_89) k) ?_
  show Go p e below T3 (mkF m 90 #[.val (.int p1), .val (.long q2), .second, .val (.long q3), .second, .val (.long q4), .second, .val (.int lv), .val (.long lm), .second, .val (.long lf), .second, .val (.long cv), .second, .val (.long un), .second, .val (.long off), .second, .val (.ref b1), .val (.int lfv), .unset, .unset, .unset, .unset, .unset] [(.int (1 : Int32))]) _
  refine Go.by (fun t k => XS.iload X3.here hx rfl (hb hby at_90) rfl k) ?_
  show Go p e below T3 (mkF m 92 #[.val (.int p1), .val (.long q2), .second, .val (.long q3), .second, .val (.long q4), .second, .val (.int lv), .val (.long lm), .second, .val (.long lf), .second, .val (.long cv), .second, .val (.long un), .second, .val (.long off), .second, .val (.ref b1), .val (.int lfv), .unset, .unset, .unset, .unset, .unset] [(.int lv), (.int (1 : Int32))]) _
  refine Go.by (fun t k => XS.iconst X3.here hx rfl (hb hby at_92) k) ?_
  show Go p e below T3 (mkF m 93 #[.val (.int p1), .val (.long q2), .second, .val (.long q3), .second, .val (.long q4), .second, .val (.int lv), .val (.long lm), .second, .val (.long lf), .second, .val (.long cv), .second, .val (.long un), .second, .val (.long off), .second, .val (.ref b1), .val (.int lfv), .unset, .unset, .unset, .unset, .unset] [(.int (1 : Int32)), (.int lv), (.int (1 : Int32))]) _
  refine Go.by (fun t k => XS.isub X3.here hx rfl (hb hby at_93) rfl k) ?_
  show Go p e below T3 (mkF m 94 #[.val (.int p1), .val (.long q2), .second, .val (.long q3), .second, .val (.long q4), .second, .val (.int lv), .val (.long lm), .second, .val (.long lf), .second, .val (.long cv), .second, .val (.long un), .second, .val (.long off), .second, .val (.ref b1), .val (.int lfv), .unset, .unset, .unset, .unset, .unset] [(.int (lv - (1 : Int32))), (.int (1 : Int32))]) _
  refine Go.by (fun t k => XS.ishl X3.here hx rfl (hb hby at_94) rfl k) ?_
  show Go p e below T3 (mkF m 95 #[.val (.int p1), .val (.long q2), .second, .val (.long q3), .second, .val (.long q4), .second, .val (.int lv), .val (.long lm), .second, .val (.long lf), .second, .val (.long cv), .second, .val (.long un), .second, .val (.long off), .second, .val (.ref b1), .val (.int lfv), .unset, .unset, .unset, .unset, .unset] [(.int ((1 : Int32) <<< ((lv - (1 : Int32)) &&& 31)))]) _
  refine Go.by (fun t k => XS.istore X3.here hx rfl (hb hby at_95) rfl (l' := #[.val (.int p1), .val (.long q2), .second, .val (.long q3), .second, .val (.long q4), .second, .val (.int lv), .val (.long lm), .second, .val (.long lf), .second, .val (.long cv), .second, .val (.long un), .second, .val (.long off), .second, .val (.ref b1), .val (.int lfv), .val (.int ((1 : Int32) <<< ((lv - (1 : Int32)) &&& 31))), .unset, .unset, .unset, .unset]) rfl k) ?_
  show Go p e below T3 (mkF m 97 #[.val (.int p1), .val (.long q2), .second, .val (.long q3), .second, .val (.long q4), .second, .val (.int lv), .val (.long lm), .second, .val (.long lf), .second, .val (.long cv), .second, .val (.long un), .second, .val (.long off), .second, .val (.ref b1), .val (.int lfv), .val (.int ((1 : Int32) <<< ((lv - (1 : Int32)) &&& 31))), .unset, .unset, .unset, .unset] []) _
  generalize h_fl : ((1 : Int32) <<< ((lv - (1 : Int32)) &&& 31)) = fl
  refine Go.by (fun t k => XS.iload X3.here hx rfl (hb hby at_97) rfl k) ?_
  show Go p e below T3 (mkF m 99 #[.val (.int p1), .val (.long q2), .second, .val (.long q3), .second, .val (.long q4), .second, .val (.int lv), .val (.long lm), .second, .val (.long lf), .second, .val (.long cv), .second, .val (.long un), .second, .val (.long off), .second, .val (.ref b1), .val (.int lfv), .val (.int fl), .unset, .unset, .unset, .unset] [(.int lfv)]) _
  refine Go.by (fun t k => XS.i2l X3.here hx rfl (hb hby at_99) rfl k) ?_
  show Go p e below T3 (mkF m 100 #[.val (.int p1), .val (.long q2), .second, .val (.long q3), .second, .val (.long q4), .second, .val (.int lv), .val (.long lm), .second, .val (.long lf), .second, .val (.long cv), .second, .val (.long un), .second, .val (.long off), .second, .val (.ref b1), .val (.int lfv), .val (.int fl), .unset, .unset, .unset, .unset] [(.long (lfv.toInt64))]) _
  refine Go.by (fun t k => XS.iload X3.here hx rfl (hb hby at_100) rfl k) ?_
  show Go p e below T3 (mkF m 102 #[.val (.int p1), .val (.long q2), .second, .val (.long q3), .second, .val (.long q4), .second, .val (.int lv), .val (.long lm), .second, .val (.long lf), .second, .val (.long cv), .second, .val (.long un), .second, .val (.long off), .second, .val (.ref b1), .val (.int lfv), .val (.int fl), .unset, .unset, .unset, .unset] [(.int fl), (.long (lfv.toInt64))]) _
  refine Go.by (fun t k => XS.i2l X3.here hx rfl (hb hby at_102) rfl k) ?_
  show Go p e below T3 (mkF m 103 #[.val (.int p1), .val (.long q2), .second, .val (.long q3), .second, .val (.long q4), .second, .val (.int lv), .val (.long lm), .second, .val (.long lf), .second, .val (.long cv), .second, .val (.long un), .second, .val (.long off), .second, .val (.ref b1), .val (.int lfv), .val (.int fl), .unset, .unset, .unset, .unset] [(.long (fl.toInt64)), (.long (lfv.toInt64))]) _
  refine Go.by (fun t k => XS.lsub X3.here hx rfl (hb hby at_103) rfl k) ?_
  show Go p e below T3 (mkF m 104 #[.val (.int p1), .val (.long q2), .second, .val (.long q3), .second, .val (.long q4), .second, .val (.int lv), .val (.long lm), .second, .val (.long lf), .second, .val (.long cv), .second, .val (.long un), .second, .val (.long off), .second, .val (.ref b1), .val (.int lfv), .val (.int fl), .unset, .unset, .unset, .unset] [(.long ((lfv.toInt64) - (fl.toInt64)))]) _
  refine Go.by (fun t k => XS.lstore X3.here hx rfl (hb hby at_104) rfl (l' := #[.val (.int p1), .val (.long q2), .second, .val (.long q3), .second, .val (.long q4), .second, .val (.int lv), .val (.long lm), .second, .val (.long lf), .second, .val (.long cv), .second, .val (.long un), .second, .val (.long off), .second, .val (.ref b1), .val (.int lfv), .val (.int fl), .val (.long ((lfv.toInt64) - (fl.toInt64))), .second, .unset, .unset]) rfl k) ?_
  show Go p e below T3 (mkF m 106 #[.val (.int p1), .val (.long q2), .second, .val (.long q3), .second, .val (.long q4), .second, .val (.int lv), .val (.long lm), .second, .val (.long lf), .second, .val (.long cv), .second, .val (.long un), .second, .val (.long off), .second, .val (.ref b1), .val (.int lfv), .val (.int fl), .val (.long ((lfv.toInt64) - (fl.toInt64))), .second, .unset, .unset] []) _
  generalize h_k64 : ((lfv.toInt64) - (fl.toInt64)) = k64
  have R := own_end lv lf un off fl lfv k64 k hk hs2 F.1 O.2 O.1 (by rw [← C.1]; exact U.2) h_fl h_lfv h_k64
  refine Go.by (fun t k => XS.lload X3.here hx rfl (hb hby at_106) rfl k) ?_
  show Go p e below T3 (mkF m 108 #[.val (.int p1), .val (.long q2), .second, .val (.long q3), .second, .val (.long q4), .second, .val (.int lv), .val (.long lm), .second, .val (.long lf), .second, .val (.long cv), .second, .val (.long un), .second, .val (.long off), .second, .val (.ref b1), .val (.int lfv), .val (.int fl), .val (.long k64), .second, .unset, .unset] [(.long k64)]) _
  refine Go.by (fun t k => XS.lconst X3.here hx rfl (hb hby at_108) k) ?_
  show Go p e below T3 (mkF m 109 #[.val (.int p1), .val (.long q2), .second, .val (.long q3), .second, .val (.long q4), .second, .val (.int lv), .val (.long lm), .second, .val (.long lf), .second, .val (.long cv), .second, .val (.long un), .second, .val (.long off), .second, .val (.ref b1), .val (.int lfv), .val (.int fl), .val (.long k64), .second, .unset, .unset] [(.long (0 : Int64)), (.long k64)]) _
  refine Go.by (fun t k => XS.lcmp X3.here hx rfl (hb hby at_109) rfl k) ?_
  show Go p e below T3 (mkF m 110 #[.val (.int p1), .val (.long q2), .second, .val (.long q3), .second, .val (.long q4), .second, .val (.int lv), .val (.long lm), .second, .val (.long lf), .second, .val (.long cv), .second, .val (.long un), .second, .val (.long off), .second, .val (.ref b1), .val (.int lfv), .val (.int fl), .val (.long k64), .second, .unset, .unset] [(.int (lcmpW k64 (0 : Int64)))]) _
  refine Go.by (fun t k => XS.ifNo X3.here hx rfl (hb hby at_110) rfl (cflt (show ¬ (k64 < (0 : Int64)) from own_nlt _ _ (by rw [own_zero64]; exact R.2.1))).1 k) ?_
  show Go p e below T3 (mkF m 113 #[.val (.int p1), .val (.long q2), .second, .val (.long q3), .second, .val (.long q4), .second, .val (.int lv), .val (.long lm), .second, .val (.long lf), .second, .val (.long cv), .second, .val (.long un), .second, .val (.long off), .second, .val (.ref b1), .val (.int lfv), .val (.int fl), .val (.long k64), .second, .unset, .unset] []) _
  refine Go.by (fun t k => XS.lload X3.here hx rfl (hb hby at_113) rfl k) ?_
  show Go p e below T3 (mkF m 115 #[.val (.int p1), .val (.long q2), .second, .val (.long q3), .second, .val (.long q4), .second, .val (.int lv), .val (.long lm), .second, .val (.long lf), .second, .val (.long cv), .second, .val (.long un), .second, .val (.long off), .second, .val (.ref b1), .val (.int lfv), .val (.int fl), .val (.long k64), .second, .unset, .unset] [(.long k64)]) _
  refine Go.by (fun t k => XS.iload X3.here hx rfl (hb hby at_115) rfl k) ?_
  show Go p e below T3 (mkF m 117 #[.val (.int p1), .val (.long q2), .second, .val (.long q3), .second, .val (.long q4), .second, .val (.int lv), .val (.long lm), .second, .val (.long lf), .second, .val (.long cv), .second, .val (.long un), .second, .val (.long off), .second, .val (.ref b1), .val (.int lfv), .val (.int fl), .val (.long k64), .second, .unset, .unset] [(.int fl), (.long k64)]) _
  refine Go.by (fun t k => XS.i2l X3.here hx rfl (hb hby at_117) rfl k) ?_
  show Go p e below T3 (mkF m 118 #[.val (.int p1), .val (.long q2), .second, .val (.long q3), .second, .val (.long q4), .second, .val (.int lv), .val (.long lm), .second, .val (.long lf), .second, .val (.long cv), .second, .val (.long un), .second, .val (.long off), .second, .val (.ref b1), .val (.int lfv), .val (.int fl), .val (.long k64), .second, .unset, .unset] [(.long (fl.toInt64)), (.long k64)]) _
  refine Go.by (fun t k => XS.lcmp X3.here hx rfl (hb hby at_118) rfl k) ?_
  show Go p e below T3 (mkF m 119 #[.val (.int p1), .val (.long q2), .second, .val (.long q3), .second, .val (.long q4), .second, .val (.int lv), .val (.long lm), .second, .val (.long lf), .second, .val (.long cv), .second, .val (.long un), .second, .val (.long off), .second, .val (.ref b1), .val (.int lfv), .val (.int fl), .val (.long k64), .second, .unset, .unset] [(.int (lcmpW k64 (fl.toInt64)))]) _
  refine Go.by (fun t k => XS.ifYes X3.here hx rfl (pc0 := 119) (pc' := 124) rfl (hb hby at_119) rfl (ctlt (show k64 < (fl.toInt64) from (by rw [Int64.lt_iff_toInt_lt, Jvm.Kit.i64_of_i32]; exact R.2.2.1))).1 (by decide) (by decide) k) ?_
  show Go p e below T3 (mkF m 124 #[.val (.int p1), .val (.long q2), .second, .val (.long q3), .second, .val (.long q4), .second, .val (.int lv), .val (.long lm), .second, .val (.long lf), .second, .val (.long cv), .second, .val (.long un), .second, .val (.long off), .second, .val (.ref b1), .val (.int lfv), .val (.int fl), .val (.long k64), .second, .unset, .unset] []) _
  refine Go.by (fun t k => XS.lload X3.here hx rfl (hb hby at_124) rfl k) ?_
  show Go p e below T3 (mkF m 126 #[.val (.int p1), .val (.long q2), .second, .val (.long q3), .second, .val (.long q4), .second, .val (.int lv), .val (.long lm), .second, .val (.long lf), .second, .val (.long cv), .second, .val (.long un), .second, .val (.long off), .second, .val (.ref b1), .val (.int lfv), .val (.int fl), .val (.long k64), .second, .unset, .unset] [(.long k64)]) _
  refine Go.by (fun t k => XS.lload X3.here hx rfl (hb hby at_126) rfl k) ?_
  show Go p e below T3 (mkF m 128 #[.val (.int p1), .val (.long q2), .second, .val (.long q3), .second, .val (.long q4), .second, .val (.int lv), .val (.long lm), .second, .val (.long lf), .second, .val (.long cv), .second, .val (.long un), .second, .val (.long off), .second, .val (.ref b1), .val (.int lfv), .val (.int fl), .val (.long k64), .second, .unset, .unset] [(.long lf), (.long k64)]) _
  refine Go.by (fun t k => XS.lmul X3.here hx rfl (hb hby at_128) rfl k) ?_
  show Go p e below T3 (mkF m 129 #[.val (.int p1), .val (.long q2), .second, .val (.long q3), .second, .val (.long q4), .second, .val (.int lv), .val (.long lm), .second, .val (.long lf), .second, .val (.long cv), .second, .val (.long un), .second, .val (.long off), .second, .val (.ref b1), .val (.int lfv), .val (.int fl), .val (.long k64), .second, .unset, .unset] [(.long (k64 * lf))]) _
  refine Go.by (fun t k => XS.lstore X3.here hx rfl (hb hby at_129) rfl (l' := #[.val (.int p1), .val (.long q2), .second, .val (.long q3), .second, .val (.long q4), .second, .val (.int lv), .val (.long lm), .second, .val (.long lf), .second, .val (.long cv), .second, .val (.long un), .second, .val (.long off), .second, .val (.ref b1), .val (.int lfv), .val (.int fl), .val (.long k64), .second, .val (.long (k64 * lf)), .second]) rfl k) ?_
  show Go p e below T3 (mkF m 131 #[.val (.int p1), .val (.long q2), .second, .val (.long q3), .second, .val (.long q4), .second, .val (.int lv), .val (.long lm), .second, .val (.long lf), .second, .val (.long cv), .second, .val (.long un), .second, .val (.long off), .second, .val (.ref b1), .val (.int lfv), .val (.int fl), .val (.long k64), .second, .val (.long (k64 * lf)), .second] []) _
  refine Go.by (fun t k => XS.lload X3.here hx rfl (hb hby at_131) rfl k) ?_
  show Go p e below T3 (mkF m 133 #[.val (.int p1), .val (.long q2), .second, .val (.long q3), .second, .val (.long q4), .second, .val (.int lv), .val (.long lm), .second, .val (.long lf), .second, .val (.long cv), .second, .val (.long un), .second, .val (.long off), .second, .val (.ref b1), .val (.int lfv), .val (.int fl), .val (.long k64), .second, .val (.long (k64 * lf)), .second] [(.long (k64 * lf))]) _
  refine Go.by (fun t k => XS.lload X3.here hx rfl (hb hby at_133) rfl k) ?_
  show Go p e below T3 (mkF m 135 #[.val (.int p1), .val (.long q2), .second, .val (.long q3), .second, .val (.long q4), .second, .val (.int lv), .val (.long lm), .second, .val (.long lf), .second, .val (.long cv), .second, .val (.long un), .second, .val (.long off), .second, .val (.ref b1), .val (.int lfv), .val (.int fl), .val (.long k64), .second, .val (.long (k64 * lf)), .second] [(.long off), (.long (k64 * lf))]) _
  refine Go.by (fun t k => XS.lcmp X3.here hx rfl (hb hby at_135) rfl k) ?_
  show Go p e below T3 (mkF m 136 #[.val (.int p1), .val (.long q2), .second, .val (.long q3), .second, .val (.long q4), .second, .val (.int lv), .val (.long lm), .second, .val (.long lf), .second, .val (.long cv), .second, .val (.long un), .second, .val (.long off), .second, .val (.ref b1), .val (.int lfv), .val (.int fl), .val (.long k64), .second, .val (.long (k64 * lf)), .second] [(.int (lcmpW (k64 * lf) off))]) _
  refine Go.by (fun t k => XS.ifNo X3.here hx rfl (hb hby at_136) rfl (cflt (show ¬ (off < (k64 * lf)) from own_nlt _ _ R.2.2.2.1)).2.2.1 k) ?_
  show Go p e below T3 (mkF m 139 #[.val (.int p1), .val (.long q2), .second, .val (.long q3), .second, .val (.long q4), .second, .val (.int lv), .val (.long lm), .second, .val (.long lf), .second, .val (.long cv), .second, .val (.long un), .second, .val (.long off), .second, .val (.ref b1), .val (.int lfv), .val (.int fl), .val (.long k64), .second, .val (.long (k64 * lf)), .second] []) _
  refine Go.by (fun t k => XS.lload X3.here hx rfl (hb hby at_139) rfl k) ?_
  show Go p e below T3 (mkF m 141 #[.val (.int p1), .val (.long q2), .second, .val (.long q3), .second, .val (.long q4), .second, .val (.int lv), .val (.long lm), .second, .val (.long lf), .second, .val (.long cv), .second, .val (.long un), .second, .val (.long off), .second, .val (.ref b1), .val (.int lfv), .val (.int fl), .val (.long k64), .second, .val (.long (k64 * lf)), .second] [(.long off)]) _
  refine Go.by (fun t k => XS.lload X3.here hx rfl (hb hby at_141) rfl k) ?_
  show Go p e below T3 (mkF m 143 #[.val (.int p1), .val (.long q2), .second, .val (.long q3), .second, .val (.long q4), .second, .val (.int lv), .val (.long lm), .second, .val (.long lf), .second, .val (.long cv), .second, .val (.long un), .second, .val (.long off), .second, .val (.ref b1), .val (.int lfv), .val (.int fl), .val (.long k64), .second, .val (.long (k64 * lf)), .second] [(.long (k64 * lf)), (.long off)]) _
  refine Go.by (fun t k => XS.lsub X3.here hx rfl (hb hby at_143) rfl k) ?_
  show Go p e below T3 (mkF m 144 #[.val (.int p1), .val (.long q2), .second, .val (.long q3), .second, .val (.long q4), .second, .val (.int lv), .val (.long lm), .second, .val (.long lf), .second, .val (.long cv), .second, .val (.long un), .second, .val (.long off), .second, .val (.ref b1), .val (.int lfv), .val (.int fl), .val (.long k64), .second, .val (.long (k64 * lf)), .second] [(.long (off - (k64 * lf)))]) _
  refine Go.by (fun t k => XS.lload X3.here hx rfl (hb hby at_144) rfl k) ?_
  show Go p e below T3 (mkF m 146 #[.val (.int p1), .val (.long q2), .second, .val (.long q3), .second, .val (.long q4), .second, .val (.int lv), .val (.long lm), .second, .val (.long lf), .second, .val (.long cv), .second, .val (.long un), .second, .val (.long off), .second, .val (.ref b1), .val (.int lfv), .val (.int fl), .val (.long k64), .second, .val (.long (k64 * lf)), .second] [(.long lf), (.long (off - (k64 * lf)))]) _
  refine Go.by (fun t k => XS.lcmp X3.here hx rfl (hb hby at_146) rfl k) ?_
  show Go p e below T3 (mkF m 147 #[.val (.int p1), .val (.long q2), .second, .val (.long q3), .second, .val (.long q4), .second, .val (.int lv), .val (.long lm), .second, .val (.long lf), .second, .val (.long cv), .second, .val (.long un), .second, .val (.long off), .second, .val (.ref b1), .val (.int lfv), .val (.int fl), .val (.long k64), .second, .val (.long (k64 * lf)), .second] [(.int (lcmpW (off - (k64 * lf)) lf))]) _
  refine Go.by (fun t k => XS.ifNo X3.here hx rfl (hb hby at_147) rfl (ctlt (show (off - (k64 * lf)) < lf from (by rw [Int64.lt_iff_toInt_lt]; exact R.2.2.2.2))).2.1 k) ?_
  show Go p e below T3 (mkF m 150 #[.val (.int p1), .val (.long q2), .second, .val (.long q3), .second, .val (.long q4), .second, .val (.int lv), .val (.long lm), .second, .val (.long lf), .second, .val (.long cv), .second, .val (.long un), .second, .val (.long off), .second, .val (.ref b1), .val (.int lfv), .val (.int fl), .val (.long k64), .second, .val (.long (k64 * lf)), .second] []) _
  refine Go.by (fun t k => XS.iconst X3.here hx rfl (hb hby at_150) k) ?_
  show Go p e below T3 (mkF m 151 #[.val (.int p1), .val (.long q2), .second, .val (.long q3), .second, .val (.long q4), .second, .val (.int lv), .val (.long lm), .second, .val (.long lf), .second, .val (.long cv), .second, .val (.long un), .second, .val (.long off), .second, .val (.ref b1), .val (.int lfv), .val (.int fl), .val (.long k64), .second, .val (.long (k64 * lf)), .second] [(.int (1 : Int32))]) _
  refine Go.by (fun t k => XS.goto X3.here hx rfl (pc0 := 151) (pc' := 155) rfl (hb hby at_151) (by decide) (by decide) k) ?_
  show Go p e below T3 (mkF m 155 #[.val (.int p1), .val (.long q2), .second, .val (.long q3), .second, .val (.long q4), .second, .val (.int lv), .val (.long lm), .second, .val (.long lf), .second, .val (.long cv), .second, .val (.long un), .second, .val (.long off), .second, .val (.ref b1), .val (.int lfv), .val (.int fl), .val (.long k64), .second, .val (.long (k64 * lf)), .second] [(.int (1 : Int32))]) _
  obtain ⟨fs, hr, hrun, hended, hW, hsame⟩ := X3.leave (v := some (.int (1 : Int32))) (fun h => by rw [Bd.returns] at h; cases h)
  refine Go.done (retN X3 hx (t := .boolean) Bd.returns (by simp) (hb hby at_155) hr) hrun hended ⟨_, _, rfl, ?_, ⟨_, rfl⟩, hW, hsame.mono (by decide) (by decide)⟩
  show Q0 Z p1 q2 q3 q4 h0 n0 _ T3.heap _
  rw [e3q]
  exact ⟨rfl, N3⟩
set_option maxRecDepth 65536 in
set_option maxHeartbeats 40000000 in
theorem comes_1 {Post : Tables → Env → Array Value → State → Outcome → State → Prop} (hpost : ∀ tb e args s v u, (limb_1_1.after args s (.returned v) u = true ∧ limb_1_2.after args s (.returned v) u = true ∧ True) → FrameEnd s (.returned v) u (Jvm.fieldLocs frame_1_writes args s ++ Jvm.arrayLocs frame_1_arrays args s ++ Jvm.staticLocs frame_1_statics s) 16 128 → Post tb e args s (.returned v) u) :
    ArmFor flags0 classFile x code maxLocals ret World_1 tables_1 room_1 Calls_1 rest_1 Pre_1 Post := by
  intro l hfl _ _ p e ha hc hk s m args below hf hA hF happ hP
  obtain ⟨hcalls, hrest, hpre⟩ := hP
  obtain ⟨-, -, -, hnamed, -, -, -, hat⟩ := (Spec.applies_iff hf).mp happ
  obtain ⟨hg, hn⟩ := and_e (Cond.before_iff.mp (show (Jvm.Cond.and given_1 narrow_1).before args s = true from hpre))
  obtain ⟨g1, g2⟩ := and_e hg
  obtain ⟨g3, g4⟩ := and_e g2
  obtain ⟨g5, g6⟩ := and_e g4
  obtain ⟨g7, g8⟩ := and_e g6
  obtain ⟨w0, w1, w2, w3, rfl⟩ : ∃ w0 w1 w2 w3 : Value, args = #[w0, w1, w2, w3] := by
    have hs : args.size = 4 := by simpa [Cond.value, given_1] using g1
    obtain ⟨L⟩ := args
    match L, hs with
    | [w0, w1, w2, w3], _ => exact ⟨w0, w1, w2, w3, rfl⟩
  have hw := fun d (hd : d ∈ tables_1) => atoms_spec (ws := Jvm.Cond.code x code maxLocals ret :: tables_1) hat d (List.mem_cons_of_mem _ hd)
  obtain ⟨i0, ei0⟩ := is_v g3
  obtain rfl : w0 = (.int i0) := Option.some.inj ei0
  obtain ⟨i1, ei1⟩ := isL_v g5
  obtain rfl : w1 = (.long i1) := Option.some.inj ei1
  obtain ⟨i2, ei2⟩ := isL_v g7
  obtain rfl : w2 = (.long i2) := Option.some.inj ei2
  obtain ⟨i3, ei3⟩ := isL_v g8
  obtain rfl : w3 = (.long i3) := Option.some.inj ei3
  obtain ⟨n, o, h1, h2, h3, _, L, rfl, ⟨rfl, N⟩, hq⟩ := rm0 l s _ hw tables_1 i0 i1 i2 i3 s.heap s.heap.size (Nat.le_refl _) p e ha hc hk s m _ below hf ((Spec.applies_iff_loose hf).mp happ).1 ⟨rfl, State.Warmed39.refl s, rfl⟩ trivial
  refine ⟨n, _, h1, h2, h3, hpost _ _ _ _ _ _ ⟨Cond.after_iff.mpr rfl, Cond.after_iff.mpr (eq_i res_at (Term.int_eval (1)) rfl), trivial⟩ ⟨hq.1, hq.2.1, (hq.2.2.sift fun y hy => Or.inr (N y hy)).mono (by decide) (by decide)⟩⟩
theorem main_1_1 : Claimed_1_1 := comes_1 fun _ _ _ _ _ _ h hF => ⟨h.1, hF⟩
theorem main_1_2 : Claimed_1_2 := comes_1 fun _ _ _ _ _ _ h hF => ⟨h.2.1, hF⟩
end Jvm.Pilot.@@N@@
namespace Jvm.Pilot.@@N@@
open Jvm Jvm.ClassFile Sem Op Lib Jvm.Free Jvm.Stand Jvm.Pilot.@@N@@.Jvm.D
/-! MADE BY PROGRAM (witnessworld.py) out of the Statement's table words and the real class files: 9 classes; the members and pool entries that the words name. The judged class is class 1, her method 1. -/
namespace start1
open Jvm.ClassFile
def u (s : String) : CpInfo := .utf8 (stringToUtf16 s)
/-- a pool by its gaps: so many unusable entries, then the entry; so many at the end -/
def gap : Nat → List CpInfo → List CpInfo
  | 0, r => r
  | n + 1, r => .unusable :: gap n r
def poolList (es : List (Nat × CpInfo)) (last : Nat) : List CpInfo := es.foldr (fun e r => gap e.1 (e.2 :: r)) (gap last [])
def pool (es : List (Nat × CpInfo)) (last : Nat) : Array CpInfo := ⟨poolList es last⟩
def fileOf (pool : Array CpInfo) (this : Nat) (attrs : Array Attribute := #[]) (ms : Array MethodInfo := #[]) (fl : Nat := 33) (sup : Nat := 0) (ifs : Array Nat := #[]) (fds : Array FieldInfo := #[]) : ClassFile where
  minorVersion := 0
  majorVersion := 65
  constantPool := pool
  accessFlags := fl
  thisClass := this
  superClass := sup
  interfaces := ifs
  fields := fds
  methods := ms
  attributes := attrs
def plain (name : String) (sup : Option ClassId) : Class where
  name := name
  kind := .ordinary
  loader := none
  accessFlags := 33
  super := sup
  interfaces := #[]
  cf := none
  fields := #[]
  methods := #[]
  instanceTypes := #[]
  staticTypes := #[]
  resolved := #[]
  callSites := []
  init := .initialized
  statics := none
  mirror := none

def pool0 : Array CpInfo := pool [(5, u "<init>"), (0, u "()V"), (1, .class_ 10), (1, u "java/lang/Object")] 113

def k0c0 : Code := { maxStack := 0, maxLocals := 1, code := object_method_1_code, exceptionTable := #[], attributes := #[] }
def k0m0 : Method := { name := "<init>", desc := "()V", sig := { parameters := [], returnType := none }, accessFlags := 1, code := some k0c0 }
/-- java/lang/Object -/
def k0 : Class := { plain "java/lang/Object" none with
  accessFlags := 33
  interfaces := #[]
  cf := some (fileOf pool0 8 #[] #[{ accessFlags := 1, nameIndex := 5, descriptorIndex := 6, attributes := #[] }] 33 0 #[] #[])
  fields := #[]
  methods := #[k0m0]
  instanceTypes := #[]
  staticTypes := #[]
  resolved := Array.replicate 124 none
  statics := none }

def pool1 : Array CpInfo := pool [(2, .class_ 4), (1, u "java/lang/Object"), (0, u "<init>"), (0, u "()V"), (0, .integer 2147483647), (2, .long 9223372036854775807), (1, .class_ 13), (0, u "com/example/huangpu/huangpu/synopsis/AggregateTree"), (0, .methodref 12 15), (0, .nameAndType 5 16), (0, u "(JIJ)V"), (0, .methodref 12 18), (0, .nameAndType 19 20), (0, u "leafOf"), (0, u "(J)I"), (0, .class_ 22), (0, u "com/example/huangpu/huangpu/synopsis/AggregateTreeLeafOfPinLaw"), (2, u "law"), (0, u "(IJJJ)Z")] 3

def k1m0 : Method := { name := "<init>", desc := "()V", sig := { parameters := [], returnType := none }, accessFlags := 1, code := none }
def k1c1 : Code := { maxStack := 7, maxLocals := 25, code := code, exceptionTable := #[], attributes := #[] }
def k1m1 : Method := { name := "law", desc := "(IJJJ)Z", sig := { parameters := [.int, .long, .long, .long], returnType := some .boolean }, accessFlags := 9, code := some k1c1 }
/-- com/example/huangpu/huangpu/synopsis/AggregateTreeLeafOfPinLaw -/
def k1 : Class := { plain "com/example/huangpu/huangpu/synopsis/AggregateTreeLeafOfPinLaw" (some 0) with
  accessFlags := 49
  interfaces := #[]
  cf := some (fileOf pool1 21 #[] #[{ accessFlags := 1, nameIndex := 5, descriptorIndex := 6, attributes := #[] }, { accessFlags := 9, nameIndex := 25, descriptorIndex := 26, attributes := #[] }] 49 2 #[] #[])
  fields := #[]
  methods := #[k1m0, k1m1]
  instanceTypes := #[]
  staticTypes := #[]
  resolved := Array.replicate 30 none
  statics := none }

def pool2 : Array CpInfo := pool [(1, .methodref 2 3), (0, .class_ 4), (0, .nameAndType 5 6), (0, u "java/lang/Object"), (0, u "<init>"), (0, u "()V"), (0, .class_ 8), (0, u "com/example/huangpu/huangpu/synopsis/AggregateTree"), (2, .long 9223372036854775807), (10, .fieldref 7 23), (0, .nameAndType 24 25), (0, u "mUnitMillis"), (0, u "J"), (0, .fieldref 7 27), (0, .nameAndType 28 29), (0, u "mLevels"), (0, u "I"), (0, .fieldref 7 31), (0, .nameAndType 32 25), (0, u "mLeafMillis"), (0, .methodref 7 34), (0, .nameAndType 35 36), (0, u "firstLeaf"), (0, u "()I"), (109, .class_ 147), (0, u "com/example/huangpu/huangpu/synopsis/AggregateTree$PointsUnit"), (17, .class_ 167), (1, u "com/example/huangpu/huangpu/synopsis/AggregateTree$StoredUnit"), (18, u "ROOT"), (2, u "MAX_LEVELS"), (1, u "(JIJ)V"), (3, u "leafOf"), (0, u "(J)I")] 50

def k2c0 : Code := { maxStack := 7, maxLocals := 7, code := prog_13_method_1_code, exceptionTable := #[], attributes := #[] }
def k2m0 : Method := { name := "<init>", desc := "(JIJ)V", sig := { parameters := [.long, .int, .long], returnType := none }, accessFlags := 1, code := some k2c0 }
def k2c1 : Code := { maxStack := 5, maxLocals := 3, code := prog_13_method_2_code, exceptionTable := #[], attributes := #[] }
def k2m1 : Method := { name := "leafOf", desc := "(J)I", sig := { parameters := [.long], returnType := some .int }, accessFlags := 1, code := some k2c1 }
def k2c2 : Code := { maxStack := 3, maxLocals := 1, code := prog_13_method_11_code, exceptionTable := #[], attributes := #[] }
def k2m2 : Method := { name := "firstLeaf", desc := "()I", sig := { parameters := [], returnType := some .int }, accessFlags := 2, code := some k2c2 }
/-- com/example/huangpu/huangpu/synopsis/AggregateTree -/
def k2 : Class := { plain "com/example/huangpu/huangpu/synopsis/AggregateTree" (some 0) with
  accessFlags := 49
  interfaces := #[]
  cf := some (fileOf pool2 7 #[.nestMembers #[165, 146]] #[{ accessFlags := 1, nameIndex := 5, descriptorIndex := 191, attributes := #[] }, { accessFlags := 1, nameIndex := 195, descriptorIndex := 196, attributes := #[] }, { accessFlags := 2, nameIndex := 35, descriptorIndex := 36, attributes := #[] }] 49 2 #[] #[{ accessFlags := 26, nameIndex := 186, descriptorIndex := 29, attributes := #[] }, { accessFlags := 26, nameIndex := 189, descriptorIndex := 29, attributes := #[] }, { accessFlags := 18, nameIndex := 24, descriptorIndex := 25, attributes := #[] }, { accessFlags := 18, nameIndex := 28, descriptorIndex := 29, attributes := #[] }, { accessFlags := 18, nameIndex := 32, descriptorIndex := 25, attributes := #[] }])
  fields := #[{ name := "ROOT", type := .int, accessFlags := 26, slot := 0, constantValue := 0 }, { name := "MAX_LEVELS", type := .int, accessFlags := 26, slot := 1, constantValue := 0 }, { name := "mUnitMillis", type := .long, accessFlags := 18, slot := 0, constantValue := 0 }, { name := "mLevels", type := .int, accessFlags := 18, slot := 1, constantValue := 0 }, { name := "mLeafMillis", type := .long, accessFlags := 18, slot := 2, constantValue := 0 }]
  methods := #[k2m0, k2m1, k2m2]
  instanceTypes := #[.long, .int, .long]
  staticTypes := #[.int, .int]
  resolved := Array.replicate 247 none
  statics := none }

def pool3 : Array CpInfo := pool [(1, u "java/lang/Cloneable"), (0, .class_ 1), (0, u "java/lang/Object"), (0, .class_ 3)] 3

/-- java/lang/Cloneable -/
def k3 : Class := { plain "java/lang/Cloneable" (some 0) with
  accessFlags := 1537
  interfaces := #[]
  cf := some (fileOf pool3 2 #[] #[] 1537 4 #[] #[])
  fields := #[]
  methods := #[]
  instanceTypes := #[]
  staticTypes := #[]
  resolved := Array.replicate 8 none
  statics := none }

def pool4 : Array CpInfo := pool [(1, u "java/io/Serializable"), (0, .class_ 1), (0, u "java/lang/Object"), (0, .class_ 3)] 3

/-- java/io/Serializable -/
def k4 : Class := { plain "java/io/Serializable" (some 0) with
  accessFlags := 1537
  interfaces := #[]
  cf := some (fileOf pool4 2 #[] #[] 1537 4 #[] #[])
  fields := #[]
  methods := #[]
  instanceTypes := #[]
  staticTypes := #[]
  resolved := Array.replicate 8 none
  statics := none }

/-- the primitive byte -/
def k5 : Class := { plain "byte" none with kind := .primitive 'B', accessFlags := 0x411 }
/-- [B -/
def k6 : Class := { plain "[B" (some 0) with kind := .array 5 .byte, interfaces := #[3, 4], accessFlags := 1041 }

/-- the primitive int -/
def k7 : Class := { plain "int" none with kind := .primitive 'I', accessFlags := 0x411 }
/-- [I -/
def k8 : Class := { plain "[I" (some 0) with kind := .array 7 .int, interfaces := #[3, 4], accessFlags := 1041 }

def heap : Heap := #[]
def classes : Array Class := #[k0, k1, k2, k3, k4, k5, k6, k7, k8]
def interned : List (Array UInt16 × Addr) := []
def slotsUsed : Nat := 0
def theMethod : MethodId := ⟨1, 1⟩
def args0 : Array Value := #[.int 5, .long 6, .long 7, .long 8]
def aboutOver (below : List Frame) : State where
  vm := { classes := classes, interned := interned.toArray }
  heap := heap
  slotsUsed := slotsUsed
  threads := #[{ frames := .invoking theMethod args0 :: below }]
def below0 : List Frame := [.native { method := ⟨0, 0⟩, args := #[] }]
def about1 : State := aboutOver below0
def p0 : Program := .bare "" "" ""
def e0 : Env := launch0.env 0 0 0
theorem w_frames : about1.frames = Frame.invoking theMethod args0 :: below0 := rfl
set_option maxRecDepth 65536 in
theorem w_args : argsFit about1.vm theMethod args0 = true := by decide +kernel
set_option maxRecDepth 65536 in
theorem w_heap : heapFits about1 = true := by decide +kernel
set_option maxRecDepth 65536 in
theorem w_runnable : about1.curStatus? = some .runnable := by decide +kernel
set_option maxRecDepth 65536 in
theorem w_alone : about1.alone = true := by decide +kernel
set_option maxRecDepth 65536 in
theorem w_named : about1.methodNamed? x = some theMethod := by decide +kernel
set_option maxRecDepth 65536 in
theorem w_hears : about1.hears theMethod below0 = true := by decide +kernel
set_option maxRecDepth 65536 in
theorem w_ripe : about1.ripe theMethod args0 below0 = true := by decide +kernel
theorem w_running : about1.status = .running := rfl
set_option maxRecDepth 65536 in
theorem w_room : about1.hasRoom e0.platform room_1 = true :=
  launch0.hasRoom_least _ room_1 (by decide +kernel) (by decide +kernel) (by decide +kernel) (by decide +kernel) (by decide +kernel) (by decide +kernel)
theorem allAtoms_all (ts : List Jvm.Cond) (a : Array Jvm.Value) (st : Jvm.State) : (allAtoms ts).before a st = ts.all (fun c => c.before a st) := by
  induction ts with
  | nil => rfl
  | cons c t ih =>
    show (Jvm.Cond.and c (allAtoms t)).before a st = _
    rw [Jvm.Cond.before_and, ih, List.all_cons]
def words1 : List Jvm.Cond := Jvm.Cond.code x code maxLocals ret :: tables_1
/-- a 'code' word, met by the world's own term for the bytes: nothing is compared byte by byte -/
theorem code_word {y : MethodName} {bytes : ByteArray} {mx : Nat} {rt : Option FieldType} {a : Array Value} {s : State} {m : MethodId} {meth : Method} {c : Code} (h1 : s.methodNamed? y = some m) (h2 : s.vm.method? m = some meth) (h3 : meth.code = some c) (h4 : c.code = bytes)
    (h5 : (c.maxLocals == mx && c.exceptionTable.isEmpty && decide (c.maxStack ≤ mostOperands) && decide (meth.sig.returnType = rt) && !meth.locks && decide (parseMethodDescriptor y.desc = some meth.sig)) = true) : (Jvm.Cond.code y bytes mx rt).before a s = true := by
  simp only [Bool.and_eq_true, beq_iff_eq, Bool.not_eq_true', decide_eq_true_eq] at h5
  obtain ⟨⟨⟨⟨⟨g1, g2⟩, g3⟩, g4⟩, g5⟩, g6⟩ := h5
  simp [Cond.before, Cond.holds, Cond.value, h1, h2, h3, h4, g1, g2, g3, g4, g5, g6]
def isCode : Jvm.Cond → Bool
  | .code _ _ _ _ => true
  | _ => false
theorem all_split {L : List Jvm.Cond} {P : Jvm.Cond → Bool} (h1 : L.all (fun c => isCode c || P c) = true) (h2 : ∀ c ∈ L.filter isCode, P c = true) : L.all P = true := by
  refine List.all_eq_true.mpr fun c hc => ?_
  have h := List.all_eq_true.mp h1 c hc
  rcases Bool.eq_false_or_eq_true (isCode c) with hi | hi
  · exact h2 c (List.mem_filter.mpr ⟨hc, hi⟩)
  · simpa [hi] using h
set_option maxRecDepth 65536 in
theorem w_c0 : (Jvm.Cond.code x code maxLocals ret).before args0 about1 = true := code_word (m := ⟨1, 1⟩) (meth := k1m1) (c := k1c1) (by decide +kernel) rfl rfl rfl (by decide +kernel)
set_option maxRecDepth 65536 in
theorem w_c1 : (Jvm.Cond.code ({ cls := "com/example/huangpu/huangpu/synopsis/AggregateTree", name := "<init>", desc := "(JIJ)V" } : Jvm.MethodName) prog_13_method_1_code (7 : Nat) (Option.none : Option Jvm.ClassFile.FieldType)).before args0 about1 = true := code_word (m := ⟨2, 0⟩) (meth := k2m0) (c := k2c0) (by decide +kernel) rfl rfl rfl (by decide +kernel)
set_option maxRecDepth 65536 in
theorem w_c2 : (Jvm.Cond.code ({ cls := "java/lang/Object", name := "<init>", desc := "()V" } : Jvm.MethodName) object_method_1_code (1 : Nat) (Option.none : Option Jvm.ClassFile.FieldType)).before args0 about1 = true := code_word (m := ⟨0, 0⟩) (meth := k0m0) (c := k0c0) (by decide +kernel) rfl rfl rfl (by decide +kernel)
set_option maxRecDepth 65536 in
theorem w_c3 : (Jvm.Cond.code ({ cls := "com/example/huangpu/huangpu/synopsis/AggregateTree", name := "leafOf", desc := "(J)I" } : Jvm.MethodName) prog_13_method_2_code (3 : Nat) (Option.some Jvm.ClassFile.FieldType.int)).before args0 about1 = true := code_word (m := ⟨2, 1⟩) (meth := k2m1) (c := k2c1) (by decide +kernel) rfl rfl rfl (by decide +kernel)
set_option maxRecDepth 65536 in
theorem w_c4 : (Jvm.Cond.code ({ cls := "com/example/huangpu/huangpu/synopsis/AggregateTree", name := "firstLeaf", desc := "()I" } : Jvm.MethodName) prog_13_method_11_code (1 : Nat) (Option.some Jvm.ClassFile.FieldType.int)).before args0 about1 = true := code_word (m := ⟨2, 2⟩) (meth := k2m2) (c := k2c2) (by decide +kernel) rfl rfl rfl (by decide +kernel)
def codes1 : List Jvm.Cond := [Jvm.Cond.code x code maxLocals ret, Jvm.Cond.code ({ cls := "com/example/huangpu/huangpu/synopsis/AggregateTree", name := "<init>", desc := "(JIJ)V" } : Jvm.MethodName) prog_13_method_1_code (7 : Nat) (Option.none : Option Jvm.ClassFile.FieldType), Jvm.Cond.code ({ cls := "java/lang/Object", name := "<init>", desc := "()V" } : Jvm.MethodName) object_method_1_code (1 : Nat) (Option.none : Option Jvm.ClassFile.FieldType), Jvm.Cond.code ({ cls := "com/example/huangpu/huangpu/synopsis/AggregateTree", name := "leafOf", desc := "(J)I" } : Jvm.MethodName) prog_13_method_2_code (3 : Nat) (Option.some Jvm.ClassFile.FieldType.int), Jvm.Cond.code ({ cls := "com/example/huangpu/huangpu/synopsis/AggregateTree", name := "firstLeaf", desc := "()I" } : Jvm.MethodName) prog_13_method_11_code (1 : Nat) (Option.some Jvm.ClassFile.FieldType.int)]
set_option maxRecDepth 65536 in
theorem codes_eq : words1.filter isCode = codes1 := rfl
theorem w_codes : ∀ c ∈ words1.filter isCode, c.before args0 about1 = true := by
  rw [codes_eq]
  intro c hc
  simp only [codes1, List.mem_cons, List.not_mem_nil, or_false] at hc
  rcases hc with rfl | rfl | rfl | rfl | rfl
  · exact w_c0
  · exact w_c1
  · exact w_c2
  · exact w_c3
  · exact w_c4
set_option maxRecDepth 65536 in
theorem w_t1 : (words1.take 24).all (fun c => isCode c || c.before args0 about1) = true := by decide +kernel
set_option maxRecDepth 65536 in
theorem w_t2 : (words1.drop 24).all (fun c => isCode c || c.before args0 about1) = true := by decide +kernel
theorem w_tables : (allAtoms (Jvm.Cond.code x code maxLocals ret :: tables_1)).before args0 about1 = true := by
  rw [allAtoms_all]
  show words1.all (fun c => c.before args0 about1) = true
  refine all_split ?_ w_codes
  rw [← List.take_append_drop 24 words1, List.all_append, w_t1, w_t2]
  rfl
set_option maxRecDepth 65536 in
theorem w_case : (Jvm.Cond.and given_1 narrow_1).before args0 about1 = true := by decide +kernel
theorem w_applies : (headSpec (Jvm.Cond.code x code maxLocals ret :: tables_1) room_1).applies x e0.platform about1 = true :=
  (Spec.applies_iff w_frames).mpr ⟨w_running, w_runnable, w_alone, w_named, w_hears, w_ripe, w_room, w_tables⟩
theorem atStart : AtStart classFile x code maxLocals ret World_1 tables_1 room_1 Calls_1 rest_1 Pre_1 launch0 p0 e0 about1 theMethod args0 below0 :=
  ⟨lists_1, trivial, launch0.admits_env _ _ _, launch0.least_env, fairChoices_fair.cas, fairChoices_fair.clock, w_frames, w_args, w_heap, w_applies, trivial, trivial, w_case⟩
end start1
theorem witness_1 : WitnessClaimed_1 := ⟨start1.p0, start1.e0, start1.about1, start1.theMethod, start1.args0, start1.below0, start1.atStart⟩
end Jvm.Pilot.@@N@@
