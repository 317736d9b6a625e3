import JvmDerived
import JvmDerived.Pilot.@@N@@Statement
import JvmDerived.Pilot.@@N@@Code
set_option linter.unusedVariables false
set_option linter.unusedSimpArgs false
@@BLOCK:NumsL.lean.txt@@
namespace Jvm.RoadKit
open Sem ClassFile Op Lib Jvm.Stand Jvm.Free Jvm.LawKit
section New
variable {p : Program} {l : Launch} {e : Env} {R : Room} {s : State} {m : MethodId} {args : Array Value} {below : List Frame} {meth : Method} {c : Code} {T : State} {locs : List Loc} {cells slots : Nat}
theorem retI (X : Stand p l e R s m args below meth c T locs cells slots) (hx : p.tables.exec = Jvm.exec) {pc : Nat} {Ls : Array Slot} {z : Int32} {rest : List Value} (hret : meth.sig.returnType = some .int) (hd : decode c.code pc = .ok (.ireturn, 1)) {fs : List Frame}
    (hl : ∀ (f : JFrame) (acts : List Action), f.method = m → f.locked = none → f.entered = [] → (doReturn e (T.setTop f) acts (some (.int z))).1 = T.setFrames fs) : Steps p.tables e below (T.setTop (mkF m pc Ls (.int z :: rest))) (T.setFrames fs) :=
  retOut X hx hret rfl (Or.inl ⟨rfl, Or.inl rfl, z, rfl⟩) hd hl
theorem retJ (X : Stand p l e R s m args below meth c T locs cells slots) (hx : p.tables.exec = Jvm.exec) {pc : Nat} {Ls : Array Slot} {z : Int64} {rest : List Value} (hret : meth.sig.returnType = some .long) (hd : decode c.code pc = .ok (.lreturn, 1)) {fs : List Frame}
    (hl : ∀ (f : JFrame) (acts : List Action), f.method = m → f.locked = none → f.entered = [] → (doReturn e (T.setTop f) acts (some (.long z))).1 = T.setFrames fs) : Steps p.tables e below (T.setTop (mkF m pc Ls (.long z :: rest))) (T.setFrames fs) :=
  retOut X hx hret rfl (Or.inr (Or.inl ⟨rfl, rfl, z, rfl⟩)) hd hl
theorem retA (X : Stand p l e R s m args below meth c T locs cells slots) (hx : p.tables.exec = Jvm.exec) {pc : Nat} {Ls : Array Slot} {w : Value} {t : FieldType} {rest : List Value} (hret : meth.sig.returnType = some t) (hn : narrow t w = w) (ht : t.isReference = true ∧ w.isRef = true) (hd : decode c.code pc = .ok (.areturn, 1)) {fs : List Frame}
    (hl : ∀ (f : JFrame) (acts : List Action), f.method = m → f.locked = none → f.entered = [] → (doReturn e (T.setTop f) acts (some w)).1 = T.setFrames fs) : Steps p.tables e below (T.setTop (mkF m pc Ls (w :: rest))) (T.setFrames fs) :=
  retOut X hx hret hn (Or.inr (Or.inr (Or.inr (Or.inr ⟨rfl, ht.1, ht.2⟩)))) hd hl
def Go (p : Program) (e : Env) (below : List Frame) (T : State) (f : JFrame) (Post : Outcome → State → Prop) : Prop :=
  ∃ s₂ o, Steps p.tables e below (T.setTop f) s₂ ∧ s₂.status = .running ∧ Ended s₂ below o ∧ Post o s₂
theorem Go.by {T T' : State} {f f' : JFrame} {Post : Outcome → State → Prop} (st : ∀ t, Steps p.tables e below (T'.setTop f') t → Steps p.tables e below (T.setTop f) t) (k : Go p e below T' f' Post) : Go p e below T f Post := by
  obtain ⟨s2, o, a, b⟩ := k
  exact ⟨s2, o, st _ a, b⟩
theorem Go.start {T : State} {f g : JFrame} {Post : Outcome → State → Prop} (q : f = g) (k : Go p e below T g Post) : ∃ s₂ o, Steps p.tables e below (T.setTop f) s₂ ∧ s₂.status = .running ∧ Ended s₂ below o ∧ Post o s₂ := by
  subst q; exact k
theorem Go.done {T s₂ : State} {f : JFrame} {o : Outcome} {Post : Outcome → State → Prop} (a : Steps p.tables e below (T.setTop f) s₂) (b : s₂.status = .running) (c : Ended s₂ below o) (d : Post o s₂) : Go p e below T f Post := ⟨s₂, o, a, b, c, d⟩
def own_ushr (x y : Int32) : Int32 := (x.toUInt32 >>> (y &&& 31).toUInt32).toInt32
def own_ushrL (x : Int64) (y : Int32) : Int64 := (x.toUInt64 >>> (y &&& 63).toInt64.toUInt64).toInt64
theorem own_cmpV (x y : Int64) : lcmpW x y = lcmpV x y := lcW x y
theorem own_holdsLt (z : Int32) : ifCond.holds .lt z = decide (z < 0) := rfl
theorem own_holdsGe (z : Int32) : ifCond.holds .ge z = decide (z ≥ 0) := rfl
theorem own_holdsGt (z : Int32) : ifCond.holds .gt z = decide (z > 0) := rfl
theorem own_holdsLe (z : Int32) : ifCond.holds .le z = decide (z ≤ 0) := rfl
theorem own_holdsEq (z : Int32) : ifCond.holds .eq z = (z == 0) := rfl
theorem own_holdsNe (z : Int32) : ifCond.holds .ne z = (z != 0) := rfl
theorem ctlt {x y : Int64} (h : x < y) : ifCond.holds .lt (lcmpW x y) = true ∧ ifCond.holds .ge (lcmpW x y) = false ∧ ifCond.holds .gt (lcmpW y x) = true ∧ ifCond.holds .le (lcmpW y x) = false := by
  rw [own_holdsLt, own_holdsGe, own_holdsGt, own_holdsLe, own_cmpV, own_cmpV]
  refine ⟨decide_eq_true ((lc_lt x y).mpr h), decide_eq_false fun q => ?_, decide_eq_true ((lc_gt y x).mpr h), decide_eq_false fun q => ?_⟩
  · exact Int64.not_le.mpr h ((lc_ge x y).mp q)
  · exact Int64.not_le.mpr h ((lc_le y x).mp q)
theorem cflt {x y : Int64} (h : ¬ x < y) : ifCond.holds .lt (lcmpW x y) = false ∧ ifCond.holds .ge (lcmpW x y) = true ∧ ifCond.holds .gt (lcmpW y x) = false ∧ ifCond.holds .le (lcmpW y x) = true := by
  rw [own_holdsLt, own_holdsGe, own_holdsGt, own_holdsLe, own_cmpV, own_cmpV]
  exact ⟨decide_eq_false fun q => h ((lc_lt x y).mp q), decide_eq_true ((lc_ge x y).mpr (Int64.not_lt.mp h)), decide_eq_false fun q => h ((lc_gt y x).mp q), decide_eq_true ((lc_le y x).mpr (Int64.not_lt.mp h))⟩
theorem cteq {x y : Int64} (h : x = y) : ifCond.holds .eq (lcmpW x y) = true ∧ ifCond.holds .ne (lcmpW x y) = false := by
  rw [own_holdsEq, own_holdsNe, own_cmpV, (lc_eq x y).mpr h]; exact ⟨rfl, rfl⟩
theorem cfeq {x y : Int64} (h : ¬ x = y) : ifCond.holds .eq (lcmpW x y) = false ∧ ifCond.holds .ne (lcmpW x y) = true := by
  have q : ¬ lcmpV x y = 0 := fun r => h ((lc_eq x y).mp r)
  rw [own_holdsEq, own_holdsNe, own_cmpV]
  exact ⟨beq_false_of_ne q, bne_iff_ne.mpr q⟩
theorem Arr.keep {Z : State} {h h' : Heap} {a : Addr} {cl : Cell} {ty : FieldType} {ws : List Addr} (F : Arr Z h a cl ty) (K : Keep h h' ws) (q : a ∉ ws) : Arr Z h' a cl ty := ⟨K.2.1 a cl F.1 q, F.2⟩
theorem own_selPriv {y : MethodName} {s : State} {args : Array Value} {n : Nat} (hy : y.cls ≠ "java/lang/invoke/MethodHandle" ∧ y.cls ≠ "java/lang/invoke/VarHandle") (hins : (Cond.instantiable y.cls n).before args s = true) (hpriv : (Cond.privateMethod y).before args s = true) (hinst : (Cond.instanceMethod y).before args s = true) :
    (Cond.selects y.cls y y).before args s = true := by
  obtain ⟨c, k, hc, hk, -, hniab, -, -⟩ := Cond.instantiable_spec hins
  have hni : k.isInterface = false := (Bool.or_eq_false_iff.mp hniab).1
  obtain ⟨mk, methM, hnamed, hmethM, -, -⟩ := Cond.instanceMethod_spec hinst
  have hfound : s.methodFound? y.cls y.name y.desc = some mk := State.methodFound?_of_named hnamed hy
  have hcls : mk.cls = c := Option.some.inj ((findClass_of_methodNamed hnamed).symm.trans hc)
  have hsel : selectMethod {} s.vm c mk = .method mk := selectMethod_private hmethM (Cond.privateMethod_at hpriv mk methM hnamed hmethM)
  simp only [Cond.before, Cond.holds, Cond.value, hc, hfound, hnamed, hsel, hcls, hk]
  simp; exact hni
end New
end Jvm.RoadKit
namespace Jvm.Pilot.@@N@@
open Jvm Jvm.ClassFile Sem Op Lib Jvm.Free Jvm.Stand Jvm.LawKit Jvm.RoadKit Bundle Jvm.Pilot.@@N@@.Jvm.D
theorem d1_0 : decode prog_13_method_1_code 0 = .ok (.aload_n 0, 1) := by decide +kernel
theorem d1_1 : decode prog_13_method_1_code 1 = .ok (.invokespecial 1, 3) := by decide +kernel
theorem d1_4 : decode prog_13_method_1_code 4 = .ok (.iload_n 3, 1) := by decide +kernel
theorem d1_5 : decode prog_13_method_1_code 5 = .ok (.iconst 1, 1) := by decide +kernel
theorem d1_6 : decode prog_13_method_1_code 6 = .ok (.if_icmp .lt 20, 3) := by decide +kernel
theorem d1_9 : decode prog_13_method_1_code 9 = .ok (.iload_n 3, 1) := by decide +kernel
theorem d1_10 : decode prog_13_method_1_code 10 = .ok (.bipush 30, 2) := by decide +kernel
theorem d1_12 : decode prog_13_method_1_code 12 = .ok (.if_icmp .gt 14, 3) := by decide +kernel
theorem d1_15 : decode prog_13_method_1_code 15 = .ok (.lload 4, 2) := by decide +kernel
theorem d1_17 : decode prog_13_method_1_code 17 = .ok (.lconst 1, 1) := by decide +kernel
theorem d1_18 : decode prog_13_method_1_code 18 = .ok (.lcmp, 1) := by decide +kernel
theorem d1_19 : decode prog_13_method_1_code 19 = .ok (.ifCond .lt 7, 3) := by decide +kernel
theorem d1_22 : decode prog_13_method_1_code 22 = .ok (.iconst 1, 1) := by decide +kernel
theorem d1_23 : decode prog_13_method_1_code 23 = .ok (.goto 4, 3) := by decide +kernel
theorem d1_27 : decode prog_13_method_1_code 27 = .ok (.istore 6, 2) := by decide +kernel
theorem d1_29 : decode prog_13_method_1_code 29 = .ok (.iload 6, 2) := by decide +kernel
theorem d1_31 : decode prog_13_method_1_code 31 = .ok (.ifCond .eq 27, 3) := by decide +kernel
theorem d1_34 : decode prog_13_method_1_code 34 = .ok (.lload 4, 2) := by decide +kernel
theorem d1_36 : decode prog_13_method_1_code 36 = .ok (.ldc2_w 11, 3) := by decide +kernel
theorem d1_39 : decode prog_13_method_1_code 39 = .ok (.iload_n 3, 1) := by decide +kernel
theorem d1_40 : decode prog_13_method_1_code 40 = .ok (.iconst 1, 1) := by decide +kernel
theorem d1_41 : decode prog_13_method_1_code 41 = .ok (.isub, 1) := by decide +kernel
theorem d1_42 : decode prog_13_method_1_code 42 = .ok (.lshr, 1) := by decide +kernel
theorem d1_43 : decode prog_13_method_1_code 43 = .ok (.lcmp, 1) := by decide +kernel
theorem d1_44 : decode prog_13_method_1_code 44 = .ok (.ifCond .gt 14, 3) := by decide +kernel
theorem d1_47 : decode prog_13_method_1_code 47 = .ok (.lload 4, 2) := by decide +kernel
theorem d1_49 : decode prog_13_method_1_code 49 = .ok (.iload_n 3, 1) := by decide +kernel
theorem d1_50 : decode prog_13_method_1_code 50 = .ok (.iconst 1, 1) := by decide +kernel
theorem d1_51 : decode prog_13_method_1_code 51 = .ok (.isub, 1) := by decide +kernel
theorem d1_52 : decode prog_13_method_1_code 52 = .ok (.lshl, 1) := by decide +kernel
theorem d1_53 : decode prog_13_method_1_code 53 = .ok (.lload_n 1, 1) := by decide +kernel
theorem d1_54 : decode prog_13_method_1_code 54 = .ok (.lcmp, 1) := by decide +kernel
theorem d1_55 : decode prog_13_method_1_code 55 = .ok (.ifCond .ge 20, 3) := by decide +kernel
theorem d1_75 : decode prog_13_method_1_code 75 = .ok (.aload_n 0, 1) := by decide +kernel
theorem d1_76 : decode prog_13_method_1_code 76 = .ok (.lload_n 1, 1) := by decide +kernel
theorem d1_77 : decode prog_13_method_1_code 77 = .ok (.putfield 22, 3) := by decide +kernel
theorem d1_80 : decode prog_13_method_1_code 80 = .ok (.aload_n 0, 1) := by decide +kernel
theorem d1_81 : decode prog_13_method_1_code 81 = .ok (.iload_n 3, 1) := by decide +kernel
theorem d1_82 : decode prog_13_method_1_code 82 = .ok (.putfield 26, 3) := by decide +kernel
theorem d1_85 : decode prog_13_method_1_code 85 = .ok (.aload_n 0, 1) := by decide +kernel
theorem d1_86 : decode prog_13_method_1_code 86 = .ok (.lload 4, 2) := by decide +kernel
theorem d1_88 : decode prog_13_method_1_code 88 = .ok (.putfield 30, 3) := by decide +kernel
theorem d1_91 : decode prog_13_method_1_code 91 = .ok (.return_, 1) := by decide +kernel
theorem pn_0 : plainName "com/example/huangpu/huangpu/synopsis/AggregateTree" = true := by first | (simp [plainName, overriddenIn]; done) | decide +kernel
theorem ef_1 (m : MethodId) (x0 : Addr) (x1 : Int64) (x2 : Int32) (x3 : Int64) : entryFrame m #[(.ref x0), (.long x1), (.int x2), (.long x3)] 7 = mkF m 0 #[.val (.ref x0), .val (.long x1), .second, .val (.int x2), .val (.long x3), .second, .unset] [] := by first | (simp [entryFrame, mkF, argsToLocals, Value.category]; done) | rfl
def Q1 (Z : State) (a1 : Addr) (q2 : Int64) (p3 : Int32) (q4 : Int64) (u_mUnitMillis : Value) (u_mLevels : Value) (u_mLeafMillis : Value) (h0 : Heap) (n0 : Nat) (v : Option Value) (h : Heap) (L : List Loc) : Prop := v = none ∧ Fr n0 L ∧ Keep h0 h [a1] ∧ Exa Z h a1 "com/example/huangpu/huangpu/synopsis/AggregateTree" ∧ Fld Z h a1 "com/example/huangpu/huangpu/synopsis/AggregateTree" "mUnitMillis" "J" (.long q2) ∧ Fld Z h a1 "com/example/huangpu/huangpu/synopsis/AggregateTree" "mLevels" "I" (.int p3) ∧ Fld Z h a1 "com/example/huangpu/huangpu/synopsis/AggregateTree" "mLeafMillis" "J" (.long q4)
set_option maxRecDepth 65536 in
set_option maxHeartbeats 40000000 in
theorem rm1 (l : Launch) (Z : State) (a0 : Array Value) (hw : ∀ d ∈ tables_1, d.before a0 Z = true) (ws : List Jvm.Cond) (a1 : Addr) (q2 : Int64) (p3 : Int32) (q4 : Int64) (u_mUnitMillis : Value) (u_mLevels : Value) (u_mLeafMillis : Value) (h0 : Heap) (n0 : Nat) (Z0 : n0 ≤ h0.size) (E1 : Exa Z h0 a1 "com/example/huangpu/huangpu/synopsis/AggregateTree") (F_mUnitMillis : Fld Z h0 a1 "com/example/huangpu/huangpu/synopsis/AggregateTree" "mUnitMillis" "J" u_mUnitMillis) (F_mLevels : Fld Z h0 a1 "com/example/huangpu/huangpu/synopsis/AggregateTree" "mLevels" "I" u_mLevels) (F_mLeafMillis : Fld Z h0 a1 "com/example/huangpu/huangpu/synopsis/AggregateTree" "mLeafMillis" "J" u_mLeafMillis) (g1 : n0 ≤ a1) (hp1 : ¬ p3 < (1 : Int32)) (hp2 : ¬ (30 : Int32) < p3) (hp3 : ¬ q4 < (1 : Int64)) (hp4 : ¬ ((9223372036854775807 : Int64) >>> ((p3 - (1 : Int32)) &&& 63).toInt64) < q4) (hp5 : ¬ (q4 <<< ((p3 - (1 : Int32)) &&& 63).toInt64) < q2) :
    MetFree l (⟨"com/example/huangpu/huangpu/synopsis/AggregateTree", "<init>", "(JIJ)V"⟩ : MethodName) (head1 (Jvm.Cond.code (⟨"com/example/huangpu/huangpu/synopsis/AggregateTree", "<init>", "(JIJ)V"⟩ : MethodName) prog_13_method_1_code 7 none :: ws) ({ frames := 1, cells := 0, slots := 0, locals := 12 } : Room)) (fun a U => a = #[(.ref a1), (.long q2), (.int p3), (.long q4)] ∧ Z.Warmed39 U.vm ∧ U.heap = h0) (fun _ _ _ _ _ => True) (fun _ U o U' => ∃ v L, o = .returned v ∧ Q1 Z a1 q2 p3 q4 u_mUnitMillis u_mLevels u_mLeafMillis h0 n0 v U'.heap L ∧ FrameEnd U o U' L ({ frames := 1, cells := 0, slots := 0, locals := 12 } : Room).cells ({ frames := 1, cells := 0, slots := 0, locals := 12 } : Room).slots) := by
  refine MetFree.of_bodySF (plainFor_of_name pn_0) hisR ?_
  intro p e s m args below meth c s₁ Bd hml0 hP hK
  obtain ⟨rfl, hZ, hh⟩ := hP
  have hx := Bd.exec
  have hby := Bd.bytes
  have hml : c.maxLocals = 7 := hml0
  have hown : s.vm.findClass "com/example/huangpu/huangpu/synopsis/AggregateTree" = some m.cls := findClass_of_methodNamed Bd.named
  have hnm := (name_of_methodNamed Bd.named Bd.method).1
  have X0 : Stand p l e ({ frames := 1, cells := 0, slots := 0, locals := 12 } : Room) s m #[(.ref a1), (.long q2), (.int p3), (.long q4)] below meth c s₁ [] 0 0 := Stand.of_body Bd
  have e0 : s₁.heap = h0 := by rw [← hh, Bd.state]; rfl
  have N0 := Fr.nil n0
  refine Go.start (ef_1 m a1 q2 p3 q4) ?_
  show Go p e below s₁ (mkF m 0 #[.val (.ref a1), .val (.long q2), .second, .val (.int p3), .val (.long q4), .second, .unset] []) _
  have K0 := Keep.refl h0 [a1]
  refine Go.by (fun t k => XS.aloadN X0.here hx rfl (hb hby d1_0) rfl rfl k) ?_
  show Go p e below s₁ (mkF m 1 #[.val (.ref a1), .val (.long q2), .second, .val (.int p3), .val (.long q4), .second, .unset] [(.ref a1)]) _
  obtain ⟨T1, X1, e1, st1⟩ := initO X0 hx hZ hown (hw _ (List.mem_of_getElem? (i := 8) rfl)) (hw _ (List.mem_of_getElem? (i := 9) rfl)) (hw _ (List.mem_of_getElem? (i := 10) rfl)) e0 (g := (mkF m 1 #[.val (.ref a1), .val (.long q2), .second, .val (.int p3), .val (.long q4), .second, .unset] [(.ref a1)])) rfl (by rw [hml]; rfl) rfl (hb hby d1_1) (by decide) (W := 0) (by show 2 * 0 + _ ≤ _; exact Nat.le_of_eq rfl) (by decide)
  refine Go.by st1 ?_
  show Go p e below T1 (mkF m 4 #[.val (.ref a1), .val (.long q2), .second, .val (.int p3), .val (.long q4), .second, .unset] []) _
  refine Go.by (fun t k => XS.iloadN X1.here hx rfl (hb hby d1_4) rfl k) ?_
  show Go p e below T1 (mkF m 5 #[.val (.ref a1), .val (.long q2), .second, .val (.int p3), .val (.long q4), .second, .unset] [(.int p3)]) _
  refine Go.by (fun t k => XS.iconst X1.here hx rfl (hb hby d1_5) k) ?_
  show Go p e below T1 (mkF m 6 #[.val (.ref a1), .val (.long q2), .second, .val (.int p3), .val (.long q4), .second, .unset] [(.int (1 : Int32)), (.int p3)]) _
  refine Go.by (fun t k => XS.icmpNo X1.here hx rfl (hb hby d1_6) rfl (flt (show ¬ (p3 < (1 : Int32)) from hp1)).1 k) ?_
  show Go p e below T1 (mkF m 9 #[.val (.ref a1), .val (.long q2), .second, .val (.int p3), .val (.long q4), .second, .unset] []) _
  refine Go.by (fun t k => XS.iloadN X1.here hx rfl (hb hby d1_9) rfl k) ?_
  show Go p e below T1 (mkF m 10 #[.val (.ref a1), .val (.long q2), .second, .val (.int p3), .val (.long q4), .second, .unset] [(.int p3)]) _
  refine Go.by (fun t k => XS.bipush X1.here hx rfl (hb hby d1_10) k) ?_
  show Go p e below T1 (mkF m 12 #[.val (.ref a1), .val (.long q2), .second, .val (.int p3), .val (.long q4), .second, .unset] [(.int (30 : Int32)), (.int p3)]) _
  refine Go.by (fun t k => XS.icmpNo X1.here hx rfl (hb hby d1_12) rfl (flt (show ¬ ((30 : Int32) < p3) from hp2)).2.2.1 k) ?_
  show Go p e below T1 (mkF m 15 #[.val (.ref a1), .val (.long q2), .second, .val (.int p3), .val (.long q4), .second, .unset] []) _
  refine Go.by (fun t k => XS.lload X1.here hx rfl (hb hby d1_15) rfl k) ?_
  show Go p e below T1 (mkF m 17 #[.val (.ref a1), .val (.long q2), .second, .val (.int p3), .val (.long q4), .second, .unset] [(.long q4)]) _
  refine Go.by (fun t k => XS.lconst X1.here hx rfl (hb hby d1_17) k) ?_
  show Go p e below T1 (mkF m 18 #[.val (.ref a1), .val (.long q2), .second, .val (.int p3), .val (.long q4), .second, .unset] [(.long (1 : Int64)), (.long q4)]) _
  refine Go.by (fun t k => XS.lcmp X1.here hx rfl (hb hby d1_18) rfl k) ?_
  show Go p e below T1 (mkF m 19 #[.val (.ref a1), .val (.long q2), .second, .val (.int p3), .val (.long q4), .second, .unset] [(.int (lcmpW q4 (1 : Int64)))]) _
  refine Go.by (fun t k => XS.ifNo X1.here hx rfl (hb hby d1_19) rfl (cflt (show ¬ (q4 < (1 : Int64)) from hp3)).1 k) ?_
  show Go p e below T1 (mkF m 22 #[.val (.ref a1), .val (.long q2), .second, .val (.int p3), .val (.long q4), .second, .unset] []) _
  refine Go.by (fun t k => XS.iconst X1.here hx rfl (hb hby d1_22) k) ?_
  show Go p e below T1 (mkF m 23 #[.val (.ref a1), .val (.long q2), .second, .val (.int p3), .val (.long q4), .second, .unset] [(.int (1 : Int32))]) _
  refine Go.by (fun t k => XS.goto X1.here hx rfl (pc0 := 23) (pc' := 27) rfl (hb hby d1_23) (by decide) (by decide) k) ?_
  show Go p e below T1 (mkF m 27 #[.val (.ref a1), .val (.long q2), .second, .val (.int p3), .val (.long q4), .second, .unset] [(.int (1 : Int32))]) _
  refine Go.by (fun t k => XS.istore X1.here hx rfl (hb hby d1_27) rfl (l' := #[.val (.ref a1), .val (.long q2), .second, .val (.int p3), .val (.long q4), .second, .val (.int (1 : Int32))]) rfl k) ?_
  show Go p e below T1 (mkF m 29 #[.val (.ref a1), .val (.long q2), .second, .val (.int p3), .val (.long q4), .second, .val (.int (1 : Int32))] []) _
  refine Go.by (fun t k => XS.iload X1.here hx rfl (hb hby d1_29) rfl k) ?_
  show Go p e below T1 (mkF m 31 #[.val (.ref a1), .val (.long q2), .second, .val (.int p3), .val (.long q4), .second, .val (.int (1 : Int32))] [(.int (1 : Int32))]) _
  refine Go.by (fun t k => XS.ifNo X1.here hx rfl (hb hby d1_31) rfl ((if0 _ _).trans (feq (show ¬ ((1 : Int32) = (0 : Int32)) from (by decide))).1) k) ?_
  show Go p e below T1 (mkF m 34 #[.val (.ref a1), .val (.long q2), .second, .val (.int p3), .val (.long q4), .second, .val (.int (1 : Int32))] []) _
  refine Go.by (fun t k => XS.lload X1.here hx rfl (hb hby d1_34) rfl k) ?_
  show Go p e below T1 (mkF m 36 #[.val (.ref a1), .val (.long q2), .second, .val (.int p3), .val (.long q4), .second, .val (.int (1 : Int32))] [(.long q4)]) _
  refine Go.by (fun t k => X1.ldc2Long hx hown (mvT hZ (hw _ (List.mem_of_getElem? (i := 11) rfl))) (g := (mkF m 36 #[.val (.ref a1), .val (.long q2), .second, .val (.int p3), .val (.long q4), .second, .val (.int (1 : Int32))] [(.long q4)])) rfl (hb hby d1_36) t k) ?_
  show Go p e below T1 (mkF m 39 #[.val (.ref a1), .val (.long q2), .second, .val (.int p3), .val (.long q4), .second, .val (.int (1 : Int32))] [(.long (9223372036854775807 : Int64)), (.long q4)]) _
  refine Go.by (fun t k => XS.iloadN X1.here hx rfl (hb hby d1_39) rfl k) ?_
  show Go p e below T1 (mkF m 40 #[.val (.ref a1), .val (.long q2), .second, .val (.int p3), .val (.long q4), .second, .val (.int (1 : Int32))] [(.int p3), (.long (9223372036854775807 : Int64)), (.long q4)]) _
  refine Go.by (fun t k => XS.iconst X1.here hx rfl (hb hby d1_40) k) ?_
  show Go p e below T1 (mkF m 41 #[.val (.ref a1), .val (.long q2), .second, .val (.int p3), .val (.long q4), .second, .val (.int (1 : Int32))] [(.int (1 : Int32)), (.int p3), (.long (9223372036854775807 : Int64)), (.long q4)]) _
  refine Go.by (fun t k => XS.isub X1.here hx rfl (hb hby d1_41) rfl k) ?_
  show Go p e below T1 (mkF m 42 #[.val (.ref a1), .val (.long q2), .second, .val (.int p3), .val (.long q4), .second, .val (.int (1 : Int32))] [(.int (p3 - (1 : Int32))), (.long (9223372036854775807 : Int64)), (.long q4)]) _
  refine Go.by (fun t k => XS.lshr X1.here hx rfl (hb hby d1_42) rfl k) ?_
  show Go p e below T1 (mkF m 43 #[.val (.ref a1), .val (.long q2), .second, .val (.int p3), .val (.long q4), .second, .val (.int (1 : Int32))] [(.long ((9223372036854775807 : Int64) >>> ((p3 - (1 : Int32)) &&& 63).toInt64)), (.long q4)]) _
  refine Go.by (fun t k => XS.lcmp X1.here hx rfl (hb hby d1_43) rfl k) ?_
  show Go p e below T1 (mkF m 44 #[.val (.ref a1), .val (.long q2), .second, .val (.int p3), .val (.long q4), .second, .val (.int (1 : Int32))] [(.int (lcmpW q4 ((9223372036854775807 : Int64) >>> ((p3 - (1 : Int32)) &&& 63).toInt64)))]) _
  refine Go.by (fun t k => XS.ifNo X1.here hx rfl (hb hby d1_44) rfl (cflt (show ¬ (((9223372036854775807 : Int64) >>> ((p3 - (1 : Int32)) &&& 63).toInt64) < q4) from hp4)).2.2.1 k) ?_
  show Go p e below T1 (mkF m 47 #[.val (.ref a1), .val (.long q2), .second, .val (.int p3), .val (.long q4), .second, .val (.int (1 : Int32))] []) _
  refine Go.by (fun t k => XS.lload X1.here hx rfl (hb hby d1_47) rfl k) ?_
  show Go p e below T1 (mkF m 49 #[.val (.ref a1), .val (.long q2), .second, .val (.int p3), .val (.long q4), .second, .val (.int (1 : Int32))] [(.long q4)]) _
  refine Go.by (fun t k => XS.iloadN X1.here hx rfl (hb hby d1_49) rfl k) ?_
  show Go p e below T1 (mkF m 50 #[.val (.ref a1), .val (.long q2), .second, .val (.int p3), .val (.long q4), .second, .val (.int (1 : Int32))] [(.int p3), (.long q4)]) _
  refine Go.by (fun t k => XS.iconst X1.here hx rfl (hb hby d1_50) k) ?_
  show Go p e below T1 (mkF m 51 #[.val (.ref a1), .val (.long q2), .second, .val (.int p3), .val (.long q4), .second, .val (.int (1 : Int32))] [(.int (1 : Int32)), (.int p3), (.long q4)]) _
  refine Go.by (fun t k => XS.isub X1.here hx rfl (hb hby d1_51) rfl k) ?_
  show Go p e below T1 (mkF m 52 #[.val (.ref a1), .val (.long q2), .second, .val (.int p3), .val (.long q4), .second, .val (.int (1 : Int32))] [(.int (p3 - (1 : Int32))), (.long q4)]) _
  refine Go.by (fun t k => XS.lshl X1.here hx rfl (hb hby d1_52) rfl k) ?_
  show Go p e below T1 (mkF m 53 #[.val (.ref a1), .val (.long q2), .second, .val (.int p3), .val (.long q4), .second, .val (.int (1 : Int32))] [(.long (q4 <<< ((p3 - (1 : Int32)) &&& 63).toInt64))]) _
  refine Go.by (fun t k => XS.lloadN X1.here hx rfl (hb hby d1_53) rfl k) ?_
  show Go p e below T1 (mkF m 54 #[.val (.ref a1), .val (.long q2), .second, .val (.int p3), .val (.long q4), .second, .val (.int (1 : Int32))] [(.long q2), (.long (q4 <<< ((p3 - (1 : Int32)) &&& 63).toInt64))]) _
  refine Go.by (fun t k => XS.lcmp X1.here hx rfl (hb hby d1_54) rfl k) ?_
  show Go p e below T1 (mkF m 55 #[.val (.ref a1), .val (.long q2), .second, .val (.int p3), .val (.long q4), .second, .val (.int (1 : Int32))] [(.int (lcmpW (q4 <<< ((p3 - (1 : Int32)) &&& 63).toInt64) q2))]) _
  refine Go.by (fun t k => XS.ifYes X1.here hx rfl (pc0 := 55) (pc' := 75) rfl (hb hby d1_55) rfl (cflt (show ¬ ((q4 <<< ((p3 - (1 : Int32)) &&& 63).toInt64) < q2) from hp5)).2.1 (by decide) (by decide) k) ?_
  show Go p e below T1 (mkF m 75 #[.val (.ref a1), .val (.long q2), .second, .val (.int p3), .val (.long q4), .second, .val (.int (1 : Int32))] []) _
  refine Go.by (fun t k => XS.aloadN X1.here hx rfl (hb hby d1_75) rfl rfl k) ?_
  show Go p e below T1 (mkF m 76 #[.val (.ref a1), .val (.long q2), .second, .val (.int p3), .val (.long q4), .second, .val (.int (1 : Int32))] [(.ref a1)]) _
  refine Go.by (fun t k => XS.lloadN X1.here hx rfl (hb hby d1_76) rfl k) ?_
  show Go p e below T1 (mkF m 77 #[.val (.ref a1), .val (.long q2), .second, .val (.int p3), .val (.long q4), .second, .val (.int (1 : Int32))] [(.long q2), (.ref a1)]) _
  obtain ⟨T2, h2, X2, e2, W2, st2⟩ := putF X1 hx hZ hown (host := "") (Or.inl (hw _ (List.mem_of_getElem? (i := 12) rfl))) Via.refl e1 F_mUnitMillis E1 (Or.inr ⟨(hw _ (List.mem_of_getElem? (i := 13) rfl)), rfl, hnm⟩) (hw _ (List.mem_of_getElem? (i := 3) rfl)) (ty := .long) (by decide) rfl rfl (g := (mkF m 77 #[.val (.ref a1), .val (.long q2), .second, .val (.int p3), .val (.long q4), .second, .val (.int (1 : Int32))] [(.long q2), (.ref a1)])) rfl rfl (hb hby d1_77)
  have F2 := F_mUnitMillis.same W2
  have N2 := Fr.snoc X2 N0 g1
  have Z2 : n0 ≤ h2.size := by rw [W2.size]; exact Z0
  have K2 := K0.wr W2 (Or.inl (List.mem_of_getElem? (i := 0) rfl))
  refine Go.by st2 ?_
  show Go p e below T2 (mkF m 80 #[.val (.ref a1), .val (.long q2), .second, .val (.int p3), .val (.long q4), .second, .val (.int (1 : Int32))] []) _
  refine Go.by (fun t k => XS.aloadN X2.here hx rfl (hb hby d1_80) rfl rfl k) ?_
  show Go p e below T2 (mkF m 81 #[.val (.ref a1), .val (.long q2), .second, .val (.int p3), .val (.long q4), .second, .val (.int (1 : Int32))] [(.ref a1)]) _
  refine Go.by (fun t k => XS.iloadN X2.here hx rfl (hb hby d1_81) rfl k) ?_
  show Go p e below T2 (mkF m 82 #[.val (.ref a1), .val (.long q2), .second, .val (.int p3), .val (.long q4), .second, .val (.int (1 : Int32))] [(.int p3), (.ref a1)]) _
  have fa3 := F_mLevels.other W2 (Or.inr (slot_ne (Or.inr (hw _ (List.mem_of_getElem? (i := 15) rfl))) (Or.inr (hw _ (List.mem_of_getElem? (i := 13) rfl))) (by decide) (t := .int) (t' := .long) (by decide) (by decide)))
  have fa4 := E1.wr W2
  obtain ⟨T5, h5, X5, e5, W5, st5⟩ := putF X2 hx hZ hown (host := "") (Or.inl (hw _ (List.mem_of_getElem? (i := 14) rfl))) Via.refl e2 fa3 fa4 (Or.inr ⟨(hw _ (List.mem_of_getElem? (i := 15) rfl)), rfl, hnm⟩) (hw _ (List.mem_of_getElem? (i := 3) rfl)) (ty := .int) (by decide) rfl rfl (g := (mkF m 82 #[.val (.ref a1), .val (.long q2), .second, .val (.int p3), .val (.long q4), .second, .val (.int (1 : Int32))] [(.int p3), (.ref a1)])) rfl rfl (hb hby d1_82)
  have F5 := fa3.same W5
  have N5 := Fr.snoc X5 N2 g1
  have Z5 : n0 ≤ h5.size := by rw [W5.size]; exact Z2
  have K5 := K2.wr W5 (Or.inl (List.mem_of_getElem? (i := 0) rfl))
  refine Go.by st5 ?_
  show Go p e below T5 (mkF m 85 #[.val (.ref a1), .val (.long q2), .second, .val (.int p3), .val (.long q4), .second, .val (.int (1 : Int32))] []) _
  refine Go.by (fun t k => XS.aloadN X5.here hx rfl (hb hby d1_85) rfl rfl k) ?_
  show Go p e below T5 (mkF m 86 #[.val (.ref a1), .val (.long q2), .second, .val (.int p3), .val (.long q4), .second, .val (.int (1 : Int32))] [(.ref a1)]) _
  refine Go.by (fun t k => XS.lload X5.here hx rfl (hb hby d1_86) rfl k) ?_
  show Go p e below T5 (mkF m 88 #[.val (.ref a1), .val (.long q2), .second, .val (.int p3), .val (.long q4), .second, .val (.int (1 : Int32))] [(.long q4), (.ref a1)]) _
  have fa6 := F_mLeafMillis.other W2 (Or.inr (slot_ne (Or.inr (hw _ (List.mem_of_getElem? (i := 17) rfl))) (Or.inr (hw _ (List.mem_of_getElem? (i := 13) rfl))) (by decide) (t := .long) (t' := .long) (by decide) (by decide)))
  have fa7 := fa6.other W5 (Or.inr (slot_ne (Or.inr (hw _ (List.mem_of_getElem? (i := 17) rfl))) (Or.inr (hw _ (List.mem_of_getElem? (i := 15) rfl))) (by decide) (t := .long) (t' := .int) (by decide) (by decide)))
  have fa8 := fa4.wr W5
  obtain ⟨T9, h9, X9, e9, W9, st9⟩ := putF X5 hx hZ hown (host := "") (Or.inl (hw _ (List.mem_of_getElem? (i := 16) rfl))) Via.refl e5 fa7 fa8 (Or.inr ⟨(hw _ (List.mem_of_getElem? (i := 17) rfl)), rfl, hnm⟩) (hw _ (List.mem_of_getElem? (i := 3) rfl)) (ty := .long) (by decide) rfl rfl (g := (mkF m 88 #[.val (.ref a1), .val (.long q2), .second, .val (.int p3), .val (.long q4), .second, .val (.int (1 : Int32))] [(.long q4), (.ref a1)])) rfl rfl (hb hby d1_88)
  have F9 := fa7.same W9
  have N9 := Fr.snoc X9 N5 g1
  have Z9 : n0 ≤ h9.size := by rw [W9.size]; exact Z5
  have K9 := K5.wr W9 (Or.inl (List.mem_of_getElem? (i := 0) rfl))
  refine Go.by st9 ?_
  show Go p e below T9 (mkF m 91 #[.val (.ref a1), .val (.long q2), .second, .val (.int p3), .val (.long q4), .second, .val (.int (1 : Int32))] []) _
  obtain ⟨fs, hr, hrun, hended, hW, hsame⟩ := X9.leave (v := none) (fun _ => rfl)
  refine Go.done (X9.returnOut hx Bd.returns (hb hby d1_91) hr) hrun hended ⟨_, _, rfl, ?_, ⟨_, rfl⟩, hW, hsame.mono (by decide) (by decide)⟩
  show Q1 Z a1 q2 p3 q4 u_mUnitMillis u_mLevels u_mLeafMillis h0 n0 _ T9.heap _
  rw [e9]
  have fa10 := fa8.wr W9
  have fa11 := F2.other W5 (Or.inr (slot_ne (Or.inr (hw _ (List.mem_of_getElem? (i := 13) rfl))) (Or.inr (hw _ (List.mem_of_getElem? (i := 15) rfl))) (by decide) (t := .long) (t' := .int) (by decide) (by decide)))
  have fa12 := fa11.other W9 (Or.inr (slot_ne (Or.inr (hw _ (List.mem_of_getElem? (i := 13) rfl))) (Or.inr (hw _ (List.mem_of_getElem? (i := 17) rfl))) (by decide) (t := .long) (t' := .long) (by decide) (by decide)))
  have fa13 := F5.other W9 (Or.inr (slot_ne (Or.inr (hw _ (List.mem_of_getElem? (i := 15) rfl))) (Or.inr (hw _ (List.mem_of_getElem? (i := 17) rfl))) (by decide) (t := .int) (t' := .long) (by decide) (by decide)))
  exact ⟨rfl, N9, K9, fa10, fa12, fa13, F9⟩
def own_inv (lev B : Nat) (i n : Int32) : Prop := ∃ j : Nat, j < B ∧ 0 ≤ n.toInt ∧ 2 ^ j ≤ n.toInt.toNat ∧ n.toInt.toNat < 2 ^ (j + 1) ∧ i.toInt = 31 - (lev : Int) + (j : Int)
theorem own_lo {lev b : Nat} {i n C : Int32} (hC : C.toInt = ((2 ^ b : Nat) : Int)) (h : own_inv lev (2 * b) i n) (hc : n < C) : own_inv lev b i n := by
  obtain ⟨j, h1, h2, h3, h4, h5⟩ := h
  rw [Int32.lt_iff_toInt_lt, hC] at hc
  refine ⟨j, ?_, h2, h3, h4, h5⟩
  have q : 2 ^ j < 2 ^ b := by omega
  exact (Nat.pow_lt_pow_iff_right (by decide)).mp q
theorem own_hi {lev b : Nat} {i i' n C D S : Int32} (he : i + D = i') (hl : lev < 31) (hb : b < 32) (hC : C.toInt = ((2 ^ b : Nat) : Int)) (hD : D.toInt = -(b : Int)) (hS : (S &&& 31).toUInt32.toNat = b) (h : own_inv lev (2 * b) i n) (hc : ¬ n < C) : own_inv lev b i' (own_ushr n S) := by
  subst he
  obtain ⟨j, h1, h2, h3, h4, h5⟩ := h
  rw [Int32.lt_iff_toInt_lt, hC] at hc
  have q : 2 ^ b < 2 ^ (j + 1) := by omega
  have q2 : b < j + 1 := (Nat.pow_lt_pow_iff_right (by decide)).mp q
  have e : (own_ushr n S).toInt = n.toInt / 2 ^ b := Jvm.Kit.i32_iushr (Jvm.Kit.i32_nonneg.mpr h2) hS hb
  have e2 : (own_ushr n S).toInt = ((n.toInt.toNat / 2 ^ b : Nat) : Int) := by
    rw [e, Int.natCast_ediv, Int.natCast_pow, Int.toNat_of_nonneg h2]; rfl
  have ea : (i + D).toInt = i.toInt + D.toInt := Jvm.Kit.i32_add (by omega) (by omega)
  have p1 : 2 ^ j = 2 ^ (j - b) * 2 ^ b := by rw [← Nat.pow_add]; congr 1; omega
  have p2 : 2 ^ (j + 1) = 2 ^ (j - b + 1) * 2 ^ b := by rw [← Nat.pow_add]; congr 1; omega
  refine ⟨j - b, by omega, by rw [e2]; exact Int.natCast_nonneg _, ?_, ?_, by rw [ea, h5, hD]; omega⟩
  · rw [e2, Int.toNat_natCast]
    exact (Nat.le_div_iff_mul_le (Nat.pow_pos (by decide))).mpr (by omega)
  · rw [e2, Int.toNat_natCast]
    exact (Nat.div_lt_iff_lt_mul (Nat.pow_pos (by decide))).mpr (by omega)
theorem own_fin2 {lev : Nat} {i n : Int32} (hl : lev < 31) (h : own_inv lev 2 i n) : i - own_ushr n 1 = Int32.ofInt (31 - (lev : Int)) := by
  obtain ⟨j, h1, h2, h3, h4, h5⟩ := h
  have e : (own_ushr n 1).toInt = n.toInt / 2 ^ 1 := Jvm.Kit.i32_iushr (Jvm.Kit.i32_nonneg.mpr h2) (by decide) (by decide)
  have q : n.toInt / 2 ^ 1 = (j : Int) := by
    rcases (by omega : j = 0 ∨ j = 1) with rfl | rfl
    · have h3' : 1 ≤ n.toInt.toNat := h3
      have h4' : n.toInt.toNat < 2 := h4
      omega
    · have h3' : 2 ≤ n.toInt.toNat := h3
      have h4' : n.toInt.toNat < 4 := h4
      omega
  apply Int32.toInt_inj.mp
  have e9 : Int.bmod (31 - (lev : Int)) Int32.size = 31 - (lev : Int) := Jvm.Kit.bmod32 (by omega) (by omega)
  rw [Jvm.Kit.i32_sub (by omega) (by omega), e, q, h5, Int32.toInt_ofInt, e9]
  omega
theorem own_inv0 {lev : Nat} {n : Int32} (hl : lev < 31) (h0 : 0 ≤ n.toInt) (h1 : 2 ^ lev ≤ n.toInt.toNat) (h2 : n.toInt.toNat < 2 ^ (lev + 1)) : own_inv lev 32 31 n := by
  refine ⟨lev, by omega, h0, h1, h2, ?_⟩
  have o : (31 : Int32).toInt = 31 := rfl
  rw [o]; omega

theorem d4_0 : decode jdk_33_method_47_code 0 = .ok (.iload_n 0, 1) := by decide +kernel
theorem d4_1 : decode jdk_33_method_47_code 1 = .ok (.ifCond .gt 14, 3) := by decide +kernel
theorem d4_15 : decode jdk_33_method_47_code 15 = .ok (.bipush 31, 2) := by decide +kernel
theorem d4_17 : decode jdk_33_method_47_code 17 = .ok (.istore_n 1, 1) := by decide +kernel
theorem d4_18 : decode jdk_33_method_47_code 18 = .ok (.iload_n 0, 1) := by decide +kernel
theorem d4_19 : decode jdk_33_method_47_code 19 = .ok (.ldc_w 264, 3) := by decide +kernel
theorem d4_22 : decode jdk_33_method_47_code 22 = .ok (.if_icmp .lt 11, 3) := by decide +kernel
theorem d4_25 : decode jdk_33_method_47_code 25 = .ok (.iinc 1 (-16), 3) := by decide +kernel
theorem d4_28 : decode jdk_33_method_47_code 28 = .ok (.iload_n 0, 1) := by decide +kernel
theorem d4_29 : decode jdk_33_method_47_code 29 = .ok (.bipush 16, 2) := by decide +kernel
theorem d4_31 : decode jdk_33_method_47_code 31 = .ok (.iushr, 1) := by decide +kernel
theorem d4_32 : decode jdk_33_method_47_code 32 = .ok (.istore_n 0, 1) := by decide +kernel
theorem d4_33 : decode jdk_33_method_47_code 33 = .ok (.iload_n 0, 1) := by decide +kernel
theorem d4_34 : decode jdk_33_method_47_code 34 = .ok (.sipush 256, 3) := by decide +kernel
theorem d4_37 : decode jdk_33_method_47_code 37 = .ok (.if_icmp .lt 11, 3) := by decide +kernel
theorem d4_40 : decode jdk_33_method_47_code 40 = .ok (.iinc 1 (-8), 3) := by decide +kernel
theorem d4_43 : decode jdk_33_method_47_code 43 = .ok (.iload_n 0, 1) := by decide +kernel
theorem d4_44 : decode jdk_33_method_47_code 44 = .ok (.bipush 8, 2) := by decide +kernel
theorem d4_46 : decode jdk_33_method_47_code 46 = .ok (.iushr, 1) := by decide +kernel
theorem d4_47 : decode jdk_33_method_47_code 47 = .ok (.istore_n 0, 1) := by decide +kernel
theorem d4_48 : decode jdk_33_method_47_code 48 = .ok (.iload_n 0, 1) := by decide +kernel
theorem d4_49 : decode jdk_33_method_47_code 49 = .ok (.bipush 16, 2) := by decide +kernel
theorem d4_51 : decode jdk_33_method_47_code 51 = .ok (.if_icmp .lt 10, 3) := by decide +kernel
theorem d4_54 : decode jdk_33_method_47_code 54 = .ok (.iinc 1 (-4), 3) := by decide +kernel
theorem d4_57 : decode jdk_33_method_47_code 57 = .ok (.iload_n 0, 1) := by decide +kernel
theorem d4_58 : decode jdk_33_method_47_code 58 = .ok (.iconst 4, 1) := by decide +kernel
theorem d4_59 : decode jdk_33_method_47_code 59 = .ok (.iushr, 1) := by decide +kernel
theorem d4_60 : decode jdk_33_method_47_code 60 = .ok (.istore_n 0, 1) := by decide +kernel
theorem d4_61 : decode jdk_33_method_47_code 61 = .ok (.iload_n 0, 1) := by decide +kernel
theorem d4_62 : decode jdk_33_method_47_code 62 = .ok (.iconst 4, 1) := by decide +kernel
theorem d4_63 : decode jdk_33_method_47_code 63 = .ok (.if_icmp .lt 10, 3) := by decide +kernel
theorem d4_66 : decode jdk_33_method_47_code 66 = .ok (.iinc 1 (-2), 3) := by decide +kernel
theorem d4_69 : decode jdk_33_method_47_code 69 = .ok (.iload_n 0, 1) := by decide +kernel
theorem d4_70 : decode jdk_33_method_47_code 70 = .ok (.iconst 2, 1) := by decide +kernel
theorem d4_71 : decode jdk_33_method_47_code 71 = .ok (.iushr, 1) := by decide +kernel
theorem d4_72 : decode jdk_33_method_47_code 72 = .ok (.istore_n 0, 1) := by decide +kernel
theorem d4_73 : decode jdk_33_method_47_code 73 = .ok (.iload_n 1, 1) := by decide +kernel
theorem d4_74 : decode jdk_33_method_47_code 74 = .ok (.iload_n 0, 1) := by decide +kernel
theorem d4_75 : decode jdk_33_method_47_code 75 = .ok (.iconst 1, 1) := by decide +kernel
theorem d4_76 : decode jdk_33_method_47_code 76 = .ok (.iushr, 1) := by decide +kernel
theorem d4_77 : decode jdk_33_method_47_code 77 = .ok (.isub, 1) := by decide +kernel
theorem d4_78 : decode jdk_33_method_47_code 78 = .ok (.ireturn, 1) := by decide +kernel
theorem pn_1 : plainName "java/lang/Integer" = true := by first | (simp [plainName, overriddenIn]; done) | decide +kernel
theorem ef_4 (m : MethodId) (x0 : Int32) : entryFrame m #[(.int x0)] 2 = mkF m 0 #[.val (.int x0), .unset] [] := by first | (simp [entryFrame, mkF, argsToLocals, Value.category]; done) | rfl
def Q4 (Z : State) (p1 : Int32) (lev : Nat) (h0 : Heap) (n0 : Nat) (v : Option Value) (h : Heap) (L : List Loc) : Prop := v = some (.int (Int32.ofInt (31 - (lev : Int)))) ∧ Fr n0 L ∧ h = h0
def Pst4 (Z : State) (p1 : Int32) (lev : Nat) (h0 : Heap) (n0 : Nat) (s : State) : Outcome → State → Prop := fun o U' => ∃ v L, o = .returned v ∧ Q4 Z p1 lev h0 n0 v U'.heap L ∧ FrameEnd s o U' L ({ frames := 0, cells := 0, slots := 0, locals := 0 } : Room).cells ({ frames := 0, cells := 0, slots := 0, locals := 0 } : Room).slots
set_option maxRecDepth 65536 in
set_option maxHeartbeats 40000000 in
theorem rm4 (l : Launch) (Z : State) (a0 : Array Value) (hw : ∀ d ∈ tables_1, d.before a0 Z = true) (ws : List Jvm.Cond) (p1 : Int32) (lev : Nat) (h0 : Heap) (n0 : Nat) (Z0 : n0 ≤ h0.size) (hl : lev < 31) (hpos : (0 : Int32) < p1) (h0' : 0 ≤ p1.toInt) (h1' : 2 ^ lev ≤ p1.toInt.toNat) (h2' : p1.toInt.toNat < 2 ^ (lev + 1)) :
    MetFree l (⟨"java/lang/Integer", "numberOfLeadingZeros", "(I)I"⟩ : MethodName) (head1 (Jvm.Cond.code (⟨"java/lang/Integer", "numberOfLeadingZeros", "(I)I"⟩ : MethodName) jdk_33_method_47_code 2 (some .int) :: ws) ({ frames := 0, cells := 0, slots := 0, locals := 0 } : Room)) (fun a U => a = #[(.int p1)] ∧ Z.Warmed39 U.vm ∧ U.heap = h0) (fun _ _ _ _ _ => True) (fun _ U o U' => ∃ v L, o = .returned v ∧ Q4 Z p1 lev h0 n0 v U'.heap L ∧ FrameEnd U o U' L ({ frames := 0, cells := 0, slots := 0, locals := 0 } : Room).cells ({ frames := 0, cells := 0, slots := 0, locals := 0 } : Room).slots) := by
  refine MetFree.of_bodySF (plainFor_of_name pn_1) hisR ?_
  intro p e s m args below meth c s₁ Bd hml0 hP hK
  obtain ⟨rfl, hZ, hh⟩ := hP
  have hx := Bd.exec
  have hby := Bd.bytes
  have hml : c.maxLocals = 2 := hml0
  have hown : s.vm.findClass "java/lang/Integer" = some m.cls := findClass_of_methodNamed Bd.named
  have hnm := (name_of_methodNamed Bd.named Bd.method).1
  have X0 : Stand p l e ({ frames := 0, cells := 0, slots := 0, locals := 0 } : Room) s m #[(.int p1)] below meth c s₁ [] 0 0 := Stand.of_body Bd
  have e0 : s₁.heap = h0 := by rw [← hh, Bd.state]; rfl
  have N0 := Fr.nil n0
  refine Go.start (ef_4 m p1) ?_
  show Go p e below s₁ (mkF m 0 #[.val (.int p1), .unset] []) _
  refine Go.by (fun t k => XS.iloadN X0.here hx rfl (hb hby d4_0) rfl k) ?_
  show Go p e below s₁ (mkF m 1 #[.val (.int p1), .unset] [(.int p1)]) _
  refine Go.by (fun t k => XS.ifYes X0.here hx rfl (pc0 := 1) (pc' := 15) rfl (hb hby d4_1) rfl ((if0 _ _).trans (tlt (show (0 : Int32) < p1 from hpos)).2.2.1) (by decide) (by decide) k) ?_
  show Go p e below s₁ (mkF m 15 #[.val (.int p1), .unset] []) _
  refine Go.by (fun t k => XS.bipush X0.here hx rfl (hb hby d4_15) k) ?_
  show Go p e below s₁ (mkF m 17 #[.val (.int p1), .unset] [(.int (31 : Int32))]) _
  refine Go.by (fun t k => XS.istoreN X0.here hx rfl (hb hby d4_17) rfl (l' := #[.val (.int p1), .val (.int (31 : Int32))]) rfl k) ?_
  show Go p e below s₁ (mkF m 18 #[.val (.int p1), .val (.int (31 : Int32))] []) _
  refine Go.by (fun t k => XS.iloadN X0.here hx rfl (hb hby d4_18) rfl k) ?_
  show Go p e below s₁ (mkF m 19 #[.val (.int p1), .val (.int (31 : Int32))] [(.int p1)]) _
  refine Go.by (fun t k => X0.ldcwInt hx hown (mvT hZ (hw _ (List.mem_of_getElem? (i := 27) rfl))) (g := (mkF m 19 #[.val (.int p1), .val (.int (31 : Int32))] [(.int p1)])) rfl (hb hby d4_19) t k) ?_
  show Go p e below s₁ (mkF m 22 #[.val (.int p1), .val (.int (31 : Int32))] [(.int (65536 : Int32)), (.int p1)]) _
  have J33 : ∀ (j33_0 : Int32) (j33_1 : Int32), (own_inv lev 16 j33_0 j33_1) → Go p e below s₁ (mkF m 33 #[.val (.int j33_1), .val (.int j33_0)] []) (Pst4 Z p1 lev h0 n0 s) := by
    intro j33_0 j33_1 hj33
    refine Go.by (fun t k => XS.iloadN X0.here hx rfl (hb hby d4_33) rfl k) ?_
    show Go p e below s₁ (mkF m 34 #[.val (.int j33_1), .val (.int j33_0)] [(.int j33_1)]) _
    refine Go.by (fun t k => XS.sipush X0.here hx rfl (hb hby d4_34) k) ?_
    show Go p e below s₁ (mkF m 37 #[.val (.int j33_1), .val (.int j33_0)] [(.int (256 : Int32)), (.int j33_1)]) _
    have J48 : ∀ (j48_0 : Int32) (j48_1 : Int32), (own_inv lev 8 j48_0 j48_1) → Go p e below s₁ (mkF m 48 #[.val (.int j48_1), .val (.int j48_0)] []) (Pst4 Z p1 lev h0 n0 s) := by
      intro j48_0 j48_1 hj48
      refine Go.by (fun t k => XS.iloadN X0.here hx rfl (hb hby d4_48) rfl k) ?_
      show Go p e below s₁ (mkF m 49 #[.val (.int j48_1), .val (.int j48_0)] [(.int j48_1)]) _
      refine Go.by (fun t k => XS.bipush X0.here hx rfl (hb hby d4_49) k) ?_
      show Go p e below s₁ (mkF m 51 #[.val (.int j48_1), .val (.int j48_0)] [(.int (16 : Int32)), (.int j48_1)]) _
      have J61 : ∀ (j61_0 : Int32) (j61_1 : Int32), (own_inv lev 4 j61_0 j61_1) → Go p e below s₁ (mkF m 61 #[.val (.int j61_1), .val (.int j61_0)] []) (Pst4 Z p1 lev h0 n0 s) := by
        intro j61_0 j61_1 hj61
        refine Go.by (fun t k => XS.iloadN X0.here hx rfl (hb hby d4_61) rfl k) ?_
        show Go p e below s₁ (mkF m 62 #[.val (.int j61_1), .val (.int j61_0)] [(.int j61_1)]) _
        refine Go.by (fun t k => XS.iconst X0.here hx rfl (hb hby d4_62) k) ?_
        show Go p e below s₁ (mkF m 63 #[.val (.int j61_1), .val (.int j61_0)] [(.int (4 : Int32)), (.int j61_1)]) _
        have J73 : ∀ (j73_0 : Int32) (j73_1 : Int32), (own_inv lev 2 j73_0 j73_1) → Go p e below s₁ (mkF m 73 #[.val (.int j73_1), .val (.int j73_0)] []) (Pst4 Z p1 lev h0 n0 s) := by
          intro j73_0 j73_1 hj73
          refine Go.by (fun t k => XS.iloadN X0.here hx rfl (hb hby d4_73) rfl k) ?_
          show Go p e below s₁ (mkF m 74 #[.val (.int j73_1), .val (.int j73_0)] [(.int j73_0)]) _
          refine Go.by (fun t k => XS.iloadN X0.here hx rfl (hb hby d4_74) rfl k) ?_
          show Go p e below s₁ (mkF m 75 #[.val (.int j73_1), .val (.int j73_0)] [(.int j73_1), (.int j73_0)]) _
          refine Go.by (fun t k => XS.iconst X0.here hx rfl (hb hby d4_75) k) ?_
          show Go p e below s₁ (mkF m 76 #[.val (.int j73_1), .val (.int j73_0)] [(.int (1 : Int32)), (.int j73_1), (.int j73_0)]) _
          refine Go.by (fun t k => XS.iushr X0.here hx rfl (hb hby d4_76) rfl k) ?_
          show Go p e below s₁ (mkF m 77 #[.val (.int j73_1), .val (.int j73_0)] [(.int (own_ushr j73_1 (1 : Int32))), (.int j73_0)]) _
          refine Go.by (fun t k => XS.isub X0.here hx rfl (hb hby d4_77) rfl k) ?_
          show Go p e below s₁ (mkF m 78 #[.val (.int j73_1), .val (.int j73_0)] [(.int (j73_0 - (own_ushr j73_1 (1 : Int32))))]) _
          obtain ⟨fs, hr, hrun, hended, hW, hsame⟩ := X0.leave (v := some (.int (j73_0 - (own_ushr j73_1 (1 : Int32))))) (fun h => by rw [Bd.returns] at h; cases h)
          refine Go.done (retI X0 hx Bd.returns (hb hby d4_78) hr) hrun hended ⟨_, _, rfl, ?_, ⟨_, rfl⟩, hW, hsame.mono (by decide) (by decide)⟩
          show Q4 Z p1 lev h0 n0 _ s₁.heap _
          rw [e0]
          exact ⟨by rw [own_fin2 hl hj73], N0, rfl⟩
        by_cases hc1 : j61_1 < (4 : Int32)
        · refine Go.by (fun t k => XS.icmpYes X0.here hx rfl (pc0 := 63) (pc' := 73) rfl (hb hby d4_63) rfl (tlt hc1).1 (by decide) (by decide) k) ?_
          show Go p e below s₁ (mkF m 73 #[.val (.int j61_1), .val (.int j61_0)] []) _
          exact J73 j61_0 j61_1 (own_lo (b := 2) rfl hj61 hc1)
        · refine Go.by (fun t k => XS.icmpNo X0.here hx rfl (hb hby d4_63) rfl (flt hc1).1 k) ?_
          show Go p e below s₁ (mkF m 66 #[.val (.int j61_1), .val (.int j61_0)] []) _
          refine Go.by (fun t k => XS.iinc X0.here hx rfl (hb hby d4_66) rfl (l' := #[.val (.int j61_1), .val (.int (j61_0 + (-2 : Int32)))]) rfl k) ?_
          show Go p e below s₁ (mkF m 69 #[.val (.int j61_1), .val (.int (j61_0 + (-2 : Int32)))] []) _
          refine Go.by (fun t k => XS.iloadN X0.here hx rfl (hb hby d4_69) rfl k) ?_
          show Go p e below s₁ (mkF m 70 #[.val (.int j61_1), .val (.int (j61_0 + (-2 : Int32)))] [(.int j61_1)]) _
          refine Go.by (fun t k => XS.iconst X0.here hx rfl (hb hby d4_70) k) ?_
          show Go p e below s₁ (mkF m 71 #[.val (.int j61_1), .val (.int (j61_0 + (-2 : Int32)))] [(.int (2 : Int32)), (.int j61_1)]) _
          refine Go.by (fun t k => XS.iushr X0.here hx rfl (hb hby d4_71) rfl k) ?_
          show Go p e below s₁ (mkF m 72 #[.val (.int j61_1), .val (.int (j61_0 + (-2 : Int32)))] [(.int (own_ushr j61_1 (2 : Int32)))]) _
          refine Go.by (fun t k => XS.istoreN X0.here hx rfl (hb hby d4_72) rfl (l' := #[.val (.int (own_ushr j61_1 (2 : Int32))), .val (.int (j61_0 + (-2 : Int32)))]) rfl k) ?_
          show Go p e below s₁ (mkF m 73 #[.val (.int (own_ushr j61_1 (2 : Int32))), .val (.int (j61_0 + (-2 : Int32)))] []) _
          exact J73 (j61_0 + (-2 : Int32)) (own_ushr j61_1 (2 : Int32)) (own_hi (b := 2) (D := (-2 : Int32)) (S := (2 : Int32)) rfl hl (by decide) rfl rfl rfl hj61 hc1)
      by_cases hc2 : j48_1 < (16 : Int32)
      · refine Go.by (fun t k => XS.icmpYes X0.here hx rfl (pc0 := 51) (pc' := 61) rfl (hb hby d4_51) rfl (tlt hc2).1 (by decide) (by decide) k) ?_
        show Go p e below s₁ (mkF m 61 #[.val (.int j48_1), .val (.int j48_0)] []) _
        exact J61 j48_0 j48_1 (own_lo (b := 4) rfl hj48 hc2)
      · refine Go.by (fun t k => XS.icmpNo X0.here hx rfl (hb hby d4_51) rfl (flt hc2).1 k) ?_
        show Go p e below s₁ (mkF m 54 #[.val (.int j48_1), .val (.int j48_0)] []) _
        refine Go.by (fun t k => XS.iinc X0.here hx rfl (hb hby d4_54) rfl (l' := #[.val (.int j48_1), .val (.int (j48_0 + (-4 : Int32)))]) rfl k) ?_
        show Go p e below s₁ (mkF m 57 #[.val (.int j48_1), .val (.int (j48_0 + (-4 : Int32)))] []) _
        refine Go.by (fun t k => XS.iloadN X0.here hx rfl (hb hby d4_57) rfl k) ?_
        show Go p e below s₁ (mkF m 58 #[.val (.int j48_1), .val (.int (j48_0 + (-4 : Int32)))] [(.int j48_1)]) _
        refine Go.by (fun t k => XS.iconst X0.here hx rfl (hb hby d4_58) k) ?_
        show Go p e below s₁ (mkF m 59 #[.val (.int j48_1), .val (.int (j48_0 + (-4 : Int32)))] [(.int (4 : Int32)), (.int j48_1)]) _
        refine Go.by (fun t k => XS.iushr X0.here hx rfl (hb hby d4_59) rfl k) ?_
        show Go p e below s₁ (mkF m 60 #[.val (.int j48_1), .val (.int (j48_0 + (-4 : Int32)))] [(.int (own_ushr j48_1 (4 : Int32)))]) _
        refine Go.by (fun t k => XS.istoreN X0.here hx rfl (hb hby d4_60) rfl (l' := #[.val (.int (own_ushr j48_1 (4 : Int32))), .val (.int (j48_0 + (-4 : Int32)))]) rfl k) ?_
        show Go p e below s₁ (mkF m 61 #[.val (.int (own_ushr j48_1 (4 : Int32))), .val (.int (j48_0 + (-4 : Int32)))] []) _
        exact J61 (j48_0 + (-4 : Int32)) (own_ushr j48_1 (4 : Int32)) (own_hi (b := 4) (D := (-4 : Int32)) (S := (4 : Int32)) rfl hl (by decide) rfl rfl rfl hj48 hc2)
    by_cases hc3 : j33_1 < (256 : Int32)
    · refine Go.by (fun t k => XS.icmpYes X0.here hx rfl (pc0 := 37) (pc' := 48) rfl (hb hby d4_37) rfl (tlt hc3).1 (by decide) (by decide) k) ?_
      show Go p e below s₁ (mkF m 48 #[.val (.int j33_1), .val (.int j33_0)] []) _
      exact J48 j33_0 j33_1 (own_lo (b := 8) rfl hj33 hc3)
    · refine Go.by (fun t k => XS.icmpNo X0.here hx rfl (hb hby d4_37) rfl (flt hc3).1 k) ?_
      show Go p e below s₁ (mkF m 40 #[.val (.int j33_1), .val (.int j33_0)] []) _
      refine Go.by (fun t k => XS.iinc X0.here hx rfl (hb hby d4_40) rfl (l' := #[.val (.int j33_1), .val (.int (j33_0 + (-8 : Int32)))]) rfl k) ?_
      show Go p e below s₁ (mkF m 43 #[.val (.int j33_1), .val (.int (j33_0 + (-8 : Int32)))] []) _
      refine Go.by (fun t k => XS.iloadN X0.here hx rfl (hb hby d4_43) rfl k) ?_
      show Go p e below s₁ (mkF m 44 #[.val (.int j33_1), .val (.int (j33_0 + (-8 : Int32)))] [(.int j33_1)]) _
      refine Go.by (fun t k => XS.bipush X0.here hx rfl (hb hby d4_44) k) ?_
      show Go p e below s₁ (mkF m 46 #[.val (.int j33_1), .val (.int (j33_0 + (-8 : Int32)))] [(.int (8 : Int32)), (.int j33_1)]) _
      refine Go.by (fun t k => XS.iushr X0.here hx rfl (hb hby d4_46) rfl k) ?_
      show Go p e below s₁ (mkF m 47 #[.val (.int j33_1), .val (.int (j33_0 + (-8 : Int32)))] [(.int (own_ushr j33_1 (8 : Int32)))]) _
      refine Go.by (fun t k => XS.istoreN X0.here hx rfl (hb hby d4_47) rfl (l' := #[.val (.int (own_ushr j33_1 (8 : Int32))), .val (.int (j33_0 + (-8 : Int32)))]) rfl k) ?_
      show Go p e below s₁ (mkF m 48 #[.val (.int (own_ushr j33_1 (8 : Int32))), .val (.int (j33_0 + (-8 : Int32)))] []) _
      exact J48 (j33_0 + (-8 : Int32)) (own_ushr j33_1 (8 : Int32)) (own_hi (b := 8) (D := (-8 : Int32)) (S := (8 : Int32)) rfl hl (by decide) rfl rfl rfl hj33 hc3)
  by_cases hc4 : p1 < (65536 : Int32)
  · refine Go.by (fun t k => XS.icmpYes X0.here hx rfl (pc0 := 22) (pc' := 33) rfl (hb hby d4_22) rfl (tlt hc4).1 (by decide) (by decide) k) ?_
    show Go p e below s₁ (mkF m 33 #[.val (.int p1), .val (.int (31 : Int32))] []) _
    exact J33 (31 : Int32) p1 (own_lo (b := 16) rfl (own_inv0 hl h0' h1' h2') hc4)
  · refine Go.by (fun t k => XS.icmpNo X0.here hx rfl (hb hby d4_22) rfl (flt hc4).1 k) ?_
    show Go p e below s₁ (mkF m 25 #[.val (.int p1), .val (.int (31 : Int32))] []) _
    refine Go.by (fun t k => XS.iinc X0.here hx rfl (hb hby d4_25) rfl (l' := #[.val (.int p1), .val (.int (15 : Int32))]) rfl k) ?_
    show Go p e below s₁ (mkF m 28 #[.val (.int p1), .val (.int (15 : Int32))] []) _
    refine Go.by (fun t k => XS.iloadN X0.here hx rfl (hb hby d4_28) rfl k) ?_
    show Go p e below s₁ (mkF m 29 #[.val (.int p1), .val (.int (15 : Int32))] [(.int p1)]) _
    refine Go.by (fun t k => XS.bipush X0.here hx rfl (hb hby d4_29) k) ?_
    show Go p e below s₁ (mkF m 31 #[.val (.int p1), .val (.int (15 : Int32))] [(.int (16 : Int32)), (.int p1)]) _
    refine Go.by (fun t k => XS.iushr X0.here hx rfl (hb hby d4_31) rfl k) ?_
    show Go p e below s₁ (mkF m 32 #[.val (.int p1), .val (.int (15 : Int32))] [(.int (own_ushr p1 (16 : Int32)))]) _
    refine Go.by (fun t k => XS.istoreN X0.here hx rfl (hb hby d4_32) rfl (l' := #[.val (.int (own_ushr p1 (16 : Int32))), .val (.int (15 : Int32))]) rfl k) ?_
    show Go p e below s₁ (mkF m 33 #[.val (.int (own_ushr p1 (16 : Int32))), .val (.int (15 : Int32))] []) _
    exact J33 (15 : Int32) (own_ushr p1 (16 : Int32)) (own_hi (b := 16) (D := (-16 : Int32)) (S := (16 : Int32)) (by decide) hl (by decide) rfl rfl rfl (own_inv0 hl h0' h1' h2') hc4)
theorem pd_0 : parseMethodDescriptor "(I)I" = some ⟨[.int], some .int⟩ := by decide +kernel
theorem d3_0 : decode prog_13_method_3_code 0 = .ok (.bipush 31, 2) := by decide +kernel
theorem d3_2 : decode prog_13_method_3_code 2 = .ok (.iload_n 1, 1) := by decide +kernel
theorem d3_3 : decode prog_13_method_3_code 3 = .ok (.invokestatic 37, 3) := by decide +kernel
theorem d3_6 : decode prog_13_method_3_code 6 = .ok (.isub, 1) := by decide +kernel
theorem d3_7 : decode prog_13_method_3_code 7 = .ok (.istore_n 2, 1) := by decide +kernel
theorem d3_8 : decode prog_13_method_3_code 8 = .ok (.aload_n 0, 1) := by decide +kernel
theorem d3_9 : decode prog_13_method_3_code 9 = .ok (.getfield 30, 3) := by decide +kernel
theorem d3_12 : decode prog_13_method_3_code 12 = .ok (.aload_n 0, 1) := by decide +kernel
theorem d3_13 : decode prog_13_method_3_code 13 = .ok (.getfield 26, 3) := by decide +kernel
theorem d3_16 : decode prog_13_method_3_code 16 = .ok (.iconst 1, 1) := by decide +kernel
theorem d3_17 : decode prog_13_method_3_code 17 = .ok (.isub, 1) := by decide +kernel
theorem d3_18 : decode prog_13_method_3_code 18 = .ok (.iload_n 2, 1) := by decide +kernel
theorem d3_19 : decode prog_13_method_3_code 19 = .ok (.isub, 1) := by decide +kernel
theorem d3_20 : decode prog_13_method_3_code 20 = .ok (.lshl, 1) := by decide +kernel
theorem d3_21 : decode prog_13_method_3_code 21 = .ok (.lstore_n 3, 1) := by decide +kernel
theorem d3_22 : decode prog_13_method_3_code 22 = .ok (.iload_n 1, 1) := by decide +kernel
theorem d3_23 : decode prog_13_method_3_code 23 = .ok (.iconst 1, 1) := by decide +kernel
theorem d3_24 : decode prog_13_method_3_code 24 = .ok (.iload_n 2, 1) := by decide +kernel
theorem d3_25 : decode prog_13_method_3_code 25 = .ok (.ishl, 1) := by decide +kernel
theorem d3_26 : decode prog_13_method_3_code 26 = .ok (.isub, 1) := by decide +kernel
theorem d3_27 : decode prog_13_method_3_code 27 = .ok (.i2l, 1) := by decide +kernel
theorem d3_28 : decode prog_13_method_3_code 28 = .ok (.lload_n 3, 1) := by decide +kernel
theorem d3_29 : decode prog_13_method_3_code 29 = .ok (.lmul, 1) := by decide +kernel
theorem d3_30 : decode prog_13_method_3_code 30 = .ok (.lreturn, 1) := by decide +kernel
theorem ef_3 (m : MethodId) (x0 : Addr) (x1 : Int32) : entryFrame m #[(.ref x0), (.int x1)] 5 = mkF m 0 #[.val (.ref x0), .val (.int x1), .unset, .unset, .unset] [] := by first | (simp [entryFrame, mkF, argsToLocals, Value.category]; done) | rfl
def Q3 (Z : State) (a1 : Addr) (p2 : Int32) (u_mLeafMillis : Int64) (u_mLevels : Int32) (lev : Nat) (h0 : Heap) (n0 : Nat) (v : Option Value) (h : Heap) (L : List Loc) : Prop := v = some (.long (((p2 - ((1 : Int32) <<< (((31 : Int32) - (Int32.ofInt (31 - (lev : Int)))) &&& 31))).toInt64) * (u_mLeafMillis <<< (((u_mLevels - (1 : Int32)) - ((31 : Int32) - (Int32.ofInt (31 - (lev : Int))))) &&& 63).toInt64))) ∧ Fr n0 L ∧ h = h0
set_option maxRecDepth 65536 in
set_option maxHeartbeats 40000000 in
theorem rm3 (l : Launch) (Z : State) (a0 : Array Value) (hw : ∀ d ∈ tables_1, d.before a0 Z = true) (ws : List Jvm.Cond) (a1 : Addr) (p2 : Int32) (u_mLeafMillis : Int64) (u_mLevels : Int32) (lev : Nat) (h0 : Heap) (n0 : Nat) (Z0 : n0 ≤ h0.size) (F_mLeafMillis : Fld Z h0 a1 "com/example/huangpu/huangpu/synopsis/AggregateTree" "mLeafMillis" "J" (.long u_mLeafMillis)) (F_mLevels : Fld Z h0 a1 "com/example/huangpu/huangpu/synopsis/AggregateTree" "mLevels" "I" (.int u_mLevels)) (hl : lev < 31) (hpos : (0 : Int32) < p2) (h0' : 0 ≤ p2.toInt) (h1' : 2 ^ lev ≤ p2.toInt.toNat) (h2' : p2.toInt.toNat < 2 ^ (lev + 1)) :
    MetFree l (⟨"com/example/huangpu/huangpu/synopsis/AggregateTree", "start", "(I)J"⟩ : MethodName) (head1 (Jvm.Cond.code (⟨"com/example/huangpu/huangpu/synopsis/AggregateTree", "start", "(I)J"⟩ : MethodName) prog_13_method_3_code 5 (some .long) :: ws) ({ frames := 1, cells := 0, slots := 0, locals := 14 } : Room)) (fun a U => a = #[(.ref a1), (.int p2)] ∧ Z.Warmed39 U.vm ∧ U.heap = h0) (fun _ _ _ _ _ => True) (fun _ U o U' => ∃ v L, o = .returned v ∧ Q3 Z a1 p2 u_mLeafMillis u_mLevels lev h0 n0 v U'.heap L ∧ FrameEnd U o U' L ({ frames := 1, cells := 0, slots := 0, locals := 14 } : Room).cells ({ frames := 1, cells := 0, slots := 0, locals := 14 } : Room).slots) := by
  refine MetFree.of_bodySF (plainFor_of_name pn_0) hisR ?_
  intro p e s m args below meth c s₁ Bd hml0 hP hK
  obtain ⟨rfl, hZ, hh⟩ := hP
  have hx := Bd.exec
  have hby := Bd.bytes
  have hml : c.maxLocals = 5 := hml0
  have hown : s.vm.findClass "com/example/huangpu/huangpu/synopsis/AggregateTree" = some m.cls := findClass_of_methodNamed Bd.named
  have hnm := (name_of_methodNamed Bd.named Bd.method).1
  have X0 : Stand p l e ({ frames := 1, cells := 0, slots := 0, locals := 14 } : Room) s m #[(.ref a1), (.int p2)] below meth c s₁ [] 0 0 := Stand.of_body Bd
  have e0 : s₁.heap = h0 := by rw [← hh, Bd.state]; rfl
  have N0 := Fr.nil n0
  refine Go.start (ef_3 m a1 p2) ?_
  show Go p e below s₁ (mkF m 0 #[.val (.ref a1), .val (.int p2), .unset, .unset, .unset] []) _
  refine Go.by (fun t k => XS.bipush X0.here hx rfl (hb hby d3_0) k) ?_
  show Go p e below s₁ (mkF m 2 #[.val (.ref a1), .val (.int p2), .unset, .unset, .unset] [(.int (31 : Int32))]) _
  refine Go.by (fun t k => XS.iloadN X0.here hx rfl (hb hby d3_2) rfl k) ?_
  show Go p e below s₁ (mkF m 3 #[.val (.ref a1), .val (.int p2), .unset, .unset, .unset] [(.int p2), (.int (31 : Int32))]) _
  obtain ⟨_, _, ⟨T1, L1, k1, n1⟩, -, X1, ⟨Lc1, hQ1, l1, y1, z1⟩, st1⟩ := Jvm.LawKit.callS X0 hx (y := (⟨"java/lang/Integer", "numberOfLeadingZeros", "(I)I"⟩ : MethodName)) hown (mvT hZ (hw _ (List.mem_of_getElem? (i := 23) rfl))) (mvT hZ (hw _ (List.mem_of_getElem? (i := 24) rfl))) (mvT hZ (hw _ (List.mem_of_getElem? (i := 25) rfl))) (mvT hZ (hw _ (List.mem_of_getElem? (i := 26) rfl))) (by decide) (backOf (W := 1) (rm4 l Z a0 hw [] p2 lev h0 n0 Z0 hl hpos h0' h1' h2') hZ (hw _ (List.mem_of_getElem? (i := 26) rfl)) (hw _ (List.mem_of_getElem? (i := 25) rfl)) (by decide) (by decide)) (g := (mkF m 3 #[.val (.ref a1), .val (.int p2), .unset, .unset, .unset] [(.int p2), (.int (31 : Int32))])) rfl (by rw [hml]; rfl) (argsL := [(.int p2)]) (rest := [(.int (31 : Int32))]) (lenOf pd_0 rfl) rfl (by show 2 * 0 + _ ≤ _; exact Nat.le_of_eq rfl) (hb hby d3_3) (fun _ _ => ⟨rfl, e0, (by decide : 0 + 0 ≤ _), (by decide : 0 + 0 ≤ _)⟩)
  dsimp only [Pt.U, Pt.locs, Pt.cells, Pt.slots] at X1 l1 y1 z1 st1 hQ1
  subst l1 y1 z1
  obtain ⟨rfl, N1q, e1q⟩ := hQ1
  have N1 := Fr.app N0 N1q
  refine Go.by st1 ?_
  show Go p e below T1 (mkF m 6 #[.val (.ref a1), .val (.int p2), .unset, .unset, .unset] [(.int (Int32.ofInt (31 - (lev : Int)))), (.int (31 : Int32))]) _
  refine Go.by (fun t k => XS.isub X1.here hx rfl (hb hby d3_6) rfl k) ?_
  show Go p e below T1 (mkF m 7 #[.val (.ref a1), .val (.int p2), .unset, .unset, .unset] [(.int ((31 : Int32) - (Int32.ofInt (31 - (lev : Int)))))]) _
  refine Go.by (fun t k => XS.istoreN X1.here hx rfl (hb hby d3_7) rfl (l' := #[.val (.ref a1), .val (.int p2), .val (.int ((31 : Int32) - (Int32.ofInt (31 - (lev : Int))))), .unset, .unset]) rfl k) ?_
  show Go p e below T1 (mkF m 8 #[.val (.ref a1), .val (.int p2), .val (.int ((31 : Int32) - (Int32.ofInt (31 - (lev : Int))))), .unset, .unset] []) _
  refine Go.by (fun t k => XS.aloadN X1.here hx rfl (hb hby d3_8) rfl rfl k) ?_
  show Go p e below T1 (mkF m 9 #[.val (.ref a1), .val (.int p2), .val (.int ((31 : Int32) - (Int32.ofInt (31 - (lev : Int))))), .unset, .unset] [(.ref a1)]) _
  obtain ⟨T2, X2, e2, st2⟩ := getF X1 hx hZ hown (host := "") (Or.inl (hw _ (List.mem_of_getElem? (i := 16) rfl))) Via.refl e1q F_mLeafMillis (g := (mkF m 9 #[.val (.ref a1), .val (.int p2), .val (.int ((31 : Int32) - (Int32.ofInt (31 - (lev : Int))))), .unset, .unset] [(.ref a1)])) rfl rfl (hb hby d3_9)
  refine Go.by st2 ?_
  show Go p e below T2 (mkF m 12 #[.val (.ref a1), .val (.int p2), .val (.int ((31 : Int32) - (Int32.ofInt (31 - (lev : Int))))), .unset, .unset] [(.long u_mLeafMillis)]) _
  refine Go.by (fun t k => XS.aloadN X2.here hx rfl (hb hby d3_12) rfl rfl k) ?_
  show Go p e below T2 (mkF m 13 #[.val (.ref a1), .val (.int p2), .val (.int ((31 : Int32) - (Int32.ofInt (31 - (lev : Int))))), .unset, .unset] [(.ref a1), (.long u_mLeafMillis)]) _
  obtain ⟨T3, X3, e3, st3⟩ := getF X2 hx hZ hown (host := "") (Or.inl (hw _ (List.mem_of_getElem? (i := 14) rfl))) Via.refl e2 F_mLevels (g := (mkF m 13 #[.val (.ref a1), .val (.int p2), .val (.int ((31 : Int32) - (Int32.ofInt (31 - (lev : Int))))), .unset, .unset] [(.ref a1), (.long u_mLeafMillis)])) rfl rfl (hb hby d3_13)
  refine Go.by st3 ?_
  show Go p e below T3 (mkF m 16 #[.val (.ref a1), .val (.int p2), .val (.int ((31 : Int32) - (Int32.ofInt (31 - (lev : Int))))), .unset, .unset] [(.int u_mLevels), (.long u_mLeafMillis)]) _
  refine Go.by (fun t k => XS.iconst X3.here hx rfl (hb hby d3_16) k) ?_
  show Go p e below T3 (mkF m 17 #[.val (.ref a1), .val (.int p2), .val (.int ((31 : Int32) - (Int32.ofInt (31 - (lev : Int))))), .unset, .unset] [(.int (1 : Int32)), (.int u_mLevels), (.long u_mLeafMillis)]) _
  refine Go.by (fun t k => XS.isub X3.here hx rfl (hb hby d3_17) rfl k) ?_
  show Go p e below T3 (mkF m 18 #[.val (.ref a1), .val (.int p2), .val (.int ((31 : Int32) - (Int32.ofInt (31 - (lev : Int))))), .unset, .unset] [(.int (u_mLevels - (1 : Int32))), (.long u_mLeafMillis)]) _
  refine Go.by (fun t k => XS.iloadN X3.here hx rfl (hb hby d3_18) rfl k) ?_
  show Go p e below T3 (mkF m 19 #[.val (.ref a1), .val (.int p2), .val (.int ((31 : Int32) - (Int32.ofInt (31 - (lev : Int))))), .unset, .unset] [(.int ((31 : Int32) - (Int32.ofInt (31 - (lev : Int))))), (.int (u_mLevels - (1 : Int32))), (.long u_mLeafMillis)]) _
  refine Go.by (fun t k => XS.isub X3.here hx rfl (hb hby d3_19) rfl k) ?_
  show Go p e below T3 (mkF m 20 #[.val (.ref a1), .val (.int p2), .val (.int ((31 : Int32) - (Int32.ofInt (31 - (lev : Int))))), .unset, .unset] [(.int ((u_mLevels - (1 : Int32)) - ((31 : Int32) - (Int32.ofInt (31 - (lev : Int)))))), (.long u_mLeafMillis)]) _
  refine Go.by (fun t k => XS.lshl X3.here hx rfl (hb hby d3_20) rfl k) ?_
  show Go p e below T3 (mkF m 21 #[.val (.ref a1), .val (.int p2), .val (.int ((31 : Int32) - (Int32.ofInt (31 - (lev : Int))))), .unset, .unset] [(.long (u_mLeafMillis <<< (((u_mLevels - (1 : Int32)) - ((31 : Int32) - (Int32.ofInt (31 - (lev : Int))))) &&& 63).toInt64))]) _
  refine Go.by (fun t k => XS.lstoreN X3.here hx rfl (hb hby d3_21) rfl (l' := #[.val (.ref a1), .val (.int p2), .val (.int ((31 : Int32) - (Int32.ofInt (31 - (lev : Int))))), .val (.long (u_mLeafMillis <<< (((u_mLevels - (1 : Int32)) - ((31 : Int32) - (Int32.ofInt (31 - (lev : Int))))) &&& 63).toInt64)), .second]) rfl k) ?_
  show Go p e below T3 (mkF m 22 #[.val (.ref a1), .val (.int p2), .val (.int ((31 : Int32) - (Int32.ofInt (31 - (lev : Int))))), .val (.long (u_mLeafMillis <<< (((u_mLevels - (1 : Int32)) - ((31 : Int32) - (Int32.ofInt (31 - (lev : Int))))) &&& 63).toInt64)), .second] []) _
  refine Go.by (fun t k => XS.iloadN X3.here hx rfl (hb hby d3_22) rfl k) ?_
  show Go p e below T3 (mkF m 23 #[.val (.ref a1), .val (.int p2), .val (.int ((31 : Int32) - (Int32.ofInt (31 - (lev : Int))))), .val (.long (u_mLeafMillis <<< (((u_mLevels - (1 : Int32)) - ((31 : Int32) - (Int32.ofInt (31 - (lev : Int))))) &&& 63).toInt64)), .second] [(.int p2)]) _
  refine Go.by (fun t k => XS.iconst X3.here hx rfl (hb hby d3_23) k) ?_
  show Go p e below T3 (mkF m 24 #[.val (.ref a1), .val (.int p2), .val (.int ((31 : Int32) - (Int32.ofInt (31 - (lev : Int))))), .val (.long (u_mLeafMillis <<< (((u_mLevels - (1 : Int32)) - ((31 : Int32) - (Int32.ofInt (31 - (lev : Int))))) &&& 63).toInt64)), .second] [(.int (1 : Int32)), (.int p2)]) _
  refine Go.by (fun t k => XS.iloadN X3.here hx rfl (hb hby d3_24) rfl k) ?_
  show Go p e below T3 (mkF m 25 #[.val (.ref a1), .val (.int p2), .val (.int ((31 : Int32) - (Int32.ofInt (31 - (lev : Int))))), .val (.long (u_mLeafMillis <<< (((u_mLevels - (1 : Int32)) - ((31 : Int32) - (Int32.ofInt (31 - (lev : Int))))) &&& 63).toInt64)), .second] [(.int ((31 : Int32) - (Int32.ofInt (31 - (lev : Int))))), (.int (1 : Int32)), (.int p2)]) _
  refine Go.by (fun t k => XS.ishl X3.here hx rfl (hb hby d3_25) rfl k) ?_
  show Go p e below T3 (mkF m 26 #[.val (.ref a1), .val (.int p2), .val (.int ((31 : Int32) - (Int32.ofInt (31 - (lev : Int))))), .val (.long (u_mLeafMillis <<< (((u_mLevels - (1 : Int32)) - ((31 : Int32) - (Int32.ofInt (31 - (lev : Int))))) &&& 63).toInt64)), .second] [(.int ((1 : Int32) <<< (((31 : Int32) - (Int32.ofInt (31 - (lev : Int)))) &&& 31))), (.int p2)]) _
  refine Go.by (fun t k => XS.isub X3.here hx rfl (hb hby d3_26) rfl k) ?_
  show Go p e below T3 (mkF m 27 #[.val (.ref a1), .val (.int p2), .val (.int ((31 : Int32) - (Int32.ofInt (31 - (lev : Int))))), .val (.long (u_mLeafMillis <<< (((u_mLevels - (1 : Int32)) - ((31 : Int32) - (Int32.ofInt (31 - (lev : Int))))) &&& 63).toInt64)), .second] [(.int (p2 - ((1 : Int32) <<< (((31 : Int32) - (Int32.ofInt (31 - (lev : Int)))) &&& 31))))]) _
  refine Go.by (fun t k => XS.i2l X3.here hx rfl (hb hby d3_27) rfl k) ?_
  show Go p e below T3 (mkF m 28 #[.val (.ref a1), .val (.int p2), .val (.int ((31 : Int32) - (Int32.ofInt (31 - (lev : Int))))), .val (.long (u_mLeafMillis <<< (((u_mLevels - (1 : Int32)) - ((31 : Int32) - (Int32.ofInt (31 - (lev : Int))))) &&& 63).toInt64)), .second] [(.long ((p2 - ((1 : Int32) <<< (((31 : Int32) - (Int32.ofInt (31 - (lev : Int)))) &&& 31))).toInt64))]) _
  refine Go.by (fun t k => XS.lloadN X3.here hx rfl (hb hby d3_28) rfl k) ?_
  show Go p e below T3 (mkF m 29 #[.val (.ref a1), .val (.int p2), .val (.int ((31 : Int32) - (Int32.ofInt (31 - (lev : Int))))), .val (.long (u_mLeafMillis <<< (((u_mLevels - (1 : Int32)) - ((31 : Int32) - (Int32.ofInt (31 - (lev : Int))))) &&& 63).toInt64)), .second] [(.long (u_mLeafMillis <<< (((u_mLevels - (1 : Int32)) - ((31 : Int32) - (Int32.ofInt (31 - (lev : Int))))) &&& 63).toInt64)), (.long ((p2 - ((1 : Int32) <<< (((31 : Int32) - (Int32.ofInt (31 - (lev : Int)))) &&& 31))).toInt64))]) _
  refine Go.by (fun t k => XS.lmul X3.here hx rfl (hb hby d3_29) rfl k) ?_
  show Go p e below T3 (mkF m 30 #[.val (.ref a1), .val (.int p2), .val (.int ((31 : Int32) - (Int32.ofInt (31 - (lev : Int))))), .val (.long (u_mLeafMillis <<< (((u_mLevels - (1 : Int32)) - ((31 : Int32) - (Int32.ofInt (31 - (lev : Int))))) &&& 63).toInt64)), .second] [(.long (((p2 - ((1 : Int32) <<< (((31 : Int32) - (Int32.ofInt (31 - (lev : Int)))) &&& 31))).toInt64) * (u_mLeafMillis <<< (((u_mLevels - (1 : Int32)) - ((31 : Int32) - (Int32.ofInt (31 - (lev : Int))))) &&& 63).toInt64)))]) _
  obtain ⟨fs, hr, hrun, hended, hW, hsame⟩ := X3.leave (v := some (.long (((p2 - ((1 : Int32) <<< (((31 : Int32) - (Int32.ofInt (31 - (lev : Int)))) &&& 31))).toInt64) * (u_mLeafMillis <<< (((u_mLevels - (1 : Int32)) - ((31 : Int32) - (Int32.ofInt (31 - (lev : Int))))) &&& 63).toInt64)))) (fun h => by rw [Bd.returns] at h; cases h)
  refine Go.done (retJ X3 hx Bd.returns (hb hby d3_30) hr) hrun hended ⟨_, _, rfl, ?_, ⟨_, rfl⟩, hW, hsame.mono (by decide) (by decide)⟩
  show Q3 Z a1 p2 u_mLeafMillis u_mLevels lev h0 n0 _ T3.heap _
  rw [e3]
  exact ⟨rfl, N1, rfl⟩
theorem own_shfin : ∀ k : Fin 30, ((((Int32.ofInt ((k.val : Int) + 1) - 1) &&& 63).toInt64).toBitVec.smod 64).toNat = k.val ∧ (((Int32.ofInt ((k.val : Int) + 1) - 1) &&& 31).toBitVec.smod 32).toNat = k.val := by decide +kernel
theorem own_lv (lv : Int32) (h1 : 1 ≤ lv.toInt) (h2 : lv.toInt ≤ 30) : ∃ k : Nat, k < 30 ∧ lv.toInt = (k : Int) + 1 ∧ ((((lv - 1) &&& 63).toInt64.toBitVec.smod 64).toNat = k) ∧ (((lv - 1) &&& 31).toBitVec.smod 32).toNat = k := by
  refine ⟨(lv.toInt - 1).toNat, by omega, by omega, ?_⟩
  have f := own_shfin ⟨(lv.toInt - 1).toNat, by omega⟩
  have e : (((lv.toInt - 1).toNat : Nat) : Int) + 1 = lv.toInt := by omega
  have e3 : Int32.ofInt lv.toInt = lv := Int32.ofInt_toInt lv
  simp only [e, e3] at f
  exact f
theorem own_pow (k : Nat) (h : k < 30) : (1 : Int) ≤ 2 ^ k ∧ (2 : Int) ^ k ≤ 536870912 := by
  have h1 : 0 < (2 : Nat) ^ k := Nat.pow_pos (by decide)
  have h2 : (2 : Nat) ^ k ≤ 2 ^ 29 := Nat.pow_le_pow_right (by decide) (by omega)
  have e : ((2 : Nat) ^ k : Int) = (((2 : Nat) ^ k : Nat) : Int) := by simp
  have e2 : (2 : Int) ^ k = (((2 : Nat) ^ k : Nat) : Int) := by simp
  rw [e2]; omega
theorem own_max : (9223372036854775807 : Int64).toInt = 9223372036854775807 := rfl
theorem own_one64 : (1 : Int64).toInt = 1 := rfl
theorem own_zero64 : (0 : Int64).toInt = 0 := rfl
theorem own_and (x : Int64) : 0 ≤ (x &&& (9223372036854775807 : Int64)).toInt := by
  have e := Jvm.Kit.i64_mask x 9223372036854775807 (k := 63) (by decide) (by decide)
  omega
theorem own_rem (x y : Int64) (hx : 0 ≤ x.toInt) (hy : 0 < y.toInt) : 0 ≤ (x - x / y * y).toInt ∧ (x - x / y * y).toInt < y.toInt := by
  rw [Jvm.Kit.i64_rem_nonneg hx]
  exact ⟨Int.emod_nonneg _ (by omega), Int.emod_lt_of_pos _ hy⟩
theorem own_ne (x : Int64) (h : 0 < x.toInt) : x ≠ 0 := fun q => by rw [q, own_zero64] at h; omega
theorem own_lm (lv : Int32) (lm : Int64) (k : Nat) (hk : k < 30) (hs : (((lv - 1) &&& 63).toInt64.toBitVec.smod 64).toNat = k) (h : (9223372036854775807 : Int64) >>> ((lv - (1 : Int32)) &&& 63).toInt64 = lm) : lm.toInt = 9223372036854775807 / 2 ^ k ∧ 0 < lm.toInt ∧ lm.toInt * 2 ^ k ≤ 9223372036854775807 := by
  have p := own_pow k hk
  have e : lm.toInt = 9223372036854775807 / 2 ^ k := by rw [← h, Jvm.Kit.i64_shr _ _ hs, own_max]
  rw [e]
  refine ⟨rfl, ?_, Int.ediv_mul_le _ (by omega)⟩
  have q : (1 : Int) ≤ 9223372036854775807 / 2 ^ k := (Int.le_ediv_iff_mul_le (by omega)).mpr (by omega)
  omega
theorem own_cv (lv : Int32) (lm lf cv : Int64) (k : Nat) (hk : k < 30) (hs : (((lv - 1) &&& 63).toInt64.toBitVec.smod 64).toNat = k) (h1 : lm.toInt * 2 ^ k ≤ 9223372036854775807) (h2 : 0 < lf.toInt) (h3 : lf.toInt ≤ lm.toInt) (h : lf <<< ((lv - (1 : Int32)) &&& 63).toInt64 = cv) : cv.toInt = lf.toInt * 2 ^ k ∧ 0 < cv.toInt := by
  have p := own_pow k hk
  have a : lf.toInt * 2 ^ k ≤ lm.toInt * 2 ^ k := Int.mul_le_mul_of_nonneg_right h3 (by omega)
  have b : 0 < lf.toInt * 2 ^ k := Int.mul_pos h2 (by omega)
  have e : cv.toInt = lf.toInt * 2 ^ k := by rw [← h]; exact Jvm.Kit.i64_shl _ _ hs (by omega) (by omega)
  rw [e]; exact ⟨rfl, b⟩

theorem own_lev (p1 lv : Int32) (h : ((p1 &&& (2147483647 : Int32)) % (30 : Int32)) + (1 : Int32) = lv) : 1 ≤ lv.toInt ∧ lv.toInt ≤ 30 := by
  have e := Jvm.Kit.i32_mask p1 2147483647 (k := 31) (by decide) (by decide)
  have e1 : ((p1 &&& (2147483647 : Int32)) % (30 : Int32)).toInt = (p1 &&& (2147483647 : Int32)).toInt % 30 := Jvm.Kit.i32_rem_nonneg (by omega)
  have o : (1 : Int32).toInt = 1 := rfl
  have e2 := Jvm.Kit.i32_add (p := (p1 &&& (2147483647 : Int32)) % (30 : Int32)) (q := 1) (by omega) (by omega)
  rw [← h, e2, e1]; omega
theorem own_lf (q lm lf : Int64) (h0 : 0 < lm.toInt) (h : ((q &&& (9223372036854775807 : Int64)) - (q &&& (9223372036854775807 : Int64)) / lm * lm) + (1 : Int64) = lf) : 0 < lf.toInt ∧ lf.toInt ≤ lm.toInt := by
  have r := own_rem (q &&& (9223372036854775807 : Int64)) lm (own_and q) h0
  have b := lm.toInt_lt
  have o := own_one64
  have e := Jvm.Kit.i64_add (x := (q &&& (9223372036854775807 : Int64)) - (q &&& (9223372036854775807 : Int64)) / lm * lm) (y := 1) (by omega) (by omega)
  rw [← h, e]; omega
theorem own_not1 (lv : Int32) (h : 1 ≤ lv.toInt ∧ lv.toInt ≤ 30) : ¬ lv < (1 : Int32) ∧ ¬ (30 : Int32) < lv := by
  have o : (1 : Int32).toInt = 1 := rfl
  have o2 : (30 : Int32).toInt = 30 := rfl
  rw [Int32.lt_iff_toInt_lt, Int32.lt_iff_toInt_lt]; omega
theorem own_nlt (x y : Int64) (h : y.toInt ≤ x.toInt) : ¬ x < y := by rw [Int64.lt_iff_toInt_lt]; omega
theorem own_ne32 (x : Int32) (h : 0 < x.toInt) : x ≠ 0 := fun q => by rw [q] at h; exact absurd h (by decide)
theorem own_lvl (d lv le : Int32) (h : 1 ≤ lv.toInt ∧ lv.toInt ≤ 30) (hq : (d &&& (2147483647 : Int32)) % lv = le) : 0 ≤ le.toInt ∧ le.toInt < lv.toInt := by
  have e := Jvm.Kit.i32_mask d 2147483647 (k := 31) (by decide) (by decide)
  rw [← hq, Jvm.Kit.i32_rem_nonneg (by omega)]
  exact ⟨Int.emod_nonneg _ (by omega), Int.emod_lt_of_pos _ (by omega)⟩
theorem own_lefin : ∀ k : Fin 30, ((Int32.ofInt (k.val : Int) &&& 31).toBitVec.smod 32).toNat = k.val ∧ (31 : Int32) - Int32.ofInt (31 - (k.val : Int)) = Int32.ofInt (k.val : Int) := by decide +kernel
theorem own_le (le : Int32) (h1 : 0 ≤ le.toInt) (h2 : le.toInt < 30) : ((1 : Int32) <<< (le &&& 31)).toInt = ((2 ^ le.toInt.toNat : Nat) : Int) ∧ (31 : Int32) - Int32.ofInt (31 - (le.toInt.toNat : Int)) = le := by
  have f := own_lefin ⟨le.toInt.toNat, by omega⟩
  have e : ((le.toInt.toNat : Nat) : Int) = le.toInt := by omega
  have e3 : Int32.ofInt le.toInt = le := Int32.ofInt_toInt le
  simp only [e, e3] at f
  have p := own_pow le.toInt.toNat (by omega)
  have o : (1 : Int32).toInt = 1 := rfl
  refine ⟨?_, by rw [e]; exact f.2⟩
  rw [Jvm.Kit.i32_shl _ _ f.1 (by rw [o]; omega) (by rw [o]; omega), o, Int.natCast_pow]
  simp
theorem own_pos (e le ps : Int32) (h1 : 0 ≤ le.toInt) (h2 : le.toInt < 30) (h : (e &&& (2147483647 : Int32)) % ((1 : Int32) <<< (le &&& 31)) = ps) : 0 ≤ ps.toInt ∧ ps.toInt < ((2 ^ le.toInt.toNat : Nat) : Int) := by
  have m := Jvm.Kit.i32_mask e 2147483647 (k := 31) (by decide) (by decide)
  have q := (own_le le h1 h2).1
  have p : 0 < (2 : Nat) ^ le.toInt.toNat := Nat.pow_pos (by decide)
  rw [← h, Jvm.Kit.i32_rem_nonneg (by omega), q]
  exact ⟨Int.emod_nonneg _ (by omega), Int.emod_lt_of_pos _ (by omega)⟩
theorem own_node (le ps nd : Int32) (h1 : 0 ≤ le.toInt) (h2 : le.toInt < 30) (h3 : 0 ≤ ps.toInt ∧ ps.toInt < ((2 ^ le.toInt.toNat : Nat) : Int)) (h : ((1 : Int32) <<< (le &&& 31)) + ps = nd) :
    (0 : Int32) < nd ∧ 0 ≤ nd.toInt ∧ 2 ^ le.toInt.toNat ≤ nd.toInt.toNat ∧ nd.toInt.toNat < 2 ^ (le.toInt.toNat + 1) := by
  have q := (own_le le h1 h2).1
  have p : 0 < (2 : Nat) ^ le.toInt.toNat := Nat.pow_pos (by decide)
  have p2 : (2 : Nat) ^ le.toInt.toNat ≤ 2 ^ 29 := Nat.pow_le_pow_right (by decide) (by omega)
  have p3 : (2 : Nat) ^ (le.toInt.toNat + 1) = 2 ^ le.toInt.toNat * 2 := Nat.pow_succ ..
  have e : nd.toInt = ((2 ^ le.toInt.toNat : Nat) : Int) + ps.toInt := by rw [← h, Jvm.Kit.i32_add (by omega) (by omega), q]
  have z : (0 : Int32).toInt = 0 := rfl
  rw [Int32.lt_iff_toInt_lt, z]
  omega
theorem own_shl (x n : Int64) : x <<< n = x * ((1 : Int64) <<< n) := by
  apply Int64.toBitVec_inj.mp
  rw [Int64.toBitVec_mul]
  show x.toBitVec <<< (n.toBitVec.smod 64) = x.toBitVec * ((1 : Int64).toBitVec <<< (n.toBitVec.smod 64))
  rw [BitVec.shiftLeft_eq', BitVec.shiftLeft_eq', BitVec.shiftLeft_eq_mul_twoPow, BitVec.shiftLeft_eq_mul_twoPow (x := (1 : Int64).toBitVec)]
  have o : (1 : Int64).toBitVec = 1#64 := rfl
  rw [o, BitVec.one_mul]
theorem own_law (le ps nd lv : Int32) (lf : Int64) (h1 : 0 ≤ le.toInt) (h2 : le.toInt < 30) (h : ((1 : Int32) <<< (le &&& 31)) + ps = nd) :
    ((nd - ((1 : Int32) <<< (((31 : Int32) - (Int32.ofInt (31 - (le.toInt.toNat : Int)))) &&& 31))).toInt64) * (lf <<< (((lv - (1 : Int32)) - ((31 : Int32) - (Int32.ofInt (31 - (le.toInt.toNat : Int))))) &&& 63).toInt64) = (ps.toInt64 * lf) <<< (((lv - (1 : Int32)) - le) &&& 63).toInt64 := by
  rw [(own_le le h1 h2).2, ← h, Int32.add_comm, Int32.add_sub_cancel, own_shl lf, own_shl (ps.toInt64 * lf), Int64.mul_assoc]
theorem pd_1 : parseMethodDescriptor "(JIJ)V" = some ⟨[.long, .int, .long], none⟩ := by decide +kernel
theorem pd_2 : parseMethodDescriptor "(I)J" = some ⟨[.int], some .long⟩ := by decide +kernel
theorem pn_2 : plainName "com/example/huangpu/huangpu/synopsis/AggregateTreeStartPinLaw" = true := by first | (simp [plainName, overriddenIn]; done) | decide +kernel
theorem ef_0 (m : MethodId) (x0 : Int32) (x1 : Int64) (x2 : Int64) (x3 : Int32) (x4 : Int32) : entryFrame m #[(.int x0), (.long x1), (.long x2), (.int x3), (.int x4)] maxLocals = mkF m 0 #[.val (.int x0), .val (.long x1), .second, .val (.long x2), .second, .val (.int x3), .val (.int x4), .unset, .unset, .unset, .unset, .unset, .unset, .unset, .unset, .unset, .unset, .unset, .unset, .unset, .unset, .unset] [] := by first | (simp [entryFrame, mkF, argsToLocals, Value.category, maxLocals]; done) | rfl
def Q0 (Z : State) (p1 : Int32) (q2 : Int64) (q3 : Int64) (p4 : Int32) (p5 : Int32) (h0 : Heap) (n0 : Nat) (v : Option Value) (h : Heap) (L : List Loc) : Prop := v = some (.int 1) ∧ Fr n0 L
set_option maxRecDepth 65536 in
set_option maxHeartbeats 40000000 in
theorem rm0 (l : Launch) (Z : State) (a0 : Array Value) (hw : ∀ d ∈ tables_1, d.before a0 Z = true) (ws : List Jvm.Cond) (p1 : Int32) (q2 : Int64) (q3 : Int64) (p4 : Int32) (p5 : Int32) (h0 : Heap) (n0 : Nat) (Z0 : n0 ≤ h0.size) :
    MetFree l x (head1 (Jvm.Cond.code x code maxLocals ret :: ws) room_1) (fun a U => a = #[(.int p1), (.long q2), (.long q3), (.int p4), (.int p5)] ∧ Z.Warmed39 U.vm ∧ U.heap = h0) (fun _ _ _ _ _ => True) (fun _ U o U' => ∃ v L, o = .returned v ∧ Q0 Z p1 q2 q3 p4 p5 h0 n0 v U'.heap L ∧ FrameEnd U o U' L room_1.cells room_1.slots) := by
  refine MetFree.of_bodySF (plainFor_of_name pn_2) hisR ?_
  intro p e s m args below meth c s₁ Bd hml0 hP hK
  obtain ⟨rfl, hZ, hh⟩ := hP
  have hx := Bd.exec
  have hby := Bd.bytes
  have hml : c.maxLocals = 22 := hml0
  have hown : s.vm.findClass "com/example/huangpu/huangpu/synopsis/AggregateTreeStartPinLaw" = some m.cls := findClass_of_methodNamed Bd.named
  have hnm := (name_of_methodNamed Bd.named Bd.method).1
  have X0 : Stand p l e room_1 s m #[(.int p1), (.long q2), (.long q3), (.int p4), (.int p5)] below meth c s₁ [] 0 0 := Stand.of_body Bd
  have e0 : s₁.heap = h0 := by rw [← hh, Bd.state]; rfl
  have N0 := Fr.nil n0
  refine Go.start (ef_0 m p1 q2 q3 p4 p5) ?_
  show Go p e below s₁ (mkF m 0 #[.val (.int p1), .val (.long q2), .second, .val (.long q3), .second, .val (.int p4), .val (.int p5), .unset, .unset, .unset, .unset, .unset, .unset, .unset, .unset, .unset, .unset, .unset, .unset, .unset, .unset, .unset] []) _
  refine Go.by (fun t k => XS.iloadN X0.here hx rfl (hb hby at_0) rfl k) ?_
  show Go p e below s₁ (mkF m 1 #[.val (.int p1), .val (.long q2), .second, .val (.long q3), .second, .val (.int p4), .val (.int p5), .unset, .unset, .unset, .unset, .unset, .unset, .unset, .unset, .unset, .unset, .unset, .unset, .unset, .unset, .unset] [(.int p1)]) _
  refine Go.by (fun t k => X0.ldcInt hx hown (mvT hZ (hw _ (List.mem_of_getElem? (i := 0) rfl))) (g := (mkF m 1 #[.val (.int p1), .val (.long q2), .second, .val (.long q3), .second, .val (.int p4), .val (.int p5), .unset, .unset, .unset, .unset, .unset, .unset, .unset, .unset, .unset, .unset, .unset, .unset, .unset, .unset, .unset] [(.int p1)])) rfl (hb hby at_1) t k) ?_
  show Go p e below s₁ (mkF m 3 #[.val (.int p1), .val (.long q2), .second, .val (.long q3), .second, .val (.int p4), .val (.int p5), .unset, .unset, .unset, .unset, .unset, .unset, .unset, .unset, .unset, .unset, .unset, .unset, .unset, .unset, .unset] [(.int (2147483647 : Int32)), (.int p1)]) _
  refine Go.by (fun t k => XS.iand X0.here hx rfl (hb hby at_3) rfl k) ?_
  show Go p e below s₁ (mkF m 4 #[.val (.int p1), .val (.long q2), .second, .val (.long q3), .second, .val (.int p4), .val (.int p5), .unset, .unset, .unset, .unset, .unset, .unset, .unset, .unset, .unset, .unset, .unset, .unset, .unset, .unset, .unset] [(.int (p1 &&& (2147483647 : Int32)))]) _
  refine Go.by (fun t k => XS.bipush X0.here hx rfl (hb hby at_4) k) ?_
  show Go p e below s₁ (mkF m 6 #[.val (.int p1), .val (.long q2), .second, .val (.long q3), .second, .val (.int p4), .val (.int p5), .unset, .unset, .unset, .unset, .unset, .unset, .unset, .unset, .unset, .unset, .unset, .unset, .unset, .unset, .unset] [(.int (30 : Int32)), (.int (p1 &&& (2147483647 : Int32)))]) _
  refine Go.by (fun t k => iremM X0 hx rfl (hb hby at_6) rfl (by decide) k) ?_
  show Go p e below s₁ (mkF m 7 #[.val (.int p1), .val (.long q2), .second, .val (.long q3), .second, .val (.int p4), .val (.int p5), .unset, .unset, .unset, .unset, .unset, .unset, .unset, .unset, .unset, .unset, .unset, .unset, .unset, .unset, .unset] [(.int ((p1 &&& (2147483647 : Int32)) % (30 : Int32)))]) _
  refine Go.by (fun t k => XS.iconst X0.here hx rfl (hb hby at_7) k) ?_
  show Go p e below s₁ (mkF m 8 #[.val (.int p1), .val (.long q2), .second, .val (.long q3), .second, .val (.int p4), .val (.int p5), .unset, .unset, .unset, .unset, .unset, .unset, .unset, .unset, .unset, .unset, .unset, .unset, .unset, .unset, .unset] [(.int (1 : Int32)), (.int ((p1 &&& (2147483647 : Int32)) % (30 : Int32)))]) _
  refine Go.by (fun t k => XS.iadd X0.here hx rfl (hb hby at_8) rfl k) ?_
  show Go p e below s₁ (mkF m 9 #[.val (.int p1), .val (.long q2), .second, .val (.long q3), .second, .val (.int p4), .val (.int p5), .unset, .unset, .unset, .unset, .unset, .unset, .unset, .unset, .unset, .unset, .unset, .unset, .unset, .unset, .unset] [(.int (((p1 &&& (2147483647 : Int32)) % (30 : Int32)) + (1 : Int32)))]) _
  refine Go.by (fun t k => XS.istore X0.here hx rfl (hb hby at_9) rfl (l' := #[.val (.int p1), .val (.long q2), .second, .val (.long q3), .second, .val (.int p4), .val (.int p5), .val (.int (((p1 &&& (2147483647 : Int32)) % (30 : Int32)) + (1 : Int32))), .unset, .unset, .unset, .unset, .unset, .unset, .unset, .unset, .unset, .unset, .unset, .unset, .unset, .unset]) rfl k) ?_
  show Go p e below s₁ (mkF m 11 #[.val (.int p1), .val (.long q2), .second, .val (.long q3), .second, .val (.int p4), .val (.int p5), .val (.int (((p1 &&& (2147483647 : Int32)) % (30 : Int32)) + (1 : Int32))), .unset, .unset, .unset, .unset, .unset, .unset, .unset, .unset, .unset, .unset, .unset, .unset, .unset, .unset] []) _
  generalize h_lv : (((p1 &&& (2147483647 : Int32)) % (30 : Int32)) + (1 : Int32)) = lv
  have L := own_lev p1 lv h_lv
  obtain ⟨k, hk, hlk, hs, hs2⟩ := own_lv lv L.1 L.2
  refine Go.by (fun t k => X0.ldc2Long hx hown (mvT hZ (hw _ (List.mem_of_getElem? (i := 1) rfl))) (g := (mkF m 11 #[.val (.int p1), .val (.long q2), .second, .val (.long q3), .second, .val (.int p4), .val (.int p5), .val (.int lv), .unset, .unset, .unset, .unset, .unset, .unset, .unset, .unset, .unset, .unset, .unset, .unset, .unset, .unset] [])) rfl (hb hby at_11) t k) ?_
  show Go p e below s₁ (mkF m 14 #[.val (.int p1), .val (.long q2), .second, .val (.long q3), .second, .val (.int p4), .val (.int p5), .val (.int lv), .unset, .unset, .unset, .unset, .unset, .unset, .unset, .unset, .unset, .unset, .unset, .unset, .unset, .unset] [(.long (9223372036854775807 : Int64))]) _
  refine Go.by (fun t k => XS.iload X0.here hx rfl (hb hby at_14) rfl k) ?_
  show Go p e below s₁ (mkF m 16 #[.val (.int p1), .val (.long q2), .second, .val (.long q3), .second, .val (.int p4), .val (.int p5), .val (.int lv), .unset, .unset, .unset, .unset, .unset, .unset, .unset, .unset, .unset, .unset, .unset, .unset, .unset, .unset] [(.int lv), (.long (9223372036854775807 : Int64))]) _
  refine Go.by (fun t k => XS.iconst X0.here hx rfl (hb hby at_16) k) ?_
  show Go p e below s₁ (mkF m 17 #[.val (.int p1), .val (.long q2), .second, .val (.long q3), .second, .val (.int p4), .val (.int p5), .val (.int lv), .unset, .unset, .unset, .unset, .unset, .unset, .unset, .unset, .unset, .unset, .unset, .unset, .unset, .unset] [(.int (1 : Int32)), (.int lv), (.long (9223372036854775807 : Int64))]) _
  refine Go.by (fun t k => XS.isub X0.here hx rfl (hb hby at_17) rfl k) ?_
  show Go p e below s₁ (mkF m 18 #[.val (.int p1), .val (.long q2), .second, .val (.long q3), .second, .val (.int p4), .val (.int p5), .val (.int lv), .unset, .unset, .unset, .unset, .unset, .unset, .unset, .unset, .unset, .unset, .unset, .unset, .unset, .unset] [(.int (lv - (1 : Int32))), (.long (9223372036854775807 : Int64))]) _
  refine Go.by (fun t k => XS.lshr X0.here hx rfl (hb hby at_18) rfl k) ?_
  show Go p e below s₁ (mkF m 19 #[.val (.int p1), .val (.long q2), .second, .val (.long q3), .second, .val (.int p4), .val (.int p5), .val (.int lv), .unset, .unset, .unset, .unset, .unset, .unset, .unset, .unset, .unset, .unset, .unset, .unset, .unset, .unset] [(.long ((9223372036854775807 : Int64) >>> ((lv - (1 : Int32)) &&& 63).toInt64))]) _
  refine Go.by (fun t k => XS.lstore X0.here hx rfl (hb hby at_19) rfl (l' := #[.val (.int p1), .val (.long q2), .second, .val (.long q3), .second, .val (.int p4), .val (.int p5), .val (.int lv), .val (.long ((9223372036854775807 : Int64) >>> ((lv - (1 : Int32)) &&& 63).toInt64)), .second, .unset, .unset, .unset, .unset, .unset, .unset, .unset, .unset, .unset, .unset, .unset, .unset]) rfl k) ?_
  show Go p e below s₁ (mkF m 21 #[.val (.int p1), .val (.long q2), .second, .val (.long q3), .second, .val (.int p4), .val (.int p5), .val (.int lv), .val (.long ((9223372036854775807 : Int64) >>> ((lv - (1 : Int32)) &&& 63).toInt64)), .second, .unset, .unset, .unset, .unset, .unset, .unset, .unset, .unset, .unset, .unset, .unset, .unset] []) _
  generalize h_lm : ((9223372036854775807 : Int64) >>> ((lv - (1 : Int32)) &&& 63).toInt64) = lm
  have M := own_lm lv lm k hk hs h_lm
  have nlm := own_ne lm M.2.1
  refine Go.by (fun t k => XS.lloadN X0.here hx rfl (hb hby at_21) rfl k) ?_
  show Go p e below s₁ (mkF m 22 #[.val (.int p1), .val (.long q2), .second, .val (.long q3), .second, .val (.int p4), .val (.int p5), .val (.int lv), .val (.long lm), .second, .unset, .unset, .unset, .unset, .unset, .unset, .unset, .unset, .unset, .unset, .unset, .unset] [(.long q2)]) _
  refine Go.by (fun t k => X0.ldc2Long hx hown (mvT hZ (hw _ (List.mem_of_getElem? (i := 1) rfl))) (g := (mkF m 22 #[.val (.int p1), .val (.long q2), .second, .val (.long q3), .second, .val (.int p4), .val (.int p5), .val (.int lv), .val (.long lm), .second, .unset, .unset, .unset, .unset, .unset, .unset, .unset, .unset, .unset, .unset, .unset, .unset] [(.long q2)])) rfl (hb hby at_22) t k) ?_
  show Go p e below s₁ (mkF m 25 #[.val (.int p1), .val (.long q2), .second, .val (.long q3), .second, .val (.int p4), .val (.int p5), .val (.int lv), .val (.long lm), .second, .unset, .unset, .unset, .unset, .unset, .unset, .unset, .unset, .unset, .unset, .unset, .unset] [(.long (9223372036854775807 : Int64)), (.long q2)]) _
  refine Go.by (fun t k => XS.land X0.here hx rfl (hb hby at_25) rfl k) ?_
  show Go p e below s₁ (mkF m 26 #[.val (.int p1), .val (.long q2), .second, .val (.long q3), .second, .val (.int p4), .val (.int p5), .val (.int lv), .val (.long lm), .second, .unset, .unset, .unset, .unset, .unset, .unset, .unset, .unset, .unset, .unset, .unset, .unset] [(.long (q2 &&& (9223372036854775807 : Int64)))]) _
  refine Go.by (fun t k => XS.lload X0.here hx rfl (hb hby at_26) rfl k) ?_
  show Go p e below s₁ (mkF m 28 #[.val (.int p1), .val (.long q2), .second, .val (.long q3), .second, .val (.int p4), .val (.int p5), .val (.int lv), .val (.long lm), .second, .unset, .unset, .unset, .unset, .unset, .unset, .unset, .unset, .unset, .unset, .unset, .unset] [(.long lm), (.long (q2 &&& (9223372036854775807 : Int64)))]) _
  refine Go.by (fun t k => XS.lrem X0.here hx rfl (hb hby at_28) rfl nlm k) ?_
  show Go p e below s₁ (mkF m 29 #[.val (.int p1), .val (.long q2), .second, .val (.long q3), .second, .val (.int p4), .val (.int p5), .val (.int lv), .val (.long lm), .second, .unset, .unset, .unset, .unset, .unset, .unset, .unset, .unset, .unset, .unset, .unset, .unset] [(.long ((q2 &&& (9223372036854775807 : Int64)) - (q2 &&& (9223372036854775807 : Int64)) / lm * lm))]) _
  refine Go.by (fun t k => XS.lconst X0.here hx rfl (hb hby at_29) k) ?_
  show Go p e below s₁ (mkF m 30 #[.val (.int p1), .val (.long q2), .second, .val (.long q3), .second, .val (.int p4), .val (.int p5), .val (.int lv), .val (.long lm), .second, .unset, .unset, .unset, .unset, .unset, .unset, .unset, .unset, .unset, .unset, .unset, .unset] [(.long (1 : Int64)), (.long ((q2 &&& (9223372036854775807 : Int64)) - (q2 &&& (9223372036854775807 : Int64)) / lm * lm))]) _
  refine Go.by (fun t k => XS.ladd X0.here hx rfl (hb hby at_30) rfl k) ?_
  show Go p e below s₁ (mkF m 31 #[.val (.int p1), .val (.long q2), .second, .val (.long q3), .second, .val (.int p4), .val (.int p5), .val (.int lv), .val (.long lm), .second, .unset, .unset, .unset, .unset, .unset, .unset, .unset, .unset, .unset, .unset, .unset, .unset] [(.long (((q2 &&& (9223372036854775807 : Int64)) - (q2 &&& (9223372036854775807 : Int64)) / lm * lm) + (1 : Int64)))]) _
  refine Go.by (fun t k => XS.lstore X0.here hx rfl (hb hby at_31) rfl (l' := #[.val (.int p1), .val (.long q2), .second, .val (.long q3), .second, .val (.int p4), .val (.int p5), .val (.int lv), .val (.long lm), .second, .val (.long (((q2 &&& (9223372036854775807 : Int64)) - (q2 &&& (9223372036854775807 : Int64)) / lm * lm) + (1 : Int64))), .second, .unset, .unset, .unset, .unset, .unset, .unset, .unset, .unset, .unset, .unset]) rfl k) ?_
  show Go p e below s₁ (mkF m 33 #[.val (.int p1), .val (.long q2), .second, .val (.long q3), .second, .val (.int p4), .val (.int p5), .val (.int lv), .val (.long lm), .second, .val (.long (((q2 &&& (9223372036854775807 : Int64)) - (q2 &&& (9223372036854775807 : Int64)) / lm * lm) + (1 : Int64))), .second, .unset, .unset, .unset, .unset, .unset, .unset, .unset, .unset, .unset, .unset] []) _
  generalize h_lf : (((q2 &&& (9223372036854775807 : Int64)) - (q2 &&& (9223372036854775807 : Int64)) / lm * lm) + (1 : Int64)) = lf
  have F := own_lf q2 lm lf M.2.1 h_lf
  refine Go.by (fun t k => XS.lload X0.here hx rfl (hb hby at_33) rfl k) ?_
  show Go p e below s₁ (mkF m 35 #[.val (.int p1), .val (.long q2), .second, .val (.long q3), .second, .val (.int p4), .val (.int p5), .val (.int lv), .val (.long lm), .second, .val (.long lf), .second, .unset, .unset, .unset, .unset, .unset, .unset, .unset, .unset, .unset, .unset] [(.long lf)]) _
  refine Go.by (fun t k => XS.iload X0.here hx rfl (hb hby at_35) rfl k) ?_
  show Go p e below s₁ (mkF m 37 #[.val (.int p1), .val (.long q2), .second, .val (.long q3), .second, .val (.int p4), .val (.int p5), .val (.int lv), .val (.long lm), .second, .val (.long lf), .second, .unset, .unset, .unset, .unset, .unset, .unset, .unset, .unset, .unset, .unset] [(.int lv), (.long lf)]) _
  refine Go.by (fun t k => XS.iconst X0.here hx rfl (hb hby at_37) k) ?_
  show Go p e below s₁ (mkF m 38 #[.val (.int p1), .val (.long q2), .second, .val (.long q3), .second, .val (.int p4), .val (.int p5), .val (.int lv), .val (.long lm), .second, .val (.long lf), .second, .unset, .unset, .unset, .unset, .unset, .unset, .unset, .unset, .unset, .unset] [(.int (1 : Int32)), (.int lv), (.long lf)]) _
  refine Go.by (fun t k => XS.isub X0.here hx rfl (hb hby at_38) rfl k) ?_
  show Go p e below s₁ (mkF m 39 #[.val (.int p1), .val (.long q2), .second, .val (.long q3), .second, .val (.int p4), .val (.int p5), .val (.int lv), .val (.long lm), .second, .val (.long lf), .second, .unset, .unset, .unset, .unset, .unset, .unset, .unset, .unset, .unset, .unset] [(.int (lv - (1 : Int32))), (.long lf)]) _
  refine Go.by (fun t k => XS.lshl X0.here hx rfl (hb hby at_39) rfl k) ?_
  show Go p e below s₁ (mkF m 40 #[.val (.int p1), .val (.long q2), .second, .val (.long q3), .second, .val (.int p4), .val (.int p5), .val (.int lv), .val (.long lm), .second, .val (.long lf), .second, .unset, .unset, .unset, .unset, .unset, .unset, .unset, .unset, .unset, .unset] [(.long (lf <<< ((lv - (1 : Int32)) &&& 63).toInt64))]) _
  refine Go.by (fun t k => XS.lstore X0.here hx rfl (hb hby at_40) rfl (l' := #[.val (.int p1), .val (.long q2), .second, .val (.long q3), .second, .val (.int p4), .val (.int p5), .val (.int lv), .val (.long lm), .second, .val (.long lf), .second, .val (.long (lf <<< ((lv - (1 : Int32)) &&& 63).toInt64)), .second, .unset, .unset, .unset, .unset, .unset, .unset, .unset, .unset]) rfl k) ?_
  show Go p e below s₁ (mkF m 42 #[.val (.int p1), .val (.long q2), .second, .val (.long q3), .second, .val (.int p4), .val (.int p5), .val (.int lv), .val (.long lm), .second, .val (.long lf), .second, .val (.long (lf <<< ((lv - (1 : Int32)) &&& 63).toInt64)), .second, .unset, .unset, .unset, .unset, .unset, .unset, .unset, .unset] []) _
  generalize h_cv : (lf <<< ((lv - (1 : Int32)) &&& 63).toInt64) = cv
  have C := own_cv lv lm lf cv k hk hs M.2.2 F.1 F.2 h_cv
  have ncv := own_ne cv C.2
  refine Go.by (fun t k => XS.lloadN X0.here hx rfl (hb hby at_42) rfl k) ?_
  show Go p e below s₁ (mkF m 43 #[.val (.int p1), .val (.long q2), .second, .val (.long q3), .second, .val (.int p4), .val (.int p5), .val (.int lv), .val (.long lm), .second, .val (.long lf), .second, .val (.long cv), .second, .unset, .unset, .unset, .unset, .unset, .unset, .unset, .unset] [(.long q3)]) _
  refine Go.by (fun t k => X0.ldc2Long hx hown (mvT hZ (hw _ (List.mem_of_getElem? (i := 1) rfl))) (g := (mkF m 43 #[.val (.int p1), .val (.long q2), .second, .val (.long q3), .second, .val (.int p4), .val (.int p5), .val (.int lv), .val (.long lm), .second, .val (.long lf), .second, .val (.long cv), .second, .unset, .unset, .unset, .unset, .unset, .unset, .unset, .unset] [(.long q3)])) rfl (hb hby at_43) t k) ?_
  show Go p e below s₁ (mkF m 46 #[.val (.int p1), .val (.long q2), .second, .val (.long q3), .second, .val (.int p4), .val (.int p5), .val (.int lv), .val (.long lm), .second, .val (.long lf), .second, .val (.long cv), .second, .unset, .unset, .unset, .unset, .unset, .unset, .unset, .unset] [(.long (9223372036854775807 : Int64)), (.long q3)]) _
  refine Go.by (fun t k => XS.land X0.here hx rfl (hb hby at_46) rfl k) ?_
  show Go p e below s₁ (mkF m 47 #[.val (.int p1), .val (.long q2), .second, .val (.long q3), .second, .val (.int p4), .val (.int p5), .val (.int lv), .val (.long lm), .second, .val (.long lf), .second, .val (.long cv), .second, .unset, .unset, .unset, .unset, .unset, .unset, .unset, .unset] [(.long (q3 &&& (9223372036854775807 : Int64)))]) _
  refine Go.by (fun t k => XS.lload X0.here hx rfl (hb hby at_47) rfl k) ?_
  show Go p e below s₁ (mkF m 49 #[.val (.int p1), .val (.long q2), .second, .val (.long q3), .second, .val (.int p4), .val (.int p5), .val (.int lv), .val (.long lm), .second, .val (.long lf), .second, .val (.long cv), .second, .unset, .unset, .unset, .unset, .unset, .unset, .unset, .unset] [(.long cv), (.long (q3 &&& (9223372036854775807 : Int64)))]) _
  refine Go.by (fun t k => XS.lrem X0.here hx rfl (hb hby at_49) rfl ncv k) ?_
  show Go p e below s₁ (mkF m 50 #[.val (.int p1), .val (.long q2), .second, .val (.long q3), .second, .val (.int p4), .val (.int p5), .val (.int lv), .val (.long lm), .second, .val (.long lf), .second, .val (.long cv), .second, .unset, .unset, .unset, .unset, .unset, .unset, .unset, .unset] [(.long ((q3 &&& (9223372036854775807 : Int64)) - (q3 &&& (9223372036854775807 : Int64)) / cv * cv))]) _
  refine Go.by (fun t k => XS.lconst X0.here hx rfl (hb hby at_50) k) ?_
  show Go p e below s₁ (mkF m 51 #[.val (.int p1), .val (.long q2), .second, .val (.long q3), .second, .val (.int p4), .val (.int p5), .val (.int lv), .val (.long lm), .second, .val (.long lf), .second, .val (.long cv), .second, .unset, .unset, .unset, .unset, .unset, .unset, .unset, .unset] [(.long (1 : Int64)), (.long ((q3 &&& (9223372036854775807 : Int64)) - (q3 &&& (9223372036854775807 : Int64)) / cv * cv))]) _
  refine Go.by (fun t k => XS.ladd X0.here hx rfl (hb hby at_51) rfl k) ?_
  show Go p e below s₁ (mkF m 52 #[.val (.int p1), .val (.long q2), .second, .val (.long q3), .second, .val (.int p4), .val (.int p5), .val (.int lv), .val (.long lm), .second, .val (.long lf), .second, .val (.long cv), .second, .unset, .unset, .unset, .unset, .unset, .unset, .unset, .unset] [(.long (((q3 &&& (9223372036854775807 : Int64)) - (q3 &&& (9223372036854775807 : Int64)) / cv * cv) + (1 : Int64)))]) _
  refine Go.by (fun t k => XS.lstore X0.here hx rfl (hb hby at_52) rfl (l' := #[.val (.int p1), .val (.long q2), .second, .val (.long q3), .second, .val (.int p4), .val (.int p5), .val (.int lv), .val (.long lm), .second, .val (.long lf), .second, .val (.long cv), .second, .val (.long (((q3 &&& (9223372036854775807 : Int64)) - (q3 &&& (9223372036854775807 : Int64)) / cv * cv) + (1 : Int64))), .second, .unset, .unset, .unset, .unset, .unset, .unset]) rfl k) ?_
  show Go p e below s₁ (mkF m 54 #[.val (.int p1), .val (.long q2), .second, .val (.long q3), .second, .val (.int p4), .val (.int p5), .val (.int lv), .val (.long lm), .second, .val (.long lf), .second, .val (.long cv), .second, .val (.long (((q3 &&& (9223372036854775807 : Int64)) - (q3 &&& (9223372036854775807 : Int64)) / cv * cv) + (1 : Int64))), .second, .unset, .unset, .unset, .unset, .unset, .unset] []) _
  generalize h_un : (((q3 &&& (9223372036854775807 : Int64)) - (q3 &&& (9223372036854775807 : Int64)) / cv * cv) + (1 : Int64)) = un
  have U := own_lf q3 cv un C.2 h_un
  refine Go.by (fun t k => XS.iload X0.here hx rfl (hb hby at_54) rfl k) ?_
  show Go p e below s₁ (mkF m 56 #[.val (.int p1), .val (.long q2), .second, .val (.long q3), .second, .val (.int p4), .val (.int p5), .val (.int lv), .val (.long lm), .second, .val (.long lf), .second, .val (.long cv), .second, .val (.long un), .second, .unset, .unset, .unset, .unset, .unset, .unset] [(.int p4)]) _
  refine Go.by (fun t k => X0.ldcInt hx hown (mvT hZ (hw _ (List.mem_of_getElem? (i := 0) rfl))) (g := (mkF m 56 #[.val (.int p1), .val (.long q2), .second, .val (.long q3), .second, .val (.int p4), .val (.int p5), .val (.int lv), .val (.long lm), .second, .val (.long lf), .second, .val (.long cv), .second, .val (.long un), .second, .unset, .unset, .unset, .unset, .unset, .unset] [(.int p4)])) rfl (hb hby at_56) t k) ?_
  show Go p e below s₁ (mkF m 58 #[.val (.int p1), .val (.long q2), .second, .val (.long q3), .second, .val (.int p4), .val (.int p5), .val (.int lv), .val (.long lm), .second, .val (.long lf), .second, .val (.long cv), .second, .val (.long un), .second, .unset, .unset, .unset, .unset, .unset, .unset] [(.int (2147483647 : Int32)), (.int p4)]) _
  refine Go.by (fun t k => XS.iand X0.here hx rfl (hb hby at_58) rfl k) ?_
  show Go p e below s₁ (mkF m 59 #[.val (.int p1), .val (.long q2), .second, .val (.long q3), .second, .val (.int p4), .val (.int p5), .val (.int lv), .val (.long lm), .second, .val (.long lf), .second, .val (.long cv), .second, .val (.long un), .second, .unset, .unset, .unset, .unset, .unset, .unset] [(.int (p4 &&& (2147483647 : Int32)))]) _
  refine Go.by (fun t k => XS.iload X0.here hx rfl (hb hby at_59) rfl k) ?_
  show Go p e below s₁ (mkF m 61 #[.val (.int p1), .val (.long q2), .second, .val (.long q3), .second, .val (.int p4), .val (.int p5), .val (.int lv), .val (.long lm), .second, .val (.long lf), .second, .val (.long cv), .second, .val (.long un), .second, .unset, .unset, .unset, .unset, .unset, .unset] [(.int lv), (.int (p4 &&& (2147483647 : Int32)))]) _
  refine Go.by (fun t k => iremM X0 hx rfl (hb hby at_61) rfl (own_ne32 lv (by have := L.1; omega)) k) ?_
  show Go p e below s₁ (mkF m 62 #[.val (.int p1), .val (.long q2), .second, .val (.long q3), .second, .val (.int p4), .val (.int p5), .val (.int lv), .val (.long lm), .second, .val (.long lf), .second, .val (.long cv), .second, .val (.long un), .second, .unset, .unset, .unset, .unset, .unset, .unset] [(.int ((p4 &&& (2147483647 : Int32)) % lv))]) _
  refine Go.by (fun t k => XS.istore X0.here hx rfl (hb hby at_62) rfl (l' := #[.val (.int p1), .val (.long q2), .second, .val (.long q3), .second, .val (.int p4), .val (.int p5), .val (.int lv), .val (.long lm), .second, .val (.long lf), .second, .val (.long cv), .second, .val (.long un), .second, .val (.int ((p4 &&& (2147483647 : Int32)) % lv)), .unset, .unset, .unset, .unset, .unset]) rfl k) ?_
  show Go p e below s₁ (mkF m 64 #[.val (.int p1), .val (.long q2), .second, .val (.long q3), .second, .val (.int p4), .val (.int p5), .val (.int lv), .val (.long lm), .second, .val (.long lf), .second, .val (.long cv), .second, .val (.long un), .second, .val (.int ((p4 &&& (2147483647 : Int32)) % lv)), .unset, .unset, .unset, .unset, .unset] []) _
  generalize h_le : ((p4 &&& (2147483647 : Int32)) % lv) = le
  have V := own_lvl p4 lv le L h_le
  have V2 : le.toInt < 30 := by have := L.2; omega
  have npw := own_ne32 ((1 : Int32) <<< (le &&& 31)) (by rw [(own_le le V.1 V2).1]; exact Int.natCast_pos.mpr (Nat.pow_pos (by decide)))
  refine Go.by (fun t k => XS.iload X0.here hx rfl (hb hby at_64) rfl k) ?_
  show Go p e below s₁ (mkF m 66 #[.val (.int p1), .val (.long q2), .second, .val (.long q3), .second, .val (.int p4), .val (.int p5), .val (.int lv), .val (.long lm), .second, .val (.long lf), .second, .val (.long cv), .second, .val (.long un), .second, .val (.int le), .unset, .unset, .unset, .unset, .unset] [(.int p5)]) _
  refine Go.by (fun t k => X0.ldcInt hx hown (mvT hZ (hw _ (List.mem_of_getElem? (i := 0) rfl))) (g := (mkF m 66 #[.val (.int p1), .val (.long q2), .second, .val (.long q3), .second, .val (.int p4), .val (.int p5), .val (.int lv), .val (.long lm), .second, .val (.long lf), .second, .val (.long cv), .second, .val (.long un), .second, .val (.int le), .unset, .unset, .unset, .unset, .unset] [(.int p5)])) rfl (hb hby at_66) t k) ?_
  show Go p e below s₁ (mkF m 68 #[.val (.int p1), .val (.long q2), .second, .val (.long q3), .second, .val (.int p4), .val (.int p5), .val (.int lv), .val (.long lm), .second, .val (.long lf), .second, .val (.long cv), .second, .val (.long un), .second, .val (.int le), .unset, .unset, .unset, .unset, .unset] [(.int (2147483647 : Int32)), (.int p5)]) _
  refine Go.by (fun t k => XS.iand X0.here hx rfl (hb hby at_68) rfl k) ?_
  show Go p e below s₁ (mkF m 69 #[.val (.int p1), .val (.long q2), .second, .val (.long q3), .second, .val (.int p4), .val (.int p5), .val (.int lv), .val (.long lm), .second, .val (.long lf), .second, .val (.long cv), .second, .val (.long un), .second, .val (.int le), .unset, .unset, .unset, .unset, .unset] [(.int (p5 &&& (2147483647 : Int32)))]) _
  refine Go.by (fun t k => XS.iconst X0.here hx rfl (hb hby at_69) k) ?_
  show Go p e below s₁ (mkF m 70 #[.val (.int p1), .val (.long q2), .second, .val (.long q3), .second, .val (.int p4), .val (.int p5), .val (.int lv), .val (.long lm), .second, .val (.long lf), .second, .val (.long cv), .second, .val (.long un), .second, .val (.int le), .unset, .unset, .unset, .unset, .unset] [(.int (1 : Int32)), (.int (p5 &&& (2147483647 : Int32)))]) _
  refine Go.by (fun t k => XS.iload X0.here hx rfl (hb hby at_70) rfl k) ?_
  show Go p e below s₁ (mkF m 72 #[.val (.int p1), .val (.long q2), .second, .val (.long q3), .second, .val (.int p4), .val (.int p5), .val (.int lv), .val (.long lm), .second, .val (.long lf), .second, .val (.long cv), .second, .val (.long un), .second, .val (.int le), .unset, .unset, .unset, .unset, .unset] [(.int le), (.int (1 : Int32)), (.int (p5 &&& (2147483647 : Int32)))]) _
  refine Go.by (fun t k => XS.ishl X0.here hx rfl (hb hby at_72) rfl k) ?_
  show Go p e below s₁ (mkF m 73 #[.val (.int p1), .val (.long q2), .second, .val (.long q3), .second, .val (.int p4), .val (.int p5), .val (.int lv), .val (.long lm), .second, .val (.long lf), .second, .val (.long cv), .second, .val (.long un), .second, .val (.int le), .unset, .unset, .unset, .unset, .unset] [(.int ((1 : Int32) <<< (le &&& 31))), (.int (p5 &&& (2147483647 : Int32)))]) _
  refine Go.by (fun t k => iremM X0 hx rfl (hb hby at_73) rfl npw k) ?_
  show Go p e below s₁ (mkF m 74 #[.val (.int p1), .val (.long q2), .second, .val (.long q3), .second, .val (.int p4), .val (.int p5), .val (.int lv), .val (.long lm), .second, .val (.long lf), .second, .val (.long cv), .second, .val (.long un), .second, .val (.int le), .unset, .unset, .unset, .unset, .unset] [(.int ((p5 &&& (2147483647 : Int32)) % ((1 : Int32) <<< (le &&& 31))))]) _
  refine Go.by (fun t k => XS.istore X0.here hx rfl (hb hby at_74) rfl (l' := #[.val (.int p1), .val (.long q2), .second, .val (.long q3), .second, .val (.int p4), .val (.int p5), .val (.int lv), .val (.long lm), .second, .val (.long lf), .second, .val (.long cv), .second, .val (.long un), .second, .val (.int le), .val (.int ((p5 &&& (2147483647 : Int32)) % ((1 : Int32) <<< (le &&& 31)))), .unset, .unset, .unset, .unset]) rfl k) ?_
  show Go p e below s₁ (mkF m 76 #[.val (.int p1), .val (.long q2), .second, .val (.long q3), .second, .val (.int p4), .val (.int p5), .val (.int lv), .val (.long lm), .second, .val (.long lf), .second, .val (.long cv), .second, .val (.long un), .second, .val (.int le), .val (.int ((p5 &&& (2147483647 : Int32)) % ((1 : Int32) <<< (le &&& 31)))), .unset, .unset, .unset, .unset] []) _
  generalize h_ps : ((p5 &&& (2147483647 : Int32)) % ((1 : Int32) <<< (le &&& 31))) = ps
  have P := own_pos p5 le ps V.1 V2 h_ps
  refine Go.by (fun t k => XS.iconst X0.here hx rfl (hb hby at_76) k) ?_
  show Go p e below s₁ (mkF m 77 #[.val (.int p1), .val (.long q2), .second, .val (.long q3), .second, .val (.int p4), .val (.int p5), .val (.int lv), .val (.long lm), .second, .val (.long lf), .second, .val (.long cv), .second, .val (.long un), .second, .val (.int le), .val (.int ps), .unset, .unset, .unset, .unset] [(.int (1 : Int32))]) _
  refine Go.by (fun t k => XS.iload X0.here hx rfl (hb hby at_77) rfl k) ?_
  show Go p e below s₁ (mkF m 79 #[.val (.int p1), .val (.long q2), .second, .val (.long q3), .second, .val (.int p4), .val (.int p5), .val (.int lv), .val (.long lm), .second, .val (.long lf), .second, .val (.long cv), .second, .val (.long un), .second, .val (.int le), .val (.int ps), .unset, .unset, .unset, .unset] [(.int le), (.int (1 : Int32))]) _
  refine Go.by (fun t k => XS.ishl X0.here hx rfl (hb hby at_79) rfl k) ?_
  show Go p e below s₁ (mkF m 80 #[.val (.int p1), .val (.long q2), .second, .val (.long q3), .second, .val (.int p4), .val (.int p5), .val (.int lv), .val (.long lm), .second, .val (.long lf), .second, .val (.long cv), .second, .val (.long un), .second, .val (.int le), .val (.int ps), .unset, .unset, .unset, .unset] [(.int ((1 : Int32) <<< (le &&& 31)))]) _
  refine Go.by (fun t k => XS.iload X0.here hx rfl (hb hby at_80) rfl k) ?_
  show Go p e below s₁ (mkF m 82 #[.val (.int p1), .val (.long q2), .second, .val (.long q3), .second, .val (.int p4), .val (.int p5), .val (.int lv), .val (.long lm), .second, .val (.long lf), .second, .val (.long cv), .second, .val (.long un), .second, .val (.int le), .val (.int ps), .unset, .unset, .unset, .unset] [(.int ps), (.int ((1 : Int32) <<< (le &&& 31)))]) _
  refine Go.by (fun t k => XS.iadd X0.here hx rfl (hb hby at_82) rfl k) ?_
  show Go p e below s₁ (mkF m 83 #[.val (.int p1), .val (.long q2), .second, .val (.long q3), .second, .val (.int p4), .val (.int p5), .val (.int lv), .val (.long lm), .second, .val (.long lf), .second, .val (.long cv), .second, .val (.long un), .second, .val (.int le), .val (.int ps), .unset, .unset, .unset, .unset] [(.int (((1 : Int32) <<< (le &&& 31)) + ps))]) _
  refine Go.by (fun t k => XS.istore X0.here hx rfl (hb hby at_83) rfl (l' := #[.val (.int p1), .val (.long q2), .second, .val (.long q3), .second, .val (.int p4), .val (.int p5), .val (.int lv), .val (.long lm), .second, .val (.long lf), .second, .val (.long cv), .second, .val (.long un), .second, .val (.int le), .val (.int ps), .val (.int (((1 : Int32) <<< (le &&& 31)) + ps)), .unset, .unset, .unset]) rfl k) ?_
  show Go p e below s₁ (mkF m 85 #[.val (.int p1), .val (.long q2), .second, .val (.long q3), .second, .val (.int p4), .val (.int p5), .val (.int lv), .val (.long lm), .second, .val (.long lf), .second, .val (.long cv), .second, .val (.long un), .second, .val (.int le), .val (.int ps), .val (.int (((1 : Int32) <<< (le &&& 31)) + ps)), .unset, .unset, .unset] []) _
  generalize h_nd : (((1 : Int32) <<< (le &&& 31)) + ps) = nd
  have N := own_node le ps nd V.1 V2 P h_nd
  obtain ⟨T1, h1, X1, e1, E1, A1, D1, -, st1⟩ := newO X0 hx hZ hown (hw _ (List.mem_of_getElem? (i := 2) rfl)) (hw _ (List.mem_of_getElem? (i := 3) rfl)) (hw _ (List.mem_of_getElem? (i := 4) rfl)) e0 (g := (mkF m 85 #[.val (.int p1), .val (.long q2), .second, .val (.long q3), .second, .val (.int p4), .val (.int p5), .val (.int lv), .val (.long lm), .second, .val (.long lf), .second, .val (.long cv), .second, .val (.long un), .second, .val (.int le), .val (.int ps), .val (.int nd), .unset, .unset, .unset] [])) rfl (hb hby at_85) (by decide) (by decide)
  obtain ⟨b1, g1⟩ : ∃ z, z = h0.size := ⟨_, rfl⟩
  rw [← g1] at A1 D1 st1
  have gn1 : n0 ≤ b1 := Nat.le_trans Z0 (Nat.le_of_eq g1.symm)
  have Z1 : n0 ≤ h1.size := Nat.le_trans Z0 E1.1
  have F1_mUnitMillis : Fld Z h1 b1 "com/example/huangpu/huangpu/synopsis/AggregateTree" "mUnitMillis" "J" (.long (0 : Int64)) := D1 (Or.inr (hw _ (List.mem_of_getElem? (i := 13) rfl))) (ty := .long) (by decide)
  have F1_mLevels : Fld Z h1 b1 "com/example/huangpu/huangpu/synopsis/AggregateTree" "mLevels" "I" (.int (0 : Int32)) := D1 (Or.inr (hw _ (List.mem_of_getElem? (i := 15) rfl))) (ty := .int) (by decide)
  have F1_mLeafMillis : Fld Z h1 b1 "com/example/huangpu/huangpu/synopsis/AggregateTree" "mLeafMillis" "J" (.long (0 : Int64)) := D1 (Or.inr (hw _ (List.mem_of_getElem? (i := 17) rfl))) (ty := .long) (by decide)
  refine Go.by st1 ?_
  show Go p e below T1 (mkF m 88 #[.val (.int p1), .val (.long q2), .second, .val (.long q3), .second, .val (.int p4), .val (.int p5), .val (.int lv), .val (.long lm), .second, .val (.long lf), .second, .val (.long cv), .second, .val (.long un), .second, .val (.int le), .val (.int ps), .val (.int nd), .unset, .unset, .unset] [(.ref b1)]) _
  refine Go.by (fun t k => XS.dup X1.here hx rfl (hb hby at_88) rfl rfl k) ?_
  show Go p e below T1 (mkF m 89 #[.val (.int p1), .val (.long q2), .second, .val (.long q3), .second, .val (.int p4), .val (.int p5), .val (.int lv), .val (.long lm), .second, .val (.long lf), .second, .val (.long cv), .second, .val (.long un), .second, .val (.int le), .val (.int ps), .val (.int nd), .unset, .unset, .unset] [(.ref b1), (.ref b1)]) _
  refine Go.by (fun t k => XS.lload X1.here hx rfl (hb hby at_89) rfl k) ?_
  show Go p e below T1 (mkF m 91 #[.val (.int p1), .val (.long q2), .second, .val (.long q3), .second, .val (.int p4), .val (.int p5), .val (.int lv), .val (.long lm), .second, .val (.long lf), .second, .val (.long cv), .second, .val (.long un), .second, .val (.int le), .val (.int ps), .val (.int nd), .unset, .unset, .unset] [(.long un), (.ref b1), (.ref b1)]) _
  refine Go.by (fun t k => XS.iload X1.here hx rfl (hb hby at_91) rfl k) ?_
  show Go p e below T1 (mkF m 93 #[.val (.int p1), .val (.long q2), .second, .val (.long q3), .second, .val (.int p4), .val (.int p5), .val (.int lv), .val (.long lm), .second, .val (.long lf), .second, .val (.long cv), .second, .val (.long un), .second, .val (.int le), .val (.int ps), .val (.int nd), .unset, .unset, .unset] [(.int lv), (.long un), (.ref b1), (.ref b1)]) _
  refine Go.by (fun t k => XS.lload X1.here hx rfl (hb hby at_93) rfl k) ?_
  show Go p e below T1 (mkF m 95 #[.val (.int p1), .val (.long q2), .second, .val (.long q3), .second, .val (.int p4), .val (.int p5), .val (.int lv), .val (.long lm), .second, .val (.long lf), .second, .val (.long cv), .second, .val (.long un), .second, .val (.int le), .val (.int ps), .val (.int nd), .unset, .unset, .unset] [(.long lf), (.int lv), (.long un), (.ref b1), (.ref b1)]) _
  obtain ⟨_, _, ⟨T2, L2, k2, n2⟩, -, X2, ⟨Lc2, hQ2, l2, y2, z2⟩, st2⟩ := X1.specialBack hx (y := (⟨"com/example/huangpu/huangpu/synopsis/AggregateTree", "<init>", "(JIJ)V"⟩ : MethodName)) rfl hown (mvT hZ (hw _ (List.mem_of_getElem? (i := 5) rfl))) (mvT hZ (hw _ (List.mem_of_getElem? (i := 6) rfl))) (mvT hZ (hw _ (List.mem_of_getElem? (i := 7) rfl))) (by decide) (backOf (W := 1) (rm1 l Z a0 hw [] b1 un lv lf ((.long (0 : Int64))) ((.int (0 : Int32))) ((.long (0 : Int64))) h1 n0 Z1 A1 F1_mUnitMillis F1_mLevels F1_mLeafMillis gn1 (own_not1 lv L).1 (own_not1 lv L).2 (own_nlt _ _ (by rw [own_one64]; exact F.1)) (own_nlt _ _ (by rw [h_lm]; exact F.2)) (own_nlt _ _ (by rw [h_cv]; exact U.2))) hZ (hw _ (List.mem_of_getElem? (i := 7) rfl)) (hw _ (List.mem_of_getElem? (i := 4) rfl)) (by decide) (by decide)) (g := (mkF m 95 #[.val (.int p1), .val (.long q2), .second, .val (.long q3), .second, .val (.int p4), .val (.int p5), .val (.int lv), .val (.long lm), .second, .val (.long lf), .second, .val (.long cv), .second, .val (.long un), .second, .val (.int le), .val (.int ps), .val (.int nd), .unset, .unset, .unset] [(.long lf), (.int lv), (.long un), (.ref b1), (.ref b1)])) rfl (by rw [hml]; rfl) (Steps.refl _) (a := b1) (argsL := [(.long un), (.int lv), (.long lf)]) (rest := [(.ref b1)]) (lenOf pd_1 rfl) rfl (by show 2 * 0 + _ ≤ _; exact Nat.le_of_eq rfl) (hb hby at_95) (fun _ _ => ⟨rfl, e1, (by decide : 1 + 0 ≤ _), (by decide : 3 + 0 ≤ _)⟩)
  dsimp only [Pt.U, Pt.locs, Pt.cells, Pt.slots] at X2 l2 y2 z2 st2 hQ2
  subst l2 y2 z2
  obtain ⟨rfl, N2q, K2q, E2q, F2q_mUnitMillis, F2q_mLevels, F2q_mLeafMillis⟩ := hQ2
  have N2 := Fr.app N0 N2q
  have Z2 : n0 ≤ T2.heap.size := Nat.le_trans Z1 K2q.1
  refine Go.by (fun t k => st2.trans k) ?_
  show Go p e below T2 (mkF m 98 #[.val (.int p1), .val (.long q2), .second, .val (.long q3), .second, .val (.int p4), .val (.int p5), .val (.int lv), .val (.long lm), .second, .val (.long lf), .second, .val (.long cv), .second, .val (.long un), .second, .val (.int le), .val (.int ps), .val (.int nd), .unset, .unset, .unset] [(.ref b1)]) _
  refine Go.by (fun t k => XS.astore X2.here hx rfl (hb hby at_98) rfl rfl (l' := #[.val (.int p1), .val (.long q2), .second, .val (.long q3), .second, .val (.int p4), .val (.int p5), .val (.int lv), .val (.long lm), .second, .val (.long lf), .second, .val (.long cv), .second, .val (.long un), .second, .val (.int le), .val (.int ps), .val (.int nd), .val (.ref b1), .unset, .unset]) rfl k) ?_
  show Go p e below T2 (mkF m 100 #[.val (.int p1), .val (.long q2), .second, .val (.long q3), .second, .val (.int p4), .val (.int p5), .val (.int lv), .val (.long lm), .second, .val (.long lf), .second, .val (.long cv), .second, .val (.long un), .second, .val (.int le), .val (.int ps), .val (.int nd), .val (.ref b1), .unset, .unset] []) _
  refine Go.by (fun t k => XS.iload X2.here hx rfl (hb hby at_100) rfl k) ?_
  show Go p e below T2 (mkF m 102 #[.val (.int p1), .val (.long q2), .second, .val (.long q3), .second, .val (.int p4), .val (.int p5), .val (.int lv), .val (.long lm), .second, .val (.long lf), .second, .val (.long cv), .second, .val (.long un), .second, .val (.int le), .val (.int ps), .val (.int nd), .val (.ref b1), .unset, .unset] [(.int ps)]) _
  refine Go.by (fun t k => XS.i2l X2.here hx rfl (hb hby at_102) rfl k) ?_
  show Go p e below T2 (mkF m 103 #[.val (.int p1), .val (.long q2), .second, .val (.long q3), .second, .val (.int p4), .val (.int p5), .val (.int lv), .val (.long lm), .second, .val (.long lf), .second, .val (.long cv), .second, .val (.long un), .second, .val (.int le), .val (.int ps), .val (.int nd), .val (.ref b1), .unset, .unset] [(.long (ps.toInt64))]) _
  refine Go.by (fun t k => XS.lload X2.here hx rfl (hb hby at_103) rfl k) ?_
  show Go p e below T2 (mkF m 105 #[.val (.int p1), .val (.long q2), .second, .val (.long q3), .second, .val (.int p4), .val (.int p5), .val (.int lv), .val (.long lm), .second, .val (.long lf), .second, .val (.long cv), .second, .val (.long un), .second, .val (.int le), .val (.int ps), .val (.int nd), .val (.ref b1), .unset, .unset] [(.long lf), (.long (ps.toInt64))]) _
  refine Go.by (fun t k => XS.lmul X2.here hx rfl (hb hby at_105) rfl k) ?_
  show Go p e below T2 (mkF m 106 #[.val (.int p1), .val (.long q2), .second, .val (.long q3), .second, .val (.int p4), .val (.int p5), .val (.int lv), .val (.long lm), .second, .val (.long lf), .second, .val (.long cv), .second, .val (.long un), .second, .val (.int le), .val (.int ps), .val (.int nd), .val (.ref b1), .unset, .unset] [(.long ((ps.toInt64) * lf))]) _
  refine Go.by (fun t k => XS.iload X2.here hx rfl (hb hby at_106) rfl k) ?_
  show Go p e below T2 (mkF m 108 #[.val (.int p1), .val (.long q2), .second, .val (.long q3), .second, .val (.int p4), .val (.int p5), .val (.int lv), .val (.long lm), .second, .val (.long lf), .second, .val (.long cv), .second, .val (.long un), .second, .val (.int le), .val (.int ps), .val (.int nd), .val (.ref b1), .unset, .unset] [(.int lv), (.long ((ps.toInt64) * lf))]) _
  refine Go.by (fun t k => XS.iconst X2.here hx rfl (hb hby at_108) k) ?_
  show Go p e below T2 (mkF m 109 #[.val (.int p1), .val (.long q2), .second, .val (.long q3), .second, .val (.int p4), .val (.int p5), .val (.int lv), .val (.long lm), .second, .val (.long lf), .second, .val (.long cv), .second, .val (.long un), .second, .val (.int le), .val (.int ps), .val (.int nd), .val (.ref b1), .unset, .unset] [(.int (1 : Int32)), (.int lv), (.long ((ps.toInt64) * lf))]) _
  refine Go.by (fun t k => XS.isub X2.here hx rfl (hb hby at_109) rfl k) ?_
  show Go p e below T2 (mkF m 110 #[.val (.int p1), .val (.long q2), .second, .val (.long q3), .second, .val (.int p4), .val (.int p5), .val (.int lv), .val (.long lm), .second, .val (.long lf), .second, .val (.long cv), .second, .val (.long un), .second, .val (.int le), .val (.int ps), .val (.int nd), .val (.ref b1), .unset, .unset] [(.int (lv - (1 : Int32))), (.long ((ps.toInt64) * lf))]) _
  refine Go.by (fun t k => XS.iload X2.here hx rfl (hb hby at_110) rfl k) ?_
  show Go p e below T2 (mkF m 112 #[.val (.int p1), .val (.long q2), .second, .val (.long q3), .second, .val (.int p4), .val (.int p5), .val (.int lv), .val (.long lm), .second, .val (.long lf), .second, .val (.long cv), .second, .val (.long un), .second, .val (.int le), .val (.int ps), .val (.int nd), .val (.ref b1), .unset, .unset] [(.int le), (.int (lv - (1 : Int32))), (.long ((ps.toInt64) * lf))]) _
  refine Go.by (fun t k => XS.isub X2.here hx rfl (hb hby at_112) rfl k) ?_
  show Go p e below T2 (mkF m 113 #[.val (.int p1), .val (.long q2), .second, .val (.long q3), .second, .val (.int p4), .val (.int p5), .val (.int lv), .val (.long lm), .second, .val (.long lf), .second, .val (.long cv), .second, .val (.long un), .second, .val (.int le), .val (.int ps), .val (.int nd), .val (.ref b1), .unset, .unset] [(.int ((lv - (1 : Int32)) - le)), (.long ((ps.toInt64) * lf))]) _
  refine Go.by (fun t k => XS.lshl X2.here hx rfl (hb hby at_113) rfl k) ?_
  show Go p e below T2 (mkF m 114 #[.val (.int p1), .val (.long q2), .second, .val (.long q3), .second, .val (.int p4), .val (.int p5), .val (.int lv), .val (.long lm), .second, .val (.long lf), .second, .val (.long cv), .second, .val (.long un), .second, .val (.int le), .val (.int ps), .val (.int nd), .val (.ref b1), .unset, .unset] [(.long (((ps.toInt64) * lf) <<< (((lv - (1 : Int32)) - le) &&& 63).toInt64))]) _
  refine Go.by (fun t k => XS.lstore X2.here hx rfl (hb hby at_114) rfl (l' := #[.val (.int p1), .val (.long q2), .second, .val (.long q3), .second, .val (.int p4), .val (.int p5), .val (.int lv), .val (.long lm), .second, .val (.long lf), .second, .val (.long cv), .second, .val (.long un), .second, .val (.int le), .val (.int ps), .val (.int nd), .val (.ref b1), .val (.long (((ps.toInt64) * lf) <<< (((lv - (1 : Int32)) - le) &&& 63).toInt64)), .second]) rfl k) ?_
  show Go p e below T2 (mkF m 116 #[.val (.int p1), .val (.long q2), .second, .val (.long q3), .second, .val (.int p4), .val (.int p5), .val (.int lv), .val (.long lm), .second, .val (.long lf), .second, .val (.long cv), .second, .val (.long un), .second, .val (.int le), .val (.int ps), .val (.int nd), .val (.ref b1), .val (.long (((ps.toInt64) * lf) <<< (((lv - (1 : Int32)) - le) &&& 63).toInt64)), .second] []) _
  refine Go.by (fun t k => XS.aload X2.here hx rfl (hb hby at_116) rfl rfl k) ?_
  show Go p e below T2 (mkF m 118 #[.val (.int p1), .val (.long q2), .second, .val (.long q3), .second, .val (.int p4), .val (.int p5), .val (.int lv), .val (.long lm), .second, .val (.long lf), .second, .val (.long cv), .second, .val (.long un), .second, .val (.int le), .val (.int ps), .val (.int nd), .val (.ref b1), .val (.long (((ps.toInt64) * lf) <<< (((lv - (1 : Int32)) - le) &&& 63).toInt64)), .second] [(.ref b1)]) _
  refine Go.by (fun t k => XS.iload X2.here hx rfl (hb hby at_118) rfl k) ?_
  show Go p e below T2 (mkF m 120 #[.val (.int p1), .val (.long q2), .second, .val (.long q3), .second, .val (.int p4), .val (.int p5), .val (.int lv), .val (.long lm), .second, .val (.long lf), .second, .val (.long cv), .second, .val (.long un), .second, .val (.int le), .val (.int ps), .val (.int nd), .val (.ref b1), .val (.long (((ps.toInt64) * lf) <<< (((lv - (1 : Int32)) - le) &&& 63).toInt64)), .second] [(.int nd), (.ref b1)]) _
  obtain ⟨cq3, kq3, q3a, q3b, q3c⟩ := isOf hZ rfl E2q
  obtain ⟨_, _, ⟨T3, L3, k3, n3⟩, -, X3, ⟨Lc3, hQ3, l3, y3, z3⟩, st3⟩ := X2.virtualBack hx (y := (⟨"com/example/huangpu/huangpu/synopsis/AggregateTree", "start", "(I)J"⟩ : MethodName)) (z := (⟨"com/example/huangpu/huangpu/synopsis/AggregateTree", "start", "(I)J"⟩ : MethodName)) hown (mvT hZ (hw _ (List.mem_of_getElem? (i := 18) rfl))) (mvT hZ (hw _ (List.mem_of_getElem? (i := 19) rfl))) (notFace_of_selects (args := #[]) (mvT hZ (hw _ (List.mem_of_getElem? (i := 21) rfl)))) (mvT hZ (hw _ (List.mem_of_getElem? (i := 21) rfl))) (mvT hZ (hw _ (List.mem_of_getElem? (i := 20) rfl))) (by decide) (backOf (W := 0) (rm3 l Z a0 hw [] b1 nd lf lv le.toInt.toNat T2.heap n0 Z2 F2q_mLeafMillis F2q_mLevels (by have := V2; omega) N.1 N.2.1 N.2.2.1 N.2.2.2) hZ (hw _ (List.mem_of_getElem? (i := 22) rfl)) (hw _ (List.mem_of_getElem? (i := 4) rfl)) (by decide) (by decide)) q3a q3c (g := (mkF m 120 #[.val (.int p1), .val (.long q2), .second, .val (.long q3), .second, .val (.int p4), .val (.int p5), .val (.int lv), .val (.long lm), .second, .val (.long lf), .second, .val (.long cv), .second, .val (.long un), .second, .val (.int le), .val (.int ps), .val (.int nd), .val (.ref b1), .val (.long (((ps.toInt64) * lf) <<< (((lv - (1 : Int32)) - le) &&& 63).toInt64)), .second] [(.int nd), (.ref b1)])) rfl (by rw [hml]; rfl) (Steps.refl _) (argsL := [(.int nd)]) (rest := []) (lenOf pd_2 rfl) rfl (by show 2 * 0 + _ ≤ _; exact Nat.le_of_eq rfl) (hb hby at_120) (fun _ _ => ⟨rfl, rfl, (by decide : 1 + 0 ≤ _), (by decide : 3 + 0 ≤ _)⟩)
  dsimp only [Pt.U, Pt.locs, Pt.cells, Pt.slots] at X3 l3 y3 z3 st3 hQ3
  subst l3 y3 z3
  obtain ⟨rfl, N3q, e3q⟩ := hQ3
  have N3 := Fr.app N2 N3q
  refine Go.by (fun t k => st3.trans k) ?_
  show Go p e below T3 (mkF m 123 #[.val (.int p1), .val (.long q2), .second, .val (.long q3), .second, .val (.int p4), .val (.int p5), .val (.int lv), .val (.long lm), .second, .val (.long lf), .second, .val (.long cv), .second, .val (.long un), .second, .val (.int le), .val (.int ps), .val (.int nd), .val (.ref b1), .val (.long (((ps.toInt64) * lf) <<< (((lv - (1 : Int32)) - le) &&& 63).toInt64)), .second] [(.long (((nd - ((1 : Int32) <<< (((31 : Int32) - (Int32.ofInt (31 - (le.toInt.toNat : Int)))) &&& 31))).toInt64) * (lf <<< (((lv - (1 : Int32)) - ((31 : Int32) - (Int32.ofInt (31 - (le.toInt.toNat : Int))))) &&& 63).toInt64)))]) _
  refine Go.by (fun t k => XS.lload X3.here hx rfl (hb hby at_123) rfl k) ?_
  show Go p e below T3 (mkF m 125 #[.val (.int p1), .val (.long q2), .second, .val (.long q3), .second, .val (.int p4), .val (.int p5), .val (.int lv), .val (.long lm), .second, .val (.long lf), .second, .val (.long cv), .second, .val (.long un), .second, .val (.int le), .val (.int ps), .val (.int nd), .val (.ref b1), .val (.long (((ps.toInt64) * lf) <<< (((lv - (1 : Int32)) - le) &&& 63).toInt64)), .second] [(.long (((ps.toInt64) * lf) <<< (((lv - (1 : Int32)) - le) &&& 63).toInt64)), (.long (((nd - ((1 : Int32) <<< (((31 : Int32) - (Int32.ofInt (31 - (le.toInt.toNat : Int)))) &&& 31))).toInt64) * (lf <<< (((lv - (1 : Int32)) - ((31 : Int32) - (Int32.ofInt (31 - (le.toInt.toNat : Int))))) &&& 63).toInt64)))]) _
  refine Go.by (fun t k => XS.lcmp X3.here hx rfl (hb hby at_125) rfl k) ?_
  show Go p e below T3 (mkF m 126 #[.val (.int p1), .val (.long q2), .second, .val (.long q3), .second, .val (.int p4), .val (.int p5), .val (.int lv), .val (.long lm), .second, .val (.long lf), .second, .val (.long cv), .second, .val (.long un), .second, .val (.int le), .val (.int ps), .val (.int nd), .val (.ref b1), .val (.long (((ps.toInt64) * lf) <<< (((lv - (1 : Int32)) - le) &&& 63).toInt64)), .second] [(.int (lcmpW (((nd - ((1 : Int32) <<< (((31 : Int32) - (Int32.ofInt (31 - (le.toInt.toNat : Int)))) &&& 31))).toInt64) * (lf <<< (((lv - (1 : Int32)) - ((31 : Int32) - (Int32.ofInt (31 - (le.toInt.toNat : Int))))) &&& 63).toInt64)) (((ps.toInt64) * lf) <<< (((lv - (1 : Int32)) - le) &&& 63).toInt64)))]) _
  refine Go.by (fun t k => XS.ifNo X3.here hx rfl (hb hby at_126) rfl (cteq (show (((nd - ((1 : Int32) <<< (((31 : Int32) - (Int32.ofInt (31 - (le.toInt.toNat : Int)))) &&& 31))).toInt64) * (lf <<< (((lv - (1 : Int32)) - ((31 : Int32) - (Int32.ofInt (31 - (le.toInt.toNat : Int))))) &&& 63).toInt64)) = (((ps.toInt64) * lf) <<< (((lv - (1 : Int32)) - le) &&& 63).toInt64) from own_law le ps nd lv lf V.1 V2 h_nd)).2 k) ?_
  show Go p e below T3 (mkF m 129 #[.val (.int p1), .val (.long q2), .second, .val (.long q3), .second, .val (.int p4), .val (.int p5), .val (.int lv), .val (.long lm), .second, .val (.long lf), .second, .val (.long cv), .second, .val (.long un), .second, .val (.int le), .val (.int ps), .val (.int nd), .val (.ref b1), .val (.long (((ps.toInt64) * lf) <<< (((lv - (1 : Int32)) - le) &&& 63).toInt64)), .second] []) _
  refine Go.by (fun t k => XS.iconst X3.here hx rfl (hb hby at_129) k) ?_
  show Go p e below T3 (mkF m 130 #[.val (.int p1), .val (.long q2), .second, .val (.long q3), .second, .val (.int p4), .val (.int p5), .val (.int lv), .val (.long lm), .second, .val (.long lf), .second, .val (.long cv), .second, .val (.long un), .second, .val (.int le), .val (.int ps), .val (.int nd), .val (.ref b1), .val (.long (((ps.toInt64) * lf) <<< (((lv - (1 : Int32)) - le) &&& 63).toInt64)), .second] [(.int (1 : Int32))]) _
  refine Go.by (fun t k => XS.goto X3.here hx rfl (pc0 := 130) (pc' := 134) rfl (hb hby at_130) (by decide) (by decide) k) ?_
  show Go p e below T3 (mkF m 134 #[.val (.int p1), .val (.long q2), .second, .val (.long q3), .second, .val (.int p4), .val (.int p5), .val (.int lv), .val (.long lm), .second, .val (.long lf), .second, .val (.long cv), .second, .val (.long un), .second, .val (.int le), .val (.int ps), .val (.int nd), .val (.ref b1), .val (.long (((ps.toInt64) * lf) <<< (((lv - (1 : Int32)) - le) &&& 63).toInt64)), .second] [(.int (1 : Int32))]) _
  obtain ⟨fs, hr, hrun, hended, hW, hsame⟩ := X3.leave (v := some (.int (1 : Int32))) (fun h => by rw [Bd.returns] at h; cases h)
  refine Go.done (retN X3 hx (t := .boolean) Bd.returns (by simp) (hb hby at_134) hr) hrun hended ⟨_, _, rfl, ?_, ⟨_, rfl⟩, hW, hsame.mono (by decide) (by decide)⟩
  show Q0 Z p1 q2 q3 p4 p5 h0 n0 _ T3.heap _
  rw [e3q]
  exact ⟨rfl, N3⟩
set_option maxRecDepth 65536 in
set_option maxHeartbeats 40000000 in
theorem comes_1 {Post : Tables → Env → Array Value → State → Outcome → State → Prop} (hpost : ∀ tb e args s v u, (limb_1_1.after args s (.returned v) u = true ∧ limb_1_2.after args s (.returned v) u = true ∧ True) → FrameEnd s (.returned v) u (Jvm.fieldLocs frame_1_writes args s ++ Jvm.arrayLocs frame_1_arrays args s ++ Jvm.staticLocs frame_1_statics s) 16 128 → Post tb e args s (.returned v) u) :
    ArmFor flags0 classFile x code maxLocals ret World_1 tables_1 room_1 Calls_1 rest_1 Pre_1 Post := by
  intro l hfl _ _ p e ha hc hk s m args below hf hA hF happ hP
  obtain ⟨hcalls, hrest, hpre⟩ := hP
  obtain ⟨-, -, -, hnamed, -, -, -, hat⟩ := (Spec.applies_iff hf).mp happ
  obtain ⟨hg, hn⟩ := and_e (Cond.before_iff.mp (show (Jvm.Cond.and given_1 narrow_1).before args s = true from hpre))
  obtain ⟨g1, g2⟩ := and_e hg
  obtain ⟨g3, g4⟩ := and_e g2
  obtain ⟨g5, g6⟩ := and_e g4
  obtain ⟨g7, g8⟩ := and_e g6
  obtain ⟨g9, g10⟩ := and_e g8
  obtain ⟨w0, w1, w2, w3, w4, rfl⟩ : ∃ w0 w1 w2 w3 w4 : Value, args = #[w0, w1, w2, w3, w4] := by
    have hs : args.size = 5 := by simpa [Cond.value, given_1] using g1
    obtain ⟨L⟩ := args
    match L, hs with
    | [w0, w1, w2, w3, w4], _ => exact ⟨w0, w1, w2, w3, w4, rfl⟩
  have hw := fun d (hd : d ∈ tables_1) => atoms_spec (ws := Jvm.Cond.code x code maxLocals ret :: tables_1) hat d (List.mem_cons_of_mem _ hd)
  obtain ⟨i0, ei0⟩ := is_v g3
  obtain rfl : w0 = (.int i0) := Option.some.inj ei0
  obtain ⟨i1, ei1⟩ := isL_v g5
  obtain rfl : w1 = (.long i1) := Option.some.inj ei1
  obtain ⟨i2, ei2⟩ := isL_v g7
  obtain rfl : w2 = (.long i2) := Option.some.inj ei2
  obtain ⟨i3, ei3⟩ := is_v g9
  obtain rfl : w3 = (.int i3) := Option.some.inj ei3
  obtain ⟨i4, ei4⟩ := is_v g10
  obtain rfl : w4 = (.int i4) := Option.some.inj ei4
  obtain ⟨n, o, h1, h2, h3, _, L, rfl, ⟨rfl, N⟩, hq⟩ := rm0 l s _ hw tables_1 i0 i1 i2 i3 i4 s.heap s.heap.size (Nat.le_refl _) p e ha hc hk s m _ below hf ((Spec.applies_iff_loose hf).mp happ).1 ⟨rfl, State.Warmed39.refl s, rfl⟩ trivial
  refine ⟨n, _, h1, h2, h3, hpost _ _ _ _ _ _ ⟨Cond.after_iff.mpr rfl, Cond.after_iff.mpr (eq_i res_at (Term.int_eval (1)) rfl), trivial⟩ ⟨hq.1, hq.2.1, (hq.2.2.sift fun y hy => Or.inr (N y hy)).mono (by decide) (by decide)⟩⟩
theorem main_1_1 : Claimed_1_1 := comes_1 fun _ _ _ _ _ _ h hF => ⟨h.1, hF⟩
theorem main_1_2 : Claimed_1_2 := comes_1 fun _ _ _ _ _ _ h hF => ⟨h.2.1, hF⟩
end Jvm.Pilot.@@N@@
namespace Jvm.Pilot.@@N@@
open Jvm Jvm.ClassFile Sem Op Lib Jvm.Free Jvm.Stand Jvm.Pilot.@@N@@.Jvm.D
/-! MADE BY PROGRAM (witnessworld.py) out of the Statement's table words and the real class files: 14 classes; the members and pool entries that the words name. The judged class is class 1, her method 1. -/
namespace start1
open Jvm.ClassFile
def u (s : String) : CpInfo := .utf8 (stringToUtf16 s)
/-- a pool by its gaps: so many unusable entries, then the entry; so many at the end -/
def gap : Nat → List CpInfo → List CpInfo
  | 0, r => r
  | n + 1, r => .unusable :: gap n r
def poolList (es : List (Nat × CpInfo)) (last : Nat) : List CpInfo := es.foldr (fun e r => gap e.1 (e.2 :: r)) (gap last [])
def pool (es : List (Nat × CpInfo)) (last : Nat) : Array CpInfo := ⟨poolList es last⟩
def fileOf (pool : Array CpInfo) (this : Nat) (attrs : Array Attribute := #[]) (ms : Array MethodInfo := #[]) (fl : Nat := 33) (sup : Nat := 0) (ifs : Array Nat := #[]) (fds : Array FieldInfo := #[]) : ClassFile where
  minorVersion := 0
  majorVersion := 65
  constantPool := pool
  accessFlags := fl
  thisClass := this
  superClass := sup
  interfaces := ifs
  fields := fds
  methods := ms
  attributes := attrs
def plain (name : String) (sup : Option ClassId) : Class where
  name := name
  kind := .ordinary
  loader := none
  accessFlags := 33
  super := sup
  interfaces := #[]
  cf := none
  fields := #[]
  methods := #[]
  instanceTypes := #[]
  staticTypes := #[]
  resolved := #[]
  callSites := []
  init := .initialized
  statics := none
  mirror := none

def pool0 : Array CpInfo := pool [(5, u "<init>"), (0, u "()V"), (1, .class_ 10), (1, u "java/lang/Object")] 113

def k0c0 : Code := { maxStack := 0, maxLocals := 1, code := object_method_1_code, exceptionTable := #[], attributes := #[] }
def k0m0 : Method := { name := "<init>", desc := "()V", sig := { parameters := [], returnType := none }, accessFlags := 1, code := some k0c0 }
/-- java/lang/Object -/
def k0 : Class := { plain "java/lang/Object" none with
  accessFlags := 33
  interfaces := #[]
  cf := some (fileOf pool0 8 #[] #[{ accessFlags := 1, nameIndex := 5, descriptorIndex := 6, attributes := #[] }] 33 0 #[] #[])
  fields := #[]
  methods := #[k0m0]
  instanceTypes := #[]
  staticTypes := #[]
  resolved := Array.replicate 124 none
  statics := none }

def pool1 : Array CpInfo := pool [(2, .class_ 4), (1, u "java/lang/Object"), (0, u "<init>"), (0, u "()V"), (0, .integer 2147483647), (2, .long 9223372036854775807), (1, .class_ 13), (0, u "com/example/huangpu/huangpu/synopsis/AggregateTree"), (0, .methodref 12 15), (0, .nameAndType 5 16), (0, u "(JIJ)V"), (0, .methodref 12 18), (0, .nameAndType 19 20), (0, u "start"), (0, u "(I)J"), (0, .class_ 22), (0, u "com/example/huangpu/huangpu/synopsis/AggregateTreeStartPinLaw"), (2, u "law"), (0, u "(IJJII)Z")] 3

def k1m0 : Method := { name := "<init>", desc := "()V", sig := { parameters := [], returnType := none }, accessFlags := 1, code := none }
def k1c1 : Code := { maxStack := 7, maxLocals := 22, code := code, exceptionTable := #[], attributes := #[] }
def k1m1 : Method := { name := "law", desc := "(IJJII)Z", sig := { parameters := [.int, .long, .long, .int, .int], returnType := some .boolean }, accessFlags := 9, code := some k1c1 }
/-- com/example/huangpu/huangpu/synopsis/AggregateTreeStartPinLaw -/
def k1 : Class := { plain "com/example/huangpu/huangpu/synopsis/AggregateTreeStartPinLaw" (some 0) with
  accessFlags := 49
  interfaces := #[]
  cf := some (fileOf pool1 21 #[] #[{ accessFlags := 1, nameIndex := 5, descriptorIndex := 6, attributes := #[] }, { accessFlags := 9, nameIndex := 25, descriptorIndex := 26, attributes := #[] }] 49 2 #[] #[])
  fields := #[]
  methods := #[k1m0, k1m1]
  instanceTypes := #[]
  staticTypes := #[]
  resolved := Array.replicate 30 none
  statics := none }

def pool2 : Array CpInfo := pool [(1, .methodref 2 3), (0, .class_ 4), (0, .nameAndType 5 6), (0, u "java/lang/Object"), (0, u "<init>"), (0, u "()V"), (0, .class_ 8), (0, u "com/example/huangpu/huangpu/synopsis/AggregateTree"), (2, .long 9223372036854775807), (10, .fieldref 7 23), (0, .nameAndType 24 25), (0, u "mUnitMillis"), (0, u "J"), (0, .fieldref 7 27), (0, .nameAndType 28 29), (0, u "mLevels"), (0, u "I"), (0, .fieldref 7 31), (0, .nameAndType 32 25), (0, u "mLeafMillis"), (4, .methodref 38 39), (0, .class_ 40), (0, .nameAndType 41 42), (0, u "java/lang/Integer"), (0, u "numberOfLeadingZeros"), (0, u "(I)I"), (2, u "start"), (0, u "(I)J"), (99, .class_ 147), (0, u "com/example/huangpu/huangpu/synopsis/AggregateTree$PointsUnit"), (17, .class_ 167), (1, u "com/example/huangpu/huangpu/synopsis/AggregateTree$StoredUnit"), (18, u "ROOT"), (2, u "MAX_LEVELS"), (1, u "(JIJ)V")] 55

def k2c0 : Code := { maxStack := 7, maxLocals := 7, code := prog_13_method_1_code, exceptionTable := #[], attributes := #[] }
def k2m0 : Method := { name := "<init>", desc := "(JIJ)V", sig := { parameters := [.long, .int, .long], returnType := none }, accessFlags := 1, code := some k2c0 }
def k2c1 : Code := { maxStack := 4, maxLocals := 5, code := prog_13_method_3_code, exceptionTable := #[], attributes := #[] }
def k2m1 : Method := { name := "start", desc := "(I)J", sig := { parameters := [.int], returnType := some .long }, accessFlags := 1, code := some k2c1 }
/-- com/example/huangpu/huangpu/synopsis/AggregateTree -/
def k2 : Class := { plain "com/example/huangpu/huangpu/synopsis/AggregateTree" (some 0) with
  accessFlags := 49
  interfaces := #[]
  cf := some (fileOf pool2 7 #[.nestMembers #[165, 146]] #[{ accessFlags := 1, nameIndex := 5, descriptorIndex := 191, attributes := #[] }, { accessFlags := 1, nameIndex := 45, descriptorIndex := 46, attributes := #[] }] 49 2 #[] #[{ accessFlags := 26, nameIndex := 186, descriptorIndex := 29, attributes := #[] }, { accessFlags := 26, nameIndex := 189, descriptorIndex := 29, attributes := #[] }, { accessFlags := 18, nameIndex := 24, descriptorIndex := 25, attributes := #[] }, { accessFlags := 18, nameIndex := 28, descriptorIndex := 29, attributes := #[] }, { accessFlags := 18, nameIndex := 32, descriptorIndex := 25, attributes := #[] }])
  fields := #[{ name := "ROOT", type := .int, accessFlags := 26, slot := 0, constantValue := 0 }, { name := "MAX_LEVELS", type := .int, accessFlags := 26, slot := 1, constantValue := 0 }, { name := "mUnitMillis", type := .long, accessFlags := 18, slot := 0, constantValue := 0 }, { name := "mLevels", type := .int, accessFlags := 18, slot := 1, constantValue := 0 }, { name := "mLeafMillis", type := .long, accessFlags := 18, slot := 2, constantValue := 0 }]
  methods := #[k2m0, k2m1]
  instanceTypes := #[.long, .int, .long]
  staticTypes := #[.int, .int]
  resolved := Array.replicate 247 none
  statics := none }

def pool3 : Array CpInfo := pool [(1, .class_ 2), (0, u "java/io/Serializable"), (0, .class_ 4), (0, u "java/lang/Object")] 2

/-- java/io/Serializable -/
def k3 : Class := { plain "java/io/Serializable" (some 0) with
  accessFlags := 1537
  interfaces := #[]
  cf := some (fileOf pool3 1 #[] #[] 1537 3 #[] #[])
  fields := #[]
  methods := #[]
  instanceTypes := #[]
  staticTypes := #[]
  resolved := Array.replicate 7 none
  statics := none }

def pool4 : Array CpInfo := pool [(2, .class_ 4), (1, u "java/lang/Object"), (0, u "<init>"), (0, u "()V"), (1, .class_ 10), (1, u "java/lang/Number"), (2, .class_ 14), (0, u "java/io/Serializable"), (0, u "serialVersionUID"), (0, u "J")] 20

def k4m0 : Method := { name := "<init>", desc := "()V", sig := { parameters := [], returnType := none }, accessFlags := 1, code := none }
/-- java/lang/Number -/
def k4 : Class := { plain "java/lang/Number" (some 0) with
  accessFlags := 1057
  interfaces := #[3]
  cf := some (fileOf pool4 8 #[] #[{ accessFlags := 1, nameIndex := 5, descriptorIndex := 6, attributes := #[] }] 1057 2 #[13] #[{ accessFlags := 26, nameIndex := 15, descriptorIndex := 16, attributes := #[] }])
  fields := #[{ name := "serialVersionUID", type := .long, accessFlags := 26, slot := 0, constantValue := 0 }]
  methods := #[k4m0]
  instanceTypes := #[]
  staticTypes := #[.long]
  resolved := Array.replicate 37 none
  statics := none }

def pool5 : Array CpInfo := pool [(1, .class_ 2), (0, u "java/lang/Comparable"), (0, .class_ 4), (0, u "java/lang/Object")] 7

/-- java/lang/Comparable -/
def k5 : Class := { plain "java/lang/Comparable" (some 0) with
  accessFlags := 1537
  interfaces := #[]
  cf := some (fileOf pool5 1 #[] #[] 1537 3 #[] #[])
  fields := #[]
  methods := #[]
  instanceTypes := #[]
  staticTypes := #[]
  resolved := Array.replicate 12 none
  statics := none }

def pool6 : Array CpInfo := pool [(1, .class_ 2), (0, u "java/lang/constant/Constable"), (0, .class_ 4), (0, u "java/lang/Object")] 6

/-- java/lang/constant/Constable -/
def k6 : Class := { plain "java/lang/constant/Constable" (some 0) with
  accessFlags := 1537
  interfaces := #[]
  cf := some (fileOf pool6 1 #[] #[] 1537 3 #[] #[])
  fields := #[]
  methods := #[]
  instanceTypes := #[]
  staticTypes := #[]
  resolved := Array.replicate 11 none
  statics := none }

def pool7 : Array CpInfo := pool [(1, .class_ 2), (0, u "java/lang/constant/ConstantDesc"), (0, .class_ 4), (0, u "java/lang/Object")] 32

/-- java/lang/constant/ConstantDesc -/
def k7 : Class := { plain "java/lang/constant/ConstantDesc" (some 0) with
  accessFlags := 1537
  interfaces := #[]
  cf := some (fileOf pool7 1 #[] #[] 1537 3 #[] #[])
  fields := #[]
  methods := #[]
  instanceTypes := #[]
  staticTypes := #[]
  resolved := Array.replicate 37 none
  statics := none }

def pool8 : Array CpInfo := pool [(1, .class_ 2), (0, u "java/lang/Integer"), (16, u "digits"), (0, u "[C"), (32, u "numberOfLeadingZeros"), (0, u "(I)I"), (30, u "DigitOnes"), (0, u "[B"), (2, u "DigitTens"), (99, .class_ 190), (0, u "java/lang/Integer$IntegerCache"), (3, u "I"), (8, .class_ 204), (0, u "java/lang/Number"), (2, u "value"), (56, .integer 65536), (37, u "TYPE"), (0, u "Ljava/lang/Class;"), (0, .class_ 305), (0, u "java/lang/Comparable"), (0, .class_ 307), (0, u "java/lang/constant/Constable"), (0, .class_ 309), (0, u "java/lang/constant/ConstantDesc"), (0, u "MIN_VALUE"), (1, u "MAX_VALUE"), (3, u "SIZE"), (1, u "BYTES"), (1, u "serialVersionUID"), (0, u "J")] 131

def k8c0 : Code := { maxStack := 3, maxLocals := 2, code := jdk_33_method_47_code, exceptionTable := #[], attributes := #[] }
def k8m0 : Method := { name := "numberOfLeadingZeros", desc := "(I)I", sig := { parameters := [.int], returnType := some .int }, accessFlags := 9, code := some k8c0 }
/-- java/lang/Integer -/
def k8 : Class := { plain "java/lang/Integer" (some 4) with
  accessFlags := 49
  interfaces := #[5, 6, 7]
  cf := some (fileOf pool8 1 #[.nestMembers #[189]] #[{ accessFlags := 9, nameIndex := 53, descriptorIndex := 54, attributes := #[] }] 49 203 #[304, 306, 308] #[{ accessFlags := 25, nameIndex := 310, descriptorIndex := 194, attributes := #[] }, { accessFlags := 25, nameIndex := 312, descriptorIndex := 194, attributes := #[] }, { accessFlags := 25, nameIndex := 302, descriptorIndex := 303, attributes := #[] }, { accessFlags := 24, nameIndex := 19, descriptorIndex := 20, attributes := #[] }, { accessFlags := 24, nameIndex := 89, descriptorIndex := 86, attributes := #[] }, { accessFlags := 24, nameIndex := 85, descriptorIndex := 86, attributes := #[] }, { accessFlags := 18, nameIndex := 207, descriptorIndex := 194, attributes := #[] }, { accessFlags := 25, nameIndex := 316, descriptorIndex := 194, attributes := #[] }, { accessFlags := 25, nameIndex := 318, descriptorIndex := 194, attributes := #[] }, { accessFlags := 26, nameIndex := 320, descriptorIndex := 321, attributes := #[] }])
  fields := #[{ name := "MIN_VALUE", type := .int, accessFlags := 25, slot := 0, constantValue := 0 }, { name := "MAX_VALUE", type := .int, accessFlags := 25, slot := 1, constantValue := 0 }, { name := "TYPE", type := (.object "java/lang/Class"), accessFlags := 25, slot := 2, constantValue := 0 }, { name := "digits", type := (.array .char), accessFlags := 24, slot := 3, constantValue := 0 }, { name := "DigitTens", type := (.array .byte), accessFlags := 24, slot := 4, constantValue := 0 }, { name := "DigitOnes", type := (.array .byte), accessFlags := 24, slot := 5, constantValue := 0 }, { name := "value", type := .int, accessFlags := 18, slot := 0, constantValue := 0 }, { name := "SIZE", type := .int, accessFlags := 25, slot := 6, constantValue := 0 }, { name := "BYTES", type := .int, accessFlags := 25, slot := 7, constantValue := 0 }, { name := "serialVersionUID", type := .long, accessFlags := 26, slot := 8, constantValue := 0 }]
  methods := #[k8m0]
  instanceTypes := #[.int]
  staticTypes := #[.int, .int, (.object "java/lang/Class"), (.array .char), (.array .byte), (.array .byte), .int, .int, .long]
  resolved := Array.replicate 453 none
  statics := none }

def pool9 : Array CpInfo := pool [(1, u "java/lang/Cloneable"), (0, .class_ 1), (0, u "java/lang/Object"), (0, .class_ 3)] 3

/-- java/lang/Cloneable -/
def k9 : Class := { plain "java/lang/Cloneable" (some 0) with
  accessFlags := 1537
  interfaces := #[]
  cf := some (fileOf pool9 2 #[] #[] 1537 4 #[] #[])
  fields := #[]
  methods := #[]
  instanceTypes := #[]
  staticTypes := #[]
  resolved := Array.replicate 8 none
  statics := none }

/-- the primitive byte -/
def k10 : Class := { plain "byte" none with kind := .primitive 'B', accessFlags := 0x411 }
/-- [B -/
def k11 : Class := { plain "[B" (some 0) with kind := .array 10 .byte, interfaces := #[9, 3], accessFlags := 1041 }

/-- the primitive int -/
def k12 : Class := { plain "int" none with kind := .primitive 'I', accessFlags := 0x411 }
/-- [I -/
def k13 : Class := { plain "[I" (some 0) with kind := .array 12 .int, interfaces := #[9, 3], accessFlags := 1041 }

def heap : Heap := #[]
def classes : Array Class := #[k0, k1, k2, k3, k4, k5, k6, k7, k8, k9, k10, k11, k12, k13]
def interned : List (Array UInt16 × Addr) := []
def slotsUsed : Nat := 0
def theMethod : MethodId := ⟨1, 1⟩
def args0 : Array Value := #[.int 5, .long 6, .long 7, .int 8, .int 9]
def aboutOver (below : List Frame) : State where
  vm := { classes := classes, interned := interned.toArray }
  heap := heap
  slotsUsed := slotsUsed
  threads := #[{ frames := .invoking theMethod args0 :: below }]
def below0 : List Frame := [.native { method := ⟨0, 0⟩, args := #[] }]
def about1 : State := aboutOver below0
def p0 : Program := .bare "" "" ""
def e0 : Env := launch0.env 0 0 0
theorem w_frames : about1.frames = Frame.invoking theMethod args0 :: below0 := rfl
set_option maxRecDepth 65536 in
theorem w_args : argsFit about1.vm theMethod args0 = true := by decide +kernel
set_option maxRecDepth 65536 in
theorem w_heap : heapFits about1 = true := by decide +kernel
set_option maxRecDepth 65536 in
theorem w_runnable : about1.curStatus? = some .runnable := by decide +kernel
set_option maxRecDepth 65536 in
theorem w_alone : about1.alone = true := by decide +kernel
set_option maxRecDepth 65536 in
theorem w_named : about1.methodNamed? x = some theMethod := by decide +kernel
set_option maxRecDepth 65536 in
theorem w_hears : about1.hears theMethod below0 = true := by decide +kernel
set_option maxRecDepth 65536 in
theorem w_ripe : about1.ripe theMethod args0 below0 = true := by decide +kernel
theorem w_running : about1.status = .running := rfl
set_option maxRecDepth 65536 in
theorem w_room : about1.hasRoom e0.platform room_1 = true :=
  launch0.hasRoom_least _ room_1 (by decide +kernel) (by decide +kernel) (by decide +kernel) (by decide +kernel) (by decide +kernel) (by decide +kernel)
theorem allAtoms_all (ts : List Jvm.Cond) (a : Array Jvm.Value) (st : Jvm.State) : (allAtoms ts).before a st = ts.all (fun c => c.before a st) := by
  induction ts with
  | nil => rfl
  | cons c t ih =>
    show (Jvm.Cond.and c (allAtoms t)).before a st = _
    rw [Jvm.Cond.before_and, ih, List.all_cons]
def words1 : List Jvm.Cond := Jvm.Cond.code x code maxLocals ret :: tables_1
/-- a 'code' word, met by the world's own term for the bytes: nothing is compared byte by byte -/
theorem code_word {y : MethodName} {bytes : ByteArray} {mx : Nat} {rt : Option FieldType} {a : Array Value} {s : State} {m : MethodId} {meth : Method} {c : Code} (h1 : s.methodNamed? y = some m) (h2 : s.vm.method? m = some meth) (h3 : meth.code = some c) (h4 : c.code = bytes)
    (h5 : (c.maxLocals == mx && c.exceptionTable.isEmpty && decide (c.maxStack ≤ mostOperands) && decide (meth.sig.returnType = rt) && !meth.locks && decide (parseMethodDescriptor y.desc = some meth.sig)) = true) : (Jvm.Cond.code y bytes mx rt).before a s = true := by
  simp only [Bool.and_eq_true, beq_iff_eq, Bool.not_eq_true', decide_eq_true_eq] at h5
  obtain ⟨⟨⟨⟨⟨g1, g2⟩, g3⟩, g4⟩, g5⟩, g6⟩ := h5
  simp [Cond.before, Cond.holds, Cond.value, h1, h2, h3, h4, g1, g2, g3, g4, g5, g6]
def isCode : Jvm.Cond → Bool
  | .code _ _ _ _ => true
  | _ => false
theorem all_split {L : List Jvm.Cond} {P : Jvm.Cond → Bool} (h1 : L.all (fun c => isCode c || P c) = true) (h2 : ∀ c ∈ L.filter isCode, P c = true) : L.all P = true := by
  refine List.all_eq_true.mpr fun c hc => ?_
  have h := List.all_eq_true.mp h1 c hc
  rcases Bool.eq_false_or_eq_true (isCode c) with hi | hi
  · exact h2 c (List.mem_filter.mpr ⟨hc, hi⟩)
  · simpa [hi] using h
set_option maxRecDepth 65536 in
theorem w_c0 : (Jvm.Cond.code x code maxLocals ret).before args0 about1 = true := code_word (m := ⟨1, 1⟩) (meth := k1m1) (c := k1c1) (by decide +kernel) rfl rfl rfl (by decide +kernel)
set_option maxRecDepth 65536 in
theorem w_c1 : (Jvm.Cond.code ({ cls := "com/example/huangpu/huangpu/synopsis/AggregateTree", name := "<init>", desc := "(JIJ)V" } : Jvm.MethodName) prog_13_method_1_code (7 : Nat) (Option.none : Option Jvm.ClassFile.FieldType)).before args0 about1 = true := code_word (m := ⟨2, 0⟩) (meth := k2m0) (c := k2c0) (by decide +kernel) rfl rfl rfl (by decide +kernel)
set_option maxRecDepth 65536 in
theorem w_c2 : (Jvm.Cond.code ({ cls := "java/lang/Object", name := "<init>", desc := "()V" } : Jvm.MethodName) object_method_1_code (1 : Nat) (Option.none : Option Jvm.ClassFile.FieldType)).before args0 about1 = true := code_word (m := ⟨0, 0⟩) (meth := k0m0) (c := k0c0) (by decide +kernel) rfl rfl rfl (by decide +kernel)
set_option maxRecDepth 65536 in
theorem w_c3 : (Jvm.Cond.code ({ cls := "com/example/huangpu/huangpu/synopsis/AggregateTree", name := "start", desc := "(I)J" } : Jvm.MethodName) prog_13_method_3_code (5 : Nat) (Option.some Jvm.ClassFile.FieldType.long)).before args0 about1 = true := code_word (m := ⟨2, 1⟩) (meth := k2m1) (c := k2c1) (by decide +kernel) rfl rfl rfl (by decide +kernel)
set_option maxRecDepth 65536 in
theorem w_c4 : (Jvm.Cond.code ({ cls := "java/lang/Integer", name := "numberOfLeadingZeros", desc := "(I)I" } : Jvm.MethodName) jdk_33_method_47_code (2 : Nat) (Option.some Jvm.ClassFile.FieldType.int)).before args0 about1 = true := code_word (m := ⟨8, 0⟩) (meth := k8m0) (c := k8c0) (by decide +kernel) rfl rfl rfl (by decide +kernel)
def codes1 : List Jvm.Cond := [Jvm.Cond.code x code maxLocals ret, Jvm.Cond.code ({ cls := "com/example/huangpu/huangpu/synopsis/AggregateTree", name := "<init>", desc := "(JIJ)V" } : Jvm.MethodName) prog_13_method_1_code (7 : Nat) (Option.none : Option Jvm.ClassFile.FieldType), Jvm.Cond.code ({ cls := "java/lang/Object", name := "<init>", desc := "()V" } : Jvm.MethodName) object_method_1_code (1 : Nat) (Option.none : Option Jvm.ClassFile.FieldType), Jvm.Cond.code ({ cls := "com/example/huangpu/huangpu/synopsis/AggregateTree", name := "start", desc := "(I)J" } : Jvm.MethodName) prog_13_method_3_code (5 : Nat) (Option.some Jvm.ClassFile.FieldType.long), Jvm.Cond.code ({ cls := "java/lang/Integer", name := "numberOfLeadingZeros", desc := "(I)I" } : Jvm.MethodName) jdk_33_method_47_code (2 : Nat) (Option.some Jvm.ClassFile.FieldType.int)]
set_option maxRecDepth 65536 in
theorem codes_eq : words1.filter isCode = codes1 := rfl
theorem w_codes : ∀ c ∈ words1.filter isCode, c.before args0 about1 = true := by
  rw [codes_eq]
  intro c hc
  simp only [codes1, List.mem_cons, List.not_mem_nil, or_false] at hc
  rcases hc with rfl | rfl | rfl | rfl | rfl
  · exact w_c0
  · exact w_c1
  · exact w_c2
  · exact w_c3
  · exact w_c4
set_option maxRecDepth 65536 in
theorem w_t1 : (words1.take 24).all (fun c => isCode c || c.before args0 about1) = true := by decide +kernel
set_option maxRecDepth 65536 in
theorem w_t2 : (words1.drop 24).all (fun c => isCode c || c.before args0 about1) = true := by decide +kernel
theorem w_tables : (allAtoms (Jvm.Cond.code x code maxLocals ret :: tables_1)).before args0 about1 = true := by
  rw [allAtoms_all]
  show words1.all (fun c => c.before args0 about1) = true
  refine all_split ?_ w_codes
  rw [← List.take_append_drop 24 words1, List.all_append, w_t1, w_t2]
  rfl
set_option maxRecDepth 65536 in
theorem w_case : (Jvm.Cond.and given_1 narrow_1).before args0 about1 = true := by decide +kernel
theorem w_applies : (headSpec (Jvm.Cond.code x code maxLocals ret :: tables_1) room_1).applies x e0.platform about1 = true :=
  (Spec.applies_iff w_frames).mpr ⟨w_running, w_runnable, w_alone, w_named, w_hears, w_ripe, w_room, w_tables⟩
theorem atStart : AtStart classFile x code maxLocals ret World_1 tables_1 room_1 Calls_1 rest_1 Pre_1 launch0 p0 e0 about1 theMethod args0 below0 :=
  ⟨lists_1, trivial, launch0.admits_env _ _ _, launch0.least_env, fairChoices_fair.cas, fairChoices_fair.clock, w_frames, w_args, w_heap, w_applies, trivial, trivial, w_case⟩
end start1
theorem witness_1 : WitnessClaimed_1 := ⟨start1.p0, start1.e0, start1.about1, start1.theMethod, start1.args0, start1.below0, start1.atStart⟩
end Jvm.Pilot.@@N@@
