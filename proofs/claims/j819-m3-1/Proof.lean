import JvmDerived
import JvmDerived.Pilot.@@N@@Statement
import JvmDerived.Pilot.@@N@@Code
set_option linter.unusedVariables false
set_option linter.unusedSimpArgs false
@@BLOCK:NumsL.lean.txt@@
namespace Jvm.RoadKit
open Sem ClassFile Op Lib Jvm.Stand Jvm.Free Jvm.LawKit
section New
variable {p : Program} {l : Launch} {e : Env} {R : Room} {s : State} {m : MethodId} {args : Array Value} {below : List Frame} {meth : Method} {c : Code} {T : State} {locs : List Loc} {cells slots : Nat}
theorem retI (X : Stand p l e R s m args below meth c T locs cells slots) (hx : p.tables.exec = Jvm.exec) {pc : Nat} {Ls : Array Slot} {z : Int32} {rest : List Value} (hret : meth.sig.returnType = some .int) (hd : decode c.code pc = .ok (.ireturn, 1)) {fs : List Frame}
    (hl : ∀ (f : JFrame) (acts : List Action), f.method = m → f.locked = none → f.entered = [] → (doReturn e (T.setTop f) acts (some (.int z))).1 = T.setFrames fs) : Steps p.tables e below (T.setTop (mkF m pc Ls (.int z :: rest))) (T.setFrames fs) :=
  retOut X hx hret rfl (Or.inl ⟨rfl, Or.inl rfl, z, rfl⟩) hd hl
theorem retJ (X : Stand p l e R s m args below meth c T locs cells slots) (hx : p.tables.exec = Jvm.exec) {pc : Nat} {Ls : Array Slot} {z : Int64} {rest : List Value} (hret : meth.sig.returnType = some .long) (hd : decode c.code pc = .ok (.lreturn, 1)) {fs : List Frame}
    (hl : ∀ (f : JFrame) (acts : List Action), f.method = m → f.locked = none → f.entered = [] → (doReturn e (T.setTop f) acts (some (.long z))).1 = T.setFrames fs) : Steps p.tables e below (T.setTop (mkF m pc Ls (.long z :: rest))) (T.setFrames fs) :=
  retOut X hx hret rfl (Or.inr (Or.inl ⟨rfl, rfl, z, rfl⟩)) hd hl
theorem retA (X : Stand p l e R s m args below meth c T locs cells slots) (hx : p.tables.exec = Jvm.exec) {pc : Nat} {Ls : Array Slot} {w : Value} {t : FieldType} {rest : List Value} (hret : meth.sig.returnType = some t) (hn : narrow t w = w) (ht : t.isReference = true ∧ w.isRef = true) (hd : decode c.code pc = .ok (.areturn, 1)) {fs : List Frame}
    (hl : ∀ (f : JFrame) (acts : List Action), f.method = m → f.locked = none → f.entered = [] → (doReturn e (T.setTop f) acts (some w)).1 = T.setFrames fs) : Steps p.tables e below (T.setTop (mkF m pc Ls (w :: rest))) (T.setFrames fs) :=
  retOut X hx hret hn (Or.inr (Or.inr (Or.inr (Or.inr ⟨rfl, ht.1, ht.2⟩)))) hd hl
def Go (p : Program) (e : Env) (below : List Frame) (T : State) (f : JFrame) (Post : Outcome → State → Prop) : Prop :=
  ∃ s₂ o, Steps p.tables e below (T.setTop f) s₂ ∧ s₂.status = .running ∧ Ended s₂ below o ∧ Post o s₂
theorem Go.by {T T' : State} {f f' : JFrame} {Post : Outcome → State → Prop} (st : ∀ t, Steps p.tables e below (T'.setTop f') t → Steps p.tables e below (T.setTop f) t) (k : Go p e below T' f' Post) : Go p e below T f Post := by
  obtain ⟨s2, o, a, b⟩ := k
  exact ⟨s2, o, st _ a, b⟩
theorem Go.start {T : State} {f g : JFrame} {Post : Outcome → State → Prop} (q : f = g) (k : Go p e below T g Post) : ∃ s₂ o, Steps p.tables e below (T.setTop f) s₂ ∧ s₂.status = .running ∧ Ended s₂ below o ∧ Post o s₂ := by
  subst q; exact k
theorem Go.done {T s₂ : State} {f : JFrame} {o : Outcome} {Post : Outcome → State → Prop} (a : Steps p.tables e below (T.setTop f) s₂) (b : s₂.status = .running) (c : Ended s₂ below o) (d : Post o s₂) : Go p e below T f Post := ⟨s₂, o, a, b, c, d⟩
def own_ushr (x y : Int32) : Int32 := (x.toUInt32 >>> (y &&& 31).toUInt32).toInt32
def own_ushrL (x : Int64) (y : Int32) : Int64 := (x.toUInt64 >>> (y &&& 63).toInt64.toUInt64).toInt64
theorem own_cmpV (x y : Int64) : lcmpW x y = lcmpV x y := lcW x y
theorem own_holdsLt (z : Int32) : ifCond.holds .lt z = decide (z < 0) := rfl
theorem own_holdsGe (z : Int32) : ifCond.holds .ge z = decide (z ≥ 0) := rfl
theorem own_holdsGt (z : Int32) : ifCond.holds .gt z = decide (z > 0) := rfl
theorem own_holdsLe (z : Int32) : ifCond.holds .le z = decide (z ≤ 0) := rfl
theorem own_holdsEq (z : Int32) : ifCond.holds .eq z = (z == 0) := rfl
theorem own_holdsNe (z : Int32) : ifCond.holds .ne z = (z != 0) := rfl
theorem ctlt {x y : Int64} (h : x < y) : ifCond.holds .lt (lcmpW x y) = true ∧ ifCond.holds .ge (lcmpW x y) = false ∧ ifCond.holds .gt (lcmpW y x) = true ∧ ifCond.holds .le (lcmpW y x) = false := by
  rw [own_holdsLt, own_holdsGe, own_holdsGt, own_holdsLe, own_cmpV, own_cmpV]
  refine ⟨decide_eq_true ((lc_lt x y).mpr h), decide_eq_false fun q => ?_, decide_eq_true ((lc_gt y x).mpr h), decide_eq_false fun q => ?_⟩
  · exact Int64.not_le.mpr h ((lc_ge x y).mp q)
  · exact Int64.not_le.mpr h ((lc_le y x).mp q)
theorem cflt {x y : Int64} (h : ¬ x < y) : ifCond.holds .lt (lcmpW x y) = false ∧ ifCond.holds .ge (lcmpW x y) = true ∧ ifCond.holds .gt (lcmpW y x) = false ∧ ifCond.holds .le (lcmpW y x) = true := by
  rw [own_holdsLt, own_holdsGe, own_holdsGt, own_holdsLe, own_cmpV, own_cmpV]
  exact ⟨decide_eq_false fun q => h ((lc_lt x y).mp q), decide_eq_true ((lc_ge x y).mpr (Int64.not_lt.mp h)), decide_eq_false fun q => h ((lc_gt y x).mp q), decide_eq_true ((lc_le y x).mpr (Int64.not_lt.mp h))⟩
theorem cteq {x y : Int64} (h : x = y) : ifCond.holds .eq (lcmpW x y) = true ∧ ifCond.holds .ne (lcmpW x y) = false := by
  rw [own_holdsEq, own_holdsNe, own_cmpV, (lc_eq x y).mpr h]; exact ⟨rfl, rfl⟩
theorem cfeq {x y : Int64} (h : ¬ x = y) : ifCond.holds .eq (lcmpW x y) = false ∧ ifCond.holds .ne (lcmpW x y) = true := by
  have q : ¬ lcmpV x y = 0 := fun r => h ((lc_eq x y).mp r)
  rw [own_holdsEq, own_holdsNe, own_cmpV]
  exact ⟨beq_false_of_ne q, bne_iff_ne.mpr q⟩
theorem Arr.keep {Z : State} {h h' : Heap} {a : Addr} {cl : Cell} {ty : FieldType} {ws : List Addr} (F : Arr Z h a cl ty) (K : Keep h h' ws) (q : a ∉ ws) : Arr Z h' a cl ty := ⟨K.2.1 a cl F.1 q, F.2⟩
theorem own_selPriv {y : MethodName} {s : State} {args : Array Value} {n : Nat} (hy : y.cls ≠ "java/lang/invoke/MethodHandle" ∧ y.cls ≠ "java/lang/invoke/VarHandle") (hins : (Cond.instantiable y.cls n).before args s = true) (hpriv : (Cond.privateMethod y).before args s = true) (hinst : (Cond.instanceMethod y).before args s = true) :
    (Cond.selects y.cls y y).before args s = true := by
  obtain ⟨c, k, hc, hk, -, hniab, -, -⟩ := Cond.instantiable_spec hins
  have hni : k.isInterface = false := (Bool.or_eq_false_iff.mp hniab).1
  obtain ⟨mk, methM, hnamed, hmethM, -, -⟩ := Cond.instanceMethod_spec hinst
  have hfound : s.methodFound? y.cls y.name y.desc = some mk := State.methodFound?_of_named hnamed hy
  have hcls : mk.cls = c := Option.some.inj ((findClass_of_methodNamed hnamed).symm.trans hc)
  have hsel : selectMethod {} s.vm c mk = .method mk := selectMethod_private hmethM (Cond.privateMethod_at hpriv mk methM hnamed hmethM)
  simp only [Cond.before, Cond.holds, Cond.value, hc, hfound, hnamed, hsel, hcls, hk]
  simp; exact hni
end New
end Jvm.RoadKit
namespace Jvm.Pilot.@@N@@
open Jvm Jvm.ClassFile Sem Op Lib Jvm.Free Jvm.Stand Jvm.LawKit Jvm.RoadKit Bundle Jvm.Pilot.@@N@@.Jvm.D
theorem own_ss (c : Cell) (i : Nat) (v : Value) : (c.setSlot i v).slots.size = c.slots.size := by
  show (c.slots.setIfInBounds i v).size = _
  simp
theorem d1_0 : decode method_2_code 0 = .ok (.iload_n 0, 1) := by decide +kernel
theorem d1_1 : decode method_2_code 1 = .ok (.newarray .int, 2) := by decide +kernel
theorem d1_3 : decode method_2_code 3 = .ok (.astore_n 1, 1) := by decide +kernel
theorem d1_4 : decode method_2_code 4 = .ok (.iload_n 0, 1) := by decide +kernel
theorem d1_5 : decode method_2_code 5 = .ok (.ifCond .le 7, 3) := by decide +kernel
theorem d1_8 : decode method_2_code 8 = .ok (.aload_n 1, 1) := by decide +kernel
theorem d1_9 : decode method_2_code 9 = .ok (.iconst 0, 1) := by decide +kernel
theorem d1_10 : decode method_2_code 10 = .ok (.iconst 0, 1) := by decide +kernel
theorem d1_11 : decode method_2_code 11 = .ok (.iastore, 1) := by decide +kernel
theorem d1_12 : decode method_2_code 12 = .ok (.iload_n 0, 1) := by decide +kernel
theorem d1_13 : decode method_2_code 13 = .ok (.iconst 1, 1) := by decide +kernel
theorem d1_14 : decode method_2_code 14 = .ok (.if_icmp .le 7, 3) := by decide +kernel
theorem d1_17 : decode method_2_code 17 = .ok (.aload_n 1, 1) := by decide +kernel
theorem d1_18 : decode method_2_code 18 = .ok (.iconst 1, 1) := by decide +kernel
theorem d1_19 : decode method_2_code 19 = .ok (.iconst 1, 1) := by decide +kernel
theorem d1_20 : decode method_2_code 20 = .ok (.iastore, 1) := by decide +kernel
theorem d1_21 : decode method_2_code 21 = .ok (.iload_n 0, 1) := by decide +kernel
theorem d1_22 : decode method_2_code 22 = .ok (.iconst 2, 1) := by decide +kernel
theorem d1_23 : decode method_2_code 23 = .ok (.if_icmp .le 7, 3) := by decide +kernel
theorem d1_26 : decode method_2_code 26 = .ok (.aload_n 1, 1) := by decide +kernel
theorem d1_27 : decode method_2_code 27 = .ok (.iconst 2, 1) := by decide +kernel
theorem d1_28 : decode method_2_code 28 = .ok (.iconst 2, 1) := by decide +kernel
theorem d1_29 : decode method_2_code 29 = .ok (.iastore, 1) := by decide +kernel
theorem d1_30 : decode method_2_code 30 = .ok (.iload_n 0, 1) := by decide +kernel
theorem d1_31 : decode method_2_code 31 = .ok (.iconst 3, 1) := by decide +kernel
theorem d1_32 : decode method_2_code 32 = .ok (.if_icmp .le 7, 3) := by decide +kernel
theorem d1_35 : decode method_2_code 35 = .ok (.aload_n 1, 1) := by decide +kernel
theorem d1_36 : decode method_2_code 36 = .ok (.iconst 3, 1) := by decide +kernel
theorem d1_37 : decode method_2_code 37 = .ok (.iconst 3, 1) := by decide +kernel
theorem d1_38 : decode method_2_code 38 = .ok (.iastore, 1) := by decide +kernel
theorem d1_39 : decode method_2_code 39 = .ok (.iload_n 0, 1) := by decide +kernel
theorem d1_40 : decode method_2_code 40 = .ok (.iconst 4, 1) := by decide +kernel
theorem d1_41 : decode method_2_code 41 = .ok (.if_icmp .le 7, 3) := by decide +kernel
theorem d1_44 : decode method_2_code 44 = .ok (.aload_n 1, 1) := by decide +kernel
theorem d1_45 : decode method_2_code 45 = .ok (.iconst 4, 1) := by decide +kernel
theorem d1_46 : decode method_2_code 46 = .ok (.iconst 4, 1) := by decide +kernel
theorem d1_47 : decode method_2_code 47 = .ok (.iastore, 1) := by decide +kernel
theorem d1_48 : decode method_2_code 48 = .ok (.iload_n 0, 1) := by decide +kernel
theorem d1_49 : decode method_2_code 49 = .ok (.iconst 5, 1) := by decide +kernel
theorem d1_50 : decode method_2_code 50 = .ok (.if_icmp .le 7, 3) := by decide +kernel
theorem d1_53 : decode method_2_code 53 = .ok (.aload_n 1, 1) := by decide +kernel
theorem d1_54 : decode method_2_code 54 = .ok (.iconst 5, 1) := by decide +kernel
theorem d1_55 : decode method_2_code 55 = .ok (.iconst 5, 1) := by decide +kernel
theorem d1_56 : decode method_2_code 56 = .ok (.iastore, 1) := by decide +kernel
theorem d1_57 : decode method_2_code 57 = .ok (.iload_n 0, 1) := by decide +kernel
theorem d1_58 : decode method_2_code 58 = .ok (.bipush 6, 2) := by decide +kernel
theorem d1_60 : decode method_2_code 60 = .ok (.if_icmp .le 9, 3) := by decide +kernel
theorem d1_63 : decode method_2_code 63 = .ok (.aload_n 1, 1) := by decide +kernel
theorem d1_64 : decode method_2_code 64 = .ok (.bipush 6, 2) := by decide +kernel
theorem d1_66 : decode method_2_code 66 = .ok (.bipush 6, 2) := by decide +kernel
theorem d1_68 : decode method_2_code 68 = .ok (.iastore, 1) := by decide +kernel
theorem d1_69 : decode method_2_code 69 = .ok (.iload_n 0, 1) := by decide +kernel
theorem d1_70 : decode method_2_code 70 = .ok (.bipush 7, 2) := by decide +kernel
theorem d1_72 : decode method_2_code 72 = .ok (.if_icmp .le 9, 3) := by decide +kernel
theorem d1_75 : decode method_2_code 75 = .ok (.aload_n 1, 1) := by decide +kernel
theorem d1_76 : decode method_2_code 76 = .ok (.bipush 7, 2) := by decide +kernel
theorem d1_78 : decode method_2_code 78 = .ok (.bipush 7, 2) := by decide +kernel
theorem d1_80 : decode method_2_code 80 = .ok (.iastore, 1) := by decide +kernel
theorem d1_81 : decode method_2_code 81 = .ok (.iload_n 0, 1) := by decide +kernel
theorem d1_82 : decode method_2_code 82 = .ok (.bipush 8, 2) := by decide +kernel
theorem d1_84 : decode method_2_code 84 = .ok (.if_icmp .le 9, 3) := by decide +kernel
theorem d1_87 : decode method_2_code 87 = .ok (.aload_n 1, 1) := by decide +kernel
theorem d1_88 : decode method_2_code 88 = .ok (.bipush 8, 2) := by decide +kernel
theorem d1_90 : decode method_2_code 90 = .ok (.bipush 8, 2) := by decide +kernel
theorem d1_92 : decode method_2_code 92 = .ok (.iastore, 1) := by decide +kernel
theorem d1_93 : decode method_2_code 93 = .ok (.iload_n 0, 1) := by decide +kernel
theorem d1_94 : decode method_2_code 94 = .ok (.bipush 9, 2) := by decide +kernel
theorem d1_96 : decode method_2_code 96 = .ok (.if_icmp .le 9, 3) := by decide +kernel
theorem d1_99 : decode method_2_code 99 = .ok (.aload_n 1, 1) := by decide +kernel
theorem d1_100 : decode method_2_code 100 = .ok (.bipush 9, 2) := by decide +kernel
theorem d1_102 : decode method_2_code 102 = .ok (.bipush 9, 2) := by decide +kernel
theorem d1_104 : decode method_2_code 104 = .ok (.iastore, 1) := by decide +kernel
theorem d1_105 : decode method_2_code 105 = .ok (.iload_n 0, 1) := by decide +kernel
theorem d1_106 : decode method_2_code 106 = .ok (.bipush 10, 2) := by decide +kernel
theorem d1_108 : decode method_2_code 108 = .ok (.if_icmp .le 9, 3) := by decide +kernel
theorem d1_111 : decode method_2_code 111 = .ok (.aload_n 1, 1) := by decide +kernel
theorem d1_112 : decode method_2_code 112 = .ok (.bipush 10, 2) := by decide +kernel
theorem d1_114 : decode method_2_code 114 = .ok (.bipush 10, 2) := by decide +kernel
theorem d1_116 : decode method_2_code 116 = .ok (.iastore, 1) := by decide +kernel
theorem d1_117 : decode method_2_code 117 = .ok (.iload_n 0, 1) := by decide +kernel
theorem d1_118 : decode method_2_code 118 = .ok (.bipush 11, 2) := by decide +kernel
theorem d1_120 : decode method_2_code 120 = .ok (.if_icmp .le 9, 3) := by decide +kernel
theorem d1_123 : decode method_2_code 123 = .ok (.aload_n 1, 1) := by decide +kernel
theorem d1_124 : decode method_2_code 124 = .ok (.bipush 11, 2) := by decide +kernel
theorem d1_126 : decode method_2_code 126 = .ok (.bipush 11, 2) := by decide +kernel
theorem d1_128 : decode method_2_code 128 = .ok (.iastore, 1) := by decide +kernel
theorem d1_129 : decode method_2_code 129 = .ok (.aload_n 1, 1) := by decide +kernel
theorem d1_130 : decode method_2_code 130 = .ok (.areturn, 1) := by decide +kernel
theorem pn_0 : plainName "com/example/angerona/angerona/core/TransitionTableDegreePinLaw" = true := by first | (simp [plainName, overriddenIn]; done) | decide +kernel
theorem ef_1 (m : MethodId) (x0 : Int32) : entryFrame m #[(.int x0)] 2 = mkF m 0 #[.val (.int x0), .unset] [] := by first | (simp [entryFrame, mkF, argsToLocals, Value.category]; done) | rfl
def Q1 (Z : State) (p1 : Int32) (h0 : Heap) (n0 : Nat) (v : Option Value) (h : Heap) (L : List Loc) : Prop := v = some (.ref h0.size) ∧ Fr n0 L ∧ Keep h0 h []
def Pst1 (Z : State) (p1 : Int32) (h0 : Heap) (n0 : Nat) (s : State) : Outcome → State → Prop := fun o U' => ∃ v L, o = .returned v ∧ Q1 Z p1 h0 n0 v U'.heap L ∧ FrameEnd s o U' L ({ frames := 0, cells := 1, slots := 12, locals := 0 } : Room).cells ({ frames := 0, cells := 1, slots := 12, locals := 0 } : Room).slots
set_option maxRecDepth 65536 in
set_option maxHeartbeats 40000000 in
theorem rm1 (l : Launch) (Z : State) (a0 : Array Value) (hw : ∀ d ∈ tables_1, d.before a0 Z = true) (ws : List Jvm.Cond) (p1 : Int32) (h0 : Heap) (n0 : Nat) (Z0 : n0 ≤ h0.size) (hp0 : ¬ p1 < 0) (hp1 : p1.toNatClampNeg ≤ 12) :
    MetFree l (⟨"com/example/angerona/angerona/core/TransitionTableDegreePinLaw", "rising", "(I)[I"⟩ : MethodName) (head1 (Jvm.Cond.code (⟨"com/example/angerona/angerona/core/TransitionTableDegreePinLaw", "rising", "(I)[I"⟩ : MethodName) method_2_code 2 (some (.array .int)) :: ws) ({ frames := 0, cells := 1, slots := 12, locals := 0 } : Room)) (fun a U => a = #[(.int p1)] ∧ Z.Warmed39 U.vm ∧ U.heap = h0) (fun _ _ _ _ _ => True) (fun _ U o U' => ∃ v L, o = .returned v ∧ Q1 Z p1 h0 n0 v U'.heap L ∧ FrameEnd U o U' L ({ frames := 0, cells := 1, slots := 12, locals := 0 } : Room).cells ({ frames := 0, cells := 1, slots := 12, locals := 0 } : Room).slots) := by
  refine MetFree.of_bodySF (plainFor_of_name pn_0) hisR ?_
  intro p e s m args below meth c s₁ Bd hml0 hP hK
  obtain ⟨rfl, hZ, hh⟩ := hP
  have hx := Bd.exec
  have hby := Bd.bytes
  have hml : c.maxLocals = 2 := hml0
  have hown : s.vm.findClass "com/example/angerona/angerona/core/TransitionTableDegreePinLaw" = some m.cls := findClass_of_methodNamed Bd.named
  have hnm := (name_of_methodNamed Bd.named Bd.method).1
  have X0 : Stand p l e ({ frames := 0, cells := 1, slots := 12, locals := 0 } : Room) s m #[(.int p1)] below meth c s₁ [] 0 0 := Stand.of_body Bd
  have e0 : s₁.heap = h0 := by rw [← hh, Bd.state]; rfl
  have N0 := Fr.nil n0
  refine Go.start (ef_1 m p1) ?_
  show Go p e below s₁ (mkF m 0 #[.val (.int p1), .unset] []) _
  have K0 := Keep.refl h0 []
  refine Go.by (fun t k => XS.iloadN X0.here hx rfl (hb hby d1_0) rfl k) ?_
  show Go p e below s₁ (mkF m 1 #[.val (.int p1), .unset] [(.int p1)]) _
  obtain ⟨T1, h1, k1, X1, e1, E1, A1, st1⟩ := newP X0 hx hZ (hw _ (List.mem_of_getElem? (i := 0) rfl)) e0 (g := (mkF m 1 #[.val (.int p1), .unset] [(.int p1)])) rfl (hb hby d1_1) rfl hp0 (cap := 12) hp1 (by decide) (by decide) (by decide)
  obtain ⟨b1, g1⟩ : ∃ z, z = h0.size := ⟨_, rfl⟩
  rw [← g1] at A1 st1
  have gn1 : n0 ≤ b1 := Nat.le_trans Z0 (Nat.le_of_eq g1.symm)
  have Z1 : n0 ≤ h1.size := Nat.le_trans Z0 E1.1
  have sz1 : h0.size ≤ b1 := Nat.le_trans K0.1 (Nat.le_of_eq g1.symm)
  have K1 := K0.ext E1
  have V1 := Arv.new A1 hp0
  refine Go.by st1 ?_
  show Go p e below T1 (mkF m 3 #[.val (.int p1), .unset] [(.ref b1)]) _
  refine Go.by (fun t k => XS.astoreN X1.here hx rfl (hb hby d1_3) rfl rfl (l' := #[.val (.int p1), .val (.ref b1)]) rfl k) ?_
  show Go p e below T1 (mkF m 4 #[.val (.int p1), .val (.ref b1)] []) _
  have A0 : ∃ cl : Cell, Arr Z h1 b1 cl .int ∧ cl.slots.size = p1.toNatClampNeg := ⟨_, A1, by obtain ⟨cl, -, -, q, -⟩ := V1; exact sz_new _ _ _⟩
  have J129 : ∀ (Tj129 : State) (Lj129 : List Loc) (hj129 : Heap) (Xj129 : Stand p l e ({ frames := 0, cells := 1, slots := 12, locals := 0 } : Room) s m #[(.int p1)] below meth c Tj129 Lj129 1 12) (ej129 : Tj129.heap = hj129) (Nj129 : Fr n0 Lj129) (Zj129 : n0 ≤ hj129.size) (Kj129 : Keep h0 hj129 []) (Aj129 : ∃ cl : Cell, Arr Z hj129 b1 cl .int ∧ cl.slots.size = p1.toNatClampNeg), Go p e below Tj129 (mkF m 129 #[.val (.int p1), .val (.ref b1)] []) (Pst1 Z p1 h0 n0 s) := by
    intro Tj129 Lj129 hj129 Xj129 ej129 Nj129 Zj129 Kj129 Aj129
    refine Go.by (fun t k => XS.aloadN Xj129.here hx rfl (hb hby d1_129) rfl rfl k) ?_
    show Go p e below Tj129 (mkF m 130 #[.val (.int p1), .val (.ref b1)] [(.ref b1)]) _
    obtain ⟨fs, hr, hrun, hended, hW, hsame⟩ := Xj129.leave (v := some (.ref b1)) (fun h => by rw [Bd.returns] at h; cases h)
    refine Go.done (retA Xj129 hx Bd.returns rfl ⟨rfl, rfl⟩ (hb hby d1_130) hr) hrun hended ⟨_, _, rfl, ?_, ⟨_, rfl⟩, hW, hsame.mono (by decide) (by decide)⟩
    show Q1 Z p1 h0 n0 _ Tj129.heap _
    rw [ej129]
    exact ⟨by rw [g1], Nj129, Kj129⟩
  have J117 : ∀ (Tj117 : State) (Lj117 : List Loc) (hj117 : Heap) (Xj117 : Stand p l e ({ frames := 0, cells := 1, slots := 12, locals := 0 } : Room) s m #[(.int p1)] below meth c Tj117 Lj117 1 12) (ej117 : Tj117.heap = hj117) (Nj117 : Fr n0 Lj117) (Zj117 : n0 ≤ hj117.size) (Kj117 : Keep h0 hj117 []) (Aj117 : ∃ cl : Cell, Arr Z hj117 b1 cl .int ∧ cl.slots.size = p1.toNatClampNeg), Go p e below Tj117 (mkF m 117 #[.val (.int p1), .val (.ref b1)] []) (Pst1 Z p1 h0 n0 s) := by
    intro Tj117 Lj117 hj117 Xj117 ej117 Nj117 Zj117 Kj117 Aj117
    refine Go.by (fun t k => XS.iloadN Xj117.here hx rfl (hb hby d1_117) rfl k) ?_
    show Go p e below Tj117 (mkF m 118 #[.val (.int p1), .val (.ref b1)] [(.int p1)]) _
    refine Go.by (fun t k => XS.bipush Xj117.here hx rfl (hb hby d1_118) k) ?_
    show Go p e below Tj117 (mkF m 120 #[.val (.int p1), .val (.ref b1)] [(.int (11 : Int32)), (.int p1)]) _
    by_cases hc2 : (11 : Int32) < p1
    · refine Go.by (fun t k => XS.icmpNo Xj117.here hx rfl (hb hby d1_120) rfl (tlt hc2).2.2.2 k) ?_
      show Go p e below Tj117 (mkF m 123 #[.val (.int p1), .val (.ref b1)] []) _
      refine Go.by (fun t k => XS.aloadN Xj117.here hx rfl (hb hby d1_123) rfl rfl k) ?_
      show Go p e below Tj117 (mkF m 124 #[.val (.int p1), .val (.ref b1)] [(.ref b1)]) _
      refine Go.by (fun t k => XS.bipush Xj117.here hx rfl (hb hby d1_124) k) ?_
      show Go p e below Tj117 (mkF m 126 #[.val (.int p1), .val (.ref b1)] [(.int (11 : Int32)), (.ref b1)]) _
      refine Go.by (fun t k => XS.bipush Xj117.here hx rfl (hb hby d1_126) k) ?_
      show Go p e below Tj117 (mkF m 128 #[.val (.int p1), .val (.ref b1)] [(.int (11 : Int32)), (.int (11 : Int32)), (.ref b1)]) _
      obtain ⟨cl3, Ar3, S3⟩ := Aj117
      obtain ⟨T3, h3, X3, e3, W3, st3⟩ := stI Xj117 hx hZ ej117 Ar3 (j := (11 : Int32)) (inb_of S3 ⟨by decide, hc2⟩) (g := (mkF m 128 #[.val (.int p1), .val (.ref b1)] [(.int (11 : Int32)), (.int (11 : Int32)), (.ref b1)])) rfl rfl (hb hby d1_128)
      have N3 := Fr.snoc X3 Nj117 gn1
      have Z3 : n0 ≤ h3.size := by rw [W3.size]; exact Zj117
      have K3 := Kj117.wr W3 (Or.inr sz1)
      have A3 : ∃ cl : Cell, Arr Z h3 b1 cl .int ∧ cl.slots.size = p1.toNatClampNeg := ⟨_, Ar3.same W3, by rw [own_ss]; exact S3⟩
      refine Go.by st3 ?_
      show Go p e below T3 (mkF m 129 #[.val (.int p1), .val (.ref b1)] []) _
      exact J129 _ _ _ X3 e3 N3 Z3 K3 A3
    · refine Go.by (fun t k => XS.icmpYes Xj117.here hx rfl (pc0 := 120) (pc' := 129) rfl (hb hby d1_120) rfl (flt hc2).2.2.2 (by decide) (by decide) k) ?_
      show Go p e below Tj117 (mkF m 129 #[.val (.int p1), .val (.ref b1)] []) _
      exact J129 _ _ _ Xj117 ej117 Nj117 Zj117 Kj117 Aj117
  have J105 : ∀ (Tj105 : State) (Lj105 : List Loc) (hj105 : Heap) (Xj105 : Stand p l e ({ frames := 0, cells := 1, slots := 12, locals := 0 } : Room) s m #[(.int p1)] below meth c Tj105 Lj105 1 12) (ej105 : Tj105.heap = hj105) (Nj105 : Fr n0 Lj105) (Zj105 : n0 ≤ hj105.size) (Kj105 : Keep h0 hj105 []) (Aj105 : ∃ cl : Cell, Arr Z hj105 b1 cl .int ∧ cl.slots.size = p1.toNatClampNeg), Go p e below Tj105 (mkF m 105 #[.val (.int p1), .val (.ref b1)] []) (Pst1 Z p1 h0 n0 s) := by
    intro Tj105 Lj105 hj105 Xj105 ej105 Nj105 Zj105 Kj105 Aj105
    refine Go.by (fun t k => XS.iloadN Xj105.here hx rfl (hb hby d1_105) rfl k) ?_
    show Go p e below Tj105 (mkF m 106 #[.val (.int p1), .val (.ref b1)] [(.int p1)]) _
    refine Go.by (fun t k => XS.bipush Xj105.here hx rfl (hb hby d1_106) k) ?_
    show Go p e below Tj105 (mkF m 108 #[.val (.int p1), .val (.ref b1)] [(.int (10 : Int32)), (.int p1)]) _
    by_cases hc4 : (10 : Int32) < p1
    · refine Go.by (fun t k => XS.icmpNo Xj105.here hx rfl (hb hby d1_108) rfl (tlt hc4).2.2.2 k) ?_
      show Go p e below Tj105 (mkF m 111 #[.val (.int p1), .val (.ref b1)] []) _
      refine Go.by (fun t k => XS.aloadN Xj105.here hx rfl (hb hby d1_111) rfl rfl k) ?_
      show Go p e below Tj105 (mkF m 112 #[.val (.int p1), .val (.ref b1)] [(.ref b1)]) _
      refine Go.by (fun t k => XS.bipush Xj105.here hx rfl (hb hby d1_112) k) ?_
      show Go p e below Tj105 (mkF m 114 #[.val (.int p1), .val (.ref b1)] [(.int (10 : Int32)), (.ref b1)]) _
      refine Go.by (fun t k => XS.bipush Xj105.here hx rfl (hb hby d1_114) k) ?_
      show Go p e below Tj105 (mkF m 116 #[.val (.int p1), .val (.ref b1)] [(.int (10 : Int32)), (.int (10 : Int32)), (.ref b1)]) _
      obtain ⟨cl5, Ar5, S5⟩ := Aj105
      obtain ⟨T5, h5, X5, e5, W5, st5⟩ := stI Xj105 hx hZ ej105 Ar5 (j := (10 : Int32)) (inb_of S5 ⟨by decide, hc4⟩) (g := (mkF m 116 #[.val (.int p1), .val (.ref b1)] [(.int (10 : Int32)), (.int (10 : Int32)), (.ref b1)])) rfl rfl (hb hby d1_116)
      have N5 := Fr.snoc X5 Nj105 gn1
      have Z5 : n0 ≤ h5.size := by rw [W5.size]; exact Zj105
      have K5 := Kj105.wr W5 (Or.inr sz1)
      have A5 : ∃ cl : Cell, Arr Z h5 b1 cl .int ∧ cl.slots.size = p1.toNatClampNeg := ⟨_, Ar5.same W5, by rw [own_ss]; exact S5⟩
      refine Go.by st5 ?_
      show Go p e below T5 (mkF m 117 #[.val (.int p1), .val (.ref b1)] []) _
      exact J117 _ _ _ X5 e5 N5 Z5 K5 A5
    · refine Go.by (fun t k => XS.icmpYes Xj105.here hx rfl (pc0 := 108) (pc' := 117) rfl (hb hby d1_108) rfl (flt hc4).2.2.2 (by decide) (by decide) k) ?_
      show Go p e below Tj105 (mkF m 117 #[.val (.int p1), .val (.ref b1)] []) _
      exact J117 _ _ _ Xj105 ej105 Nj105 Zj105 Kj105 Aj105
  have J93 : ∀ (Tj93 : State) (Lj93 : List Loc) (hj93 : Heap) (Xj93 : Stand p l e ({ frames := 0, cells := 1, slots := 12, locals := 0 } : Room) s m #[(.int p1)] below meth c Tj93 Lj93 1 12) (ej93 : Tj93.heap = hj93) (Nj93 : Fr n0 Lj93) (Zj93 : n0 ≤ hj93.size) (Kj93 : Keep h0 hj93 []) (Aj93 : ∃ cl : Cell, Arr Z hj93 b1 cl .int ∧ cl.slots.size = p1.toNatClampNeg), Go p e below Tj93 (mkF m 93 #[.val (.int p1), .val (.ref b1)] []) (Pst1 Z p1 h0 n0 s) := by
    intro Tj93 Lj93 hj93 Xj93 ej93 Nj93 Zj93 Kj93 Aj93
    refine Go.by (fun t k => XS.iloadN Xj93.here hx rfl (hb hby d1_93) rfl k) ?_
    show Go p e below Tj93 (mkF m 94 #[.val (.int p1), .val (.ref b1)] [(.int p1)]) _
    refine Go.by (fun t k => XS.bipush Xj93.here hx rfl (hb hby d1_94) k) ?_
    show Go p e below Tj93 (mkF m 96 #[.val (.int p1), .val (.ref b1)] [(.int (9 : Int32)), (.int p1)]) _
    by_cases hc6 : (9 : Int32) < p1
    · refine Go.by (fun t k => XS.icmpNo Xj93.here hx rfl (hb hby d1_96) rfl (tlt hc6).2.2.2 k) ?_
      show Go p e below Tj93 (mkF m 99 #[.val (.int p1), .val (.ref b1)] []) _
      refine Go.by (fun t k => XS.aloadN Xj93.here hx rfl (hb hby d1_99) rfl rfl k) ?_
      show Go p e below Tj93 (mkF m 100 #[.val (.int p1), .val (.ref b1)] [(.ref b1)]) _
      refine Go.by (fun t k => XS.bipush Xj93.here hx rfl (hb hby d1_100) k) ?_
      show Go p e below Tj93 (mkF m 102 #[.val (.int p1), .val (.ref b1)] [(.int (9 : Int32)), (.ref b1)]) _
      refine Go.by (fun t k => XS.bipush Xj93.here hx rfl (hb hby d1_102) k) ?_
      show Go p e below Tj93 (mkF m 104 #[.val (.int p1), .val (.ref b1)] [(.int (9 : Int32)), (.int (9 : Int32)), (.ref b1)]) _
      obtain ⟨cl7, Ar7, S7⟩ := Aj93
      obtain ⟨T7, h7, X7, e7, W7, st7⟩ := stI Xj93 hx hZ ej93 Ar7 (j := (9 : Int32)) (inb_of S7 ⟨by decide, hc6⟩) (g := (mkF m 104 #[.val (.int p1), .val (.ref b1)] [(.int (9 : Int32)), (.int (9 : Int32)), (.ref b1)])) rfl rfl (hb hby d1_104)
      have N7 := Fr.snoc X7 Nj93 gn1
      have Z7 : n0 ≤ h7.size := by rw [W7.size]; exact Zj93
      have K7 := Kj93.wr W7 (Or.inr sz1)
      have A7 : ∃ cl : Cell, Arr Z h7 b1 cl .int ∧ cl.slots.size = p1.toNatClampNeg := ⟨_, Ar7.same W7, by rw [own_ss]; exact S7⟩
      refine Go.by st7 ?_
      show Go p e below T7 (mkF m 105 #[.val (.int p1), .val (.ref b1)] []) _
      exact J105 _ _ _ X7 e7 N7 Z7 K7 A7
    · refine Go.by (fun t k => XS.icmpYes Xj93.here hx rfl (pc0 := 96) (pc' := 105) rfl (hb hby d1_96) rfl (flt hc6).2.2.2 (by decide) (by decide) k) ?_
      show Go p e below Tj93 (mkF m 105 #[.val (.int p1), .val (.ref b1)] []) _
      exact J105 _ _ _ Xj93 ej93 Nj93 Zj93 Kj93 Aj93
  have J81 : ∀ (Tj81 : State) (Lj81 : List Loc) (hj81 : Heap) (Xj81 : Stand p l e ({ frames := 0, cells := 1, slots := 12, locals := 0 } : Room) s m #[(.int p1)] below meth c Tj81 Lj81 1 12) (ej81 : Tj81.heap = hj81) (Nj81 : Fr n0 Lj81) (Zj81 : n0 ≤ hj81.size) (Kj81 : Keep h0 hj81 []) (Aj81 : ∃ cl : Cell, Arr Z hj81 b1 cl .int ∧ cl.slots.size = p1.toNatClampNeg), Go p e below Tj81 (mkF m 81 #[.val (.int p1), .val (.ref b1)] []) (Pst1 Z p1 h0 n0 s) := by
    intro Tj81 Lj81 hj81 Xj81 ej81 Nj81 Zj81 Kj81 Aj81
    refine Go.by (fun t k => XS.iloadN Xj81.here hx rfl (hb hby d1_81) rfl k) ?_
    show Go p e below Tj81 (mkF m 82 #[.val (.int p1), .val (.ref b1)] [(.int p1)]) _
    refine Go.by (fun t k => XS.bipush Xj81.here hx rfl (hb hby d1_82) k) ?_
    show Go p e below Tj81 (mkF m 84 #[.val (.int p1), .val (.ref b1)] [(.int (8 : Int32)), (.int p1)]) _
    by_cases hc8 : (8 : Int32) < p1
    · refine Go.by (fun t k => XS.icmpNo Xj81.here hx rfl (hb hby d1_84) rfl (tlt hc8).2.2.2 k) ?_
      show Go p e below Tj81 (mkF m 87 #[.val (.int p1), .val (.ref b1)] []) _
      refine Go.by (fun t k => XS.aloadN Xj81.here hx rfl (hb hby d1_87) rfl rfl k) ?_
      show Go p e below Tj81 (mkF m 88 #[.val (.int p1), .val (.ref b1)] [(.ref b1)]) _
      refine Go.by (fun t k => XS.bipush Xj81.here hx rfl (hb hby d1_88) k) ?_
      show Go p e below Tj81 (mkF m 90 #[.val (.int p1), .val (.ref b1)] [(.int (8 : Int32)), (.ref b1)]) _
      refine Go.by (fun t k => XS.bipush Xj81.here hx rfl (hb hby d1_90) k) ?_
      show Go p e below Tj81 (mkF m 92 #[.val (.int p1), .val (.ref b1)] [(.int (8 : Int32)), (.int (8 : Int32)), (.ref b1)]) _
      obtain ⟨cl9, Ar9, S9⟩ := Aj81
      obtain ⟨T9, h9, X9, e9, W9, st9⟩ := stI Xj81 hx hZ ej81 Ar9 (j := (8 : Int32)) (inb_of S9 ⟨by decide, hc8⟩) (g := (mkF m 92 #[.val (.int p1), .val (.ref b1)] [(.int (8 : Int32)), (.int (8 : Int32)), (.ref b1)])) rfl rfl (hb hby d1_92)
      have N9 := Fr.snoc X9 Nj81 gn1
      have Z9 : n0 ≤ h9.size := by rw [W9.size]; exact Zj81
      have K9 := Kj81.wr W9 (Or.inr sz1)
      have A9 : ∃ cl : Cell, Arr Z h9 b1 cl .int ∧ cl.slots.size = p1.toNatClampNeg := ⟨_, Ar9.same W9, by rw [own_ss]; exact S9⟩
      refine Go.by st9 ?_
      show Go p e below T9 (mkF m 93 #[.val (.int p1), .val (.ref b1)] []) _
      exact J93 _ _ _ X9 e9 N9 Z9 K9 A9
    · refine Go.by (fun t k => XS.icmpYes Xj81.here hx rfl (pc0 := 84) (pc' := 93) rfl (hb hby d1_84) rfl (flt hc8).2.2.2 (by decide) (by decide) k) ?_
      show Go p e below Tj81 (mkF m 93 #[.val (.int p1), .val (.ref b1)] []) _
      exact J93 _ _ _ Xj81 ej81 Nj81 Zj81 Kj81 Aj81
  have J69 : ∀ (Tj69 : State) (Lj69 : List Loc) (hj69 : Heap) (Xj69 : Stand p l e ({ frames := 0, cells := 1, slots := 12, locals := 0 } : Room) s m #[(.int p1)] below meth c Tj69 Lj69 1 12) (ej69 : Tj69.heap = hj69) (Nj69 : Fr n0 Lj69) (Zj69 : n0 ≤ hj69.size) (Kj69 : Keep h0 hj69 []) (Aj69 : ∃ cl : Cell, Arr Z hj69 b1 cl .int ∧ cl.slots.size = p1.toNatClampNeg), Go p e below Tj69 (mkF m 69 #[.val (.int p1), .val (.ref b1)] []) (Pst1 Z p1 h0 n0 s) := by
    intro Tj69 Lj69 hj69 Xj69 ej69 Nj69 Zj69 Kj69 Aj69
    refine Go.by (fun t k => XS.iloadN Xj69.here hx rfl (hb hby d1_69) rfl k) ?_
    show Go p e below Tj69 (mkF m 70 #[.val (.int p1), .val (.ref b1)] [(.int p1)]) _
    refine Go.by (fun t k => XS.bipush Xj69.here hx rfl (hb hby d1_70) k) ?_
    show Go p e below Tj69 (mkF m 72 #[.val (.int p1), .val (.ref b1)] [(.int (7 : Int32)), (.int p1)]) _
    by_cases hc10 : (7 : Int32) < p1
    · refine Go.by (fun t k => XS.icmpNo Xj69.here hx rfl (hb hby d1_72) rfl (tlt hc10).2.2.2 k) ?_
      show Go p e below Tj69 (mkF m 75 #[.val (.int p1), .val (.ref b1)] []) _
      refine Go.by (fun t k => XS.aloadN Xj69.here hx rfl (hb hby d1_75) rfl rfl k) ?_
      show Go p e below Tj69 (mkF m 76 #[.val (.int p1), .val (.ref b1)] [(.ref b1)]) _
      refine Go.by (fun t k => XS.bipush Xj69.here hx rfl (hb hby d1_76) k) ?_
      show Go p e below Tj69 (mkF m 78 #[.val (.int p1), .val (.ref b1)] [(.int (7 : Int32)), (.ref b1)]) _
      refine Go.by (fun t k => XS.bipush Xj69.here hx rfl (hb hby d1_78) k) ?_
      show Go p e below Tj69 (mkF m 80 #[.val (.int p1), .val (.ref b1)] [(.int (7 : Int32)), (.int (7 : Int32)), (.ref b1)]) _
      obtain ⟨cl11, Ar11, S11⟩ := Aj69
      obtain ⟨T11, h11, X11, e11, W11, st11⟩ := stI Xj69 hx hZ ej69 Ar11 (j := (7 : Int32)) (inb_of S11 ⟨by decide, hc10⟩) (g := (mkF m 80 #[.val (.int p1), .val (.ref b1)] [(.int (7 : Int32)), (.int (7 : Int32)), (.ref b1)])) rfl rfl (hb hby d1_80)
      have N11 := Fr.snoc X11 Nj69 gn1
      have Z11 : n0 ≤ h11.size := by rw [W11.size]; exact Zj69
      have K11 := Kj69.wr W11 (Or.inr sz1)
      have A11 : ∃ cl : Cell, Arr Z h11 b1 cl .int ∧ cl.slots.size = p1.toNatClampNeg := ⟨_, Ar11.same W11, by rw [own_ss]; exact S11⟩
      refine Go.by st11 ?_
      show Go p e below T11 (mkF m 81 #[.val (.int p1), .val (.ref b1)] []) _
      exact J81 _ _ _ X11 e11 N11 Z11 K11 A11
    · refine Go.by (fun t k => XS.icmpYes Xj69.here hx rfl (pc0 := 72) (pc' := 81) rfl (hb hby d1_72) rfl (flt hc10).2.2.2 (by decide) (by decide) k) ?_
      show Go p e below Tj69 (mkF m 81 #[.val (.int p1), .val (.ref b1)] []) _
      exact J81 _ _ _ Xj69 ej69 Nj69 Zj69 Kj69 Aj69
  have J57 : ∀ (Tj57 : State) (Lj57 : List Loc) (hj57 : Heap) (Xj57 : Stand p l e ({ frames := 0, cells := 1, slots := 12, locals := 0 } : Room) s m #[(.int p1)] below meth c Tj57 Lj57 1 12) (ej57 : Tj57.heap = hj57) (Nj57 : Fr n0 Lj57) (Zj57 : n0 ≤ hj57.size) (Kj57 : Keep h0 hj57 []) (Aj57 : ∃ cl : Cell, Arr Z hj57 b1 cl .int ∧ cl.slots.size = p1.toNatClampNeg), Go p e below Tj57 (mkF m 57 #[.val (.int p1), .val (.ref b1)] []) (Pst1 Z p1 h0 n0 s) := by
    intro Tj57 Lj57 hj57 Xj57 ej57 Nj57 Zj57 Kj57 Aj57
    refine Go.by (fun t k => XS.iloadN Xj57.here hx rfl (hb hby d1_57) rfl k) ?_
    show Go p e below Tj57 (mkF m 58 #[.val (.int p1), .val (.ref b1)] [(.int p1)]) _
    refine Go.by (fun t k => XS.bipush Xj57.here hx rfl (hb hby d1_58) k) ?_
    show Go p e below Tj57 (mkF m 60 #[.val (.int p1), .val (.ref b1)] [(.int (6 : Int32)), (.int p1)]) _
    by_cases hc12 : (6 : Int32) < p1
    · refine Go.by (fun t k => XS.icmpNo Xj57.here hx rfl (hb hby d1_60) rfl (tlt hc12).2.2.2 k) ?_
      show Go p e below Tj57 (mkF m 63 #[.val (.int p1), .val (.ref b1)] []) _
      refine Go.by (fun t k => XS.aloadN Xj57.here hx rfl (hb hby d1_63) rfl rfl k) ?_
      show Go p e below Tj57 (mkF m 64 #[.val (.int p1), .val (.ref b1)] [(.ref b1)]) _
      refine Go.by (fun t k => XS.bipush Xj57.here hx rfl (hb hby d1_64) k) ?_
      show Go p e below Tj57 (mkF m 66 #[.val (.int p1), .val (.ref b1)] [(.int (6 : Int32)), (.ref b1)]) _
      refine Go.by (fun t k => XS.bipush Xj57.here hx rfl (hb hby d1_66) k) ?_
      show Go p e below Tj57 (mkF m 68 #[.val (.int p1), .val (.ref b1)] [(.int (6 : Int32)), (.int (6 : Int32)), (.ref b1)]) _
      obtain ⟨cl13, Ar13, S13⟩ := Aj57
      obtain ⟨T13, h13, X13, e13, W13, st13⟩ := stI Xj57 hx hZ ej57 Ar13 (j := (6 : Int32)) (inb_of S13 ⟨by decide, hc12⟩) (g := (mkF m 68 #[.val (.int p1), .val (.ref b1)] [(.int (6 : Int32)), (.int (6 : Int32)), (.ref b1)])) rfl rfl (hb hby d1_68)
      have N13 := Fr.snoc X13 Nj57 gn1
      have Z13 : n0 ≤ h13.size := by rw [W13.size]; exact Zj57
      have K13 := Kj57.wr W13 (Or.inr sz1)
      have A13 : ∃ cl : Cell, Arr Z h13 b1 cl .int ∧ cl.slots.size = p1.toNatClampNeg := ⟨_, Ar13.same W13, by rw [own_ss]; exact S13⟩
      refine Go.by st13 ?_
      show Go p e below T13 (mkF m 69 #[.val (.int p1), .val (.ref b1)] []) _
      exact J69 _ _ _ X13 e13 N13 Z13 K13 A13
    · refine Go.by (fun t k => XS.icmpYes Xj57.here hx rfl (pc0 := 60) (pc' := 69) rfl (hb hby d1_60) rfl (flt hc12).2.2.2 (by decide) (by decide) k) ?_
      show Go p e below Tj57 (mkF m 69 #[.val (.int p1), .val (.ref b1)] []) _
      exact J69 _ _ _ Xj57 ej57 Nj57 Zj57 Kj57 Aj57
  have J48 : ∀ (Tj48 : State) (Lj48 : List Loc) (hj48 : Heap) (Xj48 : Stand p l e ({ frames := 0, cells := 1, slots := 12, locals := 0 } : Room) s m #[(.int p1)] below meth c Tj48 Lj48 1 12) (ej48 : Tj48.heap = hj48) (Nj48 : Fr n0 Lj48) (Zj48 : n0 ≤ hj48.size) (Kj48 : Keep h0 hj48 []) (Aj48 : ∃ cl : Cell, Arr Z hj48 b1 cl .int ∧ cl.slots.size = p1.toNatClampNeg), Go p e below Tj48 (mkF m 48 #[.val (.int p1), .val (.ref b1)] []) (Pst1 Z p1 h0 n0 s) := by
    intro Tj48 Lj48 hj48 Xj48 ej48 Nj48 Zj48 Kj48 Aj48
    refine Go.by (fun t k => XS.iloadN Xj48.here hx rfl (hb hby d1_48) rfl k) ?_
    show Go p e below Tj48 (mkF m 49 #[.val (.int p1), .val (.ref b1)] [(.int p1)]) _
    refine Go.by (fun t k => XS.iconst Xj48.here hx rfl (hb hby d1_49) k) ?_
    show Go p e below Tj48 (mkF m 50 #[.val (.int p1), .val (.ref b1)] [(.int (5 : Int32)), (.int p1)]) _
    by_cases hc14 : (5 : Int32) < p1
    · refine Go.by (fun t k => XS.icmpNo Xj48.here hx rfl (hb hby d1_50) rfl (tlt hc14).2.2.2 k) ?_
      show Go p e below Tj48 (mkF m 53 #[.val (.int p1), .val (.ref b1)] []) _
      refine Go.by (fun t k => XS.aloadN Xj48.here hx rfl (hb hby d1_53) rfl rfl k) ?_
      show Go p e below Tj48 (mkF m 54 #[.val (.int p1), .val (.ref b1)] [(.ref b1)]) _
      refine Go.by (fun t k => XS.iconst Xj48.here hx rfl (hb hby d1_54) k) ?_
      show Go p e below Tj48 (mkF m 55 #[.val (.int p1), .val (.ref b1)] [(.int (5 : Int32)), (.ref b1)]) _
      refine Go.by (fun t k => XS.iconst Xj48.here hx rfl (hb hby d1_55) k) ?_
      show Go p e below Tj48 (mkF m 56 #[.val (.int p1), .val (.ref b1)] [(.int (5 : Int32)), (.int (5 : Int32)), (.ref b1)]) _
      obtain ⟨cl15, Ar15, S15⟩ := Aj48
      obtain ⟨T15, h15, X15, e15, W15, st15⟩ := stI Xj48 hx hZ ej48 Ar15 (j := (5 : Int32)) (inb_of S15 ⟨by decide, hc14⟩) (g := (mkF m 56 #[.val (.int p1), .val (.ref b1)] [(.int (5 : Int32)), (.int (5 : Int32)), (.ref b1)])) rfl rfl (hb hby d1_56)
      have N15 := Fr.snoc X15 Nj48 gn1
      have Z15 : n0 ≤ h15.size := by rw [W15.size]; exact Zj48
      have K15 := Kj48.wr W15 (Or.inr sz1)
      have A15 : ∃ cl : Cell, Arr Z h15 b1 cl .int ∧ cl.slots.size = p1.toNatClampNeg := ⟨_, Ar15.same W15, by rw [own_ss]; exact S15⟩
      refine Go.by st15 ?_
      show Go p e below T15 (mkF m 57 #[.val (.int p1), .val (.ref b1)] []) _
      exact J57 _ _ _ X15 e15 N15 Z15 K15 A15
    · refine Go.by (fun t k => XS.icmpYes Xj48.here hx rfl (pc0 := 50) (pc' := 57) rfl (hb hby d1_50) rfl (flt hc14).2.2.2 (by decide) (by decide) k) ?_
      show Go p e below Tj48 (mkF m 57 #[.val (.int p1), .val (.ref b1)] []) _
      exact J57 _ _ _ Xj48 ej48 Nj48 Zj48 Kj48 Aj48
  have J39 : ∀ (Tj39 : State) (Lj39 : List Loc) (hj39 : Heap) (Xj39 : Stand p l e ({ frames := 0, cells := 1, slots := 12, locals := 0 } : Room) s m #[(.int p1)] below meth c Tj39 Lj39 1 12) (ej39 : Tj39.heap = hj39) (Nj39 : Fr n0 Lj39) (Zj39 : n0 ≤ hj39.size) (Kj39 : Keep h0 hj39 []) (Aj39 : ∃ cl : Cell, Arr Z hj39 b1 cl .int ∧ cl.slots.size = p1.toNatClampNeg), Go p e below Tj39 (mkF m 39 #[.val (.int p1), .val (.ref b1)] []) (Pst1 Z p1 h0 n0 s) := by
    intro Tj39 Lj39 hj39 Xj39 ej39 Nj39 Zj39 Kj39 Aj39
    refine Go.by (fun t k => XS.iloadN Xj39.here hx rfl (hb hby d1_39) rfl k) ?_
    show Go p e below Tj39 (mkF m 40 #[.val (.int p1), .val (.ref b1)] [(.int p1)]) _
    refine Go.by (fun t k => XS.iconst Xj39.here hx rfl (hb hby d1_40) k) ?_
    show Go p e below Tj39 (mkF m 41 #[.val (.int p1), .val (.ref b1)] [(.int (4 : Int32)), (.int p1)]) _
    by_cases hc16 : (4 : Int32) < p1
    · refine Go.by (fun t k => XS.icmpNo Xj39.here hx rfl (hb hby d1_41) rfl (tlt hc16).2.2.2 k) ?_
      show Go p e below Tj39 (mkF m 44 #[.val (.int p1), .val (.ref b1)] []) _
      refine Go.by (fun t k => XS.aloadN Xj39.here hx rfl (hb hby d1_44) rfl rfl k) ?_
      show Go p e below Tj39 (mkF m 45 #[.val (.int p1), .val (.ref b1)] [(.ref b1)]) _
      refine Go.by (fun t k => XS.iconst Xj39.here hx rfl (hb hby d1_45) k) ?_
      show Go p e below Tj39 (mkF m 46 #[.val (.int p1), .val (.ref b1)] [(.int (4 : Int32)), (.ref b1)]) _
      refine Go.by (fun t k => XS.iconst Xj39.here hx rfl (hb hby d1_46) k) ?_
      show Go p e below Tj39 (mkF m 47 #[.val (.int p1), .val (.ref b1)] [(.int (4 : Int32)), (.int (4 : Int32)), (.ref b1)]) _
      obtain ⟨cl17, Ar17, S17⟩ := Aj39
      obtain ⟨T17, h17, X17, e17, W17, st17⟩ := stI Xj39 hx hZ ej39 Ar17 (j := (4 : Int32)) (inb_of S17 ⟨by decide, hc16⟩) (g := (mkF m 47 #[.val (.int p1), .val (.ref b1)] [(.int (4 : Int32)), (.int (4 : Int32)), (.ref b1)])) rfl rfl (hb hby d1_47)
      have N17 := Fr.snoc X17 Nj39 gn1
      have Z17 : n0 ≤ h17.size := by rw [W17.size]; exact Zj39
      have K17 := Kj39.wr W17 (Or.inr sz1)
      have A17 : ∃ cl : Cell, Arr Z h17 b1 cl .int ∧ cl.slots.size = p1.toNatClampNeg := ⟨_, Ar17.same W17, by rw [own_ss]; exact S17⟩
      refine Go.by st17 ?_
      show Go p e below T17 (mkF m 48 #[.val (.int p1), .val (.ref b1)] []) _
      exact J48 _ _ _ X17 e17 N17 Z17 K17 A17
    · refine Go.by (fun t k => XS.icmpYes Xj39.here hx rfl (pc0 := 41) (pc' := 48) rfl (hb hby d1_41) rfl (flt hc16).2.2.2 (by decide) (by decide) k) ?_
      show Go p e below Tj39 (mkF m 48 #[.val (.int p1), .val (.ref b1)] []) _
      exact J48 _ _ _ Xj39 ej39 Nj39 Zj39 Kj39 Aj39
  have J30 : ∀ (Tj30 : State) (Lj30 : List Loc) (hj30 : Heap) (Xj30 : Stand p l e ({ frames := 0, cells := 1, slots := 12, locals := 0 } : Room) s m #[(.int p1)] below meth c Tj30 Lj30 1 12) (ej30 : Tj30.heap = hj30) (Nj30 : Fr n0 Lj30) (Zj30 : n0 ≤ hj30.size) (Kj30 : Keep h0 hj30 []) (Aj30 : ∃ cl : Cell, Arr Z hj30 b1 cl .int ∧ cl.slots.size = p1.toNatClampNeg), Go p e below Tj30 (mkF m 30 #[.val (.int p1), .val (.ref b1)] []) (Pst1 Z p1 h0 n0 s) := by
    intro Tj30 Lj30 hj30 Xj30 ej30 Nj30 Zj30 Kj30 Aj30
    refine Go.by (fun t k => XS.iloadN Xj30.here hx rfl (hb hby d1_30) rfl k) ?_
    show Go p e below Tj30 (mkF m 31 #[.val (.int p1), .val (.ref b1)] [(.int p1)]) _
    refine Go.by (fun t k => XS.iconst Xj30.here hx rfl (hb hby d1_31) k) ?_
    show Go p e below Tj30 (mkF m 32 #[.val (.int p1), .val (.ref b1)] [(.int (3 : Int32)), (.int p1)]) _
    by_cases hc18 : (3 : Int32) < p1
    · refine Go.by (fun t k => XS.icmpNo Xj30.here hx rfl (hb hby d1_32) rfl (tlt hc18).2.2.2 k) ?_
      show Go p e below Tj30 (mkF m 35 #[.val (.int p1), .val (.ref b1)] []) _
      refine Go.by (fun t k => XS.aloadN Xj30.here hx rfl (hb hby d1_35) rfl rfl k) ?_
      show Go p e below Tj30 (mkF m 36 #[.val (.int p1), .val (.ref b1)] [(.ref b1)]) _
      refine Go.by (fun t k => XS.iconst Xj30.here hx rfl (hb hby d1_36) k) ?_
      show Go p e below Tj30 (mkF m 37 #[.val (.int p1), .val (.ref b1)] [(.int (3 : Int32)), (.ref b1)]) _
      refine Go.by (fun t k => XS.iconst Xj30.here hx rfl (hb hby d1_37) k) ?_
      show Go p e below Tj30 (mkF m 38 #[.val (.int p1), .val (.ref b1)] [(.int (3 : Int32)), (.int (3 : Int32)), (.ref b1)]) _
      obtain ⟨cl19, Ar19, S19⟩ := Aj30
      obtain ⟨T19, h19, X19, e19, W19, st19⟩ := stI Xj30 hx hZ ej30 Ar19 (j := (3 : Int32)) (inb_of S19 ⟨by decide, hc18⟩) (g := (mkF m 38 #[.val (.int p1), .val (.ref b1)] [(.int (3 : Int32)), (.int (3 : Int32)), (.ref b1)])) rfl rfl (hb hby d1_38)
      have N19 := Fr.snoc X19 Nj30 gn1
      have Z19 : n0 ≤ h19.size := by rw [W19.size]; exact Zj30
      have K19 := Kj30.wr W19 (Or.inr sz1)
      have A19 : ∃ cl : Cell, Arr Z h19 b1 cl .int ∧ cl.slots.size = p1.toNatClampNeg := ⟨_, Ar19.same W19, by rw [own_ss]; exact S19⟩
      refine Go.by st19 ?_
      show Go p e below T19 (mkF m 39 #[.val (.int p1), .val (.ref b1)] []) _
      exact J39 _ _ _ X19 e19 N19 Z19 K19 A19
    · refine Go.by (fun t k => XS.icmpYes Xj30.here hx rfl (pc0 := 32) (pc' := 39) rfl (hb hby d1_32) rfl (flt hc18).2.2.2 (by decide) (by decide) k) ?_
      show Go p e below Tj30 (mkF m 39 #[.val (.int p1), .val (.ref b1)] []) _
      exact J39 _ _ _ Xj30 ej30 Nj30 Zj30 Kj30 Aj30
  have J21 : ∀ (Tj21 : State) (Lj21 : List Loc) (hj21 : Heap) (Xj21 : Stand p l e ({ frames := 0, cells := 1, slots := 12, locals := 0 } : Room) s m #[(.int p1)] below meth c Tj21 Lj21 1 12) (ej21 : Tj21.heap = hj21) (Nj21 : Fr n0 Lj21) (Zj21 : n0 ≤ hj21.size) (Kj21 : Keep h0 hj21 []) (Aj21 : ∃ cl : Cell, Arr Z hj21 b1 cl .int ∧ cl.slots.size = p1.toNatClampNeg), Go p e below Tj21 (mkF m 21 #[.val (.int p1), .val (.ref b1)] []) (Pst1 Z p1 h0 n0 s) := by
    intro Tj21 Lj21 hj21 Xj21 ej21 Nj21 Zj21 Kj21 Aj21
    refine Go.by (fun t k => XS.iloadN Xj21.here hx rfl (hb hby d1_21) rfl k) ?_
    show Go p e below Tj21 (mkF m 22 #[.val (.int p1), .val (.ref b1)] [(.int p1)]) _
    refine Go.by (fun t k => XS.iconst Xj21.here hx rfl (hb hby d1_22) k) ?_
    show Go p e below Tj21 (mkF m 23 #[.val (.int p1), .val (.ref b1)] [(.int (2 : Int32)), (.int p1)]) _
    by_cases hc20 : (2 : Int32) < p1
    · refine Go.by (fun t k => XS.icmpNo Xj21.here hx rfl (hb hby d1_23) rfl (tlt hc20).2.2.2 k) ?_
      show Go p e below Tj21 (mkF m 26 #[.val (.int p1), .val (.ref b1)] []) _
      refine Go.by (fun t k => XS.aloadN Xj21.here hx rfl (hb hby d1_26) rfl rfl k) ?_
      show Go p e below Tj21 (mkF m 27 #[.val (.int p1), .val (.ref b1)] [(.ref b1)]) _
      refine Go.by (fun t k => XS.iconst Xj21.here hx rfl (hb hby d1_27) k) ?_
      show Go p e below Tj21 (mkF m 28 #[.val (.int p1), .val (.ref b1)] [(.int (2 : Int32)), (.ref b1)]) _
      refine Go.by (fun t k => XS.iconst Xj21.here hx rfl (hb hby d1_28) k) ?_
      show Go p e below Tj21 (mkF m 29 #[.val (.int p1), .val (.ref b1)] [(.int (2 : Int32)), (.int (2 : Int32)), (.ref b1)]) _
      obtain ⟨cl21, Ar21, S21⟩ := Aj21
      obtain ⟨T21, h21, X21, e21, W21, st21⟩ := stI Xj21 hx hZ ej21 Ar21 (j := (2 : Int32)) (inb_of S21 ⟨by decide, hc20⟩) (g := (mkF m 29 #[.val (.int p1), .val (.ref b1)] [(.int (2 : Int32)), (.int (2 : Int32)), (.ref b1)])) rfl rfl (hb hby d1_29)
      have N21 := Fr.snoc X21 Nj21 gn1
      have Z21 : n0 ≤ h21.size := by rw [W21.size]; exact Zj21
      have K21 := Kj21.wr W21 (Or.inr sz1)
      have A21 : ∃ cl : Cell, Arr Z h21 b1 cl .int ∧ cl.slots.size = p1.toNatClampNeg := ⟨_, Ar21.same W21, by rw [own_ss]; exact S21⟩
      refine Go.by st21 ?_
      show Go p e below T21 (mkF m 30 #[.val (.int p1), .val (.ref b1)] []) _
      exact J30 _ _ _ X21 e21 N21 Z21 K21 A21
    · refine Go.by (fun t k => XS.icmpYes Xj21.here hx rfl (pc0 := 23) (pc' := 30) rfl (hb hby d1_23) rfl (flt hc20).2.2.2 (by decide) (by decide) k) ?_
      show Go p e below Tj21 (mkF m 30 #[.val (.int p1), .val (.ref b1)] []) _
      exact J30 _ _ _ Xj21 ej21 Nj21 Zj21 Kj21 Aj21
  have J12 : ∀ (Tj12 : State) (Lj12 : List Loc) (hj12 : Heap) (Xj12 : Stand p l e ({ frames := 0, cells := 1, slots := 12, locals := 0 } : Room) s m #[(.int p1)] below meth c Tj12 Lj12 1 12) (ej12 : Tj12.heap = hj12) (Nj12 : Fr n0 Lj12) (Zj12 : n0 ≤ hj12.size) (Kj12 : Keep h0 hj12 []) (Aj12 : ∃ cl : Cell, Arr Z hj12 b1 cl .int ∧ cl.slots.size = p1.toNatClampNeg), Go p e below Tj12 (mkF m 12 #[.val (.int p1), .val (.ref b1)] []) (Pst1 Z p1 h0 n0 s) := by
    intro Tj12 Lj12 hj12 Xj12 ej12 Nj12 Zj12 Kj12 Aj12
    refine Go.by (fun t k => XS.iloadN Xj12.here hx rfl (hb hby d1_12) rfl k) ?_
    show Go p e below Tj12 (mkF m 13 #[.val (.int p1), .val (.ref b1)] [(.int p1)]) _
    refine Go.by (fun t k => XS.iconst Xj12.here hx rfl (hb hby d1_13) k) ?_
    show Go p e below Tj12 (mkF m 14 #[.val (.int p1), .val (.ref b1)] [(.int (1 : Int32)), (.int p1)]) _
    by_cases hc22 : (1 : Int32) < p1
    · refine Go.by (fun t k => XS.icmpNo Xj12.here hx rfl (hb hby d1_14) rfl (tlt hc22).2.2.2 k) ?_
      show Go p e below Tj12 (mkF m 17 #[.val (.int p1), .val (.ref b1)] []) _
      refine Go.by (fun t k => XS.aloadN Xj12.here hx rfl (hb hby d1_17) rfl rfl k) ?_
      show Go p e below Tj12 (mkF m 18 #[.val (.int p1), .val (.ref b1)] [(.ref b1)]) _
      refine Go.by (fun t k => XS.iconst Xj12.here hx rfl (hb hby d1_18) k) ?_
      show Go p e below Tj12 (mkF m 19 #[.val (.int p1), .val (.ref b1)] [(.int (1 : Int32)), (.ref b1)]) _
      refine Go.by (fun t k => XS.iconst Xj12.here hx rfl (hb hby d1_19) k) ?_
      show Go p e below Tj12 (mkF m 20 #[.val (.int p1), .val (.ref b1)] [(.int (1 : Int32)), (.int (1 : Int32)), (.ref b1)]) _
      obtain ⟨cl23, Ar23, S23⟩ := Aj12
      obtain ⟨T23, h23, X23, e23, W23, st23⟩ := stI Xj12 hx hZ ej12 Ar23 (j := (1 : Int32)) (inb_of S23 ⟨by decide, hc22⟩) (g := (mkF m 20 #[.val (.int p1), .val (.ref b1)] [(.int (1 : Int32)), (.int (1 : Int32)), (.ref b1)])) rfl rfl (hb hby d1_20)
      have N23 := Fr.snoc X23 Nj12 gn1
      have Z23 : n0 ≤ h23.size := by rw [W23.size]; exact Zj12
      have K23 := Kj12.wr W23 (Or.inr sz1)
      have A23 : ∃ cl : Cell, Arr Z h23 b1 cl .int ∧ cl.slots.size = p1.toNatClampNeg := ⟨_, Ar23.same W23, by rw [own_ss]; exact S23⟩
      refine Go.by st23 ?_
      show Go p e below T23 (mkF m 21 #[.val (.int p1), .val (.ref b1)] []) _
      exact J21 _ _ _ X23 e23 N23 Z23 K23 A23
    · refine Go.by (fun t k => XS.icmpYes Xj12.here hx rfl (pc0 := 14) (pc' := 21) rfl (hb hby d1_14) rfl (flt hc22).2.2.2 (by decide) (by decide) k) ?_
      show Go p e below Tj12 (mkF m 21 #[.val (.int p1), .val (.ref b1)] []) _
      exact J21 _ _ _ Xj12 ej12 Nj12 Zj12 Kj12 Aj12
  have J4 : ∀ (Tj4 : State) (Lj4 : List Loc) (hj4 : Heap) (Xj4 : Stand p l e ({ frames := 0, cells := 1, slots := 12, locals := 0 } : Room) s m #[(.int p1)] below meth c Tj4 Lj4 1 12) (ej4 : Tj4.heap = hj4) (Nj4 : Fr n0 Lj4) (Zj4 : n0 ≤ hj4.size) (Kj4 : Keep h0 hj4 []) (Aj4 : ∃ cl : Cell, Arr Z hj4 b1 cl .int ∧ cl.slots.size = p1.toNatClampNeg), Go p e below Tj4 (mkF m 4 #[.val (.int p1), .val (.ref b1)] []) (Pst1 Z p1 h0 n0 s) := by
    intro Tj4 Lj4 hj4 Xj4 ej4 Nj4 Zj4 Kj4 Aj4
    refine Go.by (fun t k => XS.iloadN Xj4.here hx rfl (hb hby d1_4) rfl k) ?_
    show Go p e below Tj4 (mkF m 5 #[.val (.int p1), .val (.ref b1)] [(.int p1)]) _
    by_cases hc24 : (0 : Int32) < p1
    · refine Go.by (fun t k => XS.ifNo Xj4.here hx rfl (hb hby d1_5) rfl ((if0 _ _).trans (tlt hc24).2.2.2) k) ?_
      show Go p e below Tj4 (mkF m 8 #[.val (.int p1), .val (.ref b1)] []) _
      refine Go.by (fun t k => XS.aloadN Xj4.here hx rfl (hb hby d1_8) rfl rfl k) ?_
      show Go p e below Tj4 (mkF m 9 #[.val (.int p1), .val (.ref b1)] [(.ref b1)]) _
      refine Go.by (fun t k => XS.iconst Xj4.here hx rfl (hb hby d1_9) k) ?_
      show Go p e below Tj4 (mkF m 10 #[.val (.int p1), .val (.ref b1)] [(.int (0 : Int32)), (.ref b1)]) _
      refine Go.by (fun t k => XS.iconst Xj4.here hx rfl (hb hby d1_10) k) ?_
      show Go p e below Tj4 (mkF m 11 #[.val (.int p1), .val (.ref b1)] [(.int (0 : Int32)), (.int (0 : Int32)), (.ref b1)]) _
      obtain ⟨cl25, Ar25, S25⟩ := Aj4
      obtain ⟨T25, h25, X25, e25, W25, st25⟩ := stI Xj4 hx hZ ej4 Ar25 (j := (0 : Int32)) (inb_of S25 ⟨by decide, hc24⟩) (g := (mkF m 11 #[.val (.int p1), .val (.ref b1)] [(.int (0 : Int32)), (.int (0 : Int32)), (.ref b1)])) rfl rfl (hb hby d1_11)
      have N25 := Fr.snoc X25 Nj4 gn1
      have Z25 : n0 ≤ h25.size := by rw [W25.size]; exact Zj4
      have K25 := Kj4.wr W25 (Or.inr sz1)
      have A25 : ∃ cl : Cell, Arr Z h25 b1 cl .int ∧ cl.slots.size = p1.toNatClampNeg := ⟨_, Ar25.same W25, by rw [own_ss]; exact S25⟩
      refine Go.by st25 ?_
      show Go p e below T25 (mkF m 12 #[.val (.int p1), .val (.ref b1)] []) _
      exact J12 _ _ _ X25 e25 N25 Z25 K25 A25
    · refine Go.by (fun t k => XS.ifYes Xj4.here hx rfl (pc0 := 5) (pc' := 12) rfl (hb hby d1_5) rfl ((if0 _ _).trans (flt hc24).2.2.2) (by decide) (by decide) k) ?_
      show Go p e below Tj4 (mkF m 12 #[.val (.int p1), .val (.ref b1)] []) _
      exact J12 _ _ _ Xj4 ej4 Nj4 Zj4 Kj4 Aj4
  exact J4 _ _ _ X1 e1 N0 Z1 K1 A0
theorem d2_0 : decode prog_129_method_1_code 0 = .ok (.aload_n 0, 1) := by decide +kernel
theorem d2_1 : decode prog_129_method_1_code 1 = .ok (.invokespecial 1, 3) := by decide +kernel
theorem d2_4 : decode prog_129_method_1_code 4 = .ok (.aload_n 0, 1) := by decide +kernel
theorem d2_5 : decode prog_129_method_1_code 5 = .ok (.aload_n 1, 1) := by decide +kernel
theorem d2_6 : decode prog_129_method_1_code 6 = .ok (.putfield 7, 3) := by decide +kernel
theorem d2_9 : decode prog_129_method_1_code 9 = .ok (.aload_n 0, 1) := by decide +kernel
theorem d2_10 : decode prog_129_method_1_code 10 = .ok (.aload_n 2, 1) := by decide +kernel
theorem d2_11 : decode prog_129_method_1_code 11 = .ok (.putfield 13, 3) := by decide +kernel
theorem d2_14 : decode prog_129_method_1_code 14 = .ok (.aload_n 0, 1) := by decide +kernel
theorem d2_15 : decode prog_129_method_1_code 15 = .ok (.aload_n 3, 1) := by decide +kernel
theorem d2_16 : decode prog_129_method_1_code 16 = .ok (.putfield 16, 3) := by decide +kernel
theorem d2_19 : decode prog_129_method_1_code 19 = .ok (.return_, 1) := by decide +kernel
theorem pn_1 : plainName "com/example/angerona/angerona/core/TransitionTable" = true := by first | (simp [plainName, overriddenIn]; done) | decide +kernel
theorem ef_2 (m : MethodId) (x0 : Addr) (x1 : Addr) (x2 : Addr) (x3 : Addr) : entryFrame m #[(.ref x0), (.ref x1), (.ref x2), (.ref x3)] 4 = mkF m 0 #[.val (.ref x0), .val (.ref x1), .val (.ref x2), .val (.ref x3)] [] := by first | (simp [entryFrame, mkF, argsToLocals, Value.category]; done) | rfl
def Q2 (Z : State) (a1 : Addr) (a2 : Addr) (a3 : Addr) (a4 : Addr) (u_first : Value) (u_labels : Value) (u_targets : Value) (h0 : Heap) (n0 : Nat) (v : Option Value) (h : Heap) (L : List Loc) : Prop := v = none ∧ Fr n0 L ∧ Keep h0 h [a1] ∧ Exa Z h a1 "com/example/angerona/angerona/core/TransitionTable" ∧ Fld Z h a1 "com/example/angerona/angerona/core/TransitionTable" "first" "[I" (.ref a2) ∧ Fld Z h a1 "com/example/angerona/angerona/core/TransitionTable" "labels" "[I" (.ref a3) ∧ Fld Z h a1 "com/example/angerona/angerona/core/TransitionTable" "targets" "[I" (.ref a4)
set_option maxRecDepth 65536 in
set_option maxHeartbeats 40000000 in
theorem rm2 (l : Launch) (Z : State) (a0 : Array Value) (hw : ∀ d ∈ tables_1, d.before a0 Z = true) (ws : List Jvm.Cond) (a1 : Addr) (a2 : Addr) (a3 : Addr) (a4 : Addr) (u_first : Value) (u_labels : Value) (u_targets : Value) (h0 : Heap) (n0 : Nat) (Z0 : n0 ≤ h0.size) (E1 : Exa Z h0 a1 "com/example/angerona/angerona/core/TransitionTable") (F_first : Fld Z h0 a1 "com/example/angerona/angerona/core/TransitionTable" "first" "[I" u_first) (F_labels : Fld Z h0 a1 "com/example/angerona/angerona/core/TransitionTable" "labels" "[I" u_labels) (F_targets : Fld Z h0 a1 "com/example/angerona/angerona/core/TransitionTable" "targets" "[I" u_targets) (g1 : n0 ≤ a1) :
    MetFree l (⟨"com/example/angerona/angerona/core/TransitionTable", "<init>", "([I[I[I)V"⟩ : MethodName) (head1 (Jvm.Cond.code (⟨"com/example/angerona/angerona/core/TransitionTable", "<init>", "([I[I[I)V"⟩ : MethodName) prog_129_method_1_code 4 none :: ws) ({ frames := 1, cells := 0, slots := 0, locals := 12 } : Room)) (fun a U => a = #[(.ref a1), (.ref a2), (.ref a3), (.ref a4)] ∧ Z.Warmed39 U.vm ∧ U.heap = h0) (fun _ _ _ _ _ => True) (fun _ U o U' => ∃ v L, o = .returned v ∧ Q2 Z a1 a2 a3 a4 u_first u_labels u_targets h0 n0 v U'.heap L ∧ FrameEnd U o U' L ({ frames := 1, cells := 0, slots := 0, locals := 12 } : Room).cells ({ frames := 1, cells := 0, slots := 0, locals := 12 } : Room).slots) := by
  refine MetFree.of_bodySF (plainFor_of_name pn_1) hisR ?_
  intro p e s m args below meth c s₁ Bd hml0 hP hK
  obtain ⟨rfl, hZ, hh⟩ := hP
  have hx := Bd.exec
  have hby := Bd.bytes
  have hml : c.maxLocals = 4 := hml0
  have hown : s.vm.findClass "com/example/angerona/angerona/core/TransitionTable" = some m.cls := findClass_of_methodNamed Bd.named
  have hnm := (name_of_methodNamed Bd.named Bd.method).1
  have X0 : Stand p l e ({ frames := 1, cells := 0, slots := 0, locals := 12 } : Room) s m #[(.ref a1), (.ref a2), (.ref a3), (.ref a4)] below meth c s₁ [] 0 0 := Stand.of_body Bd
  have e0 : s₁.heap = h0 := by rw [← hh, Bd.state]; rfl
  have N0 := Fr.nil n0
  refine Go.start (ef_2 m a1 a2 a3 a4) ?_
  show Go p e below s₁ (mkF m 0 #[.val (.ref a1), .val (.ref a2), .val (.ref a3), .val (.ref a4)] []) _
  have K0 := Keep.refl h0 [a1]
  refine Go.by (fun t k => XS.aloadN X0.here hx rfl (hb hby d2_0) rfl rfl k) ?_
  show Go p e below s₁ (mkF m 1 #[.val (.ref a1), .val (.ref a2), .val (.ref a3), .val (.ref a4)] [(.ref a1)]) _
  obtain ⟨T1, X1, e1, st1⟩ := initO X0 hx hZ hown (hw _ (List.mem_of_getElem? (i := 11) rfl)) (hw _ (List.mem_of_getElem? (i := 12) rfl)) (hw _ (List.mem_of_getElem? (i := 13) rfl)) e0 (g := (mkF m 1 #[.val (.ref a1), .val (.ref a2), .val (.ref a3), .val (.ref a4)] [(.ref a1)])) rfl (by rw [hml]; rfl) rfl (hb hby d2_1) (by decide) (W := 0) (by show 2 * 0 + _ ≤ _; exact Nat.le_of_eq rfl) (by decide)
  refine Go.by st1 ?_
  show Go p e below T1 (mkF m 4 #[.val (.ref a1), .val (.ref a2), .val (.ref a3), .val (.ref a4)] []) _
  refine Go.by (fun t k => XS.aloadN X1.here hx rfl (hb hby d2_4) rfl rfl k) ?_
  show Go p e below T1 (mkF m 5 #[.val (.ref a1), .val (.ref a2), .val (.ref a3), .val (.ref a4)] [(.ref a1)]) _
  refine Go.by (fun t k => XS.aloadN X1.here hx rfl (hb hby d2_5) rfl rfl k) ?_
  show Go p e below T1 (mkF m 6 #[.val (.ref a1), .val (.ref a2), .val (.ref a3), .val (.ref a4)] [(.ref a2), (.ref a1)]) _
  obtain ⟨T2, h2, X2, e2, W2, st2⟩ := putF X1 hx hZ hown (host := "") (Or.inl (hw _ (List.mem_of_getElem? (i := 14) rfl))) Via.refl e1 F_first E1 (Or.inr ⟨(hw _ (List.mem_of_getElem? (i := 15) rfl)), rfl, hnm⟩) (hw _ (List.mem_of_getElem? (i := 6) rfl)) (ty := (.array .int)) (by decide) rfl rfl (g := (mkF m 6 #[.val (.ref a1), .val (.ref a2), .val (.ref a3), .val (.ref a4)] [(.ref a2), (.ref a1)])) rfl rfl (hb hby d2_6)
  have F2 := F_first.same W2
  have N2 := Fr.snoc X2 N0 g1
  have Z2 : n0 ≤ h2.size := by rw [W2.size]; exact Z0
  have K2 := K0.wr W2 (Or.inl (List.mem_of_getElem? (i := 0) rfl))
  refine Go.by st2 ?_
  show Go p e below T2 (mkF m 9 #[.val (.ref a1), .val (.ref a2), .val (.ref a3), .val (.ref a4)] []) _
  refine Go.by (fun t k => XS.aloadN X2.here hx rfl (hb hby d2_9) rfl rfl k) ?_
  show Go p e below T2 (mkF m 10 #[.val (.ref a1), .val (.ref a2), .val (.ref a3), .val (.ref a4)] [(.ref a1)]) _
  refine Go.by (fun t k => XS.aloadN X2.here hx rfl (hb hby d2_10) rfl rfl k) ?_
  show Go p e below T2 (mkF m 11 #[.val (.ref a1), .val (.ref a2), .val (.ref a3), .val (.ref a4)] [(.ref a3), (.ref a1)]) _
  have fa3 := F_labels.other W2 (Or.inr (slot_ne (Or.inr (hw _ (List.mem_of_getElem? (i := 17) rfl))) (Or.inr (hw _ (List.mem_of_getElem? (i := 15) rfl))) (by decide) (t := (.array .int)) (t' := (.array .int)) (by decide) (by decide)))
  have fa4 := E1.wr W2
  obtain ⟨T5, h5, X5, e5, W5, st5⟩ := putF X2 hx hZ hown (host := "") (Or.inl (hw _ (List.mem_of_getElem? (i := 16) rfl))) Via.refl e2 fa3 fa4 (Or.inr ⟨(hw _ (List.mem_of_getElem? (i := 17) rfl)), rfl, hnm⟩) (hw _ (List.mem_of_getElem? (i := 6) rfl)) (ty := (.array .int)) (by decide) rfl rfl (g := (mkF m 11 #[.val (.ref a1), .val (.ref a2), .val (.ref a3), .val (.ref a4)] [(.ref a3), (.ref a1)])) rfl rfl (hb hby d2_11)
  have F5 := fa3.same W5
  have N5 := Fr.snoc X5 N2 g1
  have Z5 : n0 ≤ h5.size := by rw [W5.size]; exact Z2
  have K5 := K2.wr W5 (Or.inl (List.mem_of_getElem? (i := 0) rfl))
  refine Go.by st5 ?_
  show Go p e below T5 (mkF m 14 #[.val (.ref a1), .val (.ref a2), .val (.ref a3), .val (.ref a4)] []) _
  refine Go.by (fun t k => XS.aloadN X5.here hx rfl (hb hby d2_14) rfl rfl k) ?_
  show Go p e below T5 (mkF m 15 #[.val (.ref a1), .val (.ref a2), .val (.ref a3), .val (.ref a4)] [(.ref a1)]) _
  refine Go.by (fun t k => XS.aloadN X5.here hx rfl (hb hby d2_15) rfl rfl k) ?_
  show Go p e below T5 (mkF m 16 #[.val (.ref a1), .val (.ref a2), .val (.ref a3), .val (.ref a4)] [(.ref a4), (.ref a1)]) _
  have fa6 := F_targets.other W2 (Or.inr (slot_ne (Or.inr (hw _ (List.mem_of_getElem? (i := 19) rfl))) (Or.inr (hw _ (List.mem_of_getElem? (i := 15) rfl))) (by decide) (t := (.array .int)) (t' := (.array .int)) (by decide) (by decide)))
  have fa7 := fa6.other W5 (Or.inr (slot_ne (Or.inr (hw _ (List.mem_of_getElem? (i := 19) rfl))) (Or.inr (hw _ (List.mem_of_getElem? (i := 17) rfl))) (by decide) (t := (.array .int)) (t' := (.array .int)) (by decide) (by decide)))
  have fa8 := fa4.wr W5
  obtain ⟨T9, h9, X9, e9, W9, st9⟩ := putF X5 hx hZ hown (host := "") (Or.inl (hw _ (List.mem_of_getElem? (i := 18) rfl))) Via.refl e5 fa7 fa8 (Or.inr ⟨(hw _ (List.mem_of_getElem? (i := 19) rfl)), rfl, hnm⟩) (hw _ (List.mem_of_getElem? (i := 6) rfl)) (ty := (.array .int)) (by decide) rfl rfl (g := (mkF m 16 #[.val (.ref a1), .val (.ref a2), .val (.ref a3), .val (.ref a4)] [(.ref a4), (.ref a1)])) rfl rfl (hb hby d2_16)
  have F9 := fa7.same W9
  have N9 := Fr.snoc X9 N5 g1
  have Z9 : n0 ≤ h9.size := by rw [W9.size]; exact Z5
  have K9 := K5.wr W9 (Or.inl (List.mem_of_getElem? (i := 0) rfl))
  refine Go.by st9 ?_
  show Go p e below T9 (mkF m 19 #[.val (.ref a1), .val (.ref a2), .val (.ref a3), .val (.ref a4)] []) _
  obtain ⟨fs, hr, hrun, hended, hW, hsame⟩ := X9.leave (v := none) (fun _ => rfl)
  refine Go.done (X9.returnOut hx Bd.returns (hb hby d2_19) hr) hrun hended ⟨_, _, rfl, ?_, ⟨_, rfl⟩, hW, hsame.mono (by decide) (by decide)⟩
  show Q2 Z a1 a2 a3 a4 u_first u_labels u_targets h0 n0 _ T9.heap _
  rw [e9]
  have fa10 := fa8.wr W9
  have fa11 := F2.other W5 (Or.inr (slot_ne (Or.inr (hw _ (List.mem_of_getElem? (i := 15) rfl))) (Or.inr (hw _ (List.mem_of_getElem? (i := 17) rfl))) (by decide) (t := (.array .int)) (t' := (.array .int)) (by decide) (by decide)))
  have fa12 := fa11.other W9 (Or.inr (slot_ne (Or.inr (hw _ (List.mem_of_getElem? (i := 15) rfl))) (Or.inr (hw _ (List.mem_of_getElem? (i := 19) rfl))) (by decide) (t := (.array .int)) (t' := (.array .int)) (by decide) (by decide)))
  have fa13 := F5.other W9 (Or.inr (slot_ne (Or.inr (hw _ (List.mem_of_getElem? (i := 17) rfl))) (Or.inr (hw _ (List.mem_of_getElem? (i := 19) rfl))) (by decide) (t := (.array .int)) (t' := (.array .int)) (by decide) (by decide)))
  exact ⟨rfl, N9, K9, fa10, fa12, fa13, F9⟩
theorem d4_0 : decode prog_129_method_3_code 0 = .ok (.aload_n 0, 1) := by decide +kernel
theorem d4_1 : decode prog_129_method_3_code 1 = .ok (.getfield 7, 3) := by decide +kernel
theorem d4_4 : decode prog_129_method_3_code 4 = .ok (.iload_n 1, 1) := by decide +kernel
theorem d4_5 : decode prog_129_method_3_code 5 = .ok (.iconst 1, 1) := by decide +kernel
theorem d4_6 : decode prog_129_method_3_code 6 = .ok (.iadd, 1) := by decide +kernel
theorem d4_7 : decode prog_129_method_3_code 7 = .ok (.iaload, 1) := by decide +kernel
theorem d4_8 : decode prog_129_method_3_code 8 = .ok (.aload_n 0, 1) := by decide +kernel
theorem d4_9 : decode prog_129_method_3_code 9 = .ok (.getfield 7, 3) := by decide +kernel
theorem d4_12 : decode prog_129_method_3_code 12 = .ok (.iload_n 1, 1) := by decide +kernel
theorem d4_13 : decode prog_129_method_3_code 13 = .ok (.iaload, 1) := by decide +kernel
theorem d4_14 : decode prog_129_method_3_code 14 = .ok (.isub, 1) := by decide +kernel
theorem d4_15 : decode prog_129_method_3_code 15 = .ok (.ireturn, 1) := by decide +kernel
theorem ef_4 (m : MethodId) (x0 : Addr) (x1 : Int32) : entryFrame m #[(.ref x0), (.int x1)] 2 = mkF m 0 #[.val (.ref x0), .val (.int x1)] [] := by first | (simp [entryFrame, mkF, argsToLocals, Value.category]; done) | rfl
def Q4 (Z : State) (a1 : Addr) (p2 : Int32) (fa : Addr) (cl : Cell) (x1 : Int32) (x0 : Int32) (h0 : Heap) (n0 : Nat) (v : Option Value) (h : Heap) (L : List Loc) : Prop := v = some (.int (x1 - x0)) ∧ Fr n0 L ∧ h = h0
set_option maxRecDepth 65536 in
set_option maxHeartbeats 40000000 in
theorem rm4 (l : Launch) (Z : State) (a0 : Array Value) (hw : ∀ d ∈ tables_1, d.before a0 Z = true) (ws : List Jvm.Cond) (a1 : Addr) (p2 : Int32) (fa : Addr) (cl : Cell) (x1 : Int32) (x0 : Int32) (h0 : Heap) (n0 : Nat) (Z0 : n0 ≤ h0.size) (F1 : Fld Z h0 a1 "com/example/angerona/angerona/core/TransitionTable" "first" "[I" (.ref fa)) (Ar : Arr Z h0 fa cl .int) (hin1 : ¬ ((p2 + (1 : Int32)) < 0 ∨ cl.slots.size ≤ (p2 + (1 : Int32)).toNatClampNeg)) (hat1 : cl.slots[(p2 + (1 : Int32)).toNatClampNeg]? = some (.int x1)) (hin0 : ¬ (p2 < 0 ∨ cl.slots.size ≤ p2.toNatClampNeg)) (hat0 : cl.slots[p2.toNatClampNeg]? = some (.int x0)) :
    MetFree l (⟨"com/example/angerona/angerona/core/TransitionTable", "degree", "(I)I"⟩ : MethodName) (head1 (Jvm.Cond.code (⟨"com/example/angerona/angerona/core/TransitionTable", "degree", "(I)I"⟩ : MethodName) prog_129_method_3_code 2 (some .int) :: ws) ({ frames := 0, cells := 0, slots := 0, locals := 0 } : Room)) (fun a U => a = #[(.ref a1), (.int p2)] ∧ Z.Warmed39 U.vm ∧ U.heap = h0) (fun _ _ _ _ _ => True) (fun _ U o U' => ∃ v L, o = .returned v ∧ Q4 Z a1 p2 fa cl x1 x0 h0 n0 v U'.heap L ∧ FrameEnd U o U' L ({ frames := 0, cells := 0, slots := 0, locals := 0 } : Room).cells ({ frames := 0, cells := 0, slots := 0, locals := 0 } : Room).slots) := by
  refine MetFree.of_bodySF (plainFor_of_name pn_1) hisR ?_
  intro p e s m args below meth c s₁ Bd hml0 hP hK
  obtain ⟨rfl, hZ, hh⟩ := hP
  have hx := Bd.exec
  have hby := Bd.bytes
  have hml : c.maxLocals = 2 := hml0
  have hown : s.vm.findClass "com/example/angerona/angerona/core/TransitionTable" = some m.cls := findClass_of_methodNamed Bd.named
  have hnm := (name_of_methodNamed Bd.named Bd.method).1
  have X0 : Stand p l e ({ frames := 0, cells := 0, slots := 0, locals := 0 } : Room) s m #[(.ref a1), (.int p2)] below meth c s₁ [] 0 0 := Stand.of_body Bd
  have e0 : s₁.heap = h0 := by rw [← hh, Bd.state]; rfl
  have N0 := Fr.nil n0
  refine Go.start (ef_4 m a1 p2) ?_
  show Go p e below s₁ (mkF m 0 #[.val (.ref a1), .val (.int p2)] []) _
  refine Go.by (fun t k => XS.aloadN X0.here hx rfl (hb hby d4_0) rfl rfl k) ?_
  show Go p e below s₁ (mkF m 1 #[.val (.ref a1), .val (.int p2)] [(.ref a1)]) _
  obtain ⟨T1, X1, e1, st1⟩ := getF X0 hx hZ hown (host := "") (Or.inl (hw _ (List.mem_of_getElem? (i := 14) rfl))) Via.refl e0 F1 (g := (mkF m 1 #[.val (.ref a1), .val (.int p2)] [(.ref a1)])) rfl rfl (hb hby d4_1)
  refine Go.by st1 ?_
  show Go p e below T1 (mkF m 4 #[.val (.ref a1), .val (.int p2)] [(.ref fa)]) _
  refine Go.by (fun t k => XS.iloadN X1.here hx rfl (hb hby d4_4) rfl k) ?_
  show Go p e below T1 (mkF m 5 #[.val (.ref a1), .val (.int p2)] [(.int p2), (.ref fa)]) _
  refine Go.by (fun t k => XS.iconst X1.here hx rfl (hb hby d4_5) k) ?_
  show Go p e below T1 (mkF m 6 #[.val (.ref a1), .val (.int p2)] [(.int (1 : Int32)), (.int p2), (.ref fa)]) _
  refine Go.by (fun t k => XS.iadd X1.here hx rfl (hb hby d4_6) rfl k) ?_
  show Go p e below T1 (mkF m 7 #[.val (.ref a1), .val (.int p2)] [(.int (p2 + (1 : Int32))), (.ref fa)]) _
  refine Go.by (fun t k => X1.iaload hx (j := (p2 + (1 : Int32))) (v := (.int x1)) (by rw [e1]; exact Ar.1) (State.isArrayOf_alike hZ.alike Ar.2.1) Ar.2.2 hin1 hat1 (g := (mkF m 7 #[.val (.ref a1), .val (.int p2)] [(.int (p2 + (1 : Int32))), (.ref fa)])) rfl rfl (hb hby d4_7) t k) ?_
  show Go p e below T1 (mkF m 8 #[.val (.ref a1), .val (.int p2)] [(.int x1)]) _
  refine Go.by (fun t k => XS.aloadN X1.here hx rfl (hb hby d4_8) rfl rfl k) ?_
  show Go p e below T1 (mkF m 9 #[.val (.ref a1), .val (.int p2)] [(.ref a1), (.int x1)]) _
  obtain ⟨T2, X2, e2, st2⟩ := getF X1 hx hZ hown (host := "") (Or.inl (hw _ (List.mem_of_getElem? (i := 14) rfl))) Via.refl e1 F1 (g := (mkF m 9 #[.val (.ref a1), .val (.int p2)] [(.ref a1), (.int x1)])) rfl rfl (hb hby d4_9)
  refine Go.by st2 ?_
  show Go p e below T2 (mkF m 12 #[.val (.ref a1), .val (.int p2)] [(.ref fa), (.int x1)]) _
  refine Go.by (fun t k => XS.iloadN X2.here hx rfl (hb hby d4_12) rfl k) ?_
  show Go p e below T2 (mkF m 13 #[.val (.ref a1), .val (.int p2)] [(.int p2), (.ref fa), (.int x1)]) _
  refine Go.by (fun t k => X2.iaload hx (j := p2) (v := (.int x0)) (by rw [e2]; exact Ar.1) (State.isArrayOf_alike hZ.alike Ar.2.1) Ar.2.2 hin0 hat0 (g := (mkF m 13 #[.val (.ref a1), .val (.int p2)] [(.int p2), (.ref fa), (.int x1)])) rfl rfl (hb hby d4_13) t k) ?_
  show Go p e below T2 (mkF m 14 #[.val (.ref a1), .val (.int p2)] [(.int x0), (.int x1)]) _
  refine Go.by (fun t k => XS.isub X2.here hx rfl (hb hby d4_14) rfl k) ?_
  show Go p e below T2 (mkF m 15 #[.val (.ref a1), .val (.int p2)] [(.int (x1 - x0))]) _
  obtain ⟨fs, hr, hrun, hended, hW, hsame⟩ := X2.leave (v := some (.int (x1 - x0))) (fun h => by rw [Bd.returns] at h; cases h)
  refine Go.done (retI X2 hx Bd.returns (hb hby d4_15) hr) hrun hended ⟨_, _, rfl, ?_, ⟨_, rfl⟩, hW, hsame.mono (by decide) (by decide)⟩
  show Q4 Z a1 p2 fa cl x1 x0 h0 n0 _ T2.heap _
  rw [e2]
  exact ⟨rfl, N0, rfl⟩
theorem own_tot (a b c d : Int32) : ¬ (((a &&& (3 : Int32)) + (b &&& (3 : Int32))) + (c &&& (3 : Int32))) + (d &&& (3 : Int32)) < 0 ∧ ((((a &&& (3 : Int32)) + (b &&& (3 : Int32))) + (c &&& (3 : Int32))) + (d &&& (3 : Int32))).toNatClampNeg ≤ 12 := by
  have e1 := Jvm.Kit.i32_mask a 3 (k := 2) (by decide) (by decide)
  have e2 := Jvm.Kit.i32_mask b 3 (k := 2) (by decide) (by decide)
  have e3 := Jvm.Kit.i32_mask c 3 (k := 2) (by decide) (by decide)
  have e4 := Jvm.Kit.i32_mask d 3 (k := 2) (by decide) (by decide)
  generalize (a &&& (3 : Int32)) = x at *
  generalize (b &&& (3 : Int32)) = y at *
  generalize (c &&& (3 : Int32)) = z at *
  generalize (d &&& (3 : Int32)) = w at *
  have q1 := Jvm.Kit.i32_add (p := x) (q := y) (by omega) (by omega)
  have q2 := Jvm.Kit.i32_add (p := x + y) (q := z) (by omega) (by omega)
  have q3 := Jvm.Kit.i32_add (p := x + y + z) (q := w) (by omega) (by omega)
  have o : (0 : Int32).toInt = 0 := rfl
  refine ⟨by rw [Int32.lt_iff_toInt_lt]; omega, ?_⟩
  show (x + y + z + w).toInt.toNat ≤ 12
  omega
theorem own_acl (a b : Int32) : (a + b) - a = b := by rw [Int32.add_comm, Int32.add_sub_cancel]
theorem pd_0 : parseMethodDescriptor "(I)[I" = some ⟨[.int], some (.array .int)⟩ := by decide +kernel
theorem pd_1 : parseMethodDescriptor "([I[I[I)V" = some ⟨[(.array .int), (.array .int), (.array .int)], none⟩ := by decide +kernel
theorem pd_2 : parseMethodDescriptor "(I)I" = some ⟨[.int], some .int⟩ := by decide +kernel
theorem ef_0 (m : MethodId) (x0 : Int32) (x1 : Int32) (x2 : Int32) (x3 : Int32) : entryFrame m #[(.int x0), (.int x1), (.int x2), (.int x3)] maxLocals = mkF m 0 #[.val (.int x0), .val (.int x1), .val (.int x2), .val (.int x3), .unset, .unset, .unset, .unset, .unset, .unset, .unset, .unset, .unset] [] := by first | (simp [entryFrame, mkF, argsToLocals, Value.category, maxLocals]; done) | rfl
def Q0 (Z : State) (p1 : Int32) (p2 : Int32) (p3 : Int32) (p4 : Int32) (h0 : Heap) (n0 : Nat) (v : Option Value) (h : Heap) (L : List Loc) : Prop := v = some (.int 1) ∧ Fr n0 L
set_option maxRecDepth 65536 in
set_option maxHeartbeats 40000000 in
theorem rm0 (l : Launch) (Z : State) (a0 : Array Value) (hw : ∀ d ∈ tables_1, d.before a0 Z = true) (ws : List Jvm.Cond) (p1 : Int32) (p2 : Int32) (p3 : Int32) (p4 : Int32) (h0 : Heap) (n0 : Nat) (Z0 : n0 ≤ h0.size) :
    MetFree l x (head1 (Jvm.Cond.code x code maxLocals ret :: ws) room_1) (fun a U => a = #[(.int p1), (.int p2), (.int p3), (.int p4)] ∧ Z.Warmed39 U.vm ∧ U.heap = h0) (fun _ _ _ _ _ => True) (fun _ U o U' => ∃ v L, o = .returned v ∧ Q0 Z p1 p2 p3 p4 h0 n0 v U'.heap L ∧ FrameEnd U o U' L room_1.cells room_1.slots) := by
  refine MetFree.of_bodySF (plainFor_of_name pn_0) hisR ?_
  intro p e s m args below meth c s₁ Bd hml0 hP hK
  obtain ⟨rfl, hZ, hh⟩ := hP
  have hx := Bd.exec
  have hby := Bd.bytes
  have hml : c.maxLocals = 13 := hml0
  have hown : s.vm.findClass "com/example/angerona/angerona/core/TransitionTableDegreePinLaw" = some m.cls := findClass_of_methodNamed Bd.named
  have hnm := (name_of_methodNamed Bd.named Bd.method).1
  have X0 : Stand p l e room_1 s m #[(.int p1), (.int p2), (.int p3), (.int p4)] below meth c s₁ [] 0 0 := Stand.of_body Bd
  have e0 : s₁.heap = h0 := by rw [← hh, Bd.state]; rfl
  have N0 := Fr.nil n0
  refine Go.start (ef_0 m p1 p2 p3 p4) ?_
  show Go p e below s₁ (mkF m 0 #[.val (.int p1), .val (.int p2), .val (.int p3), .val (.int p4), .unset, .unset, .unset, .unset, .unset, .unset, .unset, .unset, .unset] []) _
  refine Go.by (fun t k => XS.iloadN X0.here hx rfl (hb hby at_0) rfl k) ?_
  show Go p e below s₁ (mkF m 1 #[.val (.int p1), .val (.int p2), .val (.int p3), .val (.int p4), .unset, .unset, .unset, .unset, .unset, .unset, .unset, .unset, .unset] [(.int p1)]) _
  refine Go.by (fun t k => XS.iconst X0.here hx rfl (hb hby at_1) k) ?_
  show Go p e below s₁ (mkF m 2 #[.val (.int p1), .val (.int p2), .val (.int p3), .val (.int p4), .unset, .unset, .unset, .unset, .unset, .unset, .unset, .unset, .unset] [(.int (3 : Int32)), (.int p1)]) _
  refine Go.by (fun t k => XS.iand X0.here hx rfl (hb hby at_2) rfl k) ?_
  show Go p e below s₁ (mkF m 3 #[.val (.int p1), .val (.int p2), .val (.int p3), .val (.int p4), .unset, .unset, .unset, .unset, .unset, .unset, .unset, .unset, .unset] [(.int (p1 &&& (3 : Int32)))]) _
  refine Go.by (fun t k => XS.istore X0.here hx rfl (hb hby at_3) rfl (l' := #[.val (.int p1), .val (.int p2), .val (.int p3), .val (.int p4), .val (.int (p1 &&& (3 : Int32))), .unset, .unset, .unset, .unset, .unset, .unset, .unset, .unset]) rfl k) ?_
  show Go p e below s₁ (mkF m 5 #[.val (.int p1), .val (.int p2), .val (.int p3), .val (.int p4), .val (.int (p1 &&& (3 : Int32))), .unset, .unset, .unset, .unset, .unset, .unset, .unset, .unset] []) _
  refine Go.by (fun t k => XS.iloadN X0.here hx rfl (hb hby at_5) rfl k) ?_
  show Go p e below s₁ (mkF m 6 #[.val (.int p1), .val (.int p2), .val (.int p3), .val (.int p4), .val (.int (p1 &&& (3 : Int32))), .unset, .unset, .unset, .unset, .unset, .unset, .unset, .unset] [(.int p2)]) _
  refine Go.by (fun t k => XS.iconst X0.here hx rfl (hb hby at_6) k) ?_
  show Go p e below s₁ (mkF m 7 #[.val (.int p1), .val (.int p2), .val (.int p3), .val (.int p4), .val (.int (p1 &&& (3 : Int32))), .unset, .unset, .unset, .unset, .unset, .unset, .unset, .unset] [(.int (3 : Int32)), (.int p2)]) _
  refine Go.by (fun t k => XS.iand X0.here hx rfl (hb hby at_7) rfl k) ?_
  show Go p e below s₁ (mkF m 8 #[.val (.int p1), .val (.int p2), .val (.int p3), .val (.int p4), .val (.int (p1 &&& (3 : Int32))), .unset, .unset, .unset, .unset, .unset, .unset, .unset, .unset] [(.int (p2 &&& (3 : Int32)))]) _
  refine Go.by (fun t k => XS.istore X0.here hx rfl (hb hby at_8) rfl (l' := #[.val (.int p1), .val (.int p2), .val (.int p3), .val (.int p4), .val (.int (p1 &&& (3 : Int32))), .val (.int (p2 &&& (3 : Int32))), .unset, .unset, .unset, .unset, .unset, .unset, .unset]) rfl k) ?_
  show Go p e below s₁ (mkF m 10 #[.val (.int p1), .val (.int p2), .val (.int p3), .val (.int p4), .val (.int (p1 &&& (3 : Int32))), .val (.int (p2 &&& (3 : Int32))), .unset, .unset, .unset, .unset, .unset, .unset, .unset] []) _
  refine Go.by (fun t k => XS.iloadN X0.here hx rfl (hb hby at_10) rfl k) ?_
  show Go p e below s₁ (mkF m 11 #[.val (.int p1), .val (.int p2), .val (.int p3), .val (.int p4), .val (.int (p1 &&& (3 : Int32))), .val (.int (p2 &&& (3 : Int32))), .unset, .unset, .unset, .unset, .unset, .unset, .unset] [(.int p3)]) _
  refine Go.by (fun t k => XS.iconst X0.here hx rfl (hb hby at_11) k) ?_
  show Go p e below s₁ (mkF m 12 #[.val (.int p1), .val (.int p2), .val (.int p3), .val (.int p4), .val (.int (p1 &&& (3 : Int32))), .val (.int (p2 &&& (3 : Int32))), .unset, .unset, .unset, .unset, .unset, .unset, .unset] [(.int (3 : Int32)), (.int p3)]) _
  refine Go.by (fun t k => XS.iand X0.here hx rfl (hb hby at_12) rfl k) ?_
  show Go p e below s₁ (mkF m 13 #[.val (.int p1), .val (.int p2), .val (.int p3), .val (.int p4), .val (.int (p1 &&& (3 : Int32))), .val (.int (p2 &&& (3 : Int32))), .unset, .unset, .unset, .unset, .unset, .unset, .unset] [(.int (p3 &&& (3 : Int32)))]) _
  refine Go.by (fun t k => XS.istore X0.here hx rfl (hb hby at_13) rfl (l' := #[.val (.int p1), .val (.int p2), .val (.int p3), .val (.int p4), .val (.int (p1 &&& (3 : Int32))), .val (.int (p2 &&& (3 : Int32))), .val (.int (p3 &&& (3 : Int32))), .unset, .unset, .unset, .unset, .unset, .unset]) rfl k) ?_
  show Go p e below s₁ (mkF m 15 #[.val (.int p1), .val (.int p2), .val (.int p3), .val (.int p4), .val (.int (p1 &&& (3 : Int32))), .val (.int (p2 &&& (3 : Int32))), .val (.int (p3 &&& (3 : Int32))), .unset, .unset, .unset, .unset, .unset, .unset] []) _
  refine Go.by (fun t k => XS.iloadN X0.here hx rfl (hb hby at_15) rfl k) ?_
  show Go p e below s₁ (mkF m 16 #[.val (.int p1), .val (.int p2), .val (.int p3), .val (.int p4), .val (.int (p1 &&& (3 : Int32))), .val (.int (p2 &&& (3 : Int32))), .val (.int (p3 &&& (3 : Int32))), .unset, .unset, .unset, .unset, .unset, .unset] [(.int p4)]) _
  refine Go.by (fun t k => XS.iconst X0.here hx rfl (hb hby at_16) k) ?_
  show Go p e below s₁ (mkF m 17 #[.val (.int p1), .val (.int p2), .val (.int p3), .val (.int p4), .val (.int (p1 &&& (3 : Int32))), .val (.int (p2 &&& (3 : Int32))), .val (.int (p3 &&& (3 : Int32))), .unset, .unset, .unset, .unset, .unset, .unset] [(.int (3 : Int32)), (.int p4)]) _
  refine Go.by (fun t k => XS.iand X0.here hx rfl (hb hby at_17) rfl k) ?_
  show Go p e below s₁ (mkF m 18 #[.val (.int p1), .val (.int p2), .val (.int p3), .val (.int p4), .val (.int (p1 &&& (3 : Int32))), .val (.int (p2 &&& (3 : Int32))), .val (.int (p3 &&& (3 : Int32))), .unset, .unset, .unset, .unset, .unset, .unset] [(.int (p4 &&& (3 : Int32)))]) _
  refine Go.by (fun t k => XS.istore X0.here hx rfl (hb hby at_18) rfl (l' := #[.val (.int p1), .val (.int p2), .val (.int p3), .val (.int p4), .val (.int (p1 &&& (3 : Int32))), .val (.int (p2 &&& (3 : Int32))), .val (.int (p3 &&& (3 : Int32))), .val (.int (p4 &&& (3 : Int32))), .unset, .unset, .unset, .unset, .unset]) rfl k) ?_
  show Go p e below s₁ (mkF m 20 #[.val (.int p1), .val (.int p2), .val (.int p3), .val (.int p4), .val (.int (p1 &&& (3 : Int32))), .val (.int (p2 &&& (3 : Int32))), .val (.int (p3 &&& (3 : Int32))), .val (.int (p4 &&& (3 : Int32))), .unset, .unset, .unset, .unset, .unset] []) _
  refine Go.by (fun t k => XS.iload X0.here hx rfl (hb hby at_20) rfl k) ?_
  show Go p e below s₁ (mkF m 22 #[.val (.int p1), .val (.int p2), .val (.int p3), .val (.int p4), .val (.int (p1 &&& (3 : Int32))), .val (.int (p2 &&& (3 : Int32))), .val (.int (p3 &&& (3 : Int32))), .val (.int (p4 &&& (3 : Int32))), .unset, .unset, .unset, .unset, .unset] [(.int (p1 &&& (3 : Int32)))]) _
  refine Go.by (fun t k => XS.iload X0.here hx rfl (hb hby at_22) rfl k) ?_
  show Go p e below s₁ (mkF m 24 #[.val (.int p1), .val (.int p2), .val (.int p3), .val (.int p4), .val (.int (p1 &&& (3 : Int32))), .val (.int (p2 &&& (3 : Int32))), .val (.int (p3 &&& (3 : Int32))), .val (.int (p4 &&& (3 : Int32))), .unset, .unset, .unset, .unset, .unset] [(.int (p2 &&& (3 : Int32))), (.int (p1 &&& (3 : Int32)))]) _
  refine Go.by (fun t k => XS.iadd X0.here hx rfl (hb hby at_24) rfl k) ?_
  show Go p e below s₁ (mkF m 25 #[.val (.int p1), .val (.int p2), .val (.int p3), .val (.int p4), .val (.int (p1 &&& (3 : Int32))), .val (.int (p2 &&& (3 : Int32))), .val (.int (p3 &&& (3 : Int32))), .val (.int (p4 &&& (3 : Int32))), .unset, .unset, .unset, .unset, .unset] [(.int ((p1 &&& (3 : Int32)) + (p2 &&& (3 : Int32))))]) _
  refine Go.by (fun t k => XS.iload X0.here hx rfl (hb hby at_25) rfl k) ?_
  show Go p e below s₁ (mkF m 27 #[.val (.int p1), .val (.int p2), .val (.int p3), .val (.int p4), .val (.int (p1 &&& (3 : Int32))), .val (.int (p2 &&& (3 : Int32))), .val (.int (p3 &&& (3 : Int32))), .val (.int (p4 &&& (3 : Int32))), .unset, .unset, .unset, .unset, .unset] [(.int (p3 &&& (3 : Int32))), (.int ((p1 &&& (3 : Int32)) + (p2 &&& (3 : Int32))))]) _
  refine Go.by (fun t k => XS.iadd X0.here hx rfl (hb hby at_27) rfl k) ?_
  show Go p e below s₁ (mkF m 28 #[.val (.int p1), .val (.int p2), .val (.int p3), .val (.int p4), .val (.int (p1 &&& (3 : Int32))), .val (.int (p2 &&& (3 : Int32))), .val (.int (p3 &&& (3 : Int32))), .val (.int (p4 &&& (3 : Int32))), .unset, .unset, .unset, .unset, .unset] [(.int (((p1 &&& (3 : Int32)) + (p2 &&& (3 : Int32))) + (p3 &&& (3 : Int32))))]) _
  refine Go.by (fun t k => XS.iload X0.here hx rfl (hb hby at_28) rfl k) ?_
  show Go p e below s₁ (mkF m 30 #[.val (.int p1), .val (.int p2), .val (.int p3), .val (.int p4), .val (.int (p1 &&& (3 : Int32))), .val (.int (p2 &&& (3 : Int32))), .val (.int (p3 &&& (3 : Int32))), .val (.int (p4 &&& (3 : Int32))), .unset, .unset, .unset, .unset, .unset] [(.int (p4 &&& (3 : Int32))), (.int (((p1 &&& (3 : Int32)) + (p2 &&& (3 : Int32))) + (p3 &&& (3 : Int32))))]) _
  refine Go.by (fun t k => XS.iadd X0.here hx rfl (hb hby at_30) rfl k) ?_
  show Go p e below s₁ (mkF m 31 #[.val (.int p1), .val (.int p2), .val (.int p3), .val (.int p4), .val (.int (p1 &&& (3 : Int32))), .val (.int (p2 &&& (3 : Int32))), .val (.int (p3 &&& (3 : Int32))), .val (.int (p4 &&& (3 : Int32))), .unset, .unset, .unset, .unset, .unset] [(.int ((((p1 &&& (3 : Int32)) + (p2 &&& (3 : Int32))) + (p3 &&& (3 : Int32))) + (p4 &&& (3 : Int32))))]) _
  refine Go.by (fun t k => XS.istore X0.here hx rfl (hb hby at_31) rfl (l' := #[.val (.int p1), .val (.int p2), .val (.int p3), .val (.int p4), .val (.int (p1 &&& (3 : Int32))), .val (.int (p2 &&& (3 : Int32))), .val (.int (p3 &&& (3 : Int32))), .val (.int (p4 &&& (3 : Int32))), .val (.int ((((p1 &&& (3 : Int32)) + (p2 &&& (3 : Int32))) + (p3 &&& (3 : Int32))) + (p4 &&& (3 : Int32)))), .unset, .unset, .unset, .unset]) rfl k) ?_
  show Go p e below s₁ (mkF m 33 #[.val (.int p1), .val (.int p2), .val (.int p3), .val (.int p4), .val (.int (p1 &&& (3 : Int32))), .val (.int (p2 &&& (3 : Int32))), .val (.int (p3 &&& (3 : Int32))), .val (.int (p4 &&& (3 : Int32))), .val (.int ((((p1 &&& (3 : Int32)) + (p2 &&& (3 : Int32))) + (p3 &&& (3 : Int32))) + (p4 &&& (3 : Int32)))), .unset, .unset, .unset, .unset] []) _
  refine Go.by (fun t k => XS.iconst X0.here hx rfl (hb hby at_33) k) ?_
  show Go p e below s₁ (mkF m 34 #[.val (.int p1), .val (.int p2), .val (.int p3), .val (.int p4), .val (.int (p1 &&& (3 : Int32))), .val (.int (p2 &&& (3 : Int32))), .val (.int (p3 &&& (3 : Int32))), .val (.int (p4 &&& (3 : Int32))), .val (.int ((((p1 &&& (3 : Int32)) + (p2 &&& (3 : Int32))) + (p3 &&& (3 : Int32))) + (p4 &&& (3 : Int32)))), .unset, .unset, .unset, .unset] [(.int (5 : Int32))]) _
  obtain ⟨T1, h1, k1, X1, e1, E1, A1, st1⟩ := newP X0 hx hZ (hw _ (List.mem_of_getElem? (i := 0) rfl)) e0 (g := (mkF m 34 #[.val (.int p1), .val (.int p2), .val (.int p3), .val (.int p4), .val (.int (p1 &&& (3 : Int32))), .val (.int (p2 &&& (3 : Int32))), .val (.int (p3 &&& (3 : Int32))), .val (.int (p4 &&& (3 : Int32))), .val (.int ((((p1 &&& (3 : Int32)) + (p2 &&& (3 : Int32))) + (p3 &&& (3 : Int32))) + (p4 &&& (3 : Int32)))), .unset, .unset, .unset, .unset] [(.int (5 : Int32))])) rfl (hb hby at_34) rfl (by decide) (cap := 5) (by decide) (by decide) (by decide) (by decide)
  obtain ⟨b1, g1⟩ : ∃ z, z = h0.size := ⟨_, rfl⟩
  rw [← g1] at A1 st1
  have gn1 : n0 ≤ b1 := Nat.le_trans Z0 (Nat.le_of_eq g1.symm)
  have Z1 : n0 ≤ h1.size := Nat.le_trans Z0 E1.1
  have V1 := Arv.new A1 (by decide)
  have V1p : Arv Z h1 b1 k1 .int (5 : Int32) [(.int (0 : Int32)), (.int (0 : Int32)), (.int (0 : Int32)), (.int (0 : Int32)), (.int (0 : Int32))] (.int (0 : Int32)) := V1.pad (pad_rep [] (.int (0 : Int32)) 5)
  refine Go.by st1 ?_
  show Go p e below T1 (mkF m 36 #[.val (.int p1), .val (.int p2), .val (.int p3), .val (.int p4), .val (.int (p1 &&& (3 : Int32))), .val (.int (p2 &&& (3 : Int32))), .val (.int (p3 &&& (3 : Int32))), .val (.int (p4 &&& (3 : Int32))), .val (.int ((((p1 &&& (3 : Int32)) + (p2 &&& (3 : Int32))) + (p3 &&& (3 : Int32))) + (p4 &&& (3 : Int32)))), .unset, .unset, .unset, .unset] [(.ref b1)]) _
  refine Go.by (fun t k => XS.astore X1.here hx rfl (hb hby at_36) rfl rfl (l' := #[.val (.int p1), .val (.int p2), .val (.int p3), .val (.int p4), .val (.int (p1 &&& (3 : Int32))), .val (.int (p2 &&& (3 : Int32))), .val (.int (p3 &&& (3 : Int32))), .val (.int (p4 &&& (3 : Int32))), .val (.int ((((p1 &&& (3 : Int32)) + (p2 &&& (3 : Int32))) + (p3 &&& (3 : Int32))) + (p4 &&& (3 : Int32)))), .val (.ref b1), .unset, .unset, .unset]) rfl k) ?_
  show Go p e below T1 (mkF m 38 #[.val (.int p1), .val (.int p2), .val (.int p3), .val (.int p4), .val (.int (p1 &&& (3 : Int32))), .val (.int (p2 &&& (3 : Int32))), .val (.int (p3 &&& (3 : Int32))), .val (.int (p4 &&& (3 : Int32))), .val (.int ((((p1 &&& (3 : Int32)) + (p2 &&& (3 : Int32))) + (p3 &&& (3 : Int32))) + (p4 &&& (3 : Int32)))), .val (.ref b1), .unset, .unset, .unset] []) _
  refine Go.by (fun t k => XS.aload X1.here hx rfl (hb hby at_38) rfl rfl k) ?_
  show Go p e below T1 (mkF m 40 #[.val (.int p1), .val (.int p2), .val (.int p3), .val (.int p4), .val (.int (p1 &&& (3 : Int32))), .val (.int (p2 &&& (3 : Int32))), .val (.int (p3 &&& (3 : Int32))), .val (.int (p4 &&& (3 : Int32))), .val (.int ((((p1 &&& (3 : Int32)) + (p2 &&& (3 : Int32))) + (p3 &&& (3 : Int32))) + (p4 &&& (3 : Int32)))), .val (.ref b1), .unset, .unset, .unset] [(.ref b1)]) _
  refine Go.by (fun t k => XS.iconst X1.here hx rfl (hb hby at_40) k) ?_
  show Go p e below T1 (mkF m 41 #[.val (.int p1), .val (.int p2), .val (.int p3), .val (.int p4), .val (.int (p1 &&& (3 : Int32))), .val (.int (p2 &&& (3 : Int32))), .val (.int (p3 &&& (3 : Int32))), .val (.int (p4 &&& (3 : Int32))), .val (.int ((((p1 &&& (3 : Int32)) + (p2 &&& (3 : Int32))) + (p3 &&& (3 : Int32))) + (p4 &&& (3 : Int32)))), .val (.ref b1), .unset, .unset, .unset] [(.int (0 : Int32)), (.ref b1)]) _
  refine Go.by (fun t k => XS.iconst X1.here hx rfl (hb hby at_41) k) ?_
  show Go p e below T1 (mkF m 42 #[.val (.int p1), .val (.int p2), .val (.int p3), .val (.int p4), .val (.int (p1 &&& (3 : Int32))), .val (.int (p2 &&& (3 : Int32))), .val (.int (p3 &&& (3 : Int32))), .val (.int (p4 &&& (3 : Int32))), .val (.int ((((p1 &&& (3 : Int32)) + (p2 &&& (3 : Int32))) + (p3 &&& (3 : Int32))) + (p4 &&& (3 : Int32)))), .val (.ref b1), .unset, .unset, .unset] [(.int (0 : Int32)), (.int (0 : Int32)), (.ref b1)]) _
  obtain ⟨cl2, Ar2, q2, S2, M2, H2, U2⟩ := V1p
  have hin2 := inb_of S2 (j := (0 : Int32)) ⟨by decide, by decide⟩
  obtain ⟨T2, h2, X2, e2, W2, st2⟩ := stI X1 hx hZ e1 Ar2 (j := (0 : Int32)) hin2 (g := (mkF m 42 #[.val (.int p1), .val (.int p2), .val (.int p3), .val (.int p4), .val (.int (p1 &&& (3 : Int32))), .val (.int (p2 &&& (3 : Int32))), .val (.int (p3 &&& (3 : Int32))), .val (.int (p4 &&& (3 : Int32))), .val (.int ((((p1 &&& (3 : Int32)) + (p2 &&& (3 : Int32))) + (p3 &&& (3 : Int32))) + (p4 &&& (3 : Int32)))), .val (.ref b1), .unset, .unset, .unset] [(.int (0 : Int32)), (.int (0 : Int32)), (.ref b1)])) rfl rfl (hb hby at_42)
  have V2 : Arv Z h2 b1 k1 .int (5 : Int32) [(.int (0 : Int32)), (.int (0 : Int32)), (.int (0 : Int32)), (.int (0 : Int32)), (.int (0 : Int32))] (.int (0 : Int32)) := Arv.set Ar2 q2 S2 M2 H2 U2 rfl W2 0 rfl (Nat.le_of_ble_eq_true rfl)
  have N2 := Fr.snoc X2 N0 gn1
  have Z2 : n0 ≤ h2.size := by rw [W2.size]; exact Z1
  refine Go.by st2 ?_
  show Go p e below T2 (mkF m 43 #[.val (.int p1), .val (.int p2), .val (.int p3), .val (.int p4), .val (.int (p1 &&& (3 : Int32))), .val (.int (p2 &&& (3 : Int32))), .val (.int (p3 &&& (3 : Int32))), .val (.int (p4 &&& (3 : Int32))), .val (.int ((((p1 &&& (3 : Int32)) + (p2 &&& (3 : Int32))) + (p3 &&& (3 : Int32))) + (p4 &&& (3 : Int32)))), .val (.ref b1), .unset, .unset, .unset] []) _
  refine Go.by (fun t k => XS.aload X2.here hx rfl (hb hby at_43) rfl rfl k) ?_
  show Go p e below T2 (mkF m 45 #[.val (.int p1), .val (.int p2), .val (.int p3), .val (.int p4), .val (.int (p1 &&& (3 : Int32))), .val (.int (p2 &&& (3 : Int32))), .val (.int (p3 &&& (3 : Int32))), .val (.int (p4 &&& (3 : Int32))), .val (.int ((((p1 &&& (3 : Int32)) + (p2 &&& (3 : Int32))) + (p3 &&& (3 : Int32))) + (p4 &&& (3 : Int32)))), .val (.ref b1), .unset, .unset, .unset] [(.ref b1)]) _
  refine Go.by (fun t k => XS.iconst X2.here hx rfl (hb hby at_45) k) ?_
  show Go p e below T2 (mkF m 46 #[.val (.int p1), .val (.int p2), .val (.int p3), .val (.int p4), .val (.int (p1 &&& (3 : Int32))), .val (.int (p2 &&& (3 : Int32))), .val (.int (p3 &&& (3 : Int32))), .val (.int (p4 &&& (3 : Int32))), .val (.int ((((p1 &&& (3 : Int32)) + (p2 &&& (3 : Int32))) + (p3 &&& (3 : Int32))) + (p4 &&& (3 : Int32)))), .val (.ref b1), .unset, .unset, .unset] [(.int (1 : Int32)), (.ref b1)]) _
  refine Go.by (fun t k => XS.iload X2.here hx rfl (hb hby at_46) rfl k) ?_
  show Go p e below T2 (mkF m 48 #[.val (.int p1), .val (.int p2), .val (.int p3), .val (.int p4), .val (.int (p1 &&& (3 : Int32))), .val (.int (p2 &&& (3 : Int32))), .val (.int (p3 &&& (3 : Int32))), .val (.int (p4 &&& (3 : Int32))), .val (.int ((((p1 &&& (3 : Int32)) + (p2 &&& (3 : Int32))) + (p3 &&& (3 : Int32))) + (p4 &&& (3 : Int32)))), .val (.ref b1), .unset, .unset, .unset] [(.int (p1 &&& (3 : Int32))), (.int (1 : Int32)), (.ref b1)]) _
  obtain ⟨cl3, Ar3, q3, S3, M3, H3, U3⟩ := V2
  have hin3 := inb_of S3 (j := (1 : Int32)) ⟨by decide, by decide⟩
  obtain ⟨T3, h3, X3, e3, W3, st3⟩ := stI X2 hx hZ e2 Ar3 (j := (1 : Int32)) hin3 (g := (mkF m 48 #[.val (.int p1), .val (.int p2), .val (.int p3), .val (.int p4), .val (.int (p1 &&& (3 : Int32))), .val (.int (p2 &&& (3 : Int32))), .val (.int (p3 &&& (3 : Int32))), .val (.int (p4 &&& (3 : Int32))), .val (.int ((((p1 &&& (3 : Int32)) + (p2 &&& (3 : Int32))) + (p3 &&& (3 : Int32))) + (p4 &&& (3 : Int32)))), .val (.ref b1), .unset, .unset, .unset] [(.int (p1 &&& (3 : Int32))), (.int (1 : Int32)), (.ref b1)])) rfl rfl (hb hby at_48)
  have V3 : Arv Z h3 b1 k1 .int (5 : Int32) [(.int (0 : Int32)), (.int (p1 &&& (3 : Int32))), (.int (0 : Int32)), (.int (0 : Int32)), (.int (0 : Int32))] (.int (0 : Int32)) := Arv.set Ar3 q3 S3 M3 H3 U3 rfl W3 1 rfl (Nat.le_of_ble_eq_true rfl)
  have N3 := Fr.snoc X3 N2 gn1
  have Z3 : n0 ≤ h3.size := by rw [W3.size]; exact Z2
  refine Go.by st3 ?_
  show Go p e below T3 (mkF m 49 #[.val (.int p1), .val (.int p2), .val (.int p3), .val (.int p4), .val (.int (p1 &&& (3 : Int32))), .val (.int (p2 &&& (3 : Int32))), .val (.int (p3 &&& (3 : Int32))), .val (.int (p4 &&& (3 : Int32))), .val (.int ((((p1 &&& (3 : Int32)) + (p2 &&& (3 : Int32))) + (p3 &&& (3 : Int32))) + (p4 &&& (3 : Int32)))), .val (.ref b1), .unset, .unset, .unset] []) _
  refine Go.by (fun t k => XS.aload X3.here hx rfl (hb hby at_49) rfl rfl k) ?_
  show Go p e below T3 (mkF m 51 #[.val (.int p1), .val (.int p2), .val (.int p3), .val (.int p4), .val (.int (p1 &&& (3 : Int32))), .val (.int (p2 &&& (3 : Int32))), .val (.int (p3 &&& (3 : Int32))), .val (.int (p4 &&& (3 : Int32))), .val (.int ((((p1 &&& (3 : Int32)) + (p2 &&& (3 : Int32))) + (p3 &&& (3 : Int32))) + (p4 &&& (3 : Int32)))), .val (.ref b1), .unset, .unset, .unset] [(.ref b1)]) _
  refine Go.by (fun t k => XS.iconst X3.here hx rfl (hb hby at_51) k) ?_
  show Go p e below T3 (mkF m 52 #[.val (.int p1), .val (.int p2), .val (.int p3), .val (.int p4), .val (.int (p1 &&& (3 : Int32))), .val (.int (p2 &&& (3 : Int32))), .val (.int (p3 &&& (3 : Int32))), .val (.int (p4 &&& (3 : Int32))), .val (.int ((((p1 &&& (3 : Int32)) + (p2 &&& (3 : Int32))) + (p3 &&& (3 : Int32))) + (p4 &&& (3 : Int32)))), .val (.ref b1), .unset, .unset, .unset] [(.int (2 : Int32)), (.ref b1)]) _
  refine Go.by (fun t k => XS.iload X3.here hx rfl (hb hby at_52) rfl k) ?_
  show Go p e below T3 (mkF m 54 #[.val (.int p1), .val (.int p2), .val (.int p3), .val (.int p4), .val (.int (p1 &&& (3 : Int32))), .val (.int (p2 &&& (3 : Int32))), .val (.int (p3 &&& (3 : Int32))), .val (.int (p4 &&& (3 : Int32))), .val (.int ((((p1 &&& (3 : Int32)) + (p2 &&& (3 : Int32))) + (p3 &&& (3 : Int32))) + (p4 &&& (3 : Int32)))), .val (.ref b1), .unset, .unset, .unset] [(.int (p1 &&& (3 : Int32))), (.int (2 : Int32)), (.ref b1)]) _
  refine Go.by (fun t k => XS.iload X3.here hx rfl (hb hby at_54) rfl k) ?_
  show Go p e below T3 (mkF m 56 #[.val (.int p1), .val (.int p2), .val (.int p3), .val (.int p4), .val (.int (p1 &&& (3 : Int32))), .val (.int (p2 &&& (3 : Int32))), .val (.int (p3 &&& (3 : Int32))), .val (.int (p4 &&& (3 : Int32))), .val (.int ((((p1 &&& (3 : Int32)) + (p2 &&& (3 : Int32))) + (p3 &&& (3 : Int32))) + (p4 &&& (3 : Int32)))), .val (.ref b1), .unset, .unset, .unset] [(.int (p2 &&& (3 : Int32))), (.int (p1 &&& (3 : Int32))), (.int (2 : Int32)), (.ref b1)]) _
  refine Go.by (fun t k => XS.iadd X3.here hx rfl (hb hby at_56) rfl k) ?_
  show Go p e below T3 (mkF m 57 #[.val (.int p1), .val (.int p2), .val (.int p3), .val (.int p4), .val (.int (p1 &&& (3 : Int32))), .val (.int (p2 &&& (3 : Int32))), .val (.int (p3 &&& (3 : Int32))), .val (.int (p4 &&& (3 : Int32))), .val (.int ((((p1 &&& (3 : Int32)) + (p2 &&& (3 : Int32))) + (p3 &&& (3 : Int32))) + (p4 &&& (3 : Int32)))), .val (.ref b1), .unset, .unset, .unset] [(.int ((p1 &&& (3 : Int32)) + (p2 &&& (3 : Int32)))), (.int (2 : Int32)), (.ref b1)]) _
  obtain ⟨cl4, Ar4, q4, S4, M4, H4, U4⟩ := V3
  have hin4 := inb_of S4 (j := (2 : Int32)) ⟨by decide, by decide⟩
  obtain ⟨T4, h4, X4, e4, W4, st4⟩ := stI X3 hx hZ e3 Ar4 (j := (2 : Int32)) hin4 (g := (mkF m 57 #[.val (.int p1), .val (.int p2), .val (.int p3), .val (.int p4), .val (.int (p1 &&& (3 : Int32))), .val (.int (p2 &&& (3 : Int32))), .val (.int (p3 &&& (3 : Int32))), .val (.int (p4 &&& (3 : Int32))), .val (.int ((((p1 &&& (3 : Int32)) + (p2 &&& (3 : Int32))) + (p3 &&& (3 : Int32))) + (p4 &&& (3 : Int32)))), .val (.ref b1), .unset, .unset, .unset] [(.int ((p1 &&& (3 : Int32)) + (p2 &&& (3 : Int32)))), (.int (2 : Int32)), (.ref b1)])) rfl rfl (hb hby at_57)
  have V4 : Arv Z h4 b1 k1 .int (5 : Int32) [(.int (0 : Int32)), (.int (p1 &&& (3 : Int32))), (.int ((p1 &&& (3 : Int32)) + (p2 &&& (3 : Int32)))), (.int (0 : Int32)), (.int (0 : Int32))] (.int (0 : Int32)) := Arv.set Ar4 q4 S4 M4 H4 U4 rfl W4 2 rfl (Nat.le_of_ble_eq_true rfl)
  have N4 := Fr.snoc X4 N3 gn1
  have Z4 : n0 ≤ h4.size := by rw [W4.size]; exact Z3
  refine Go.by st4 ?_
  show Go p e below T4 (mkF m 58 #[.val (.int p1), .val (.int p2), .val (.int p3), .val (.int p4), .val (.int (p1 &&& (3 : Int32))), .val (.int (p2 &&& (3 : Int32))), .val (.int (p3 &&& (3 : Int32))), .val (.int (p4 &&& (3 : Int32))), .val (.int ((((p1 &&& (3 : Int32)) + (p2 &&& (3 : Int32))) + (p3 &&& (3 : Int32))) + (p4 &&& (3 : Int32)))), .val (.ref b1), .unset, .unset, .unset] []) _
  refine Go.by (fun t k => XS.aload X4.here hx rfl (hb hby at_58) rfl rfl k) ?_
  show Go p e below T4 (mkF m 60 #[.val (.int p1), .val (.int p2), .val (.int p3), .val (.int p4), .val (.int (p1 &&& (3 : Int32))), .val (.int (p2 &&& (3 : Int32))), .val (.int (p3 &&& (3 : Int32))), .val (.int (p4 &&& (3 : Int32))), .val (.int ((((p1 &&& (3 : Int32)) + (p2 &&& (3 : Int32))) + (p3 &&& (3 : Int32))) + (p4 &&& (3 : Int32)))), .val (.ref b1), .unset, .unset, .unset] [(.ref b1)]) _
  refine Go.by (fun t k => XS.iconst X4.here hx rfl (hb hby at_60) k) ?_
  show Go p e below T4 (mkF m 61 #[.val (.int p1), .val (.int p2), .val (.int p3), .val (.int p4), .val (.int (p1 &&& (3 : Int32))), .val (.int (p2 &&& (3 : Int32))), .val (.int (p3 &&& (3 : Int32))), .val (.int (p4 &&& (3 : Int32))), .val (.int ((((p1 &&& (3 : Int32)) + (p2 &&& (3 : Int32))) + (p3 &&& (3 : Int32))) + (p4 &&& (3 : Int32)))), .val (.ref b1), .unset, .unset, .unset] [(.int (3 : Int32)), (.ref b1)]) _
  refine Go.by (fun t k => XS.iload X4.here hx rfl (hb hby at_61) rfl k) ?_
  show Go p e below T4 (mkF m 63 #[.val (.int p1), .val (.int p2), .val (.int p3), .val (.int p4), .val (.int (p1 &&& (3 : Int32))), .val (.int (p2 &&& (3 : Int32))), .val (.int (p3 &&& (3 : Int32))), .val (.int (p4 &&& (3 : Int32))), .val (.int ((((p1 &&& (3 : Int32)) + (p2 &&& (3 : Int32))) + (p3 &&& (3 : Int32))) + (p4 &&& (3 : Int32)))), .val (.ref b1), .unset, .unset, .unset] [(.int (p1 &&& (3 : Int32))), (.int (3 : Int32)), (.ref b1)]) _
  refine Go.by (fun t k => XS.iload X4.here hx rfl (hb hby at_63) rfl k) ?_
  show Go p e below T4 (mkF m 65 #[.val (.int p1), .val (.int p2), .val (.int p3), .val (.int p4), .val (.int (p1 &&& (3 : Int32))), .val (.int (p2 &&& (3 : Int32))), .val (.int (p3 &&& (3 : Int32))), .val (.int (p4 &&& (3 : Int32))), .val (.int ((((p1 &&& (3 : Int32)) + (p2 &&& (3 : Int32))) + (p3 &&& (3 : Int32))) + (p4 &&& (3 : Int32)))), .val (.ref b1), .unset, .unset, .unset] [(.int (p2 &&& (3 : Int32))), (.int (p1 &&& (3 : Int32))), (.int (3 : Int32)), (.ref b1)]) _
  refine Go.by (fun t k => XS.iadd X4.here hx rfl (hb hby at_65) rfl k) ?_
  show Go p e below T4 (mkF m 66 #[.val (.int p1), .val (.int p2), .val (.int p3), .val (.int p4), .val (.int (p1 &&& (3 : Int32))), .val (.int (p2 &&& (3 : Int32))), .val (.int (p3 &&& (3 : Int32))), .val (.int (p4 &&& (3 : Int32))), .val (.int ((((p1 &&& (3 : Int32)) + (p2 &&& (3 : Int32))) + (p3 &&& (3 : Int32))) + (p4 &&& (3 : Int32)))), .val (.ref b1), .unset, .unset, .unset] [(.int ((p1 &&& (3 : Int32)) + (p2 &&& (3 : Int32)))), (.int (3 : Int32)), (.ref b1)]) _
  refine Go.by (fun t k => XS.iload X4.here hx rfl (hb hby at_66) rfl k) ?_
  show Go p e below T4 (mkF m 68 #[.val (.int p1), .val (.int p2), .val (.int p3), .val (.int p4), .val (.int (p1 &&& (3 : Int32))), .val (.int (p2 &&& (3 : Int32))), .val (.int (p3 &&& (3 : Int32))), .val (.int (p4 &&& (3 : Int32))), .val (.int ((((p1 &&& (3 : Int32)) + (p2 &&& (3 : Int32))) + (p3 &&& (3 : Int32))) + (p4 &&& (3 : Int32)))), .val (.ref b1), .unset, .unset, .unset] [(.int (p3 &&& (3 : Int32))), (.int ((p1 &&& (3 : Int32)) + (p2 &&& (3 : Int32)))), (.int (3 : Int32)), (.ref b1)]) _
  refine Go.by (fun t k => XS.iadd X4.here hx rfl (hb hby at_68) rfl k) ?_
  show Go p e below T4 (mkF m 69 #[.val (.int p1), .val (.int p2), .val (.int p3), .val (.int p4), .val (.int (p1 &&& (3 : Int32))), .val (.int (p2 &&& (3 : Int32))), .val (.int (p3 &&& (3 : Int32))), .val (.int (p4 &&& (3 : Int32))), .val (.int ((((p1 &&& (3 : Int32)) + (p2 &&& (3 : Int32))) + (p3 &&& (3 : Int32))) + (p4 &&& (3 : Int32)))), .val (.ref b1), .unset, .unset, .unset] [(.int (((p1 &&& (3 : Int32)) + (p2 &&& (3 : Int32))) + (p3 &&& (3 : Int32)))), (.int (3 : Int32)), (.ref b1)]) _
  obtain ⟨cl5, Ar5, q5, S5, M5, H5, U5⟩ := V4
  have hin5 := inb_of S5 (j := (3 : Int32)) ⟨by decide, by decide⟩
  obtain ⟨T5, h5, X5, e5, W5, st5⟩ := stI X4 hx hZ e4 Ar5 (j := (3 : Int32)) hin5 (g := (mkF m 69 #[.val (.int p1), .val (.int p2), .val (.int p3), .val (.int p4), .val (.int (p1 &&& (3 : Int32))), .val (.int (p2 &&& (3 : Int32))), .val (.int (p3 &&& (3 : Int32))), .val (.int (p4 &&& (3 : Int32))), .val (.int ((((p1 &&& (3 : Int32)) + (p2 &&& (3 : Int32))) + (p3 &&& (3 : Int32))) + (p4 &&& (3 : Int32)))), .val (.ref b1), .unset, .unset, .unset] [(.int (((p1 &&& (3 : Int32)) + (p2 &&& (3 : Int32))) + (p3 &&& (3 : Int32)))), (.int (3 : Int32)), (.ref b1)])) rfl rfl (hb hby at_69)
  have V5 : Arv Z h5 b1 k1 .int (5 : Int32) [(.int (0 : Int32)), (.int (p1 &&& (3 : Int32))), (.int ((p1 &&& (3 : Int32)) + (p2 &&& (3 : Int32)))), (.int (((p1 &&& (3 : Int32)) + (p2 &&& (3 : Int32))) + (p3 &&& (3 : Int32)))), (.int (0 : Int32))] (.int (0 : Int32)) := Arv.set Ar5 q5 S5 M5 H5 U5 rfl W5 3 rfl (Nat.le_of_ble_eq_true rfl)
  have N5 := Fr.snoc X5 N4 gn1
  have Z5 : n0 ≤ h5.size := by rw [W5.size]; exact Z4
  refine Go.by st5 ?_
  show Go p e below T5 (mkF m 70 #[.val (.int p1), .val (.int p2), .val (.int p3), .val (.int p4), .val (.int (p1 &&& (3 : Int32))), .val (.int (p2 &&& (3 : Int32))), .val (.int (p3 &&& (3 : Int32))), .val (.int (p4 &&& (3 : Int32))), .val (.int ((((p1 &&& (3 : Int32)) + (p2 &&& (3 : Int32))) + (p3 &&& (3 : Int32))) + (p4 &&& (3 : Int32)))), .val (.ref b1), .unset, .unset, .unset] []) _
  refine Go.by (fun t k => XS.aload X5.here hx rfl (hb hby at_70) rfl rfl k) ?_
  show Go p e below T5 (mkF m 72 #[.val (.int p1), .val (.int p2), .val (.int p3), .val (.int p4), .val (.int (p1 &&& (3 : Int32))), .val (.int (p2 &&& (3 : Int32))), .val (.int (p3 &&& (3 : Int32))), .val (.int (p4 &&& (3 : Int32))), .val (.int ((((p1 &&& (3 : Int32)) + (p2 &&& (3 : Int32))) + (p3 &&& (3 : Int32))) + (p4 &&& (3 : Int32)))), .val (.ref b1), .unset, .unset, .unset] [(.ref b1)]) _
  refine Go.by (fun t k => XS.iconst X5.here hx rfl (hb hby at_72) k) ?_
  show Go p e below T5 (mkF m 73 #[.val (.int p1), .val (.int p2), .val (.int p3), .val (.int p4), .val (.int (p1 &&& (3 : Int32))), .val (.int (p2 &&& (3 : Int32))), .val (.int (p3 &&& (3 : Int32))), .val (.int (p4 &&& (3 : Int32))), .val (.int ((((p1 &&& (3 : Int32)) + (p2 &&& (3 : Int32))) + (p3 &&& (3 : Int32))) + (p4 &&& (3 : Int32)))), .val (.ref b1), .unset, .unset, .unset] [(.int (4 : Int32)), (.ref b1)]) _
  refine Go.by (fun t k => XS.iload X5.here hx rfl (hb hby at_73) rfl k) ?_
  show Go p e below T5 (mkF m 75 #[.val (.int p1), .val (.int p2), .val (.int p3), .val (.int p4), .val (.int (p1 &&& (3 : Int32))), .val (.int (p2 &&& (3 : Int32))), .val (.int (p3 &&& (3 : Int32))), .val (.int (p4 &&& (3 : Int32))), .val (.int ((((p1 &&& (3 : Int32)) + (p2 &&& (3 : Int32))) + (p3 &&& (3 : Int32))) + (p4 &&& (3 : Int32)))), .val (.ref b1), .unset, .unset, .unset] [(.int ((((p1 &&& (3 : Int32)) + (p2 &&& (3 : Int32))) + (p3 &&& (3 : Int32))) + (p4 &&& (3 : Int32)))), (.int (4 : Int32)), (.ref b1)]) _
  obtain ⟨cl6, Ar6, q6, S6, M6, H6, U6⟩ := V5
  have hin6 := inb_of S6 (j := (4 : Int32)) ⟨by decide, by decide⟩
  obtain ⟨T6, h6, X6, e6, W6, st6⟩ := stI X5 hx hZ e5 Ar6 (j := (4 : Int32)) hin6 (g := (mkF m 75 #[.val (.int p1), .val (.int p2), .val (.int p3), .val (.int p4), .val (.int (p1 &&& (3 : Int32))), .val (.int (p2 &&& (3 : Int32))), .val (.int (p3 &&& (3 : Int32))), .val (.int (p4 &&& (3 : Int32))), .val (.int ((((p1 &&& (3 : Int32)) + (p2 &&& (3 : Int32))) + (p3 &&& (3 : Int32))) + (p4 &&& (3 : Int32)))), .val (.ref b1), .unset, .unset, .unset] [(.int ((((p1 &&& (3 : Int32)) + (p2 &&& (3 : Int32))) + (p3 &&& (3 : Int32))) + (p4 &&& (3 : Int32)))), (.int (4 : Int32)), (.ref b1)])) rfl rfl (hb hby at_75)
  have V6 : Arv Z h6 b1 k1 .int (5 : Int32) [(.int (0 : Int32)), (.int (p1 &&& (3 : Int32))), (.int ((p1 &&& (3 : Int32)) + (p2 &&& (3 : Int32)))), (.int (((p1 &&& (3 : Int32)) + (p2 &&& (3 : Int32))) + (p3 &&& (3 : Int32)))), (.int ((((p1 &&& (3 : Int32)) + (p2 &&& (3 : Int32))) + (p3 &&& (3 : Int32))) + (p4 &&& (3 : Int32))))] (.int (0 : Int32)) := Arv.set Ar6 q6 S6 M6 H6 U6 rfl W6 4 rfl (Nat.le_of_ble_eq_true rfl)
  have N6 := Fr.snoc X6 N5 gn1
  have Z6 : n0 ≤ h6.size := by rw [W6.size]; exact Z5
  refine Go.by st6 ?_
  show Go p e below T6 (mkF m 76 #[.val (.int p1), .val (.int p2), .val (.int p3), .val (.int p4), .val (.int (p1 &&& (3 : Int32))), .val (.int (p2 &&& (3 : Int32))), .val (.int (p3 &&& (3 : Int32))), .val (.int (p4 &&& (3 : Int32))), .val (.int ((((p1 &&& (3 : Int32)) + (p2 &&& (3 : Int32))) + (p3 &&& (3 : Int32))) + (p4 &&& (3 : Int32)))), .val (.ref b1), .unset, .unset, .unset] []) _
  refine Go.by (fun t k => XS.iload X6.here hx rfl (hb hby at_76) rfl k) ?_
  show Go p e below T6 (mkF m 78 #[.val (.int p1), .val (.int p2), .val (.int p3), .val (.int p4), .val (.int (p1 &&& (3 : Int32))), .val (.int (p2 &&& (3 : Int32))), .val (.int (p3 &&& (3 : Int32))), .val (.int (p4 &&& (3 : Int32))), .val (.int ((((p1 &&& (3 : Int32)) + (p2 &&& (3 : Int32))) + (p3 &&& (3 : Int32))) + (p4 &&& (3 : Int32)))), .val (.ref b1), .unset, .unset, .unset] [(.int ((((p1 &&& (3 : Int32)) + (p2 &&& (3 : Int32))) + (p3 &&& (3 : Int32))) + (p4 &&& (3 : Int32))))]) _
  obtain ⟨_, _, ⟨T7, L7, k7, n7⟩, -, X7, ⟨Lc7, hQ7, l7, y7, z7⟩, st7⟩ := Jvm.LawKit.callS X6 hx (y := (⟨"com/example/angerona/angerona/core/TransitionTableDegreePinLaw", "rising", "(I)[I"⟩ : MethodName)) hown (mvT hZ (hw _ (List.mem_of_getElem? (i := 1) rfl))) (mvT hZ (hw _ (List.mem_of_getElem? (i := 2) rfl))) (mvT hZ (hw _ (List.mem_of_getElem? (i := 3) rfl))) (mvT hZ (hw _ (List.mem_of_getElem? (i := 4) rfl))) (by decide) (backOf (W := 0) (rm1 l Z a0 hw [] ((((p1 &&& (3 : Int32)) + (p2 &&& (3 : Int32))) + (p3 &&& (3 : Int32))) + (p4 &&& (3 : Int32))) h6 n0 Z6 (own_tot p1 p2 p3 p4).1 (own_tot p1 p2 p3 p4).2) hZ (hw _ (List.mem_of_getElem? (i := 4) rfl)) (hw _ (List.mem_of_getElem? (i := 3) rfl)) (by decide) (by decide)) (g := (mkF m 78 #[.val (.int p1), .val (.int p2), .val (.int p3), .val (.int p4), .val (.int (p1 &&& (3 : Int32))), .val (.int (p2 &&& (3 : Int32))), .val (.int (p3 &&& (3 : Int32))), .val (.int (p4 &&& (3 : Int32))), .val (.int ((((p1 &&& (3 : Int32)) + (p2 &&& (3 : Int32))) + (p3 &&& (3 : Int32))) + (p4 &&& (3 : Int32)))), .val (.ref b1), .unset, .unset, .unset] [(.int ((((p1 &&& (3 : Int32)) + (p2 &&& (3 : Int32))) + (p3 &&& (3 : Int32))) + (p4 &&& (3 : Int32))))])) rfl (by rw [hml]; rfl) (argsL := [(.int ((((p1 &&& (3 : Int32)) + (p2 &&& (3 : Int32))) + (p3 &&& (3 : Int32))) + (p4 &&& (3 : Int32))))]) (rest := []) (lenOf pd_0 rfl) rfl (by show 2 * 0 + _ ≤ _; exact Nat.le_of_eq rfl) (hb hby at_78) (fun _ _ => ⟨rfl, e6, (by decide : 1 + 1 ≤ _), (by decide : 5 + 12 ≤ _)⟩)
  dsimp only [Pt.U, Pt.locs, Pt.cells, Pt.slots] at X7 l7 y7 z7 st7 hQ7
  subst l7 y7 z7
  obtain ⟨rfl, N7q, K7q⟩ := hQ7
  have N7 := Fr.app N6 N7q
  have Z7 : n0 ≤ T7.heap.size := Nat.le_trans Z6 K7q.1
  refine Go.by st7 ?_
  show Go p e below T7 (mkF m 81 #[.val (.int p1), .val (.int p2), .val (.int p3), .val (.int p4), .val (.int (p1 &&& (3 : Int32))), .val (.int (p2 &&& (3 : Int32))), .val (.int (p3 &&& (3 : Int32))), .val (.int (p4 &&& (3 : Int32))), .val (.int ((((p1 &&& (3 : Int32)) + (p2 &&& (3 : Int32))) + (p3 &&& (3 : Int32))) + (p4 &&& (3 : Int32)))), .val (.ref b1), .unset, .unset, .unset] [(.ref h6.size)]) _
  refine Go.by (fun t k => XS.astore X7.here hx rfl (hb hby at_81) rfl rfl (l' := #[.val (.int p1), .val (.int p2), .val (.int p3), .val (.int p4), .val (.int (p1 &&& (3 : Int32))), .val (.int (p2 &&& (3 : Int32))), .val (.int (p3 &&& (3 : Int32))), .val (.int (p4 &&& (3 : Int32))), .val (.int ((((p1 &&& (3 : Int32)) + (p2 &&& (3 : Int32))) + (p3 &&& (3 : Int32))) + (p4 &&& (3 : Int32)))), .val (.ref b1), .val (.ref h6.size), .unset, .unset]) rfl k) ?_
  show Go p e below T7 (mkF m 83 #[.val (.int p1), .val (.int p2), .val (.int p3), .val (.int p4), .val (.int (p1 &&& (3 : Int32))), .val (.int (p2 &&& (3 : Int32))), .val (.int (p3 &&& (3 : Int32))), .val (.int (p4 &&& (3 : Int32))), .val (.int ((((p1 &&& (3 : Int32)) + (p2 &&& (3 : Int32))) + (p3 &&& (3 : Int32))) + (p4 &&& (3 : Int32)))), .val (.ref b1), .val (.ref h6.size), .unset, .unset] []) _
  refine Go.by (fun t k => XS.iload X7.here hx rfl (hb hby at_83) rfl k) ?_
  show Go p e below T7 (mkF m 85 #[.val (.int p1), .val (.int p2), .val (.int p3), .val (.int p4), .val (.int (p1 &&& (3 : Int32))), .val (.int (p2 &&& (3 : Int32))), .val (.int (p3 &&& (3 : Int32))), .val (.int (p4 &&& (3 : Int32))), .val (.int ((((p1 &&& (3 : Int32)) + (p2 &&& (3 : Int32))) + (p3 &&& (3 : Int32))) + (p4 &&& (3 : Int32)))), .val (.ref b1), .val (.ref h6.size), .unset, .unset] [(.int ((((p1 &&& (3 : Int32)) + (p2 &&& (3 : Int32))) + (p3 &&& (3 : Int32))) + (p4 &&& (3 : Int32))))]) _
  obtain ⟨T8, h8, k8, X8, e8, E8, A8, st8⟩ := newP X7 hx hZ (hw _ (List.mem_of_getElem? (i := 0) rfl)) rfl (g := (mkF m 85 #[.val (.int p1), .val (.int p2), .val (.int p3), .val (.int p4), .val (.int (p1 &&& (3 : Int32))), .val (.int (p2 &&& (3 : Int32))), .val (.int (p3 &&& (3 : Int32))), .val (.int (p4 &&& (3 : Int32))), .val (.int ((((p1 &&& (3 : Int32)) + (p2 &&& (3 : Int32))) + (p3 &&& (3 : Int32))) + (p4 &&& (3 : Int32)))), .val (.ref b1), .val (.ref h6.size), .unset, .unset] [(.int ((((p1 &&& (3 : Int32)) + (p2 &&& (3 : Int32))) + (p3 &&& (3 : Int32))) + (p4 &&& (3 : Int32))))])) rfl (hb hby at_85) rfl (own_tot p1 p2 p3 p4).1 (cap := 12) (own_tot p1 p2 p3 p4).2 (by decide) (by decide) (by decide)
  obtain ⟨b8, g8⟩ : ∃ z, z = T7.heap.size := ⟨_, rfl⟩
  rw [← g8] at A8 st8
  have gn8 : n0 ≤ b8 := Nat.le_trans Z7 (Nat.le_of_eq g8.symm)
  have fa9 := V6.keep K7q nin0
  have ne_b1_b8 : b1 ≠ b8 := Nat.ne_of_lt (Nat.lt_of_lt_of_le fa9.lt (Nat.le_of_eq g8.symm))
  have Z8 : n0 ≤ h8.size := Nat.le_trans Z7 E8.1
  have V8 := Arv.new A8 (own_tot p1 p2 p3 p4).1
  refine Go.by st8 ?_
  show Go p e below T8 (mkF m 87 #[.val (.int p1), .val (.int p2), .val (.int p3), .val (.int p4), .val (.int (p1 &&& (3 : Int32))), .val (.int (p2 &&& (3 : Int32))), .val (.int (p3 &&& (3 : Int32))), .val (.int (p4 &&& (3 : Int32))), .val (.int ((((p1 &&& (3 : Int32)) + (p2 &&& (3 : Int32))) + (p3 &&& (3 : Int32))) + (p4 &&& (3 : Int32)))), .val (.ref b1), .val (.ref h6.size), .unset, .unset] [(.ref b8)]) _
  refine Go.by (fun t k => XS.astore X8.here hx rfl (hb hby at_87) rfl rfl (l' := #[.val (.int p1), .val (.int p2), .val (.int p3), .val (.int p4), .val (.int (p1 &&& (3 : Int32))), .val (.int (p2 &&& (3 : Int32))), .val (.int (p3 &&& (3 : Int32))), .val (.int (p4 &&& (3 : Int32))), .val (.int ((((p1 &&& (3 : Int32)) + (p2 &&& (3 : Int32))) + (p3 &&& (3 : Int32))) + (p4 &&& (3 : Int32)))), .val (.ref b1), .val (.ref h6.size), .val (.ref b8), .unset]) rfl k) ?_
  show Go p e below T8 (mkF m 89 #[.val (.int p1), .val (.int p2), .val (.int p3), .val (.int p4), .val (.int (p1 &&& (3 : Int32))), .val (.int (p2 &&& (3 : Int32))), .val (.int (p3 &&& (3 : Int32))), .val (.int (p4 &&& (3 : Int32))), .val (.int ((((p1 &&& (3 : Int32)) + (p2 &&& (3 : Int32))) + (p3 &&& (3 : Int32))) + (p4 &&& (3 : Int32)))), .val (.ref b1), .val (.ref h6.size), .val (.ref b8), .unset] []) _
  obtain ⟨T10, h10, X10, e10, E10, A10, D10, -, st10⟩ := newO X8 hx hZ hown (hw _ (List.mem_of_getElem? (i := 5) rfl)) (hw _ (List.mem_of_getElem? (i := 6) rfl)) (hw _ (List.mem_of_getElem? (i := 7) rfl)) e8 (g := (mkF m 89 #[.val (.int p1), .val (.int p2), .val (.int p3), .val (.int p4), .val (.int (p1 &&& (3 : Int32))), .val (.int (p2 &&& (3 : Int32))), .val (.int (p3 &&& (3 : Int32))), .val (.int (p4 &&& (3 : Int32))), .val (.int ((((p1 &&& (3 : Int32)) + (p2 &&& (3 : Int32))) + (p3 &&& (3 : Int32))) + (p4 &&& (3 : Int32)))), .val (.ref b1), .val (.ref h6.size), .val (.ref b8), .unset] [])) rfl (hb hby at_89) (by decide) (by decide)
  obtain ⟨b10, g10⟩ : ∃ z, z = h8.size := ⟨_, rfl⟩
  rw [← g10] at A10 D10 st10
  have gn10 : n0 ≤ b10 := Nat.le_trans Z8 (Nat.le_of_eq g10.symm)
  have fa11 := fa9.ext E8
  have ne_b1_b10 : b1 ≠ b10 := Nat.ne_of_lt (Nat.lt_of_lt_of_le fa11.lt (Nat.le_of_eq g10.symm))
  have ne_b8_b10 : b8 ≠ b10 := Nat.ne_of_lt (Nat.lt_of_lt_of_le V8.lt (Nat.le_of_eq g10.symm))
  have Z10 : n0 ≤ h10.size := Nat.le_trans Z8 E10.1
  have F10_first : Fld Z h10 b10 "com/example/angerona/angerona/core/TransitionTable" "first" "[I" .null := D10 (Or.inr (hw _ (List.mem_of_getElem? (i := 15) rfl))) (ty := (.array .int)) (by decide)
  have F10_labels : Fld Z h10 b10 "com/example/angerona/angerona/core/TransitionTable" "labels" "[I" .null := D10 (Or.inr (hw _ (List.mem_of_getElem? (i := 17) rfl))) (ty := (.array .int)) (by decide)
  have F10_targets : Fld Z h10 b10 "com/example/angerona/angerona/core/TransitionTable" "targets" "[I" .null := D10 (Or.inr (hw _ (List.mem_of_getElem? (i := 19) rfl))) (ty := (.array .int)) (by decide)
  refine Go.by st10 ?_
  show Go p e below T10 (mkF m 92 #[.val (.int p1), .val (.int p2), .val (.int p3), .val (.int p4), .val (.int (p1 &&& (3 : Int32))), .val (.int (p2 &&& (3 : Int32))), .val (.int (p3 &&& (3 : Int32))), .val (.int (p4 &&& (3 : Int32))), .val (.int ((((p1 &&& (3 : Int32)) + (p2 &&& (3 : Int32))) + (p3 &&& (3 : Int32))) + (p4 &&& (3 : Int32)))), .val (.ref b1), .val (.ref h6.size), .val (.ref b8), .unset] [(.ref b10)]) _
  refine Go.by (fun t k => XS.dup X10.here hx rfl (hb hby at_92) rfl rfl k) ?_
  show Go p e below T10 (mkF m 93 #[.val (.int p1), .val (.int p2), .val (.int p3), .val (.int p4), .val (.int (p1 &&& (3 : Int32))), .val (.int (p2 &&& (3 : Int32))), .val (.int (p3 &&& (3 : Int32))), .val (.int (p4 &&& (3 : Int32))), .val (.int ((((p1 &&& (3 : Int32)) + (p2 &&& (3 : Int32))) + (p3 &&& (3 : Int32))) + (p4 &&& (3 : Int32)))), .val (.ref b1), .val (.ref h6.size), .val (.ref b8), .unset] [(.ref b10), (.ref b10)]) _
  refine Go.by (fun t k => XS.aload X10.here hx rfl (hb hby at_93) rfl rfl k) ?_
  show Go p e below T10 (mkF m 95 #[.val (.int p1), .val (.int p2), .val (.int p3), .val (.int p4), .val (.int (p1 &&& (3 : Int32))), .val (.int (p2 &&& (3 : Int32))), .val (.int (p3 &&& (3 : Int32))), .val (.int (p4 &&& (3 : Int32))), .val (.int ((((p1 &&& (3 : Int32)) + (p2 &&& (3 : Int32))) + (p3 &&& (3 : Int32))) + (p4 &&& (3 : Int32)))), .val (.ref b1), .val (.ref h6.size), .val (.ref b8), .unset] [(.ref b1), (.ref b10), (.ref b10)]) _
  refine Go.by (fun t k => XS.aload X10.here hx rfl (hb hby at_95) rfl rfl k) ?_
  show Go p e below T10 (mkF m 97 #[.val (.int p1), .val (.int p2), .val (.int p3), .val (.int p4), .val (.int (p1 &&& (3 : Int32))), .val (.int (p2 &&& (3 : Int32))), .val (.int (p3 &&& (3 : Int32))), .val (.int (p4 &&& (3 : Int32))), .val (.int ((((p1 &&& (3 : Int32)) + (p2 &&& (3 : Int32))) + (p3 &&& (3 : Int32))) + (p4 &&& (3 : Int32)))), .val (.ref b1), .val (.ref h6.size), .val (.ref b8), .unset] [(.ref h6.size), (.ref b1), (.ref b10), (.ref b10)]) _
  refine Go.by (fun t k => XS.aload X10.here hx rfl (hb hby at_97) rfl rfl k) ?_
  show Go p e below T10 (mkF m 99 #[.val (.int p1), .val (.int p2), .val (.int p3), .val (.int p4), .val (.int (p1 &&& (3 : Int32))), .val (.int (p2 &&& (3 : Int32))), .val (.int (p3 &&& (3 : Int32))), .val (.int (p4 &&& (3 : Int32))), .val (.int ((((p1 &&& (3 : Int32)) + (p2 &&& (3 : Int32))) + (p3 &&& (3 : Int32))) + (p4 &&& (3 : Int32)))), .val (.ref b1), .val (.ref h6.size), .val (.ref b8), .unset] [(.ref b8), (.ref h6.size), (.ref b1), (.ref b10), (.ref b10)]) _
  obtain ⟨_, _, ⟨T12, L12, k12, n12⟩, -, X12, ⟨Lc12, hQ12, l12, y12, z12⟩, st12⟩ := X10.specialBack hx (y := (⟨"com/example/angerona/angerona/core/TransitionTable", "<init>", "([I[I[I)V"⟩ : MethodName)) rfl hown (mvT hZ (hw _ (List.mem_of_getElem? (i := 8) rfl))) (mvT hZ (hw _ (List.mem_of_getElem? (i := 9) rfl))) (mvT hZ (hw _ (List.mem_of_getElem? (i := 10) rfl))) (by decide) (backOf (W := 1) (rm2 l Z a0 hw [] b10 b1 h6.size b8 (.null) (.null) (.null) h10 n0 Z10 A10 F10_first F10_labels F10_targets gn10) hZ (hw _ (List.mem_of_getElem? (i := 10) rfl)) (hw _ (List.mem_of_getElem? (i := 7) rfl)) (by decide) (by decide)) (g := (mkF m 99 #[.val (.int p1), .val (.int p2), .val (.int p3), .val (.int p4), .val (.int (p1 &&& (3 : Int32))), .val (.int (p2 &&& (3 : Int32))), .val (.int (p3 &&& (3 : Int32))), .val (.int (p4 &&& (3 : Int32))), .val (.int ((((p1 &&& (3 : Int32)) + (p2 &&& (3 : Int32))) + (p3 &&& (3 : Int32))) + (p4 &&& (3 : Int32)))), .val (.ref b1), .val (.ref h6.size), .val (.ref b8), .unset] [(.ref b8), (.ref h6.size), (.ref b1), (.ref b10), (.ref b10)])) rfl (by rw [hml]; rfl) (Steps.refl _) (a := b10) (argsL := [(.ref b1), (.ref h6.size), (.ref b8)]) (rest := [(.ref b10)]) (lenOf pd_1 rfl) rfl (by show 2 * 0 + _ ≤ _; exact Nat.le_of_eq rfl) (hb hby at_99) (fun _ _ => ⟨rfl, e10, (by decide : 4 + 0 ≤ _), (by decide : 32 + 0 ≤ _)⟩)
  dsimp only [Pt.U, Pt.locs, Pt.cells, Pt.slots] at X12 l12 y12 z12 st12 hQ12
  subst l12 y12 z12
  obtain ⟨rfl, N12q, K12q, E12q, F12q_first, F12q_labels, F12q_targets⟩ := hQ12
  have N12 := Fr.app N7 N12q
  have Z12 : n0 ≤ T12.heap.size := Nat.le_trans Z10 K12q.1
  refine Go.by (fun t k => st12.trans k) ?_
  show Go p e below T12 (mkF m 102 #[.val (.int p1), .val (.int p2), .val (.int p3), .val (.int p4), .val (.int (p1 &&& (3 : Int32))), .val (.int (p2 &&& (3 : Int32))), .val (.int (p3 &&& (3 : Int32))), .val (.int (p4 &&& (3 : Int32))), .val (.int ((((p1 &&& (3 : Int32)) + (p2 &&& (3 : Int32))) + (p3 &&& (3 : Int32))) + (p4 &&& (3 : Int32)))), .val (.ref b1), .val (.ref h6.size), .val (.ref b8), .unset] [(.ref b10)]) _
  refine Go.by (fun t k => XS.astore X12.here hx rfl (hb hby at_102) rfl rfl (l' := #[.val (.int p1), .val (.int p2), .val (.int p3), .val (.int p4), .val (.int (p1 &&& (3 : Int32))), .val (.int (p2 &&& (3 : Int32))), .val (.int (p3 &&& (3 : Int32))), .val (.int (p4 &&& (3 : Int32))), .val (.int ((((p1 &&& (3 : Int32)) + (p2 &&& (3 : Int32))) + (p3 &&& (3 : Int32))) + (p4 &&& (3 : Int32)))), .val (.ref b1), .val (.ref h6.size), .val (.ref b8), .val (.ref b10)]) rfl k) ?_
  show Go p e below T12 (mkF m 104 #[.val (.int p1), .val (.int p2), .val (.int p3), .val (.int p4), .val (.int (p1 &&& (3 : Int32))), .val (.int (p2 &&& (3 : Int32))), .val (.int (p3 &&& (3 : Int32))), .val (.int (p4 &&& (3 : Int32))), .val (.int ((((p1 &&& (3 : Int32)) + (p2 &&& (3 : Int32))) + (p3 &&& (3 : Int32))) + (p4 &&& (3 : Int32)))), .val (.ref b1), .val (.ref h6.size), .val (.ref b8), .val (.ref b10)] []) _
  refine Go.by (fun t k => XS.aload X12.here hx rfl (hb hby at_104) rfl rfl k) ?_
  show Go p e below T12 (mkF m 106 #[.val (.int p1), .val (.int p2), .val (.int p3), .val (.int p4), .val (.int (p1 &&& (3 : Int32))), .val (.int (p2 &&& (3 : Int32))), .val (.int (p3 &&& (3 : Int32))), .val (.int (p4 &&& (3 : Int32))), .val (.int ((((p1 &&& (3 : Int32)) + (p2 &&& (3 : Int32))) + (p3 &&& (3 : Int32))) + (p4 &&& (3 : Int32)))), .val (.ref b1), .val (.ref h6.size), .val (.ref b8), .val (.ref b10)] [(.ref b10)]) _
  refine Go.by (fun t k => XS.iconst X12.here hx rfl (hb hby at_106) k) ?_
  show Go p e below T12 (mkF m 107 #[.val (.int p1), .val (.int p2), .val (.int p3), .val (.int p4), .val (.int (p1 &&& (3 : Int32))), .val (.int (p2 &&& (3 : Int32))), .val (.int (p3 &&& (3 : Int32))), .val (.int (p4 &&& (3 : Int32))), .val (.int ((((p1 &&& (3 : Int32)) + (p2 &&& (3 : Int32))) + (p3 &&& (3 : Int32))) + (p4 &&& (3 : Int32)))), .val (.ref b1), .val (.ref h6.size), .val (.ref b8), .val (.ref b10)] [(.int (0 : Int32)), (.ref b10)]) _
  have fa14 := fa11.ext E10
  have fa15 := fa14.keep K12q (ninS ne_b1_b10 nin0)
  obtain ⟨cl13d, Ar13d, -, S13d, M13d, H13d, -⟩ := id fa15
  have hinA13 := inb_of S13d (j := ((0 : Int32) + (1 : Int32))) ⟨by decide, by decide⟩
  have hinB13 := inb_of S13d (j := (0 : Int32)) ⟨by decide, by decide⟩
  have hatA13 := Has.at H13d hinA13 (v := (.int (p1 &&& (3 : Int32)))) rfl
  have hatB13 := Has.at H13d hinB13 (v := (.int (0 : Int32))) rfl
  obtain ⟨cq13, kq13, q13a, q13b, q13c⟩ := isOf hZ rfl E12q
  obtain ⟨_, _, ⟨T13, L13, k13, n13⟩, -, X13, ⟨Lc13, hQ13, l13, y13, z13⟩, st13⟩ := X12.virtualBack hx (y := (⟨"com/example/angerona/angerona/core/TransitionTable", "degree", "(I)I"⟩ : MethodName)) (z := (⟨"com/example/angerona/angerona/core/TransitionTable", "degree", "(I)I"⟩ : MethodName)) hown (mvT hZ (hw _ (List.mem_of_getElem? (i := 20) rfl))) (mvT hZ (hw _ (List.mem_of_getElem? (i := 21) rfl))) (notFace_of_selects (args := #[]) (mvT hZ (hw _ (List.mem_of_getElem? (i := 23) rfl)))) (mvT hZ (hw _ (List.mem_of_getElem? (i := 23) rfl))) (mvT hZ (hw _ (List.mem_of_getElem? (i := 22) rfl))) (by decide) (backOf (W := 0) (rm4 l Z a0 hw [] b10 (0 : Int32) b1 cl13d (p1 &&& (3 : Int32)) (0 : Int32) T12.heap n0 Z12 F12q_first Ar13d hinA13 hatA13 hinB13 hatB13) hZ (hw _ (List.mem_of_getElem? (i := 24) rfl)) (hw _ (List.mem_of_getElem? (i := 7) rfl)) (by decide) (by decide)) q13a q13c (g := (mkF m 107 #[.val (.int p1), .val (.int p2), .val (.int p3), .val (.int p4), .val (.int (p1 &&& (3 : Int32))), .val (.int (p2 &&& (3 : Int32))), .val (.int (p3 &&& (3 : Int32))), .val (.int (p4 &&& (3 : Int32))), .val (.int ((((p1 &&& (3 : Int32)) + (p2 &&& (3 : Int32))) + (p3 &&& (3 : Int32))) + (p4 &&& (3 : Int32)))), .val (.ref b1), .val (.ref h6.size), .val (.ref b8), .val (.ref b10)] [(.int (0 : Int32)), (.ref b10)])) rfl (by rw [hml]; rfl) (Steps.refl _) (argsL := [(.int (0 : Int32))]) (rest := []) (lenOf pd_2 rfl) rfl (by show 2 * 0 + _ ≤ _; exact Nat.le_of_eq rfl) (hb hby at_107) (fun _ _ => ⟨rfl, rfl, (by decide : 4 + 0 ≤ _), (by decide : 32 + 0 ≤ _)⟩)
  dsimp only [Pt.U, Pt.locs, Pt.cells, Pt.slots] at X13 l13 y13 z13 st13 hQ13
  subst l13 y13 z13
  obtain ⟨rfl, N13q, e13q⟩ := hQ13
  have N13 := Fr.app N12 N13q
  refine Go.by (fun t k => st13.trans k) ?_
  show Go p e below T13 (mkF m 110 #[.val (.int p1), .val (.int p2), .val (.int p3), .val (.int p4), .val (.int (p1 &&& (3 : Int32))), .val (.int (p2 &&& (3 : Int32))), .val (.int (p3 &&& (3 : Int32))), .val (.int (p4 &&& (3 : Int32))), .val (.int ((((p1 &&& (3 : Int32)) + (p2 &&& (3 : Int32))) + (p3 &&& (3 : Int32))) + (p4 &&& (3 : Int32)))), .val (.ref b1), .val (.ref h6.size), .val (.ref b8), .val (.ref b10)] [(.int ((p1 &&& (3 : Int32)) - (0 : Int32)))]) _
  refine Go.by (fun t k => XS.iload X13.here hx rfl (hb hby at_110) rfl k) ?_
  show Go p e below T13 (mkF m 112 #[.val (.int p1), .val (.int p2), .val (.int p3), .val (.int p4), .val (.int (p1 &&& (3 : Int32))), .val (.int (p2 &&& (3 : Int32))), .val (.int (p3 &&& (3 : Int32))), .val (.int (p4 &&& (3 : Int32))), .val (.int ((((p1 &&& (3 : Int32)) + (p2 &&& (3 : Int32))) + (p3 &&& (3 : Int32))) + (p4 &&& (3 : Int32)))), .val (.ref b1), .val (.ref h6.size), .val (.ref b8), .val (.ref b10)] [(.int (p1 &&& (3 : Int32))), (.int ((p1 &&& (3 : Int32)) - (0 : Int32)))]) _
  refine Go.by (fun t k => XS.icmpNo X13.here hx rfl (hb hby at_112) rfl (teq (show ((p1 &&& (3 : Int32)) - (0 : Int32)) = (p1 &&& (3 : Int32)) from Int32.sub_zero _)).2 k) ?_
  show Go p e below T13 (mkF m 115 #[.val (.int p1), .val (.int p2), .val (.int p3), .val (.int p4), .val (.int (p1 &&& (3 : Int32))), .val (.int (p2 &&& (3 : Int32))), .val (.int (p3 &&& (3 : Int32))), .val (.int (p4 &&& (3 : Int32))), .val (.int ((((p1 &&& (3 : Int32)) + (p2 &&& (3 : Int32))) + (p3 &&& (3 : Int32))) + (p4 &&& (3 : Int32)))), .val (.ref b1), .val (.ref h6.size), .val (.ref b8), .val (.ref b10)] []) _
  refine Go.by (fun t k => XS.aload X13.here hx rfl (hb hby at_115) rfl rfl k) ?_
  show Go p e below T13 (mkF m 117 #[.val (.int p1), .val (.int p2), .val (.int p3), .val (.int p4), .val (.int (p1 &&& (3 : Int32))), .val (.int (p2 &&& (3 : Int32))), .val (.int (p3 &&& (3 : Int32))), .val (.int (p4 &&& (3 : Int32))), .val (.int ((((p1 &&& (3 : Int32)) + (p2 &&& (3 : Int32))) + (p3 &&& (3 : Int32))) + (p4 &&& (3 : Int32)))), .val (.ref b1), .val (.ref h6.size), .val (.ref b8), .val (.ref b10)] [(.ref b10)]) _
  refine Go.by (fun t k => XS.iconst X13.here hx rfl (hb hby at_117) k) ?_
  show Go p e below T13 (mkF m 118 #[.val (.int p1), .val (.int p2), .val (.int p3), .val (.int p4), .val (.int (p1 &&& (3 : Int32))), .val (.int (p2 &&& (3 : Int32))), .val (.int (p3 &&& (3 : Int32))), .val (.int (p4 &&& (3 : Int32))), .val (.int ((((p1 &&& (3 : Int32)) + (p2 &&& (3 : Int32))) + (p3 &&& (3 : Int32))) + (p4 &&& (3 : Int32)))), .val (.ref b1), .val (.ref h6.size), .val (.ref b8), .val (.ref b10)] [(.int (1 : Int32)), (.ref b10)]) _
  obtain ⟨cl16d, Ar16d, -, S16d, M16d, H16d, -⟩ := id fa15
  have hinA16 := inb_of S16d (j := ((1 : Int32) + (1 : Int32))) ⟨by decide, by decide⟩
  have hinB16 := inb_of S16d (j := (1 : Int32)) ⟨by decide, by decide⟩
  have hatA16 := Has.at H16d hinA16 (v := (.int ((p1 &&& (3 : Int32)) + (p2 &&& (3 : Int32))))) rfl
  have hatB16 := Has.at H16d hinB16 (v := (.int (p1 &&& (3 : Int32)))) rfl
  obtain ⟨cq16, kq16, q16a, q16b, q16c⟩ := isOf hZ e13q E12q
  obtain ⟨_, _, ⟨T16, L16, k16, n16⟩, -, X16, ⟨Lc16, hQ16, l16, y16, z16⟩, st16⟩ := X13.virtualBack hx (y := (⟨"com/example/angerona/angerona/core/TransitionTable", "degree", "(I)I"⟩ : MethodName)) (z := (⟨"com/example/angerona/angerona/core/TransitionTable", "degree", "(I)I"⟩ : MethodName)) hown (mvT hZ (hw _ (List.mem_of_getElem? (i := 20) rfl))) (mvT hZ (hw _ (List.mem_of_getElem? (i := 21) rfl))) (notFace_of_selects (args := #[]) (mvT hZ (hw _ (List.mem_of_getElem? (i := 23) rfl)))) (mvT hZ (hw _ (List.mem_of_getElem? (i := 23) rfl))) (mvT hZ (hw _ (List.mem_of_getElem? (i := 22) rfl))) (by decide) (backOf (W := 0) (rm4 l Z a0 hw [] b10 (1 : Int32) b1 cl16d ((p1 &&& (3 : Int32)) + (p2 &&& (3 : Int32))) (p1 &&& (3 : Int32)) T12.heap n0 Z12 F12q_first Ar16d hinA16 hatA16 hinB16 hatB16) hZ (hw _ (List.mem_of_getElem? (i := 24) rfl)) (hw _ (List.mem_of_getElem? (i := 7) rfl)) (by decide) (by decide)) q16a q16c (g := (mkF m 118 #[.val (.int p1), .val (.int p2), .val (.int p3), .val (.int p4), .val (.int (p1 &&& (3 : Int32))), .val (.int (p2 &&& (3 : Int32))), .val (.int (p3 &&& (3 : Int32))), .val (.int (p4 &&& (3 : Int32))), .val (.int ((((p1 &&& (3 : Int32)) + (p2 &&& (3 : Int32))) + (p3 &&& (3 : Int32))) + (p4 &&& (3 : Int32)))), .val (.ref b1), .val (.ref h6.size), .val (.ref b8), .val (.ref b10)] [(.int (1 : Int32)), (.ref b10)])) rfl (by rw [hml]; rfl) (Steps.refl _) (argsL := [(.int (1 : Int32))]) (rest := []) (lenOf pd_2 rfl) rfl (by show 2 * 0 + _ ≤ _; exact Nat.le_of_eq rfl) (hb hby at_118) (fun _ _ => ⟨rfl, e13q, (by decide : 4 + 0 ≤ _), (by decide : 32 + 0 ≤ _)⟩)
  dsimp only [Pt.U, Pt.locs, Pt.cells, Pt.slots] at X16 l16 y16 z16 st16 hQ16
  subst l16 y16 z16
  obtain ⟨rfl, N16q, e16q⟩ := hQ16
  have N16 := Fr.app N13 N16q
  refine Go.by (fun t k => st16.trans k) ?_
  show Go p e below T16 (mkF m 121 #[.val (.int p1), .val (.int p2), .val (.int p3), .val (.int p4), .val (.int (p1 &&& (3 : Int32))), .val (.int (p2 &&& (3 : Int32))), .val (.int (p3 &&& (3 : Int32))), .val (.int (p4 &&& (3 : Int32))), .val (.int ((((p1 &&& (3 : Int32)) + (p2 &&& (3 : Int32))) + (p3 &&& (3 : Int32))) + (p4 &&& (3 : Int32)))), .val (.ref b1), .val (.ref h6.size), .val (.ref b8), .val (.ref b10)] [(.int (((p1 &&& (3 : Int32)) + (p2 &&& (3 : Int32))) - (p1 &&& (3 : Int32))))]) _
  refine Go.by (fun t k => XS.iload X16.here hx rfl (hb hby at_121) rfl k) ?_
  show Go p e below T16 (mkF m 123 #[.val (.int p1), .val (.int p2), .val (.int p3), .val (.int p4), .val (.int (p1 &&& (3 : Int32))), .val (.int (p2 &&& (3 : Int32))), .val (.int (p3 &&& (3 : Int32))), .val (.int (p4 &&& (3 : Int32))), .val (.int ((((p1 &&& (3 : Int32)) + (p2 &&& (3 : Int32))) + (p3 &&& (3 : Int32))) + (p4 &&& (3 : Int32)))), .val (.ref b1), .val (.ref h6.size), .val (.ref b8), .val (.ref b10)] [(.int (p2 &&& (3 : Int32))), (.int (((p1 &&& (3 : Int32)) + (p2 &&& (3 : Int32))) - (p1 &&& (3 : Int32))))]) _
  refine Go.by (fun t k => XS.icmpNo X16.here hx rfl (hb hby at_123) rfl (teq (show (((p1 &&& (3 : Int32)) + (p2 &&& (3 : Int32))) - (p1 &&& (3 : Int32))) = (p2 &&& (3 : Int32)) from own_acl _ _)).2 k) ?_
  show Go p e below T16 (mkF m 126 #[.val (.int p1), .val (.int p2), .val (.int p3), .val (.int p4), .val (.int (p1 &&& (3 : Int32))), .val (.int (p2 &&& (3 : Int32))), .val (.int (p3 &&& (3 : Int32))), .val (.int (p4 &&& (3 : Int32))), .val (.int ((((p1 &&& (3 : Int32)) + (p2 &&& (3 : Int32))) + (p3 &&& (3 : Int32))) + (p4 &&& (3 : Int32)))), .val (.ref b1), .val (.ref h6.size), .val (.ref b8), .val (.ref b10)] []) _
  refine Go.by (fun t k => XS.aload X16.here hx rfl (hb hby at_126) rfl rfl k) ?_
  show Go p e below T16 (mkF m 128 #[.val (.int p1), .val (.int p2), .val (.int p3), .val (.int p4), .val (.int (p1 &&& (3 : Int32))), .val (.int (p2 &&& (3 : Int32))), .val (.int (p3 &&& (3 : Int32))), .val (.int (p4 &&& (3 : Int32))), .val (.int ((((p1 &&& (3 : Int32)) + (p2 &&& (3 : Int32))) + (p3 &&& (3 : Int32))) + (p4 &&& (3 : Int32)))), .val (.ref b1), .val (.ref h6.size), .val (.ref b8), .val (.ref b10)] [(.ref b10)]) _
  refine Go.by (fun t k => XS.iconst X16.here hx rfl (hb hby at_128) k) ?_
  show Go p e below T16 (mkF m 129 #[.val (.int p1), .val (.int p2), .val (.int p3), .val (.int p4), .val (.int (p1 &&& (3 : Int32))), .val (.int (p2 &&& (3 : Int32))), .val (.int (p3 &&& (3 : Int32))), .val (.int (p4 &&& (3 : Int32))), .val (.int ((((p1 &&& (3 : Int32)) + (p2 &&& (3 : Int32))) + (p3 &&& (3 : Int32))) + (p4 &&& (3 : Int32)))), .val (.ref b1), .val (.ref h6.size), .val (.ref b8), .val (.ref b10)] [(.int (2 : Int32)), (.ref b10)]) _
  obtain ⟨cl17d, Ar17d, -, S17d, M17d, H17d, -⟩ := id fa15
  have hinA17 := inb_of S17d (j := ((2 : Int32) + (1 : Int32))) ⟨by decide, by decide⟩
  have hinB17 := inb_of S17d (j := (2 : Int32)) ⟨by decide, by decide⟩
  have hatA17 := Has.at H17d hinA17 (v := (.int (((p1 &&& (3 : Int32)) + (p2 &&& (3 : Int32))) + (p3 &&& (3 : Int32))))) rfl
  have hatB17 := Has.at H17d hinB17 (v := (.int ((p1 &&& (3 : Int32)) + (p2 &&& (3 : Int32))))) rfl
  obtain ⟨cq17, kq17, q17a, q17b, q17c⟩ := isOf hZ e16q E12q
  obtain ⟨_, _, ⟨T17, L17, k17, n17⟩, -, X17, ⟨Lc17, hQ17, l17, y17, z17⟩, st17⟩ := X16.virtualBack hx (y := (⟨"com/example/angerona/angerona/core/TransitionTable", "degree", "(I)I"⟩ : MethodName)) (z := (⟨"com/example/angerona/angerona/core/TransitionTable", "degree", "(I)I"⟩ : MethodName)) hown (mvT hZ (hw _ (List.mem_of_getElem? (i := 20) rfl))) (mvT hZ (hw _ (List.mem_of_getElem? (i := 21) rfl))) (notFace_of_selects (args := #[]) (mvT hZ (hw _ (List.mem_of_getElem? (i := 23) rfl)))) (mvT hZ (hw _ (List.mem_of_getElem? (i := 23) rfl))) (mvT hZ (hw _ (List.mem_of_getElem? (i := 22) rfl))) (by decide) (backOf (W := 0) (rm4 l Z a0 hw [] b10 (2 : Int32) b1 cl17d (((p1 &&& (3 : Int32)) + (p2 &&& (3 : Int32))) + (p3 &&& (3 : Int32))) ((p1 &&& (3 : Int32)) + (p2 &&& (3 : Int32))) T12.heap n0 Z12 F12q_first Ar17d hinA17 hatA17 hinB17 hatB17) hZ (hw _ (List.mem_of_getElem? (i := 24) rfl)) (hw _ (List.mem_of_getElem? (i := 7) rfl)) (by decide) (by decide)) q17a q17c (g := (mkF m 129 #[.val (.int p1), .val (.int p2), .val (.int p3), .val (.int p4), .val (.int (p1 &&& (3 : Int32))), .val (.int (p2 &&& (3 : Int32))), .val (.int (p3 &&& (3 : Int32))), .val (.int (p4 &&& (3 : Int32))), .val (.int ((((p1 &&& (3 : Int32)) + (p2 &&& (3 : Int32))) + (p3 &&& (3 : Int32))) + (p4 &&& (3 : Int32)))), .val (.ref b1), .val (.ref h6.size), .val (.ref b8), .val (.ref b10)] [(.int (2 : Int32)), (.ref b10)])) rfl (by rw [hml]; rfl) (Steps.refl _) (argsL := [(.int (2 : Int32))]) (rest := []) (lenOf pd_2 rfl) rfl (by show 2 * 0 + _ ≤ _; exact Nat.le_of_eq rfl) (hb hby at_129) (fun _ _ => ⟨rfl, e16q, (by decide : 4 + 0 ≤ _), (by decide : 32 + 0 ≤ _)⟩)
  dsimp only [Pt.U, Pt.locs, Pt.cells, Pt.slots] at X17 l17 y17 z17 st17 hQ17
  subst l17 y17 z17
  obtain ⟨rfl, N17q, e17q⟩ := hQ17
  have N17 := Fr.app N16 N17q
  refine Go.by (fun t k => st17.trans k) ?_
  show Go p e below T17 (mkF m 132 #[.val (.int p1), .val (.int p2), .val (.int p3), .val (.int p4), .val (.int (p1 &&& (3 : Int32))), .val (.int (p2 &&& (3 : Int32))), .val (.int (p3 &&& (3 : Int32))), .val (.int (p4 &&& (3 : Int32))), .val (.int ((((p1 &&& (3 : Int32)) + (p2 &&& (3 : Int32))) + (p3 &&& (3 : Int32))) + (p4 &&& (3 : Int32)))), .val (.ref b1), .val (.ref h6.size), .val (.ref b8), .val (.ref b10)] [(.int ((((p1 &&& (3 : Int32)) + (p2 &&& (3 : Int32))) + (p3 &&& (3 : Int32))) - ((p1 &&& (3 : Int32)) + (p2 &&& (3 : Int32)))))]) _
  refine Go.by (fun t k => XS.iload X17.here hx rfl (hb hby at_132) rfl k) ?_
  show Go p e below T17 (mkF m 134 #[.val (.int p1), .val (.int p2), .val (.int p3), .val (.int p4), .val (.int (p1 &&& (3 : Int32))), .val (.int (p2 &&& (3 : Int32))), .val (.int (p3 &&& (3 : Int32))), .val (.int (p4 &&& (3 : Int32))), .val (.int ((((p1 &&& (3 : Int32)) + (p2 &&& (3 : Int32))) + (p3 &&& (3 : Int32))) + (p4 &&& (3 : Int32)))), .val (.ref b1), .val (.ref h6.size), .val (.ref b8), .val (.ref b10)] [(.int (p3 &&& (3 : Int32))), (.int ((((p1 &&& (3 : Int32)) + (p2 &&& (3 : Int32))) + (p3 &&& (3 : Int32))) - ((p1 &&& (3 : Int32)) + (p2 &&& (3 : Int32)))))]) _
  refine Go.by (fun t k => XS.icmpNo X17.here hx rfl (hb hby at_134) rfl (teq (show ((((p1 &&& (3 : Int32)) + (p2 &&& (3 : Int32))) + (p3 &&& (3 : Int32))) - ((p1 &&& (3 : Int32)) + (p2 &&& (3 : Int32)))) = (p3 &&& (3 : Int32)) from own_acl _ _)).2 k) ?_
  show Go p e below T17 (mkF m 137 #[.val (.int p1), .val (.int p2), .val (.int p3), .val (.int p4), .val (.int (p1 &&& (3 : Int32))), .val (.int (p2 &&& (3 : Int32))), .val (.int (p3 &&& (3 : Int32))), .val (.int (p4 &&& (3 : Int32))), .val (.int ((((p1 &&& (3 : Int32)) + (p2 &&& (3 : Int32))) + (p3 &&& (3 : Int32))) + (p4 &&& (3 : Int32)))), .val (.ref b1), .val (.ref h6.size), .val (.ref b8), .val (.ref b10)] []) _
  refine Go.by (fun t k => XS.aload X17.here hx rfl (hb hby at_137) rfl rfl k) ?_
  show Go p e below T17 (mkF m 139 #[.val (.int p1), .val (.int p2), .val (.int p3), .val (.int p4), .val (.int (p1 &&& (3 : Int32))), .val (.int (p2 &&& (3 : Int32))), .val (.int (p3 &&& (3 : Int32))), .val (.int (p4 &&& (3 : Int32))), .val (.int ((((p1 &&& (3 : Int32)) + (p2 &&& (3 : Int32))) + (p3 &&& (3 : Int32))) + (p4 &&& (3 : Int32)))), .val (.ref b1), .val (.ref h6.size), .val (.ref b8), .val (.ref b10)] [(.ref b10)]) _
  refine Go.by (fun t k => XS.iconst X17.here hx rfl (hb hby at_139) k) ?_
  show Go p e below T17 (mkF m 140 #[.val (.int p1), .val (.int p2), .val (.int p3), .val (.int p4), .val (.int (p1 &&& (3 : Int32))), .val (.int (p2 &&& (3 : Int32))), .val (.int (p3 &&& (3 : Int32))), .val (.int (p4 &&& (3 : Int32))), .val (.int ((((p1 &&& (3 : Int32)) + (p2 &&& (3 : Int32))) + (p3 &&& (3 : Int32))) + (p4 &&& (3 : Int32)))), .val (.ref b1), .val (.ref h6.size), .val (.ref b8), .val (.ref b10)] [(.int (3 : Int32)), (.ref b10)]) _
  obtain ⟨cl18d, Ar18d, -, S18d, M18d, H18d, -⟩ := id fa15
  have hinA18 := inb_of S18d (j := ((3 : Int32) + (1 : Int32))) ⟨by decide, by decide⟩
  have hinB18 := inb_of S18d (j := (3 : Int32)) ⟨by decide, by decide⟩
  have hatA18 := Has.at H18d hinA18 (v := (.int ((((p1 &&& (3 : Int32)) + (p2 &&& (3 : Int32))) + (p3 &&& (3 : Int32))) + (p4 &&& (3 : Int32))))) rfl
  have hatB18 := Has.at H18d hinB18 (v := (.int (((p1 &&& (3 : Int32)) + (p2 &&& (3 : Int32))) + (p3 &&& (3 : Int32))))) rfl
  obtain ⟨cq18, kq18, q18a, q18b, q18c⟩ := isOf hZ e17q E12q
  obtain ⟨_, _, ⟨T18, L18, k18, n18⟩, -, X18, ⟨Lc18, hQ18, l18, y18, z18⟩, st18⟩ := X17.virtualBack hx (y := (⟨"com/example/angerona/angerona/core/TransitionTable", "degree", "(I)I"⟩ : MethodName)) (z := (⟨"com/example/angerona/angerona/core/TransitionTable", "degree", "(I)I"⟩ : MethodName)) hown (mvT hZ (hw _ (List.mem_of_getElem? (i := 20) rfl))) (mvT hZ (hw _ (List.mem_of_getElem? (i := 21) rfl))) (notFace_of_selects (args := #[]) (mvT hZ (hw _ (List.mem_of_getElem? (i := 23) rfl)))) (mvT hZ (hw _ (List.mem_of_getElem? (i := 23) rfl))) (mvT hZ (hw _ (List.mem_of_getElem? (i := 22) rfl))) (by decide) (backOf (W := 0) (rm4 l Z a0 hw [] b10 (3 : Int32) b1 cl18d ((((p1 &&& (3 : Int32)) + (p2 &&& (3 : Int32))) + (p3 &&& (3 : Int32))) + (p4 &&& (3 : Int32))) (((p1 &&& (3 : Int32)) + (p2 &&& (3 : Int32))) + (p3 &&& (3 : Int32))) T12.heap n0 Z12 F12q_first Ar18d hinA18 hatA18 hinB18 hatB18) hZ (hw _ (List.mem_of_getElem? (i := 24) rfl)) (hw _ (List.mem_of_getElem? (i := 7) rfl)) (by decide) (by decide)) q18a q18c (g := (mkF m 140 #[.val (.int p1), .val (.int p2), .val (.int p3), .val (.int p4), .val (.int (p1 &&& (3 : Int32))), .val (.int (p2 &&& (3 : Int32))), .val (.int (p3 &&& (3 : Int32))), .val (.int (p4 &&& (3 : Int32))), .val (.int ((((p1 &&& (3 : Int32)) + (p2 &&& (3 : Int32))) + (p3 &&& (3 : Int32))) + (p4 &&& (3 : Int32)))), .val (.ref b1), .val (.ref h6.size), .val (.ref b8), .val (.ref b10)] [(.int (3 : Int32)), (.ref b10)])) rfl (by rw [hml]; rfl) (Steps.refl _) (argsL := [(.int (3 : Int32))]) (rest := []) (lenOf pd_2 rfl) rfl (by show 2 * 0 + _ ≤ _; exact Nat.le_of_eq rfl) (hb hby at_140) (fun _ _ => ⟨rfl, e17q, (by decide : 4 + 0 ≤ _), (by decide : 32 + 0 ≤ _)⟩)
  dsimp only [Pt.U, Pt.locs, Pt.cells, Pt.slots] at X18 l18 y18 z18 st18 hQ18
  subst l18 y18 z18
  obtain ⟨rfl, N18q, e18q⟩ := hQ18
  have N18 := Fr.app N17 N18q
  refine Go.by (fun t k => st18.trans k) ?_
  show Go p e below T18 (mkF m 143 #[.val (.int p1), .val (.int p2), .val (.int p3), .val (.int p4), .val (.int (p1 &&& (3 : Int32))), .val (.int (p2 &&& (3 : Int32))), .val (.int (p3 &&& (3 : Int32))), .val (.int (p4 &&& (3 : Int32))), .val (.int ((((p1 &&& (3 : Int32)) + (p2 &&& (3 : Int32))) + (p3 &&& (3 : Int32))) + (p4 &&& (3 : Int32)))), .val (.ref b1), .val (.ref h6.size), .val (.ref b8), .val (.ref b10)] [(.int (((((p1 &&& (3 : Int32)) + (p2 &&& (3 : Int32))) + (p3 &&& (3 : Int32))) + (p4 &&& (3 : Int32))) - (((p1 &&& (3 : Int32)) + (p2 &&& (3 : Int32))) + (p3 &&& (3 : Int32)))))]) _
  refine Go.by (fun t k => XS.iload X18.here hx rfl (hb hby at_143) rfl k) ?_
  show Go p e below T18 (mkF m 145 #[.val (.int p1), .val (.int p2), .val (.int p3), .val (.int p4), .val (.int (p1 &&& (3 : Int32))), .val (.int (p2 &&& (3 : Int32))), .val (.int (p3 &&& (3 : Int32))), .val (.int (p4 &&& (3 : Int32))), .val (.int ((((p1 &&& (3 : Int32)) + (p2 &&& (3 : Int32))) + (p3 &&& (3 : Int32))) + (p4 &&& (3 : Int32)))), .val (.ref b1), .val (.ref h6.size), .val (.ref b8), .val (.ref b10)] [(.int (p4 &&& (3 : Int32))), (.int (((((p1 &&& (3 : Int32)) + (p2 &&& (3 : Int32))) + (p3 &&& (3 : Int32))) + (p4 &&& (3 : Int32))) - (((p1 &&& (3 : Int32)) + (p2 &&& (3 : Int32))) + (p3 &&& (3 : Int32)))))]) _
  refine Go.by (fun t k => XS.icmpNo X18.here hx rfl (hb hby at_145) rfl (teq (show (((((p1 &&& (3 : Int32)) + (p2 &&& (3 : Int32))) + (p3 &&& (3 : Int32))) + (p4 &&& (3 : Int32))) - (((p1 &&& (3 : Int32)) + (p2 &&& (3 : Int32))) + (p3 &&& (3 : Int32)))) = (p4 &&& (3 : Int32)) from own_acl _ _)).2 k) ?_
  show Go p e below T18 (mkF m 148 #[.val (.int p1), .val (.int p2), .val (.int p3), .val (.int p4), .val (.int (p1 &&& (3 : Int32))), .val (.int (p2 &&& (3 : Int32))), .val (.int (p3 &&& (3 : Int32))), .val (.int (p4 &&& (3 : Int32))), .val (.int ((((p1 &&& (3 : Int32)) + (p2 &&& (3 : Int32))) + (p3 &&& (3 : Int32))) + (p4 &&& (3 : Int32)))), .val (.ref b1), .val (.ref h6.size), .val (.ref b8), .val (.ref b10)] []) _
  refine Go.by (fun t k => XS.iconst X18.here hx rfl (hb hby at_148) k) ?_
  show Go p e below T18 (mkF m 149 #[.val (.int p1), .val (.int p2), .val (.int p3), .val (.int p4), .val (.int (p1 &&& (3 : Int32))), .val (.int (p2 &&& (3 : Int32))), .val (.int (p3 &&& (3 : Int32))), .val (.int (p4 &&& (3 : Int32))), .val (.int ((((p1 &&& (3 : Int32)) + (p2 &&& (3 : Int32))) + (p3 &&& (3 : Int32))) + (p4 &&& (3 : Int32)))), .val (.ref b1), .val (.ref h6.size), .val (.ref b8), .val (.ref b10)] [(.int (1 : Int32))]) _
  refine Go.by (fun t k => XS.goto X18.here hx rfl (pc0 := 149) (pc' := 153) rfl (hb hby at_149) (by decide) (by decide) k) ?_
  show Go p e below T18 (mkF m 153 #[.val (.int p1), .val (.int p2), .val (.int p3), .val (.int p4), .val (.int (p1 &&& (3 : Int32))), .val (.int (p2 &&& (3 : Int32))), .val (.int (p3 &&& (3 : Int32))), .val (.int (p4 &&& (3 : Int32))), .val (.int ((((p1 &&& (3 : Int32)) + (p2 &&& (3 : Int32))) + (p3 &&& (3 : Int32))) + (p4 &&& (3 : Int32)))), .val (.ref b1), .val (.ref h6.size), .val (.ref b8), .val (.ref b10)] [(.int (1 : Int32))]) _
  obtain ⟨fs, hr, hrun, hended, hW, hsame⟩ := X18.leave (v := some (.int (1 : Int32))) (fun h => by rw [Bd.returns] at h; cases h)
  refine Go.done (retN X18 hx (t := .boolean) Bd.returns (by simp) (hb hby at_153) hr) hrun hended ⟨_, _, rfl, ?_, ⟨_, rfl⟩, hW, hsame.mono (by decide) (by decide)⟩
  show Q0 Z p1 p2 p3 p4 h0 n0 _ T18.heap _
  rw [e18q]
  exact ⟨rfl, N18⟩
set_option maxRecDepth 65536 in
set_option maxHeartbeats 40000000 in
theorem comes_1 {Post : Tables → Env → Array Value → State → Outcome → State → Prop} (hpost : ∀ tb e args s v u, (limb_1_1.after args s (.returned v) u = true ∧ limb_1_2.after args s (.returned v) u = true ∧ True) → FrameEnd s (.returned v) u (Jvm.fieldLocs frame_1_writes args s ++ Jvm.arrayLocs frame_1_arrays args s ++ Jvm.staticLocs frame_1_statics s) 16 128 → Post tb e args s (.returned v) u) :
    ArmFor flags0 classFile x code maxLocals ret World_1 tables_1 room_1 Calls_1 rest_1 Pre_1 Post := by
  intro l hfl _ _ p e ha hc hk s m args below hf hA hF happ hP
  obtain ⟨hcalls, hrest, hpre⟩ := hP
  obtain ⟨-, -, -, hnamed, -, -, -, hat⟩ := (Spec.applies_iff hf).mp happ
  obtain ⟨hg, hn⟩ := and_e (Cond.before_iff.mp (show (Jvm.Cond.and given_1 narrow_1).before args s = true from hpre))
  obtain ⟨g1, g2⟩ := and_e hg
  obtain ⟨g3, g4⟩ := and_e g2
  obtain ⟨g5, g6⟩ := and_e g4
  obtain ⟨g7, g8⟩ := and_e g6
  obtain ⟨w0, w1, w2, w3, rfl⟩ : ∃ w0 w1 w2 w3 : Value, args = #[w0, w1, w2, w3] := by
    have hs : args.size = 4 := by simpa [Cond.value, given_1] using g1
    obtain ⟨L⟩ := args
    match L, hs with
    | [w0, w1, w2, w3], _ => exact ⟨w0, w1, w2, w3, rfl⟩
  have hw := fun d (hd : d ∈ tables_1) => atoms_spec (ws := Jvm.Cond.code x code maxLocals ret :: tables_1) hat d (List.mem_cons_of_mem _ hd)
  obtain ⟨i0, ei0⟩ := is_v g3
  obtain rfl : w0 = (.int i0) := Option.some.inj ei0
  obtain ⟨i1, ei1⟩ := is_v g5
  obtain rfl : w1 = (.int i1) := Option.some.inj ei1
  obtain ⟨i2, ei2⟩ := is_v g7
  obtain rfl : w2 = (.int i2) := Option.some.inj ei2
  obtain ⟨i3, ei3⟩ := is_v g8
  obtain rfl : w3 = (.int i3) := Option.some.inj ei3
  obtain ⟨n, o, h1, h2, h3, _, L, rfl, ⟨rfl, N⟩, hq⟩ := rm0 l s _ hw tables_1 i0 i1 i2 i3 s.heap s.heap.size (Nat.le_refl _) p e ha hc hk s m _ below hf ((Spec.applies_iff_loose hf).mp happ).1 ⟨rfl, State.Warmed39.refl s, rfl⟩ trivial
  refine ⟨n, _, h1, h2, h3, hpost _ _ _ _ _ _ ⟨Cond.after_iff.mpr rfl, Cond.after_iff.mpr (eq_i res_at (Term.int_eval (1)) rfl), trivial⟩ ⟨hq.1, hq.2.1, (hq.2.2.sift fun y hy => Or.inr (N y hy)).mono (by decide) (by decide)⟩⟩
theorem main_1_1 : Claimed_1_1 := comes_1 fun _ _ _ _ _ _ h hF => ⟨h.1, hF⟩
theorem main_1_2 : Claimed_1_2 := comes_1 fun _ _ _ _ _ _ h hF => ⟨h.2.1, hF⟩
end Jvm.Pilot.@@N@@
namespace Jvm.Pilot.@@N@@
open Jvm Jvm.ClassFile Sem Op Lib Jvm.Free Jvm.Stand Jvm.Pilot.@@N@@.Jvm.D
/-! MADE BY PROGRAM (witnessworld.py) out of the Statement's table words and the real class files: 11 classes; the members and pool entries that the words name. The judged class is class 1, her method 2. -/
namespace start1
open Jvm.ClassFile
def u (s : String) : CpInfo := .utf8 (stringToUtf16 s)
/-- a pool by its gaps: so many unusable entries, then the entry; so many at the end -/
def gap : Nat → List CpInfo → List CpInfo
  | 0, r => r
  | n + 1, r => .unusable :: gap n r
def poolList (es : List (Nat × CpInfo)) (last : Nat) : List CpInfo := es.foldr (fun e r => gap e.1 (e.2 :: r)) (gap last [])
def pool (es : List (Nat × CpInfo)) (last : Nat) : Array CpInfo := ⟨poolList es last⟩
def fileOf (pool : Array CpInfo) (this : Nat) (attrs : Array Attribute := #[]) (ms : Array MethodInfo := #[]) (fl : Nat := 33) (sup : Nat := 0) (ifs : Array Nat := #[]) (fds : Array FieldInfo := #[]) : ClassFile where
  minorVersion := 0
  majorVersion := 65
  constantPool := pool
  accessFlags := fl
  thisClass := this
  superClass := sup
  interfaces := ifs
  fields := fds
  methods := ms
  attributes := attrs
def plain (name : String) (sup : Option ClassId) : Class where
  name := name
  kind := .ordinary
  loader := none
  accessFlags := 33
  super := sup
  interfaces := #[]
  cf := none
  fields := #[]
  methods := #[]
  instanceTypes := #[]
  staticTypes := #[]
  resolved := #[]
  callSites := []
  init := .initialized
  statics := none
  mirror := none

def pool0 : Array CpInfo := pool [(5, u "<init>"), (0, u "()V"), (1, .class_ 10), (1, u "java/lang/Object")] 113

def k0c0 : Code := { maxStack := 0, maxLocals := 1, code := object_method_1_code, exceptionTable := #[], attributes := #[] }
def k0m0 : Method := { name := "<init>", desc := "()V", sig := { parameters := [], returnType := none }, accessFlags := 1, code := some k0c0 }
/-- java/lang/Object -/
def k0 : Class := { plain "java/lang/Object" none with
  accessFlags := 33
  interfaces := #[]
  cf := some (fileOf pool0 8 #[] #[{ accessFlags := 1, nameIndex := 5, descriptorIndex := 6, attributes := #[] }] 33 0 #[] #[])
  fields := #[]
  methods := #[k0m0]
  instanceTypes := #[]
  staticTypes := #[]
  resolved := Array.replicate 124 none
  statics := none }

def pool1 : Array CpInfo := pool [(2, .class_ 4), (1, u "java/lang/Object"), (0, u "<init>"), (0, u "()V"), (0, .methodref 8 9), (0, .class_ 10), (0, .nameAndType 11 12), (0, u "com/example/angerona/angerona/core/TransitionTableDegreePinLaw"), (0, u "rising"), (0, u "(I)[I"), (0, .class_ 14), (0, u "com/example/angerona/angerona/core/TransitionTable"), (0, .methodref 13 16), (0, .nameAndType 5 17), (0, u "([I[I[I)V"), (0, .methodref 13 19), (0, .nameAndType 20 21), (0, u "degree"), (0, u "(I)I"), (5, u "law"), (0, u "(IIII)Z")] 2

def k1m0 : Method := { name := "<init>", desc := "()V", sig := { parameters := [], returnType := none }, accessFlags := 1, code := none }
def k1c1 : Code := { maxStack := 3, maxLocals := 2, code := method_2_code, exceptionTable := #[], attributes := #[] }
def k1m1 : Method := { name := "rising", desc := "(I)[I", sig := { parameters := [.int], returnType := some (.array .int) }, accessFlags := 10, code := some k1c1 }
def k1c2 : Code := { maxStack := 5, maxLocals := 13, code := code, exceptionTable := #[], attributes := #[] }
def k1m2 : Method := { name := "law", desc := "(IIII)Z", sig := { parameters := [.int, .int, .int, .int], returnType := some .boolean }, accessFlags := 9, code := some k1c2 }
/-- com/example/angerona/angerona/core/TransitionTableDegreePinLaw -/
def k1 : Class := { plain "com/example/angerona/angerona/core/TransitionTableDegreePinLaw" (some 0) with
  accessFlags := 49
  interfaces := #[]
  cf := some (fileOf pool1 8 #[] #[{ accessFlags := 1, nameIndex := 5, descriptorIndex := 6, attributes := #[] }, { accessFlags := 10, nameIndex := 11, descriptorIndex := 12, attributes := #[] }, { accessFlags := 9, nameIndex := 27, descriptorIndex := 28, attributes := #[] }] 49 2 #[] #[])
  fields := #[]
  methods := #[k1m0, k1m1, k1m2]
  instanceTypes := #[]
  staticTypes := #[]
  resolved := Array.replicate 31 none
  statics := none }

def pool2 : Array CpInfo := pool [(1, .class_ 2), (0, u "com/example/angerona/angerona/core/Transitions"), (0, .class_ 4), (0, u "java/lang/Object")] 9

/-- com/example/angerona/angerona/core/Transitions -/
def k2 : Class := { plain "com/example/angerona/angerona/core/Transitions" (some 0) with
  accessFlags := 1536
  interfaces := #[]
  cf := some (fileOf pool2 1 #[] #[] 1536 3 #[] #[])
  fields := #[]
  methods := #[]
  instanceTypes := #[]
  staticTypes := #[]
  resolved := Array.replicate 14 none
  statics := none }

def pool3 : Array CpInfo := pool [(1, .class_ 2), (0, u "com/example/angerona/angerona/core/DeterministicTransitions"), (0, .class_ 4), (0, u "java/lang/Object"), (0, .class_ 6), (0, u "com/example/angerona/angerona/core/Transitions")] 4

/-- com/example/angerona/angerona/core/DeterministicTransitions -/
def k3 : Class := { plain "com/example/angerona/angerona/core/DeterministicTransitions" (some 0) with
  accessFlags := 1536
  interfaces := #[2]
  cf := some (fileOf pool3 1 #[] #[] 1536 3 #[5] #[])
  fields := #[]
  methods := #[]
  instanceTypes := #[]
  staticTypes := #[]
  resolved := Array.replicate 11 none
  statics := none }

def pool4 : Array CpInfo := pool [(1, .methodref 2 3), (0, .class_ 4), (0, .nameAndType 5 6), (0, u "java/lang/Object"), (0, u "<init>"), (0, u "()V"), (0, .fieldref 8 9), (0, .class_ 10), (0, .nameAndType 11 12), (0, u "com/example/angerona/angerona/core/TransitionTable"), (0, u "first"), (0, u "[I"), (0, .fieldref 8 14), (0, .nameAndType 15 12), (0, u "labels"), (0, .fieldref 8 17), (0, .nameAndType 18 12), (0, u "targets"), (6, .class_ 26), (0, u "com/example/angerona/angerona/core/DeterministicTransitions"), (0, u "([I[I[I)V"), (4, u "degree"), (0, u "(I)I")] 7

def k4c0 : Code := { maxStack := 2, maxLocals := 4, code := prog_129_method_1_code, exceptionTable := #[], attributes := #[] }
def k4m0 : Method := { name := "<init>", desc := "([I[I[I)V", sig := { parameters := [(.array .int), (.array .int), (.array .int)], returnType := none }, accessFlags := 0, code := some k4c0 }
def k4c1 : Code := { maxStack := 3, maxLocals := 2, code := prog_129_method_3_code, exceptionTable := #[], attributes := #[] }
def k4m1 : Method := { name := "degree", desc := "(I)I", sig := { parameters := [.int], returnType := some .int }, accessFlags := 1, code := some k4c1 }
/-- com/example/angerona/angerona/core/TransitionTable -/
def k4 : Class := { plain "com/example/angerona/angerona/core/TransitionTable" (some 0) with
  accessFlags := 48
  interfaces := #[3]
  cf := some (fileOf pool4 8 #[] #[{ accessFlags := 0, nameIndex := 5, descriptorIndex := 27, attributes := #[] }, { accessFlags := 1, nameIndex := 32, descriptorIndex := 33, attributes := #[] }] 48 2 #[25] #[{ accessFlags := 18, nameIndex := 11, descriptorIndex := 12, attributes := #[] }, { accessFlags := 18, nameIndex := 15, descriptorIndex := 12, attributes := #[] }, { accessFlags := 18, nameIndex := 18, descriptorIndex := 12, attributes := #[] }])
  fields := #[{ name := "first", type := (.array .int), accessFlags := 18, slot := 0, constantValue := 0 }, { name := "labels", type := (.array .int), accessFlags := 18, slot := 1, constantValue := 0 }, { name := "targets", type := (.array .int), accessFlags := 18, slot := 2, constantValue := 0 }]
  methods := #[k4m0, k4m1]
  instanceTypes := #[(.array .int), (.array .int), (.array .int)]
  staticTypes := #[]
  resolved := Array.replicate 41 none
  statics := none }

def pool5 : Array CpInfo := pool [(1, u "java/lang/Cloneable"), (0, .class_ 1), (0, u "java/lang/Object"), (0, .class_ 3)] 3

/-- java/lang/Cloneable -/
def k5 : Class := { plain "java/lang/Cloneable" (some 0) with
  accessFlags := 1537
  interfaces := #[]
  cf := some (fileOf pool5 2 #[] #[] 1537 4 #[] #[])
  fields := #[]
  methods := #[]
  instanceTypes := #[]
  staticTypes := #[]
  resolved := Array.replicate 8 none
  statics := none }

def pool6 : Array CpInfo := pool [(1, u "java/io/Serializable"), (0, .class_ 1), (0, u "java/lang/Object"), (0, .class_ 3)] 3

/-- java/io/Serializable -/
def k6 : Class := { plain "java/io/Serializable" (some 0) with
  accessFlags := 1537
  interfaces := #[]
  cf := some (fileOf pool6 2 #[] #[] 1537 4 #[] #[])
  fields := #[]
  methods := #[]
  instanceTypes := #[]
  staticTypes := #[]
  resolved := Array.replicate 8 none
  statics := none }

/-- the primitive byte -/
def k7 : Class := { plain "byte" none with kind := .primitive 'B', accessFlags := 0x411 }
/-- [B -/
def k8 : Class := { plain "[B" (some 0) with kind := .array 7 .byte, interfaces := #[5, 6], accessFlags := 1041 }

/-- the primitive int -/
def k9 : Class := { plain "int" none with kind := .primitive 'I', accessFlags := 0x411 }
/-- [I -/
def k10 : Class := { plain "[I" (some 0) with kind := .array 9 .int, interfaces := #[5, 6], accessFlags := 1041 }

def heap : Heap := #[]
def classes : Array Class := #[k0, k1, k2, k3, k4, k5, k6, k7, k8, k9, k10]
def interned : List (Array UInt16 × Addr) := []
def slotsUsed : Nat := 0
def theMethod : MethodId := ⟨1, 2⟩
def args0 : Array Value := #[.int 5, .int 6, .int 7, .int 8]
def aboutOver (below : List Frame) : State where
  vm := { classes := classes, interned := interned.toArray }
  heap := heap
  slotsUsed := slotsUsed
  threads := #[{ frames := .invoking theMethod args0 :: below }]
def below0 : List Frame := [.native { method := ⟨0, 0⟩, args := #[] }]
def about1 : State := aboutOver below0
def p0 : Program := .bare "" "" ""
def e0 : Env := launch0.env 0 0 0
theorem w_frames : about1.frames = Frame.invoking theMethod args0 :: below0 := rfl
set_option maxRecDepth 65536 in
theorem w_args : argsFit about1.vm theMethod args0 = true := by decide +kernel
set_option maxRecDepth 65536 in
theorem w_heap : heapFits about1 = true := by decide +kernel
set_option maxRecDepth 65536 in
theorem w_runnable : about1.curStatus? = some .runnable := by decide +kernel
set_option maxRecDepth 65536 in
theorem w_alone : about1.alone = true := by decide +kernel
set_option maxRecDepth 65536 in
theorem w_named : about1.methodNamed? x = some theMethod := by decide +kernel
set_option maxRecDepth 65536 in
theorem w_hears : about1.hears theMethod below0 = true := by decide +kernel
set_option maxRecDepth 65536 in
theorem w_ripe : about1.ripe theMethod args0 below0 = true := by decide +kernel
theorem w_running : about1.status = .running := rfl
set_option maxRecDepth 65536 in
theorem w_room : about1.hasRoom e0.platform room_1 = true :=
  launch0.hasRoom_least _ room_1 (by decide +kernel) (by decide +kernel) (by decide +kernel) (by decide +kernel) (by decide +kernel) (by decide +kernel)
theorem allAtoms_all (ts : List Jvm.Cond) (a : Array Jvm.Value) (st : Jvm.State) : (allAtoms ts).before a st = ts.all (fun c => c.before a st) := by
  induction ts with
  | nil => rfl
  | cons c t ih =>
    show (Jvm.Cond.and c (allAtoms t)).before a st = _
    rw [Jvm.Cond.before_and, ih, List.all_cons]
def words1 : List Jvm.Cond := Jvm.Cond.code x code maxLocals ret :: tables_1
/-- a 'code' word, met by the world's own term for the bytes: nothing is compared byte by byte -/
theorem code_word {y : MethodName} {bytes : ByteArray} {mx : Nat} {rt : Option FieldType} {a : Array Value} {s : State} {m : MethodId} {meth : Method} {c : Code} (h1 : s.methodNamed? y = some m) (h2 : s.vm.method? m = some meth) (h3 : meth.code = some c) (h4 : c.code = bytes)
    (h5 : (c.maxLocals == mx && c.exceptionTable.isEmpty && decide (c.maxStack ≤ mostOperands) && decide (meth.sig.returnType = rt) && !meth.locks && decide (parseMethodDescriptor y.desc = some meth.sig)) = true) : (Jvm.Cond.code y bytes mx rt).before a s = true := by
  simp only [Bool.and_eq_true, beq_iff_eq, Bool.not_eq_true', decide_eq_true_eq] at h5
  obtain ⟨⟨⟨⟨⟨g1, g2⟩, g3⟩, g4⟩, g5⟩, g6⟩ := h5
  simp [Cond.before, Cond.holds, Cond.value, h1, h2, h3, h4, g1, g2, g3, g4, g5, g6]
def isCode : Jvm.Cond → Bool
  | .code _ _ _ _ => true
  | _ => false
theorem all_split {L : List Jvm.Cond} {P : Jvm.Cond → Bool} (h1 : L.all (fun c => isCode c || P c) = true) (h2 : ∀ c ∈ L.filter isCode, P c = true) : L.all P = true := by
  refine List.all_eq_true.mpr fun c hc => ?_
  have h := List.all_eq_true.mp h1 c hc
  rcases Bool.eq_false_or_eq_true (isCode c) with hi | hi
  · exact h2 c (List.mem_filter.mpr ⟨hc, hi⟩)
  · simpa [hi] using h
set_option maxRecDepth 65536 in
theorem w_c0 : (Jvm.Cond.code x code maxLocals ret).before args0 about1 = true := code_word (m := ⟨1, 2⟩) (meth := k1m2) (c := k1c2) (by decide +kernel) rfl rfl rfl (by decide +kernel)
set_option maxRecDepth 65536 in
theorem w_c1 : (Jvm.Cond.code ({ cls := "com/example/angerona/angerona/core/TransitionTableDegreePinLaw", name := "rising", desc := "(I)[I" } : Jvm.MethodName) method_2_code (2 : Nat) (Option.some (Jvm.ClassFile.FieldType.array Jvm.ClassFile.FieldType.int))).before args0 about1 = true := code_word (m := ⟨1, 1⟩) (meth := k1m1) (c := k1c1) (by decide +kernel) rfl rfl rfl (by decide +kernel)
set_option maxRecDepth 65536 in
theorem w_c2 : (Jvm.Cond.code ({ cls := "com/example/angerona/angerona/core/TransitionTable", name := "<init>", desc := "([I[I[I)V" } : Jvm.MethodName) prog_129_method_1_code (4 : Nat) (Option.none : Option Jvm.ClassFile.FieldType)).before args0 about1 = true := code_word (m := ⟨4, 0⟩) (meth := k4m0) (c := k4c0) (by decide +kernel) rfl rfl rfl (by decide +kernel)
set_option maxRecDepth 65536 in
theorem w_c3 : (Jvm.Cond.code ({ cls := "java/lang/Object", name := "<init>", desc := "()V" } : Jvm.MethodName) object_method_1_code (1 : Nat) (Option.none : Option Jvm.ClassFile.FieldType)).before args0 about1 = true := code_word (m := ⟨0, 0⟩) (meth := k0m0) (c := k0c0) (by decide +kernel) rfl rfl rfl (by decide +kernel)
set_option maxRecDepth 65536 in
theorem w_c4 : (Jvm.Cond.code ({ cls := "com/example/angerona/angerona/core/TransitionTable", name := "degree", desc := "(I)I" } : Jvm.MethodName) prog_129_method_3_code (2 : Nat) (Option.some Jvm.ClassFile.FieldType.int)).before args0 about1 = true := code_word (m := ⟨4, 1⟩) (meth := k4m1) (c := k4c1) (by decide +kernel) rfl rfl rfl (by decide +kernel)
def codes1 : List Jvm.Cond := [Jvm.Cond.code x code maxLocals ret, Jvm.Cond.code ({ cls := "com/example/angerona/angerona/core/TransitionTableDegreePinLaw", name := "rising", desc := "(I)[I" } : Jvm.MethodName) method_2_code (2 : Nat) (Option.some (Jvm.ClassFile.FieldType.array Jvm.ClassFile.FieldType.int)), Jvm.Cond.code ({ cls := "com/example/angerona/angerona/core/TransitionTable", name := "<init>", desc := "([I[I[I)V" } : Jvm.MethodName) prog_129_method_1_code (4 : Nat) (Option.none : Option Jvm.ClassFile.FieldType), Jvm.Cond.code ({ cls := "java/lang/Object", name := "<init>", desc := "()V" } : Jvm.MethodName) object_method_1_code (1 : Nat) (Option.none : Option Jvm.ClassFile.FieldType), Jvm.Cond.code ({ cls := "com/example/angerona/angerona/core/TransitionTable", name := "degree", desc := "(I)I" } : Jvm.MethodName) prog_129_method_3_code (2 : Nat) (Option.some Jvm.ClassFile.FieldType.int)]
set_option maxRecDepth 65536 in
theorem codes_eq : words1.filter isCode = codes1 := rfl
theorem w_codes : ∀ c ∈ words1.filter isCode, c.before args0 about1 = true := by
  rw [codes_eq]
  intro c hc
  simp only [codes1, List.mem_cons, List.not_mem_nil, or_false] at hc
  rcases hc with rfl | rfl | rfl | rfl | rfl
  · exact w_c0
  · exact w_c1
  · exact w_c2
  · exact w_c3
  · exact w_c4
set_option maxRecDepth 65536 in
theorem w_t1 : (words1.take 24).all (fun c => isCode c || c.before args0 about1) = true := by decide +kernel
set_option maxRecDepth 65536 in
theorem w_t2 : (words1.drop 24).all (fun c => isCode c || c.before args0 about1) = true := by decide +kernel
theorem w_tables : (allAtoms (Jvm.Cond.code x code maxLocals ret :: tables_1)).before args0 about1 = true := by
  rw [allAtoms_all]
  show words1.all (fun c => c.before args0 about1) = true
  refine all_split ?_ w_codes
  rw [← List.take_append_drop 24 words1, List.all_append, w_t1, w_t2]
  rfl
set_option maxRecDepth 65536 in
theorem w_case : (Jvm.Cond.and given_1 narrow_1).before args0 about1 = true := by decide +kernel
theorem w_applies : (headSpec (Jvm.Cond.code x code maxLocals ret :: tables_1) room_1).applies x e0.platform about1 = true :=
  (Spec.applies_iff w_frames).mpr ⟨w_running, w_runnable, w_alone, w_named, w_hears, w_ripe, w_room, w_tables⟩
theorem atStart : AtStart classFile x code maxLocals ret World_1 tables_1 room_1 Calls_1 rest_1 Pre_1 launch0 p0 e0 about1 theMethod args0 below0 :=
  ⟨lists_1, trivial, launch0.admits_env _ _ _, launch0.least_env, fairChoices_fair.cas, fairChoices_fair.clock, w_frames, w_args, w_heap, w_applies, trivial, trivial, w_case⟩
end start1
theorem witness_1 : WitnessClaimed_1 := ⟨start1.p0, start1.e0, start1.about1, start1.theMethod, start1.args0, start1.below0, start1.atStart⟩
end Jvm.Pilot.@@N@@
