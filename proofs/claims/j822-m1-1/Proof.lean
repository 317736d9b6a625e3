import JvmDerived
import JvmDerived.Pilot.@@N@@Statement
import JvmDerived.Pilot.@@N@@Code
set_option linter.unusedVariables false
set_option linter.unusedSimpArgs false
@@BLOCK:NumsL.lean.txt@@
namespace Jvm.RoadKit
open Sem ClassFile Op Lib Jvm.Stand Jvm.Free Jvm.LawKit
section New
variable {p : Program} {l : Launch} {e : Env} {R : Room} {s : State} {m : MethodId} {args : Array Value} {below : List Frame} {meth : Method} {c : Code} {T : State} {locs : List Loc} {cells slots : Nat}
theorem retI (X : Stand p l e R s m args below meth c T locs cells slots) (hx : p.tables.exec = Jvm.exec) {pc : Nat} {Ls : Array Slot} {z : Int32} {rest : List Value} (hret : meth.sig.returnType = some .int) (hd : decode c.code pc = .ok (.ireturn, 1)) {fs : List Frame}
    (hl : ∀ (f : JFrame) (acts : List Action), f.method = m → f.locked = none → f.entered = [] → (doReturn e (T.setTop f) acts (some (.int z))).1 = T.setFrames fs) : Steps p.tables e below (T.setTop (mkF m pc Ls (.int z :: rest))) (T.setFrames fs) :=
  retOut X hx hret rfl (Or.inl ⟨rfl, Or.inl rfl, z, rfl⟩) hd hl
theorem retJ (X : Stand p l e R s m args below meth c T locs cells slots) (hx : p.tables.exec = Jvm.exec) {pc : Nat} {Ls : Array Slot} {z : Int64} {rest : List Value} (hret : meth.sig.returnType = some .long) (hd : decode c.code pc = .ok (.lreturn, 1)) {fs : List Frame}
    (hl : ∀ (f : JFrame) (acts : List Action), f.method = m → f.locked = none → f.entered = [] → (doReturn e (T.setTop f) acts (some (.long z))).1 = T.setFrames fs) : Steps p.tables e below (T.setTop (mkF m pc Ls (.long z :: rest))) (T.setFrames fs) :=
  retOut X hx hret rfl (Or.inr (Or.inl ⟨rfl, rfl, z, rfl⟩)) hd hl
theorem retA (X : Stand p l e R s m args below meth c T locs cells slots) (hx : p.tables.exec = Jvm.exec) {pc : Nat} {Ls : Array Slot} {w : Value} {t : FieldType} {rest : List Value} (hret : meth.sig.returnType = some t) (hn : narrow t w = w) (ht : t.isReference = true ∧ w.isRef = true) (hd : decode c.code pc = .ok (.areturn, 1)) {fs : List Frame}
    (hl : ∀ (f : JFrame) (acts : List Action), f.method = m → f.locked = none → f.entered = [] → (doReturn e (T.setTop f) acts (some w)).1 = T.setFrames fs) : Steps p.tables e below (T.setTop (mkF m pc Ls (w :: rest))) (T.setFrames fs) :=
  retOut X hx hret hn (Or.inr (Or.inr (Or.inr (Or.inr ⟨rfl, ht.1, ht.2⟩)))) hd hl
def Go (p : Program) (e : Env) (below : List Frame) (T : State) (f : JFrame) (Post : Outcome → State → Prop) : Prop :=
  ∃ s₂ o, Steps p.tables e below (T.setTop f) s₂ ∧ s₂.status = .running ∧ Ended s₂ below o ∧ Post o s₂
theorem Go.by {T T' : State} {f f' : JFrame} {Post : Outcome → State → Prop} (st : ∀ t, Steps p.tables e below (T'.setTop f') t → Steps p.tables e below (T.setTop f) t) (k : Go p e below T' f' Post) : Go p e below T f Post := by
  obtain ⟨s2, o, a, b⟩ := k
  exact ⟨s2, o, st _ a, b⟩
theorem Go.start {T : State} {f g : JFrame} {Post : Outcome → State → Prop} (q : f = g) (k : Go p e below T g Post) : ∃ s₂ o, Steps p.tables e below (T.setTop f) s₂ ∧ s₂.status = .running ∧ Ended s₂ below o ∧ Post o s₂ := by
  subst q; exact k
theorem Go.done {T s₂ : State} {f : JFrame} {o : Outcome} {Post : Outcome → State → Prop} (a : Steps p.tables e below (T.setTop f) s₂) (b : s₂.status = .running) (c : Ended s₂ below o) (d : Post o s₂) : Go p e below T f Post := ⟨s₂, o, a, b, c, d⟩
def own_ushr (x y : Int32) : Int32 := (x.toUInt32 >>> (y &&& 31).toUInt32).toInt32
def own_ushrL (x : Int64) (y : Int32) : Int64 := (x.toUInt64 >>> (y &&& 63).toInt64.toUInt64).toInt64
theorem own_cmpV (x y : Int64) : lcmpW x y = lcmpV x y := lcW x y
theorem own_holdsLt (z : Int32) : ifCond.holds .lt z = decide (z < 0) := rfl
theorem own_holdsGe (z : Int32) : ifCond.holds .ge z = decide (z ≥ 0) := rfl
theorem own_holdsGt (z : Int32) : ifCond.holds .gt z = decide (z > 0) := rfl
theorem own_holdsLe (z : Int32) : ifCond.holds .le z = decide (z ≤ 0) := rfl
theorem own_holdsEq (z : Int32) : ifCond.holds .eq z = (z == 0) := rfl
theorem own_holdsNe (z : Int32) : ifCond.holds .ne z = (z != 0) := rfl
theorem ctlt {x y : Int64} (h : x < y) : ifCond.holds .lt (lcmpW x y) = true ∧ ifCond.holds .ge (lcmpW x y) = false ∧ ifCond.holds .gt (lcmpW y x) = true ∧ ifCond.holds .le (lcmpW y x) = false := by
  rw [own_holdsLt, own_holdsGe, own_holdsGt, own_holdsLe, own_cmpV, own_cmpV]
  refine ⟨decide_eq_true ((lc_lt x y).mpr h), decide_eq_false fun q => ?_, decide_eq_true ((lc_gt y x).mpr h), decide_eq_false fun q => ?_⟩
  · exact Int64.not_le.mpr h ((lc_ge x y).mp q)
  · exact Int64.not_le.mpr h ((lc_le y x).mp q)
theorem cflt {x y : Int64} (h : ¬ x < y) : ifCond.holds .lt (lcmpW x y) = false ∧ ifCond.holds .ge (lcmpW x y) = true ∧ ifCond.holds .gt (lcmpW y x) = false ∧ ifCond.holds .le (lcmpW y x) = true := by
  rw [own_holdsLt, own_holdsGe, own_holdsGt, own_holdsLe, own_cmpV, own_cmpV]
  exact ⟨decide_eq_false fun q => h ((lc_lt x y).mp q), decide_eq_true ((lc_ge x y).mpr (Int64.not_lt.mp h)), decide_eq_false fun q => h ((lc_gt y x).mp q), decide_eq_true ((lc_le y x).mpr (Int64.not_lt.mp h))⟩
theorem cteq {x y : Int64} (h : x = y) : ifCond.holds .eq (lcmpW x y) = true ∧ ifCond.holds .ne (lcmpW x y) = false := by
  rw [own_holdsEq, own_holdsNe, own_cmpV, (lc_eq x y).mpr h]; exact ⟨rfl, rfl⟩
theorem cfeq {x y : Int64} (h : ¬ x = y) : ifCond.holds .eq (lcmpW x y) = false ∧ ifCond.holds .ne (lcmpW x y) = true := by
  have q : ¬ lcmpV x y = 0 := fun r => h ((lc_eq x y).mp r)
  rw [own_holdsEq, own_holdsNe, own_cmpV]
  exact ⟨beq_false_of_ne q, bne_iff_ne.mpr q⟩
theorem Arr.keep {Z : State} {h h' : Heap} {a : Addr} {cl : Cell} {ty : FieldType} {ws : List Addr} (F : Arr Z h a cl ty) (K : Keep h h' ws) (q : a ∉ ws) : Arr Z h' a cl ty := ⟨K.2.1 a cl F.1 q, F.2⟩
theorem own_selPriv {y : MethodName} {s : State} {args : Array Value} {n : Nat} (hy : y.cls ≠ "java/lang/invoke/MethodHandle" ∧ y.cls ≠ "java/lang/invoke/VarHandle") (hins : (Cond.instantiable y.cls n).before args s = true) (hpriv : (Cond.privateMethod y).before args s = true) (hinst : (Cond.instanceMethod y).before args s = true) :
    (Cond.selects y.cls y y).before args s = true := by
  obtain ⟨c, k, hc, hk, -, hniab, -, -⟩ := Cond.instantiable_spec hins
  have hni : k.isInterface = false := (Bool.or_eq_false_iff.mp hniab).1
  obtain ⟨mk, methM, hnamed, hmethM, -, -⟩ := Cond.instanceMethod_spec hinst
  have hfound : s.methodFound? y.cls y.name y.desc = some mk := State.methodFound?_of_named hnamed hy
  have hcls : mk.cls = c := Option.some.inj ((findClass_of_methodNamed hnamed).symm.trans hc)
  have hsel : selectMethod {} s.vm c mk = .method mk := selectMethod_private hmethM (Cond.privateMethod_at hpriv mk methM hnamed hmethM)
  simp only [Cond.before, Cond.holds, Cond.value, hc, hfound, hnamed, hsel, hcls, hk]
  simp; exact hni
end New
end Jvm.RoadKit
namespace Jvm.Pilot.@@N@@
open Jvm Jvm.ClassFile Sem Op Lib Jvm.Free Jvm.Stand Jvm.LawKit Jvm.RoadKit Bundle Jvm.Pilot.@@N@@.Jvm.D
def f1 (p1 : Int32) : Int32 :=
  if (p1 &&& (255 : Int32)) < (194 : Int32) then (if (p1 &&& (255 : Int32)) < (224 : Int32) then (if (p1 &&& (255 : Int32)) < (240 : Int32) then (0 : Int32)
      else (if (244 : Int32) < (p1 &&& (255 : Int32)) then (0 : Int32)
        else (4 : Int32)))
    else (if (239 : Int32) < (p1 &&& (255 : Int32)) then (if (p1 &&& (255 : Int32)) < (240 : Int32) then (0 : Int32)
        else (if (244 : Int32) < (p1 &&& (255 : Int32)) then (0 : Int32)
          else (4 : Int32)))
      else (3 : Int32)))
  else (if (223 : Int32) < (p1 &&& (255 : Int32)) then (if (p1 &&& (255 : Int32)) < (224 : Int32) then (if (p1 &&& (255 : Int32)) < (240 : Int32) then (0 : Int32)
        else (if (244 : Int32) < (p1 &&& (255 : Int32)) then (0 : Int32)
          else (4 : Int32)))
      else (if (239 : Int32) < (p1 &&& (255 : Int32)) then (if (p1 &&& (255 : Int32)) < (240 : Int32) then (0 : Int32)
          else (if (244 : Int32) < (p1 &&& (255 : Int32)) then (0 : Int32)
            else (4 : Int32)))
        else (3 : Int32)))
    else (2 : Int32))
theorem d1_0 : decode prog_42_method_7_code 0 = .ok (.iload_n 0, 1) := by decide +kernel
theorem d1_1 : decode prog_42_method_7_code 1 = .ok (.sipush 255, 3) := by decide +kernel
theorem d1_4 : decode prog_42_method_7_code 4 = .ok (.iand, 1) := by decide +kernel
theorem d1_5 : decode prog_42_method_7_code 5 = .ok (.istore_n 1, 1) := by decide +kernel
theorem d1_6 : decode prog_42_method_7_code 6 = .ok (.iconst 0, 1) := by decide +kernel
theorem d1_7 : decode prog_42_method_7_code 7 = .ok (.istore_n 2, 1) := by decide +kernel
theorem d1_8 : decode prog_42_method_7_code 8 = .ok (.iload_n 1, 1) := by decide +kernel
theorem d1_9 : decode prog_42_method_7_code 9 = .ok (.sipush 194, 3) := by decide +kernel
theorem d1_12 : decode prog_42_method_7_code 12 = .ok (.if_icmp .lt 15, 3) := by decide +kernel
theorem d1_15 : decode prog_42_method_7_code 15 = .ok (.iload_n 1, 1) := by decide +kernel
theorem d1_16 : decode prog_42_method_7_code 16 = .ok (.sipush 223, 3) := by decide +kernel
theorem d1_19 : decode prog_42_method_7_code 19 = .ok (.if_icmp .gt 8, 3) := by decide +kernel
theorem d1_22 : decode prog_42_method_7_code 22 = .ok (.iconst 2, 1) := by decide +kernel
theorem d1_23 : decode prog_42_method_7_code 23 = .ok (.istore_n 2, 1) := by decide +kernel
theorem d1_24 : decode prog_42_method_7_code 24 = .ok (.goto 38, 3) := by decide +kernel
theorem d1_27 : decode prog_42_method_7_code 27 = .ok (.iload_n 1, 1) := by decide +kernel
theorem d1_28 : decode prog_42_method_7_code 28 = .ok (.sipush 224, 3) := by decide +kernel
theorem d1_31 : decode prog_42_method_7_code 31 = .ok (.if_icmp .lt 15, 3) := by decide +kernel
theorem d1_34 : decode prog_42_method_7_code 34 = .ok (.iload_n 1, 1) := by decide +kernel
theorem d1_35 : decode prog_42_method_7_code 35 = .ok (.sipush 239, 3) := by decide +kernel
theorem d1_38 : decode prog_42_method_7_code 38 = .ok (.if_icmp .gt 8, 3) := by decide +kernel
theorem d1_41 : decode prog_42_method_7_code 41 = .ok (.iconst 3, 1) := by decide +kernel
theorem d1_42 : decode prog_42_method_7_code 42 = .ok (.istore_n 2, 1) := by decide +kernel
theorem d1_43 : decode prog_42_method_7_code 43 = .ok (.goto 19, 3) := by decide +kernel
theorem d1_46 : decode prog_42_method_7_code 46 = .ok (.iload_n 1, 1) := by decide +kernel
theorem d1_47 : decode prog_42_method_7_code 47 = .ok (.sipush 240, 3) := by decide +kernel
theorem d1_50 : decode prog_42_method_7_code 50 = .ok (.if_icmp .lt 12, 3) := by decide +kernel
theorem d1_53 : decode prog_42_method_7_code 53 = .ok (.iload_n 1, 1) := by decide +kernel
theorem d1_54 : decode prog_42_method_7_code 54 = .ok (.sipush 244, 3) := by decide +kernel
theorem d1_57 : decode prog_42_method_7_code 57 = .ok (.if_icmp .gt 5, 3) := by decide +kernel
theorem d1_60 : decode prog_42_method_7_code 60 = .ok (.iconst 4, 1) := by decide +kernel
theorem d1_61 : decode prog_42_method_7_code 61 = .ok (.istore_n 2, 1) := by decide +kernel
theorem d1_62 : decode prog_42_method_7_code 62 = .ok (.iload_n 2, 1) := by decide +kernel
theorem d1_63 : decode prog_42_method_7_code 63 = .ok (.ireturn, 1) := by decide +kernel
theorem pn_0 : plainName "com/example/tillscan/tillscan/core/Utf8" = true := by first | (simp [plainName, overriddenIn]; done) | decide +kernel
theorem ef_1 (m : MethodId) (x0 : Int32) : entryFrame m #[(.int x0)] 3 = mkF m 0 #[.val (.int x0), .unset, .unset] [] := by first | (simp [entryFrame, mkF, argsToLocals, Value.category]; done) | rfl
def Q1 (Z : State) (p1 : Int32) (h0 : Heap) (n0 : Nat) (v : Option Value) (h : Heap) (L : List Loc) : Prop := v = some (.int (f1 p1)) ∧ Fr n0 L ∧ h = h0
set_option maxRecDepth 65536 in
set_option maxHeartbeats 40000000 in
theorem rm1 (l : Launch) (Z : State) (a0 : Array Value) (hw : ∀ d ∈ tables_1, d.before a0 Z = true) (ws : List Jvm.Cond) (p1 : Int32) (h0 : Heap) (n0 : Nat) (Z0 : n0 ≤ h0.size) :
    MetFree l (⟨"com/example/tillscan/tillscan/core/Utf8", "length", "(B)I"⟩ : MethodName) (head1 (Jvm.Cond.code (⟨"com/example/tillscan/tillscan/core/Utf8", "length", "(B)I"⟩ : MethodName) prog_42_method_7_code 3 (some .int) :: ws) ({ frames := 0, cells := 0, slots := 0, locals := 0 } : Room)) (fun a U => a = #[(.int p1)] ∧ Z.Warmed39 U.vm ∧ U.heap = h0) (fun _ _ _ _ _ => True) (fun _ U o U' => ∃ v L, o = .returned v ∧ Q1 Z p1 h0 n0 v U'.heap L ∧ FrameEnd U o U' L ({ frames := 0, cells := 0, slots := 0, locals := 0 } : Room).cells ({ frames := 0, cells := 0, slots := 0, locals := 0 } : Room).slots) := by
  refine MetFree.of_bodySF (plainFor_of_name pn_0) hisR ?_
  intro p e s m args below meth c s₁ Bd hml0 hP hK
  obtain ⟨rfl, hZ, hh⟩ := hP
  have hx := Bd.exec
  have hby := Bd.bytes
  have hml : c.maxLocals = 3 := hml0
  have hown : s.vm.findClass "com/example/tillscan/tillscan/core/Utf8" = some m.cls := findClass_of_methodNamed Bd.named
  have hnm := (name_of_methodNamed Bd.named Bd.method).1
  have X0 : Stand p l e ({ frames := 0, cells := 0, slots := 0, locals := 0 } : Room) s m #[(.int p1)] below meth c s₁ [] 0 0 := Stand.of_body Bd
  have e0 : s₁.heap = h0 := by rw [← hh, Bd.state]; rfl
  have N0 := Fr.nil n0
  refine Go.start (ef_1 m p1) ?_
  show Go p e below s₁ (mkF m 0 #[.val (.int p1), .unset, .unset] []) _
  refine Go.by (fun t k => XS.iloadN X0.here hx rfl (hb hby d1_0) rfl k) ?_
  show Go p e below s₁ (mkF m 1 #[.val (.int p1), .unset, .unset] [(.int p1)]) _
  refine Go.by (fun t k => XS.sipush X0.here hx rfl (hb hby d1_1) k) ?_
  show Go p e below s₁ (mkF m 4 #[.val (.int p1), .unset, .unset] [(.int (255 : Int32)), (.int p1)]) _
  refine Go.by (fun t k => XS.iand X0.here hx rfl (hb hby d1_4) rfl k) ?_
  show Go p e below s₁ (mkF m 5 #[.val (.int p1), .unset, .unset] [(.int (p1 &&& (255 : Int32)))]) _
  refine Go.by (fun t k => XS.istoreN X0.here hx rfl (hb hby d1_5) rfl (l' := #[.val (.int p1), .val (.int (p1 &&& (255 : Int32))), .unset]) rfl k) ?_
  show Go p e below s₁ (mkF m 6 #[.val (.int p1), .val (.int (p1 &&& (255 : Int32))), .unset] []) _
  refine Go.by (fun t k => XS.iconst X0.here hx rfl (hb hby d1_6) k) ?_
  show Go p e below s₁ (mkF m 7 #[.val (.int p1), .val (.int (p1 &&& (255 : Int32))), .unset] [(.int (0 : Int32))]) _
  refine Go.by (fun t k => XS.istoreN X0.here hx rfl (hb hby d1_7) rfl (l' := #[.val (.int p1), .val (.int (p1 &&& (255 : Int32))), .val (.int (0 : Int32))]) rfl k) ?_
  show Go p e below s₁ (mkF m 8 #[.val (.int p1), .val (.int (p1 &&& (255 : Int32))), .val (.int (0 : Int32))] []) _
  refine Go.by (fun t k => XS.iloadN X0.here hx rfl (hb hby d1_8) rfl k) ?_
  show Go p e below s₁ (mkF m 9 #[.val (.int p1), .val (.int (p1 &&& (255 : Int32))), .val (.int (0 : Int32))] [(.int (p1 &&& (255 : Int32)))]) _
  refine Go.by (fun t k => XS.sipush X0.here hx rfl (hb hby d1_9) k) ?_
  show Go p e below s₁ (mkF m 12 #[.val (.int p1), .val (.int (p1 &&& (255 : Int32))), .val (.int (0 : Int32))] [(.int (194 : Int32)), (.int (p1 &&& (255 : Int32)))]) _
  by_cases hc1 : (p1 &&& (255 : Int32)) < (194 : Int32)
  · refine Go.by (fun t k => XS.icmpYes X0.here hx rfl (pc0 := 12) (pc' := 27) rfl (hb hby d1_12) rfl (tlt hc1).1 (by decide) (by decide) k) ?_
    show Go p e below s₁ (mkF m 27 #[.val (.int p1), .val (.int (p1 &&& (255 : Int32))), .val (.int (0 : Int32))] []) _
    refine Go.by (fun t k => XS.iloadN X0.here hx rfl (hb hby d1_27) rfl k) ?_
    show Go p e below s₁ (mkF m 28 #[.val (.int p1), .val (.int (p1 &&& (255 : Int32))), .val (.int (0 : Int32))] [(.int (p1 &&& (255 : Int32)))]) _
    refine Go.by (fun t k => XS.sipush X0.here hx rfl (hb hby d1_28) k) ?_
    show Go p e below s₁ (mkF m 31 #[.val (.int p1), .val (.int (p1 &&& (255 : Int32))), .val (.int (0 : Int32))] [(.int (224 : Int32)), (.int (p1 &&& (255 : Int32)))]) _
    by_cases hc2 : (p1 &&& (255 : Int32)) < (224 : Int32)
    · refine Go.by (fun t k => XS.icmpYes X0.here hx rfl (pc0 := 31) (pc' := 46) rfl (hb hby d1_31) rfl (tlt hc2).1 (by decide) (by decide) k) ?_
      show Go p e below s₁ (mkF m 46 #[.val (.int p1), .val (.int (p1 &&& (255 : Int32))), .val (.int (0 : Int32))] []) _
      refine Go.by (fun t k => XS.iloadN X0.here hx rfl (hb hby d1_46) rfl k) ?_
      show Go p e below s₁ (mkF m 47 #[.val (.int p1), .val (.int (p1 &&& (255 : Int32))), .val (.int (0 : Int32))] [(.int (p1 &&& (255 : Int32)))]) _
      refine Go.by (fun t k => XS.sipush X0.here hx rfl (hb hby d1_47) k) ?_
      show Go p e below s₁ (mkF m 50 #[.val (.int p1), .val (.int (p1 &&& (255 : Int32))), .val (.int (0 : Int32))] [(.int (240 : Int32)), (.int (p1 &&& (255 : Int32)))]) _
      by_cases hc3 : (p1 &&& (255 : Int32)) < (240 : Int32)
      · refine Go.by (fun t k => XS.icmpYes X0.here hx rfl (pc0 := 50) (pc' := 62) rfl (hb hby d1_50) rfl (tlt hc3).1 (by decide) (by decide) k) ?_
        show Go p e below s₁ (mkF m 62 #[.val (.int p1), .val (.int (p1 &&& (255 : Int32))), .val (.int (0 : Int32))] []) _
        refine Go.by (fun t k => XS.iloadN X0.here hx rfl (hb hby d1_62) rfl k) ?_
        show Go p e below s₁ (mkF m 63 #[.val (.int p1), .val (.int (p1 &&& (255 : Int32))), .val (.int (0 : Int32))] [(.int (0 : Int32))]) _
        obtain ⟨fs, hr, hrun, hended, hW, hsame⟩ := X0.leave (v := some (.int (0 : Int32))) (fun h => by rw [Bd.returns] at h; cases h)
        refine Go.done (retI X0 hx Bd.returns (hb hby d1_63) hr) hrun hended ⟨_, _, rfl, ?_, ⟨_, rfl⟩, hW, hsame.mono (by decide) (by decide)⟩
        show Q1 Z p1 h0 n0 _ s₁.heap _
        rw [e0]
        refine ⟨?_, N0, rfl⟩
        rw [f1, if_pos hc1, if_pos hc2, if_pos hc3]
      · refine Go.by (fun t k => XS.icmpNo X0.here hx rfl (hb hby d1_50) rfl (flt hc3).1 k) ?_
        show Go p e below s₁ (mkF m 53 #[.val (.int p1), .val (.int (p1 &&& (255 : Int32))), .val (.int (0 : Int32))] []) _
        refine Go.by (fun t k => XS.iloadN X0.here hx rfl (hb hby d1_53) rfl k) ?_
        show Go p e below s₁ (mkF m 54 #[.val (.int p1), .val (.int (p1 &&& (255 : Int32))), .val (.int (0 : Int32))] [(.int (p1 &&& (255 : Int32)))]) _
        refine Go.by (fun t k => XS.sipush X0.here hx rfl (hb hby d1_54) k) ?_
        show Go p e below s₁ (mkF m 57 #[.val (.int p1), .val (.int (p1 &&& (255 : Int32))), .val (.int (0 : Int32))] [(.int (244 : Int32)), (.int (p1 &&& (255 : Int32)))]) _
        by_cases hc4 : (244 : Int32) < (p1 &&& (255 : Int32))
        · refine Go.by (fun t k => XS.icmpYes X0.here hx rfl (pc0 := 57) (pc' := 62) rfl (hb hby d1_57) rfl (tlt hc4).2.2.1 (by decide) (by decide) k) ?_
          show Go p e below s₁ (mkF m 62 #[.val (.int p1), .val (.int (p1 &&& (255 : Int32))), .val (.int (0 : Int32))] []) _
          refine Go.by (fun t k => XS.iloadN X0.here hx rfl (hb hby d1_62) rfl k) ?_
          show Go p e below s₁ (mkF m 63 #[.val (.int p1), .val (.int (p1 &&& (255 : Int32))), .val (.int (0 : Int32))] [(.int (0 : Int32))]) _
          obtain ⟨fs, hr, hrun, hended, hW, hsame⟩ := X0.leave (v := some (.int (0 : Int32))) (fun h => by rw [Bd.returns] at h; cases h)
          refine Go.done (retI X0 hx Bd.returns (hb hby d1_63) hr) hrun hended ⟨_, _, rfl, ?_, ⟨_, rfl⟩, hW, hsame.mono (by decide) (by decide)⟩
          show Q1 Z p1 h0 n0 _ s₁.heap _
          rw [e0]
          refine ⟨?_, N0, rfl⟩
          rw [f1, if_pos hc1, if_pos hc2, if_neg hc3, if_pos hc4]
        · refine Go.by (fun t k => XS.icmpNo X0.here hx rfl (hb hby d1_57) rfl (flt hc4).2.2.1 k) ?_
          show Go p e below s₁ (mkF m 60 #[.val (.int p1), .val (.int (p1 &&& (255 : Int32))), .val (.int (0 : Int32))] []) _
          refine Go.by (fun t k => XS.iconst X0.here hx rfl (hb hby d1_60) k) ?_
          show Go p e below s₁ (mkF m 61 #[.val (.int p1), .val (.int (p1 &&& (255 : Int32))), .val (.int (0 : Int32))] [(.int (4 : Int32))]) _
          refine Go.by (fun t k => XS.istoreN X0.here hx rfl (hb hby d1_61) rfl (l' := #[.val (.int p1), .val (.int (p1 &&& (255 : Int32))), .val (.int (4 : Int32))]) rfl k) ?_
          show Go p e below s₁ (mkF m 62 #[.val (.int p1), .val (.int (p1 &&& (255 : Int32))), .val (.int (4 : Int32))] []) _
          refine Go.by (fun t k => XS.iloadN X0.here hx rfl (hb hby d1_62) rfl k) ?_
          show Go p e below s₁ (mkF m 63 #[.val (.int p1), .val (.int (p1 &&& (255 : Int32))), .val (.int (4 : Int32))] [(.int (4 : Int32))]) _
          obtain ⟨fs, hr, hrun, hended, hW, hsame⟩ := X0.leave (v := some (.int (4 : Int32))) (fun h => by rw [Bd.returns] at h; cases h)
          refine Go.done (retI X0 hx Bd.returns (hb hby d1_63) hr) hrun hended ⟨_, _, rfl, ?_, ⟨_, rfl⟩, hW, hsame.mono (by decide) (by decide)⟩
          show Q1 Z p1 h0 n0 _ s₁.heap _
          rw [e0]
          refine ⟨?_, N0, rfl⟩
          rw [f1, if_pos hc1, if_pos hc2, if_neg hc3, if_neg hc4]
    · refine Go.by (fun t k => XS.icmpNo X0.here hx rfl (hb hby d1_31) rfl (flt hc2).1 k) ?_
      show Go p e below s₁ (mkF m 34 #[.val (.int p1), .val (.int (p1 &&& (255 : Int32))), .val (.int (0 : Int32))] []) _
      refine Go.by (fun t k => XS.iloadN X0.here hx rfl (hb hby d1_34) rfl k) ?_
      show Go p e below s₁ (mkF m 35 #[.val (.int p1), .val (.int (p1 &&& (255 : Int32))), .val (.int (0 : Int32))] [(.int (p1 &&& (255 : Int32)))]) _
      refine Go.by (fun t k => XS.sipush X0.here hx rfl (hb hby d1_35) k) ?_
      show Go p e below s₁ (mkF m 38 #[.val (.int p1), .val (.int (p1 &&& (255 : Int32))), .val (.int (0 : Int32))] [(.int (239 : Int32)), (.int (p1 &&& (255 : Int32)))]) _
      by_cases hc5 : (239 : Int32) < (p1 &&& (255 : Int32))
      · refine Go.by (fun t k => XS.icmpYes X0.here hx rfl (pc0 := 38) (pc' := 46) rfl (hb hby d1_38) rfl (tlt hc5).2.2.1 (by decide) (by decide) k) ?_
        show Go p e below s₁ (mkF m 46 #[.val (.int p1), .val (.int (p1 &&& (255 : Int32))), .val (.int (0 : Int32))] []) _
        refine Go.by (fun t k => XS.iloadN X0.here hx rfl (hb hby d1_46) rfl k) ?_
        show Go p e below s₁ (mkF m 47 #[.val (.int p1), .val (.int (p1 &&& (255 : Int32))), .val (.int (0 : Int32))] [(.int (p1 &&& (255 : Int32)))]) _
        refine Go.by (fun t k => XS.sipush X0.here hx rfl (hb hby d1_47) k) ?_
        show Go p e below s₁ (mkF m 50 #[.val (.int p1), .val (.int (p1 &&& (255 : Int32))), .val (.int (0 : Int32))] [(.int (240 : Int32)), (.int (p1 &&& (255 : Int32)))]) _
        by_cases hc6 : (p1 &&& (255 : Int32)) < (240 : Int32)
        · refine Go.by (fun t k => XS.icmpYes X0.here hx rfl (pc0 := 50) (pc' := 62) rfl (hb hby d1_50) rfl (tlt hc6).1 (by decide) (by decide) k) ?_
          show Go p e below s₁ (mkF m 62 #[.val (.int p1), .val (.int (p1 &&& (255 : Int32))), .val (.int (0 : Int32))] []) _
          refine Go.by (fun t k => XS.iloadN X0.here hx rfl (hb hby d1_62) rfl k) ?_
          show Go p e below s₁ (mkF m 63 #[.val (.int p1), .val (.int (p1 &&& (255 : Int32))), .val (.int (0 : Int32))] [(.int (0 : Int32))]) _
          obtain ⟨fs, hr, hrun, hended, hW, hsame⟩ := X0.leave (v := some (.int (0 : Int32))) (fun h => by rw [Bd.returns] at h; cases h)
          refine Go.done (retI X0 hx Bd.returns (hb hby d1_63) hr) hrun hended ⟨_, _, rfl, ?_, ⟨_, rfl⟩, hW, hsame.mono (by decide) (by decide)⟩
          show Q1 Z p1 h0 n0 _ s₁.heap _
          rw [e0]
          refine ⟨?_, N0, rfl⟩
          rw [f1, if_pos hc1, if_neg hc2, if_pos hc5, if_pos hc6]
        · refine Go.by (fun t k => XS.icmpNo X0.here hx rfl (hb hby d1_50) rfl (flt hc6).1 k) ?_
          show Go p e below s₁ (mkF m 53 #[.val (.int p1), .val (.int (p1 &&& (255 : Int32))), .val (.int (0 : Int32))] []) _
          refine Go.by (fun t k => XS.iloadN X0.here hx rfl (hb hby d1_53) rfl k) ?_
          show Go p e below s₁ (mkF m 54 #[.val (.int p1), .val (.int (p1 &&& (255 : Int32))), .val (.int (0 : Int32))] [(.int (p1 &&& (255 : Int32)))]) _
          refine Go.by (fun t k => XS.sipush X0.here hx rfl (hb hby d1_54) k) ?_
          show Go p e below s₁ (mkF m 57 #[.val (.int p1), .val (.int (p1 &&& (255 : Int32))), .val (.int (0 : Int32))] [(.int (244 : Int32)), (.int (p1 &&& (255 : Int32)))]) _
          by_cases hc7 : (244 : Int32) < (p1 &&& (255 : Int32))
          · refine Go.by (fun t k => XS.icmpYes X0.here hx rfl (pc0 := 57) (pc' := 62) rfl (hb hby d1_57) rfl (tlt hc7).2.2.1 (by decide) (by decide) k) ?_
            show Go p e below s₁ (mkF m 62 #[.val (.int p1), .val (.int (p1 &&& (255 : Int32))), .val (.int (0 : Int32))] []) _
            refine Go.by (fun t k => XS.iloadN X0.here hx rfl (hb hby d1_62) rfl k) ?_
            show Go p e below s₁ (mkF m 63 #[.val (.int p1), .val (.int (p1 &&& (255 : Int32))), .val (.int (0 : Int32))] [(.int (0 : Int32))]) _
            obtain ⟨fs, hr, hrun, hended, hW, hsame⟩ := X0.leave (v := some (.int (0 : Int32))) (fun h => by rw [Bd.returns] at h; cases h)
            refine Go.done (retI X0 hx Bd.returns (hb hby d1_63) hr) hrun hended ⟨_, _, rfl, ?_, ⟨_, rfl⟩, hW, hsame.mono (by decide) (by decide)⟩
            show Q1 Z p1 h0 n0 _ s₁.heap _
            rw [e0]
            refine ⟨?_, N0, rfl⟩
            rw [f1, if_pos hc1, if_neg hc2, if_pos hc5, if_neg hc6, if_pos hc7]
          · refine Go.by (fun t k => XS.icmpNo X0.here hx rfl (hb hby d1_57) rfl (flt hc7).2.2.1 k) ?_
            show Go p e below s₁ (mkF m 60 #[.val (.int p1), .val (.int (p1 &&& (255 : Int32))), .val (.int (0 : Int32))] []) _
            refine Go.by (fun t k => XS.iconst X0.here hx rfl (hb hby d1_60) k) ?_
            show Go p e below s₁ (mkF m 61 #[.val (.int p1), .val (.int (p1 &&& (255 : Int32))), .val (.int (0 : Int32))] [(.int (4 : Int32))]) _
            refine Go.by (fun t k => XS.istoreN X0.here hx rfl (hb hby d1_61) rfl (l' := #[.val (.int p1), .val (.int (p1 &&& (255 : Int32))), .val (.int (4 : Int32))]) rfl k) ?_
            show Go p e below s₁ (mkF m 62 #[.val (.int p1), .val (.int (p1 &&& (255 : Int32))), .val (.int (4 : Int32))] []) _
            refine Go.by (fun t k => XS.iloadN X0.here hx rfl (hb hby d1_62) rfl k) ?_
            show Go p e below s₁ (mkF m 63 #[.val (.int p1), .val (.int (p1 &&& (255 : Int32))), .val (.int (4 : Int32))] [(.int (4 : Int32))]) _
            obtain ⟨fs, hr, hrun, hended, hW, hsame⟩ := X0.leave (v := some (.int (4 : Int32))) (fun h => by rw [Bd.returns] at h; cases h)
            refine Go.done (retI X0 hx Bd.returns (hb hby d1_63) hr) hrun hended ⟨_, _, rfl, ?_, ⟨_, rfl⟩, hW, hsame.mono (by decide) (by decide)⟩
            show Q1 Z p1 h0 n0 _ s₁.heap _
            rw [e0]
            refine ⟨?_, N0, rfl⟩
            rw [f1, if_pos hc1, if_neg hc2, if_pos hc5, if_neg hc6, if_neg hc7]
      · refine Go.by (fun t k => XS.icmpNo X0.here hx rfl (hb hby d1_38) rfl (flt hc5).2.2.1 k) ?_
        show Go p e below s₁ (mkF m 41 #[.val (.int p1), .val (.int (p1 &&& (255 : Int32))), .val (.int (0 : Int32))] []) _
        refine Go.by (fun t k => XS.iconst X0.here hx rfl (hb hby d1_41) k) ?_
        show Go p e below s₁ (mkF m 42 #[.val (.int p1), .val (.int (p1 &&& (255 : Int32))), .val (.int (0 : Int32))] [(.int (3 : Int32))]) _
        refine Go.by (fun t k => XS.istoreN X0.here hx rfl (hb hby d1_42) rfl (l' := #[.val (.int p1), .val (.int (p1 &&& (255 : Int32))), .val (.int (3 : Int32))]) rfl k) ?_
        show Go p e below s₁ (mkF m 43 #[.val (.int p1), .val (.int (p1 &&& (255 : Int32))), .val (.int (3 : Int32))] []) _
        refine Go.by (fun t k => XS.goto X0.here hx rfl (pc0 := 43) (pc' := 62) rfl (hb hby d1_43) (by decide) (by decide) k) ?_
        show Go p e below s₁ (mkF m 62 #[.val (.int p1), .val (.int (p1 &&& (255 : Int32))), .val (.int (3 : Int32))] []) _
        refine Go.by (fun t k => XS.iloadN X0.here hx rfl (hb hby d1_62) rfl k) ?_
        show Go p e below s₁ (mkF m 63 #[.val (.int p1), .val (.int (p1 &&& (255 : Int32))), .val (.int (3 : Int32))] [(.int (3 : Int32))]) _
        obtain ⟨fs, hr, hrun, hended, hW, hsame⟩ := X0.leave (v := some (.int (3 : Int32))) (fun h => by rw [Bd.returns] at h; cases h)
        refine Go.done (retI X0 hx Bd.returns (hb hby d1_63) hr) hrun hended ⟨_, _, rfl, ?_, ⟨_, rfl⟩, hW, hsame.mono (by decide) (by decide)⟩
        show Q1 Z p1 h0 n0 _ s₁.heap _
        rw [e0]
        refine ⟨?_, N0, rfl⟩
        rw [f1, if_pos hc1, if_neg hc2, if_neg hc5]
  · refine Go.by (fun t k => XS.icmpNo X0.here hx rfl (hb hby d1_12) rfl (flt hc1).1 k) ?_
    show Go p e below s₁ (mkF m 15 #[.val (.int p1), .val (.int (p1 &&& (255 : Int32))), .val (.int (0 : Int32))] []) _
    refine Go.by (fun t k => XS.iloadN X0.here hx rfl (hb hby d1_15) rfl k) ?_
    show Go p e below s₁ (mkF m 16 #[.val (.int p1), .val (.int (p1 &&& (255 : Int32))), .val (.int (0 : Int32))] [(.int (p1 &&& (255 : Int32)))]) _
    refine Go.by (fun t k => XS.sipush X0.here hx rfl (hb hby d1_16) k) ?_
    show Go p e below s₁ (mkF m 19 #[.val (.int p1), .val (.int (p1 &&& (255 : Int32))), .val (.int (0 : Int32))] [(.int (223 : Int32)), (.int (p1 &&& (255 : Int32)))]) _
    by_cases hc8 : (223 : Int32) < (p1 &&& (255 : Int32))
    · refine Go.by (fun t k => XS.icmpYes X0.here hx rfl (pc0 := 19) (pc' := 27) rfl (hb hby d1_19) rfl (tlt hc8).2.2.1 (by decide) (by decide) k) ?_
      show Go p e below s₁ (mkF m 27 #[.val (.int p1), .val (.int (p1 &&& (255 : Int32))), .val (.int (0 : Int32))] []) _
      refine Go.by (fun t k => XS.iloadN X0.here hx rfl (hb hby d1_27) rfl k) ?_
      show Go p e below s₁ (mkF m 28 #[.val (.int p1), .val (.int (p1 &&& (255 : Int32))), .val (.int (0 : Int32))] [(.int (p1 &&& (255 : Int32)))]) _
      refine Go.by (fun t k => XS.sipush X0.here hx rfl (hb hby d1_28) k) ?_
      show Go p e below s₁ (mkF m 31 #[.val (.int p1), .val (.int (p1 &&& (255 : Int32))), .val (.int (0 : Int32))] [(.int (224 : Int32)), (.int (p1 &&& (255 : Int32)))]) _
      by_cases hc9 : (p1 &&& (255 : Int32)) < (224 : Int32)
      · refine Go.by (fun t k => XS.icmpYes X0.here hx rfl (pc0 := 31) (pc' := 46) rfl (hb hby d1_31) rfl (tlt hc9).1 (by decide) (by decide) k) ?_
        show Go p e below s₁ (mkF m 46 #[.val (.int p1), .val (.int (p1 &&& (255 : Int32))), .val (.int (0 : Int32))] []) _
        refine Go.by (fun t k => XS.iloadN X0.here hx rfl (hb hby d1_46) rfl k) ?_
        show Go p e below s₁ (mkF m 47 #[.val (.int p1), .val (.int (p1 &&& (255 : Int32))), .val (.int (0 : Int32))] [(.int (p1 &&& (255 : Int32)))]) _
        refine Go.by (fun t k => XS.sipush X0.here hx rfl (hb hby d1_47) k) ?_
        show Go p e below s₁ (mkF m 50 #[.val (.int p1), .val (.int (p1 &&& (255 : Int32))), .val (.int (0 : Int32))] [(.int (240 : Int32)), (.int (p1 &&& (255 : Int32)))]) _
        by_cases hc10 : (p1 &&& (255 : Int32)) < (240 : Int32)
        · refine Go.by (fun t k => XS.icmpYes X0.here hx rfl (pc0 := 50) (pc' := 62) rfl (hb hby d1_50) rfl (tlt hc10).1 (by decide) (by decide) k) ?_
          show Go p e below s₁ (mkF m 62 #[.val (.int p1), .val (.int (p1 &&& (255 : Int32))), .val (.int (0 : Int32))] []) _
          refine Go.by (fun t k => XS.iloadN X0.here hx rfl (hb hby d1_62) rfl k) ?_
          show Go p e below s₁ (mkF m 63 #[.val (.int p1), .val (.int (p1 &&& (255 : Int32))), .val (.int (0 : Int32))] [(.int (0 : Int32))]) _
          obtain ⟨fs, hr, hrun, hended, hW, hsame⟩ := X0.leave (v := some (.int (0 : Int32))) (fun h => by rw [Bd.returns] at h; cases h)
          refine Go.done (retI X0 hx Bd.returns (hb hby d1_63) hr) hrun hended ⟨_, _, rfl, ?_, ⟨_, rfl⟩, hW, hsame.mono (by decide) (by decide)⟩
          show Q1 Z p1 h0 n0 _ s₁.heap _
          rw [e0]
          refine ⟨?_, N0, rfl⟩
          rw [f1, if_neg hc1, if_pos hc8, if_pos hc9, if_pos hc10]
        · refine Go.by (fun t k => XS.icmpNo X0.here hx rfl (hb hby d1_50) rfl (flt hc10).1 k) ?_
          show Go p e below s₁ (mkF m 53 #[.val (.int p1), .val (.int (p1 &&& (255 : Int32))), .val (.int (0 : Int32))] []) _
          refine Go.by (fun t k => XS.iloadN X0.here hx rfl (hb hby d1_53) rfl k) ?_
          show Go p e below s₁ (mkF m 54 #[.val (.int p1), .val (.int (p1 &&& (255 : Int32))), .val (.int (0 : Int32))] [(.int (p1 &&& (255 : Int32)))]) _
          refine Go.by (fun t k => XS.sipush X0.here hx rfl (hb hby d1_54) k) ?_
          show Go p e below s₁ (mkF m 57 #[.val (.int p1), .val (.int (p1 &&& (255 : Int32))), .val (.int (0 : Int32))] [(.int (244 : Int32)), (.int (p1 &&& (255 : Int32)))]) _
          by_cases hc11 : (244 : Int32) < (p1 &&& (255 : Int32))
          · refine Go.by (fun t k => XS.icmpYes X0.here hx rfl (pc0 := 57) (pc' := 62) rfl (hb hby d1_57) rfl (tlt hc11).2.2.1 (by decide) (by decide) k) ?_
            show Go p e below s₁ (mkF m 62 #[.val (.int p1), .val (.int (p1 &&& (255 : Int32))), .val (.int (0 : Int32))] []) _
            refine Go.by (fun t k => XS.iloadN X0.here hx rfl (hb hby d1_62) rfl k) ?_
            show Go p e below s₁ (mkF m 63 #[.val (.int p1), .val (.int (p1 &&& (255 : Int32))), .val (.int (0 : Int32))] [(.int (0 : Int32))]) _
            obtain ⟨fs, hr, hrun, hended, hW, hsame⟩ := X0.leave (v := some (.int (0 : Int32))) (fun h => by rw [Bd.returns] at h; cases h)
            refine Go.done (retI X0 hx Bd.returns (hb hby d1_63) hr) hrun hended ⟨_, _, rfl, ?_, ⟨_, rfl⟩, hW, hsame.mono (by decide) (by decide)⟩
            show Q1 Z p1 h0 n0 _ s₁.heap _
            rw [e0]
            refine ⟨?_, N0, rfl⟩
            rw [f1, if_neg hc1, if_pos hc8, if_pos hc9, if_neg hc10, if_pos hc11]
          · refine Go.by (fun t k => XS.icmpNo X0.here hx rfl (hb hby d1_57) rfl (flt hc11).2.2.1 k) ?_
            show Go p e below s₁ (mkF m 60 #[.val (.int p1), .val (.int (p1 &&& (255 : Int32))), .val (.int (0 : Int32))] []) _
            refine Go.by (fun t k => XS.iconst X0.here hx rfl (hb hby d1_60) k) ?_
            show Go p e below s₁ (mkF m 61 #[.val (.int p1), .val (.int (p1 &&& (255 : Int32))), .val (.int (0 : Int32))] [(.int (4 : Int32))]) _
            refine Go.by (fun t k => XS.istoreN X0.here hx rfl (hb hby d1_61) rfl (l' := #[.val (.int p1), .val (.int (p1 &&& (255 : Int32))), .val (.int (4 : Int32))]) rfl k) ?_
            show Go p e below s₁ (mkF m 62 #[.val (.int p1), .val (.int (p1 &&& (255 : Int32))), .val (.int (4 : Int32))] []) _
            refine Go.by (fun t k => XS.iloadN X0.here hx rfl (hb hby d1_62) rfl k) ?_
            show Go p e below s₁ (mkF m 63 #[.val (.int p1), .val (.int (p1 &&& (255 : Int32))), .val (.int (4 : Int32))] [(.int (4 : Int32))]) _
            obtain ⟨fs, hr, hrun, hended, hW, hsame⟩ := X0.leave (v := some (.int (4 : Int32))) (fun h => by rw [Bd.returns] at h; cases h)
            refine Go.done (retI X0 hx Bd.returns (hb hby d1_63) hr) hrun hended ⟨_, _, rfl, ?_, ⟨_, rfl⟩, hW, hsame.mono (by decide) (by decide)⟩
            show Q1 Z p1 h0 n0 _ s₁.heap _
            rw [e0]
            refine ⟨?_, N0, rfl⟩
            rw [f1, if_neg hc1, if_pos hc8, if_pos hc9, if_neg hc10, if_neg hc11]
      · refine Go.by (fun t k => XS.icmpNo X0.here hx rfl (hb hby d1_31) rfl (flt hc9).1 k) ?_
        show Go p e below s₁ (mkF m 34 #[.val (.int p1), .val (.int (p1 &&& (255 : Int32))), .val (.int (0 : Int32))] []) _
        refine Go.by (fun t k => XS.iloadN X0.here hx rfl (hb hby d1_34) rfl k) ?_
        show Go p e below s₁ (mkF m 35 #[.val (.int p1), .val (.int (p1 &&& (255 : Int32))), .val (.int (0 : Int32))] [(.int (p1 &&& (255 : Int32)))]) _
        refine Go.by (fun t k => XS.sipush X0.here hx rfl (hb hby d1_35) k) ?_
        show Go p e below s₁ (mkF m 38 #[.val (.int p1), .val (.int (p1 &&& (255 : Int32))), .val (.int (0 : Int32))] [(.int (239 : Int32)), (.int (p1 &&& (255 : Int32)))]) _
        by_cases hc12 : (239 : Int32) < (p1 &&& (255 : Int32))
        · refine Go.by (fun t k => XS.icmpYes X0.here hx rfl (pc0 := 38) (pc' := 46) rfl (hb hby d1_38) rfl (tlt hc12).2.2.1 (by decide) (by decide) k) ?_
          show Go p e below s₁ (mkF m 46 #[.val (.int p1), .val (.int (p1 &&& (255 : Int32))), .val (.int (0 : Int32))] []) _
          refine Go.by (fun t k => XS.iloadN X0.here hx rfl (hb hby d1_46) rfl k) ?_
          show Go p e below s₁ (mkF m 47 #[.val (.int p1), .val (.int (p1 &&& (255 : Int32))), .val (.int (0 : Int32))] [(.int (p1 &&& (255 : Int32)))]) _
          refine Go.by (fun t k => XS.sipush X0.here hx rfl (hb hby d1_47) k) ?_
          show Go p e below s₁ (mkF m 50 #[.val (.int p1), .val (.int (p1 &&& (255 : Int32))), .val (.int (0 : Int32))] [(.int (240 : Int32)), (.int (p1 &&& (255 : Int32)))]) _
          by_cases hc13 : (p1 &&& (255 : Int32)) < (240 : Int32)
          · refine Go.by (fun t k => XS.icmpYes X0.here hx rfl (pc0 := 50) (pc' := 62) rfl (hb hby d1_50) rfl (tlt hc13).1 (by decide) (by decide) k) ?_
            show Go p e below s₁ (mkF m 62 #[.val (.int p1), .val (.int (p1 &&& (255 : Int32))), .val (.int (0 : Int32))] []) _
            refine Go.by (fun t k => XS.iloadN X0.here hx rfl (hb hby d1_62) rfl k) ?_
            show Go p e below s₁ (mkF m 63 #[.val (.int p1), .val (.int (p1 &&& (255 : Int32))), .val (.int (0 : Int32))] [(.int (0 : Int32))]) _
            obtain ⟨fs, hr, hrun, hended, hW, hsame⟩ := X0.leave (v := some (.int (0 : Int32))) (fun h => by rw [Bd.returns] at h; cases h)
            refine Go.done (retI X0 hx Bd.returns (hb hby d1_63) hr) hrun hended ⟨_, _, rfl, ?_, ⟨_, rfl⟩, hW, hsame.mono (by decide) (by decide)⟩
            show Q1 Z p1 h0 n0 _ s₁.heap _
            rw [e0]
            refine ⟨?_, N0, rfl⟩
            rw [f1, if_neg hc1, if_pos hc8, if_neg hc9, if_pos hc12, if_pos hc13]
          · refine Go.by (fun t k => XS.icmpNo X0.here hx rfl (hb hby d1_50) rfl (flt hc13).1 k) ?_
            show Go p e below s₁ (mkF m 53 #[.val (.int p1), .val (.int (p1 &&& (255 : Int32))), .val (.int (0 : Int32))] []) _
            refine Go.by (fun t k => XS.iloadN X0.here hx rfl (hb hby d1_53) rfl k) ?_
            show Go p e below s₁ (mkF m 54 #[.val (.int p1), .val (.int (p1 &&& (255 : Int32))), .val (.int (0 : Int32))] [(.int (p1 &&& (255 : Int32)))]) _
            refine Go.by (fun t k => XS.sipush X0.here hx rfl (hb hby d1_54) k) ?_
            show Go p e below s₁ (mkF m 57 #[.val (.int p1), .val (.int (p1 &&& (255 : Int32))), .val (.int (0 : Int32))] [(.int (244 : Int32)), (.int (p1 &&& (255 : Int32)))]) _
            by_cases hc14 : (244 : Int32) < (p1 &&& (255 : Int32))
            · refine Go.by (fun t k => XS.icmpYes X0.here hx rfl (pc0 := 57) (pc' := 62) rfl (hb hby d1_57) rfl (tlt hc14).2.2.1 (by decide) (by decide) k) ?_
              show Go p e below s₁ (mkF m 62 #[.val (.int p1), .val (.int (p1 &&& (255 : Int32))), .val (.int (0 : Int32))] []) _
              refine Go.by (fun t k => XS.iloadN X0.here hx rfl (hb hby d1_62) rfl k) ?_
              show Go p e below s₁ (mkF m 63 #[.val (.int p1), .val (.int (p1 &&& (255 : Int32))), .val (.int (0 : Int32))] [(.int (0 : Int32))]) _
              obtain ⟨fs, hr, hrun, hended, hW, hsame⟩ := X0.leave (v := some (.int (0 : Int32))) (fun h => by rw [Bd.returns] at h; cases h)
              refine Go.done (retI X0 hx Bd.returns (hb hby d1_63) hr) hrun hended ⟨_, _, rfl, ?_, ⟨_, rfl⟩, hW, hsame.mono (by decide) (by decide)⟩
              show Q1 Z p1 h0 n0 _ s₁.heap _
              rw [e0]
              refine ⟨?_, N0, rfl⟩
              rw [f1, if_neg hc1, if_pos hc8, if_neg hc9, if_pos hc12, if_neg hc13, if_pos hc14]
            · refine Go.by (fun t k => XS.icmpNo X0.here hx rfl (hb hby d1_57) rfl (flt hc14).2.2.1 k) ?_
              show Go p e below s₁ (mkF m 60 #[.val (.int p1), .val (.int (p1 &&& (255 : Int32))), .val (.int (0 : Int32))] []) _
              refine Go.by (fun t k => XS.iconst X0.here hx rfl (hb hby d1_60) k) ?_
              show Go p e below s₁ (mkF m 61 #[.val (.int p1), .val (.int (p1 &&& (255 : Int32))), .val (.int (0 : Int32))] [(.int (4 : Int32))]) _
              refine Go.by (fun t k => XS.istoreN X0.here hx rfl (hb hby d1_61) rfl (l' := #[.val (.int p1), .val (.int (p1 &&& (255 : Int32))), .val (.int (4 : Int32))]) rfl k) ?_
              show Go p e below s₁ (mkF m 62 #[.val (.int p1), .val (.int (p1 &&& (255 : Int32))), .val (.int (4 : Int32))] []) _
              refine Go.by (fun t k => XS.iloadN X0.here hx rfl (hb hby d1_62) rfl k) ?_
              show Go p e below s₁ (mkF m 63 #[.val (.int p1), .val (.int (p1 &&& (255 : Int32))), .val (.int (4 : Int32))] [(.int (4 : Int32))]) _
              obtain ⟨fs, hr, hrun, hended, hW, hsame⟩ := X0.leave (v := some (.int (4 : Int32))) (fun h => by rw [Bd.returns] at h; cases h)
              refine Go.done (retI X0 hx Bd.returns (hb hby d1_63) hr) hrun hended ⟨_, _, rfl, ?_, ⟨_, rfl⟩, hW, hsame.mono (by decide) (by decide)⟩
              show Q1 Z p1 h0 n0 _ s₁.heap _
              rw [e0]
              refine ⟨?_, N0, rfl⟩
              rw [f1, if_neg hc1, if_pos hc8, if_neg hc9, if_pos hc12, if_neg hc13, if_neg hc14]
        · refine Go.by (fun t k => XS.icmpNo X0.here hx rfl (hb hby d1_38) rfl (flt hc12).2.2.1 k) ?_
          show Go p e below s₁ (mkF m 41 #[.val (.int p1), .val (.int (p1 &&& (255 : Int32))), .val (.int (0 : Int32))] []) _
          refine Go.by (fun t k => XS.iconst X0.here hx rfl (hb hby d1_41) k) ?_
          show Go p e below s₁ (mkF m 42 #[.val (.int p1), .val (.int (p1 &&& (255 : Int32))), .val (.int (0 : Int32))] [(.int (3 : Int32))]) _
          refine Go.by (fun t k => XS.istoreN X0.here hx rfl (hb hby d1_42) rfl (l' := #[.val (.int p1), .val (.int (p1 &&& (255 : Int32))), .val (.int (3 : Int32))]) rfl k) ?_
          show Go p e below s₁ (mkF m 43 #[.val (.int p1), .val (.int (p1 &&& (255 : Int32))), .val (.int (3 : Int32))] []) _
          refine Go.by (fun t k => XS.goto X0.here hx rfl (pc0 := 43) (pc' := 62) rfl (hb hby d1_43) (by decide) (by decide) k) ?_
          show Go p e below s₁ (mkF m 62 #[.val (.int p1), .val (.int (p1 &&& (255 : Int32))), .val (.int (3 : Int32))] []) _
          refine Go.by (fun t k => XS.iloadN X0.here hx rfl (hb hby d1_62) rfl k) ?_
          show Go p e below s₁ (mkF m 63 #[.val (.int p1), .val (.int (p1 &&& (255 : Int32))), .val (.int (3 : Int32))] [(.int (3 : Int32))]) _
          obtain ⟨fs, hr, hrun, hended, hW, hsame⟩ := X0.leave (v := some (.int (3 : Int32))) (fun h => by rw [Bd.returns] at h; cases h)
          refine Go.done (retI X0 hx Bd.returns (hb hby d1_63) hr) hrun hended ⟨_, _, rfl, ?_, ⟨_, rfl⟩, hW, hsame.mono (by decide) (by decide)⟩
          show Q1 Z p1 h0 n0 _ s₁.heap _
          rw [e0]
          refine ⟨?_, N0, rfl⟩
          rw [f1, if_neg hc1, if_pos hc8, if_neg hc9, if_neg hc12]
    · refine Go.by (fun t k => XS.icmpNo X0.here hx rfl (hb hby d1_19) rfl (flt hc8).2.2.1 k) ?_
      show Go p e below s₁ (mkF m 22 #[.val (.int p1), .val (.int (p1 &&& (255 : Int32))), .val (.int (0 : Int32))] []) _
      refine Go.by (fun t k => XS.iconst X0.here hx rfl (hb hby d1_22) k) ?_
      show Go p e below s₁ (mkF m 23 #[.val (.int p1), .val (.int (p1 &&& (255 : Int32))), .val (.int (0 : Int32))] [(.int (2 : Int32))]) _
      refine Go.by (fun t k => XS.istoreN X0.here hx rfl (hb hby d1_23) rfl (l' := #[.val (.int p1), .val (.int (p1 &&& (255 : Int32))), .val (.int (2 : Int32))]) rfl k) ?_
      show Go p e below s₁ (mkF m 24 #[.val (.int p1), .val (.int (p1 &&& (255 : Int32))), .val (.int (2 : Int32))] []) _
      refine Go.by (fun t k => XS.goto X0.here hx rfl (pc0 := 24) (pc' := 62) rfl (hb hby d1_24) (by decide) (by decide) k) ?_
      show Go p e below s₁ (mkF m 62 #[.val (.int p1), .val (.int (p1 &&& (255 : Int32))), .val (.int (2 : Int32))] []) _
      refine Go.by (fun t k => XS.iloadN X0.here hx rfl (hb hby d1_62) rfl k) ?_
      show Go p e below s₁ (mkF m 63 #[.val (.int p1), .val (.int (p1 &&& (255 : Int32))), .val (.int (2 : Int32))] [(.int (2 : Int32))]) _
      obtain ⟨fs, hr, hrun, hended, hW, hsame⟩ := X0.leave (v := some (.int (2 : Int32))) (fun h => by rw [Bd.returns] at h; cases h)
      refine Go.done (retI X0 hx Bd.returns (hb hby d1_63) hr) hrun hended ⟨_, _, rfl, ?_, ⟨_, rfl⟩, hW, hsame.mono (by decide) (by decide)⟩
      show Q1 Z p1 h0 n0 _ s₁.heap _
      rw [e0]
      refine ⟨?_, N0, rfl⟩
      rw [f1, if_neg hc1, if_neg hc8]
def f2 (p1 : Int32) : Int32 :=
  if (p1 &&& (192 : Int32)) = (128 : Int32) then (0 : Int32)
  else (if (p1 &&& (224 : Int32)) = (192 : Int32) then (if p1 = (192 : Int32) then (0 : Int32)
      else (if p1 = (193 : Int32) then (0 : Int32)
        else (2 : Int32)))
    else (if (p1 &&& (240 : Int32)) = (224 : Int32) then (3 : Int32)
      else (if (p1 &&& (248 : Int32)) = (240 : Int32) then (if (244 : Int32) < p1 then (0 : Int32)
          else (4 : Int32))
        else (0 : Int32))))
theorem d2_0 : decode method_3_code 0 = .ok (.iload_n 0, 1) := by decide +kernel
theorem d2_1 : decode method_3_code 1 = .ok (.sipush 192, 3) := by decide +kernel
theorem d2_4 : decode method_3_code 4 = .ok (.iand, 1) := by decide +kernel
theorem d2_5 : decode method_3_code 5 = .ok (.sipush 128, 3) := by decide +kernel
theorem d2_8 : decode method_3_code 8 = .ok (.if_icmp .ne 5, 3) := by decide +kernel
theorem d2_11 : decode method_3_code 11 = .ok (.iconst 0, 1) := by decide +kernel
theorem d2_12 : decode method_3_code 12 = .ok (.ireturn, 1) := by decide +kernel
theorem d2_13 : decode method_3_code 13 = .ok (.iload_n 0, 1) := by decide +kernel
theorem d2_14 : decode method_3_code 14 = .ok (.sipush 224, 3) := by decide +kernel
theorem d2_17 : decode method_3_code 17 = .ok (.iand, 1) := by decide +kernel
theorem d2_18 : decode method_3_code 18 = .ok (.sipush 192, 3) := by decide +kernel
theorem d2_21 : decode method_3_code 21 = .ok (.if_icmp .ne 21, 3) := by decide +kernel
theorem d2_24 : decode method_3_code 24 = .ok (.iload_n 0, 1) := by decide +kernel
theorem d2_25 : decode method_3_code 25 = .ok (.sipush 192, 3) := by decide +kernel
theorem d2_28 : decode method_3_code 28 = .ok (.if_icmp .eq 10, 3) := by decide +kernel
theorem d2_31 : decode method_3_code 31 = .ok (.iload_n 0, 1) := by decide +kernel
theorem d2_32 : decode method_3_code 32 = .ok (.sipush 193, 3) := by decide +kernel
theorem d2_35 : decode method_3_code 35 = .ok (.if_icmp .ne 5, 3) := by decide +kernel
theorem d2_38 : decode method_3_code 38 = .ok (.iconst 0, 1) := by decide +kernel
theorem d2_39 : decode method_3_code 39 = .ok (.ireturn, 1) := by decide +kernel
theorem d2_40 : decode method_3_code 40 = .ok (.iconst 2, 1) := by decide +kernel
theorem d2_41 : decode method_3_code 41 = .ok (.ireturn, 1) := by decide +kernel
theorem d2_42 : decode method_3_code 42 = .ok (.iload_n 0, 1) := by decide +kernel
theorem d2_43 : decode method_3_code 43 = .ok (.sipush 240, 3) := by decide +kernel
theorem d2_46 : decode method_3_code 46 = .ok (.iand, 1) := by decide +kernel
theorem d2_47 : decode method_3_code 47 = .ok (.sipush 224, 3) := by decide +kernel
theorem d2_50 : decode method_3_code 50 = .ok (.if_icmp .ne 5, 3) := by decide +kernel
theorem d2_53 : decode method_3_code 53 = .ok (.iconst 3, 1) := by decide +kernel
theorem d2_54 : decode method_3_code 54 = .ok (.ireturn, 1) := by decide +kernel
theorem d2_55 : decode method_3_code 55 = .ok (.iload_n 0, 1) := by decide +kernel
theorem d2_56 : decode method_3_code 56 = .ok (.sipush 248, 3) := by decide +kernel
theorem d2_59 : decode method_3_code 59 = .ok (.iand, 1) := by decide +kernel
theorem d2_60 : decode method_3_code 60 = .ok (.sipush 240, 3) := by decide +kernel
theorem d2_63 : decode method_3_code 63 = .ok (.if_icmp .ne 14, 3) := by decide +kernel
theorem d2_66 : decode method_3_code 66 = .ok (.iload_n 0, 1) := by decide +kernel
theorem d2_67 : decode method_3_code 67 = .ok (.sipush 244, 3) := by decide +kernel
theorem d2_70 : decode method_3_code 70 = .ok (.if_icmp .le 5, 3) := by decide +kernel
theorem d2_73 : decode method_3_code 73 = .ok (.iconst 0, 1) := by decide +kernel
theorem d2_74 : decode method_3_code 74 = .ok (.ireturn, 1) := by decide +kernel
theorem d2_75 : decode method_3_code 75 = .ok (.iconst 4, 1) := by decide +kernel
theorem d2_76 : decode method_3_code 76 = .ok (.ireturn, 1) := by decide +kernel
theorem d2_77 : decode method_3_code 77 = .ok (.iconst 0, 1) := by decide +kernel
theorem d2_78 : decode method_3_code 78 = .ok (.ireturn, 1) := by decide +kernel
theorem pn_1 : plainName "com/example/tillscan/tillscan/core/Utf8LengthPinLaw" = true := by first | (simp [plainName, overriddenIn]; done) | decide +kernel
theorem ef_2 (m : MethodId) (x0 : Int32) : entryFrame m #[(.int x0)] 1 = mkF m 0 #[.val (.int x0)] [] := by first | (simp [entryFrame, mkF, argsToLocals, Value.category]; done) | rfl
def Q2 (Z : State) (p1 : Int32) (h0 : Heap) (n0 : Nat) (v : Option Value) (h : Heap) (L : List Loc) : Prop := v = some (.int (f2 p1)) ∧ Fr n0 L ∧ h = h0
set_option maxRecDepth 65536 in
set_option maxHeartbeats 40000000 in
theorem rm2 (l : Launch) (Z : State) (a0 : Array Value) (hw : ∀ d ∈ tables_1, d.before a0 Z = true) (ws : List Jvm.Cond) (p1 : Int32) (h0 : Heap) (n0 : Nat) (Z0 : n0 ≤ h0.size) :
    MetFree l (⟨"com/example/tillscan/tillscan/core/Utf8LengthPinLaw", "expected", "(I)I"⟩ : MethodName) (head1 (Jvm.Cond.code (⟨"com/example/tillscan/tillscan/core/Utf8LengthPinLaw", "expected", "(I)I"⟩ : MethodName) method_3_code 1 (some .int) :: ws) ({ frames := 0, cells := 0, slots := 0, locals := 0 } : Room)) (fun a U => a = #[(.int p1)] ∧ Z.Warmed39 U.vm ∧ U.heap = h0) (fun _ _ _ _ _ => True) (fun _ U o U' => ∃ v L, o = .returned v ∧ Q2 Z p1 h0 n0 v U'.heap L ∧ FrameEnd U o U' L ({ frames := 0, cells := 0, slots := 0, locals := 0 } : Room).cells ({ frames := 0, cells := 0, slots := 0, locals := 0 } : Room).slots) := by
  refine MetFree.of_bodySF (plainFor_of_name pn_1) hisR ?_
  intro p e s m args below meth c s₁ Bd hml0 hP hK
  obtain ⟨rfl, hZ, hh⟩ := hP
  have hx := Bd.exec
  have hby := Bd.bytes
  have hml : c.maxLocals = 1 := hml0
  have hown : s.vm.findClass "com/example/tillscan/tillscan/core/Utf8LengthPinLaw" = some m.cls := findClass_of_methodNamed Bd.named
  have hnm := (name_of_methodNamed Bd.named Bd.method).1
  have X0 : Stand p l e ({ frames := 0, cells := 0, slots := 0, locals := 0 } : Room) s m #[(.int p1)] below meth c s₁ [] 0 0 := Stand.of_body Bd
  have e0 : s₁.heap = h0 := by rw [← hh, Bd.state]; rfl
  have N0 := Fr.nil n0
  refine Go.start (ef_2 m p1) ?_
  show Go p e below s₁ (mkF m 0 #[.val (.int p1)] []) _
  refine Go.by (fun t k => XS.iloadN X0.here hx rfl (hb hby d2_0) rfl k) ?_
  show Go p e below s₁ (mkF m 1 #[.val (.int p1)] [(.int p1)]) _
  refine Go.by (fun t k => XS.sipush X0.here hx rfl (hb hby d2_1) k) ?_
  show Go p e below s₁ (mkF m 4 #[.val (.int p1)] [(.int (192 : Int32)), (.int p1)]) _
  refine Go.by (fun t k => XS.iand X0.here hx rfl (hb hby d2_4) rfl k) ?_
  show Go p e below s₁ (mkF m 5 #[.val (.int p1)] [(.int (p1 &&& (192 : Int32)))]) _
  refine Go.by (fun t k => XS.sipush X0.here hx rfl (hb hby d2_5) k) ?_
  show Go p e below s₁ (mkF m 8 #[.val (.int p1)] [(.int (128 : Int32)), (.int (p1 &&& (192 : Int32)))]) _
  by_cases hc1 : (p1 &&& (192 : Int32)) = (128 : Int32)
  · refine Go.by (fun t k => XS.icmpNo X0.here hx rfl (hb hby d2_8) rfl (teq hc1).2 k) ?_
    show Go p e below s₁ (mkF m 11 #[.val (.int p1)] []) _
    refine Go.by (fun t k => XS.iconst X0.here hx rfl (hb hby d2_11) k) ?_
    show Go p e below s₁ (mkF m 12 #[.val (.int p1)] [(.int (0 : Int32))]) _
    obtain ⟨fs, hr, hrun, hended, hW, hsame⟩ := X0.leave (v := some (.int (0 : Int32))) (fun h => by rw [Bd.returns] at h; cases h)
    refine Go.done (retI X0 hx Bd.returns (hb hby d2_12) hr) hrun hended ⟨_, _, rfl, ?_, ⟨_, rfl⟩, hW, hsame.mono (by decide) (by decide)⟩
    show Q2 Z p1 h0 n0 _ s₁.heap _
    rw [e0]
    refine ⟨?_, N0, rfl⟩
    rw [f2, if_pos hc1]
  · refine Go.by (fun t k => XS.icmpYes X0.here hx rfl (pc0 := 8) (pc' := 13) rfl (hb hby d2_8) rfl (feq hc1).2 (by decide) (by decide) k) ?_
    show Go p e below s₁ (mkF m 13 #[.val (.int p1)] []) _
    refine Go.by (fun t k => XS.iloadN X0.here hx rfl (hb hby d2_13) rfl k) ?_
    show Go p e below s₁ (mkF m 14 #[.val (.int p1)] [(.int p1)]) _
    refine Go.by (fun t k => XS.sipush X0.here hx rfl (hb hby d2_14) k) ?_
    show Go p e below s₁ (mkF m 17 #[.val (.int p1)] [(.int (224 : Int32)), (.int p1)]) _
    refine Go.by (fun t k => XS.iand X0.here hx rfl (hb hby d2_17) rfl k) ?_
    show Go p e below s₁ (mkF m 18 #[.val (.int p1)] [(.int (p1 &&& (224 : Int32)))]) _
    refine Go.by (fun t k => XS.sipush X0.here hx rfl (hb hby d2_18) k) ?_
    show Go p e below s₁ (mkF m 21 #[.val (.int p1)] [(.int (192 : Int32)), (.int (p1 &&& (224 : Int32)))]) _
    by_cases hc2 : (p1 &&& (224 : Int32)) = (192 : Int32)
    · refine Go.by (fun t k => XS.icmpNo X0.here hx rfl (hb hby d2_21) rfl (teq hc2).2 k) ?_
      show Go p e below s₁ (mkF m 24 #[.val (.int p1)] []) _
      refine Go.by (fun t k => XS.iloadN X0.here hx rfl (hb hby d2_24) rfl k) ?_
      show Go p e below s₁ (mkF m 25 #[.val (.int p1)] [(.int p1)]) _
      refine Go.by (fun t k => XS.sipush X0.here hx rfl (hb hby d2_25) k) ?_
      show Go p e below s₁ (mkF m 28 #[.val (.int p1)] [(.int (192 : Int32)), (.int p1)]) _
      by_cases hc3 : p1 = (192 : Int32)
      · refine Go.by (fun t k => XS.icmpYes X0.here hx rfl (pc0 := 28) (pc' := 38) rfl (hb hby d2_28) rfl (teq hc3).1 (by decide) (by decide) k) ?_
        show Go p e below s₁ (mkF m 38 #[.val (.int p1)] []) _
        refine Go.by (fun t k => XS.iconst X0.here hx rfl (hb hby d2_38) k) ?_
        show Go p e below s₁ (mkF m 39 #[.val (.int p1)] [(.int (0 : Int32))]) _
        obtain ⟨fs, hr, hrun, hended, hW, hsame⟩ := X0.leave (v := some (.int (0 : Int32))) (fun h => by rw [Bd.returns] at h; cases h)
        refine Go.done (retI X0 hx Bd.returns (hb hby d2_39) hr) hrun hended ⟨_, _, rfl, ?_, ⟨_, rfl⟩, hW, hsame.mono (by decide) (by decide)⟩
        show Q2 Z p1 h0 n0 _ s₁.heap _
        rw [e0]
        refine ⟨?_, N0, rfl⟩
        rw [f2, if_neg hc1, if_pos hc2, if_pos hc3]
      · refine Go.by (fun t k => XS.icmpNo X0.here hx rfl (hb hby d2_28) rfl (feq hc3).1 k) ?_
        show Go p e below s₁ (mkF m 31 #[.val (.int p1)] []) _
        refine Go.by (fun t k => XS.iloadN X0.here hx rfl (hb hby d2_31) rfl k) ?_
        show Go p e below s₁ (mkF m 32 #[.val (.int p1)] [(.int p1)]) _
        refine Go.by (fun t k => XS.sipush X0.here hx rfl (hb hby d2_32) k) ?_
        show Go p e below s₁ (mkF m 35 #[.val (.int p1)] [(.int (193 : Int32)), (.int p1)]) _
        by_cases hc4 : p1 = (193 : Int32)
        · refine Go.by (fun t k => XS.icmpNo X0.here hx rfl (hb hby d2_35) rfl (teq hc4).2 k) ?_
          show Go p e below s₁ (mkF m 38 #[.val (.int p1)] []) _
          refine Go.by (fun t k => XS.iconst X0.here hx rfl (hb hby d2_38) k) ?_
          show Go p e below s₁ (mkF m 39 #[.val (.int p1)] [(.int (0 : Int32))]) _
          obtain ⟨fs, hr, hrun, hended, hW, hsame⟩ := X0.leave (v := some (.int (0 : Int32))) (fun h => by rw [Bd.returns] at h; cases h)
          refine Go.done (retI X0 hx Bd.returns (hb hby d2_39) hr) hrun hended ⟨_, _, rfl, ?_, ⟨_, rfl⟩, hW, hsame.mono (by decide) (by decide)⟩
          show Q2 Z p1 h0 n0 _ s₁.heap _
          rw [e0]
          refine ⟨?_, N0, rfl⟩
          rw [f2, if_neg hc1, if_pos hc2, if_neg hc3, if_pos hc4]
        · refine Go.by (fun t k => XS.icmpYes X0.here hx rfl (pc0 := 35) (pc' := 40) rfl (hb hby d2_35) rfl (feq hc4).2 (by decide) (by decide) k) ?_
          show Go p e below s₁ (mkF m 40 #[.val (.int p1)] []) _
          refine Go.by (fun t k => XS.iconst X0.here hx rfl (hb hby d2_40) k) ?_
          show Go p e below s₁ (mkF m 41 #[.val (.int p1)] [(.int (2 : Int32))]) _
          obtain ⟨fs, hr, hrun, hended, hW, hsame⟩ := X0.leave (v := some (.int (2 : Int32))) (fun h => by rw [Bd.returns] at h; cases h)
          refine Go.done (retI X0 hx Bd.returns (hb hby d2_41) hr) hrun hended ⟨_, _, rfl, ?_, ⟨_, rfl⟩, hW, hsame.mono (by decide) (by decide)⟩
          show Q2 Z p1 h0 n0 _ s₁.heap _
          rw [e0]
          refine ⟨?_, N0, rfl⟩
          rw [f2, if_neg hc1, if_pos hc2, if_neg hc3, if_neg hc4]
    · refine Go.by (fun t k => XS.icmpYes X0.here hx rfl (pc0 := 21) (pc' := 42) rfl (hb hby d2_21) rfl (feq hc2).2 (by decide) (by decide) k) ?_
      show Go p e below s₁ (mkF m 42 #[.val (.int p1)] []) _
      refine Go.by (fun t k => XS.iloadN X0.here hx rfl (hb hby d2_42) rfl k) ?_
      show Go p e below s₁ (mkF m 43 #[.val (.int p1)] [(.int p1)]) _
      refine Go.by (fun t k => XS.sipush X0.here hx rfl (hb hby d2_43) k) ?_
      show Go p e below s₁ (mkF m 46 #[.val (.int p1)] [(.int (240 : Int32)), (.int p1)]) _
      refine Go.by (fun t k => XS.iand X0.here hx rfl (hb hby d2_46) rfl k) ?_
      show Go p e below s₁ (mkF m 47 #[.val (.int p1)] [(.int (p1 &&& (240 : Int32)))]) _
      refine Go.by (fun t k => XS.sipush X0.here hx rfl (hb hby d2_47) k) ?_
      show Go p e below s₁ (mkF m 50 #[.val (.int p1)] [(.int (224 : Int32)), (.int (p1 &&& (240 : Int32)))]) _
      by_cases hc5 : (p1 &&& (240 : Int32)) = (224 : Int32)
      · refine Go.by (fun t k => XS.icmpNo X0.here hx rfl (hb hby d2_50) rfl (teq hc5).2 k) ?_
        show Go p e below s₁ (mkF m 53 #[.val (.int p1)] []) _
        refine Go.by (fun t k => XS.iconst X0.here hx rfl (hb hby d2_53) k) ?_
        show Go p e below s₁ (mkF m 54 #[.val (.int p1)] [(.int (3 : Int32))]) _
        obtain ⟨fs, hr, hrun, hended, hW, hsame⟩ := X0.leave (v := some (.int (3 : Int32))) (fun h => by rw [Bd.returns] at h; cases h)
        refine Go.done (retI X0 hx Bd.returns (hb hby d2_54) hr) hrun hended ⟨_, _, rfl, ?_, ⟨_, rfl⟩, hW, hsame.mono (by decide) (by decide)⟩
        show Q2 Z p1 h0 n0 _ s₁.heap _
        rw [e0]
        refine ⟨?_, N0, rfl⟩
        rw [f2, if_neg hc1, if_neg hc2, if_pos hc5]
      · refine Go.by (fun t k => XS.icmpYes X0.here hx rfl (pc0 := 50) (pc' := 55) rfl (hb hby d2_50) rfl (feq hc5).2 (by decide) (by decide) k) ?_
        show Go p e below s₁ (mkF m 55 #[.val (.int p1)] []) _
        refine Go.by (fun t k => XS.iloadN X0.here hx rfl (hb hby d2_55) rfl k) ?_
        show Go p e below s₁ (mkF m 56 #[.val (.int p1)] [(.int p1)]) _
        refine Go.by (fun t k => XS.sipush X0.here hx rfl (hb hby d2_56) k) ?_
        show Go p e below s₁ (mkF m 59 #[.val (.int p1)] [(.int (248 : Int32)), (.int p1)]) _
        refine Go.by (fun t k => XS.iand X0.here hx rfl (hb hby d2_59) rfl k) ?_
        show Go p e below s₁ (mkF m 60 #[.val (.int p1)] [(.int (p1 &&& (248 : Int32)))]) _
        refine Go.by (fun t k => XS.sipush X0.here hx rfl (hb hby d2_60) k) ?_
        show Go p e below s₁ (mkF m 63 #[.val (.int p1)] [(.int (240 : Int32)), (.int (p1 &&& (248 : Int32)))]) _
        by_cases hc6 : (p1 &&& (248 : Int32)) = (240 : Int32)
        · refine Go.by (fun t k => XS.icmpNo X0.here hx rfl (hb hby d2_63) rfl (teq hc6).2 k) ?_
          show Go p e below s₁ (mkF m 66 #[.val (.int p1)] []) _
          refine Go.by (fun t k => XS.iloadN X0.here hx rfl (hb hby d2_66) rfl k) ?_
          show Go p e below s₁ (mkF m 67 #[.val (.int p1)] [(.int p1)]) _
          refine Go.by (fun t k => XS.sipush X0.here hx rfl (hb hby d2_67) k) ?_
          show Go p e below s₁ (mkF m 70 #[.val (.int p1)] [(.int (244 : Int32)), (.int p1)]) _
          by_cases hc7 : (244 : Int32) < p1
          · refine Go.by (fun t k => XS.icmpNo X0.here hx rfl (hb hby d2_70) rfl (tlt hc7).2.2.2 k) ?_
            show Go p e below s₁ (mkF m 73 #[.val (.int p1)] []) _
            refine Go.by (fun t k => XS.iconst X0.here hx rfl (hb hby d2_73) k) ?_
            show Go p e below s₁ (mkF m 74 #[.val (.int p1)] [(.int (0 : Int32))]) _
            obtain ⟨fs, hr, hrun, hended, hW, hsame⟩ := X0.leave (v := some (.int (0 : Int32))) (fun h => by rw [Bd.returns] at h; cases h)
            refine Go.done (retI X0 hx Bd.returns (hb hby d2_74) hr) hrun hended ⟨_, _, rfl, ?_, ⟨_, rfl⟩, hW, hsame.mono (by decide) (by decide)⟩
            show Q2 Z p1 h0 n0 _ s₁.heap _
            rw [e0]
            refine ⟨?_, N0, rfl⟩
            rw [f2, if_neg hc1, if_neg hc2, if_neg hc5, if_pos hc6, if_pos hc7]
          · refine Go.by (fun t k => XS.icmpYes X0.here hx rfl (pc0 := 70) (pc' := 75) rfl (hb hby d2_70) rfl (flt hc7).2.2.2 (by decide) (by decide) k) ?_
            show Go p e below s₁ (mkF m 75 #[.val (.int p1)] []) _
            refine Go.by (fun t k => XS.iconst X0.here hx rfl (hb hby d2_75) k) ?_
            show Go p e below s₁ (mkF m 76 #[.val (.int p1)] [(.int (4 : Int32))]) _
            obtain ⟨fs, hr, hrun, hended, hW, hsame⟩ := X0.leave (v := some (.int (4 : Int32))) (fun h => by rw [Bd.returns] at h; cases h)
            refine Go.done (retI X0 hx Bd.returns (hb hby d2_76) hr) hrun hended ⟨_, _, rfl, ?_, ⟨_, rfl⟩, hW, hsame.mono (by decide) (by decide)⟩
            show Q2 Z p1 h0 n0 _ s₁.heap _
            rw [e0]
            refine ⟨?_, N0, rfl⟩
            rw [f2, if_neg hc1, if_neg hc2, if_neg hc5, if_pos hc6, if_neg hc7]
        · refine Go.by (fun t k => XS.icmpYes X0.here hx rfl (pc0 := 63) (pc' := 77) rfl (hb hby d2_63) rfl (feq hc6).2 (by decide) (by decide) k) ?_
          show Go p e below s₁ (mkF m 77 #[.val (.int p1)] []) _
          refine Go.by (fun t k => XS.iconst X0.here hx rfl (hb hby d2_77) k) ?_
          show Go p e below s₁ (mkF m 78 #[.val (.int p1)] [(.int (0 : Int32))]) _
          obtain ⟨fs, hr, hrun, hended, hW, hsame⟩ := X0.leave (v := some (.int (0 : Int32))) (fun h => by rw [Bd.returns] at h; cases h)
          refine Go.done (retI X0 hx Bd.returns (hb hby d2_78) hr) hrun hended ⟨_, _, rfl, ?_, ⟨_, rfl⟩, hW, hsame.mono (by decide) (by decide)⟩
          show Q2 Z p1 h0 n0 _ s₁.heap _
          rw [e0]
          refine ⟨?_, N0, rfl⟩
          rw [f2, if_neg hc1, if_neg hc2, if_neg hc5, if_neg hc6]
theorem own_fin : ∀ k : Fin 128, f1 ((128 : Int32) ||| Int32.ofInt (k.val : Int)).toInt8.toInt32 = f2 ((128 : Int32) ||| Int32.ofInt (k.val : Int)) := by decide +kernel
theorem own_law (x : Int32) : f1 ((128 : Int32) ||| (x &&& (127 : Int32))).toInt8.toInt32 = f2 ((128 : Int32) ||| (x &&& (127 : Int32))) := by
  have e := Jvm.Kit.i32_mask x 127 (k := 7) (by decide) (by decide)
  have f := own_fin ⟨(x &&& 127).toInt.toNat, by omega⟩
  have e2 : (((x &&& 127).toInt.toNat : Nat) : Int) = (x &&& 127).toInt := by omega
  have e3 : Int32.ofInt (x &&& 127).toInt = x &&& 127 := Int32.ofInt_toInt _
  simp only [e2, e3] at f
  exact f
theorem pd_0 : parseMethodDescriptor "(B)I" = some ⟨[.byte], some .int⟩ := by decide +kernel
theorem pd_1 : parseMethodDescriptor "(I)I" = some ⟨[.int], some .int⟩ := by decide +kernel
theorem ef_0 (m : MethodId) (x0 : Int32) : entryFrame m #[(.int x0)] maxLocals = mkF m 0 #[.val (.int x0), .unset, .unset] [] := by first | (simp [entryFrame, mkF, argsToLocals, Value.category, maxLocals]; done) | rfl
def Q0 (Z : State) (p1 : Int32) (h0 : Heap) (n0 : Nat) (v : Option Value) (h : Heap) (L : List Loc) : Prop := v = some (.int 1) ∧ Fr n0 L
set_option maxRecDepth 65536 in
set_option maxHeartbeats 40000000 in
theorem rm0 (l : Launch) (Z : State) (a0 : Array Value) (hw : ∀ d ∈ tables_1, d.before a0 Z = true) (ws : List Jvm.Cond) (p1 : Int32) (h0 : Heap) (n0 : Nat) (Z0 : n0 ≤ h0.size) :
    MetFree l x (head1 (Jvm.Cond.code x code maxLocals ret :: ws) room_1) (fun a U => a = #[(.int p1)] ∧ Z.Warmed39 U.vm ∧ U.heap = h0) (fun _ _ _ _ _ => True) (fun _ U o U' => ∃ v L, o = .returned v ∧ Q0 Z p1 h0 n0 v U'.heap L ∧ FrameEnd U o U' L room_1.cells room_1.slots) := by
  refine MetFree.of_bodySF (plainFor_of_name pn_1) hisR ?_
  intro p e s m args below meth c s₁ Bd hml0 hP hK
  obtain ⟨rfl, hZ, hh⟩ := hP
  have hx := Bd.exec
  have hby := Bd.bytes
  have hml : c.maxLocals = 3 := hml0
  have hown : s.vm.findClass "com/example/tillscan/tillscan/core/Utf8LengthPinLaw" = some m.cls := findClass_of_methodNamed Bd.named
  have hnm := (name_of_methodNamed Bd.named Bd.method).1
  have X0 : Stand p l e room_1 s m #[(.int p1)] below meth c s₁ [] 0 0 := Stand.of_body Bd
  have e0 : s₁.heap = h0 := by rw [← hh, Bd.state]; rfl
  have N0 := Fr.nil n0
  refine Go.start (ef_0 m p1) ?_
  show Go p e below s₁ (mkF m 0 #[.val (.int p1), .unset, .unset] []) _
  refine Go.by (fun t k => XS.sipush X0.here hx rfl (hb hby at_0) k) ?_
  show Go p e below s₁ (mkF m 3 #[.val (.int p1), .unset, .unset] [(.int (128 : Int32))]) _
  refine Go.by (fun t k => XS.iloadN X0.here hx rfl (hb hby at_3) rfl k) ?_
  show Go p e below s₁ (mkF m 4 #[.val (.int p1), .unset, .unset] [(.int p1), (.int (128 : Int32))]) _
  refine Go.by (fun t k => XS.bipush X0.here hx rfl (hb hby at_4) k) ?_
  show Go p e below s₁ (mkF m 6 #[.val (.int p1), .unset, .unset] [(.int (127 : Int32)), (.int p1), (.int (128 : Int32))]) _
  refine Go.by (fun t k => XS.iand X0.here hx rfl (hb hby at_6) rfl k) ?_
  show Go p e below s₁ (mkF m 7 #[.val (.int p1), .unset, .unset] [(.int (p1 &&& (127 : Int32))), (.int (128 : Int32))]) _
  refine Go.by (fun t k => XS.ior X0.here hx rfl (hb hby at_7) rfl k) ?_
  show Go p e below s₁ (mkF m 8 #[.val (.int p1), .unset, .unset] [(.int ((128 : Int32) ||| (p1 &&& (127 : Int32))))]) _
  refine Go.by (fun t k => XS.istoreN X0.here hx rfl (hb hby at_8) rfl (l' := #[.val (.int p1), .val (.int ((128 : Int32) ||| (p1 &&& (127 : Int32)))), .unset]) rfl k) ?_
  show Go p e below s₁ (mkF m 9 #[.val (.int p1), .val (.int ((128 : Int32) ||| (p1 &&& (127 : Int32)))), .unset] []) _
  refine Go.by (fun t k => XS.iloadN X0.here hx rfl (hb hby at_9) rfl k) ?_
  show Go p e below s₁ (mkF m 10 #[.val (.int p1), .val (.int ((128 : Int32) ||| (p1 &&& (127 : Int32)))), .unset] [(.int ((128 : Int32) ||| (p1 &&& (127 : Int32))))]) _
  refine Go.by (fun t k => XS.i2b X0.here hx rfl (hb hby at_10) rfl k) ?_
  show Go p e below s₁ (mkF m 11 #[.val (.int p1), .val (.int ((128 : Int32) ||| (p1 &&& (127 : Int32)))), .unset] [(.int (((128 : Int32) ||| (p1 &&& (127 : Int32))).toInt8.toInt32))]) _
  obtain ⟨_, _, ⟨T1, L1, k1, n1⟩, -, X1, ⟨Lc1, hQ1, l1, y1, z1⟩, st1⟩ := Jvm.LawKit.callS X0 hx (y := (⟨"com/example/tillscan/tillscan/core/Utf8", "length", "(B)I"⟩ : MethodName)) hown (mvT hZ (hw _ (List.mem_of_getElem? (i := 0) rfl))) (mvT hZ (hw _ (List.mem_of_getElem? (i := 1) rfl))) (mvT hZ (hw _ (List.mem_of_getElem? (i := 2) rfl))) (mvT hZ (hw _ (List.mem_of_getElem? (i := 3) rfl))) (by decide) (backOf (W := 0) (rm1 l Z a0 hw [] (((128 : Int32) ||| (p1 &&& (127 : Int32))).toInt8.toInt32) h0 n0 Z0) hZ (hw _ (List.mem_of_getElem? (i := 3) rfl)) (hw _ (List.mem_of_getElem? (i := 2) rfl)) (by decide) (by decide)) (g := (mkF m 11 #[.val (.int p1), .val (.int ((128 : Int32) ||| (p1 &&& (127 : Int32)))), .unset] [(.int (((128 : Int32) ||| (p1 &&& (127 : Int32))).toInt8.toInt32))])) rfl (by rw [hml]; rfl) (argsL := [(.int (((128 : Int32) ||| (p1 &&& (127 : Int32))).toInt8.toInt32))]) (rest := []) (lenOf pd_0 rfl) rfl (by show 2 * 0 + _ ≤ _; exact Nat.le_of_eq rfl) (hb hby at_11) (fun _ _ => ⟨rfl, e0, (by decide : 0 + 0 ≤ _), (by decide : 0 + 0 ≤ _)⟩)
  dsimp only [Pt.U, Pt.locs, Pt.cells, Pt.slots] at X1 l1 y1 z1 st1 hQ1
  subst l1 y1 z1
  obtain ⟨rfl, N1q, e1q⟩ := hQ1
  have N1 := Fr.app N0 N1q
  refine Go.by st1 ?_
  show Go p e below T1 (mkF m 14 #[.val (.int p1), .val (.int ((128 : Int32) ||| (p1 &&& (127 : Int32)))), .unset] [(.int (f1 (((128 : Int32) ||| (p1 &&& (127 : Int32))).toInt8.toInt32)))]) _
  refine Go.by (fun t k => XS.istoreN X1.here hx rfl (hb hby at_14) rfl (l' := #[.val (.int p1), .val (.int ((128 : Int32) ||| (p1 &&& (127 : Int32)))), .val (.int (f1 (((128 : Int32) ||| (p1 &&& (127 : Int32))).toInt8.toInt32)))]) rfl k) ?_
  show Go p e below T1 (mkF m 15 #[.val (.int p1), .val (.int ((128 : Int32) ||| (p1 &&& (127 : Int32)))), .val (.int (f1 (((128 : Int32) ||| (p1 &&& (127 : Int32))).toInt8.toInt32)))] []) _
  refine Go.by (fun t k => XS.iloadN X1.here hx rfl (hb hby at_15) rfl k) ?_
  show Go p e below T1 (mkF m 16 #[.val (.int p1), .val (.int ((128 : Int32) ||| (p1 &&& (127 : Int32)))), .val (.int (f1 (((128 : Int32) ||| (p1 &&& (127 : Int32))).toInt8.toInt32)))] [(.int (f1 (((128 : Int32) ||| (p1 &&& (127 : Int32))).toInt8.toInt32)))]) _
  refine Go.by (fun t k => XS.iloadN X1.here hx rfl (hb hby at_16) rfl k) ?_
  show Go p e below T1 (mkF m 17 #[.val (.int p1), .val (.int ((128 : Int32) ||| (p1 &&& (127 : Int32)))), .val (.int (f1 (((128 : Int32) ||| (p1 &&& (127 : Int32))).toInt8.toInt32)))] [(.int ((128 : Int32) ||| (p1 &&& (127 : Int32)))), (.int (f1 (((128 : Int32) ||| (p1 &&& (127 : Int32))).toInt8.toInt32)))]) _
  obtain ⟨_, _, ⟨T2, L2, k2, n2⟩, -, X2, ⟨Lc2, hQ2, l2, y2, z2⟩, st2⟩ := Jvm.LawKit.callS X1 hx (y := (⟨"com/example/tillscan/tillscan/core/Utf8LengthPinLaw", "expected", "(I)I"⟩ : MethodName)) hown (mvT hZ (hw _ (List.mem_of_getElem? (i := 4) rfl))) (mvT hZ (hw _ (List.mem_of_getElem? (i := 5) rfl))) (mvT hZ (hw _ (List.mem_of_getElem? (i := 6) rfl))) (mvT hZ (hw _ (List.mem_of_getElem? (i := 7) rfl))) (by decide) (backOf (W := 1) (rm2 l Z a0 hw [] ((128 : Int32) ||| (p1 &&& (127 : Int32))) h0 n0 Z0) hZ (hw _ (List.mem_of_getElem? (i := 7) rfl)) (hw _ (List.mem_of_getElem? (i := 6) rfl)) (by decide) (by decide)) (g := (mkF m 17 #[.val (.int p1), .val (.int ((128 : Int32) ||| (p1 &&& (127 : Int32)))), .val (.int (f1 (((128 : Int32) ||| (p1 &&& (127 : Int32))).toInt8.toInt32)))] [(.int ((128 : Int32) ||| (p1 &&& (127 : Int32)))), (.int (f1 (((128 : Int32) ||| (p1 &&& (127 : Int32))).toInt8.toInt32)))])) rfl (by rw [hml]; rfl) (argsL := [(.int ((128 : Int32) ||| (p1 &&& (127 : Int32))))]) (rest := [(.int (f1 (((128 : Int32) ||| (p1 &&& (127 : Int32))).toInt8.toInt32)))]) (lenOf pd_1 rfl) rfl (by show 2 * 0 + _ ≤ _; exact Nat.le_of_eq rfl) (hb hby at_17) (fun _ _ => ⟨rfl, e1q, (by decide : 0 + 0 ≤ _), (by decide : 0 + 0 ≤ _)⟩)
  dsimp only [Pt.U, Pt.locs, Pt.cells, Pt.slots] at X2 l2 y2 z2 st2 hQ2
  subst l2 y2 z2
  obtain ⟨rfl, N2q, e2q⟩ := hQ2
  have N2 := Fr.app N1 N2q
  refine Go.by st2 ?_
  show Go p e below T2 (mkF m 20 #[.val (.int p1), .val (.int ((128 : Int32) ||| (p1 &&& (127 : Int32)))), .val (.int (f1 (((128 : Int32) ||| (p1 &&& (127 : Int32))).toInt8.toInt32)))] [(.int (f2 ((128 : Int32) ||| (p1 &&& (127 : Int32))))), (.int (f1 (((128 : Int32) ||| (p1 &&& (127 : Int32))).toInt8.toInt32)))]) _
  refine Go.by (fun t k => XS.icmpNo X2.here hx rfl (hb hby at_20) rfl (teq (show (f1 (((128 : Int32) ||| (p1 &&& (127 : Int32))).toInt8.toInt32)) = (f2 ((128 : Int32) ||| (p1 &&& (127 : Int32)))) from own_law p1)).2 k) ?_
  show Go p e below T2 (mkF m 23 #[.val (.int p1), .val (.int ((128 : Int32) ||| (p1 &&& (127 : Int32)))), .val (.int (f1 (((128 : Int32) ||| (p1 &&& (127 : Int32))).toInt8.toInt32)))] []) _
  refine Go.by (fun t k => XS.iconst X2.here hx rfl (hb hby at_23) k) ?_
  show Go p e below T2 (mkF m 24 #[.val (.int p1), .val (.int ((128 : Int32) ||| (p1 &&& (127 : Int32)))), .val (.int (f1 (((128 : Int32) ||| (p1 &&& (127 : Int32))).toInt8.toInt32)))] [(.int (1 : Int32))]) _
  refine Go.by (fun t k => XS.goto X2.here hx rfl (pc0 := 24) (pc' := 28) rfl (hb hby at_24) (by decide) (by decide) k) ?_
  show Go p e below T2 (mkF m 28 #[.val (.int p1), .val (.int ((128 : Int32) ||| (p1 &&& (127 : Int32)))), .val (.int (f1 (((128 : Int32) ||| (p1 &&& (127 : Int32))).toInt8.toInt32)))] [(.int (1 : Int32))]) _
  obtain ⟨fs, hr, hrun, hended, hW, hsame⟩ := X2.leave (v := some (.int (1 : Int32))) (fun h => by rw [Bd.returns] at h; cases h)
  refine Go.done (retN X2 hx (t := .boolean) Bd.returns (by simp) (hb hby at_28) hr) hrun hended ⟨_, _, rfl, ?_, ⟨_, rfl⟩, hW, hsame.mono (by decide) (by decide)⟩
  show Q0 Z p1 h0 n0 _ T2.heap _
  rw [e2q]
  exact ⟨rfl, N2⟩
set_option maxRecDepth 65536 in
set_option maxHeartbeats 40000000 in
theorem comes_1 {Post : Tables → Env → Array Value → State → Outcome → State → Prop} (hpost : ∀ tb e args s v u, (limb_1_1.after args s (.returned v) u = true ∧ limb_1_2.after args s (.returned v) u = true ∧ True) → FrameEnd s (.returned v) u (Jvm.fieldLocs frame_1_writes args s ++ Jvm.arrayLocs frame_1_arrays args s ++ Jvm.staticLocs frame_1_statics s) 0 0 → Post tb e args s (.returned v) u) :
    ArmFor flags0 classFile x code maxLocals ret World_1 tables_1 room_1 Calls_1 rest_1 Pre_1 Post := by
  intro l hfl _ _ p e ha hc hk s m args below hf hA hF happ hP
  obtain ⟨hcalls, hrest, hpre⟩ := hP
  obtain ⟨-, -, -, hnamed, -, -, -, hat⟩ := (Spec.applies_iff hf).mp happ
  obtain ⟨hg, hn⟩ := and_e (Cond.before_iff.mp (show (Jvm.Cond.and given_1 narrow_1).before args s = true from hpre))
  obtain ⟨g1, g2⟩ := and_e hg
  obtain ⟨w0, rfl⟩ : ∃ w0 : Value, args = #[w0] := by
    have hs : args.size = 1 := by simpa [Cond.value, given_1] using g1
    obtain ⟨L⟩ := args
    match L, hs with
    | [w0], _ => exact ⟨w0, rfl⟩
  have hw := fun d (hd : d ∈ tables_1) => atoms_spec (ws := Jvm.Cond.code x code maxLocals ret :: tables_1) hat d (List.mem_cons_of_mem _ hd)
  obtain ⟨i0, ei0⟩ := is_v g2
  obtain rfl : w0 = (.int i0) := Option.some.inj ei0
  obtain ⟨n, o, h1, h2, h3, _, L, rfl, ⟨rfl, N⟩, hq⟩ := rm0 l s _ hw tables_1 i0 s.heap s.heap.size (Nat.le_refl _) p e ha hc hk s m _ below hf ((Spec.applies_iff_loose hf).mp happ).1 ⟨rfl, State.Warmed39.refl s, rfl⟩ trivial
  refine ⟨n, _, h1, h2, h3, hpost _ _ _ _ _ _ ⟨Cond.after_iff.mpr rfl, Cond.after_iff.mpr (eq_i res_at (Term.int_eval (1)) rfl), trivial⟩ ⟨hq.1, hq.2.1, (hq.2.2.sift fun y hy => Or.inr (N y hy)).mono (by decide) (by decide)⟩⟩
theorem main_1_1 : Claimed_1_1 := comes_1 fun _ _ _ _ _ _ h hF => ⟨h.1, hF⟩
theorem main_1_2 : Claimed_1_2 := comes_1 fun _ _ _ _ _ _ h hF => ⟨h.2.1, hF⟩
end Jvm.Pilot.@@N@@
namespace Jvm.Pilot.@@N@@
open Jvm Jvm.ClassFile Sem Op Lib Jvm.Free Jvm.Stand Jvm.Pilot.@@N@@.Jvm.D
/-! MADE BY PROGRAM (witnessworld.py) out of the Statement's table words and the real class files: 9 classes; the members and pool entries that the words name. The judged class is class 1, her method 1. -/
namespace start1
open Jvm.ClassFile
def u (s : String) : CpInfo := .utf8 (stringToUtf16 s)
/-- a pool by its gaps: so many unusable entries, then the entry; so many at the end -/
def gap : Nat → List CpInfo → List CpInfo
  | 0, r => r
  | n + 1, r => .unusable :: gap n r
def poolList (es : List (Nat × CpInfo)) (last : Nat) : List CpInfo := es.foldr (fun e r => gap e.1 (e.2 :: r)) (gap last [])
def pool (es : List (Nat × CpInfo)) (last : Nat) : Array CpInfo := ⟨poolList es last⟩
def fileOf (pool : Array CpInfo) (this : Nat) (attrs : Array Attribute := #[]) (ms : Array MethodInfo := #[]) (fl : Nat := 33) (sup : Nat := 0) (ifs : Array Nat := #[]) (fds : Array FieldInfo := #[]) : ClassFile where
  minorVersion := 0
  majorVersion := 65
  constantPool := pool
  accessFlags := fl
  thisClass := this
  superClass := sup
  interfaces := ifs
  fields := fds
  methods := ms
  attributes := attrs
def plain (name : String) (sup : Option ClassId) : Class where
  name := name
  kind := .ordinary
  loader := none
  accessFlags := 33
  super := sup
  interfaces := #[]
  cf := none
  fields := #[]
  methods := #[]
  instanceTypes := #[]
  staticTypes := #[]
  resolved := #[]
  callSites := []
  init := .initialized
  statics := none
  mirror := none

def pool0 : Array CpInfo := pool [(5, u "<init>"), (0, u "()V"), (1, .class_ 10), (1, u "java/lang/Object")] 113

def k0m0 : Method := { name := "<init>", desc := "()V", sig := { parameters := [], returnType := none }, accessFlags := 1, code := none }
/-- java/lang/Object -/
def k0 : Class := { plain "java/lang/Object" none with
  accessFlags := 33
  interfaces := #[]
  cf := some (fileOf pool0 8 #[] #[{ accessFlags := 1, nameIndex := 5, descriptorIndex := 6, attributes := #[] }] 33 0 #[] #[])
  fields := #[]
  methods := #[k0m0]
  instanceTypes := #[]
  staticTypes := #[]
  resolved := Array.replicate 124 none
  statics := none }

def pool1 : Array CpInfo := pool [(2, .class_ 4), (1, u "java/lang/Object"), (0, u "<init>"), (0, u "()V"), (0, .methodref 8 9), (0, .class_ 10), (0, .nameAndType 11 12), (0, u "com/example/tillscan/tillscan/core/Utf8"), (0, u "length"), (0, u "(B)I"), (0, .methodref 14 15), (0, .class_ 16), (0, .nameAndType 17 18), (0, u "com/example/tillscan/tillscan/core/Utf8LengthPinLaw"), (0, u "expected"), (0, u "(I)I"), (2, u "law"), (0, u "(I)Z")] 3

def k1m0 : Method := { name := "<init>", desc := "()V", sig := { parameters := [], returnType := none }, accessFlags := 2, code := none }
def k1c1 : Code := { maxStack := 3, maxLocals := 3, code := code, exceptionTable := #[], attributes := #[] }
def k1m1 : Method := { name := "law", desc := "(I)Z", sig := { parameters := [.int], returnType := some .boolean }, accessFlags := 9, code := some k1c1 }
def k1c2 : Code := { maxStack := 2, maxLocals := 1, code := method_3_code, exceptionTable := #[], attributes := #[] }
def k1m2 : Method := { name := "expected", desc := "(I)I", sig := { parameters := [.int], returnType := some .int }, accessFlags := 10, code := some k1c2 }
/-- com/example/tillscan/tillscan/core/Utf8LengthPinLaw -/
def k1 : Class := { plain "com/example/tillscan/tillscan/core/Utf8LengthPinLaw" (some 0) with
  accessFlags := 49
  interfaces := #[]
  cf := some (fileOf pool1 14 #[] #[{ accessFlags := 2, nameIndex := 5, descriptorIndex := 6, attributes := #[] }, { accessFlags := 9, nameIndex := 21, descriptorIndex := 22, attributes := #[] }, { accessFlags := 10, nameIndex := 17, descriptorIndex := 18, attributes := #[] }] 49 2 #[] #[])
  fields := #[]
  methods := #[k1m0, k1m1, k1m2]
  instanceTypes := #[]
  staticTypes := #[]
  resolved := Array.replicate 26 none
  statics := none }

def pool2 : Array CpInfo := pool [(2, .class_ 4), (1, u "java/lang/Object"), (0, u "<init>"), (0, u "()V"), (1, .class_ 10), (1, u "com/example/tillscan/tillscan/core/Utf8"), (18, u "length"), (64, u "(B)I")] 11

def k2m0 : Method := { name := "<init>", desc := "()V", sig := { parameters := [], returnType := none }, accessFlags := 2, code := none }
def k2c1 : Code := { maxStack := 2, maxLocals := 3, code := prog_42_method_7_code, exceptionTable := #[], attributes := #[] }
def k2m1 : Method := { name := "length", desc := "(B)I", sig := { parameters := [.byte], returnType := some .int }, accessFlags := 8, code := some k2c1 }
/-- com/example/tillscan/tillscan/core/Utf8 -/
def k2 : Class := { plain "com/example/tillscan/tillscan/core/Utf8" (some 0) with
  accessFlags := 49
  interfaces := #[]
  cf := some (fileOf pool2 8 #[] #[{ accessFlags := 2, nameIndex := 5, descriptorIndex := 6, attributes := #[] }, { accessFlags := 8, nameIndex := 29, descriptorIndex := 94, attributes := #[] }] 49 2 #[] #[])
  fields := #[]
  methods := #[k2m0, k2m1]
  instanceTypes := #[]
  staticTypes := #[]
  resolved := Array.replicate 106 none
  statics := none }

def pool3 : Array CpInfo := pool [(1, u "java/lang/Cloneable"), (0, .class_ 1), (0, u "java/lang/Object"), (0, .class_ 3)] 3

/-- java/lang/Cloneable -/
def k3 : Class := { plain "java/lang/Cloneable" (some 0) with
  accessFlags := 1537
  interfaces := #[]
  cf := some (fileOf pool3 2 #[] #[] 1537 4 #[] #[])
  fields := #[]
  methods := #[]
  instanceTypes := #[]
  staticTypes := #[]
  resolved := Array.replicate 8 none
  statics := none }

def pool4 : Array CpInfo := pool [(1, u "java/io/Serializable"), (0, .class_ 1), (0, u "java/lang/Object"), (0, .class_ 3)] 3

/-- java/io/Serializable -/
def k4 : Class := { plain "java/io/Serializable" (some 0) with
  accessFlags := 1537
  interfaces := #[]
  cf := some (fileOf pool4 2 #[] #[] 1537 4 #[] #[])
  fields := #[]
  methods := #[]
  instanceTypes := #[]
  staticTypes := #[]
  resolved := Array.replicate 8 none
  statics := none }

/-- the primitive byte -/
def k5 : Class := { plain "byte" none with kind := .primitive 'B', accessFlags := 0x411 }
/-- [B -/
def k6 : Class := { plain "[B" (some 0) with kind := .array 5 .byte, interfaces := #[3, 4], accessFlags := 1041 }

/-- the primitive int -/
def k7 : Class := { plain "int" none with kind := .primitive 'I', accessFlags := 0x411 }
/-- [I -/
def k8 : Class := { plain "[I" (some 0) with kind := .array 7 .int, interfaces := #[3, 4], accessFlags := 1041 }

def heap : Heap := #[]
def classes : Array Class := #[k0, k1, k2, k3, k4, k5, k6, k7, k8]
def interned : List (Array UInt16 × Addr) := []
def slotsUsed : Nat := 0
def theMethod : MethodId := ⟨1, 1⟩
def args0 : Array Value := #[.int 5]
def aboutOver (below : List Frame) : State where
  vm := { classes := classes, interned := interned.toArray }
  heap := heap
  slotsUsed := slotsUsed
  threads := #[{ frames := .invoking theMethod args0 :: below }]
def below0 : List Frame := [.native { method := ⟨0, 0⟩, args := #[] }]
def about1 : State := aboutOver below0
def p0 : Program := .bare "" "" ""
def e0 : Env := launch0.env 0 0 0
theorem w_frames : about1.frames = Frame.invoking theMethod args0 :: below0 := rfl
set_option maxRecDepth 65536 in
theorem w_args : argsFit about1.vm theMethod args0 = true := by decide +kernel
set_option maxRecDepth 65536 in
theorem w_heap : heapFits about1 = true := by decide +kernel
set_option maxRecDepth 65536 in
theorem w_runnable : about1.curStatus? = some .runnable := by decide +kernel
set_option maxRecDepth 65536 in
theorem w_alone : about1.alone = true := by decide +kernel
set_option maxRecDepth 65536 in
theorem w_named : about1.methodNamed? x = some theMethod := by decide +kernel
set_option maxRecDepth 65536 in
theorem w_hears : about1.hears theMethod below0 = true := by decide +kernel
set_option maxRecDepth 65536 in
theorem w_ripe : about1.ripe theMethod args0 below0 = true := by decide +kernel
theorem w_running : about1.status = .running := rfl
set_option maxRecDepth 65536 in
theorem w_room : about1.hasRoom e0.platform room_1 = true :=
  launch0.hasRoom_least _ room_1 (by decide +kernel) (by decide +kernel) (by decide +kernel) (by decide +kernel) (by decide +kernel) (by decide +kernel)
theorem allAtoms_all (ts : List Jvm.Cond) (a : Array Jvm.Value) (st : Jvm.State) : (allAtoms ts).before a st = ts.all (fun c => c.before a st) := by
  induction ts with
  | nil => rfl
  | cons c t ih =>
    show (Jvm.Cond.and c (allAtoms t)).before a st = _
    rw [Jvm.Cond.before_and, ih, List.all_cons]
def words1 : List Jvm.Cond := Jvm.Cond.code x code maxLocals ret :: tables_1
/-- a 'code' word, met by the world's own term for the bytes: nothing is compared byte by byte -/
theorem code_word {y : MethodName} {bytes : ByteArray} {mx : Nat} {rt : Option FieldType} {a : Array Value} {s : State} {m : MethodId} {meth : Method} {c : Code} (h1 : s.methodNamed? y = some m) (h2 : s.vm.method? m = some meth) (h3 : meth.code = some c) (h4 : c.code = bytes)
    (h5 : (c.maxLocals == mx && c.exceptionTable.isEmpty && decide (c.maxStack ≤ mostOperands) && decide (meth.sig.returnType = rt) && !meth.locks && decide (parseMethodDescriptor y.desc = some meth.sig)) = true) : (Jvm.Cond.code y bytes mx rt).before a s = true := by
  simp only [Bool.and_eq_true, beq_iff_eq, Bool.not_eq_true', decide_eq_true_eq] at h5
  obtain ⟨⟨⟨⟨⟨g1, g2⟩, g3⟩, g4⟩, g5⟩, g6⟩ := h5
  simp [Cond.before, Cond.holds, Cond.value, h1, h2, h3, h4, g1, g2, g3, g4, g5, g6]
def isCode : Jvm.Cond → Bool
  | .code _ _ _ _ => true
  | _ => false
theorem all_split {L : List Jvm.Cond} {P : Jvm.Cond → Bool} (h1 : L.all (fun c => isCode c || P c) = true) (h2 : ∀ c ∈ L.filter isCode, P c = true) : L.all P = true := by
  refine List.all_eq_true.mpr fun c hc => ?_
  have h := List.all_eq_true.mp h1 c hc
  rcases Bool.eq_false_or_eq_true (isCode c) with hi | hi
  · exact h2 c (List.mem_filter.mpr ⟨hc, hi⟩)
  · simpa [hi] using h
set_option maxRecDepth 65536 in
theorem w_c0 : (Jvm.Cond.code x code maxLocals ret).before args0 about1 = true := code_word (m := ⟨1, 1⟩) (meth := k1m1) (c := k1c1) (by decide +kernel) rfl rfl rfl (by decide +kernel)
set_option maxRecDepth 65536 in
theorem w_c1 : (Jvm.Cond.code ({ cls := "com/example/tillscan/tillscan/core/Utf8", name := "length", desc := "(B)I" } : Jvm.MethodName) prog_42_method_7_code (3 : Nat) (Option.some Jvm.ClassFile.FieldType.int)).before args0 about1 = true := code_word (m := ⟨2, 1⟩) (meth := k2m1) (c := k2c1) (by decide +kernel) rfl rfl rfl (by decide +kernel)
set_option maxRecDepth 65536 in
theorem w_c2 : (Jvm.Cond.code ({ cls := "com/example/tillscan/tillscan/core/Utf8LengthPinLaw", name := "expected", desc := "(I)I" } : Jvm.MethodName) method_3_code (1 : Nat) (Option.some Jvm.ClassFile.FieldType.int)).before args0 about1 = true := code_word (m := ⟨1, 2⟩) (meth := k1m2) (c := k1c2) (by decide +kernel) rfl rfl rfl (by decide +kernel)
def codes1 : List Jvm.Cond := [Jvm.Cond.code x code maxLocals ret, Jvm.Cond.code ({ cls := "com/example/tillscan/tillscan/core/Utf8", name := "length", desc := "(B)I" } : Jvm.MethodName) prog_42_method_7_code (3 : Nat) (Option.some Jvm.ClassFile.FieldType.int), Jvm.Cond.code ({ cls := "com/example/tillscan/tillscan/core/Utf8LengthPinLaw", name := "expected", desc := "(I)I" } : Jvm.MethodName) method_3_code (1 : Nat) (Option.some Jvm.ClassFile.FieldType.int)]
set_option maxRecDepth 65536 in
theorem codes_eq : words1.filter isCode = codes1 := rfl
theorem w_codes : ∀ c ∈ words1.filter isCode, c.before args0 about1 = true := by
  rw [codes_eq]
  intro c hc
  simp only [codes1, List.mem_cons, List.not_mem_nil, or_false] at hc
  rcases hc with rfl | rfl | rfl
  · exact w_c0
  · exact w_c1
  · exact w_c2
set_option maxRecDepth 65536 in
theorem w_t1 : words1.all (fun c => isCode c || c.before args0 about1) = true := by decide +kernel
theorem w_tables : (allAtoms (Jvm.Cond.code x code maxLocals ret :: tables_1)).before args0 about1 = true := by
  rw [allAtoms_all]
  show words1.all (fun c => c.before args0 about1) = true
  refine all_split ?_ w_codes
  rw [w_t1]
set_option maxRecDepth 65536 in
theorem w_case : (Jvm.Cond.and given_1 narrow_1).before args0 about1 = true := by decide +kernel
theorem w_applies : (headSpec (Jvm.Cond.code x code maxLocals ret :: tables_1) room_1).applies x e0.platform about1 = true :=
  (Spec.applies_iff w_frames).mpr ⟨w_running, w_runnable, w_alone, w_named, w_hears, w_ripe, w_room, w_tables⟩
theorem atStart : AtStart classFile x code maxLocals ret World_1 tables_1 room_1 Calls_1 rest_1 Pre_1 launch0 p0 e0 about1 theMethod args0 below0 :=
  ⟨lists_1, trivial, launch0.admits_env _ _ _, launch0.least_env, fairChoices_fair.cas, fairChoices_fair.clock, w_frames, w_args, w_heap, w_applies, trivial, trivial, w_case⟩
end start1
theorem witness_1 : WitnessClaimed_1 := ⟨start1.p0, start1.e0, start1.about1, start1.theMethod, start1.args0, start1.below0, start1.atStart⟩
end Jvm.Pilot.@@N@@
