import JvmDerived
import JvmDerived.Pilot.@@N@@Statement
import JvmDerived.Pilot.@@N@@Code
set_option linter.unusedVariables false
set_option linter.unusedSimpArgs false
@@BLOCK:NumsL.lean.txt@@
namespace Jvm.RoadKit
open Sem ClassFile Op Lib Jvm.Stand Jvm.Free Jvm.LawKit
section New
variable {p : Program} {l : Launch} {e : Env} {R : Room} {s : State} {m : MethodId} {args : Array Value} {below : List Frame} {meth : Method} {c : Code} {T : State} {locs : List Loc} {cells slots : Nat}
theorem retI (X : Stand p l e R s m args below meth c T locs cells slots) (hx : p.tables.exec = Jvm.exec) {pc : Nat} {Ls : Array Slot} {z : Int32} {rest : List Value} (hret : meth.sig.returnType = some .int) (hd : decode c.code pc = .ok (.ireturn, 1)) {fs : List Frame}
    (hl : ∀ (f : JFrame) (acts : List Action), f.method = m → f.locked = none → f.entered = [] → (doReturn e (T.setTop f) acts (some (.int z))).1 = T.setFrames fs) : Steps p.tables e below (T.setTop (mkF m pc Ls (.int z :: rest))) (T.setFrames fs) :=
  retOut X hx hret rfl (Or.inl ⟨rfl, Or.inl rfl, z, rfl⟩) hd hl
theorem retJ (X : Stand p l e R s m args below meth c T locs cells slots) (hx : p.tables.exec = Jvm.exec) {pc : Nat} {Ls : Array Slot} {z : Int64} {rest : List Value} (hret : meth.sig.returnType = some .long) (hd : decode c.code pc = .ok (.lreturn, 1)) {fs : List Frame}
    (hl : ∀ (f : JFrame) (acts : List Action), f.method = m → f.locked = none → f.entered = [] → (doReturn e (T.setTop f) acts (some (.long z))).1 = T.setFrames fs) : Steps p.tables e below (T.setTop (mkF m pc Ls (.long z :: rest))) (T.setFrames fs) :=
  retOut X hx hret rfl (Or.inr (Or.inl ⟨rfl, rfl, z, rfl⟩)) hd hl
theorem retA (X : Stand p l e R s m args below meth c T locs cells slots) (hx : p.tables.exec = Jvm.exec) {pc : Nat} {Ls : Array Slot} {w : Value} {t : FieldType} {rest : List Value} (hret : meth.sig.returnType = some t) (hn : narrow t w = w) (ht : t.isReference = true ∧ w.isRef = true) (hd : decode c.code pc = .ok (.areturn, 1)) {fs : List Frame}
    (hl : ∀ (f : JFrame) (acts : List Action), f.method = m → f.locked = none → f.entered = [] → (doReturn e (T.setTop f) acts (some w)).1 = T.setFrames fs) : Steps p.tables e below (T.setTop (mkF m pc Ls (w :: rest))) (T.setFrames fs) :=
  retOut X hx hret hn (Or.inr (Or.inr (Or.inr (Or.inr ⟨rfl, ht.1, ht.2⟩)))) hd hl
def Go (p : Program) (e : Env) (below : List Frame) (T : State) (f : JFrame) (Post : Outcome → State → Prop) : Prop :=
  ∃ s₂ o, Steps p.tables e below (T.setTop f) s₂ ∧ s₂.status = .running ∧ Ended s₂ below o ∧ Post o s₂
theorem Go.by {T T' : State} {f f' : JFrame} {Post : Outcome → State → Prop} (st : ∀ t, Steps p.tables e below (T'.setTop f') t → Steps p.tables e below (T.setTop f) t) (k : Go p e below T' f' Post) : Go p e below T f Post := by
  obtain ⟨s2, o, a, b⟩ := k
  exact ⟨s2, o, st _ a, b⟩
theorem Go.start {T : State} {f g : JFrame} {Post : Outcome → State → Prop} (q : f = g) (k : Go p e below T g Post) : ∃ s₂ o, Steps p.tables e below (T.setTop f) s₂ ∧ s₂.status = .running ∧ Ended s₂ below o ∧ Post o s₂ := by
  subst q; exact k
theorem Go.done {T s₂ : State} {f : JFrame} {o : Outcome} {Post : Outcome → State → Prop} (a : Steps p.tables e below (T.setTop f) s₂) (b : s₂.status = .running) (c : Ended s₂ below o) (d : Post o s₂) : Go p e below T f Post := ⟨s₂, o, a, b, c, d⟩
def own_ushr (x y : Int32) : Int32 := (x.toUInt32 >>> (y &&& 31).toUInt32).toInt32
def own_ushrL (x : Int64) (y : Int32) : Int64 := (x.toUInt64 >>> (y &&& 63).toInt64.toUInt64).toInt64
theorem own_cmpV (x y : Int64) : lcmpW x y = lcmpV x y := lcW x y
theorem own_holdsLt (z : Int32) : ifCond.holds .lt z = decide (z < 0) := rfl
theorem own_holdsGe (z : Int32) : ifCond.holds .ge z = decide (z ≥ 0) := rfl
theorem own_holdsGt (z : Int32) : ifCond.holds .gt z = decide (z > 0) := rfl
theorem own_holdsLe (z : Int32) : ifCond.holds .le z = decide (z ≤ 0) := rfl
theorem own_holdsEq (z : Int32) : ifCond.holds .eq z = (z == 0) := rfl
theorem own_holdsNe (z : Int32) : ifCond.holds .ne z = (z != 0) := rfl
theorem ctlt {x y : Int64} (h : x < y) : ifCond.holds .lt (lcmpW x y) = true ∧ ifCond.holds .ge (lcmpW x y) = false ∧ ifCond.holds .gt (lcmpW y x) = true ∧ ifCond.holds .le (lcmpW y x) = false := by
  rw [own_holdsLt, own_holdsGe, own_holdsGt, own_holdsLe, own_cmpV, own_cmpV]
  refine ⟨decide_eq_true ((lc_lt x y).mpr h), decide_eq_false fun q => ?_, decide_eq_true ((lc_gt y x).mpr h), decide_eq_false fun q => ?_⟩
  · exact Int64.not_le.mpr h ((lc_ge x y).mp q)
  · exact Int64.not_le.mpr h ((lc_le y x).mp q)
theorem cflt {x y : Int64} (h : ¬ x < y) : ifCond.holds .lt (lcmpW x y) = false ∧ ifCond.holds .ge (lcmpW x y) = true ∧ ifCond.holds .gt (lcmpW y x) = false ∧ ifCond.holds .le (lcmpW y x) = true := by
  rw [own_holdsLt, own_holdsGe, own_holdsGt, own_holdsLe, own_cmpV, own_cmpV]
  exact ⟨decide_eq_false fun q => h ((lc_lt x y).mp q), decide_eq_true ((lc_ge x y).mpr (Int64.not_lt.mp h)), decide_eq_false fun q => h ((lc_gt y x).mp q), decide_eq_true ((lc_le y x).mpr (Int64.not_lt.mp h))⟩
theorem cteq {x y : Int64} (h : x = y) : ifCond.holds .eq (lcmpW x y) = true ∧ ifCond.holds .ne (lcmpW x y) = false := by
  rw [own_holdsEq, own_holdsNe, own_cmpV, (lc_eq x y).mpr h]; exact ⟨rfl, rfl⟩
theorem cfeq {x y : Int64} (h : ¬ x = y) : ifCond.holds .eq (lcmpW x y) = false ∧ ifCond.holds .ne (lcmpW x y) = true := by
  have q : ¬ lcmpV x y = 0 := fun r => h ((lc_eq x y).mp r)
  rw [own_holdsEq, own_holdsNe, own_cmpV]
  exact ⟨beq_false_of_ne q, bne_iff_ne.mpr q⟩
theorem Arr.keep {Z : State} {h h' : Heap} {a : Addr} {cl : Cell} {ty : FieldType} {ws : List Addr} (F : Arr Z h a cl ty) (K : Keep h h' ws) (q : a ∉ ws) : Arr Z h' a cl ty := ⟨K.2.1 a cl F.1 q, F.2⟩
theorem own_selPriv {y : MethodName} {s : State} {args : Array Value} {n : Nat} (hy : y.cls ≠ "java/lang/invoke/MethodHandle" ∧ y.cls ≠ "java/lang/invoke/VarHandle") (hins : (Cond.instantiable y.cls n).before args s = true) (hpriv : (Cond.privateMethod y).before args s = true) (hinst : (Cond.instanceMethod y).before args s = true) :
    (Cond.selects y.cls y y).before args s = true := by
  obtain ⟨c, k, hc, hk, -, hniab, -, -⟩ := Cond.instantiable_spec hins
  have hni : k.isInterface = false := (Bool.or_eq_false_iff.mp hniab).1
  obtain ⟨mk, methM, hnamed, hmethM, -, -⟩ := Cond.instanceMethod_spec hinst
  have hfound : s.methodFound? y.cls y.name y.desc = some mk := State.methodFound?_of_named hnamed hy
  have hcls : mk.cls = c := Option.some.inj ((findClass_of_methodNamed hnamed).symm.trans hc)
  have hsel : selectMethod {} s.vm c mk = .method mk := selectMethod_private hmethM (Cond.privateMethod_at hpriv mk methM hnamed hmethM)
  simp only [Cond.before, Cond.holds, Cond.value, hc, hfound, hnamed, hsel, hcls, hk]
  simp; exact hni
end New
end Jvm.RoadKit
namespace Jvm.Pilot.@@N@@
open Jvm Jvm.ClassFile Sem Op Lib Jvm.Free Jvm.Stand Jvm.LawKit Jvm.RoadKit Bundle Jvm.Pilot.@@N@@.Jvm.D
def f2 (p1 : Int32) : Int32 :=
  if (p1 &&& (255 : Int32)) < (194 : Int32) then (if (p1 &&& (255 : Int32)) < (224 : Int32) then (if (p1 &&& (255 : Int32)) < (240 : Int32) then (0 : Int32)
      else (if (244 : Int32) < (p1 &&& (255 : Int32)) then (0 : Int32)
        else (4 : Int32)))
    else (if (239 : Int32) < (p1 &&& (255 : Int32)) then (if (p1 &&& (255 : Int32)) < (240 : Int32) then (0 : Int32)
        else (if (244 : Int32) < (p1 &&& (255 : Int32)) then (0 : Int32)
          else (4 : Int32)))
      else (3 : Int32)))
  else (if (223 : Int32) < (p1 &&& (255 : Int32)) then (if (p1 &&& (255 : Int32)) < (224 : Int32) then (if (p1 &&& (255 : Int32)) < (240 : Int32) then (0 : Int32)
        else (if (244 : Int32) < (p1 &&& (255 : Int32)) then (0 : Int32)
          else (4 : Int32)))
      else (if (239 : Int32) < (p1 &&& (255 : Int32)) then (if (p1 &&& (255 : Int32)) < (240 : Int32) then (0 : Int32)
          else (if (244 : Int32) < (p1 &&& (255 : Int32)) then (0 : Int32)
            else (4 : Int32)))
        else (3 : Int32)))
    else (2 : Int32))
theorem d2_0 : decode prog_42_method_7_code 0 = .ok (.iload_n 0, 1) := by decide +kernel
theorem d2_1 : decode prog_42_method_7_code 1 = .ok (.sipush 255, 3) := by decide +kernel
theorem d2_4 : decode prog_42_method_7_code 4 = .ok (.iand, 1) := by decide +kernel
theorem d2_5 : decode prog_42_method_7_code 5 = .ok (.istore_n 1, 1) := by decide +kernel
theorem d2_6 : decode prog_42_method_7_code 6 = .ok (.iconst 0, 1) := by decide +kernel
theorem d2_7 : decode prog_42_method_7_code 7 = .ok (.istore_n 2, 1) := by decide +kernel
theorem d2_8 : decode prog_42_method_7_code 8 = .ok (.iload_n 1, 1) := by decide +kernel
theorem d2_9 : decode prog_42_method_7_code 9 = .ok (.sipush 194, 3) := by decide +kernel
theorem d2_12 : decode prog_42_method_7_code 12 = .ok (.if_icmp .lt 15, 3) := by decide +kernel
theorem d2_15 : decode prog_42_method_7_code 15 = .ok (.iload_n 1, 1) := by decide +kernel
theorem d2_16 : decode prog_42_method_7_code 16 = .ok (.sipush 223, 3) := by decide +kernel
theorem d2_19 : decode prog_42_method_7_code 19 = .ok (.if_icmp .gt 8, 3) := by decide +kernel
theorem d2_22 : decode prog_42_method_7_code 22 = .ok (.iconst 2, 1) := by decide +kernel
theorem d2_23 : decode prog_42_method_7_code 23 = .ok (.istore_n 2, 1) := by decide +kernel
theorem d2_24 : decode prog_42_method_7_code 24 = .ok (.goto 38, 3) := by decide +kernel
theorem d2_27 : decode prog_42_method_7_code 27 = .ok (.iload_n 1, 1) := by decide +kernel
theorem d2_28 : decode prog_42_method_7_code 28 = .ok (.sipush 224, 3) := by decide +kernel
theorem d2_31 : decode prog_42_method_7_code 31 = .ok (.if_icmp .lt 15, 3) := by decide +kernel
theorem d2_34 : decode prog_42_method_7_code 34 = .ok (.iload_n 1, 1) := by decide +kernel
theorem d2_35 : decode prog_42_method_7_code 35 = .ok (.sipush 239, 3) := by decide +kernel
theorem d2_38 : decode prog_42_method_7_code 38 = .ok (.if_icmp .gt 8, 3) := by decide +kernel
theorem d2_41 : decode prog_42_method_7_code 41 = .ok (.iconst 3, 1) := by decide +kernel
theorem d2_42 : decode prog_42_method_7_code 42 = .ok (.istore_n 2, 1) := by decide +kernel
theorem d2_43 : decode prog_42_method_7_code 43 = .ok (.goto 19, 3) := by decide +kernel
theorem d2_46 : decode prog_42_method_7_code 46 = .ok (.iload_n 1, 1) := by decide +kernel
theorem d2_47 : decode prog_42_method_7_code 47 = .ok (.sipush 240, 3) := by decide +kernel
theorem d2_50 : decode prog_42_method_7_code 50 = .ok (.if_icmp .lt 12, 3) := by decide +kernel
theorem d2_53 : decode prog_42_method_7_code 53 = .ok (.iload_n 1, 1) := by decide +kernel
theorem d2_54 : decode prog_42_method_7_code 54 = .ok (.sipush 244, 3) := by decide +kernel
theorem d2_57 : decode prog_42_method_7_code 57 = .ok (.if_icmp .gt 5, 3) := by decide +kernel
theorem d2_60 : decode prog_42_method_7_code 60 = .ok (.iconst 4, 1) := by decide +kernel
theorem d2_61 : decode prog_42_method_7_code 61 = .ok (.istore_n 2, 1) := by decide +kernel
theorem d2_62 : decode prog_42_method_7_code 62 = .ok (.iload_n 2, 1) := by decide +kernel
theorem d2_63 : decode prog_42_method_7_code 63 = .ok (.ireturn, 1) := by decide +kernel
theorem pn_0 : plainName "com/example/tillscan/tillscan/core/Utf8" = true := by first | (simp [plainName, overriddenIn]; done) | decide +kernel
theorem ef_2 (m : MethodId) (x0 : Int32) : entryFrame m #[(.int x0)] 3 = mkF m 0 #[.val (.int x0), .unset, .unset] [] := by first | (simp [entryFrame, mkF, argsToLocals, Value.category]; done) | rfl
def Q2 (Z : State) (p1 : Int32) (h0 : Heap) (n0 : Nat) (v : Option Value) (h : Heap) (L : List Loc) : Prop := v = some (.int (f2 p1)) ∧ Fr n0 L ∧ h = h0
set_option maxRecDepth 65536 in
set_option maxHeartbeats 40000000 in
theorem rm2 (l : Launch) (Z : State) (a0 : Array Value) (hw : ∀ d ∈ tables_1, d.before a0 Z = true) (ws : List Jvm.Cond) (p1 : Int32) (h0 : Heap) (n0 : Nat) (Z0 : n0 ≤ h0.size) :
    MetFree l (⟨"com/example/tillscan/tillscan/core/Utf8", "length", "(B)I"⟩ : MethodName) (head1 (Jvm.Cond.code (⟨"com/example/tillscan/tillscan/core/Utf8", "length", "(B)I"⟩ : MethodName) prog_42_method_7_code 3 (some .int) :: ws) ({ frames := 0, cells := 0, slots := 0, locals := 0 } : Room)) (fun a U => a = #[(.int p1)] ∧ Z.Warmed39 U.vm ∧ U.heap = h0) (fun _ _ _ _ _ => True) (fun _ U o U' => ∃ v L, o = .returned v ∧ Q2 Z p1 h0 n0 v U'.heap L ∧ FrameEnd U o U' L ({ frames := 0, cells := 0, slots := 0, locals := 0 } : Room).cells ({ frames := 0, cells := 0, slots := 0, locals := 0 } : Room).slots) := by
  refine MetFree.of_bodySF (plainFor_of_name pn_0) hisR ?_
  intro p e s m args below meth c s₁ Bd hml0 hP hK
  obtain ⟨rfl, hZ, hh⟩ := hP
  have hx := Bd.exec
  have hby := Bd.bytes
  have hml : c.maxLocals = 3 := hml0
  have hown : s.vm.findClass "com/example/tillscan/tillscan/core/Utf8" = some m.cls := findClass_of_methodNamed Bd.named
  have hnm := (name_of_methodNamed Bd.named Bd.method).1
  have X0 : Stand p l e ({ frames := 0, cells := 0, slots := 0, locals := 0 } : Room) s m #[(.int p1)] below meth c s₁ [] 0 0 := Stand.of_body Bd
  have e0 : s₁.heap = h0 := by rw [← hh, Bd.state]; rfl
  have N0 := Fr.nil n0
  refine Go.start (ef_2 m p1) ?_
  show Go p e below s₁ (mkF m 0 #[.val (.int p1), .unset, .unset] []) _
  refine Go.by (fun t k => XS.iloadN X0.here hx rfl (hb hby d2_0) rfl k) ?_
  show Go p e below s₁ (mkF m 1 #[.val (.int p1), .unset, .unset] [(.int p1)]) _
  refine Go.by (fun t k => XS.sipush X0.here hx rfl (hb hby d2_1) k) ?_
  show Go p e below s₁ (mkF m 4 #[.val (.int p1), .unset, .unset] [(.int (255 : Int32)), (.int p1)]) _
  refine Go.by (fun t k => XS.iand X0.here hx rfl (hb hby d2_4) rfl k) ?_
  show Go p e below s₁ (mkF m 5 #[.val (.int p1), .unset, .unset] [(.int (p1 &&& (255 : Int32)))]) _
  refine Go.by (fun t k => XS.istoreN X0.here hx rfl (hb hby d2_5) rfl (l' := #[.val (.int p1), .val (.int (p1 &&& (255 : Int32))), .unset]) rfl k) ?_
  show Go p e below s₁ (mkF m 6 #[.val (.int p1), .val (.int (p1 &&& (255 : Int32))), .unset] []) _
  refine Go.by (fun t k => XS.iconst X0.here hx rfl (hb hby d2_6) k) ?_
  show Go p e below s₁ (mkF m 7 #[.val (.int p1), .val (.int (p1 &&& (255 : Int32))), .unset] [(.int (0 : Int32))]) _
  refine Go.by (fun t k => XS.istoreN X0.here hx rfl (hb hby d2_7) rfl (l' := #[.val (.int p1), .val (.int (p1 &&& (255 : Int32))), .val (.int (0 : Int32))]) rfl k) ?_
  show Go p e below s₁ (mkF m 8 #[.val (.int p1), .val (.int (p1 &&& (255 : Int32))), .val (.int (0 : Int32))] []) _
  refine Go.by (fun t k => XS.iloadN X0.here hx rfl (hb hby d2_8) rfl k) ?_
  show Go p e below s₁ (mkF m 9 #[.val (.int p1), .val (.int (p1 &&& (255 : Int32))), .val (.int (0 : Int32))] [(.int (p1 &&& (255 : Int32)))]) _
  refine Go.by (fun t k => XS.sipush X0.here hx rfl (hb hby d2_9) k) ?_
  show Go p e below s₁ (mkF m 12 #[.val (.int p1), .val (.int (p1 &&& (255 : Int32))), .val (.int (0 : Int32))] [(.int (194 : Int32)), (.int (p1 &&& (255 : Int32)))]) _
  by_cases hc1 : (p1 &&& (255 : Int32)) < (194 : Int32)
  · refine Go.by (fun t k => XS.icmpYes X0.here hx rfl (pc0 := 12) (pc' := 27) rfl (hb hby d2_12) rfl (tlt hc1).1 (by decide) (by decide) k) ?_
    show Go p e below s₁ (mkF m 27 #[.val (.int p1), .val (.int (p1 &&& (255 : Int32))), .val (.int (0 : Int32))] []) _
    refine Go.by (fun t k => XS.iloadN X0.here hx rfl (hb hby d2_27) rfl k) ?_
    show Go p e below s₁ (mkF m 28 #[.val (.int p1), .val (.int (p1 &&& (255 : Int32))), .val (.int (0 : Int32))] [(.int (p1 &&& (255 : Int32)))]) _
    refine Go.by (fun t k => XS.sipush X0.here hx rfl (hb hby d2_28) k) ?_
    show Go p e below s₁ (mkF m 31 #[.val (.int p1), .val (.int (p1 &&& (255 : Int32))), .val (.int (0 : Int32))] [(.int (224 : Int32)), (.int (p1 &&& (255 : Int32)))]) _
    by_cases hc2 : (p1 &&& (255 : Int32)) < (224 : Int32)
    · refine Go.by (fun t k => XS.icmpYes X0.here hx rfl (pc0 := 31) (pc' := 46) rfl (hb hby d2_31) rfl (tlt hc2).1 (by decide) (by decide) k) ?_
      show Go p e below s₁ (mkF m 46 #[.val (.int p1), .val (.int (p1 &&& (255 : Int32))), .val (.int (0 : Int32))] []) _
      refine Go.by (fun t k => XS.iloadN X0.here hx rfl (hb hby d2_46) rfl k) ?_
      show Go p e below s₁ (mkF m 47 #[.val (.int p1), .val (.int (p1 &&& (255 : Int32))), .val (.int (0 : Int32))] [(.int (p1 &&& (255 : Int32)))]) _
      refine Go.by (fun t k => XS.sipush X0.here hx rfl (hb hby d2_47) k) ?_
      show Go p e below s₁ (mkF m 50 #[.val (.int p1), .val (.int (p1 &&& (255 : Int32))), .val (.int (0 : Int32))] [(.int (240 : Int32)), (.int (p1 &&& (255 : Int32)))]) _
      by_cases hc3 : (p1 &&& (255 : Int32)) < (240 : Int32)
      · refine Go.by (fun t k => XS.icmpYes X0.here hx rfl (pc0 := 50) (pc' := 62) rfl (hb hby d2_50) rfl (tlt hc3).1 (by decide) (by decide) k) ?_
        show Go p e below s₁ (mkF m 62 #[.val (.int p1), .val (.int (p1 &&& (255 : Int32))), .val (.int (0 : Int32))] []) _
        refine Go.by (fun t k => XS.iloadN X0.here hx rfl (hb hby d2_62) rfl k) ?_
        show Go p e below s₁ (mkF m 63 #[.val (.int p1), .val (.int (p1 &&& (255 : Int32))), .val (.int (0 : Int32))] [(.int (0 : Int32))]) _
        obtain ⟨fs, hr, hrun, hended, hW, hsame⟩ := X0.leave (v := some (.int (0 : Int32))) (fun h => by rw [Bd.returns] at h; cases h)
        refine Go.done (retI X0 hx Bd.returns (hb hby d2_63) hr) hrun hended ⟨_, _, rfl, ?_, ⟨_, rfl⟩, hW, hsame.mono (by decide) (by decide)⟩
        show Q2 Z p1 h0 n0 _ s₁.heap _
        rw [e0]
        refine ⟨?_, N0, rfl⟩
        rw [f2, if_pos hc1, if_pos hc2, if_pos hc3]
      · refine Go.by (fun t k => XS.icmpNo X0.here hx rfl (hb hby d2_50) rfl (flt hc3).1 k) ?_
        show Go p e below s₁ (mkF m 53 #[.val (.int p1), .val (.int (p1 &&& (255 : Int32))), .val (.int (0 : Int32))] []) _
        refine Go.by (fun t k => XS.iloadN X0.here hx rfl (hb hby d2_53) rfl k) ?_
        show Go p e below s₁ (mkF m 54 #[.val (.int p1), .val (.int (p1 &&& (255 : Int32))), .val (.int (0 : Int32))] [(.int (p1 &&& (255 : Int32)))]) _
        refine Go.by (fun t k => XS.sipush X0.here hx rfl (hb hby d2_54) k) ?_
        show Go p e below s₁ (mkF m 57 #[.val (.int p1), .val (.int (p1 &&& (255 : Int32))), .val (.int (0 : Int32))] [(.int (244 : Int32)), (.int (p1 &&& (255 : Int32)))]) _
        by_cases hc4 : (244 : Int32) < (p1 &&& (255 : Int32))
        · refine Go.by (fun t k => XS.icmpYes X0.here hx rfl (pc0 := 57) (pc' := 62) rfl (hb hby d2_57) rfl (tlt hc4).2.2.1 (by decide) (by decide) k) ?_
          show Go p e below s₁ (mkF m 62 #[.val (.int p1), .val (.int (p1 &&& (255 : Int32))), .val (.int (0 : Int32))] []) _
          refine Go.by (fun t k => XS.iloadN X0.here hx rfl (hb hby d2_62) rfl k) ?_
          show Go p e below s₁ (mkF m 63 #[.val (.int p1), .val (.int (p1 &&& (255 : Int32))), .val (.int (0 : Int32))] [(.int (0 : Int32))]) _
          obtain ⟨fs, hr, hrun, hended, hW, hsame⟩ := X0.leave (v := some (.int (0 : Int32))) (fun h => by rw [Bd.returns] at h; cases h)
          refine Go.done (retI X0 hx Bd.returns (hb hby d2_63) hr) hrun hended ⟨_, _, rfl, ?_, ⟨_, rfl⟩, hW, hsame.mono (by decide) (by decide)⟩
          show Q2 Z p1 h0 n0 _ s₁.heap _
          rw [e0]
          refine ⟨?_, N0, rfl⟩
          rw [f2, if_pos hc1, if_pos hc2, if_neg hc3, if_pos hc4]
        · refine Go.by (fun t k => XS.icmpNo X0.here hx rfl (hb hby d2_57) rfl (flt hc4).2.2.1 k) ?_
          show Go p e below s₁ (mkF m 60 #[.val (.int p1), .val (.int (p1 &&& (255 : Int32))), .val (.int (0 : Int32))] []) _
          refine Go.by (fun t k => XS.iconst X0.here hx rfl (hb hby d2_60) k) ?_
          show Go p e below s₁ (mkF m 61 #[.val (.int p1), .val (.int (p1 &&& (255 : Int32))), .val (.int (0 : Int32))] [(.int (4 : Int32))]) _
          refine Go.by (fun t k => XS.istoreN X0.here hx rfl (hb hby d2_61) rfl (l' := #[.val (.int p1), .val (.int (p1 &&& (255 : Int32))), .val (.int (4 : Int32))]) rfl k) ?_
          show Go p e below s₁ (mkF m 62 #[.val (.int p1), .val (.int (p1 &&& (255 : Int32))), .val (.int (4 : Int32))] []) _
          refine Go.by (fun t k => XS.iloadN X0.here hx rfl (hb hby d2_62) rfl k) ?_
          show Go p e below s₁ (mkF m 63 #[.val (.int p1), .val (.int (p1 &&& (255 : Int32))), .val (.int (4 : Int32))] [(.int (4 : Int32))]) _
          obtain ⟨fs, hr, hrun, hended, hW, hsame⟩ := X0.leave (v := some (.int (4 : Int32))) (fun h => by rw [Bd.returns] at h; cases h)
          refine Go.done (retI X0 hx Bd.returns (hb hby d2_63) hr) hrun hended ⟨_, _, rfl, ?_, ⟨_, rfl⟩, hW, hsame.mono (by decide) (by decide)⟩
          show Q2 Z p1 h0 n0 _ s₁.heap _
          rw [e0]
          refine ⟨?_, N0, rfl⟩
          rw [f2, if_pos hc1, if_pos hc2, if_neg hc3, if_neg hc4]
    · refine Go.by (fun t k => XS.icmpNo X0.here hx rfl (hb hby d2_31) rfl (flt hc2).1 k) ?_
      show Go p e below s₁ (mkF m 34 #[.val (.int p1), .val (.int (p1 &&& (255 : Int32))), .val (.int (0 : Int32))] []) _
      refine Go.by (fun t k => XS.iloadN X0.here hx rfl (hb hby d2_34) rfl k) ?_
      show Go p e below s₁ (mkF m 35 #[.val (.int p1), .val (.int (p1 &&& (255 : Int32))), .val (.int (0 : Int32))] [(.int (p1 &&& (255 : Int32)))]) _
      refine Go.by (fun t k => XS.sipush X0.here hx rfl (hb hby d2_35) k) ?_
      show Go p e below s₁ (mkF m 38 #[.val (.int p1), .val (.int (p1 &&& (255 : Int32))), .val (.int (0 : Int32))] [(.int (239 : Int32)), (.int (p1 &&& (255 : Int32)))]) _
      by_cases hc5 : (239 : Int32) < (p1 &&& (255 : Int32))
      · refine Go.by (fun t k => XS.icmpYes X0.here hx rfl (pc0 := 38) (pc' := 46) rfl (hb hby d2_38) rfl (tlt hc5).2.2.1 (by decide) (by decide) k) ?_
        show Go p e below s₁ (mkF m 46 #[.val (.int p1), .val (.int (p1 &&& (255 : Int32))), .val (.int (0 : Int32))] []) _
        refine Go.by (fun t k => XS.iloadN X0.here hx rfl (hb hby d2_46) rfl k) ?_
        show Go p e below s₁ (mkF m 47 #[.val (.int p1), .val (.int (p1 &&& (255 : Int32))), .val (.int (0 : Int32))] [(.int (p1 &&& (255 : Int32)))]) _
        refine Go.by (fun t k => XS.sipush X0.here hx rfl (hb hby d2_47) k) ?_
        show Go p e below s₁ (mkF m 50 #[.val (.int p1), .val (.int (p1 &&& (255 : Int32))), .val (.int (0 : Int32))] [(.int (240 : Int32)), (.int (p1 &&& (255 : Int32)))]) _
        by_cases hc6 : (p1 &&& (255 : Int32)) < (240 : Int32)
        · refine Go.by (fun t k => XS.icmpYes X0.here hx rfl (pc0 := 50) (pc' := 62) rfl (hb hby d2_50) rfl (tlt hc6).1 (by decide) (by decide) k) ?_
          show Go p e below s₁ (mkF m 62 #[.val (.int p1), .val (.int (p1 &&& (255 : Int32))), .val (.int (0 : Int32))] []) _
          refine Go.by (fun t k => XS.iloadN X0.here hx rfl (hb hby d2_62) rfl k) ?_
          show Go p e below s₁ (mkF m 63 #[.val (.int p1), .val (.int (p1 &&& (255 : Int32))), .val (.int (0 : Int32))] [(.int (0 : Int32))]) _
          obtain ⟨fs, hr, hrun, hended, hW, hsame⟩ := X0.leave (v := some (.int (0 : Int32))) (fun h => by rw [Bd.returns] at h; cases h)
          refine Go.done (retI X0 hx Bd.returns (hb hby d2_63) hr) hrun hended ⟨_, _, rfl, ?_, ⟨_, rfl⟩, hW, hsame.mono (by decide) (by decide)⟩
          show Q2 Z p1 h0 n0 _ s₁.heap _
          rw [e0]
          refine ⟨?_, N0, rfl⟩
          rw [f2, if_pos hc1, if_neg hc2, if_pos hc5, if_pos hc6]
        · refine Go.by (fun t k => XS.icmpNo X0.here hx rfl (hb hby d2_50) rfl (flt hc6).1 k) ?_
          show Go p e below s₁ (mkF m 53 #[.val (.int p1), .val (.int (p1 &&& (255 : Int32))), .val (.int (0 : Int32))] []) _
          refine Go.by (fun t k => XS.iloadN X0.here hx rfl (hb hby d2_53) rfl k) ?_
          show Go p e below s₁ (mkF m 54 #[.val (.int p1), .val (.int (p1 &&& (255 : Int32))), .val (.int (0 : Int32))] [(.int (p1 &&& (255 : Int32)))]) _
          refine Go.by (fun t k => XS.sipush X0.here hx rfl (hb hby d2_54) k) ?_
          show Go p e below s₁ (mkF m 57 #[.val (.int p1), .val (.int (p1 &&& (255 : Int32))), .val (.int (0 : Int32))] [(.int (244 : Int32)), (.int (p1 &&& (255 : Int32)))]) _
          by_cases hc7 : (244 : Int32) < (p1 &&& (255 : Int32))
          · refine Go.by (fun t k => XS.icmpYes X0.here hx rfl (pc0 := 57) (pc' := 62) rfl (hb hby d2_57) rfl (tlt hc7).2.2.1 (by decide) (by decide) k) ?_
            show Go p e below s₁ (mkF m 62 #[.val (.int p1), .val (.int (p1 &&& (255 : Int32))), .val (.int (0 : Int32))] []) _
            refine Go.by (fun t k => XS.iloadN X0.here hx rfl (hb hby d2_62) rfl k) ?_
            show Go p e below s₁ (mkF m 63 #[.val (.int p1), .val (.int (p1 &&& (255 : Int32))), .val (.int (0 : Int32))] [(.int (0 : Int32))]) _
            obtain ⟨fs, hr, hrun, hended, hW, hsame⟩ := X0.leave (v := some (.int (0 : Int32))) (fun h => by rw [Bd.returns] at h; cases h)
            refine Go.done (retI X0 hx Bd.returns (hb hby d2_63) hr) hrun hended ⟨_, _, rfl, ?_, ⟨_, rfl⟩, hW, hsame.mono (by decide) (by decide)⟩
            show Q2 Z p1 h0 n0 _ s₁.heap _
            rw [e0]
            refine ⟨?_, N0, rfl⟩
            rw [f2, if_pos hc1, if_neg hc2, if_pos hc5, if_neg hc6, if_pos hc7]
          · refine Go.by (fun t k => XS.icmpNo X0.here hx rfl (hb hby d2_57) rfl (flt hc7).2.2.1 k) ?_
            show Go p e below s₁ (mkF m 60 #[.val (.int p1), .val (.int (p1 &&& (255 : Int32))), .val (.int (0 : Int32))] []) _
            refine Go.by (fun t k => XS.iconst X0.here hx rfl (hb hby d2_60) k) ?_
            show Go p e below s₁ (mkF m 61 #[.val (.int p1), .val (.int (p1 &&& (255 : Int32))), .val (.int (0 : Int32))] [(.int (4 : Int32))]) _
            refine Go.by (fun t k => XS.istoreN X0.here hx rfl (hb hby d2_61) rfl (l' := #[.val (.int p1), .val (.int (p1 &&& (255 : Int32))), .val (.int (4 : Int32))]) rfl k) ?_
            show Go p e below s₁ (mkF m 62 #[.val (.int p1), .val (.int (p1 &&& (255 : Int32))), .val (.int (4 : Int32))] []) _
            refine Go.by (fun t k => XS.iloadN X0.here hx rfl (hb hby d2_62) rfl k) ?_
            show Go p e below s₁ (mkF m 63 #[.val (.int p1), .val (.int (p1 &&& (255 : Int32))), .val (.int (4 : Int32))] [(.int (4 : Int32))]) _
            obtain ⟨fs, hr, hrun, hended, hW, hsame⟩ := X0.leave (v := some (.int (4 : Int32))) (fun h => by rw [Bd.returns] at h; cases h)
            refine Go.done (retI X0 hx Bd.returns (hb hby d2_63) hr) hrun hended ⟨_, _, rfl, ?_, ⟨_, rfl⟩, hW, hsame.mono (by decide) (by decide)⟩
            show Q2 Z p1 h0 n0 _ s₁.heap _
            rw [e0]
            refine ⟨?_, N0, rfl⟩
            rw [f2, if_pos hc1, if_neg hc2, if_pos hc5, if_neg hc6, if_neg hc7]
      · refine Go.by (fun t k => XS.icmpNo X0.here hx rfl (hb hby d2_38) rfl (flt hc5).2.2.1 k) ?_
        show Go p e below s₁ (mkF m 41 #[.val (.int p1), .val (.int (p1 &&& (255 : Int32))), .val (.int (0 : Int32))] []) _
        refine Go.by (fun t k => XS.iconst X0.here hx rfl (hb hby d2_41) k) ?_
        show Go p e below s₁ (mkF m 42 #[.val (.int p1), .val (.int (p1 &&& (255 : Int32))), .val (.int (0 : Int32))] [(.int (3 : Int32))]) _
        refine Go.by (fun t k => XS.istoreN X0.here hx rfl (hb hby d2_42) rfl (l' := #[.val (.int p1), .val (.int (p1 &&& (255 : Int32))), .val (.int (3 : Int32))]) rfl k) ?_
        show Go p e below s₁ (mkF m 43 #[.val (.int p1), .val (.int (p1 &&& (255 : Int32))), .val (.int (3 : Int32))] []) _
        refine Go.by (fun t k => XS.goto X0.here hx rfl (pc0 := 43) (pc' := 62) rfl (hb hby d2_43) (by decide) (by decide) k) ?_
        show Go p e below s₁ (mkF m 62 #[.val (.int p1), .val (.int (p1 &&& (255 : Int32))), .val (.int (3 : Int32))] []) _
        refine Go.by (fun t k => XS.iloadN X0.here hx rfl (hb hby d2_62) rfl k) ?_
        show Go p e below s₁ (mkF m 63 #[.val (.int p1), .val (.int (p1 &&& (255 : Int32))), .val (.int (3 : Int32))] [(.int (3 : Int32))]) _
        obtain ⟨fs, hr, hrun, hended, hW, hsame⟩ := X0.leave (v := some (.int (3 : Int32))) (fun h => by rw [Bd.returns] at h; cases h)
        refine Go.done (retI X0 hx Bd.returns (hb hby d2_63) hr) hrun hended ⟨_, _, rfl, ?_, ⟨_, rfl⟩, hW, hsame.mono (by decide) (by decide)⟩
        show Q2 Z p1 h0 n0 _ s₁.heap _
        rw [e0]
        refine ⟨?_, N0, rfl⟩
        rw [f2, if_pos hc1, if_neg hc2, if_neg hc5]
  · refine Go.by (fun t k => XS.icmpNo X0.here hx rfl (hb hby d2_12) rfl (flt hc1).1 k) ?_
    show Go p e below s₁ (mkF m 15 #[.val (.int p1), .val (.int (p1 &&& (255 : Int32))), .val (.int (0 : Int32))] []) _
    refine Go.by (fun t k => XS.iloadN X0.here hx rfl (hb hby d2_15) rfl k) ?_
    show Go p e below s₁ (mkF m 16 #[.val (.int p1), .val (.int (p1 &&& (255 : Int32))), .val (.int (0 : Int32))] [(.int (p1 &&& (255 : Int32)))]) _
    refine Go.by (fun t k => XS.sipush X0.here hx rfl (hb hby d2_16) k) ?_
    show Go p e below s₁ (mkF m 19 #[.val (.int p1), .val (.int (p1 &&& (255 : Int32))), .val (.int (0 : Int32))] [(.int (223 : Int32)), (.int (p1 &&& (255 : Int32)))]) _
    by_cases hc8 : (223 : Int32) < (p1 &&& (255 : Int32))
    · refine Go.by (fun t k => XS.icmpYes X0.here hx rfl (pc0 := 19) (pc' := 27) rfl (hb hby d2_19) rfl (tlt hc8).2.2.1 (by decide) (by decide) k) ?_
      show Go p e below s₁ (mkF m 27 #[.val (.int p1), .val (.int (p1 &&& (255 : Int32))), .val (.int (0 : Int32))] []) _
      refine Go.by (fun t k => XS.iloadN X0.here hx rfl (hb hby d2_27) rfl k) ?_
      show Go p e below s₁ (mkF m 28 #[.val (.int p1), .val (.int (p1 &&& (255 : Int32))), .val (.int (0 : Int32))] [(.int (p1 &&& (255 : Int32)))]) _
      refine Go.by (fun t k => XS.sipush X0.here hx rfl (hb hby d2_28) k) ?_
      show Go p e below s₁ (mkF m 31 #[.val (.int p1), .val (.int (p1 &&& (255 : Int32))), .val (.int (0 : Int32))] [(.int (224 : Int32)), (.int (p1 &&& (255 : Int32)))]) _
      by_cases hc9 : (p1 &&& (255 : Int32)) < (224 : Int32)
      · refine Go.by (fun t k => XS.icmpYes X0.here hx rfl (pc0 := 31) (pc' := 46) rfl (hb hby d2_31) rfl (tlt hc9).1 (by decide) (by decide) k) ?_
        show Go p e below s₁ (mkF m 46 #[.val (.int p1), .val (.int (p1 &&& (255 : Int32))), .val (.int (0 : Int32))] []) _
        refine Go.by (fun t k => XS.iloadN X0.here hx rfl (hb hby d2_46) rfl k) ?_
        show Go p e below s₁ (mkF m 47 #[.val (.int p1), .val (.int (p1 &&& (255 : Int32))), .val (.int (0 : Int32))] [(.int (p1 &&& (255 : Int32)))]) _
        refine Go.by (fun t k => XS.sipush X0.here hx rfl (hb hby d2_47) k) ?_
        show Go p e below s₁ (mkF m 50 #[.val (.int p1), .val (.int (p1 &&& (255 : Int32))), .val (.int (0 : Int32))] [(.int (240 : Int32)), (.int (p1 &&& (255 : Int32)))]) _
        by_cases hc10 : (p1 &&& (255 : Int32)) < (240 : Int32)
        · refine Go.by (fun t k => XS.icmpYes X0.here hx rfl (pc0 := 50) (pc' := 62) rfl (hb hby d2_50) rfl (tlt hc10).1 (by decide) (by decide) k) ?_
          show Go p e below s₁ (mkF m 62 #[.val (.int p1), .val (.int (p1 &&& (255 : Int32))), .val (.int (0 : Int32))] []) _
          refine Go.by (fun t k => XS.iloadN X0.here hx rfl (hb hby d2_62) rfl k) ?_
          show Go p e below s₁ (mkF m 63 #[.val (.int p1), .val (.int (p1 &&& (255 : Int32))), .val (.int (0 : Int32))] [(.int (0 : Int32))]) _
          obtain ⟨fs, hr, hrun, hended, hW, hsame⟩ := X0.leave (v := some (.int (0 : Int32))) (fun h => by rw [Bd.returns] at h; cases h)
          refine Go.done (retI X0 hx Bd.returns (hb hby d2_63) hr) hrun hended ⟨_, _, rfl, ?_, ⟨_, rfl⟩, hW, hsame.mono (by decide) (by decide)⟩
          show Q2 Z p1 h0 n0 _ s₁.heap _
          rw [e0]
          refine ⟨?_, N0, rfl⟩
          rw [f2, if_neg hc1, if_pos hc8, if_pos hc9, if_pos hc10]
        · refine Go.by (fun t k => XS.icmpNo X0.here hx rfl (hb hby d2_50) rfl (flt hc10).1 k) ?_
          show Go p e below s₁ (mkF m 53 #[.val (.int p1), .val (.int (p1 &&& (255 : Int32))), .val (.int (0 : Int32))] []) _
          refine Go.by (fun t k => XS.iloadN X0.here hx rfl (hb hby d2_53) rfl k) ?_
          show Go p e below s₁ (mkF m 54 #[.val (.int p1), .val (.int (p1 &&& (255 : Int32))), .val (.int (0 : Int32))] [(.int (p1 &&& (255 : Int32)))]) _
          refine Go.by (fun t k => XS.sipush X0.here hx rfl (hb hby d2_54) k) ?_
          show Go p e below s₁ (mkF m 57 #[.val (.int p1), .val (.int (p1 &&& (255 : Int32))), .val (.int (0 : Int32))] [(.int (244 : Int32)), (.int (p1 &&& (255 : Int32)))]) _
          by_cases hc11 : (244 : Int32) < (p1 &&& (255 : Int32))
          · refine Go.by (fun t k => XS.icmpYes X0.here hx rfl (pc0 := 57) (pc' := 62) rfl (hb hby d2_57) rfl (tlt hc11).2.2.1 (by decide) (by decide) k) ?_
            show Go p e below s₁ (mkF m 62 #[.val (.int p1), .val (.int (p1 &&& (255 : Int32))), .val (.int (0 : Int32))] []) _
            refine Go.by (fun t k => XS.iloadN X0.here hx rfl (hb hby d2_62) rfl k) ?_
            show Go p e below s₁ (mkF m 63 #[.val (.int p1), .val (.int (p1 &&& (255 : Int32))), .val (.int (0 : Int32))] [(.int (0 : Int32))]) _
            obtain ⟨fs, hr, hrun, hended, hW, hsame⟩ := X0.leave (v := some (.int (0 : Int32))) (fun h => by rw [Bd.returns] at h; cases h)
            refine Go.done (retI X0 hx Bd.returns (hb hby d2_63) hr) hrun hended ⟨_, _, rfl, ?_, ⟨_, rfl⟩, hW, hsame.mono (by decide) (by decide)⟩
            show Q2 Z p1 h0 n0 _ s₁.heap _
            rw [e0]
            refine ⟨?_, N0, rfl⟩
            rw [f2, if_neg hc1, if_pos hc8, if_pos hc9, if_neg hc10, if_pos hc11]
          · refine Go.by (fun t k => XS.icmpNo X0.here hx rfl (hb hby d2_57) rfl (flt hc11).2.2.1 k) ?_
            show Go p e below s₁ (mkF m 60 #[.val (.int p1), .val (.int (p1 &&& (255 : Int32))), .val (.int (0 : Int32))] []) _
            refine Go.by (fun t k => XS.iconst X0.here hx rfl (hb hby d2_60) k) ?_
            show Go p e below s₁ (mkF m 61 #[.val (.int p1), .val (.int (p1 &&& (255 : Int32))), .val (.int (0 : Int32))] [(.int (4 : Int32))]) _
            refine Go.by (fun t k => XS.istoreN X0.here hx rfl (hb hby d2_61) rfl (l' := #[.val (.int p1), .val (.int (p1 &&& (255 : Int32))), .val (.int (4 : Int32))]) rfl k) ?_
            show Go p e below s₁ (mkF m 62 #[.val (.int p1), .val (.int (p1 &&& (255 : Int32))), .val (.int (4 : Int32))] []) _
            refine Go.by (fun t k => XS.iloadN X0.here hx rfl (hb hby d2_62) rfl k) ?_
            show Go p e below s₁ (mkF m 63 #[.val (.int p1), .val (.int (p1 &&& (255 : Int32))), .val (.int (4 : Int32))] [(.int (4 : Int32))]) _
            obtain ⟨fs, hr, hrun, hended, hW, hsame⟩ := X0.leave (v := some (.int (4 : Int32))) (fun h => by rw [Bd.returns] at h; cases h)
            refine Go.done (retI X0 hx Bd.returns (hb hby d2_63) hr) hrun hended ⟨_, _, rfl, ?_, ⟨_, rfl⟩, hW, hsame.mono (by decide) (by decide)⟩
            show Q2 Z p1 h0 n0 _ s₁.heap _
            rw [e0]
            refine ⟨?_, N0, rfl⟩
            rw [f2, if_neg hc1, if_pos hc8, if_pos hc9, if_neg hc10, if_neg hc11]
      · refine Go.by (fun t k => XS.icmpNo X0.here hx rfl (hb hby d2_31) rfl (flt hc9).1 k) ?_
        show Go p e below s₁ (mkF m 34 #[.val (.int p1), .val (.int (p1 &&& (255 : Int32))), .val (.int (0 : Int32))] []) _
        refine Go.by (fun t k => XS.iloadN X0.here hx rfl (hb hby d2_34) rfl k) ?_
        show Go p e below s₁ (mkF m 35 #[.val (.int p1), .val (.int (p1 &&& (255 : Int32))), .val (.int (0 : Int32))] [(.int (p1 &&& (255 : Int32)))]) _
        refine Go.by (fun t k => XS.sipush X0.here hx rfl (hb hby d2_35) k) ?_
        show Go p e below s₁ (mkF m 38 #[.val (.int p1), .val (.int (p1 &&& (255 : Int32))), .val (.int (0 : Int32))] [(.int (239 : Int32)), (.int (p1 &&& (255 : Int32)))]) _
        by_cases hc12 : (239 : Int32) < (p1 &&& (255 : Int32))
        · refine Go.by (fun t k => XS.icmpYes X0.here hx rfl (pc0 := 38) (pc' := 46) rfl (hb hby d2_38) rfl (tlt hc12).2.2.1 (by decide) (by decide) k) ?_
          show Go p e below s₁ (mkF m 46 #[.val (.int p1), .val (.int (p1 &&& (255 : Int32))), .val (.int (0 : Int32))] []) _
          refine Go.by (fun t k => XS.iloadN X0.here hx rfl (hb hby d2_46) rfl k) ?_
          show Go p e below s₁ (mkF m 47 #[.val (.int p1), .val (.int (p1 &&& (255 : Int32))), .val (.int (0 : Int32))] [(.int (p1 &&& (255 : Int32)))]) _
          refine Go.by (fun t k => XS.sipush X0.here hx rfl (hb hby d2_47) k) ?_
          show Go p e below s₁ (mkF m 50 #[.val (.int p1), .val (.int (p1 &&& (255 : Int32))), .val (.int (0 : Int32))] [(.int (240 : Int32)), (.int (p1 &&& (255 : Int32)))]) _
          by_cases hc13 : (p1 &&& (255 : Int32)) < (240 : Int32)
          · refine Go.by (fun t k => XS.icmpYes X0.here hx rfl (pc0 := 50) (pc' := 62) rfl (hb hby d2_50) rfl (tlt hc13).1 (by decide) (by decide) k) ?_
            show Go p e below s₁ (mkF m 62 #[.val (.int p1), .val (.int (p1 &&& (255 : Int32))), .val (.int (0 : Int32))] []) _
            refine Go.by (fun t k => XS.iloadN X0.here hx rfl (hb hby d2_62) rfl k) ?_
            show Go p e below s₁ (mkF m 63 #[.val (.int p1), .val (.int (p1 &&& (255 : Int32))), .val (.int (0 : Int32))] [(.int (0 : Int32))]) _
            obtain ⟨fs, hr, hrun, hended, hW, hsame⟩ := X0.leave (v := some (.int (0 : Int32))) (fun h => by rw [Bd.returns] at h; cases h)
            refine Go.done (retI X0 hx Bd.returns (hb hby d2_63) hr) hrun hended ⟨_, _, rfl, ?_, ⟨_, rfl⟩, hW, hsame.mono (by decide) (by decide)⟩
            show Q2 Z p1 h0 n0 _ s₁.heap _
            rw [e0]
            refine ⟨?_, N0, rfl⟩
            rw [f2, if_neg hc1, if_pos hc8, if_neg hc9, if_pos hc12, if_pos hc13]
          · refine Go.by (fun t k => XS.icmpNo X0.here hx rfl (hb hby d2_50) rfl (flt hc13).1 k) ?_
            show Go p e below s₁ (mkF m 53 #[.val (.int p1), .val (.int (p1 &&& (255 : Int32))), .val (.int (0 : Int32))] []) _
            refine Go.by (fun t k => XS.iloadN X0.here hx rfl (hb hby d2_53) rfl k) ?_
            show Go p e below s₁ (mkF m 54 #[.val (.int p1), .val (.int (p1 &&& (255 : Int32))), .val (.int (0 : Int32))] [(.int (p1 &&& (255 : Int32)))]) _
            refine Go.by (fun t k => XS.sipush X0.here hx rfl (hb hby d2_54) k) ?_
            show Go p e below s₁ (mkF m 57 #[.val (.int p1), .val (.int (p1 &&& (255 : Int32))), .val (.int (0 : Int32))] [(.int (244 : Int32)), (.int (p1 &&& (255 : Int32)))]) _
            by_cases hc14 : (244 : Int32) < (p1 &&& (255 : Int32))
            · refine Go.by (fun t k => XS.icmpYes X0.here hx rfl (pc0 := 57) (pc' := 62) rfl (hb hby d2_57) rfl (tlt hc14).2.2.1 (by decide) (by decide) k) ?_
              show Go p e below s₁ (mkF m 62 #[.val (.int p1), .val (.int (p1 &&& (255 : Int32))), .val (.int (0 : Int32))] []) _
              refine Go.by (fun t k => XS.iloadN X0.here hx rfl (hb hby d2_62) rfl k) ?_
              show Go p e below s₁ (mkF m 63 #[.val (.int p1), .val (.int (p1 &&& (255 : Int32))), .val (.int (0 : Int32))] [(.int (0 : Int32))]) _
              obtain ⟨fs, hr, hrun, hended, hW, hsame⟩ := X0.leave (v := some (.int (0 : Int32))) (fun h => by rw [Bd.returns] at h; cases h)
              refine Go.done (retI X0 hx Bd.returns (hb hby d2_63) hr) hrun hended ⟨_, _, rfl, ?_, ⟨_, rfl⟩, hW, hsame.mono (by decide) (by decide)⟩
              show Q2 Z p1 h0 n0 _ s₁.heap _
              rw [e0]
              refine ⟨?_, N0, rfl⟩
              rw [f2, if_neg hc1, if_pos hc8, if_neg hc9, if_pos hc12, if_neg hc13, if_pos hc14]
            · refine Go.by (fun t k => XS.icmpNo X0.here hx rfl (hb hby d2_57) rfl (flt hc14).2.2.1 k) ?_
              show Go p e below s₁ (mkF m 60 #[.val (.int p1), .val (.int (p1 &&& (255 : Int32))), .val (.int (0 : Int32))] []) _
              refine Go.by (fun t k => XS.iconst X0.here hx rfl (hb hby d2_60) k) ?_
              show Go p e below s₁ (mkF m 61 #[.val (.int p1), .val (.int (p1 &&& (255 : Int32))), .val (.int (0 : Int32))] [(.int (4 : Int32))]) _
              refine Go.by (fun t k => XS.istoreN X0.here hx rfl (hb hby d2_61) rfl (l' := #[.val (.int p1), .val (.int (p1 &&& (255 : Int32))), .val (.int (4 : Int32))]) rfl k) ?_
              show Go p e below s₁ (mkF m 62 #[.val (.int p1), .val (.int (p1 &&& (255 : Int32))), .val (.int (4 : Int32))] []) _
              refine Go.by (fun t k => XS.iloadN X0.here hx rfl (hb hby d2_62) rfl k) ?_
              show Go p e below s₁ (mkF m 63 #[.val (.int p1), .val (.int (p1 &&& (255 : Int32))), .val (.int (4 : Int32))] [(.int (4 : Int32))]) _
              obtain ⟨fs, hr, hrun, hended, hW, hsame⟩ := X0.leave (v := some (.int (4 : Int32))) (fun h => by rw [Bd.returns] at h; cases h)
              refine Go.done (retI X0 hx Bd.returns (hb hby d2_63) hr) hrun hended ⟨_, _, rfl, ?_, ⟨_, rfl⟩, hW, hsame.mono (by decide) (by decide)⟩
              show Q2 Z p1 h0 n0 _ s₁.heap _
              rw [e0]
              refine ⟨?_, N0, rfl⟩
              rw [f2, if_neg hc1, if_pos hc8, if_neg hc9, if_pos hc12, if_neg hc13, if_neg hc14]
        · refine Go.by (fun t k => XS.icmpNo X0.here hx rfl (hb hby d2_38) rfl (flt hc12).2.2.1 k) ?_
          show Go p e below s₁ (mkF m 41 #[.val (.int p1), .val (.int (p1 &&& (255 : Int32))), .val (.int (0 : Int32))] []) _
          refine Go.by (fun t k => XS.iconst X0.here hx rfl (hb hby d2_41) k) ?_
          show Go p e below s₁ (mkF m 42 #[.val (.int p1), .val (.int (p1 &&& (255 : Int32))), .val (.int (0 : Int32))] [(.int (3 : Int32))]) _
          refine Go.by (fun t k => XS.istoreN X0.here hx rfl (hb hby d2_42) rfl (l' := #[.val (.int p1), .val (.int (p1 &&& (255 : Int32))), .val (.int (3 : Int32))]) rfl k) ?_
          show Go p e below s₁ (mkF m 43 #[.val (.int p1), .val (.int (p1 &&& (255 : Int32))), .val (.int (3 : Int32))] []) _
          refine Go.by (fun t k => XS.goto X0.here hx rfl (pc0 := 43) (pc' := 62) rfl (hb hby d2_43) (by decide) (by decide) k) ?_
          show Go p e below s₁ (mkF m 62 #[.val (.int p1), .val (.int (p1 &&& (255 : Int32))), .val (.int (3 : Int32))] []) _
          refine Go.by (fun t k => XS.iloadN X0.here hx rfl (hb hby d2_62) rfl k) ?_
          show Go p e below s₁ (mkF m 63 #[.val (.int p1), .val (.int (p1 &&& (255 : Int32))), .val (.int (3 : Int32))] [(.int (3 : Int32))]) _
          obtain ⟨fs, hr, hrun, hended, hW, hsame⟩ := X0.leave (v := some (.int (3 : Int32))) (fun h => by rw [Bd.returns] at h; cases h)
          refine Go.done (retI X0 hx Bd.returns (hb hby d2_63) hr) hrun hended ⟨_, _, rfl, ?_, ⟨_, rfl⟩, hW, hsame.mono (by decide) (by decide)⟩
          show Q2 Z p1 h0 n0 _ s₁.heap _
          rw [e0]
          refine ⟨?_, N0, rfl⟩
          rw [f2, if_neg hc1, if_pos hc8, if_neg hc9, if_neg hc12]
    · refine Go.by (fun t k => XS.icmpNo X0.here hx rfl (hb hby d2_19) rfl (flt hc8).2.2.1 k) ?_
      show Go p e below s₁ (mkF m 22 #[.val (.int p1), .val (.int (p1 &&& (255 : Int32))), .val (.int (0 : Int32))] []) _
      refine Go.by (fun t k => XS.iconst X0.here hx rfl (hb hby d2_22) k) ?_
      show Go p e below s₁ (mkF m 23 #[.val (.int p1), .val (.int (p1 &&& (255 : Int32))), .val (.int (0 : Int32))] [(.int (2 : Int32))]) _
      refine Go.by (fun t k => XS.istoreN X0.here hx rfl (hb hby d2_23) rfl (l' := #[.val (.int p1), .val (.int (p1 &&& (255 : Int32))), .val (.int (2 : Int32))]) rfl k) ?_
      show Go p e below s₁ (mkF m 24 #[.val (.int p1), .val (.int (p1 &&& (255 : Int32))), .val (.int (2 : Int32))] []) _
      refine Go.by (fun t k => XS.goto X0.here hx rfl (pc0 := 24) (pc' := 62) rfl (hb hby d2_24) (by decide) (by decide) k) ?_
      show Go p e below s₁ (mkF m 62 #[.val (.int p1), .val (.int (p1 &&& (255 : Int32))), .val (.int (2 : Int32))] []) _
      refine Go.by (fun t k => XS.iloadN X0.here hx rfl (hb hby d2_62) rfl k) ?_
      show Go p e below s₁ (mkF m 63 #[.val (.int p1), .val (.int (p1 &&& (255 : Int32))), .val (.int (2 : Int32))] [(.int (2 : Int32))]) _
      obtain ⟨fs, hr, hrun, hended, hW, hsame⟩ := X0.leave (v := some (.int (2 : Int32))) (fun h => by rw [Bd.returns] at h; cases h)
      refine Go.done (retI X0 hx Bd.returns (hb hby d2_63) hr) hrun hended ⟨_, _, rfl, ?_, ⟨_, rfl⟩, hW, hsame.mono (by decide) (by decide)⟩
      show Q2 Z p1 h0 n0 _ s₁.heap _
      rw [e0]
      refine ⟨?_, N0, rfl⟩
      rw [f2, if_neg hc1, if_neg hc8]
def f3 (p1 : Int32) : Int32 :=
  if p1 < (128 : Int32) then (0 : Int32)
  else (if (191 : Int32) < p1 then (0 : Int32)
    else (1 : Int32))
theorem d3_0 : decode method_3_code 0 = .ok (.iload_n 0, 1) := by decide +kernel
theorem d3_1 : decode method_3_code 1 = .ok (.sipush 128, 3) := by decide +kernel
theorem d3_4 : decode method_3_code 4 = .ok (.if_icmp .lt 14, 3) := by decide +kernel
theorem d3_7 : decode method_3_code 7 = .ok (.iload_n 0, 1) := by decide +kernel
theorem d3_8 : decode method_3_code 8 = .ok (.sipush 191, 3) := by decide +kernel
theorem d3_11 : decode method_3_code 11 = .ok (.if_icmp .gt 7, 3) := by decide +kernel
theorem d3_14 : decode method_3_code 14 = .ok (.iconst 1, 1) := by decide +kernel
theorem d3_15 : decode method_3_code 15 = .ok (.goto 4, 3) := by decide +kernel
theorem d3_18 : decode method_3_code 18 = .ok (.iconst 0, 1) := by decide +kernel
theorem d3_19 : decode method_3_code 19 = .ok (.ireturn, 1) := by decide +kernel
theorem pn_1 : plainName "com/example/tillscan/tillscan/core/Utf8CharacterEndPinLaw" = true := by first | (simp [plainName, overriddenIn]; done) | decide +kernel
theorem ef_3 (m : MethodId) (x0 : Int32) : entryFrame m #[(.int x0)] 1 = mkF m 0 #[.val (.int x0)] [] := by first | (simp [entryFrame, mkF, argsToLocals, Value.category]; done) | rfl
def Q3 (Z : State) (p1 : Int32) (h0 : Heap) (n0 : Nat) (v : Option Value) (h : Heap) (L : List Loc) : Prop := v = some (.int (f3 p1)) ∧ Fr n0 L ∧ h = h0
set_option maxRecDepth 65536 in
set_option maxHeartbeats 40000000 in
theorem rm3 (l : Launch) (Z : State) (a0 : Array Value) (hw : ∀ d ∈ tables_1, d.before a0 Z = true) (ws : List Jvm.Cond) (p1 : Int32) (h0 : Heap) (n0 : Nat) (Z0 : n0 ≤ h0.size) :
    MetFree l (⟨"com/example/tillscan/tillscan/core/Utf8CharacterEndPinLaw", "cont", "(I)Z"⟩ : MethodName) (head1 (Jvm.Cond.code (⟨"com/example/tillscan/tillscan/core/Utf8CharacterEndPinLaw", "cont", "(I)Z"⟩ : MethodName) method_3_code 1 (some .boolean) :: ws) ({ frames := 0, cells := 0, slots := 0, locals := 0 } : Room)) (fun a U => a = #[(.int p1)] ∧ Z.Warmed39 U.vm ∧ U.heap = h0) (fun _ _ _ _ _ => True) (fun _ U o U' => ∃ v L, o = .returned v ∧ Q3 Z p1 h0 n0 v U'.heap L ∧ FrameEnd U o U' L ({ frames := 0, cells := 0, slots := 0, locals := 0 } : Room).cells ({ frames := 0, cells := 0, slots := 0, locals := 0 } : Room).slots) := by
  refine MetFree.of_bodySF (plainFor_of_name pn_1) hisR ?_
  intro p e s m args below meth c s₁ Bd hml0 hP hK
  obtain ⟨rfl, hZ, hh⟩ := hP
  have hx := Bd.exec
  have hby := Bd.bytes
  have hml : c.maxLocals = 1 := hml0
  have hown : s.vm.findClass "com/example/tillscan/tillscan/core/Utf8CharacterEndPinLaw" = some m.cls := findClass_of_methodNamed Bd.named
  have hnm := (name_of_methodNamed Bd.named Bd.method).1
  have X0 : Stand p l e ({ frames := 0, cells := 0, slots := 0, locals := 0 } : Room) s m #[(.int p1)] below meth c s₁ [] 0 0 := Stand.of_body Bd
  have e0 : s₁.heap = h0 := by rw [← hh, Bd.state]; rfl
  have N0 := Fr.nil n0
  refine Go.start (ef_3 m p1) ?_
  show Go p e below s₁ (mkF m 0 #[.val (.int p1)] []) _
  refine Go.by (fun t k => XS.iloadN X0.here hx rfl (hb hby d3_0) rfl k) ?_
  show Go p e below s₁ (mkF m 1 #[.val (.int p1)] [(.int p1)]) _
  refine Go.by (fun t k => XS.sipush X0.here hx rfl (hb hby d3_1) k) ?_
  show Go p e below s₁ (mkF m 4 #[.val (.int p1)] [(.int (128 : Int32)), (.int p1)]) _
  by_cases hc1 : p1 < (128 : Int32)
  · refine Go.by (fun t k => XS.icmpYes X0.here hx rfl (pc0 := 4) (pc' := 18) rfl (hb hby d3_4) rfl (tlt hc1).1 (by decide) (by decide) k) ?_
    show Go p e below s₁ (mkF m 18 #[.val (.int p1)] []) _
    refine Go.by (fun t k => XS.iconst X0.here hx rfl (hb hby d3_18) k) ?_
    show Go p e below s₁ (mkF m 19 #[.val (.int p1)] [(.int (0 : Int32))]) _
    obtain ⟨fs, hr, hrun, hended, hW, hsame⟩ := X0.leave (v := some (.int (0 : Int32))) (fun h => by rw [Bd.returns] at h; cases h)
    refine Go.done (retN X0 hx (t := .boolean) Bd.returns (by simp) (hb hby d3_19) hr) hrun hended ⟨_, _, rfl, ?_, ⟨_, rfl⟩, hW, hsame.mono (by decide) (by decide)⟩
    show Q3 Z p1 h0 n0 _ s₁.heap _
    rw [e0]
    refine ⟨?_, N0, rfl⟩
    rw [f3, if_pos hc1]
  · refine Go.by (fun t k => XS.icmpNo X0.here hx rfl (hb hby d3_4) rfl (flt hc1).1 k) ?_
    show Go p e below s₁ (mkF m 7 #[.val (.int p1)] []) _
    refine Go.by (fun t k => XS.iloadN X0.here hx rfl (hb hby d3_7) rfl k) ?_
    show Go p e below s₁ (mkF m 8 #[.val (.int p1)] [(.int p1)]) _
    refine Go.by (fun t k => XS.sipush X0.here hx rfl (hb hby d3_8) k) ?_
    show Go p e below s₁ (mkF m 11 #[.val (.int p1)] [(.int (191 : Int32)), (.int p1)]) _
    by_cases hc2 : (191 : Int32) < p1
    · refine Go.by (fun t k => XS.icmpYes X0.here hx rfl (pc0 := 11) (pc' := 18) rfl (hb hby d3_11) rfl (tlt hc2).2.2.1 (by decide) (by decide) k) ?_
      show Go p e below s₁ (mkF m 18 #[.val (.int p1)] []) _
      refine Go.by (fun t k => XS.iconst X0.here hx rfl (hb hby d3_18) k) ?_
      show Go p e below s₁ (mkF m 19 #[.val (.int p1)] [(.int (0 : Int32))]) _
      obtain ⟨fs, hr, hrun, hended, hW, hsame⟩ := X0.leave (v := some (.int (0 : Int32))) (fun h => by rw [Bd.returns] at h; cases h)
      refine Go.done (retN X0 hx (t := .boolean) Bd.returns (by simp) (hb hby d3_19) hr) hrun hended ⟨_, _, rfl, ?_, ⟨_, rfl⟩, hW, hsame.mono (by decide) (by decide)⟩
      show Q3 Z p1 h0 n0 _ s₁.heap _
      rw [e0]
      refine ⟨?_, N0, rfl⟩
      rw [f3, if_neg hc1, if_pos hc2]
    · refine Go.by (fun t k => XS.icmpNo X0.here hx rfl (hb hby d3_11) rfl (flt hc2).2.2.1 k) ?_
      show Go p e below s₁ (mkF m 14 #[.val (.int p1)] []) _
      refine Go.by (fun t k => XS.iconst X0.here hx rfl (hb hby d3_14) k) ?_
      show Go p e below s₁ (mkF m 15 #[.val (.int p1)] [(.int (1 : Int32))]) _
      refine Go.by (fun t k => XS.goto X0.here hx rfl (pc0 := 15) (pc' := 19) rfl (hb hby d3_15) (by decide) (by decide) k) ?_
      show Go p e below s₁ (mkF m 19 #[.val (.int p1)] [(.int (1 : Int32))]) _
      obtain ⟨fs, hr, hrun, hended, hW, hsame⟩ := X0.leave (v := some (.int (1 : Int32))) (fun h => by rw [Bd.returns] at h; cases h)
      refine Go.done (retN X0 hx (t := .boolean) Bd.returns (by simp) (hb hby d3_19) hr) hrun hended ⟨_, _, rfl, ?_, ⟨_, rfl⟩, hW, hsame.mono (by decide) (by decide)⟩
      show Q3 Z p1 h0 n0 _ s₁.heap _
      rw [e0]
      refine ⟨?_, N0, rfl⟩
      rw [f3, if_neg hc1, if_neg hc2]
def own_lp (p2 p3 nn lo hi b1 b2 b3 : Int32) : Int32 :=
  if (1 : Int32) < nn then (if (p2 + (1 : Int32)) < p3 then (if (b1 &&& (255 : Int32)) < lo then (-1 : Int32)
      else (if hi < (b1 &&& (255 : Int32)) then (-1 : Int32)
        else (if (2 : Int32) < nn then (if (p2 + (2 : Int32)) < p3 then (if (b2 &&& (255 : Int32)) < (128 : Int32) then (-1 : Int32)
              else (if (191 : Int32) < (b2 &&& (255 : Int32)) then (-1 : Int32)
                else (if (3 : Int32) < nn then (if (p2 + (3 : Int32)) < p3 then (if (b3 &&& (255 : Int32)) < (128 : Int32) then (-1 : Int32)
                      else (if (191 : Int32) < (b3 &&& (255 : Int32)) then (-1 : Int32)
                        else (p2 + nn)))
                    else (-1 : Int32))
                  else (p2 + nn))))
            else (-1 : Int32))
          else (p2 + nn))))
    else (if (-1 : Int32) < lo then (-1 : Int32)
      else (if hi < (-1 : Int32) then (-1 : Int32)
        else (if (2 : Int32) < nn then (if (p2 + (2 : Int32)) < p3 then (if (b2 &&& (255 : Int32)) < (128 : Int32) then (-1 : Int32)
              else (if (191 : Int32) < (b2 &&& (255 : Int32)) then (-1 : Int32)
                else (if (3 : Int32) < nn then (if (p2 + (3 : Int32)) < p3 then (if (b3 &&& (255 : Int32)) < (128 : Int32) then (-1 : Int32)
                      else (if (191 : Int32) < (b3 &&& (255 : Int32)) then (-1 : Int32)
                        else (p2 + nn)))
                    else (-1 : Int32))
                  else (p2 + nn))))
            else (-1 : Int32))
          else (p2 + nn)))))
  else (p2 + nn)
def own_ln (v : Int32) : Int32 :=
  if v < (194 : Int32) then (if v < (224 : Int32) then (if v < (240 : Int32) then (0 : Int32)
      else (if (244 : Int32) < v then (0 : Int32)
        else (4 : Int32)))
    else (if (239 : Int32) < v then (if v < (240 : Int32) then (0 : Int32)
        else (if (244 : Int32) < v then (0 : Int32)
          else (4 : Int32)))
      else (3 : Int32)))
  else (if (223 : Int32) < v then (if v < (224 : Int32) then (if v < (240 : Int32) then (0 : Int32)
        else (if (244 : Int32) < v then (0 : Int32)
          else (4 : Int32)))
      else (if (239 : Int32) < v then (if v < (240 : Int32) then (0 : Int32)
          else (if (244 : Int32) < v then (0 : Int32)
            else (4 : Int32)))
        else (3 : Int32)))
    else (2 : Int32))
theorem own_lnE (b : Int32) : f2 b = own_ln (b &&& 255) := rfl
def own_lq (p2 p3 nn lo hi y1 y2 y3 : Int32) : Int32 :=
  if (1 : Int32) < nn then (if (p2 + (1 : Int32)) < p3 then (if y1 < lo then (-1 : Int32)
      else (if hi < y1 then (-1 : Int32)
        else (if (2 : Int32) < nn then (if (p2 + (2 : Int32)) < p3 then (if y2 < (128 : Int32) then (-1 : Int32)
              else (if (191 : Int32) < y2 then (-1 : Int32)
                else (if (3 : Int32) < nn then (if (p2 + (3 : Int32)) < p3 then (if y3 < (128 : Int32) then (-1 : Int32)
                      else (if (191 : Int32) < y3 then (-1 : Int32)
                        else (p2 + nn)))
                    else (-1 : Int32))
                  else (p2 + nn))))
            else (-1 : Int32))
          else (p2 + nn))))
    else (if (-1 : Int32) < lo then (-1 : Int32)
      else (if hi < (-1 : Int32) then (-1 : Int32)
        else (if (2 : Int32) < nn then (if (p2 + (2 : Int32)) < p3 then (if y2 < (128 : Int32) then (-1 : Int32)
              else (if (191 : Int32) < y2 then (-1 : Int32)
                else (if (3 : Int32) < nn then (if (p2 + (3 : Int32)) < p3 then (if y3 < (128 : Int32) then (-1 : Int32)
                      else (if (191 : Int32) < y3 then (-1 : Int32)
                        else (p2 + nn)))
                    else (-1 : Int32))
                  else (p2 + nn))))
            else (-1 : Int32))
          else (p2 + nn)))))
  else (p2 + nn)
theorem own_lpE (p2 p3 nn lo hi b1 b2 b3 : Int32) : own_lp p2 p3 nn lo hi b1 b2 b3 = own_lq p2 p3 nn lo hi (b1 &&& 255) (b2 &&& 255) (b3 &&& 255) := rfl
def own_lo (v : Int32) : Int32 := if v = 224 then 160 else if v = 240 then 144 else 128
def own_hi (v : Int32) : Int32 := if v = 237 then 159 else if v = 244 then 143 else 191
def own_ce (p2 p3 b0 b1 b2 b3 : Int32) : Int32 := if f2 b0 = 0 then -1 else own_lp p2 p3 (f2 b0) (own_lo (b0 &&& 255)) (own_hi (b0 &&& 255)) b1 b2 b3
theorem own_miss (v : Int32) (h1 : ¬ v = 224) (h2 : ¬ v = 237) (h3 : ¬ v = 240) (h4 : ¬ v = 244) : (128 : Int32) = own_lo v ∧ (191 : Int32) = own_hi v := by
  rw [own_lo, if_neg h1, if_neg h3, own_hi, if_neg h2, if_neg h4]; exact ⟨rfl, rfl⟩
theorem own_sw (v : Int32) (h1 : ¬ v = 224) (h2 : ¬ v = 237) (h3 : ¬ v = 240) (h4 : ¬ v = 244) : (#[(224, 42), (237, 50), (240, 58), (244, 66)] : Array (Int × Int)).find? (fun q => q.1 == v.toInt) = none := by
  refine find_miss fun q hq => ?_
  simp only [List.mem_cons, List.not_mem_nil, or_false] at hq
  rcases hq with rfl | rfl | rfl | rfl
  · exact fun r => h1 (Int32.toInt_inj.mp r.symm)
  · exact fun r => h2 (Int32.toInt_inj.mp r.symm)
  · exact fun r => h3 (Int32.toInt_inj.mp r.symm)
  · exact fun r => h4 (Int32.toInt_inj.mp r.symm)
theorem own_len4 (b : Int32) : ¬ (4 : Int32) < f2 b := by
  rw [f2]
  repeat' split
  all_goals decide
theorem pd_0 : parseMethodDescriptor "(B)I" = some ⟨[.byte], some .int⟩ := by decide +kernel
theorem d1_0 : decode prog_42_method_8_code 0 = .ok (.aload_n 0, 1) := by decide +kernel
theorem d1_1 : decode prog_42_method_8_code 1 = .ok (.iload_n 1, 1) := by decide +kernel
theorem d1_2 : decode prog_42_method_8_code 2 = .ok (.baload, 1) := by decide +kernel
theorem d1_3 : decode prog_42_method_8_code 3 = .ok (.sipush 255, 3) := by decide +kernel
theorem d1_6 : decode prog_42_method_8_code 6 = .ok (.iand, 1) := by decide +kernel
theorem d1_7 : decode prog_42_method_8_code 7 = .ok (.istore_n 3, 1) := by decide +kernel
theorem d1_8 : decode prog_42_method_8_code 8 = .ok (.aload_n 0, 1) := by decide +kernel
theorem d1_9 : decode prog_42_method_8_code 9 = .ok (.iload_n 1, 1) := by decide +kernel
theorem d1_10 : decode prog_42_method_8_code 10 = .ok (.baload, 1) := by decide +kernel
theorem d1_11 : decode prog_42_method_8_code 11 = .ok (.invokestatic 92, 3) := by decide +kernel
theorem d1_14 : decode prog_42_method_8_code 14 = .ok (.istore 4, 2) := by decide +kernel
theorem d1_16 : decode prog_42_method_8_code 16 = .ok (.iload 4, 2) := by decide +kernel
theorem d1_18 : decode prog_42_method_8_code 18 = .ok (.ifCond .ne 5, 3) := by decide +kernel
theorem d1_21 : decode prog_42_method_8_code 21 = .ok (.iconst (-1), 1) := by decide +kernel
theorem d1_22 : decode prog_42_method_8_code 22 = .ok (.ireturn, 1) := by decide +kernel
theorem d1_23 : decode prog_42_method_8_code 23 = .ok (.sipush 128, 3) := by decide +kernel
theorem d1_26 : decode prog_42_method_8_code 26 = .ok (.istore 5, 2) := by decide +kernel
theorem d1_28 : decode prog_42_method_8_code 28 = .ok (.sipush 191, 3) := by decide +kernel
theorem d1_31 : decode prog_42_method_8_code 31 = .ok (.istore 6, 2) := by decide +kernel
theorem d1_33 : decode prog_42_method_8_code 33 = .ok (.iload_n 3, 1) := by decide +kernel
theorem d1_34 : decode prog_42_method_8_code 34 = .ok (.lookupswitch 74 #[(224, 42), (237, 50), (240, 58), (244, 66)], 42) := by decide +kernel
theorem d1_76 : decode prog_42_method_8_code 76 = .ok (.sipush 160, 3) := by decide +kernel
theorem d1_79 : decode prog_42_method_8_code 79 = .ok (.istore 5, 2) := by decide +kernel
theorem d1_81 : decode prog_42_method_8_code 81 = .ok (.goto 27, 3) := by decide +kernel
theorem d1_84 : decode prog_42_method_8_code 84 = .ok (.sipush 159, 3) := by decide +kernel
theorem d1_87 : decode prog_42_method_8_code 87 = .ok (.istore 6, 2) := by decide +kernel
theorem d1_89 : decode prog_42_method_8_code 89 = .ok (.goto 19, 3) := by decide +kernel
theorem d1_92 : decode prog_42_method_8_code 92 = .ok (.sipush 144, 3) := by decide +kernel
theorem d1_95 : decode prog_42_method_8_code 95 = .ok (.istore 5, 2) := by decide +kernel
theorem d1_97 : decode prog_42_method_8_code 97 = .ok (.goto 11, 3) := by decide +kernel
theorem d1_100 : decode prog_42_method_8_code 100 = .ok (.sipush 143, 3) := by decide +kernel
theorem d1_103 : decode prog_42_method_8_code 103 = .ok (.istore 6, 2) := by decide +kernel
theorem d1_105 : decode prog_42_method_8_code 105 = .ok (.goto 3, 3) := by decide +kernel
theorem d1_108 : decode prog_42_method_8_code 108 = .ok (.iconst 1, 1) := by decide +kernel
theorem d1_109 : decode prog_42_method_8_code 109 = .ok (.istore 7, 2) := by decide +kernel
theorem d1_111 : decode prog_42_method_8_code 111 = .ok (.iload 7, 2) := by decide +kernel
theorem d1_113 : decode prog_42_method_8_code 113 = .ok (.iload 4, 2) := by decide +kernel
theorem d1_115 : decode prog_42_method_8_code 115 = .ok (.if_icmp .ge 59, 3) := by decide +kernel
theorem d1_118 : decode prog_42_method_8_code 118 = .ok (.iload_n 1, 1) := by decide +kernel
theorem d1_119 : decode prog_42_method_8_code 119 = .ok (.iload 7, 2) := by decide +kernel
theorem d1_121 : decode prog_42_method_8_code 121 = .ok (.iadd, 1) := by decide +kernel
theorem d1_122 : decode prog_42_method_8_code 122 = .ok (.iload_n 2, 1) := by decide +kernel
theorem d1_123 : decode prog_42_method_8_code 123 = .ok (.if_icmp .ge 16, 3) := by decide +kernel
theorem d1_126 : decode prog_42_method_8_code 126 = .ok (.aload_n 0, 1) := by decide +kernel
theorem d1_127 : decode prog_42_method_8_code 127 = .ok (.iload_n 1, 1) := by decide +kernel
theorem d1_128 : decode prog_42_method_8_code 128 = .ok (.iload 7, 2) := by decide +kernel
theorem d1_130 : decode prog_42_method_8_code 130 = .ok (.iadd, 1) := by decide +kernel
theorem d1_131 : decode prog_42_method_8_code 131 = .ok (.baload, 1) := by decide +kernel
theorem d1_132 : decode prog_42_method_8_code 132 = .ok (.sipush 255, 3) := by decide +kernel
theorem d1_135 : decode prog_42_method_8_code 135 = .ok (.iand, 1) := by decide +kernel
theorem d1_136 : decode prog_42_method_8_code 136 = .ok (.goto 4, 3) := by decide +kernel
theorem d1_139 : decode prog_42_method_8_code 139 = .ok (.iconst (-1), 1) := by decide +kernel
theorem d1_140 : decode prog_42_method_8_code 140 = .ok (.istore 8, 2) := by decide +kernel
theorem d1_142 : decode prog_42_method_8_code 142 = .ok (.iload 8, 2) := by decide +kernel
theorem d1_144 : decode prog_42_method_8_code 144 = .ok (.iload 5, 2) := by decide +kernel
theorem d1_146 : decode prog_42_method_8_code 146 = .ok (.if_icmp .lt 10, 3) := by decide +kernel
theorem d1_149 : decode prog_42_method_8_code 149 = .ok (.iload 8, 2) := by decide +kernel
theorem d1_151 : decode prog_42_method_8_code 151 = .ok (.iload 6, 2) := by decide +kernel
theorem d1_153 : decode prog_42_method_8_code 153 = .ok (.if_icmp .le 5, 3) := by decide +kernel
theorem d1_156 : decode prog_42_method_8_code 156 = .ok (.iconst (-1), 1) := by decide +kernel
theorem d1_157 : decode prog_42_method_8_code 157 = .ok (.ireturn, 1) := by decide +kernel
theorem d1_158 : decode prog_42_method_8_code 158 = .ok (.sipush 128, 3) := by decide +kernel
theorem d1_161 : decode prog_42_method_8_code 161 = .ok (.istore 5, 2) := by decide +kernel
theorem d1_163 : decode prog_42_method_8_code 163 = .ok (.sipush 191, 3) := by decide +kernel
theorem d1_166 : decode prog_42_method_8_code 166 = .ok (.istore 6, 2) := by decide +kernel
theorem d1_168 : decode prog_42_method_8_code 168 = .ok (.iinc 7 1, 3) := by decide +kernel
theorem d1_171 : decode prog_42_method_8_code 171 = .ok (.goto (-60), 3) := by decide +kernel
theorem d1_174 : decode prog_42_method_8_code 174 = .ok (.iload_n 1, 1) := by decide +kernel
theorem d1_175 : decode prog_42_method_8_code 175 = .ok (.iload 4, 2) := by decide +kernel
theorem d1_177 : decode prog_42_method_8_code 177 = .ok (.iadd, 1) := by decide +kernel
theorem d1_178 : decode prog_42_method_8_code 178 = .ok (.ireturn, 1) := by decide +kernel
theorem ef_1 (m : MethodId) (x0 : Addr) (x1 : Int32) (x2 : Int32) : entryFrame m #[(.ref x0), (.int x1), (.int x2)] 9 = mkF m 0 #[.val (.ref x0), .val (.int x1), .val (.int x2), .unset, .unset, .unset, .unset, .unset, .unset] [] := by first | (simp [entryFrame, mkF, argsToLocals, Value.category]; done) | rfl
def Q1 (Z : State) (a1 : Addr) (p2 : Int32) (p3 : Int32) (cl : Cell) (b0 : Int32) (b1 : Int32) (b2 : Int32) (b3 : Int32) (h0 : Heap) (n0 : Nat) (v : Option Value) (h : Heap) (L : List Loc) : Prop := v = some (.int (own_ce p2 p3 b0 b1 b2 b3)) ∧ Fr n0 L ∧ h = h0
def Pst1 (Z : State) (a1 : Addr) (p2 : Int32) (p3 : Int32) (cl : Cell) (b0 : Int32) (b1 : Int32) (b2 : Int32) (b3 : Int32) (h0 : Heap) (n0 : Nat) (s : State) : Outcome → State → Prop := fun o U' => ∃ v L, o = .returned v ∧ Q1 Z a1 p2 p3 cl b0 b1 b2 b3 h0 n0 v U'.heap L ∧ FrameEnd s o U' L ({ frames := 1, cells := 0, slots := 0, locals := 14 } : Room).cells ({ frames := 1, cells := 0, slots := 0, locals := 14 } : Room).slots
set_option maxRecDepth 65536 in
set_option maxHeartbeats 40000000 in
theorem rm1 (l : Launch) (Z : State) (a0 : Array Value) (hw : ∀ d ∈ tables_1, d.before a0 Z = true) (ws : List Jvm.Cond) (a1 : Addr) (p2 : Int32) (p3 : Int32) (cl : Cell) (b0 : Int32) (b1 : Int32) (b2 : Int32) (b3 : Int32) (h0 : Heap) (n0 : Nat) (Z0 : n0 ≤ h0.size) (Ar : Arr Z h0 a1 cl .byte) (hin0 : ¬ (p2 < 0 ∨ cl.slots.size ≤ (p2).toNatClampNeg)) (hat0 : cl.slots[(p2).toNatClampNeg]? = some (.int b0)) (hin1 : ¬ ((p2 + (1 : Int32)) < 0 ∨ cl.slots.size ≤ ((p2 + (1 : Int32))).toNatClampNeg)) (hat1 : cl.slots[((p2 + (1 : Int32))).toNatClampNeg]? = some (.int b1)) (hin2 : ¬ ((p2 + (2 : Int32)) < 0 ∨ cl.slots.size ≤ ((p2 + (2 : Int32))).toNatClampNeg)) (hat2 : cl.slots[((p2 + (2 : Int32))).toNatClampNeg]? = some (.int b2)) (hin3 : ¬ ((p2 + (3 : Int32)) < 0 ∨ cl.slots.size ≤ ((p2 + (3 : Int32))).toNatClampNeg)) (hat3 : cl.slots[((p2 + (3 : Int32))).toNatClampNeg]? = some (.int b3)) :
    MetFree l (⟨"com/example/tillscan/tillscan/core/Utf8", "characterEnd", "([BII)I"⟩ : MethodName) (head1 (Jvm.Cond.code (⟨"com/example/tillscan/tillscan/core/Utf8", "characterEnd", "([BII)I"⟩ : MethodName) prog_42_method_8_code 9 (some .int) :: ws) ({ frames := 1, cells := 0, slots := 0, locals := 14 } : Room)) (fun a U => a = #[(.ref a1), (.int p2), (.int p3)] ∧ Z.Warmed39 U.vm ∧ U.heap = h0) (fun _ _ _ _ _ => True) (fun _ U o U' => ∃ v L, o = .returned v ∧ Q1 Z a1 p2 p3 cl b0 b1 b2 b3 h0 n0 v U'.heap L ∧ FrameEnd U o U' L ({ frames := 1, cells := 0, slots := 0, locals := 14 } : Room).cells ({ frames := 1, cells := 0, slots := 0, locals := 14 } : Room).slots) := by
  refine MetFree.of_bodySF (plainFor_of_name pn_0) hisR ?_
  intro p e s m args below meth c s₁ Bd hml0 hP hK
  obtain ⟨rfl, hZ, hh⟩ := hP
  have hx := Bd.exec
  have hby := Bd.bytes
  have hml : c.maxLocals = 9 := hml0
  have hown : s.vm.findClass "com/example/tillscan/tillscan/core/Utf8" = some m.cls := findClass_of_methodNamed Bd.named
  have hnm := (name_of_methodNamed Bd.named Bd.method).1
  have X0 : Stand p l e ({ frames := 1, cells := 0, slots := 0, locals := 14 } : Room) s m #[(.ref a1), (.int p2), (.int p3)] below meth c s₁ [] 0 0 := Stand.of_body Bd
  have e0 : s₁.heap = h0 := by rw [← hh, Bd.state]; rfl
  have N0 := Fr.nil n0
  refine Go.start (ef_1 m a1 p2 p3) ?_
  show Go p e below s₁ (mkF m 0 #[.val (.ref a1), .val (.int p2), .val (.int p3), .unset, .unset, .unset, .unset, .unset, .unset] []) _
  refine Go.by (fun t k => XS.aloadN X0.here hx rfl (hb hby d1_0) rfl rfl k) ?_
  show Go p e below s₁ (mkF m 1 #[.val (.ref a1), .val (.int p2), .val (.int p3), .unset, .unset, .unset, .unset, .unset, .unset] [(.ref a1)]) _
  refine Go.by (fun t k => XS.iloadN X0.here hx rfl (hb hby d1_1) rfl k) ?_
  show Go p e below s₁ (mkF m 2 #[.val (.ref a1), .val (.int p2), .val (.int p3), .unset, .unset, .unset, .unset, .unset, .unset] [(.int p2), (.ref a1)]) _
  refine Go.by (fun t k => X0.baloadBytes hx (j := p2) (v := (.int b0)) (by rw [e0]; exact Ar.1) (State.isArrayOf_alike hZ.alike Ar.2.1) Ar.2.2 hin0 hat0 (g := (mkF m 2 #[.val (.ref a1), .val (.int p2), .val (.int p3), .unset, .unset, .unset, .unset, .unset, .unset] [(.int p2), (.ref a1)])) rfl rfl (hb hby d1_2) t k) ?_
  show Go p e below s₁ (mkF m 3 #[.val (.ref a1), .val (.int p2), .val (.int p3), .unset, .unset, .unset, .unset, .unset, .unset] [(.int b0)]) _
  refine Go.by (fun t k => XS.sipush X0.here hx rfl (hb hby d1_3) k) ?_
  show Go p e below s₁ (mkF m 6 #[.val (.ref a1), .val (.int p2), .val (.int p3), .unset, .unset, .unset, .unset, .unset, .unset] [(.int (255 : Int32)), (.int b0)]) _
  refine Go.by (fun t k => XS.iand X0.here hx rfl (hb hby d1_6) rfl k) ?_
  show Go p e below s₁ (mkF m 7 #[.val (.ref a1), .val (.int p2), .val (.int p3), .unset, .unset, .unset, .unset, .unset, .unset] [(.int (b0 &&& (255 : Int32)))]) _
  refine Go.by (fun t k => XS.istoreN X0.here hx rfl (hb hby d1_7) rfl (l' := #[.val (.ref a1), .val (.int p2), .val (.int p3), .val (.int (b0 &&& (255 : Int32))), .unset, .unset, .unset, .unset, .unset]) rfl k) ?_
  show Go p e below s₁ (mkF m 8 #[.val (.ref a1), .val (.int p2), .val (.int p3), .val (.int (b0 &&& (255 : Int32))), .unset, .unset, .unset, .unset, .unset] []) _
  refine Go.by (fun t k => XS.aloadN X0.here hx rfl (hb hby d1_8) rfl rfl k) ?_
  show Go p e below s₁ (mkF m 9 #[.val (.ref a1), .val (.int p2), .val (.int p3), .val (.int (b0 &&& (255 : Int32))), .unset, .unset, .unset, .unset, .unset] [(.ref a1)]) _
  refine Go.by (fun t k => XS.iloadN X0.here hx rfl (hb hby d1_9) rfl k) ?_
  show Go p e below s₁ (mkF m 10 #[.val (.ref a1), .val (.int p2), .val (.int p3), .val (.int (b0 &&& (255 : Int32))), .unset, .unset, .unset, .unset, .unset] [(.int p2), (.ref a1)]) _
  refine Go.by (fun t k => X0.baloadBytes hx (j := p2) (v := (.int b0)) (by rw [e0]; exact Ar.1) (State.isArrayOf_alike hZ.alike Ar.2.1) Ar.2.2 hin0 hat0 (g := (mkF m 10 #[.val (.ref a1), .val (.int p2), .val (.int p3), .val (.int (b0 &&& (255 : Int32))), .unset, .unset, .unset, .unset, .unset] [(.int p2), (.ref a1)])) rfl rfl (hb hby d1_10) t k) ?_
  show Go p e below s₁ (mkF m 11 #[.val (.ref a1), .val (.int p2), .val (.int p3), .val (.int (b0 &&& (255 : Int32))), .unset, .unset, .unset, .unset, .unset] [(.int b0)]) _
  obtain ⟨_, _, ⟨T1, L1, k1, n1⟩, -, X1, ⟨Lc1, hQ1, l1, y1, z1⟩, st1⟩ := Jvm.LawKit.callS X0 hx (y := (⟨"com/example/tillscan/tillscan/core/Utf8", "length", "(B)I"⟩ : MethodName)) hown (mvT hZ (hw _ (List.mem_of_getElem? (i := 5) rfl))) (mvT hZ (hw _ (List.mem_of_getElem? (i := 6) rfl))) (mvT hZ (hw _ (List.mem_of_getElem? (i := 3) rfl))) (mvT hZ (hw _ (List.mem_of_getElem? (i := 7) rfl))) (by decide) (backOf (W := 0) (rm2 l Z a0 hw [] b0 h0 n0 Z0) hZ (hw _ (List.mem_of_getElem? (i := 7) rfl)) (hw _ (List.mem_of_getElem? (i := 3) rfl)) (by decide) (by decide)) (g := (mkF m 11 #[.val (.ref a1), .val (.int p2), .val (.int p3), .val (.int (b0 &&& (255 : Int32))), .unset, .unset, .unset, .unset, .unset] [(.int b0)])) rfl (by rw [hml]; rfl) (argsL := [(.int b0)]) (rest := []) (lenOf pd_0 rfl) rfl (by show 2 * 0 + _ ≤ _; exact Nat.le_of_eq rfl) (hb hby d1_11) (fun _ _ => ⟨rfl, e0, (by decide : 0 + 0 ≤ _), (by decide : 0 + 0 ≤ _)⟩)
  dsimp only [Pt.U, Pt.locs, Pt.cells, Pt.slots] at X1 l1 y1 z1 st1 hQ1
  subst l1 y1 z1
  obtain ⟨rfl, N1q, e1q⟩ := hQ1
  have N1 := Fr.app N0 N1q
  refine Go.by st1 ?_
  show Go p e below T1 (mkF m 14 #[.val (.ref a1), .val (.int p2), .val (.int p3), .val (.int (b0 &&& (255 : Int32))), .unset, .unset, .unset, .unset, .unset] [(.int (f2 b0))]) _
  refine Go.by (fun t k => XS.istore X1.here hx rfl (hb hby d1_14) rfl (l' := #[.val (.ref a1), .val (.int p2), .val (.int p3), .val (.int (b0 &&& (255 : Int32))), .val (.int (f2 b0)), .unset, .unset, .unset, .unset]) rfl k) ?_
  show Go p e below T1 (mkF m 16 #[.val (.ref a1), .val (.int p2), .val (.int p3), .val (.int (b0 &&& (255 : Int32))), .val (.int (f2 b0)), .unset, .unset, .unset, .unset] []) _
  generalize h_nn : (f2 b0) = nn
  refine Go.by (fun t k => XS.iload X1.here hx rfl (hb hby d1_16) rfl k) ?_
  show Go p e below T1 (mkF m 18 #[.val (.ref a1), .val (.int p2), .val (.int p3), .val (.int (b0 &&& (255 : Int32))), .val (.int nn), .unset, .unset, .unset, .unset] [(.int nn)]) _
  by_cases hc2 : nn = (0 : Int32)
  · refine Go.by (fun t k => XS.ifNo X1.here hx rfl (hb hby d1_18) rfl ((if0 _ _).trans (teq hc2).2) k) ?_
    show Go p e below T1 (mkF m 21 #[.val (.ref a1), .val (.int p2), .val (.int p3), .val (.int (b0 &&& (255 : Int32))), .val (.int nn), .unset, .unset, .unset, .unset] []) _
    refine Go.by (fun t k => XS.iconst X1.here hx rfl (hb hby d1_21) k) ?_
    show Go p e below T1 (mkF m 22 #[.val (.ref a1), .val (.int p2), .val (.int p3), .val (.int (b0 &&& (255 : Int32))), .val (.int nn), .unset, .unset, .unset, .unset] [(.int (-1 : Int32))]) _
    obtain ⟨fs, hr, hrun, hended, hW, hsame⟩ := X1.leave (v := some (.int (-1 : Int32))) (fun h => by rw [Bd.returns] at h; cases h)
    refine Go.done (retI X1 hx Bd.returns (hb hby d1_22) hr) hrun hended ⟨_, _, rfl, ?_, ⟨_, rfl⟩, hW, hsame.mono (by decide) (by decide)⟩
    show Q1 Z a1 p2 p3 cl b0 b1 b2 b3 h0 n0 _ T1.heap _
    rw [e1q]
    exact ⟨by rw [own_ce, h_nn, if_pos hc2], N1, rfl⟩
  · refine Go.by (fun t k => XS.ifYes X1.here hx rfl (pc0 := 18) (pc' := 23) rfl (hb hby d1_18) rfl ((if0 _ _).trans (feq hc2).2) (by decide) (by decide) k) ?_
    show Go p e below T1 (mkF m 23 #[.val (.ref a1), .val (.int p2), .val (.int p3), .val (.int (b0 &&& (255 : Int32))), .val (.int nn), .unset, .unset, .unset, .unset] []) _
    refine Go.by (fun t k => XS.sipush X1.here hx rfl (hb hby d1_23) k) ?_
    show Go p e below T1 (mkF m 26 #[.val (.ref a1), .val (.int p2), .val (.int p3), .val (.int (b0 &&& (255 : Int32))), .val (.int nn), .unset, .unset, .unset, .unset] [(.int (128 : Int32))]) _
    refine Go.by (fun t k => XS.istore X1.here hx rfl (hb hby d1_26) rfl (l' := #[.val (.ref a1), .val (.int p2), .val (.int p3), .val (.int (b0 &&& (255 : Int32))), .val (.int nn), .val (.int (128 : Int32)), .unset, .unset, .unset]) rfl k) ?_
    show Go p e below T1 (mkF m 28 #[.val (.ref a1), .val (.int p2), .val (.int p3), .val (.int (b0 &&& (255 : Int32))), .val (.int nn), .val (.int (128 : Int32)), .unset, .unset, .unset] []) _
    refine Go.by (fun t k => XS.sipush X1.here hx rfl (hb hby d1_28) k) ?_
    show Go p e below T1 (mkF m 31 #[.val (.ref a1), .val (.int p2), .val (.int p3), .val (.int (b0 &&& (255 : Int32))), .val (.int nn), .val (.int (128 : Int32)), .unset, .unset, .unset] [(.int (191 : Int32))]) _
    refine Go.by (fun t k => XS.istore X1.here hx rfl (hb hby d1_31) rfl (l' := #[.val (.ref a1), .val (.int p2), .val (.int p3), .val (.int (b0 &&& (255 : Int32))), .val (.int nn), .val (.int (128 : Int32)), .val (.int (191 : Int32)), .unset, .unset]) rfl k) ?_
    show Go p e below T1 (mkF m 33 #[.val (.ref a1), .val (.int p2), .val (.int p3), .val (.int (b0 &&& (255 : Int32))), .val (.int nn), .val (.int (128 : Int32)), .val (.int (191 : Int32)), .unset, .unset] []) _
    refine Go.by (fun t k => XS.iloadN X1.here hx rfl (hb hby d1_33) rfl k) ?_
    show Go p e below T1 (mkF m 34 #[.val (.ref a1), .val (.int p2), .val (.int p3), .val (.int (b0 &&& (255 : Int32))), .val (.int nn), .val (.int (128 : Int32)), .val (.int (191 : Int32)), .unset, .unset] [(.int (b0 &&& (255 : Int32)))]) _
    have J108 : ∀ (j108_0 : Int32) (j108_1 : Int32), (j108_0 = own_lo (b0 &&& (255 : Int32)) ∧ j108_1 = own_hi (b0 &&& (255 : Int32))) → Go p e below T1 (mkF m 108 #[.val (.ref a1), .val (.int p2), .val (.int p3), .val (.int (b0 &&& (255 : Int32))), .val (.int nn), .val (.int j108_0), .val (.int j108_1), .unset, .unset] []) (Pst1 Z a1 p2 p3 cl b0 b1 b2 b3 h0 n0 s) := by
      intro j108_0 j108_1 hj108
      refine Go.by (fun t k => XS.iconst X1.here hx rfl (hb hby d1_108) k) ?_
      show Go p e below T1 (mkF m 109 #[.val (.ref a1), .val (.int p2), .val (.int p3), .val (.int (b0 &&& (255 : Int32))), .val (.int nn), .val (.int j108_0), .val (.int j108_1), .unset, .unset] [(.int (1 : Int32))]) _
      refine Go.by (fun t k => XS.istore X1.here hx rfl (hb hby d1_109) rfl (l' := #[.val (.ref a1), .val (.int p2), .val (.int p3), .val (.int (b0 &&& (255 : Int32))), .val (.int nn), .val (.int j108_0), .val (.int j108_1), .val (.int (1 : Int32)), .unset]) rfl k) ?_
      show Go p e below T1 (mkF m 111 #[.val (.ref a1), .val (.int p2), .val (.int p3), .val (.int (b0 &&& (255 : Int32))), .val (.int nn), .val (.int j108_0), .val (.int j108_1), .val (.int (1 : Int32)), .unset] []) _
      refine Go.by (fun t k => XS.iload X1.here hx rfl (hb hby d1_111) rfl k) ?_
      show Go p e below T1 (mkF m 113 #[.val (.ref a1), .val (.int p2), .val (.int p3), .val (.int (b0 &&& (255 : Int32))), .val (.int nn), .val (.int j108_0), .val (.int j108_1), .val (.int (1 : Int32)), .unset] [(.int (1 : Int32))]) _
      refine Go.by (fun t k => XS.iload X1.here hx rfl (hb hby d1_113) rfl k) ?_
      show Go p e below T1 (mkF m 115 #[.val (.ref a1), .val (.int p2), .val (.int p3), .val (.int (b0 &&& (255 : Int32))), .val (.int nn), .val (.int j108_0), .val (.int j108_1), .val (.int (1 : Int32)), .unset] [(.int nn), (.int (1 : Int32))]) _
      by_cases hc3 : (1 : Int32) < nn
      · refine Go.by (fun t k => XS.icmpNo X1.here hx rfl (hb hby d1_115) rfl (tlt hc3).2.1 k) ?_
        show Go p e below T1 (mkF m 118 #[.val (.ref a1), .val (.int p2), .val (.int p3), .val (.int (b0 &&& (255 : Int32))), .val (.int nn), .val (.int j108_0), .val (.int j108_1), .val (.int (1 : Int32)), .unset] []) _
        refine Go.by (fun t k => XS.iloadN X1.here hx rfl (hb hby d1_118) rfl k) ?_
        show Go p e below T1 (mkF m 119 #[.val (.ref a1), .val (.int p2), .val (.int p3), .val (.int (b0 &&& (255 : Int32))), .val (.int nn), .val (.int j108_0), .val (.int j108_1), .val (.int (1 : Int32)), .unset] [(.int p2)]) _
        refine Go.by (fun t k => XS.iload X1.here hx rfl (hb hby d1_119) rfl k) ?_
        show Go p e below T1 (mkF m 121 #[.val (.ref a1), .val (.int p2), .val (.int p3), .val (.int (b0 &&& (255 : Int32))), .val (.int nn), .val (.int j108_0), .val (.int j108_1), .val (.int (1 : Int32)), .unset] [(.int (1 : Int32)), (.int p2)]) _
        refine Go.by (fun t k => XS.iadd X1.here hx rfl (hb hby d1_121) rfl k) ?_
        show Go p e below T1 (mkF m 122 #[.val (.ref a1), .val (.int p2), .val (.int p3), .val (.int (b0 &&& (255 : Int32))), .val (.int nn), .val (.int j108_0), .val (.int j108_1), .val (.int (1 : Int32)), .unset] [(.int (p2 + (1 : Int32)))]) _
        refine Go.by (fun t k => XS.iloadN X1.here hx rfl (hb hby d1_122) rfl k) ?_
        show Go p e below T1 (mkF m 123 #[.val (.ref a1), .val (.int p2), .val (.int p3), .val (.int (b0 &&& (255 : Int32))), .val (.int nn), .val (.int j108_0), .val (.int j108_1), .val (.int (1 : Int32)), .unset] [(.int p3), (.int (p2 + (1 : Int32)))]) _
        by_cases hc4 : (p2 + (1 : Int32)) < p3
        · refine Go.by (fun t k => XS.icmpNo X1.here hx rfl (hb hby d1_123) rfl (tlt hc4).2.1 k) ?_
          show Go p e below T1 (mkF m 126 #[.val (.ref a1), .val (.int p2), .val (.int p3), .val (.int (b0 &&& (255 : Int32))), .val (.int nn), .val (.int j108_0), .val (.int j108_1), .val (.int (1 : Int32)), .unset] []) _
          refine Go.by (fun t k => XS.aloadN X1.here hx rfl (hb hby d1_126) rfl rfl k) ?_
          show Go p e below T1 (mkF m 127 #[.val (.ref a1), .val (.int p2), .val (.int p3), .val (.int (b0 &&& (255 : Int32))), .val (.int nn), .val (.int j108_0), .val (.int j108_1), .val (.int (1 : Int32)), .unset] [(.ref a1)]) _
          refine Go.by (fun t k => XS.iloadN X1.here hx rfl (hb hby d1_127) rfl k) ?_
          show Go p e below T1 (mkF m 128 #[.val (.ref a1), .val (.int p2), .val (.int p3), .val (.int (b0 &&& (255 : Int32))), .val (.int nn), .val (.int j108_0), .val (.int j108_1), .val (.int (1 : Int32)), .unset] [(.int p2), (.ref a1)]) _
          refine Go.by (fun t k => XS.iload X1.here hx rfl (hb hby d1_128) rfl k) ?_
          show Go p e below T1 (mkF m 130 #[.val (.ref a1), .val (.int p2), .val (.int p3), .val (.int (b0 &&& (255 : Int32))), .val (.int nn), .val (.int j108_0), .val (.int j108_1), .val (.int (1 : Int32)), .unset] [(.int (1 : Int32)), (.int p2), (.ref a1)]) _
          refine Go.by (fun t k => XS.iadd X1.here hx rfl (hb hby d1_130) rfl k) ?_
          show Go p e below T1 (mkF m 131 #[.val (.ref a1), .val (.int p2), .val (.int p3), .val (.int (b0 &&& (255 : Int32))), .val (.int nn), .val (.int j108_0), .val (.int j108_1), .val (.int (1 : Int32)), .unset] [(.int (p2 + (1 : Int32))), (.ref a1)]) _
          refine Go.by (fun t k => X1.baloadBytes hx (j := (p2 + (1 : Int32))) (v := (.int b1)) (by rw [e1q]; exact Ar.1) (State.isArrayOf_alike hZ.alike Ar.2.1) Ar.2.2 hin1 hat1 (g := (mkF m 131 #[.val (.ref a1), .val (.int p2), .val (.int p3), .val (.int (b0 &&& (255 : Int32))), .val (.int nn), .val (.int j108_0), .val (.int j108_1), .val (.int (1 : Int32)), .unset] [(.int (p2 + (1 : Int32))), (.ref a1)])) rfl rfl (hb hby d1_131) t k) ?_
          show Go p e below T1 (mkF m 132 #[.val (.ref a1), .val (.int p2), .val (.int p3), .val (.int (b0 &&& (255 : Int32))), .val (.int nn), .val (.int j108_0), .val (.int j108_1), .val (.int (1 : Int32)), .unset] [(.int b1)]) _
          refine Go.by (fun t k => XS.sipush X1.here hx rfl (hb hby d1_132) k) ?_
          show Go p e below T1 (mkF m 135 #[.val (.ref a1), .val (.int p2), .val (.int p3), .val (.int (b0 &&& (255 : Int32))), .val (.int nn), .val (.int j108_0), .val (.int j108_1), .val (.int (1 : Int32)), .unset] [(.int (255 : Int32)), (.int b1)]) _
          refine Go.by (fun t k => XS.iand X1.here hx rfl (hb hby d1_135) rfl k) ?_
          show Go p e below T1 (mkF m 136 #[.val (.ref a1), .val (.int p2), .val (.int p3), .val (.int (b0 &&& (255 : Int32))), .val (.int nn), .val (.int j108_0), .val (.int j108_1), .val (.int (1 : Int32)), .unset] [(.int (b1 &&& (255 : Int32)))]) _
          refine Go.by (fun t k => XS.goto X1.here hx rfl (pc0 := 136) (pc' := 140) rfl (hb hby d1_136) (by decide) (by decide) k) ?_
          show Go p e below T1 (mkF m 140 #[.val (.ref a1), .val (.int p2), .val (.int p3), .val (.int (b0 &&& (255 : Int32))), .val (.int nn), .val (.int j108_0), .val (.int j108_1), .val (.int (1 : Int32)), .unset] [(.int (b1 &&& (255 : Int32)))]) _
          refine Go.by (fun t k => XS.istore X1.here hx rfl (hb hby d1_140) rfl (l' := #[.val (.ref a1), .val (.int p2), .val (.int p3), .val (.int (b0 &&& (255 : Int32))), .val (.int nn), .val (.int j108_0), .val (.int j108_1), .val (.int (1 : Int32)), .val (.int (b1 &&& (255 : Int32)))]) rfl k) ?_
          show Go p e below T1 (mkF m 142 #[.val (.ref a1), .val (.int p2), .val (.int p3), .val (.int (b0 &&& (255 : Int32))), .val (.int nn), .val (.int j108_0), .val (.int j108_1), .val (.int (1 : Int32)), .val (.int (b1 &&& (255 : Int32)))] []) _
          refine Go.by (fun t k => XS.iload X1.here hx rfl (hb hby d1_142) rfl k) ?_
          show Go p e below T1 (mkF m 144 #[.val (.ref a1), .val (.int p2), .val (.int p3), .val (.int (b0 &&& (255 : Int32))), .val (.int nn), .val (.int j108_0), .val (.int j108_1), .val (.int (1 : Int32)), .val (.int (b1 &&& (255 : Int32)))] [(.int (b1 &&& (255 : Int32)))]) _
          refine Go.by (fun t k => XS.iload X1.here hx rfl (hb hby d1_144) rfl k) ?_
          show Go p e below T1 (mkF m 146 #[.val (.ref a1), .val (.int p2), .val (.int p3), .val (.int (b0 &&& (255 : Int32))), .val (.int nn), .val (.int j108_0), .val (.int j108_1), .val (.int (1 : Int32)), .val (.int (b1 &&& (255 : Int32)))] [(.int j108_0), (.int (b1 &&& (255 : Int32)))]) _
          by_cases hc5 : (b1 &&& (255 : Int32)) < j108_0
          · refine Go.by (fun t k => XS.icmpYes X1.here hx rfl (pc0 := 146) (pc' := 156) rfl (hb hby d1_146) rfl (tlt hc5).1 (by decide) (by decide) k) ?_
            show Go p e below T1 (mkF m 156 #[.val (.ref a1), .val (.int p2), .val (.int p3), .val (.int (b0 &&& (255 : Int32))), .val (.int nn), .val (.int j108_0), .val (.int j108_1), .val (.int (1 : Int32)), .val (.int (b1 &&& (255 : Int32)))] []) _
            refine Go.by (fun t k => XS.iconst X1.here hx rfl (hb hby d1_156) k) ?_
            show Go p e below T1 (mkF m 157 #[.val (.ref a1), .val (.int p2), .val (.int p3), .val (.int (b0 &&& (255 : Int32))), .val (.int nn), .val (.int j108_0), .val (.int j108_1), .val (.int (1 : Int32)), .val (.int (b1 &&& (255 : Int32)))] [(.int (-1 : Int32))]) _
            obtain ⟨fs, hr, hrun, hended, hW, hsame⟩ := X1.leave (v := some (.int (-1 : Int32))) (fun h => by rw [Bd.returns] at h; cases h)
            refine Go.done (retI X1 hx Bd.returns (hb hby d1_157) hr) hrun hended ⟨_, _, rfl, ?_, ⟨_, rfl⟩, hW, hsame.mono (by decide) (by decide)⟩
            show Q1 Z a1 p2 p3 cl b0 b1 b2 b3 h0 n0 _ T1.heap _
            rw [e1q]
            refine ⟨?_, N1, rfl⟩
            rw [own_ce, h_nn, if_neg hc2, ← hj108.1, ← hj108.2, own_lp, if_pos hc3, if_pos hc4, if_pos hc5]
          · refine Go.by (fun t k => XS.icmpNo X1.here hx rfl (hb hby d1_146) rfl (flt hc5).1 k) ?_
            show Go p e below T1 (mkF m 149 #[.val (.ref a1), .val (.int p2), .val (.int p3), .val (.int (b0 &&& (255 : Int32))), .val (.int nn), .val (.int j108_0), .val (.int j108_1), .val (.int (1 : Int32)), .val (.int (b1 &&& (255 : Int32)))] []) _
            refine Go.by (fun t k => XS.iload X1.here hx rfl (hb hby d1_149) rfl k) ?_
            show Go p e below T1 (mkF m 151 #[.val (.ref a1), .val (.int p2), .val (.int p3), .val (.int (b0 &&& (255 : Int32))), .val (.int nn), .val (.int j108_0), .val (.int j108_1), .val (.int (1 : Int32)), .val (.int (b1 &&& (255 : Int32)))] [(.int (b1 &&& (255 : Int32)))]) _
            refine Go.by (fun t k => XS.iload X1.here hx rfl (hb hby d1_151) rfl k) ?_
            show Go p e below T1 (mkF m 153 #[.val (.ref a1), .val (.int p2), .val (.int p3), .val (.int (b0 &&& (255 : Int32))), .val (.int nn), .val (.int j108_0), .val (.int j108_1), .val (.int (1 : Int32)), .val (.int (b1 &&& (255 : Int32)))] [(.int j108_1), (.int (b1 &&& (255 : Int32)))]) _
            by_cases hc6 : j108_1 < (b1 &&& (255 : Int32))
            · refine Go.by (fun t k => XS.icmpNo X1.here hx rfl (hb hby d1_153) rfl (tlt hc6).2.2.2 k) ?_
              show Go p e below T1 (mkF m 156 #[.val (.ref a1), .val (.int p2), .val (.int p3), .val (.int (b0 &&& (255 : Int32))), .val (.int nn), .val (.int j108_0), .val (.int j108_1), .val (.int (1 : Int32)), .val (.int (b1 &&& (255 : Int32)))] []) _
              refine Go.by (fun t k => XS.iconst X1.here hx rfl (hb hby d1_156) k) ?_
              show Go p e below T1 (mkF m 157 #[.val (.ref a1), .val (.int p2), .val (.int p3), .val (.int (b0 &&& (255 : Int32))), .val (.int nn), .val (.int j108_0), .val (.int j108_1), .val (.int (1 : Int32)), .val (.int (b1 &&& (255 : Int32)))] [(.int (-1 : Int32))]) _
              obtain ⟨fs, hr, hrun, hended, hW, hsame⟩ := X1.leave (v := some (.int (-1 : Int32))) (fun h => by rw [Bd.returns] at h; cases h)
              refine Go.done (retI X1 hx Bd.returns (hb hby d1_157) hr) hrun hended ⟨_, _, rfl, ?_, ⟨_, rfl⟩, hW, hsame.mono (by decide) (by decide)⟩
              show Q1 Z a1 p2 p3 cl b0 b1 b2 b3 h0 n0 _ T1.heap _
              rw [e1q]
              refine ⟨?_, N1, rfl⟩
              rw [own_ce, h_nn, if_neg hc2, ← hj108.1, ← hj108.2, own_lp, if_pos hc3, if_pos hc4, if_neg hc5, if_pos hc6]
            · refine Go.by (fun t k => XS.icmpYes X1.here hx rfl (pc0 := 153) (pc' := 158) rfl (hb hby d1_153) rfl (flt hc6).2.2.2 (by decide) (by decide) k) ?_
              show Go p e below T1 (mkF m 158 #[.val (.ref a1), .val (.int p2), .val (.int p3), .val (.int (b0 &&& (255 : Int32))), .val (.int nn), .val (.int j108_0), .val (.int j108_1), .val (.int (1 : Int32)), .val (.int (b1 &&& (255 : Int32)))] []) _
              refine Go.by (fun t k => XS.sipush X1.here hx rfl (hb hby d1_158) k) ?_
              show Go p e below T1 (mkF m 161 #[.val (.ref a1), .val (.int p2), .val (.int p3), .val (.int (b0 &&& (255 : Int32))), .val (.int nn), .val (.int j108_0), .val (.int j108_1), .val (.int (1 : Int32)), .val (.int (b1 &&& (255 : Int32)))] [(.int (128 : Int32))]) _
              refine Go.by (fun t k => XS.istore X1.here hx rfl (hb hby d1_161) rfl (l' := #[.val (.ref a1), .val (.int p2), .val (.int p3), .val (.int (b0 &&& (255 : Int32))), .val (.int nn), .val (.int (128 : Int32)), .val (.int j108_1), .val (.int (1 : Int32)), .val (.int (b1 &&& (255 : Int32)))]) rfl k) ?_
              show Go p e below T1 (mkF m 163 #[.val (.ref a1), .val (.int p2), .val (.int p3), .val (.int (b0 &&& (255 : Int32))), .val (.int nn), .val (.int (128 : Int32)), .val (.int j108_1), .val (.int (1 : Int32)), .val (.int (b1 &&& (255 : Int32)))] []) _
              refine Go.by (fun t k => XS.sipush X1.here hx rfl (hb hby d1_163) k) ?_
              show Go p e below T1 (mkF m 166 #[.val (.ref a1), .val (.int p2), .val (.int p3), .val (.int (b0 &&& (255 : Int32))), .val (.int nn), .val (.int (128 : Int32)), .val (.int j108_1), .val (.int (1 : Int32)), .val (.int (b1 &&& (255 : Int32)))] [(.int (191 : Int32))]) _
              refine Go.by (fun t k => XS.istore X1.here hx rfl (hb hby d1_166) rfl (l' := #[.val (.ref a1), .val (.int p2), .val (.int p3), .val (.int (b0 &&& (255 : Int32))), .val (.int nn), .val (.int (128 : Int32)), .val (.int (191 : Int32)), .val (.int (1 : Int32)), .val (.int (b1 &&& (255 : Int32)))]) rfl k) ?_
              show Go p e below T1 (mkF m 168 #[.val (.ref a1), .val (.int p2), .val (.int p3), .val (.int (b0 &&& (255 : Int32))), .val (.int nn), .val (.int (128 : Int32)), .val (.int (191 : Int32)), .val (.int (1 : Int32)), .val (.int (b1 &&& (255 : Int32)))] []) _
              refine Go.by (fun t k => XS.iinc X1.here hx rfl (hb hby d1_168) rfl (l' := #[.val (.ref a1), .val (.int p2), .val (.int p3), .val (.int (b0 &&& (255 : Int32))), .val (.int nn), .val (.int (128 : Int32)), .val (.int (191 : Int32)), .val (.int (2 : Int32)), .val (.int (b1 &&& (255 : Int32)))]) rfl k) ?_
              show Go p e below T1 (mkF m 171 #[.val (.ref a1), .val (.int p2), .val (.int p3), .val (.int (b0 &&& (255 : Int32))), .val (.int nn), .val (.int (128 : Int32)), .val (.int (191 : Int32)), .val (.int (2 : Int32)), .val (.int (b1 &&& (255 : Int32)))] []) _
              refine Go.by (fun t k => XS.goto X1.here hx rfl (pc0 := 171) (pc' := 111) rfl (hb hby d1_171) (by decide) (by decide) k) ?_
              show Go p e below T1 (mkF m 111 #[.val (.ref a1), .val (.int p2), .val (.int p3), .val (.int (b0 &&& (255 : Int32))), .val (.int nn), .val (.int (128 : Int32)), .val (.int (191 : Int32)), .val (.int (2 : Int32)), .val (.int (b1 &&& (255 : Int32)))] []) _
              refine Go.by (fun t k => XS.iload X1.here hx rfl (hb hby d1_111) rfl k) ?_
              show Go p e below T1 (mkF m 113 #[.val (.ref a1), .val (.int p2), .val (.int p3), .val (.int (b0 &&& (255 : Int32))), .val (.int nn), .val (.int (128 : Int32)), .val (.int (191 : Int32)), .val (.int (2 : Int32)), .val (.int (b1 &&& (255 : Int32)))] [(.int (2 : Int32))]) _
              refine Go.by (fun t k => XS.iload X1.here hx rfl (hb hby d1_113) rfl k) ?_
              show Go p e below T1 (mkF m 115 #[.val (.ref a1), .val (.int p2), .val (.int p3), .val (.int (b0 &&& (255 : Int32))), .val (.int nn), .val (.int (128 : Int32)), .val (.int (191 : Int32)), .val (.int (2 : Int32)), .val (.int (b1 &&& (255 : Int32)))] [(.int nn), (.int (2 : Int32))]) _
              by_cases hc7 : (2 : Int32) < nn
              · refine Go.by (fun t k => XS.icmpNo X1.here hx rfl (hb hby d1_115) rfl (tlt hc7).2.1 k) ?_
                show Go p e below T1 (mkF m 118 #[.val (.ref a1), .val (.int p2), .val (.int p3), .val (.int (b0 &&& (255 : Int32))), .val (.int nn), .val (.int (128 : Int32)), .val (.int (191 : Int32)), .val (.int (2 : Int32)), .val (.int (b1 &&& (255 : Int32)))] []) _
                refine Go.by (fun t k => XS.iloadN X1.here hx rfl (hb hby d1_118) rfl k) ?_
                show Go p e below T1 (mkF m 119 #[.val (.ref a1), .val (.int p2), .val (.int p3), .val (.int (b0 &&& (255 : Int32))), .val (.int nn), .val (.int (128 : Int32)), .val (.int (191 : Int32)), .val (.int (2 : Int32)), .val (.int (b1 &&& (255 : Int32)))] [(.int p2)]) _
                refine Go.by (fun t k => XS.iload X1.here hx rfl (hb hby d1_119) rfl k) ?_
                show Go p e below T1 (mkF m 121 #[.val (.ref a1), .val (.int p2), .val (.int p3), .val (.int (b0 &&& (255 : Int32))), .val (.int nn), .val (.int (128 : Int32)), .val (.int (191 : Int32)), .val (.int (2 : Int32)), .val (.int (b1 &&& (255 : Int32)))] [(.int (2 : Int32)), (.int p2)]) _
                refine Go.by (fun t k => XS.iadd X1.here hx rfl (hb hby d1_121) rfl k) ?_
                show Go p e below T1 (mkF m 122 #[.val (.ref a1), .val (.int p2), .val (.int p3), .val (.int (b0 &&& (255 : Int32))), .val (.int nn), .val (.int (128 : Int32)), .val (.int (191 : Int32)), .val (.int (2 : Int32)), .val (.int (b1 &&& (255 : Int32)))] [(.int (p2 + (2 : Int32)))]) _
                refine Go.by (fun t k => XS.iloadN X1.here hx rfl (hb hby d1_122) rfl k) ?_
                show Go p e below T1 (mkF m 123 #[.val (.ref a1), .val (.int p2), .val (.int p3), .val (.int (b0 &&& (255 : Int32))), .val (.int nn), .val (.int (128 : Int32)), .val (.int (191 : Int32)), .val (.int (2 : Int32)), .val (.int (b1 &&& (255 : Int32)))] [(.int p3), (.int (p2 + (2 : Int32)))]) _
                by_cases hc8 : (p2 + (2 : Int32)) < p3
                · refine Go.by (fun t k => XS.icmpNo X1.here hx rfl (hb hby d1_123) rfl (tlt hc8).2.1 k) ?_
                  show Go p e below T1 (mkF m 126 #[.val (.ref a1), .val (.int p2), .val (.int p3), .val (.int (b0 &&& (255 : Int32))), .val (.int nn), .val (.int (128 : Int32)), .val (.int (191 : Int32)), .val (.int (2 : Int32)), .val (.int (b1 &&& (255 : Int32)))] []) _
                  refine Go.by (fun t k => XS.aloadN X1.here hx rfl (hb hby d1_126) rfl rfl k) ?_
                  show Go p e below T1 (mkF m 127 #[.val (.ref a1), .val (.int p2), .val (.int p3), .val (.int (b0 &&& (255 : Int32))), .val (.int nn), .val (.int (128 : Int32)), .val (.int (191 : Int32)), .val (.int (2 : Int32)), .val (.int (b1 &&& (255 : Int32)))] [(.ref a1)]) _
                  refine Go.by (fun t k => XS.iloadN X1.here hx rfl (hb hby d1_127) rfl k) ?_
                  show Go p e below T1 (mkF m 128 #[.val (.ref a1), .val (.int p2), .val (.int p3), .val (.int (b0 &&& (255 : Int32))), .val (.int nn), .val (.int (128 : Int32)), .val (.int (191 : Int32)), .val (.int (2 : Int32)), .val (.int (b1 &&& (255 : Int32)))] [(.int p2), (.ref a1)]) _
                  refine Go.by (fun t k => XS.iload X1.here hx rfl (hb hby d1_128) rfl k) ?_
                  show Go p e below T1 (mkF m 130 #[.val (.ref a1), .val (.int p2), .val (.int p3), .val (.int (b0 &&& (255 : Int32))), .val (.int nn), .val (.int (128 : Int32)), .val (.int (191 : Int32)), .val (.int (2 : Int32)), .val (.int (b1 &&& (255 : Int32)))] [(.int (2 : Int32)), (.int p2), (.ref a1)]) _
                  refine Go.by (fun t k => XS.iadd X1.here hx rfl (hb hby d1_130) rfl k) ?_
                  show Go p e below T1 (mkF m 131 #[.val (.ref a1), .val (.int p2), .val (.int p3), .val (.int (b0 &&& (255 : Int32))), .val (.int nn), .val (.int (128 : Int32)), .val (.int (191 : Int32)), .val (.int (2 : Int32)), .val (.int (b1 &&& (255 : Int32)))] [(.int (p2 + (2 : Int32))), (.ref a1)]) _
                  refine Go.by (fun t k => X1.baloadBytes hx (j := (p2 + (2 : Int32))) (v := (.int b2)) (by rw [e1q]; exact Ar.1) (State.isArrayOf_alike hZ.alike Ar.2.1) Ar.2.2 hin2 hat2 (g := (mkF m 131 #[.val (.ref a1), .val (.int p2), .val (.int p3), .val (.int (b0 &&& (255 : Int32))), .val (.int nn), .val (.int (128 : Int32)), .val (.int (191 : Int32)), .val (.int (2 : Int32)), .val (.int (b1 &&& (255 : Int32)))] [(.int (p2 + (2 : Int32))), (.ref a1)])) rfl rfl (hb hby d1_131) t k) ?_
                  show Go p e below T1 (mkF m 132 #[.val (.ref a1), .val (.int p2), .val (.int p3), .val (.int (b0 &&& (255 : Int32))), .val (.int nn), .val (.int (128 : Int32)), .val (.int (191 : Int32)), .val (.int (2 : Int32)), .val (.int (b1 &&& (255 : Int32)))] [(.int b2)]) _
                  refine Go.by (fun t k => XS.sipush X1.here hx rfl (hb hby d1_132) k) ?_
                  show Go p e below T1 (mkF m 135 #[.val (.ref a1), .val (.int p2), .val (.int p3), .val (.int (b0 &&& (255 : Int32))), .val (.int nn), .val (.int (128 : Int32)), .val (.int (191 : Int32)), .val (.int (2 : Int32)), .val (.int (b1 &&& (255 : Int32)))] [(.int (255 : Int32)), (.int b2)]) _
                  refine Go.by (fun t k => XS.iand X1.here hx rfl (hb hby d1_135) rfl k) ?_
                  show Go p e below T1 (mkF m 136 #[.val (.ref a1), .val (.int p2), .val (.int p3), .val (.int (b0 &&& (255 : Int32))), .val (.int nn), .val (.int (128 : Int32)), .val (.int (191 : Int32)), .val (.int (2 : Int32)), .val (.int (b1 &&& (255 : Int32)))] [(.int (b2 &&& (255 : Int32)))]) _
                  refine Go.by (fun t k => XS.goto X1.here hx rfl (pc0 := 136) (pc' := 140) rfl (hb hby d1_136) (by decide) (by decide) k) ?_
                  show Go p e below T1 (mkF m 140 #[.val (.ref a1), .val (.int p2), .val (.int p3), .val (.int (b0 &&& (255 : Int32))), .val (.int nn), .val (.int (128 : Int32)), .val (.int (191 : Int32)), .val (.int (2 : Int32)), .val (.int (b1 &&& (255 : Int32)))] [(.int (b2 &&& (255 : Int32)))]) _
                  refine Go.by (fun t k => XS.istore X1.here hx rfl (hb hby d1_140) rfl (l' := #[.val (.ref a1), .val (.int p2), .val (.int p3), .val (.int (b0 &&& (255 : Int32))), .val (.int nn), .val (.int (128 : Int32)), .val (.int (191 : Int32)), .val (.int (2 : Int32)), .val (.int (b2 &&& (255 : Int32)))]) rfl k) ?_
                  show Go p e below T1 (mkF m 142 #[.val (.ref a1), .val (.int p2), .val (.int p3), .val (.int (b0 &&& (255 : Int32))), .val (.int nn), .val (.int (128 : Int32)), .val (.int (191 : Int32)), .val (.int (2 : Int32)), .val (.int (b2 &&& (255 : Int32)))] []) _
                  refine Go.by (fun t k => XS.iload X1.here hx rfl (hb hby d1_142) rfl k) ?_
                  show Go p e below T1 (mkF m 144 #[.val (.ref a1), .val (.int p2), .val (.int p3), .val (.int (b0 &&& (255 : Int32))), .val (.int nn), .val (.int (128 : Int32)), .val (.int (191 : Int32)), .val (.int (2 : Int32)), .val (.int (b2 &&& (255 : Int32)))] [(.int (b2 &&& (255 : Int32)))]) _
                  refine Go.by (fun t k => XS.iload X1.here hx rfl (hb hby d1_144) rfl k) ?_
                  show Go p e below T1 (mkF m 146 #[.val (.ref a1), .val (.int p2), .val (.int p3), .val (.int (b0 &&& (255 : Int32))), .val (.int nn), .val (.int (128 : Int32)), .val (.int (191 : Int32)), .val (.int (2 : Int32)), .val (.int (b2 &&& (255 : Int32)))] [(.int (128 : Int32)), (.int (b2 &&& (255 : Int32)))]) _
                  by_cases hc9 : (b2 &&& (255 : Int32)) < (128 : Int32)
                  · refine Go.by (fun t k => XS.icmpYes X1.here hx rfl (pc0 := 146) (pc' := 156) rfl (hb hby d1_146) rfl (tlt hc9).1 (by decide) (by decide) k) ?_
                    show Go p e below T1 (mkF m 156 #[.val (.ref a1), .val (.int p2), .val (.int p3), .val (.int (b0 &&& (255 : Int32))), .val (.int nn), .val (.int (128 : Int32)), .val (.int (191 : Int32)), .val (.int (2 : Int32)), .val (.int (b2 &&& (255 : Int32)))] []) _
                    refine Go.by (fun t k => XS.iconst X1.here hx rfl (hb hby d1_156) k) ?_
                    show Go p e below T1 (mkF m 157 #[.val (.ref a1), .val (.int p2), .val (.int p3), .val (.int (b0 &&& (255 : Int32))), .val (.int nn), .val (.int (128 : Int32)), .val (.int (191 : Int32)), .val (.int (2 : Int32)), .val (.int (b2 &&& (255 : Int32)))] [(.int (-1 : Int32))]) _
                    obtain ⟨fs, hr, hrun, hended, hW, hsame⟩ := X1.leave (v := some (.int (-1 : Int32))) (fun h => by rw [Bd.returns] at h; cases h)
                    refine Go.done (retI X1 hx Bd.returns (hb hby d1_157) hr) hrun hended ⟨_, _, rfl, ?_, ⟨_, rfl⟩, hW, hsame.mono (by decide) (by decide)⟩
                    show Q1 Z a1 p2 p3 cl b0 b1 b2 b3 h0 n0 _ T1.heap _
                    rw [e1q]
                    refine ⟨?_, N1, rfl⟩
                    rw [own_ce, h_nn, if_neg hc2, ← hj108.1, ← hj108.2, own_lp, if_pos hc3, if_pos hc4, if_neg hc5, if_neg hc6, if_pos hc7, if_pos hc8, if_pos hc9]
                  · refine Go.by (fun t k => XS.icmpNo X1.here hx rfl (hb hby d1_146) rfl (flt hc9).1 k) ?_
                    show Go p e below T1 (mkF m 149 #[.val (.ref a1), .val (.int p2), .val (.int p3), .val (.int (b0 &&& (255 : Int32))), .val (.int nn), .val (.int (128 : Int32)), .val (.int (191 : Int32)), .val (.int (2 : Int32)), .val (.int (b2 &&& (255 : Int32)))] []) _
                    refine Go.by (fun t k => XS.iload X1.here hx rfl (hb hby d1_149) rfl k) ?_
                    show Go p e below T1 (mkF m 151 #[.val (.ref a1), .val (.int p2), .val (.int p3), .val (.int (b0 &&& (255 : Int32))), .val (.int nn), .val (.int (128 : Int32)), .val (.int (191 : Int32)), .val (.int (2 : Int32)), .val (.int (b2 &&& (255 : Int32)))] [(.int (b2 &&& (255 : Int32)))]) _
                    refine Go.by (fun t k => XS.iload X1.here hx rfl (hb hby d1_151) rfl k) ?_
                    show Go p e below T1 (mkF m 153 #[.val (.ref a1), .val (.int p2), .val (.int p3), .val (.int (b0 &&& (255 : Int32))), .val (.int nn), .val (.int (128 : Int32)), .val (.int (191 : Int32)), .val (.int (2 : Int32)), .val (.int (b2 &&& (255 : Int32)))] [(.int (191 : Int32)), (.int (b2 &&& (255 : Int32)))]) _
                    by_cases hc10 : (191 : Int32) < (b2 &&& (255 : Int32))
                    · refine Go.by (fun t k => XS.icmpNo X1.here hx rfl (hb hby d1_153) rfl (tlt hc10).2.2.2 k) ?_
                      show Go p e below T1 (mkF m 156 #[.val (.ref a1), .val (.int p2), .val (.int p3), .val (.int (b0 &&& (255 : Int32))), .val (.int nn), .val (.int (128 : Int32)), .val (.int (191 : Int32)), .val (.int (2 : Int32)), .val (.int (b2 &&& (255 : Int32)))] []) _
                      refine Go.by (fun t k => XS.iconst X1.here hx rfl (hb hby d1_156) k) ?_
                      show Go p e below T1 (mkF m 157 #[.val (.ref a1), .val (.int p2), .val (.int p3), .val (.int (b0 &&& (255 : Int32))), .val (.int nn), .val (.int (128 : Int32)), .val (.int (191 : Int32)), .val (.int (2 : Int32)), .val (.int (b2 &&& (255 : Int32)))] [(.int (-1 : Int32))]) _
                      obtain ⟨fs, hr, hrun, hended, hW, hsame⟩ := X1.leave (v := some (.int (-1 : Int32))) (fun h => by rw [Bd.returns] at h; cases h)
                      refine Go.done (retI X1 hx Bd.returns (hb hby d1_157) hr) hrun hended ⟨_, _, rfl, ?_, ⟨_, rfl⟩, hW, hsame.mono (by decide) (by decide)⟩
                      show Q1 Z a1 p2 p3 cl b0 b1 b2 b3 h0 n0 _ T1.heap _
                      rw [e1q]
                      refine ⟨?_, N1, rfl⟩
                      rw [own_ce, h_nn, if_neg hc2, ← hj108.1, ← hj108.2, own_lp, if_pos hc3, if_pos hc4, if_neg hc5, if_neg hc6, if_pos hc7, if_pos hc8, if_neg hc9, if_pos hc10]
                    · refine Go.by (fun t k => XS.icmpYes X1.here hx rfl (pc0 := 153) (pc' := 158) rfl (hb hby d1_153) rfl (flt hc10).2.2.2 (by decide) (by decide) k) ?_
                      show Go p e below T1 (mkF m 158 #[.val (.ref a1), .val (.int p2), .val (.int p3), .val (.int (b0 &&& (255 : Int32))), .val (.int nn), .val (.int (128 : Int32)), .val (.int (191 : Int32)), .val (.int (2 : Int32)), .val (.int (b2 &&& (255 : Int32)))] []) _
                      refine Go.by (fun t k => XS.sipush X1.here hx rfl (hb hby d1_158) k) ?_
                      show Go p e below T1 (mkF m 161 #[.val (.ref a1), .val (.int p2), .val (.int p3), .val (.int (b0 &&& (255 : Int32))), .val (.int nn), .val (.int (128 : Int32)), .val (.int (191 : Int32)), .val (.int (2 : Int32)), .val (.int (b2 &&& (255 : Int32)))] [(.int (128 : Int32))]) _
                      refine Go.by (fun t k => XS.istore X1.here hx rfl (hb hby d1_161) rfl (l' := #[.val (.ref a1), .val (.int p2), .val (.int p3), .val (.int (b0 &&& (255 : Int32))), .val (.int nn), .val (.int (128 : Int32)), .val (.int (191 : Int32)), .val (.int (2 : Int32)), .val (.int (b2 &&& (255 : Int32)))]) rfl k) ?_
                      show Go p e below T1 (mkF m 163 #[.val (.ref a1), .val (.int p2), .val (.int p3), .val (.int (b0 &&& (255 : Int32))), .val (.int nn), .val (.int (128 : Int32)), .val (.int (191 : Int32)), .val (.int (2 : Int32)), .val (.int (b2 &&& (255 : Int32)))] []) _
                      refine Go.by (fun t k => XS.sipush X1.here hx rfl (hb hby d1_163) k) ?_
                      show Go p e below T1 (mkF m 166 #[.val (.ref a1), .val (.int p2), .val (.int p3), .val (.int (b0 &&& (255 : Int32))), .val (.int nn), .val (.int (128 : Int32)), .val (.int (191 : Int32)), .val (.int (2 : Int32)), .val (.int (b2 &&& (255 : Int32)))] [(.int (191 : Int32))]) _
                      refine Go.by (fun t k => XS.istore X1.here hx rfl (hb hby d1_166) rfl (l' := #[.val (.ref a1), .val (.int p2), .val (.int p3), .val (.int (b0 &&& (255 : Int32))), .val (.int nn), .val (.int (128 : Int32)), .val (.int (191 : Int32)), .val (.int (2 : Int32)), .val (.int (b2 &&& (255 : Int32)))]) rfl k) ?_
                      show Go p e below T1 (mkF m 168 #[.val (.ref a1), .val (.int p2), .val (.int p3), .val (.int (b0 &&& (255 : Int32))), .val (.int nn), .val (.int (128 : Int32)), .val (.int (191 : Int32)), .val (.int (2 : Int32)), .val (.int (b2 &&& (255 : Int32)))] []) _
                      refine Go.by (fun t k => XS.iinc X1.here hx rfl (hb hby d1_168) rfl (l' := #[.val (.ref a1), .val (.int p2), .val (.int p3), .val (.int (b0 &&& (255 : Int32))), .val (.int nn), .val (.int (128 : Int32)), .val (.int (191 : Int32)), .val (.int (3 : Int32)), .val (.int (b2 &&& (255 : Int32)))]) rfl k) ?_
                      show Go p e below T1 (mkF m 171 #[.val (.ref a1), .val (.int p2), .val (.int p3), .val (.int (b0 &&& (255 : Int32))), .val (.int nn), .val (.int (128 : Int32)), .val (.int (191 : Int32)), .val (.int (3 : Int32)), .val (.int (b2 &&& (255 : Int32)))] []) _
                      refine Go.by (fun t k => XS.goto X1.here hx rfl (pc0 := 171) (pc' := 111) rfl (hb hby d1_171) (by decide) (by decide) k) ?_
                      show Go p e below T1 (mkF m 111 #[.val (.ref a1), .val (.int p2), .val (.int p3), .val (.int (b0 &&& (255 : Int32))), .val (.int nn), .val (.int (128 : Int32)), .val (.int (191 : Int32)), .val (.int (3 : Int32)), .val (.int (b2 &&& (255 : Int32)))] []) _
                      refine Go.by (fun t k => XS.iload X1.here hx rfl (hb hby d1_111) rfl k) ?_
                      show Go p e below T1 (mkF m 113 #[.val (.ref a1), .val (.int p2), .val (.int p3), .val (.int (b0 &&& (255 : Int32))), .val (.int nn), .val (.int (128 : Int32)), .val (.int (191 : Int32)), .val (.int (3 : Int32)), .val (.int (b2 &&& (255 : Int32)))] [(.int (3 : Int32))]) _
                      refine Go.by (fun t k => XS.iload X1.here hx rfl (hb hby d1_113) rfl k) ?_
                      show Go p e below T1 (mkF m 115 #[.val (.ref a1), .val (.int p2), .val (.int p3), .val (.int (b0 &&& (255 : Int32))), .val (.int nn), .val (.int (128 : Int32)), .val (.int (191 : Int32)), .val (.int (3 : Int32)), .val (.int (b2 &&& (255 : Int32)))] [(.int nn), (.int (3 : Int32))]) _
                      by_cases hc11 : (3 : Int32) < nn
                      · refine Go.by (fun t k => XS.icmpNo X1.here hx rfl (hb hby d1_115) rfl (tlt hc11).2.1 k) ?_
                        show Go p e below T1 (mkF m 118 #[.val (.ref a1), .val (.int p2), .val (.int p3), .val (.int (b0 &&& (255 : Int32))), .val (.int nn), .val (.int (128 : Int32)), .val (.int (191 : Int32)), .val (.int (3 : Int32)), .val (.int (b2 &&& (255 : Int32)))] []) _
                        refine Go.by (fun t k => XS.iloadN X1.here hx rfl (hb hby d1_118) rfl k) ?_
                        show Go p e below T1 (mkF m 119 #[.val (.ref a1), .val (.int p2), .val (.int p3), .val (.int (b0 &&& (255 : Int32))), .val (.int nn), .val (.int (128 : Int32)), .val (.int (191 : Int32)), .val (.int (3 : Int32)), .val (.int (b2 &&& (255 : Int32)))] [(.int p2)]) _
                        refine Go.by (fun t k => XS.iload X1.here hx rfl (hb hby d1_119) rfl k) ?_
                        show Go p e below T1 (mkF m 121 #[.val (.ref a1), .val (.int p2), .val (.int p3), .val (.int (b0 &&& (255 : Int32))), .val (.int nn), .val (.int (128 : Int32)), .val (.int (191 : Int32)), .val (.int (3 : Int32)), .val (.int (b2 &&& (255 : Int32)))] [(.int (3 : Int32)), (.int p2)]) _
                        refine Go.by (fun t k => XS.iadd X1.here hx rfl (hb hby d1_121) rfl k) ?_
                        show Go p e below T1 (mkF m 122 #[.val (.ref a1), .val (.int p2), .val (.int p3), .val (.int (b0 &&& (255 : Int32))), .val (.int nn), .val (.int (128 : Int32)), .val (.int (191 : Int32)), .val (.int (3 : Int32)), .val (.int (b2 &&& (255 : Int32)))] [(.int (p2 + (3 : Int32)))]) _
                        refine Go.by (fun t k => XS.iloadN X1.here hx rfl (hb hby d1_122) rfl k) ?_
                        show Go p e below T1 (mkF m 123 #[.val (.ref a1), .val (.int p2), .val (.int p3), .val (.int (b0 &&& (255 : Int32))), .val (.int nn), .val (.int (128 : Int32)), .val (.int (191 : Int32)), .val (.int (3 : Int32)), .val (.int (b2 &&& (255 : Int32)))] [(.int p3), (.int (p2 + (3 : Int32)))]) _
                        by_cases hc12 : (p2 + (3 : Int32)) < p3
                        · refine Go.by (fun t k => XS.icmpNo X1.here hx rfl (hb hby d1_123) rfl (tlt hc12).2.1 k) ?_
                          show Go p e below T1 (mkF m 126 #[.val (.ref a1), .val (.int p2), .val (.int p3), .val (.int (b0 &&& (255 : Int32))), .val (.int nn), .val (.int (128 : Int32)), .val (.int (191 : Int32)), .val (.int (3 : Int32)), .val (.int (b2 &&& (255 : Int32)))] []) _
                          refine Go.by (fun t k => XS.aloadN X1.here hx rfl (hb hby d1_126) rfl rfl k) ?_
                          show Go p e below T1 (mkF m 127 #[.val (.ref a1), .val (.int p2), .val (.int p3), .val (.int (b0 &&& (255 : Int32))), .val (.int nn), .val (.int (128 : Int32)), .val (.int (191 : Int32)), .val (.int (3 : Int32)), .val (.int (b2 &&& (255 : Int32)))] [(.ref a1)]) _
                          refine Go.by (fun t k => XS.iloadN X1.here hx rfl (hb hby d1_127) rfl k) ?_
                          show Go p e below T1 (mkF m 128 #[.val (.ref a1), .val (.int p2), .val (.int p3), .val (.int (b0 &&& (255 : Int32))), .val (.int nn), .val (.int (128 : Int32)), .val (.int (191 : Int32)), .val (.int (3 : Int32)), .val (.int (b2 &&& (255 : Int32)))] [(.int p2), (.ref a1)]) _
                          refine Go.by (fun t k => XS.iload X1.here hx rfl (hb hby d1_128) rfl k) ?_
                          show Go p e below T1 (mkF m 130 #[.val (.ref a1), .val (.int p2), .val (.int p3), .val (.int (b0 &&& (255 : Int32))), .val (.int nn), .val (.int (128 : Int32)), .val (.int (191 : Int32)), .val (.int (3 : Int32)), .val (.int (b2 &&& (255 : Int32)))] [(.int (3 : Int32)), (.int p2), (.ref a1)]) _
                          refine Go.by (fun t k => XS.iadd X1.here hx rfl (hb hby d1_130) rfl k) ?_
                          show Go p e below T1 (mkF m 131 #[.val (.ref a1), .val (.int p2), .val (.int p3), .val (.int (b0 &&& (255 : Int32))), .val (.int nn), .val (.int (128 : Int32)), .val (.int (191 : Int32)), .val (.int (3 : Int32)), .val (.int (b2 &&& (255 : Int32)))] [(.int (p2 + (3 : Int32))), (.ref a1)]) _
                          refine Go.by (fun t k => X1.baloadBytes hx (j := (p2 + (3 : Int32))) (v := (.int b3)) (by rw [e1q]; exact Ar.1) (State.isArrayOf_alike hZ.alike Ar.2.1) Ar.2.2 hin3 hat3 (g := (mkF m 131 #[.val (.ref a1), .val (.int p2), .val (.int p3), .val (.int (b0 &&& (255 : Int32))), .val (.int nn), .val (.int (128 : Int32)), .val (.int (191 : Int32)), .val (.int (3 : Int32)), .val (.int (b2 &&& (255 : Int32)))] [(.int (p2 + (3 : Int32))), (.ref a1)])) rfl rfl (hb hby d1_131) t k) ?_
                          show Go p e below T1 (mkF m 132 #[.val (.ref a1), .val (.int p2), .val (.int p3), .val (.int (b0 &&& (255 : Int32))), .val (.int nn), .val (.int (128 : Int32)), .val (.int (191 : Int32)), .val (.int (3 : Int32)), .val (.int (b2 &&& (255 : Int32)))] [(.int b3)]) _
                          refine Go.by (fun t k => XS.sipush X1.here hx rfl (hb hby d1_132) k) ?_
                          show Go p e below T1 (mkF m 135 #[.val (.ref a1), .val (.int p2), .val (.int p3), .val (.int (b0 &&& (255 : Int32))), .val (.int nn), .val (.int (128 : Int32)), .val (.int (191 : Int32)), .val (.int (3 : Int32)), .val (.int (b2 &&& (255 : Int32)))] [(.int (255 : Int32)), (.int b3)]) _
                          refine Go.by (fun t k => XS.iand X1.here hx rfl (hb hby d1_135) rfl k) ?_
                          show Go p e below T1 (mkF m 136 #[.val (.ref a1), .val (.int p2), .val (.int p3), .val (.int (b0 &&& (255 : Int32))), .val (.int nn), .val (.int (128 : Int32)), .val (.int (191 : Int32)), .val (.int (3 : Int32)), .val (.int (b2 &&& (255 : Int32)))] [(.int (b3 &&& (255 : Int32)))]) _
                          refine Go.by (fun t k => XS.goto X1.here hx rfl (pc0 := 136) (pc' := 140) rfl (hb hby d1_136) (by decide) (by decide) k) ?_
                          show Go p e below T1 (mkF m 140 #[.val (.ref a1), .val (.int p2), .val (.int p3), .val (.int (b0 &&& (255 : Int32))), .val (.int nn), .val (.int (128 : Int32)), .val (.int (191 : Int32)), .val (.int (3 : Int32)), .val (.int (b2 &&& (255 : Int32)))] [(.int (b3 &&& (255 : Int32)))]) _
                          refine Go.by (fun t k => XS.istore X1.here hx rfl (hb hby d1_140) rfl (l' := #[.val (.ref a1), .val (.int p2), .val (.int p3), .val (.int (b0 &&& (255 : Int32))), .val (.int nn), .val (.int (128 : Int32)), .val (.int (191 : Int32)), .val (.int (3 : Int32)), .val (.int (b3 &&& (255 : Int32)))]) rfl k) ?_
                          show Go p e below T1 (mkF m 142 #[.val (.ref a1), .val (.int p2), .val (.int p3), .val (.int (b0 &&& (255 : Int32))), .val (.int nn), .val (.int (128 : Int32)), .val (.int (191 : Int32)), .val (.int (3 : Int32)), .val (.int (b3 &&& (255 : Int32)))] []) _
                          refine Go.by (fun t k => XS.iload X1.here hx rfl (hb hby d1_142) rfl k) ?_
                          show Go p e below T1 (mkF m 144 #[.val (.ref a1), .val (.int p2), .val (.int p3), .val (.int (b0 &&& (255 : Int32))), .val (.int nn), .val (.int (128 : Int32)), .val (.int (191 : Int32)), .val (.int (3 : Int32)), .val (.int (b3 &&& (255 : Int32)))] [(.int (b3 &&& (255 : Int32)))]) _
                          refine Go.by (fun t k => XS.iload X1.here hx rfl (hb hby d1_144) rfl k) ?_
                          show Go p e below T1 (mkF m 146 #[.val (.ref a1), .val (.int p2), .val (.int p3), .val (.int (b0 &&& (255 : Int32))), .val (.int nn), .val (.int (128 : Int32)), .val (.int (191 : Int32)), .val (.int (3 : Int32)), .val (.int (b3 &&& (255 : Int32)))] [(.int (128 : Int32)), (.int (b3 &&& (255 : Int32)))]) _
                          by_cases hc13 : (b3 &&& (255 : Int32)) < (128 : Int32)
                          · refine Go.by (fun t k => XS.icmpYes X1.here hx rfl (pc0 := 146) (pc' := 156) rfl (hb hby d1_146) rfl (tlt hc13).1 (by decide) (by decide) k) ?_
                            show Go p e below T1 (mkF m 156 #[.val (.ref a1), .val (.int p2), .val (.int p3), .val (.int (b0 &&& (255 : Int32))), .val (.int nn), .val (.int (128 : Int32)), .val (.int (191 : Int32)), .val (.int (3 : Int32)), .val (.int (b3 &&& (255 : Int32)))] []) _
                            refine Go.by (fun t k => XS.iconst X1.here hx rfl (hb hby d1_156) k) ?_
                            show Go p e below T1 (mkF m 157 #[.val (.ref a1), .val (.int p2), .val (.int p3), .val (.int (b0 &&& (255 : Int32))), .val (.int nn), .val (.int (128 : Int32)), .val (.int (191 : Int32)), .val (.int (3 : Int32)), .val (.int (b3 &&& (255 : Int32)))] [(.int (-1 : Int32))]) _
                            obtain ⟨fs, hr, hrun, hended, hW, hsame⟩ := X1.leave (v := some (.int (-1 : Int32))) (fun h => by rw [Bd.returns] at h; cases h)
                            refine Go.done (retI X1 hx Bd.returns (hb hby d1_157) hr) hrun hended ⟨_, _, rfl, ?_, ⟨_, rfl⟩, hW, hsame.mono (by decide) (by decide)⟩
                            show Q1 Z a1 p2 p3 cl b0 b1 b2 b3 h0 n0 _ T1.heap _
                            rw [e1q]
                            refine ⟨?_, N1, rfl⟩
                            rw [own_ce, h_nn, if_neg hc2, ← hj108.1, ← hj108.2, own_lp, if_pos hc3, if_pos hc4, if_neg hc5, if_neg hc6, if_pos hc7, if_pos hc8, if_neg hc9, if_neg hc10, if_pos hc11, if_pos hc12, if_pos hc13]
                          · refine Go.by (fun t k => XS.icmpNo X1.here hx rfl (hb hby d1_146) rfl (flt hc13).1 k) ?_
                            show Go p e below T1 (mkF m 149 #[.val (.ref a1), .val (.int p2), .val (.int p3), .val (.int (b0 &&& (255 : Int32))), .val (.int nn), .val (.int (128 : Int32)), .val (.int (191 : Int32)), .val (.int (3 : Int32)), .val (.int (b3 &&& (255 : Int32)))] []) _
                            refine Go.by (fun t k => XS.iload X1.here hx rfl (hb hby d1_149) rfl k) ?_
                            show Go p e below T1 (mkF m 151 #[.val (.ref a1), .val (.int p2), .val (.int p3), .val (.int (b0 &&& (255 : Int32))), .val (.int nn), .val (.int (128 : Int32)), .val (.int (191 : Int32)), .val (.int (3 : Int32)), .val (.int (b3 &&& (255 : Int32)))] [(.int (b3 &&& (255 : Int32)))]) _
                            refine Go.by (fun t k => XS.iload X1.here hx rfl (hb hby d1_151) rfl k) ?_
                            show Go p e below T1 (mkF m 153 #[.val (.ref a1), .val (.int p2), .val (.int p3), .val (.int (b0 &&& (255 : Int32))), .val (.int nn), .val (.int (128 : Int32)), .val (.int (191 : Int32)), .val (.int (3 : Int32)), .val (.int (b3 &&& (255 : Int32)))] [(.int (191 : Int32)), (.int (b3 &&& (255 : Int32)))]) _
                            by_cases hc14 : (191 : Int32) < (b3 &&& (255 : Int32))
                            · refine Go.by (fun t k => XS.icmpNo X1.here hx rfl (hb hby d1_153) rfl (tlt hc14).2.2.2 k) ?_
                              show Go p e below T1 (mkF m 156 #[.val (.ref a1), .val (.int p2), .val (.int p3), .val (.int (b0 &&& (255 : Int32))), .val (.int nn), .val (.int (128 : Int32)), .val (.int (191 : Int32)), .val (.int (3 : Int32)), .val (.int (b3 &&& (255 : Int32)))] []) _
                              refine Go.by (fun t k => XS.iconst X1.here hx rfl (hb hby d1_156) k) ?_
                              show Go p e below T1 (mkF m 157 #[.val (.ref a1), .val (.int p2), .val (.int p3), .val (.int (b0 &&& (255 : Int32))), .val (.int nn), .val (.int (128 : Int32)), .val (.int (191 : Int32)), .val (.int (3 : Int32)), .val (.int (b3 &&& (255 : Int32)))] [(.int (-1 : Int32))]) _
                              obtain ⟨fs, hr, hrun, hended, hW, hsame⟩ := X1.leave (v := some (.int (-1 : Int32))) (fun h => by rw [Bd.returns] at h; cases h)
                              refine Go.done (retI X1 hx Bd.returns (hb hby d1_157) hr) hrun hended ⟨_, _, rfl, ?_, ⟨_, rfl⟩, hW, hsame.mono (by decide) (by decide)⟩
                              show Q1 Z a1 p2 p3 cl b0 b1 b2 b3 h0 n0 _ T1.heap _
                              rw [e1q]
                              refine ⟨?_, N1, rfl⟩
                              rw [own_ce, h_nn, if_neg hc2, ← hj108.1, ← hj108.2, own_lp, if_pos hc3, if_pos hc4, if_neg hc5, if_neg hc6, if_pos hc7, if_pos hc8, if_neg hc9, if_neg hc10, if_pos hc11, if_pos hc12, if_neg hc13, if_pos hc14]
                            · refine Go.by (fun t k => XS.icmpYes X1.here hx rfl (pc0 := 153) (pc' := 158) rfl (hb hby d1_153) rfl (flt hc14).2.2.2 (by decide) (by decide) k) ?_
                              show Go p e below T1 (mkF m 158 #[.val (.ref a1), .val (.int p2), .val (.int p3), .val (.int (b0 &&& (255 : Int32))), .val (.int nn), .val (.int (128 : Int32)), .val (.int (191 : Int32)), .val (.int (3 : Int32)), .val (.int (b3 &&& (255 : Int32)))] []) _
                              refine Go.by (fun t k => XS.sipush X1.here hx rfl (hb hby d1_158) k) ?_
                              show Go p e below T1 (mkF m 161 #[.val (.ref a1), .val (.int p2), .val (.int p3), .val (.int (b0 &&& (255 : Int32))), .val (.int nn), .val (.int (128 : Int32)), .val (.int (191 : Int32)), .val (.int (3 : Int32)), .val (.int (b3 &&& (255 : Int32)))] [(.int (128 : Int32))]) _
                              refine Go.by (fun t k => XS.istore X1.here hx rfl (hb hby d1_161) rfl (l' := #[.val (.ref a1), .val (.int p2), .val (.int p3), .val (.int (b0 &&& (255 : Int32))), .val (.int nn), .val (.int (128 : Int32)), .val (.int (191 : Int32)), .val (.int (3 : Int32)), .val (.int (b3 &&& (255 : Int32)))]) rfl k) ?_
                              show Go p e below T1 (mkF m 163 #[.val (.ref a1), .val (.int p2), .val (.int p3), .val (.int (b0 &&& (255 : Int32))), .val (.int nn), .val (.int (128 : Int32)), .val (.int (191 : Int32)), .val (.int (3 : Int32)), .val (.int (b3 &&& (255 : Int32)))] []) _
                              refine Go.by (fun t k => XS.sipush X1.here hx rfl (hb hby d1_163) k) ?_
                              show Go p e below T1 (mkF m 166 #[.val (.ref a1), .val (.int p2), .val (.int p3), .val (.int (b0 &&& (255 : Int32))), .val (.int nn), .val (.int (128 : Int32)), .val (.int (191 : Int32)), .val (.int (3 : Int32)), .val (.int (b3 &&& (255 : Int32)))] [(.int (191 : Int32))]) _
                              refine Go.by (fun t k => XS.istore X1.here hx rfl (hb hby d1_166) rfl (l' := #[.val (.ref a1), .val (.int p2), .val (.int p3), .val (.int (b0 &&& (255 : Int32))), .val (.int nn), .val (.int (128 : Int32)), .val (.int (191 : Int32)), .val (.int (3 : Int32)), .val (.int (b3 &&& (255 : Int32)))]) rfl k) ?_
                              show Go p e below T1 (mkF m 168 #[.val (.ref a1), .val (.int p2), .val (.int p3), .val (.int (b0 &&& (255 : Int32))), .val (.int nn), .val (.int (128 : Int32)), .val (.int (191 : Int32)), .val (.int (3 : Int32)), .val (.int (b3 &&& (255 : Int32)))] []) _
                              refine Go.by (fun t k => XS.iinc X1.here hx rfl (hb hby d1_168) rfl (l' := #[.val (.ref a1), .val (.int p2), .val (.int p3), .val (.int (b0 &&& (255 : Int32))), .val (.int nn), .val (.int (128 : Int32)), .val (.int (191 : Int32)), .val (.int (4 : Int32)), .val (.int (b3 &&& (255 : Int32)))]) rfl k) ?_
                              show Go p e below T1 (mkF m 171 #[.val (.ref a1), .val (.int p2), .val (.int p3), .val (.int (b0 &&& (255 : Int32))), .val (.int nn), .val (.int (128 : Int32)), .val (.int (191 : Int32)), .val (.int (4 : Int32)), .val (.int (b3 &&& (255 : Int32)))] []) _
                              refine Go.by (fun t k => XS.goto X1.here hx rfl (pc0 := 171) (pc' := 111) rfl (hb hby d1_171) (by decide) (by decide) k) ?_
                              show Go p e below T1 (mkF m 111 #[.val (.ref a1), .val (.int p2), .val (.int p3), .val (.int (b0 &&& (255 : Int32))), .val (.int nn), .val (.int (128 : Int32)), .val (.int (191 : Int32)), .val (.int (4 : Int32)), .val (.int (b3 &&& (255 : Int32)))] []) _
                              refine Go.by (fun t k => XS.iload X1.here hx rfl (hb hby d1_111) rfl k) ?_
                              show Go p e below T1 (mkF m 113 #[.val (.ref a1), .val (.int p2), .val (.int p3), .val (.int (b0 &&& (255 : Int32))), .val (.int nn), .val (.int (128 : Int32)), .val (.int (191 : Int32)), .val (.int (4 : Int32)), .val (.int (b3 &&& (255 : Int32)))] [(.int (4 : Int32))]) _
                              refine Go.by (fun t k => XS.iload X1.here hx rfl (hb hby d1_113) rfl k) ?_
                              show Go p e below T1 (mkF m 115 #[.val (.ref a1), .val (.int p2), .val (.int p3), .val (.int (b0 &&& (255 : Int32))), .val (.int nn), .val (.int (128 : Int32)), .val (.int (191 : Int32)), .val (.int (4 : Int32)), .val (.int (b3 &&& (255 : Int32)))] [(.int nn), (.int (4 : Int32))]) _
                              refine Go.by (fun t k => XS.icmpYes X1.here hx rfl (pc0 := 115) (pc' := 174) rfl (hb hby d1_115) rfl (flt (show ¬ ((4 : Int32) < nn) from (by rw [← h_nn]; exact own_len4 _))).2.1 (by decide) (by decide) k) ?_
                              show Go p e below T1 (mkF m 174 #[.val (.ref a1), .val (.int p2), .val (.int p3), .val (.int (b0 &&& (255 : Int32))), .val (.int nn), .val (.int (128 : Int32)), .val (.int (191 : Int32)), .val (.int (4 : Int32)), .val (.int (b3 &&& (255 : Int32)))] []) _
                              refine Go.by (fun t k => XS.iloadN X1.here hx rfl (hb hby d1_174) rfl k) ?_
                              show Go p e below T1 (mkF m 175 #[.val (.ref a1), .val (.int p2), .val (.int p3), .val (.int (b0 &&& (255 : Int32))), .val (.int nn), .val (.int (128 : Int32)), .val (.int (191 : Int32)), .val (.int (4 : Int32)), .val (.int (b3 &&& (255 : Int32)))] [(.int p2)]) _
                              refine Go.by (fun t k => XS.iload X1.here hx rfl (hb hby d1_175) rfl k) ?_
                              show Go p e below T1 (mkF m 177 #[.val (.ref a1), .val (.int p2), .val (.int p3), .val (.int (b0 &&& (255 : Int32))), .val (.int nn), .val (.int (128 : Int32)), .val (.int (191 : Int32)), .val (.int (4 : Int32)), .val (.int (b3 &&& (255 : Int32)))] [(.int nn), (.int p2)]) _
                              refine Go.by (fun t k => XS.iadd X1.here hx rfl (hb hby d1_177) rfl k) ?_
                              show Go p e below T1 (mkF m 178 #[.val (.ref a1), .val (.int p2), .val (.int p3), .val (.int (b0 &&& (255 : Int32))), .val (.int nn), .val (.int (128 : Int32)), .val (.int (191 : Int32)), .val (.int (4 : Int32)), .val (.int (b3 &&& (255 : Int32)))] [(.int (p2 + nn))]) _
                              obtain ⟨fs, hr, hrun, hended, hW, hsame⟩ := X1.leave (v := some (.int (p2 + nn))) (fun h => by rw [Bd.returns] at h; cases h)
                              refine Go.done (retI X1 hx Bd.returns (hb hby d1_178) hr) hrun hended ⟨_, _, rfl, ?_, ⟨_, rfl⟩, hW, hsame.mono (by decide) (by decide)⟩
                              show Q1 Z a1 p2 p3 cl b0 b1 b2 b3 h0 n0 _ T1.heap _
                              rw [e1q]
                              refine ⟨?_, N1, rfl⟩
                              rw [own_ce, h_nn, if_neg hc2, ← hj108.1, ← hj108.2, own_lp, if_pos hc3, if_pos hc4, if_neg hc5, if_neg hc6, if_pos hc7, if_pos hc8, if_neg hc9, if_neg hc10, if_pos hc11, if_pos hc12, if_neg hc13, if_neg hc14]
                        · refine Go.by (fun t k => XS.icmpYes X1.here hx rfl (pc0 := 123) (pc' := 139) rfl (hb hby d1_123) rfl (flt hc12).2.1 (by decide) (by decide) k) ?_
                          show Go p e below T1 (mkF m 139 #[.val (.ref a1), .val (.int p2), .val (.int p3), .val (.int (b0 &&& (255 : Int32))), .val (.int nn), .val (.int (128 : Int32)), .val (.int (191 : Int32)), .val (.int (3 : Int32)), .val (.int (b2 &&& (255 : Int32)))] []) _
                          refine Go.by (fun t k => XS.iconst X1.here hx rfl (hb hby d1_139) k) ?_
                          show Go p e below T1 (mkF m 140 #[.val (.ref a1), .val (.int p2), .val (.int p3), .val (.int (b0 &&& (255 : Int32))), .val (.int nn), .val (.int (128 : Int32)), .val (.int (191 : Int32)), .val (.int (3 : Int32)), .val (.int (b2 &&& (255 : Int32)))] [(.int (-1 : Int32))]) _
                          refine Go.by (fun t k => XS.istore X1.here hx rfl (hb hby d1_140) rfl (l' := #[.val (.ref a1), .val (.int p2), .val (.int p3), .val (.int (b0 &&& (255 : Int32))), .val (.int nn), .val (.int (128 : Int32)), .val (.int (191 : Int32)), .val (.int (3 : Int32)), .val (.int (-1 : Int32))]) rfl k) ?_
                          show Go p e below T1 (mkF m 142 #[.val (.ref a1), .val (.int p2), .val (.int p3), .val (.int (b0 &&& (255 : Int32))), .val (.int nn), .val (.int (128 : Int32)), .val (.int (191 : Int32)), .val (.int (3 : Int32)), .val (.int (-1 : Int32))] []) _
                          refine Go.by (fun t k => XS.iload X1.here hx rfl (hb hby d1_142) rfl k) ?_
                          show Go p e below T1 (mkF m 144 #[.val (.ref a1), .val (.int p2), .val (.int p3), .val (.int (b0 &&& (255 : Int32))), .val (.int nn), .val (.int (128 : Int32)), .val (.int (191 : Int32)), .val (.int (3 : Int32)), .val (.int (-1 : Int32))] [(.int (-1 : Int32))]) _
                          refine Go.by (fun t k => XS.iload X1.here hx rfl (hb hby d1_144) rfl k) ?_
                          show Go p e below T1 (mkF m 146 #[.val (.ref a1), .val (.int p2), .val (.int p3), .val (.int (b0 &&& (255 : Int32))), .val (.int nn), .val (.int (128 : Int32)), .val (.int (191 : Int32)), .val (.int (3 : Int32)), .val (.int (-1 : Int32))] [(.int (128 : Int32)), (.int (-1 : Int32))]) _
                          refine Go.by (fun t k => XS.icmpYes X1.here hx rfl (pc0 := 146) (pc' := 156) rfl (hb hby d1_146) rfl (tlt (show (-1 : Int32) < (128 : Int32) from (by decide))).1 (by decide) (by decide) k) ?_
                          show Go p e below T1 (mkF m 156 #[.val (.ref a1), .val (.int p2), .val (.int p3), .val (.int (b0 &&& (255 : Int32))), .val (.int nn), .val (.int (128 : Int32)), .val (.int (191 : Int32)), .val (.int (3 : Int32)), .val (.int (-1 : Int32))] []) _
                          refine Go.by (fun t k => XS.iconst X1.here hx rfl (hb hby d1_156) k) ?_
                          show Go p e below T1 (mkF m 157 #[.val (.ref a1), .val (.int p2), .val (.int p3), .val (.int (b0 &&& (255 : Int32))), .val (.int nn), .val (.int (128 : Int32)), .val (.int (191 : Int32)), .val (.int (3 : Int32)), .val (.int (-1 : Int32))] [(.int (-1 : Int32))]) _
                          obtain ⟨fs, hr, hrun, hended, hW, hsame⟩ := X1.leave (v := some (.int (-1 : Int32))) (fun h => by rw [Bd.returns] at h; cases h)
                          refine Go.done (retI X1 hx Bd.returns (hb hby d1_157) hr) hrun hended ⟨_, _, rfl, ?_, ⟨_, rfl⟩, hW, hsame.mono (by decide) (by decide)⟩
                          show Q1 Z a1 p2 p3 cl b0 b1 b2 b3 h0 n0 _ T1.heap _
                          rw [e1q]
                          refine ⟨?_, N1, rfl⟩
                          rw [own_ce, h_nn, if_neg hc2, ← hj108.1, ← hj108.2, own_lp, if_pos hc3, if_pos hc4, if_neg hc5, if_neg hc6, if_pos hc7, if_pos hc8, if_neg hc9, if_neg hc10, if_pos hc11, if_neg hc12]
                      · refine Go.by (fun t k => XS.icmpYes X1.here hx rfl (pc0 := 115) (pc' := 174) rfl (hb hby d1_115) rfl (flt hc11).2.1 (by decide) (by decide) k) ?_
                        show Go p e below T1 (mkF m 174 #[.val (.ref a1), .val (.int p2), .val (.int p3), .val (.int (b0 &&& (255 : Int32))), .val (.int nn), .val (.int (128 : Int32)), .val (.int (191 : Int32)), .val (.int (3 : Int32)), .val (.int (b2 &&& (255 : Int32)))] []) _
                        refine Go.by (fun t k => XS.iloadN X1.here hx rfl (hb hby d1_174) rfl k) ?_
                        show Go p e below T1 (mkF m 175 #[.val (.ref a1), .val (.int p2), .val (.int p3), .val (.int (b0 &&& (255 : Int32))), .val (.int nn), .val (.int (128 : Int32)), .val (.int (191 : Int32)), .val (.int (3 : Int32)), .val (.int (b2 &&& (255 : Int32)))] [(.int p2)]) _
                        refine Go.by (fun t k => XS.iload X1.here hx rfl (hb hby d1_175) rfl k) ?_
                        show Go p e below T1 (mkF m 177 #[.val (.ref a1), .val (.int p2), .val (.int p3), .val (.int (b0 &&& (255 : Int32))), .val (.int nn), .val (.int (128 : Int32)), .val (.int (191 : Int32)), .val (.int (3 : Int32)), .val (.int (b2 &&& (255 : Int32)))] [(.int nn), (.int p2)]) _
                        refine Go.by (fun t k => XS.iadd X1.here hx rfl (hb hby d1_177) rfl k) ?_
                        show Go p e below T1 (mkF m 178 #[.val (.ref a1), .val (.int p2), .val (.int p3), .val (.int (b0 &&& (255 : Int32))), .val (.int nn), .val (.int (128 : Int32)), .val (.int (191 : Int32)), .val (.int (3 : Int32)), .val (.int (b2 &&& (255 : Int32)))] [(.int (p2 + nn))]) _
                        obtain ⟨fs, hr, hrun, hended, hW, hsame⟩ := X1.leave (v := some (.int (p2 + nn))) (fun h => by rw [Bd.returns] at h; cases h)
                        refine Go.done (retI X1 hx Bd.returns (hb hby d1_178) hr) hrun hended ⟨_, _, rfl, ?_, ⟨_, rfl⟩, hW, hsame.mono (by decide) (by decide)⟩
                        show Q1 Z a1 p2 p3 cl b0 b1 b2 b3 h0 n0 _ T1.heap _
                        rw [e1q]
                        refine ⟨?_, N1, rfl⟩
                        rw [own_ce, h_nn, if_neg hc2, ← hj108.1, ← hj108.2, own_lp, if_pos hc3, if_pos hc4, if_neg hc5, if_neg hc6, if_pos hc7, if_pos hc8, if_neg hc9, if_neg hc10, if_neg hc11]
                · refine Go.by (fun t k => XS.icmpYes X1.here hx rfl (pc0 := 123) (pc' := 139) rfl (hb hby d1_123) rfl (flt hc8).2.1 (by decide) (by decide) k) ?_
                  show Go p e below T1 (mkF m 139 #[.val (.ref a1), .val (.int p2), .val (.int p3), .val (.int (b0 &&& (255 : Int32))), .val (.int nn), .val (.int (128 : Int32)), .val (.int (191 : Int32)), .val (.int (2 : Int32)), .val (.int (b1 &&& (255 : Int32)))] []) _
                  refine Go.by (fun t k => XS.iconst X1.here hx rfl (hb hby d1_139) k) ?_
                  show Go p e below T1 (mkF m 140 #[.val (.ref a1), .val (.int p2), .val (.int p3), .val (.int (b0 &&& (255 : Int32))), .val (.int nn), .val (.int (128 : Int32)), .val (.int (191 : Int32)), .val (.int (2 : Int32)), .val (.int (b1 &&& (255 : Int32)))] [(.int (-1 : Int32))]) _
                  refine Go.by (fun t k => XS.istore X1.here hx rfl (hb hby d1_140) rfl (l' := #[.val (.ref a1), .val (.int p2), .val (.int p3), .val (.int (b0 &&& (255 : Int32))), .val (.int nn), .val (.int (128 : Int32)), .val (.int (191 : Int32)), .val (.int (2 : Int32)), .val (.int (-1 : Int32))]) rfl k) ?_
                  show Go p e below T1 (mkF m 142 #[.val (.ref a1), .val (.int p2), .val (.int p3), .val (.int (b0 &&& (255 : Int32))), .val (.int nn), .val (.int (128 : Int32)), .val (.int (191 : Int32)), .val (.int (2 : Int32)), .val (.int (-1 : Int32))] []) _
                  refine Go.by (fun t k => XS.iload X1.here hx rfl (hb hby d1_142) rfl k) ?_
                  show Go p e below T1 (mkF m 144 #[.val (.ref a1), .val (.int p2), .val (.int p3), .val (.int (b0 &&& (255 : Int32))), .val (.int nn), .val (.int (128 : Int32)), .val (.int (191 : Int32)), .val (.int (2 : Int32)), .val (.int (-1 : Int32))] [(.int (-1 : Int32))]) _
                  refine Go.by (fun t k => XS.iload X1.here hx rfl (hb hby d1_144) rfl k) ?_
                  show Go p e below T1 (mkF m 146 #[.val (.ref a1), .val (.int p2), .val (.int p3), .val (.int (b0 &&& (255 : Int32))), .val (.int nn), .val (.int (128 : Int32)), .val (.int (191 : Int32)), .val (.int (2 : Int32)), .val (.int (-1 : Int32))] [(.int (128 : Int32)), (.int (-1 : Int32))]) _
                  refine Go.by (fun t k => XS.icmpYes X1.here hx rfl (pc0 := 146) (pc' := 156) rfl (hb hby d1_146) rfl (tlt (show (-1 : Int32) < (128 : Int32) from (by decide))).1 (by decide) (by decide) k) ?_
                  show Go p e below T1 (mkF m 156 #[.val (.ref a1), .val (.int p2), .val (.int p3), .val (.int (b0 &&& (255 : Int32))), .val (.int nn), .val (.int (128 : Int32)), .val (.int (191 : Int32)), .val (.int (2 : Int32)), .val (.int (-1 : Int32))] []) _
                  refine Go.by (fun t k => XS.iconst X1.here hx rfl (hb hby d1_156) k) ?_
                  show Go p e below T1 (mkF m 157 #[.val (.ref a1), .val (.int p2), .val (.int p3), .val (.int (b0 &&& (255 : Int32))), .val (.int nn), .val (.int (128 : Int32)), .val (.int (191 : Int32)), .val (.int (2 : Int32)), .val (.int (-1 : Int32))] [(.int (-1 : Int32))]) _
                  obtain ⟨fs, hr, hrun, hended, hW, hsame⟩ := X1.leave (v := some (.int (-1 : Int32))) (fun h => by rw [Bd.returns] at h; cases h)
                  refine Go.done (retI X1 hx Bd.returns (hb hby d1_157) hr) hrun hended ⟨_, _, rfl, ?_, ⟨_, rfl⟩, hW, hsame.mono (by decide) (by decide)⟩
                  show Q1 Z a1 p2 p3 cl b0 b1 b2 b3 h0 n0 _ T1.heap _
                  rw [e1q]
                  refine ⟨?_, N1, rfl⟩
                  rw [own_ce, h_nn, if_neg hc2, ← hj108.1, ← hj108.2, own_lp, if_pos hc3, if_pos hc4, if_neg hc5, if_neg hc6, if_pos hc7, if_neg hc8]
              · refine Go.by (fun t k => XS.icmpYes X1.here hx rfl (pc0 := 115) (pc' := 174) rfl (hb hby d1_115) rfl (flt hc7).2.1 (by decide) (by decide) k) ?_
                show Go p e below T1 (mkF m 174 #[.val (.ref a1), .val (.int p2), .val (.int p3), .val (.int (b0 &&& (255 : Int32))), .val (.int nn), .val (.int (128 : Int32)), .val (.int (191 : Int32)), .val (.int (2 : Int32)), .val (.int (b1 &&& (255 : Int32)))] []) _
                refine Go.by (fun t k => XS.iloadN X1.here hx rfl (hb hby d1_174) rfl k) ?_
                show Go p e below T1 (mkF m 175 #[.val (.ref a1), .val (.int p2), .val (.int p3), .val (.int (b0 &&& (255 : Int32))), .val (.int nn), .val (.int (128 : Int32)), .val (.int (191 : Int32)), .val (.int (2 : Int32)), .val (.int (b1 &&& (255 : Int32)))] [(.int p2)]) _
                refine Go.by (fun t k => XS.iload X1.here hx rfl (hb hby d1_175) rfl k) ?_
                show Go p e below T1 (mkF m 177 #[.val (.ref a1), .val (.int p2), .val (.int p3), .val (.int (b0 &&& (255 : Int32))), .val (.int nn), .val (.int (128 : Int32)), .val (.int (191 : Int32)), .val (.int (2 : Int32)), .val (.int (b1 &&& (255 : Int32)))] [(.int nn), (.int p2)]) _
                refine Go.by (fun t k => XS.iadd X1.here hx rfl (hb hby d1_177) rfl k) ?_
                show Go p e below T1 (mkF m 178 #[.val (.ref a1), .val (.int p2), .val (.int p3), .val (.int (b0 &&& (255 : Int32))), .val (.int nn), .val (.int (128 : Int32)), .val (.int (191 : Int32)), .val (.int (2 : Int32)), .val (.int (b1 &&& (255 : Int32)))] [(.int (p2 + nn))]) _
                obtain ⟨fs, hr, hrun, hended, hW, hsame⟩ := X1.leave (v := some (.int (p2 + nn))) (fun h => by rw [Bd.returns] at h; cases h)
                refine Go.done (retI X1 hx Bd.returns (hb hby d1_178) hr) hrun hended ⟨_, _, rfl, ?_, ⟨_, rfl⟩, hW, hsame.mono (by decide) (by decide)⟩
                show Q1 Z a1 p2 p3 cl b0 b1 b2 b3 h0 n0 _ T1.heap _
                rw [e1q]
                refine ⟨?_, N1, rfl⟩
                rw [own_ce, h_nn, if_neg hc2, ← hj108.1, ← hj108.2, own_lp, if_pos hc3, if_pos hc4, if_neg hc5, if_neg hc6, if_neg hc7]
        · refine Go.by (fun t k => XS.icmpYes X1.here hx rfl (pc0 := 123) (pc' := 139) rfl (hb hby d1_123) rfl (flt hc4).2.1 (by decide) (by decide) k) ?_
          show Go p e below T1 (mkF m 139 #[.val (.ref a1), .val (.int p2), .val (.int p3), .val (.int (b0 &&& (255 : Int32))), .val (.int nn), .val (.int j108_0), .val (.int j108_1), .val (.int (1 : Int32)), .unset] []) _
          refine Go.by (fun t k => XS.iconst X1.here hx rfl (hb hby d1_139) k) ?_
          show Go p e below T1 (mkF m 140 #[.val (.ref a1), .val (.int p2), .val (.int p3), .val (.int (b0 &&& (255 : Int32))), .val (.int nn), .val (.int j108_0), .val (.int j108_1), .val (.int (1 : Int32)), .unset] [(.int (-1 : Int32))]) _
          refine Go.by (fun t k => XS.istore X1.here hx rfl (hb hby d1_140) rfl (l' := #[.val (.ref a1), .val (.int p2), .val (.int p3), .val (.int (b0 &&& (255 : Int32))), .val (.int nn), .val (.int j108_0), .val (.int j108_1), .val (.int (1 : Int32)), .val (.int (-1 : Int32))]) rfl k) ?_
          show Go p e below T1 (mkF m 142 #[.val (.ref a1), .val (.int p2), .val (.int p3), .val (.int (b0 &&& (255 : Int32))), .val (.int nn), .val (.int j108_0), .val (.int j108_1), .val (.int (1 : Int32)), .val (.int (-1 : Int32))] []) _
          refine Go.by (fun t k => XS.iload X1.here hx rfl (hb hby d1_142) rfl k) ?_
          show Go p e below T1 (mkF m 144 #[.val (.ref a1), .val (.int p2), .val (.int p3), .val (.int (b0 &&& (255 : Int32))), .val (.int nn), .val (.int j108_0), .val (.int j108_1), .val (.int (1 : Int32)), .val (.int (-1 : Int32))] [(.int (-1 : Int32))]) _
          refine Go.by (fun t k => XS.iload X1.here hx rfl (hb hby d1_144) rfl k) ?_
          show Go p e below T1 (mkF m 146 #[.val (.ref a1), .val (.int p2), .val (.int p3), .val (.int (b0 &&& (255 : Int32))), .val (.int nn), .val (.int j108_0), .val (.int j108_1), .val (.int (1 : Int32)), .val (.int (-1 : Int32))] [(.int j108_0), (.int (-1 : Int32))]) _
          by_cases hc15 : (-1 : Int32) < j108_0
          · refine Go.by (fun t k => XS.icmpYes X1.here hx rfl (pc0 := 146) (pc' := 156) rfl (hb hby d1_146) rfl (tlt hc15).1 (by decide) (by decide) k) ?_
            show Go p e below T1 (mkF m 156 #[.val (.ref a1), .val (.int p2), .val (.int p3), .val (.int (b0 &&& (255 : Int32))), .val (.int nn), .val (.int j108_0), .val (.int j108_1), .val (.int (1 : Int32)), .val (.int (-1 : Int32))] []) _
            refine Go.by (fun t k => XS.iconst X1.here hx rfl (hb hby d1_156) k) ?_
            show Go p e below T1 (mkF m 157 #[.val (.ref a1), .val (.int p2), .val (.int p3), .val (.int (b0 &&& (255 : Int32))), .val (.int nn), .val (.int j108_0), .val (.int j108_1), .val (.int (1 : Int32)), .val (.int (-1 : Int32))] [(.int (-1 : Int32))]) _
            obtain ⟨fs, hr, hrun, hended, hW, hsame⟩ := X1.leave (v := some (.int (-1 : Int32))) (fun h => by rw [Bd.returns] at h; cases h)
            refine Go.done (retI X1 hx Bd.returns (hb hby d1_157) hr) hrun hended ⟨_, _, rfl, ?_, ⟨_, rfl⟩, hW, hsame.mono (by decide) (by decide)⟩
            show Q1 Z a1 p2 p3 cl b0 b1 b2 b3 h0 n0 _ T1.heap _
            rw [e1q]
            refine ⟨?_, N1, rfl⟩
            rw [own_ce, h_nn, if_neg hc2, ← hj108.1, ← hj108.2, own_lp, if_pos hc3, if_neg hc4, if_pos hc15]
          · refine Go.by (fun t k => XS.icmpNo X1.here hx rfl (hb hby d1_146) rfl (flt hc15).1 k) ?_
            show Go p e below T1 (mkF m 149 #[.val (.ref a1), .val (.int p2), .val (.int p3), .val (.int (b0 &&& (255 : Int32))), .val (.int nn), .val (.int j108_0), .val (.int j108_1), .val (.int (1 : Int32)), .val (.int (-1 : Int32))] []) _
            refine Go.by (fun t k => XS.iload X1.here hx rfl (hb hby d1_149) rfl k) ?_
            show Go p e below T1 (mkF m 151 #[.val (.ref a1), .val (.int p2), .val (.int p3), .val (.int (b0 &&& (255 : Int32))), .val (.int nn), .val (.int j108_0), .val (.int j108_1), .val (.int (1 : Int32)), .val (.int (-1 : Int32))] [(.int (-1 : Int32))]) _
            refine Go.by (fun t k => XS.iload X1.here hx rfl (hb hby d1_151) rfl k) ?_
            show Go p e below T1 (mkF m 153 #[.val (.ref a1), .val (.int p2), .val (.int p3), .val (.int (b0 &&& (255 : Int32))), .val (.int nn), .val (.int j108_0), .val (.int j108_1), .val (.int (1 : Int32)), .val (.int (-1 : Int32))] [(.int j108_1), (.int (-1 : Int32))]) _
            by_cases hc16 : j108_1 < (-1 : Int32)
            · refine Go.by (fun t k => XS.icmpNo X1.here hx rfl (hb hby d1_153) rfl (tlt hc16).2.2.2 k) ?_
              show Go p e below T1 (mkF m 156 #[.val (.ref a1), .val (.int p2), .val (.int p3), .val (.int (b0 &&& (255 : Int32))), .val (.int nn), .val (.int j108_0), .val (.int j108_1), .val (.int (1 : Int32)), .val (.int (-1 : Int32))] []) _
              refine Go.by (fun t k => XS.iconst X1.here hx rfl (hb hby d1_156) k) ?_
              show Go p e below T1 (mkF m 157 #[.val (.ref a1), .val (.int p2), .val (.int p3), .val (.int (b0 &&& (255 : Int32))), .val (.int nn), .val (.int j108_0), .val (.int j108_1), .val (.int (1 : Int32)), .val (.int (-1 : Int32))] [(.int (-1 : Int32))]) _
              obtain ⟨fs, hr, hrun, hended, hW, hsame⟩ := X1.leave (v := some (.int (-1 : Int32))) (fun h => by rw [Bd.returns] at h; cases h)
              refine Go.done (retI X1 hx Bd.returns (hb hby d1_157) hr) hrun hended ⟨_, _, rfl, ?_, ⟨_, rfl⟩, hW, hsame.mono (by decide) (by decide)⟩
              show Q1 Z a1 p2 p3 cl b0 b1 b2 b3 h0 n0 _ T1.heap _
              rw [e1q]
              refine ⟨?_, N1, rfl⟩
              rw [own_ce, h_nn, if_neg hc2, ← hj108.1, ← hj108.2, own_lp, if_pos hc3, if_neg hc4, if_neg hc15, if_pos hc16]
            · refine Go.by (fun t k => XS.icmpYes X1.here hx rfl (pc0 := 153) (pc' := 158) rfl (hb hby d1_153) rfl (flt hc16).2.2.2 (by decide) (by decide) k) ?_
              show Go p e below T1 (mkF m 158 #[.val (.ref a1), .val (.int p2), .val (.int p3), .val (.int (b0 &&& (255 : Int32))), .val (.int nn), .val (.int j108_0), .val (.int j108_1), .val (.int (1 : Int32)), .val (.int (-1 : Int32))] []) _
              refine Go.by (fun t k => XS.sipush X1.here hx rfl (hb hby d1_158) k) ?_
              show Go p e below T1 (mkF m 161 #[.val (.ref a1), .val (.int p2), .val (.int p3), .val (.int (b0 &&& (255 : Int32))), .val (.int nn), .val (.int j108_0), .val (.int j108_1), .val (.int (1 : Int32)), .val (.int (-1 : Int32))] [(.int (128 : Int32))]) _
              refine Go.by (fun t k => XS.istore X1.here hx rfl (hb hby d1_161) rfl (l' := #[.val (.ref a1), .val (.int p2), .val (.int p3), .val (.int (b0 &&& (255 : Int32))), .val (.int nn), .val (.int (128 : Int32)), .val (.int j108_1), .val (.int (1 : Int32)), .val (.int (-1 : Int32))]) rfl k) ?_
              show Go p e below T1 (mkF m 163 #[.val (.ref a1), .val (.int p2), .val (.int p3), .val (.int (b0 &&& (255 : Int32))), .val (.int nn), .val (.int (128 : Int32)), .val (.int j108_1), .val (.int (1 : Int32)), .val (.int (-1 : Int32))] []) _
              refine Go.by (fun t k => XS.sipush X1.here hx rfl (hb hby d1_163) k) ?_
              show Go p e below T1 (mkF m 166 #[.val (.ref a1), .val (.int p2), .val (.int p3), .val (.int (b0 &&& (255 : Int32))), .val (.int nn), .val (.int (128 : Int32)), .val (.int j108_1), .val (.int (1 : Int32)), .val (.int (-1 : Int32))] [(.int (191 : Int32))]) _
              refine Go.by (fun t k => XS.istore X1.here hx rfl (hb hby d1_166) rfl (l' := #[.val (.ref a1), .val (.int p2), .val (.int p3), .val (.int (b0 &&& (255 : Int32))), .val (.int nn), .val (.int (128 : Int32)), .val (.int (191 : Int32)), .val (.int (1 : Int32)), .val (.int (-1 : Int32))]) rfl k) ?_
              show Go p e below T1 (mkF m 168 #[.val (.ref a1), .val (.int p2), .val (.int p3), .val (.int (b0 &&& (255 : Int32))), .val (.int nn), .val (.int (128 : Int32)), .val (.int (191 : Int32)), .val (.int (1 : Int32)), .val (.int (-1 : Int32))] []) _
              refine Go.by (fun t k => XS.iinc X1.here hx rfl (hb hby d1_168) rfl (l' := #[.val (.ref a1), .val (.int p2), .val (.int p3), .val (.int (b0 &&& (255 : Int32))), .val (.int nn), .val (.int (128 : Int32)), .val (.int (191 : Int32)), .val (.int (2 : Int32)), .val (.int (-1 : Int32))]) rfl k) ?_
              show Go p e below T1 (mkF m 171 #[.val (.ref a1), .val (.int p2), .val (.int p3), .val (.int (b0 &&& (255 : Int32))), .val (.int nn), .val (.int (128 : Int32)), .val (.int (191 : Int32)), .val (.int (2 : Int32)), .val (.int (-1 : Int32))] []) _
              refine Go.by (fun t k => XS.goto X1.here hx rfl (pc0 := 171) (pc' := 111) rfl (hb hby d1_171) (by decide) (by decide) k) ?_
              show Go p e below T1 (mkF m 111 #[.val (.ref a1), .val (.int p2), .val (.int p3), .val (.int (b0 &&& (255 : Int32))), .val (.int nn), .val (.int (128 : Int32)), .val (.int (191 : Int32)), .val (.int (2 : Int32)), .val (.int (-1 : Int32))] []) _
              refine Go.by (fun t k => XS.iload X1.here hx rfl (hb hby d1_111) rfl k) ?_
              show Go p e below T1 (mkF m 113 #[.val (.ref a1), .val (.int p2), .val (.int p3), .val (.int (b0 &&& (255 : Int32))), .val (.int nn), .val (.int (128 : Int32)), .val (.int (191 : Int32)), .val (.int (2 : Int32)), .val (.int (-1 : Int32))] [(.int (2 : Int32))]) _
              refine Go.by (fun t k => XS.iload X1.here hx rfl (hb hby d1_113) rfl k) ?_
              show Go p e below T1 (mkF m 115 #[.val (.ref a1), .val (.int p2), .val (.int p3), .val (.int (b0 &&& (255 : Int32))), .val (.int nn), .val (.int (128 : Int32)), .val (.int (191 : Int32)), .val (.int (2 : Int32)), .val (.int (-1 : Int32))] [(.int nn), (.int (2 : Int32))]) _
              by_cases hc17 : (2 : Int32) < nn
              · refine Go.by (fun t k => XS.icmpNo X1.here hx rfl (hb hby d1_115) rfl (tlt hc17).2.1 k) ?_
                show Go p e below T1 (mkF m 118 #[.val (.ref a1), .val (.int p2), .val (.int p3), .val (.int (b0 &&& (255 : Int32))), .val (.int nn), .val (.int (128 : Int32)), .val (.int (191 : Int32)), .val (.int (2 : Int32)), .val (.int (-1 : Int32))] []) _
                refine Go.by (fun t k => XS.iloadN X1.here hx rfl (hb hby d1_118) rfl k) ?_
                show Go p e below T1 (mkF m 119 #[.val (.ref a1), .val (.int p2), .val (.int p3), .val (.int (b0 &&& (255 : Int32))), .val (.int nn), .val (.int (128 : Int32)), .val (.int (191 : Int32)), .val (.int (2 : Int32)), .val (.int (-1 : Int32))] [(.int p2)]) _
                refine Go.by (fun t k => XS.iload X1.here hx rfl (hb hby d1_119) rfl k) ?_
                show Go p e below T1 (mkF m 121 #[.val (.ref a1), .val (.int p2), .val (.int p3), .val (.int (b0 &&& (255 : Int32))), .val (.int nn), .val (.int (128 : Int32)), .val (.int (191 : Int32)), .val (.int (2 : Int32)), .val (.int (-1 : Int32))] [(.int (2 : Int32)), (.int p2)]) _
                refine Go.by (fun t k => XS.iadd X1.here hx rfl (hb hby d1_121) rfl k) ?_
                show Go p e below T1 (mkF m 122 #[.val (.ref a1), .val (.int p2), .val (.int p3), .val (.int (b0 &&& (255 : Int32))), .val (.int nn), .val (.int (128 : Int32)), .val (.int (191 : Int32)), .val (.int (2 : Int32)), .val (.int (-1 : Int32))] [(.int (p2 + (2 : Int32)))]) _
                refine Go.by (fun t k => XS.iloadN X1.here hx rfl (hb hby d1_122) rfl k) ?_
                show Go p e below T1 (mkF m 123 #[.val (.ref a1), .val (.int p2), .val (.int p3), .val (.int (b0 &&& (255 : Int32))), .val (.int nn), .val (.int (128 : Int32)), .val (.int (191 : Int32)), .val (.int (2 : Int32)), .val (.int (-1 : Int32))] [(.int p3), (.int (p2 + (2 : Int32)))]) _
                by_cases hc18 : (p2 + (2 : Int32)) < p3
                · refine Go.by (fun t k => XS.icmpNo X1.here hx rfl (hb hby d1_123) rfl (tlt hc18).2.1 k) ?_
                  show Go p e below T1 (mkF m 126 #[.val (.ref a1), .val (.int p2), .val (.int p3), .val (.int (b0 &&& (255 : Int32))), .val (.int nn), .val (.int (128 : Int32)), .val (.int (191 : Int32)), .val (.int (2 : Int32)), .val (.int (-1 : Int32))] []) _
                  refine Go.by (fun t k => XS.aloadN X1.here hx rfl (hb hby d1_126) rfl rfl k) ?_
                  show Go p e below T1 (mkF m 127 #[.val (.ref a1), .val (.int p2), .val (.int p3), .val (.int (b0 &&& (255 : Int32))), .val (.int nn), .val (.int (128 : Int32)), .val (.int (191 : Int32)), .val (.int (2 : Int32)), .val (.int (-1 : Int32))] [(.ref a1)]) _
                  refine Go.by (fun t k => XS.iloadN X1.here hx rfl (hb hby d1_127) rfl k) ?_
                  show Go p e below T1 (mkF m 128 #[.val (.ref a1), .val (.int p2), .val (.int p3), .val (.int (b0 &&& (255 : Int32))), .val (.int nn), .val (.int (128 : Int32)), .val (.int (191 : Int32)), .val (.int (2 : Int32)), .val (.int (-1 : Int32))] [(.int p2), (.ref a1)]) _
                  refine Go.by (fun t k => XS.iload X1.here hx rfl (hb hby d1_128) rfl k) ?_
                  show Go p e below T1 (mkF m 130 #[.val (.ref a1), .val (.int p2), .val (.int p3), .val (.int (b0 &&& (255 : Int32))), .val (.int nn), .val (.int (128 : Int32)), .val (.int (191 : Int32)), .val (.int (2 : Int32)), .val (.int (-1 : Int32))] [(.int (2 : Int32)), (.int p2), (.ref a1)]) _
                  refine Go.by (fun t k => XS.iadd X1.here hx rfl (hb hby d1_130) rfl k) ?_
                  show Go p e below T1 (mkF m 131 #[.val (.ref a1), .val (.int p2), .val (.int p3), .val (.int (b0 &&& (255 : Int32))), .val (.int nn), .val (.int (128 : Int32)), .val (.int (191 : Int32)), .val (.int (2 : Int32)), .val (.int (-1 : Int32))] [(.int (p2 + (2 : Int32))), (.ref a1)]) _
                  refine Go.by (fun t k => X1.baloadBytes hx (j := (p2 + (2 : Int32))) (v := (.int b2)) (by rw [e1q]; exact Ar.1) (State.isArrayOf_alike hZ.alike Ar.2.1) Ar.2.2 hin2 hat2 (g := (mkF m 131 #[.val (.ref a1), .val (.int p2), .val (.int p3), .val (.int (b0 &&& (255 : Int32))), .val (.int nn), .val (.int (128 : Int32)), .val (.int (191 : Int32)), .val (.int (2 : Int32)), .val (.int (-1 : Int32))] [(.int (p2 + (2 : Int32))), (.ref a1)])) rfl rfl (hb hby d1_131) t k) ?_
                  show Go p e below T1 (mkF m 132 #[.val (.ref a1), .val (.int p2), .val (.int p3), .val (.int (b0 &&& (255 : Int32))), .val (.int nn), .val (.int (128 : Int32)), .val (.int (191 : Int32)), .val (.int (2 : Int32)), .val (.int (-1 : Int32))] [(.int b2)]) _
                  refine Go.by (fun t k => XS.sipush X1.here hx rfl (hb hby d1_132) k) ?_
                  show Go p e below T1 (mkF m 135 #[.val (.ref a1), .val (.int p2), .val (.int p3), .val (.int (b0 &&& (255 : Int32))), .val (.int nn), .val (.int (128 : Int32)), .val (.int (191 : Int32)), .val (.int (2 : Int32)), .val (.int (-1 : Int32))] [(.int (255 : Int32)), (.int b2)]) _
                  refine Go.by (fun t k => XS.iand X1.here hx rfl (hb hby d1_135) rfl k) ?_
                  show Go p e below T1 (mkF m 136 #[.val (.ref a1), .val (.int p2), .val (.int p3), .val (.int (b0 &&& (255 : Int32))), .val (.int nn), .val (.int (128 : Int32)), .val (.int (191 : Int32)), .val (.int (2 : Int32)), .val (.int (-1 : Int32))] [(.int (b2 &&& (255 : Int32)))]) _
                  refine Go.by (fun t k => XS.goto X1.here hx rfl (pc0 := 136) (pc' := 140) rfl (hb hby d1_136) (by decide) (by decide) k) ?_
                  show Go p e below T1 (mkF m 140 #[.val (.ref a1), .val (.int p2), .val (.int p3), .val (.int (b0 &&& (255 : Int32))), .val (.int nn), .val (.int (128 : Int32)), .val (.int (191 : Int32)), .val (.int (2 : Int32)), .val (.int (-1 : Int32))] [(.int (b2 &&& (255 : Int32)))]) _
                  refine Go.by (fun t k => XS.istore X1.here hx rfl (hb hby d1_140) rfl (l' := #[.val (.ref a1), .val (.int p2), .val (.int p3), .val (.int (b0 &&& (255 : Int32))), .val (.int nn), .val (.int (128 : Int32)), .val (.int (191 : Int32)), .val (.int (2 : Int32)), .val (.int (b2 &&& (255 : Int32)))]) rfl k) ?_
                  show Go p e below T1 (mkF m 142 #[.val (.ref a1), .val (.int p2), .val (.int p3), .val (.int (b0 &&& (255 : Int32))), .val (.int nn), .val (.int (128 : Int32)), .val (.int (191 : Int32)), .val (.int (2 : Int32)), .val (.int (b2 &&& (255 : Int32)))] []) _
                  refine Go.by (fun t k => XS.iload X1.here hx rfl (hb hby d1_142) rfl k) ?_
                  show Go p e below T1 (mkF m 144 #[.val (.ref a1), .val (.int p2), .val (.int p3), .val (.int (b0 &&& (255 : Int32))), .val (.int nn), .val (.int (128 : Int32)), .val (.int (191 : Int32)), .val (.int (2 : Int32)), .val (.int (b2 &&& (255 : Int32)))] [(.int (b2 &&& (255 : Int32)))]) _
                  refine Go.by (fun t k => XS.iload X1.here hx rfl (hb hby d1_144) rfl k) ?_
                  show Go p e below T1 (mkF m 146 #[.val (.ref a1), .val (.int p2), .val (.int p3), .val (.int (b0 &&& (255 : Int32))), .val (.int nn), .val (.int (128 : Int32)), .val (.int (191 : Int32)), .val (.int (2 : Int32)), .val (.int (b2 &&& (255 : Int32)))] [(.int (128 : Int32)), (.int (b2 &&& (255 : Int32)))]) _
                  by_cases hc19 : (b2 &&& (255 : Int32)) < (128 : Int32)
                  · refine Go.by (fun t k => XS.icmpYes X1.here hx rfl (pc0 := 146) (pc' := 156) rfl (hb hby d1_146) rfl (tlt hc19).1 (by decide) (by decide) k) ?_
                    show Go p e below T1 (mkF m 156 #[.val (.ref a1), .val (.int p2), .val (.int p3), .val (.int (b0 &&& (255 : Int32))), .val (.int nn), .val (.int (128 : Int32)), .val (.int (191 : Int32)), .val (.int (2 : Int32)), .val (.int (b2 &&& (255 : Int32)))] []) _
                    refine Go.by (fun t k => XS.iconst X1.here hx rfl (hb hby d1_156) k) ?_
                    show Go p e below T1 (mkF m 157 #[.val (.ref a1), .val (.int p2), .val (.int p3), .val (.int (b0 &&& (255 : Int32))), .val (.int nn), .val (.int (128 : Int32)), .val (.int (191 : Int32)), .val (.int (2 : Int32)), .val (.int (b2 &&& (255 : Int32)))] [(.int (-1 : Int32))]) _
                    obtain ⟨fs, hr, hrun, hended, hW, hsame⟩ := X1.leave (v := some (.int (-1 : Int32))) (fun h => by rw [Bd.returns] at h; cases h)
                    refine Go.done (retI X1 hx Bd.returns (hb hby d1_157) hr) hrun hended ⟨_, _, rfl, ?_, ⟨_, rfl⟩, hW, hsame.mono (by decide) (by decide)⟩
                    show Q1 Z a1 p2 p3 cl b0 b1 b2 b3 h0 n0 _ T1.heap _
                    rw [e1q]
                    refine ⟨?_, N1, rfl⟩
                    rw [own_ce, h_nn, if_neg hc2, ← hj108.1, ← hj108.2, own_lp, if_pos hc3, if_neg hc4, if_neg hc15, if_neg hc16, if_pos hc17, if_pos hc18, if_pos hc19]
                  · refine Go.by (fun t k => XS.icmpNo X1.here hx rfl (hb hby d1_146) rfl (flt hc19).1 k) ?_
                    show Go p e below T1 (mkF m 149 #[.val (.ref a1), .val (.int p2), .val (.int p3), .val (.int (b0 &&& (255 : Int32))), .val (.int nn), .val (.int (128 : Int32)), .val (.int (191 : Int32)), .val (.int (2 : Int32)), .val (.int (b2 &&& (255 : Int32)))] []) _
                    refine Go.by (fun t k => XS.iload X1.here hx rfl (hb hby d1_149) rfl k) ?_
                    show Go p e below T1 (mkF m 151 #[.val (.ref a1), .val (.int p2), .val (.int p3), .val (.int (b0 &&& (255 : Int32))), .val (.int nn), .val (.int (128 : Int32)), .val (.int (191 : Int32)), .val (.int (2 : Int32)), .val (.int (b2 &&& (255 : Int32)))] [(.int (b2 &&& (255 : Int32)))]) _
                    refine Go.by (fun t k => XS.iload X1.here hx rfl (hb hby d1_151) rfl k) ?_
                    show Go p e below T1 (mkF m 153 #[.val (.ref a1), .val (.int p2), .val (.int p3), .val (.int (b0 &&& (255 : Int32))), .val (.int nn), .val (.int (128 : Int32)), .val (.int (191 : Int32)), .val (.int (2 : Int32)), .val (.int (b2 &&& (255 : Int32)))] [(.int (191 : Int32)), (.int (b2 &&& (255 : Int32)))]) _
                    by_cases hc20 : (191 : Int32) < (b2 &&& (255 : Int32))
                    · refine Go.by (fun t k => XS.icmpNo X1.here hx rfl (hb hby d1_153) rfl (tlt hc20).2.2.2 k) ?_
                      show Go p e below T1 (mkF m 156 #[.val (.ref a1), .val (.int p2), .val (.int p3), .val (.int (b0 &&& (255 : Int32))), .val (.int nn), .val (.int (128 : Int32)), .val (.int (191 : Int32)), .val (.int (2 : Int32)), .val (.int (b2 &&& (255 : Int32)))] []) _
                      refine Go.by (fun t k => XS.iconst X1.here hx rfl (hb hby d1_156) k) ?_
                      show Go p e below T1 (mkF m 157 #[.val (.ref a1), .val (.int p2), .val (.int p3), .val (.int (b0 &&& (255 : Int32))), .val (.int nn), .val (.int (128 : Int32)), .val (.int (191 : Int32)), .val (.int (2 : Int32)), .val (.int (b2 &&& (255 : Int32)))] [(.int (-1 : Int32))]) _
                      obtain ⟨fs, hr, hrun, hended, hW, hsame⟩ := X1.leave (v := some (.int (-1 : Int32))) (fun h => by rw [Bd.returns] at h; cases h)
                      refine Go.done (retI X1 hx Bd.returns (hb hby d1_157) hr) hrun hended ⟨_, _, rfl, ?_, ⟨_, rfl⟩, hW, hsame.mono (by decide) (by decide)⟩
                      show Q1 Z a1 p2 p3 cl b0 b1 b2 b3 h0 n0 _ T1.heap _
                      rw [e1q]
                      refine ⟨?_, N1, rfl⟩
                      rw [own_ce, h_nn, if_neg hc2, ← hj108.1, ← hj108.2, own_lp, if_pos hc3, if_neg hc4, if_neg hc15, if_neg hc16, if_pos hc17, if_pos hc18, if_neg hc19, if_pos hc20]
                    · refine Go.by (fun t k => XS.icmpYes X1.here hx rfl (pc0 := 153) (pc' := 158) rfl (hb hby d1_153) rfl (flt hc20).2.2.2 (by decide) (by decide) k) ?_
                      show Go p e below T1 (mkF m 158 #[.val (.ref a1), .val (.int p2), .val (.int p3), .val (.int (b0 &&& (255 : Int32))), .val (.int nn), .val (.int (128 : Int32)), .val (.int (191 : Int32)), .val (.int (2 : Int32)), .val (.int (b2 &&& (255 : Int32)))] []) _
                      refine Go.by (fun t k => XS.sipush X1.here hx rfl (hb hby d1_158) k) ?_
                      show Go p e below T1 (mkF m 161 #[.val (.ref a1), .val (.int p2), .val (.int p3), .val (.int (b0 &&& (255 : Int32))), .val (.int nn), .val (.int (128 : Int32)), .val (.int (191 : Int32)), .val (.int (2 : Int32)), .val (.int (b2 &&& (255 : Int32)))] [(.int (128 : Int32))]) _
                      refine Go.by (fun t k => XS.istore X1.here hx rfl (hb hby d1_161) rfl (l' := #[.val (.ref a1), .val (.int p2), .val (.int p3), .val (.int (b0 &&& (255 : Int32))), .val (.int nn), .val (.int (128 : Int32)), .val (.int (191 : Int32)), .val (.int (2 : Int32)), .val (.int (b2 &&& (255 : Int32)))]) rfl k) ?_
                      show Go p e below T1 (mkF m 163 #[.val (.ref a1), .val (.int p2), .val (.int p3), .val (.int (b0 &&& (255 : Int32))), .val (.int nn), .val (.int (128 : Int32)), .val (.int (191 : Int32)), .val (.int (2 : Int32)), .val (.int (b2 &&& (255 : Int32)))] []) _
                      refine Go.by (fun t k => XS.sipush X1.here hx rfl (hb hby d1_163) k) ?_
                      show Go p e below T1 (mkF m 166 #[.val (.ref a1), .val (.int p2), .val (.int p3), .val (.int (b0 &&& (255 : Int32))), .val (.int nn), .val (.int (128 : Int32)), .val (.int (191 : Int32)), .val (.int (2 : Int32)), .val (.int (b2 &&& (255 : Int32)))] [(.int (191 : Int32))]) _
                      refine Go.by (fun t k => XS.istore X1.here hx rfl (hb hby d1_166) rfl (l' := #[.val (.ref a1), .val (.int p2), .val (.int p3), .val (.int (b0 &&& (255 : Int32))), .val (.int nn), .val (.int (128 : Int32)), .val (.int (191 : Int32)), .val (.int (2 : Int32)), .val (.int (b2 &&& (255 : Int32)))]) rfl k) ?_
                      show Go p e below T1 (mkF m 168 #[.val (.ref a1), .val (.int p2), .val (.int p3), .val (.int (b0 &&& (255 : Int32))), .val (.int nn), .val (.int (128 : Int32)), .val (.int (191 : Int32)), .val (.int (2 : Int32)), .val (.int (b2 &&& (255 : Int32)))] []) _
                      refine Go.by (fun t k => XS.iinc X1.here hx rfl (hb hby d1_168) rfl (l' := #[.val (.ref a1), .val (.int p2), .val (.int p3), .val (.int (b0 &&& (255 : Int32))), .val (.int nn), .val (.int (128 : Int32)), .val (.int (191 : Int32)), .val (.int (3 : Int32)), .val (.int (b2 &&& (255 : Int32)))]) rfl k) ?_
                      show Go p e below T1 (mkF m 171 #[.val (.ref a1), .val (.int p2), .val (.int p3), .val (.int (b0 &&& (255 : Int32))), .val (.int nn), .val (.int (128 : Int32)), .val (.int (191 : Int32)), .val (.int (3 : Int32)), .val (.int (b2 &&& (255 : Int32)))] []) _
                      refine Go.by (fun t k => XS.goto X1.here hx rfl (pc0 := 171) (pc' := 111) rfl (hb hby d1_171) (by decide) (by decide) k) ?_
                      show Go p e below T1 (mkF m 111 #[.val (.ref a1), .val (.int p2), .val (.int p3), .val (.int (b0 &&& (255 : Int32))), .val (.int nn), .val (.int (128 : Int32)), .val (.int (191 : Int32)), .val (.int (3 : Int32)), .val (.int (b2 &&& (255 : Int32)))] []) _
                      refine Go.by (fun t k => XS.iload X1.here hx rfl (hb hby d1_111) rfl k) ?_
                      show Go p e below T1 (mkF m 113 #[.val (.ref a1), .val (.int p2), .val (.int p3), .val (.int (b0 &&& (255 : Int32))), .val (.int nn), .val (.int (128 : Int32)), .val (.int (191 : Int32)), .val (.int (3 : Int32)), .val (.int (b2 &&& (255 : Int32)))] [(.int (3 : Int32))]) _
                      refine Go.by (fun t k => XS.iload X1.here hx rfl (hb hby d1_113) rfl k) ?_
                      show Go p e below T1 (mkF m 115 #[.val (.ref a1), .val (.int p2), .val (.int p3), .val (.int (b0 &&& (255 : Int32))), .val (.int nn), .val (.int (128 : Int32)), .val (.int (191 : Int32)), .val (.int (3 : Int32)), .val (.int (b2 &&& (255 : Int32)))] [(.int nn), (.int (3 : Int32))]) _
                      by_cases hc21 : (3 : Int32) < nn
                      · refine Go.by (fun t k => XS.icmpNo X1.here hx rfl (hb hby d1_115) rfl (tlt hc21).2.1 k) ?_
                        show Go p e below T1 (mkF m 118 #[.val (.ref a1), .val (.int p2), .val (.int p3), .val (.int (b0 &&& (255 : Int32))), .val (.int nn), .val (.int (128 : Int32)), .val (.int (191 : Int32)), .val (.int (3 : Int32)), .val (.int (b2 &&& (255 : Int32)))] []) _
                        refine Go.by (fun t k => XS.iloadN X1.here hx rfl (hb hby d1_118) rfl k) ?_
                        show Go p e below T1 (mkF m 119 #[.val (.ref a1), .val (.int p2), .val (.int p3), .val (.int (b0 &&& (255 : Int32))), .val (.int nn), .val (.int (128 : Int32)), .val (.int (191 : Int32)), .val (.int (3 : Int32)), .val (.int (b2 &&& (255 : Int32)))] [(.int p2)]) _
                        refine Go.by (fun t k => XS.iload X1.here hx rfl (hb hby d1_119) rfl k) ?_
                        show Go p e below T1 (mkF m 121 #[.val (.ref a1), .val (.int p2), .val (.int p3), .val (.int (b0 &&& (255 : Int32))), .val (.int nn), .val (.int (128 : Int32)), .val (.int (191 : Int32)), .val (.int (3 : Int32)), .val (.int (b2 &&& (255 : Int32)))] [(.int (3 : Int32)), (.int p2)]) _
                        refine Go.by (fun t k => XS.iadd X1.here hx rfl (hb hby d1_121) rfl k) ?_
                        show Go p e below T1 (mkF m 122 #[.val (.ref a1), .val (.int p2), .val (.int p3), .val (.int (b0 &&& (255 : Int32))), .val (.int nn), .val (.int (128 : Int32)), .val (.int (191 : Int32)), .val (.int (3 : Int32)), .val (.int (b2 &&& (255 : Int32)))] [(.int (p2 + (3 : Int32)))]) _
                        refine Go.by (fun t k => XS.iloadN X1.here hx rfl (hb hby d1_122) rfl k) ?_
                        show Go p e below T1 (mkF m 123 #[.val (.ref a1), .val (.int p2), .val (.int p3), .val (.int (b0 &&& (255 : Int32))), .val (.int nn), .val (.int (128 : Int32)), .val (.int (191 : Int32)), .val (.int (3 : Int32)), .val (.int (b2 &&& (255 : Int32)))] [(.int p3), (.int (p2 + (3 : Int32)))]) _
                        by_cases hc22 : (p2 + (3 : Int32)) < p3
                        · refine Go.by (fun t k => XS.icmpNo X1.here hx rfl (hb hby d1_123) rfl (tlt hc22).2.1 k) ?_
                          show Go p e below T1 (mkF m 126 #[.val (.ref a1), .val (.int p2), .val (.int p3), .val (.int (b0 &&& (255 : Int32))), .val (.int nn), .val (.int (128 : Int32)), .val (.int (191 : Int32)), .val (.int (3 : Int32)), .val (.int (b2 &&& (255 : Int32)))] []) _
                          refine Go.by (fun t k => XS.aloadN X1.here hx rfl (hb hby d1_126) rfl rfl k) ?_
                          show Go p e below T1 (mkF m 127 #[.val (.ref a1), .val (.int p2), .val (.int p3), .val (.int (b0 &&& (255 : Int32))), .val (.int nn), .val (.int (128 : Int32)), .val (.int (191 : Int32)), .val (.int (3 : Int32)), .val (.int (b2 &&& (255 : Int32)))] [(.ref a1)]) _
                          refine Go.by (fun t k => XS.iloadN X1.here hx rfl (hb hby d1_127) rfl k) ?_
                          show Go p e below T1 (mkF m 128 #[.val (.ref a1), .val (.int p2), .val (.int p3), .val (.int (b0 &&& (255 : Int32))), .val (.int nn), .val (.int (128 : Int32)), .val (.int (191 : Int32)), .val (.int (3 : Int32)), .val (.int (b2 &&& (255 : Int32)))] [(.int p2), (.ref a1)]) _
                          refine Go.by (fun t k => XS.iload X1.here hx rfl (hb hby d1_128) rfl k) ?_
                          show Go p e below T1 (mkF m 130 #[.val (.ref a1), .val (.int p2), .val (.int p3), .val (.int (b0 &&& (255 : Int32))), .val (.int nn), .val (.int (128 : Int32)), .val (.int (191 : Int32)), .val (.int (3 : Int32)), .val (.int (b2 &&& (255 : Int32)))] [(.int (3 : Int32)), (.int p2), (.ref a1)]) _
                          refine Go.by (fun t k => XS.iadd X1.here hx rfl (hb hby d1_130) rfl k) ?_
                          show Go p e below T1 (mkF m 131 #[.val (.ref a1), .val (.int p2), .val (.int p3), .val (.int (b0 &&& (255 : Int32))), .val (.int nn), .val (.int (128 : Int32)), .val (.int (191 : Int32)), .val (.int (3 : Int32)), .val (.int (b2 &&& (255 : Int32)))] [(.int (p2 + (3 : Int32))), (.ref a1)]) _
                          refine Go.by (fun t k => X1.baloadBytes hx (j := (p2 + (3 : Int32))) (v := (.int b3)) (by rw [e1q]; exact Ar.1) (State.isArrayOf_alike hZ.alike Ar.2.1) Ar.2.2 hin3 hat3 (g := (mkF m 131 #[.val (.ref a1), .val (.int p2), .val (.int p3), .val (.int (b0 &&& (255 : Int32))), .val (.int nn), .val (.int (128 : Int32)), .val (.int (191 : Int32)), .val (.int (3 : Int32)), .val (.int (b2 &&& (255 : Int32)))] [(.int (p2 + (3 : Int32))), (.ref a1)])) rfl rfl (hb hby d1_131) t k) ?_
                          show Go p e below T1 (mkF m 132 #[.val (.ref a1), .val (.int p2), .val (.int p3), .val (.int (b0 &&& (255 : Int32))), .val (.int nn), .val (.int (128 : Int32)), .val (.int (191 : Int32)), .val (.int (3 : Int32)), .val (.int (b2 &&& (255 : Int32)))] [(.int b3)]) _
                          refine Go.by (fun t k => XS.sipush X1.here hx rfl (hb hby d1_132) k) ?_
                          show Go p e below T1 (mkF m 135 #[.val (.ref a1), .val (.int p2), .val (.int p3), .val (.int (b0 &&& (255 : Int32))), .val (.int nn), .val (.int (128 : Int32)), .val (.int (191 : Int32)), .val (.int (3 : Int32)), .val (.int (b2 &&& (255 : Int32)))] [(.int (255 : Int32)), (.int b3)]) _
                          refine Go.by (fun t k => XS.iand X1.here hx rfl (hb hby d1_135) rfl k) ?_
                          show Go p e below T1 (mkF m 136 #[.val (.ref a1), .val (.int p2), .val (.int p3), .val (.int (b0 &&& (255 : Int32))), .val (.int nn), .val (.int (128 : Int32)), .val (.int (191 : Int32)), .val (.int (3 : Int32)), .val (.int (b2 &&& (255 : Int32)))] [(.int (b3 &&& (255 : Int32)))]) _
                          refine Go.by (fun t k => XS.goto X1.here hx rfl (pc0 := 136) (pc' := 140) rfl (hb hby d1_136) (by decide) (by decide) k) ?_
                          show Go p e below T1 (mkF m 140 #[.val (.ref a1), .val (.int p2), .val (.int p3), .val (.int (b0 &&& (255 : Int32))), .val (.int nn), .val (.int (128 : Int32)), .val (.int (191 : Int32)), .val (.int (3 : Int32)), .val (.int (b2 &&& (255 : Int32)))] [(.int (b3 &&& (255 : Int32)))]) _
                          refine Go.by (fun t k => XS.istore X1.here hx rfl (hb hby d1_140) rfl (l' := #[.val (.ref a1), .val (.int p2), .val (.int p3), .val (.int (b0 &&& (255 : Int32))), .val (.int nn), .val (.int (128 : Int32)), .val (.int (191 : Int32)), .val (.int (3 : Int32)), .val (.int (b3 &&& (255 : Int32)))]) rfl k) ?_
                          show Go p e below T1 (mkF m 142 #[.val (.ref a1), .val (.int p2), .val (.int p3), .val (.int (b0 &&& (255 : Int32))), .val (.int nn), .val (.int (128 : Int32)), .val (.int (191 : Int32)), .val (.int (3 : Int32)), .val (.int (b3 &&& (255 : Int32)))] []) _
                          refine Go.by (fun t k => XS.iload X1.here hx rfl (hb hby d1_142) rfl k) ?_
                          show Go p e below T1 (mkF m 144 #[.val (.ref a1), .val (.int p2), .val (.int p3), .val (.int (b0 &&& (255 : Int32))), .val (.int nn), .val (.int (128 : Int32)), .val (.int (191 : Int32)), .val (.int (3 : Int32)), .val (.int (b3 &&& (255 : Int32)))] [(.int (b3 &&& (255 : Int32)))]) _
                          refine Go.by (fun t k => XS.iload X1.here hx rfl (hb hby d1_144) rfl k) ?_
                          show Go p e below T1 (mkF m 146 #[.val (.ref a1), .val (.int p2), .val (.int p3), .val (.int (b0 &&& (255 : Int32))), .val (.int nn), .val (.int (128 : Int32)), .val (.int (191 : Int32)), .val (.int (3 : Int32)), .val (.int (b3 &&& (255 : Int32)))] [(.int (128 : Int32)), (.int (b3 &&& (255 : Int32)))]) _
                          by_cases hc23 : (b3 &&& (255 : Int32)) < (128 : Int32)
                          · refine Go.by (fun t k => XS.icmpYes X1.here hx rfl (pc0 := 146) (pc' := 156) rfl (hb hby d1_146) rfl (tlt hc23).1 (by decide) (by decide) k) ?_
                            show Go p e below T1 (mkF m 156 #[.val (.ref a1), .val (.int p2), .val (.int p3), .val (.int (b0 &&& (255 : Int32))), .val (.int nn), .val (.int (128 : Int32)), .val (.int (191 : Int32)), .val (.int (3 : Int32)), .val (.int (b3 &&& (255 : Int32)))] []) _
                            refine Go.by (fun t k => XS.iconst X1.here hx rfl (hb hby d1_156) k) ?_
                            show Go p e below T1 (mkF m 157 #[.val (.ref a1), .val (.int p2), .val (.int p3), .val (.int (b0 &&& (255 : Int32))), .val (.int nn), .val (.int (128 : Int32)), .val (.int (191 : Int32)), .val (.int (3 : Int32)), .val (.int (b3 &&& (255 : Int32)))] [(.int (-1 : Int32))]) _
                            obtain ⟨fs, hr, hrun, hended, hW, hsame⟩ := X1.leave (v := some (.int (-1 : Int32))) (fun h => by rw [Bd.returns] at h; cases h)
                            refine Go.done (retI X1 hx Bd.returns (hb hby d1_157) hr) hrun hended ⟨_, _, rfl, ?_, ⟨_, rfl⟩, hW, hsame.mono (by decide) (by decide)⟩
                            show Q1 Z a1 p2 p3 cl b0 b1 b2 b3 h0 n0 _ T1.heap _
                            rw [e1q]
                            refine ⟨?_, N1, rfl⟩
                            rw [own_ce, h_nn, if_neg hc2, ← hj108.1, ← hj108.2, own_lp, if_pos hc3, if_neg hc4, if_neg hc15, if_neg hc16, if_pos hc17, if_pos hc18, if_neg hc19, if_neg hc20, if_pos hc21, if_pos hc22, if_pos hc23]
                          · refine Go.by (fun t k => XS.icmpNo X1.here hx rfl (hb hby d1_146) rfl (flt hc23).1 k) ?_
                            show Go p e below T1 (mkF m 149 #[.val (.ref a1), .val (.int p2), .val (.int p3), .val (.int (b0 &&& (255 : Int32))), .val (.int nn), .val (.int (128 : Int32)), .val (.int (191 : Int32)), .val (.int (3 : Int32)), .val (.int (b3 &&& (255 : Int32)))] []) _
                            refine Go.by (fun t k => XS.iload X1.here hx rfl (hb hby d1_149) rfl k) ?_
                            show Go p e below T1 (mkF m 151 #[.val (.ref a1), .val (.int p2), .val (.int p3), .val (.int (b0 &&& (255 : Int32))), .val (.int nn), .val (.int (128 : Int32)), .val (.int (191 : Int32)), .val (.int (3 : Int32)), .val (.int (b3 &&& (255 : Int32)))] [(.int (b3 &&& (255 : Int32)))]) _
                            refine Go.by (fun t k => XS.iload X1.here hx rfl (hb hby d1_151) rfl k) ?_
                            show Go p e below T1 (mkF m 153 #[.val (.ref a1), .val (.int p2), .val (.int p3), .val (.int (b0 &&& (255 : Int32))), .val (.int nn), .val (.int (128 : Int32)), .val (.int (191 : Int32)), .val (.int (3 : Int32)), .val (.int (b3 &&& (255 : Int32)))] [(.int (191 : Int32)), (.int (b3 &&& (255 : Int32)))]) _
                            by_cases hc24 : (191 : Int32) < (b3 &&& (255 : Int32))
                            · refine Go.by (fun t k => XS.icmpNo X1.here hx rfl (hb hby d1_153) rfl (tlt hc24).2.2.2 k) ?_
                              show Go p e below T1 (mkF m 156 #[.val (.ref a1), .val (.int p2), .val (.int p3), .val (.int (b0 &&& (255 : Int32))), .val (.int nn), .val (.int (128 : Int32)), .val (.int (191 : Int32)), .val (.int (3 : Int32)), .val (.int (b3 &&& (255 : Int32)))] []) _
                              refine Go.by (fun t k => XS.iconst X1.here hx rfl (hb hby d1_156) k) ?_
                              show Go p e below T1 (mkF m 157 #[.val (.ref a1), .val (.int p2), .val (.int p3), .val (.int (b0 &&& (255 : Int32))), .val (.int nn), .val (.int (128 : Int32)), .val (.int (191 : Int32)), .val (.int (3 : Int32)), .val (.int (b3 &&& (255 : Int32)))] [(.int (-1 : Int32))]) _
                              obtain ⟨fs, hr, hrun, hended, hW, hsame⟩ := X1.leave (v := some (.int (-1 : Int32))) (fun h => by rw [Bd.returns] at h; cases h)
                              refine Go.done (retI X1 hx Bd.returns (hb hby d1_157) hr) hrun hended ⟨_, _, rfl, ?_, ⟨_, rfl⟩, hW, hsame.mono (by decide) (by decide)⟩
                              show Q1 Z a1 p2 p3 cl b0 b1 b2 b3 h0 n0 _ T1.heap _
                              rw [e1q]
                              refine ⟨?_, N1, rfl⟩
                              rw [own_ce, h_nn, if_neg hc2, ← hj108.1, ← hj108.2, own_lp, if_pos hc3, if_neg hc4, if_neg hc15, if_neg hc16, if_pos hc17, if_pos hc18, if_neg hc19, if_neg hc20, if_pos hc21, if_pos hc22, if_neg hc23, if_pos hc24]
                            · refine Go.by (fun t k => XS.icmpYes X1.here hx rfl (pc0 := 153) (pc' := 158) rfl (hb hby d1_153) rfl (flt hc24).2.2.2 (by decide) (by decide) k) ?_
                              show Go p e below T1 (mkF m 158 #[.val (.ref a1), .val (.int p2), .val (.int p3), .val (.int (b0 &&& (255 : Int32))), .val (.int nn), .val (.int (128 : Int32)), .val (.int (191 : Int32)), .val (.int (3 : Int32)), .val (.int (b3 &&& (255 : Int32)))] []) _
                              refine Go.by (fun t k => XS.sipush X1.here hx rfl (hb hby d1_158) k) ?_
                              show Go p e below T1 (mkF m 161 #[.val (.ref a1), .val (.int p2), .val (.int p3), .val (.int (b0 &&& (255 : Int32))), .val (.int nn), .val (.int (128 : Int32)), .val (.int (191 : Int32)), .val (.int (3 : Int32)), .val (.int (b3 &&& (255 : Int32)))] [(.int (128 : Int32))]) _
                              refine Go.by (fun t k => XS.istore X1.here hx rfl (hb hby d1_161) rfl (l' := #[.val (.ref a1), .val (.int p2), .val (.int p3), .val (.int (b0 &&& (255 : Int32))), .val (.int nn), .val (.int (128 : Int32)), .val (.int (191 : Int32)), .val (.int (3 : Int32)), .val (.int (b3 &&& (255 : Int32)))]) rfl k) ?_
                              show Go p e below T1 (mkF m 163 #[.val (.ref a1), .val (.int p2), .val (.int p3), .val (.int (b0 &&& (255 : Int32))), .val (.int nn), .val (.int (128 : Int32)), .val (.int (191 : Int32)), .val (.int (3 : Int32)), .val (.int (b3 &&& (255 : Int32)))] []) _
                              refine Go.by (fun t k => XS.sipush X1.here hx rfl (hb hby d1_163) k) ?_
                              show Go p e below T1 (mkF m 166 #[.val (.ref a1), .val (.int p2), .val (.int p3), .val (.int (b0 &&& (255 : Int32))), .val (.int nn), .val (.int (128 : Int32)), .val (.int (191 : Int32)), .val (.int (3 : Int32)), .val (.int (b3 &&& (255 : Int32)))] [(.int (191 : Int32))]) _
                              refine Go.by (fun t k => XS.istore X1.here hx rfl (hb hby d1_166) rfl (l' := #[.val (.ref a1), .val (.int p2), .val (.int p3), .val (.int (b0 &&& (255 : Int32))), .val (.int nn), .val (.int (128 : Int32)), .val (.int (191 : Int32)), .val (.int (3 : Int32)), .val (.int (b3 &&& (255 : Int32)))]) rfl k) ?_
                              show Go p e below T1 (mkF m 168 #[.val (.ref a1), .val (.int p2), .val (.int p3), .val (.int (b0 &&& (255 : Int32))), .val (.int nn), .val (.int (128 : Int32)), .val (.int (191 : Int32)), .val (.int (3 : Int32)), .val (.int (b3 &&& (255 : Int32)))] []) _
                              refine Go.by (fun t k => XS.iinc X1.here hx rfl (hb hby d1_168) rfl (l' := #[.val (.ref a1), .val (.int p2), .val (.int p3), .val (.int (b0 &&& (255 : Int32))), .val (.int nn), .val (.int (128 : Int32)), .val (.int (191 : Int32)), .val (.int (4 : Int32)), .val (.int (b3 &&& (255 : Int32)))]) rfl k) ?_
                              show Go p e below T1 (mkF m 171 #[.val (.ref a1), .val (.int p2), .val (.int p3), .val (.int (b0 &&& (255 : Int32))), .val (.int nn), .val (.int (128 : Int32)), .val (.int (191 : Int32)), .val (.int (4 : Int32)), .val (.int (b3 &&& (255 : Int32)))] []) _
                              refine Go.by (fun t k => XS.goto X1.here hx rfl (pc0 := 171) (pc' := 111) rfl (hb hby d1_171) (by decide) (by decide) k) ?_
                              show Go p e below T1 (mkF m 111 #[.val (.ref a1), .val (.int p2), .val (.int p3), .val (.int (b0 &&& (255 : Int32))), .val (.int nn), .val (.int (128 : Int32)), .val (.int (191 : Int32)), .val (.int (4 : Int32)), .val (.int (b3 &&& (255 : Int32)))] []) _
                              refine Go.by (fun t k => XS.iload X1.here hx rfl (hb hby d1_111) rfl k) ?_
                              show Go p e below T1 (mkF m 113 #[.val (.ref a1), .val (.int p2), .val (.int p3), .val (.int (b0 &&& (255 : Int32))), .val (.int nn), .val (.int (128 : Int32)), .val (.int (191 : Int32)), .val (.int (4 : Int32)), .val (.int (b3 &&& (255 : Int32)))] [(.int (4 : Int32))]) _
                              refine Go.by (fun t k => XS.iload X1.here hx rfl (hb hby d1_113) rfl k) ?_
                              show Go p e below T1 (mkF m 115 #[.val (.ref a1), .val (.int p2), .val (.int p3), .val (.int (b0 &&& (255 : Int32))), .val (.int nn), .val (.int (128 : Int32)), .val (.int (191 : Int32)), .val (.int (4 : Int32)), .val (.int (b3 &&& (255 : Int32)))] [(.int nn), (.int (4 : Int32))]) _
                              refine Go.by (fun t k => XS.icmpYes X1.here hx rfl (pc0 := 115) (pc' := 174) rfl (hb hby d1_115) rfl (flt (show ¬ ((4 : Int32) < nn) from (by rw [← h_nn]; exact own_len4 _))).2.1 (by decide) (by decide) k) ?_
                              show Go p e below T1 (mkF m 174 #[.val (.ref a1), .val (.int p2), .val (.int p3), .val (.int (b0 &&& (255 : Int32))), .val (.int nn), .val (.int (128 : Int32)), .val (.int (191 : Int32)), .val (.int (4 : Int32)), .val (.int (b3 &&& (255 : Int32)))] []) _
                              refine Go.by (fun t k => XS.iloadN X1.here hx rfl (hb hby d1_174) rfl k) ?_
                              show Go p e below T1 (mkF m 175 #[.val (.ref a1), .val (.int p2), .val (.int p3), .val (.int (b0 &&& (255 : Int32))), .val (.int nn), .val (.int (128 : Int32)), .val (.int (191 : Int32)), .val (.int (4 : Int32)), .val (.int (b3 &&& (255 : Int32)))] [(.int p2)]) _
                              refine Go.by (fun t k => XS.iload X1.here hx rfl (hb hby d1_175) rfl k) ?_
                              show Go p e below T1 (mkF m 177 #[.val (.ref a1), .val (.int p2), .val (.int p3), .val (.int (b0 &&& (255 : Int32))), .val (.int nn), .val (.int (128 : Int32)), .val (.int (191 : Int32)), .val (.int (4 : Int32)), .val (.int (b3 &&& (255 : Int32)))] [(.int nn), (.int p2)]) _
                              refine Go.by (fun t k => XS.iadd X1.here hx rfl (hb hby d1_177) rfl k) ?_
                              show Go p e below T1 (mkF m 178 #[.val (.ref a1), .val (.int p2), .val (.int p3), .val (.int (b0 &&& (255 : Int32))), .val (.int nn), .val (.int (128 : Int32)), .val (.int (191 : Int32)), .val (.int (4 : Int32)), .val (.int (b3 &&& (255 : Int32)))] [(.int (p2 + nn))]) _
                              obtain ⟨fs, hr, hrun, hended, hW, hsame⟩ := X1.leave (v := some (.int (p2 + nn))) (fun h => by rw [Bd.returns] at h; cases h)
                              refine Go.done (retI X1 hx Bd.returns (hb hby d1_178) hr) hrun hended ⟨_, _, rfl, ?_, ⟨_, rfl⟩, hW, hsame.mono (by decide) (by decide)⟩
                              show Q1 Z a1 p2 p3 cl b0 b1 b2 b3 h0 n0 _ T1.heap _
                              rw [e1q]
                              refine ⟨?_, N1, rfl⟩
                              rw [own_ce, h_nn, if_neg hc2, ← hj108.1, ← hj108.2, own_lp, if_pos hc3, if_neg hc4, if_neg hc15, if_neg hc16, if_pos hc17, if_pos hc18, if_neg hc19, if_neg hc20, if_pos hc21, if_pos hc22, if_neg hc23, if_neg hc24]
                        · refine Go.by (fun t k => XS.icmpYes X1.here hx rfl (pc0 := 123) (pc' := 139) rfl (hb hby d1_123) rfl (flt hc22).2.1 (by decide) (by decide) k) ?_
                          show Go p e below T1 (mkF m 139 #[.val (.ref a1), .val (.int p2), .val (.int p3), .val (.int (b0 &&& (255 : Int32))), .val (.int nn), .val (.int (128 : Int32)), .val (.int (191 : Int32)), .val (.int (3 : Int32)), .val (.int (b2 &&& (255 : Int32)))] []) _
                          refine Go.by (fun t k => XS.iconst X1.here hx rfl (hb hby d1_139) k) ?_
                          show Go p e below T1 (mkF m 140 #[.val (.ref a1), .val (.int p2), .val (.int p3), .val (.int (b0 &&& (255 : Int32))), .val (.int nn), .val (.int (128 : Int32)), .val (.int (191 : Int32)), .val (.int (3 : Int32)), .val (.int (b2 &&& (255 : Int32)))] [(.int (-1 : Int32))]) _
                          refine Go.by (fun t k => XS.istore X1.here hx rfl (hb hby d1_140) rfl (l' := #[.val (.ref a1), .val (.int p2), .val (.int p3), .val (.int (b0 &&& (255 : Int32))), .val (.int nn), .val (.int (128 : Int32)), .val (.int (191 : Int32)), .val (.int (3 : Int32)), .val (.int (-1 : Int32))]) rfl k) ?_
                          show Go p e below T1 (mkF m 142 #[.val (.ref a1), .val (.int p2), .val (.int p3), .val (.int (b0 &&& (255 : Int32))), .val (.int nn), .val (.int (128 : Int32)), .val (.int (191 : Int32)), .val (.int (3 : Int32)), .val (.int (-1 : Int32))] []) _
                          refine Go.by (fun t k => XS.iload X1.here hx rfl (hb hby d1_142) rfl k) ?_
                          show Go p e below T1 (mkF m 144 #[.val (.ref a1), .val (.int p2), .val (.int p3), .val (.int (b0 &&& (255 : Int32))), .val (.int nn), .val (.int (128 : Int32)), .val (.int (191 : Int32)), .val (.int (3 : Int32)), .val (.int (-1 : Int32))] [(.int (-1 : Int32))]) _
                          refine Go.by (fun t k => XS.iload X1.here hx rfl (hb hby d1_144) rfl k) ?_
                          show Go p e below T1 (mkF m 146 #[.val (.ref a1), .val (.int p2), .val (.int p3), .val (.int (b0 &&& (255 : Int32))), .val (.int nn), .val (.int (128 : Int32)), .val (.int (191 : Int32)), .val (.int (3 : Int32)), .val (.int (-1 : Int32))] [(.int (128 : Int32)), (.int (-1 : Int32))]) _
                          refine Go.by (fun t k => XS.icmpYes X1.here hx rfl (pc0 := 146) (pc' := 156) rfl (hb hby d1_146) rfl (tlt (show (-1 : Int32) < (128 : Int32) from (by decide))).1 (by decide) (by decide) k) ?_
                          show Go p e below T1 (mkF m 156 #[.val (.ref a1), .val (.int p2), .val (.int p3), .val (.int (b0 &&& (255 : Int32))), .val (.int nn), .val (.int (128 : Int32)), .val (.int (191 : Int32)), .val (.int (3 : Int32)), .val (.int (-1 : Int32))] []) _
                          refine Go.by (fun t k => XS.iconst X1.here hx rfl (hb hby d1_156) k) ?_
                          show Go p e below T1 (mkF m 157 #[.val (.ref a1), .val (.int p2), .val (.int p3), .val (.int (b0 &&& (255 : Int32))), .val (.int nn), .val (.int (128 : Int32)), .val (.int (191 : Int32)), .val (.int (3 : Int32)), .val (.int (-1 : Int32))] [(.int (-1 : Int32))]) _
                          obtain ⟨fs, hr, hrun, hended, hW, hsame⟩ := X1.leave (v := some (.int (-1 : Int32))) (fun h => by rw [Bd.returns] at h; cases h)
                          refine Go.done (retI X1 hx Bd.returns (hb hby d1_157) hr) hrun hended ⟨_, _, rfl, ?_, ⟨_, rfl⟩, hW, hsame.mono (by decide) (by decide)⟩
                          show Q1 Z a1 p2 p3 cl b0 b1 b2 b3 h0 n0 _ T1.heap _
                          rw [e1q]
                          refine ⟨?_, N1, rfl⟩
                          rw [own_ce, h_nn, if_neg hc2, ← hj108.1, ← hj108.2, own_lp, if_pos hc3, if_neg hc4, if_neg hc15, if_neg hc16, if_pos hc17, if_pos hc18, if_neg hc19, if_neg hc20, if_pos hc21, if_neg hc22]
                      · refine Go.by (fun t k => XS.icmpYes X1.here hx rfl (pc0 := 115) (pc' := 174) rfl (hb hby d1_115) rfl (flt hc21).2.1 (by decide) (by decide) k) ?_
                        show Go p e below T1 (mkF m 174 #[.val (.ref a1), .val (.int p2), .val (.int p3), .val (.int (b0 &&& (255 : Int32))), .val (.int nn), .val (.int (128 : Int32)), .val (.int (191 : Int32)), .val (.int (3 : Int32)), .val (.int (b2 &&& (255 : Int32)))] []) _
                        refine Go.by (fun t k => XS.iloadN X1.here hx rfl (hb hby d1_174) rfl k) ?_
                        show Go p e below T1 (mkF m 175 #[.val (.ref a1), .val (.int p2), .val (.int p3), .val (.int (b0 &&& (255 : Int32))), .val (.int nn), .val (.int (128 : Int32)), .val (.int (191 : Int32)), .val (.int (3 : Int32)), .val (.int (b2 &&& (255 : Int32)))] [(.int p2)]) _
                        refine Go.by (fun t k => XS.iload X1.here hx rfl (hb hby d1_175) rfl k) ?_
                        show Go p e below T1 (mkF m 177 #[.val (.ref a1), .val (.int p2), .val (.int p3), .val (.int (b0 &&& (255 : Int32))), .val (.int nn), .val (.int (128 : Int32)), .val (.int (191 : Int32)), .val (.int (3 : Int32)), .val (.int (b2 &&& (255 : Int32)))] [(.int nn), (.int p2)]) _
                        refine Go.by (fun t k => XS.iadd X1.here hx rfl (hb hby d1_177) rfl k) ?_
                        show Go p e below T1 (mkF m 178 #[.val (.ref a1), .val (.int p2), .val (.int p3), .val (.int (b0 &&& (255 : Int32))), .val (.int nn), .val (.int (128 : Int32)), .val (.int (191 : Int32)), .val (.int (3 : Int32)), .val (.int (b2 &&& (255 : Int32)))] [(.int (p2 + nn))]) _
                        obtain ⟨fs, hr, hrun, hended, hW, hsame⟩ := X1.leave (v := some (.int (p2 + nn))) (fun h => by rw [Bd.returns] at h; cases h)
                        refine Go.done (retI X1 hx Bd.returns (hb hby d1_178) hr) hrun hended ⟨_, _, rfl, ?_, ⟨_, rfl⟩, hW, hsame.mono (by decide) (by decide)⟩
                        show Q1 Z a1 p2 p3 cl b0 b1 b2 b3 h0 n0 _ T1.heap _
                        rw [e1q]
                        refine ⟨?_, N1, rfl⟩
                        rw [own_ce, h_nn, if_neg hc2, ← hj108.1, ← hj108.2, own_lp, if_pos hc3, if_neg hc4, if_neg hc15, if_neg hc16, if_pos hc17, if_pos hc18, if_neg hc19, if_neg hc20, if_neg hc21]
                · refine Go.by (fun t k => XS.icmpYes X1.here hx rfl (pc0 := 123) (pc' := 139) rfl (hb hby d1_123) rfl (flt hc18).2.1 (by decide) (by decide) k) ?_
                  show Go p e below T1 (mkF m 139 #[.val (.ref a1), .val (.int p2), .val (.int p3), .val (.int (b0 &&& (255 : Int32))), .val (.int nn), .val (.int (128 : Int32)), .val (.int (191 : Int32)), .val (.int (2 : Int32)), .val (.int (-1 : Int32))] []) _
                  refine Go.by (fun t k => XS.iconst X1.here hx rfl (hb hby d1_139) k) ?_
                  show Go p e below T1 (mkF m 140 #[.val (.ref a1), .val (.int p2), .val (.int p3), .val (.int (b0 &&& (255 : Int32))), .val (.int nn), .val (.int (128 : Int32)), .val (.int (191 : Int32)), .val (.int (2 : Int32)), .val (.int (-1 : Int32))] [(.int (-1 : Int32))]) _
                  refine Go.by (fun t k => XS.istore X1.here hx rfl (hb hby d1_140) rfl (l' := #[.val (.ref a1), .val (.int p2), .val (.int p3), .val (.int (b0 &&& (255 : Int32))), .val (.int nn), .val (.int (128 : Int32)), .val (.int (191 : Int32)), .val (.int (2 : Int32)), .val (.int (-1 : Int32))]) rfl k) ?_
                  show Go p e below T1 (mkF m 142 #[.val (.ref a1), .val (.int p2), .val (.int p3), .val (.int (b0 &&& (255 : Int32))), .val (.int nn), .val (.int (128 : Int32)), .val (.int (191 : Int32)), .val (.int (2 : Int32)), .val (.int (-1 : Int32))] []) _
                  refine Go.by (fun t k => XS.iload X1.here hx rfl (hb hby d1_142) rfl k) ?_
                  show Go p e below T1 (mkF m 144 #[.val (.ref a1), .val (.int p2), .val (.int p3), .val (.int (b0 &&& (255 : Int32))), .val (.int nn), .val (.int (128 : Int32)), .val (.int (191 : Int32)), .val (.int (2 : Int32)), .val (.int (-1 : Int32))] [(.int (-1 : Int32))]) _
                  refine Go.by (fun t k => XS.iload X1.here hx rfl (hb hby d1_144) rfl k) ?_
                  show Go p e below T1 (mkF m 146 #[.val (.ref a1), .val (.int p2), .val (.int p3), .val (.int (b0 &&& (255 : Int32))), .val (.int nn), .val (.int (128 : Int32)), .val (.int (191 : Int32)), .val (.int (2 : Int32)), .val (.int (-1 : Int32))] [(.int (128 : Int32)), (.int (-1 : Int32))]) _
                  refine Go.by (fun t k => XS.icmpYes X1.here hx rfl (pc0 := 146) (pc' := 156) rfl (hb hby d1_146) rfl (tlt (show (-1 : Int32) < (128 : Int32) from (by decide))).1 (by decide) (by decide) k) ?_
                  show Go p e below T1 (mkF m 156 #[.val (.ref a1), .val (.int p2), .val (.int p3), .val (.int (b0 &&& (255 : Int32))), .val (.int nn), .val (.int (128 : Int32)), .val (.int (191 : Int32)), .val (.int (2 : Int32)), .val (.int (-1 : Int32))] []) _
                  refine Go.by (fun t k => XS.iconst X1.here hx rfl (hb hby d1_156) k) ?_
                  show Go p e below T1 (mkF m 157 #[.val (.ref a1), .val (.int p2), .val (.int p3), .val (.int (b0 &&& (255 : Int32))), .val (.int nn), .val (.int (128 : Int32)), .val (.int (191 : Int32)), .val (.int (2 : Int32)), .val (.int (-1 : Int32))] [(.int (-1 : Int32))]) _
                  obtain ⟨fs, hr, hrun, hended, hW, hsame⟩ := X1.leave (v := some (.int (-1 : Int32))) (fun h => by rw [Bd.returns] at h; cases h)
                  refine Go.done (retI X1 hx Bd.returns (hb hby d1_157) hr) hrun hended ⟨_, _, rfl, ?_, ⟨_, rfl⟩, hW, hsame.mono (by decide) (by decide)⟩
                  show Q1 Z a1 p2 p3 cl b0 b1 b2 b3 h0 n0 _ T1.heap _
                  rw [e1q]
                  refine ⟨?_, N1, rfl⟩
                  rw [own_ce, h_nn, if_neg hc2, ← hj108.1, ← hj108.2, own_lp, if_pos hc3, if_neg hc4, if_neg hc15, if_neg hc16, if_pos hc17, if_neg hc18]
              · refine Go.by (fun t k => XS.icmpYes X1.here hx rfl (pc0 := 115) (pc' := 174) rfl (hb hby d1_115) rfl (flt hc17).2.1 (by decide) (by decide) k) ?_
                show Go p e below T1 (mkF m 174 #[.val (.ref a1), .val (.int p2), .val (.int p3), .val (.int (b0 &&& (255 : Int32))), .val (.int nn), .val (.int (128 : Int32)), .val (.int (191 : Int32)), .val (.int (2 : Int32)), .val (.int (-1 : Int32))] []) _
                refine Go.by (fun t k => XS.iloadN X1.here hx rfl (hb hby d1_174) rfl k) ?_
                show Go p e below T1 (mkF m 175 #[.val (.ref a1), .val (.int p2), .val (.int p3), .val (.int (b0 &&& (255 : Int32))), .val (.int nn), .val (.int (128 : Int32)), .val (.int (191 : Int32)), .val (.int (2 : Int32)), .val (.int (-1 : Int32))] [(.int p2)]) _
                refine Go.by (fun t k => XS.iload X1.here hx rfl (hb hby d1_175) rfl k) ?_
                show Go p e below T1 (mkF m 177 #[.val (.ref a1), .val (.int p2), .val (.int p3), .val (.int (b0 &&& (255 : Int32))), .val (.int nn), .val (.int (128 : Int32)), .val (.int (191 : Int32)), .val (.int (2 : Int32)), .val (.int (-1 : Int32))] [(.int nn), (.int p2)]) _
                refine Go.by (fun t k => XS.iadd X1.here hx rfl (hb hby d1_177) rfl k) ?_
                show Go p e below T1 (mkF m 178 #[.val (.ref a1), .val (.int p2), .val (.int p3), .val (.int (b0 &&& (255 : Int32))), .val (.int nn), .val (.int (128 : Int32)), .val (.int (191 : Int32)), .val (.int (2 : Int32)), .val (.int (-1 : Int32))] [(.int (p2 + nn))]) _
                obtain ⟨fs, hr, hrun, hended, hW, hsame⟩ := X1.leave (v := some (.int (p2 + nn))) (fun h => by rw [Bd.returns] at h; cases h)
                refine Go.done (retI X1 hx Bd.returns (hb hby d1_178) hr) hrun hended ⟨_, _, rfl, ?_, ⟨_, rfl⟩, hW, hsame.mono (by decide) (by decide)⟩
                show Q1 Z a1 p2 p3 cl b0 b1 b2 b3 h0 n0 _ T1.heap _
                rw [e1q]
                refine ⟨?_, N1, rfl⟩
                rw [own_ce, h_nn, if_neg hc2, ← hj108.1, ← hj108.2, own_lp, if_pos hc3, if_neg hc4, if_neg hc15, if_neg hc16, if_neg hc17]
      · refine Go.by (fun t k => XS.icmpYes X1.here hx rfl (pc0 := 115) (pc' := 174) rfl (hb hby d1_115) rfl (flt hc3).2.1 (by decide) (by decide) k) ?_
        show Go p e below T1 (mkF m 174 #[.val (.ref a1), .val (.int p2), .val (.int p3), .val (.int (b0 &&& (255 : Int32))), .val (.int nn), .val (.int j108_0), .val (.int j108_1), .val (.int (1 : Int32)), .unset] []) _
        refine Go.by (fun t k => XS.iloadN X1.here hx rfl (hb hby d1_174) rfl k) ?_
        show Go p e below T1 (mkF m 175 #[.val (.ref a1), .val (.int p2), .val (.int p3), .val (.int (b0 &&& (255 : Int32))), .val (.int nn), .val (.int j108_0), .val (.int j108_1), .val (.int (1 : Int32)), .unset] [(.int p2)]) _
        refine Go.by (fun t k => XS.iload X1.here hx rfl (hb hby d1_175) rfl k) ?_
        show Go p e below T1 (mkF m 177 #[.val (.ref a1), .val (.int p2), .val (.int p3), .val (.int (b0 &&& (255 : Int32))), .val (.int nn), .val (.int j108_0), .val (.int j108_1), .val (.int (1 : Int32)), .unset] [(.int nn), (.int p2)]) _
        refine Go.by (fun t k => XS.iadd X1.here hx rfl (hb hby d1_177) rfl k) ?_
        show Go p e below T1 (mkF m 178 #[.val (.ref a1), .val (.int p2), .val (.int p3), .val (.int (b0 &&& (255 : Int32))), .val (.int nn), .val (.int j108_0), .val (.int j108_1), .val (.int (1 : Int32)), .unset] [(.int (p2 + nn))]) _
        obtain ⟨fs, hr, hrun, hended, hW, hsame⟩ := X1.leave (v := some (.int (p2 + nn))) (fun h => by rw [Bd.returns] at h; cases h)
        refine Go.done (retI X1 hx Bd.returns (hb hby d1_178) hr) hrun hended ⟨_, _, rfl, ?_, ⟨_, rfl⟩, hW, hsame.mono (by decide) (by decide)⟩
        show Q1 Z a1 p2 p3 cl b0 b1 b2 b3 h0 n0 _ T1.heap _
        rw [e1q]
        refine ⟨?_, N1, rfl⟩
        rw [own_ce, h_nn, if_neg hc2, ← hj108.1, ← hj108.2, own_lp, if_neg hc3]
    by_cases hc25 : (b0 &&& (255 : Int32)) = (224 : Int32)
    · refine Go.by (fun t k => X1.lookupswitchHit hx (g := (mkF m 34 #[.val (.ref a1), .val (.int p2), .val (.int p3), .val (.int (b0 &&& (255 : Int32))), .val (.int nn), .val (.int (128 : Int32)), .val (.int (191 : Int32)), .unset, .unset] [(.int (b0 &&& (255 : Int32)))])) rfl rfl (hb hby d1_34) (by decide) (a := 224) (off := 42) (by rw [hc25]; rfl) (show (0 : Int) ≤ ((34 : Nat) : Int) + 42 by decide) t k) ?_
      show Go p e below T1 (mkF m 76 #[.val (.ref a1), .val (.int p2), .val (.int p3), .val (.int (b0 &&& (255 : Int32))), .val (.int nn), .val (.int (128 : Int32)), .val (.int (191 : Int32)), .unset, .unset] []) _
      refine Go.by (fun t k => XS.sipush X1.here hx rfl (hb hby d1_76) k) ?_
      show Go p e below T1 (mkF m 79 #[.val (.ref a1), .val (.int p2), .val (.int p3), .val (.int (b0 &&& (255 : Int32))), .val (.int nn), .val (.int (128 : Int32)), .val (.int (191 : Int32)), .unset, .unset] [(.int (160 : Int32))]) _
      refine Go.by (fun t k => XS.istore X1.here hx rfl (hb hby d1_79) rfl (l' := #[.val (.ref a1), .val (.int p2), .val (.int p3), .val (.int (b0 &&& (255 : Int32))), .val (.int nn), .val (.int (160 : Int32)), .val (.int (191 : Int32)), .unset, .unset]) rfl k) ?_
      show Go p e below T1 (mkF m 81 #[.val (.ref a1), .val (.int p2), .val (.int p3), .val (.int (b0 &&& (255 : Int32))), .val (.int nn), .val (.int (160 : Int32)), .val (.int (191 : Int32)), .unset, .unset] []) _
      refine Go.by (fun t k => XS.goto X1.here hx rfl (pc0 := 81) (pc' := 108) rfl (hb hby d1_81) (by decide) (by decide) k) ?_
      show Go p e below T1 (mkF m 108 #[.val (.ref a1), .val (.int p2), .val (.int p3), .val (.int (b0 &&& (255 : Int32))), .val (.int nn), .val (.int (160 : Int32)), .val (.int (191 : Int32)), .unset, .unset] []) _
      exact J108 (160 : Int32) (191 : Int32) ⟨by rw [hc25]; rfl, by rw [hc25]; rfl⟩
    · by_cases hc26 : (b0 &&& (255 : Int32)) = (237 : Int32)
      · refine Go.by (fun t k => X1.lookupswitchHit hx (g := (mkF m 34 #[.val (.ref a1), .val (.int p2), .val (.int p3), .val (.int (b0 &&& (255 : Int32))), .val (.int nn), .val (.int (128 : Int32)), .val (.int (191 : Int32)), .unset, .unset] [(.int (b0 &&& (255 : Int32)))])) rfl rfl (hb hby d1_34) (by decide) (a := 237) (off := 50) (by rw [hc26]; rfl) (show (0 : Int) ≤ ((34 : Nat) : Int) + 50 by decide) t k) ?_
        show Go p e below T1 (mkF m 84 #[.val (.ref a1), .val (.int p2), .val (.int p3), .val (.int (b0 &&& (255 : Int32))), .val (.int nn), .val (.int (128 : Int32)), .val (.int (191 : Int32)), .unset, .unset] []) _
        refine Go.by (fun t k => XS.sipush X1.here hx rfl (hb hby d1_84) k) ?_
        show Go p e below T1 (mkF m 87 #[.val (.ref a1), .val (.int p2), .val (.int p3), .val (.int (b0 &&& (255 : Int32))), .val (.int nn), .val (.int (128 : Int32)), .val (.int (191 : Int32)), .unset, .unset] [(.int (159 : Int32))]) _
        refine Go.by (fun t k => XS.istore X1.here hx rfl (hb hby d1_87) rfl (l' := #[.val (.ref a1), .val (.int p2), .val (.int p3), .val (.int (b0 &&& (255 : Int32))), .val (.int nn), .val (.int (128 : Int32)), .val (.int (159 : Int32)), .unset, .unset]) rfl k) ?_
        show Go p e below T1 (mkF m 89 #[.val (.ref a1), .val (.int p2), .val (.int p3), .val (.int (b0 &&& (255 : Int32))), .val (.int nn), .val (.int (128 : Int32)), .val (.int (159 : Int32)), .unset, .unset] []) _
        refine Go.by (fun t k => XS.goto X1.here hx rfl (pc0 := 89) (pc' := 108) rfl (hb hby d1_89) (by decide) (by decide) k) ?_
        show Go p e below T1 (mkF m 108 #[.val (.ref a1), .val (.int p2), .val (.int p3), .val (.int (b0 &&& (255 : Int32))), .val (.int nn), .val (.int (128 : Int32)), .val (.int (159 : Int32)), .unset, .unset] []) _
        exact J108 (128 : Int32) (159 : Int32) ⟨by rw [hc26]; rfl, by rw [hc26]; rfl⟩
      · by_cases hc27 : (b0 &&& (255 : Int32)) = (240 : Int32)
        · refine Go.by (fun t k => X1.lookupswitchHit hx (g := (mkF m 34 #[.val (.ref a1), .val (.int p2), .val (.int p3), .val (.int (b0 &&& (255 : Int32))), .val (.int nn), .val (.int (128 : Int32)), .val (.int (191 : Int32)), .unset, .unset] [(.int (b0 &&& (255 : Int32)))])) rfl rfl (hb hby d1_34) (by decide) (a := 240) (off := 58) (by rw [hc27]; rfl) (show (0 : Int) ≤ ((34 : Nat) : Int) + 58 by decide) t k) ?_
          show Go p e below T1 (mkF m 92 #[.val (.ref a1), .val (.int p2), .val (.int p3), .val (.int (b0 &&& (255 : Int32))), .val (.int nn), .val (.int (128 : Int32)), .val (.int (191 : Int32)), .unset, .unset] []) _
          refine Go.by (fun t k => XS.sipush X1.here hx rfl (hb hby d1_92) k) ?_
          show Go p e below T1 (mkF m 95 #[.val (.ref a1), .val (.int p2), .val (.int p3), .val (.int (b0 &&& (255 : Int32))), .val (.int nn), .val (.int (128 : Int32)), .val (.int (191 : Int32)), .unset, .unset] [(.int (144 : Int32))]) _
          refine Go.by (fun t k => XS.istore X1.here hx rfl (hb hby d1_95) rfl (l' := #[.val (.ref a1), .val (.int p2), .val (.int p3), .val (.int (b0 &&& (255 : Int32))), .val (.int nn), .val (.int (144 : Int32)), .val (.int (191 : Int32)), .unset, .unset]) rfl k) ?_
          show Go p e below T1 (mkF m 97 #[.val (.ref a1), .val (.int p2), .val (.int p3), .val (.int (b0 &&& (255 : Int32))), .val (.int nn), .val (.int (144 : Int32)), .val (.int (191 : Int32)), .unset, .unset] []) _
          refine Go.by (fun t k => XS.goto X1.here hx rfl (pc0 := 97) (pc' := 108) rfl (hb hby d1_97) (by decide) (by decide) k) ?_
          show Go p e below T1 (mkF m 108 #[.val (.ref a1), .val (.int p2), .val (.int p3), .val (.int (b0 &&& (255 : Int32))), .val (.int nn), .val (.int (144 : Int32)), .val (.int (191 : Int32)), .unset, .unset] []) _
          exact J108 (144 : Int32) (191 : Int32) ⟨by rw [hc27]; rfl, by rw [hc27]; rfl⟩
        · by_cases hc28 : (b0 &&& (255 : Int32)) = (244 : Int32)
          · refine Go.by (fun t k => X1.lookupswitchHit hx (g := (mkF m 34 #[.val (.ref a1), .val (.int p2), .val (.int p3), .val (.int (b0 &&& (255 : Int32))), .val (.int nn), .val (.int (128 : Int32)), .val (.int (191 : Int32)), .unset, .unset] [(.int (b0 &&& (255 : Int32)))])) rfl rfl (hb hby d1_34) (by decide) (a := 244) (off := 66) (by rw [hc28]; rfl) (show (0 : Int) ≤ ((34 : Nat) : Int) + 66 by decide) t k) ?_
            show Go p e below T1 (mkF m 100 #[.val (.ref a1), .val (.int p2), .val (.int p3), .val (.int (b0 &&& (255 : Int32))), .val (.int nn), .val (.int (128 : Int32)), .val (.int (191 : Int32)), .unset, .unset] []) _
            refine Go.by (fun t k => XS.sipush X1.here hx rfl (hb hby d1_100) k) ?_
            show Go p e below T1 (mkF m 103 #[.val (.ref a1), .val (.int p2), .val (.int p3), .val (.int (b0 &&& (255 : Int32))), .val (.int nn), .val (.int (128 : Int32)), .val (.int (191 : Int32)), .unset, .unset] [(.int (143 : Int32))]) _
            refine Go.by (fun t k => XS.istore X1.here hx rfl (hb hby d1_103) rfl (l' := #[.val (.ref a1), .val (.int p2), .val (.int p3), .val (.int (b0 &&& (255 : Int32))), .val (.int nn), .val (.int (128 : Int32)), .val (.int (143 : Int32)), .unset, .unset]) rfl k) ?_
            show Go p e below T1 (mkF m 105 #[.val (.ref a1), .val (.int p2), .val (.int p3), .val (.int (b0 &&& (255 : Int32))), .val (.int nn), .val (.int (128 : Int32)), .val (.int (143 : Int32)), .unset, .unset] []) _
            refine Go.by (fun t k => XS.goto X1.here hx rfl (pc0 := 105) (pc' := 108) rfl (hb hby d1_105) (by decide) (by decide) k) ?_
            show Go p e below T1 (mkF m 108 #[.val (.ref a1), .val (.int p2), .val (.int p3), .val (.int (b0 &&& (255 : Int32))), .val (.int nn), .val (.int (128 : Int32)), .val (.int (143 : Int32)), .unset, .unset] []) _
            exact J108 (128 : Int32) (143 : Int32) ⟨by rw [hc28]; rfl, by rw [hc28]; rfl⟩
          · refine Go.by (fun t k => X1.lookupswitchMiss hx (g := (mkF m 34 #[.val (.ref a1), .val (.int p2), .val (.int p3), .val (.int (b0 &&& (255 : Int32))), .val (.int nn), .val (.int (128 : Int32)), .val (.int (191 : Int32)), .unset, .unset] [(.int (b0 &&& (255 : Int32)))])) rfl rfl (hb hby d1_34) (by decide) (own_sw _ hc25 hc26 hc27 hc28) (show (0 : Int) ≤ ((34 : Nat) : Int) + 74 by decide) t k) ?_
            show Go p e below T1 (mkF m 108 #[.val (.ref a1), .val (.int p2), .val (.int p3), .val (.int (b0 &&& (255 : Int32))), .val (.int nn), .val (.int (128 : Int32)), .val (.int (191 : Int32)), .unset, .unset] []) _
            exact J108 (128 : Int32) (191 : Int32) (own_miss _ hc25 hc26 hc27 hc28)
def own_n (lb : Int32) : Int32 := if lb < 192 then 0 else if lb < 224 then 2 else if lb < 240 then 3 else if lb < 248 then 4 else 0
def own_ok1 (n av : Int32) : Int32 := if 0 < n then (if av < n then 0 else 1) else 0
def own_ok2 (ok x1 : Int32) : Int32 := if ok = 0 then ok else if f3 x1 = 0 then 0 else ok
def own_ok3 (ok n x2 : Int32) : Int32 := if ok = 0 then ok else if n < 3 then ok else if f3 x2 = 0 then 0 else ok
def own_ok4 (ok n x3 : Int32) : Int32 := if ok = 0 then ok else if n = 4 then (if f3 x3 = 0 then 0 else ok) else ok
def own_cp (n lb x1 x2 x3 : Int32) : Int32 := if n = 2 then (((lb &&& (31 : Int32)) <<< ((6 : Int32) &&& 31)) ||| (x1 &&& (63 : Int32))) else if n = 3 then ((((lb &&& (15 : Int32)) <<< ((12 : Int32) &&& 31)) ||| ((x1 &&& (63 : Int32)) <<< ((6 : Int32) &&& 31))) ||| (x2 &&& (63 : Int32))) else if n = 4 then (((((lb &&& (7 : Int32)) <<< ((18 : Int32) &&& 31)) ||| ((x1 &&& (63 : Int32)) <<< ((12 : Int32) &&& 31))) ||| ((x2 &&& (63 : Int32)) <<< ((6 : Int32) &&& 31))) ||| (x3 &&& (63 : Int32))) else 0
def own_mn (n : Int32) : Int32 := if n = 2 then 128 else if n = 3 then 2048 else if n = 4 then 65536 else 0
def own_ok5 (ok cp mn : Int32) : Int32 := if ok = 0 then ok else if cp < mn then 0 else if 1114111 < cp then 0 else if cp < 55296 then ok else if 57343 < cp then ok else 0
def own_ex (ok l n : Int32) : Int32 := if ok = 0 then -1 else l + n
def own_exp (l av lb x1 x2 x3 : Int32) : Int32 := own_ex (own_ok5 (own_ok4 (own_ok3 (own_ok2 (own_ok1 (own_n lb) av) x1) (own_n lb) x2) (own_n lb) x3) (own_cp (own_n lb) lb x1 x2 x3) (own_mn (own_n lb))) l (own_n lb)
theorem own_l01 (p5 l : Int32) (h : (p5 &&& (1 : Int32)) = l) : l = 0 ∨ l = 1 := by
  have e := Jvm.Kit.i32_mask p5 1 (k := 1) (by decide) (by decide)
  rw [h] at e
  have z : (0 : Int32).toInt = 0 := rfl
  have o : (1 : Int32).toInt = 1 := rfl
  rcases (by omega : l.toInt = 0 ∨ l.toInt = 1) with q | q
  · exact Or.inl (Int32.toInt_inj.mp (by omega))
  · exact Or.inr (Int32.toInt_inj.mp (by omega))
theorem own_toNat {x : Int32} {n : Nat} (h : x.toInt = (n : Int)) : x.toBitVec.toNat = n := by
  have t : x.toInt = x.toBitVec.toInt := rfl
  have b := x.toBitVec.isLt
  rw [t, BitVec.toInt_eq_toNat_cond] at h
  split at h <;> omega
theorem own_or {x y : Int32} (k a b : Nat) (hx : x.toInt = ((2 ^ k * a : Nat) : Int)) (hy : y.toInt = (b : Int)) (hb : b < 2 ^ k) (hs : 2 ^ k * a + b < 2 ^ 31) : (x ||| y).toInt = ((2 ^ k * a + b : Nat) : Int) := by
  have ex : x.toBitVec.toNat = 2 ^ k * a := own_toNat hx
  have ey : y.toBitVec.toNat = b := own_toNat hy
  have e : (x ||| y).toBitVec.toNat = 2 ^ k * a + b := by
    rw [Int32.toBitVec_or, BitVec.toNat_or, ex, ey, Nat.two_pow_add_eq_or_of_lt hb]
  have t : (x ||| y).toInt = (x ||| y).toBitVec.toInt := rfl
  rw [t, BitVec.toInt_eq_toNat_cond, e, if_pos (by omega)]
theorem own_byte (x : Int32) : (nar .byte (x.toInt8.toInt32)) &&& 255 = x &&& 255 := by
  have e1 := Jvm.Kit.i32_mask x 255 (k := 8) (by decide) (by decide)
  have e2 := Jvm.Kit.i32_mask (x.toInt8.toInt32.toInt8.toInt32) 255 (k := 8) (by decide) (by decide)
  show (x.toInt8.toInt32.toInt8.toInt32) &&& 255 = x &&& 255
  apply Int32.toInt_inj.mp
  rw [e1, e2]
  simp only [Int8.toInt_toInt32, Int32.toInt_toInt8, Int.bmod_def]
  omega
theorem own_lbr (p1 lb : Int32) (h : ((128 : Int32) ||| (p1 &&& (127 : Int32))) = lb) : 128 ≤ lb.toInt ∧ lb.toInt ≤ 255 := by
  have e := Jvm.Kit.i32_mask p1 127 (k := 7) (by decide) (by decide)
  have o : (128 : Int32).toInt = ((2 ^ 7 * 1 : Nat) : Int) := rfl
  have r := own_or (x := 128) (y := p1 &&& 127) 7 1 (p1.toInt % 2 ^ 7).toNat o (by rw [e]; omega) (by omega) (by omega)
  rw [h] at r
  omega
theorem own_255 (x : Int32) (h : 0 ≤ x.toInt) (h2 : x.toInt ≤ 255) : x &&& 255 = x := by
  have e := Jvm.Kit.i32_mask x 255 (k := 8) (by decide) (by decide)
  apply Int32.toInt_inj.mp
  rw [e]; omega
theorem own_x (p : Int32) : 0 ≤ (p &&& 255).toInt ∧ (p &&& 255).toInt ≤ 255 := by
  have e := Jvm.Kit.i32_mask p 255 (k := 8) (by decide) (by decide)
  omega
theorem own_avr (p5 av : Int32) (h : ((own_ushr p5 (1 : Int32)) &&& (3 : Int32)) + (1 : Int32) = av) : 1 ≤ av.toInt ∧ av.toInt ≤ 4 := by
  have e := Jvm.Kit.i32_mask (own_ushr p5 1) 3 (k := 2) (by decide) (by decide)
  have o : (1 : Int32).toInt = 1 := rfl
  rw [← h, Jvm.Kit.i32_add (by omega) (by omega)]; omega
theorem own_cp2 (lb x1 : Int32) : (((lb &&& (31 : Int32)) <<< ((6 : Int32) &&& 31)) ||| (x1 &&& (63 : Int32))).toInt = (lb.toInt % 32) * 64 + x1.toInt % 64 := by
  have a := Jvm.Kit.i32_mask lb 31 (k := 5) (by decide) (by decide)
  have b := Jvm.Kit.i32_mask x1 63 (k := 6) (by decide) (by decide)
  have c : ((lb &&& (31 : Int32)) <<< ((6 : Int32) &&& 31)).toInt = (lb &&& (31 : Int32)).toInt * 2 ^ 6 := Jvm.Kit.i32_shl _ _ (by decide) (by omega) (by omega)
  rw [own_or 6 (lb.toInt % 32).toNat (x1.toInt % 64).toNat (by rw [c, a]; omega) (by rw [b]; omega) (by omega) (by omega)]
  omega
theorem own_cp3 (lb x1 x2 : Int32) : ((((lb &&& (15 : Int32)) <<< ((12 : Int32) &&& 31)) ||| ((x1 &&& (63 : Int32)) <<< ((6 : Int32) &&& 31))) ||| (x2 &&& (63 : Int32))).toInt = (lb.toInt % 16) * 4096 + (x1.toInt % 64) * 64 + x2.toInt % 64 := by
  have a := Jvm.Kit.i32_mask lb 15 (k := 4) (by decide) (by decide)
  have b := Jvm.Kit.i32_mask x1 63 (k := 6) (by decide) (by decide)
  have b2 := Jvm.Kit.i32_mask x2 63 (k := 6) (by decide) (by decide)
  have c : ((lb &&& (15 : Int32)) <<< ((12 : Int32) &&& 31)).toInt = (lb &&& (15 : Int32)).toInt * 2 ^ 12 := Jvm.Kit.i32_shl _ _ (by decide) (by omega) (by omega)
  have d : ((x1 &&& (63 : Int32)) <<< ((6 : Int32) &&& 31)).toInt = (x1 &&& (63 : Int32)).toInt * 2 ^ 6 := Jvm.Kit.i32_shl _ _ (by decide) (by omega) (by omega)
  have e := own_or 12 (lb.toInt % 16).toNat ((x1.toInt % 64).toNat * 64) (by rw [c, a]; omega) (by rw [d, b]; omega) (by omega) (by omega)
  rw [own_or 6 ((lb.toInt % 16).toNat * 64 + (x1.toInt % 64).toNat) (x2.toInt % 64).toNat (by rw [e]; omega) (by rw [b2]; omega) (by omega) (by omega)]
  omega
theorem own_cp4 (lb x1 x2 x3 : Int32) : (((((lb &&& (7 : Int32)) <<< ((18 : Int32) &&& 31)) ||| ((x1 &&& (63 : Int32)) <<< ((12 : Int32) &&& 31))) ||| ((x2 &&& (63 : Int32)) <<< ((6 : Int32) &&& 31))) ||| (x3 &&& (63 : Int32))).toInt = (lb.toInt % 8) * 262144 + (x1.toInt % 64) * 4096 + (x2.toInt % 64) * 64 + x3.toInt % 64 := by
  have a := Jvm.Kit.i32_mask lb 7 (k := 3) (by decide) (by decide)
  have b := Jvm.Kit.i32_mask x1 63 (k := 6) (by decide) (by decide)
  have b2 := Jvm.Kit.i32_mask x2 63 (k := 6) (by decide) (by decide)
  have b3 := Jvm.Kit.i32_mask x3 63 (k := 6) (by decide) (by decide)
  have c : ((lb &&& (7 : Int32)) <<< ((18 : Int32) &&& 31)).toInt = (lb &&& (7 : Int32)).toInt * 2 ^ 18 := Jvm.Kit.i32_shl _ _ (by decide) (by omega) (by omega)
  have d : ((x1 &&& (63 : Int32)) <<< ((12 : Int32) &&& 31)).toInt = (x1 &&& (63 : Int32)).toInt * 2 ^ 12 := Jvm.Kit.i32_shl _ _ (by decide) (by omega) (by omega)
  have d2 : ((x2 &&& (63 : Int32)) <<< ((6 : Int32) &&& 31)).toInt = (x2 &&& (63 : Int32)).toInt * 2 ^ 6 := Jvm.Kit.i32_shl _ _ (by decide) (by omega) (by omega)
  have e := own_or 18 (lb.toInt % 8).toNat ((x1.toInt % 64).toNat * 4096) (by rw [c, a]; omega) (by rw [d, b]; omega) (by omega) (by omega)
  have e2 := own_or 12 ((lb.toInt % 8).toNat * 64 + (x1.toInt % 64).toNat) ((x2.toInt % 64).toNat * 64) (by rw [e]; omega) (by rw [d2, b2]; omega) (by omega) (by omega)
  rw [own_or 6 (((lb.toInt % 8).toNat * 64 + (x1.toInt % 64).toNat) * 64 + (x2.toInt % 64).toNat) (x3.toInt % 64).toNat (by rw [e2]; omega) (by rw [b3]; omega) (by omega) (by omega)]
  omega
theorem own_f0 (x : Int32) : f3 x = 0 ↔ (x < 128 ∨ 191 < x) := by
  rw [f3]
  by_cases h1 : x < 128
  · rw [if_pos h1]; exact ⟨fun _ => Or.inl h1, fun _ => rfl⟩
  · rw [if_neg h1]
    by_cases h2 : 191 < x
    · rw [if_pos h2]; exact ⟨fun _ => Or.inr h2, fun _ => rfl⟩
    · rw [if_neg h2]; exact ⟨fun q => absurd q (by decide), fun q => absurd q (not_or.mpr ⟨h1, h2⟩)⟩
theorem own_E0 (l av cp mn x1 x2 x3 : Int32) : own_ex (own_ok5 (own_ok4 (own_ok3 (own_ok2 (own_ok1 0 av) x1) 0 x2) 0 x3) cp mn) l 0 = -1 := by
  have h1 : own_ok1 0 av = 0 := by rw [own_ok1, if_neg (by decide)]
  rw [h1, own_ok2, if_pos rfl, own_ok3, if_pos rfl, own_ok4, if_pos rfl, own_ok5, if_pos rfl, own_ex, if_pos rfl]
def own_good (cp mn : Int32) : Prop := ¬ cp < mn ∧ ¬ 1114111 < cp ∧ (cp < 55296 ∨ 57343 < cp)
theorem own_E5 (ok cp mn : Int32) : own_ok5 ok cp mn = 0 ↔ (ok = 0 ∨ ¬ own_good cp mn) := by
  unfold own_ok5 own_good
  by_cases h : ok = 0
  · simp [h]
  · by_cases h1 : cp < mn
    · simp [h, h1]
    · by_cases h2 : 1114111 < cp
      · simp [h, h1, h2]
      · by_cases h3 : cp < 55296
        · simp [h, h1, h2, h3]
        · by_cases h4 : 57343 < cp
          · simp [h, h1, h2, h3, h4]
          · simp [h, h1, h2, h3, h4]
theorem own_E1 (n av : Int32) (h : 0 < n) : own_ok1 n av = 0 ↔ av < n := by
  rw [own_ok1, if_pos h]
  by_cases q : av < n
  · simp [q]
  · simp [q]
theorem own_E2 (ok x : Int32) : own_ok2 ok x = 0 ↔ (ok = 0 ∨ f3 x = 0) := by
  unfold own_ok2
  by_cases h : ok = 0
  · simp [h]
  · by_cases q : f3 x = 0
    · simp [h, q]
    · simp [h, q]
theorem own_E3 (ok n x : Int32) : own_ok3 ok n x = 0 ↔ (ok = 0 ∨ (¬ n < 3 ∧ f3 x = 0)) := by
  unfold own_ok3
  by_cases h : ok = 0
  · simp [h]
  · by_cases q : n < 3
    · simp [h, q]
    · by_cases r : f3 x = 0
      · simp [h, q, r]
      · simp [h, q, r]
theorem own_E4 (ok n x : Int32) : own_ok4 ok n x = 0 ↔ (ok = 0 ∨ (n = 4 ∧ f3 x = 0)) := by
  unfold own_ok4
  by_cases h : ok = 0
  · simp [h]
  · by_cases q : n = 4
    · by_cases r : f3 x = 0
      · simp [h, q, r]
      · simp [h, q, r]
    · simp [h, q]
/-- what the law expects, with the length n > 0 -/
theorem own_E (l n av cp mn x1 x2 x3 : Int32) (h : 0 < n) (P : Prop) [Decidable P] (hP : P ↔ ¬ (((((av < n) ∨ (x1 < 128 ∨ 191 < x1)) ∨ (¬ n < 3 ∧ (x2 < 128 ∨ 191 < x2))) ∨ (n = 4 ∧ (x3 < 128 ∨ 191 < x3))) ∨ ¬ own_good cp mn)) :
    own_ex (own_ok5 (own_ok4 (own_ok3 (own_ok2 (own_ok1 n av) x1) n x2) n x3) cp mn) l n = if P then l + n else -1 := by
  have e : own_ok5 (own_ok4 (own_ok3 (own_ok2 (own_ok1 n av) x1) n x2) n x3) cp mn = 0 ↔ ¬ P := by
    rw [own_E5, own_E4, own_E3, own_E2, own_E1 n av h, own_f0, own_f0, own_f0, hP, Classical.not_not]
  rw [own_ex]
  by_cases q : P
  · rw [if_pos q, if_neg (fun r => e.mp r q)]
  · rw [if_neg q, if_pos (e.mpr q)]
theorem own_idx (l av : Int32) (k kk : Int32) (hl : l = 0 ∨ l = 1) (ha : 1 ≤ av.toInt ∧ av.toInt ≤ 4) (hk : 0 ≤ k.toInt ∧ k.toInt ≤ 3) (hkk : kk.toInt = k.toInt + 1) : l + k < l + av ↔ ¬ av < kk := by
  have z : (0 : Int32).toInt = 0 := rfl
  have o : (1 : Int32).toInt = 1 := rfl
  have hl2 : 0 ≤ l.toInt ∧ l.toInt ≤ 1 := by rcases hl with rfl | rfl <;> omega
  rw [Int32.lt_iff_toInt_lt, Int32.lt_iff_toInt_lt, Jvm.Kit.i32_add (by omega) (by omega), Jvm.Kit.i32_add (by omega) (by omega)]
  omega
theorem own_L2 (l av lo hi y1 y2 y3 : Int32) (hl : l = 0 ∨ l = 1) (ha : 1 ≤ av.toInt ∧ av.toInt ≤ 4) (hlo : (-1 : Int32) < lo) : own_lq l (l + av) 2 lo hi y1 y2 y3 = if (¬ av < 2 ∧ ¬ y1 < lo ∧ ¬ hi < y1) then l + 2 else -1 := by
  have i1 := own_idx l av 1 2 hl ha (by decide) (by decide)
  unfold own_lq
  by_cases a2 : av < 2 <;> by_cases c1 : y1 < lo <;> by_cases c2 : hi < y1 <;> simp [i1, a2, c1, c2, hlo]
theorem own_L3 (l av lo hi y1 y2 y3 : Int32) (hl : l = 0 ∨ l = 1) (ha : 1 ≤ av.toInt ∧ av.toInt ≤ 4) (hlo : (-1 : Int32) < lo) : own_lq l (l + av) 3 lo hi y1 y2 y3 = if (¬ av < 3 ∧ ¬ y1 < lo ∧ ¬ hi < y1 ∧ ¬ y2 < 128 ∧ ¬ 191 < y2) then l + 3 else -1 := by
  have i1 := own_idx l av 1 2 hl ha (by decide) (by decide)
  have i2 := own_idx l av 2 3 hl ha (by decide) (by decide)
  have m1 : av < 2 → av < 3 := fun q => by rw [Int32.lt_iff_toInt_lt] at q ⊢; exact Int.lt_trans q (by decide)
  unfold own_lq
  by_cases a2 : av < 2
  · have a3 := m1 a2
    simp [i1, i2, a2, a3, hlo]
  · by_cases a3 : av < 3 <;> by_cases c1 : y1 < lo <;> by_cases c2 : hi < y1 <;> by_cases c3 : y2 < 128 <;> by_cases c4 : 191 < y2 <;> simp [i1, i2, a2, a3, c1, c2, c3, c4, hlo]
theorem own_L4 (l av lo hi y1 y2 y3 : Int32) (hl : l = 0 ∨ l = 1) (ha : 1 ≤ av.toInt ∧ av.toInt ≤ 4) (hlo : (-1 : Int32) < lo) : own_lq l (l + av) 4 lo hi y1 y2 y3 = if (¬ av < 4 ∧ ¬ y1 < lo ∧ ¬ hi < y1 ∧ ¬ y2 < 128 ∧ ¬ 191 < y2 ∧ ¬ y3 < 128 ∧ ¬ 191 < y3) then l + 4 else -1 := by
  have i1 := own_idx l av 1 2 hl ha (by decide) (by decide)
  have i2 := own_idx l av 2 3 hl ha (by decide) (by decide)
  have i3 := own_idx l av 3 4 hl ha (by decide) (by decide)
  have m1 : av < 2 → av < 3 := fun q => by rw [Int32.lt_iff_toInt_lt] at q ⊢; exact Int.lt_trans q (by decide)
  have m2 : av < 3 → av < 4 := fun q => by rw [Int32.lt_iff_toInt_lt] at q ⊢; exact Int.lt_trans q (by decide)
  unfold own_lq
  by_cases a2 : av < 2
  · have a3 := m1 a2
    have a4 := m2 a3
    simp [i1, i2, i3, a2, a3, a4, hlo]
  · by_cases c1 : y1 < lo
    · simp [i1, i2, i3, a2, c1, hlo]
    · by_cases c2 : hi < y1
      · simp [i1, i2, i3, a2, c1, c2, hlo]
      · by_cases a3 : av < 3
        · have a4 := m2 a3
          simp [i1, i2, i3, a2, a3, a4, c1, c2, hlo]
        · by_cases c3 : y2 < 128
          · simp [i1, i2, i3, a2, a3, c1, c2, c3, hlo]
          · by_cases c4 : 191 < y2
            · simp [i1, i2, i3, a2, a3, c1, c2, c3, c4, hlo]
            · by_cases a4 : av < 4 <;> by_cases c5 : y3 < 128 <;> by_cases c6 : 191 < y3 <;> simp [i1, i2, i3, a2, a3, a4, c1, c2, c3, c4, c5, c6, hlo]
theorem own_loI (lb : Int32) : (own_lo lb).toInt = if lb.toInt = 224 then 160 else if lb.toInt = 240 then 144 else 128 := by
  unfold own_lo
  simp only [← Int32.toInt_inj (y := 224), ← Int32.toInt_inj (y := 240), Int32.reduceToInt]
  repeat' split
  all_goals rfl
theorem own_hiI (lb : Int32) : (own_hi lb).toInt = if lb.toInt = 237 then 159 else if lb.toInt = 244 then 143 else 191 := by
  unfold own_hi
  simp only [← Int32.toInt_inj (y := 237), ← Int32.toInt_inj (y := 244), Int32.reduceToInt]
  repeat' split
  all_goals rfl
theorem own_lom (lb : Int32) : (-1 : Int32) < own_lo lb := by
  unfold own_lo
  repeat' split
  all_goals decide
theorem own_main (l av lb x1 x2 x3 : Int32) (hl : l = 0 ∨ l = 1) (ha : 1 ≤ av.toInt ∧ av.toInt ≤ 4) (hb : 128 ≤ lb.toInt ∧ lb.toInt ≤ 255) (h1 : 0 ≤ x1.toInt ∧ x1.toInt ≤ 255) (h2 : 0 ≤ x2.toInt ∧ x2.toInt ≤ 255) (h3 : 0 ≤ x3.toInt ∧ x3.toInt ≤ 255) :
    (if own_ln lb = 0 then -1 else own_lq l (l + av) (own_ln lb) (own_lo lb) (own_hi lb) x1 x2 x3) = own_exp l av lb x1 x2 x3 := by
  have elo := own_loI lb
  have ehi := own_hiI lb
  have hlo := own_lom lb
  have q2 : own_cp 2 lb x1 x2 x3 = (((lb &&& (31 : Int32)) <<< ((6 : Int32) &&& 31)) ||| (x1 &&& (63 : Int32))) := by rw [own_cp, if_pos rfl]
  have q3 : own_cp 3 lb x1 x2 x3 = ((((lb &&& (15 : Int32)) <<< ((12 : Int32) &&& 31)) ||| ((x1 &&& (63 : Int32)) <<< ((6 : Int32) &&& 31))) ||| (x2 &&& (63 : Int32))) := by rw [own_cp, if_neg (by decide), if_pos rfl]
  have q4 : own_cp 4 lb x1 x2 x3 = (((((lb &&& (7 : Int32)) <<< ((18 : Int32) &&& 31)) ||| ((x1 &&& (63 : Int32)) <<< ((12 : Int32) &&& 31))) ||| ((x2 &&& (63 : Int32)) <<< ((6 : Int32) &&& 31))) ||| (x3 &&& (63 : Int32))) := by rw [own_cp, if_neg (by decide), if_neg (by decide), if_pos rfl]
  have c2 := own_cp2 lb x1
  have c3 := own_cp3 lb x1 x2
  have c4 := own_cp4 lb x1 x2 x3
  rw [← q2] at c2
  rw [← q3] at c3
  rw [← q4] at c4
  have m2 : own_mn 2 = 128 := by decide
  have m3 : own_mn 3 = 2048 := by decide
  have m4 : own_mn 4 = 65536 := by decide
  unfold own_exp
  rcases (by omega : (lb.toInt < 192 ∨ 248 ≤ lb.toInt) ∨ (192 ≤ lb.toInt ∧ lb.toInt ≤ 193) ∨ (245 ≤ lb.toInt ∧ lb.toInt ≤ 247) ∨ (194 ≤ lb.toInt ∧ lb.toInt ≤ 223) ∨ (224 ≤ lb.toInt ∧ lb.toInt ≤ 239) ∨ (240 ≤ lb.toInt ∧ lb.toInt ≤ 244)) with r | r | r | r | r | r
  · have hln : own_ln lb = 0 := by
      unfold own_ln
      simp only [Int32.lt_iff_toInt_lt, Int32.reduceToInt]
      repeat' split
      all_goals first | rfl | (exfalso; omega)
    have hn : own_n lb = 0 := by
      unfold own_n
      simp only [Int32.lt_iff_toInt_lt, Int32.reduceToInt]
      repeat' split
      all_goals first | rfl | (exfalso; omega)
    rw [hln, if_pos rfl, hn]
    exact (own_E0 l av _ _ x1 x2 x3).symm
  · have hln : own_ln lb = 0 := by
      unfold own_ln
      simp only [Int32.lt_iff_toInt_lt, Int32.reduceToInt]
      repeat' split
      all_goals first | rfl | (exfalso; omega)
    have hn : own_n lb = 2 := by
      unfold own_n
      simp only [Int32.lt_iff_toInt_lt, Int32.reduceToInt]
      repeat' split
      all_goals first | rfl | (exfalso; omega)
    rw [hln, if_pos rfl, hn]
    rw [m2]
    generalize own_cp 2 lb x1 x2 x3 = cp at c2 ⊢
    rw [own_E l 2 av cp _ x1 x2 x3 (by decide) False ?_, if_neg id]
    unfold own_good
    simp only [Int32.lt_iff_toInt_lt, Int32.reduceToInt, false_and, true_and, or_false, false_iff, Classical.not_not, show ((2 : Int32) = 4) = False from eq_false (by decide), elo, ehi]
    clear q2 q3 q4
    omega
  · have hln : own_ln lb = 0 := by
      unfold own_ln
      simp only [Int32.lt_iff_toInt_lt, Int32.reduceToInt]
      repeat' split
      all_goals first | rfl | (exfalso; omega)
    have hn : own_n lb = 4 := by
      unfold own_n
      simp only [Int32.lt_iff_toInt_lt, Int32.reduceToInt]
      repeat' split
      all_goals first | rfl | (exfalso; omega)
    rw [hln, if_pos rfl, hn]
    rw [m4]
    generalize own_cp 4 lb x1 x2 x3 = cp at c4 ⊢
    rw [own_E l 4 av cp _ x1 x2 x3 (by decide) False ?_, if_neg id]
    unfold own_good
    simp only [Int32.lt_iff_toInt_lt, Int32.reduceToInt, false_and, true_and, or_false, false_iff, Classical.not_not, show ((4 : Int32) = 4) = True from eq_true (by decide), elo, ehi]
    clear q2 q3 q4
    omega
  · have hln : own_ln lb = 2 := by
      unfold own_ln
      simp only [Int32.lt_iff_toInt_lt, Int32.reduceToInt]
      repeat' split
      all_goals first | rfl | (exfalso; omega)
    have hn : own_n lb = 2 := by
      unfold own_n
      simp only [Int32.lt_iff_toInt_lt, Int32.reduceToInt]
      repeat' split
      all_goals first | rfl | (exfalso; omega)
    rw [hln, if_neg (by decide), own_L2 l av _ _ x1 x2 x3 hl ha hlo, hn]
    rw [m2]
    generalize own_cp 2 lb x1 x2 x3 = cp at c2 ⊢
    refine (own_E l 2 av cp _ x1 x2 x3 (by decide) _ ?_).symm
    unfold own_good
    simp only [Int32.lt_iff_toInt_lt, Int32.reduceToInt, false_and, true_and, or_false, false_iff, Classical.not_not, show ((2 : Int32) = 4) = False from eq_false (by decide), elo, ehi]
    clear q2 q3 q4
    omega
  · have hln : own_ln lb = 3 := by
      unfold own_ln
      simp only [Int32.lt_iff_toInt_lt, Int32.reduceToInt]
      repeat' split
      all_goals first | rfl | (exfalso; omega)
    have hn : own_n lb = 3 := by
      unfold own_n
      simp only [Int32.lt_iff_toInt_lt, Int32.reduceToInt]
      repeat' split
      all_goals first | rfl | (exfalso; omega)
    rw [hln, if_neg (by decide), own_L3 l av _ _ x1 x2 x3 hl ha hlo, hn]
    rw [m3]
    generalize own_cp 3 lb x1 x2 x3 = cp at c3 ⊢
    refine (own_E l 3 av cp _ x1 x2 x3 (by decide) _ ?_).symm
    unfold own_good
    simp only [Int32.lt_iff_toInt_lt, Int32.reduceToInt, false_and, true_and, or_false, false_iff, Classical.not_not, show ((3 : Int32) = 4) = False from eq_false (by decide), elo, ehi]
    clear q2 q3 q4
    omega
  · have hln : own_ln lb = 4 := by
      unfold own_ln
      simp only [Int32.lt_iff_toInt_lt, Int32.reduceToInt]
      repeat' split
      all_goals first | rfl | (exfalso; omega)
    have hn : own_n lb = 4 := by
      unfold own_n
      simp only [Int32.lt_iff_toInt_lt, Int32.reduceToInt]
      repeat' split
      all_goals first | rfl | (exfalso; omega)
    rw [hln, if_neg (by decide), own_L4 l av _ _ x1 x2 x3 hl ha hlo, hn]
    rw [m4]
    generalize own_cp 4 lb x1 x2 x3 = cp at c4 ⊢
    refine (own_E l 4 av cp _ x1 x2 x3 (by decide) _ ?_).symm
    unfold own_good
    simp only [Int32.lt_iff_toInt_lt, Int32.reduceToInt, false_and, true_and, or_false, false_iff, Classical.not_not, show ((4 : Int32) = 4) = True from eq_true (by decide), elo, ehi]
    clear q2 q3 q4
    omega
theorem own_final (l : Int32) (hl : l = 0 ∨ l = 1) (p1 p2 p3 p4 p5 av lb : Int32) (hav : ((own_ushr p5 (1 : Int32)) &&& (3 : Int32)) + (1 : Int32) = av) (hlb : ((128 : Int32) ||| (p1 &&& (127 : Int32))) = lb) :
    own_ce l (l + av) (nar .byte (((128 : Int32) ||| (p1 &&& (127 : Int32))).toInt8.toInt32)) (nar .byte (p2.toInt8.toInt32)) (nar .byte (p3.toInt8.toInt32)) (nar .byte (p4.toInt8.toInt32)) = own_exp l av lb (p2 &&& 255) (p3 &&& 255) (p4 &&& 255) := by
  have r := own_lbr p1 lb hlb
  have e0 : (nar .byte (((128 : Int32) ||| (p1 &&& (127 : Int32))).toInt8.toInt32)) &&& 255 = lb := by
    rw [hlb, own_byte, own_255 lb (by omega) (by omega)]
  rw [own_ce, own_lnE, own_lpE, e0, own_byte, own_byte, own_byte]
  exact own_main l av lb _ _ _ hl (own_avr p5 av hav) r (own_x p2) (own_x p3) (own_x p4)

theorem pd_1 : parseMethodDescriptor "([BII)I" = some ⟨[(.array .byte), .int, .int], some .int⟩ := by decide +kernel
theorem pd_2 : parseMethodDescriptor "(I)Z" = some ⟨[.int], some .boolean⟩ := by decide +kernel
theorem ef_0 (m : MethodId) (x0 : Int32) (x1 : Int32) (x2 : Int32) (x3 : Int32) (x4 : Int32) : entryFrame m #[(.int x0), (.int x1), (.int x2), (.int x3), (.int x4)] maxLocals = mkF m 0 #[.val (.int x0), .val (.int x1), .val (.int x2), .val (.int x3), .val (.int x4), .unset, .unset, .unset, .unset, .unset, .unset, .unset, .unset, .unset, .unset, .unset, .unset, .unset] [] := by first | (simp [entryFrame, mkF, argsToLocals, Value.category, maxLocals]; done) | rfl
def Q0 (Z : State) (p1 : Int32) (p2 : Int32) (p3 : Int32) (p4 : Int32) (p5 : Int32) (h0 : Heap) (n0 : Nat) (v : Option Value) (h : Heap) (L : List Loc) : Prop := v = some (.int 1) ∧ Fr n0 L
def Pst0 (Z : State) (p1 : Int32) (p2 : Int32) (p3 : Int32) (p4 : Int32) (p5 : Int32) (h0 : Heap) (n0 : Nat) (s : State) : Outcome → State → Prop := fun o U' => ∃ v L, o = .returned v ∧ Q0 Z p1 p2 p3 p4 p5 h0 n0 v U'.heap L ∧ FrameEnd s o U' L room_1.cells room_1.slots
set_option maxRecDepth 65536 in
set_option maxHeartbeats 40000000 in
theorem rm0 (l : Launch) (Z : State) (a0 : Array Value) (hw : ∀ d ∈ tables_1, d.before a0 Z = true) (ws : List Jvm.Cond) (p1 : Int32) (p2 : Int32) (p3 : Int32) (p4 : Int32) (p5 : Int32) (h0 : Heap) (n0 : Nat) (Z0 : n0 ≤ h0.size) :
    MetFree l x (head1 (Jvm.Cond.code x code maxLocals ret :: ws) room_1) (fun a U => a = #[(.int p1), (.int p2), (.int p3), (.int p4), (.int p5)] ∧ Z.Warmed39 U.vm ∧ U.heap = h0) (fun _ _ _ _ _ => True) (fun _ U o U' => ∃ v L, o = .returned v ∧ Q0 Z p1 p2 p3 p4 p5 h0 n0 v U'.heap L ∧ FrameEnd U o U' L room_1.cells room_1.slots) := by
  refine MetFree.of_bodySF (plainFor_of_name pn_1) hisR ?_
  intro p e s m args below meth c s₁ Bd hml0 hP hK
  obtain ⟨rfl, hZ, hh⟩ := hP
  have hx := Bd.exec
  have hby := Bd.bytes
  have hml : c.maxLocals = 18 := hml0
  have hown : s.vm.findClass "com/example/tillscan/tillscan/core/Utf8CharacterEndPinLaw" = some m.cls := findClass_of_methodNamed Bd.named
  have hnm := (name_of_methodNamed Bd.named Bd.method).1
  have X0 : Stand p l e room_1 s m #[(.int p1), (.int p2), (.int p3), (.int p4), (.int p5)] below meth c s₁ [] 0 0 := Stand.of_body Bd
  have e0 : s₁.heap = h0 := by rw [← hh, Bd.state]; rfl
  have N0 := Fr.nil n0
  refine Go.start (ef_0 m p1 p2 p3 p4 p5) ?_
  show Go p e below s₁ (mkF m 0 #[.val (.int p1), .val (.int p2), .val (.int p3), .val (.int p4), .val (.int p5), .unset, .unset, .unset, .unset, .unset, .unset, .unset, .unset, .unset, .unset, .unset, .unset, .unset] []) _
  refine Go.by (fun t k => XS.iload X0.here hx rfl (hb hby at_0) rfl k) ?_
  show Go p e below s₁ (mkF m 2 #[.val (.int p1), .val (.int p2), .val (.int p3), .val (.int p4), .val (.int p5), .unset, .unset, .unset, .unset, .unset, .unset, .unset, .unset, .unset, .unset, .unset, .unset, .unset] [(.int p5)]) _
  refine Go.by (fun t k => XS.iconst X0.here hx rfl (hb hby at_2) k) ?_
  show Go p e below s₁ (mkF m 3 #[.val (.int p1), .val (.int p2), .val (.int p3), .val (.int p4), .val (.int p5), .unset, .unset, .unset, .unset, .unset, .unset, .unset, .unset, .unset, .unset, .unset, .unset, .unset] [(.int (1 : Int32)), (.int p5)]) _
  refine Go.by (fun t k => XS.iand X0.here hx rfl (hb hby at_3) rfl k) ?_
  show Go p e below s₁ (mkF m 4 #[.val (.int p1), .val (.int p2), .val (.int p3), .val (.int p4), .val (.int p5), .unset, .unset, .unset, .unset, .unset, .unset, .unset, .unset, .unset, .unset, .unset, .unset, .unset] [(.int (p5 &&& (1 : Int32)))]) _
  refine Go.by (fun t k => XS.istore X0.here hx rfl (hb hby at_4) rfl (l' := #[.val (.int p1), .val (.int p2), .val (.int p3), .val (.int p4), .val (.int p5), .val (.int (p5 &&& (1 : Int32))), .unset, .unset, .unset, .unset, .unset, .unset, .unset, .unset, .unset, .unset, .unset, .unset]) rfl k) ?_
  show Go p e below s₁ (mkF m 6 #[.val (.int p1), .val (.int p2), .val (.int p3), .val (.int p4), .val (.int p5), .val (.int (p5 &&& (1 : Int32))), .unset, .unset, .unset, .unset, .unset, .unset, .unset, .unset, .unset, .unset, .unset, .unset] []) _
  generalize h_l : (p5 &&& (1 : Int32)) = ll
  rcases own_l01 p5 ll h_l with rfl | rfl
  · show Go p e below s₁ (mkF m 6 #[.val (.int p1), .val (.int p2), .val (.int p3), .val (.int p4), .val (.int p5), .val (.int (0 : Int32)), .unset, .unset, .unset, .unset, .unset, .unset, .unset, .unset, .unset, .unset, .unset, .unset] []) _
    refine Go.by (fun t k => XS.iload X0.here hx rfl (hb hby at_6) rfl k) ?_
    show Go p e below s₁ (mkF m 8 #[.val (.int p1), .val (.int p2), .val (.int p3), .val (.int p4), .val (.int p5), .val (.int (0 : Int32)), .unset, .unset, .unset, .unset, .unset, .unset, .unset, .unset, .unset, .unset, .unset, .unset] [(.int p5)]) _
    refine Go.by (fun t k => XS.iconst X0.here hx rfl (hb hby at_8) k) ?_
    show Go p e below s₁ (mkF m 9 #[.val (.int p1), .val (.int p2), .val (.int p3), .val (.int p4), .val (.int p5), .val (.int (0 : Int32)), .unset, .unset, .unset, .unset, .unset, .unset, .unset, .unset, .unset, .unset, .unset, .unset] [(.int (1 : Int32)), (.int p5)]) _
    refine Go.by (fun t k => XS.iushr X0.here hx rfl (hb hby at_9) rfl k) ?_
    show Go p e below s₁ (mkF m 10 #[.val (.int p1), .val (.int p2), .val (.int p3), .val (.int p4), .val (.int p5), .val (.int (0 : Int32)), .unset, .unset, .unset, .unset, .unset, .unset, .unset, .unset, .unset, .unset, .unset, .unset] [(.int (own_ushr p5 (1 : Int32)))]) _
    refine Go.by (fun t k => XS.iconst X0.here hx rfl (hb hby at_10) k) ?_
    show Go p e below s₁ (mkF m 11 #[.val (.int p1), .val (.int p2), .val (.int p3), .val (.int p4), .val (.int p5), .val (.int (0 : Int32)), .unset, .unset, .unset, .unset, .unset, .unset, .unset, .unset, .unset, .unset, .unset, .unset] [(.int (3 : Int32)), (.int (own_ushr p5 (1 : Int32)))]) _
    refine Go.by (fun t k => XS.iand X0.here hx rfl (hb hby at_11) rfl k) ?_
    show Go p e below s₁ (mkF m 12 #[.val (.int p1), .val (.int p2), .val (.int p3), .val (.int p4), .val (.int p5), .val (.int (0 : Int32)), .unset, .unset, .unset, .unset, .unset, .unset, .unset, .unset, .unset, .unset, .unset, .unset] [(.int ((own_ushr p5 (1 : Int32)) &&& (3 : Int32)))]) _
    refine Go.by (fun t k => XS.iconst X0.here hx rfl (hb hby at_12) k) ?_
    show Go p e below s₁ (mkF m 13 #[.val (.int p1), .val (.int p2), .val (.int p3), .val (.int p4), .val (.int p5), .val (.int (0 : Int32)), .unset, .unset, .unset, .unset, .unset, .unset, .unset, .unset, .unset, .unset, .unset, .unset] [(.int (1 : Int32)), (.int ((own_ushr p5 (1 : Int32)) &&& (3 : Int32)))]) _
    refine Go.by (fun t k => XS.iadd X0.here hx rfl (hb hby at_13) rfl k) ?_
    show Go p e below s₁ (mkF m 14 #[.val (.int p1), .val (.int p2), .val (.int p3), .val (.int p4), .val (.int p5), .val (.int (0 : Int32)), .unset, .unset, .unset, .unset, .unset, .unset, .unset, .unset, .unset, .unset, .unset, .unset] [(.int (((own_ushr p5 (1 : Int32)) &&& (3 : Int32)) + (1 : Int32)))]) _
    refine Go.by (fun t k => XS.istore X0.here hx rfl (hb hby at_14) rfl (l' := #[.val (.int p1), .val (.int p2), .val (.int p3), .val (.int p4), .val (.int p5), .val (.int (0 : Int32)), .val (.int (((own_ushr p5 (1 : Int32)) &&& (3 : Int32)) + (1 : Int32))), .unset, .unset, .unset, .unset, .unset, .unset, .unset, .unset, .unset, .unset, .unset]) rfl k) ?_
    show Go p e below s₁ (mkF m 16 #[.val (.int p1), .val (.int p2), .val (.int p3), .val (.int p4), .val (.int p5), .val (.int (0 : Int32)), .val (.int (((own_ushr p5 (1 : Int32)) &&& (3 : Int32)) + (1 : Int32))), .unset, .unset, .unset, .unset, .unset, .unset, .unset, .unset, .unset, .unset, .unset] []) _
    generalize h_av : (((own_ushr p5 (1 : Int32)) &&& (3 : Int32)) + (1 : Int32)) = av
    refine Go.by (fun t k => XS.iload X0.here hx rfl (hb hby at_16) rfl k) ?_
    show Go p e below s₁ (mkF m 18 #[.val (.int p1), .val (.int p2), .val (.int p3), .val (.int p4), .val (.int p5), .val (.int (0 : Int32)), .val (.int av), .unset, .unset, .unset, .unset, .unset, .unset, .unset, .unset, .unset, .unset, .unset] [(.int (0 : Int32))]) _
    refine Go.by (fun t k => XS.iload X0.here hx rfl (hb hby at_18) rfl k) ?_
    show Go p e below s₁ (mkF m 20 #[.val (.int p1), .val (.int p2), .val (.int p3), .val (.int p4), .val (.int p5), .val (.int (0 : Int32)), .val (.int av), .unset, .unset, .unset, .unset, .unset, .unset, .unset, .unset, .unset, .unset, .unset] [(.int av), (.int (0 : Int32))]) _
    refine Go.by (fun t k => XS.iadd X0.here hx rfl (hb hby at_20) rfl k) ?_
    show Go p e below s₁ (mkF m 21 #[.val (.int p1), .val (.int p2), .val (.int p3), .val (.int p4), .val (.int p5), .val (.int (0 : Int32)), .val (.int av), .unset, .unset, .unset, .unset, .unset, .unset, .unset, .unset, .unset, .unset, .unset] [(.int ((0 : Int32) + av))]) _
    refine Go.by (fun t k => XS.istore X0.here hx rfl (hb hby at_21) rfl (l' := #[.val (.int p1), .val (.int p2), .val (.int p3), .val (.int p4), .val (.int p5), .val (.int (0 : Int32)), .val (.int av), .val (.int ((0 : Int32) + av)), .unset, .unset, .unset, .unset, .unset, .unset, .unset, .unset, .unset, .unset]) rfl k) ?_
    show Go p e below s₁ (mkF m 23 #[.val (.int p1), .val (.int p2), .val (.int p3), .val (.int p4), .val (.int p5), .val (.int (0 : Int32)), .val (.int av), .val (.int ((0 : Int32) + av)), .unset, .unset, .unset, .unset, .unset, .unset, .unset, .unset, .unset, .unset] []) _
    refine Go.by (fun t k => XS.iconst X0.here hx rfl (hb hby at_23) k) ?_
    show Go p e below s₁ (mkF m 24 #[.val (.int p1), .val (.int p2), .val (.int p3), .val (.int p4), .val (.int p5), .val (.int (0 : Int32)), .val (.int av), .val (.int ((0 : Int32) + av)), .unset, .unset, .unset, .unset, .unset, .unset, .unset, .unset, .unset, .unset] [(.int (5 : Int32))]) _
    obtain ⟨T1, h1, k1, X1, e1, E1, A1, st1⟩ := newP X0 hx hZ (hw _ (List.mem_of_getElem? (i := 0) rfl)) e0 (g := (mkF m 24 #[.val (.int p1), .val (.int p2), .val (.int p3), .val (.int p4), .val (.int p5), .val (.int (0 : Int32)), .val (.int av), .val (.int ((0 : Int32) + av)), .unset, .unset, .unset, .unset, .unset, .unset, .unset, .unset, .unset, .unset] [(.int (5 : Int32))])) rfl (hb hby at_24) rfl (by decide) (cap := 5) (by decide) (by decide) (by decide) (by decide)
    obtain ⟨b1, g1⟩ : ∃ z, z = h0.size := ⟨_, rfl⟩
    rw [← g1] at A1 st1
    have gn1 : n0 ≤ b1 := Nat.le_trans Z0 (Nat.le_of_eq g1.symm)
    have Z1 : n0 ≤ h1.size := Nat.le_trans Z0 E1.1
    have V1 := Arv.new A1 (by decide)
    have V1p : Arv Z h1 b1 k1 .byte (5 : Int32) [(.int (0 : Int32)), (.int (0 : Int32)), (.int (0 : Int32)), (.int (0 : Int32)), (.int (0 : Int32))] (.int (0 : Int32)) := V1.pad (pad_rep [] (.int (0 : Int32)) 5)
    refine Go.by st1 ?_
    show Go p e below T1 (mkF m 26 #[.val (.int p1), .val (.int p2), .val (.int p3), .val (.int p4), .val (.int p5), .val (.int (0 : Int32)), .val (.int av), .val (.int ((0 : Int32) + av)), .unset, .unset, .unset, .unset, .unset, .unset, .unset, .unset, .unset, .unset] [(.ref b1)]) _
    refine Go.by (fun t k => XS.astore X1.here hx rfl (hb hby at_26) rfl rfl (l' := #[.val (.int p1), .val (.int p2), .val (.int p3), .val (.int p4), .val (.int p5), .val (.int (0 : Int32)), .val (.int av), .val (.int ((0 : Int32) + av)), .val (.ref b1), .unset, .unset, .unset, .unset, .unset, .unset, .unset, .unset, .unset]) rfl k) ?_
    show Go p e below T1 (mkF m 28 #[.val (.int p1), .val (.int p2), .val (.int p3), .val (.int p4), .val (.int p5), .val (.int (0 : Int32)), .val (.int av), .val (.int ((0 : Int32) + av)), .val (.ref b1), .unset, .unset, .unset, .unset, .unset, .unset, .unset, .unset, .unset] []) _
    refine Go.by (fun t k => XS.aload X1.here hx rfl (hb hby at_28) rfl rfl k) ?_
    show Go p e below T1 (mkF m 30 #[.val (.int p1), .val (.int p2), .val (.int p3), .val (.int p4), .val (.int p5), .val (.int (0 : Int32)), .val (.int av), .val (.int ((0 : Int32) + av)), .val (.ref b1), .unset, .unset, .unset, .unset, .unset, .unset, .unset, .unset, .unset] [(.ref b1)]) _
    refine Go.by (fun t k => XS.iconst X1.here hx rfl (hb hby at_30) k) ?_
    show Go p e below T1 (mkF m 31 #[.val (.int p1), .val (.int p2), .val (.int p3), .val (.int p4), .val (.int p5), .val (.int (0 : Int32)), .val (.int av), .val (.int ((0 : Int32) + av)), .val (.ref b1), .unset, .unset, .unset, .unset, .unset, .unset, .unset, .unset, .unset] [(.int (0 : Int32)), (.ref b1)]) _
    refine Go.by (fun t k => XS.iloadN X1.here hx rfl (hb hby at_31) rfl k) ?_
    show Go p e below T1 (mkF m 32 #[.val (.int p1), .val (.int p2), .val (.int p3), .val (.int p4), .val (.int p5), .val (.int (0 : Int32)), .val (.int av), .val (.int ((0 : Int32) + av)), .val (.ref b1), .unset, .unset, .unset, .unset, .unset, .unset, .unset, .unset, .unset] [(.int p3), (.int (0 : Int32)), (.ref b1)]) _
    refine Go.by (fun t k => XS.i2b X1.here hx rfl (hb hby at_32) rfl k) ?_
    show Go p e below T1 (mkF m 33 #[.val (.int p1), .val (.int p2), .val (.int p3), .val (.int p4), .val (.int p5), .val (.int (0 : Int32)), .val (.int av), .val (.int ((0 : Int32) + av)), .val (.ref b1), .unset, .unset, .unset, .unset, .unset, .unset, .unset, .unset, .unset] [(.int (p3.toInt8.toInt32)), (.int (0 : Int32)), (.ref b1)]) _
    obtain ⟨cl2, Ar2, q2, S2, M2, H2, U2⟩ := V1p
    have hin2 := inb_of S2 (j := (0 : Int32)) ⟨by decide, by decide⟩
    obtain ⟨T2, h2, X2, e2, W2, st2⟩ := stB X1 hx hZ e1 Ar2 (j := (0 : Int32)) hin2 (g := (mkF m 33 #[.val (.int p1), .val (.int p2), .val (.int p3), .val (.int p4), .val (.int p5), .val (.int (0 : Int32)), .val (.int av), .val (.int ((0 : Int32) + av)), .val (.ref b1), .unset, .unset, .unset, .unset, .unset, .unset, .unset, .unset, .unset] [(.int (p3.toInt8.toInt32)), (.int (0 : Int32)), (.ref b1)])) rfl rfl (hb hby at_33)
    have V2 : Arv Z h2 b1 k1 .byte (5 : Int32) [(.int (nar .byte (p3.toInt8.toInt32))), (.int (0 : Int32)), (.int (0 : Int32)), (.int (0 : Int32)), (.int (0 : Int32))] (.int (0 : Int32)) := Arv.set Ar2 q2 S2 M2 H2 U2 (fits_nar_byte _) W2 0 rfl (Nat.le_of_ble_eq_true rfl)
    have N2 := Fr.snoc X2 N0 gn1
    have Z2 : n0 ≤ h2.size := by rw [W2.size]; exact Z1
    refine Go.by st2 ?_
    show Go p e below T2 (mkF m 34 #[.val (.int p1), .val (.int p2), .val (.int p3), .val (.int p4), .val (.int p5), .val (.int (0 : Int32)), .val (.int av), .val (.int ((0 : Int32) + av)), .val (.ref b1), .unset, .unset, .unset, .unset, .unset, .unset, .unset, .unset, .unset] []) _
    refine Go.by (fun t k => XS.aload X2.here hx rfl (hb hby at_34) rfl rfl k) ?_
    show Go p e below T2 (mkF m 36 #[.val (.int p1), .val (.int p2), .val (.int p3), .val (.int p4), .val (.int p5), .val (.int (0 : Int32)), .val (.int av), .val (.int ((0 : Int32) + av)), .val (.ref b1), .unset, .unset, .unset, .unset, .unset, .unset, .unset, .unset, .unset] [(.ref b1)]) _
    refine Go.by (fun t k => XS.iconst X2.here hx rfl (hb hby at_36) k) ?_
    show Go p e below T2 (mkF m 37 #[.val (.int p1), .val (.int p2), .val (.int p3), .val (.int p4), .val (.int p5), .val (.int (0 : Int32)), .val (.int av), .val (.int ((0 : Int32) + av)), .val (.ref b1), .unset, .unset, .unset, .unset, .unset, .unset, .unset, .unset, .unset] [(.int (4 : Int32)), (.ref b1)]) _
    refine Go.by (fun t k => XS.iloadN X2.here hx rfl (hb hby at_37) rfl k) ?_
    show Go p e below T2 (mkF m 38 #[.val (.int p1), .val (.int p2), .val (.int p3), .val (.int p4), .val (.int p5), .val (.int (0 : Int32)), .val (.int av), .val (.int ((0 : Int32) + av)), .val (.ref b1), .unset, .unset, .unset, .unset, .unset, .unset, .unset, .unset, .unset] [(.int p2), (.int (4 : Int32)), (.ref b1)]) _
    refine Go.by (fun t k => XS.i2b X2.here hx rfl (hb hby at_38) rfl k) ?_
    show Go p e below T2 (mkF m 39 #[.val (.int p1), .val (.int p2), .val (.int p3), .val (.int p4), .val (.int p5), .val (.int (0 : Int32)), .val (.int av), .val (.int ((0 : Int32) + av)), .val (.ref b1), .unset, .unset, .unset, .unset, .unset, .unset, .unset, .unset, .unset] [(.int (p2.toInt8.toInt32)), (.int (4 : Int32)), (.ref b1)]) _
    obtain ⟨cl3, Ar3, q3, S3, M3, H3, U3⟩ := V2
    have hin3 := inb_of S3 (j := (4 : Int32)) ⟨by decide, by decide⟩
    obtain ⟨T3, h3, X3, e3, W3, st3⟩ := stB X2 hx hZ e2 Ar3 (j := (4 : Int32)) hin3 (g := (mkF m 39 #[.val (.int p1), .val (.int p2), .val (.int p3), .val (.int p4), .val (.int p5), .val (.int (0 : Int32)), .val (.int av), .val (.int ((0 : Int32) + av)), .val (.ref b1), .unset, .unset, .unset, .unset, .unset, .unset, .unset, .unset, .unset] [(.int (p2.toInt8.toInt32)), (.int (4 : Int32)), (.ref b1)])) rfl rfl (hb hby at_39)
    have V3 : Arv Z h3 b1 k1 .byte (5 : Int32) [(.int (nar .byte (p3.toInt8.toInt32))), (.int (0 : Int32)), (.int (0 : Int32)), (.int (0 : Int32)), (.int (nar .byte (p2.toInt8.toInt32)))] (.int (0 : Int32)) := Arv.set Ar3 q3 S3 M3 H3 U3 (fits_nar_byte _) W3 4 rfl (Nat.le_of_ble_eq_true rfl)
    have N3 := Fr.snoc X3 N2 gn1
    have Z3 : n0 ≤ h3.size := by rw [W3.size]; exact Z2
    refine Go.by st3 ?_
    show Go p e below T3 (mkF m 40 #[.val (.int p1), .val (.int p2), .val (.int p3), .val (.int p4), .val (.int p5), .val (.int (0 : Int32)), .val (.int av), .val (.int ((0 : Int32) + av)), .val (.ref b1), .unset, .unset, .unset, .unset, .unset, .unset, .unset, .unset, .unset] []) _
    refine Go.by (fun t k => XS.aload X3.here hx rfl (hb hby at_40) rfl rfl k) ?_
    show Go p e below T3 (mkF m 42 #[.val (.int p1), .val (.int p2), .val (.int p3), .val (.int p4), .val (.int p5), .val (.int (0 : Int32)), .val (.int av), .val (.int ((0 : Int32) + av)), .val (.ref b1), .unset, .unset, .unset, .unset, .unset, .unset, .unset, .unset, .unset] [(.ref b1)]) _
    refine Go.by (fun t k => XS.iload X3.here hx rfl (hb hby at_42) rfl k) ?_
    show Go p e below T3 (mkF m 44 #[.val (.int p1), .val (.int p2), .val (.int p3), .val (.int p4), .val (.int p5), .val (.int (0 : Int32)), .val (.int av), .val (.int ((0 : Int32) + av)), .val (.ref b1), .unset, .unset, .unset, .unset, .unset, .unset, .unset, .unset, .unset] [(.int (0 : Int32)), (.ref b1)]) _
    refine Go.by (fun t k => XS.sipush X3.here hx rfl (hb hby at_44) k) ?_
    show Go p e below T3 (mkF m 47 #[.val (.int p1), .val (.int p2), .val (.int p3), .val (.int p4), .val (.int p5), .val (.int (0 : Int32)), .val (.int av), .val (.int ((0 : Int32) + av)), .val (.ref b1), .unset, .unset, .unset, .unset, .unset, .unset, .unset, .unset, .unset] [(.int (128 : Int32)), (.int (0 : Int32)), (.ref b1)]) _
    refine Go.by (fun t k => XS.iloadN X3.here hx rfl (hb hby at_47) rfl k) ?_
    show Go p e below T3 (mkF m 48 #[.val (.int p1), .val (.int p2), .val (.int p3), .val (.int p4), .val (.int p5), .val (.int (0 : Int32)), .val (.int av), .val (.int ((0 : Int32) + av)), .val (.ref b1), .unset, .unset, .unset, .unset, .unset, .unset, .unset, .unset, .unset] [(.int p1), (.int (128 : Int32)), (.int (0 : Int32)), (.ref b1)]) _
    refine Go.by (fun t k => XS.bipush X3.here hx rfl (hb hby at_48) k) ?_
    show Go p e below T3 (mkF m 50 #[.val (.int p1), .val (.int p2), .val (.int p3), .val (.int p4), .val (.int p5), .val (.int (0 : Int32)), .val (.int av), .val (.int ((0 : Int32) + av)), .val (.ref b1), .unset, .unset, .unset, .unset, .unset, .unset, .unset, .unset, .unset] [(.int (127 : Int32)), (.int p1), (.int (128 : Int32)), (.int (0 : Int32)), (.ref b1)]) _
    refine Go.by (fun t k => XS.iand X3.here hx rfl (hb hby at_50) rfl k) ?_
    show Go p e below T3 (mkF m 51 #[.val (.int p1), .val (.int p2), .val (.int p3), .val (.int p4), .val (.int p5), .val (.int (0 : Int32)), .val (.int av), .val (.int ((0 : Int32) + av)), .val (.ref b1), .unset, .unset, .unset, .unset, .unset, .unset, .unset, .unset, .unset] [(.int (p1 &&& (127 : Int32))), (.int (128 : Int32)), (.int (0 : Int32)), (.ref b1)]) _
    refine Go.by (fun t k => XS.ior X3.here hx rfl (hb hby at_51) rfl k) ?_
    show Go p e below T3 (mkF m 52 #[.val (.int p1), .val (.int p2), .val (.int p3), .val (.int p4), .val (.int p5), .val (.int (0 : Int32)), .val (.int av), .val (.int ((0 : Int32) + av)), .val (.ref b1), .unset, .unset, .unset, .unset, .unset, .unset, .unset, .unset, .unset] [(.int ((128 : Int32) ||| (p1 &&& (127 : Int32)))), (.int (0 : Int32)), (.ref b1)]) _
    refine Go.by (fun t k => XS.i2b X3.here hx rfl (hb hby at_52) rfl k) ?_
    show Go p e below T3 (mkF m 53 #[.val (.int p1), .val (.int p2), .val (.int p3), .val (.int p4), .val (.int p5), .val (.int (0 : Int32)), .val (.int av), .val (.int ((0 : Int32) + av)), .val (.ref b1), .unset, .unset, .unset, .unset, .unset, .unset, .unset, .unset, .unset] [(.int (((128 : Int32) ||| (p1 &&& (127 : Int32))).toInt8.toInt32)), (.int (0 : Int32)), (.ref b1)]) _
    obtain ⟨cl4, Ar4, q4, S4, M4, H4, U4⟩ := V3
    have hin4 := inb_of S4 (j := (0 : Int32)) ⟨by decide, by decide⟩
    obtain ⟨T4, h4, X4, e4, W4, st4⟩ := stB X3 hx hZ e3 Ar4 (j := (0 : Int32)) hin4 (g := (mkF m 53 #[.val (.int p1), .val (.int p2), .val (.int p3), .val (.int p4), .val (.int p5), .val (.int (0 : Int32)), .val (.int av), .val (.int ((0 : Int32) + av)), .val (.ref b1), .unset, .unset, .unset, .unset, .unset, .unset, .unset, .unset, .unset] [(.int (((128 : Int32) ||| (p1 &&& (127 : Int32))).toInt8.toInt32)), (.int (0 : Int32)), (.ref b1)])) rfl rfl (hb hby at_53)
    have V4 : Arv Z h4 b1 k1 .byte (5 : Int32) [(.int (nar .byte (((128 : Int32) ||| (p1 &&& (127 : Int32))).toInt8.toInt32))), (.int (0 : Int32)), (.int (0 : Int32)), (.int (0 : Int32)), (.int (nar .byte (p2.toInt8.toInt32)))] (.int (0 : Int32)) := Arv.set Ar4 q4 S4 M4 H4 U4 (fits_nar_byte _) W4 0 rfl (Nat.le_of_ble_eq_true rfl)
    have N4 := Fr.snoc X4 N3 gn1
    have Z4 : n0 ≤ h4.size := by rw [W4.size]; exact Z3
    refine Go.by st4 ?_
    show Go p e below T4 (mkF m 54 #[.val (.int p1), .val (.int p2), .val (.int p3), .val (.int p4), .val (.int p5), .val (.int (0 : Int32)), .val (.int av), .val (.int ((0 : Int32) + av)), .val (.ref b1), .unset, .unset, .unset, .unset, .unset, .unset, .unset, .unset, .unset] []) _
    refine Go.by (fun t k => XS.aload X4.here hx rfl (hb hby at_54) rfl rfl k) ?_
    show Go p e below T4 (mkF m 56 #[.val (.int p1), .val (.int p2), .val (.int p3), .val (.int p4), .val (.int p5), .val (.int (0 : Int32)), .val (.int av), .val (.int ((0 : Int32) + av)), .val (.ref b1), .unset, .unset, .unset, .unset, .unset, .unset, .unset, .unset, .unset] [(.ref b1)]) _
    refine Go.by (fun t k => XS.iload X4.here hx rfl (hb hby at_56) rfl k) ?_
    show Go p e below T4 (mkF m 58 #[.val (.int p1), .val (.int p2), .val (.int p3), .val (.int p4), .val (.int p5), .val (.int (0 : Int32)), .val (.int av), .val (.int ((0 : Int32) + av)), .val (.ref b1), .unset, .unset, .unset, .unset, .unset, .unset, .unset, .unset, .unset] [(.int (0 : Int32)), (.ref b1)]) _
    refine Go.by (fun t k => XS.iconst X4.here hx rfl (hb hby at_58) k) ?_
    show Go p e below T4 (mkF m 59 #[.val (.int p1), .val (.int p2), .val (.int p3), .val (.int p4), .val (.int p5), .val (.int (0 : Int32)), .val (.int av), .val (.int ((0 : Int32) + av)), .val (.ref b1), .unset, .unset, .unset, .unset, .unset, .unset, .unset, .unset, .unset] [(.int (1 : Int32)), (.int (0 : Int32)), (.ref b1)]) _
    refine Go.by (fun t k => XS.iadd X4.here hx rfl (hb hby at_59) rfl k) ?_
    show Go p e below T4 (mkF m 60 #[.val (.int p1), .val (.int p2), .val (.int p3), .val (.int p4), .val (.int p5), .val (.int (0 : Int32)), .val (.int av), .val (.int ((0 : Int32) + av)), .val (.ref b1), .unset, .unset, .unset, .unset, .unset, .unset, .unset, .unset, .unset] [(.int (1 : Int32)), (.ref b1)]) _
    refine Go.by (fun t k => XS.iloadN X4.here hx rfl (hb hby at_60) rfl k) ?_
    show Go p e below T4 (mkF m 61 #[.val (.int p1), .val (.int p2), .val (.int p3), .val (.int p4), .val (.int p5), .val (.int (0 : Int32)), .val (.int av), .val (.int ((0 : Int32) + av)), .val (.ref b1), .unset, .unset, .unset, .unset, .unset, .unset, .unset, .unset, .unset] [(.int p2), (.int (1 : Int32)), (.ref b1)]) _
    refine Go.by (fun t k => XS.i2b X4.here hx rfl (hb hby at_61) rfl k) ?_
    show Go p e below T4 (mkF m 62 #[.val (.int p1), .val (.int p2), .val (.int p3), .val (.int p4), .val (.int p5), .val (.int (0 : Int32)), .val (.int av), .val (.int ((0 : Int32) + av)), .val (.ref b1), .unset, .unset, .unset, .unset, .unset, .unset, .unset, .unset, .unset] [(.int (p2.toInt8.toInt32)), (.int (1 : Int32)), (.ref b1)]) _
    obtain ⟨cl5, Ar5, q5, S5, M5, H5, U5⟩ := V4
    have hin5 := inb_of S5 (j := (1 : Int32)) ⟨by decide, by decide⟩
    obtain ⟨T5, h5, X5, e5, W5, st5⟩ := stB X4 hx hZ e4 Ar5 (j := (1 : Int32)) hin5 (g := (mkF m 62 #[.val (.int p1), .val (.int p2), .val (.int p3), .val (.int p4), .val (.int p5), .val (.int (0 : Int32)), .val (.int av), .val (.int ((0 : Int32) + av)), .val (.ref b1), .unset, .unset, .unset, .unset, .unset, .unset, .unset, .unset, .unset] [(.int (p2.toInt8.toInt32)), (.int (1 : Int32)), (.ref b1)])) rfl rfl (hb hby at_62)
    have V5 : Arv Z h5 b1 k1 .byte (5 : Int32) [(.int (nar .byte (((128 : Int32) ||| (p1 &&& (127 : Int32))).toInt8.toInt32))), (.int (nar .byte (p2.toInt8.toInt32))), (.int (0 : Int32)), (.int (0 : Int32)), (.int (nar .byte (p2.toInt8.toInt32)))] (.int (0 : Int32)) := Arv.set Ar5 q5 S5 M5 H5 U5 (fits_nar_byte _) W5 1 rfl (Nat.le_of_ble_eq_true rfl)
    have N5 := Fr.snoc X5 N4 gn1
    have Z5 : n0 ≤ h5.size := by rw [W5.size]; exact Z4
    refine Go.by st5 ?_
    show Go p e below T5 (mkF m 63 #[.val (.int p1), .val (.int p2), .val (.int p3), .val (.int p4), .val (.int p5), .val (.int (0 : Int32)), .val (.int av), .val (.int ((0 : Int32) + av)), .val (.ref b1), .unset, .unset, .unset, .unset, .unset, .unset, .unset, .unset, .unset] []) _
    refine Go.by (fun t k => XS.aload X5.here hx rfl (hb hby at_63) rfl rfl k) ?_
    show Go p e below T5 (mkF m 65 #[.val (.int p1), .val (.int p2), .val (.int p3), .val (.int p4), .val (.int p5), .val (.int (0 : Int32)), .val (.int av), .val (.int ((0 : Int32) + av)), .val (.ref b1), .unset, .unset, .unset, .unset, .unset, .unset, .unset, .unset, .unset] [(.ref b1)]) _
    refine Go.by (fun t k => XS.iload X5.here hx rfl (hb hby at_65) rfl k) ?_
    show Go p e below T5 (mkF m 67 #[.val (.int p1), .val (.int p2), .val (.int p3), .val (.int p4), .val (.int p5), .val (.int (0 : Int32)), .val (.int av), .val (.int ((0 : Int32) + av)), .val (.ref b1), .unset, .unset, .unset, .unset, .unset, .unset, .unset, .unset, .unset] [(.int (0 : Int32)), (.ref b1)]) _
    refine Go.by (fun t k => XS.iconst X5.here hx rfl (hb hby at_67) k) ?_
    show Go p e below T5 (mkF m 68 #[.val (.int p1), .val (.int p2), .val (.int p3), .val (.int p4), .val (.int p5), .val (.int (0 : Int32)), .val (.int av), .val (.int ((0 : Int32) + av)), .val (.ref b1), .unset, .unset, .unset, .unset, .unset, .unset, .unset, .unset, .unset] [(.int (2 : Int32)), (.int (0 : Int32)), (.ref b1)]) _
    refine Go.by (fun t k => XS.iadd X5.here hx rfl (hb hby at_68) rfl k) ?_
    show Go p e below T5 (mkF m 69 #[.val (.int p1), .val (.int p2), .val (.int p3), .val (.int p4), .val (.int p5), .val (.int (0 : Int32)), .val (.int av), .val (.int ((0 : Int32) + av)), .val (.ref b1), .unset, .unset, .unset, .unset, .unset, .unset, .unset, .unset, .unset] [(.int (2 : Int32)), (.ref b1)]) _
    refine Go.by (fun t k => XS.iloadN X5.here hx rfl (hb hby at_69) rfl k) ?_
    show Go p e below T5 (mkF m 70 #[.val (.int p1), .val (.int p2), .val (.int p3), .val (.int p4), .val (.int p5), .val (.int (0 : Int32)), .val (.int av), .val (.int ((0 : Int32) + av)), .val (.ref b1), .unset, .unset, .unset, .unset, .unset, .unset, .unset, .unset, .unset] [(.int p3), (.int (2 : Int32)), (.ref b1)]) _
    refine Go.by (fun t k => XS.i2b X5.here hx rfl (hb hby at_70) rfl k) ?_
    show Go p e below T5 (mkF m 71 #[.val (.int p1), .val (.int p2), .val (.int p3), .val (.int p4), .val (.int p5), .val (.int (0 : Int32)), .val (.int av), .val (.int ((0 : Int32) + av)), .val (.ref b1), .unset, .unset, .unset, .unset, .unset, .unset, .unset, .unset, .unset] [(.int (p3.toInt8.toInt32)), (.int (2 : Int32)), (.ref b1)]) _
    obtain ⟨cl6, Ar6, q6, S6, M6, H6, U6⟩ := V5
    have hin6 := inb_of S6 (j := (2 : Int32)) ⟨by decide, by decide⟩
    obtain ⟨T6, h6, X6, e6, W6, st6⟩ := stB X5 hx hZ e5 Ar6 (j := (2 : Int32)) hin6 (g := (mkF m 71 #[.val (.int p1), .val (.int p2), .val (.int p3), .val (.int p4), .val (.int p5), .val (.int (0 : Int32)), .val (.int av), .val (.int ((0 : Int32) + av)), .val (.ref b1), .unset, .unset, .unset, .unset, .unset, .unset, .unset, .unset, .unset] [(.int (p3.toInt8.toInt32)), (.int (2 : Int32)), (.ref b1)])) rfl rfl (hb hby at_71)
    have V6 : Arv Z h6 b1 k1 .byte (5 : Int32) [(.int (nar .byte (((128 : Int32) ||| (p1 &&& (127 : Int32))).toInt8.toInt32))), (.int (nar .byte (p2.toInt8.toInt32))), (.int (nar .byte (p3.toInt8.toInt32))), (.int (0 : Int32)), (.int (nar .byte (p2.toInt8.toInt32)))] (.int (0 : Int32)) := Arv.set Ar6 q6 S6 M6 H6 U6 (fits_nar_byte _) W6 2 rfl (Nat.le_of_ble_eq_true rfl)
    have N6 := Fr.snoc X6 N5 gn1
    have Z6 : n0 ≤ h6.size := by rw [W6.size]; exact Z5
    refine Go.by st6 ?_
    show Go p e below T6 (mkF m 72 #[.val (.int p1), .val (.int p2), .val (.int p3), .val (.int p4), .val (.int p5), .val (.int (0 : Int32)), .val (.int av), .val (.int ((0 : Int32) + av)), .val (.ref b1), .unset, .unset, .unset, .unset, .unset, .unset, .unset, .unset, .unset] []) _
    refine Go.by (fun t k => XS.aload X6.here hx rfl (hb hby at_72) rfl rfl k) ?_
    show Go p e below T6 (mkF m 74 #[.val (.int p1), .val (.int p2), .val (.int p3), .val (.int p4), .val (.int p5), .val (.int (0 : Int32)), .val (.int av), .val (.int ((0 : Int32) + av)), .val (.ref b1), .unset, .unset, .unset, .unset, .unset, .unset, .unset, .unset, .unset] [(.ref b1)]) _
    refine Go.by (fun t k => XS.iload X6.here hx rfl (hb hby at_74) rfl k) ?_
    show Go p e below T6 (mkF m 76 #[.val (.int p1), .val (.int p2), .val (.int p3), .val (.int p4), .val (.int p5), .val (.int (0 : Int32)), .val (.int av), .val (.int ((0 : Int32) + av)), .val (.ref b1), .unset, .unset, .unset, .unset, .unset, .unset, .unset, .unset, .unset] [(.int (0 : Int32)), (.ref b1)]) _
    refine Go.by (fun t k => XS.iconst X6.here hx rfl (hb hby at_76) k) ?_
    show Go p e below T6 (mkF m 77 #[.val (.int p1), .val (.int p2), .val (.int p3), .val (.int p4), .val (.int p5), .val (.int (0 : Int32)), .val (.int av), .val (.int ((0 : Int32) + av)), .val (.ref b1), .unset, .unset, .unset, .unset, .unset, .unset, .unset, .unset, .unset] [(.int (3 : Int32)), (.int (0 : Int32)), (.ref b1)]) _
    refine Go.by (fun t k => XS.iadd X6.here hx rfl (hb hby at_77) rfl k) ?_
    show Go p e below T6 (mkF m 78 #[.val (.int p1), .val (.int p2), .val (.int p3), .val (.int p4), .val (.int p5), .val (.int (0 : Int32)), .val (.int av), .val (.int ((0 : Int32) + av)), .val (.ref b1), .unset, .unset, .unset, .unset, .unset, .unset, .unset, .unset, .unset] [(.int (3 : Int32)), (.ref b1)]) _
    refine Go.by (fun t k => XS.iloadN X6.here hx rfl (hb hby at_78) rfl k) ?_
    show Go p e below T6 (mkF m 79 #[.val (.int p1), .val (.int p2), .val (.int p3), .val (.int p4), .val (.int p5), .val (.int (0 : Int32)), .val (.int av), .val (.int ((0 : Int32) + av)), .val (.ref b1), .unset, .unset, .unset, .unset, .unset, .unset, .unset, .unset, .unset] [(.int p4), (.int (3 : Int32)), (.ref b1)]) _
    refine Go.by (fun t k => XS.i2b X6.here hx rfl (hb hby at_79) rfl k) ?_
    show Go p e below T6 (mkF m 80 #[.val (.int p1), .val (.int p2), .val (.int p3), .val (.int p4), .val (.int p5), .val (.int (0 : Int32)), .val (.int av), .val (.int ((0 : Int32) + av)), .val (.ref b1), .unset, .unset, .unset, .unset, .unset, .unset, .unset, .unset, .unset] [(.int (p4.toInt8.toInt32)), (.int (3 : Int32)), (.ref b1)]) _
    obtain ⟨cl7, Ar7, q7, S7, M7, H7, U7⟩ := V6
    have hin7 := inb_of S7 (j := (3 : Int32)) ⟨by decide, by decide⟩
    obtain ⟨T7, h7, X7, e7, W7, st7⟩ := stB X6 hx hZ e6 Ar7 (j := (3 : Int32)) hin7 (g := (mkF m 80 #[.val (.int p1), .val (.int p2), .val (.int p3), .val (.int p4), .val (.int p5), .val (.int (0 : Int32)), .val (.int av), .val (.int ((0 : Int32) + av)), .val (.ref b1), .unset, .unset, .unset, .unset, .unset, .unset, .unset, .unset, .unset] [(.int (p4.toInt8.toInt32)), (.int (3 : Int32)), (.ref b1)])) rfl rfl (hb hby at_80)
    have V7 : Arv Z h7 b1 k1 .byte (5 : Int32) [(.int (nar .byte (((128 : Int32) ||| (p1 &&& (127 : Int32))).toInt8.toInt32))), (.int (nar .byte (p2.toInt8.toInt32))), (.int (nar .byte (p3.toInt8.toInt32))), (.int (nar .byte (p4.toInt8.toInt32))), (.int (nar .byte (p2.toInt8.toInt32)))] (.int (0 : Int32)) := Arv.set Ar7 q7 S7 M7 H7 U7 (fits_nar_byte _) W7 3 rfl (Nat.le_of_ble_eq_true rfl)
    have N7 := Fr.snoc X7 N6 gn1
    have Z7 : n0 ≤ h7.size := by rw [W7.size]; exact Z6
    refine Go.by st7 ?_
    show Go p e below T7 (mkF m 81 #[.val (.int p1), .val (.int p2), .val (.int p3), .val (.int p4), .val (.int p5), .val (.int (0 : Int32)), .val (.int av), .val (.int ((0 : Int32) + av)), .val (.ref b1), .unset, .unset, .unset, .unset, .unset, .unset, .unset, .unset, .unset] []) _
    refine Go.by (fun t k => XS.sipush X7.here hx rfl (hb hby at_81) k) ?_
    show Go p e below T7 (mkF m 84 #[.val (.int p1), .val (.int p2), .val (.int p3), .val (.int p4), .val (.int p5), .val (.int (0 : Int32)), .val (.int av), .val (.int ((0 : Int32) + av)), .val (.ref b1), .unset, .unset, .unset, .unset, .unset, .unset, .unset, .unset, .unset] [(.int (128 : Int32))]) _
    refine Go.by (fun t k => XS.iloadN X7.here hx rfl (hb hby at_84) rfl k) ?_
    show Go p e below T7 (mkF m 85 #[.val (.int p1), .val (.int p2), .val (.int p3), .val (.int p4), .val (.int p5), .val (.int (0 : Int32)), .val (.int av), .val (.int ((0 : Int32) + av)), .val (.ref b1), .unset, .unset, .unset, .unset, .unset, .unset, .unset, .unset, .unset] [(.int p1), (.int (128 : Int32))]) _
    refine Go.by (fun t k => XS.bipush X7.here hx rfl (hb hby at_85) k) ?_
    show Go p e below T7 (mkF m 87 #[.val (.int p1), .val (.int p2), .val (.int p3), .val (.int p4), .val (.int p5), .val (.int (0 : Int32)), .val (.int av), .val (.int ((0 : Int32) + av)), .val (.ref b1), .unset, .unset, .unset, .unset, .unset, .unset, .unset, .unset, .unset] [(.int (127 : Int32)), (.int p1), (.int (128 : Int32))]) _
    refine Go.by (fun t k => XS.iand X7.here hx rfl (hb hby at_87) rfl k) ?_
    show Go p e below T7 (mkF m 88 #[.val (.int p1), .val (.int p2), .val (.int p3), .val (.int p4), .val (.int p5), .val (.int (0 : Int32)), .val (.int av), .val (.int ((0 : Int32) + av)), .val (.ref b1), .unset, .unset, .unset, .unset, .unset, .unset, .unset, .unset, .unset] [(.int (p1 &&& (127 : Int32))), (.int (128 : Int32))]) _
    refine Go.by (fun t k => XS.ior X7.here hx rfl (hb hby at_88) rfl k) ?_
    show Go p e below T7 (mkF m 89 #[.val (.int p1), .val (.int p2), .val (.int p3), .val (.int p4), .val (.int p5), .val (.int (0 : Int32)), .val (.int av), .val (.int ((0 : Int32) + av)), .val (.ref b1), .unset, .unset, .unset, .unset, .unset, .unset, .unset, .unset, .unset] [(.int ((128 : Int32) ||| (p1 &&& (127 : Int32))))]) _
    refine Go.by (fun t k => XS.istore X7.here hx rfl (hb hby at_89) rfl (l' := #[.val (.int p1), .val (.int p2), .val (.int p3), .val (.int p4), .val (.int p5), .val (.int (0 : Int32)), .val (.int av), .val (.int ((0 : Int32) + av)), .val (.ref b1), .val (.int ((128 : Int32) ||| (p1 &&& (127 : Int32)))), .unset, .unset, .unset, .unset, .unset, .unset, .unset, .unset]) rfl k) ?_
    show Go p e below T7 (mkF m 91 #[.val (.int p1), .val (.int p2), .val (.int p3), .val (.int p4), .val (.int p5), .val (.int (0 : Int32)), .val (.int av), .val (.int ((0 : Int32) + av)), .val (.ref b1), .val (.int ((128 : Int32) ||| (p1 &&& (127 : Int32)))), .unset, .unset, .unset, .unset, .unset, .unset, .unset, .unset] []) _
    generalize h_lb : ((128 : Int32) ||| (p1 &&& (127 : Int32))) = lb
    refine Go.by (fun t k => XS.iloadN X7.here hx rfl (hb hby at_91) rfl k) ?_
    show Go p e below T7 (mkF m 92 #[.val (.int p1), .val (.int p2), .val (.int p3), .val (.int p4), .val (.int p5), .val (.int (0 : Int32)), .val (.int av), .val (.int ((0 : Int32) + av)), .val (.ref b1), .val (.int lb), .unset, .unset, .unset, .unset, .unset, .unset, .unset, .unset] [(.int p2)]) _
    refine Go.by (fun t k => XS.sipush X7.here hx rfl (hb hby at_92) k) ?_
    show Go p e below T7 (mkF m 95 #[.val (.int p1), .val (.int p2), .val (.int p3), .val (.int p4), .val (.int p5), .val (.int (0 : Int32)), .val (.int av), .val (.int ((0 : Int32) + av)), .val (.ref b1), .val (.int lb), .unset, .unset, .unset, .unset, .unset, .unset, .unset, .unset] [(.int (255 : Int32)), (.int p2)]) _
    refine Go.by (fun t k => XS.iand X7.here hx rfl (hb hby at_95) rfl k) ?_
    show Go p e below T7 (mkF m 96 #[.val (.int p1), .val (.int p2), .val (.int p3), .val (.int p4), .val (.int p5), .val (.int (0 : Int32)), .val (.int av), .val (.int ((0 : Int32) + av)), .val (.ref b1), .val (.int lb), .unset, .unset, .unset, .unset, .unset, .unset, .unset, .unset] [(.int (p2 &&& (255 : Int32)))]) _
    refine Go.by (fun t k => XS.istore X7.here hx rfl (hb hby at_96) rfl (l' := #[.val (.int p1), .val (.int p2), .val (.int p3), .val (.int p4), .val (.int p5), .val (.int (0 : Int32)), .val (.int av), .val (.int ((0 : Int32) + av)), .val (.ref b1), .val (.int lb), .val (.int (p2 &&& (255 : Int32))), .unset, .unset, .unset, .unset, .unset, .unset, .unset]) rfl k) ?_
    show Go p e below T7 (mkF m 98 #[.val (.int p1), .val (.int p2), .val (.int p3), .val (.int p4), .val (.int p5), .val (.int (0 : Int32)), .val (.int av), .val (.int ((0 : Int32) + av)), .val (.ref b1), .val (.int lb), .val (.int (p2 &&& (255 : Int32))), .unset, .unset, .unset, .unset, .unset, .unset, .unset] []) _
    generalize h_x1 : (p2 &&& (255 : Int32)) = x1
    refine Go.by (fun t k => XS.iloadN X7.here hx rfl (hb hby at_98) rfl k) ?_
    show Go p e below T7 (mkF m 99 #[.val (.int p1), .val (.int p2), .val (.int p3), .val (.int p4), .val (.int p5), .val (.int (0 : Int32)), .val (.int av), .val (.int ((0 : Int32) + av)), .val (.ref b1), .val (.int lb), .val (.int x1), .unset, .unset, .unset, .unset, .unset, .unset, .unset] [(.int p3)]) _
    refine Go.by (fun t k => XS.sipush X7.here hx rfl (hb hby at_99) k) ?_
    show Go p e below T7 (mkF m 102 #[.val (.int p1), .val (.int p2), .val (.int p3), .val (.int p4), .val (.int p5), .val (.int (0 : Int32)), .val (.int av), .val (.int ((0 : Int32) + av)), .val (.ref b1), .val (.int lb), .val (.int x1), .unset, .unset, .unset, .unset, .unset, .unset, .unset] [(.int (255 : Int32)), (.int p3)]) _
    refine Go.by (fun t k => XS.iand X7.here hx rfl (hb hby at_102) rfl k) ?_
    show Go p e below T7 (mkF m 103 #[.val (.int p1), .val (.int p2), .val (.int p3), .val (.int p4), .val (.int p5), .val (.int (0 : Int32)), .val (.int av), .val (.int ((0 : Int32) + av)), .val (.ref b1), .val (.int lb), .val (.int x1), .unset, .unset, .unset, .unset, .unset, .unset, .unset] [(.int (p3 &&& (255 : Int32)))]) _
    refine Go.by (fun t k => XS.istore X7.here hx rfl (hb hby at_103) rfl (l' := #[.val (.int p1), .val (.int p2), .val (.int p3), .val (.int p4), .val (.int p5), .val (.int (0 : Int32)), .val (.int av), .val (.int ((0 : Int32) + av)), .val (.ref b1), .val (.int lb), .val (.int x1), .val (.int (p3 &&& (255 : Int32))), .unset, .unset, .unset, .unset, .unset, .unset]) rfl k) ?_
    show Go p e below T7 (mkF m 105 #[.val (.int p1), .val (.int p2), .val (.int p3), .val (.int p4), .val (.int p5), .val (.int (0 : Int32)), .val (.int av), .val (.int ((0 : Int32) + av)), .val (.ref b1), .val (.int lb), .val (.int x1), .val (.int (p3 &&& (255 : Int32))), .unset, .unset, .unset, .unset, .unset, .unset] []) _
    generalize h_x2 : (p3 &&& (255 : Int32)) = x2
    refine Go.by (fun t k => XS.iloadN X7.here hx rfl (hb hby at_105) rfl k) ?_
    show Go p e below T7 (mkF m 106 #[.val (.int p1), .val (.int p2), .val (.int p3), .val (.int p4), .val (.int p5), .val (.int (0 : Int32)), .val (.int av), .val (.int ((0 : Int32) + av)), .val (.ref b1), .val (.int lb), .val (.int x1), .val (.int x2), .unset, .unset, .unset, .unset, .unset, .unset] [(.int p4)]) _
    refine Go.by (fun t k => XS.sipush X7.here hx rfl (hb hby at_106) k) ?_
    show Go p e below T7 (mkF m 109 #[.val (.int p1), .val (.int p2), .val (.int p3), .val (.int p4), .val (.int p5), .val (.int (0 : Int32)), .val (.int av), .val (.int ((0 : Int32) + av)), .val (.ref b1), .val (.int lb), .val (.int x1), .val (.int x2), .unset, .unset, .unset, .unset, .unset, .unset] [(.int (255 : Int32)), (.int p4)]) _
    refine Go.by (fun t k => XS.iand X7.here hx rfl (hb hby at_109) rfl k) ?_
    show Go p e below T7 (mkF m 110 #[.val (.int p1), .val (.int p2), .val (.int p3), .val (.int p4), .val (.int p5), .val (.int (0 : Int32)), .val (.int av), .val (.int ((0 : Int32) + av)), .val (.ref b1), .val (.int lb), .val (.int x1), .val (.int x2), .unset, .unset, .unset, .unset, .unset, .unset] [(.int (p4 &&& (255 : Int32)))]) _
    refine Go.by (fun t k => XS.istore X7.here hx rfl (hb hby at_110) rfl (l' := #[.val (.int p1), .val (.int p2), .val (.int p3), .val (.int p4), .val (.int p5), .val (.int (0 : Int32)), .val (.int av), .val (.int ((0 : Int32) + av)), .val (.ref b1), .val (.int lb), .val (.int x1), .val (.int x2), .val (.int (p4 &&& (255 : Int32))), .unset, .unset, .unset, .unset, .unset]) rfl k) ?_
    show Go p e below T7 (mkF m 112 #[.val (.int p1), .val (.int p2), .val (.int p3), .val (.int p4), .val (.int p5), .val (.int (0 : Int32)), .val (.int av), .val (.int ((0 : Int32) + av)), .val (.ref b1), .val (.int lb), .val (.int x1), .val (.int x2), .val (.int (p4 &&& (255 : Int32))), .unset, .unset, .unset, .unset, .unset] []) _
    generalize h_x3 : (p4 &&& (255 : Int32)) = x3
    refine Go.by (fun t k => XS.iload X7.here hx rfl (hb hby at_112) rfl k) ?_
    show Go p e below T7 (mkF m 114 #[.val (.int p1), .val (.int p2), .val (.int p3), .val (.int p4), .val (.int p5), .val (.int (0 : Int32)), .val (.int av), .val (.int ((0 : Int32) + av)), .val (.ref b1), .val (.int lb), .val (.int x1), .val (.int x2), .val (.int x3), .unset, .unset, .unset, .unset, .unset] [(.int lb)]) _
    refine Go.by (fun t k => XS.sipush X7.here hx rfl (hb hby at_114) k) ?_
    show Go p e below T7 (mkF m 117 #[.val (.int p1), .val (.int p2), .val (.int p3), .val (.int p4), .val (.int p5), .val (.int (0 : Int32)), .val (.int av), .val (.int ((0 : Int32) + av)), .val (.ref b1), .val (.int lb), .val (.int x1), .val (.int x2), .val (.int x3), .unset, .unset, .unset, .unset, .unset] [(.int (192 : Int32)), (.int lb)]) _
    have J171 : ∀ (j171_0 : Int32), (j171_0 = own_n lb) → Go p e below T7 (mkF m 171 #[.val (.int p1), .val (.int p2), .val (.int p3), .val (.int p4), .val (.int p5), .val (.int (0 : Int32)), .val (.int av), .val (.int ((0 : Int32) + av)), .val (.ref b1), .val (.int lb), .val (.int x1), .val (.int x2), .val (.int x3), .val (.int j171_0), .unset, .unset, .unset, .unset] []) (Pst0 Z p1 p2 p3 p4 p5 h0 n0 s) := by
      intro j171_0 hj171
      refine Go.by (fun t k => XS.iload X7.here hx rfl (hb hby at_171) rfl k) ?_
      show Go p e below T7 (mkF m 173 #[.val (.int p1), .val (.int p2), .val (.int p3), .val (.int p4), .val (.int p5), .val (.int (0 : Int32)), .val (.int av), .val (.int ((0 : Int32) + av)), .val (.ref b1), .val (.int lb), .val (.int x1), .val (.int x2), .val (.int x3), .val (.int j171_0), .unset, .unset, .unset, .unset] [(.int j171_0)]) _
      have J188 : ∀ (j188_0 : Int32), (j188_0 = own_ok1 j171_0 av) → Go p e below T7 (mkF m 188 #[.val (.int p1), .val (.int p2), .val (.int p3), .val (.int p4), .val (.int p5), .val (.int (0 : Int32)), .val (.int av), .val (.int ((0 : Int32) + av)), .val (.ref b1), .val (.int lb), .val (.int x1), .val (.int x2), .val (.int x3), .val (.int j171_0), .unset, .unset, .unset, .unset] [(.int j188_0)]) (Pst0 Z p1 p2 p3 p4 p5 h0 n0 s) := by
        intro j188_0 hj188
        refine Go.by (fun t k => XS.istore X7.here hx rfl (hb hby at_188) rfl (l' := #[.val (.int p1), .val (.int p2), .val (.int p3), .val (.int p4), .val (.int p5), .val (.int (0 : Int32)), .val (.int av), .val (.int ((0 : Int32) + av)), .val (.ref b1), .val (.int lb), .val (.int x1), .val (.int x2), .val (.int x3), .val (.int j171_0), .val (.int j188_0), .unset, .unset, .unset]) rfl k) ?_
        show Go p e below T7 (mkF m 190 #[.val (.int p1), .val (.int p2), .val (.int p3), .val (.int p4), .val (.int p5), .val (.int (0 : Int32)), .val (.int av), .val (.int ((0 : Int32) + av)), .val (.ref b1), .val (.int lb), .val (.int x1), .val (.int x2), .val (.int x3), .val (.int j171_0), .val (.int j188_0), .unset, .unset, .unset] []) _
        refine Go.by (fun t k => XS.iload X7.here hx rfl (hb hby at_190) rfl k) ?_
        show Go p e below T7 (mkF m 192 #[.val (.int p1), .val (.int p2), .val (.int p3), .val (.int p4), .val (.int p5), .val (.int (0 : Int32)), .val (.int av), .val (.int ((0 : Int32) + av)), .val (.ref b1), .val (.int lb), .val (.int x1), .val (.int x2), .val (.int x3), .val (.int j171_0), .val (.int j188_0), .unset, .unset, .unset] [(.int j188_0)]) _
        have J206 : ∀ (Tj206 : State) (Lj206 : List Loc) (Xj206 : Stand p l e room_1 s m #[(.int p1), (.int p2), (.int p3), (.int p4), (.int p5)] below meth c Tj206 Lj206 1 5) (ej206 : Tj206.heap = h7) (Nj206 : Fr n0 Lj206) (j206_0 : Int32), (j206_0 = own_ok2 j188_0 x1) → Go p e below Tj206 (mkF m 206 #[.val (.int p1), .val (.int p2), .val (.int p3), .val (.int p4), .val (.int p5), .val (.int (0 : Int32)), .val (.int av), .val (.int ((0 : Int32) + av)), .val (.ref b1), .val (.int lb), .val (.int x1), .val (.int x2), .val (.int x3), .val (.int j171_0), .val (.int j206_0), .unset, .unset, .unset] []) (Pst0 Z p1 p2 p3 p4 p5 h0 n0 s) := by
          intro Tj206 Lj206 Xj206 ej206 Nj206 j206_0 hj206
          refine Go.by (fun t k => XS.iload Xj206.here hx rfl (hb hby at_206) rfl k) ?_
          show Go p e below Tj206 (mkF m 208 #[.val (.int p1), .val (.int p2), .val (.int p3), .val (.int p4), .val (.int p5), .val (.int (0 : Int32)), .val (.int av), .val (.int ((0 : Int32) + av)), .val (.ref b1), .val (.int lb), .val (.int x1), .val (.int x2), .val (.int x3), .val (.int j171_0), .val (.int j206_0), .unset, .unset, .unset] [(.int j206_0)]) _
          have J228 : ∀ (Tj228 : State) (Lj228 : List Loc) (Xj228 : Stand p l e room_1 s m #[(.int p1), (.int p2), (.int p3), (.int p4), (.int p5)] below meth c Tj228 Lj228 1 5) (ej228 : Tj228.heap = h7) (Nj228 : Fr n0 Lj228) (j228_0 : Int32), (j228_0 = own_ok3 j206_0 j171_0 x2) → Go p e below Tj228 (mkF m 228 #[.val (.int p1), .val (.int p2), .val (.int p3), .val (.int p4), .val (.int p5), .val (.int (0 : Int32)), .val (.int av), .val (.int ((0 : Int32) + av)), .val (.ref b1), .val (.int lb), .val (.int x1), .val (.int x2), .val (.int x3), .val (.int j171_0), .val (.int j228_0), .unset, .unset, .unset] []) (Pst0 Z p1 p2 p3 p4 p5 h0 n0 s) := by
            intro Tj228 Lj228 Xj228 ej228 Nj228 j228_0 hj228
            refine Go.by (fun t k => XS.iload Xj228.here hx rfl (hb hby at_228) rfl k) ?_
            show Go p e below Tj228 (mkF m 230 #[.val (.int p1), .val (.int p2), .val (.int p3), .val (.int p4), .val (.int p5), .val (.int (0 : Int32)), .val (.int av), .val (.int ((0 : Int32) + av)), .val (.ref b1), .val (.int lb), .val (.int x1), .val (.int x2), .val (.int x3), .val (.int j171_0), .val (.int j228_0), .unset, .unset, .unset] [(.int j228_0)]) _
            have J250 : ∀ (Tj250 : State) (Lj250 : List Loc) (Xj250 : Stand p l e room_1 s m #[(.int p1), (.int p2), (.int p3), (.int p4), (.int p5)] below meth c Tj250 Lj250 1 5) (ej250 : Tj250.heap = h7) (Nj250 : Fr n0 Lj250) (j250_0 : Int32), (j250_0 = own_ok4 j228_0 j171_0 x3) → Go p e below Tj250 (mkF m 250 #[.val (.int p1), .val (.int p2), .val (.int p3), .val (.int p4), .val (.int p5), .val (.int (0 : Int32)), .val (.int av), .val (.int ((0 : Int32) + av)), .val (.ref b1), .val (.int lb), .val (.int x1), .val (.int x2), .val (.int x3), .val (.int j171_0), .val (.int j250_0), .unset, .unset, .unset] []) (Pst0 Z p1 p2 p3 p4 p5 h0 n0 s) := by
              intro Tj250 Lj250 Xj250 ej250 Nj250 j250_0 hj250
              refine Go.by (fun t k => XS.iconst Xj250.here hx rfl (hb hby at_250) k) ?_
              show Go p e below Tj250 (mkF m 251 #[.val (.int p1), .val (.int p2), .val (.int p3), .val (.int p4), .val (.int p5), .val (.int (0 : Int32)), .val (.int av), .val (.int ((0 : Int32) + av)), .val (.ref b1), .val (.int lb), .val (.int x1), .val (.int x2), .val (.int x3), .val (.int j171_0), .val (.int j250_0), .unset, .unset, .unset] [(.int (0 : Int32))]) _
              refine Go.by (fun t k => XS.istore Xj250.here hx rfl (hb hby at_251) rfl (l' := #[.val (.int p1), .val (.int p2), .val (.int p3), .val (.int p4), .val (.int p5), .val (.int (0 : Int32)), .val (.int av), .val (.int ((0 : Int32) + av)), .val (.ref b1), .val (.int lb), .val (.int x1), .val (.int x2), .val (.int x3), .val (.int j171_0), .val (.int j250_0), .val (.int (0 : Int32)), .unset, .unset]) rfl k) ?_
              show Go p e below Tj250 (mkF m 253 #[.val (.int p1), .val (.int p2), .val (.int p3), .val (.int p4), .val (.int p5), .val (.int (0 : Int32)), .val (.int av), .val (.int ((0 : Int32) + av)), .val (.ref b1), .val (.int lb), .val (.int x1), .val (.int x2), .val (.int x3), .val (.int j171_0), .val (.int j250_0), .val (.int (0 : Int32)), .unset, .unset] []) _
              refine Go.by (fun t k => XS.iconst Xj250.here hx rfl (hb hby at_253) k) ?_
              show Go p e below Tj250 (mkF m 254 #[.val (.int p1), .val (.int p2), .val (.int p3), .val (.int p4), .val (.int p5), .val (.int (0 : Int32)), .val (.int av), .val (.int ((0 : Int32) + av)), .val (.ref b1), .val (.int lb), .val (.int x1), .val (.int x2), .val (.int x3), .val (.int j171_0), .val (.int j250_0), .val (.int (0 : Int32)), .unset, .unset] [(.int (0 : Int32))]) _
              refine Go.by (fun t k => XS.istore Xj250.here hx rfl (hb hby at_254) rfl (l' := #[.val (.int p1), .val (.int p2), .val (.int p3), .val (.int p4), .val (.int p5), .val (.int (0 : Int32)), .val (.int av), .val (.int ((0 : Int32) + av)), .val (.ref b1), .val (.int lb), .val (.int x1), .val (.int x2), .val (.int x3), .val (.int j171_0), .val (.int j250_0), .val (.int (0 : Int32)), .val (.int (0 : Int32)), .unset]) rfl k) ?_
              show Go p e below Tj250 (mkF m 256 #[.val (.int p1), .val (.int p2), .val (.int p3), .val (.int p4), .val (.int p5), .val (.int (0 : Int32)), .val (.int av), .val (.int ((0 : Int32) + av)), .val (.ref b1), .val (.int lb), .val (.int x1), .val (.int x2), .val (.int x3), .val (.int j171_0), .val (.int j250_0), .val (.int (0 : Int32)), .val (.int (0 : Int32)), .unset] []) _
              refine Go.by (fun t k => XS.iload Xj250.here hx rfl (hb hby at_256) rfl k) ?_
              show Go p e below Tj250 (mkF m 258 #[.val (.int p1), .val (.int p2), .val (.int p3), .val (.int p4), .val (.int p5), .val (.int (0 : Int32)), .val (.int av), .val (.int ((0 : Int32) + av)), .val (.ref b1), .val (.int lb), .val (.int x1), .val (.int x2), .val (.int x3), .val (.int j171_0), .val (.int j250_0), .val (.int (0 : Int32)), .val (.int (0 : Int32)), .unset] [(.int j171_0)]) _
              refine Go.by (fun t k => XS.iconst Xj250.here hx rfl (hb hby at_258) k) ?_
              show Go p e below Tj250 (mkF m 259 #[.val (.int p1), .val (.int p2), .val (.int p3), .val (.int p4), .val (.int p5), .val (.int (0 : Int32)), .val (.int av), .val (.int ((0 : Int32) + av)), .val (.ref b1), .val (.int lb), .val (.int x1), .val (.int x2), .val (.int x3), .val (.int j171_0), .val (.int j250_0), .val (.int (0 : Int32)), .val (.int (0 : Int32)), .unset] [(.int (2 : Int32)), (.int j171_0)]) _
              have J369 : ∀ (j369_0 : Int32) (j369_1 : Int32), (j369_0 = own_cp j171_0 lb x1 x2 x3 ∧ j369_1 = own_mn j171_0) → Go p e below Tj250 (mkF m 369 #[.val (.int p1), .val (.int p2), .val (.int p3), .val (.int p4), .val (.int p5), .val (.int (0 : Int32)), .val (.int av), .val (.int ((0 : Int32) + av)), .val (.ref b1), .val (.int lb), .val (.int x1), .val (.int x2), .val (.int x3), .val (.int j171_0), .val (.int j250_0), .val (.int j369_0), .val (.int j369_1), .unset] []) (Pst0 Z p1 p2 p3 p4 p5 h0 n0 s) := by
                intro j369_0 j369_1 hj369
                refine Go.by (fun t k => XS.iload Xj250.here hx rfl (hb hby at_369) rfl k) ?_
                show Go p e below Tj250 (mkF m 371 #[.val (.int p1), .val (.int p2), .val (.int p3), .val (.int p4), .val (.int p5), .val (.int (0 : Int32)), .val (.int av), .val (.int ((0 : Int32) + av)), .val (.ref b1), .val (.int lb), .val (.int x1), .val (.int x2), .val (.int x3), .val (.int j171_0), .val (.int j250_0), .val (.int j369_0), .val (.int j369_1), .unset] [(.int j250_0)]) _
                have J405 : ∀ (j405_0 : Int32), (j405_0 = own_ok5 j250_0 j369_0 j369_1) → Go p e below Tj250 (mkF m 405 #[.val (.int p1), .val (.int p2), .val (.int p3), .val (.int p4), .val (.int p5), .val (.int (0 : Int32)), .val (.int av), .val (.int ((0 : Int32) + av)), .val (.ref b1), .val (.int lb), .val (.int x1), .val (.int x2), .val (.int x3), .val (.int j171_0), .val (.int j405_0), .val (.int j369_0), .val (.int j369_1), .unset] []) (Pst0 Z p1 p2 p3 p4 p5 h0 n0 s) := by
                  intro j405_0 hj405
                  refine Go.by (fun t k => XS.iload Xj250.here hx rfl (hb hby at_405) rfl k) ?_
                  show Go p e below Tj250 (mkF m 407 #[.val (.int p1), .val (.int p2), .val (.int p3), .val (.int p4), .val (.int p5), .val (.int (0 : Int32)), .val (.int av), .val (.int ((0 : Int32) + av)), .val (.ref b1), .val (.int lb), .val (.int x1), .val (.int x2), .val (.int x3), .val (.int j171_0), .val (.int j405_0), .val (.int j369_0), .val (.int j369_1), .unset] [(.int j405_0)]) _
                  have J419 : ∀ (j419_0 : Int32), (j419_0 = own_ex j405_0 (0 : Int32) j171_0) → Go p e below Tj250 (mkF m 419 #[.val (.int p1), .val (.int p2), .val (.int p3), .val (.int p4), .val (.int p5), .val (.int (0 : Int32)), .val (.int av), .val (.int ((0 : Int32) + av)), .val (.ref b1), .val (.int lb), .val (.int x1), .val (.int x2), .val (.int x3), .val (.int j171_0), .val (.int j405_0), .val (.int j369_0), .val (.int j369_1), .unset] [(.int j419_0)]) (Pst0 Z p1 p2 p3 p4 p5 h0 n0 s) := by
                    intro j419_0 hj419
                    refine Go.by (fun t k => XS.istore Xj250.here hx rfl (hb hby at_419) rfl (l' := #[.val (.int p1), .val (.int p2), .val (.int p3), .val (.int p4), .val (.int p5), .val (.int (0 : Int32)), .val (.int av), .val (.int ((0 : Int32) + av)), .val (.ref b1), .val (.int lb), .val (.int x1), .val (.int x2), .val (.int x3), .val (.int j171_0), .val (.int j405_0), .val (.int j369_0), .val (.int j369_1), .val (.int j419_0)]) rfl k) ?_
                    show Go p e below Tj250 (mkF m 421 #[.val (.int p1), .val (.int p2), .val (.int p3), .val (.int p4), .val (.int p5), .val (.int (0 : Int32)), .val (.int av), .val (.int ((0 : Int32) + av)), .val (.ref b1), .val (.int lb), .val (.int x1), .val (.int x2), .val (.int x3), .val (.int j171_0), .val (.int j405_0), .val (.int j369_0), .val (.int j369_1), .val (.int j419_0)] []) _
                    refine Go.by (fun t k => XS.aload Xj250.here hx rfl (hb hby at_421) rfl rfl k) ?_
                    show Go p e below Tj250 (mkF m 423 #[.val (.int p1), .val (.int p2), .val (.int p3), .val (.int p4), .val (.int p5), .val (.int (0 : Int32)), .val (.int av), .val (.int ((0 : Int32) + av)), .val (.ref b1), .val (.int lb), .val (.int x1), .val (.int x2), .val (.int x3), .val (.int j171_0), .val (.int j405_0), .val (.int j369_0), .val (.int j369_1), .val (.int j419_0)] [(.ref b1)]) _
                    refine Go.by (fun t k => XS.iload Xj250.here hx rfl (hb hby at_423) rfl k) ?_
                    show Go p e below Tj250 (mkF m 425 #[.val (.int p1), .val (.int p2), .val (.int p3), .val (.int p4), .val (.int p5), .val (.int (0 : Int32)), .val (.int av), .val (.int ((0 : Int32) + av)), .val (.ref b1), .val (.int lb), .val (.int x1), .val (.int x2), .val (.int x3), .val (.int j171_0), .val (.int j405_0), .val (.int j369_0), .val (.int j369_1), .val (.int j419_0)] [(.int (0 : Int32)), (.ref b1)]) _
                    refine Go.by (fun t k => XS.iload Xj250.here hx rfl (hb hby at_425) rfl k) ?_
                    show Go p e below Tj250 (mkF m 427 #[.val (.int p1), .val (.int p2), .val (.int p3), .val (.int p4), .val (.int p5), .val (.int (0 : Int32)), .val (.int av), .val (.int ((0 : Int32) + av)), .val (.ref b1), .val (.int lb), .val (.int x1), .val (.int x2), .val (.int x3), .val (.int j171_0), .val (.int j405_0), .val (.int j369_0), .val (.int j369_1), .val (.int j419_0)] [(.int ((0 : Int32) + av)), (.int (0 : Int32)), (.ref b1)]) _
                    obtain ⟨cl8, Ar8, -, S8, M8, H8, -⟩ := id V7
                    have hin8_0 := inb_of S8 (j := (0 : Int32)) ⟨by decide, by decide⟩
                    have hat8_0 := Has.at H8 hin8_0 (v := (.int (nar .byte (((128 : Int32) ||| (p1 &&& (127 : Int32))).toInt8.toInt32)))) rfl
                    have hin8_1 := inb_of S8 (j := ((0 : Int32) + (1 : Int32))) ⟨by decide, by decide⟩
                    have hat8_1 := Has.at H8 hin8_1 (v := (.int (nar .byte (p2.toInt8.toInt32)))) rfl
                    have hin8_2 := inb_of S8 (j := ((0 : Int32) + (2 : Int32))) ⟨by decide, by decide⟩
                    have hat8_2 := Has.at H8 hin8_2 (v := (.int (nar .byte (p3.toInt8.toInt32)))) rfl
                    have hin8_3 := inb_of S8 (j := ((0 : Int32) + (3 : Int32))) ⟨by decide, by decide⟩
                    have hat8_3 := Has.at H8 hin8_3 (v := (.int (nar .byte (p4.toInt8.toInt32)))) rfl
                    obtain ⟨_, _, ⟨T8, L8, k8, n8⟩, -, X8, ⟨Lc8, hQ8, l8, y8, z8⟩, st8⟩ := Jvm.LawKit.callS Xj250 hx (y := (⟨"com/example/tillscan/tillscan/core/Utf8", "characterEnd", "([BII)I"⟩ : MethodName)) hown (mvT hZ (hw _ (List.mem_of_getElem? (i := 1) rfl))) (mvT hZ (hw _ (List.mem_of_getElem? (i := 2) rfl))) (mvT hZ (hw _ (List.mem_of_getElem? (i := 3) rfl))) (mvT hZ (hw _ (List.mem_of_getElem? (i := 4) rfl))) (by decide) (backOf (W := 0) (rm1 l Z a0 hw [] b1 (0 : Int32) ((0 : Int32) + av) cl8 (nar .byte (((128 : Int32) ||| (p1 &&& (127 : Int32))).toInt8.toInt32)) (nar .byte (p2.toInt8.toInt32)) (nar .byte (p3.toInt8.toInt32)) (nar .byte (p4.toInt8.toInt32)) h7 n0 Z7 Ar8 hin8_0 hat8_0 hin8_1 hat8_1 hin8_2 hat8_2 hin8_3 hat8_3) hZ (hw _ (List.mem_of_getElem? (i := 4) rfl)) (hw _ (List.mem_of_getElem? (i := 3) rfl)) (by decide) (by decide)) (g := (mkF m 427 #[.val (.int p1), .val (.int p2), .val (.int p3), .val (.int p4), .val (.int p5), .val (.int (0 : Int32)), .val (.int av), .val (.int ((0 : Int32) + av)), .val (.ref b1), .val (.int lb), .val (.int x1), .val (.int x2), .val (.int x3), .val (.int j171_0), .val (.int j405_0), .val (.int j369_0), .val (.int j369_1), .val (.int j419_0)] [(.int ((0 : Int32) + av)), (.int (0 : Int32)), (.ref b1)])) rfl (by rw [hml]; rfl) (argsL := [(.ref b1), (.int (0 : Int32)), (.int ((0 : Int32) + av))]) (rest := []) (lenOf pd_1 rfl) rfl (by show 2 * 0 + _ ≤ _; exact Nat.le_of_eq rfl) (hb hby at_427) (fun _ _ => ⟨rfl, ej250, (by decide : 1 + 0 ≤ _), (by decide : 5 + 0 ≤ _)⟩)
                    dsimp only [Pt.U, Pt.locs, Pt.cells, Pt.slots] at X8 l8 y8 z8 st8 hQ8
                    subst l8 y8 z8
                    obtain ⟨rfl, N8q, e8q⟩ := hQ8
                    have N8 := Fr.app Nj250 N8q
                    refine Go.by st8 ?_
                    show Go p e below T8 (mkF m 430 #[.val (.int p1), .val (.int p2), .val (.int p3), .val (.int p4), .val (.int p5), .val (.int (0 : Int32)), .val (.int av), .val (.int ((0 : Int32) + av)), .val (.ref b1), .val (.int lb), .val (.int x1), .val (.int x2), .val (.int x3), .val (.int j171_0), .val (.int j405_0), .val (.int j369_0), .val (.int j369_1), .val (.int j419_0)] [(.int (own_ce (0 : Int32) ((0 : Int32) + av) (nar .byte (((128 : Int32) ||| (p1 &&& (127 : Int32))).toInt8.toInt32)) (nar .byte (p2.toInt8.toInt32)) (nar .byte (p3.toInt8.toInt32)) (nar .byte (p4.toInt8.toInt32))))]) _
                    refine Go.by (fun t k => XS.iload X8.here hx rfl (hb hby at_430) rfl k) ?_
                    show Go p e below T8 (mkF m 432 #[.val (.int p1), .val (.int p2), .val (.int p3), .val (.int p4), .val (.int p5), .val (.int (0 : Int32)), .val (.int av), .val (.int ((0 : Int32) + av)), .val (.ref b1), .val (.int lb), .val (.int x1), .val (.int x2), .val (.int x3), .val (.int j171_0), .val (.int j405_0), .val (.int j369_0), .val (.int j369_1), .val (.int j419_0)] [(.int j419_0), (.int (own_ce (0 : Int32) ((0 : Int32) + av) (nar .byte (((128 : Int32) ||| (p1 &&& (127 : Int32))).toInt8.toInt32)) (nar .byte (p2.toInt8.toInt32)) (nar .byte (p3.toInt8.toInt32)) (nar .byte (p4.toInt8.toInt32))))]) _
                    refine Go.by (fun t k => XS.icmpNo X8.here hx rfl (hb hby at_432) rfl (teq (show (own_ce (0 : Int32) ((0 : Int32) + av) (nar .byte (((128 : Int32) ||| (p1 &&& (127 : Int32))).toInt8.toInt32)) (nar .byte (p2.toInt8.toInt32)) (nar .byte (p3.toInt8.toInt32)) (nar .byte (p4.toInt8.toInt32))) = j419_0 from (by obtain ⟨hq1, hq2⟩ := hj369; rw [hj419, hj405, hq1, hq2, hj250, hj228, hj206, hj188, hj171, ← h_x1, ← h_x2, ← h_x3]; exact own_final (0 : Int32) (by decide) p1 p2 p3 p4 p5 av lb h_av h_lb))).2 k) ?_
                    show Go p e below T8 (mkF m 435 #[.val (.int p1), .val (.int p2), .val (.int p3), .val (.int p4), .val (.int p5), .val (.int (0 : Int32)), .val (.int av), .val (.int ((0 : Int32) + av)), .val (.ref b1), .val (.int lb), .val (.int x1), .val (.int x2), .val (.int x3), .val (.int j171_0), .val (.int j405_0), .val (.int j369_0), .val (.int j369_1), .val (.int j419_0)] []) _
                    refine Go.by (fun t k => XS.iconst X8.here hx rfl (hb hby at_435) k) ?_
                    show Go p e below T8 (mkF m 436 #[.val (.int p1), .val (.int p2), .val (.int p3), .val (.int p4), .val (.int p5), .val (.int (0 : Int32)), .val (.int av), .val (.int ((0 : Int32) + av)), .val (.ref b1), .val (.int lb), .val (.int x1), .val (.int x2), .val (.int x3), .val (.int j171_0), .val (.int j405_0), .val (.int j369_0), .val (.int j369_1), .val (.int j419_0)] [(.int (1 : Int32))]) _
                    refine Go.by (fun t k => XS.goto X8.here hx rfl (pc0 := 436) (pc' := 440) rfl (hb hby at_436) (by decide) (by decide) k) ?_
                    show Go p e below T8 (mkF m 440 #[.val (.int p1), .val (.int p2), .val (.int p3), .val (.int p4), .val (.int p5), .val (.int (0 : Int32)), .val (.int av), .val (.int ((0 : Int32) + av)), .val (.ref b1), .val (.int lb), .val (.int x1), .val (.int x2), .val (.int x3), .val (.int j171_0), .val (.int j405_0), .val (.int j369_0), .val (.int j369_1), .val (.int j419_0)] [(.int (1 : Int32))]) _
                    obtain ⟨fs, hr, hrun, hended, hW, hsame⟩ := X8.leave (v := some (.int (1 : Int32))) (fun h => by rw [Bd.returns] at h; cases h)
                    refine Go.done (retN X8 hx (t := .boolean) Bd.returns (by simp) (hb hby at_440) hr) hrun hended ⟨_, _, rfl, ?_, ⟨_, rfl⟩, hW, hsame.mono (by decide) (by decide)⟩
                    show Q0 Z p1 p2 p3 p4 p5 h0 n0 _ T8.heap _
                    rw [e8q]
                    exact ⟨rfl, N8⟩
                  by_cases hc9 : j405_0 = (0 : Int32)
                  · refine Go.by (fun t k => XS.ifYes Xj250.here hx rfl (pc0 := 407) (pc' := 418) rfl (hb hby at_407) rfl ((if0 _ _).trans (teq hc9).1) (by decide) (by decide) k) ?_
                    show Go p e below Tj250 (mkF m 418 #[.val (.int p1), .val (.int p2), .val (.int p3), .val (.int p4), .val (.int p5), .val (.int (0 : Int32)), .val (.int av), .val (.int ((0 : Int32) + av)), .val (.ref b1), .val (.int lb), .val (.int x1), .val (.int x2), .val (.int x3), .val (.int j171_0), .val (.int j405_0), .val (.int j369_0), .val (.int j369_1), .unset] []) _
                    refine Go.by (fun t k => XS.iconst Xj250.here hx rfl (hb hby at_418) k) ?_
                    show Go p e below Tj250 (mkF m 419 #[.val (.int p1), .val (.int p2), .val (.int p3), .val (.int p4), .val (.int p5), .val (.int (0 : Int32)), .val (.int av), .val (.int ((0 : Int32) + av)), .val (.ref b1), .val (.int lb), .val (.int x1), .val (.int x2), .val (.int x3), .val (.int j171_0), .val (.int j405_0), .val (.int j369_0), .val (.int j369_1), .unset] [(.int (-1 : Int32))]) _
                    exact J419 (-1 : Int32) (by rw [own_ex, if_pos hc9])
                  · refine Go.by (fun t k => XS.ifNo Xj250.here hx rfl (hb hby at_407) rfl ((if0 _ _).trans (feq hc9).1) k) ?_
                    show Go p e below Tj250 (mkF m 410 #[.val (.int p1), .val (.int p2), .val (.int p3), .val (.int p4), .val (.int p5), .val (.int (0 : Int32)), .val (.int av), .val (.int ((0 : Int32) + av)), .val (.ref b1), .val (.int lb), .val (.int x1), .val (.int x2), .val (.int x3), .val (.int j171_0), .val (.int j405_0), .val (.int j369_0), .val (.int j369_1), .unset] []) _
                    refine Go.by (fun t k => XS.iload Xj250.here hx rfl (hb hby at_410) rfl k) ?_
                    show Go p e below Tj250 (mkF m 412 #[.val (.int p1), .val (.int p2), .val (.int p3), .val (.int p4), .val (.int p5), .val (.int (0 : Int32)), .val (.int av), .val (.int ((0 : Int32) + av)), .val (.ref b1), .val (.int lb), .val (.int x1), .val (.int x2), .val (.int x3), .val (.int j171_0), .val (.int j405_0), .val (.int j369_0), .val (.int j369_1), .unset] [(.int (0 : Int32))]) _
                    refine Go.by (fun t k => XS.iload Xj250.here hx rfl (hb hby at_412) rfl k) ?_
                    show Go p e below Tj250 (mkF m 414 #[.val (.int p1), .val (.int p2), .val (.int p3), .val (.int p4), .val (.int p5), .val (.int (0 : Int32)), .val (.int av), .val (.int ((0 : Int32) + av)), .val (.ref b1), .val (.int lb), .val (.int x1), .val (.int x2), .val (.int x3), .val (.int j171_0), .val (.int j405_0), .val (.int j369_0), .val (.int j369_1), .unset] [(.int j171_0), (.int (0 : Int32))]) _
                    refine Go.by (fun t k => XS.iadd Xj250.here hx rfl (hb hby at_414) rfl k) ?_
                    show Go p e below Tj250 (mkF m 415 #[.val (.int p1), .val (.int p2), .val (.int p3), .val (.int p4), .val (.int p5), .val (.int (0 : Int32)), .val (.int av), .val (.int ((0 : Int32) + av)), .val (.ref b1), .val (.int lb), .val (.int x1), .val (.int x2), .val (.int x3), .val (.int j171_0), .val (.int j405_0), .val (.int j369_0), .val (.int j369_1), .unset] [(.int ((0 : Int32) + j171_0))]) _
                    refine Go.by (fun t k => XS.goto Xj250.here hx rfl (pc0 := 415) (pc' := 419) rfl (hb hby at_415) (by decide) (by decide) k) ?_
                    show Go p e below Tj250 (mkF m 419 #[.val (.int p1), .val (.int p2), .val (.int p3), .val (.int p4), .val (.int p5), .val (.int (0 : Int32)), .val (.int av), .val (.int ((0 : Int32) + av)), .val (.ref b1), .val (.int lb), .val (.int x1), .val (.int x2), .val (.int x3), .val (.int j171_0), .val (.int j405_0), .val (.int j369_0), .val (.int j369_1), .unset] [(.int ((0 : Int32) + j171_0))]) _
                    exact J419 ((0 : Int32) + j171_0) (by rw [own_ex, if_neg hc9])
                by_cases hc10 : j250_0 = (0 : Int32)
                · refine Go.by (fun t k => XS.ifYes Xj250.here hx rfl (pc0 := 371) (pc' := 405) rfl (hb hby at_371) rfl ((if0 _ _).trans (teq hc10).1) (by decide) (by decide) k) ?_
                  show Go p e below Tj250 (mkF m 405 #[.val (.int p1), .val (.int p2), .val (.int p3), .val (.int p4), .val (.int p5), .val (.int (0 : Int32)), .val (.int av), .val (.int ((0 : Int32) + av)), .val (.ref b1), .val (.int lb), .val (.int x1), .val (.int x2), .val (.int x3), .val (.int j171_0), .val (.int j250_0), .val (.int j369_0), .val (.int j369_1), .unset] []) _
                  exact J405 j250_0 (by rw [own_ok5, if_pos hc10])
                · refine Go.by (fun t k => XS.ifNo Xj250.here hx rfl (hb hby at_371) rfl ((if0 _ _).trans (feq hc10).1) k) ?_
                  show Go p e below Tj250 (mkF m 374 #[.val (.int p1), .val (.int p2), .val (.int p3), .val (.int p4), .val (.int p5), .val (.int (0 : Int32)), .val (.int av), .val (.int ((0 : Int32) + av)), .val (.ref b1), .val (.int lb), .val (.int x1), .val (.int x2), .val (.int x3), .val (.int j171_0), .val (.int j250_0), .val (.int j369_0), .val (.int j369_1), .unset] []) _
                  refine Go.by (fun t k => XS.iload Xj250.here hx rfl (hb hby at_374) rfl k) ?_
                  show Go p e below Tj250 (mkF m 376 #[.val (.int p1), .val (.int p2), .val (.int p3), .val (.int p4), .val (.int p5), .val (.int (0 : Int32)), .val (.int av), .val (.int ((0 : Int32) + av)), .val (.ref b1), .val (.int lb), .val (.int x1), .val (.int x2), .val (.int x3), .val (.int j171_0), .val (.int j250_0), .val (.int j369_0), .val (.int j369_1), .unset] [(.int j369_0)]) _
                  refine Go.by (fun t k => XS.iload Xj250.here hx rfl (hb hby at_376) rfl k) ?_
                  show Go p e below Tj250 (mkF m 378 #[.val (.int p1), .val (.int p2), .val (.int p3), .val (.int p4), .val (.int p5), .val (.int (0 : Int32)), .val (.int av), .val (.int ((0 : Int32) + av)), .val (.ref b1), .val (.int lb), .val (.int x1), .val (.int x2), .val (.int x3), .val (.int j171_0), .val (.int j250_0), .val (.int j369_0), .val (.int j369_1), .unset] [(.int j369_1), (.int j369_0)]) _
                  by_cases hc11 : j369_0 < j369_1
                  · refine Go.by (fun t k => XS.icmpYes Xj250.here hx rfl (pc0 := 378) (pc' := 402) rfl (hb hby at_378) rfl (tlt hc11).1 (by decide) (by decide) k) ?_
                    show Go p e below Tj250 (mkF m 402 #[.val (.int p1), .val (.int p2), .val (.int p3), .val (.int p4), .val (.int p5), .val (.int (0 : Int32)), .val (.int av), .val (.int ((0 : Int32) + av)), .val (.ref b1), .val (.int lb), .val (.int x1), .val (.int x2), .val (.int x3), .val (.int j171_0), .val (.int j250_0), .val (.int j369_0), .val (.int j369_1), .unset] []) _
                    refine Go.by (fun t k => XS.iconst Xj250.here hx rfl (hb hby at_402) k) ?_
                    show Go p e below Tj250 (mkF m 403 #[.val (.int p1), .val (.int p2), .val (.int p3), .val (.int p4), .val (.int p5), .val (.int (0 : Int32)), .val (.int av), .val (.int ((0 : Int32) + av)), .val (.ref b1), .val (.int lb), .val (.int x1), .val (.int x2), .val (.int x3), .val (.int j171_0), .val (.int j250_0), .val (.int j369_0), .val (.int j369_1), .unset] [(.int (0 : Int32))]) _
                    refine Go.by (fun t k => XS.istore Xj250.here hx rfl (hb hby at_403) rfl (l' := #[.val (.int p1), .val (.int p2), .val (.int p3), .val (.int p4), .val (.int p5), .val (.int (0 : Int32)), .val (.int av), .val (.int ((0 : Int32) + av)), .val (.ref b1), .val (.int lb), .val (.int x1), .val (.int x2), .val (.int x3), .val (.int j171_0), .val (.int (0 : Int32)), .val (.int j369_0), .val (.int j369_1), .unset]) rfl k) ?_
                    show Go p e below Tj250 (mkF m 405 #[.val (.int p1), .val (.int p2), .val (.int p3), .val (.int p4), .val (.int p5), .val (.int (0 : Int32)), .val (.int av), .val (.int ((0 : Int32) + av)), .val (.ref b1), .val (.int lb), .val (.int x1), .val (.int x2), .val (.int x3), .val (.int j171_0), .val (.int (0 : Int32)), .val (.int j369_0), .val (.int j369_1), .unset] []) _
                    exact J405 (0 : Int32) (by rw [own_ok5, if_neg hc10, if_pos hc11])
                  · refine Go.by (fun t k => XS.icmpNo Xj250.here hx rfl (hb hby at_378) rfl (flt hc11).1 k) ?_
                    show Go p e below Tj250 (mkF m 381 #[.val (.int p1), .val (.int p2), .val (.int p3), .val (.int p4), .val (.int p5), .val (.int (0 : Int32)), .val (.int av), .val (.int ((0 : Int32) + av)), .val (.ref b1), .val (.int lb), .val (.int x1), .val (.int x2), .val (.int x3), .val (.int j171_0), .val (.int j250_0), .val (.int j369_0), .val (.int j369_1), .unset] []) _
                    refine Go.by (fun t k => XS.iload Xj250.here hx rfl (hb hby at_381) rfl k) ?_
                    show Go p e below Tj250 (mkF m 383 #[.val (.int p1), .val (.int p2), .val (.int p3), .val (.int p4), .val (.int p5), .val (.int (0 : Int32)), .val (.int av), .val (.int ((0 : Int32) + av)), .val (.ref b1), .val (.int lb), .val (.int x1), .val (.int x2), .val (.int x3), .val (.int j171_0), .val (.int j250_0), .val (.int j369_0), .val (.int j369_1), .unset] [(.int j369_0)]) _
                    refine Go.by (fun t k => Xj250.ldcInt hx hown (mvT hZ (hw _ (List.mem_of_getElem? (i := 13) rfl))) (g := (mkF m 383 #[.val (.int p1), .val (.int p2), .val (.int p3), .val (.int p4), .val (.int p5), .val (.int (0 : Int32)), .val (.int av), .val (.int ((0 : Int32) + av)), .val (.ref b1), .val (.int lb), .val (.int x1), .val (.int x2), .val (.int x3), .val (.int j171_0), .val (.int j250_0), .val (.int j369_0), .val (.int j369_1), .unset] [(.int j369_0)])) rfl (hb hby at_383) t k) ?_
                    show Go p e below Tj250 (mkF m 385 #[.val (.int p1), .val (.int p2), .val (.int p3), .val (.int p4), .val (.int p5), .val (.int (0 : Int32)), .val (.int av), .val (.int ((0 : Int32) + av)), .val (.ref b1), .val (.int lb), .val (.int x1), .val (.int x2), .val (.int x3), .val (.int j171_0), .val (.int j250_0), .val (.int j369_0), .val (.int j369_1), .unset] [(.int (1114111 : Int32)), (.int j369_0)]) _
                    by_cases hc12 : (1114111 : Int32) < j369_0
                    · refine Go.by (fun t k => XS.icmpYes Xj250.here hx rfl (pc0 := 385) (pc' := 402) rfl (hb hby at_385) rfl (tlt hc12).2.2.1 (by decide) (by decide) k) ?_
                      show Go p e below Tj250 (mkF m 402 #[.val (.int p1), .val (.int p2), .val (.int p3), .val (.int p4), .val (.int p5), .val (.int (0 : Int32)), .val (.int av), .val (.int ((0 : Int32) + av)), .val (.ref b1), .val (.int lb), .val (.int x1), .val (.int x2), .val (.int x3), .val (.int j171_0), .val (.int j250_0), .val (.int j369_0), .val (.int j369_1), .unset] []) _
                      refine Go.by (fun t k => XS.iconst Xj250.here hx rfl (hb hby at_402) k) ?_
                      show Go p e below Tj250 (mkF m 403 #[.val (.int p1), .val (.int p2), .val (.int p3), .val (.int p4), .val (.int p5), .val (.int (0 : Int32)), .val (.int av), .val (.int ((0 : Int32) + av)), .val (.ref b1), .val (.int lb), .val (.int x1), .val (.int x2), .val (.int x3), .val (.int j171_0), .val (.int j250_0), .val (.int j369_0), .val (.int j369_1), .unset] [(.int (0 : Int32))]) _
                      refine Go.by (fun t k => XS.istore Xj250.here hx rfl (hb hby at_403) rfl (l' := #[.val (.int p1), .val (.int p2), .val (.int p3), .val (.int p4), .val (.int p5), .val (.int (0 : Int32)), .val (.int av), .val (.int ((0 : Int32) + av)), .val (.ref b1), .val (.int lb), .val (.int x1), .val (.int x2), .val (.int x3), .val (.int j171_0), .val (.int (0 : Int32)), .val (.int j369_0), .val (.int j369_1), .unset]) rfl k) ?_
                      show Go p e below Tj250 (mkF m 405 #[.val (.int p1), .val (.int p2), .val (.int p3), .val (.int p4), .val (.int p5), .val (.int (0 : Int32)), .val (.int av), .val (.int ((0 : Int32) + av)), .val (.ref b1), .val (.int lb), .val (.int x1), .val (.int x2), .val (.int x3), .val (.int j171_0), .val (.int (0 : Int32)), .val (.int j369_0), .val (.int j369_1), .unset] []) _
                      exact J405 (0 : Int32) (by rw [own_ok5, if_neg hc10, if_neg hc11, if_pos hc12])
                    · refine Go.by (fun t k => XS.icmpNo Xj250.here hx rfl (hb hby at_385) rfl (flt hc12).2.2.1 k) ?_
                      show Go p e below Tj250 (mkF m 388 #[.val (.int p1), .val (.int p2), .val (.int p3), .val (.int p4), .val (.int p5), .val (.int (0 : Int32)), .val (.int av), .val (.int ((0 : Int32) + av)), .val (.ref b1), .val (.int lb), .val (.int x1), .val (.int x2), .val (.int x3), .val (.int j171_0), .val (.int j250_0), .val (.int j369_0), .val (.int j369_1), .unset] []) _
                      refine Go.by (fun t k => XS.iload Xj250.here hx rfl (hb hby at_388) rfl k) ?_
                      show Go p e below Tj250 (mkF m 390 #[.val (.int p1), .val (.int p2), .val (.int p3), .val (.int p4), .val (.int p5), .val (.int (0 : Int32)), .val (.int av), .val (.int ((0 : Int32) + av)), .val (.ref b1), .val (.int lb), .val (.int x1), .val (.int x2), .val (.int x3), .val (.int j171_0), .val (.int j250_0), .val (.int j369_0), .val (.int j369_1), .unset] [(.int j369_0)]) _
                      refine Go.by (fun t k => Xj250.ldcInt hx hown (mvT hZ (hw _ (List.mem_of_getElem? (i := 14) rfl))) (g := (mkF m 390 #[.val (.int p1), .val (.int p2), .val (.int p3), .val (.int p4), .val (.int p5), .val (.int (0 : Int32)), .val (.int av), .val (.int ((0 : Int32) + av)), .val (.ref b1), .val (.int lb), .val (.int x1), .val (.int x2), .val (.int x3), .val (.int j171_0), .val (.int j250_0), .val (.int j369_0), .val (.int j369_1), .unset] [(.int j369_0)])) rfl (hb hby at_390) t k) ?_
                      show Go p e below Tj250 (mkF m 392 #[.val (.int p1), .val (.int p2), .val (.int p3), .val (.int p4), .val (.int p5), .val (.int (0 : Int32)), .val (.int av), .val (.int ((0 : Int32) + av)), .val (.ref b1), .val (.int lb), .val (.int x1), .val (.int x2), .val (.int x3), .val (.int j171_0), .val (.int j250_0), .val (.int j369_0), .val (.int j369_1), .unset] [(.int (55296 : Int32)), (.int j369_0)]) _
                      by_cases hc13 : j369_0 < (55296 : Int32)
                      · refine Go.by (fun t k => XS.icmpYes Xj250.here hx rfl (pc0 := 392) (pc' := 405) rfl (hb hby at_392) rfl (tlt hc13).1 (by decide) (by decide) k) ?_
                        show Go p e below Tj250 (mkF m 405 #[.val (.int p1), .val (.int p2), .val (.int p3), .val (.int p4), .val (.int p5), .val (.int (0 : Int32)), .val (.int av), .val (.int ((0 : Int32) + av)), .val (.ref b1), .val (.int lb), .val (.int x1), .val (.int x2), .val (.int x3), .val (.int j171_0), .val (.int j250_0), .val (.int j369_0), .val (.int j369_1), .unset] []) _
                        exact J405 j250_0 (by rw [own_ok5, if_neg hc10, if_neg hc11, if_neg hc12, if_pos hc13])
                      · refine Go.by (fun t k => XS.icmpNo Xj250.here hx rfl (hb hby at_392) rfl (flt hc13).1 k) ?_
                        show Go p e below Tj250 (mkF m 395 #[.val (.int p1), .val (.int p2), .val (.int p3), .val (.int p4), .val (.int p5), .val (.int (0 : Int32)), .val (.int av), .val (.int ((0 : Int32) + av)), .val (.ref b1), .val (.int lb), .val (.int x1), .val (.int x2), .val (.int x3), .val (.int j171_0), .val (.int j250_0), .val (.int j369_0), .val (.int j369_1), .unset] []) _
                        refine Go.by (fun t k => XS.iload Xj250.here hx rfl (hb hby at_395) rfl k) ?_
                        show Go p e below Tj250 (mkF m 397 #[.val (.int p1), .val (.int p2), .val (.int p3), .val (.int p4), .val (.int p5), .val (.int (0 : Int32)), .val (.int av), .val (.int ((0 : Int32) + av)), .val (.ref b1), .val (.int lb), .val (.int x1), .val (.int x2), .val (.int x3), .val (.int j171_0), .val (.int j250_0), .val (.int j369_0), .val (.int j369_1), .unset] [(.int j369_0)]) _
                        refine Go.by (fun t k => Xj250.ldcInt hx hown (mvT hZ (hw _ (List.mem_of_getElem? (i := 15) rfl))) (g := (mkF m 397 #[.val (.int p1), .val (.int p2), .val (.int p3), .val (.int p4), .val (.int p5), .val (.int (0 : Int32)), .val (.int av), .val (.int ((0 : Int32) + av)), .val (.ref b1), .val (.int lb), .val (.int x1), .val (.int x2), .val (.int x3), .val (.int j171_0), .val (.int j250_0), .val (.int j369_0), .val (.int j369_1), .unset] [(.int j369_0)])) rfl (hb hby at_397) t k) ?_
                        show Go p e below Tj250 (mkF m 399 #[.val (.int p1), .val (.int p2), .val (.int p3), .val (.int p4), .val (.int p5), .val (.int (0 : Int32)), .val (.int av), .val (.int ((0 : Int32) + av)), .val (.ref b1), .val (.int lb), .val (.int x1), .val (.int x2), .val (.int x3), .val (.int j171_0), .val (.int j250_0), .val (.int j369_0), .val (.int j369_1), .unset] [(.int (57343 : Int32)), (.int j369_0)]) _
                        by_cases hc14 : (57343 : Int32) < j369_0
                        · refine Go.by (fun t k => XS.icmpYes Xj250.here hx rfl (pc0 := 399) (pc' := 405) rfl (hb hby at_399) rfl (tlt hc14).2.2.1 (by decide) (by decide) k) ?_
                          show Go p e below Tj250 (mkF m 405 #[.val (.int p1), .val (.int p2), .val (.int p3), .val (.int p4), .val (.int p5), .val (.int (0 : Int32)), .val (.int av), .val (.int ((0 : Int32) + av)), .val (.ref b1), .val (.int lb), .val (.int x1), .val (.int x2), .val (.int x3), .val (.int j171_0), .val (.int j250_0), .val (.int j369_0), .val (.int j369_1), .unset] []) _
                          exact J405 j250_0 (by rw [own_ok5, if_neg hc10, if_neg hc11, if_neg hc12, if_neg hc13, if_pos hc14])
                        · refine Go.by (fun t k => XS.icmpNo Xj250.here hx rfl (hb hby at_399) rfl (flt hc14).2.2.1 k) ?_
                          show Go p e below Tj250 (mkF m 402 #[.val (.int p1), .val (.int p2), .val (.int p3), .val (.int p4), .val (.int p5), .val (.int (0 : Int32)), .val (.int av), .val (.int ((0 : Int32) + av)), .val (.ref b1), .val (.int lb), .val (.int x1), .val (.int x2), .val (.int x3), .val (.int j171_0), .val (.int j250_0), .val (.int j369_0), .val (.int j369_1), .unset] []) _
                          refine Go.by (fun t k => XS.iconst Xj250.here hx rfl (hb hby at_402) k) ?_
                          show Go p e below Tj250 (mkF m 403 #[.val (.int p1), .val (.int p2), .val (.int p3), .val (.int p4), .val (.int p5), .val (.int (0 : Int32)), .val (.int av), .val (.int ((0 : Int32) + av)), .val (.ref b1), .val (.int lb), .val (.int x1), .val (.int x2), .val (.int x3), .val (.int j171_0), .val (.int j250_0), .val (.int j369_0), .val (.int j369_1), .unset] [(.int (0 : Int32))]) _
                          refine Go.by (fun t k => XS.istore Xj250.here hx rfl (hb hby at_403) rfl (l' := #[.val (.int p1), .val (.int p2), .val (.int p3), .val (.int p4), .val (.int p5), .val (.int (0 : Int32)), .val (.int av), .val (.int ((0 : Int32) + av)), .val (.ref b1), .val (.int lb), .val (.int x1), .val (.int x2), .val (.int x3), .val (.int j171_0), .val (.int (0 : Int32)), .val (.int j369_0), .val (.int j369_1), .unset]) rfl k) ?_
                          show Go p e below Tj250 (mkF m 405 #[.val (.int p1), .val (.int p2), .val (.int p3), .val (.int p4), .val (.int p5), .val (.int (0 : Int32)), .val (.int av), .val (.int ((0 : Int32) + av)), .val (.ref b1), .val (.int lb), .val (.int x1), .val (.int x2), .val (.int x3), .val (.int j171_0), .val (.int (0 : Int32)), .val (.int j369_0), .val (.int j369_1), .unset] []) _
                          exact J405 (0 : Int32) (by rw [own_ok5, if_neg hc10, if_neg hc11, if_neg hc12, if_neg hc13, if_neg hc14])
              by_cases hc15 : j171_0 = (2 : Int32)
              · refine Go.by (fun t k => XS.icmpNo Xj250.here hx rfl (hb hby at_259) rfl (teq hc15).2 k) ?_
                show Go p e below Tj250 (mkF m 262 #[.val (.int p1), .val (.int p2), .val (.int p3), .val (.int p4), .val (.int p5), .val (.int (0 : Int32)), .val (.int av), .val (.int ((0 : Int32) + av)), .val (.ref b1), .val (.int lb), .val (.int x1), .val (.int x2), .val (.int x3), .val (.int j171_0), .val (.int j250_0), .val (.int (0 : Int32)), .val (.int (0 : Int32)), .unset] []) _
                refine Go.by (fun t k => XS.iload Xj250.here hx rfl (hb hby at_262) rfl k) ?_
                show Go p e below Tj250 (mkF m 264 #[.val (.int p1), .val (.int p2), .val (.int p3), .val (.int p4), .val (.int p5), .val (.int (0 : Int32)), .val (.int av), .val (.int ((0 : Int32) + av)), .val (.ref b1), .val (.int lb), .val (.int x1), .val (.int x2), .val (.int x3), .val (.int j171_0), .val (.int j250_0), .val (.int (0 : Int32)), .val (.int (0 : Int32)), .unset] [(.int lb)]) _
                refine Go.by (fun t k => XS.bipush Xj250.here hx rfl (hb hby at_264) k) ?_
                show Go p e below Tj250 (mkF m 266 #[.val (.int p1), .val (.int p2), .val (.int p3), .val (.int p4), .val (.int p5), .val (.int (0 : Int32)), .val (.int av), .val (.int ((0 : Int32) + av)), .val (.ref b1), .val (.int lb), .val (.int x1), .val (.int x2), .val (.int x3), .val (.int j171_0), .val (.int j250_0), .val (.int (0 : Int32)), .val (.int (0 : Int32)), .unset] [(.int (31 : Int32)), (.int lb)]) _
                refine Go.by (fun t k => XS.iand Xj250.here hx rfl (hb hby at_266) rfl k) ?_
                show Go p e below Tj250 (mkF m 267 #[.val (.int p1), .val (.int p2), .val (.int p3), .val (.int p4), .val (.int p5), .val (.int (0 : Int32)), .val (.int av), .val (.int ((0 : Int32) + av)), .val (.ref b1), .val (.int lb), .val (.int x1), .val (.int x2), .val (.int x3), .val (.int j171_0), .val (.int j250_0), .val (.int (0 : Int32)), .val (.int (0 : Int32)), .unset] [(.int (lb &&& (31 : Int32)))]) _
                refine Go.by (fun t k => XS.bipush Xj250.here hx rfl (hb hby at_267) k) ?_
                show Go p e below Tj250 (mkF m 269 #[.val (.int p1), .val (.int p2), .val (.int p3), .val (.int p4), .val (.int p5), .val (.int (0 : Int32)), .val (.int av), .val (.int ((0 : Int32) + av)), .val (.ref b1), .val (.int lb), .val (.int x1), .val (.int x2), .val (.int x3), .val (.int j171_0), .val (.int j250_0), .val (.int (0 : Int32)), .val (.int (0 : Int32)), .unset] [(.int (6 : Int32)), (.int (lb &&& (31 : Int32)))]) _
                refine Go.by (fun t k => XS.ishl Xj250.here hx rfl (hb hby at_269) rfl k) ?_
                show Go p e below Tj250 (mkF m 270 #[.val (.int p1), .val (.int p2), .val (.int p3), .val (.int p4), .val (.int p5), .val (.int (0 : Int32)), .val (.int av), .val (.int ((0 : Int32) + av)), .val (.ref b1), .val (.int lb), .val (.int x1), .val (.int x2), .val (.int x3), .val (.int j171_0), .val (.int j250_0), .val (.int (0 : Int32)), .val (.int (0 : Int32)), .unset] [(.int ((lb &&& (31 : Int32)) <<< ((6 : Int32) &&& 31)))]) _
                refine Go.by (fun t k => XS.iload Xj250.here hx rfl (hb hby at_270) rfl k) ?_
                show Go p e below Tj250 (mkF m 272 #[.val (.int p1), .val (.int p2), .val (.int p3), .val (.int p4), .val (.int p5), .val (.int (0 : Int32)), .val (.int av), .val (.int ((0 : Int32) + av)), .val (.ref b1), .val (.int lb), .val (.int x1), .val (.int x2), .val (.int x3), .val (.int j171_0), .val (.int j250_0), .val (.int (0 : Int32)), .val (.int (0 : Int32)), .unset] [(.int x1), (.int ((lb &&& (31 : Int32)) <<< ((6 : Int32) &&& 31)))]) _
                refine Go.by (fun t k => XS.bipush Xj250.here hx rfl (hb hby at_272) k) ?_
                show Go p e below Tj250 (mkF m 274 #[.val (.int p1), .val (.int p2), .val (.int p3), .val (.int p4), .val (.int p5), .val (.int (0 : Int32)), .val (.int av), .val (.int ((0 : Int32) + av)), .val (.ref b1), .val (.int lb), .val (.int x1), .val (.int x2), .val (.int x3), .val (.int j171_0), .val (.int j250_0), .val (.int (0 : Int32)), .val (.int (0 : Int32)), .unset] [(.int (63 : Int32)), (.int x1), (.int ((lb &&& (31 : Int32)) <<< ((6 : Int32) &&& 31)))]) _
                refine Go.by (fun t k => XS.iand Xj250.here hx rfl (hb hby at_274) rfl k) ?_
                show Go p e below Tj250 (mkF m 275 #[.val (.int p1), .val (.int p2), .val (.int p3), .val (.int p4), .val (.int p5), .val (.int (0 : Int32)), .val (.int av), .val (.int ((0 : Int32) + av)), .val (.ref b1), .val (.int lb), .val (.int x1), .val (.int x2), .val (.int x3), .val (.int j171_0), .val (.int j250_0), .val (.int (0 : Int32)), .val (.int (0 : Int32)), .unset] [(.int (x1 &&& (63 : Int32))), (.int ((lb &&& (31 : Int32)) <<< ((6 : Int32) &&& 31)))]) _
                refine Go.by (fun t k => XS.ior Xj250.here hx rfl (hb hby at_275) rfl k) ?_
                show Go p e below Tj250 (mkF m 276 #[.val (.int p1), .val (.int p2), .val (.int p3), .val (.int p4), .val (.int p5), .val (.int (0 : Int32)), .val (.int av), .val (.int ((0 : Int32) + av)), .val (.ref b1), .val (.int lb), .val (.int x1), .val (.int x2), .val (.int x3), .val (.int j171_0), .val (.int j250_0), .val (.int (0 : Int32)), .val (.int (0 : Int32)), .unset] [(.int (((lb &&& (31 : Int32)) <<< ((6 : Int32) &&& 31)) ||| (x1 &&& (63 : Int32))))]) _
                refine Go.by (fun t k => XS.istore Xj250.here hx rfl (hb hby at_276) rfl (l' := #[.val (.int p1), .val (.int p2), .val (.int p3), .val (.int p4), .val (.int p5), .val (.int (0 : Int32)), .val (.int av), .val (.int ((0 : Int32) + av)), .val (.ref b1), .val (.int lb), .val (.int x1), .val (.int x2), .val (.int x3), .val (.int j171_0), .val (.int j250_0), .val (.int (((lb &&& (31 : Int32)) <<< ((6 : Int32) &&& 31)) ||| (x1 &&& (63 : Int32)))), .val (.int (0 : Int32)), .unset]) rfl k) ?_
                show Go p e below Tj250 (mkF m 278 #[.val (.int p1), .val (.int p2), .val (.int p3), .val (.int p4), .val (.int p5), .val (.int (0 : Int32)), .val (.int av), .val (.int ((0 : Int32) + av)), .val (.ref b1), .val (.int lb), .val (.int x1), .val (.int x2), .val (.int x3), .val (.int j171_0), .val (.int j250_0), .val (.int (((lb &&& (31 : Int32)) <<< ((6 : Int32) &&& 31)) ||| (x1 &&& (63 : Int32)))), .val (.int (0 : Int32)), .unset] []) _
                refine Go.by (fun t k => XS.sipush Xj250.here hx rfl (hb hby at_278) k) ?_
                show Go p e below Tj250 (mkF m 281 #[.val (.int p1), .val (.int p2), .val (.int p3), .val (.int p4), .val (.int p5), .val (.int (0 : Int32)), .val (.int av), .val (.int ((0 : Int32) + av)), .val (.ref b1), .val (.int lb), .val (.int x1), .val (.int x2), .val (.int x3), .val (.int j171_0), .val (.int j250_0), .val (.int (((lb &&& (31 : Int32)) <<< ((6 : Int32) &&& 31)) ||| (x1 &&& (63 : Int32)))), .val (.int (0 : Int32)), .unset] [(.int (128 : Int32))]) _
                refine Go.by (fun t k => XS.istore Xj250.here hx rfl (hb hby at_281) rfl (l' := #[.val (.int p1), .val (.int p2), .val (.int p3), .val (.int p4), .val (.int p5), .val (.int (0 : Int32)), .val (.int av), .val (.int ((0 : Int32) + av)), .val (.ref b1), .val (.int lb), .val (.int x1), .val (.int x2), .val (.int x3), .val (.int j171_0), .val (.int j250_0), .val (.int (((lb &&& (31 : Int32)) <<< ((6 : Int32) &&& 31)) ||| (x1 &&& (63 : Int32)))), .val (.int (128 : Int32)), .unset]) rfl k) ?_
                show Go p e below Tj250 (mkF m 283 #[.val (.int p1), .val (.int p2), .val (.int p3), .val (.int p4), .val (.int p5), .val (.int (0 : Int32)), .val (.int av), .val (.int ((0 : Int32) + av)), .val (.ref b1), .val (.int lb), .val (.int x1), .val (.int x2), .val (.int x3), .val (.int j171_0), .val (.int j250_0), .val (.int (((lb &&& (31 : Int32)) <<< ((6 : Int32) &&& 31)) ||| (x1 &&& (63 : Int32)))), .val (.int (128 : Int32)), .unset] []) _
                refine Go.by (fun t k => XS.goto Xj250.here hx rfl (pc0 := 283) (pc' := 369) rfl (hb hby at_283) (by decide) (by decide) k) ?_
                show Go p e below Tj250 (mkF m 369 #[.val (.int p1), .val (.int p2), .val (.int p3), .val (.int p4), .val (.int p5), .val (.int (0 : Int32)), .val (.int av), .val (.int ((0 : Int32) + av)), .val (.ref b1), .val (.int lb), .val (.int x1), .val (.int x2), .val (.int x3), .val (.int j171_0), .val (.int j250_0), .val (.int (((lb &&& (31 : Int32)) <<< ((6 : Int32) &&& 31)) ||| (x1 &&& (63 : Int32)))), .val (.int (128 : Int32)), .unset] []) _
                exact J369 (((lb &&& (31 : Int32)) <<< ((6 : Int32) &&& 31)) ||| (x1 &&& (63 : Int32))) (128 : Int32) ⟨by rw [own_cp, if_pos hc15], by rw [own_mn, if_pos hc15]⟩
              · refine Go.by (fun t k => XS.icmpYes Xj250.here hx rfl (pc0 := 259) (pc' := 286) rfl (hb hby at_259) rfl (feq hc15).2 (by decide) (by decide) k) ?_
                show Go p e below Tj250 (mkF m 286 #[.val (.int p1), .val (.int p2), .val (.int p3), .val (.int p4), .val (.int p5), .val (.int (0 : Int32)), .val (.int av), .val (.int ((0 : Int32) + av)), .val (.ref b1), .val (.int lb), .val (.int x1), .val (.int x2), .val (.int x3), .val (.int j171_0), .val (.int j250_0), .val (.int (0 : Int32)), .val (.int (0 : Int32)), .unset] []) _
                refine Go.by (fun t k => XS.iload Xj250.here hx rfl (hb hby at_286) rfl k) ?_
                show Go p e below Tj250 (mkF m 288 #[.val (.int p1), .val (.int p2), .val (.int p3), .val (.int p4), .val (.int p5), .val (.int (0 : Int32)), .val (.int av), .val (.int ((0 : Int32) + av)), .val (.ref b1), .val (.int lb), .val (.int x1), .val (.int x2), .val (.int x3), .val (.int j171_0), .val (.int j250_0), .val (.int (0 : Int32)), .val (.int (0 : Int32)), .unset] [(.int j171_0)]) _
                refine Go.by (fun t k => XS.iconst Xj250.here hx rfl (hb hby at_288) k) ?_
                show Go p e below Tj250 (mkF m 289 #[.val (.int p1), .val (.int p2), .val (.int p3), .val (.int p4), .val (.int p5), .val (.int (0 : Int32)), .val (.int av), .val (.int ((0 : Int32) + av)), .val (.ref b1), .val (.int lb), .val (.int x1), .val (.int x2), .val (.int x3), .val (.int j171_0), .val (.int j250_0), .val (.int (0 : Int32)), .val (.int (0 : Int32)), .unset] [(.int (3 : Int32)), (.int j171_0)]) _
                by_cases hc16 : j171_0 = (3 : Int32)
                · refine Go.by (fun t k => XS.icmpNo Xj250.here hx rfl (hb hby at_289) rfl (teq hc16).2 k) ?_
                  show Go p e below Tj250 (mkF m 292 #[.val (.int p1), .val (.int p2), .val (.int p3), .val (.int p4), .val (.int p5), .val (.int (0 : Int32)), .val (.int av), .val (.int ((0 : Int32) + av)), .val (.ref b1), .val (.int lb), .val (.int x1), .val (.int x2), .val (.int x3), .val (.int j171_0), .val (.int j250_0), .val (.int (0 : Int32)), .val (.int (0 : Int32)), .unset] []) _
                  refine Go.by (fun t k => XS.iload Xj250.here hx rfl (hb hby at_292) rfl k) ?_
                  show Go p e below Tj250 (mkF m 294 #[.val (.int p1), .val (.int p2), .val (.int p3), .val (.int p4), .val (.int p5), .val (.int (0 : Int32)), .val (.int av), .val (.int ((0 : Int32) + av)), .val (.ref b1), .val (.int lb), .val (.int x1), .val (.int x2), .val (.int x3), .val (.int j171_0), .val (.int j250_0), .val (.int (0 : Int32)), .val (.int (0 : Int32)), .unset] [(.int lb)]) _
                  refine Go.by (fun t k => XS.bipush Xj250.here hx rfl (hb hby at_294) k) ?_
                  show Go p e below Tj250 (mkF m 296 #[.val (.int p1), .val (.int p2), .val (.int p3), .val (.int p4), .val (.int p5), .val (.int (0 : Int32)), .val (.int av), .val (.int ((0 : Int32) + av)), .val (.ref b1), .val (.int lb), .val (.int x1), .val (.int x2), .val (.int x3), .val (.int j171_0), .val (.int j250_0), .val (.int (0 : Int32)), .val (.int (0 : Int32)), .unset] [(.int (15 : Int32)), (.int lb)]) _
                  refine Go.by (fun t k => XS.iand Xj250.here hx rfl (hb hby at_296) rfl k) ?_
                  show Go p e below Tj250 (mkF m 297 #[.val (.int p1), .val (.int p2), .val (.int p3), .val (.int p4), .val (.int p5), .val (.int (0 : Int32)), .val (.int av), .val (.int ((0 : Int32) + av)), .val (.ref b1), .val (.int lb), .val (.int x1), .val (.int x2), .val (.int x3), .val (.int j171_0), .val (.int j250_0), .val (.int (0 : Int32)), .val (.int (0 : Int32)), .unset] [(.int (lb &&& (15 : Int32)))]) _
                  refine Go.by (fun t k => XS.bipush Xj250.here hx rfl (hb hby at_297) k) ?_
                  show Go p e below Tj250 (mkF m 299 #[.val (.int p1), .val (.int p2), .val (.int p3), .val (.int p4), .val (.int p5), .val (.int (0 : Int32)), .val (.int av), .val (.int ((0 : Int32) + av)), .val (.ref b1), .val (.int lb), .val (.int x1), .val (.int x2), .val (.int x3), .val (.int j171_0), .val (.int j250_0), .val (.int (0 : Int32)), .val (.int (0 : Int32)), .unset] [(.int (12 : Int32)), (.int (lb &&& (15 : Int32)))]) _
                  refine Go.by (fun t k => XS.ishl Xj250.here hx rfl (hb hby at_299) rfl k) ?_
                  show Go p e below Tj250 (mkF m 300 #[.val (.int p1), .val (.int p2), .val (.int p3), .val (.int p4), .val (.int p5), .val (.int (0 : Int32)), .val (.int av), .val (.int ((0 : Int32) + av)), .val (.ref b1), .val (.int lb), .val (.int x1), .val (.int x2), .val (.int x3), .val (.int j171_0), .val (.int j250_0), .val (.int (0 : Int32)), .val (.int (0 : Int32)), .unset] [(.int ((lb &&& (15 : Int32)) <<< ((12 : Int32) &&& 31)))]) _
                  refine Go.by (fun t k => XS.iload Xj250.here hx rfl (hb hby at_300) rfl k) ?_
                  show Go p e below Tj250 (mkF m 302 #[.val (.int p1), .val (.int p2), .val (.int p3), .val (.int p4), .val (.int p5), .val (.int (0 : Int32)), .val (.int av), .val (.int ((0 : Int32) + av)), .val (.ref b1), .val (.int lb), .val (.int x1), .val (.int x2), .val (.int x3), .val (.int j171_0), .val (.int j250_0), .val (.int (0 : Int32)), .val (.int (0 : Int32)), .unset] [(.int x1), (.int ((lb &&& (15 : Int32)) <<< ((12 : Int32) &&& 31)))]) _
                  refine Go.by (fun t k => XS.bipush Xj250.here hx rfl (hb hby at_302) k) ?_
                  show Go p e below Tj250 (mkF m 304 #[.val (.int p1), .val (.int p2), .val (.int p3), .val (.int p4), .val (.int p5), .val (.int (0 : Int32)), .val (.int av), .val (.int ((0 : Int32) + av)), .val (.ref b1), .val (.int lb), .val (.int x1), .val (.int x2), .val (.int x3), .val (.int j171_0), .val (.int j250_0), .val (.int (0 : Int32)), .val (.int (0 : Int32)), .unset] [(.int (63 : Int32)), (.int x1), (.int ((lb &&& (15 : Int32)) <<< ((12 : Int32) &&& 31)))]) _
                  refine Go.by (fun t k => XS.iand Xj250.here hx rfl (hb hby at_304) rfl k) ?_
                  show Go p e below Tj250 (mkF m 305 #[.val (.int p1), .val (.int p2), .val (.int p3), .val (.int p4), .val (.int p5), .val (.int (0 : Int32)), .val (.int av), .val (.int ((0 : Int32) + av)), .val (.ref b1), .val (.int lb), .val (.int x1), .val (.int x2), .val (.int x3), .val (.int j171_0), .val (.int j250_0), .val (.int (0 : Int32)), .val (.int (0 : Int32)), .unset] [(.int (x1 &&& (63 : Int32))), (.int ((lb &&& (15 : Int32)) <<< ((12 : Int32) &&& 31)))]) _
                  refine Go.by (fun t k => XS.bipush Xj250.here hx rfl (hb hby at_305) k) ?_
                  show Go p e below Tj250 (mkF m 307 #[.val (.int p1), .val (.int p2), .val (.int p3), .val (.int p4), .val (.int p5), .val (.int (0 : Int32)), .val (.int av), .val (.int ((0 : Int32) + av)), .val (.ref b1), .val (.int lb), .val (.int x1), .val (.int x2), .val (.int x3), .val (.int j171_0), .val (.int j250_0), .val (.int (0 : Int32)), .val (.int (0 : Int32)), .unset] [(.int (6 : Int32)), (.int (x1 &&& (63 : Int32))), (.int ((lb &&& (15 : Int32)) <<< ((12 : Int32) &&& 31)))]) _
                  refine Go.by (fun t k => XS.ishl Xj250.here hx rfl (hb hby at_307) rfl k) ?_
                  show Go p e below Tj250 (mkF m 308 #[.val (.int p1), .val (.int p2), .val (.int p3), .val (.int p4), .val (.int p5), .val (.int (0 : Int32)), .val (.int av), .val (.int ((0 : Int32) + av)), .val (.ref b1), .val (.int lb), .val (.int x1), .val (.int x2), .val (.int x3), .val (.int j171_0), .val (.int j250_0), .val (.int (0 : Int32)), .val (.int (0 : Int32)), .unset] [(.int ((x1 &&& (63 : Int32)) <<< ((6 : Int32) &&& 31))), (.int ((lb &&& (15 : Int32)) <<< ((12 : Int32) &&& 31)))]) _
                  refine Go.by (fun t k => XS.ior Xj250.here hx rfl (hb hby at_308) rfl k) ?_
                  show Go p e below Tj250 (mkF m 309 #[.val (.int p1), .val (.int p2), .val (.int p3), .val (.int p4), .val (.int p5), .val (.int (0 : Int32)), .val (.int av), .val (.int ((0 : Int32) + av)), .val (.ref b1), .val (.int lb), .val (.int x1), .val (.int x2), .val (.int x3), .val (.int j171_0), .val (.int j250_0), .val (.int (0 : Int32)), .val (.int (0 : Int32)), .unset] [(.int (((lb &&& (15 : Int32)) <<< ((12 : Int32) &&& 31)) ||| ((x1 &&& (63 : Int32)) <<< ((6 : Int32) &&& 31))))]) _
                  refine Go.by (fun t k => XS.iload Xj250.here hx rfl (hb hby at_309) rfl k) ?_
                  show Go p e below Tj250 (mkF m 311 #[.val (.int p1), .val (.int p2), .val (.int p3), .val (.int p4), .val (.int p5), .val (.int (0 : Int32)), .val (.int av), .val (.int ((0 : Int32) + av)), .val (.ref b1), .val (.int lb), .val (.int x1), .val (.int x2), .val (.int x3), .val (.int j171_0), .val (.int j250_0), .val (.int (0 : Int32)), .val (.int (0 : Int32)), .unset] [(.int x2), (.int (((lb &&& (15 : Int32)) <<< ((12 : Int32) &&& 31)) ||| ((x1 &&& (63 : Int32)) <<< ((6 : Int32) &&& 31))))]) _
                  refine Go.by (fun t k => XS.bipush Xj250.here hx rfl (hb hby at_311) k) ?_
                  show Go p e below Tj250 (mkF m 313 #[.val (.int p1), .val (.int p2), .val (.int p3), .val (.int p4), .val (.int p5), .val (.int (0 : Int32)), .val (.int av), .val (.int ((0 : Int32) + av)), .val (.ref b1), .val (.int lb), .val (.int x1), .val (.int x2), .val (.int x3), .val (.int j171_0), .val (.int j250_0), .val (.int (0 : Int32)), .val (.int (0 : Int32)), .unset] [(.int (63 : Int32)), (.int x2), (.int (((lb &&& (15 : Int32)) <<< ((12 : Int32) &&& 31)) ||| ((x1 &&& (63 : Int32)) <<< ((6 : Int32) &&& 31))))]) _
                  refine Go.by (fun t k => XS.iand Xj250.here hx rfl (hb hby at_313) rfl k) ?_
                  show Go p e below Tj250 (mkF m 314 #[.val (.int p1), .val (.int p2), .val (.int p3), .val (.int p4), .val (.int p5), .val (.int (0 : Int32)), .val (.int av), .val (.int ((0 : Int32) + av)), .val (.ref b1), .val (.int lb), .val (.int x1), .val (.int x2), .val (.int x3), .val (.int j171_0), .val (.int j250_0), .val (.int (0 : Int32)), .val (.int (0 : Int32)), .unset] [(.int (x2 &&& (63 : Int32))), (.int (((lb &&& (15 : Int32)) <<< ((12 : Int32) &&& 31)) ||| ((x1 &&& (63 : Int32)) <<< ((6 : Int32) &&& 31))))]) _
                  refine Go.by (fun t k => XS.ior Xj250.here hx rfl (hb hby at_314) rfl k) ?_
                  show Go p e below Tj250 (mkF m 315 #[.val (.int p1), .val (.int p2), .val (.int p3), .val (.int p4), .val (.int p5), .val (.int (0 : Int32)), .val (.int av), .val (.int ((0 : Int32) + av)), .val (.ref b1), .val (.int lb), .val (.int x1), .val (.int x2), .val (.int x3), .val (.int j171_0), .val (.int j250_0), .val (.int (0 : Int32)), .val (.int (0 : Int32)), .unset] [(.int ((((lb &&& (15 : Int32)) <<< ((12 : Int32) &&& 31)) ||| ((x1 &&& (63 : Int32)) <<< ((6 : Int32) &&& 31))) ||| (x2 &&& (63 : Int32))))]) _
                  refine Go.by (fun t k => XS.istore Xj250.here hx rfl (hb hby at_315) rfl (l' := #[.val (.int p1), .val (.int p2), .val (.int p3), .val (.int p4), .val (.int p5), .val (.int (0 : Int32)), .val (.int av), .val (.int ((0 : Int32) + av)), .val (.ref b1), .val (.int lb), .val (.int x1), .val (.int x2), .val (.int x3), .val (.int j171_0), .val (.int j250_0), .val (.int ((((lb &&& (15 : Int32)) <<< ((12 : Int32) &&& 31)) ||| ((x1 &&& (63 : Int32)) <<< ((6 : Int32) &&& 31))) ||| (x2 &&& (63 : Int32)))), .val (.int (0 : Int32)), .unset]) rfl k) ?_
                  show Go p e below Tj250 (mkF m 317 #[.val (.int p1), .val (.int p2), .val (.int p3), .val (.int p4), .val (.int p5), .val (.int (0 : Int32)), .val (.int av), .val (.int ((0 : Int32) + av)), .val (.ref b1), .val (.int lb), .val (.int x1), .val (.int x2), .val (.int x3), .val (.int j171_0), .val (.int j250_0), .val (.int ((((lb &&& (15 : Int32)) <<< ((12 : Int32) &&& 31)) ||| ((x1 &&& (63 : Int32)) <<< ((6 : Int32) &&& 31))) ||| (x2 &&& (63 : Int32)))), .val (.int (0 : Int32)), .unset] []) _
                  refine Go.by (fun t k => XS.sipush Xj250.here hx rfl (hb hby at_317) k) ?_
                  show Go p e below Tj250 (mkF m 320 #[.val (.int p1), .val (.int p2), .val (.int p3), .val (.int p4), .val (.int p5), .val (.int (0 : Int32)), .val (.int av), .val (.int ((0 : Int32) + av)), .val (.ref b1), .val (.int lb), .val (.int x1), .val (.int x2), .val (.int x3), .val (.int j171_0), .val (.int j250_0), .val (.int ((((lb &&& (15 : Int32)) <<< ((12 : Int32) &&& 31)) ||| ((x1 &&& (63 : Int32)) <<< ((6 : Int32) &&& 31))) ||| (x2 &&& (63 : Int32)))), .val (.int (0 : Int32)), .unset] [(.int (2048 : Int32))]) _
                  refine Go.by (fun t k => XS.istore Xj250.here hx rfl (hb hby at_320) rfl (l' := #[.val (.int p1), .val (.int p2), .val (.int p3), .val (.int p4), .val (.int p5), .val (.int (0 : Int32)), .val (.int av), .val (.int ((0 : Int32) + av)), .val (.ref b1), .val (.int lb), .val (.int x1), .val (.int x2), .val (.int x3), .val (.int j171_0), .val (.int j250_0), .val (.int ((((lb &&& (15 : Int32)) <<< ((12 : Int32) &&& 31)) ||| ((x1 &&& (63 : Int32)) <<< ((6 : Int32) &&& 31))) ||| (x2 &&& (63 : Int32)))), .val (.int (2048 : Int32)), .unset]) rfl k) ?_
                  show Go p e below Tj250 (mkF m 322 #[.val (.int p1), .val (.int p2), .val (.int p3), .val (.int p4), .val (.int p5), .val (.int (0 : Int32)), .val (.int av), .val (.int ((0 : Int32) + av)), .val (.ref b1), .val (.int lb), .val (.int x1), .val (.int x2), .val (.int x3), .val (.int j171_0), .val (.int j250_0), .val (.int ((((lb &&& (15 : Int32)) <<< ((12 : Int32) &&& 31)) ||| ((x1 &&& (63 : Int32)) <<< ((6 : Int32) &&& 31))) ||| (x2 &&& (63 : Int32)))), .val (.int (2048 : Int32)), .unset] []) _
                  refine Go.by (fun t k => XS.goto Xj250.here hx rfl (pc0 := 322) (pc' := 369) rfl (hb hby at_322) (by decide) (by decide) k) ?_
                  show Go p e below Tj250 (mkF m 369 #[.val (.int p1), .val (.int p2), .val (.int p3), .val (.int p4), .val (.int p5), .val (.int (0 : Int32)), .val (.int av), .val (.int ((0 : Int32) + av)), .val (.ref b1), .val (.int lb), .val (.int x1), .val (.int x2), .val (.int x3), .val (.int j171_0), .val (.int j250_0), .val (.int ((((lb &&& (15 : Int32)) <<< ((12 : Int32) &&& 31)) ||| ((x1 &&& (63 : Int32)) <<< ((6 : Int32) &&& 31))) ||| (x2 &&& (63 : Int32)))), .val (.int (2048 : Int32)), .unset] []) _
                  exact J369 ((((lb &&& (15 : Int32)) <<< ((12 : Int32) &&& 31)) ||| ((x1 &&& (63 : Int32)) <<< ((6 : Int32) &&& 31))) ||| (x2 &&& (63 : Int32))) (2048 : Int32) ⟨by rw [own_cp, if_neg hc15, if_pos hc16], by rw [own_mn, if_neg hc15, if_pos hc16]⟩
                · refine Go.by (fun t k => XS.icmpYes Xj250.here hx rfl (pc0 := 289) (pc' := 325) rfl (hb hby at_289) rfl (feq hc16).2 (by decide) (by decide) k) ?_
                  show Go p e below Tj250 (mkF m 325 #[.val (.int p1), .val (.int p2), .val (.int p3), .val (.int p4), .val (.int p5), .val (.int (0 : Int32)), .val (.int av), .val (.int ((0 : Int32) + av)), .val (.ref b1), .val (.int lb), .val (.int x1), .val (.int x2), .val (.int x3), .val (.int j171_0), .val (.int j250_0), .val (.int (0 : Int32)), .val (.int (0 : Int32)), .unset] []) _
                  refine Go.by (fun t k => XS.iload Xj250.here hx rfl (hb hby at_325) rfl k) ?_
                  show Go p e below Tj250 (mkF m 327 #[.val (.int p1), .val (.int p2), .val (.int p3), .val (.int p4), .val (.int p5), .val (.int (0 : Int32)), .val (.int av), .val (.int ((0 : Int32) + av)), .val (.ref b1), .val (.int lb), .val (.int x1), .val (.int x2), .val (.int x3), .val (.int j171_0), .val (.int j250_0), .val (.int (0 : Int32)), .val (.int (0 : Int32)), .unset] [(.int j171_0)]) _
                  refine Go.by (fun t k => XS.iconst Xj250.here hx rfl (hb hby at_327) k) ?_
                  show Go p e below Tj250 (mkF m 328 #[.val (.int p1), .val (.int p2), .val (.int p3), .val (.int p4), .val (.int p5), .val (.int (0 : Int32)), .val (.int av), .val (.int ((0 : Int32) + av)), .val (.ref b1), .val (.int lb), .val (.int x1), .val (.int x2), .val (.int x3), .val (.int j171_0), .val (.int j250_0), .val (.int (0 : Int32)), .val (.int (0 : Int32)), .unset] [(.int (4 : Int32)), (.int j171_0)]) _
                  by_cases hc17 : j171_0 = (4 : Int32)
                  · refine Go.by (fun t k => XS.icmpNo Xj250.here hx rfl (hb hby at_328) rfl (teq hc17).2 k) ?_
                    show Go p e below Tj250 (mkF m 331 #[.val (.int p1), .val (.int p2), .val (.int p3), .val (.int p4), .val (.int p5), .val (.int (0 : Int32)), .val (.int av), .val (.int ((0 : Int32) + av)), .val (.ref b1), .val (.int lb), .val (.int x1), .val (.int x2), .val (.int x3), .val (.int j171_0), .val (.int j250_0), .val (.int (0 : Int32)), .val (.int (0 : Int32)), .unset] []) _
                    refine Go.by (fun t k => XS.iload Xj250.here hx rfl (hb hby at_331) rfl k) ?_
                    show Go p e below Tj250 (mkF m 333 #[.val (.int p1), .val (.int p2), .val (.int p3), .val (.int p4), .val (.int p5), .val (.int (0 : Int32)), .val (.int av), .val (.int ((0 : Int32) + av)), .val (.ref b1), .val (.int lb), .val (.int x1), .val (.int x2), .val (.int x3), .val (.int j171_0), .val (.int j250_0), .val (.int (0 : Int32)), .val (.int (0 : Int32)), .unset] [(.int lb)]) _
                    refine Go.by (fun t k => XS.bipush Xj250.here hx rfl (hb hby at_333) k) ?_
                    show Go p e below Tj250 (mkF m 335 #[.val (.int p1), .val (.int p2), .val (.int p3), .val (.int p4), .val (.int p5), .val (.int (0 : Int32)), .val (.int av), .val (.int ((0 : Int32) + av)), .val (.ref b1), .val (.int lb), .val (.int x1), .val (.int x2), .val (.int x3), .val (.int j171_0), .val (.int j250_0), .val (.int (0 : Int32)), .val (.int (0 : Int32)), .unset] [(.int (7 : Int32)), (.int lb)]) _
                    refine Go.by (fun t k => XS.iand Xj250.here hx rfl (hb hby at_335) rfl k) ?_
                    show Go p e below Tj250 (mkF m 336 #[.val (.int p1), .val (.int p2), .val (.int p3), .val (.int p4), .val (.int p5), .val (.int (0 : Int32)), .val (.int av), .val (.int ((0 : Int32) + av)), .val (.ref b1), .val (.int lb), .val (.int x1), .val (.int x2), .val (.int x3), .val (.int j171_0), .val (.int j250_0), .val (.int (0 : Int32)), .val (.int (0 : Int32)), .unset] [(.int (lb &&& (7 : Int32)))]) _
                    refine Go.by (fun t k => XS.bipush Xj250.here hx rfl (hb hby at_336) k) ?_
                    show Go p e below Tj250 (mkF m 338 #[.val (.int p1), .val (.int p2), .val (.int p3), .val (.int p4), .val (.int p5), .val (.int (0 : Int32)), .val (.int av), .val (.int ((0 : Int32) + av)), .val (.ref b1), .val (.int lb), .val (.int x1), .val (.int x2), .val (.int x3), .val (.int j171_0), .val (.int j250_0), .val (.int (0 : Int32)), .val (.int (0 : Int32)), .unset] [(.int (18 : Int32)), (.int (lb &&& (7 : Int32)))]) _
                    refine Go.by (fun t k => XS.ishl Xj250.here hx rfl (hb hby at_338) rfl k) ?_
                    show Go p e below Tj250 (mkF m 339 #[.val (.int p1), .val (.int p2), .val (.int p3), .val (.int p4), .val (.int p5), .val (.int (0 : Int32)), .val (.int av), .val (.int ((0 : Int32) + av)), .val (.ref b1), .val (.int lb), .val (.int x1), .val (.int x2), .val (.int x3), .val (.int j171_0), .val (.int j250_0), .val (.int (0 : Int32)), .val (.int (0 : Int32)), .unset] [(.int ((lb &&& (7 : Int32)) <<< ((18 : Int32) &&& 31)))]) _
                    refine Go.by (fun t k => XS.iload Xj250.here hx rfl (hb hby at_339) rfl k) ?_
                    show Go p e below Tj250 (mkF m 341 #[.val (.int p1), .val (.int p2), .val (.int p3), .val (.int p4), .val (.int p5), .val (.int (0 : Int32)), .val (.int av), .val (.int ((0 : Int32) + av)), .val (.ref b1), .val (.int lb), .val (.int x1), .val (.int x2), .val (.int x3), .val (.int j171_0), .val (.int j250_0), .val (.int (0 : Int32)), .val (.int (0 : Int32)), .unset] [(.int x1), (.int ((lb &&& (7 : Int32)) <<< ((18 : Int32) &&& 31)))]) _
                    refine Go.by (fun t k => XS.bipush Xj250.here hx rfl (hb hby at_341) k) ?_
                    show Go p e below Tj250 (mkF m 343 #[.val (.int p1), .val (.int p2), .val (.int p3), .val (.int p4), .val (.int p5), .val (.int (0 : Int32)), .val (.int av), .val (.int ((0 : Int32) + av)), .val (.ref b1), .val (.int lb), .val (.int x1), .val (.int x2), .val (.int x3), .val (.int j171_0), .val (.int j250_0), .val (.int (0 : Int32)), .val (.int (0 : Int32)), .unset] [(.int (63 : Int32)), (.int x1), (.int ((lb &&& (7 : Int32)) <<< ((18 : Int32) &&& 31)))]) _
                    refine Go.by (fun t k => XS.iand Xj250.here hx rfl (hb hby at_343) rfl k) ?_
                    show Go p e below Tj250 (mkF m 344 #[.val (.int p1), .val (.int p2), .val (.int p3), .val (.int p4), .val (.int p5), .val (.int (0 : Int32)), .val (.int av), .val (.int ((0 : Int32) + av)), .val (.ref b1), .val (.int lb), .val (.int x1), .val (.int x2), .val (.int x3), .val (.int j171_0), .val (.int j250_0), .val (.int (0 : Int32)), .val (.int (0 : Int32)), .unset] [(.int (x1 &&& (63 : Int32))), (.int ((lb &&& (7 : Int32)) <<< ((18 : Int32) &&& 31)))]) _
                    refine Go.by (fun t k => XS.bipush Xj250.here hx rfl (hb hby at_344) k) ?_
                    show Go p e below Tj250 (mkF m 346 #[.val (.int p1), .val (.int p2), .val (.int p3), .val (.int p4), .val (.int p5), .val (.int (0 : Int32)), .val (.int av), .val (.int ((0 : Int32) + av)), .val (.ref b1), .val (.int lb), .val (.int x1), .val (.int x2), .val (.int x3), .val (.int j171_0), .val (.int j250_0), .val (.int (0 : Int32)), .val (.int (0 : Int32)), .unset] [(.int (12 : Int32)), (.int (x1 &&& (63 : Int32))), (.int ((lb &&& (7 : Int32)) <<< ((18 : Int32) &&& 31)))]) _
                    refine Go.by (fun t k => XS.ishl Xj250.here hx rfl (hb hby at_346) rfl k) ?_
                    show Go p e below Tj250 (mkF m 347 #[.val (.int p1), .val (.int p2), .val (.int p3), .val (.int p4), .val (.int p5), .val (.int (0 : Int32)), .val (.int av), .val (.int ((0 : Int32) + av)), .val (.ref b1), .val (.int lb), .val (.int x1), .val (.int x2), .val (.int x3), .val (.int j171_0), .val (.int j250_0), .val (.int (0 : Int32)), .val (.int (0 : Int32)), .unset] [(.int ((x1 &&& (63 : Int32)) <<< ((12 : Int32) &&& 31))), (.int ((lb &&& (7 : Int32)) <<< ((18 : Int32) &&& 31)))]) _
                    refine Go.by (fun t k => XS.ior Xj250.here hx rfl (hb hby at_347) rfl k) ?_
                    show Go p e below Tj250 (mkF m 348 #[.val (.int p1), .val (.int p2), .val (.int p3), .val (.int p4), .val (.int p5), .val (.int (0 : Int32)), .val (.int av), .val (.int ((0 : Int32) + av)), .val (.ref b1), .val (.int lb), .val (.int x1), .val (.int x2), .val (.int x3), .val (.int j171_0), .val (.int j250_0), .val (.int (0 : Int32)), .val (.int (0 : Int32)), .unset] [(.int (((lb &&& (7 : Int32)) <<< ((18 : Int32) &&& 31)) ||| ((x1 &&& (63 : Int32)) <<< ((12 : Int32) &&& 31))))]) _
                    refine Go.by (fun t k => XS.iload Xj250.here hx rfl (hb hby at_348) rfl k) ?_
                    show Go p e below Tj250 (mkF m 350 #[.val (.int p1), .val (.int p2), .val (.int p3), .val (.int p4), .val (.int p5), .val (.int (0 : Int32)), .val (.int av), .val (.int ((0 : Int32) + av)), .val (.ref b1), .val (.int lb), .val (.int x1), .val (.int x2), .val (.int x3), .val (.int j171_0), .val (.int j250_0), .val (.int (0 : Int32)), .val (.int (0 : Int32)), .unset] [(.int x2), (.int (((lb &&& (7 : Int32)) <<< ((18 : Int32) &&& 31)) ||| ((x1 &&& (63 : Int32)) <<< ((12 : Int32) &&& 31))))]) _
                    refine Go.by (fun t k => XS.bipush Xj250.here hx rfl (hb hby at_350) k) ?_
                    show Go p e below Tj250 (mkF m 352 #[.val (.int p1), .val (.int p2), .val (.int p3), .val (.int p4), .val (.int p5), .val (.int (0 : Int32)), .val (.int av), .val (.int ((0 : Int32) + av)), .val (.ref b1), .val (.int lb), .val (.int x1), .val (.int x2), .val (.int x3), .val (.int j171_0), .val (.int j250_0), .val (.int (0 : Int32)), .val (.int (0 : Int32)), .unset] [(.int (63 : Int32)), (.int x2), (.int (((lb &&& (7 : Int32)) <<< ((18 : Int32) &&& 31)) ||| ((x1 &&& (63 : Int32)) <<< ((12 : Int32) &&& 31))))]) _
                    refine Go.by (fun t k => XS.iand Xj250.here hx rfl (hb hby at_352) rfl k) ?_
                    show Go p e below Tj250 (mkF m 353 #[.val (.int p1), .val (.int p2), .val (.int p3), .val (.int p4), .val (.int p5), .val (.int (0 : Int32)), .val (.int av), .val (.int ((0 : Int32) + av)), .val (.ref b1), .val (.int lb), .val (.int x1), .val (.int x2), .val (.int x3), .val (.int j171_0), .val (.int j250_0), .val (.int (0 : Int32)), .val (.int (0 : Int32)), .unset] [(.int (x2 &&& (63 : Int32))), (.int (((lb &&& (7 : Int32)) <<< ((18 : Int32) &&& 31)) ||| ((x1 &&& (63 : Int32)) <<< ((12 : Int32) &&& 31))))]) _
                    refine Go.by (fun t k => XS.bipush Xj250.here hx rfl (hb hby at_353) k) ?_
                    show Go p e below Tj250 (mkF m 355 #[.val (.int p1), .val (.int p2), .val (.int p3), .val (.int p4), .val (.int p5), .val (.int (0 : Int32)), .val (.int av), .val (.int ((0 : Int32) + av)), .val (.ref b1), .val (.int lb), .val (.int x1), .val (.int x2), .val (.int x3), .val (.int j171_0), .val (.int j250_0), .val (.int (0 : Int32)), .val (.int (0 : Int32)), .unset] [(.int (6 : Int32)), (.int (x2 &&& (63 : Int32))), (.int (((lb &&& (7 : Int32)) <<< ((18 : Int32) &&& 31)) ||| ((x1 &&& (63 : Int32)) <<< ((12 : Int32) &&& 31))))]) _
                    refine Go.by (fun t k => XS.ishl Xj250.here hx rfl (hb hby at_355) rfl k) ?_
                    show Go p e below Tj250 (mkF m 356 #[.val (.int p1), .val (.int p2), .val (.int p3), .val (.int p4), .val (.int p5), .val (.int (0 : Int32)), .val (.int av), .val (.int ((0 : Int32) + av)), .val (.ref b1), .val (.int lb), .val (.int x1), .val (.int x2), .val (.int x3), .val (.int j171_0), .val (.int j250_0), .val (.int (0 : Int32)), .val (.int (0 : Int32)), .unset] [(.int ((x2 &&& (63 : Int32)) <<< ((6 : Int32) &&& 31))), (.int (((lb &&& (7 : Int32)) <<< ((18 : Int32) &&& 31)) ||| ((x1 &&& (63 : Int32)) <<< ((12 : Int32) &&& 31))))]) _
                    refine Go.by (fun t k => XS.ior Xj250.here hx rfl (hb hby at_356) rfl k) ?_
                    show Go p e below Tj250 (mkF m 357 #[.val (.int p1), .val (.int p2), .val (.int p3), .val (.int p4), .val (.int p5), .val (.int (0 : Int32)), .val (.int av), .val (.int ((0 : Int32) + av)), .val (.ref b1), .val (.int lb), .val (.int x1), .val (.int x2), .val (.int x3), .val (.int j171_0), .val (.int j250_0), .val (.int (0 : Int32)), .val (.int (0 : Int32)), .unset] [(.int ((((lb &&& (7 : Int32)) <<< ((18 : Int32) &&& 31)) ||| ((x1 &&& (63 : Int32)) <<< ((12 : Int32) &&& 31))) ||| ((x2 &&& (63 : Int32)) <<< ((6 : Int32) &&& 31))))]) _
                    refine Go.by (fun t k => XS.iload Xj250.here hx rfl (hb hby at_357) rfl k) ?_
                    show Go p e below Tj250 (mkF m 359 #[.val (.int p1), .val (.int p2), .val (.int p3), .val (.int p4), .val (.int p5), .val (.int (0 : Int32)), .val (.int av), .val (.int ((0 : Int32) + av)), .val (.ref b1), .val (.int lb), .val (.int x1), .val (.int x2), .val (.int x3), .val (.int j171_0), .val (.int j250_0), .val (.int (0 : Int32)), .val (.int (0 : Int32)), .unset] [(.int x3), (.int ((((lb &&& (7 : Int32)) <<< ((18 : Int32) &&& 31)) ||| ((x1 &&& (63 : Int32)) <<< ((12 : Int32) &&& 31))) ||| ((x2 &&& (63 : Int32)) <<< ((6 : Int32) &&& 31))))]) _
                    refine Go.by (fun t k => XS.bipush Xj250.here hx rfl (hb hby at_359) k) ?_
                    show Go p e below Tj250 (mkF m 361 #[.val (.int p1), .val (.int p2), .val (.int p3), .val (.int p4), .val (.int p5), .val (.int (0 : Int32)), .val (.int av), .val (.int ((0 : Int32) + av)), .val (.ref b1), .val (.int lb), .val (.int x1), .val (.int x2), .val (.int x3), .val (.int j171_0), .val (.int j250_0), .val (.int (0 : Int32)), .val (.int (0 : Int32)), .unset] [(.int (63 : Int32)), (.int x3), (.int ((((lb &&& (7 : Int32)) <<< ((18 : Int32) &&& 31)) ||| ((x1 &&& (63 : Int32)) <<< ((12 : Int32) &&& 31))) ||| ((x2 &&& (63 : Int32)) <<< ((6 : Int32) &&& 31))))]) _
                    refine Go.by (fun t k => XS.iand Xj250.here hx rfl (hb hby at_361) rfl k) ?_
                    show Go p e below Tj250 (mkF m 362 #[.val (.int p1), .val (.int p2), .val (.int p3), .val (.int p4), .val (.int p5), .val (.int (0 : Int32)), .val (.int av), .val (.int ((0 : Int32) + av)), .val (.ref b1), .val (.int lb), .val (.int x1), .val (.int x2), .val (.int x3), .val (.int j171_0), .val (.int j250_0), .val (.int (0 : Int32)), .val (.int (0 : Int32)), .unset] [(.int (x3 &&& (63 : Int32))), (.int ((((lb &&& (7 : Int32)) <<< ((18 : Int32) &&& 31)) ||| ((x1 &&& (63 : Int32)) <<< ((12 : Int32) &&& 31))) ||| ((x2 &&& (63 : Int32)) <<< ((6 : Int32) &&& 31))))]) _
                    refine Go.by (fun t k => XS.ior Xj250.here hx rfl (hb hby at_362) rfl k) ?_
                    show Go p e below Tj250 (mkF m 363 #[.val (.int p1), .val (.int p2), .val (.int p3), .val (.int p4), .val (.int p5), .val (.int (0 : Int32)), .val (.int av), .val (.int ((0 : Int32) + av)), .val (.ref b1), .val (.int lb), .val (.int x1), .val (.int x2), .val (.int x3), .val (.int j171_0), .val (.int j250_0), .val (.int (0 : Int32)), .val (.int (0 : Int32)), .unset] [(.int (((((lb &&& (7 : Int32)) <<< ((18 : Int32) &&& 31)) ||| ((x1 &&& (63 : Int32)) <<< ((12 : Int32) &&& 31))) ||| ((x2 &&& (63 : Int32)) <<< ((6 : Int32) &&& 31))) ||| (x3 &&& (63 : Int32))))]) _
                    refine Go.by (fun t k => XS.istore Xj250.here hx rfl (hb hby at_363) rfl (l' := #[.val (.int p1), .val (.int p2), .val (.int p3), .val (.int p4), .val (.int p5), .val (.int (0 : Int32)), .val (.int av), .val (.int ((0 : Int32) + av)), .val (.ref b1), .val (.int lb), .val (.int x1), .val (.int x2), .val (.int x3), .val (.int j171_0), .val (.int j250_0), .val (.int (((((lb &&& (7 : Int32)) <<< ((18 : Int32) &&& 31)) ||| ((x1 &&& (63 : Int32)) <<< ((12 : Int32) &&& 31))) ||| ((x2 &&& (63 : Int32)) <<< ((6 : Int32) &&& 31))) ||| (x3 &&& (63 : Int32)))), .val (.int (0 : Int32)), .unset]) rfl k) ?_
                    show Go p e below Tj250 (mkF m 365 #[.val (.int p1), .val (.int p2), .val (.int p3), .val (.int p4), .val (.int p5), .val (.int (0 : Int32)), .val (.int av), .val (.int ((0 : Int32) + av)), .val (.ref b1), .val (.int lb), .val (.int x1), .val (.int x2), .val (.int x3), .val (.int j171_0), .val (.int j250_0), .val (.int (((((lb &&& (7 : Int32)) <<< ((18 : Int32) &&& 31)) ||| ((x1 &&& (63 : Int32)) <<< ((12 : Int32) &&& 31))) ||| ((x2 &&& (63 : Int32)) <<< ((6 : Int32) &&& 31))) ||| (x3 &&& (63 : Int32)))), .val (.int (0 : Int32)), .unset] []) _
                    refine Go.by (fun t k => Xj250.ldcInt hx hown (mvT hZ (hw _ (List.mem_of_getElem? (i := 12) rfl))) (g := (mkF m 365 #[.val (.int p1), .val (.int p2), .val (.int p3), .val (.int p4), .val (.int p5), .val (.int (0 : Int32)), .val (.int av), .val (.int ((0 : Int32) + av)), .val (.ref b1), .val (.int lb), .val (.int x1), .val (.int x2), .val (.int x3), .val (.int j171_0), .val (.int j250_0), .val (.int (((((lb &&& (7 : Int32)) <<< ((18 : Int32) &&& 31)) ||| ((x1 &&& (63 : Int32)) <<< ((12 : Int32) &&& 31))) ||| ((x2 &&& (63 : Int32)) <<< ((6 : Int32) &&& 31))) ||| (x3 &&& (63 : Int32)))), .val (.int (0 : Int32)), .unset] [])) rfl (hb hby at_365) t k) ?_
                    show Go p e below Tj250 (mkF m 367 #[.val (.int p1), .val (.int p2), .val (.int p3), .val (.int p4), .val (.int p5), .val (.int (0 : Int32)), .val (.int av), .val (.int ((0 : Int32) + av)), .val (.ref b1), .val (.int lb), .val (.int x1), .val (.int x2), .val (.int x3), .val (.int j171_0), .val (.int j250_0), .val (.int (((((lb &&& (7 : Int32)) <<< ((18 : Int32) &&& 31)) ||| ((x1 &&& (63 : Int32)) <<< ((12 : Int32) &&& 31))) ||| ((x2 &&& (63 : Int32)) <<< ((6 : Int32) &&& 31))) ||| (x3 &&& (63 : Int32)))), .val (.int (0 : Int32)), .unset] [(.int (65536 : Int32))]) _
                    refine Go.by (fun t k => XS.istore Xj250.here hx rfl (hb hby at_367) rfl (l' := #[.val (.int p1), .val (.int p2), .val (.int p3), .val (.int p4), .val (.int p5), .val (.int (0 : Int32)), .val (.int av), .val (.int ((0 : Int32) + av)), .val (.ref b1), .val (.int lb), .val (.int x1), .val (.int x2), .val (.int x3), .val (.int j171_0), .val (.int j250_0), .val (.int (((((lb &&& (7 : Int32)) <<< ((18 : Int32) &&& 31)) ||| ((x1 &&& (63 : Int32)) <<< ((12 : Int32) &&& 31))) ||| ((x2 &&& (63 : Int32)) <<< ((6 : Int32) &&& 31))) ||| (x3 &&& (63 : Int32)))), .val (.int (65536 : Int32)), .unset]) rfl k) ?_
                    show Go p e below Tj250 (mkF m 369 #[.val (.int p1), .val (.int p2), .val (.int p3), .val (.int p4), .val (.int p5), .val (.int (0 : Int32)), .val (.int av), .val (.int ((0 : Int32) + av)), .val (.ref b1), .val (.int lb), .val (.int x1), .val (.int x2), .val (.int x3), .val (.int j171_0), .val (.int j250_0), .val (.int (((((lb &&& (7 : Int32)) <<< ((18 : Int32) &&& 31)) ||| ((x1 &&& (63 : Int32)) <<< ((12 : Int32) &&& 31))) ||| ((x2 &&& (63 : Int32)) <<< ((6 : Int32) &&& 31))) ||| (x3 &&& (63 : Int32)))), .val (.int (65536 : Int32)), .unset] []) _
                    exact J369 (((((lb &&& (7 : Int32)) <<< ((18 : Int32) &&& 31)) ||| ((x1 &&& (63 : Int32)) <<< ((12 : Int32) &&& 31))) ||| ((x2 &&& (63 : Int32)) <<< ((6 : Int32) &&& 31))) ||| (x3 &&& (63 : Int32))) (65536 : Int32) ⟨by rw [own_cp, if_neg hc15, if_neg hc16, if_pos hc17], by rw [own_mn, if_neg hc15, if_neg hc16, if_pos hc17]⟩
                  · refine Go.by (fun t k => XS.icmpYes Xj250.here hx rfl (pc0 := 328) (pc' := 369) rfl (hb hby at_328) rfl (feq hc17).2 (by decide) (by decide) k) ?_
                    show Go p e below Tj250 (mkF m 369 #[.val (.int p1), .val (.int p2), .val (.int p3), .val (.int p4), .val (.int p5), .val (.int (0 : Int32)), .val (.int av), .val (.int ((0 : Int32) + av)), .val (.ref b1), .val (.int lb), .val (.int x1), .val (.int x2), .val (.int x3), .val (.int j171_0), .val (.int j250_0), .val (.int (0 : Int32)), .val (.int (0 : Int32)), .unset] []) _
                    exact J369 (0 : Int32) (0 : Int32) ⟨by rw [own_cp, if_neg hc15, if_neg hc16, if_neg hc17], by rw [own_mn, if_neg hc15, if_neg hc16, if_neg hc17]⟩
            by_cases hc18 : j228_0 = (0 : Int32)
            · refine Go.by (fun t k => XS.ifYes Xj228.here hx rfl (pc0 := 230) (pc' := 250) rfl (hb hby at_230) rfl ((if0 _ _).trans (teq hc18).1) (by decide) (by decide) k) ?_
              show Go p e below Tj228 (mkF m 250 #[.val (.int p1), .val (.int p2), .val (.int p3), .val (.int p4), .val (.int p5), .val (.int (0 : Int32)), .val (.int av), .val (.int ((0 : Int32) + av)), .val (.ref b1), .val (.int lb), .val (.int x1), .val (.int x2), .val (.int x3), .val (.int j171_0), .val (.int j228_0), .unset, .unset, .unset] []) _
              exact J250 _ _ Xj228 ej228 Nj228 j228_0 (by rw [own_ok4, if_pos hc18])
            · refine Go.by (fun t k => XS.ifNo Xj228.here hx rfl (hb hby at_230) rfl ((if0 _ _).trans (feq hc18).1) k) ?_
              show Go p e below Tj228 (mkF m 233 #[.val (.int p1), .val (.int p2), .val (.int p3), .val (.int p4), .val (.int p5), .val (.int (0 : Int32)), .val (.int av), .val (.int ((0 : Int32) + av)), .val (.ref b1), .val (.int lb), .val (.int x1), .val (.int x2), .val (.int x3), .val (.int j171_0), .val (.int j228_0), .unset, .unset, .unset] []) _
              refine Go.by (fun t k => XS.iload Xj228.here hx rfl (hb hby at_233) rfl k) ?_
              show Go p e below Tj228 (mkF m 235 #[.val (.int p1), .val (.int p2), .val (.int p3), .val (.int p4), .val (.int p5), .val (.int (0 : Int32)), .val (.int av), .val (.int ((0 : Int32) + av)), .val (.ref b1), .val (.int lb), .val (.int x1), .val (.int x2), .val (.int x3), .val (.int j171_0), .val (.int j228_0), .unset, .unset, .unset] [(.int j171_0)]) _
              refine Go.by (fun t k => XS.iconst Xj228.here hx rfl (hb hby at_235) k) ?_
              show Go p e below Tj228 (mkF m 236 #[.val (.int p1), .val (.int p2), .val (.int p3), .val (.int p4), .val (.int p5), .val (.int (0 : Int32)), .val (.int av), .val (.int ((0 : Int32) + av)), .val (.ref b1), .val (.int lb), .val (.int x1), .val (.int x2), .val (.int x3), .val (.int j171_0), .val (.int j228_0), .unset, .unset, .unset] [(.int (4 : Int32)), (.int j171_0)]) _
              by_cases hc19 : j171_0 = (4 : Int32)
              · refine Go.by (fun t k => XS.icmpNo Xj228.here hx rfl (hb hby at_236) rfl (teq hc19).2 k) ?_
                show Go p e below Tj228 (mkF m 239 #[.val (.int p1), .val (.int p2), .val (.int p3), .val (.int p4), .val (.int p5), .val (.int (0 : Int32)), .val (.int av), .val (.int ((0 : Int32) + av)), .val (.ref b1), .val (.int lb), .val (.int x1), .val (.int x2), .val (.int x3), .val (.int j171_0), .val (.int j228_0), .unset, .unset, .unset] []) _
                refine Go.by (fun t k => XS.iload Xj228.here hx rfl (hb hby at_239) rfl k) ?_
                show Go p e below Tj228 (mkF m 241 #[.val (.int p1), .val (.int p2), .val (.int p3), .val (.int p4), .val (.int p5), .val (.int (0 : Int32)), .val (.int av), .val (.int ((0 : Int32) + av)), .val (.ref b1), .val (.int lb), .val (.int x1), .val (.int x2), .val (.int x3), .val (.int j171_0), .val (.int j228_0), .unset, .unset, .unset] [(.int x3)]) _
                obtain ⟨_, _, ⟨T20, L20, k20, n20⟩, -, X20, ⟨Lc20, hQ20, l20, y20, z20⟩, st20⟩ := Jvm.LawKit.callS Xj228 hx (y := (⟨"com/example/tillscan/tillscan/core/Utf8CharacterEndPinLaw", "cont", "(I)Z"⟩ : MethodName)) hown (mvT hZ (hw _ (List.mem_of_getElem? (i := 8) rfl))) (mvT hZ (hw _ (List.mem_of_getElem? (i := 9) rfl))) (mvT hZ (hw _ (List.mem_of_getElem? (i := 10) rfl))) (mvT hZ (hw _ (List.mem_of_getElem? (i := 11) rfl))) (by decide) (backOf (W := 0) (rm3 l Z a0 hw [] x3 h7 n0 Z7) hZ (hw _ (List.mem_of_getElem? (i := 11) rfl)) (hw _ (List.mem_of_getElem? (i := 10) rfl)) (by decide) (by decide)) (g := (mkF m 241 #[.val (.int p1), .val (.int p2), .val (.int p3), .val (.int p4), .val (.int p5), .val (.int (0 : Int32)), .val (.int av), .val (.int ((0 : Int32) + av)), .val (.ref b1), .val (.int lb), .val (.int x1), .val (.int x2), .val (.int x3), .val (.int j171_0), .val (.int j228_0), .unset, .unset, .unset] [(.int x3)])) rfl (by rw [hml]; rfl) (argsL := [(.int x3)]) (rest := []) (lenOf pd_2 rfl) rfl (by show 2 * 0 + _ ≤ _; exact Nat.le_of_eq rfl) (hb hby at_241) (fun _ _ => ⟨rfl, ej228, (by decide : 1 + 0 ≤ _), (by decide : 5 + 0 ≤ _)⟩)
                dsimp only [Pt.U, Pt.locs, Pt.cells, Pt.slots] at X20 l20 y20 z20 st20 hQ20
                subst l20 y20 z20
                obtain ⟨rfl, N20q, e20q⟩ := hQ20
                have N20 := Fr.app Nj228 N20q
                refine Go.by st20 ?_
                show Go p e below T20 (mkF m 244 #[.val (.int p1), .val (.int p2), .val (.int p3), .val (.int p4), .val (.int p5), .val (.int (0 : Int32)), .val (.int av), .val (.int ((0 : Int32) + av)), .val (.ref b1), .val (.int lb), .val (.int x1), .val (.int x2), .val (.int x3), .val (.int j171_0), .val (.int j228_0), .unset, .unset, .unset] [(.int (f3 x3))]) _
                by_cases hc21 : (f3 x3) = (0 : Int32)
                · refine Go.by (fun t k => XS.ifNo X20.here hx rfl (hb hby at_244) rfl ((if0 _ _).trans (teq hc21).2) k) ?_
                  show Go p e below T20 (mkF m 247 #[.val (.int p1), .val (.int p2), .val (.int p3), .val (.int p4), .val (.int p5), .val (.int (0 : Int32)), .val (.int av), .val (.int ((0 : Int32) + av)), .val (.ref b1), .val (.int lb), .val (.int x1), .val (.int x2), .val (.int x3), .val (.int j171_0), .val (.int j228_0), .unset, .unset, .unset] []) _
                  refine Go.by (fun t k => XS.iconst X20.here hx rfl (hb hby at_247) k) ?_
                  show Go p e below T20 (mkF m 248 #[.val (.int p1), .val (.int p2), .val (.int p3), .val (.int p4), .val (.int p5), .val (.int (0 : Int32)), .val (.int av), .val (.int ((0 : Int32) + av)), .val (.ref b1), .val (.int lb), .val (.int x1), .val (.int x2), .val (.int x3), .val (.int j171_0), .val (.int j228_0), .unset, .unset, .unset] [(.int (0 : Int32))]) _
                  refine Go.by (fun t k => XS.istore X20.here hx rfl (hb hby at_248) rfl (l' := #[.val (.int p1), .val (.int p2), .val (.int p3), .val (.int p4), .val (.int p5), .val (.int (0 : Int32)), .val (.int av), .val (.int ((0 : Int32) + av)), .val (.ref b1), .val (.int lb), .val (.int x1), .val (.int x2), .val (.int x3), .val (.int j171_0), .val (.int (0 : Int32)), .unset, .unset, .unset]) rfl k) ?_
                  show Go p e below T20 (mkF m 250 #[.val (.int p1), .val (.int p2), .val (.int p3), .val (.int p4), .val (.int p5), .val (.int (0 : Int32)), .val (.int av), .val (.int ((0 : Int32) + av)), .val (.ref b1), .val (.int lb), .val (.int x1), .val (.int x2), .val (.int x3), .val (.int j171_0), .val (.int (0 : Int32)), .unset, .unset, .unset] []) _
                  exact J250 _ _ X20 e20q N20 (0 : Int32) (by rw [own_ok4, if_neg hc18, if_pos hc19, if_pos hc21])
                · refine Go.by (fun t k => XS.ifYes X20.here hx rfl (pc0 := 244) (pc' := 250) rfl (hb hby at_244) rfl ((if0 _ _).trans (feq hc21).2) (by decide) (by decide) k) ?_
                  show Go p e below T20 (mkF m 250 #[.val (.int p1), .val (.int p2), .val (.int p3), .val (.int p4), .val (.int p5), .val (.int (0 : Int32)), .val (.int av), .val (.int ((0 : Int32) + av)), .val (.ref b1), .val (.int lb), .val (.int x1), .val (.int x2), .val (.int x3), .val (.int j171_0), .val (.int j228_0), .unset, .unset, .unset] []) _
                  exact J250 _ _ X20 e20q N20 j228_0 (by rw [own_ok4, if_neg hc18, if_pos hc19, if_neg hc21])
              · refine Go.by (fun t k => XS.icmpYes Xj228.here hx rfl (pc0 := 236) (pc' := 250) rfl (hb hby at_236) rfl (feq hc19).2 (by decide) (by decide) k) ?_
                show Go p e below Tj228 (mkF m 250 #[.val (.int p1), .val (.int p2), .val (.int p3), .val (.int p4), .val (.int p5), .val (.int (0 : Int32)), .val (.int av), .val (.int ((0 : Int32) + av)), .val (.ref b1), .val (.int lb), .val (.int x1), .val (.int x2), .val (.int x3), .val (.int j171_0), .val (.int j228_0), .unset, .unset, .unset] []) _
                exact J250 _ _ Xj228 ej228 Nj228 j228_0 (by rw [own_ok4, if_neg hc18, if_neg hc19])
          by_cases hc22 : j206_0 = (0 : Int32)
          · refine Go.by (fun t k => XS.ifYes Xj206.here hx rfl (pc0 := 208) (pc' := 228) rfl (hb hby at_208) rfl ((if0 _ _).trans (teq hc22).1) (by decide) (by decide) k) ?_
            show Go p e below Tj206 (mkF m 228 #[.val (.int p1), .val (.int p2), .val (.int p3), .val (.int p4), .val (.int p5), .val (.int (0 : Int32)), .val (.int av), .val (.int ((0 : Int32) + av)), .val (.ref b1), .val (.int lb), .val (.int x1), .val (.int x2), .val (.int x3), .val (.int j171_0), .val (.int j206_0), .unset, .unset, .unset] []) _
            exact J228 _ _ Xj206 ej206 Nj206 j206_0 (by rw [own_ok3, if_pos hc22])
          · refine Go.by (fun t k => XS.ifNo Xj206.here hx rfl (hb hby at_208) rfl ((if0 _ _).trans (feq hc22).1) k) ?_
            show Go p e below Tj206 (mkF m 211 #[.val (.int p1), .val (.int p2), .val (.int p3), .val (.int p4), .val (.int p5), .val (.int (0 : Int32)), .val (.int av), .val (.int ((0 : Int32) + av)), .val (.ref b1), .val (.int lb), .val (.int x1), .val (.int x2), .val (.int x3), .val (.int j171_0), .val (.int j206_0), .unset, .unset, .unset] []) _
            refine Go.by (fun t k => XS.iload Xj206.here hx rfl (hb hby at_211) rfl k) ?_
            show Go p e below Tj206 (mkF m 213 #[.val (.int p1), .val (.int p2), .val (.int p3), .val (.int p4), .val (.int p5), .val (.int (0 : Int32)), .val (.int av), .val (.int ((0 : Int32) + av)), .val (.ref b1), .val (.int lb), .val (.int x1), .val (.int x2), .val (.int x3), .val (.int j171_0), .val (.int j206_0), .unset, .unset, .unset] [(.int j171_0)]) _
            refine Go.by (fun t k => XS.iconst Xj206.here hx rfl (hb hby at_213) k) ?_
            show Go p e below Tj206 (mkF m 214 #[.val (.int p1), .val (.int p2), .val (.int p3), .val (.int p4), .val (.int p5), .val (.int (0 : Int32)), .val (.int av), .val (.int ((0 : Int32) + av)), .val (.ref b1), .val (.int lb), .val (.int x1), .val (.int x2), .val (.int x3), .val (.int j171_0), .val (.int j206_0), .unset, .unset, .unset] [(.int (3 : Int32)), (.int j171_0)]) _
            by_cases hc23 : j171_0 < (3 : Int32)
            · refine Go.by (fun t k => XS.icmpYes Xj206.here hx rfl (pc0 := 214) (pc' := 228) rfl (hb hby at_214) rfl (tlt hc23).1 (by decide) (by decide) k) ?_
              show Go p e below Tj206 (mkF m 228 #[.val (.int p1), .val (.int p2), .val (.int p3), .val (.int p4), .val (.int p5), .val (.int (0 : Int32)), .val (.int av), .val (.int ((0 : Int32) + av)), .val (.ref b1), .val (.int lb), .val (.int x1), .val (.int x2), .val (.int x3), .val (.int j171_0), .val (.int j206_0), .unset, .unset, .unset] []) _
              exact J228 _ _ Xj206 ej206 Nj206 j206_0 (by rw [own_ok3, if_neg hc22, if_pos hc23])
            · refine Go.by (fun t k => XS.icmpNo Xj206.here hx rfl (hb hby at_214) rfl (flt hc23).1 k) ?_
              show Go p e below Tj206 (mkF m 217 #[.val (.int p1), .val (.int p2), .val (.int p3), .val (.int p4), .val (.int p5), .val (.int (0 : Int32)), .val (.int av), .val (.int ((0 : Int32) + av)), .val (.ref b1), .val (.int lb), .val (.int x1), .val (.int x2), .val (.int x3), .val (.int j171_0), .val (.int j206_0), .unset, .unset, .unset] []) _
              refine Go.by (fun t k => XS.iload Xj206.here hx rfl (hb hby at_217) rfl k) ?_
              show Go p e below Tj206 (mkF m 219 #[.val (.int p1), .val (.int p2), .val (.int p3), .val (.int p4), .val (.int p5), .val (.int (0 : Int32)), .val (.int av), .val (.int ((0 : Int32) + av)), .val (.ref b1), .val (.int lb), .val (.int x1), .val (.int x2), .val (.int x3), .val (.int j171_0), .val (.int j206_0), .unset, .unset, .unset] [(.int x2)]) _
              obtain ⟨_, _, ⟨T24, L24, k24, n24⟩, -, X24, ⟨Lc24, hQ24, l24, y24, z24⟩, st24⟩ := Jvm.LawKit.callS Xj206 hx (y := (⟨"com/example/tillscan/tillscan/core/Utf8CharacterEndPinLaw", "cont", "(I)Z"⟩ : MethodName)) hown (mvT hZ (hw _ (List.mem_of_getElem? (i := 8) rfl))) (mvT hZ (hw _ (List.mem_of_getElem? (i := 9) rfl))) (mvT hZ (hw _ (List.mem_of_getElem? (i := 10) rfl))) (mvT hZ (hw _ (List.mem_of_getElem? (i := 11) rfl))) (by decide) (backOf (W := 0) (rm3 l Z a0 hw [] x2 h7 n0 Z7) hZ (hw _ (List.mem_of_getElem? (i := 11) rfl)) (hw _ (List.mem_of_getElem? (i := 10) rfl)) (by decide) (by decide)) (g := (mkF m 219 #[.val (.int p1), .val (.int p2), .val (.int p3), .val (.int p4), .val (.int p5), .val (.int (0 : Int32)), .val (.int av), .val (.int ((0 : Int32) + av)), .val (.ref b1), .val (.int lb), .val (.int x1), .val (.int x2), .val (.int x3), .val (.int j171_0), .val (.int j206_0), .unset, .unset, .unset] [(.int x2)])) rfl (by rw [hml]; rfl) (argsL := [(.int x2)]) (rest := []) (lenOf pd_2 rfl) rfl (by show 2 * 0 + _ ≤ _; exact Nat.le_of_eq rfl) (hb hby at_219) (fun _ _ => ⟨rfl, ej206, (by decide : 1 + 0 ≤ _), (by decide : 5 + 0 ≤ _)⟩)
              dsimp only [Pt.U, Pt.locs, Pt.cells, Pt.slots] at X24 l24 y24 z24 st24 hQ24
              subst l24 y24 z24
              obtain ⟨rfl, N24q, e24q⟩ := hQ24
              have N24 := Fr.app Nj206 N24q
              refine Go.by st24 ?_
              show Go p e below T24 (mkF m 222 #[.val (.int p1), .val (.int p2), .val (.int p3), .val (.int p4), .val (.int p5), .val (.int (0 : Int32)), .val (.int av), .val (.int ((0 : Int32) + av)), .val (.ref b1), .val (.int lb), .val (.int x1), .val (.int x2), .val (.int x3), .val (.int j171_0), .val (.int j206_0), .unset, .unset, .unset] [(.int (f3 x2))]) _
              by_cases hc25 : (f3 x2) = (0 : Int32)
              · refine Go.by (fun t k => XS.ifNo X24.here hx rfl (hb hby at_222) rfl ((if0 _ _).trans (teq hc25).2) k) ?_
                show Go p e below T24 (mkF m 225 #[.val (.int p1), .val (.int p2), .val (.int p3), .val (.int p4), .val (.int p5), .val (.int (0 : Int32)), .val (.int av), .val (.int ((0 : Int32) + av)), .val (.ref b1), .val (.int lb), .val (.int x1), .val (.int x2), .val (.int x3), .val (.int j171_0), .val (.int j206_0), .unset, .unset, .unset] []) _
                refine Go.by (fun t k => XS.iconst X24.here hx rfl (hb hby at_225) k) ?_
                show Go p e below T24 (mkF m 226 #[.val (.int p1), .val (.int p2), .val (.int p3), .val (.int p4), .val (.int p5), .val (.int (0 : Int32)), .val (.int av), .val (.int ((0 : Int32) + av)), .val (.ref b1), .val (.int lb), .val (.int x1), .val (.int x2), .val (.int x3), .val (.int j171_0), .val (.int j206_0), .unset, .unset, .unset] [(.int (0 : Int32))]) _
                refine Go.by (fun t k => XS.istore X24.here hx rfl (hb hby at_226) rfl (l' := #[.val (.int p1), .val (.int p2), .val (.int p3), .val (.int p4), .val (.int p5), .val (.int (0 : Int32)), .val (.int av), .val (.int ((0 : Int32) + av)), .val (.ref b1), .val (.int lb), .val (.int x1), .val (.int x2), .val (.int x3), .val (.int j171_0), .val (.int (0 : Int32)), .unset, .unset, .unset]) rfl k) ?_
                show Go p e below T24 (mkF m 228 #[.val (.int p1), .val (.int p2), .val (.int p3), .val (.int p4), .val (.int p5), .val (.int (0 : Int32)), .val (.int av), .val (.int ((0 : Int32) + av)), .val (.ref b1), .val (.int lb), .val (.int x1), .val (.int x2), .val (.int x3), .val (.int j171_0), .val (.int (0 : Int32)), .unset, .unset, .unset] []) _
                exact J228 _ _ X24 e24q N24 (0 : Int32) (by rw [own_ok3, if_neg hc22, if_neg hc23, if_pos hc25])
              · refine Go.by (fun t k => XS.ifYes X24.here hx rfl (pc0 := 222) (pc' := 228) rfl (hb hby at_222) rfl ((if0 _ _).trans (feq hc25).2) (by decide) (by decide) k) ?_
                show Go p e below T24 (mkF m 228 #[.val (.int p1), .val (.int p2), .val (.int p3), .val (.int p4), .val (.int p5), .val (.int (0 : Int32)), .val (.int av), .val (.int ((0 : Int32) + av)), .val (.ref b1), .val (.int lb), .val (.int x1), .val (.int x2), .val (.int x3), .val (.int j171_0), .val (.int j206_0), .unset, .unset, .unset] []) _
                exact J228 _ _ X24 e24q N24 j206_0 (by rw [own_ok3, if_neg hc22, if_neg hc23, if_neg hc25])
        by_cases hc26 : j188_0 = (0 : Int32)
        · refine Go.by (fun t k => XS.ifYes X7.here hx rfl (pc0 := 192) (pc' := 206) rfl (hb hby at_192) rfl ((if0 _ _).trans (teq hc26).1) (by decide) (by decide) k) ?_
          show Go p e below T7 (mkF m 206 #[.val (.int p1), .val (.int p2), .val (.int p3), .val (.int p4), .val (.int p5), .val (.int (0 : Int32)), .val (.int av), .val (.int ((0 : Int32) + av)), .val (.ref b1), .val (.int lb), .val (.int x1), .val (.int x2), .val (.int x3), .val (.int j171_0), .val (.int j188_0), .unset, .unset, .unset] []) _
          exact J206 _ _ X7 e7 N7 j188_0 (by rw [own_ok2, if_pos hc26])
        · refine Go.by (fun t k => XS.ifNo X7.here hx rfl (hb hby at_192) rfl ((if0 _ _).trans (feq hc26).1) k) ?_
          show Go p e below T7 (mkF m 195 #[.val (.int p1), .val (.int p2), .val (.int p3), .val (.int p4), .val (.int p5), .val (.int (0 : Int32)), .val (.int av), .val (.int ((0 : Int32) + av)), .val (.ref b1), .val (.int lb), .val (.int x1), .val (.int x2), .val (.int x3), .val (.int j171_0), .val (.int j188_0), .unset, .unset, .unset] []) _
          refine Go.by (fun t k => XS.iload X7.here hx rfl (hb hby at_195) rfl k) ?_
          show Go p e below T7 (mkF m 197 #[.val (.int p1), .val (.int p2), .val (.int p3), .val (.int p4), .val (.int p5), .val (.int (0 : Int32)), .val (.int av), .val (.int ((0 : Int32) + av)), .val (.ref b1), .val (.int lb), .val (.int x1), .val (.int x2), .val (.int x3), .val (.int j171_0), .val (.int j188_0), .unset, .unset, .unset] [(.int x1)]) _
          obtain ⟨_, _, ⟨T27, L27, k27, n27⟩, -, X27, ⟨Lc27, hQ27, l27, y27, z27⟩, st27⟩ := Jvm.LawKit.callS X7 hx (y := (⟨"com/example/tillscan/tillscan/core/Utf8CharacterEndPinLaw", "cont", "(I)Z"⟩ : MethodName)) hown (mvT hZ (hw _ (List.mem_of_getElem? (i := 8) rfl))) (mvT hZ (hw _ (List.mem_of_getElem? (i := 9) rfl))) (mvT hZ (hw _ (List.mem_of_getElem? (i := 10) rfl))) (mvT hZ (hw _ (List.mem_of_getElem? (i := 11) rfl))) (by decide) (backOf (W := 0) (rm3 l Z a0 hw [] x1 h7 n0 Z7) hZ (hw _ (List.mem_of_getElem? (i := 11) rfl)) (hw _ (List.mem_of_getElem? (i := 10) rfl)) (by decide) (by decide)) (g := (mkF m 197 #[.val (.int p1), .val (.int p2), .val (.int p3), .val (.int p4), .val (.int p5), .val (.int (0 : Int32)), .val (.int av), .val (.int ((0 : Int32) + av)), .val (.ref b1), .val (.int lb), .val (.int x1), .val (.int x2), .val (.int x3), .val (.int j171_0), .val (.int j188_0), .unset, .unset, .unset] [(.int x1)])) rfl (by rw [hml]; rfl) (argsL := [(.int x1)]) (rest := []) (lenOf pd_2 rfl) rfl (by show 2 * 0 + _ ≤ _; exact Nat.le_of_eq rfl) (hb hby at_197) (fun _ _ => ⟨rfl, e7, (by decide : 1 + 0 ≤ _), (by decide : 5 + 0 ≤ _)⟩)
          dsimp only [Pt.U, Pt.locs, Pt.cells, Pt.slots] at X27 l27 y27 z27 st27 hQ27
          subst l27 y27 z27
          obtain ⟨rfl, N27q, e27q⟩ := hQ27
          have N27 := Fr.app N7 N27q
          refine Go.by st27 ?_
          show Go p e below T27 (mkF m 200 #[.val (.int p1), .val (.int p2), .val (.int p3), .val (.int p4), .val (.int p5), .val (.int (0 : Int32)), .val (.int av), .val (.int ((0 : Int32) + av)), .val (.ref b1), .val (.int lb), .val (.int x1), .val (.int x2), .val (.int x3), .val (.int j171_0), .val (.int j188_0), .unset, .unset, .unset] [(.int (f3 x1))]) _
          by_cases hc28 : (f3 x1) = (0 : Int32)
          · refine Go.by (fun t k => XS.ifNo X27.here hx rfl (hb hby at_200) rfl ((if0 _ _).trans (teq hc28).2) k) ?_
            show Go p e below T27 (mkF m 203 #[.val (.int p1), .val (.int p2), .val (.int p3), .val (.int p4), .val (.int p5), .val (.int (0 : Int32)), .val (.int av), .val (.int ((0 : Int32) + av)), .val (.ref b1), .val (.int lb), .val (.int x1), .val (.int x2), .val (.int x3), .val (.int j171_0), .val (.int j188_0), .unset, .unset, .unset] []) _
            refine Go.by (fun t k => XS.iconst X27.here hx rfl (hb hby at_203) k) ?_
            show Go p e below T27 (mkF m 204 #[.val (.int p1), .val (.int p2), .val (.int p3), .val (.int p4), .val (.int p5), .val (.int (0 : Int32)), .val (.int av), .val (.int ((0 : Int32) + av)), .val (.ref b1), .val (.int lb), .val (.int x1), .val (.int x2), .val (.int x3), .val (.int j171_0), .val (.int j188_0), .unset, .unset, .unset] [(.int (0 : Int32))]) _
            refine Go.by (fun t k => XS.istore X27.here hx rfl (hb hby at_204) rfl (l' := #[.val (.int p1), .val (.int p2), .val (.int p3), .val (.int p4), .val (.int p5), .val (.int (0 : Int32)), .val (.int av), .val (.int ((0 : Int32) + av)), .val (.ref b1), .val (.int lb), .val (.int x1), .val (.int x2), .val (.int x3), .val (.int j171_0), .val (.int (0 : Int32)), .unset, .unset, .unset]) rfl k) ?_
            show Go p e below T27 (mkF m 206 #[.val (.int p1), .val (.int p2), .val (.int p3), .val (.int p4), .val (.int p5), .val (.int (0 : Int32)), .val (.int av), .val (.int ((0 : Int32) + av)), .val (.ref b1), .val (.int lb), .val (.int x1), .val (.int x2), .val (.int x3), .val (.int j171_0), .val (.int (0 : Int32)), .unset, .unset, .unset] []) _
            exact J206 _ _ X27 e27q N27 (0 : Int32) (by rw [own_ok2, if_neg hc26, if_pos hc28])
          · refine Go.by (fun t k => XS.ifYes X27.here hx rfl (pc0 := 200) (pc' := 206) rfl (hb hby at_200) rfl ((if0 _ _).trans (feq hc28).2) (by decide) (by decide) k) ?_
            show Go p e below T27 (mkF m 206 #[.val (.int p1), .val (.int p2), .val (.int p3), .val (.int p4), .val (.int p5), .val (.int (0 : Int32)), .val (.int av), .val (.int ((0 : Int32) + av)), .val (.ref b1), .val (.int lb), .val (.int x1), .val (.int x2), .val (.int x3), .val (.int j171_0), .val (.int j188_0), .unset, .unset, .unset] []) _
            exact J206 _ _ X27 e27q N27 j188_0 (by rw [own_ok2, if_neg hc26, if_neg hc28])
      by_cases hc29 : (0 : Int32) < j171_0
      · refine Go.by (fun t k => XS.ifNo X7.here hx rfl (hb hby at_173) rfl ((if0 _ _).trans (tlt hc29).2.2.2) k) ?_
        show Go p e below T7 (mkF m 176 #[.val (.int p1), .val (.int p2), .val (.int p3), .val (.int p4), .val (.int p5), .val (.int (0 : Int32)), .val (.int av), .val (.int ((0 : Int32) + av)), .val (.ref b1), .val (.int lb), .val (.int x1), .val (.int x2), .val (.int x3), .val (.int j171_0), .unset, .unset, .unset, .unset] []) _
        refine Go.by (fun t k => XS.iload X7.here hx rfl (hb hby at_176) rfl k) ?_
        show Go p e below T7 (mkF m 178 #[.val (.int p1), .val (.int p2), .val (.int p3), .val (.int p4), .val (.int p5), .val (.int (0 : Int32)), .val (.int av), .val (.int ((0 : Int32) + av)), .val (.ref b1), .val (.int lb), .val (.int x1), .val (.int x2), .val (.int x3), .val (.int j171_0), .unset, .unset, .unset, .unset] [(.int av)]) _
        refine Go.by (fun t k => XS.iload X7.here hx rfl (hb hby at_178) rfl k) ?_
        show Go p e below T7 (mkF m 180 #[.val (.int p1), .val (.int p2), .val (.int p3), .val (.int p4), .val (.int p5), .val (.int (0 : Int32)), .val (.int av), .val (.int ((0 : Int32) + av)), .val (.ref b1), .val (.int lb), .val (.int x1), .val (.int x2), .val (.int x3), .val (.int j171_0), .unset, .unset, .unset, .unset] [(.int j171_0), (.int av)]) _
        by_cases hc30 : av < j171_0
        · refine Go.by (fun t k => XS.icmpYes X7.here hx rfl (pc0 := 180) (pc' := 187) rfl (hb hby at_180) rfl (tlt hc30).1 (by decide) (by decide) k) ?_
          show Go p e below T7 (mkF m 187 #[.val (.int p1), .val (.int p2), .val (.int p3), .val (.int p4), .val (.int p5), .val (.int (0 : Int32)), .val (.int av), .val (.int ((0 : Int32) + av)), .val (.ref b1), .val (.int lb), .val (.int x1), .val (.int x2), .val (.int x3), .val (.int j171_0), .unset, .unset, .unset, .unset] []) _
          refine Go.by (fun t k => XS.iconst X7.here hx rfl (hb hby at_187) k) ?_
          show Go p e below T7 (mkF m 188 #[.val (.int p1), .val (.int p2), .val (.int p3), .val (.int p4), .val (.int p5), .val (.int (0 : Int32)), .val (.int av), .val (.int ((0 : Int32) + av)), .val (.ref b1), .val (.int lb), .val (.int x1), .val (.int x2), .val (.int x3), .val (.int j171_0), .unset, .unset, .unset, .unset] [(.int (0 : Int32))]) _
          exact J188 (0 : Int32) (by rw [own_ok1, if_pos hc29, if_pos hc30])
        · refine Go.by (fun t k => XS.icmpNo X7.here hx rfl (hb hby at_180) rfl (flt hc30).1 k) ?_
          show Go p e below T7 (mkF m 183 #[.val (.int p1), .val (.int p2), .val (.int p3), .val (.int p4), .val (.int p5), .val (.int (0 : Int32)), .val (.int av), .val (.int ((0 : Int32) + av)), .val (.ref b1), .val (.int lb), .val (.int x1), .val (.int x2), .val (.int x3), .val (.int j171_0), .unset, .unset, .unset, .unset] []) _
          refine Go.by (fun t k => XS.iconst X7.here hx rfl (hb hby at_183) k) ?_
          show Go p e below T7 (mkF m 184 #[.val (.int p1), .val (.int p2), .val (.int p3), .val (.int p4), .val (.int p5), .val (.int (0 : Int32)), .val (.int av), .val (.int ((0 : Int32) + av)), .val (.ref b1), .val (.int lb), .val (.int x1), .val (.int x2), .val (.int x3), .val (.int j171_0), .unset, .unset, .unset, .unset] [(.int (1 : Int32))]) _
          refine Go.by (fun t k => XS.goto X7.here hx rfl (pc0 := 184) (pc' := 188) rfl (hb hby at_184) (by decide) (by decide) k) ?_
          show Go p e below T7 (mkF m 188 #[.val (.int p1), .val (.int p2), .val (.int p3), .val (.int p4), .val (.int p5), .val (.int (0 : Int32)), .val (.int av), .val (.int ((0 : Int32) + av)), .val (.ref b1), .val (.int lb), .val (.int x1), .val (.int x2), .val (.int x3), .val (.int j171_0), .unset, .unset, .unset, .unset] [(.int (1 : Int32))]) _
          exact J188 (1 : Int32) (by rw [own_ok1, if_pos hc29, if_neg hc30])
      · refine Go.by (fun t k => XS.ifYes X7.here hx rfl (pc0 := 173) (pc' := 187) rfl (hb hby at_173) rfl ((if0 _ _).trans (flt hc29).2.2.2) (by decide) (by decide) k) ?_
        show Go p e below T7 (mkF m 187 #[.val (.int p1), .val (.int p2), .val (.int p3), .val (.int p4), .val (.int p5), .val (.int (0 : Int32)), .val (.int av), .val (.int ((0 : Int32) + av)), .val (.ref b1), .val (.int lb), .val (.int x1), .val (.int x2), .val (.int x3), .val (.int j171_0), .unset, .unset, .unset, .unset] []) _
        refine Go.by (fun t k => XS.iconst X7.here hx rfl (hb hby at_187) k) ?_
        show Go p e below T7 (mkF m 188 #[.val (.int p1), .val (.int p2), .val (.int p3), .val (.int p4), .val (.int p5), .val (.int (0 : Int32)), .val (.int av), .val (.int ((0 : Int32) + av)), .val (.ref b1), .val (.int lb), .val (.int x1), .val (.int x2), .val (.int x3), .val (.int j171_0), .unset, .unset, .unset, .unset] [(.int (0 : Int32))]) _
        exact J188 (0 : Int32) (by rw [own_ok1, if_neg hc29])
    by_cases hc31 : lb < (192 : Int32)
    · refine Go.by (fun t k => XS.icmpNo X7.here hx rfl (hb hby at_117) rfl (tlt hc31).2.1 k) ?_
      show Go p e below T7 (mkF m 120 #[.val (.int p1), .val (.int p2), .val (.int p3), .val (.int p4), .val (.int p5), .val (.int (0 : Int32)), .val (.int av), .val (.int ((0 : Int32) + av)), .val (.ref b1), .val (.int lb), .val (.int x1), .val (.int x2), .val (.int x3), .unset, .unset, .unset, .unset, .unset] []) _
      refine Go.by (fun t k => XS.iconst X7.here hx rfl (hb hby at_120) k) ?_
      show Go p e below T7 (mkF m 121 #[.val (.int p1), .val (.int p2), .val (.int p3), .val (.int p4), .val (.int p5), .val (.int (0 : Int32)), .val (.int av), .val (.int ((0 : Int32) + av)), .val (.ref b1), .val (.int lb), .val (.int x1), .val (.int x2), .val (.int x3), .unset, .unset, .unset, .unset, .unset] [(.int (0 : Int32))]) _
      refine Go.by (fun t k => XS.istore X7.here hx rfl (hb hby at_121) rfl (l' := #[.val (.int p1), .val (.int p2), .val (.int p3), .val (.int p4), .val (.int p5), .val (.int (0 : Int32)), .val (.int av), .val (.int ((0 : Int32) + av)), .val (.ref b1), .val (.int lb), .val (.int x1), .val (.int x2), .val (.int x3), .val (.int (0 : Int32)), .unset, .unset, .unset, .unset]) rfl k) ?_
      show Go p e below T7 (mkF m 123 #[.val (.int p1), .val (.int p2), .val (.int p3), .val (.int p4), .val (.int p5), .val (.int (0 : Int32)), .val (.int av), .val (.int ((0 : Int32) + av)), .val (.ref b1), .val (.int lb), .val (.int x1), .val (.int x2), .val (.int x3), .val (.int (0 : Int32)), .unset, .unset, .unset, .unset] []) _
      refine Go.by (fun t k => XS.goto X7.here hx rfl (pc0 := 123) (pc' := 171) rfl (hb hby at_123) (by decide) (by decide) k) ?_
      show Go p e below T7 (mkF m 171 #[.val (.int p1), .val (.int p2), .val (.int p3), .val (.int p4), .val (.int p5), .val (.int (0 : Int32)), .val (.int av), .val (.int ((0 : Int32) + av)), .val (.ref b1), .val (.int lb), .val (.int x1), .val (.int x2), .val (.int x3), .val (.int (0 : Int32)), .unset, .unset, .unset, .unset] []) _
      exact J171 (0 : Int32) (by rw [own_n, if_pos hc31])
    · refine Go.by (fun t k => XS.icmpYes X7.here hx rfl (pc0 := 117) (pc' := 126) rfl (hb hby at_117) rfl (flt hc31).2.1 (by decide) (by decide) k) ?_
      show Go p e below T7 (mkF m 126 #[.val (.int p1), .val (.int p2), .val (.int p3), .val (.int p4), .val (.int p5), .val (.int (0 : Int32)), .val (.int av), .val (.int ((0 : Int32) + av)), .val (.ref b1), .val (.int lb), .val (.int x1), .val (.int x2), .val (.int x3), .unset, .unset, .unset, .unset, .unset] []) _
      refine Go.by (fun t k => XS.iload X7.here hx rfl (hb hby at_126) rfl k) ?_
      show Go p e below T7 (mkF m 128 #[.val (.int p1), .val (.int p2), .val (.int p3), .val (.int p4), .val (.int p5), .val (.int (0 : Int32)), .val (.int av), .val (.int ((0 : Int32) + av)), .val (.ref b1), .val (.int lb), .val (.int x1), .val (.int x2), .val (.int x3), .unset, .unset, .unset, .unset, .unset] [(.int lb)]) _
      refine Go.by (fun t k => XS.sipush X7.here hx rfl (hb hby at_128) k) ?_
      show Go p e below T7 (mkF m 131 #[.val (.int p1), .val (.int p2), .val (.int p3), .val (.int p4), .val (.int p5), .val (.int (0 : Int32)), .val (.int av), .val (.int ((0 : Int32) + av)), .val (.ref b1), .val (.int lb), .val (.int x1), .val (.int x2), .val (.int x3), .unset, .unset, .unset, .unset, .unset] [(.int (224 : Int32)), (.int lb)]) _
      by_cases hc32 : lb < (224 : Int32)
      · refine Go.by (fun t k => XS.icmpNo X7.here hx rfl (hb hby at_131) rfl (tlt hc32).2.1 k) ?_
        show Go p e below T7 (mkF m 134 #[.val (.int p1), .val (.int p2), .val (.int p3), .val (.int p4), .val (.int p5), .val (.int (0 : Int32)), .val (.int av), .val (.int ((0 : Int32) + av)), .val (.ref b1), .val (.int lb), .val (.int x1), .val (.int x2), .val (.int x3), .unset, .unset, .unset, .unset, .unset] []) _
        refine Go.by (fun t k => XS.iconst X7.here hx rfl (hb hby at_134) k) ?_
        show Go p e below T7 (mkF m 135 #[.val (.int p1), .val (.int p2), .val (.int p3), .val (.int p4), .val (.int p5), .val (.int (0 : Int32)), .val (.int av), .val (.int ((0 : Int32) + av)), .val (.ref b1), .val (.int lb), .val (.int x1), .val (.int x2), .val (.int x3), .unset, .unset, .unset, .unset, .unset] [(.int (2 : Int32))]) _
        refine Go.by (fun t k => XS.istore X7.here hx rfl (hb hby at_135) rfl (l' := #[.val (.int p1), .val (.int p2), .val (.int p3), .val (.int p4), .val (.int p5), .val (.int (0 : Int32)), .val (.int av), .val (.int ((0 : Int32) + av)), .val (.ref b1), .val (.int lb), .val (.int x1), .val (.int x2), .val (.int x3), .val (.int (2 : Int32)), .unset, .unset, .unset, .unset]) rfl k) ?_
        show Go p e below T7 (mkF m 137 #[.val (.int p1), .val (.int p2), .val (.int p3), .val (.int p4), .val (.int p5), .val (.int (0 : Int32)), .val (.int av), .val (.int ((0 : Int32) + av)), .val (.ref b1), .val (.int lb), .val (.int x1), .val (.int x2), .val (.int x3), .val (.int (2 : Int32)), .unset, .unset, .unset, .unset] []) _
        refine Go.by (fun t k => XS.goto X7.here hx rfl (pc0 := 137) (pc' := 171) rfl (hb hby at_137) (by decide) (by decide) k) ?_
        show Go p e below T7 (mkF m 171 #[.val (.int p1), .val (.int p2), .val (.int p3), .val (.int p4), .val (.int p5), .val (.int (0 : Int32)), .val (.int av), .val (.int ((0 : Int32) + av)), .val (.ref b1), .val (.int lb), .val (.int x1), .val (.int x2), .val (.int x3), .val (.int (2 : Int32)), .unset, .unset, .unset, .unset] []) _
        exact J171 (2 : Int32) (by rw [own_n, if_neg hc31, if_pos hc32])
      · refine Go.by (fun t k => XS.icmpYes X7.here hx rfl (pc0 := 131) (pc' := 140) rfl (hb hby at_131) rfl (flt hc32).2.1 (by decide) (by decide) k) ?_
        show Go p e below T7 (mkF m 140 #[.val (.int p1), .val (.int p2), .val (.int p3), .val (.int p4), .val (.int p5), .val (.int (0 : Int32)), .val (.int av), .val (.int ((0 : Int32) + av)), .val (.ref b1), .val (.int lb), .val (.int x1), .val (.int x2), .val (.int x3), .unset, .unset, .unset, .unset, .unset] []) _
        refine Go.by (fun t k => XS.iload X7.here hx rfl (hb hby at_140) rfl k) ?_
        show Go p e below T7 (mkF m 142 #[.val (.int p1), .val (.int p2), .val (.int p3), .val (.int p4), .val (.int p5), .val (.int (0 : Int32)), .val (.int av), .val (.int ((0 : Int32) + av)), .val (.ref b1), .val (.int lb), .val (.int x1), .val (.int x2), .val (.int x3), .unset, .unset, .unset, .unset, .unset] [(.int lb)]) _
        refine Go.by (fun t k => XS.sipush X7.here hx rfl (hb hby at_142) k) ?_
        show Go p e below T7 (mkF m 145 #[.val (.int p1), .val (.int p2), .val (.int p3), .val (.int p4), .val (.int p5), .val (.int (0 : Int32)), .val (.int av), .val (.int ((0 : Int32) + av)), .val (.ref b1), .val (.int lb), .val (.int x1), .val (.int x2), .val (.int x3), .unset, .unset, .unset, .unset, .unset] [(.int (240 : Int32)), (.int lb)]) _
        by_cases hc33 : lb < (240 : Int32)
        · refine Go.by (fun t k => XS.icmpNo X7.here hx rfl (hb hby at_145) rfl (tlt hc33).2.1 k) ?_
          show Go p e below T7 (mkF m 148 #[.val (.int p1), .val (.int p2), .val (.int p3), .val (.int p4), .val (.int p5), .val (.int (0 : Int32)), .val (.int av), .val (.int ((0 : Int32) + av)), .val (.ref b1), .val (.int lb), .val (.int x1), .val (.int x2), .val (.int x3), .unset, .unset, .unset, .unset, .unset] []) _
          refine Go.by (fun t k => XS.iconst X7.here hx rfl (hb hby at_148) k) ?_
          show Go p e below T7 (mkF m 149 #[.val (.int p1), .val (.int p2), .val (.int p3), .val (.int p4), .val (.int p5), .val (.int (0 : Int32)), .val (.int av), .val (.int ((0 : Int32) + av)), .val (.ref b1), .val (.int lb), .val (.int x1), .val (.int x2), .val (.int x3), .unset, .unset, .unset, .unset, .unset] [(.int (3 : Int32))]) _
          refine Go.by (fun t k => XS.istore X7.here hx rfl (hb hby at_149) rfl (l' := #[.val (.int p1), .val (.int p2), .val (.int p3), .val (.int p4), .val (.int p5), .val (.int (0 : Int32)), .val (.int av), .val (.int ((0 : Int32) + av)), .val (.ref b1), .val (.int lb), .val (.int x1), .val (.int x2), .val (.int x3), .val (.int (3 : Int32)), .unset, .unset, .unset, .unset]) rfl k) ?_
          show Go p e below T7 (mkF m 151 #[.val (.int p1), .val (.int p2), .val (.int p3), .val (.int p4), .val (.int p5), .val (.int (0 : Int32)), .val (.int av), .val (.int ((0 : Int32) + av)), .val (.ref b1), .val (.int lb), .val (.int x1), .val (.int x2), .val (.int x3), .val (.int (3 : Int32)), .unset, .unset, .unset, .unset] []) _
          refine Go.by (fun t k => XS.goto X7.here hx rfl (pc0 := 151) (pc' := 171) rfl (hb hby at_151) (by decide) (by decide) k) ?_
          show Go p e below T7 (mkF m 171 #[.val (.int p1), .val (.int p2), .val (.int p3), .val (.int p4), .val (.int p5), .val (.int (0 : Int32)), .val (.int av), .val (.int ((0 : Int32) + av)), .val (.ref b1), .val (.int lb), .val (.int x1), .val (.int x2), .val (.int x3), .val (.int (3 : Int32)), .unset, .unset, .unset, .unset] []) _
          exact J171 (3 : Int32) (by rw [own_n, if_neg hc31, if_neg hc32, if_pos hc33])
        · refine Go.by (fun t k => XS.icmpYes X7.here hx rfl (pc0 := 145) (pc' := 154) rfl (hb hby at_145) rfl (flt hc33).2.1 (by decide) (by decide) k) ?_
          show Go p e below T7 (mkF m 154 #[.val (.int p1), .val (.int p2), .val (.int p3), .val (.int p4), .val (.int p5), .val (.int (0 : Int32)), .val (.int av), .val (.int ((0 : Int32) + av)), .val (.ref b1), .val (.int lb), .val (.int x1), .val (.int x2), .val (.int x3), .unset, .unset, .unset, .unset, .unset] []) _
          refine Go.by (fun t k => XS.iload X7.here hx rfl (hb hby at_154) rfl k) ?_
          show Go p e below T7 (mkF m 156 #[.val (.int p1), .val (.int p2), .val (.int p3), .val (.int p4), .val (.int p5), .val (.int (0 : Int32)), .val (.int av), .val (.int ((0 : Int32) + av)), .val (.ref b1), .val (.int lb), .val (.int x1), .val (.int x2), .val (.int x3), .unset, .unset, .unset, .unset, .unset] [(.int lb)]) _
          refine Go.by (fun t k => XS.sipush X7.here hx rfl (hb hby at_156) k) ?_
          show Go p e below T7 (mkF m 159 #[.val (.int p1), .val (.int p2), .val (.int p3), .val (.int p4), .val (.int p5), .val (.int (0 : Int32)), .val (.int av), .val (.int ((0 : Int32) + av)), .val (.ref b1), .val (.int lb), .val (.int x1), .val (.int x2), .val (.int x3), .unset, .unset, .unset, .unset, .unset] [(.int (248 : Int32)), (.int lb)]) _
          by_cases hc34 : lb < (248 : Int32)
          · refine Go.by (fun t k => XS.icmpNo X7.here hx rfl (hb hby at_159) rfl (tlt hc34).2.1 k) ?_
            show Go p e below T7 (mkF m 162 #[.val (.int p1), .val (.int p2), .val (.int p3), .val (.int p4), .val (.int p5), .val (.int (0 : Int32)), .val (.int av), .val (.int ((0 : Int32) + av)), .val (.ref b1), .val (.int lb), .val (.int x1), .val (.int x2), .val (.int x3), .unset, .unset, .unset, .unset, .unset] []) _
            refine Go.by (fun t k => XS.iconst X7.here hx rfl (hb hby at_162) k) ?_
            show Go p e below T7 (mkF m 163 #[.val (.int p1), .val (.int p2), .val (.int p3), .val (.int p4), .val (.int p5), .val (.int (0 : Int32)), .val (.int av), .val (.int ((0 : Int32) + av)), .val (.ref b1), .val (.int lb), .val (.int x1), .val (.int x2), .val (.int x3), .unset, .unset, .unset, .unset, .unset] [(.int (4 : Int32))]) _
            refine Go.by (fun t k => XS.istore X7.here hx rfl (hb hby at_163) rfl (l' := #[.val (.int p1), .val (.int p2), .val (.int p3), .val (.int p4), .val (.int p5), .val (.int (0 : Int32)), .val (.int av), .val (.int ((0 : Int32) + av)), .val (.ref b1), .val (.int lb), .val (.int x1), .val (.int x2), .val (.int x3), .val (.int (4 : Int32)), .unset, .unset, .unset, .unset]) rfl k) ?_
            show Go p e below T7 (mkF m 165 #[.val (.int p1), .val (.int p2), .val (.int p3), .val (.int p4), .val (.int p5), .val (.int (0 : Int32)), .val (.int av), .val (.int ((0 : Int32) + av)), .val (.ref b1), .val (.int lb), .val (.int x1), .val (.int x2), .val (.int x3), .val (.int (4 : Int32)), .unset, .unset, .unset, .unset] []) _
            refine Go.by (fun t k => XS.goto X7.here hx rfl (pc0 := 165) (pc' := 171) rfl (hb hby at_165) (by decide) (by decide) k) ?_
            show Go p e below T7 (mkF m 171 #[.val (.int p1), .val (.int p2), .val (.int p3), .val (.int p4), .val (.int p5), .val (.int (0 : Int32)), .val (.int av), .val (.int ((0 : Int32) + av)), .val (.ref b1), .val (.int lb), .val (.int x1), .val (.int x2), .val (.int x3), .val (.int (4 : Int32)), .unset, .unset, .unset, .unset] []) _
            exact J171 (4 : Int32) (by rw [own_n, if_neg hc31, if_neg hc32, if_neg hc33, if_pos hc34])
          · refine Go.by (fun t k => XS.icmpYes X7.here hx rfl (pc0 := 159) (pc' := 168) rfl (hb hby at_159) rfl (flt hc34).2.1 (by decide) (by decide) k) ?_
            show Go p e below T7 (mkF m 168 #[.val (.int p1), .val (.int p2), .val (.int p3), .val (.int p4), .val (.int p5), .val (.int (0 : Int32)), .val (.int av), .val (.int ((0 : Int32) + av)), .val (.ref b1), .val (.int lb), .val (.int x1), .val (.int x2), .val (.int x3), .unset, .unset, .unset, .unset, .unset] []) _
            refine Go.by (fun t k => XS.iconst X7.here hx rfl (hb hby at_168) k) ?_
            show Go p e below T7 (mkF m 169 #[.val (.int p1), .val (.int p2), .val (.int p3), .val (.int p4), .val (.int p5), .val (.int (0 : Int32)), .val (.int av), .val (.int ((0 : Int32) + av)), .val (.ref b1), .val (.int lb), .val (.int x1), .val (.int x2), .val (.int x3), .unset, .unset, .unset, .unset, .unset] [(.int (0 : Int32))]) _
            refine Go.by (fun t k => XS.istore X7.here hx rfl (hb hby at_169) rfl (l' := #[.val (.int p1), .val (.int p2), .val (.int p3), .val (.int p4), .val (.int p5), .val (.int (0 : Int32)), .val (.int av), .val (.int ((0 : Int32) + av)), .val (.ref b1), .val (.int lb), .val (.int x1), .val (.int x2), .val (.int x3), .val (.int (0 : Int32)), .unset, .unset, .unset, .unset]) rfl k) ?_
            show Go p e below T7 (mkF m 171 #[.val (.int p1), .val (.int p2), .val (.int p3), .val (.int p4), .val (.int p5), .val (.int (0 : Int32)), .val (.int av), .val (.int ((0 : Int32) + av)), .val (.ref b1), .val (.int lb), .val (.int x1), .val (.int x2), .val (.int x3), .val (.int (0 : Int32)), .unset, .unset, .unset, .unset] []) _
            exact J171 (0 : Int32) (by rw [own_n, if_neg hc31, if_neg hc32, if_neg hc33, if_neg hc34])
  · show Go p e below s₁ (mkF m 6 #[.val (.int p1), .val (.int p2), .val (.int p3), .val (.int p4), .val (.int p5), .val (.int (1 : Int32)), .unset, .unset, .unset, .unset, .unset, .unset, .unset, .unset, .unset, .unset, .unset, .unset] []) _
    refine Go.by (fun t k => XS.iload X0.here hx rfl (hb hby at_6) rfl k) ?_
    show Go p e below s₁ (mkF m 8 #[.val (.int p1), .val (.int p2), .val (.int p3), .val (.int p4), .val (.int p5), .val (.int (1 : Int32)), .unset, .unset, .unset, .unset, .unset, .unset, .unset, .unset, .unset, .unset, .unset, .unset] [(.int p5)]) _
    refine Go.by (fun t k => XS.iconst X0.here hx rfl (hb hby at_8) k) ?_
    show Go p e below s₁ (mkF m 9 #[.val (.int p1), .val (.int p2), .val (.int p3), .val (.int p4), .val (.int p5), .val (.int (1 : Int32)), .unset, .unset, .unset, .unset, .unset, .unset, .unset, .unset, .unset, .unset, .unset, .unset] [(.int (1 : Int32)), (.int p5)]) _
    refine Go.by (fun t k => XS.iushr X0.here hx rfl (hb hby at_9) rfl k) ?_
    show Go p e below s₁ (mkF m 10 #[.val (.int p1), .val (.int p2), .val (.int p3), .val (.int p4), .val (.int p5), .val (.int (1 : Int32)), .unset, .unset, .unset, .unset, .unset, .unset, .unset, .unset, .unset, .unset, .unset, .unset] [(.int (own_ushr p5 (1 : Int32)))]) _
    refine Go.by (fun t k => XS.iconst X0.here hx rfl (hb hby at_10) k) ?_
    show Go p e below s₁ (mkF m 11 #[.val (.int p1), .val (.int p2), .val (.int p3), .val (.int p4), .val (.int p5), .val (.int (1 : Int32)), .unset, .unset, .unset, .unset, .unset, .unset, .unset, .unset, .unset, .unset, .unset, .unset] [(.int (3 : Int32)), (.int (own_ushr p5 (1 : Int32)))]) _
    refine Go.by (fun t k => XS.iand X0.here hx rfl (hb hby at_11) rfl k) ?_
    show Go p e below s₁ (mkF m 12 #[.val (.int p1), .val (.int p2), .val (.int p3), .val (.int p4), .val (.int p5), .val (.int (1 : Int32)), .unset, .unset, .unset, .unset, .unset, .unset, .unset, .unset, .unset, .unset, .unset, .unset] [(.int ((own_ushr p5 (1 : Int32)) &&& (3 : Int32)))]) _
    refine Go.by (fun t k => XS.iconst X0.here hx rfl (hb hby at_12) k) ?_
    show Go p e below s₁ (mkF m 13 #[.val (.int p1), .val (.int p2), .val (.int p3), .val (.int p4), .val (.int p5), .val (.int (1 : Int32)), .unset, .unset, .unset, .unset, .unset, .unset, .unset, .unset, .unset, .unset, .unset, .unset] [(.int (1 : Int32)), (.int ((own_ushr p5 (1 : Int32)) &&& (3 : Int32)))]) _
    refine Go.by (fun t k => XS.iadd X0.here hx rfl (hb hby at_13) rfl k) ?_
    show Go p e below s₁ (mkF m 14 #[.val (.int p1), .val (.int p2), .val (.int p3), .val (.int p4), .val (.int p5), .val (.int (1 : Int32)), .unset, .unset, .unset, .unset, .unset, .unset, .unset, .unset, .unset, .unset, .unset, .unset] [(.int (((own_ushr p5 (1 : Int32)) &&& (3 : Int32)) + (1 : Int32)))]) _
    refine Go.by (fun t k => XS.istore X0.here hx rfl (hb hby at_14) rfl (l' := #[.val (.int p1), .val (.int p2), .val (.int p3), .val (.int p4), .val (.int p5), .val (.int (1 : Int32)), .val (.int (((own_ushr p5 (1 : Int32)) &&& (3 : Int32)) + (1 : Int32))), .unset, .unset, .unset, .unset, .unset, .unset, .unset, .unset, .unset, .unset, .unset]) rfl k) ?_
    show Go p e below s₁ (mkF m 16 #[.val (.int p1), .val (.int p2), .val (.int p3), .val (.int p4), .val (.int p5), .val (.int (1 : Int32)), .val (.int (((own_ushr p5 (1 : Int32)) &&& (3 : Int32)) + (1 : Int32))), .unset, .unset, .unset, .unset, .unset, .unset, .unset, .unset, .unset, .unset, .unset] []) _
    generalize h_av : (((own_ushr p5 (1 : Int32)) &&& (3 : Int32)) + (1 : Int32)) = av
    refine Go.by (fun t k => XS.iload X0.here hx rfl (hb hby at_16) rfl k) ?_
    show Go p e below s₁ (mkF m 18 #[.val (.int p1), .val (.int p2), .val (.int p3), .val (.int p4), .val (.int p5), .val (.int (1 : Int32)), .val (.int av), .unset, .unset, .unset, .unset, .unset, .unset, .unset, .unset, .unset, .unset, .unset] [(.int (1 : Int32))]) _
    refine Go.by (fun t k => XS.iload X0.here hx rfl (hb hby at_18) rfl k) ?_
    show Go p e below s₁ (mkF m 20 #[.val (.int p1), .val (.int p2), .val (.int p3), .val (.int p4), .val (.int p5), .val (.int (1 : Int32)), .val (.int av), .unset, .unset, .unset, .unset, .unset, .unset, .unset, .unset, .unset, .unset, .unset] [(.int av), (.int (1 : Int32))]) _
    refine Go.by (fun t k => XS.iadd X0.here hx rfl (hb hby at_20) rfl k) ?_
    show Go p e below s₁ (mkF m 21 #[.val (.int p1), .val (.int p2), .val (.int p3), .val (.int p4), .val (.int p5), .val (.int (1 : Int32)), .val (.int av), .unset, .unset, .unset, .unset, .unset, .unset, .unset, .unset, .unset, .unset, .unset] [(.int ((1 : Int32) + av))]) _
    refine Go.by (fun t k => XS.istore X0.here hx rfl (hb hby at_21) rfl (l' := #[.val (.int p1), .val (.int p2), .val (.int p3), .val (.int p4), .val (.int p5), .val (.int (1 : Int32)), .val (.int av), .val (.int ((1 : Int32) + av)), .unset, .unset, .unset, .unset, .unset, .unset, .unset, .unset, .unset, .unset]) rfl k) ?_
    show Go p e below s₁ (mkF m 23 #[.val (.int p1), .val (.int p2), .val (.int p3), .val (.int p4), .val (.int p5), .val (.int (1 : Int32)), .val (.int av), .val (.int ((1 : Int32) + av)), .unset, .unset, .unset, .unset, .unset, .unset, .unset, .unset, .unset, .unset] []) _
    refine Go.by (fun t k => XS.iconst X0.here hx rfl (hb hby at_23) k) ?_
    show Go p e below s₁ (mkF m 24 #[.val (.int p1), .val (.int p2), .val (.int p3), .val (.int p4), .val (.int p5), .val (.int (1 : Int32)), .val (.int av), .val (.int ((1 : Int32) + av)), .unset, .unset, .unset, .unset, .unset, .unset, .unset, .unset, .unset, .unset] [(.int (5 : Int32))]) _
    obtain ⟨T35, h35, k35, X35, e35, E35, A35, st35⟩ := newP X0 hx hZ (hw _ (List.mem_of_getElem? (i := 0) rfl)) e0 (g := (mkF m 24 #[.val (.int p1), .val (.int p2), .val (.int p3), .val (.int p4), .val (.int p5), .val (.int (1 : Int32)), .val (.int av), .val (.int ((1 : Int32) + av)), .unset, .unset, .unset, .unset, .unset, .unset, .unset, .unset, .unset, .unset] [(.int (5 : Int32))])) rfl (hb hby at_24) rfl (by decide) (cap := 5) (by decide) (by decide) (by decide) (by decide)
    obtain ⟨b35, g35⟩ : ∃ z, z = h0.size := ⟨_, rfl⟩
    rw [← g35] at A35 st35
    have gn35 : n0 ≤ b35 := Nat.le_trans Z0 (Nat.le_of_eq g35.symm)
    have Z35 : n0 ≤ h35.size := Nat.le_trans Z0 E35.1
    have V35 := Arv.new A35 (by decide)
    have V35p : Arv Z h35 b35 k35 .byte (5 : Int32) [(.int (0 : Int32)), (.int (0 : Int32)), (.int (0 : Int32)), (.int (0 : Int32)), (.int (0 : Int32))] (.int (0 : Int32)) := V35.pad (pad_rep [] (.int (0 : Int32)) 5)
    refine Go.by st35 ?_
    show Go p e below T35 (mkF m 26 #[.val (.int p1), .val (.int p2), .val (.int p3), .val (.int p4), .val (.int p5), .val (.int (1 : Int32)), .val (.int av), .val (.int ((1 : Int32) + av)), .unset, .unset, .unset, .unset, .unset, .unset, .unset, .unset, .unset, .unset] [(.ref b35)]) _
    refine Go.by (fun t k => XS.astore X35.here hx rfl (hb hby at_26) rfl rfl (l' := #[.val (.int p1), .val (.int p2), .val (.int p3), .val (.int p4), .val (.int p5), .val (.int (1 : Int32)), .val (.int av), .val (.int ((1 : Int32) + av)), .val (.ref b35), .unset, .unset, .unset, .unset, .unset, .unset, .unset, .unset, .unset]) rfl k) ?_
    show Go p e below T35 (mkF m 28 #[.val (.int p1), .val (.int p2), .val (.int p3), .val (.int p4), .val (.int p5), .val (.int (1 : Int32)), .val (.int av), .val (.int ((1 : Int32) + av)), .val (.ref b35), .unset, .unset, .unset, .unset, .unset, .unset, .unset, .unset, .unset] []) _
    refine Go.by (fun t k => XS.aload X35.here hx rfl (hb hby at_28) rfl rfl k) ?_
    show Go p e below T35 (mkF m 30 #[.val (.int p1), .val (.int p2), .val (.int p3), .val (.int p4), .val (.int p5), .val (.int (1 : Int32)), .val (.int av), .val (.int ((1 : Int32) + av)), .val (.ref b35), .unset, .unset, .unset, .unset, .unset, .unset, .unset, .unset, .unset] [(.ref b35)]) _
    refine Go.by (fun t k => XS.iconst X35.here hx rfl (hb hby at_30) k) ?_
    show Go p e below T35 (mkF m 31 #[.val (.int p1), .val (.int p2), .val (.int p3), .val (.int p4), .val (.int p5), .val (.int (1 : Int32)), .val (.int av), .val (.int ((1 : Int32) + av)), .val (.ref b35), .unset, .unset, .unset, .unset, .unset, .unset, .unset, .unset, .unset] [(.int (0 : Int32)), (.ref b35)]) _
    refine Go.by (fun t k => XS.iloadN X35.here hx rfl (hb hby at_31) rfl k) ?_
    show Go p e below T35 (mkF m 32 #[.val (.int p1), .val (.int p2), .val (.int p3), .val (.int p4), .val (.int p5), .val (.int (1 : Int32)), .val (.int av), .val (.int ((1 : Int32) + av)), .val (.ref b35), .unset, .unset, .unset, .unset, .unset, .unset, .unset, .unset, .unset] [(.int p3), (.int (0 : Int32)), (.ref b35)]) _
    refine Go.by (fun t k => XS.i2b X35.here hx rfl (hb hby at_32) rfl k) ?_
    show Go p e below T35 (mkF m 33 #[.val (.int p1), .val (.int p2), .val (.int p3), .val (.int p4), .val (.int p5), .val (.int (1 : Int32)), .val (.int av), .val (.int ((1 : Int32) + av)), .val (.ref b35), .unset, .unset, .unset, .unset, .unset, .unset, .unset, .unset, .unset] [(.int (p3.toInt8.toInt32)), (.int (0 : Int32)), (.ref b35)]) _
    obtain ⟨cl36, Ar36, q36, S36, M36, H36, U36⟩ := V35p
    have hin36 := inb_of S36 (j := (0 : Int32)) ⟨by decide, by decide⟩
    obtain ⟨T36, h36, X36, e36, W36, st36⟩ := stB X35 hx hZ e35 Ar36 (j := (0 : Int32)) hin36 (g := (mkF m 33 #[.val (.int p1), .val (.int p2), .val (.int p3), .val (.int p4), .val (.int p5), .val (.int (1 : Int32)), .val (.int av), .val (.int ((1 : Int32) + av)), .val (.ref b35), .unset, .unset, .unset, .unset, .unset, .unset, .unset, .unset, .unset] [(.int (p3.toInt8.toInt32)), (.int (0 : Int32)), (.ref b35)])) rfl rfl (hb hby at_33)
    have V36 : Arv Z h36 b35 k35 .byte (5 : Int32) [(.int (nar .byte (p3.toInt8.toInt32))), (.int (0 : Int32)), (.int (0 : Int32)), (.int (0 : Int32)), (.int (0 : Int32))] (.int (0 : Int32)) := Arv.set Ar36 q36 S36 M36 H36 U36 (fits_nar_byte _) W36 0 rfl (Nat.le_of_ble_eq_true rfl)
    have N36 := Fr.snoc X36 N0 gn35
    have Z36 : n0 ≤ h36.size := by rw [W36.size]; exact Z35
    refine Go.by st36 ?_
    show Go p e below T36 (mkF m 34 #[.val (.int p1), .val (.int p2), .val (.int p3), .val (.int p4), .val (.int p5), .val (.int (1 : Int32)), .val (.int av), .val (.int ((1 : Int32) + av)), .val (.ref b35), .unset, .unset, .unset, .unset, .unset, .unset, .unset, .unset, .unset] []) _
    refine Go.by (fun t k => XS.aload X36.here hx rfl (hb hby at_34) rfl rfl k) ?_
    show Go p e below T36 (mkF m 36 #[.val (.int p1), .val (.int p2), .val (.int p3), .val (.int p4), .val (.int p5), .val (.int (1 : Int32)), .val (.int av), .val (.int ((1 : Int32) + av)), .val (.ref b35), .unset, .unset, .unset, .unset, .unset, .unset, .unset, .unset, .unset] [(.ref b35)]) _
    refine Go.by (fun t k => XS.iconst X36.here hx rfl (hb hby at_36) k) ?_
    show Go p e below T36 (mkF m 37 #[.val (.int p1), .val (.int p2), .val (.int p3), .val (.int p4), .val (.int p5), .val (.int (1 : Int32)), .val (.int av), .val (.int ((1 : Int32) + av)), .val (.ref b35), .unset, .unset, .unset, .unset, .unset, .unset, .unset, .unset, .unset] [(.int (4 : Int32)), (.ref b35)]) _
    refine Go.by (fun t k => XS.iloadN X36.here hx rfl (hb hby at_37) rfl k) ?_
    show Go p e below T36 (mkF m 38 #[.val (.int p1), .val (.int p2), .val (.int p3), .val (.int p4), .val (.int p5), .val (.int (1 : Int32)), .val (.int av), .val (.int ((1 : Int32) + av)), .val (.ref b35), .unset, .unset, .unset, .unset, .unset, .unset, .unset, .unset, .unset] [(.int p2), (.int (4 : Int32)), (.ref b35)]) _
    refine Go.by (fun t k => XS.i2b X36.here hx rfl (hb hby at_38) rfl k) ?_
    show Go p e below T36 (mkF m 39 #[.val (.int p1), .val (.int p2), .val (.int p3), .val (.int p4), .val (.int p5), .val (.int (1 : Int32)), .val (.int av), .val (.int ((1 : Int32) + av)), .val (.ref b35), .unset, .unset, .unset, .unset, .unset, .unset, .unset, .unset, .unset] [(.int (p2.toInt8.toInt32)), (.int (4 : Int32)), (.ref b35)]) _
    obtain ⟨cl37, Ar37, q37, S37, M37, H37, U37⟩ := V36
    have hin37 := inb_of S37 (j := (4 : Int32)) ⟨by decide, by decide⟩
    obtain ⟨T37, h37, X37, e37, W37, st37⟩ := stB X36 hx hZ e36 Ar37 (j := (4 : Int32)) hin37 (g := (mkF m 39 #[.val (.int p1), .val (.int p2), .val (.int p3), .val (.int p4), .val (.int p5), .val (.int (1 : Int32)), .val (.int av), .val (.int ((1 : Int32) + av)), .val (.ref b35), .unset, .unset, .unset, .unset, .unset, .unset, .unset, .unset, .unset] [(.int (p2.toInt8.toInt32)), (.int (4 : Int32)), (.ref b35)])) rfl rfl (hb hby at_39)
    have V37 : Arv Z h37 b35 k35 .byte (5 : Int32) [(.int (nar .byte (p3.toInt8.toInt32))), (.int (0 : Int32)), (.int (0 : Int32)), (.int (0 : Int32)), (.int (nar .byte (p2.toInt8.toInt32)))] (.int (0 : Int32)) := Arv.set Ar37 q37 S37 M37 H37 U37 (fits_nar_byte _) W37 4 rfl (Nat.le_of_ble_eq_true rfl)
    have N37 := Fr.snoc X37 N36 gn35
    have Z37 : n0 ≤ h37.size := by rw [W37.size]; exact Z36
    refine Go.by st37 ?_
    show Go p e below T37 (mkF m 40 #[.val (.int p1), .val (.int p2), .val (.int p3), .val (.int p4), .val (.int p5), .val (.int (1 : Int32)), .val (.int av), .val (.int ((1 : Int32) + av)), .val (.ref b35), .unset, .unset, .unset, .unset, .unset, .unset, .unset, .unset, .unset] []) _
    refine Go.by (fun t k => XS.aload X37.here hx rfl (hb hby at_40) rfl rfl k) ?_
    show Go p e below T37 (mkF m 42 #[.val (.int p1), .val (.int p2), .val (.int p3), .val (.int p4), .val (.int p5), .val (.int (1 : Int32)), .val (.int av), .val (.int ((1 : Int32) + av)), .val (.ref b35), .unset, .unset, .unset, .unset, .unset, .unset, .unset, .unset, .unset] [(.ref b35)]) _
    refine Go.by (fun t k => XS.iload X37.here hx rfl (hb hby at_42) rfl k) ?_
    show Go p e below T37 (mkF m 44 #[.val (.int p1), .val (.int p2), .val (.int p3), .val (.int p4), .val (.int p5), .val (.int (1 : Int32)), .val (.int av), .val (.int ((1 : Int32) + av)), .val (.ref b35), .unset, .unset, .unset, .unset, .unset, .unset, .unset, .unset, .unset] [(.int (1 : Int32)), (.ref b35)]) _
    refine Go.by (fun t k => XS.sipush X37.here hx rfl (hb hby at_44) k) ?_
    show Go p e below T37 (mkF m 47 #[.val (.int p1), .val (.int p2), .val (.int p3), .val (.int p4), .val (.int p5), .val (.int (1 : Int32)), .val (.int av), .val (.int ((1 : Int32) + av)), .val (.ref b35), .unset, .unset, .unset, .unset, .unset, .unset, .unset, .unset, .unset] [(.int (128 : Int32)), (.int (1 : Int32)), (.ref b35)]) _
    refine Go.by (fun t k => XS.iloadN X37.here hx rfl (hb hby at_47) rfl k) ?_
    show Go p e below T37 (mkF m 48 #[.val (.int p1), .val (.int p2), .val (.int p3), .val (.int p4), .val (.int p5), .val (.int (1 : Int32)), .val (.int av), .val (.int ((1 : Int32) + av)), .val (.ref b35), .unset, .unset, .unset, .unset, .unset, .unset, .unset, .unset, .unset] [(.int p1), (.int (128 : Int32)), (.int (1 : Int32)), (.ref b35)]) _
    refine Go.by (fun t k => XS.bipush X37.here hx rfl (hb hby at_48) k) ?_
    show Go p e below T37 (mkF m 50 #[.val (.int p1), .val (.int p2), .val (.int p3), .val (.int p4), .val (.int p5), .val (.int (1 : Int32)), .val (.int av), .val (.int ((1 : Int32) + av)), .val (.ref b35), .unset, .unset, .unset, .unset, .unset, .unset, .unset, .unset, .unset] [(.int (127 : Int32)), (.int p1), (.int (128 : Int32)), (.int (1 : Int32)), (.ref b35)]) _
    refine Go.by (fun t k => XS.iand X37.here hx rfl (hb hby at_50) rfl k) ?_
    show Go p e below T37 (mkF m 51 #[.val (.int p1), .val (.int p2), .val (.int p3), .val (.int p4), .val (.int p5), .val (.int (1 : Int32)), .val (.int av), .val (.int ((1 : Int32) + av)), .val (.ref b35), .unset, .unset, .unset, .unset, .unset, .unset, .unset, .unset, .unset] [(.int (p1 &&& (127 : Int32))), (.int (128 : Int32)), (.int (1 : Int32)), (.ref b35)]) _
    refine Go.by (fun t k => XS.ior X37.here hx rfl (hb hby at_51) rfl k) ?_
    show Go p e below T37 (mkF m 52 #[.val (.int p1), .val (.int p2), .val (.int p3), .val (.int p4), .val (.int p5), .val (.int (1 : Int32)), .val (.int av), .val (.int ((1 : Int32) + av)), .val (.ref b35), .unset, .unset, .unset, .unset, .unset, .unset, .unset, .unset, .unset] [(.int ((128 : Int32) ||| (p1 &&& (127 : Int32)))), (.int (1 : Int32)), (.ref b35)]) _
    refine Go.by (fun t k => XS.i2b X37.here hx rfl (hb hby at_52) rfl k) ?_
    show Go p e below T37 (mkF m 53 #[.val (.int p1), .val (.int p2), .val (.int p3), .val (.int p4), .val (.int p5), .val (.int (1 : Int32)), .val (.int av), .val (.int ((1 : Int32) + av)), .val (.ref b35), .unset, .unset, .unset, .unset, .unset, .unset, .unset, .unset, .unset] [(.int (((128 : Int32) ||| (p1 &&& (127 : Int32))).toInt8.toInt32)), (.int (1 : Int32)), (.ref b35)]) _
    obtain ⟨cl38, Ar38, q38, S38, M38, H38, U38⟩ := V37
    have hin38 := inb_of S38 (j := (1 : Int32)) ⟨by decide, by decide⟩
    obtain ⟨T38, h38, X38, e38, W38, st38⟩ := stB X37 hx hZ e37 Ar38 (j := (1 : Int32)) hin38 (g := (mkF m 53 #[.val (.int p1), .val (.int p2), .val (.int p3), .val (.int p4), .val (.int p5), .val (.int (1 : Int32)), .val (.int av), .val (.int ((1 : Int32) + av)), .val (.ref b35), .unset, .unset, .unset, .unset, .unset, .unset, .unset, .unset, .unset] [(.int (((128 : Int32) ||| (p1 &&& (127 : Int32))).toInt8.toInt32)), (.int (1 : Int32)), (.ref b35)])) rfl rfl (hb hby at_53)
    have V38 : Arv Z h38 b35 k35 .byte (5 : Int32) [(.int (nar .byte (p3.toInt8.toInt32))), (.int (nar .byte (((128 : Int32) ||| (p1 &&& (127 : Int32))).toInt8.toInt32))), (.int (0 : Int32)), (.int (0 : Int32)), (.int (nar .byte (p2.toInt8.toInt32)))] (.int (0 : Int32)) := Arv.set Ar38 q38 S38 M38 H38 U38 (fits_nar_byte _) W38 1 rfl (Nat.le_of_ble_eq_true rfl)
    have N38 := Fr.snoc X38 N37 gn35
    have Z38 : n0 ≤ h38.size := by rw [W38.size]; exact Z37
    refine Go.by st38 ?_
    show Go p e below T38 (mkF m 54 #[.val (.int p1), .val (.int p2), .val (.int p3), .val (.int p4), .val (.int p5), .val (.int (1 : Int32)), .val (.int av), .val (.int ((1 : Int32) + av)), .val (.ref b35), .unset, .unset, .unset, .unset, .unset, .unset, .unset, .unset, .unset] []) _
    refine Go.by (fun t k => XS.aload X38.here hx rfl (hb hby at_54) rfl rfl k) ?_
    show Go p e below T38 (mkF m 56 #[.val (.int p1), .val (.int p2), .val (.int p3), .val (.int p4), .val (.int p5), .val (.int (1 : Int32)), .val (.int av), .val (.int ((1 : Int32) + av)), .val (.ref b35), .unset, .unset, .unset, .unset, .unset, .unset, .unset, .unset, .unset] [(.ref b35)]) _
    refine Go.by (fun t k => XS.iload X38.here hx rfl (hb hby at_56) rfl k) ?_
    show Go p e below T38 (mkF m 58 #[.val (.int p1), .val (.int p2), .val (.int p3), .val (.int p4), .val (.int p5), .val (.int (1 : Int32)), .val (.int av), .val (.int ((1 : Int32) + av)), .val (.ref b35), .unset, .unset, .unset, .unset, .unset, .unset, .unset, .unset, .unset] [(.int (1 : Int32)), (.ref b35)]) _
    refine Go.by (fun t k => XS.iconst X38.here hx rfl (hb hby at_58) k) ?_
    show Go p e below T38 (mkF m 59 #[.val (.int p1), .val (.int p2), .val (.int p3), .val (.int p4), .val (.int p5), .val (.int (1 : Int32)), .val (.int av), .val (.int ((1 : Int32) + av)), .val (.ref b35), .unset, .unset, .unset, .unset, .unset, .unset, .unset, .unset, .unset] [(.int (1 : Int32)), (.int (1 : Int32)), (.ref b35)]) _
    refine Go.by (fun t k => XS.iadd X38.here hx rfl (hb hby at_59) rfl k) ?_
    show Go p e below T38 (mkF m 60 #[.val (.int p1), .val (.int p2), .val (.int p3), .val (.int p4), .val (.int p5), .val (.int (1 : Int32)), .val (.int av), .val (.int ((1 : Int32) + av)), .val (.ref b35), .unset, .unset, .unset, .unset, .unset, .unset, .unset, .unset, .unset] [(.int (2 : Int32)), (.ref b35)]) _
    refine Go.by (fun t k => XS.iloadN X38.here hx rfl (hb hby at_60) rfl k) ?_
    show Go p e below T38 (mkF m 61 #[.val (.int p1), .val (.int p2), .val (.int p3), .val (.int p4), .val (.int p5), .val (.int (1 : Int32)), .val (.int av), .val (.int ((1 : Int32) + av)), .val (.ref b35), .unset, .unset, .unset, .unset, .unset, .unset, .unset, .unset, .unset] [(.int p2), (.int (2 : Int32)), (.ref b35)]) _
    refine Go.by (fun t k => XS.i2b X38.here hx rfl (hb hby at_61) rfl k) ?_
    show Go p e below T38 (mkF m 62 #[.val (.int p1), .val (.int p2), .val (.int p3), .val (.int p4), .val (.int p5), .val (.int (1 : Int32)), .val (.int av), .val (.int ((1 : Int32) + av)), .val (.ref b35), .unset, .unset, .unset, .unset, .unset, .unset, .unset, .unset, .unset] [(.int (p2.toInt8.toInt32)), (.int (2 : Int32)), (.ref b35)]) _
    obtain ⟨cl39, Ar39, q39, S39, M39, H39, U39⟩ := V38
    have hin39 := inb_of S39 (j := (2 : Int32)) ⟨by decide, by decide⟩
    obtain ⟨T39, h39, X39, e39, W39, st39⟩ := stB X38 hx hZ e38 Ar39 (j := (2 : Int32)) hin39 (g := (mkF m 62 #[.val (.int p1), .val (.int p2), .val (.int p3), .val (.int p4), .val (.int p5), .val (.int (1 : Int32)), .val (.int av), .val (.int ((1 : Int32) + av)), .val (.ref b35), .unset, .unset, .unset, .unset, .unset, .unset, .unset, .unset, .unset] [(.int (p2.toInt8.toInt32)), (.int (2 : Int32)), (.ref b35)])) rfl rfl (hb hby at_62)
    have V39 : Arv Z h39 b35 k35 .byte (5 : Int32) [(.int (nar .byte (p3.toInt8.toInt32))), (.int (nar .byte (((128 : Int32) ||| (p1 &&& (127 : Int32))).toInt8.toInt32))), (.int (nar .byte (p2.toInt8.toInt32))), (.int (0 : Int32)), (.int (nar .byte (p2.toInt8.toInt32)))] (.int (0 : Int32)) := Arv.set Ar39 q39 S39 M39 H39 U39 (fits_nar_byte _) W39 2 rfl (Nat.le_of_ble_eq_true rfl)
    have N39 := Fr.snoc X39 N38 gn35
    have Z39 : n0 ≤ h39.size := by rw [W39.size]; exact Z38
    refine Go.by st39 ?_
    show Go p e below T39 (mkF m 63 #[.val (.int p1), .val (.int p2), .val (.int p3), .val (.int p4), .val (.int p5), .val (.int (1 : Int32)), .val (.int av), .val (.int ((1 : Int32) + av)), .val (.ref b35), .unset, .unset, .unset, .unset, .unset, .unset, .unset, .unset, .unset] []) _
    refine Go.by (fun t k => XS.aload X39.here hx rfl (hb hby at_63) rfl rfl k) ?_
    show Go p e below T39 (mkF m 65 #[.val (.int p1), .val (.int p2), .val (.int p3), .val (.int p4), .val (.int p5), .val (.int (1 : Int32)), .val (.int av), .val (.int ((1 : Int32) + av)), .val (.ref b35), .unset, .unset, .unset, .unset, .unset, .unset, .unset, .unset, .unset] [(.ref b35)]) _
    refine Go.by (fun t k => XS.iload X39.here hx rfl (hb hby at_65) rfl k) ?_
    show Go p e below T39 (mkF m 67 #[.val (.int p1), .val (.int p2), .val (.int p3), .val (.int p4), .val (.int p5), .val (.int (1 : Int32)), .val (.int av), .val (.int ((1 : Int32) + av)), .val (.ref b35), .unset, .unset, .unset, .unset, .unset, .unset, .unset, .unset, .unset] [(.int (1 : Int32)), (.ref b35)]) _
    refine Go.by (fun t k => XS.iconst X39.here hx rfl (hb hby at_67) k) ?_
    show Go p e below T39 (mkF m 68 #[.val (.int p1), .val (.int p2), .val (.int p3), .val (.int p4), .val (.int p5), .val (.int (1 : Int32)), .val (.int av), .val (.int ((1 : Int32) + av)), .val (.ref b35), .unset, .unset, .unset, .unset, .unset, .unset, .unset, .unset, .unset] [(.int (2 : Int32)), (.int (1 : Int32)), (.ref b35)]) _
    refine Go.by (fun t k => XS.iadd X39.here hx rfl (hb hby at_68) rfl k) ?_
    show Go p e below T39 (mkF m 69 #[.val (.int p1), .val (.int p2), .val (.int p3), .val (.int p4), .val (.int p5), .val (.int (1 : Int32)), .val (.int av), .val (.int ((1 : Int32) + av)), .val (.ref b35), .unset, .unset, .unset, .unset, .unset, .unset, .unset, .unset, .unset] [(.int (3 : Int32)), (.ref b35)]) _
    refine Go.by (fun t k => XS.iloadN X39.here hx rfl (hb hby at_69) rfl k) ?_
    show Go p e below T39 (mkF m 70 #[.val (.int p1), .val (.int p2), .val (.int p3), .val (.int p4), .val (.int p5), .val (.int (1 : Int32)), .val (.int av), .val (.int ((1 : Int32) + av)), .val (.ref b35), .unset, .unset, .unset, .unset, .unset, .unset, .unset, .unset, .unset] [(.int p3), (.int (3 : Int32)), (.ref b35)]) _
    refine Go.by (fun t k => XS.i2b X39.here hx rfl (hb hby at_70) rfl k) ?_
    show Go p e below T39 (mkF m 71 #[.val (.int p1), .val (.int p2), .val (.int p3), .val (.int p4), .val (.int p5), .val (.int (1 : Int32)), .val (.int av), .val (.int ((1 : Int32) + av)), .val (.ref b35), .unset, .unset, .unset, .unset, .unset, .unset, .unset, .unset, .unset] [(.int (p3.toInt8.toInt32)), (.int (3 : Int32)), (.ref b35)]) _
    obtain ⟨cl40, Ar40, q40, S40, M40, H40, U40⟩ := V39
    have hin40 := inb_of S40 (j := (3 : Int32)) ⟨by decide, by decide⟩
    obtain ⟨T40, h40, X40, e40, W40, st40⟩ := stB X39 hx hZ e39 Ar40 (j := (3 : Int32)) hin40 (g := (mkF m 71 #[.val (.int p1), .val (.int p2), .val (.int p3), .val (.int p4), .val (.int p5), .val (.int (1 : Int32)), .val (.int av), .val (.int ((1 : Int32) + av)), .val (.ref b35), .unset, .unset, .unset, .unset, .unset, .unset, .unset, .unset, .unset] [(.int (p3.toInt8.toInt32)), (.int (3 : Int32)), (.ref b35)])) rfl rfl (hb hby at_71)
    have V40 : Arv Z h40 b35 k35 .byte (5 : Int32) [(.int (nar .byte (p3.toInt8.toInt32))), (.int (nar .byte (((128 : Int32) ||| (p1 &&& (127 : Int32))).toInt8.toInt32))), (.int (nar .byte (p2.toInt8.toInt32))), (.int (nar .byte (p3.toInt8.toInt32))), (.int (nar .byte (p2.toInt8.toInt32)))] (.int (0 : Int32)) := Arv.set Ar40 q40 S40 M40 H40 U40 (fits_nar_byte _) W40 3 rfl (Nat.le_of_ble_eq_true rfl)
    have N40 := Fr.snoc X40 N39 gn35
    have Z40 : n0 ≤ h40.size := by rw [W40.size]; exact Z39
    refine Go.by st40 ?_
    show Go p e below T40 (mkF m 72 #[.val (.int p1), .val (.int p2), .val (.int p3), .val (.int p4), .val (.int p5), .val (.int (1 : Int32)), .val (.int av), .val (.int ((1 : Int32) + av)), .val (.ref b35), .unset, .unset, .unset, .unset, .unset, .unset, .unset, .unset, .unset] []) _
    refine Go.by (fun t k => XS.aload X40.here hx rfl (hb hby at_72) rfl rfl k) ?_
    show Go p e below T40 (mkF m 74 #[.val (.int p1), .val (.int p2), .val (.int p3), .val (.int p4), .val (.int p5), .val (.int (1 : Int32)), .val (.int av), .val (.int ((1 : Int32) + av)), .val (.ref b35), .unset, .unset, .unset, .unset, .unset, .unset, .unset, .unset, .unset] [(.ref b35)]) _
    refine Go.by (fun t k => XS.iload X40.here hx rfl (hb hby at_74) rfl k) ?_
    show Go p e below T40 (mkF m 76 #[.val (.int p1), .val (.int p2), .val (.int p3), .val (.int p4), .val (.int p5), .val (.int (1 : Int32)), .val (.int av), .val (.int ((1 : Int32) + av)), .val (.ref b35), .unset, .unset, .unset, .unset, .unset, .unset, .unset, .unset, .unset] [(.int (1 : Int32)), (.ref b35)]) _
    refine Go.by (fun t k => XS.iconst X40.here hx rfl (hb hby at_76) k) ?_
    show Go p e below T40 (mkF m 77 #[.val (.int p1), .val (.int p2), .val (.int p3), .val (.int p4), .val (.int p5), .val (.int (1 : Int32)), .val (.int av), .val (.int ((1 : Int32) + av)), .val (.ref b35), .unset, .unset, .unset, .unset, .unset, .unset, .unset, .unset, .unset] [(.int (3 : Int32)), (.int (1 : Int32)), (.ref b35)]) _
    refine Go.by (fun t k => XS.iadd X40.here hx rfl (hb hby at_77) rfl k) ?_
    show Go p e below T40 (mkF m 78 #[.val (.int p1), .val (.int p2), .val (.int p3), .val (.int p4), .val (.int p5), .val (.int (1 : Int32)), .val (.int av), .val (.int ((1 : Int32) + av)), .val (.ref b35), .unset, .unset, .unset, .unset, .unset, .unset, .unset, .unset, .unset] [(.int (4 : Int32)), (.ref b35)]) _
    refine Go.by (fun t k => XS.iloadN X40.here hx rfl (hb hby at_78) rfl k) ?_
    show Go p e below T40 (mkF m 79 #[.val (.int p1), .val (.int p2), .val (.int p3), .val (.int p4), .val (.int p5), .val (.int (1 : Int32)), .val (.int av), .val (.int ((1 : Int32) + av)), .val (.ref b35), .unset, .unset, .unset, .unset, .unset, .unset, .unset, .unset, .unset] [(.int p4), (.int (4 : Int32)), (.ref b35)]) _
    refine Go.by (fun t k => XS.i2b X40.here hx rfl (hb hby at_79) rfl k) ?_
    show Go p e below T40 (mkF m 80 #[.val (.int p1), .val (.int p2), .val (.int p3), .val (.int p4), .val (.int p5), .val (.int (1 : Int32)), .val (.int av), .val (.int ((1 : Int32) + av)), .val (.ref b35), .unset, .unset, .unset, .unset, .unset, .unset, .unset, .unset, .unset] [(.int (p4.toInt8.toInt32)), (.int (4 : Int32)), (.ref b35)]) _
    obtain ⟨cl41, Ar41, q41, S41, M41, H41, U41⟩ := V40
    have hin41 := inb_of S41 (j := (4 : Int32)) ⟨by decide, by decide⟩
    obtain ⟨T41, h41, X41, e41, W41, st41⟩ := stB X40 hx hZ e40 Ar41 (j := (4 : Int32)) hin41 (g := (mkF m 80 #[.val (.int p1), .val (.int p2), .val (.int p3), .val (.int p4), .val (.int p5), .val (.int (1 : Int32)), .val (.int av), .val (.int ((1 : Int32) + av)), .val (.ref b35), .unset, .unset, .unset, .unset, .unset, .unset, .unset, .unset, .unset] [(.int (p4.toInt8.toInt32)), (.int (4 : Int32)), (.ref b35)])) rfl rfl (hb hby at_80)
    have V41 : Arv Z h41 b35 k35 .byte (5 : Int32) [(.int (nar .byte (p3.toInt8.toInt32))), (.int (nar .byte (((128 : Int32) ||| (p1 &&& (127 : Int32))).toInt8.toInt32))), (.int (nar .byte (p2.toInt8.toInt32))), (.int (nar .byte (p3.toInt8.toInt32))), (.int (nar .byte (p4.toInt8.toInt32)))] (.int (0 : Int32)) := Arv.set Ar41 q41 S41 M41 H41 U41 (fits_nar_byte _) W41 4 rfl (Nat.le_of_ble_eq_true rfl)
    have N41 := Fr.snoc X41 N40 gn35
    have Z41 : n0 ≤ h41.size := by rw [W41.size]; exact Z40
    refine Go.by st41 ?_
    show Go p e below T41 (mkF m 81 #[.val (.int p1), .val (.int p2), .val (.int p3), .val (.int p4), .val (.int p5), .val (.int (1 : Int32)), .val (.int av), .val (.int ((1 : Int32) + av)), .val (.ref b35), .unset, .unset, .unset, .unset, .unset, .unset, .unset, .unset, .unset] []) _
    refine Go.by (fun t k => XS.sipush X41.here hx rfl (hb hby at_81) k) ?_
    show Go p e below T41 (mkF m 84 #[.val (.int p1), .val (.int p2), .val (.int p3), .val (.int p4), .val (.int p5), .val (.int (1 : Int32)), .val (.int av), .val (.int ((1 : Int32) + av)), .val (.ref b35), .unset, .unset, .unset, .unset, .unset, .unset, .unset, .unset, .unset] [(.int (128 : Int32))]) _
    refine Go.by (fun t k => XS.iloadN X41.here hx rfl (hb hby at_84) rfl k) ?_
    show Go p e below T41 (mkF m 85 #[.val (.int p1), .val (.int p2), .val (.int p3), .val (.int p4), .val (.int p5), .val (.int (1 : Int32)), .val (.int av), .val (.int ((1 : Int32) + av)), .val (.ref b35), .unset, .unset, .unset, .unset, .unset, .unset, .unset, .unset, .unset] [(.int p1), (.int (128 : Int32))]) _
    refine Go.by (fun t k => XS.bipush X41.here hx rfl (hb hby at_85) k) ?_
    show Go p e below T41 (mkF m 87 #[.val (.int p1), .val (.int p2), .val (.int p3), .val (.int p4), .val (.int p5), .val (.int (1 : Int32)), .val (.int av), .val (.int ((1 : Int32) + av)), .val (.ref b35), .unset, .unset, .unset, .unset, .unset, .unset, .unset, .unset, .unset] [(.int (127 : Int32)), (.int p1), (.int (128 : Int32))]) _
    refine Go.by (fun t k => XS.iand X41.here hx rfl (hb hby at_87) rfl k) ?_
    show Go p e below T41 (mkF m 88 #[.val (.int p1), .val (.int p2), .val (.int p3), .val (.int p4), .val (.int p5), .val (.int (1 : Int32)), .val (.int av), .val (.int ((1 : Int32) + av)), .val (.ref b35), .unset, .unset, .unset, .unset, .unset, .unset, .unset, .unset, .unset] [(.int (p1 &&& (127 : Int32))), (.int (128 : Int32))]) _
    refine Go.by (fun t k => XS.ior X41.here hx rfl (hb hby at_88) rfl k) ?_
    show Go p e below T41 (mkF m 89 #[.val (.int p1), .val (.int p2), .val (.int p3), .val (.int p4), .val (.int p5), .val (.int (1 : Int32)), .val (.int av), .val (.int ((1 : Int32) + av)), .val (.ref b35), .unset, .unset, .unset, .unset, .unset, .unset, .unset, .unset, .unset] [(.int ((128 : Int32) ||| (p1 &&& (127 : Int32))))]) _
    refine Go.by (fun t k => XS.istore X41.here hx rfl (hb hby at_89) rfl (l' := #[.val (.int p1), .val (.int p2), .val (.int p3), .val (.int p4), .val (.int p5), .val (.int (1 : Int32)), .val (.int av), .val (.int ((1 : Int32) + av)), .val (.ref b35), .val (.int ((128 : Int32) ||| (p1 &&& (127 : Int32)))), .unset, .unset, .unset, .unset, .unset, .unset, .unset, .unset]) rfl k) ?_
    show Go p e below T41 (mkF m 91 #[.val (.int p1), .val (.int p2), .val (.int p3), .val (.int p4), .val (.int p5), .val (.int (1 : Int32)), .val (.int av), .val (.int ((1 : Int32) + av)), .val (.ref b35), .val (.int ((128 : Int32) ||| (p1 &&& (127 : Int32)))), .unset, .unset, .unset, .unset, .unset, .unset, .unset, .unset] []) _
    generalize h_lb : ((128 : Int32) ||| (p1 &&& (127 : Int32))) = lb
    refine Go.by (fun t k => XS.iloadN X41.here hx rfl (hb hby at_91) rfl k) ?_
    show Go p e below T41 (mkF m 92 #[.val (.int p1), .val (.int p2), .val (.int p3), .val (.int p4), .val (.int p5), .val (.int (1 : Int32)), .val (.int av), .val (.int ((1 : Int32) + av)), .val (.ref b35), .val (.int lb), .unset, .unset, .unset, .unset, .unset, .unset, .unset, .unset] [(.int p2)]) _
    refine Go.by (fun t k => XS.sipush X41.here hx rfl (hb hby at_92) k) ?_
    show Go p e below T41 (mkF m 95 #[.val (.int p1), .val (.int p2), .val (.int p3), .val (.int p4), .val (.int p5), .val (.int (1 : Int32)), .val (.int av), .val (.int ((1 : Int32) + av)), .val (.ref b35), .val (.int lb), .unset, .unset, .unset, .unset, .unset, .unset, .unset, .unset] [(.int (255 : Int32)), (.int p2)]) _
    refine Go.by (fun t k => XS.iand X41.here hx rfl (hb hby at_95) rfl k) ?_
    show Go p e below T41 (mkF m 96 #[.val (.int p1), .val (.int p2), .val (.int p3), .val (.int p4), .val (.int p5), .val (.int (1 : Int32)), .val (.int av), .val (.int ((1 : Int32) + av)), .val (.ref b35), .val (.int lb), .unset, .unset, .unset, .unset, .unset, .unset, .unset, .unset] [(.int (p2 &&& (255 : Int32)))]) _
    refine Go.by (fun t k => XS.istore X41.here hx rfl (hb hby at_96) rfl (l' := #[.val (.int p1), .val (.int p2), .val (.int p3), .val (.int p4), .val (.int p5), .val (.int (1 : Int32)), .val (.int av), .val (.int ((1 : Int32) + av)), .val (.ref b35), .val (.int lb), .val (.int (p2 &&& (255 : Int32))), .unset, .unset, .unset, .unset, .unset, .unset, .unset]) rfl k) ?_
    show Go p e below T41 (mkF m 98 #[.val (.int p1), .val (.int p2), .val (.int p3), .val (.int p4), .val (.int p5), .val (.int (1 : Int32)), .val (.int av), .val (.int ((1 : Int32) + av)), .val (.ref b35), .val (.int lb), .val (.int (p2 &&& (255 : Int32))), .unset, .unset, .unset, .unset, .unset, .unset, .unset] []) _
    generalize h_x1 : (p2 &&& (255 : Int32)) = x1
    refine Go.by (fun t k => XS.iloadN X41.here hx rfl (hb hby at_98) rfl k) ?_
    show Go p e below T41 (mkF m 99 #[.val (.int p1), .val (.int p2), .val (.int p3), .val (.int p4), .val (.int p5), .val (.int (1 : Int32)), .val (.int av), .val (.int ((1 : Int32) + av)), .val (.ref b35), .val (.int lb), .val (.int x1), .unset, .unset, .unset, .unset, .unset, .unset, .unset] [(.int p3)]) _
    refine Go.by (fun t k => XS.sipush X41.here hx rfl (hb hby at_99) k) ?_
    show Go p e below T41 (mkF m 102 #[.val (.int p1), .val (.int p2), .val (.int p3), .val (.int p4), .val (.int p5), .val (.int (1 : Int32)), .val (.int av), .val (.int ((1 : Int32) + av)), .val (.ref b35), .val (.int lb), .val (.int x1), .unset, .unset, .unset, .unset, .unset, .unset, .unset] [(.int (255 : Int32)), (.int p3)]) _
    refine Go.by (fun t k => XS.iand X41.here hx rfl (hb hby at_102) rfl k) ?_
    show Go p e below T41 (mkF m 103 #[.val (.int p1), .val (.int p2), .val (.int p3), .val (.int p4), .val (.int p5), .val (.int (1 : Int32)), .val (.int av), .val (.int ((1 : Int32) + av)), .val (.ref b35), .val (.int lb), .val (.int x1), .unset, .unset, .unset, .unset, .unset, .unset, .unset] [(.int (p3 &&& (255 : Int32)))]) _
    refine Go.by (fun t k => XS.istore X41.here hx rfl (hb hby at_103) rfl (l' := #[.val (.int p1), .val (.int p2), .val (.int p3), .val (.int p4), .val (.int p5), .val (.int (1 : Int32)), .val (.int av), .val (.int ((1 : Int32) + av)), .val (.ref b35), .val (.int lb), .val (.int x1), .val (.int (p3 &&& (255 : Int32))), .unset, .unset, .unset, .unset, .unset, .unset]) rfl k) ?_
    show Go p e below T41 (mkF m 105 #[.val (.int p1), .val (.int p2), .val (.int p3), .val (.int p4), .val (.int p5), .val (.int (1 : Int32)), .val (.int av), .val (.int ((1 : Int32) + av)), .val (.ref b35), .val (.int lb), .val (.int x1), .val (.int (p3 &&& (255 : Int32))), .unset, .unset, .unset, .unset, .unset, .unset] []) _
    generalize h_x2 : (p3 &&& (255 : Int32)) = x2
    refine Go.by (fun t k => XS.iloadN X41.here hx rfl (hb hby at_105) rfl k) ?_
    show Go p e below T41 (mkF m 106 #[.val (.int p1), .val (.int p2), .val (.int p3), .val (.int p4), .val (.int p5), .val (.int (1 : Int32)), .val (.int av), .val (.int ((1 : Int32) + av)), .val (.ref b35), .val (.int lb), .val (.int x1), .val (.int x2), .unset, .unset, .unset, .unset, .unset, .unset] [(.int p4)]) _
    refine Go.by (fun t k => XS.sipush X41.here hx rfl (hb hby at_106) k) ?_
    show Go p e below T41 (mkF m 109 #[.val (.int p1), .val (.int p2), .val (.int p3), .val (.int p4), .val (.int p5), .val (.int (1 : Int32)), .val (.int av), .val (.int ((1 : Int32) + av)), .val (.ref b35), .val (.int lb), .val (.int x1), .val (.int x2), .unset, .unset, .unset, .unset, .unset, .unset] [(.int (255 : Int32)), (.int p4)]) _
    refine Go.by (fun t k => XS.iand X41.here hx rfl (hb hby at_109) rfl k) ?_
    show Go p e below T41 (mkF m 110 #[.val (.int p1), .val (.int p2), .val (.int p3), .val (.int p4), .val (.int p5), .val (.int (1 : Int32)), .val (.int av), .val (.int ((1 : Int32) + av)), .val (.ref b35), .val (.int lb), .val (.int x1), .val (.int x2), .unset, .unset, .unset, .unset, .unset, .unset] [(.int (p4 &&& (255 : Int32)))]) _
    refine Go.by (fun t k => XS.istore X41.here hx rfl (hb hby at_110) rfl (l' := #[.val (.int p1), .val (.int p2), .val (.int p3), .val (.int p4), .val (.int p5), .val (.int (1 : Int32)), .val (.int av), .val (.int ((1 : Int32) + av)), .val (.ref b35), .val (.int lb), .val (.int x1), .val (.int x2), .val (.int (p4 &&& (255 : Int32))), .unset, .unset, .unset, .unset, .unset]) rfl k) ?_
    show Go p e below T41 (mkF m 112 #[.val (.int p1), .val (.int p2), .val (.int p3), .val (.int p4), .val (.int p5), .val (.int (1 : Int32)), .val (.int av), .val (.int ((1 : Int32) + av)), .val (.ref b35), .val (.int lb), .val (.int x1), .val (.int x2), .val (.int (p4 &&& (255 : Int32))), .unset, .unset, .unset, .unset, .unset] []) _
    generalize h_x3 : (p4 &&& (255 : Int32)) = x3
    refine Go.by (fun t k => XS.iload X41.here hx rfl (hb hby at_112) rfl k) ?_
    show Go p e below T41 (mkF m 114 #[.val (.int p1), .val (.int p2), .val (.int p3), .val (.int p4), .val (.int p5), .val (.int (1 : Int32)), .val (.int av), .val (.int ((1 : Int32) + av)), .val (.ref b35), .val (.int lb), .val (.int x1), .val (.int x2), .val (.int x3), .unset, .unset, .unset, .unset, .unset] [(.int lb)]) _
    refine Go.by (fun t k => XS.sipush X41.here hx rfl (hb hby at_114) k) ?_
    show Go p e below T41 (mkF m 117 #[.val (.int p1), .val (.int p2), .val (.int p3), .val (.int p4), .val (.int p5), .val (.int (1 : Int32)), .val (.int av), .val (.int ((1 : Int32) + av)), .val (.ref b35), .val (.int lb), .val (.int x1), .val (.int x2), .val (.int x3), .unset, .unset, .unset, .unset, .unset] [(.int (192 : Int32)), (.int lb)]) _
    have J171 : ∀ (j171_0 : Int32), (j171_0 = own_n lb) → Go p e below T41 (mkF m 171 #[.val (.int p1), .val (.int p2), .val (.int p3), .val (.int p4), .val (.int p5), .val (.int (1 : Int32)), .val (.int av), .val (.int ((1 : Int32) + av)), .val (.ref b35), .val (.int lb), .val (.int x1), .val (.int x2), .val (.int x3), .val (.int j171_0), .unset, .unset, .unset, .unset] []) (Pst0 Z p1 p2 p3 p4 p5 h0 n0 s) := by
      intro j171_0 hj171
      refine Go.by (fun t k => XS.iload X41.here hx rfl (hb hby at_171) rfl k) ?_
      show Go p e below T41 (mkF m 173 #[.val (.int p1), .val (.int p2), .val (.int p3), .val (.int p4), .val (.int p5), .val (.int (1 : Int32)), .val (.int av), .val (.int ((1 : Int32) + av)), .val (.ref b35), .val (.int lb), .val (.int x1), .val (.int x2), .val (.int x3), .val (.int j171_0), .unset, .unset, .unset, .unset] [(.int j171_0)]) _
      have J188 : ∀ (j188_0 : Int32), (j188_0 = own_ok1 j171_0 av) → Go p e below T41 (mkF m 188 #[.val (.int p1), .val (.int p2), .val (.int p3), .val (.int p4), .val (.int p5), .val (.int (1 : Int32)), .val (.int av), .val (.int ((1 : Int32) + av)), .val (.ref b35), .val (.int lb), .val (.int x1), .val (.int x2), .val (.int x3), .val (.int j171_0), .unset, .unset, .unset, .unset] [(.int j188_0)]) (Pst0 Z p1 p2 p3 p4 p5 h0 n0 s) := by
        intro j188_0 hj188
        refine Go.by (fun t k => XS.istore X41.here hx rfl (hb hby at_188) rfl (l' := #[.val (.int p1), .val (.int p2), .val (.int p3), .val (.int p4), .val (.int p5), .val (.int (1 : Int32)), .val (.int av), .val (.int ((1 : Int32) + av)), .val (.ref b35), .val (.int lb), .val (.int x1), .val (.int x2), .val (.int x3), .val (.int j171_0), .val (.int j188_0), .unset, .unset, .unset]) rfl k) ?_
        show Go p e below T41 (mkF m 190 #[.val (.int p1), .val (.int p2), .val (.int p3), .val (.int p4), .val (.int p5), .val (.int (1 : Int32)), .val (.int av), .val (.int ((1 : Int32) + av)), .val (.ref b35), .val (.int lb), .val (.int x1), .val (.int x2), .val (.int x3), .val (.int j171_0), .val (.int j188_0), .unset, .unset, .unset] []) _
        refine Go.by (fun t k => XS.iload X41.here hx rfl (hb hby at_190) rfl k) ?_
        show Go p e below T41 (mkF m 192 #[.val (.int p1), .val (.int p2), .val (.int p3), .val (.int p4), .val (.int p5), .val (.int (1 : Int32)), .val (.int av), .val (.int ((1 : Int32) + av)), .val (.ref b35), .val (.int lb), .val (.int x1), .val (.int x2), .val (.int x3), .val (.int j171_0), .val (.int j188_0), .unset, .unset, .unset] [(.int j188_0)]) _
        have J206 : ∀ (Tj206 : State) (Lj206 : List Loc) (Xj206 : Stand p l e room_1 s m #[(.int p1), (.int p2), (.int p3), (.int p4), (.int p5)] below meth c Tj206 Lj206 1 5) (ej206 : Tj206.heap = h41) (Nj206 : Fr n0 Lj206) (j206_0 : Int32), (j206_0 = own_ok2 j188_0 x1) → Go p e below Tj206 (mkF m 206 #[.val (.int p1), .val (.int p2), .val (.int p3), .val (.int p4), .val (.int p5), .val (.int (1 : Int32)), .val (.int av), .val (.int ((1 : Int32) + av)), .val (.ref b35), .val (.int lb), .val (.int x1), .val (.int x2), .val (.int x3), .val (.int j171_0), .val (.int j206_0), .unset, .unset, .unset] []) (Pst0 Z p1 p2 p3 p4 p5 h0 n0 s) := by
          intro Tj206 Lj206 Xj206 ej206 Nj206 j206_0 hj206
          refine Go.by (fun t k => XS.iload Xj206.here hx rfl (hb hby at_206) rfl k) ?_
          show Go p e below Tj206 (mkF m 208 #[.val (.int p1), .val (.int p2), .val (.int p3), .val (.int p4), .val (.int p5), .val (.int (1 : Int32)), .val (.int av), .val (.int ((1 : Int32) + av)), .val (.ref b35), .val (.int lb), .val (.int x1), .val (.int x2), .val (.int x3), .val (.int j171_0), .val (.int j206_0), .unset, .unset, .unset] [(.int j206_0)]) _
          have J228 : ∀ (Tj228 : State) (Lj228 : List Loc) (Xj228 : Stand p l e room_1 s m #[(.int p1), (.int p2), (.int p3), (.int p4), (.int p5)] below meth c Tj228 Lj228 1 5) (ej228 : Tj228.heap = h41) (Nj228 : Fr n0 Lj228) (j228_0 : Int32), (j228_0 = own_ok3 j206_0 j171_0 x2) → Go p e below Tj228 (mkF m 228 #[.val (.int p1), .val (.int p2), .val (.int p3), .val (.int p4), .val (.int p5), .val (.int (1 : Int32)), .val (.int av), .val (.int ((1 : Int32) + av)), .val (.ref b35), .val (.int lb), .val (.int x1), .val (.int x2), .val (.int x3), .val (.int j171_0), .val (.int j228_0), .unset, .unset, .unset] []) (Pst0 Z p1 p2 p3 p4 p5 h0 n0 s) := by
            intro Tj228 Lj228 Xj228 ej228 Nj228 j228_0 hj228
            refine Go.by (fun t k => XS.iload Xj228.here hx rfl (hb hby at_228) rfl k) ?_
            show Go p e below Tj228 (mkF m 230 #[.val (.int p1), .val (.int p2), .val (.int p3), .val (.int p4), .val (.int p5), .val (.int (1 : Int32)), .val (.int av), .val (.int ((1 : Int32) + av)), .val (.ref b35), .val (.int lb), .val (.int x1), .val (.int x2), .val (.int x3), .val (.int j171_0), .val (.int j228_0), .unset, .unset, .unset] [(.int j228_0)]) _
            have J250 : ∀ (Tj250 : State) (Lj250 : List Loc) (Xj250 : Stand p l e room_1 s m #[(.int p1), (.int p2), (.int p3), (.int p4), (.int p5)] below meth c Tj250 Lj250 1 5) (ej250 : Tj250.heap = h41) (Nj250 : Fr n0 Lj250) (j250_0 : Int32), (j250_0 = own_ok4 j228_0 j171_0 x3) → Go p e below Tj250 (mkF m 250 #[.val (.int p1), .val (.int p2), .val (.int p3), .val (.int p4), .val (.int p5), .val (.int (1 : Int32)), .val (.int av), .val (.int ((1 : Int32) + av)), .val (.ref b35), .val (.int lb), .val (.int x1), .val (.int x2), .val (.int x3), .val (.int j171_0), .val (.int j250_0), .unset, .unset, .unset] []) (Pst0 Z p1 p2 p3 p4 p5 h0 n0 s) := by
              intro Tj250 Lj250 Xj250 ej250 Nj250 j250_0 hj250
              refine Go.by (fun t k => XS.iconst Xj250.here hx rfl (hb hby at_250) k) ?_
              show Go p e below Tj250 (mkF m 251 #[.val (.int p1), .val (.int p2), .val (.int p3), .val (.int p4), .val (.int p5), .val (.int (1 : Int32)), .val (.int av), .val (.int ((1 : Int32) + av)), .val (.ref b35), .val (.int lb), .val (.int x1), .val (.int x2), .val (.int x3), .val (.int j171_0), .val (.int j250_0), .unset, .unset, .unset] [(.int (0 : Int32))]) _
              refine Go.by (fun t k => XS.istore Xj250.here hx rfl (hb hby at_251) rfl (l' := #[.val (.int p1), .val (.int p2), .val (.int p3), .val (.int p4), .val (.int p5), .val (.int (1 : Int32)), .val (.int av), .val (.int ((1 : Int32) + av)), .val (.ref b35), .val (.int lb), .val (.int x1), .val (.int x2), .val (.int x3), .val (.int j171_0), .val (.int j250_0), .val (.int (0 : Int32)), .unset, .unset]) rfl k) ?_
              show Go p e below Tj250 (mkF m 253 #[.val (.int p1), .val (.int p2), .val (.int p3), .val (.int p4), .val (.int p5), .val (.int (1 : Int32)), .val (.int av), .val (.int ((1 : Int32) + av)), .val (.ref b35), .val (.int lb), .val (.int x1), .val (.int x2), .val (.int x3), .val (.int j171_0), .val (.int j250_0), .val (.int (0 : Int32)), .unset, .unset] []) _
              refine Go.by (fun t k => XS.iconst Xj250.here hx rfl (hb hby at_253) k) ?_
              show Go p e below Tj250 (mkF m 254 #[.val (.int p1), .val (.int p2), .val (.int p3), .val (.int p4), .val (.int p5), .val (.int (1 : Int32)), .val (.int av), .val (.int ((1 : Int32) + av)), .val (.ref b35), .val (.int lb), .val (.int x1), .val (.int x2), .val (.int x3), .val (.int j171_0), .val (.int j250_0), .val (.int (0 : Int32)), .unset, .unset] [(.int (0 : Int32))]) _
              refine Go.by (fun t k => XS.istore Xj250.here hx rfl (hb hby at_254) rfl (l' := #[.val (.int p1), .val (.int p2), .val (.int p3), .val (.int p4), .val (.int p5), .val (.int (1 : Int32)), .val (.int av), .val (.int ((1 : Int32) + av)), .val (.ref b35), .val (.int lb), .val (.int x1), .val (.int x2), .val (.int x3), .val (.int j171_0), .val (.int j250_0), .val (.int (0 : Int32)), .val (.int (0 : Int32)), .unset]) rfl k) ?_
              show Go p e below Tj250 (mkF m 256 #[.val (.int p1), .val (.int p2), .val (.int p3), .val (.int p4), .val (.int p5), .val (.int (1 : Int32)), .val (.int av), .val (.int ((1 : Int32) + av)), .val (.ref b35), .val (.int lb), .val (.int x1), .val (.int x2), .val (.int x3), .val (.int j171_0), .val (.int j250_0), .val (.int (0 : Int32)), .val (.int (0 : Int32)), .unset] []) _
              refine Go.by (fun t k => XS.iload Xj250.here hx rfl (hb hby at_256) rfl k) ?_
              show Go p e below Tj250 (mkF m 258 #[.val (.int p1), .val (.int p2), .val (.int p3), .val (.int p4), .val (.int p5), .val (.int (1 : Int32)), .val (.int av), .val (.int ((1 : Int32) + av)), .val (.ref b35), .val (.int lb), .val (.int x1), .val (.int x2), .val (.int x3), .val (.int j171_0), .val (.int j250_0), .val (.int (0 : Int32)), .val (.int (0 : Int32)), .unset] [(.int j171_0)]) _
              refine Go.by (fun t k => XS.iconst Xj250.here hx rfl (hb hby at_258) k) ?_
              show Go p e below Tj250 (mkF m 259 #[.val (.int p1), .val (.int p2), .val (.int p3), .val (.int p4), .val (.int p5), .val (.int (1 : Int32)), .val (.int av), .val (.int ((1 : Int32) + av)), .val (.ref b35), .val (.int lb), .val (.int x1), .val (.int x2), .val (.int x3), .val (.int j171_0), .val (.int j250_0), .val (.int (0 : Int32)), .val (.int (0 : Int32)), .unset] [(.int (2 : Int32)), (.int j171_0)]) _
              have J369 : ∀ (j369_0 : Int32) (j369_1 : Int32), (j369_0 = own_cp j171_0 lb x1 x2 x3 ∧ j369_1 = own_mn j171_0) → Go p e below Tj250 (mkF m 369 #[.val (.int p1), .val (.int p2), .val (.int p3), .val (.int p4), .val (.int p5), .val (.int (1 : Int32)), .val (.int av), .val (.int ((1 : Int32) + av)), .val (.ref b35), .val (.int lb), .val (.int x1), .val (.int x2), .val (.int x3), .val (.int j171_0), .val (.int j250_0), .val (.int j369_0), .val (.int j369_1), .unset] []) (Pst0 Z p1 p2 p3 p4 p5 h0 n0 s) := by
                intro j369_0 j369_1 hj369
                refine Go.by (fun t k => XS.iload Xj250.here hx rfl (hb hby at_369) rfl k) ?_
                show Go p e below Tj250 (mkF m 371 #[.val (.int p1), .val (.int p2), .val (.int p3), .val (.int p4), .val (.int p5), .val (.int (1 : Int32)), .val (.int av), .val (.int ((1 : Int32) + av)), .val (.ref b35), .val (.int lb), .val (.int x1), .val (.int x2), .val (.int x3), .val (.int j171_0), .val (.int j250_0), .val (.int j369_0), .val (.int j369_1), .unset] [(.int j250_0)]) _
                have J405 : ∀ (j405_0 : Int32), (j405_0 = own_ok5 j250_0 j369_0 j369_1) → Go p e below Tj250 (mkF m 405 #[.val (.int p1), .val (.int p2), .val (.int p3), .val (.int p4), .val (.int p5), .val (.int (1 : Int32)), .val (.int av), .val (.int ((1 : Int32) + av)), .val (.ref b35), .val (.int lb), .val (.int x1), .val (.int x2), .val (.int x3), .val (.int j171_0), .val (.int j405_0), .val (.int j369_0), .val (.int j369_1), .unset] []) (Pst0 Z p1 p2 p3 p4 p5 h0 n0 s) := by
                  intro j405_0 hj405
                  refine Go.by (fun t k => XS.iload Xj250.here hx rfl (hb hby at_405) rfl k) ?_
                  show Go p e below Tj250 (mkF m 407 #[.val (.int p1), .val (.int p2), .val (.int p3), .val (.int p4), .val (.int p5), .val (.int (1 : Int32)), .val (.int av), .val (.int ((1 : Int32) + av)), .val (.ref b35), .val (.int lb), .val (.int x1), .val (.int x2), .val (.int x3), .val (.int j171_0), .val (.int j405_0), .val (.int j369_0), .val (.int j369_1), .unset] [(.int j405_0)]) _
                  have J419 : ∀ (j419_0 : Int32), (j419_0 = own_ex j405_0 (1 : Int32) j171_0) → Go p e below Tj250 (mkF m 419 #[.val (.int p1), .val (.int p2), .val (.int p3), .val (.int p4), .val (.int p5), .val (.int (1 : Int32)), .val (.int av), .val (.int ((1 : Int32) + av)), .val (.ref b35), .val (.int lb), .val (.int x1), .val (.int x2), .val (.int x3), .val (.int j171_0), .val (.int j405_0), .val (.int j369_0), .val (.int j369_1), .unset] [(.int j419_0)]) (Pst0 Z p1 p2 p3 p4 p5 h0 n0 s) := by
                    intro j419_0 hj419
                    refine Go.by (fun t k => XS.istore Xj250.here hx rfl (hb hby at_419) rfl (l' := #[.val (.int p1), .val (.int p2), .val (.int p3), .val (.int p4), .val (.int p5), .val (.int (1 : Int32)), .val (.int av), .val (.int ((1 : Int32) + av)), .val (.ref b35), .val (.int lb), .val (.int x1), .val (.int x2), .val (.int x3), .val (.int j171_0), .val (.int j405_0), .val (.int j369_0), .val (.int j369_1), .val (.int j419_0)]) rfl k) ?_
                    show Go p e below Tj250 (mkF m 421 #[.val (.int p1), .val (.int p2), .val (.int p3), .val (.int p4), .val (.int p5), .val (.int (1 : Int32)), .val (.int av), .val (.int ((1 : Int32) + av)), .val (.ref b35), .val (.int lb), .val (.int x1), .val (.int x2), .val (.int x3), .val (.int j171_0), .val (.int j405_0), .val (.int j369_0), .val (.int j369_1), .val (.int j419_0)] []) _
                    refine Go.by (fun t k => XS.aload Xj250.here hx rfl (hb hby at_421) rfl rfl k) ?_
                    show Go p e below Tj250 (mkF m 423 #[.val (.int p1), .val (.int p2), .val (.int p3), .val (.int p4), .val (.int p5), .val (.int (1 : Int32)), .val (.int av), .val (.int ((1 : Int32) + av)), .val (.ref b35), .val (.int lb), .val (.int x1), .val (.int x2), .val (.int x3), .val (.int j171_0), .val (.int j405_0), .val (.int j369_0), .val (.int j369_1), .val (.int j419_0)] [(.ref b35)]) _
                    refine Go.by (fun t k => XS.iload Xj250.here hx rfl (hb hby at_423) rfl k) ?_
                    show Go p e below Tj250 (mkF m 425 #[.val (.int p1), .val (.int p2), .val (.int p3), .val (.int p4), .val (.int p5), .val (.int (1 : Int32)), .val (.int av), .val (.int ((1 : Int32) + av)), .val (.ref b35), .val (.int lb), .val (.int x1), .val (.int x2), .val (.int x3), .val (.int j171_0), .val (.int j405_0), .val (.int j369_0), .val (.int j369_1), .val (.int j419_0)] [(.int (1 : Int32)), (.ref b35)]) _
                    refine Go.by (fun t k => XS.iload Xj250.here hx rfl (hb hby at_425) rfl k) ?_
                    show Go p e below Tj250 (mkF m 427 #[.val (.int p1), .val (.int p2), .val (.int p3), .val (.int p4), .val (.int p5), .val (.int (1 : Int32)), .val (.int av), .val (.int ((1 : Int32) + av)), .val (.ref b35), .val (.int lb), .val (.int x1), .val (.int x2), .val (.int x3), .val (.int j171_0), .val (.int j405_0), .val (.int j369_0), .val (.int j369_1), .val (.int j419_0)] [(.int ((1 : Int32) + av)), (.int (1 : Int32)), (.ref b35)]) _
                    obtain ⟨cl42, Ar42, -, S42, M42, H42, -⟩ := id V41
                    have hin42_0 := inb_of S42 (j := (1 : Int32)) ⟨by decide, by decide⟩
                    have hat42_0 := Has.at H42 hin42_0 (v := (.int (nar .byte (((128 : Int32) ||| (p1 &&& (127 : Int32))).toInt8.toInt32)))) rfl
                    have hin42_1 := inb_of S42 (j := ((1 : Int32) + (1 : Int32))) ⟨by decide, by decide⟩
                    have hat42_1 := Has.at H42 hin42_1 (v := (.int (nar .byte (p2.toInt8.toInt32)))) rfl
                    have hin42_2 := inb_of S42 (j := ((1 : Int32) + (2 : Int32))) ⟨by decide, by decide⟩
                    have hat42_2 := Has.at H42 hin42_2 (v := (.int (nar .byte (p3.toInt8.toInt32)))) rfl
                    have hin42_3 := inb_of S42 (j := ((1 : Int32) + (3 : Int32))) ⟨by decide, by decide⟩
                    have hat42_3 := Has.at H42 hin42_3 (v := (.int (nar .byte (p4.toInt8.toInt32)))) rfl
                    obtain ⟨_, _, ⟨T42, L42, k42, n42⟩, -, X42, ⟨Lc42, hQ42, l42, y42, z42⟩, st42⟩ := Jvm.LawKit.callS Xj250 hx (y := (⟨"com/example/tillscan/tillscan/core/Utf8", "characterEnd", "([BII)I"⟩ : MethodName)) hown (mvT hZ (hw _ (List.mem_of_getElem? (i := 1) rfl))) (mvT hZ (hw _ (List.mem_of_getElem? (i := 2) rfl))) (mvT hZ (hw _ (List.mem_of_getElem? (i := 3) rfl))) (mvT hZ (hw _ (List.mem_of_getElem? (i := 4) rfl))) (by decide) (backOf (W := 0) (rm1 l Z a0 hw [] b35 (1 : Int32) ((1 : Int32) + av) cl42 (nar .byte (((128 : Int32) ||| (p1 &&& (127 : Int32))).toInt8.toInt32)) (nar .byte (p2.toInt8.toInt32)) (nar .byte (p3.toInt8.toInt32)) (nar .byte (p4.toInt8.toInt32)) h41 n0 Z41 Ar42 hin42_0 hat42_0 hin42_1 hat42_1 hin42_2 hat42_2 hin42_3 hat42_3) hZ (hw _ (List.mem_of_getElem? (i := 4) rfl)) (hw _ (List.mem_of_getElem? (i := 3) rfl)) (by decide) (by decide)) (g := (mkF m 427 #[.val (.int p1), .val (.int p2), .val (.int p3), .val (.int p4), .val (.int p5), .val (.int (1 : Int32)), .val (.int av), .val (.int ((1 : Int32) + av)), .val (.ref b35), .val (.int lb), .val (.int x1), .val (.int x2), .val (.int x3), .val (.int j171_0), .val (.int j405_0), .val (.int j369_0), .val (.int j369_1), .val (.int j419_0)] [(.int ((1 : Int32) + av)), (.int (1 : Int32)), (.ref b35)])) rfl (by rw [hml]; rfl) (argsL := [(.ref b35), (.int (1 : Int32)), (.int ((1 : Int32) + av))]) (rest := []) (lenOf pd_1 rfl) rfl (by show 2 * 0 + _ ≤ _; exact Nat.le_of_eq rfl) (hb hby at_427) (fun _ _ => ⟨rfl, ej250, (by decide : 1 + 0 ≤ _), (by decide : 5 + 0 ≤ _)⟩)
                    dsimp only [Pt.U, Pt.locs, Pt.cells, Pt.slots] at X42 l42 y42 z42 st42 hQ42
                    subst l42 y42 z42
                    obtain ⟨rfl, N42q, e42q⟩ := hQ42
                    have N42 := Fr.app Nj250 N42q
                    refine Go.by st42 ?_
                    show Go p e below T42 (mkF m 430 #[.val (.int p1), .val (.int p2), .val (.int p3), .val (.int p4), .val (.int p5), .val (.int (1 : Int32)), .val (.int av), .val (.int ((1 : Int32) + av)), .val (.ref b35), .val (.int lb), .val (.int x1), .val (.int x2), .val (.int x3), .val (.int j171_0), .val (.int j405_0), .val (.int j369_0), .val (.int j369_1), .val (.int j419_0)] [(.int (own_ce (1 : Int32) ((1 : Int32) + av) (nar .byte (((128 : Int32) ||| (p1 &&& (127 : Int32))).toInt8.toInt32)) (nar .byte (p2.toInt8.toInt32)) (nar .byte (p3.toInt8.toInt32)) (nar .byte (p4.toInt8.toInt32))))]) _
                    refine Go.by (fun t k => XS.iload X42.here hx rfl (hb hby at_430) rfl k) ?_
                    show Go p e below T42 (mkF m 432 #[.val (.int p1), .val (.int p2), .val (.int p3), .val (.int p4), .val (.int p5), .val (.int (1 : Int32)), .val (.int av), .val (.int ((1 : Int32) + av)), .val (.ref b35), .val (.int lb), .val (.int x1), .val (.int x2), .val (.int x3), .val (.int j171_0), .val (.int j405_0), .val (.int j369_0), .val (.int j369_1), .val (.int j419_0)] [(.int j419_0), (.int (own_ce (1 : Int32) ((1 : Int32) + av) (nar .byte (((128 : Int32) ||| (p1 &&& (127 : Int32))).toInt8.toInt32)) (nar .byte (p2.toInt8.toInt32)) (nar .byte (p3.toInt8.toInt32)) (nar .byte (p4.toInt8.toInt32))))]) _
                    refine Go.by (fun t k => XS.icmpNo X42.here hx rfl (hb hby at_432) rfl (teq (show (own_ce (1 : Int32) ((1 : Int32) + av) (nar .byte (((128 : Int32) ||| (p1 &&& (127 : Int32))).toInt8.toInt32)) (nar .byte (p2.toInt8.toInt32)) (nar .byte (p3.toInt8.toInt32)) (nar .byte (p4.toInt8.toInt32))) = j419_0 from (by obtain ⟨hq1, hq2⟩ := hj369; rw [hj419, hj405, hq1, hq2, hj250, hj228, hj206, hj188, hj171, ← h_x1, ← h_x2, ← h_x3]; exact own_final (1 : Int32) (by decide) p1 p2 p3 p4 p5 av lb h_av h_lb))).2 k) ?_
                    show Go p e below T42 (mkF m 435 #[.val (.int p1), .val (.int p2), .val (.int p3), .val (.int p4), .val (.int p5), .val (.int (1 : Int32)), .val (.int av), .val (.int ((1 : Int32) + av)), .val (.ref b35), .val (.int lb), .val (.int x1), .val (.int x2), .val (.int x3), .val (.int j171_0), .val (.int j405_0), .val (.int j369_0), .val (.int j369_1), .val (.int j419_0)] []) _
                    refine Go.by (fun t k => XS.iconst X42.here hx rfl (hb hby at_435) k) ?_
                    show Go p e below T42 (mkF m 436 #[.val (.int p1), .val (.int p2), .val (.int p3), .val (.int p4), .val (.int p5), .val (.int (1 : Int32)), .val (.int av), .val (.int ((1 : Int32) + av)), .val (.ref b35), .val (.int lb), .val (.int x1), .val (.int x2), .val (.int x3), .val (.int j171_0), .val (.int j405_0), .val (.int j369_0), .val (.int j369_1), .val (.int j419_0)] [(.int (1 : Int32))]) _
                    refine Go.by (fun t k => XS.goto X42.here hx rfl (pc0 := 436) (pc' := 440) rfl (hb hby at_436) (by decide) (by decide) k) ?_
                    show Go p e below T42 (mkF m 440 #[.val (.int p1), .val (.int p2), .val (.int p3), .val (.int p4), .val (.int p5), .val (.int (1 : Int32)), .val (.int av), .val (.int ((1 : Int32) + av)), .val (.ref b35), .val (.int lb), .val (.int x1), .val (.int x2), .val (.int x3), .val (.int j171_0), .val (.int j405_0), .val (.int j369_0), .val (.int j369_1), .val (.int j419_0)] [(.int (1 : Int32))]) _
                    obtain ⟨fs, hr, hrun, hended, hW, hsame⟩ := X42.leave (v := some (.int (1 : Int32))) (fun h => by rw [Bd.returns] at h; cases h)
                    refine Go.done (retN X42 hx (t := .boolean) Bd.returns (by simp) (hb hby at_440) hr) hrun hended ⟨_, _, rfl, ?_, ⟨_, rfl⟩, hW, hsame.mono (by decide) (by decide)⟩
                    show Q0 Z p1 p2 p3 p4 p5 h0 n0 _ T42.heap _
                    rw [e42q]
                    exact ⟨rfl, N42⟩
                  by_cases hc43 : j405_0 = (0 : Int32)
                  · refine Go.by (fun t k => XS.ifYes Xj250.here hx rfl (pc0 := 407) (pc' := 418) rfl (hb hby at_407) rfl ((if0 _ _).trans (teq hc43).1) (by decide) (by decide) k) ?_
                    show Go p e below Tj250 (mkF m 418 #[.val (.int p1), .val (.int p2), .val (.int p3), .val (.int p4), .val (.int p5), .val (.int (1 : Int32)), .val (.int av), .val (.int ((1 : Int32) + av)), .val (.ref b35), .val (.int lb), .val (.int x1), .val (.int x2), .val (.int x3), .val (.int j171_0), .val (.int j405_0), .val (.int j369_0), .val (.int j369_1), .unset] []) _
                    refine Go.by (fun t k => XS.iconst Xj250.here hx rfl (hb hby at_418) k) ?_
                    show Go p e below Tj250 (mkF m 419 #[.val (.int p1), .val (.int p2), .val (.int p3), .val (.int p4), .val (.int p5), .val (.int (1 : Int32)), .val (.int av), .val (.int ((1 : Int32) + av)), .val (.ref b35), .val (.int lb), .val (.int x1), .val (.int x2), .val (.int x3), .val (.int j171_0), .val (.int j405_0), .val (.int j369_0), .val (.int j369_1), .unset] [(.int (-1 : Int32))]) _
                    exact J419 (-1 : Int32) (by rw [own_ex, if_pos hc43])
                  · refine Go.by (fun t k => XS.ifNo Xj250.here hx rfl (hb hby at_407) rfl ((if0 _ _).trans (feq hc43).1) k) ?_
                    show Go p e below Tj250 (mkF m 410 #[.val (.int p1), .val (.int p2), .val (.int p3), .val (.int p4), .val (.int p5), .val (.int (1 : Int32)), .val (.int av), .val (.int ((1 : Int32) + av)), .val (.ref b35), .val (.int lb), .val (.int x1), .val (.int x2), .val (.int x3), .val (.int j171_0), .val (.int j405_0), .val (.int j369_0), .val (.int j369_1), .unset] []) _
                    refine Go.by (fun t k => XS.iload Xj250.here hx rfl (hb hby at_410) rfl k) ?_
                    show Go p e below Tj250 (mkF m 412 #[.val (.int p1), .val (.int p2), .val (.int p3), .val (.int p4), .val (.int p5), .val (.int (1 : Int32)), .val (.int av), .val (.int ((1 : Int32) + av)), .val (.ref b35), .val (.int lb), .val (.int x1), .val (.int x2), .val (.int x3), .val (.int j171_0), .val (.int j405_0), .val (.int j369_0), .val (.int j369_1), .unset] [(.int (1 : Int32))]) _
                    refine Go.by (fun t k => XS.iload Xj250.here hx rfl (hb hby at_412) rfl k) ?_
                    show Go p e below Tj250 (mkF m 414 #[.val (.int p1), .val (.int p2), .val (.int p3), .val (.int p4), .val (.int p5), .val (.int (1 : Int32)), .val (.int av), .val (.int ((1 : Int32) + av)), .val (.ref b35), .val (.int lb), .val (.int x1), .val (.int x2), .val (.int x3), .val (.int j171_0), .val (.int j405_0), .val (.int j369_0), .val (.int j369_1), .unset] [(.int j171_0), (.int (1 : Int32))]) _
                    refine Go.by (fun t k => XS.iadd Xj250.here hx rfl (hb hby at_414) rfl k) ?_
                    show Go p e below Tj250 (mkF m 415 #[.val (.int p1), .val (.int p2), .val (.int p3), .val (.int p4), .val (.int p5), .val (.int (1 : Int32)), .val (.int av), .val (.int ((1 : Int32) + av)), .val (.ref b35), .val (.int lb), .val (.int x1), .val (.int x2), .val (.int x3), .val (.int j171_0), .val (.int j405_0), .val (.int j369_0), .val (.int j369_1), .unset] [(.int ((1 : Int32) + j171_0))]) _
                    refine Go.by (fun t k => XS.goto Xj250.here hx rfl (pc0 := 415) (pc' := 419) rfl (hb hby at_415) (by decide) (by decide) k) ?_
                    show Go p e below Tj250 (mkF m 419 #[.val (.int p1), .val (.int p2), .val (.int p3), .val (.int p4), .val (.int p5), .val (.int (1 : Int32)), .val (.int av), .val (.int ((1 : Int32) + av)), .val (.ref b35), .val (.int lb), .val (.int x1), .val (.int x2), .val (.int x3), .val (.int j171_0), .val (.int j405_0), .val (.int j369_0), .val (.int j369_1), .unset] [(.int ((1 : Int32) + j171_0))]) _
                    exact J419 ((1 : Int32) + j171_0) (by rw [own_ex, if_neg hc43])
                by_cases hc44 : j250_0 = (0 : Int32)
                · refine Go.by (fun t k => XS.ifYes Xj250.here hx rfl (pc0 := 371) (pc' := 405) rfl (hb hby at_371) rfl ((if0 _ _).trans (teq hc44).1) (by decide) (by decide) k) ?_
                  show Go p e below Tj250 (mkF m 405 #[.val (.int p1), .val (.int p2), .val (.int p3), .val (.int p4), .val (.int p5), .val (.int (1 : Int32)), .val (.int av), .val (.int ((1 : Int32) + av)), .val (.ref b35), .val (.int lb), .val (.int x1), .val (.int x2), .val (.int x3), .val (.int j171_0), .val (.int j250_0), .val (.int j369_0), .val (.int j369_1), .unset] []) _
                  exact J405 j250_0 (by rw [own_ok5, if_pos hc44])
                · refine Go.by (fun t k => XS.ifNo Xj250.here hx rfl (hb hby at_371) rfl ((if0 _ _).trans (feq hc44).1) k) ?_
                  show Go p e below Tj250 (mkF m 374 #[.val (.int p1), .val (.int p2), .val (.int p3), .val (.int p4), .val (.int p5), .val (.int (1 : Int32)), .val (.int av), .val (.int ((1 : Int32) + av)), .val (.ref b35), .val (.int lb), .val (.int x1), .val (.int x2), .val (.int x3), .val (.int j171_0), .val (.int j250_0), .val (.int j369_0), .val (.int j369_1), .unset] []) _
                  refine Go.by (fun t k => XS.iload Xj250.here hx rfl (hb hby at_374) rfl k) ?_
                  show Go p e below Tj250 (mkF m 376 #[.val (.int p1), .val (.int p2), .val (.int p3), .val (.int p4), .val (.int p5), .val (.int (1 : Int32)), .val (.int av), .val (.int ((1 : Int32) + av)), .val (.ref b35), .val (.int lb), .val (.int x1), .val (.int x2), .val (.int x3), .val (.int j171_0), .val (.int j250_0), .val (.int j369_0), .val (.int j369_1), .unset] [(.int j369_0)]) _
                  refine Go.by (fun t k => XS.iload Xj250.here hx rfl (hb hby at_376) rfl k) ?_
                  show Go p e below Tj250 (mkF m 378 #[.val (.int p1), .val (.int p2), .val (.int p3), .val (.int p4), .val (.int p5), .val (.int (1 : Int32)), .val (.int av), .val (.int ((1 : Int32) + av)), .val (.ref b35), .val (.int lb), .val (.int x1), .val (.int x2), .val (.int x3), .val (.int j171_0), .val (.int j250_0), .val (.int j369_0), .val (.int j369_1), .unset] [(.int j369_1), (.int j369_0)]) _
                  by_cases hc45 : j369_0 < j369_1
                  · refine Go.by (fun t k => XS.icmpYes Xj250.here hx rfl (pc0 := 378) (pc' := 402) rfl (hb hby at_378) rfl (tlt hc45).1 (by decide) (by decide) k) ?_
                    show Go p e below Tj250 (mkF m 402 #[.val (.int p1), .val (.int p2), .val (.int p3), .val (.int p4), .val (.int p5), .val (.int (1 : Int32)), .val (.int av), .val (.int ((1 : Int32) + av)), .val (.ref b35), .val (.int lb), .val (.int x1), .val (.int x2), .val (.int x3), .val (.int j171_0), .val (.int j250_0), .val (.int j369_0), .val (.int j369_1), .unset] []) _
                    refine Go.by (fun t k => XS.iconst Xj250.here hx rfl (hb hby at_402) k) ?_
                    show Go p e below Tj250 (mkF m 403 #[.val (.int p1), .val (.int p2), .val (.int p3), .val (.int p4), .val (.int p5), .val (.int (1 : Int32)), .val (.int av), .val (.int ((1 : Int32) + av)), .val (.ref b35), .val (.int lb), .val (.int x1), .val (.int x2), .val (.int x3), .val (.int j171_0), .val (.int j250_0), .val (.int j369_0), .val (.int j369_1), .unset] [(.int (0 : Int32))]) _
                    refine Go.by (fun t k => XS.istore Xj250.here hx rfl (hb hby at_403) rfl (l' := #[.val (.int p1), .val (.int p2), .val (.int p3), .val (.int p4), .val (.int p5), .val (.int (1 : Int32)), .val (.int av), .val (.int ((1 : Int32) + av)), .val (.ref b35), .val (.int lb), .val (.int x1), .val (.int x2), .val (.int x3), .val (.int j171_0), .val (.int (0 : Int32)), .val (.int j369_0), .val (.int j369_1), .unset]) rfl k) ?_
                    show Go p e below Tj250 (mkF m 405 #[.val (.int p1), .val (.int p2), .val (.int p3), .val (.int p4), .val (.int p5), .val (.int (1 : Int32)), .val (.int av), .val (.int ((1 : Int32) + av)), .val (.ref b35), .val (.int lb), .val (.int x1), .val (.int x2), .val (.int x3), .val (.int j171_0), .val (.int (0 : Int32)), .val (.int j369_0), .val (.int j369_1), .unset] []) _
                    exact J405 (0 : Int32) (by rw [own_ok5, if_neg hc44, if_pos hc45])
                  · refine Go.by (fun t k => XS.icmpNo Xj250.here hx rfl (hb hby at_378) rfl (flt hc45).1 k) ?_
                    show Go p e below Tj250 (mkF m 381 #[.val (.int p1), .val (.int p2), .val (.int p3), .val (.int p4), .val (.int p5), .val (.int (1 : Int32)), .val (.int av), .val (.int ((1 : Int32) + av)), .val (.ref b35), .val (.int lb), .val (.int x1), .val (.int x2), .val (.int x3), .val (.int j171_0), .val (.int j250_0), .val (.int j369_0), .val (.int j369_1), .unset] []) _
                    refine Go.by (fun t k => XS.iload Xj250.here hx rfl (hb hby at_381) rfl k) ?_
                    show Go p e below Tj250 (mkF m 383 #[.val (.int p1), .val (.int p2), .val (.int p3), .val (.int p4), .val (.int p5), .val (.int (1 : Int32)), .val (.int av), .val (.int ((1 : Int32) + av)), .val (.ref b35), .val (.int lb), .val (.int x1), .val (.int x2), .val (.int x3), .val (.int j171_0), .val (.int j250_0), .val (.int j369_0), .val (.int j369_1), .unset] [(.int j369_0)]) _
                    refine Go.by (fun t k => Xj250.ldcInt hx hown (mvT hZ (hw _ (List.mem_of_getElem? (i := 13) rfl))) (g := (mkF m 383 #[.val (.int p1), .val (.int p2), .val (.int p3), .val (.int p4), .val (.int p5), .val (.int (1 : Int32)), .val (.int av), .val (.int ((1 : Int32) + av)), .val (.ref b35), .val (.int lb), .val (.int x1), .val (.int x2), .val (.int x3), .val (.int j171_0), .val (.int j250_0), .val (.int j369_0), .val (.int j369_1), .unset] [(.int j369_0)])) rfl (hb hby at_383) t k) ?_
                    show Go p e below Tj250 (mkF m 385 #[.val (.int p1), .val (.int p2), .val (.int p3), .val (.int p4), .val (.int p5), .val (.int (1 : Int32)), .val (.int av), .val (.int ((1 : Int32) + av)), .val (.ref b35), .val (.int lb), .val (.int x1), .val (.int x2), .val (.int x3), .val (.int j171_0), .val (.int j250_0), .val (.int j369_0), .val (.int j369_1), .unset] [(.int (1114111 : Int32)), (.int j369_0)]) _
                    by_cases hc46 : (1114111 : Int32) < j369_0
                    · refine Go.by (fun t k => XS.icmpYes Xj250.here hx rfl (pc0 := 385) (pc' := 402) rfl (hb hby at_385) rfl (tlt hc46).2.2.1 (by decide) (by decide) k) ?_
                      show Go p e below Tj250 (mkF m 402 #[.val (.int p1), .val (.int p2), .val (.int p3), .val (.int p4), .val (.int p5), .val (.int (1 : Int32)), .val (.int av), .val (.int ((1 : Int32) + av)), .val (.ref b35), .val (.int lb), .val (.int x1), .val (.int x2), .val (.int x3), .val (.int j171_0), .val (.int j250_0), .val (.int j369_0), .val (.int j369_1), .unset] []) _
                      refine Go.by (fun t k => XS.iconst Xj250.here hx rfl (hb hby at_402) k) ?_
                      show Go p e below Tj250 (mkF m 403 #[.val (.int p1), .val (.int p2), .val (.int p3), .val (.int p4), .val (.int p5), .val (.int (1 : Int32)), .val (.int av), .val (.int ((1 : Int32) + av)), .val (.ref b35), .val (.int lb), .val (.int x1), .val (.int x2), .val (.int x3), .val (.int j171_0), .val (.int j250_0), .val (.int j369_0), .val (.int j369_1), .unset] [(.int (0 : Int32))]) _
                      refine Go.by (fun t k => XS.istore Xj250.here hx rfl (hb hby at_403) rfl (l' := #[.val (.int p1), .val (.int p2), .val (.int p3), .val (.int p4), .val (.int p5), .val (.int (1 : Int32)), .val (.int av), .val (.int ((1 : Int32) + av)), .val (.ref b35), .val (.int lb), .val (.int x1), .val (.int x2), .val (.int x3), .val (.int j171_0), .val (.int (0 : Int32)), .val (.int j369_0), .val (.int j369_1), .unset]) rfl k) ?_
                      show Go p e below Tj250 (mkF m 405 #[.val (.int p1), .val (.int p2), .val (.int p3), .val (.int p4), .val (.int p5), .val (.int (1 : Int32)), .val (.int av), .val (.int ((1 : Int32) + av)), .val (.ref b35), .val (.int lb), .val (.int x1), .val (.int x2), .val (.int x3), .val (.int j171_0), .val (.int (0 : Int32)), .val (.int j369_0), .val (.int j369_1), .unset] []) _
                      exact J405 (0 : Int32) (by rw [own_ok5, if_neg hc44, if_neg hc45, if_pos hc46])
                    · refine Go.by (fun t k => XS.icmpNo Xj250.here hx rfl (hb hby at_385) rfl (flt hc46).2.2.1 k) ?_
                      show Go p e below Tj250 (mkF m 388 #[.val (.int p1), .val (.int p2), .val (.int p3), .val (.int p4), .val (.int p5), .val (.int (1 : Int32)), .val (.int av), .val (.int ((1 : Int32) + av)), .val (.ref b35), .val (.int lb), .val (.int x1), .val (.int x2), .val (.int x3), .val (.int j171_0), .val (.int j250_0), .val (.int j369_0), .val (.int j369_1), .unset] []) _
                      refine Go.by (fun t k => XS.iload Xj250.here hx rfl (hb hby at_388) rfl k) ?_
                      show Go p e below Tj250 (mkF m 390 #[.val (.int p1), .val (.int p2), .val (.int p3), .val (.int p4), .val (.int p5), .val (.int (1 : Int32)), .val (.int av), .val (.int ((1 : Int32) + av)), .val (.ref b35), .val (.int lb), .val (.int x1), .val (.int x2), .val (.int x3), .val (.int j171_0), .val (.int j250_0), .val (.int j369_0), .val (.int j369_1), .unset] [(.int j369_0)]) _
                      refine Go.by (fun t k => Xj250.ldcInt hx hown (mvT hZ (hw _ (List.mem_of_getElem? (i := 14) rfl))) (g := (mkF m 390 #[.val (.int p1), .val (.int p2), .val (.int p3), .val (.int p4), .val (.int p5), .val (.int (1 : Int32)), .val (.int av), .val (.int ((1 : Int32) + av)), .val (.ref b35), .val (.int lb), .val (.int x1), .val (.int x2), .val (.int x3), .val (.int j171_0), .val (.int j250_0), .val (.int j369_0), .val (.int j369_1), .unset] [(.int j369_0)])) rfl (hb hby at_390) t k) ?_
                      show Go p e below Tj250 (mkF m 392 #[.val (.int p1), .val (.int p2), .val (.int p3), .val (.int p4), .val (.int p5), .val (.int (1 : Int32)), .val (.int av), .val (.int ((1 : Int32) + av)), .val (.ref b35), .val (.int lb), .val (.int x1), .val (.int x2), .val (.int x3), .val (.int j171_0), .val (.int j250_0), .val (.int j369_0), .val (.int j369_1), .unset] [(.int (55296 : Int32)), (.int j369_0)]) _
                      by_cases hc47 : j369_0 < (55296 : Int32)
                      · refine Go.by (fun t k => XS.icmpYes Xj250.here hx rfl (pc0 := 392) (pc' := 405) rfl (hb hby at_392) rfl (tlt hc47).1 (by decide) (by decide) k) ?_
                        show Go p e below Tj250 (mkF m 405 #[.val (.int p1), .val (.int p2), .val (.int p3), .val (.int p4), .val (.int p5), .val (.int (1 : Int32)), .val (.int av), .val (.int ((1 : Int32) + av)), .val (.ref b35), .val (.int lb), .val (.int x1), .val (.int x2), .val (.int x3), .val (.int j171_0), .val (.int j250_0), .val (.int j369_0), .val (.int j369_1), .unset] []) _
                        exact J405 j250_0 (by rw [own_ok5, if_neg hc44, if_neg hc45, if_neg hc46, if_pos hc47])
                      · refine Go.by (fun t k => XS.icmpNo Xj250.here hx rfl (hb hby at_392) rfl (flt hc47).1 k) ?_
                        show Go p e below Tj250 (mkF m 395 #[.val (.int p1), .val (.int p2), .val (.int p3), .val (.int p4), .val (.int p5), .val (.int (1 : Int32)), .val (.int av), .val (.int ((1 : Int32) + av)), .val (.ref b35), .val (.int lb), .val (.int x1), .val (.int x2), .val (.int x3), .val (.int j171_0), .val (.int j250_0), .val (.int j369_0), .val (.int j369_1), .unset] []) _
                        refine Go.by (fun t k => XS.iload Xj250.here hx rfl (hb hby at_395) rfl k) ?_
                        show Go p e below Tj250 (mkF m 397 #[.val (.int p1), .val (.int p2), .val (.int p3), .val (.int p4), .val (.int p5), .val (.int (1 : Int32)), .val (.int av), .val (.int ((1 : Int32) + av)), .val (.ref b35), .val (.int lb), .val (.int x1), .val (.int x2), .val (.int x3), .val (.int j171_0), .val (.int j250_0), .val (.int j369_0), .val (.int j369_1), .unset] [(.int j369_0)]) _
                        refine Go.by (fun t k => Xj250.ldcInt hx hown (mvT hZ (hw _ (List.mem_of_getElem? (i := 15) rfl))) (g := (mkF m 397 #[.val (.int p1), .val (.int p2), .val (.int p3), .val (.int p4), .val (.int p5), .val (.int (1 : Int32)), .val (.int av), .val (.int ((1 : Int32) + av)), .val (.ref b35), .val (.int lb), .val (.int x1), .val (.int x2), .val (.int x3), .val (.int j171_0), .val (.int j250_0), .val (.int j369_0), .val (.int j369_1), .unset] [(.int j369_0)])) rfl (hb hby at_397) t k) ?_
                        show Go p e below Tj250 (mkF m 399 #[.val (.int p1), .val (.int p2), .val (.int p3), .val (.int p4), .val (.int p5), .val (.int (1 : Int32)), .val (.int av), .val (.int ((1 : Int32) + av)), .val (.ref b35), .val (.int lb), .val (.int x1), .val (.int x2), .val (.int x3), .val (.int j171_0), .val (.int j250_0), .val (.int j369_0), .val (.int j369_1), .unset] [(.int (57343 : Int32)), (.int j369_0)]) _
                        by_cases hc48 : (57343 : Int32) < j369_0
                        · refine Go.by (fun t k => XS.icmpYes Xj250.here hx rfl (pc0 := 399) (pc' := 405) rfl (hb hby at_399) rfl (tlt hc48).2.2.1 (by decide) (by decide) k) ?_
                          show Go p e below Tj250 (mkF m 405 #[.val (.int p1), .val (.int p2), .val (.int p3), .val (.int p4), .val (.int p5), .val (.int (1 : Int32)), .val (.int av), .val (.int ((1 : Int32) + av)), .val (.ref b35), .val (.int lb), .val (.int x1), .val (.int x2), .val (.int x3), .val (.int j171_0), .val (.int j250_0), .val (.int j369_0), .val (.int j369_1), .unset] []) _
                          exact J405 j250_0 (by rw [own_ok5, if_neg hc44, if_neg hc45, if_neg hc46, if_neg hc47, if_pos hc48])
                        · refine Go.by (fun t k => XS.icmpNo Xj250.here hx rfl (hb hby at_399) rfl (flt hc48).2.2.1 k) ?_
                          show Go p e below Tj250 (mkF m 402 #[.val (.int p1), .val (.int p2), .val (.int p3), .val (.int p4), .val (.int p5), .val (.int (1 : Int32)), .val (.int av), .val (.int ((1 : Int32) + av)), .val (.ref b35), .val (.int lb), .val (.int x1), .val (.int x2), .val (.int x3), .val (.int j171_0), .val (.int j250_0), .val (.int j369_0), .val (.int j369_1), .unset] []) _
                          refine Go.by (fun t k => XS.iconst Xj250.here hx rfl (hb hby at_402) k) ?_
                          show Go p e below Tj250 (mkF m 403 #[.val (.int p1), .val (.int p2), .val (.int p3), .val (.int p4), .val (.int p5), .val (.int (1 : Int32)), .val (.int av), .val (.int ((1 : Int32) + av)), .val (.ref b35), .val (.int lb), .val (.int x1), .val (.int x2), .val (.int x3), .val (.int j171_0), .val (.int j250_0), .val (.int j369_0), .val (.int j369_1), .unset] [(.int (0 : Int32))]) _
                          refine Go.by (fun t k => XS.istore Xj250.here hx rfl (hb hby at_403) rfl (l' := #[.val (.int p1), .val (.int p2), .val (.int p3), .val (.int p4), .val (.int p5), .val (.int (1 : Int32)), .val (.int av), .val (.int ((1 : Int32) + av)), .val (.ref b35), .val (.int lb), .val (.int x1), .val (.int x2), .val (.int x3), .val (.int j171_0), .val (.int (0 : Int32)), .val (.int j369_0), .val (.int j369_1), .unset]) rfl k) ?_
                          show Go p e below Tj250 (mkF m 405 #[.val (.int p1), .val (.int p2), .val (.int p3), .val (.int p4), .val (.int p5), .val (.int (1 : Int32)), .val (.int av), .val (.int ((1 : Int32) + av)), .val (.ref b35), .val (.int lb), .val (.int x1), .val (.int x2), .val (.int x3), .val (.int j171_0), .val (.int (0 : Int32)), .val (.int j369_0), .val (.int j369_1), .unset] []) _
                          exact J405 (0 : Int32) (by rw [own_ok5, if_neg hc44, if_neg hc45, if_neg hc46, if_neg hc47, if_neg hc48])
              by_cases hc49 : j171_0 = (2 : Int32)
              · refine Go.by (fun t k => XS.icmpNo Xj250.here hx rfl (hb hby at_259) rfl (teq hc49).2 k) ?_
                show Go p e below Tj250 (mkF m 262 #[.val (.int p1), .val (.int p2), .val (.int p3), .val (.int p4), .val (.int p5), .val (.int (1 : Int32)), .val (.int av), .val (.int ((1 : Int32) + av)), .val (.ref b35), .val (.int lb), .val (.int x1), .val (.int x2), .val (.int x3), .val (.int j171_0), .val (.int j250_0), .val (.int (0 : Int32)), .val (.int (0 : Int32)), .unset] []) _
                refine Go.by (fun t k => XS.iload Xj250.here hx rfl (hb hby at_262) rfl k) ?_
                show Go p e below Tj250 (mkF m 264 #[.val (.int p1), .val (.int p2), .val (.int p3), .val (.int p4), .val (.int p5), .val (.int (1 : Int32)), .val (.int av), .val (.int ((1 : Int32) + av)), .val (.ref b35), .val (.int lb), .val (.int x1), .val (.int x2), .val (.int x3), .val (.int j171_0), .val (.int j250_0), .val (.int (0 : Int32)), .val (.int (0 : Int32)), .unset] [(.int lb)]) _
                refine Go.by (fun t k => XS.bipush Xj250.here hx rfl (hb hby at_264) k) ?_
                show Go p e below Tj250 (mkF m 266 #[.val (.int p1), .val (.int p2), .val (.int p3), .val (.int p4), .val (.int p5), .val (.int (1 : Int32)), .val (.int av), .val (.int ((1 : Int32) + av)), .val (.ref b35), .val (.int lb), .val (.int x1), .val (.int x2), .val (.int x3), .val (.int j171_0), .val (.int j250_0), .val (.int (0 : Int32)), .val (.int (0 : Int32)), .unset] [(.int (31 : Int32)), (.int lb)]) _
                refine Go.by (fun t k => XS.iand Xj250.here hx rfl (hb hby at_266) rfl k) ?_
                show Go p e below Tj250 (mkF m 267 #[.val (.int p1), .val (.int p2), .val (.int p3), .val (.int p4), .val (.int p5), .val (.int (1 : Int32)), .val (.int av), .val (.int ((1 : Int32) + av)), .val (.ref b35), .val (.int lb), .val (.int x1), .val (.int x2), .val (.int x3), .val (.int j171_0), .val (.int j250_0), .val (.int (0 : Int32)), .val (.int (0 : Int32)), .unset] [(.int (lb &&& (31 : Int32)))]) _
                refine Go.by (fun t k => XS.bipush Xj250.here hx rfl (hb hby at_267) k) ?_
                show Go p e below Tj250 (mkF m 269 #[.val (.int p1), .val (.int p2), .val (.int p3), .val (.int p4), .val (.int p5), .val (.int (1 : Int32)), .val (.int av), .val (.int ((1 : Int32) + av)), .val (.ref b35), .val (.int lb), .val (.int x1), .val (.int x2), .val (.int x3), .val (.int j171_0), .val (.int j250_0), .val (.int (0 : Int32)), .val (.int (0 : Int32)), .unset] [(.int (6 : Int32)), (.int (lb &&& (31 : Int32)))]) _
                refine Go.by (fun t k => XS.ishl Xj250.here hx rfl (hb hby at_269) rfl k) ?_
                show Go p e below Tj250 (mkF m 270 #[.val (.int p1), .val (.int p2), .val (.int p3), .val (.int p4), .val (.int p5), .val (.int (1 : Int32)), .val (.int av), .val (.int ((1 : Int32) + av)), .val (.ref b35), .val (.int lb), .val (.int x1), .val (.int x2), .val (.int x3), .val (.int j171_0), .val (.int j250_0), .val (.int (0 : Int32)), .val (.int (0 : Int32)), .unset] [(.int ((lb &&& (31 : Int32)) <<< ((6 : Int32) &&& 31)))]) _
                refine Go.by (fun t k => XS.iload Xj250.here hx rfl (hb hby at_270) rfl k) ?_
                show Go p e below Tj250 (mkF m 272 #[.val (.int p1), .val (.int p2), .val (.int p3), .val (.int p4), .val (.int p5), .val (.int (1 : Int32)), .val (.int av), .val (.int ((1 : Int32) + av)), .val (.ref b35), .val (.int lb), .val (.int x1), .val (.int x2), .val (.int x3), .val (.int j171_0), .val (.int j250_0), .val (.int (0 : Int32)), .val (.int (0 : Int32)), .unset] [(.int x1), (.int ((lb &&& (31 : Int32)) <<< ((6 : Int32) &&& 31)))]) _
                refine Go.by (fun t k => XS.bipush Xj250.here hx rfl (hb hby at_272) k) ?_
                show Go p e below Tj250 (mkF m 274 #[.val (.int p1), .val (.int p2), .val (.int p3), .val (.int p4), .val (.int p5), .val (.int (1 : Int32)), .val (.int av), .val (.int ((1 : Int32) + av)), .val (.ref b35), .val (.int lb), .val (.int x1), .val (.int x2), .val (.int x3), .val (.int j171_0), .val (.int j250_0), .val (.int (0 : Int32)), .val (.int (0 : Int32)), .unset] [(.int (63 : Int32)), (.int x1), (.int ((lb &&& (31 : Int32)) <<< ((6 : Int32) &&& 31)))]) _
                refine Go.by (fun t k => XS.iand Xj250.here hx rfl (hb hby at_274) rfl k) ?_
                show Go p e below Tj250 (mkF m 275 #[.val (.int p1), .val (.int p2), .val (.int p3), .val (.int p4), .val (.int p5), .val (.int (1 : Int32)), .val (.int av), .val (.int ((1 : Int32) + av)), .val (.ref b35), .val (.int lb), .val (.int x1), .val (.int x2), .val (.int x3), .val (.int j171_0), .val (.int j250_0), .val (.int (0 : Int32)), .val (.int (0 : Int32)), .unset] [(.int (x1 &&& (63 : Int32))), (.int ((lb &&& (31 : Int32)) <<< ((6 : Int32) &&& 31)))]) _
                refine Go.by (fun t k => XS.ior Xj250.here hx rfl (hb hby at_275) rfl k) ?_
                show Go p e below Tj250 (mkF m 276 #[.val (.int p1), .val (.int p2), .val (.int p3), .val (.int p4), .val (.int p5), .val (.int (1 : Int32)), .val (.int av), .val (.int ((1 : Int32) + av)), .val (.ref b35), .val (.int lb), .val (.int x1), .val (.int x2), .val (.int x3), .val (.int j171_0), .val (.int j250_0), .val (.int (0 : Int32)), .val (.int (0 : Int32)), .unset] [(.int (((lb &&& (31 : Int32)) <<< ((6 : Int32) &&& 31)) ||| (x1 &&& (63 : Int32))))]) _
                refine Go.by (fun t k => XS.istore Xj250.here hx rfl (hb hby at_276) rfl (l' := #[.val (.int p1), .val (.int p2), .val (.int p3), .val (.int p4), .val (.int p5), .val (.int (1 : Int32)), .val (.int av), .val (.int ((1 : Int32) + av)), .val (.ref b35), .val (.int lb), .val (.int x1), .val (.int x2), .val (.int x3), .val (.int j171_0), .val (.int j250_0), .val (.int (((lb &&& (31 : Int32)) <<< ((6 : Int32) &&& 31)) ||| (x1 &&& (63 : Int32)))), .val (.int (0 : Int32)), .unset]) rfl k) ?_
                show Go p e below Tj250 (mkF m 278 #[.val (.int p1), .val (.int p2), .val (.int p3), .val (.int p4), .val (.int p5), .val (.int (1 : Int32)), .val (.int av), .val (.int ((1 : Int32) + av)), .val (.ref b35), .val (.int lb), .val (.int x1), .val (.int x2), .val (.int x3), .val (.int j171_0), .val (.int j250_0), .val (.int (((lb &&& (31 : Int32)) <<< ((6 : Int32) &&& 31)) ||| (x1 &&& (63 : Int32)))), .val (.int (0 : Int32)), .unset] []) _
                refine Go.by (fun t k => XS.sipush Xj250.here hx rfl (hb hby at_278) k) ?_
                show Go p e below Tj250 (mkF m 281 #[.val (.int p1), .val (.int p2), .val (.int p3), .val (.int p4), .val (.int p5), .val (.int (1 : Int32)), .val (.int av), .val (.int ((1 : Int32) + av)), .val (.ref b35), .val (.int lb), .val (.int x1), .val (.int x2), .val (.int x3), .val (.int j171_0), .val (.int j250_0), .val (.int (((lb &&& (31 : Int32)) <<< ((6 : Int32) &&& 31)) ||| (x1 &&& (63 : Int32)))), .val (.int (0 : Int32)), .unset] [(.int (128 : Int32))]) _
                refine Go.by (fun t k => XS.istore Xj250.here hx rfl (hb hby at_281) rfl (l' := #[.val (.int p1), .val (.int p2), .val (.int p3), .val (.int p4), .val (.int p5), .val (.int (1 : Int32)), .val (.int av), .val (.int ((1 : Int32) + av)), .val (.ref b35), .val (.int lb), .val (.int x1), .val (.int x2), .val (.int x3), .val (.int j171_0), .val (.int j250_0), .val (.int (((lb &&& (31 : Int32)) <<< ((6 : Int32) &&& 31)) ||| (x1 &&& (63 : Int32)))), .val (.int (128 : Int32)), .unset]) rfl k) ?_
                show Go p e below Tj250 (mkF m 283 #[.val (.int p1), .val (.int p2), .val (.int p3), .val (.int p4), .val (.int p5), .val (.int (1 : Int32)), .val (.int av), .val (.int ((1 : Int32) + av)), .val (.ref b35), .val (.int lb), .val (.int x1), .val (.int x2), .val (.int x3), .val (.int j171_0), .val (.int j250_0), .val (.int (((lb &&& (31 : Int32)) <<< ((6 : Int32) &&& 31)) ||| (x1 &&& (63 : Int32)))), .val (.int (128 : Int32)), .unset] []) _
                refine Go.by (fun t k => XS.goto Xj250.here hx rfl (pc0 := 283) (pc' := 369) rfl (hb hby at_283) (by decide) (by decide) k) ?_
                show Go p e below Tj250 (mkF m 369 #[.val (.int p1), .val (.int p2), .val (.int p3), .val (.int p4), .val (.int p5), .val (.int (1 : Int32)), .val (.int av), .val (.int ((1 : Int32) + av)), .val (.ref b35), .val (.int lb), .val (.int x1), .val (.int x2), .val (.int x3), .val (.int j171_0), .val (.int j250_0), .val (.int (((lb &&& (31 : Int32)) <<< ((6 : Int32) &&& 31)) ||| (x1 &&& (63 : Int32)))), .val (.int (128 : Int32)), .unset] []) _
                exact J369 (((lb &&& (31 : Int32)) <<< ((6 : Int32) &&& 31)) ||| (x1 &&& (63 : Int32))) (128 : Int32) ⟨by rw [own_cp, if_pos hc49], by rw [own_mn, if_pos hc49]⟩
              · refine Go.by (fun t k => XS.icmpYes Xj250.here hx rfl (pc0 := 259) (pc' := 286) rfl (hb hby at_259) rfl (feq hc49).2 (by decide) (by decide) k) ?_
                show Go p e below Tj250 (mkF m 286 #[.val (.int p1), .val (.int p2), .val (.int p3), .val (.int p4), .val (.int p5), .val (.int (1 : Int32)), .val (.int av), .val (.int ((1 : Int32) + av)), .val (.ref b35), .val (.int lb), .val (.int x1), .val (.int x2), .val (.int x3), .val (.int j171_0), .val (.int j250_0), .val (.int (0 : Int32)), .val (.int (0 : Int32)), .unset] []) _
                refine Go.by (fun t k => XS.iload Xj250.here hx rfl (hb hby at_286) rfl k) ?_
                show Go p e below Tj250 (mkF m 288 #[.val (.int p1), .val (.int p2), .val (.int p3), .val (.int p4), .val (.int p5), .val (.int (1 : Int32)), .val (.int av), .val (.int ((1 : Int32) + av)), .val (.ref b35), .val (.int lb), .val (.int x1), .val (.int x2), .val (.int x3), .val (.int j171_0), .val (.int j250_0), .val (.int (0 : Int32)), .val (.int (0 : Int32)), .unset] [(.int j171_0)]) _
                refine Go.by (fun t k => XS.iconst Xj250.here hx rfl (hb hby at_288) k) ?_
                show Go p e below Tj250 (mkF m 289 #[.val (.int p1), .val (.int p2), .val (.int p3), .val (.int p4), .val (.int p5), .val (.int (1 : Int32)), .val (.int av), .val (.int ((1 : Int32) + av)), .val (.ref b35), .val (.int lb), .val (.int x1), .val (.int x2), .val (.int x3), .val (.int j171_0), .val (.int j250_0), .val (.int (0 : Int32)), .val (.int (0 : Int32)), .unset] [(.int (3 : Int32)), (.int j171_0)]) _
                by_cases hc50 : j171_0 = (3 : Int32)
                · refine Go.by (fun t k => XS.icmpNo Xj250.here hx rfl (hb hby at_289) rfl (teq hc50).2 k) ?_
                  show Go p e below Tj250 (mkF m 292 #[.val (.int p1), .val (.int p2), .val (.int p3), .val (.int p4), .val (.int p5), .val (.int (1 : Int32)), .val (.int av), .val (.int ((1 : Int32) + av)), .val (.ref b35), .val (.int lb), .val (.int x1), .val (.int x2), .val (.int x3), .val (.int j171_0), .val (.int j250_0), .val (.int (0 : Int32)), .val (.int (0 : Int32)), .unset] []) _
                  refine Go.by (fun t k => XS.iload Xj250.here hx rfl (hb hby at_292) rfl k) ?_
                  show Go p e below Tj250 (mkF m 294 #[.val (.int p1), .val (.int p2), .val (.int p3), .val (.int p4), .val (.int p5), .val (.int (1 : Int32)), .val (.int av), .val (.int ((1 : Int32) + av)), .val (.ref b35), .val (.int lb), .val (.int x1), .val (.int x2), .val (.int x3), .val (.int j171_0), .val (.int j250_0), .val (.int (0 : Int32)), .val (.int (0 : Int32)), .unset] [(.int lb)]) _
                  refine Go.by (fun t k => XS.bipush Xj250.here hx rfl (hb hby at_294) k) ?_
                  show Go p e below Tj250 (mkF m 296 #[.val (.int p1), .val (.int p2), .val (.int p3), .val (.int p4), .val (.int p5), .val (.int (1 : Int32)), .val (.int av), .val (.int ((1 : Int32) + av)), .val (.ref b35), .val (.int lb), .val (.int x1), .val (.int x2), .val (.int x3), .val (.int j171_0), .val (.int j250_0), .val (.int (0 : Int32)), .val (.int (0 : Int32)), .unset] [(.int (15 : Int32)), (.int lb)]) _
                  refine Go.by (fun t k => XS.iand Xj250.here hx rfl (hb hby at_296) rfl k) ?_
                  show Go p e below Tj250 (mkF m 297 #[.val (.int p1), .val (.int p2), .val (.int p3), .val (.int p4), .val (.int p5), .val (.int (1 : Int32)), .val (.int av), .val (.int ((1 : Int32) + av)), .val (.ref b35), .val (.int lb), .val (.int x1), .val (.int x2), .val (.int x3), .val (.int j171_0), .val (.int j250_0), .val (.int (0 : Int32)), .val (.int (0 : Int32)), .unset] [(.int (lb &&& (15 : Int32)))]) _
                  refine Go.by (fun t k => XS.bipush Xj250.here hx rfl (hb hby at_297) k) ?_
                  show Go p e below Tj250 (mkF m 299 #[.val (.int p1), .val (.int p2), .val (.int p3), .val (.int p4), .val (.int p5), .val (.int (1 : Int32)), .val (.int av), .val (.int ((1 : Int32) + av)), .val (.ref b35), .val (.int lb), .val (.int x1), .val (.int x2), .val (.int x3), .val (.int j171_0), .val (.int j250_0), .val (.int (0 : Int32)), .val (.int (0 : Int32)), .unset] [(.int (12 : Int32)), (.int (lb &&& (15 : Int32)))]) _
                  refine Go.by (fun t k => XS.ishl Xj250.here hx rfl (hb hby at_299) rfl k) ?_
                  show Go p e below Tj250 (mkF m 300 #[.val (.int p1), .val (.int p2), .val (.int p3), .val (.int p4), .val (.int p5), .val (.int (1 : Int32)), .val (.int av), .val (.int ((1 : Int32) + av)), .val (.ref b35), .val (.int lb), .val (.int x1), .val (.int x2), .val (.int x3), .val (.int j171_0), .val (.int j250_0), .val (.int (0 : Int32)), .val (.int (0 : Int32)), .unset] [(.int ((lb &&& (15 : Int32)) <<< ((12 : Int32) &&& 31)))]) _
                  refine Go.by (fun t k => XS.iload Xj250.here hx rfl (hb hby at_300) rfl k) ?_
                  show Go p e below Tj250 (mkF m 302 #[.val (.int p1), .val (.int p2), .val (.int p3), .val (.int p4), .val (.int p5), .val (.int (1 : Int32)), .val (.int av), .val (.int ((1 : Int32) + av)), .val (.ref b35), .val (.int lb), .val (.int x1), .val (.int x2), .val (.int x3), .val (.int j171_0), .val (.int j250_0), .val (.int (0 : Int32)), .val (.int (0 : Int32)), .unset] [(.int x1), (.int ((lb &&& (15 : Int32)) <<< ((12 : Int32) &&& 31)))]) _
                  refine Go.by (fun t k => XS.bipush Xj250.here hx rfl (hb hby at_302) k) ?_
                  show Go p e below Tj250 (mkF m 304 #[.val (.int p1), .val (.int p2), .val (.int p3), .val (.int p4), .val (.int p5), .val (.int (1 : Int32)), .val (.int av), .val (.int ((1 : Int32) + av)), .val (.ref b35), .val (.int lb), .val (.int x1), .val (.int x2), .val (.int x3), .val (.int j171_0), .val (.int j250_0), .val (.int (0 : Int32)), .val (.int (0 : Int32)), .unset] [(.int (63 : Int32)), (.int x1), (.int ((lb &&& (15 : Int32)) <<< ((12 : Int32) &&& 31)))]) _
                  refine Go.by (fun t k => XS.iand Xj250.here hx rfl (hb hby at_304) rfl k) ?_
                  show Go p e below Tj250 (mkF m 305 #[.val (.int p1), .val (.int p2), .val (.int p3), .val (.int p4), .val (.int p5), .val (.int (1 : Int32)), .val (.int av), .val (.int ((1 : Int32) + av)), .val (.ref b35), .val (.int lb), .val (.int x1), .val (.int x2), .val (.int x3), .val (.int j171_0), .val (.int j250_0), .val (.int (0 : Int32)), .val (.int (0 : Int32)), .unset] [(.int (x1 &&& (63 : Int32))), (.int ((lb &&& (15 : Int32)) <<< ((12 : Int32) &&& 31)))]) _
                  refine Go.by (fun t k => XS.bipush Xj250.here hx rfl (hb hby at_305) k) ?_
                  show Go p e below Tj250 (mkF m 307 #[.val (.int p1), .val (.int p2), .val (.int p3), .val (.int p4), .val (.int p5), .val (.int (1 : Int32)), .val (.int av), .val (.int ((1 : Int32) + av)), .val (.ref b35), .val (.int lb), .val (.int x1), .val (.int x2), .val (.int x3), .val (.int j171_0), .val (.int j250_0), .val (.int (0 : Int32)), .val (.int (0 : Int32)), .unset] [(.int (6 : Int32)), (.int (x1 &&& (63 : Int32))), (.int ((lb &&& (15 : Int32)) <<< ((12 : Int32) &&& 31)))]) _
                  refine Go.by (fun t k => XS.ishl Xj250.here hx rfl (hb hby at_307) rfl k) ?_
                  show Go p e below Tj250 (mkF m 308 #[.val (.int p1), .val (.int p2), .val (.int p3), .val (.int p4), .val (.int p5), .val (.int (1 : Int32)), .val (.int av), .val (.int ((1 : Int32) + av)), .val (.ref b35), .val (.int lb), .val (.int x1), .val (.int x2), .val (.int x3), .val (.int j171_0), .val (.int j250_0), .val (.int (0 : Int32)), .val (.int (0 : Int32)), .unset] [(.int ((x1 &&& (63 : Int32)) <<< ((6 : Int32) &&& 31))), (.int ((lb &&& (15 : Int32)) <<< ((12 : Int32) &&& 31)))]) _
                  refine Go.by (fun t k => XS.ior Xj250.here hx rfl (hb hby at_308) rfl k) ?_
                  show Go p e below Tj250 (mkF m 309 #[.val (.int p1), .val (.int p2), .val (.int p3), .val (.int p4), .val (.int p5), .val (.int (1 : Int32)), .val (.int av), .val (.int ((1 : Int32) + av)), .val (.ref b35), .val (.int lb), .val (.int x1), .val (.int x2), .val (.int x3), .val (.int j171_0), .val (.int j250_0), .val (.int (0 : Int32)), .val (.int (0 : Int32)), .unset] [(.int (((lb &&& (15 : Int32)) <<< ((12 : Int32) &&& 31)) ||| ((x1 &&& (63 : Int32)) <<< ((6 : Int32) &&& 31))))]) _
                  refine Go.by (fun t k => XS.iload Xj250.here hx rfl (hb hby at_309) rfl k) ?_
                  show Go p e below Tj250 (mkF m 311 #[.val (.int p1), .val (.int p2), .val (.int p3), .val (.int p4), .val (.int p5), .val (.int (1 : Int32)), .val (.int av), .val (.int ((1 : Int32) + av)), .val (.ref b35), .val (.int lb), .val (.int x1), .val (.int x2), .val (.int x3), .val (.int j171_0), .val (.int j250_0), .val (.int (0 : Int32)), .val (.int (0 : Int32)), .unset] [(.int x2), (.int (((lb &&& (15 : Int32)) <<< ((12 : Int32) &&& 31)) ||| ((x1 &&& (63 : Int32)) <<< ((6 : Int32) &&& 31))))]) _
                  refine Go.by (fun t k => XS.bipush Xj250.here hx rfl (hb hby at_311) k) ?_
                  show Go p e below Tj250 (mkF m 313 #[.val (.int p1), .val (.int p2), .val (.int p3), .val (.int p4), .val (.int p5), .val (.int (1 : Int32)), .val (.int av), .val (.int ((1 : Int32) + av)), .val (.ref b35), .val (.int lb), .val (.int x1), .val (.int x2), .val (.int x3), .val (.int j171_0), .val (.int j250_0), .val (.int (0 : Int32)), .val (.int (0 : Int32)), .unset] [(.int (63 : Int32)), (.int x2), (.int (((lb &&& (15 : Int32)) <<< ((12 : Int32) &&& 31)) ||| ((x1 &&& (63 : Int32)) <<< ((6 : Int32) &&& 31))))]) _
                  refine Go.by (fun t k => XS.iand Xj250.here hx rfl (hb hby at_313) rfl k) ?_
                  show Go p e below Tj250 (mkF m 314 #[.val (.int p1), .val (.int p2), .val (.int p3), .val (.int p4), .val (.int p5), .val (.int (1 : Int32)), .val (.int av), .val (.int ((1 : Int32) + av)), .val (.ref b35), .val (.int lb), .val (.int x1), .val (.int x2), .val (.int x3), .val (.int j171_0), .val (.int j250_0), .val (.int (0 : Int32)), .val (.int (0 : Int32)), .unset] [(.int (x2 &&& (63 : Int32))), (.int (((lb &&& (15 : Int32)) <<< ((12 : Int32) &&& 31)) ||| ((x1 &&& (63 : Int32)) <<< ((6 : Int32) &&& 31))))]) _
                  refine Go.by (fun t k => XS.ior Xj250.here hx rfl (hb hby at_314) rfl k) ?_
                  show Go p e below Tj250 (mkF m 315 #[.val (.int p1), .val (.int p2), .val (.int p3), .val (.int p4), .val (.int p5), .val (.int (1 : Int32)), .val (.int av), .val (.int ((1 : Int32) + av)), .val (.ref b35), .val (.int lb), .val (.int x1), .val (.int x2), .val (.int x3), .val (.int j171_0), .val (.int j250_0), .val (.int (0 : Int32)), .val (.int (0 : Int32)), .unset] [(.int ((((lb &&& (15 : Int32)) <<< ((12 : Int32) &&& 31)) ||| ((x1 &&& (63 : Int32)) <<< ((6 : Int32) &&& 31))) ||| (x2 &&& (63 : Int32))))]) _
                  refine Go.by (fun t k => XS.istore Xj250.here hx rfl (hb hby at_315) rfl (l' := #[.val (.int p1), .val (.int p2), .val (.int p3), .val (.int p4), .val (.int p5), .val (.int (1 : Int32)), .val (.int av), .val (.int ((1 : Int32) + av)), .val (.ref b35), .val (.int lb), .val (.int x1), .val (.int x2), .val (.int x3), .val (.int j171_0), .val (.int j250_0), .val (.int ((((lb &&& (15 : Int32)) <<< ((12 : Int32) &&& 31)) ||| ((x1 &&& (63 : Int32)) <<< ((6 : Int32) &&& 31))) ||| (x2 &&& (63 : Int32)))), .val (.int (0 : Int32)), .unset]) rfl k) ?_
                  show Go p e below Tj250 (mkF m 317 #[.val (.int p1), .val (.int p2), .val (.int p3), .val (.int p4), .val (.int p5), .val (.int (1 : Int32)), .val (.int av), .val (.int ((1 : Int32) + av)), .val (.ref b35), .val (.int lb), .val (.int x1), .val (.int x2), .val (.int x3), .val (.int j171_0), .val (.int j250_0), .val (.int ((((lb &&& (15 : Int32)) <<< ((12 : Int32) &&& 31)) ||| ((x1 &&& (63 : Int32)) <<< ((6 : Int32) &&& 31))) ||| (x2 &&& (63 : Int32)))), .val (.int (0 : Int32)), .unset] []) _
                  refine Go.by (fun t k => XS.sipush Xj250.here hx rfl (hb hby at_317) k) ?_
                  show Go p e below Tj250 (mkF m 320 #[.val (.int p1), .val (.int p2), .val (.int p3), .val (.int p4), .val (.int p5), .val (.int (1 : Int32)), .val (.int av), .val (.int ((1 : Int32) + av)), .val (.ref b35), .val (.int lb), .val (.int x1), .val (.int x2), .val (.int x3), .val (.int j171_0), .val (.int j250_0), .val (.int ((((lb &&& (15 : Int32)) <<< ((12 : Int32) &&& 31)) ||| ((x1 &&& (63 : Int32)) <<< ((6 : Int32) &&& 31))) ||| (x2 &&& (63 : Int32)))), .val (.int (0 : Int32)), .unset] [(.int (2048 : Int32))]) _
                  refine Go.by (fun t k => XS.istore Xj250.here hx rfl (hb hby at_320) rfl (l' := #[.val (.int p1), .val (.int p2), .val (.int p3), .val (.int p4), .val (.int p5), .val (.int (1 : Int32)), .val (.int av), .val (.int ((1 : Int32) + av)), .val (.ref b35), .val (.int lb), .val (.int x1), .val (.int x2), .val (.int x3), .val (.int j171_0), .val (.int j250_0), .val (.int ((((lb &&& (15 : Int32)) <<< ((12 : Int32) &&& 31)) ||| ((x1 &&& (63 : Int32)) <<< ((6 : Int32) &&& 31))) ||| (x2 &&& (63 : Int32)))), .val (.int (2048 : Int32)), .unset]) rfl k) ?_
                  show Go p e below Tj250 (mkF m 322 #[.val (.int p1), .val (.int p2), .val (.int p3), .val (.int p4), .val (.int p5), .val (.int (1 : Int32)), .val (.int av), .val (.int ((1 : Int32) + av)), .val (.ref b35), .val (.int lb), .val (.int x1), .val (.int x2), .val (.int x3), .val (.int j171_0), .val (.int j250_0), .val (.int ((((lb &&& (15 : Int32)) <<< ((12 : Int32) &&& 31)) ||| ((x1 &&& (63 : Int32)) <<< ((6 : Int32) &&& 31))) ||| (x2 &&& (63 : Int32)))), .val (.int (2048 : Int32)), .unset] []) _
                  refine Go.by (fun t k => XS.goto Xj250.here hx rfl (pc0 := 322) (pc' := 369) rfl (hb hby at_322) (by decide) (by decide) k) ?_
                  show Go p e below Tj250 (mkF m 369 #[.val (.int p1), .val (.int p2), .val (.int p3), .val (.int p4), .val (.int p5), .val (.int (1 : Int32)), .val (.int av), .val (.int ((1 : Int32) + av)), .val (.ref b35), .val (.int lb), .val (.int x1), .val (.int x2), .val (.int x3), .val (.int j171_0), .val (.int j250_0), .val (.int ((((lb &&& (15 : Int32)) <<< ((12 : Int32) &&& 31)) ||| ((x1 &&& (63 : Int32)) <<< ((6 : Int32) &&& 31))) ||| (x2 &&& (63 : Int32)))), .val (.int (2048 : Int32)), .unset] []) _
                  exact J369 ((((lb &&& (15 : Int32)) <<< ((12 : Int32) &&& 31)) ||| ((x1 &&& (63 : Int32)) <<< ((6 : Int32) &&& 31))) ||| (x2 &&& (63 : Int32))) (2048 : Int32) ⟨by rw [own_cp, if_neg hc49, if_pos hc50], by rw [own_mn, if_neg hc49, if_pos hc50]⟩
                · refine Go.by (fun t k => XS.icmpYes Xj250.here hx rfl (pc0 := 289) (pc' := 325) rfl (hb hby at_289) rfl (feq hc50).2 (by decide) (by decide) k) ?_
                  show Go p e below Tj250 (mkF m 325 #[.val (.int p1), .val (.int p2), .val (.int p3), .val (.int p4), .val (.int p5), .val (.int (1 : Int32)), .val (.int av), .val (.int ((1 : Int32) + av)), .val (.ref b35), .val (.int lb), .val (.int x1), .val (.int x2), .val (.int x3), .val (.int j171_0), .val (.int j250_0), .val (.int (0 : Int32)), .val (.int (0 : Int32)), .unset] []) _
                  refine Go.by (fun t k => XS.iload Xj250.here hx rfl (hb hby at_325) rfl k) ?_
                  show Go p e below Tj250 (mkF m 327 #[.val (.int p1), .val (.int p2), .val (.int p3), .val (.int p4), .val (.int p5), .val (.int (1 : Int32)), .val (.int av), .val (.int ((1 : Int32) + av)), .val (.ref b35), .val (.int lb), .val (.int x1), .val (.int x2), .val (.int x3), .val (.int j171_0), .val (.int j250_0), .val (.int (0 : Int32)), .val (.int (0 : Int32)), .unset] [(.int j171_0)]) _
                  refine Go.by (fun t k => XS.iconst Xj250.here hx rfl (hb hby at_327) k) ?_
                  show Go p e below Tj250 (mkF m 328 #[.val (.int p1), .val (.int p2), .val (.int p3), .val (.int p4), .val (.int p5), .val (.int (1 : Int32)), .val (.int av), .val (.int ((1 : Int32) + av)), .val (.ref b35), .val (.int lb), .val (.int x1), .val (.int x2), .val (.int x3), .val (.int j171_0), .val (.int j250_0), .val (.int (0 : Int32)), .val (.int (0 : Int32)), .unset] [(.int (4 : Int32)), (.int j171_0)]) _
                  by_cases hc51 : j171_0 = (4 : Int32)
                  · refine Go.by (fun t k => XS.icmpNo Xj250.here hx rfl (hb hby at_328) rfl (teq hc51).2 k) ?_
                    show Go p e below Tj250 (mkF m 331 #[.val (.int p1), .val (.int p2), .val (.int p3), .val (.int p4), .val (.int p5), .val (.int (1 : Int32)), .val (.int av), .val (.int ((1 : Int32) + av)), .val (.ref b35), .val (.int lb), .val (.int x1), .val (.int x2), .val (.int x3), .val (.int j171_0), .val (.int j250_0), .val (.int (0 : Int32)), .val (.int (0 : Int32)), .unset] []) _
                    refine Go.by (fun t k => XS.iload Xj250.here hx rfl (hb hby at_331) rfl k) ?_
                    show Go p e below Tj250 (mkF m 333 #[.val (.int p1), .val (.int p2), .val (.int p3), .val (.int p4), .val (.int p5), .val (.int (1 : Int32)), .val (.int av), .val (.int ((1 : Int32) + av)), .val (.ref b35), .val (.int lb), .val (.int x1), .val (.int x2), .val (.int x3), .val (.int j171_0), .val (.int j250_0), .val (.int (0 : Int32)), .val (.int (0 : Int32)), .unset] [(.int lb)]) _
                    refine Go.by (fun t k => XS.bipush Xj250.here hx rfl (hb hby at_333) k) ?_
                    show Go p e below Tj250 (mkF m 335 #[.val (.int p1), .val (.int p2), .val (.int p3), .val (.int p4), .val (.int p5), .val (.int (1 : Int32)), .val (.int av), .val (.int ((1 : Int32) + av)), .val (.ref b35), .val (.int lb), .val (.int x1), .val (.int x2), .val (.int x3), .val (.int j171_0), .val (.int j250_0), .val (.int (0 : Int32)), .val (.int (0 : Int32)), .unset] [(.int (7 : Int32)), (.int lb)]) _
                    refine Go.by (fun t k => XS.iand Xj250.here hx rfl (hb hby at_335) rfl k) ?_
                    show Go p e below Tj250 (mkF m 336 #[.val (.int p1), .val (.int p2), .val (.int p3), .val (.int p4), .val (.int p5), .val (.int (1 : Int32)), .val (.int av), .val (.int ((1 : Int32) + av)), .val (.ref b35), .val (.int lb), .val (.int x1), .val (.int x2), .val (.int x3), .val (.int j171_0), .val (.int j250_0), .val (.int (0 : Int32)), .val (.int (0 : Int32)), .unset] [(.int (lb &&& (7 : Int32)))]) _
                    refine Go.by (fun t k => XS.bipush Xj250.here hx rfl (hb hby at_336) k) ?_
                    show Go p e below Tj250 (mkF m 338 #[.val (.int p1), .val (.int p2), .val (.int p3), .val (.int p4), .val (.int p5), .val (.int (1 : Int32)), .val (.int av), .val (.int ((1 : Int32) + av)), .val (.ref b35), .val (.int lb), .val (.int x1), .val (.int x2), .val (.int x3), .val (.int j171_0), .val (.int j250_0), .val (.int (0 : Int32)), .val (.int (0 : Int32)), .unset] [(.int (18 : Int32)), (.int (lb &&& (7 : Int32)))]) _
                    refine Go.by (fun t k => XS.ishl Xj250.here hx rfl (hb hby at_338) rfl k) ?_
                    show Go p e below Tj250 (mkF m 339 #[.val (.int p1), .val (.int p2), .val (.int p3), .val (.int p4), .val (.int p5), .val (.int (1 : Int32)), .val (.int av), .val (.int ((1 : Int32) + av)), .val (.ref b35), .val (.int lb), .val (.int x1), .val (.int x2), .val (.int x3), .val (.int j171_0), .val (.int j250_0), .val (.int (0 : Int32)), .val (.int (0 : Int32)), .unset] [(.int ((lb &&& (7 : Int32)) <<< ((18 : Int32) &&& 31)))]) _
                    refine Go.by (fun t k => XS.iload Xj250.here hx rfl (hb hby at_339) rfl k) ?_
                    show Go p e below Tj250 (mkF m 341 #[.val (.int p1), .val (.int p2), .val (.int p3), .val (.int p4), .val (.int p5), .val (.int (1 : Int32)), .val (.int av), .val (.int ((1 : Int32) + av)), .val (.ref b35), .val (.int lb), .val (.int x1), .val (.int x2), .val (.int x3), .val (.int j171_0), .val (.int j250_0), .val (.int (0 : Int32)), .val (.int (0 : Int32)), .unset] [(.int x1), (.int ((lb &&& (7 : Int32)) <<< ((18 : Int32) &&& 31)))]) _
                    refine Go.by (fun t k => XS.bipush Xj250.here hx rfl (hb hby at_341) k) ?_
                    show Go p e below Tj250 (mkF m 343 #[.val (.int p1), .val (.int p2), .val (.int p3), .val (.int p4), .val (.int p5), .val (.int (1 : Int32)), .val (.int av), .val (.int ((1 : Int32) + av)), .val (.ref b35), .val (.int lb), .val (.int x1), .val (.int x2), .val (.int x3), .val (.int j171_0), .val (.int j250_0), .val (.int (0 : Int32)), .val (.int (0 : Int32)), .unset] [(.int (63 : Int32)), (.int x1), (.int ((lb &&& (7 : Int32)) <<< ((18 : Int32) &&& 31)))]) _
                    refine Go.by (fun t k => XS.iand Xj250.here hx rfl (hb hby at_343) rfl k) ?_
                    show Go p e below Tj250 (mkF m 344 #[.val (.int p1), .val (.int p2), .val (.int p3), .val (.int p4), .val (.int p5), .val (.int (1 : Int32)), .val (.int av), .val (.int ((1 : Int32) + av)), .val (.ref b35), .val (.int lb), .val (.int x1), .val (.int x2), .val (.int x3), .val (.int j171_0), .val (.int j250_0), .val (.int (0 : Int32)), .val (.int (0 : Int32)), .unset] [(.int (x1 &&& (63 : Int32))), (.int ((lb &&& (7 : Int32)) <<< ((18 : Int32) &&& 31)))]) _
                    refine Go.by (fun t k => XS.bipush Xj250.here hx rfl (hb hby at_344) k) ?_
                    show Go p e below Tj250 (mkF m 346 #[.val (.int p1), .val (.int p2), .val (.int p3), .val (.int p4), .val (.int p5), .val (.int (1 : Int32)), .val (.int av), .val (.int ((1 : Int32) + av)), .val (.ref b35), .val (.int lb), .val (.int x1), .val (.int x2), .val (.int x3), .val (.int j171_0), .val (.int j250_0), .val (.int (0 : Int32)), .val (.int (0 : Int32)), .unset] [(.int (12 : Int32)), (.int (x1 &&& (63 : Int32))), (.int ((lb &&& (7 : Int32)) <<< ((18 : Int32) &&& 31)))]) _
                    refine Go.by (fun t k => XS.ishl Xj250.here hx rfl (hb hby at_346) rfl k) ?_
                    show Go p e below Tj250 (mkF m 347 #[.val (.int p1), .val (.int p2), .val (.int p3), .val (.int p4), .val (.int p5), .val (.int (1 : Int32)), .val (.int av), .val (.int ((1 : Int32) + av)), .val (.ref b35), .val (.int lb), .val (.int x1), .val (.int x2), .val (.int x3), .val (.int j171_0), .val (.int j250_0), .val (.int (0 : Int32)), .val (.int (0 : Int32)), .unset] [(.int ((x1 &&& (63 : Int32)) <<< ((12 : Int32) &&& 31))), (.int ((lb &&& (7 : Int32)) <<< ((18 : Int32) &&& 31)))]) _
                    refine Go.by (fun t k => XS.ior Xj250.here hx rfl (hb hby at_347) rfl k) ?_
                    show Go p e below Tj250 (mkF m 348 #[.val (.int p1), .val (.int p2), .val (.int p3), .val (.int p4), .val (.int p5), .val (.int (1 : Int32)), .val (.int av), .val (.int ((1 : Int32) + av)), .val (.ref b35), .val (.int lb), .val (.int x1), .val (.int x2), .val (.int x3), .val (.int j171_0), .val (.int j250_0), .val (.int (0 : Int32)), .val (.int (0 : Int32)), .unset] [(.int (((lb &&& (7 : Int32)) <<< ((18 : Int32) &&& 31)) ||| ((x1 &&& (63 : Int32)) <<< ((12 : Int32) &&& 31))))]) _
                    refine Go.by (fun t k => XS.iload Xj250.here hx rfl (hb hby at_348) rfl k) ?_
                    show Go p e below Tj250 (mkF m 350 #[.val (.int p1), .val (.int p2), .val (.int p3), .val (.int p4), .val (.int p5), .val (.int (1 : Int32)), .val (.int av), .val (.int ((1 : Int32) + av)), .val (.ref b35), .val (.int lb), .val (.int x1), .val (.int x2), .val (.int x3), .val (.int j171_0), .val (.int j250_0), .val (.int (0 : Int32)), .val (.int (0 : Int32)), .unset] [(.int x2), (.int (((lb &&& (7 : Int32)) <<< ((18 : Int32) &&& 31)) ||| ((x1 &&& (63 : Int32)) <<< ((12 : Int32) &&& 31))))]) _
                    refine Go.by (fun t k => XS.bipush Xj250.here hx rfl (hb hby at_350) k) ?_
                    show Go p e below Tj250 (mkF m 352 #[.val (.int p1), .val (.int p2), .val (.int p3), .val (.int p4), .val (.int p5), .val (.int (1 : Int32)), .val (.int av), .val (.int ((1 : Int32) + av)), .val (.ref b35), .val (.int lb), .val (.int x1), .val (.int x2), .val (.int x3), .val (.int j171_0), .val (.int j250_0), .val (.int (0 : Int32)), .val (.int (0 : Int32)), .unset] [(.int (63 : Int32)), (.int x2), (.int (((lb &&& (7 : Int32)) <<< ((18 : Int32) &&& 31)) ||| ((x1 &&& (63 : Int32)) <<< ((12 : Int32) &&& 31))))]) _
                    refine Go.by (fun t k => XS.iand Xj250.here hx rfl (hb hby at_352) rfl k) ?_
                    show Go p e below Tj250 (mkF m 353 #[.val (.int p1), .val (.int p2), .val (.int p3), .val (.int p4), .val (.int p5), .val (.int (1 : Int32)), .val (.int av), .val (.int ((1 : Int32) + av)), .val (.ref b35), .val (.int lb), .val (.int x1), .val (.int x2), .val (.int x3), .val (.int j171_0), .val (.int j250_0), .val (.int (0 : Int32)), .val (.int (0 : Int32)), .unset] [(.int (x2 &&& (63 : Int32))), (.int (((lb &&& (7 : Int32)) <<< ((18 : Int32) &&& 31)) ||| ((x1 &&& (63 : Int32)) <<< ((12 : Int32) &&& 31))))]) _
                    refine Go.by (fun t k => XS.bipush Xj250.here hx rfl (hb hby at_353) k) ?_
                    show Go p e below Tj250 (mkF m 355 #[.val (.int p1), .val (.int p2), .val (.int p3), .val (.int p4), .val (.int p5), .val (.int (1 : Int32)), .val (.int av), .val (.int ((1 : Int32) + av)), .val (.ref b35), .val (.int lb), .val (.int x1), .val (.int x2), .val (.int x3), .val (.int j171_0), .val (.int j250_0), .val (.int (0 : Int32)), .val (.int (0 : Int32)), .unset] [(.int (6 : Int32)), (.int (x2 &&& (63 : Int32))), (.int (((lb &&& (7 : Int32)) <<< ((18 : Int32) &&& 31)) ||| ((x1 &&& (63 : Int32)) <<< ((12 : Int32) &&& 31))))]) _
                    refine Go.by (fun t k => XS.ishl Xj250.here hx rfl (hb hby at_355) rfl k) ?_
                    show Go p e below Tj250 (mkF m 356 #[.val (.int p1), .val (.int p2), .val (.int p3), .val (.int p4), .val (.int p5), .val (.int (1 : Int32)), .val (.int av), .val (.int ((1 : Int32) + av)), .val (.ref b35), .val (.int lb), .val (.int x1), .val (.int x2), .val (.int x3), .val (.int j171_0), .val (.int j250_0), .val (.int (0 : Int32)), .val (.int (0 : Int32)), .unset] [(.int ((x2 &&& (63 : Int32)) <<< ((6 : Int32) &&& 31))), (.int (((lb &&& (7 : Int32)) <<< ((18 : Int32) &&& 31)) ||| ((x1 &&& (63 : Int32)) <<< ((12 : Int32) &&& 31))))]) _
                    refine Go.by (fun t k => XS.ior Xj250.here hx rfl (hb hby at_356) rfl k) ?_
                    show Go p e below Tj250 (mkF m 357 #[.val (.int p1), .val (.int p2), .val (.int p3), .val (.int p4), .val (.int p5), .val (.int (1 : Int32)), .val (.int av), .val (.int ((1 : Int32) + av)), .val (.ref b35), .val (.int lb), .val (.int x1), .val (.int x2), .val (.int x3), .val (.int j171_0), .val (.int j250_0), .val (.int (0 : Int32)), .val (.int (0 : Int32)), .unset] [(.int ((((lb &&& (7 : Int32)) <<< ((18 : Int32) &&& 31)) ||| ((x1 &&& (63 : Int32)) <<< ((12 : Int32) &&& 31))) ||| ((x2 &&& (63 : Int32)) <<< ((6 : Int32) &&& 31))))]) _
                    refine Go.by (fun t k => XS.iload Xj250.here hx rfl (hb hby at_357) rfl k) ?_
                    show Go p e below Tj250 (mkF m 359 #[.val (.int p1), .val (.int p2), .val (.int p3), .val (.int p4), .val (.int p5), .val (.int (1 : Int32)), .val (.int av), .val (.int ((1 : Int32) + av)), .val (.ref b35), .val (.int lb), .val (.int x1), .val (.int x2), .val (.int x3), .val (.int j171_0), .val (.int j250_0), .val (.int (0 : Int32)), .val (.int (0 : Int32)), .unset] [(.int x3), (.int ((((lb &&& (7 : Int32)) <<< ((18 : Int32) &&& 31)) ||| ((x1 &&& (63 : Int32)) <<< ((12 : Int32) &&& 31))) ||| ((x2 &&& (63 : Int32)) <<< ((6 : Int32) &&& 31))))]) _
                    refine Go.by (fun t k => XS.bipush Xj250.here hx rfl (hb hby at_359) k) ?_
                    show Go p e below Tj250 (mkF m 361 #[.val (.int p1), .val (.int p2), .val (.int p3), .val (.int p4), .val (.int p5), .val (.int (1 : Int32)), .val (.int av), .val (.int ((1 : Int32) + av)), .val (.ref b35), .val (.int lb), .val (.int x1), .val (.int x2), .val (.int x3), .val (.int j171_0), .val (.int j250_0), .val (.int (0 : Int32)), .val (.int (0 : Int32)), .unset] [(.int (63 : Int32)), (.int x3), (.int ((((lb &&& (7 : Int32)) <<< ((18 : Int32) &&& 31)) ||| ((x1 &&& (63 : Int32)) <<< ((12 : Int32) &&& 31))) ||| ((x2 &&& (63 : Int32)) <<< ((6 : Int32) &&& 31))))]) _
                    refine Go.by (fun t k => XS.iand Xj250.here hx rfl (hb hby at_361) rfl k) ?_
                    show Go p e below Tj250 (mkF m 362 #[.val (.int p1), .val (.int p2), .val (.int p3), .val (.int p4), .val (.int p5), .val (.int (1 : Int32)), .val (.int av), .val (.int ((1 : Int32) + av)), .val (.ref b35), .val (.int lb), .val (.int x1), .val (.int x2), .val (.int x3), .val (.int j171_0), .val (.int j250_0), .val (.int (0 : Int32)), .val (.int (0 : Int32)), .unset] [(.int (x3 &&& (63 : Int32))), (.int ((((lb &&& (7 : Int32)) <<< ((18 : Int32) &&& 31)) ||| ((x1 &&& (63 : Int32)) <<< ((12 : Int32) &&& 31))) ||| ((x2 &&& (63 : Int32)) <<< ((6 : Int32) &&& 31))))]) _
                    refine Go.by (fun t k => XS.ior Xj250.here hx rfl (hb hby at_362) rfl k) ?_
                    show Go p e below Tj250 (mkF m 363 #[.val (.int p1), .val (.int p2), .val (.int p3), .val (.int p4), .val (.int p5), .val (.int (1 : Int32)), .val (.int av), .val (.int ((1 : Int32) + av)), .val (.ref b35), .val (.int lb), .val (.int x1), .val (.int x2), .val (.int x3), .val (.int j171_0), .val (.int j250_0), .val (.int (0 : Int32)), .val (.int (0 : Int32)), .unset] [(.int (((((lb &&& (7 : Int32)) <<< ((18 : Int32) &&& 31)) ||| ((x1 &&& (63 : Int32)) <<< ((12 : Int32) &&& 31))) ||| ((x2 &&& (63 : Int32)) <<< ((6 : Int32) &&& 31))) ||| (x3 &&& (63 : Int32))))]) _
                    refine Go.by (fun t k => XS.istore Xj250.here hx rfl (hb hby at_363) rfl (l' := #[.val (.int p1), .val (.int p2), .val (.int p3), .val (.int p4), .val (.int p5), .val (.int (1 : Int32)), .val (.int av), .val (.int ((1 : Int32) + av)), .val (.ref b35), .val (.int lb), .val (.int x1), .val (.int x2), .val (.int x3), .val (.int j171_0), .val (.int j250_0), .val (.int (((((lb &&& (7 : Int32)) <<< ((18 : Int32) &&& 31)) ||| ((x1 &&& (63 : Int32)) <<< ((12 : Int32) &&& 31))) ||| ((x2 &&& (63 : Int32)) <<< ((6 : Int32) &&& 31))) ||| (x3 &&& (63 : Int32)))), .val (.int (0 : Int32)), .unset]) rfl k) ?_
                    show Go p e below Tj250 (mkF m 365 #[.val (.int p1), .val (.int p2), .val (.int p3), .val (.int p4), .val (.int p5), .val (.int (1 : Int32)), .val (.int av), .val (.int ((1 : Int32) + av)), .val (.ref b35), .val (.int lb), .val (.int x1), .val (.int x2), .val (.int x3), .val (.int j171_0), .val (.int j250_0), .val (.int (((((lb &&& (7 : Int32)) <<< ((18 : Int32) &&& 31)) ||| ((x1 &&& (63 : Int32)) <<< ((12 : Int32) &&& 31))) ||| ((x2 &&& (63 : Int32)) <<< ((6 : Int32) &&& 31))) ||| (x3 &&& (63 : Int32)))), .val (.int (0 : Int32)), .unset] []) _
                    refine Go.by (fun t k => Xj250.ldcInt hx hown (mvT hZ (hw _ (List.mem_of_getElem? (i := 12) rfl))) (g := (mkF m 365 #[.val (.int p1), .val (.int p2), .val (.int p3), .val (.int p4), .val (.int p5), .val (.int (1 : Int32)), .val (.int av), .val (.int ((1 : Int32) + av)), .val (.ref b35), .val (.int lb), .val (.int x1), .val (.int x2), .val (.int x3), .val (.int j171_0), .val (.int j250_0), .val (.int (((((lb &&& (7 : Int32)) <<< ((18 : Int32) &&& 31)) ||| ((x1 &&& (63 : Int32)) <<< ((12 : Int32) &&& 31))) ||| ((x2 &&& (63 : Int32)) <<< ((6 : Int32) &&& 31))) ||| (x3 &&& (63 : Int32)))), .val (.int (0 : Int32)), .unset] [])) rfl (hb hby at_365) t k) ?_
                    show Go p e below Tj250 (mkF m 367 #[.val (.int p1), .val (.int p2), .val (.int p3), .val (.int p4), .val (.int p5), .val (.int (1 : Int32)), .val (.int av), .val (.int ((1 : Int32) + av)), .val (.ref b35), .val (.int lb), .val (.int x1), .val (.int x2), .val (.int x3), .val (.int j171_0), .val (.int j250_0), .val (.int (((((lb &&& (7 : Int32)) <<< ((18 : Int32) &&& 31)) ||| ((x1 &&& (63 : Int32)) <<< ((12 : Int32) &&& 31))) ||| ((x2 &&& (63 : Int32)) <<< ((6 : Int32) &&& 31))) ||| (x3 &&& (63 : Int32)))), .val (.int (0 : Int32)), .unset] [(.int (65536 : Int32))]) _
                    refine Go.by (fun t k => XS.istore Xj250.here hx rfl (hb hby at_367) rfl (l' := #[.val (.int p1), .val (.int p2), .val (.int p3), .val (.int p4), .val (.int p5), .val (.int (1 : Int32)), .val (.int av), .val (.int ((1 : Int32) + av)), .val (.ref b35), .val (.int lb), .val (.int x1), .val (.int x2), .val (.int x3), .val (.int j171_0), .val (.int j250_0), .val (.int (((((lb &&& (7 : Int32)) <<< ((18 : Int32) &&& 31)) ||| ((x1 &&& (63 : Int32)) <<< ((12 : Int32) &&& 31))) ||| ((x2 &&& (63 : Int32)) <<< ((6 : Int32) &&& 31))) ||| (x3 &&& (63 : Int32)))), .val (.int (65536 : Int32)), .unset]) rfl k) ?_
                    show Go p e below Tj250 (mkF m 369 #[.val (.int p1), .val (.int p2), .val (.int p3), .val (.int p4), .val (.int p5), .val (.int (1 : Int32)), .val (.int av), .val (.int ((1 : Int32) + av)), .val (.ref b35), .val (.int lb), .val (.int x1), .val (.int x2), .val (.int x3), .val (.int j171_0), .val (.int j250_0), .val (.int (((((lb &&& (7 : Int32)) <<< ((18 : Int32) &&& 31)) ||| ((x1 &&& (63 : Int32)) <<< ((12 : Int32) &&& 31))) ||| ((x2 &&& (63 : Int32)) <<< ((6 : Int32) &&& 31))) ||| (x3 &&& (63 : Int32)))), .val (.int (65536 : Int32)), .unset] []) _
                    exact J369 (((((lb &&& (7 : Int32)) <<< ((18 : Int32) &&& 31)) ||| ((x1 &&& (63 : Int32)) <<< ((12 : Int32) &&& 31))) ||| ((x2 &&& (63 : Int32)) <<< ((6 : Int32) &&& 31))) ||| (x3 &&& (63 : Int32))) (65536 : Int32) ⟨by rw [own_cp, if_neg hc49, if_neg hc50, if_pos hc51], by rw [own_mn, if_neg hc49, if_neg hc50, if_pos hc51]⟩
                  · refine Go.by (fun t k => XS.icmpYes Xj250.here hx rfl (pc0 := 328) (pc' := 369) rfl (hb hby at_328) rfl (feq hc51).2 (by decide) (by decide) k) ?_
                    show Go p e below Tj250 (mkF m 369 #[.val (.int p1), .val (.int p2), .val (.int p3), .val (.int p4), .val (.int p5), .val (.int (1 : Int32)), .val (.int av), .val (.int ((1 : Int32) + av)), .val (.ref b35), .val (.int lb), .val (.int x1), .val (.int x2), .val (.int x3), .val (.int j171_0), .val (.int j250_0), .val (.int (0 : Int32)), .val (.int (0 : Int32)), .unset] []) _
                    exact J369 (0 : Int32) (0 : Int32) ⟨by rw [own_cp, if_neg hc49, if_neg hc50, if_neg hc51], by rw [own_mn, if_neg hc49, if_neg hc50, if_neg hc51]⟩
            by_cases hc52 : j228_0 = (0 : Int32)
            · refine Go.by (fun t k => XS.ifYes Xj228.here hx rfl (pc0 := 230) (pc' := 250) rfl (hb hby at_230) rfl ((if0 _ _).trans (teq hc52).1) (by decide) (by decide) k) ?_
              show Go p e below Tj228 (mkF m 250 #[.val (.int p1), .val (.int p2), .val (.int p3), .val (.int p4), .val (.int p5), .val (.int (1 : Int32)), .val (.int av), .val (.int ((1 : Int32) + av)), .val (.ref b35), .val (.int lb), .val (.int x1), .val (.int x2), .val (.int x3), .val (.int j171_0), .val (.int j228_0), .unset, .unset, .unset] []) _
              exact J250 _ _ Xj228 ej228 Nj228 j228_0 (by rw [own_ok4, if_pos hc52])
            · refine Go.by (fun t k => XS.ifNo Xj228.here hx rfl (hb hby at_230) rfl ((if0 _ _).trans (feq hc52).1) k) ?_
              show Go p e below Tj228 (mkF m 233 #[.val (.int p1), .val (.int p2), .val (.int p3), .val (.int p4), .val (.int p5), .val (.int (1 : Int32)), .val (.int av), .val (.int ((1 : Int32) + av)), .val (.ref b35), .val (.int lb), .val (.int x1), .val (.int x2), .val (.int x3), .val (.int j171_0), .val (.int j228_0), .unset, .unset, .unset] []) _
              refine Go.by (fun t k => XS.iload Xj228.here hx rfl (hb hby at_233) rfl k) ?_
              show Go p e below Tj228 (mkF m 235 #[.val (.int p1), .val (.int p2), .val (.int p3), .val (.int p4), .val (.int p5), .val (.int (1 : Int32)), .val (.int av), .val (.int ((1 : Int32) + av)), .val (.ref b35), .val (.int lb), .val (.int x1), .val (.int x2), .val (.int x3), .val (.int j171_0), .val (.int j228_0), .unset, .unset, .unset] [(.int j171_0)]) _
              refine Go.by (fun t k => XS.iconst Xj228.here hx rfl (hb hby at_235) k) ?_
              show Go p e below Tj228 (mkF m 236 #[.val (.int p1), .val (.int p2), .val (.int p3), .val (.int p4), .val (.int p5), .val (.int (1 : Int32)), .val (.int av), .val (.int ((1 : Int32) + av)), .val (.ref b35), .val (.int lb), .val (.int x1), .val (.int x2), .val (.int x3), .val (.int j171_0), .val (.int j228_0), .unset, .unset, .unset] [(.int (4 : Int32)), (.int j171_0)]) _
              by_cases hc53 : j171_0 = (4 : Int32)
              · refine Go.by (fun t k => XS.icmpNo Xj228.here hx rfl (hb hby at_236) rfl (teq hc53).2 k) ?_
                show Go p e below Tj228 (mkF m 239 #[.val (.int p1), .val (.int p2), .val (.int p3), .val (.int p4), .val (.int p5), .val (.int (1 : Int32)), .val (.int av), .val (.int ((1 : Int32) + av)), .val (.ref b35), .val (.int lb), .val (.int x1), .val (.int x2), .val (.int x3), .val (.int j171_0), .val (.int j228_0), .unset, .unset, .unset] []) _
                refine Go.by (fun t k => XS.iload Xj228.here hx rfl (hb hby at_239) rfl k) ?_
                show Go p e below Tj228 (mkF m 241 #[.val (.int p1), .val (.int p2), .val (.int p3), .val (.int p4), .val (.int p5), .val (.int (1 : Int32)), .val (.int av), .val (.int ((1 : Int32) + av)), .val (.ref b35), .val (.int lb), .val (.int x1), .val (.int x2), .val (.int x3), .val (.int j171_0), .val (.int j228_0), .unset, .unset, .unset] [(.int x3)]) _
                obtain ⟨_, _, ⟨T54, L54, k54, n54⟩, -, X54, ⟨Lc54, hQ54, l54, y54, z54⟩, st54⟩ := Jvm.LawKit.callS Xj228 hx (y := (⟨"com/example/tillscan/tillscan/core/Utf8CharacterEndPinLaw", "cont", "(I)Z"⟩ : MethodName)) hown (mvT hZ (hw _ (List.mem_of_getElem? (i := 8) rfl))) (mvT hZ (hw _ (List.mem_of_getElem? (i := 9) rfl))) (mvT hZ (hw _ (List.mem_of_getElem? (i := 10) rfl))) (mvT hZ (hw _ (List.mem_of_getElem? (i := 11) rfl))) (by decide) (backOf (W := 0) (rm3 l Z a0 hw [] x3 h41 n0 Z41) hZ (hw _ (List.mem_of_getElem? (i := 11) rfl)) (hw _ (List.mem_of_getElem? (i := 10) rfl)) (by decide) (by decide)) (g := (mkF m 241 #[.val (.int p1), .val (.int p2), .val (.int p3), .val (.int p4), .val (.int p5), .val (.int (1 : Int32)), .val (.int av), .val (.int ((1 : Int32) + av)), .val (.ref b35), .val (.int lb), .val (.int x1), .val (.int x2), .val (.int x3), .val (.int j171_0), .val (.int j228_0), .unset, .unset, .unset] [(.int x3)])) rfl (by rw [hml]; rfl) (argsL := [(.int x3)]) (rest := []) (lenOf pd_2 rfl) rfl (by show 2 * 0 + _ ≤ _; exact Nat.le_of_eq rfl) (hb hby at_241) (fun _ _ => ⟨rfl, ej228, (by decide : 1 + 0 ≤ _), (by decide : 5 + 0 ≤ _)⟩)
                dsimp only [Pt.U, Pt.locs, Pt.cells, Pt.slots] at X54 l54 y54 z54 st54 hQ54
                subst l54 y54 z54
                obtain ⟨rfl, N54q, e54q⟩ := hQ54
                have N54 := Fr.app Nj228 N54q
                refine Go.by st54 ?_
                show Go p e below T54 (mkF m 244 #[.val (.int p1), .val (.int p2), .val (.int p3), .val (.int p4), .val (.int p5), .val (.int (1 : Int32)), .val (.int av), .val (.int ((1 : Int32) + av)), .val (.ref b35), .val (.int lb), .val (.int x1), .val (.int x2), .val (.int x3), .val (.int j171_0), .val (.int j228_0), .unset, .unset, .unset] [(.int (f3 x3))]) _
                by_cases hc55 : (f3 x3) = (0 : Int32)
                · refine Go.by (fun t k => XS.ifNo X54.here hx rfl (hb hby at_244) rfl ((if0 _ _).trans (teq hc55).2) k) ?_
                  show Go p e below T54 (mkF m 247 #[.val (.int p1), .val (.int p2), .val (.int p3), .val (.int p4), .val (.int p5), .val (.int (1 : Int32)), .val (.int av), .val (.int ((1 : Int32) + av)), .val (.ref b35), .val (.int lb), .val (.int x1), .val (.int x2), .val (.int x3), .val (.int j171_0), .val (.int j228_0), .unset, .unset, .unset] []) _
                  refine Go.by (fun t k => XS.iconst X54.here hx rfl (hb hby at_247) k) ?_
                  show Go p e below T54 (mkF m 248 #[.val (.int p1), .val (.int p2), .val (.int p3), .val (.int p4), .val (.int p5), .val (.int (1 : Int32)), .val (.int av), .val (.int ((1 : Int32) + av)), .val (.ref b35), .val (.int lb), .val (.int x1), .val (.int x2), .val (.int x3), .val (.int j171_0), .val (.int j228_0), .unset, .unset, .unset] [(.int (0 : Int32))]) _
                  refine Go.by (fun t k => XS.istore X54.here hx rfl (hb hby at_248) rfl (l' := #[.val (.int p1), .val (.int p2), .val (.int p3), .val (.int p4), .val (.int p5), .val (.int (1 : Int32)), .val (.int av), .val (.int ((1 : Int32) + av)), .val (.ref b35), .val (.int lb), .val (.int x1), .val (.int x2), .val (.int x3), .val (.int j171_0), .val (.int (0 : Int32)), .unset, .unset, .unset]) rfl k) ?_
                  show Go p e below T54 (mkF m 250 #[.val (.int p1), .val (.int p2), .val (.int p3), .val (.int p4), .val (.int p5), .val (.int (1 : Int32)), .val (.int av), .val (.int ((1 : Int32) + av)), .val (.ref b35), .val (.int lb), .val (.int x1), .val (.int x2), .val (.int x3), .val (.int j171_0), .val (.int (0 : Int32)), .unset, .unset, .unset] []) _
                  exact J250 _ _ X54 e54q N54 (0 : Int32) (by rw [own_ok4, if_neg hc52, if_pos hc53, if_pos hc55])
                · refine Go.by (fun t k => XS.ifYes X54.here hx rfl (pc0 := 244) (pc' := 250) rfl (hb hby at_244) rfl ((if0 _ _).trans (feq hc55).2) (by decide) (by decide) k) ?_
                  show Go p e below T54 (mkF m 250 #[.val (.int p1), .val (.int p2), .val (.int p3), .val (.int p4), .val (.int p5), .val (.int (1 : Int32)), .val (.int av), .val (.int ((1 : Int32) + av)), .val (.ref b35), .val (.int lb), .val (.int x1), .val (.int x2), .val (.int x3), .val (.int j171_0), .val (.int j228_0), .unset, .unset, .unset] []) _
                  exact J250 _ _ X54 e54q N54 j228_0 (by rw [own_ok4, if_neg hc52, if_pos hc53, if_neg hc55])
              · refine Go.by (fun t k => XS.icmpYes Xj228.here hx rfl (pc0 := 236) (pc' := 250) rfl (hb hby at_236) rfl (feq hc53).2 (by decide) (by decide) k) ?_
                show Go p e below Tj228 (mkF m 250 #[.val (.int p1), .val (.int p2), .val (.int p3), .val (.int p4), .val (.int p5), .val (.int (1 : Int32)), .val (.int av), .val (.int ((1 : Int32) + av)), .val (.ref b35), .val (.int lb), .val (.int x1), .val (.int x2), .val (.int x3), .val (.int j171_0), .val (.int j228_0), .unset, .unset, .unset] []) _
                exact J250 _ _ Xj228 ej228 Nj228 j228_0 (by rw [own_ok4, if_neg hc52, if_neg hc53])
          by_cases hc56 : j206_0 = (0 : Int32)
          · refine Go.by (fun t k => XS.ifYes Xj206.here hx rfl (pc0 := 208) (pc' := 228) rfl (hb hby at_208) rfl ((if0 _ _).trans (teq hc56).1) (by decide) (by decide) k) ?_
            show Go p e below Tj206 (mkF m 228 #[.val (.int p1), .val (.int p2), .val (.int p3), .val (.int p4), .val (.int p5), .val (.int (1 : Int32)), .val (.int av), .val (.int ((1 : Int32) + av)), .val (.ref b35), .val (.int lb), .val (.int x1), .val (.int x2), .val (.int x3), .val (.int j171_0), .val (.int j206_0), .unset, .unset, .unset] []) _
            exact J228 _ _ Xj206 ej206 Nj206 j206_0 (by rw [own_ok3, if_pos hc56])
          · refine Go.by (fun t k => XS.ifNo Xj206.here hx rfl (hb hby at_208) rfl ((if0 _ _).trans (feq hc56).1) k) ?_
            show Go p e below Tj206 (mkF m 211 #[.val (.int p1), .val (.int p2), .val (.int p3), .val (.int p4), .val (.int p5), .val (.int (1 : Int32)), .val (.int av), .val (.int ((1 : Int32) + av)), .val (.ref b35), .val (.int lb), .val (.int x1), .val (.int x2), .val (.int x3), .val (.int j171_0), .val (.int j206_0), .unset, .unset, .unset] []) _
            refine Go.by (fun t k => XS.iload Xj206.here hx rfl (hb hby at_211) rfl k) ?_
            show Go p e below Tj206 (mkF m 213 #[.val (.int p1), .val (.int p2), .val (.int p3), .val (.int p4), .val (.int p5), .val (.int (1 : Int32)), .val (.int av), .val (.int ((1 : Int32) + av)), .val (.ref b35), .val (.int lb), .val (.int x1), .val (.int x2), .val (.int x3), .val (.int j171_0), .val (.int j206_0), .unset, .unset, .unset] [(.int j171_0)]) _
            refine Go.by (fun t k => XS.iconst Xj206.here hx rfl (hb hby at_213) k) ?_
            show Go p e below Tj206 (mkF m 214 #[.val (.int p1), .val (.int p2), .val (.int p3), .val (.int p4), .val (.int p5), .val (.int (1 : Int32)), .val (.int av), .val (.int ((1 : Int32) + av)), .val (.ref b35), .val (.int lb), .val (.int x1), .val (.int x2), .val (.int x3), .val (.int j171_0), .val (.int j206_0), .unset, .unset, .unset] [(.int (3 : Int32)), (.int j171_0)]) _
            by_cases hc57 : j171_0 < (3 : Int32)
            · refine Go.by (fun t k => XS.icmpYes Xj206.here hx rfl (pc0 := 214) (pc' := 228) rfl (hb hby at_214) rfl (tlt hc57).1 (by decide) (by decide) k) ?_
              show Go p e below Tj206 (mkF m 228 #[.val (.int p1), .val (.int p2), .val (.int p3), .val (.int p4), .val (.int p5), .val (.int (1 : Int32)), .val (.int av), .val (.int ((1 : Int32) + av)), .val (.ref b35), .val (.int lb), .val (.int x1), .val (.int x2), .val (.int x3), .val (.int j171_0), .val (.int j206_0), .unset, .unset, .unset] []) _
              exact J228 _ _ Xj206 ej206 Nj206 j206_0 (by rw [own_ok3, if_neg hc56, if_pos hc57])
            · refine Go.by (fun t k => XS.icmpNo Xj206.here hx rfl (hb hby at_214) rfl (flt hc57).1 k) ?_
              show Go p e below Tj206 (mkF m 217 #[.val (.int p1), .val (.int p2), .val (.int p3), .val (.int p4), .val (.int p5), .val (.int (1 : Int32)), .val (.int av), .val (.int ((1 : Int32) + av)), .val (.ref b35), .val (.int lb), .val (.int x1), .val (.int x2), .val (.int x3), .val (.int j171_0), .val (.int j206_0), .unset, .unset, .unset] []) _
              refine Go.by (fun t k => XS.iload Xj206.here hx rfl (hb hby at_217) rfl k) ?_
              show Go p e below Tj206 (mkF m 219 #[.val (.int p1), .val (.int p2), .val (.int p3), .val (.int p4), .val (.int p5), .val (.int (1 : Int32)), .val (.int av), .val (.int ((1 : Int32) + av)), .val (.ref b35), .val (.int lb), .val (.int x1), .val (.int x2), .val (.int x3), .val (.int j171_0), .val (.int j206_0), .unset, .unset, .unset] [(.int x2)]) _
              obtain ⟨_, _, ⟨T58, L58, k58, n58⟩, -, X58, ⟨Lc58, hQ58, l58, y58, z58⟩, st58⟩ := Jvm.LawKit.callS Xj206 hx (y := (⟨"com/example/tillscan/tillscan/core/Utf8CharacterEndPinLaw", "cont", "(I)Z"⟩ : MethodName)) hown (mvT hZ (hw _ (List.mem_of_getElem? (i := 8) rfl))) (mvT hZ (hw _ (List.mem_of_getElem? (i := 9) rfl))) (mvT hZ (hw _ (List.mem_of_getElem? (i := 10) rfl))) (mvT hZ (hw _ (List.mem_of_getElem? (i := 11) rfl))) (by decide) (backOf (W := 0) (rm3 l Z a0 hw [] x2 h41 n0 Z41) hZ (hw _ (List.mem_of_getElem? (i := 11) rfl)) (hw _ (List.mem_of_getElem? (i := 10) rfl)) (by decide) (by decide)) (g := (mkF m 219 #[.val (.int p1), .val (.int p2), .val (.int p3), .val (.int p4), .val (.int p5), .val (.int (1 : Int32)), .val (.int av), .val (.int ((1 : Int32) + av)), .val (.ref b35), .val (.int lb), .val (.int x1), .val (.int x2), .val (.int x3), .val (.int j171_0), .val (.int j206_0), .unset, .unset, .unset] [(.int x2)])) rfl (by rw [hml]; rfl) (argsL := [(.int x2)]) (rest := []) (lenOf pd_2 rfl) rfl (by show 2 * 0 + _ ≤ _; exact Nat.le_of_eq rfl) (hb hby at_219) (fun _ _ => ⟨rfl, ej206, (by decide : 1 + 0 ≤ _), (by decide : 5 + 0 ≤ _)⟩)
              dsimp only [Pt.U, Pt.locs, Pt.cells, Pt.slots] at X58 l58 y58 z58 st58 hQ58
              subst l58 y58 z58
              obtain ⟨rfl, N58q, e58q⟩ := hQ58
              have N58 := Fr.app Nj206 N58q
              refine Go.by st58 ?_
              show Go p e below T58 (mkF m 222 #[.val (.int p1), .val (.int p2), .val (.int p3), .val (.int p4), .val (.int p5), .val (.int (1 : Int32)), .val (.int av), .val (.int ((1 : Int32) + av)), .val (.ref b35), .val (.int lb), .val (.int x1), .val (.int x2), .val (.int x3), .val (.int j171_0), .val (.int j206_0), .unset, .unset, .unset] [(.int (f3 x2))]) _
              by_cases hc59 : (f3 x2) = (0 : Int32)
              · refine Go.by (fun t k => XS.ifNo X58.here hx rfl (hb hby at_222) rfl ((if0 _ _).trans (teq hc59).2) k) ?_
                show Go p e below T58 (mkF m 225 #[.val (.int p1), .val (.int p2), .val (.int p3), .val (.int p4), .val (.int p5), .val (.int (1 : Int32)), .val (.int av), .val (.int ((1 : Int32) + av)), .val (.ref b35), .val (.int lb), .val (.int x1), .val (.int x2), .val (.int x3), .val (.int j171_0), .val (.int j206_0), .unset, .unset, .unset] []) _
                refine Go.by (fun t k => XS.iconst X58.here hx rfl (hb hby at_225) k) ?_
                show Go p e below T58 (mkF m 226 #[.val (.int p1), .val (.int p2), .val (.int p3), .val (.int p4), .val (.int p5), .val (.int (1 : Int32)), .val (.int av), .val (.int ((1 : Int32) + av)), .val (.ref b35), .val (.int lb), .val (.int x1), .val (.int x2), .val (.int x3), .val (.int j171_0), .val (.int j206_0), .unset, .unset, .unset] [(.int (0 : Int32))]) _
                refine Go.by (fun t k => XS.istore X58.here hx rfl (hb hby at_226) rfl (l' := #[.val (.int p1), .val (.int p2), .val (.int p3), .val (.int p4), .val (.int p5), .val (.int (1 : Int32)), .val (.int av), .val (.int ((1 : Int32) + av)), .val (.ref b35), .val (.int lb), .val (.int x1), .val (.int x2), .val (.int x3), .val (.int j171_0), .val (.int (0 : Int32)), .unset, .unset, .unset]) rfl k) ?_
                show Go p e below T58 (mkF m 228 #[.val (.int p1), .val (.int p2), .val (.int p3), .val (.int p4), .val (.int p5), .val (.int (1 : Int32)), .val (.int av), .val (.int ((1 : Int32) + av)), .val (.ref b35), .val (.int lb), .val (.int x1), .val (.int x2), .val (.int x3), .val (.int j171_0), .val (.int (0 : Int32)), .unset, .unset, .unset] []) _
                exact J228 _ _ X58 e58q N58 (0 : Int32) (by rw [own_ok3, if_neg hc56, if_neg hc57, if_pos hc59])
              · refine Go.by (fun t k => XS.ifYes X58.here hx rfl (pc0 := 222) (pc' := 228) rfl (hb hby at_222) rfl ((if0 _ _).trans (feq hc59).2) (by decide) (by decide) k) ?_
                show Go p e below T58 (mkF m 228 #[.val (.int p1), .val (.int p2), .val (.int p3), .val (.int p4), .val (.int p5), .val (.int (1 : Int32)), .val (.int av), .val (.int ((1 : Int32) + av)), .val (.ref b35), .val (.int lb), .val (.int x1), .val (.int x2), .val (.int x3), .val (.int j171_0), .val (.int j206_0), .unset, .unset, .unset] []) _
                exact J228 _ _ X58 e58q N58 j206_0 (by rw [own_ok3, if_neg hc56, if_neg hc57, if_neg hc59])
        by_cases hc60 : j188_0 = (0 : Int32)
        · refine Go.by (fun t k => XS.ifYes X41.here hx rfl (pc0 := 192) (pc' := 206) rfl (hb hby at_192) rfl ((if0 _ _).trans (teq hc60).1) (by decide) (by decide) k) ?_
          show Go p e below T41 (mkF m 206 #[.val (.int p1), .val (.int p2), .val (.int p3), .val (.int p4), .val (.int p5), .val (.int (1 : Int32)), .val (.int av), .val (.int ((1 : Int32) + av)), .val (.ref b35), .val (.int lb), .val (.int x1), .val (.int x2), .val (.int x3), .val (.int j171_0), .val (.int j188_0), .unset, .unset, .unset] []) _
          exact J206 _ _ X41 e41 N41 j188_0 (by rw [own_ok2, if_pos hc60])
        · refine Go.by (fun t k => XS.ifNo X41.here hx rfl (hb hby at_192) rfl ((if0 _ _).trans (feq hc60).1) k) ?_
          show Go p e below T41 (mkF m 195 #[.val (.int p1), .val (.int p2), .val (.int p3), .val (.int p4), .val (.int p5), .val (.int (1 : Int32)), .val (.int av), .val (.int ((1 : Int32) + av)), .val (.ref b35), .val (.int lb), .val (.int x1), .val (.int x2), .val (.int x3), .val (.int j171_0), .val (.int j188_0), .unset, .unset, .unset] []) _
          refine Go.by (fun t k => XS.iload X41.here hx rfl (hb hby at_195) rfl k) ?_
          show Go p e below T41 (mkF m 197 #[.val (.int p1), .val (.int p2), .val (.int p3), .val (.int p4), .val (.int p5), .val (.int (1 : Int32)), .val (.int av), .val (.int ((1 : Int32) + av)), .val (.ref b35), .val (.int lb), .val (.int x1), .val (.int x2), .val (.int x3), .val (.int j171_0), .val (.int j188_0), .unset, .unset, .unset] [(.int x1)]) _
          obtain ⟨_, _, ⟨T61, L61, k61, n61⟩, -, X61, ⟨Lc61, hQ61, l61, y61, z61⟩, st61⟩ := Jvm.LawKit.callS X41 hx (y := (⟨"com/example/tillscan/tillscan/core/Utf8CharacterEndPinLaw", "cont", "(I)Z"⟩ : MethodName)) hown (mvT hZ (hw _ (List.mem_of_getElem? (i := 8) rfl))) (mvT hZ (hw _ (List.mem_of_getElem? (i := 9) rfl))) (mvT hZ (hw _ (List.mem_of_getElem? (i := 10) rfl))) (mvT hZ (hw _ (List.mem_of_getElem? (i := 11) rfl))) (by decide) (backOf (W := 0) (rm3 l Z a0 hw [] x1 h41 n0 Z41) hZ (hw _ (List.mem_of_getElem? (i := 11) rfl)) (hw _ (List.mem_of_getElem? (i := 10) rfl)) (by decide) (by decide)) (g := (mkF m 197 #[.val (.int p1), .val (.int p2), .val (.int p3), .val (.int p4), .val (.int p5), .val (.int (1 : Int32)), .val (.int av), .val (.int ((1 : Int32) + av)), .val (.ref b35), .val (.int lb), .val (.int x1), .val (.int x2), .val (.int x3), .val (.int j171_0), .val (.int j188_0), .unset, .unset, .unset] [(.int x1)])) rfl (by rw [hml]; rfl) (argsL := [(.int x1)]) (rest := []) (lenOf pd_2 rfl) rfl (by show 2 * 0 + _ ≤ _; exact Nat.le_of_eq rfl) (hb hby at_197) (fun _ _ => ⟨rfl, e41, (by decide : 1 + 0 ≤ _), (by decide : 5 + 0 ≤ _)⟩)
          dsimp only [Pt.U, Pt.locs, Pt.cells, Pt.slots] at X61 l61 y61 z61 st61 hQ61
          subst l61 y61 z61
          obtain ⟨rfl, N61q, e61q⟩ := hQ61
          have N61 := Fr.app N41 N61q
          refine Go.by st61 ?_
          show Go p e below T61 (mkF m 200 #[.val (.int p1), .val (.int p2), .val (.int p3), .val (.int p4), .val (.int p5), .val (.int (1 : Int32)), .val (.int av), .val (.int ((1 : Int32) + av)), .val (.ref b35), .val (.int lb), .val (.int x1), .val (.int x2), .val (.int x3), .val (.int j171_0), .val (.int j188_0), .unset, .unset, .unset] [(.int (f3 x1))]) _
          by_cases hc62 : (f3 x1) = (0 : Int32)
          · refine Go.by (fun t k => XS.ifNo X61.here hx rfl (hb hby at_200) rfl ((if0 _ _).trans (teq hc62).2) k) ?_
            show Go p e below T61 (mkF m 203 #[.val (.int p1), .val (.int p2), .val (.int p3), .val (.int p4), .val (.int p5), .val (.int (1 : Int32)), .val (.int av), .val (.int ((1 : Int32) + av)), .val (.ref b35), .val (.int lb), .val (.int x1), .val (.int x2), .val (.int x3), .val (.int j171_0), .val (.int j188_0), .unset, .unset, .unset] []) _
            refine Go.by (fun t k => XS.iconst X61.here hx rfl (hb hby at_203) k) ?_
            show Go p e below T61 (mkF m 204 #[.val (.int p1), .val (.int p2), .val (.int p3), .val (.int p4), .val (.int p5), .val (.int (1 : Int32)), .val (.int av), .val (.int ((1 : Int32) + av)), .val (.ref b35), .val (.int lb), .val (.int x1), .val (.int x2), .val (.int x3), .val (.int j171_0), .val (.int j188_0), .unset, .unset, .unset] [(.int (0 : Int32))]) _
            refine Go.by (fun t k => XS.istore X61.here hx rfl (hb hby at_204) rfl (l' := #[.val (.int p1), .val (.int p2), .val (.int p3), .val (.int p4), .val (.int p5), .val (.int (1 : Int32)), .val (.int av), .val (.int ((1 : Int32) + av)), .val (.ref b35), .val (.int lb), .val (.int x1), .val (.int x2), .val (.int x3), .val (.int j171_0), .val (.int (0 : Int32)), .unset, .unset, .unset]) rfl k) ?_
            show Go p e below T61 (mkF m 206 #[.val (.int p1), .val (.int p2), .val (.int p3), .val (.int p4), .val (.int p5), .val (.int (1 : Int32)), .val (.int av), .val (.int ((1 : Int32) + av)), .val (.ref b35), .val (.int lb), .val (.int x1), .val (.int x2), .val (.int x3), .val (.int j171_0), .val (.int (0 : Int32)), .unset, .unset, .unset] []) _
            exact J206 _ _ X61 e61q N61 (0 : Int32) (by rw [own_ok2, if_neg hc60, if_pos hc62])
          · refine Go.by (fun t k => XS.ifYes X61.here hx rfl (pc0 := 200) (pc' := 206) rfl (hb hby at_200) rfl ((if0 _ _).trans (feq hc62).2) (by decide) (by decide) k) ?_
            show Go p e below T61 (mkF m 206 #[.val (.int p1), .val (.int p2), .val (.int p3), .val (.int p4), .val (.int p5), .val (.int (1 : Int32)), .val (.int av), .val (.int ((1 : Int32) + av)), .val (.ref b35), .val (.int lb), .val (.int x1), .val (.int x2), .val (.int x3), .val (.int j171_0), .val (.int j188_0), .unset, .unset, .unset] []) _
            exact J206 _ _ X61 e61q N61 j188_0 (by rw [own_ok2, if_neg hc60, if_neg hc62])
      by_cases hc63 : (0 : Int32) < j171_0
      · refine Go.by (fun t k => XS.ifNo X41.here hx rfl (hb hby at_173) rfl ((if0 _ _).trans (tlt hc63).2.2.2) k) ?_
        show Go p e below T41 (mkF m 176 #[.val (.int p1), .val (.int p2), .val (.int p3), .val (.int p4), .val (.int p5), .val (.int (1 : Int32)), .val (.int av), .val (.int ((1 : Int32) + av)), .val (.ref b35), .val (.int lb), .val (.int x1), .val (.int x2), .val (.int x3), .val (.int j171_0), .unset, .unset, .unset, .unset] []) _
        refine Go.by (fun t k => XS.iload X41.here hx rfl (hb hby at_176) rfl k) ?_
        show Go p e below T41 (mkF m 178 #[.val (.int p1), .val (.int p2), .val (.int p3), .val (.int p4), .val (.int p5), .val (.int (1 : Int32)), .val (.int av), .val (.int ((1 : Int32) + av)), .val (.ref b35), .val (.int lb), .val (.int x1), .val (.int x2), .val (.int x3), .val (.int j171_0), .unset, .unset, .unset, .unset] [(.int av)]) _
        refine Go.by (fun t k => XS.iload X41.here hx rfl (hb hby at_178) rfl k) ?_
        show Go p e below T41 (mkF m 180 #[.val (.int p1), .val (.int p2), .val (.int p3), .val (.int p4), .val (.int p5), .val (.int (1 : Int32)), .val (.int av), .val (.int ((1 : Int32) + av)), .val (.ref b35), .val (.int lb), .val (.int x1), .val (.int x2), .val (.int x3), .val (.int j171_0), .unset, .unset, .unset, .unset] [(.int j171_0), (.int av)]) _
        by_cases hc64 : av < j171_0
        · refine Go.by (fun t k => XS.icmpYes X41.here hx rfl (pc0 := 180) (pc' := 187) rfl (hb hby at_180) rfl (tlt hc64).1 (by decide) (by decide) k) ?_
          show Go p e below T41 (mkF m 187 #[.val (.int p1), .val (.int p2), .val (.int p3), .val (.int p4), .val (.int p5), .val (.int (1 : Int32)), .val (.int av), .val (.int ((1 : Int32) + av)), .val (.ref b35), .val (.int lb), .val (.int x1), .val (.int x2), .val (.int x3), .val (.int j171_0), .unset, .unset, .unset, .unset] []) _
          refine Go.by (fun t k => XS.iconst X41.here hx rfl (hb hby at_187) k) ?_
          show Go p e below T41 (mkF m 188 #[.val (.int p1), .val (.int p2), .val (.int p3), .val (.int p4), .val (.int p5), .val (.int (1 : Int32)), .val (.int av), .val (.int ((1 : Int32) + av)), .val (.ref b35), .val (.int lb), .val (.int x1), .val (.int x2), .val (.int x3), .val (.int j171_0), .unset, .unset, .unset, .unset] [(.int (0 : Int32))]) _
          exact J188 (0 : Int32) (by rw [own_ok1, if_pos hc63, if_pos hc64])
        · refine Go.by (fun t k => XS.icmpNo X41.here hx rfl (hb hby at_180) rfl (flt hc64).1 k) ?_
          show Go p e below T41 (mkF m 183 #[.val (.int p1), .val (.int p2), .val (.int p3), .val (.int p4), .val (.int p5), .val (.int (1 : Int32)), .val (.int av), .val (.int ((1 : Int32) + av)), .val (.ref b35), .val (.int lb), .val (.int x1), .val (.int x2), .val (.int x3), .val (.int j171_0), .unset, .unset, .unset, .unset] []) _
          refine Go.by (fun t k => XS.iconst X41.here hx rfl (hb hby at_183) k) ?_
          show Go p e below T41 (mkF m 184 #[.val (.int p1), .val (.int p2), .val (.int p3), .val (.int p4), .val (.int p5), .val (.int (1 : Int32)), .val (.int av), .val (.int ((1 : Int32) + av)), .val (.ref b35), .val (.int lb), .val (.int x1), .val (.int x2), .val (.int x3), .val (.int j171_0), .unset, .unset, .unset, .unset] [(.int (1 : Int32))]) _
          refine Go.by (fun t k => XS.goto X41.here hx rfl (pc0 := 184) (pc' := 188) rfl (hb hby at_184) (by decide) (by decide) k) ?_
          show Go p e below T41 (mkF m 188 #[.val (.int p1), .val (.int p2), .val (.int p3), .val (.int p4), .val (.int p5), .val (.int (1 : Int32)), .val (.int av), .val (.int ((1 : Int32) + av)), .val (.ref b35), .val (.int lb), .val (.int x1), .val (.int x2), .val (.int x3), .val (.int j171_0), .unset, .unset, .unset, .unset] [(.int (1 : Int32))]) _
          exact J188 (1 : Int32) (by rw [own_ok1, if_pos hc63, if_neg hc64])
      · refine Go.by (fun t k => XS.ifYes X41.here hx rfl (pc0 := 173) (pc' := 187) rfl (hb hby at_173) rfl ((if0 _ _).trans (flt hc63).2.2.2) (by decide) (by decide) k) ?_
        show Go p e below T41 (mkF m 187 #[.val (.int p1), .val (.int p2), .val (.int p3), .val (.int p4), .val (.int p5), .val (.int (1 : Int32)), .val (.int av), .val (.int ((1 : Int32) + av)), .val (.ref b35), .val (.int lb), .val (.int x1), .val (.int x2), .val (.int x3), .val (.int j171_0), .unset, .unset, .unset, .unset] []) _
        refine Go.by (fun t k => XS.iconst X41.here hx rfl (hb hby at_187) k) ?_
        show Go p e below T41 (mkF m 188 #[.val (.int p1), .val (.int p2), .val (.int p3), .val (.int p4), .val (.int p5), .val (.int (1 : Int32)), .val (.int av), .val (.int ((1 : Int32) + av)), .val (.ref b35), .val (.int lb), .val (.int x1), .val (.int x2), .val (.int x3), .val (.int j171_0), .unset, .unset, .unset, .unset] [(.int (0 : Int32))]) _
        exact J188 (0 : Int32) (by rw [own_ok1, if_neg hc63])
    by_cases hc65 : lb < (192 : Int32)
    · refine Go.by (fun t k => XS.icmpNo X41.here hx rfl (hb hby at_117) rfl (tlt hc65).2.1 k) ?_
      show Go p e below T41 (mkF m 120 #[.val (.int p1), .val (.int p2), .val (.int p3), .val (.int p4), .val (.int p5), .val (.int (1 : Int32)), .val (.int av), .val (.int ((1 : Int32) + av)), .val (.ref b35), .val (.int lb), .val (.int x1), .val (.int x2), .val (.int x3), .unset, .unset, .unset, .unset, .unset] []) _
      refine Go.by (fun t k => XS.iconst X41.here hx rfl (hb hby at_120) k) ?_
      show Go p e below T41 (mkF m 121 #[.val (.int p1), .val (.int p2), .val (.int p3), .val (.int p4), .val (.int p5), .val (.int (1 : Int32)), .val (.int av), .val (.int ((1 : Int32) + av)), .val (.ref b35), .val (.int lb), .val (.int x1), .val (.int x2), .val (.int x3), .unset, .unset, .unset, .unset, .unset] [(.int (0 : Int32))]) _
      refine Go.by (fun t k => XS.istore X41.here hx rfl (hb hby at_121) rfl (l' := #[.val (.int p1), .val (.int p2), .val (.int p3), .val (.int p4), .val (.int p5), .val (.int (1 : Int32)), .val (.int av), .val (.int ((1 : Int32) + av)), .val (.ref b35), .val (.int lb), .val (.int x1), .val (.int x2), .val (.int x3), .val (.int (0 : Int32)), .unset, .unset, .unset, .unset]) rfl k) ?_
      show Go p e below T41 (mkF m 123 #[.val (.int p1), .val (.int p2), .val (.int p3), .val (.int p4), .val (.int p5), .val (.int (1 : Int32)), .val (.int av), .val (.int ((1 : Int32) + av)), .val (.ref b35), .val (.int lb), .val (.int x1), .val (.int x2), .val (.int x3), .val (.int (0 : Int32)), .unset, .unset, .unset, .unset] []) _
      refine Go.by (fun t k => XS.goto X41.here hx rfl (pc0 := 123) (pc' := 171) rfl (hb hby at_123) (by decide) (by decide) k) ?_
      show Go p e below T41 (mkF m 171 #[.val (.int p1), .val (.int p2), .val (.int p3), .val (.int p4), .val (.int p5), .val (.int (1 : Int32)), .val (.int av), .val (.int ((1 : Int32) + av)), .val (.ref b35), .val (.int lb), .val (.int x1), .val (.int x2), .val (.int x3), .val (.int (0 : Int32)), .unset, .unset, .unset, .unset] []) _
      exact J171 (0 : Int32) (by rw [own_n, if_pos hc65])
    · refine Go.by (fun t k => XS.icmpYes X41.here hx rfl (pc0 := 117) (pc' := 126) rfl (hb hby at_117) rfl (flt hc65).2.1 (by decide) (by decide) k) ?_
      show Go p e below T41 (mkF m 126 #[.val (.int p1), .val (.int p2), .val (.int p3), .val (.int p4), .val (.int p5), .val (.int (1 : Int32)), .val (.int av), .val (.int ((1 : Int32) + av)), .val (.ref b35), .val (.int lb), .val (.int x1), .val (.int x2), .val (.int x3), .unset, .unset, .unset, .unset, .unset] []) _
      refine Go.by (fun t k => XS.iload X41.here hx rfl (hb hby at_126) rfl k) ?_
      show Go p e below T41 (mkF m 128 #[.val (.int p1), .val (.int p2), .val (.int p3), .val (.int p4), .val (.int p5), .val (.int (1 : Int32)), .val (.int av), .val (.int ((1 : Int32) + av)), .val (.ref b35), .val (.int lb), .val (.int x1), .val (.int x2), .val (.int x3), .unset, .unset, .unset, .unset, .unset] [(.int lb)]) _
      refine Go.by (fun t k => XS.sipush X41.here hx rfl (hb hby at_128) k) ?_
      show Go p e below T41 (mkF m 131 #[.val (.int p1), .val (.int p2), .val (.int p3), .val (.int p4), .val (.int p5), .val (.int (1 : Int32)), .val (.int av), .val (.int ((1 : Int32) + av)), .val (.ref b35), .val (.int lb), .val (.int x1), .val (.int x2), .val (.int x3), .unset, .unset, .unset, .unset, .unset] [(.int (224 : Int32)), (.int lb)]) _
      by_cases hc66 : lb < (224 : Int32)
      · refine Go.by (fun t k => XS.icmpNo X41.here hx rfl (hb hby at_131) rfl (tlt hc66).2.1 k) ?_
        show Go p e below T41 (mkF m 134 #[.val (.int p1), .val (.int p2), .val (.int p3), .val (.int p4), .val (.int p5), .val (.int (1 : Int32)), .val (.int av), .val (.int ((1 : Int32) + av)), .val (.ref b35), .val (.int lb), .val (.int x1), .val (.int x2), .val (.int x3), .unset, .unset, .unset, .unset, .unset] []) _
        refine Go.by (fun t k => XS.iconst X41.here hx rfl (hb hby at_134) k) ?_
        show Go p e below T41 (mkF m 135 #[.val (.int p1), .val (.int p2), .val (.int p3), .val (.int p4), .val (.int p5), .val (.int (1 : Int32)), .val (.int av), .val (.int ((1 : Int32) + av)), .val (.ref b35), .val (.int lb), .val (.int x1), .val (.int x2), .val (.int x3), .unset, .unset, .unset, .unset, .unset] [(.int (2 : Int32))]) _
        refine Go.by (fun t k => XS.istore X41.here hx rfl (hb hby at_135) rfl (l' := #[.val (.int p1), .val (.int p2), .val (.int p3), .val (.int p4), .val (.int p5), .val (.int (1 : Int32)), .val (.int av), .val (.int ((1 : Int32) + av)), .val (.ref b35), .val (.int lb), .val (.int x1), .val (.int x2), .val (.int x3), .val (.int (2 : Int32)), .unset, .unset, .unset, .unset]) rfl k) ?_
        show Go p e below T41 (mkF m 137 #[.val (.int p1), .val (.int p2), .val (.int p3), .val (.int p4), .val (.int p5), .val (.int (1 : Int32)), .val (.int av), .val (.int ((1 : Int32) + av)), .val (.ref b35), .val (.int lb), .val (.int x1), .val (.int x2), .val (.int x3), .val (.int (2 : Int32)), .unset, .unset, .unset, .unset] []) _
        refine Go.by (fun t k => XS.goto X41.here hx rfl (pc0 := 137) (pc' := 171) rfl (hb hby at_137) (by decide) (by decide) k) ?_
        show Go p e below T41 (mkF m 171 #[.val (.int p1), .val (.int p2), .val (.int p3), .val (.int p4), .val (.int p5), .val (.int (1 : Int32)), .val (.int av), .val (.int ((1 : Int32) + av)), .val (.ref b35), .val (.int lb), .val (.int x1), .val (.int x2), .val (.int x3), .val (.int (2 : Int32)), .unset, .unset, .unset, .unset] []) _
        exact J171 (2 : Int32) (by rw [own_n, if_neg hc65, if_pos hc66])
      · refine Go.by (fun t k => XS.icmpYes X41.here hx rfl (pc0 := 131) (pc' := 140) rfl (hb hby at_131) rfl (flt hc66).2.1 (by decide) (by decide) k) ?_
        show Go p e below T41 (mkF m 140 #[.val (.int p1), .val (.int p2), .val (.int p3), .val (.int p4), .val (.int p5), .val (.int (1 : Int32)), .val (.int av), .val (.int ((1 : Int32) + av)), .val (.ref b35), .val (.int lb), .val (.int x1), .val (.int x2), .val (.int x3), .unset, .unset, .unset, .unset, .unset] []) _
        refine Go.by (fun t k => XS.iload X41.here hx rfl (hb hby at_140) rfl k) ?_
        show Go p e below T41 (mkF m 142 #[.val (.int p1), .val (.int p2), .val (.int p3), .val (.int p4), .val (.int p5), .val (.int (1 : Int32)), .val (.int av), .val (.int ((1 : Int32) + av)), .val (.ref b35), .val (.int lb), .val (.int x1), .val (.int x2), .val (.int x3), .unset, .unset, .unset, .unset, .unset] [(.int lb)]) _
        refine Go.by (fun t k => XS.sipush X41.here hx rfl (hb hby at_142) k) ?_
        show Go p e below T41 (mkF m 145 #[.val (.int p1), .val (.int p2), .val (.int p3), .val (.int p4), .val (.int p5), .val (.int (1 : Int32)), .val (.int av), .val (.int ((1 : Int32) + av)), .val (.ref b35), .val (.int lb), .val (.int x1), .val (.int x2), .val (.int x3), .unset, .unset, .unset, .unset, .unset] [(.int (240 : Int32)), (.int lb)]) _
        by_cases hc67 : lb < (240 : Int32)
        · refine Go.by (fun t k => XS.icmpNo X41.here hx rfl (hb hby at_145) rfl (tlt hc67).2.1 k) ?_
          show Go p e below T41 (mkF m 148 #[.val (.int p1), .val (.int p2), .val (.int p3), .val (.int p4), .val (.int p5), .val (.int (1 : Int32)), .val (.int av), .val (.int ((1 : Int32) + av)), .val (.ref b35), .val (.int lb), .val (.int x1), .val (.int x2), .val (.int x3), .unset, .unset, .unset, .unset, .unset] []) _
          refine Go.by (fun t k => XS.iconst X41.here hx rfl (hb hby at_148) k) ?_
          show Go p e below T41 (mkF m 149 #[.val (.int p1), .val (.int p2), .val (.int p3), .val (.int p4), .val (.int p5), .val (.int (1 : Int32)), .val (.int av), .val (.int ((1 : Int32) + av)), .val (.ref b35), .val (.int lb), .val (.int x1), .val (.int x2), .val (.int x3), .unset, .unset, .unset, .unset, .unset] [(.int (3 : Int32))]) _
          refine Go.by (fun t k => XS.istore X41.here hx rfl (hb hby at_149) rfl (l' := #[.val (.int p1), .val (.int p2), .val (.int p3), .val (.int p4), .val (.int p5), .val (.int (1 : Int32)), .val (.int av), .val (.int ((1 : Int32) + av)), .val (.ref b35), .val (.int lb), .val (.int x1), .val (.int x2), .val (.int x3), .val (.int (3 : Int32)), .unset, .unset, .unset, .unset]) rfl k) ?_
          show Go p e below T41 (mkF m 151 #[.val (.int p1), .val (.int p2), .val (.int p3), .val (.int p4), .val (.int p5), .val (.int (1 : Int32)), .val (.int av), .val (.int ((1 : Int32) + av)), .val (.ref b35), .val (.int lb), .val (.int x1), .val (.int x2), .val (.int x3), .val (.int (3 : Int32)), .unset, .unset, .unset, .unset] []) _
          refine Go.by (fun t k => XS.goto X41.here hx rfl (pc0 := 151) (pc' := 171) rfl (hb hby at_151) (by decide) (by decide) k) ?_
          show Go p e below T41 (mkF m 171 #[.val (.int p1), .val (.int p2), .val (.int p3), .val (.int p4), .val (.int p5), .val (.int (1 : Int32)), .val (.int av), .val (.int ((1 : Int32) + av)), .val (.ref b35), .val (.int lb), .val (.int x1), .val (.int x2), .val (.int x3), .val (.int (3 : Int32)), .unset, .unset, .unset, .unset] []) _
          exact J171 (3 : Int32) (by rw [own_n, if_neg hc65, if_neg hc66, if_pos hc67])
        · refine Go.by (fun t k => XS.icmpYes X41.here hx rfl (pc0 := 145) (pc' := 154) rfl (hb hby at_145) rfl (flt hc67).2.1 (by decide) (by decide) k) ?_
          show Go p e below T41 (mkF m 154 #[.val (.int p1), .val (.int p2), .val (.int p3), .val (.int p4), .val (.int p5), .val (.int (1 : Int32)), .val (.int av), .val (.int ((1 : Int32) + av)), .val (.ref b35), .val (.int lb), .val (.int x1), .val (.int x2), .val (.int x3), .unset, .unset, .unset, .unset, .unset] []) _
          refine Go.by (fun t k => XS.iload X41.here hx rfl (hb hby at_154) rfl k) ?_
          show Go p e below T41 (mkF m 156 #[.val (.int p1), .val (.int p2), .val (.int p3), .val (.int p4), .val (.int p5), .val (.int (1 : Int32)), .val (.int av), .val (.int ((1 : Int32) + av)), .val (.ref b35), .val (.int lb), .val (.int x1), .val (.int x2), .val (.int x3), .unset, .unset, .unset, .unset, .unset] [(.int lb)]) _
          refine Go.by (fun t k => XS.sipush X41.here hx rfl (hb hby at_156) k) ?_
          show Go p e below T41 (mkF m 159 #[.val (.int p1), .val (.int p2), .val (.int p3), .val (.int p4), .val (.int p5), .val (.int (1 : Int32)), .val (.int av), .val (.int ((1 : Int32) + av)), .val (.ref b35), .val (.int lb), .val (.int x1), .val (.int x2), .val (.int x3), .unset, .unset, .unset, .unset, .unset] [(.int (248 : Int32)), (.int lb)]) _
          by_cases hc68 : lb < (248 : Int32)
          · refine Go.by (fun t k => XS.icmpNo X41.here hx rfl (hb hby at_159) rfl (tlt hc68).2.1 k) ?_
            show Go p e below T41 (mkF m 162 #[.val (.int p1), .val (.int p2), .val (.int p3), .val (.int p4), .val (.int p5), .val (.int (1 : Int32)), .val (.int av), .val (.int ((1 : Int32) + av)), .val (.ref b35), .val (.int lb), .val (.int x1), .val (.int x2), .val (.int x3), .unset, .unset, .unset, .unset, .unset] []) _
            refine Go.by (fun t k => XS.iconst X41.here hx rfl (hb hby at_162) k) ?_
            show Go p e below T41 (mkF m 163 #[.val (.int p1), .val (.int p2), .val (.int p3), .val (.int p4), .val (.int p5), .val (.int (1 : Int32)), .val (.int av), .val (.int ((1 : Int32) + av)), .val (.ref b35), .val (.int lb), .val (.int x1), .val (.int x2), .val (.int x3), .unset, .unset, .unset, .unset, .unset] [(.int (4 : Int32))]) _
            refine Go.by (fun t k => XS.istore X41.here hx rfl (hb hby at_163) rfl (l' := #[.val (.int p1), .val (.int p2), .val (.int p3), .val (.int p4), .val (.int p5), .val (.int (1 : Int32)), .val (.int av), .val (.int ((1 : Int32) + av)), .val (.ref b35), .val (.int lb), .val (.int x1), .val (.int x2), .val (.int x3), .val (.int (4 : Int32)), .unset, .unset, .unset, .unset]) rfl k) ?_
            show Go p e below T41 (mkF m 165 #[.val (.int p1), .val (.int p2), .val (.int p3), .val (.int p4), .val (.int p5), .val (.int (1 : Int32)), .val (.int av), .val (.int ((1 : Int32) + av)), .val (.ref b35), .val (.int lb), .val (.int x1), .val (.int x2), .val (.int x3), .val (.int (4 : Int32)), .unset, .unset, .unset, .unset] []) _
            refine Go.by (fun t k => XS.goto X41.here hx rfl (pc0 := 165) (pc' := 171) rfl (hb hby at_165) (by decide) (by decide) k) ?_
            show Go p e below T41 (mkF m 171 #[.val (.int p1), .val (.int p2), .val (.int p3), .val (.int p4), .val (.int p5), .val (.int (1 : Int32)), .val (.int av), .val (.int ((1 : Int32) + av)), .val (.ref b35), .val (.int lb), .val (.int x1), .val (.int x2), .val (.int x3), .val (.int (4 : Int32)), .unset, .unset, .unset, .unset] []) _
            exact J171 (4 : Int32) (by rw [own_n, if_neg hc65, if_neg hc66, if_neg hc67, if_pos hc68])
          · refine Go.by (fun t k => XS.icmpYes X41.here hx rfl (pc0 := 159) (pc' := 168) rfl (hb hby at_159) rfl (flt hc68).2.1 (by decide) (by decide) k) ?_
            show Go p e below T41 (mkF m 168 #[.val (.int p1), .val (.int p2), .val (.int p3), .val (.int p4), .val (.int p5), .val (.int (1 : Int32)), .val (.int av), .val (.int ((1 : Int32) + av)), .val (.ref b35), .val (.int lb), .val (.int x1), .val (.int x2), .val (.int x3), .unset, .unset, .unset, .unset, .unset] []) _
            refine Go.by (fun t k => XS.iconst X41.here hx rfl (hb hby at_168) k) ?_
            show Go p e below T41 (mkF m 169 #[.val (.int p1), .val (.int p2), .val (.int p3), .val (.int p4), .val (.int p5), .val (.int (1 : Int32)), .val (.int av), .val (.int ((1 : Int32) + av)), .val (.ref b35), .val (.int lb), .val (.int x1), .val (.int x2), .val (.int x3), .unset, .unset, .unset, .unset, .unset] [(.int (0 : Int32))]) _
            refine Go.by (fun t k => XS.istore X41.here hx rfl (hb hby at_169) rfl (l' := #[.val (.int p1), .val (.int p2), .val (.int p3), .val (.int p4), .val (.int p5), .val (.int (1 : Int32)), .val (.int av), .val (.int ((1 : Int32) + av)), .val (.ref b35), .val (.int lb), .val (.int x1), .val (.int x2), .val (.int x3), .val (.int (0 : Int32)), .unset, .unset, .unset, .unset]) rfl k) ?_
            show Go p e below T41 (mkF m 171 #[.val (.int p1), .val (.int p2), .val (.int p3), .val (.int p4), .val (.int p5), .val (.int (1 : Int32)), .val (.int av), .val (.int ((1 : Int32) + av)), .val (.ref b35), .val (.int lb), .val (.int x1), .val (.int x2), .val (.int x3), .val (.int (0 : Int32)), .unset, .unset, .unset, .unset] []) _
            exact J171 (0 : Int32) (by rw [own_n, if_neg hc65, if_neg hc66, if_neg hc67, if_neg hc68])
set_option maxRecDepth 65536 in
set_option maxHeartbeats 40000000 in
theorem comes_1 {Post : Tables → Env → Array Value → State → Outcome → State → Prop} (hpost : ∀ tb e args s v u, (limb_1_1.after args s (.returned v) u = true ∧ limb_1_2.after args s (.returned v) u = true ∧ True) → FrameEnd s (.returned v) u (Jvm.fieldLocs frame_1_writes args s ++ Jvm.arrayLocs frame_1_arrays args s ++ Jvm.staticLocs frame_1_statics s) 16 128 → Post tb e args s (.returned v) u) :
    ArmFor flags0 classFile x code maxLocals ret World_1 tables_1 room_1 Calls_1 rest_1 Pre_1 Post := by
  intro l hfl _ _ p e ha hc hk s m args below hf hA hF happ hP
  obtain ⟨hcalls, hrest, hpre⟩ := hP
  obtain ⟨-, -, -, hnamed, -, -, -, hat⟩ := (Spec.applies_iff hf).mp happ
  obtain ⟨hg, hn⟩ := and_e (Cond.before_iff.mp (show (Jvm.Cond.and given_1 narrow_1).before args s = true from hpre))
  obtain ⟨g1, g2⟩ := and_e hg
  obtain ⟨g3, g4⟩ := and_e g2
  obtain ⟨g5, g6⟩ := and_e g4
  obtain ⟨g7, g8⟩ := and_e g6
  obtain ⟨g9, g10⟩ := and_e g8
  obtain ⟨w0, w1, w2, w3, w4, rfl⟩ : ∃ w0 w1 w2 w3 w4 : Value, args = #[w0, w1, w2, w3, w4] := by
    have hs : args.size = 5 := by simpa [Cond.value, given_1] using g1
    obtain ⟨L⟩ := args
    match L, hs with
    | [w0, w1, w2, w3, w4], _ => exact ⟨w0, w1, w2, w3, w4, rfl⟩
  have hw := fun d (hd : d ∈ tables_1) => atoms_spec (ws := Jvm.Cond.code x code maxLocals ret :: tables_1) hat d (List.mem_cons_of_mem _ hd)
  obtain ⟨i0, ei0⟩ := is_v g3
  obtain rfl : w0 = (.int i0) := Option.some.inj ei0
  obtain ⟨i1, ei1⟩ := is_v g5
  obtain rfl : w1 = (.int i1) := Option.some.inj ei1
  obtain ⟨i2, ei2⟩ := is_v g7
  obtain rfl : w2 = (.int i2) := Option.some.inj ei2
  obtain ⟨i3, ei3⟩ := is_v g9
  obtain rfl : w3 = (.int i3) := Option.some.inj ei3
  obtain ⟨i4, ei4⟩ := is_v g10
  obtain rfl : w4 = (.int i4) := Option.some.inj ei4
  obtain ⟨n, o, h1, h2, h3, _, L, rfl, ⟨rfl, N⟩, hq⟩ := rm0 l s _ hw tables_1 i0 i1 i2 i3 i4 s.heap s.heap.size (Nat.le_refl _) p e ha hc hk s m _ below hf ((Spec.applies_iff_loose hf).mp happ).1 ⟨rfl, State.Warmed39.refl s, rfl⟩ trivial
  refine ⟨n, _, h1, h2, h3, hpost _ _ _ _ _ _ ⟨Cond.after_iff.mpr rfl, Cond.after_iff.mpr (eq_i res_at (Term.int_eval (1)) rfl), trivial⟩ ⟨hq.1, hq.2.1, (hq.2.2.sift fun y hy => Or.inr (N y hy)).mono (by decide) (by decide)⟩⟩
theorem main_1_1 : Claimed_1_1 := comes_1 fun _ _ _ _ _ _ h hF => ⟨h.1, hF⟩
theorem main_1_2 : Claimed_1_2 := comes_1 fun _ _ _ _ _ _ h hF => ⟨h.2.1, hF⟩
end Jvm.Pilot.@@N@@
namespace Jvm.Pilot.@@N@@
open Jvm Jvm.ClassFile Sem Op Lib Jvm.Free Jvm.Stand Jvm.Pilot.@@N@@.Jvm.D
/-! MADE BY PROGRAM (witnessworld.py) out of the Statement's table words and the real class files: 9 classes; the members and pool entries that the words name. The judged class is class 1, her method 1. -/
namespace start1
open Jvm.ClassFile
def u (s : String) : CpInfo := .utf8 (stringToUtf16 s)
/-- a pool by its gaps: so many unusable entries, then the entry; so many at the end -/
def gap : Nat → List CpInfo → List CpInfo
  | 0, r => r
  | n + 1, r => .unusable :: gap n r
def poolList (es : List (Nat × CpInfo)) (last : Nat) : List CpInfo := es.foldr (fun e r => gap e.1 (e.2 :: r)) (gap last [])
def pool (es : List (Nat × CpInfo)) (last : Nat) : Array CpInfo := ⟨poolList es last⟩
def fileOf (pool : Array CpInfo) (this : Nat) (attrs : Array Attribute := #[]) (ms : Array MethodInfo := #[]) (fl : Nat := 33) (sup : Nat := 0) (ifs : Array Nat := #[]) (fds : Array FieldInfo := #[]) : ClassFile where
  minorVersion := 0
  majorVersion := 65
  constantPool := pool
  accessFlags := fl
  thisClass := this
  superClass := sup
  interfaces := ifs
  fields := fds
  methods := ms
  attributes := attrs
def plain (name : String) (sup : Option ClassId) : Class where
  name := name
  kind := .ordinary
  loader := none
  accessFlags := 33
  super := sup
  interfaces := #[]
  cf := none
  fields := #[]
  methods := #[]
  instanceTypes := #[]
  staticTypes := #[]
  resolved := #[]
  callSites := []
  init := .initialized
  statics := none
  mirror := none

def pool0 : Array CpInfo := pool [(5, u "<init>"), (0, u "()V"), (1, .class_ 10), (1, u "java/lang/Object")] 113

def k0m0 : Method := { name := "<init>", desc := "()V", sig := { parameters := [], returnType := none }, accessFlags := 1, code := none }
/-- java/lang/Object -/
def k0 : Class := { plain "java/lang/Object" none with
  accessFlags := 33
  interfaces := #[]
  cf := some (fileOf pool0 8 #[] #[{ accessFlags := 1, nameIndex := 5, descriptorIndex := 6, attributes := #[] }] 33 0 #[] #[])
  fields := #[]
  methods := #[k0m0]
  instanceTypes := #[]
  staticTypes := #[]
  resolved := Array.replicate 124 none
  statics := none }

def pool1 : Array CpInfo := pool [(2, .class_ 4), (1, u "java/lang/Object"), (0, u "<init>"), (0, u "()V"), (0, .methodref 8 9), (0, .class_ 10), (0, .nameAndType 11 12), (0, u "com/example/tillscan/tillscan/core/Utf8CharacterEndPinLaw"), (0, u "cont"), (0, u "(I)Z"), (0, .integer 65536), (0, .integer 1114111), (0, .integer 55296), (0, .integer 57343), (0, .methodref 18 19), (0, .class_ 20), (0, .nameAndType 21 22), (0, u "com/example/tillscan/tillscan/core/Utf8"), (0, u "characterEnd"), (0, u "([BII)I"), (2, u "law"), (0, u "(IIIII)Z")] 5

def k1m0 : Method := { name := "<init>", desc := "()V", sig := { parameters := [], returnType := none }, accessFlags := 2, code := none }
def k1c1 : Code := { maxStack := 5, maxLocals := 18, code := code, exceptionTable := #[], attributes := #[] }
def k1m1 : Method := { name := "law", desc := "(IIIII)Z", sig := { parameters := [.int, .int, .int, .int, .int], returnType := some .boolean }, accessFlags := 9, code := some k1c1 }
def k1c2 : Code := { maxStack := 2, maxLocals := 1, code := method_3_code, exceptionTable := #[], attributes := #[] }
def k1m2 : Method := { name := "cont", desc := "(I)Z", sig := { parameters := [.int], returnType := some .boolean }, accessFlags := 10, code := some k1c2 }
/-- com/example/tillscan/tillscan/core/Utf8CharacterEndPinLaw -/
def k1 : Class := { plain "com/example/tillscan/tillscan/core/Utf8CharacterEndPinLaw" (some 0) with
  accessFlags := 49
  interfaces := #[]
  cf := some (fileOf pool1 8 #[] #[{ accessFlags := 2, nameIndex := 5, descriptorIndex := 6, attributes := #[] }, { accessFlags := 9, nameIndex := 25, descriptorIndex := 26, attributes := #[] }, { accessFlags := 10, nameIndex := 11, descriptorIndex := 12, attributes := #[] }] 49 2 #[] #[])
  fields := #[]
  methods := #[k1m0, k1m1, k1m2]
  instanceTypes := #[]
  staticTypes := #[]
  resolved := Array.replicate 32 none
  statics := none }

def pool2 : Array CpInfo := pool [(2, .class_ 4), (1, u "java/lang/Object"), (0, u "<init>"), (0, u "()V"), (1, .class_ 10), (1, u "com/example/tillscan/tillscan/core/Utf8"), (18, u "length"), (29, u "([BII)I"), (31, u "characterEnd"), (0, .methodref 8 93), (0, .nameAndType 29 94), (0, u "(B)I")] 11

def k2m0 : Method := { name := "<init>", desc := "()V", sig := { parameters := [], returnType := none }, accessFlags := 2, code := none }
def k2c1 : Code := { maxStack := 2, maxLocals := 3, code := prog_42_method_7_code, exceptionTable := #[], attributes := #[] }
def k2m1 : Method := { name := "length", desc := "(B)I", sig := { parameters := [.byte], returnType := some .int }, accessFlags := 8, code := some k2c1 }
def k2c2 : Code := { maxStack := 3, maxLocals := 9, code := prog_42_method_8_code, exceptionTable := #[], attributes := #[] }
def k2m2 : Method := { name := "characterEnd", desc := "([BII)I", sig := { parameters := [(.array .byte), .int, .int], returnType := some .int }, accessFlags := 8, code := some k2c2 }
/-- com/example/tillscan/tillscan/core/Utf8 -/
def k2 : Class := { plain "com/example/tillscan/tillscan/core/Utf8" (some 0) with
  accessFlags := 49
  interfaces := #[]
  cf := some (fileOf pool2 8 #[] #[{ accessFlags := 2, nameIndex := 5, descriptorIndex := 6, attributes := #[] }, { accessFlags := 8, nameIndex := 29, descriptorIndex := 94, attributes := #[] }, { accessFlags := 8, nameIndex := 91, descriptorIndex := 59, attributes := #[] }] 49 2 #[] #[])
  fields := #[]
  methods := #[k2m0, k2m1, k2m2]
  instanceTypes := #[]
  staticTypes := #[]
  resolved := Array.replicate 106 none
  statics := none }

def pool3 : Array CpInfo := pool [(1, u "java/lang/Cloneable"), (0, .class_ 1), (0, u "java/lang/Object"), (0, .class_ 3)] 3

/-- java/lang/Cloneable -/
def k3 : Class := { plain "java/lang/Cloneable" (some 0) with
  accessFlags := 1537
  interfaces := #[]
  cf := some (fileOf pool3 2 #[] #[] 1537 4 #[] #[])
  fields := #[]
  methods := #[]
  instanceTypes := #[]
  staticTypes := #[]
  resolved := Array.replicate 8 none
  statics := none }

def pool4 : Array CpInfo := pool [(1, u "java/io/Serializable"), (0, .class_ 1), (0, u "java/lang/Object"), (0, .class_ 3)] 3

/-- java/io/Serializable -/
def k4 : Class := { plain "java/io/Serializable" (some 0) with
  accessFlags := 1537
  interfaces := #[]
  cf := some (fileOf pool4 2 #[] #[] 1537 4 #[] #[])
  fields := #[]
  methods := #[]
  instanceTypes := #[]
  staticTypes := #[]
  resolved := Array.replicate 8 none
  statics := none }

/-- the primitive byte -/
def k5 : Class := { plain "byte" none with kind := .primitive 'B', accessFlags := 0x411 }
/-- [B -/
def k6 : Class := { plain "[B" (some 0) with kind := .array 5 .byte, interfaces := #[3, 4], accessFlags := 1041 }

/-- the primitive int -/
def k7 : Class := { plain "int" none with kind := .primitive 'I', accessFlags := 0x411 }
/-- [I -/
def k8 : Class := { plain "[I" (some 0) with kind := .array 7 .int, interfaces := #[3, 4], accessFlags := 1041 }

def heap : Heap := #[]
def classes : Array Class := #[k0, k1, k2, k3, k4, k5, k6, k7, k8]
def interned : List (Array UInt16 × Addr) := []
def slotsUsed : Nat := 0
def theMethod : MethodId := ⟨1, 1⟩
def args0 : Array Value := #[.int 5, .int 6, .int 7, .int 8, .int 9]
def aboutOver (below : List Frame) : State where
  vm := { classes := classes, interned := interned.toArray }
  heap := heap
  slotsUsed := slotsUsed
  threads := #[{ frames := .invoking theMethod args0 :: below }]
def below0 : List Frame := [.native { method := ⟨0, 0⟩, args := #[] }]
def about1 : State := aboutOver below0
def p0 : Program := .bare "" "" ""
def e0 : Env := launch0.env 0 0 0
theorem w_frames : about1.frames = Frame.invoking theMethod args0 :: below0 := rfl
set_option maxRecDepth 65536 in
theorem w_args : argsFit about1.vm theMethod args0 = true := by decide +kernel
set_option maxRecDepth 65536 in
theorem w_heap : heapFits about1 = true := by decide +kernel
set_option maxRecDepth 65536 in
theorem w_runnable : about1.curStatus? = some .runnable := by decide +kernel
set_option maxRecDepth 65536 in
theorem w_alone : about1.alone = true := by decide +kernel
set_option maxRecDepth 65536 in
theorem w_named : about1.methodNamed? x = some theMethod := by decide +kernel
set_option maxRecDepth 65536 in
theorem w_hears : about1.hears theMethod below0 = true := by decide +kernel
set_option maxRecDepth 65536 in
theorem w_ripe : about1.ripe theMethod args0 below0 = true := by decide +kernel
theorem w_running : about1.status = .running := rfl
set_option maxRecDepth 65536 in
theorem w_room : about1.hasRoom e0.platform room_1 = true :=
  launch0.hasRoom_least _ room_1 (by decide +kernel) (by decide +kernel) (by decide +kernel) (by decide +kernel) (by decide +kernel) (by decide +kernel)
theorem allAtoms_all (ts : List Jvm.Cond) (a : Array Jvm.Value) (st : Jvm.State) : (allAtoms ts).before a st = ts.all (fun c => c.before a st) := by
  induction ts with
  | nil => rfl
  | cons c t ih =>
    show (Jvm.Cond.and c (allAtoms t)).before a st = _
    rw [Jvm.Cond.before_and, ih, List.all_cons]
def words1 : List Jvm.Cond := Jvm.Cond.code x code maxLocals ret :: tables_1
/-- a 'code' word, met by the world's own term for the bytes: nothing is compared byte by byte -/
theorem code_word {y : MethodName} {bytes : ByteArray} {mx : Nat} {rt : Option FieldType} {a : Array Value} {s : State} {m : MethodId} {meth : Method} {c : Code} (h1 : s.methodNamed? y = some m) (h2 : s.vm.method? m = some meth) (h3 : meth.code = some c) (h4 : c.code = bytes)
    (h5 : (c.maxLocals == mx && c.exceptionTable.isEmpty && decide (c.maxStack ≤ mostOperands) && decide (meth.sig.returnType = rt) && !meth.locks && decide (parseMethodDescriptor y.desc = some meth.sig)) = true) : (Jvm.Cond.code y bytes mx rt).before a s = true := by
  simp only [Bool.and_eq_true, beq_iff_eq, Bool.not_eq_true', decide_eq_true_eq] at h5
  obtain ⟨⟨⟨⟨⟨g1, g2⟩, g3⟩, g4⟩, g5⟩, g6⟩ := h5
  simp [Cond.before, Cond.holds, Cond.value, h1, h2, h3, h4, g1, g2, g3, g4, g5, g6]
def isCode : Jvm.Cond → Bool
  | .code _ _ _ _ => true
  | _ => false
theorem all_split {L : List Jvm.Cond} {P : Jvm.Cond → Bool} (h1 : L.all (fun c => isCode c || P c) = true) (h2 : ∀ c ∈ L.filter isCode, P c = true) : L.all P = true := by
  refine List.all_eq_true.mpr fun c hc => ?_
  have h := List.all_eq_true.mp h1 c hc
  rcases Bool.eq_false_or_eq_true (isCode c) with hi | hi
  · exact h2 c (List.mem_filter.mpr ⟨hc, hi⟩)
  · simpa [hi] using h
set_option maxRecDepth 65536 in
theorem w_c0 : (Jvm.Cond.code x code maxLocals ret).before args0 about1 = true := code_word (m := ⟨1, 1⟩) (meth := k1m1) (c := k1c1) (by decide +kernel) rfl rfl rfl (by decide +kernel)
set_option maxRecDepth 65536 in
theorem w_c1 : (Jvm.Cond.code ({ cls := "com/example/tillscan/tillscan/core/Utf8", name := "characterEnd", desc := "([BII)I" } : Jvm.MethodName) prog_42_method_8_code (9 : Nat) (Option.some Jvm.ClassFile.FieldType.int)).before args0 about1 = true := code_word (m := ⟨2, 2⟩) (meth := k2m2) (c := k2c2) (by decide +kernel) rfl rfl rfl (by decide +kernel)
set_option maxRecDepth 65536 in
theorem w_c2 : (Jvm.Cond.code ({ cls := "com/example/tillscan/tillscan/core/Utf8", name := "length", desc := "(B)I" } : Jvm.MethodName) prog_42_method_7_code (3 : Nat) (Option.some Jvm.ClassFile.FieldType.int)).before args0 about1 = true := code_word (m := ⟨2, 1⟩) (meth := k2m1) (c := k2c1) (by decide +kernel) rfl rfl rfl (by decide +kernel)
set_option maxRecDepth 65536 in
theorem w_c3 : (Jvm.Cond.code ({ cls := "com/example/tillscan/tillscan/core/Utf8CharacterEndPinLaw", name := "cont", desc := "(I)Z" } : Jvm.MethodName) method_3_code (1 : Nat) (Option.some Jvm.ClassFile.FieldType.boolean)).before args0 about1 = true := code_word (m := ⟨1, 2⟩) (meth := k1m2) (c := k1c2) (by decide +kernel) rfl rfl rfl (by decide +kernel)
def codes1 : List Jvm.Cond := [Jvm.Cond.code x code maxLocals ret, Jvm.Cond.code ({ cls := "com/example/tillscan/tillscan/core/Utf8", name := "characterEnd", desc := "([BII)I" } : Jvm.MethodName) prog_42_method_8_code (9 : Nat) (Option.some Jvm.ClassFile.FieldType.int), Jvm.Cond.code ({ cls := "com/example/tillscan/tillscan/core/Utf8", name := "length", desc := "(B)I" } : Jvm.MethodName) prog_42_method_7_code (3 : Nat) (Option.some Jvm.ClassFile.FieldType.int), Jvm.Cond.code ({ cls := "com/example/tillscan/tillscan/core/Utf8CharacterEndPinLaw", name := "cont", desc := "(I)Z" } : Jvm.MethodName) method_3_code (1 : Nat) (Option.some Jvm.ClassFile.FieldType.boolean)]
set_option maxRecDepth 65536 in
theorem codes_eq : words1.filter isCode = codes1 := rfl
theorem w_codes : ∀ c ∈ words1.filter isCode, c.before args0 about1 = true := by
  rw [codes_eq]
  intro c hc
  simp only [codes1, List.mem_cons, List.not_mem_nil, or_false] at hc
  rcases hc with rfl | rfl | rfl | rfl
  · exact w_c0
  · exact w_c1
  · exact w_c2
  · exact w_c3
set_option maxRecDepth 65536 in
theorem w_t1 : words1.all (fun c => isCode c || c.before args0 about1) = true := by decide +kernel
theorem w_tables : (allAtoms (Jvm.Cond.code x code maxLocals ret :: tables_1)).before args0 about1 = true := by
  rw [allAtoms_all]
  show words1.all (fun c => c.before args0 about1) = true
  refine all_split ?_ w_codes
  rw [w_t1]
set_option maxRecDepth 65536 in
theorem w_case : (Jvm.Cond.and given_1 narrow_1).before args0 about1 = true := by decide +kernel
theorem w_applies : (headSpec (Jvm.Cond.code x code maxLocals ret :: tables_1) room_1).applies x e0.platform about1 = true :=
  (Spec.applies_iff w_frames).mpr ⟨w_running, w_runnable, w_alone, w_named, w_hears, w_ripe, w_room, w_tables⟩
theorem atStart : AtStart classFile x code maxLocals ret World_1 tables_1 room_1 Calls_1 rest_1 Pre_1 launch0 p0 e0 about1 theMethod args0 below0 :=
  ⟨lists_1, trivial, launch0.admits_env _ _ _, launch0.least_env, fairChoices_fair.cas, fairChoices_fair.clock, w_frames, w_args, w_heap, w_applies, trivial, trivial, w_case⟩
end start1
theorem witness_1 : WitnessClaimed_1 := ⟨start1.p0, start1.e0, start1.about1, start1.theMethod, start1.args0, start1.below0, start1.atStart⟩
end Jvm.Pilot.@@N@@
