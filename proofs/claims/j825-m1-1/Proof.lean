import JvmDerived
import JvmDerived.Pilot.@@N@@Statement
import JvmDerived.Pilot.@@N@@Code
set_option linter.unusedVariables false
set_option linter.unusedSimpArgs false
@@BLOCK:NumsL.lean.txt@@
namespace Jvm.RoadKit
open Sem ClassFile Op Lib Jvm.Stand Jvm.Free Jvm.LawKit
section New
variable {p : Program} {l : Launch} {e : Env} {R : Room} {s : State} {m : MethodId} {args : Array Value} {below : List Frame} {meth : Method} {c : Code} {T : State} {locs : List Loc} {cells slots : Nat}
theorem retI (X : Stand p l e R s m args below meth c T locs cells slots) (hx : p.tables.exec = Jvm.exec) {pc : Nat} {Ls : Array Slot} {z : Int32} {rest : List Value} (hret : meth.sig.returnType = some .int) (hd : decode c.code pc = .ok (.ireturn, 1)) {fs : List Frame}
    (hl : ∀ (f : JFrame) (acts : List Action), f.method = m → f.locked = none → f.entered = [] → (doReturn e (T.setTop f) acts (some (.int z))).1 = T.setFrames fs) : Steps p.tables e below (T.setTop (mkF m pc Ls (.int z :: rest))) (T.setFrames fs) :=
  retOut X hx hret rfl (Or.inl ⟨rfl, Or.inl rfl, z, rfl⟩) hd hl
theorem retJ (X : Stand p l e R s m args below meth c T locs cells slots) (hx : p.tables.exec = Jvm.exec) {pc : Nat} {Ls : Array Slot} {z : Int64} {rest : List Value} (hret : meth.sig.returnType = some .long) (hd : decode c.code pc = .ok (.lreturn, 1)) {fs : List Frame}
    (hl : ∀ (f : JFrame) (acts : List Action), f.method = m → f.locked = none → f.entered = [] → (doReturn e (T.setTop f) acts (some (.long z))).1 = T.setFrames fs) : Steps p.tables e below (T.setTop (mkF m pc Ls (.long z :: rest))) (T.setFrames fs) :=
  retOut X hx hret rfl (Or.inr (Or.inl ⟨rfl, rfl, z, rfl⟩)) hd hl
theorem retA (X : Stand p l e R s m args below meth c T locs cells slots) (hx : p.tables.exec = Jvm.exec) {pc : Nat} {Ls : Array Slot} {w : Value} {t : FieldType} {rest : List Value} (hret : meth.sig.returnType = some t) (hn : narrow t w = w) (ht : t.isReference = true ∧ w.isRef = true) (hd : decode c.code pc = .ok (.areturn, 1)) {fs : List Frame}
    (hl : ∀ (f : JFrame) (acts : List Action), f.method = m → f.locked = none → f.entered = [] → (doReturn e (T.setTop f) acts (some w)).1 = T.setFrames fs) : Steps p.tables e below (T.setTop (mkF m pc Ls (w :: rest))) (T.setFrames fs) :=
  retOut X hx hret hn (Or.inr (Or.inr (Or.inr (Or.inr ⟨rfl, ht.1, ht.2⟩)))) hd hl
def Go (p : Program) (e : Env) (below : List Frame) (T : State) (f : JFrame) (Post : Outcome → State → Prop) : Prop :=
  ∃ s₂ o, Steps p.tables e below (T.setTop f) s₂ ∧ s₂.status = .running ∧ Ended s₂ below o ∧ Post o s₂
theorem Go.by {T T' : State} {f f' : JFrame} {Post : Outcome → State → Prop} (st : ∀ t, Steps p.tables e below (T'.setTop f') t → Steps p.tables e below (T.setTop f) t) (k : Go p e below T' f' Post) : Go p e below T f Post := by
  obtain ⟨s2, o, a, b⟩ := k
  exact ⟨s2, o, st _ a, b⟩
theorem Go.start {T : State} {f g : JFrame} {Post : Outcome → State → Prop} (q : f = g) (k : Go p e below T g Post) : ∃ s₂ o, Steps p.tables e below (T.setTop f) s₂ ∧ s₂.status = .running ∧ Ended s₂ below o ∧ Post o s₂ := by
  subst q; exact k
theorem Go.done {T s₂ : State} {f : JFrame} {o : Outcome} {Post : Outcome → State → Prop} (a : Steps p.tables e below (T.setTop f) s₂) (b : s₂.status = .running) (c : Ended s₂ below o) (d : Post o s₂) : Go p e below T f Post := ⟨s₂, o, a, b, c, d⟩
def own_ushr (x y : Int32) : Int32 := (x.toUInt32 >>> (y &&& 31).toUInt32).toInt32
def own_ushrL (x : Int64) (y : Int32) : Int64 := (x.toUInt64 >>> (y &&& 63).toInt64.toUInt64).toInt64
theorem own_cmpV (x y : Int64) : lcmpW x y = lcmpV x y := lcW x y
theorem own_holdsLt (z : Int32) : ifCond.holds .lt z = decide (z < 0) := rfl
theorem own_holdsGe (z : Int32) : ifCond.holds .ge z = decide (z ≥ 0) := rfl
theorem own_holdsGt (z : Int32) : ifCond.holds .gt z = decide (z > 0) := rfl
theorem own_holdsLe (z : Int32) : ifCond.holds .le z = decide (z ≤ 0) := rfl
theorem own_holdsEq (z : Int32) : ifCond.holds .eq z = (z == 0) := rfl
theorem own_holdsNe (z : Int32) : ifCond.holds .ne z = (z != 0) := rfl
theorem ctlt {x y : Int64} (h : x < y) : ifCond.holds .lt (lcmpW x y) = true ∧ ifCond.holds .ge (lcmpW x y) = false ∧ ifCond.holds .gt (lcmpW y x) = true ∧ ifCond.holds .le (lcmpW y x) = false := by
  rw [own_holdsLt, own_holdsGe, own_holdsGt, own_holdsLe, own_cmpV, own_cmpV]
  refine ⟨decide_eq_true ((lc_lt x y).mpr h), decide_eq_false fun q => ?_, decide_eq_true ((lc_gt y x).mpr h), decide_eq_false fun q => ?_⟩
  · exact Int64.not_le.mpr h ((lc_ge x y).mp q)
  · exact Int64.not_le.mpr h ((lc_le y x).mp q)
theorem cflt {x y : Int64} (h : ¬ x < y) : ifCond.holds .lt (lcmpW x y) = false ∧ ifCond.holds .ge (lcmpW x y) = true ∧ ifCond.holds .gt (lcmpW y x) = false ∧ ifCond.holds .le (lcmpW y x) = true := by
  rw [own_holdsLt, own_holdsGe, own_holdsGt, own_holdsLe, own_cmpV, own_cmpV]
  exact ⟨decide_eq_false fun q => h ((lc_lt x y).mp q), decide_eq_true ((lc_ge x y).mpr (Int64.not_lt.mp h)), decide_eq_false fun q => h ((lc_gt y x).mp q), decide_eq_true ((lc_le y x).mpr (Int64.not_lt.mp h))⟩
theorem cteq {x y : Int64} (h : x = y) : ifCond.holds .eq (lcmpW x y) = true ∧ ifCond.holds .ne (lcmpW x y) = false := by
  rw [own_holdsEq, own_holdsNe, own_cmpV, (lc_eq x y).mpr h]; exact ⟨rfl, rfl⟩
theorem cfeq {x y : Int64} (h : ¬ x = y) : ifCond.holds .eq (lcmpW x y) = false ∧ ifCond.holds .ne (lcmpW x y) = true := by
  have q : ¬ lcmpV x y = 0 := fun r => h ((lc_eq x y).mp r)
  rw [own_holdsEq, own_holdsNe, own_cmpV]
  exact ⟨beq_false_of_ne q, bne_iff_ne.mpr q⟩
theorem Arr.keep {Z : State} {h h' : Heap} {a : Addr} {cl : Cell} {ty : FieldType} {ws : List Addr} (F : Arr Z h a cl ty) (K : Keep h h' ws) (q : a ∉ ws) : Arr Z h' a cl ty := ⟨K.2.1 a cl F.1 q, F.2⟩
theorem own_selPriv {y : MethodName} {s : State} {args : Array Value} {n : Nat} (hy : y.cls ≠ "java/lang/invoke/MethodHandle" ∧ y.cls ≠ "java/lang/invoke/VarHandle") (hins : (Cond.instantiable y.cls n).before args s = true) (hpriv : (Cond.privateMethod y).before args s = true) (hinst : (Cond.instanceMethod y).before args s = true) :
    (Cond.selects y.cls y y).before args s = true := by
  obtain ⟨c, k, hc, hk, -, hniab, -, -⟩ := Cond.instantiable_spec hins
  have hni : k.isInterface = false := (Bool.or_eq_false_iff.mp hniab).1
  obtain ⟨mk, methM, hnamed, hmethM, -, -⟩ := Cond.instanceMethod_spec hinst
  have hfound : s.methodFound? y.cls y.name y.desc = some mk := State.methodFound?_of_named hnamed hy
  have hcls : mk.cls = c := Option.some.inj ((findClass_of_methodNamed hnamed).symm.trans hc)
  have hsel : selectMethod {} s.vm c mk = .method mk := selectMethod_private hmethM (Cond.privateMethod_at hpriv mk methM hnamed hmethM)
  simp only [Cond.before, Cond.holds, Cond.value, hc, hfound, hnamed, hsel, hcls, hk]
  simp; exact hni
end New
end Jvm.RoadKit
namespace Jvm.Pilot.@@N@@
open Jvm Jvm.ClassFile Sem Op Lib Jvm.Free Jvm.Stand Jvm.LawKit Jvm.RoadKit Bundle Jvm.Pilot.@@N@@.Jvm.D
def f1 (p1 : Int32) : Int32 :=
  if p1 < (65 : Int32) then (if p1 < (97 : Int32) then (0 : Int32)
    else (if (122 : Int32) < p1 then (0 : Int32)
      else (1 : Int32)))
  else (if (90 : Int32) < p1 then (if p1 < (97 : Int32) then (0 : Int32)
      else (if (122 : Int32) < p1 then (0 : Int32)
        else (1 : Int32)))
    else (1 : Int32))
theorem d1_0 : decode prog_43_method_4_code 0 = .ok (.iload_n 0, 1) := by decide +kernel
theorem d1_1 : decode prog_43_method_4_code 1 = .ok (.bipush 65, 2) := by decide +kernel
theorem d1_3 : decode prog_43_method_4_code 3 = .ok (.if_icmp .lt 9, 3) := by decide +kernel
theorem d1_6 : decode prog_43_method_4_code 6 = .ok (.iload_n 0, 1) := by decide +kernel
theorem d1_7 : decode prog_43_method_4_code 7 = .ok (.bipush 90, 2) := by decide +kernel
theorem d1_9 : decode prog_43_method_4_code 9 = .ok (.if_icmp .le 15, 3) := by decide +kernel
theorem d1_12 : decode prog_43_method_4_code 12 = .ok (.iload_n 0, 1) := by decide +kernel
theorem d1_13 : decode prog_43_method_4_code 13 = .ok (.bipush 97, 2) := by decide +kernel
theorem d1_15 : decode prog_43_method_4_code 15 = .ok (.if_icmp .lt 13, 3) := by decide +kernel
theorem d1_18 : decode prog_43_method_4_code 18 = .ok (.iload_n 0, 1) := by decide +kernel
theorem d1_19 : decode prog_43_method_4_code 19 = .ok (.bipush 122, 2) := by decide +kernel
theorem d1_21 : decode prog_43_method_4_code 21 = .ok (.if_icmp .gt 7, 3) := by decide +kernel
theorem d1_24 : decode prog_43_method_4_code 24 = .ok (.iconst 1, 1) := by decide +kernel
theorem d1_25 : decode prog_43_method_4_code 25 = .ok (.goto 4, 3) := by decide +kernel
theorem d1_28 : decode prog_43_method_4_code 28 = .ok (.iconst 0, 1) := by decide +kernel
theorem d1_29 : decode prog_43_method_4_code 29 = .ok (.ireturn, 1) := by decide +kernel
theorem pn_0 : plainName "com/example/crawlex/crawlex/parse/AsciiCase" = true := by first | (simp [plainName, overriddenIn]; done) | decide +kernel
theorem ef_1 (m : MethodId) (x0 : Int32) : entryFrame m #[(.int x0)] 1 = mkF m 0 #[.val (.int x0)] [] := by first | (simp [entryFrame, mkF, argsToLocals, Value.category]; done) | rfl
def Q1 (Z : State) (p1 : Int32) (h0 : Heap) (n0 : Nat) (v : Option Value) (h : Heap) (L : List Loc) : Prop := v = some (.int (f1 p1)) ∧ Fr n0 L ∧ h = h0
set_option maxRecDepth 65536 in
set_option maxHeartbeats 40000000 in
theorem rm1 (l : Launch) (Z : State) (a0 : Array Value) (hw : ∀ d ∈ tables_1, d.before a0 Z = true) (ws : List Jvm.Cond) (p1 : Int32) (h0 : Heap) (n0 : Nat) (Z0 : n0 ≤ h0.size) :
    MetFree l (⟨"com/example/crawlex/crawlex/parse/AsciiCase", "isLetter", "(C)Z"⟩ : MethodName) (head1 (Jvm.Cond.code (⟨"com/example/crawlex/crawlex/parse/AsciiCase", "isLetter", "(C)Z"⟩ : MethodName) prog_43_method_4_code 1 (some .boolean) :: ws) ({ frames := 0, cells := 0, slots := 0, locals := 0 } : Room)) (fun a U => a = #[(.int p1)] ∧ Z.Warmed39 U.vm ∧ U.heap = h0) (fun _ _ _ _ _ => True) (fun _ U o U' => ∃ v L, o = .returned v ∧ Q1 Z p1 h0 n0 v U'.heap L ∧ FrameEnd U o U' L ({ frames := 0, cells := 0, slots := 0, locals := 0 } : Room).cells ({ frames := 0, cells := 0, slots := 0, locals := 0 } : Room).slots) := by
  refine MetFree.of_bodySF (plainFor_of_name pn_0) hisR ?_
  intro p e s m args below meth c s₁ Bd hml0 hP hK
  obtain ⟨rfl, hZ, hh⟩ := hP
  have hx := Bd.exec
  have hby := Bd.bytes
  have hml : c.maxLocals = 1 := hml0
  have hown : s.vm.findClass "com/example/crawlex/crawlex/parse/AsciiCase" = some m.cls := findClass_of_methodNamed Bd.named
  have hnm := (name_of_methodNamed Bd.named Bd.method).1
  have X0 : Stand p l e ({ frames := 0, cells := 0, slots := 0, locals := 0 } : Room) s m #[(.int p1)] below meth c s₁ [] 0 0 := Stand.of_body Bd
  have e0 : s₁.heap = h0 := by rw [← hh, Bd.state]; rfl
  have N0 := Fr.nil n0
  refine Go.start (ef_1 m p1) ?_
  show Go p e below s₁ (mkF m 0 #[.val (.int p1)] []) _
  refine Go.by (fun t k => XS.iloadN X0.here hx rfl (hb hby d1_0) rfl k) ?_
  show Go p e below s₁ (mkF m 1 #[.val (.int p1)] [(.int p1)]) _
  refine Go.by (fun t k => XS.bipush X0.here hx rfl (hb hby d1_1) k) ?_
  show Go p e below s₁ (mkF m 3 #[.val (.int p1)] [(.int (65 : Int32)), (.int p1)]) _
  by_cases hc1 : p1 < (65 : Int32)
  · refine Go.by (fun t k => XS.icmpYes X0.here hx rfl (pc0 := 3) (pc' := 12) rfl (hb hby d1_3) rfl (tlt hc1).1 (by decide) (by decide) k) ?_
    show Go p e below s₁ (mkF m 12 #[.val (.int p1)] []) _
    refine Go.by (fun t k => XS.iloadN X0.here hx rfl (hb hby d1_12) rfl k) ?_
    show Go p e below s₁ (mkF m 13 #[.val (.int p1)] [(.int p1)]) _
    refine Go.by (fun t k => XS.bipush X0.here hx rfl (hb hby d1_13) k) ?_
    show Go p e below s₁ (mkF m 15 #[.val (.int p1)] [(.int (97 : Int32)), (.int p1)]) _
    by_cases hc2 : p1 < (97 : Int32)
    · refine Go.by (fun t k => XS.icmpYes X0.here hx rfl (pc0 := 15) (pc' := 28) rfl (hb hby d1_15) rfl (tlt hc2).1 (by decide) (by decide) k) ?_
      show Go p e below s₁ (mkF m 28 #[.val (.int p1)] []) _
      refine Go.by (fun t k => XS.iconst X0.here hx rfl (hb hby d1_28) k) ?_
      show Go p e below s₁ (mkF m 29 #[.val (.int p1)] [(.int (0 : Int32))]) _
      obtain ⟨fs, hr, hrun, hended, hW, hsame⟩ := X0.leave (v := some (.int (0 : Int32))) (fun h => by rw [Bd.returns] at h; cases h)
      refine Go.done (retN X0 hx (t := .boolean) Bd.returns (by simp) (hb hby d1_29) hr) hrun hended ⟨_, _, rfl, ?_, ⟨_, rfl⟩, hW, hsame.mono (by decide) (by decide)⟩
      show Q1 Z p1 h0 n0 _ s₁.heap _
      rw [e0]
      refine ⟨?_, N0, rfl⟩
      rw [f1, if_pos hc1, if_pos hc2]
    · refine Go.by (fun t k => XS.icmpNo X0.here hx rfl (hb hby d1_15) rfl (flt hc2).1 k) ?_
      show Go p e below s₁ (mkF m 18 #[.val (.int p1)] []) _
      refine Go.by (fun t k => XS.iloadN X0.here hx rfl (hb hby d1_18) rfl k) ?_
      show Go p e below s₁ (mkF m 19 #[.val (.int p1)] [(.int p1)]) _
      refine Go.by (fun t k => XS.bipush X0.here hx rfl (hb hby d1_19) k) ?_
      show Go p e below s₁ (mkF m 21 #[.val (.int p1)] [(.int (122 : Int32)), (.int p1)]) _
      by_cases hc3 : (122 : Int32) < p1
      · refine Go.by (fun t k => XS.icmpYes X0.here hx rfl (pc0 := 21) (pc' := 28) rfl (hb hby d1_21) rfl (tlt hc3).2.2.1 (by decide) (by decide) k) ?_
        show Go p e below s₁ (mkF m 28 #[.val (.int p1)] []) _
        refine Go.by (fun t k => XS.iconst X0.here hx rfl (hb hby d1_28) k) ?_
        show Go p e below s₁ (mkF m 29 #[.val (.int p1)] [(.int (0 : Int32))]) _
        obtain ⟨fs, hr, hrun, hended, hW, hsame⟩ := X0.leave (v := some (.int (0 : Int32))) (fun h => by rw [Bd.returns] at h; cases h)
        refine Go.done (retN X0 hx (t := .boolean) Bd.returns (by simp) (hb hby d1_29) hr) hrun hended ⟨_, _, rfl, ?_, ⟨_, rfl⟩, hW, hsame.mono (by decide) (by decide)⟩
        show Q1 Z p1 h0 n0 _ s₁.heap _
        rw [e0]
        refine ⟨?_, N0, rfl⟩
        rw [f1, if_pos hc1, if_neg hc2, if_pos hc3]
      · refine Go.by (fun t k => XS.icmpNo X0.here hx rfl (hb hby d1_21) rfl (flt hc3).2.2.1 k) ?_
        show Go p e below s₁ (mkF m 24 #[.val (.int p1)] []) _
        refine Go.by (fun t k => XS.iconst X0.here hx rfl (hb hby d1_24) k) ?_
        show Go p e below s₁ (mkF m 25 #[.val (.int p1)] [(.int (1 : Int32))]) _
        refine Go.by (fun t k => XS.goto X0.here hx rfl (pc0 := 25) (pc' := 29) rfl (hb hby d1_25) (by decide) (by decide) k) ?_
        show Go p e below s₁ (mkF m 29 #[.val (.int p1)] [(.int (1 : Int32))]) _
        obtain ⟨fs, hr, hrun, hended, hW, hsame⟩ := X0.leave (v := some (.int (1 : Int32))) (fun h => by rw [Bd.returns] at h; cases h)
        refine Go.done (retN X0 hx (t := .boolean) Bd.returns (by simp) (hb hby d1_29) hr) hrun hended ⟨_, _, rfl, ?_, ⟨_, rfl⟩, hW, hsame.mono (by decide) (by decide)⟩
        show Q1 Z p1 h0 n0 _ s₁.heap _
        rw [e0]
        refine ⟨?_, N0, rfl⟩
        rw [f1, if_pos hc1, if_neg hc2, if_neg hc3]
  · refine Go.by (fun t k => XS.icmpNo X0.here hx rfl (hb hby d1_3) rfl (flt hc1).1 k) ?_
    show Go p e below s₁ (mkF m 6 #[.val (.int p1)] []) _
    refine Go.by (fun t k => XS.iloadN X0.here hx rfl (hb hby d1_6) rfl k) ?_
    show Go p e below s₁ (mkF m 7 #[.val (.int p1)] [(.int p1)]) _
    refine Go.by (fun t k => XS.bipush X0.here hx rfl (hb hby d1_7) k) ?_
    show Go p e below s₁ (mkF m 9 #[.val (.int p1)] [(.int (90 : Int32)), (.int p1)]) _
    by_cases hc4 : (90 : Int32) < p1
    · refine Go.by (fun t k => XS.icmpNo X0.here hx rfl (hb hby d1_9) rfl (tlt hc4).2.2.2 k) ?_
      show Go p e below s₁ (mkF m 12 #[.val (.int p1)] []) _
      refine Go.by (fun t k => XS.iloadN X0.here hx rfl (hb hby d1_12) rfl k) ?_
      show Go p e below s₁ (mkF m 13 #[.val (.int p1)] [(.int p1)]) _
      refine Go.by (fun t k => XS.bipush X0.here hx rfl (hb hby d1_13) k) ?_
      show Go p e below s₁ (mkF m 15 #[.val (.int p1)] [(.int (97 : Int32)), (.int p1)]) _
      by_cases hc5 : p1 < (97 : Int32)
      · refine Go.by (fun t k => XS.icmpYes X0.here hx rfl (pc0 := 15) (pc' := 28) rfl (hb hby d1_15) rfl (tlt hc5).1 (by decide) (by decide) k) ?_
        show Go p e below s₁ (mkF m 28 #[.val (.int p1)] []) _
        refine Go.by (fun t k => XS.iconst X0.here hx rfl (hb hby d1_28) k) ?_
        show Go p e below s₁ (mkF m 29 #[.val (.int p1)] [(.int (0 : Int32))]) _
        obtain ⟨fs, hr, hrun, hended, hW, hsame⟩ := X0.leave (v := some (.int (0 : Int32))) (fun h => by rw [Bd.returns] at h; cases h)
        refine Go.done (retN X0 hx (t := .boolean) Bd.returns (by simp) (hb hby d1_29) hr) hrun hended ⟨_, _, rfl, ?_, ⟨_, rfl⟩, hW, hsame.mono (by decide) (by decide)⟩
        show Q1 Z p1 h0 n0 _ s₁.heap _
        rw [e0]
        refine ⟨?_, N0, rfl⟩
        rw [f1, if_neg hc1, if_pos hc4, if_pos hc5]
      · refine Go.by (fun t k => XS.icmpNo X0.here hx rfl (hb hby d1_15) rfl (flt hc5).1 k) ?_
        show Go p e below s₁ (mkF m 18 #[.val (.int p1)] []) _
        refine Go.by (fun t k => XS.iloadN X0.here hx rfl (hb hby d1_18) rfl k) ?_
        show Go p e below s₁ (mkF m 19 #[.val (.int p1)] [(.int p1)]) _
        refine Go.by (fun t k => XS.bipush X0.here hx rfl (hb hby d1_19) k) ?_
        show Go p e below s₁ (mkF m 21 #[.val (.int p1)] [(.int (122 : Int32)), (.int p1)]) _
        by_cases hc6 : (122 : Int32) < p1
        · refine Go.by (fun t k => XS.icmpYes X0.here hx rfl (pc0 := 21) (pc' := 28) rfl (hb hby d1_21) rfl (tlt hc6).2.2.1 (by decide) (by decide) k) ?_
          show Go p e below s₁ (mkF m 28 #[.val (.int p1)] []) _
          refine Go.by (fun t k => XS.iconst X0.here hx rfl (hb hby d1_28) k) ?_
          show Go p e below s₁ (mkF m 29 #[.val (.int p1)] [(.int (0 : Int32))]) _
          obtain ⟨fs, hr, hrun, hended, hW, hsame⟩ := X0.leave (v := some (.int (0 : Int32))) (fun h => by rw [Bd.returns] at h; cases h)
          refine Go.done (retN X0 hx (t := .boolean) Bd.returns (by simp) (hb hby d1_29) hr) hrun hended ⟨_, _, rfl, ?_, ⟨_, rfl⟩, hW, hsame.mono (by decide) (by decide)⟩
          show Q1 Z p1 h0 n0 _ s₁.heap _
          rw [e0]
          refine ⟨?_, N0, rfl⟩
          rw [f1, if_neg hc1, if_pos hc4, if_neg hc5, if_pos hc6]
        · refine Go.by (fun t k => XS.icmpNo X0.here hx rfl (hb hby d1_21) rfl (flt hc6).2.2.1 k) ?_
          show Go p e below s₁ (mkF m 24 #[.val (.int p1)] []) _
          refine Go.by (fun t k => XS.iconst X0.here hx rfl (hb hby d1_24) k) ?_
          show Go p e below s₁ (mkF m 25 #[.val (.int p1)] [(.int (1 : Int32))]) _
          refine Go.by (fun t k => XS.goto X0.here hx rfl (pc0 := 25) (pc' := 29) rfl (hb hby d1_25) (by decide) (by decide) k) ?_
          show Go p e below s₁ (mkF m 29 #[.val (.int p1)] [(.int (1 : Int32))]) _
          obtain ⟨fs, hr, hrun, hended, hW, hsame⟩ := X0.leave (v := some (.int (1 : Int32))) (fun h => by rw [Bd.returns] at h; cases h)
          refine Go.done (retN X0 hx (t := .boolean) Bd.returns (by simp) (hb hby d1_29) hr) hrun hended ⟨_, _, rfl, ?_, ⟨_, rfl⟩, hW, hsame.mono (by decide) (by decide)⟩
          show Q1 Z p1 h0 n0 _ s₁.heap _
          rw [e0]
          refine ⟨?_, N0, rfl⟩
          rw [f1, if_neg hc1, if_pos hc4, if_neg hc5, if_neg hc6]
    · refine Go.by (fun t k => XS.icmpYes X0.here hx rfl (pc0 := 9) (pc' := 24) rfl (hb hby d1_9) rfl (flt hc4).2.2.2 (by decide) (by decide) k) ?_
      show Go p e below s₁ (mkF m 24 #[.val (.int p1)] []) _
      refine Go.by (fun t k => XS.iconst X0.here hx rfl (hb hby d1_24) k) ?_
      show Go p e below s₁ (mkF m 25 #[.val (.int p1)] [(.int (1 : Int32))]) _
      refine Go.by (fun t k => XS.goto X0.here hx rfl (pc0 := 25) (pc' := 29) rfl (hb hby d1_25) (by decide) (by decide) k) ?_
      show Go p e below s₁ (mkF m 29 #[.val (.int p1)] [(.int (1 : Int32))]) _
      obtain ⟨fs, hr, hrun, hended, hW, hsame⟩ := X0.leave (v := some (.int (1 : Int32))) (fun h => by rw [Bd.returns] at h; cases h)
      refine Go.done (retN X0 hx (t := .boolean) Bd.returns (by simp) (hb hby d1_29) hr) hrun hended ⟨_, _, rfl, ?_, ⟨_, rfl⟩, hW, hsame.mono (by decide) (by decide)⟩
      show Q1 Z p1 h0 n0 _ s₁.heap _
      rw [e0]
      refine ⟨?_, N0, rfl⟩
      rw [f1, if_neg hc1, if_neg hc4]
def own_az (c : Int32) : Prop := (65 ≤ c.toInt ∧ c.toInt ≤ 90) ∨ (97 ≤ c.toInt ∧ c.toInt ≤ 122)
theorem own_32 : (32 : Int32).toBitVec = BitVec.twoPow 32 5 := by decide
theorem own_or32 (c : Int32) : c ||| 32 = c ∨ c ||| 32 = c + 32 := by
  by_cases h : c.toBitVec.getLsbD 5 = true
  · left
    apply Int32.toBitVec_inj.mp
    rw [Int32.toBitVec_or, own_32]
    apply BitVec.eq_of_getLsbD_eq
    intro i hi
    rw [BitVec.getLsbD_or, BitVec.getLsbD_twoPow]
    by_cases q : 5 = i
    · subst q; simp [h]
    · simp [q]
  · right
    apply Int32.toBitVec_inj.mp
    rw [Int32.toBitVec_or, Int32.toBitVec_add, own_32]
    symm
    apply BitVec.add_eq_or_of_and_eq_zero
    apply BitVec.eq_of_getLsbD_eq
    intro i hi
    rw [BitVec.getLsbD_and, BitVec.getLsbD_twoPow]
    by_cases q : 5 = i
    · subst q
      rw [Bool.eq_false_iff.mpr h, Bool.false_and]
      decide
    · simp [q]
theorem own_fin : ∀ k : Fin 26, (Int32.ofInt (65 + (k.val : Int)) ||| 32).toInt = 97 + (k.val : Int) ∧ (Int32.ofInt (97 + (k.val : Int)) ||| 32).toInt = 97 + (k.val : Int) := by decide
theorem own_or_az (c : Int32) : (97 ≤ (c ||| 32).toInt ∧ (c ||| 32).toInt ≤ 122) ↔ own_az c := by
  have b1 := c.toInt_lt
  have b2 := c.le_toInt
  constructor
  · intro h
    unfold own_az
    rcases own_or32 c with q | q
    · rw [q] at h; omega
    · rw [q, Int32.toInt_add, Int.bmod_def] at h
      simp only [Int32.reduceToInt] at h
      omega
  · intro h
    have e : Int32.ofInt c.toInt = c := Int32.ofInt_toInt c
    rcases h with h | h
    · have f := (own_fin ⟨(c.toInt - 65).toNat, by omega⟩).1
      have e2 : (65 : Int) + (((c.toInt - 65).toNat : Nat) : Int) = c.toInt := by omega
      simp only [e2, e] at f
      omega
    · have f := (own_fin ⟨(c.toInt - 97).toNat, by omega⟩).2
      have e2 : (97 : Int) + (((c.toInt - 97).toNat : Nat) : Int) = c.toInt := by omega
      simp only [e2, e] at f
      omega

theorem own_v (y : Int32) : (¬ y - 97 < 0 ∧ y - 97 < 26) ↔ (97 ≤ y.toInt ∧ y.toInt ≤ 122) := by
  have b1 := y.toInt_lt
  have b2 := y.le_toInt
  rw [Int32.lt_iff_toInt_lt, Int32.lt_iff_toInt_lt, Int32.toInt_sub, Int.bmod_def]
  simp only [Int32.reduceToInt]
  omega
theorem own_yes (c : Int32) (h : own_az c) : f1 c = 1 := by
  unfold own_az at h
  unfold f1
  simp only [Int32.lt_iff_toInt_lt, Int32.reduceToInt]
  repeat' split
  all_goals first
    | rfl
    | (exfalso; omega)
theorem own_no (c : Int32) (h : ¬ own_az c) : f1 c = 0 := by
  unfold own_az at h
  unfold f1
  simp only [Int32.lt_iff_toInt_lt, Int32.reduceToInt]
  repeat' split
  all_goals first
    | rfl
    | (exfalso; omega)
theorem own_in (c : Int32) (h1 : ¬ (c ||| 32) - 97 < 0) (h2 : (c ||| 32) - 97 < 26) : f1 c = 1 := own_yes c ((own_or_az c).mp ((own_v _).mp ⟨h1, h2⟩))
theorem own_lo (c : Int32) (h1 : (c ||| 32) - 97 < 0) : f1 c = 0 := own_no c fun q => ((own_v _).mpr ((own_or_az c).mpr q)).1 h1
theorem own_hi (c : Int32) (h2 : ¬ (c ||| 32) - 97 < 26) : f1 c = 0 := own_no c fun q => h2 ((own_v _).mpr ((own_or_az c).mpr q)).2
theorem pd_0 : parseMethodDescriptor "(C)Z" = some ⟨[.char], some .boolean⟩ := by decide +kernel
theorem pn_1 : plainName "com/example/crawlex/crawlex/parse/AsciiCaseIsLetterPinLaw" = true := by first | (simp [plainName, overriddenIn]; done) | decide +kernel
theorem ef_0 (m : MethodId) (x0 : Int32) : entryFrame m #[(.int x0)] maxLocals = mkF m 0 #[.val (.int x0), .unset, .unset, .unset] [] := by first | (simp [entryFrame, mkF, argsToLocals, Value.category, maxLocals]; done) | rfl
def Q0 (Z : State) (p1 : Int32) (h0 : Heap) (n0 : Nat) (v : Option Value) (h : Heap) (L : List Loc) : Prop := v = some (.int 1) ∧ Fr n0 L
set_option maxRecDepth 65536 in
set_option maxHeartbeats 40000000 in
theorem rm0 (l : Launch) (Z : State) (a0 : Array Value) (hw : ∀ d ∈ tables_1, d.before a0 Z = true) (ws : List Jvm.Cond) (p1 : Int32) (h0 : Heap) (n0 : Nat) (Z0 : n0 ≤ h0.size) :
    MetFree l x (head1 (Jvm.Cond.code x code maxLocals ret :: ws) room_1) (fun a U => a = #[(.int p1)] ∧ Z.Warmed39 U.vm ∧ U.heap = h0) (fun _ _ _ _ _ => True) (fun _ U o U' => ∃ v L, o = .returned v ∧ Q0 Z p1 h0 n0 v U'.heap L ∧ FrameEnd U o U' L room_1.cells room_1.slots) := by
  refine MetFree.of_bodySF (plainFor_of_name pn_1) hisR ?_
  intro p e s m args below meth c s₁ Bd hml0 hP hK
  obtain ⟨rfl, hZ, hh⟩ := hP
  have hx := Bd.exec
  have hby := Bd.bytes
  have hml : c.maxLocals = 4 := hml0
  have hown : s.vm.findClass "com/example/crawlex/crawlex/parse/AsciiCaseIsLetterPinLaw" = some m.cls := findClass_of_methodNamed Bd.named
  have hnm := (name_of_methodNamed Bd.named Bd.method).1
  have X0 : Stand p l e room_1 s m #[(.int p1)] below meth c s₁ [] 0 0 := Stand.of_body Bd
  have e0 : s₁.heap = h0 := by rw [← hh, Bd.state]; rfl
  have N0 := Fr.nil n0
  refine Go.start (ef_0 m p1) ?_
  show Go p e below s₁ (mkF m 0 #[.val (.int p1), .unset, .unset, .unset] []) _
  refine Go.by (fun t k => XS.iloadN X0.here hx rfl (hb hby at_0) rfl k) ?_
  show Go p e below s₁ (mkF m 1 #[.val (.int p1), .unset, .unset, .unset] [(.int p1)]) _
  refine Go.by (fun t k => X0.ldcInt hx hown (mvT hZ (hw _ (List.mem_of_getElem? (i := 0) rfl))) (g := (mkF m 1 #[.val (.int p1), .unset, .unset, .unset] [(.int p1)])) rfl (hb hby at_1) t k) ?_
  show Go p e below s₁ (mkF m 3 #[.val (.int p1), .unset, .unset, .unset] [(.int (65535 : Int32)), (.int p1)]) _
  refine Go.by (fun t k => XS.iand X0.here hx rfl (hb hby at_3) rfl k) ?_
  show Go p e below s₁ (mkF m 4 #[.val (.int p1), .unset, .unset, .unset] [(.int (p1 &&& (65535 : Int32)))]) _
  refine Go.by (fun t k => XS.i2c X0.here hx rfl (hb hby at_4) rfl k) ?_
  show Go p e below s₁ (mkF m 5 #[.val (.int p1), .unset, .unset, .unset] [(.int ((p1 &&& (65535 : Int32)).toUInt32.toUInt16.toUInt32.toInt32))]) _
  refine Go.by (fun t k => XS.istoreN X0.here hx rfl (hb hby at_5) rfl (l' := #[.val (.int p1), .val (.int ((p1 &&& (65535 : Int32)).toUInt32.toUInt16.toUInt32.toInt32)), .unset, .unset]) rfl k) ?_
  show Go p e below s₁ (mkF m 6 #[.val (.int p1), .val (.int ((p1 &&& (65535 : Int32)).toUInt32.toUInt16.toUInt32.toInt32)), .unset, .unset] []) _
  refine Go.by (fun t k => XS.iloadN X0.here hx rfl (hb hby at_6) rfl k) ?_
  show Go p e below s₁ (mkF m 7 #[.val (.int p1), .val (.int ((p1 &&& (65535 : Int32)).toUInt32.toUInt16.toUInt32.toInt32)), .unset, .unset] [(.int ((p1 &&& (65535 : Int32)).toUInt32.toUInt16.toUInt32.toInt32))]) _
  refine Go.by (fun t k => XS.bipush X0.here hx rfl (hb hby at_7) k) ?_
  show Go p e below s₁ (mkF m 9 #[.val (.int p1), .val (.int ((p1 &&& (65535 : Int32)).toUInt32.toUInt16.toUInt32.toInt32)), .unset, .unset] [(.int (32 : Int32)), (.int ((p1 &&& (65535 : Int32)).toUInt32.toUInt16.toUInt32.toInt32))]) _
  refine Go.by (fun t k => XS.ior X0.here hx rfl (hb hby at_9) rfl k) ?_
  show Go p e below s₁ (mkF m 10 #[.val (.int p1), .val (.int ((p1 &&& (65535 : Int32)).toUInt32.toUInt16.toUInt32.toInt32)), .unset, .unset] [(.int (((p1 &&& (65535 : Int32)).toUInt32.toUInt16.toUInt32.toInt32) ||| (32 : Int32)))]) _
  refine Go.by (fun t k => XS.bipush X0.here hx rfl (hb hby at_10) k) ?_
  show Go p e below s₁ (mkF m 12 #[.val (.int p1), .val (.int ((p1 &&& (65535 : Int32)).toUInt32.toUInt16.toUInt32.toInt32)), .unset, .unset] [(.int (97 : Int32)), (.int (((p1 &&& (65535 : Int32)).toUInt32.toUInt16.toUInt32.toInt32) ||| (32 : Int32)))]) _
  refine Go.by (fun t k => XS.isub X0.here hx rfl (hb hby at_12) rfl k) ?_
  show Go p e below s₁ (mkF m 13 #[.val (.int p1), .val (.int ((p1 &&& (65535 : Int32)).toUInt32.toUInt16.toUInt32.toInt32)), .unset, .unset] [(.int ((((p1 &&& (65535 : Int32)).toUInt32.toUInt16.toUInt32.toInt32) ||| (32 : Int32)) - (97 : Int32)))]) _
  refine Go.by (fun t k => XS.istoreN X0.here hx rfl (hb hby at_13) rfl (l' := #[.val (.int p1), .val (.int ((p1 &&& (65535 : Int32)).toUInt32.toUInt16.toUInt32.toInt32)), .val (.int ((((p1 &&& (65535 : Int32)).toUInt32.toUInt16.toUInt32.toInt32) ||| (32 : Int32)) - (97 : Int32))), .unset]) rfl k) ?_
  show Go p e below s₁ (mkF m 14 #[.val (.int p1), .val (.int ((p1 &&& (65535 : Int32)).toUInt32.toUInt16.toUInt32.toInt32)), .val (.int ((((p1 &&& (65535 : Int32)).toUInt32.toUInt16.toUInt32.toInt32) ||| (32 : Int32)) - (97 : Int32))), .unset] []) _
  refine Go.by (fun t k => XS.iloadN X0.here hx rfl (hb hby at_14) rfl k) ?_
  show Go p e below s₁ (mkF m 15 #[.val (.int p1), .val (.int ((p1 &&& (65535 : Int32)).toUInt32.toUInt16.toUInt32.toInt32)), .val (.int ((((p1 &&& (65535 : Int32)).toUInt32.toUInt16.toUInt32.toInt32) ||| (32 : Int32)) - (97 : Int32))), .unset] [(.int ((((p1 &&& (65535 : Int32)).toUInt32.toUInt16.toUInt32.toInt32) ||| (32 : Int32)) - (97 : Int32)))]) _
  by_cases hc1 : ((((p1 &&& (65535 : Int32)).toUInt32.toUInt16.toUInt32.toInt32) ||| (32 : Int32)) - (97 : Int32)) < (0 : Int32)
  · refine Go.by (fun t k => XS.ifYes X0.here hx rfl (pc0 := 15) (pc' := 28) rfl (hb hby at_15) rfl ((if0 _ _).trans (tlt hc1).1) (by decide) (by decide) k) ?_
    show Go p e below s₁ (mkF m 28 #[.val (.int p1), .val (.int ((p1 &&& (65535 : Int32)).toUInt32.toUInt16.toUInt32.toInt32)), .val (.int ((((p1 &&& (65535 : Int32)).toUInt32.toUInt16.toUInt32.toInt32) ||| (32 : Int32)) - (97 : Int32))), .unset] []) _
    refine Go.by (fun t k => XS.iconst X0.here hx rfl (hb hby at_28) k) ?_
    show Go p e below s₁ (mkF m 29 #[.val (.int p1), .val (.int ((p1 &&& (65535 : Int32)).toUInt32.toUInt16.toUInt32.toInt32)), .val (.int ((((p1 &&& (65535 : Int32)).toUInt32.toUInt16.toUInt32.toInt32) ||| (32 : Int32)) - (97 : Int32))), .unset] [(.int (0 : Int32))]) _
    refine Go.by (fun t k => XS.istoreN X0.here hx rfl (hb hby at_29) rfl (l' := #[.val (.int p1), .val (.int ((p1 &&& (65535 : Int32)).toUInt32.toUInt16.toUInt32.toInt32)), .val (.int ((((p1 &&& (65535 : Int32)).toUInt32.toUInt16.toUInt32.toInt32) ||| (32 : Int32)) - (97 : Int32))), .val (.int (0 : Int32))]) rfl k) ?_
    show Go p e below s₁ (mkF m 30 #[.val (.int p1), .val (.int ((p1 &&& (65535 : Int32)).toUInt32.toUInt16.toUInt32.toInt32)), .val (.int ((((p1 &&& (65535 : Int32)).toUInt32.toUInt16.toUInt32.toInt32) ||| (32 : Int32)) - (97 : Int32))), .val (.int (0 : Int32))] []) _
    refine Go.by (fun t k => XS.iloadN X0.here hx rfl (hb hby at_30) rfl k) ?_
    show Go p e below s₁ (mkF m 31 #[.val (.int p1), .val (.int ((p1 &&& (65535 : Int32)).toUInt32.toUInt16.toUInt32.toInt32)), .val (.int ((((p1 &&& (65535 : Int32)).toUInt32.toUInt16.toUInt32.toInt32) ||| (32 : Int32)) - (97 : Int32))), .val (.int (0 : Int32))] [(.int ((p1 &&& (65535 : Int32)).toUInt32.toUInt16.toUInt32.toInt32))]) _
    obtain ⟨_, _, ⟨T2, L2, k2, n2⟩, -, X2, ⟨Lc2, hQ2, l2, y2, z2⟩, st2⟩ := Jvm.LawKit.callS X0 hx (y := (⟨"com/example/crawlex/crawlex/parse/AsciiCase", "isLetter", "(C)Z"⟩ : MethodName)) hown (mvT hZ (hw _ (List.mem_of_getElem? (i := 1) rfl))) (mvT hZ (hw _ (List.mem_of_getElem? (i := 2) rfl))) (mvT hZ (hw _ (List.mem_of_getElem? (i := 3) rfl))) (mvT hZ (hw _ (List.mem_of_getElem? (i := 4) rfl))) (by decide) (backOf (W := 0) (rm1 l Z a0 hw [] ((p1 &&& (65535 : Int32)).toUInt32.toUInt16.toUInt32.toInt32) h0 n0 Z0) hZ (hw _ (List.mem_of_getElem? (i := 4) rfl)) (hw _ (List.mem_of_getElem? (i := 3) rfl)) (by decide) (by decide)) (g := (mkF m 31 #[.val (.int p1), .val (.int ((p1 &&& (65535 : Int32)).toUInt32.toUInt16.toUInt32.toInt32)), .val (.int ((((p1 &&& (65535 : Int32)).toUInt32.toUInt16.toUInt32.toInt32) ||| (32 : Int32)) - (97 : Int32))), .val (.int (0 : Int32))] [(.int ((p1 &&& (65535 : Int32)).toUInt32.toUInt16.toUInt32.toInt32))])) rfl (by rw [hml]; rfl) (argsL := [(.int ((p1 &&& (65535 : Int32)).toUInt32.toUInt16.toUInt32.toInt32))]) (rest := []) (lenOf pd_0 rfl) rfl (by show 2 * 0 + _ ≤ _; exact Nat.le_of_eq rfl) (hb hby at_31) (fun _ _ => ⟨rfl, e0, (by decide : 0 + 0 ≤ _), (by decide : 0 + 0 ≤ _)⟩)
    dsimp only [Pt.U, Pt.locs, Pt.cells, Pt.slots] at X2 l2 y2 z2 st2 hQ2
    subst l2 y2 z2
    obtain ⟨rfl, N2q, e2q⟩ := hQ2
    have N2 := Fr.app N0 N2q
    refine Go.by st2 ?_
    show Go p e below T2 (mkF m 34 #[.val (.int p1), .val (.int ((p1 &&& (65535 : Int32)).toUInt32.toUInt16.toUInt32.toInt32)), .val (.int ((((p1 &&& (65535 : Int32)).toUInt32.toUInt16.toUInt32.toInt32) ||| (32 : Int32)) - (97 : Int32))), .val (.int (0 : Int32))] [(.int (f1 ((p1 &&& (65535 : Int32)).toUInt32.toUInt16.toUInt32.toInt32)))]) _
    refine Go.by (fun t k => XS.iloadN X2.here hx rfl (hb hby at_34) rfl k) ?_
    show Go p e below T2 (mkF m 35 #[.val (.int p1), .val (.int ((p1 &&& (65535 : Int32)).toUInt32.toUInt16.toUInt32.toInt32)), .val (.int ((((p1 &&& (65535 : Int32)).toUInt32.toUInt16.toUInt32.toInt32) ||| (32 : Int32)) - (97 : Int32))), .val (.int (0 : Int32))] [(.int (0 : Int32)), (.int (f1 ((p1 &&& (65535 : Int32)).toUInt32.toUInt16.toUInt32.toInt32)))]) _
    refine Go.by (fun t k => XS.icmpNo X2.here hx rfl (hb hby at_35) rfl (teq (show (f1 ((p1 &&& (65535 : Int32)).toUInt32.toUInt16.toUInt32.toInt32)) = (0 : Int32) from own_lo _ hc1)).2 k) ?_
    show Go p e below T2 (mkF m 38 #[.val (.int p1), .val (.int ((p1 &&& (65535 : Int32)).toUInt32.toUInt16.toUInt32.toInt32)), .val (.int ((((p1 &&& (65535 : Int32)).toUInt32.toUInt16.toUInt32.toInt32) ||| (32 : Int32)) - (97 : Int32))), .val (.int (0 : Int32))] []) _
    refine Go.by (fun t k => XS.iconst X2.here hx rfl (hb hby at_38) k) ?_
    show Go p e below T2 (mkF m 39 #[.val (.int p1), .val (.int ((p1 &&& (65535 : Int32)).toUInt32.toUInt16.toUInt32.toInt32)), .val (.int ((((p1 &&& (65535 : Int32)).toUInt32.toUInt16.toUInt32.toInt32) ||| (32 : Int32)) - (97 : Int32))), .val (.int (0 : Int32))] [(.int (1 : Int32))]) _
    refine Go.by (fun t k => XS.goto X2.here hx rfl (pc0 := 39) (pc' := 43) rfl (hb hby at_39) (by decide) (by decide) k) ?_
    show Go p e below T2 (mkF m 43 #[.val (.int p1), .val (.int ((p1 &&& (65535 : Int32)).toUInt32.toUInt16.toUInt32.toInt32)), .val (.int ((((p1 &&& (65535 : Int32)).toUInt32.toUInt16.toUInt32.toInt32) ||| (32 : Int32)) - (97 : Int32))), .val (.int (0 : Int32))] [(.int (1 : Int32))]) _
    obtain ⟨fs, hr, hrun, hended, hW, hsame⟩ := X2.leave (v := some (.int (1 : Int32))) (fun h => by rw [Bd.returns] at h; cases h)
    refine Go.done (retN X2 hx (t := .boolean) Bd.returns (by simp) (hb hby at_43) hr) hrun hended ⟨_, _, rfl, ?_, ⟨_, rfl⟩, hW, hsame.mono (by decide) (by decide)⟩
    show Q0 Z p1 h0 n0 _ T2.heap _
    rw [e2q]
    exact ⟨rfl, N2⟩
  · refine Go.by (fun t k => XS.ifNo X0.here hx rfl (hb hby at_15) rfl ((if0 _ _).trans (flt hc1).1) k) ?_
    show Go p e below s₁ (mkF m 18 #[.val (.int p1), .val (.int ((p1 &&& (65535 : Int32)).toUInt32.toUInt16.toUInt32.toInt32)), .val (.int ((((p1 &&& (65535 : Int32)).toUInt32.toUInt16.toUInt32.toInt32) ||| (32 : Int32)) - (97 : Int32))), .unset] []) _
    refine Go.by (fun t k => XS.iloadN X0.here hx rfl (hb hby at_18) rfl k) ?_
    show Go p e below s₁ (mkF m 19 #[.val (.int p1), .val (.int ((p1 &&& (65535 : Int32)).toUInt32.toUInt16.toUInt32.toInt32)), .val (.int ((((p1 &&& (65535 : Int32)).toUInt32.toUInt16.toUInt32.toInt32) ||| (32 : Int32)) - (97 : Int32))), .unset] [(.int ((((p1 &&& (65535 : Int32)).toUInt32.toUInt16.toUInt32.toInt32) ||| (32 : Int32)) - (97 : Int32)))]) _
    refine Go.by (fun t k => XS.bipush X0.here hx rfl (hb hby at_19) k) ?_
    show Go p e below s₁ (mkF m 21 #[.val (.int p1), .val (.int ((p1 &&& (65535 : Int32)).toUInt32.toUInt16.toUInt32.toInt32)), .val (.int ((((p1 &&& (65535 : Int32)).toUInt32.toUInt16.toUInt32.toInt32) ||| (32 : Int32)) - (97 : Int32))), .unset] [(.int (26 : Int32)), (.int ((((p1 &&& (65535 : Int32)).toUInt32.toUInt16.toUInt32.toInt32) ||| (32 : Int32)) - (97 : Int32)))]) _
    by_cases hc3 : ((((p1 &&& (65535 : Int32)).toUInt32.toUInt16.toUInt32.toInt32) ||| (32 : Int32)) - (97 : Int32)) < (26 : Int32)
    · refine Go.by (fun t k => XS.icmpNo X0.here hx rfl (hb hby at_21) rfl (tlt hc3).2.1 k) ?_
      show Go p e below s₁ (mkF m 24 #[.val (.int p1), .val (.int ((p1 &&& (65535 : Int32)).toUInt32.toUInt16.toUInt32.toInt32)), .val (.int ((((p1 &&& (65535 : Int32)).toUInt32.toUInt16.toUInt32.toInt32) ||| (32 : Int32)) - (97 : Int32))), .unset] []) _
      refine Go.by (fun t k => XS.iconst X0.here hx rfl (hb hby at_24) k) ?_
      show Go p e below s₁ (mkF m 25 #[.val (.int p1), .val (.int ((p1 &&& (65535 : Int32)).toUInt32.toUInt16.toUInt32.toInt32)), .val (.int ((((p1 &&& (65535 : Int32)).toUInt32.toUInt16.toUInt32.toInt32) ||| (32 : Int32)) - (97 : Int32))), .unset] [(.int (1 : Int32))]) _
      refine Go.by (fun t k => XS.goto X0.here hx rfl (pc0 := 25) (pc' := 29) rfl (hb hby at_25) (by decide) (by decide) k) ?_
      show Go p e below s₁ (mkF m 29 #[.val (.int p1), .val (.int ((p1 &&& (65535 : Int32)).toUInt32.toUInt16.toUInt32.toInt32)), .val (.int ((((p1 &&& (65535 : Int32)).toUInt32.toUInt16.toUInt32.toInt32) ||| (32 : Int32)) - (97 : Int32))), .unset] [(.int (1 : Int32))]) _
      refine Go.by (fun t k => XS.istoreN X0.here hx rfl (hb hby at_29) rfl (l' := #[.val (.int p1), .val (.int ((p1 &&& (65535 : Int32)).toUInt32.toUInt16.toUInt32.toInt32)), .val (.int ((((p1 &&& (65535 : Int32)).toUInt32.toUInt16.toUInt32.toInt32) ||| (32 : Int32)) - (97 : Int32))), .val (.int (1 : Int32))]) rfl k) ?_
      show Go p e below s₁ (mkF m 30 #[.val (.int p1), .val (.int ((p1 &&& (65535 : Int32)).toUInt32.toUInt16.toUInt32.toInt32)), .val (.int ((((p1 &&& (65535 : Int32)).toUInt32.toUInt16.toUInt32.toInt32) ||| (32 : Int32)) - (97 : Int32))), .val (.int (1 : Int32))] []) _
      refine Go.by (fun t k => XS.iloadN X0.here hx rfl (hb hby at_30) rfl k) ?_
      show Go p e below s₁ (mkF m 31 #[.val (.int p1), .val (.int ((p1 &&& (65535 : Int32)).toUInt32.toUInt16.toUInt32.toInt32)), .val (.int ((((p1 &&& (65535 : Int32)).toUInt32.toUInt16.toUInt32.toInt32) ||| (32 : Int32)) - (97 : Int32))), .val (.int (1 : Int32))] [(.int ((p1 &&& (65535 : Int32)).toUInt32.toUInt16.toUInt32.toInt32))]) _
      obtain ⟨_, _, ⟨T4, L4, k4, n4⟩, -, X4, ⟨Lc4, hQ4, l4, y4, z4⟩, st4⟩ := Jvm.LawKit.callS X0 hx (y := (⟨"com/example/crawlex/crawlex/parse/AsciiCase", "isLetter", "(C)Z"⟩ : MethodName)) hown (mvT hZ (hw _ (List.mem_of_getElem? (i := 1) rfl))) (mvT hZ (hw _ (List.mem_of_getElem? (i := 2) rfl))) (mvT hZ (hw _ (List.mem_of_getElem? (i := 3) rfl))) (mvT hZ (hw _ (List.mem_of_getElem? (i := 4) rfl))) (by decide) (backOf (W := 0) (rm1 l Z a0 hw [] ((p1 &&& (65535 : Int32)).toUInt32.toUInt16.toUInt32.toInt32) h0 n0 Z0) hZ (hw _ (List.mem_of_getElem? (i := 4) rfl)) (hw _ (List.mem_of_getElem? (i := 3) rfl)) (by decide) (by decide)) (g := (mkF m 31 #[.val (.int p1), .val (.int ((p1 &&& (65535 : Int32)).toUInt32.toUInt16.toUInt32.toInt32)), .val (.int ((((p1 &&& (65535 : Int32)).toUInt32.toUInt16.toUInt32.toInt32) ||| (32 : Int32)) - (97 : Int32))), .val (.int (1 : Int32))] [(.int ((p1 &&& (65535 : Int32)).toUInt32.toUInt16.toUInt32.toInt32))])) rfl (by rw [hml]; rfl) (argsL := [(.int ((p1 &&& (65535 : Int32)).toUInt32.toUInt16.toUInt32.toInt32))]) (rest := []) (lenOf pd_0 rfl) rfl (by show 2 * 0 + _ ≤ _; exact Nat.le_of_eq rfl) (hb hby at_31) (fun _ _ => ⟨rfl, e0, (by decide : 0 + 0 ≤ _), (by decide : 0 + 0 ≤ _)⟩)
      dsimp only [Pt.U, Pt.locs, Pt.cells, Pt.slots] at X4 l4 y4 z4 st4 hQ4
      subst l4 y4 z4
      obtain ⟨rfl, N4q, e4q⟩ := hQ4
      have N4 := Fr.app N0 N4q
      refine Go.by st4 ?_
      show Go p e below T4 (mkF m 34 #[.val (.int p1), .val (.int ((p1 &&& (65535 : Int32)).toUInt32.toUInt16.toUInt32.toInt32)), .val (.int ((((p1 &&& (65535 : Int32)).toUInt32.toUInt16.toUInt32.toInt32) ||| (32 : Int32)) - (97 : Int32))), .val (.int (1 : Int32))] [(.int (f1 ((p1 &&& (65535 : Int32)).toUInt32.toUInt16.toUInt32.toInt32)))]) _
      refine Go.by (fun t k => XS.iloadN X4.here hx rfl (hb hby at_34) rfl k) ?_
      show Go p e below T4 (mkF m 35 #[.val (.int p1), .val (.int ((p1 &&& (65535 : Int32)).toUInt32.toUInt16.toUInt32.toInt32)), .val (.int ((((p1 &&& (65535 : Int32)).toUInt32.toUInt16.toUInt32.toInt32) ||| (32 : Int32)) - (97 : Int32))), .val (.int (1 : Int32))] [(.int (1 : Int32)), (.int (f1 ((p1 &&& (65535 : Int32)).toUInt32.toUInt16.toUInt32.toInt32)))]) _
      refine Go.by (fun t k => XS.icmpNo X4.here hx rfl (hb hby at_35) rfl (teq (show (f1 ((p1 &&& (65535 : Int32)).toUInt32.toUInt16.toUInt32.toInt32)) = (1 : Int32) from own_in _ hc1 hc3)).2 k) ?_
      show Go p e below T4 (mkF m 38 #[.val (.int p1), .val (.int ((p1 &&& (65535 : Int32)).toUInt32.toUInt16.toUInt32.toInt32)), .val (.int ((((p1 &&& (65535 : Int32)).toUInt32.toUInt16.toUInt32.toInt32) ||| (32 : Int32)) - (97 : Int32))), .val (.int (1 : Int32))] []) _
      refine Go.by (fun t k => XS.iconst X4.here hx rfl (hb hby at_38) k) ?_
      show Go p e below T4 (mkF m 39 #[.val (.int p1), .val (.int ((p1 &&& (65535 : Int32)).toUInt32.toUInt16.toUInt32.toInt32)), .val (.int ((((p1 &&& (65535 : Int32)).toUInt32.toUInt16.toUInt32.toInt32) ||| (32 : Int32)) - (97 : Int32))), .val (.int (1 : Int32))] [(.int (1 : Int32))]) _
      refine Go.by (fun t k => XS.goto X4.here hx rfl (pc0 := 39) (pc' := 43) rfl (hb hby at_39) (by decide) (by decide) k) ?_
      show Go p e below T4 (mkF m 43 #[.val (.int p1), .val (.int ((p1 &&& (65535 : Int32)).toUInt32.toUInt16.toUInt32.toInt32)), .val (.int ((((p1 &&& (65535 : Int32)).toUInt32.toUInt16.toUInt32.toInt32) ||| (32 : Int32)) - (97 : Int32))), .val (.int (1 : Int32))] [(.int (1 : Int32))]) _
      obtain ⟨fs, hr, hrun, hended, hW, hsame⟩ := X4.leave (v := some (.int (1 : Int32))) (fun h => by rw [Bd.returns] at h; cases h)
      refine Go.done (retN X4 hx (t := .boolean) Bd.returns (by simp) (hb hby at_43) hr) hrun hended ⟨_, _, rfl, ?_, ⟨_, rfl⟩, hW, hsame.mono (by decide) (by decide)⟩
      show Q0 Z p1 h0 n0 _ T4.heap _
      rw [e4q]
      exact ⟨rfl, N4⟩
    · refine Go.by (fun t k => XS.icmpYes X0.here hx rfl (pc0 := 21) (pc' := 28) rfl (hb hby at_21) rfl (flt hc3).2.1 (by decide) (by decide) k) ?_
      show Go p e below s₁ (mkF m 28 #[.val (.int p1), .val (.int ((p1 &&& (65535 : Int32)).toUInt32.toUInt16.toUInt32.toInt32)), .val (.int ((((p1 &&& (65535 : Int32)).toUInt32.toUInt16.toUInt32.toInt32) ||| (32 : Int32)) - (97 : Int32))), .unset] []) _
      refine Go.by (fun t k => XS.iconst X0.here hx rfl (hb hby at_28) k) ?_
      show Go p e below s₁ (mkF m 29 #[.val (.int p1), .val (.int ((p1 &&& (65535 : Int32)).toUInt32.toUInt16.toUInt32.toInt32)), .val (.int ((((p1 &&& (65535 : Int32)).toUInt32.toUInt16.toUInt32.toInt32) ||| (32 : Int32)) - (97 : Int32))), .unset] [(.int (0 : Int32))]) _
      refine Go.by (fun t k => XS.istoreN X0.here hx rfl (hb hby at_29) rfl (l' := #[.val (.int p1), .val (.int ((p1 &&& (65535 : Int32)).toUInt32.toUInt16.toUInt32.toInt32)), .val (.int ((((p1 &&& (65535 : Int32)).toUInt32.toUInt16.toUInt32.toInt32) ||| (32 : Int32)) - (97 : Int32))), .val (.int (0 : Int32))]) rfl k) ?_
      show Go p e below s₁ (mkF m 30 #[.val (.int p1), .val (.int ((p1 &&& (65535 : Int32)).toUInt32.toUInt16.toUInt32.toInt32)), .val (.int ((((p1 &&& (65535 : Int32)).toUInt32.toUInt16.toUInt32.toInt32) ||| (32 : Int32)) - (97 : Int32))), .val (.int (0 : Int32))] []) _
      refine Go.by (fun t k => XS.iloadN X0.here hx rfl (hb hby at_30) rfl k) ?_
      show Go p e below s₁ (mkF m 31 #[.val (.int p1), .val (.int ((p1 &&& (65535 : Int32)).toUInt32.toUInt16.toUInt32.toInt32)), .val (.int ((((p1 &&& (65535 : Int32)).toUInt32.toUInt16.toUInt32.toInt32) ||| (32 : Int32)) - (97 : Int32))), .val (.int (0 : Int32))] [(.int ((p1 &&& (65535 : Int32)).toUInt32.toUInt16.toUInt32.toInt32))]) _
      obtain ⟨_, _, ⟨T5, L5, k5, n5⟩, -, X5, ⟨Lc5, hQ5, l5, y5, z5⟩, st5⟩ := Jvm.LawKit.callS X0 hx (y := (⟨"com/example/crawlex/crawlex/parse/AsciiCase", "isLetter", "(C)Z"⟩ : MethodName)) hown (mvT hZ (hw _ (List.mem_of_getElem? (i := 1) rfl))) (mvT hZ (hw _ (List.mem_of_getElem? (i := 2) rfl))) (mvT hZ (hw _ (List.mem_of_getElem? (i := 3) rfl))) (mvT hZ (hw _ (List.mem_of_getElem? (i := 4) rfl))) (by decide) (backOf (W := 0) (rm1 l Z a0 hw [] ((p1 &&& (65535 : Int32)).toUInt32.toUInt16.toUInt32.toInt32) h0 n0 Z0) hZ (hw _ (List.mem_of_getElem? (i := 4) rfl)) (hw _ (List.mem_of_getElem? (i := 3) rfl)) (by decide) (by decide)) (g := (mkF m 31 #[.val (.int p1), .val (.int ((p1 &&& (65535 : Int32)).toUInt32.toUInt16.toUInt32.toInt32)), .val (.int ((((p1 &&& (65535 : Int32)).toUInt32.toUInt16.toUInt32.toInt32) ||| (32 : Int32)) - (97 : Int32))), .val (.int (0 : Int32))] [(.int ((p1 &&& (65535 : Int32)).toUInt32.toUInt16.toUInt32.toInt32))])) rfl (by rw [hml]; rfl) (argsL := [(.int ((p1 &&& (65535 : Int32)).toUInt32.toUInt16.toUInt32.toInt32))]) (rest := []) (lenOf pd_0 rfl) rfl (by show 2 * 0 + _ ≤ _; exact Nat.le_of_eq rfl) (hb hby at_31) (fun _ _ => ⟨rfl, e0, (by decide : 0 + 0 ≤ _), (by decide : 0 + 0 ≤ _)⟩)
      dsimp only [Pt.U, Pt.locs, Pt.cells, Pt.slots] at X5 l5 y5 z5 st5 hQ5
      subst l5 y5 z5
      obtain ⟨rfl, N5q, e5q⟩ := hQ5
      have N5 := Fr.app N0 N5q
      refine Go.by st5 ?_
      show Go p e below T5 (mkF m 34 #[.val (.int p1), .val (.int ((p1 &&& (65535 : Int32)).toUInt32.toUInt16.toUInt32.toInt32)), .val (.int ((((p1 &&& (65535 : Int32)).toUInt32.toUInt16.toUInt32.toInt32) ||| (32 : Int32)) - (97 : Int32))), .val (.int (0 : Int32))] [(.int (f1 ((p1 &&& (65535 : Int32)).toUInt32.toUInt16.toUInt32.toInt32)))]) _
      refine Go.by (fun t k => XS.iloadN X5.here hx rfl (hb hby at_34) rfl k) ?_
      show Go p e below T5 (mkF m 35 #[.val (.int p1), .val (.int ((p1 &&& (65535 : Int32)).toUInt32.toUInt16.toUInt32.toInt32)), .val (.int ((((p1 &&& (65535 : Int32)).toUInt32.toUInt16.toUInt32.toInt32) ||| (32 : Int32)) - (97 : Int32))), .val (.int (0 : Int32))] [(.int (0 : Int32)), (.int (f1 ((p1 &&& (65535 : Int32)).toUInt32.toUInt16.toUInt32.toInt32)))]) _
      refine Go.by (fun t k => XS.icmpNo X5.here hx rfl (hb hby at_35) rfl (teq (show (f1 ((p1 &&& (65535 : Int32)).toUInt32.toUInt16.toUInt32.toInt32)) = (0 : Int32) from own_hi _ hc3)).2 k) ?_
      show Go p e below T5 (mkF m 38 #[.val (.int p1), .val (.int ((p1 &&& (65535 : Int32)).toUInt32.toUInt16.toUInt32.toInt32)), .val (.int ((((p1 &&& (65535 : Int32)).toUInt32.toUInt16.toUInt32.toInt32) ||| (32 : Int32)) - (97 : Int32))), .val (.int (0 : Int32))] []) _
      refine Go.by (fun t k => XS.iconst X5.here hx rfl (hb hby at_38) k) ?_
      show Go p e below T5 (mkF m 39 #[.val (.int p1), .val (.int ((p1 &&& (65535 : Int32)).toUInt32.toUInt16.toUInt32.toInt32)), .val (.int ((((p1 &&& (65535 : Int32)).toUInt32.toUInt16.toUInt32.toInt32) ||| (32 : Int32)) - (97 : Int32))), .val (.int (0 : Int32))] [(.int (1 : Int32))]) _
      refine Go.by (fun t k => XS.goto X5.here hx rfl (pc0 := 39) (pc' := 43) rfl (hb hby at_39) (by decide) (by decide) k) ?_
      show Go p e below T5 (mkF m 43 #[.val (.int p1), .val (.int ((p1 &&& (65535 : Int32)).toUInt32.toUInt16.toUInt32.toInt32)), .val (.int ((((p1 &&& (65535 : Int32)).toUInt32.toUInt16.toUInt32.toInt32) ||| (32 : Int32)) - (97 : Int32))), .val (.int (0 : Int32))] [(.int (1 : Int32))]) _
      obtain ⟨fs, hr, hrun, hended, hW, hsame⟩ := X5.leave (v := some (.int (1 : Int32))) (fun h => by rw [Bd.returns] at h; cases h)
      refine Go.done (retN X5 hx (t := .boolean) Bd.returns (by simp) (hb hby at_43) hr) hrun hended ⟨_, _, rfl, ?_, ⟨_, rfl⟩, hW, hsame.mono (by decide) (by decide)⟩
      show Q0 Z p1 h0 n0 _ T5.heap _
      rw [e5q]
      exact ⟨rfl, N5⟩
set_option maxRecDepth 65536 in
set_option maxHeartbeats 40000000 in
theorem comes_1 {Post : Tables → Env → Array Value → State → Outcome → State → Prop} (hpost : ∀ tb e args s v u, (limb_1_1.after args s (.returned v) u = true ∧ limb_1_2.after args s (.returned v) u = true ∧ True) → FrameEnd s (.returned v) u (Jvm.fieldLocs frame_1_writes args s ++ Jvm.arrayLocs frame_1_arrays args s ++ Jvm.staticLocs frame_1_statics s) 0 0 → Post tb e args s (.returned v) u) :
    ArmFor flags0 classFile x code maxLocals ret World_1 tables_1 room_1 Calls_1 rest_1 Pre_1 Post := by
  intro l hfl _ _ p e ha hc hk s m args below hf hA hF happ hP
  obtain ⟨hcalls, hrest, hpre⟩ := hP
  obtain ⟨-, -, -, hnamed, -, -, -, hat⟩ := (Spec.applies_iff hf).mp happ
  obtain ⟨hg, hn⟩ := and_e (Cond.before_iff.mp (show (Jvm.Cond.and given_1 narrow_1).before args s = true from hpre))
  obtain ⟨g1, g2⟩ := and_e hg
  obtain ⟨w0, rfl⟩ : ∃ w0 : Value, args = #[w0] := by
    have hs : args.size = 1 := by simpa [Cond.value, given_1] using g1
    obtain ⟨L⟩ := args
    match L, hs with
    | [w0], _ => exact ⟨w0, rfl⟩
  have hw := fun d (hd : d ∈ tables_1) => atoms_spec (ws := Jvm.Cond.code x code maxLocals ret :: tables_1) hat d (List.mem_cons_of_mem _ hd)
  obtain ⟨i0, ei0⟩ := is_v g2
  obtain rfl : w0 = (.int i0) := Option.some.inj ei0
  obtain ⟨n, o, h1, h2, h3, _, L, rfl, ⟨rfl, N⟩, hq⟩ := rm0 l s _ hw tables_1 i0 s.heap s.heap.size (Nat.le_refl _) p e ha hc hk s m _ below hf ((Spec.applies_iff_loose hf).mp happ).1 ⟨rfl, State.Warmed39.refl s, rfl⟩ trivial
  refine ⟨n, _, h1, h2, h3, hpost _ _ _ _ _ _ ⟨Cond.after_iff.mpr rfl, Cond.after_iff.mpr (eq_i res_at (Term.int_eval (1)) rfl), trivial⟩ ⟨hq.1, hq.2.1, (hq.2.2.sift fun y hy => Or.inr (N y hy)).mono (by decide) (by decide)⟩⟩
theorem main_1_1 : Claimed_1_1 := comes_1 fun _ _ _ _ _ _ h hF => ⟨h.1, hF⟩
theorem main_1_2 : Claimed_1_2 := comes_1 fun _ _ _ _ _ _ h hF => ⟨h.2.1, hF⟩
end Jvm.Pilot.@@N@@
namespace Jvm.Pilot.@@N@@
open Jvm Jvm.ClassFile Sem Op Lib Jvm.Free Jvm.Stand Jvm.Pilot.@@N@@.Jvm.D
/-! MADE BY PROGRAM (witnessworld.py) out of the Statement's table words and the real class files: 9 classes; the members and pool entries that the words name. The judged class is class 1, her method 1. -/
namespace start1
open Jvm.ClassFile
def u (s : String) : CpInfo := .utf8 (stringToUtf16 s)
/-- a pool by its gaps: so many unusable entries, then the entry; so many at the end -/
def gap : Nat → List CpInfo → List CpInfo
  | 0, r => r
  | n + 1, r => .unusable :: gap n r
def poolList (es : List (Nat × CpInfo)) (last : Nat) : List CpInfo := es.foldr (fun e r => gap e.1 (e.2 :: r)) (gap last [])
def pool (es : List (Nat × CpInfo)) (last : Nat) : Array CpInfo := ⟨poolList es last⟩
def fileOf (pool : Array CpInfo) (this : Nat) (attrs : Array Attribute := #[]) (ms : Array MethodInfo := #[]) (fl : Nat := 33) (sup : Nat := 0) (ifs : Array Nat := #[]) (fds : Array FieldInfo := #[]) : ClassFile where
  minorVersion := 0
  majorVersion := 65
  constantPool := pool
  accessFlags := fl
  thisClass := this
  superClass := sup
  interfaces := ifs
  fields := fds
  methods := ms
  attributes := attrs
def plain (name : String) (sup : Option ClassId) : Class where
  name := name
  kind := .ordinary
  loader := none
  accessFlags := 33
  super := sup
  interfaces := #[]
  cf := none
  fields := #[]
  methods := #[]
  instanceTypes := #[]
  staticTypes := #[]
  resolved := #[]
  callSites := []
  init := .initialized
  statics := none
  mirror := none

def pool0 : Array CpInfo := pool [(5, u "<init>"), (0, u "()V"), (1, .class_ 10), (1, u "java/lang/Object")] 113

def k0m0 : Method := { name := "<init>", desc := "()V", sig := { parameters := [], returnType := none }, accessFlags := 1, code := none }
/-- java/lang/Object -/
def k0 : Class := { plain "java/lang/Object" none with
  accessFlags := 33
  interfaces := #[]
  cf := some (fileOf pool0 8 #[] #[{ accessFlags := 1, nameIndex := 5, descriptorIndex := 6, attributes := #[] }] 33 0 #[] #[])
  fields := #[]
  methods := #[k0m0]
  instanceTypes := #[]
  staticTypes := #[]
  resolved := Array.replicate 124 none
  statics := none }

def pool1 : Array CpInfo := pool [(2, .class_ 4), (1, u "java/lang/Object"), (0, u "<init>"), (0, u "()V"), (0, .integer 65535), (0, .methodref 9 10), (0, .class_ 11), (0, .nameAndType 12 13), (0, u "com/example/crawlex/crawlex/parse/AsciiCase"), (0, u "isLetter"), (0, u "(C)Z"), (0, .class_ 15), (0, u "com/example/crawlex/crawlex/parse/AsciiCaseIsLetterPinLaw"), (2, u "law"), (0, u "(I)Z")] 3

def k1m0 : Method := { name := "<init>", desc := "()V", sig := { parameters := [], returnType := none }, accessFlags := 2, code := none }
def k1c1 : Code := { maxStack := 2, maxLocals := 4, code := code, exceptionTable := #[], attributes := #[] }
def k1m1 : Method := { name := "law", desc := "(I)Z", sig := { parameters := [.int], returnType := some .boolean }, accessFlags := 9, code := some k1c1 }
/-- com/example/crawlex/crawlex/parse/AsciiCaseIsLetterPinLaw -/
def k1 : Class := { plain "com/example/crawlex/crawlex/parse/AsciiCaseIsLetterPinLaw" (some 0) with
  accessFlags := 49
  interfaces := #[]
  cf := some (fileOf pool1 14 #[] #[{ accessFlags := 2, nameIndex := 5, descriptorIndex := 6, attributes := #[] }, { accessFlags := 9, nameIndex := 18, descriptorIndex := 19, attributes := #[] }] 49 2 #[] #[])
  fields := #[]
  methods := #[k1m0, k1m1]
  instanceTypes := #[]
  staticTypes := #[]
  resolved := Array.replicate 23 none
  statics := none }

def pool2 : Array CpInfo := pool [(2, .class_ 4), (1, u "java/lang/Object"), (0, u "<init>"), (0, u "()V"), (7, .class_ 16), (1, u "com/example/crawlex/crawlex/parse/AsciiCase"), (27, u "isLetter"), (0, u "(C)Z")] 3

def k2m0 : Method := { name := "<init>", desc := "()V", sig := { parameters := [], returnType := none }, accessFlags := 2, code := none }
def k2c1 : Code := { maxStack := 2, maxLocals := 1, code := prog_43_method_4_code, exceptionTable := #[], attributes := #[] }
def k2m1 : Method := { name := "isLetter", desc := "(C)Z", sig := { parameters := [.char], returnType := some .boolean }, accessFlags := 9, code := some k2c1 }
/-- com/example/crawlex/crawlex/parse/AsciiCase -/
def k2 : Class := { plain "com/example/crawlex/crawlex/parse/AsciiCase" (some 0) with
  accessFlags := 33
  interfaces := #[]
  cf := some (fileOf pool2 14 #[] #[{ accessFlags := 2, nameIndex := 5, descriptorIndex := 6, attributes := #[] }, { accessFlags := 9, nameIndex := 44, descriptorIndex := 45, attributes := #[] }] 33 2 #[] #[])
  fields := #[]
  methods := #[k2m0, k2m1]
  instanceTypes := #[]
  staticTypes := #[]
  resolved := Array.replicate 49 none
  statics := none }

def pool3 : Array CpInfo := pool [(1, u "java/lang/Cloneable"), (0, .class_ 1), (0, u "java/lang/Object"), (0, .class_ 3)] 3

/-- java/lang/Cloneable -/
def k3 : Class := { plain "java/lang/Cloneable" (some 0) with
  accessFlags := 1537
  interfaces := #[]
  cf := some (fileOf pool3 2 #[] #[] 1537 4 #[] #[])
  fields := #[]
  methods := #[]
  instanceTypes := #[]
  staticTypes := #[]
  resolved := Array.replicate 8 none
  statics := none }

def pool4 : Array CpInfo := pool [(1, u "java/io/Serializable"), (0, .class_ 1), (0, u "java/lang/Object"), (0, .class_ 3)] 3

/-- java/io/Serializable -/
def k4 : Class := { plain "java/io/Serializable" (some 0) with
  accessFlags := 1537
  interfaces := #[]
  cf := some (fileOf pool4 2 #[] #[] 1537 4 #[] #[])
  fields := #[]
  methods := #[]
  instanceTypes := #[]
  staticTypes := #[]
  resolved := Array.replicate 8 none
  statics := none }

/-- the primitive byte -/
def k5 : Class := { plain "byte" none with kind := .primitive 'B', accessFlags := 0x411 }
/-- [B -/
def k6 : Class := { plain "[B" (some 0) with kind := .array 5 .byte, interfaces := #[3, 4], accessFlags := 1041 }

/-- the primitive int -/
def k7 : Class := { plain "int" none with kind := .primitive 'I', accessFlags := 0x411 }
/-- [I -/
def k8 : Class := { plain "[I" (some 0) with kind := .array 7 .int, interfaces := #[3, 4], accessFlags := 1041 }

def heap : Heap := #[]
def classes : Array Class := #[k0, k1, k2, k3, k4, k5, k6, k7, k8]
def interned : List (Array UInt16 × Addr) := []
def slotsUsed : Nat := 0
def theMethod : MethodId := ⟨1, 1⟩
def args0 : Array Value := #[.int 5]
def aboutOver (below : List Frame) : State where
  vm := { classes := classes, interned := interned.toArray }
  heap := heap
  slotsUsed := slotsUsed
  threads := #[{ frames := .invoking theMethod args0 :: below }]
def below0 : List Frame := [.native { method := ⟨0, 0⟩, args := #[] }]
def about1 : State := aboutOver below0
def p0 : Program := .bare "" "" ""
def e0 : Env := launch0.env 0 0 0
theorem w_frames : about1.frames = Frame.invoking theMethod args0 :: below0 := rfl
set_option maxRecDepth 65536 in
theorem w_args : argsFit about1.vm theMethod args0 = true := by decide +kernel
set_option maxRecDepth 65536 in
theorem w_heap : heapFits about1 = true := by decide +kernel
set_option maxRecDepth 65536 in
theorem w_runnable : about1.curStatus? = some .runnable := by decide +kernel
set_option maxRecDepth 65536 in
theorem w_alone : about1.alone = true := by decide +kernel
set_option maxRecDepth 65536 in
theorem w_named : about1.methodNamed? x = some theMethod := by decide +kernel
set_option maxRecDepth 65536 in
theorem w_hears : about1.hears theMethod below0 = true := by decide +kernel
set_option maxRecDepth 65536 in
theorem w_ripe : about1.ripe theMethod args0 below0 = true := by decide +kernel
theorem w_running : about1.status = .running := rfl
set_option maxRecDepth 65536 in
theorem w_room : about1.hasRoom e0.platform room_1 = true :=
  launch0.hasRoom_least _ room_1 (by decide +kernel) (by decide +kernel) (by decide +kernel) (by decide +kernel) (by decide +kernel) (by decide +kernel)
theorem allAtoms_all (ts : List Jvm.Cond) (a : Array Jvm.Value) (st : Jvm.State) : (allAtoms ts).before a st = ts.all (fun c => c.before a st) := by
  induction ts with
  | nil => rfl
  | cons c t ih =>
    show (Jvm.Cond.and c (allAtoms t)).before a st = _
    rw [Jvm.Cond.before_and, ih, List.all_cons]
def words1 : List Jvm.Cond := Jvm.Cond.code x code maxLocals ret :: tables_1
/-- a 'code' word, met by the world's own term for the bytes: nothing is compared byte by byte -/
theorem code_word {y : MethodName} {bytes : ByteArray} {mx : Nat} {rt : Option FieldType} {a : Array Value} {s : State} {m : MethodId} {meth : Method} {c : Code} (h1 : s.methodNamed? y = some m) (h2 : s.vm.method? m = some meth) (h3 : meth.code = some c) (h4 : c.code = bytes)
    (h5 : (c.maxLocals == mx && c.exceptionTable.isEmpty && decide (c.maxStack ≤ mostOperands) && decide (meth.sig.returnType = rt) && !meth.locks && decide (parseMethodDescriptor y.desc = some meth.sig)) = true) : (Jvm.Cond.code y bytes mx rt).before a s = true := by
  simp only [Bool.and_eq_true, beq_iff_eq, Bool.not_eq_true', decide_eq_true_eq] at h5
  obtain ⟨⟨⟨⟨⟨g1, g2⟩, g3⟩, g4⟩, g5⟩, g6⟩ := h5
  simp [Cond.before, Cond.holds, Cond.value, h1, h2, h3, h4, g1, g2, g3, g4, g5, g6]
def isCode : Jvm.Cond → Bool
  | .code _ _ _ _ => true
  | _ => false
theorem all_split {L : List Jvm.Cond} {P : Jvm.Cond → Bool} (h1 : L.all (fun c => isCode c || P c) = true) (h2 : ∀ c ∈ L.filter isCode, P c = true) : L.all P = true := by
  refine List.all_eq_true.mpr fun c hc => ?_
  have h := List.all_eq_true.mp h1 c hc
  rcases Bool.eq_false_or_eq_true (isCode c) with hi | hi
  · exact h2 c (List.mem_filter.mpr ⟨hc, hi⟩)
  · simpa [hi] using h
set_option maxRecDepth 65536 in
theorem w_c0 : (Jvm.Cond.code x code maxLocals ret).before args0 about1 = true := code_word (m := ⟨1, 1⟩) (meth := k1m1) (c := k1c1) (by decide +kernel) rfl rfl rfl (by decide +kernel)
set_option maxRecDepth 65536 in
theorem w_c1 : (Jvm.Cond.code ({ cls := "com/example/crawlex/crawlex/parse/AsciiCase", name := "isLetter", desc := "(C)Z" } : Jvm.MethodName) prog_43_method_4_code (1 : Nat) (Option.some Jvm.ClassFile.FieldType.boolean)).before args0 about1 = true := code_word (m := ⟨2, 1⟩) (meth := k2m1) (c := k2c1) (by decide +kernel) rfl rfl rfl (by decide +kernel)
def codes1 : List Jvm.Cond := [Jvm.Cond.code x code maxLocals ret, Jvm.Cond.code ({ cls := "com/example/crawlex/crawlex/parse/AsciiCase", name := "isLetter", desc := "(C)Z" } : Jvm.MethodName) prog_43_method_4_code (1 : Nat) (Option.some Jvm.ClassFile.FieldType.boolean)]
set_option maxRecDepth 65536 in
theorem codes_eq : words1.filter isCode = codes1 := rfl
theorem w_codes : ∀ c ∈ words1.filter isCode, c.before args0 about1 = true := by
  rw [codes_eq]
  intro c hc
  simp only [codes1, List.mem_cons, List.not_mem_nil, or_false] at hc
  rcases hc with rfl | rfl
  · exact w_c0
  · exact w_c1
set_option maxRecDepth 65536 in
theorem w_t1 : words1.all (fun c => isCode c || c.before args0 about1) = true := by decide +kernel
theorem w_tables : (allAtoms (Jvm.Cond.code x code maxLocals ret :: tables_1)).before args0 about1 = true := by
  rw [allAtoms_all]
  show words1.all (fun c => c.before args0 about1) = true
  refine all_split ?_ w_codes
  rw [w_t1]
set_option maxRecDepth 65536 in
theorem w_case : (Jvm.Cond.and given_1 narrow_1).before args0 about1 = true := by decide +kernel
theorem w_applies : (headSpec (Jvm.Cond.code x code maxLocals ret :: tables_1) room_1).applies x e0.platform about1 = true :=
  (Spec.applies_iff w_frames).mpr ⟨w_running, w_runnable, w_alone, w_named, w_hears, w_ripe, w_room, w_tables⟩
theorem atStart : AtStart classFile x code maxLocals ret World_1 tables_1 room_1 Calls_1 rest_1 Pre_1 launch0 p0 e0 about1 theMethod args0 below0 :=
  ⟨lists_1, trivial, launch0.admits_env _ _ _, launch0.least_env, fairChoices_fair.cas, fairChoices_fair.clock, w_frames, w_args, w_heap, w_applies, trivial, trivial, w_case⟩
end start1
theorem witness_1 : WitnessClaimed_1 := ⟨start1.p0, start1.e0, start1.about1, start1.theMethod, start1.args0, start1.below0, start1.atStart⟩
end Jvm.Pilot.@@N@@
