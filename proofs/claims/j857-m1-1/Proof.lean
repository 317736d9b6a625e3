import JvmDerived
import JvmDerived.Pilot.@@N@@Statement
import JvmDerived.Pilot.@@N@@Code
set_option linter.unusedVariables false
set_option linter.unusedSimpArgs false
@@BLOCK:NumsL.lean.txt@@
namespace Jvm.RoadKit
open Sem ClassFile Op Lib Jvm.Stand Jvm.Free Jvm.LawKit
section New
variable {p : Program} {l : Launch} {e : Env} {R : Room} {s : State} {m : MethodId} {args : Array Value} {below : List Frame} {meth : Method} {c : Code} {T : State} {locs : List Loc} {cells slots : Nat}
theorem retI (X : Stand p l e R s m args below meth c T locs cells slots) (hx : p.tables.exec = Jvm.exec) {pc : Nat} {Ls : Array Slot} {z : Int32} {rest : List Value} (hret : meth.sig.returnType = some .int) (hd : decode c.code pc = .ok (.ireturn, 1)) {fs : List Frame}
    (hl : ∀ (f : JFrame) (acts : List Action), f.method = m → f.locked = none → f.entered = [] → (doReturn e (T.setTop f) acts (some (.int z))).1 = T.setFrames fs) : Steps p.tables e below (T.setTop (mkF m pc Ls (.int z :: rest))) (T.setFrames fs) :=
  retOut X hx hret rfl (Or.inl ⟨rfl, Or.inl rfl, z, rfl⟩) hd hl
theorem retJ (X : Stand p l e R s m args below meth c T locs cells slots) (hx : p.tables.exec = Jvm.exec) {pc : Nat} {Ls : Array Slot} {z : Int64} {rest : List Value} (hret : meth.sig.returnType = some .long) (hd : decode c.code pc = .ok (.lreturn, 1)) {fs : List Frame}
    (hl : ∀ (f : JFrame) (acts : List Action), f.method = m → f.locked = none → f.entered = [] → (doReturn e (T.setTop f) acts (some (.long z))).1 = T.setFrames fs) : Steps p.tables e below (T.setTop (mkF m pc Ls (.long z :: rest))) (T.setFrames fs) :=
  retOut X hx hret rfl (Or.inr (Or.inl ⟨rfl, rfl, z, rfl⟩)) hd hl
theorem retA (X : Stand p l e R s m args below meth c T locs cells slots) (hx : p.tables.exec = Jvm.exec) {pc : Nat} {Ls : Array Slot} {w : Value} {t : FieldType} {rest : List Value} (hret : meth.sig.returnType = some t) (hn : narrow t w = w) (ht : t.isReference = true ∧ w.isRef = true) (hd : decode c.code pc = .ok (.areturn, 1)) {fs : List Frame}
    (hl : ∀ (f : JFrame) (acts : List Action), f.method = m → f.locked = none → f.entered = [] → (doReturn e (T.setTop f) acts (some w)).1 = T.setFrames fs) : Steps p.tables e below (T.setTop (mkF m pc Ls (w :: rest))) (T.setFrames fs) :=
  retOut X hx hret hn (Or.inr (Or.inr (Or.inr (Or.inr ⟨rfl, ht.1, ht.2⟩)))) hd hl
def Go (p : Program) (e : Env) (below : List Frame) (T : State) (f : JFrame) (Post : Outcome → State → Prop) : Prop :=
  ∃ s₂ o, Steps p.tables e below (T.setTop f) s₂ ∧ s₂.status = .running ∧ Ended s₂ below o ∧ Post o s₂
theorem Go.by {T T' : State} {f f' : JFrame} {Post : Outcome → State → Prop} (st : ∀ t, Steps p.tables e below (T'.setTop f') t → Steps p.tables e below (T.setTop f) t) (k : Go p e below T' f' Post) : Go p e below T f Post := by
  obtain ⟨s2, o, a, b⟩ := k
  exact ⟨s2, o, st _ a, b⟩
theorem Go.start {T : State} {f g : JFrame} {Post : Outcome → State → Prop} (q : f = g) (k : Go p e below T g Post) : ∃ s₂ o, Steps p.tables e below (T.setTop f) s₂ ∧ s₂.status = .running ∧ Ended s₂ below o ∧ Post o s₂ := by
  subst q; exact k
theorem Go.done {T s₂ : State} {f : JFrame} {o : Outcome} {Post : Outcome → State → Prop} (a : Steps p.tables e below (T.setTop f) s₂) (b : s₂.status = .running) (c : Ended s₂ below o) (d : Post o s₂) : Go p e below T f Post := ⟨s₂, o, a, b, c, d⟩
def own_ushr (x y : Int32) : Int32 := (x.toUInt32 >>> (y &&& 31).toUInt32).toInt32
def own_ushrL (x : Int64) (y : Int32) : Int64 := (x.toUInt64 >>> (y &&& 63).toInt64.toUInt64).toInt64
theorem own_cmpV (x y : Int64) : lcmpW x y = lcmpV x y := lcW x y
theorem own_holdsLt (z : Int32) : ifCond.holds .lt z = decide (z < 0) := rfl
theorem own_holdsGe (z : Int32) : ifCond.holds .ge z = decide (z ≥ 0) := rfl
theorem own_holdsGt (z : Int32) : ifCond.holds .gt z = decide (z > 0) := rfl
theorem own_holdsLe (z : Int32) : ifCond.holds .le z = decide (z ≤ 0) := rfl
theorem own_holdsEq (z : Int32) : ifCond.holds .eq z = (z == 0) := rfl
theorem own_holdsNe (z : Int32) : ifCond.holds .ne z = (z != 0) := rfl
theorem ctlt {x y : Int64} (h : x < y) : ifCond.holds .lt (lcmpW x y) = true ∧ ifCond.holds .ge (lcmpW x y) = false ∧ ifCond.holds .gt (lcmpW y x) = true ∧ ifCond.holds .le (lcmpW y x) = false := by
  rw [own_holdsLt, own_holdsGe, own_holdsGt, own_holdsLe, own_cmpV, own_cmpV]
  refine ⟨decide_eq_true ((lc_lt x y).mpr h), decide_eq_false fun q => ?_, decide_eq_true ((lc_gt y x).mpr h), decide_eq_false fun q => ?_⟩
  · exact Int64.not_le.mpr h ((lc_ge x y).mp q)
  · exact Int64.not_le.mpr h ((lc_le y x).mp q)
theorem cflt {x y : Int64} (h : ¬ x < y) : ifCond.holds .lt (lcmpW x y) = false ∧ ifCond.holds .ge (lcmpW x y) = true ∧ ifCond.holds .gt (lcmpW y x) = false ∧ ifCond.holds .le (lcmpW y x) = true := by
  rw [own_holdsLt, own_holdsGe, own_holdsGt, own_holdsLe, own_cmpV, own_cmpV]
  exact ⟨decide_eq_false fun q => h ((lc_lt x y).mp q), decide_eq_true ((lc_ge x y).mpr (Int64.not_lt.mp h)), decide_eq_false fun q => h ((lc_gt y x).mp q), decide_eq_true ((lc_le y x).mpr (Int64.not_lt.mp h))⟩
theorem cteq {x y : Int64} (h : x = y) : ifCond.holds .eq (lcmpW x y) = true ∧ ifCond.holds .ne (lcmpW x y) = false := by
  rw [own_holdsEq, own_holdsNe, own_cmpV, (lc_eq x y).mpr h]; exact ⟨rfl, rfl⟩
theorem cfeq {x y : Int64} (h : ¬ x = y) : ifCond.holds .eq (lcmpW x y) = false ∧ ifCond.holds .ne (lcmpW x y) = true := by
  have q : ¬ lcmpV x y = 0 := fun r => h ((lc_eq x y).mp r)
  rw [own_holdsEq, own_holdsNe, own_cmpV]
  exact ⟨beq_false_of_ne q, bne_iff_ne.mpr q⟩
theorem Arr.keep {Z : State} {h h' : Heap} {a : Addr} {cl : Cell} {ty : FieldType} {ws : List Addr} (F : Arr Z h a cl ty) (K : Keep h h' ws) (q : a ∉ ws) : Arr Z h' a cl ty := ⟨K.2.1 a cl F.1 q, F.2⟩
theorem own_selPriv {y : MethodName} {s : State} {args : Array Value} {n : Nat} (hy : y.cls ≠ "java/lang/invoke/MethodHandle" ∧ y.cls ≠ "java/lang/invoke/VarHandle") (hins : (Cond.instantiable y.cls n).before args s = true) (hpriv : (Cond.privateMethod y).before args s = true) (hinst : (Cond.instanceMethod y).before args s = true) :
    (Cond.selects y.cls y y).before args s = true := by
  obtain ⟨c, k, hc, hk, -, hniab, -, -⟩ := Cond.instantiable_spec hins
  have hni : k.isInterface = false := (Bool.or_eq_false_iff.mp hniab).1
  obtain ⟨mk, methM, hnamed, hmethM, -, -⟩ := Cond.instanceMethod_spec hinst
  have hfound : s.methodFound? y.cls y.name y.desc = some mk := State.methodFound?_of_named hnamed hy
  have hcls : mk.cls = c := Option.some.inj ((findClass_of_methodNamed hnamed).symm.trans hc)
  have hsel : selectMethod {} s.vm c mk = .method mk := selectMethod_private hmethM (Cond.privateMethod_at hpriv mk methM hnamed hmethM)
  simp only [Cond.before, Cond.holds, Cond.value, hc, hfound, hnamed, hsel, hcls, hk]
  simp; exact hni
end New
end Jvm.RoadKit
namespace Jvm.Pilot.@@N@@
open Jvm Jvm.ClassFile Sem Op Lib Jvm.Free Jvm.Stand Jvm.LawKit Jvm.RoadKit Bundle Jvm.Pilot.@@N@@.Jvm.D
def f1 (p1 : Int32) : Int32 :=
  if p1 < (97 : Int32) then (if p1 < (65 : Int32) then (if p1 < (48 : Int32) then (if p1 = (95 : Int32) then (1 : Int32)
        else (0 : Int32))
      else (if (57 : Int32) < p1 then (if p1 = (95 : Int32) then (1 : Int32)
          else (0 : Int32))
        else (1 : Int32)))
    else (if (90 : Int32) < p1 then (if p1 < (48 : Int32) then (if p1 = (95 : Int32) then (1 : Int32)
          else (0 : Int32))
        else (if (57 : Int32) < p1 then (if p1 = (95 : Int32) then (1 : Int32)
            else (0 : Int32))
          else (1 : Int32)))
      else (1 : Int32)))
  else (if (122 : Int32) < p1 then (if p1 < (65 : Int32) then (if p1 < (48 : Int32) then (if p1 = (95 : Int32) then (1 : Int32)
          else (0 : Int32))
        else (if (57 : Int32) < p1 then (if p1 = (95 : Int32) then (1 : Int32)
            else (0 : Int32))
          else (1 : Int32)))
      else (if (90 : Int32) < p1 then (if p1 < (48 : Int32) then (if p1 = (95 : Int32) then (1 : Int32)
            else (0 : Int32))
          else (if (57 : Int32) < p1 then (if p1 = (95 : Int32) then (1 : Int32)
              else (0 : Int32))
            else (1 : Int32)))
        else (1 : Int32)))
    else (1 : Int32))
theorem d1_0 : decode prog_18_method_8_code 0 = .ok (.iload_n 0, 1) := by decide +kernel
theorem d1_1 : decode prog_18_method_8_code 1 = .ok (.bipush 97, 2) := by decide +kernel
theorem d1_3 : decode prog_18_method_8_code 3 = .ok (.if_icmp .lt 9, 3) := by decide +kernel
theorem d1_6 : decode prog_18_method_8_code 6 = .ok (.iload_n 0, 1) := by decide +kernel
theorem d1_7 : decode prog_18_method_8_code 7 = .ok (.bipush 122, 2) := by decide +kernel
theorem d1_9 : decode prog_18_method_8_code 9 = .ok (.if_icmp .le 33, 3) := by decide +kernel
theorem d1_12 : decode prog_18_method_8_code 12 = .ok (.iload_n 0, 1) := by decide +kernel
theorem d1_13 : decode prog_18_method_8_code 13 = .ok (.bipush 65, 2) := by decide +kernel
theorem d1_15 : decode prog_18_method_8_code 15 = .ok (.if_icmp .lt 9, 3) := by decide +kernel
theorem d1_18 : decode prog_18_method_8_code 18 = .ok (.iload_n 0, 1) := by decide +kernel
theorem d1_19 : decode prog_18_method_8_code 19 = .ok (.bipush 90, 2) := by decide +kernel
theorem d1_21 : decode prog_18_method_8_code 21 = .ok (.if_icmp .le 21, 3) := by decide +kernel
theorem d1_24 : decode prog_18_method_8_code 24 = .ok (.iload_n 0, 1) := by decide +kernel
theorem d1_25 : decode prog_18_method_8_code 25 = .ok (.bipush 48, 2) := by decide +kernel
theorem d1_27 : decode prog_18_method_8_code 27 = .ok (.if_icmp .lt 9, 3) := by decide +kernel
theorem d1_30 : decode prog_18_method_8_code 30 = .ok (.iload_n 0, 1) := by decide +kernel
theorem d1_31 : decode prog_18_method_8_code 31 = .ok (.bipush 57, 2) := by decide +kernel
theorem d1_33 : decode prog_18_method_8_code 33 = .ok (.if_icmp .le 9, 3) := by decide +kernel
theorem d1_36 : decode prog_18_method_8_code 36 = .ok (.iload_n 0, 1) := by decide +kernel
theorem d1_37 : decode prog_18_method_8_code 37 = .ok (.bipush 95, 2) := by decide +kernel
theorem d1_39 : decode prog_18_method_8_code 39 = .ok (.if_icmp .ne 7, 3) := by decide +kernel
theorem d1_42 : decode prog_18_method_8_code 42 = .ok (.iconst 1, 1) := by decide +kernel
theorem d1_43 : decode prog_18_method_8_code 43 = .ok (.goto 4, 3) := by decide +kernel
theorem d1_46 : decode prog_18_method_8_code 46 = .ok (.iconst 0, 1) := by decide +kernel
theorem d1_47 : decode prog_18_method_8_code 47 = .ok (.ireturn, 1) := by decide +kernel
theorem pn_0 : plainName "com/example/omega_automata_convert/omegaautomataconvert/BlockTokenizer" = true := by first | (simp [plainName, overriddenIn]; done) | decide +kernel
theorem ef_1 (m : MethodId) (x0 : Int32) : entryFrame m #[(.int x0)] 1 = mkF m 0 #[.val (.int x0)] [] := by first | (simp [entryFrame, mkF, argsToLocals, Value.category]; done) | rfl
def Q1 (Z : State) (p1 : Int32) (h0 : Heap) (n0 : Nat) (v : Option Value) (h : Heap) (L : List Loc) : Prop := v = some (.int (f1 p1)) ∧ Fr n0 L ∧ h = h0
set_option maxRecDepth 65536 in
set_option maxHeartbeats 40000000 in
theorem rm1 (l : Launch) (Z : State) (a0 : Array Value) (hw : ∀ d ∈ tables_1, d.before a0 Z = true) (ws : List Jvm.Cond) (p1 : Int32) (h0 : Heap) (n0 : Nat) (Z0 : n0 ≤ h0.size) :
    MetFree l (⟨"com/example/omega_automata_convert/omegaautomataconvert/BlockTokenizer", "isWordCharacter", "(I)Z"⟩ : MethodName) (head1 (Jvm.Cond.code (⟨"com/example/omega_automata_convert/omegaautomataconvert/BlockTokenizer", "isWordCharacter", "(I)Z"⟩ : MethodName) prog_18_method_8_code 1 (some .boolean) :: ws) ({ frames := 0, cells := 0, slots := 0, locals := 0 } : Room)) (fun a U => a = #[(.int p1)] ∧ Z.Warmed39 U.vm ∧ U.heap = h0) (fun _ _ _ _ _ => True) (fun _ U o U' => ∃ v L, o = .returned v ∧ Q1 Z p1 h0 n0 v U'.heap L ∧ FrameEnd U o U' L ({ frames := 0, cells := 0, slots := 0, locals := 0 } : Room).cells ({ frames := 0, cells := 0, slots := 0, locals := 0 } : Room).slots) := by
  refine MetFree.of_bodySF (plainFor_of_name pn_0) hisR ?_
  intro p e s m args below meth c s₁ Bd hml0 hP hK
  obtain ⟨rfl, hZ, hh⟩ := hP
  have hx := Bd.exec
  have hby := Bd.bytes
  have hml : c.maxLocals = 1 := hml0
  have hown : s.vm.findClass "com/example/omega_automata_convert/omegaautomataconvert/BlockTokenizer" = some m.cls := findClass_of_methodNamed Bd.named
  have hnm := (name_of_methodNamed Bd.named Bd.method).1
  have X0 : Stand p l e ({ frames := 0, cells := 0, slots := 0, locals := 0 } : Room) s m #[(.int p1)] below meth c s₁ [] 0 0 := Stand.of_body Bd
  have e0 : s₁.heap = h0 := by rw [← hh, Bd.state]; rfl
  have N0 := Fr.nil n0
  refine Go.start (ef_1 m p1) ?_
  show Go p e below s₁ (mkF m 0 #[.val (.int p1)] []) _
  refine Go.by (fun t k => XS.iloadN X0.here hx rfl (hb hby d1_0) rfl k) ?_
  show Go p e below s₁ (mkF m 1 #[.val (.int p1)] [(.int p1)]) _
  refine Go.by (fun t k => XS.bipush X0.here hx rfl (hb hby d1_1) k) ?_
  show Go p e below s₁ (mkF m 3 #[.val (.int p1)] [(.int (97 : Int32)), (.int p1)]) _
  by_cases hc1 : p1 < (97 : Int32)
  · refine Go.by (fun t k => XS.icmpYes X0.here hx rfl (pc0 := 3) (pc' := 12) rfl (hb hby d1_3) rfl (tlt hc1).1 (by decide) (by decide) k) ?_
    show Go p e below s₁ (mkF m 12 #[.val (.int p1)] []) _
    refine Go.by (fun t k => XS.iloadN X0.here hx rfl (hb hby d1_12) rfl k) ?_
    show Go p e below s₁ (mkF m 13 #[.val (.int p1)] [(.int p1)]) _
    refine Go.by (fun t k => XS.bipush X0.here hx rfl (hb hby d1_13) k) ?_
    show Go p e below s₁ (mkF m 15 #[.val (.int p1)] [(.int (65 : Int32)), (.int p1)]) _
    by_cases hc2 : p1 < (65 : Int32)
    · refine Go.by (fun t k => XS.icmpYes X0.here hx rfl (pc0 := 15) (pc' := 24) rfl (hb hby d1_15) rfl (tlt hc2).1 (by decide) (by decide) k) ?_
      show Go p e below s₁ (mkF m 24 #[.val (.int p1)] []) _
      refine Go.by (fun t k => XS.iloadN X0.here hx rfl (hb hby d1_24) rfl k) ?_
      show Go p e below s₁ (mkF m 25 #[.val (.int p1)] [(.int p1)]) _
      refine Go.by (fun t k => XS.bipush X0.here hx rfl (hb hby d1_25) k) ?_
      show Go p e below s₁ (mkF m 27 #[.val (.int p1)] [(.int (48 : Int32)), (.int p1)]) _
      by_cases hc3 : p1 < (48 : Int32)
      · refine Go.by (fun t k => XS.icmpYes X0.here hx rfl (pc0 := 27) (pc' := 36) rfl (hb hby d1_27) rfl (tlt hc3).1 (by decide) (by decide) k) ?_
        show Go p e below s₁ (mkF m 36 #[.val (.int p1)] []) _
        refine Go.by (fun t k => XS.iloadN X0.here hx rfl (hb hby d1_36) rfl k) ?_
        show Go p e below s₁ (mkF m 37 #[.val (.int p1)] [(.int p1)]) _
        refine Go.by (fun t k => XS.bipush X0.here hx rfl (hb hby d1_37) k) ?_
        show Go p e below s₁ (mkF m 39 #[.val (.int p1)] [(.int (95 : Int32)), (.int p1)]) _
        by_cases hc4 : p1 = (95 : Int32)
        · refine Go.by (fun t k => XS.icmpNo X0.here hx rfl (hb hby d1_39) rfl (teq hc4).2 k) ?_
          show Go p e below s₁ (mkF m 42 #[.val (.int p1)] []) _
          refine Go.by (fun t k => XS.iconst X0.here hx rfl (hb hby d1_42) k) ?_
          show Go p e below s₁ (mkF m 43 #[.val (.int p1)] [(.int (1 : Int32))]) _
          refine Go.by (fun t k => XS.goto X0.here hx rfl (pc0 := 43) (pc' := 47) rfl (hb hby d1_43) (by decide) (by decide) k) ?_
          show Go p e below s₁ (mkF m 47 #[.val (.int p1)] [(.int (1 : Int32))]) _
          obtain ⟨fs, hr, hrun, hended, hW, hsame⟩ := X0.leave (v := some (.int (1 : Int32))) (fun h => by rw [Bd.returns] at h; cases h)
          refine Go.done (retN X0 hx (t := .boolean) Bd.returns (by simp) (hb hby d1_47) hr) hrun hended ⟨_, _, rfl, ?_, ⟨_, rfl⟩, hW, hsame.mono (by decide) (by decide)⟩
          show Q1 Z p1 h0 n0 _ s₁.heap _
          rw [e0]
          refine ⟨?_, N0, rfl⟩
          rw [f1, if_pos hc1, if_pos hc2, if_pos hc3, if_pos hc4]
        · refine Go.by (fun t k => XS.icmpYes X0.here hx rfl (pc0 := 39) (pc' := 46) rfl (hb hby d1_39) rfl (feq hc4).2 (by decide) (by decide) k) ?_
          show Go p e below s₁ (mkF m 46 #[.val (.int p1)] []) _
          refine Go.by (fun t k => XS.iconst X0.here hx rfl (hb hby d1_46) k) ?_
          show Go p e below s₁ (mkF m 47 #[.val (.int p1)] [(.int (0 : Int32))]) _
          obtain ⟨fs, hr, hrun, hended, hW, hsame⟩ := X0.leave (v := some (.int (0 : Int32))) (fun h => by rw [Bd.returns] at h; cases h)
          refine Go.done (retN X0 hx (t := .boolean) Bd.returns (by simp) (hb hby d1_47) hr) hrun hended ⟨_, _, rfl, ?_, ⟨_, rfl⟩, hW, hsame.mono (by decide) (by decide)⟩
          show Q1 Z p1 h0 n0 _ s₁.heap _
          rw [e0]
          refine ⟨?_, N0, rfl⟩
          rw [f1, if_pos hc1, if_pos hc2, if_pos hc3, if_neg hc4]
      · refine Go.by (fun t k => XS.icmpNo X0.here hx rfl (hb hby d1_27) rfl (flt hc3).1 k) ?_
        show Go p e below s₁ (mkF m 30 #[.val (.int p1)] []) _
        refine Go.by (fun t k => XS.iloadN X0.here hx rfl (hb hby d1_30) rfl k) ?_
        show Go p e below s₁ (mkF m 31 #[.val (.int p1)] [(.int p1)]) _
        refine Go.by (fun t k => XS.bipush X0.here hx rfl (hb hby d1_31) k) ?_
        show Go p e below s₁ (mkF m 33 #[.val (.int p1)] [(.int (57 : Int32)), (.int p1)]) _
        by_cases hc5 : (57 : Int32) < p1
        · refine Go.by (fun t k => XS.icmpNo X0.here hx rfl (hb hby d1_33) rfl (tlt hc5).2.2.2 k) ?_
          show Go p e below s₁ (mkF m 36 #[.val (.int p1)] []) _
          refine Go.by (fun t k => XS.iloadN X0.here hx rfl (hb hby d1_36) rfl k) ?_
          show Go p e below s₁ (mkF m 37 #[.val (.int p1)] [(.int p1)]) _
          refine Go.by (fun t k => XS.bipush X0.here hx rfl (hb hby d1_37) k) ?_
          show Go p e below s₁ (mkF m 39 #[.val (.int p1)] [(.int (95 : Int32)), (.int p1)]) _
          by_cases hc6 : p1 = (95 : Int32)
          · refine Go.by (fun t k => XS.icmpNo X0.here hx rfl (hb hby d1_39) rfl (teq hc6).2 k) ?_
            show Go p e below s₁ (mkF m 42 #[.val (.int p1)] []) _
            refine Go.by (fun t k => XS.iconst X0.here hx rfl (hb hby d1_42) k) ?_
            show Go p e below s₁ (mkF m 43 #[.val (.int p1)] [(.int (1 : Int32))]) _
            refine Go.by (fun t k => XS.goto X0.here hx rfl (pc0 := 43) (pc' := 47) rfl (hb hby d1_43) (by decide) (by decide) k) ?_
            show Go p e below s₁ (mkF m 47 #[.val (.int p1)] [(.int (1 : Int32))]) _
            obtain ⟨fs, hr, hrun, hended, hW, hsame⟩ := X0.leave (v := some (.int (1 : Int32))) (fun h => by rw [Bd.returns] at h; cases h)
            refine Go.done (retN X0 hx (t := .boolean) Bd.returns (by simp) (hb hby d1_47) hr) hrun hended ⟨_, _, rfl, ?_, ⟨_, rfl⟩, hW, hsame.mono (by decide) (by decide)⟩
            show Q1 Z p1 h0 n0 _ s₁.heap _
            rw [e0]
            refine ⟨?_, N0, rfl⟩
            rw [f1, if_pos hc1, if_pos hc2, if_neg hc3, if_pos hc5, if_pos hc6]
          · refine Go.by (fun t k => XS.icmpYes X0.here hx rfl (pc0 := 39) (pc' := 46) rfl (hb hby d1_39) rfl (feq hc6).2 (by decide) (by decide) k) ?_
            show Go p e below s₁ (mkF m 46 #[.val (.int p1)] []) _
            refine Go.by (fun t k => XS.iconst X0.here hx rfl (hb hby d1_46) k) ?_
            show Go p e below s₁ (mkF m 47 #[.val (.int p1)] [(.int (0 : Int32))]) _
            obtain ⟨fs, hr, hrun, hended, hW, hsame⟩ := X0.leave (v := some (.int (0 : Int32))) (fun h => by rw [Bd.returns] at h; cases h)
            refine Go.done (retN X0 hx (t := .boolean) Bd.returns (by simp) (hb hby d1_47) hr) hrun hended ⟨_, _, rfl, ?_, ⟨_, rfl⟩, hW, hsame.mono (by decide) (by decide)⟩
            show Q1 Z p1 h0 n0 _ s₁.heap _
            rw [e0]
            refine ⟨?_, N0, rfl⟩
            rw [f1, if_pos hc1, if_pos hc2, if_neg hc3, if_pos hc5, if_neg hc6]
        · refine Go.by (fun t k => XS.icmpYes X0.here hx rfl (pc0 := 33) (pc' := 42) rfl (hb hby d1_33) rfl (flt hc5).2.2.2 (by decide) (by decide) k) ?_
          show Go p e below s₁ (mkF m 42 #[.val (.int p1)] []) _
          refine Go.by (fun t k => XS.iconst X0.here hx rfl (hb hby d1_42) k) ?_
          show Go p e below s₁ (mkF m 43 #[.val (.int p1)] [(.int (1 : Int32))]) _
          refine Go.by (fun t k => XS.goto X0.here hx rfl (pc0 := 43) (pc' := 47) rfl (hb hby d1_43) (by decide) (by decide) k) ?_
          show Go p e below s₁ (mkF m 47 #[.val (.int p1)] [(.int (1 : Int32))]) _
          obtain ⟨fs, hr, hrun, hended, hW, hsame⟩ := X0.leave (v := some (.int (1 : Int32))) (fun h => by rw [Bd.returns] at h; cases h)
          refine Go.done (retN X0 hx (t := .boolean) Bd.returns (by simp) (hb hby d1_47) hr) hrun hended ⟨_, _, rfl, ?_, ⟨_, rfl⟩, hW, hsame.mono (by decide) (by decide)⟩
          show Q1 Z p1 h0 n0 _ s₁.heap _
          rw [e0]
          refine ⟨?_, N0, rfl⟩
          rw [f1, if_pos hc1, if_pos hc2, if_neg hc3, if_neg hc5]
    · refine Go.by (fun t k => XS.icmpNo X0.here hx rfl (hb hby d1_15) rfl (flt hc2).1 k) ?_
      show Go p e below s₁ (mkF m 18 #[.val (.int p1)] []) _
      refine Go.by (fun t k => XS.iloadN X0.here hx rfl (hb hby d1_18) rfl k) ?_
      show Go p e below s₁ (mkF m 19 #[.val (.int p1)] [(.int p1)]) _
      refine Go.by (fun t k => XS.bipush X0.here hx rfl (hb hby d1_19) k) ?_
      show Go p e below s₁ (mkF m 21 #[.val (.int p1)] [(.int (90 : Int32)), (.int p1)]) _
      by_cases hc7 : (90 : Int32) < p1
      · refine Go.by (fun t k => XS.icmpNo X0.here hx rfl (hb hby d1_21) rfl (tlt hc7).2.2.2 k) ?_
        show Go p e below s₁ (mkF m 24 #[.val (.int p1)] []) _
        refine Go.by (fun t k => XS.iloadN X0.here hx rfl (hb hby d1_24) rfl k) ?_
        show Go p e below s₁ (mkF m 25 #[.val (.int p1)] [(.int p1)]) _
        refine Go.by (fun t k => XS.bipush X0.here hx rfl (hb hby d1_25) k) ?_
        show Go p e below s₁ (mkF m 27 #[.val (.int p1)] [(.int (48 : Int32)), (.int p1)]) _
        by_cases hc8 : p1 < (48 : Int32)
        · refine Go.by (fun t k => XS.icmpYes X0.here hx rfl (pc0 := 27) (pc' := 36) rfl (hb hby d1_27) rfl (tlt hc8).1 (by decide) (by decide) k) ?_
          show Go p e below s₁ (mkF m 36 #[.val (.int p1)] []) _
          refine Go.by (fun t k => XS.iloadN X0.here hx rfl (hb hby d1_36) rfl k) ?_
          show Go p e below s₁ (mkF m 37 #[.val (.int p1)] [(.int p1)]) _
          refine Go.by (fun t k => XS.bipush X0.here hx rfl (hb hby d1_37) k) ?_
          show Go p e below s₁ (mkF m 39 #[.val (.int p1)] [(.int (95 : Int32)), (.int p1)]) _
          by_cases hc9 : p1 = (95 : Int32)
          · refine Go.by (fun t k => XS.icmpNo X0.here hx rfl (hb hby d1_39) rfl (teq hc9).2 k) ?_
            show Go p e below s₁ (mkF m 42 #[.val (.int p1)] []) _
            refine Go.by (fun t k => XS.iconst X0.here hx rfl (hb hby d1_42) k) ?_
            show Go p e below s₁ (mkF m 43 #[.val (.int p1)] [(.int (1 : Int32))]) _
            refine Go.by (fun t k => XS.goto X0.here hx rfl (pc0 := 43) (pc' := 47) rfl (hb hby d1_43) (by decide) (by decide) k) ?_
            show Go p e below s₁ (mkF m 47 #[.val (.int p1)] [(.int (1 : Int32))]) _
            obtain ⟨fs, hr, hrun, hended, hW, hsame⟩ := X0.leave (v := some (.int (1 : Int32))) (fun h => by rw [Bd.returns] at h; cases h)
            refine Go.done (retN X0 hx (t := .boolean) Bd.returns (by simp) (hb hby d1_47) hr) hrun hended ⟨_, _, rfl, ?_, ⟨_, rfl⟩, hW, hsame.mono (by decide) (by decide)⟩
            show Q1 Z p1 h0 n0 _ s₁.heap _
            rw [e0]
            refine ⟨?_, N0, rfl⟩
            rw [f1, if_pos hc1, if_neg hc2, if_pos hc7, if_pos hc8, if_pos hc9]
          · refine Go.by (fun t k => XS.icmpYes X0.here hx rfl (pc0 := 39) (pc' := 46) rfl (hb hby d1_39) rfl (feq hc9).2 (by decide) (by decide) k) ?_
            show Go p e below s₁ (mkF m 46 #[.val (.int p1)] []) _
            refine Go.by (fun t k => XS.iconst X0.here hx rfl (hb hby d1_46) k) ?_
            show Go p e below s₁ (mkF m 47 #[.val (.int p1)] [(.int (0 : Int32))]) _
            obtain ⟨fs, hr, hrun, hended, hW, hsame⟩ := X0.leave (v := some (.int (0 : Int32))) (fun h => by rw [Bd.returns] at h; cases h)
            refine Go.done (retN X0 hx (t := .boolean) Bd.returns (by simp) (hb hby d1_47) hr) hrun hended ⟨_, _, rfl, ?_, ⟨_, rfl⟩, hW, hsame.mono (by decide) (by decide)⟩
            show Q1 Z p1 h0 n0 _ s₁.heap _
            rw [e0]
            refine ⟨?_, N0, rfl⟩
            rw [f1, if_pos hc1, if_neg hc2, if_pos hc7, if_pos hc8, if_neg hc9]
        · refine Go.by (fun t k => XS.icmpNo X0.here hx rfl (hb hby d1_27) rfl (flt hc8).1 k) ?_
          show Go p e below s₁ (mkF m 30 #[.val (.int p1)] []) _
          refine Go.by (fun t k => XS.iloadN X0.here hx rfl (hb hby d1_30) rfl k) ?_
          show Go p e below s₁ (mkF m 31 #[.val (.int p1)] [(.int p1)]) _
          refine Go.by (fun t k => XS.bipush X0.here hx rfl (hb hby d1_31) k) ?_
          show Go p e below s₁ (mkF m 33 #[.val (.int p1)] [(.int (57 : Int32)), (.int p1)]) _
          by_cases hc10 : (57 : Int32) < p1
          · refine Go.by (fun t k => XS.icmpNo X0.here hx rfl (hb hby d1_33) rfl (tlt hc10).2.2.2 k) ?_
            show Go p e below s₁ (mkF m 36 #[.val (.int p1)] []) _
            refine Go.by (fun t k => XS.iloadN X0.here hx rfl (hb hby d1_36) rfl k) ?_
            show Go p e below s₁ (mkF m 37 #[.val (.int p1)] [(.int p1)]) _
            refine Go.by (fun t k => XS.bipush X0.here hx rfl (hb hby d1_37) k) ?_
            show Go p e below s₁ (mkF m 39 #[.val (.int p1)] [(.int (95 : Int32)), (.int p1)]) _
            by_cases hc11 : p1 = (95 : Int32)
            · refine Go.by (fun t k => XS.icmpNo X0.here hx rfl (hb hby d1_39) rfl (teq hc11).2 k) ?_
              show Go p e below s₁ (mkF m 42 #[.val (.int p1)] []) _
              refine Go.by (fun t k => XS.iconst X0.here hx rfl (hb hby d1_42) k) ?_
              show Go p e below s₁ (mkF m 43 #[.val (.int p1)] [(.int (1 : Int32))]) _
              refine Go.by (fun t k => XS.goto X0.here hx rfl (pc0 := 43) (pc' := 47) rfl (hb hby d1_43) (by decide) (by decide) k) ?_
              show Go p e below s₁ (mkF m 47 #[.val (.int p1)] [(.int (1 : Int32))]) _
              obtain ⟨fs, hr, hrun, hended, hW, hsame⟩ := X0.leave (v := some (.int (1 : Int32))) (fun h => by rw [Bd.returns] at h; cases h)
              refine Go.done (retN X0 hx (t := .boolean) Bd.returns (by simp) (hb hby d1_47) hr) hrun hended ⟨_, _, rfl, ?_, ⟨_, rfl⟩, hW, hsame.mono (by decide) (by decide)⟩
              show Q1 Z p1 h0 n0 _ s₁.heap _
              rw [e0]
              refine ⟨?_, N0, rfl⟩
              rw [f1, if_pos hc1, if_neg hc2, if_pos hc7, if_neg hc8, if_pos hc10, if_pos hc11]
            · refine Go.by (fun t k => XS.icmpYes X0.here hx rfl (pc0 := 39) (pc' := 46) rfl (hb hby d1_39) rfl (feq hc11).2 (by decide) (by decide) k) ?_
              show Go p e below s₁ (mkF m 46 #[.val (.int p1)] []) _
              refine Go.by (fun t k => XS.iconst X0.here hx rfl (hb hby d1_46) k) ?_
              show Go p e below s₁ (mkF m 47 #[.val (.int p1)] [(.int (0 : Int32))]) _
              obtain ⟨fs, hr, hrun, hended, hW, hsame⟩ := X0.leave (v := some (.int (0 : Int32))) (fun h => by rw [Bd.returns] at h; cases h)
              refine Go.done (retN X0 hx (t := .boolean) Bd.returns (by simp) (hb hby d1_47) hr) hrun hended ⟨_, _, rfl, ?_, ⟨_, rfl⟩, hW, hsame.mono (by decide) (by decide)⟩
              show Q1 Z p1 h0 n0 _ s₁.heap _
              rw [e0]
              refine ⟨?_, N0, rfl⟩
              rw [f1, if_pos hc1, if_neg hc2, if_pos hc7, if_neg hc8, if_pos hc10, if_neg hc11]
          · refine Go.by (fun t k => XS.icmpYes X0.here hx rfl (pc0 := 33) (pc' := 42) rfl (hb hby d1_33) rfl (flt hc10).2.2.2 (by decide) (by decide) k) ?_
            show Go p e below s₁ (mkF m 42 #[.val (.int p1)] []) _
            refine Go.by (fun t k => XS.iconst X0.here hx rfl (hb hby d1_42) k) ?_
            show Go p e below s₁ (mkF m 43 #[.val (.int p1)] [(.int (1 : Int32))]) _
            refine Go.by (fun t k => XS.goto X0.here hx rfl (pc0 := 43) (pc' := 47) rfl (hb hby d1_43) (by decide) (by decide) k) ?_
            show Go p e below s₁ (mkF m 47 #[.val (.int p1)] [(.int (1 : Int32))]) _
            obtain ⟨fs, hr, hrun, hended, hW, hsame⟩ := X0.leave (v := some (.int (1 : Int32))) (fun h => by rw [Bd.returns] at h; cases h)
            refine Go.done (retN X0 hx (t := .boolean) Bd.returns (by simp) (hb hby d1_47) hr) hrun hended ⟨_, _, rfl, ?_, ⟨_, rfl⟩, hW, hsame.mono (by decide) (by decide)⟩
            show Q1 Z p1 h0 n0 _ s₁.heap _
            rw [e0]
            refine ⟨?_, N0, rfl⟩
            rw [f1, if_pos hc1, if_neg hc2, if_pos hc7, if_neg hc8, if_neg hc10]
      · refine Go.by (fun t k => XS.icmpYes X0.here hx rfl (pc0 := 21) (pc' := 42) rfl (hb hby d1_21) rfl (flt hc7).2.2.2 (by decide) (by decide) k) ?_
        show Go p e below s₁ (mkF m 42 #[.val (.int p1)] []) _
        refine Go.by (fun t k => XS.iconst X0.here hx rfl (hb hby d1_42) k) ?_
        show Go p e below s₁ (mkF m 43 #[.val (.int p1)] [(.int (1 : Int32))]) _
        refine Go.by (fun t k => XS.goto X0.here hx rfl (pc0 := 43) (pc' := 47) rfl (hb hby d1_43) (by decide) (by decide) k) ?_
        show Go p e below s₁ (mkF m 47 #[.val (.int p1)] [(.int (1 : Int32))]) _
        obtain ⟨fs, hr, hrun, hended, hW, hsame⟩ := X0.leave (v := some (.int (1 : Int32))) (fun h => by rw [Bd.returns] at h; cases h)
        refine Go.done (retN X0 hx (t := .boolean) Bd.returns (by simp) (hb hby d1_47) hr) hrun hended ⟨_, _, rfl, ?_, ⟨_, rfl⟩, hW, hsame.mono (by decide) (by decide)⟩
        show Q1 Z p1 h0 n0 _ s₁.heap _
        rw [e0]
        refine ⟨?_, N0, rfl⟩
        rw [f1, if_pos hc1, if_neg hc2, if_neg hc7]
  · refine Go.by (fun t k => XS.icmpNo X0.here hx rfl (hb hby d1_3) rfl (flt hc1).1 k) ?_
    show Go p e below s₁ (mkF m 6 #[.val (.int p1)] []) _
    refine Go.by (fun t k => XS.iloadN X0.here hx rfl (hb hby d1_6) rfl k) ?_
    show Go p e below s₁ (mkF m 7 #[.val (.int p1)] [(.int p1)]) _
    refine Go.by (fun t k => XS.bipush X0.here hx rfl (hb hby d1_7) k) ?_
    show Go p e below s₁ (mkF m 9 #[.val (.int p1)] [(.int (122 : Int32)), (.int p1)]) _
    by_cases hc12 : (122 : Int32) < p1
    · refine Go.by (fun t k => XS.icmpNo X0.here hx rfl (hb hby d1_9) rfl (tlt hc12).2.2.2 k) ?_
      show Go p e below s₁ (mkF m 12 #[.val (.int p1)] []) _
      refine Go.by (fun t k => XS.iloadN X0.here hx rfl (hb hby d1_12) rfl k) ?_
      show Go p e below s₁ (mkF m 13 #[.val (.int p1)] [(.int p1)]) _
      refine Go.by (fun t k => XS.bipush X0.here hx rfl (hb hby d1_13) k) ?_
      show Go p e below s₁ (mkF m 15 #[.val (.int p1)] [(.int (65 : Int32)), (.int p1)]) _
      by_cases hc13 : p1 < (65 : Int32)
      · refine Go.by (fun t k => XS.icmpYes X0.here hx rfl (pc0 := 15) (pc' := 24) rfl (hb hby d1_15) rfl (tlt hc13).1 (by decide) (by decide) k) ?_
        show Go p e below s₁ (mkF m 24 #[.val (.int p1)] []) _
        refine Go.by (fun t k => XS.iloadN X0.here hx rfl (hb hby d1_24) rfl k) ?_
        show Go p e below s₁ (mkF m 25 #[.val (.int p1)] [(.int p1)]) _
        refine Go.by (fun t k => XS.bipush X0.here hx rfl (hb hby d1_25) k) ?_
        show Go p e below s₁ (mkF m 27 #[.val (.int p1)] [(.int (48 : Int32)), (.int p1)]) _
        by_cases hc14 : p1 < (48 : Int32)
        · refine Go.by (fun t k => XS.icmpYes X0.here hx rfl (pc0 := 27) (pc' := 36) rfl (hb hby d1_27) rfl (tlt hc14).1 (by decide) (by decide) k) ?_
          show Go p e below s₁ (mkF m 36 #[.val (.int p1)] []) _
          refine Go.by (fun t k => XS.iloadN X0.here hx rfl (hb hby d1_36) rfl k) ?_
          show Go p e below s₁ (mkF m 37 #[.val (.int p1)] [(.int p1)]) _
          refine Go.by (fun t k => XS.bipush X0.here hx rfl (hb hby d1_37) k) ?_
          show Go p e below s₁ (mkF m 39 #[.val (.int p1)] [(.int (95 : Int32)), (.int p1)]) _
          by_cases hc15 : p1 = (95 : Int32)
          · refine Go.by (fun t k => XS.icmpNo X0.here hx rfl (hb hby d1_39) rfl (teq hc15).2 k) ?_
            show Go p e below s₁ (mkF m 42 #[.val (.int p1)] []) _
            refine Go.by (fun t k => XS.iconst X0.here hx rfl (hb hby d1_42) k) ?_
            show Go p e below s₁ (mkF m 43 #[.val (.int p1)] [(.int (1 : Int32))]) _
            refine Go.by (fun t k => XS.goto X0.here hx rfl (pc0 := 43) (pc' := 47) rfl (hb hby d1_43) (by decide) (by decide) k) ?_
            show Go p e below s₁ (mkF m 47 #[.val (.int p1)] [(.int (1 : Int32))]) _
            obtain ⟨fs, hr, hrun, hended, hW, hsame⟩ := X0.leave (v := some (.int (1 : Int32))) (fun h => by rw [Bd.returns] at h; cases h)
            refine Go.done (retN X0 hx (t := .boolean) Bd.returns (by simp) (hb hby d1_47) hr) hrun hended ⟨_, _, rfl, ?_, ⟨_, rfl⟩, hW, hsame.mono (by decide) (by decide)⟩
            show Q1 Z p1 h0 n0 _ s₁.heap _
            rw [e0]
            refine ⟨?_, N0, rfl⟩
            rw [f1, if_neg hc1, if_pos hc12, if_pos hc13, if_pos hc14, if_pos hc15]
          · refine Go.by (fun t k => XS.icmpYes X0.here hx rfl (pc0 := 39) (pc' := 46) rfl (hb hby d1_39) rfl (feq hc15).2 (by decide) (by decide) k) ?_
            show Go p e below s₁ (mkF m 46 #[.val (.int p1)] []) _
            refine Go.by (fun t k => XS.iconst X0.here hx rfl (hb hby d1_46) k) ?_
            show Go p e below s₁ (mkF m 47 #[.val (.int p1)] [(.int (0 : Int32))]) _
            obtain ⟨fs, hr, hrun, hended, hW, hsame⟩ := X0.leave (v := some (.int (0 : Int32))) (fun h => by rw [Bd.returns] at h; cases h)
            refine Go.done (retN X0 hx (t := .boolean) Bd.returns (by simp) (hb hby d1_47) hr) hrun hended ⟨_, _, rfl, ?_, ⟨_, rfl⟩, hW, hsame.mono (by decide) (by decide)⟩
            show Q1 Z p1 h0 n0 _ s₁.heap _
            rw [e0]
            refine ⟨?_, N0, rfl⟩
            rw [f1, if_neg hc1, if_pos hc12, if_pos hc13, if_pos hc14, if_neg hc15]
        · refine Go.by (fun t k => XS.icmpNo X0.here hx rfl (hb hby d1_27) rfl (flt hc14).1 k) ?_
          show Go p e below s₁ (mkF m 30 #[.val (.int p1)] []) _
          refine Go.by (fun t k => XS.iloadN X0.here hx rfl (hb hby d1_30) rfl k) ?_
          show Go p e below s₁ (mkF m 31 #[.val (.int p1)] [(.int p1)]) _
          refine Go.by (fun t k => XS.bipush X0.here hx rfl (hb hby d1_31) k) ?_
          show Go p e below s₁ (mkF m 33 #[.val (.int p1)] [(.int (57 : Int32)), (.int p1)]) _
          by_cases hc16 : (57 : Int32) < p1
          · refine Go.by (fun t k => XS.icmpNo X0.here hx rfl (hb hby d1_33) rfl (tlt hc16).2.2.2 k) ?_
            show Go p e below s₁ (mkF m 36 #[.val (.int p1)] []) _
            refine Go.by (fun t k => XS.iloadN X0.here hx rfl (hb hby d1_36) rfl k) ?_
            show Go p e below s₁ (mkF m 37 #[.val (.int p1)] [(.int p1)]) _
            refine Go.by (fun t k => XS.bipush X0.here hx rfl (hb hby d1_37) k) ?_
            show Go p e below s₁ (mkF m 39 #[.val (.int p1)] [(.int (95 : Int32)), (.int p1)]) _
            by_cases hc17 : p1 = (95 : Int32)
            · refine Go.by (fun t k => XS.icmpNo X0.here hx rfl (hb hby d1_39) rfl (teq hc17).2 k) ?_
              show Go p e below s₁ (mkF m 42 #[.val (.int p1)] []) _
              refine Go.by (fun t k => XS.iconst X0.here hx rfl (hb hby d1_42) k) ?_
              show Go p e below s₁ (mkF m 43 #[.val (.int p1)] [(.int (1 : Int32))]) _
              refine Go.by (fun t k => XS.goto X0.here hx rfl (pc0 := 43) (pc' := 47) rfl (hb hby d1_43) (by decide) (by decide) k) ?_
              show Go p e below s₁ (mkF m 47 #[.val (.int p1)] [(.int (1 : Int32))]) _
              obtain ⟨fs, hr, hrun, hended, hW, hsame⟩ := X0.leave (v := some (.int (1 : Int32))) (fun h => by rw [Bd.returns] at h; cases h)
              refine Go.done (retN X0 hx (t := .boolean) Bd.returns (by simp) (hb hby d1_47) hr) hrun hended ⟨_, _, rfl, ?_, ⟨_, rfl⟩, hW, hsame.mono (by decide) (by decide)⟩
              show Q1 Z p1 h0 n0 _ s₁.heap _
              rw [e0]
              refine ⟨?_, N0, rfl⟩
              rw [f1, if_neg hc1, if_pos hc12, if_pos hc13, if_neg hc14, if_pos hc16, if_pos hc17]
            · refine Go.by (fun t k => XS.icmpYes X0.here hx rfl (pc0 := 39) (pc' := 46) rfl (hb hby d1_39) rfl (feq hc17).2 (by decide) (by decide) k) ?_
              show Go p e below s₁ (mkF m 46 #[.val (.int p1)] []) _
              refine Go.by (fun t k => XS.iconst X0.here hx rfl (hb hby d1_46) k) ?_
              show Go p e below s₁ (mkF m 47 #[.val (.int p1)] [(.int (0 : Int32))]) _
              obtain ⟨fs, hr, hrun, hended, hW, hsame⟩ := X0.leave (v := some (.int (0 : Int32))) (fun h => by rw [Bd.returns] at h; cases h)
              refine Go.done (retN X0 hx (t := .boolean) Bd.returns (by simp) (hb hby d1_47) hr) hrun hended ⟨_, _, rfl, ?_, ⟨_, rfl⟩, hW, hsame.mono (by decide) (by decide)⟩
              show Q1 Z p1 h0 n0 _ s₁.heap _
              rw [e0]
              refine ⟨?_, N0, rfl⟩
              rw [f1, if_neg hc1, if_pos hc12, if_pos hc13, if_neg hc14, if_pos hc16, if_neg hc17]
          · refine Go.by (fun t k => XS.icmpYes X0.here hx rfl (pc0 := 33) (pc' := 42) rfl (hb hby d1_33) rfl (flt hc16).2.2.2 (by decide) (by decide) k) ?_
            show Go p e below s₁ (mkF m 42 #[.val (.int p1)] []) _
            refine Go.by (fun t k => XS.iconst X0.here hx rfl (hb hby d1_42) k) ?_
            show Go p e below s₁ (mkF m 43 #[.val (.int p1)] [(.int (1 : Int32))]) _
            refine Go.by (fun t k => XS.goto X0.here hx rfl (pc0 := 43) (pc' := 47) rfl (hb hby d1_43) (by decide) (by decide) k) ?_
            show Go p e below s₁ (mkF m 47 #[.val (.int p1)] [(.int (1 : Int32))]) _
            obtain ⟨fs, hr, hrun, hended, hW, hsame⟩ := X0.leave (v := some (.int (1 : Int32))) (fun h => by rw [Bd.returns] at h; cases h)
            refine Go.done (retN X0 hx (t := .boolean) Bd.returns (by simp) (hb hby d1_47) hr) hrun hended ⟨_, _, rfl, ?_, ⟨_, rfl⟩, hW, hsame.mono (by decide) (by decide)⟩
            show Q1 Z p1 h0 n0 _ s₁.heap _
            rw [e0]
            refine ⟨?_, N0, rfl⟩
            rw [f1, if_neg hc1, if_pos hc12, if_pos hc13, if_neg hc14, if_neg hc16]
      · refine Go.by (fun t k => XS.icmpNo X0.here hx rfl (hb hby d1_15) rfl (flt hc13).1 k) ?_
        show Go p e below s₁ (mkF m 18 #[.val (.int p1)] []) _
        refine Go.by (fun t k => XS.iloadN X0.here hx rfl (hb hby d1_18) rfl k) ?_
        show Go p e below s₁ (mkF m 19 #[.val (.int p1)] [(.int p1)]) _
        refine Go.by (fun t k => XS.bipush X0.here hx rfl (hb hby d1_19) k) ?_
        show Go p e below s₁ (mkF m 21 #[.val (.int p1)] [(.int (90 : Int32)), (.int p1)]) _
        by_cases hc18 : (90 : Int32) < p1
        · refine Go.by (fun t k => XS.icmpNo X0.here hx rfl (hb hby d1_21) rfl (tlt hc18).2.2.2 k) ?_
          show Go p e below s₁ (mkF m 24 #[.val (.int p1)] []) _
          refine Go.by (fun t k => XS.iloadN X0.here hx rfl (hb hby d1_24) rfl k) ?_
          show Go p e below s₁ (mkF m 25 #[.val (.int p1)] [(.int p1)]) _
          refine Go.by (fun t k => XS.bipush X0.here hx rfl (hb hby d1_25) k) ?_
          show Go p e below s₁ (mkF m 27 #[.val (.int p1)] [(.int (48 : Int32)), (.int p1)]) _
          by_cases hc19 : p1 < (48 : Int32)
          · refine Go.by (fun t k => XS.icmpYes X0.here hx rfl (pc0 := 27) (pc' := 36) rfl (hb hby d1_27) rfl (tlt hc19).1 (by decide) (by decide) k) ?_
            show Go p e below s₁ (mkF m 36 #[.val (.int p1)] []) _
            refine Go.by (fun t k => XS.iloadN X0.here hx rfl (hb hby d1_36) rfl k) ?_
            show Go p e below s₁ (mkF m 37 #[.val (.int p1)] [(.int p1)]) _
            refine Go.by (fun t k => XS.bipush X0.here hx rfl (hb hby d1_37) k) ?_
            show Go p e below s₁ (mkF m 39 #[.val (.int p1)] [(.int (95 : Int32)), (.int p1)]) _
            by_cases hc20 : p1 = (95 : Int32)
            · refine Go.by (fun t k => XS.icmpNo X0.here hx rfl (hb hby d1_39) rfl (teq hc20).2 k) ?_
              show Go p e below s₁ (mkF m 42 #[.val (.int p1)] []) _
              refine Go.by (fun t k => XS.iconst X0.here hx rfl (hb hby d1_42) k) ?_
              show Go p e below s₁ (mkF m 43 #[.val (.int p1)] [(.int (1 : Int32))]) _
              refine Go.by (fun t k => XS.goto X0.here hx rfl (pc0 := 43) (pc' := 47) rfl (hb hby d1_43) (by decide) (by decide) k) ?_
              show Go p e below s₁ (mkF m 47 #[.val (.int p1)] [(.int (1 : Int32))]) _
              obtain ⟨fs, hr, hrun, hended, hW, hsame⟩ := X0.leave (v := some (.int (1 : Int32))) (fun h => by rw [Bd.returns] at h; cases h)
              refine Go.done (retN X0 hx (t := .boolean) Bd.returns (by simp) (hb hby d1_47) hr) hrun hended ⟨_, _, rfl, ?_, ⟨_, rfl⟩, hW, hsame.mono (by decide) (by decide)⟩
              show Q1 Z p1 h0 n0 _ s₁.heap _
              rw [e0]
              refine ⟨?_, N0, rfl⟩
              rw [f1, if_neg hc1, if_pos hc12, if_neg hc13, if_pos hc18, if_pos hc19, if_pos hc20]
            · refine Go.by (fun t k => XS.icmpYes X0.here hx rfl (pc0 := 39) (pc' := 46) rfl (hb hby d1_39) rfl (feq hc20).2 (by decide) (by decide) k) ?_
              show Go p e below s₁ (mkF m 46 #[.val (.int p1)] []) _
              refine Go.by (fun t k => XS.iconst X0.here hx rfl (hb hby d1_46) k) ?_
              show Go p e below s₁ (mkF m 47 #[.val (.int p1)] [(.int (0 : Int32))]) _
              obtain ⟨fs, hr, hrun, hended, hW, hsame⟩ := X0.leave (v := some (.int (0 : Int32))) (fun h => by rw [Bd.returns] at h; cases h)
              refine Go.done (retN X0 hx (t := .boolean) Bd.returns (by simp) (hb hby d1_47) hr) hrun hended ⟨_, _, rfl, ?_, ⟨_, rfl⟩, hW, hsame.mono (by decide) (by decide)⟩
              show Q1 Z p1 h0 n0 _ s₁.heap _
              rw [e0]
              refine ⟨?_, N0, rfl⟩
              rw [f1, if_neg hc1, if_pos hc12, if_neg hc13, if_pos hc18, if_pos hc19, if_neg hc20]
          · refine Go.by (fun t k => XS.icmpNo X0.here hx rfl (hb hby d1_27) rfl (flt hc19).1 k) ?_
            show Go p e below s₁ (mkF m 30 #[.val (.int p1)] []) _
            refine Go.by (fun t k => XS.iloadN X0.here hx rfl (hb hby d1_30) rfl k) ?_
            show Go p e below s₁ (mkF m 31 #[.val (.int p1)] [(.int p1)]) _
            refine Go.by (fun t k => XS.bipush X0.here hx rfl (hb hby d1_31) k) ?_
            show Go p e below s₁ (mkF m 33 #[.val (.int p1)] [(.int (57 : Int32)), (.int p1)]) _
            by_cases hc21 : (57 : Int32) < p1
            · refine Go.by (fun t k => XS.icmpNo X0.here hx rfl (hb hby d1_33) rfl (tlt hc21).2.2.2 k) ?_
              show Go p e below s₁ (mkF m 36 #[.val (.int p1)] []) _
              refine Go.by (fun t k => XS.iloadN X0.here hx rfl (hb hby d1_36) rfl k) ?_
              show Go p e below s₁ (mkF m 37 #[.val (.int p1)] [(.int p1)]) _
              refine Go.by (fun t k => XS.bipush X0.here hx rfl (hb hby d1_37) k) ?_
              show Go p e below s₁ (mkF m 39 #[.val (.int p1)] [(.int (95 : Int32)), (.int p1)]) _
              by_cases hc22 : p1 = (95 : Int32)
              · refine Go.by (fun t k => XS.icmpNo X0.here hx rfl (hb hby d1_39) rfl (teq hc22).2 k) ?_
                show Go p e below s₁ (mkF m 42 #[.val (.int p1)] []) _
                refine Go.by (fun t k => XS.iconst X0.here hx rfl (hb hby d1_42) k) ?_
                show Go p e below s₁ (mkF m 43 #[.val (.int p1)] [(.int (1 : Int32))]) _
                refine Go.by (fun t k => XS.goto X0.here hx rfl (pc0 := 43) (pc' := 47) rfl (hb hby d1_43) (by decide) (by decide) k) ?_
                show Go p e below s₁ (mkF m 47 #[.val (.int p1)] [(.int (1 : Int32))]) _
                obtain ⟨fs, hr, hrun, hended, hW, hsame⟩ := X0.leave (v := some (.int (1 : Int32))) (fun h => by rw [Bd.returns] at h; cases h)
                refine Go.done (retN X0 hx (t := .boolean) Bd.returns (by simp) (hb hby d1_47) hr) hrun hended ⟨_, _, rfl, ?_, ⟨_, rfl⟩, hW, hsame.mono (by decide) (by decide)⟩
                show Q1 Z p1 h0 n0 _ s₁.heap _
                rw [e0]
                refine ⟨?_, N0, rfl⟩
                rw [f1, if_neg hc1, if_pos hc12, if_neg hc13, if_pos hc18, if_neg hc19, if_pos hc21, if_pos hc22]
              · refine Go.by (fun t k => XS.icmpYes X0.here hx rfl (pc0 := 39) (pc' := 46) rfl (hb hby d1_39) rfl (feq hc22).2 (by decide) (by decide) k) ?_
                show Go p e below s₁ (mkF m 46 #[.val (.int p1)] []) _
                refine Go.by (fun t k => XS.iconst X0.here hx rfl (hb hby d1_46) k) ?_
                show Go p e below s₁ (mkF m 47 #[.val (.int p1)] [(.int (0 : Int32))]) _
                obtain ⟨fs, hr, hrun, hended, hW, hsame⟩ := X0.leave (v := some (.int (0 : Int32))) (fun h => by rw [Bd.returns] at h; cases h)
                refine Go.done (retN X0 hx (t := .boolean) Bd.returns (by simp) (hb hby d1_47) hr) hrun hended ⟨_, _, rfl, ?_, ⟨_, rfl⟩, hW, hsame.mono (by decide) (by decide)⟩
                show Q1 Z p1 h0 n0 _ s₁.heap _
                rw [e0]
                refine ⟨?_, N0, rfl⟩
                rw [f1, if_neg hc1, if_pos hc12, if_neg hc13, if_pos hc18, if_neg hc19, if_pos hc21, if_neg hc22]
            · refine Go.by (fun t k => XS.icmpYes X0.here hx rfl (pc0 := 33) (pc' := 42) rfl (hb hby d1_33) rfl (flt hc21).2.2.2 (by decide) (by decide) k) ?_
              show Go p e below s₁ (mkF m 42 #[.val (.int p1)] []) _
              refine Go.by (fun t k => XS.iconst X0.here hx rfl (hb hby d1_42) k) ?_
              show Go p e below s₁ (mkF m 43 #[.val (.int p1)] [(.int (1 : Int32))]) _
              refine Go.by (fun t k => XS.goto X0.here hx rfl (pc0 := 43) (pc' := 47) rfl (hb hby d1_43) (by decide) (by decide) k) ?_
              show Go p e below s₁ (mkF m 47 #[.val (.int p1)] [(.int (1 : Int32))]) _
              obtain ⟨fs, hr, hrun, hended, hW, hsame⟩ := X0.leave (v := some (.int (1 : Int32))) (fun h => by rw [Bd.returns] at h; cases h)
              refine Go.done (retN X0 hx (t := .boolean) Bd.returns (by simp) (hb hby d1_47) hr) hrun hended ⟨_, _, rfl, ?_, ⟨_, rfl⟩, hW, hsame.mono (by decide) (by decide)⟩
              show Q1 Z p1 h0 n0 _ s₁.heap _
              rw [e0]
              refine ⟨?_, N0, rfl⟩
              rw [f1, if_neg hc1, if_pos hc12, if_neg hc13, if_pos hc18, if_neg hc19, if_neg hc21]
        · refine Go.by (fun t k => XS.icmpYes X0.here hx rfl (pc0 := 21) (pc' := 42) rfl (hb hby d1_21) rfl (flt hc18).2.2.2 (by decide) (by decide) k) ?_
          show Go p e below s₁ (mkF m 42 #[.val (.int p1)] []) _
          refine Go.by (fun t k => XS.iconst X0.here hx rfl (hb hby d1_42) k) ?_
          show Go p e below s₁ (mkF m 43 #[.val (.int p1)] [(.int (1 : Int32))]) _
          refine Go.by (fun t k => XS.goto X0.here hx rfl (pc0 := 43) (pc' := 47) rfl (hb hby d1_43) (by decide) (by decide) k) ?_
          show Go p e below s₁ (mkF m 47 #[.val (.int p1)] [(.int (1 : Int32))]) _
          obtain ⟨fs, hr, hrun, hended, hW, hsame⟩ := X0.leave (v := some (.int (1 : Int32))) (fun h => by rw [Bd.returns] at h; cases h)
          refine Go.done (retN X0 hx (t := .boolean) Bd.returns (by simp) (hb hby d1_47) hr) hrun hended ⟨_, _, rfl, ?_, ⟨_, rfl⟩, hW, hsame.mono (by decide) (by decide)⟩
          show Q1 Z p1 h0 n0 _ s₁.heap _
          rw [e0]
          refine ⟨?_, N0, rfl⟩
          rw [f1, if_neg hc1, if_pos hc12, if_neg hc13, if_neg hc18]
    · refine Go.by (fun t k => XS.icmpYes X0.here hx rfl (pc0 := 9) (pc' := 42) rfl (hb hby d1_9) rfl (flt hc12).2.2.2 (by decide) (by decide) k) ?_
      show Go p e below s₁ (mkF m 42 #[.val (.int p1)] []) _
      refine Go.by (fun t k => XS.iconst X0.here hx rfl (hb hby d1_42) k) ?_
      show Go p e below s₁ (mkF m 43 #[.val (.int p1)] [(.int (1 : Int32))]) _
      refine Go.by (fun t k => XS.goto X0.here hx rfl (pc0 := 43) (pc' := 47) rfl (hb hby d1_43) (by decide) (by decide) k) ?_
      show Go p e below s₁ (mkF m 47 #[.val (.int p1)] [(.int (1 : Int32))]) _
      obtain ⟨fs, hr, hrun, hended, hW, hsame⟩ := X0.leave (v := some (.int (1 : Int32))) (fun h => by rw [Bd.returns] at h; cases h)
      refine Go.done (retN X0 hx (t := .boolean) Bd.returns (by simp) (hb hby d1_47) hr) hrun hended ⟨_, _, rfl, ?_, ⟨_, rfl⟩, hW, hsame.mono (by decide) (by decide)⟩
      show Q1 Z p1 h0 n0 _ s₁.heap _
      rw [e0]
      refine ⟨?_, N0, rfl⟩
      rw [f1, if_neg hc1, if_neg hc12]
def f2 (p1 : Int32) : Int32 :=
  if (p1 ||| (32 : Int32)) < (97 : Int32) then (if ((p1.toInt64) - (48 : Int64)) < (0 : Int64) then (if p1 = (95 : Int32) then (1 : Int32)
      else (0 : Int32))
    else (if ((p1.toInt64) - (48 : Int64)) < (10 : Int64) then (if p1 = (95 : Int32) then (1 : Int32)
        else (1 : Int32))
      else (if p1 = (95 : Int32) then (1 : Int32)
        else (0 : Int32))))
  else (if (122 : Int32) < (p1 ||| (32 : Int32)) then (if ((p1.toInt64) - (48 : Int64)) < (0 : Int64) then (if p1 = (95 : Int32) then (1 : Int32)
        else (0 : Int32))
      else (if ((p1.toInt64) - (48 : Int64)) < (10 : Int64) then (if p1 = (95 : Int32) then (1 : Int32)
          else (1 : Int32))
        else (if p1 = (95 : Int32) then (1 : Int32)
          else (0 : Int32))))
    else (if ((p1.toInt64) - (48 : Int64)) < (0 : Int64) then (if p1 = (95 : Int32) then (1 : Int32)
        else (1 : Int32))
      else (if ((p1.toInt64) - (48 : Int64)) < (10 : Int64) then (if p1 = (95 : Int32) then (1 : Int32)
          else (1 : Int32))
        else (if p1 = (95 : Int32) then (1 : Int32)
          else (1 : Int32)))))
theorem d2_0 : decode method_2_code 0 = .ok (.iload_n 0, 1) := by decide +kernel
theorem d2_1 : decode method_2_code 1 = .ok (.bipush 32, 2) := by decide +kernel
theorem d2_3 : decode method_2_code 3 = .ok (.ior, 1) := by decide +kernel
theorem d2_4 : decode method_2_code 4 = .ok (.istore_n 1, 1) := by decide +kernel
theorem d2_5 : decode method_2_code 5 = .ok (.iload_n 1, 1) := by decide +kernel
theorem d2_6 : decode method_2_code 6 = .ok (.bipush 97, 2) := by decide +kernel
theorem d2_8 : decode method_2_code 8 = .ok (.if_icmp .lt 13, 3) := by decide +kernel
theorem d2_11 : decode method_2_code 11 = .ok (.iload_n 1, 1) := by decide +kernel
theorem d2_12 : decode method_2_code 12 = .ok (.bipush 122, 2) := by decide +kernel
theorem d2_14 : decode method_2_code 14 = .ok (.if_icmp .gt 7, 3) := by decide +kernel
theorem d2_17 : decode method_2_code 17 = .ok (.iconst 1, 1) := by decide +kernel
theorem d2_18 : decode method_2_code 18 = .ok (.goto 4, 3) := by decide +kernel
theorem d2_21 : decode method_2_code 21 = .ok (.iconst 0, 1) := by decide +kernel
theorem d2_22 : decode method_2_code 22 = .ok (.istore_n 2, 1) := by decide +kernel
theorem d2_23 : decode method_2_code 23 = .ok (.iload_n 0, 1) := by decide +kernel
theorem d2_24 : decode method_2_code 24 = .ok (.i2l, 1) := by decide +kernel
theorem d2_25 : decode method_2_code 25 = .ok (.ldc2_w 7, 3) := by decide +kernel
theorem d2_28 : decode method_2_code 28 = .ok (.lsub, 1) := by decide +kernel
theorem d2_29 : decode method_2_code 29 = .ok (.lstore_n 3, 1) := by decide +kernel
theorem d2_30 : decode method_2_code 30 = .ok (.lload_n 3, 1) := by decide +kernel
theorem d2_31 : decode method_2_code 31 = .ok (.lconst 0, 1) := by decide +kernel
theorem d2_32 : decode method_2_code 32 = .ok (.lcmp, 1) := by decide +kernel
theorem d2_33 : decode method_2_code 33 = .ok (.ifCond .lt 15, 3) := by decide +kernel
theorem d2_36 : decode method_2_code 36 = .ok (.lload_n 3, 1) := by decide +kernel
theorem d2_37 : decode method_2_code 37 = .ok (.ldc2_w 9, 3) := by decide +kernel
theorem d2_40 : decode method_2_code 40 = .ok (.lcmp, 1) := by decide +kernel
theorem d2_41 : decode method_2_code 41 = .ok (.ifCond .ge 7, 3) := by decide +kernel
theorem d2_44 : decode method_2_code 44 = .ok (.iconst 1, 1) := by decide +kernel
theorem d2_45 : decode method_2_code 45 = .ok (.goto 4, 3) := by decide +kernel
theorem d2_48 : decode method_2_code 48 = .ok (.iconst 0, 1) := by decide +kernel
theorem d2_49 : decode method_2_code 49 = .ok (.istore 5, 2) := by decide +kernel
theorem d2_51 : decode method_2_code 51 = .ok (.iload_n 0, 1) := by decide +kernel
theorem d2_52 : decode method_2_code 52 = .ok (.bipush 95, 2) := by decide +kernel
theorem d2_54 : decode method_2_code 54 = .ok (.if_icmp .ne 7, 3) := by decide +kernel
theorem d2_57 : decode method_2_code 57 = .ok (.iconst 1, 1) := by decide +kernel
theorem d2_58 : decode method_2_code 58 = .ok (.goto 4, 3) := by decide +kernel
theorem d2_61 : decode method_2_code 61 = .ok (.iconst 0, 1) := by decide +kernel
theorem d2_62 : decode method_2_code 62 = .ok (.istore 6, 2) := by decide +kernel
theorem d2_64 : decode method_2_code 64 = .ok (.iload_n 2, 1) := by decide +kernel
theorem d2_65 : decode method_2_code 65 = .ok (.ifCond .ne 13, 3) := by decide +kernel
theorem d2_68 : decode method_2_code 68 = .ok (.iload 5, 2) := by decide +kernel
theorem d2_70 : decode method_2_code 70 = .ok (.ifCond .ne 8, 3) := by decide +kernel
theorem d2_73 : decode method_2_code 73 = .ok (.iload 6, 2) := by decide +kernel
theorem d2_75 : decode method_2_code 75 = .ok (.ifCond .eq 7, 3) := by decide +kernel
theorem d2_78 : decode method_2_code 78 = .ok (.iconst 1, 1) := by decide +kernel
theorem d2_79 : decode method_2_code 79 = .ok (.goto 4, 3) := by decide +kernel
theorem d2_82 : decode method_2_code 82 = .ok (.iconst 0, 1) := by decide +kernel
theorem d2_83 : decode method_2_code 83 = .ok (.ireturn, 1) := by decide +kernel
theorem pn_1 : plainName "com/example/omega_automata_convert/omegaautomataconvert/BlockTokenizerIsWordCharacterPinLaw" = true := by first | (simp [plainName, overriddenIn]; done) | decide +kernel
theorem ef_2 (m : MethodId) (x0 : Int32) : entryFrame m #[(.int x0)] 7 = mkF m 0 #[.val (.int x0), .unset, .unset, .unset, .unset, .unset, .unset] [] := by first | (simp [entryFrame, mkF, argsToLocals, Value.category]; done) | rfl
def Q2 (Z : State) (p1 : Int32) (h0 : Heap) (n0 : Nat) (v : Option Value) (h : Heap) (L : List Loc) : Prop := v = some (.int (f2 p1)) ∧ Fr n0 L ∧ h = h0
set_option maxRecDepth 65536 in
set_option maxHeartbeats 40000000 in
theorem rm2 (l : Launch) (Z : State) (a0 : Array Value) (hw : ∀ d ∈ tables_1, d.before a0 Z = true) (ws : List Jvm.Cond) (p1 : Int32) (h0 : Heap) (n0 : Nat) (Z0 : n0 ≤ h0.size) :
    MetFree l (⟨"com/example/omega_automata_convert/omegaautomataconvert/BlockTokenizerIsWordCharacterPinLaw", "reference", "(I)Z"⟩ : MethodName) (head1 (Jvm.Cond.code (⟨"com/example/omega_automata_convert/omegaautomataconvert/BlockTokenizerIsWordCharacterPinLaw", "reference", "(I)Z"⟩ : MethodName) method_2_code 7 (some .boolean) :: ws) ({ frames := 0, cells := 0, slots := 0, locals := 0 } : Room)) (fun a U => a = #[(.int p1)] ∧ Z.Warmed39 U.vm ∧ U.heap = h0) (fun _ _ _ _ _ => True) (fun _ U o U' => ∃ v L, o = .returned v ∧ Q2 Z p1 h0 n0 v U'.heap L ∧ FrameEnd U o U' L ({ frames := 0, cells := 0, slots := 0, locals := 0 } : Room).cells ({ frames := 0, cells := 0, slots := 0, locals := 0 } : Room).slots) := by
  refine MetFree.of_bodySF (plainFor_of_name pn_1) hisR ?_
  intro p e s m args below meth c s₁ Bd hml0 hP hK
  obtain ⟨rfl, hZ, hh⟩ := hP
  have hx := Bd.exec
  have hby := Bd.bytes
  have hml : c.maxLocals = 7 := hml0
  have hown : s.vm.findClass "com/example/omega_automata_convert/omegaautomataconvert/BlockTokenizerIsWordCharacterPinLaw" = some m.cls := findClass_of_methodNamed Bd.named
  have hnm := (name_of_methodNamed Bd.named Bd.method).1
  have X0 : Stand p l e ({ frames := 0, cells := 0, slots := 0, locals := 0 } : Room) s m #[(.int p1)] below meth c s₁ [] 0 0 := Stand.of_body Bd
  have e0 : s₁.heap = h0 := by rw [← hh, Bd.state]; rfl
  have N0 := Fr.nil n0
  refine Go.start (ef_2 m p1) ?_
  show Go p e below s₁ (mkF m 0 #[.val (.int p1), .unset, .unset, .unset, .unset, .unset, .unset] []) _
  refine Go.by (fun t k => XS.iloadN X0.here hx rfl (hb hby d2_0) rfl k) ?_
  show Go p e below s₁ (mkF m 1 #[.val (.int p1), .unset, .unset, .unset, .unset, .unset, .unset] [(.int p1)]) _
  refine Go.by (fun t k => XS.bipush X0.here hx rfl (hb hby d2_1) k) ?_
  show Go p e below s₁ (mkF m 3 #[.val (.int p1), .unset, .unset, .unset, .unset, .unset, .unset] [(.int (32 : Int32)), (.int p1)]) _
  refine Go.by (fun t k => XS.ior X0.here hx rfl (hb hby d2_3) rfl k) ?_
  show Go p e below s₁ (mkF m 4 #[.val (.int p1), .unset, .unset, .unset, .unset, .unset, .unset] [(.int (p1 ||| (32 : Int32)))]) _
  refine Go.by (fun t k => XS.istoreN X0.here hx rfl (hb hby d2_4) rfl (l' := #[.val (.int p1), .val (.int (p1 ||| (32 : Int32))), .unset, .unset, .unset, .unset, .unset]) rfl k) ?_
  show Go p e below s₁ (mkF m 5 #[.val (.int p1), .val (.int (p1 ||| (32 : Int32))), .unset, .unset, .unset, .unset, .unset] []) _
  refine Go.by (fun t k => XS.iloadN X0.here hx rfl (hb hby d2_5) rfl k) ?_
  show Go p e below s₁ (mkF m 6 #[.val (.int p1), .val (.int (p1 ||| (32 : Int32))), .unset, .unset, .unset, .unset, .unset] [(.int (p1 ||| (32 : Int32)))]) _
  refine Go.by (fun t k => XS.bipush X0.here hx rfl (hb hby d2_6) k) ?_
  show Go p e below s₁ (mkF m 8 #[.val (.int p1), .val (.int (p1 ||| (32 : Int32))), .unset, .unset, .unset, .unset, .unset] [(.int (97 : Int32)), (.int (p1 ||| (32 : Int32)))]) _
  by_cases hc1 : (p1 ||| (32 : Int32)) < (97 : Int32)
  · refine Go.by (fun t k => XS.icmpYes X0.here hx rfl (pc0 := 8) (pc' := 21) rfl (hb hby d2_8) rfl (tlt hc1).1 (by decide) (by decide) k) ?_
    show Go p e below s₁ (mkF m 21 #[.val (.int p1), .val (.int (p1 ||| (32 : Int32))), .unset, .unset, .unset, .unset, .unset] []) _
    refine Go.by (fun t k => XS.iconst X0.here hx rfl (hb hby d2_21) k) ?_
    show Go p e below s₁ (mkF m 22 #[.val (.int p1), .val (.int (p1 ||| (32 : Int32))), .unset, .unset, .unset, .unset, .unset] [(.int (0 : Int32))]) _
    refine Go.by (fun t k => XS.istoreN X0.here hx rfl (hb hby d2_22) rfl (l' := #[.val (.int p1), .val (.int (p1 ||| (32 : Int32))), .val (.int (0 : Int32)), .unset, .unset, .unset, .unset]) rfl k) ?_
    show Go p e below s₁ (mkF m 23 #[.val (.int p1), .val (.int (p1 ||| (32 : Int32))), .val (.int (0 : Int32)), .unset, .unset, .unset, .unset] []) _
    refine Go.by (fun t k => XS.iloadN X0.here hx rfl (hb hby d2_23) rfl k) ?_
    show Go p e below s₁ (mkF m 24 #[.val (.int p1), .val (.int (p1 ||| (32 : Int32))), .val (.int (0 : Int32)), .unset, .unset, .unset, .unset] [(.int p1)]) _
    refine Go.by (fun t k => XS.i2l X0.here hx rfl (hb hby d2_24) rfl k) ?_
    show Go p e below s₁ (mkF m 25 #[.val (.int p1), .val (.int (p1 ||| (32 : Int32))), .val (.int (0 : Int32)), .unset, .unset, .unset, .unset] [(.long (p1.toInt64))]) _
    refine Go.by (fun t k => X0.ldc2Long hx hown (mvT hZ (hw _ (List.mem_of_getElem? (i := 9) rfl))) (g := (mkF m 25 #[.val (.int p1), .val (.int (p1 ||| (32 : Int32))), .val (.int (0 : Int32)), .unset, .unset, .unset, .unset] [(.long (p1.toInt64))])) rfl (hb hby d2_25) t k) ?_
    show Go p e below s₁ (mkF m 28 #[.val (.int p1), .val (.int (p1 ||| (32 : Int32))), .val (.int (0 : Int32)), .unset, .unset, .unset, .unset] [(.long (48 : Int64)), (.long (p1.toInt64))]) _
    refine Go.by (fun t k => XS.lsub X0.here hx rfl (hb hby d2_28) rfl k) ?_
    show Go p e below s₁ (mkF m 29 #[.val (.int p1), .val (.int (p1 ||| (32 : Int32))), .val (.int (0 : Int32)), .unset, .unset, .unset, .unset] [(.long ((p1.toInt64) - (48 : Int64)))]) _
    refine Go.by (fun t k => XS.lstoreN X0.here hx rfl (hb hby d2_29) rfl (l' := #[.val (.int p1), .val (.int (p1 ||| (32 : Int32))), .val (.int (0 : Int32)), .val (.long ((p1.toInt64) - (48 : Int64))), .second, .unset, .unset]) rfl k) ?_
    show Go p e below s₁ (mkF m 30 #[.val (.int p1), .val (.int (p1 ||| (32 : Int32))), .val (.int (0 : Int32)), .val (.long ((p1.toInt64) - (48 : Int64))), .second, .unset, .unset] []) _
    refine Go.by (fun t k => XS.lloadN X0.here hx rfl (hb hby d2_30) rfl k) ?_
    show Go p e below s₁ (mkF m 31 #[.val (.int p1), .val (.int (p1 ||| (32 : Int32))), .val (.int (0 : Int32)), .val (.long ((p1.toInt64) - (48 : Int64))), .second, .unset, .unset] [(.long ((p1.toInt64) - (48 : Int64)))]) _
    refine Go.by (fun t k => XS.lconst X0.here hx rfl (hb hby d2_31) k) ?_
    show Go p e below s₁ (mkF m 32 #[.val (.int p1), .val (.int (p1 ||| (32 : Int32))), .val (.int (0 : Int32)), .val (.long ((p1.toInt64) - (48 : Int64))), .second, .unset, .unset] [(.long (0 : Int64)), (.long ((p1.toInt64) - (48 : Int64)))]) _
    refine Go.by (fun t k => XS.lcmp X0.here hx rfl (hb hby d2_32) rfl k) ?_
    show Go p e below s₁ (mkF m 33 #[.val (.int p1), .val (.int (p1 ||| (32 : Int32))), .val (.int (0 : Int32)), .val (.long ((p1.toInt64) - (48 : Int64))), .second, .unset, .unset] [(.int (lcmpW ((p1.toInt64) - (48 : Int64)) (0 : Int64)))]) _
    by_cases hc2 : ((p1.toInt64) - (48 : Int64)) < (0 : Int64)
    · refine Go.by (fun t k => XS.ifYes X0.here hx rfl (pc0 := 33) (pc' := 48) rfl (hb hby d2_33) rfl (ctlt hc2).1 (by decide) (by decide) k) ?_
      show Go p e below s₁ (mkF m 48 #[.val (.int p1), .val (.int (p1 ||| (32 : Int32))), .val (.int (0 : Int32)), .val (.long ((p1.toInt64) - (48 : Int64))), .second, .unset, .unset] []) _
      refine Go.by (fun t k => XS.iconst X0.here hx rfl (hb hby d2_48) k) ?_
      show Go p e below s₁ (mkF m 49 #[.val (.int p1), .val (.int (p1 ||| (32 : Int32))), .val (.int (0 : Int32)), .val (.long ((p1.toInt64) - (48 : Int64))), .second, .unset, .unset] [(.int (0 : Int32))]) _
      refine Go.by (fun t k => XS.istore X0.here hx rfl (hb hby d2_49) rfl (l' := #[.val (.int p1), .val (.int (p1 ||| (32 : Int32))), .val (.int (0 : Int32)), .val (.long ((p1.toInt64) - (48 : Int64))), .second, .val (.int (0 : Int32)), .unset]) rfl k) ?_
      show Go p e below s₁ (mkF m 51 #[.val (.int p1), .val (.int (p1 ||| (32 : Int32))), .val (.int (0 : Int32)), .val (.long ((p1.toInt64) - (48 : Int64))), .second, .val (.int (0 : Int32)), .unset] []) _
      refine Go.by (fun t k => XS.iloadN X0.here hx rfl (hb hby d2_51) rfl k) ?_
      show Go p e below s₁ (mkF m 52 #[.val (.int p1), .val (.int (p1 ||| (32 : Int32))), .val (.int (0 : Int32)), .val (.long ((p1.toInt64) - (48 : Int64))), .second, .val (.int (0 : Int32)), .unset] [(.int p1)]) _
      refine Go.by (fun t k => XS.bipush X0.here hx rfl (hb hby d2_52) k) ?_
      show Go p e below s₁ (mkF m 54 #[.val (.int p1), .val (.int (p1 ||| (32 : Int32))), .val (.int (0 : Int32)), .val (.long ((p1.toInt64) - (48 : Int64))), .second, .val (.int (0 : Int32)), .unset] [(.int (95 : Int32)), (.int p1)]) _
      by_cases hc3 : p1 = (95 : Int32)
      · refine Go.by (fun t k => XS.icmpNo X0.here hx rfl (hb hby d2_54) rfl (teq hc3).2 k) ?_
        show Go p e below s₁ (mkF m 57 #[.val (.int p1), .val (.int (p1 ||| (32 : Int32))), .val (.int (0 : Int32)), .val (.long ((p1.toInt64) - (48 : Int64))), .second, .val (.int (0 : Int32)), .unset] []) _
        refine Go.by (fun t k => XS.iconst X0.here hx rfl (hb hby d2_57) k) ?_
        show Go p e below s₁ (mkF m 58 #[.val (.int p1), .val (.int (p1 ||| (32 : Int32))), .val (.int (0 : Int32)), .val (.long ((p1.toInt64) - (48 : Int64))), .second, .val (.int (0 : Int32)), .unset] [(.int (1 : Int32))]) _
        refine Go.by (fun t k => XS.goto X0.here hx rfl (pc0 := 58) (pc' := 62) rfl (hb hby d2_58) (by decide) (by decide) k) ?_
        show Go p e below s₁ (mkF m 62 #[.val (.int p1), .val (.int (p1 ||| (32 : Int32))), .val (.int (0 : Int32)), .val (.long ((p1.toInt64) - (48 : Int64))), .second, .val (.int (0 : Int32)), .unset] [(.int (1 : Int32))]) _
        refine Go.by (fun t k => XS.istore X0.here hx rfl (hb hby d2_62) rfl (l' := #[.val (.int p1), .val (.int (p1 ||| (32 : Int32))), .val (.int (0 : Int32)), .val (.long ((p1.toInt64) - (48 : Int64))), .second, .val (.int (0 : Int32)), .val (.int (1 : Int32))]) rfl k) ?_
        show Go p e below s₁ (mkF m 64 #[.val (.int p1), .val (.int (p1 ||| (32 : Int32))), .val (.int (0 : Int32)), .val (.long ((p1.toInt64) - (48 : Int64))), .second, .val (.int (0 : Int32)), .val (.int (1 : Int32))] []) _
        refine Go.by (fun t k => XS.iloadN X0.here hx rfl (hb hby d2_64) rfl k) ?_
        show Go p e below s₁ (mkF m 65 #[.val (.int p1), .val (.int (p1 ||| (32 : Int32))), .val (.int (0 : Int32)), .val (.long ((p1.toInt64) - (48 : Int64))), .second, .val (.int (0 : Int32)), .val (.int (1 : Int32))] [(.int (0 : Int32))]) _
        refine Go.by (fun t k => XS.ifNo X0.here hx rfl (hb hby d2_65) rfl ((if0 _ _).trans (teq (show (0 : Int32) = (0 : Int32) from (by decide))).2) k) ?_
        show Go p e below s₁ (mkF m 68 #[.val (.int p1), .val (.int (p1 ||| (32 : Int32))), .val (.int (0 : Int32)), .val (.long ((p1.toInt64) - (48 : Int64))), .second, .val (.int (0 : Int32)), .val (.int (1 : Int32))] []) _
        refine Go.by (fun t k => XS.iload X0.here hx rfl (hb hby d2_68) rfl k) ?_
        show Go p e below s₁ (mkF m 70 #[.val (.int p1), .val (.int (p1 ||| (32 : Int32))), .val (.int (0 : Int32)), .val (.long ((p1.toInt64) - (48 : Int64))), .second, .val (.int (0 : Int32)), .val (.int (1 : Int32))] [(.int (0 : Int32))]) _
        refine Go.by (fun t k => XS.ifNo X0.here hx rfl (hb hby d2_70) rfl ((if0 _ _).trans (teq (show (0 : Int32) = (0 : Int32) from (by decide))).2) k) ?_
        show Go p e below s₁ (mkF m 73 #[.val (.int p1), .val (.int (p1 ||| (32 : Int32))), .val (.int (0 : Int32)), .val (.long ((p1.toInt64) - (48 : Int64))), .second, .val (.int (0 : Int32)), .val (.int (1 : Int32))] []) _
        refine Go.by (fun t k => XS.iload X0.here hx rfl (hb hby d2_73) rfl k) ?_
        show Go p e below s₁ (mkF m 75 #[.val (.int p1), .val (.int (p1 ||| (32 : Int32))), .val (.int (0 : Int32)), .val (.long ((p1.toInt64) - (48 : Int64))), .second, .val (.int (0 : Int32)), .val (.int (1 : Int32))] [(.int (1 : Int32))]) _
        refine Go.by (fun t k => XS.ifNo X0.here hx rfl (hb hby d2_75) rfl ((if0 _ _).trans (feq (show ¬ ((1 : Int32) = (0 : Int32)) from (by decide))).1) k) ?_
        show Go p e below s₁ (mkF m 78 #[.val (.int p1), .val (.int (p1 ||| (32 : Int32))), .val (.int (0 : Int32)), .val (.long ((p1.toInt64) - (48 : Int64))), .second, .val (.int (0 : Int32)), .val (.int (1 : Int32))] []) _
        refine Go.by (fun t k => XS.iconst X0.here hx rfl (hb hby d2_78) k) ?_
        show Go p e below s₁ (mkF m 79 #[.val (.int p1), .val (.int (p1 ||| (32 : Int32))), .val (.int (0 : Int32)), .val (.long ((p1.toInt64) - (48 : Int64))), .second, .val (.int (0 : Int32)), .val (.int (1 : Int32))] [(.int (1 : Int32))]) _
        refine Go.by (fun t k => XS.goto X0.here hx rfl (pc0 := 79) (pc' := 83) rfl (hb hby d2_79) (by decide) (by decide) k) ?_
        show Go p e below s₁ (mkF m 83 #[.val (.int p1), .val (.int (p1 ||| (32 : Int32))), .val (.int (0 : Int32)), .val (.long ((p1.toInt64) - (48 : Int64))), .second, .val (.int (0 : Int32)), .val (.int (1 : Int32))] [(.int (1 : Int32))]) _
        obtain ⟨fs, hr, hrun, hended, hW, hsame⟩ := X0.leave (v := some (.int (1 : Int32))) (fun h => by rw [Bd.returns] at h; cases h)
        refine Go.done (retN X0 hx (t := .boolean) Bd.returns (by simp) (hb hby d2_83) hr) hrun hended ⟨_, _, rfl, ?_, ⟨_, rfl⟩, hW, hsame.mono (by decide) (by decide)⟩
        show Q2 Z p1 h0 n0 _ s₁.heap _
        rw [e0]
        refine ⟨?_, N0, rfl⟩
        rw [f2, if_pos hc1, if_pos hc2, if_pos hc3]
      · refine Go.by (fun t k => XS.icmpYes X0.here hx rfl (pc0 := 54) (pc' := 61) rfl (hb hby d2_54) rfl (feq hc3).2 (by decide) (by decide) k) ?_
        show Go p e below s₁ (mkF m 61 #[.val (.int p1), .val (.int (p1 ||| (32 : Int32))), .val (.int (0 : Int32)), .val (.long ((p1.toInt64) - (48 : Int64))), .second, .val (.int (0 : Int32)), .unset] []) _
        refine Go.by (fun t k => XS.iconst X0.here hx rfl (hb hby d2_61) k) ?_
        show Go p e below s₁ (mkF m 62 #[.val (.int p1), .val (.int (p1 ||| (32 : Int32))), .val (.int (0 : Int32)), .val (.long ((p1.toInt64) - (48 : Int64))), .second, .val (.int (0 : Int32)), .unset] [(.int (0 : Int32))]) _
        refine Go.by (fun t k => XS.istore X0.here hx rfl (hb hby d2_62) rfl (l' := #[.val (.int p1), .val (.int (p1 ||| (32 : Int32))), .val (.int (0 : Int32)), .val (.long ((p1.toInt64) - (48 : Int64))), .second, .val (.int (0 : Int32)), .val (.int (0 : Int32))]) rfl k) ?_
        show Go p e below s₁ (mkF m 64 #[.val (.int p1), .val (.int (p1 ||| (32 : Int32))), .val (.int (0 : Int32)), .val (.long ((p1.toInt64) - (48 : Int64))), .second, .val (.int (0 : Int32)), .val (.int (0 : Int32))] []) _
        refine Go.by (fun t k => XS.iloadN X0.here hx rfl (hb hby d2_64) rfl k) ?_
        show Go p e below s₁ (mkF m 65 #[.val (.int p1), .val (.int (p1 ||| (32 : Int32))), .val (.int (0 : Int32)), .val (.long ((p1.toInt64) - (48 : Int64))), .second, .val (.int (0 : Int32)), .val (.int (0 : Int32))] [(.int (0 : Int32))]) _
        refine Go.by (fun t k => XS.ifNo X0.here hx rfl (hb hby d2_65) rfl ((if0 _ _).trans (teq (show (0 : Int32) = (0 : Int32) from (by decide))).2) k) ?_
        show Go p e below s₁ (mkF m 68 #[.val (.int p1), .val (.int (p1 ||| (32 : Int32))), .val (.int (0 : Int32)), .val (.long ((p1.toInt64) - (48 : Int64))), .second, .val (.int (0 : Int32)), .val (.int (0 : Int32))] []) _
        refine Go.by (fun t k => XS.iload X0.here hx rfl (hb hby d2_68) rfl k) ?_
        show Go p e below s₁ (mkF m 70 #[.val (.int p1), .val (.int (p1 ||| (32 : Int32))), .val (.int (0 : Int32)), .val (.long ((p1.toInt64) - (48 : Int64))), .second, .val (.int (0 : Int32)), .val (.int (0 : Int32))] [(.int (0 : Int32))]) _
        refine Go.by (fun t k => XS.ifNo X0.here hx rfl (hb hby d2_70) rfl ((if0 _ _).trans (teq (show (0 : Int32) = (0 : Int32) from (by decide))).2) k) ?_
        show Go p e below s₁ (mkF m 73 #[.val (.int p1), .val (.int (p1 ||| (32 : Int32))), .val (.int (0 : Int32)), .val (.long ((p1.toInt64) - (48 : Int64))), .second, .val (.int (0 : Int32)), .val (.int (0 : Int32))] []) _
        refine Go.by (fun t k => XS.iload X0.here hx rfl (hb hby d2_73) rfl k) ?_
        show Go p e below s₁ (mkF m 75 #[.val (.int p1), .val (.int (p1 ||| (32 : Int32))), .val (.int (0 : Int32)), .val (.long ((p1.toInt64) - (48 : Int64))), .second, .val (.int (0 : Int32)), .val (.int (0 : Int32))] [(.int (0 : Int32))]) _
        refine Go.by (fun t k => XS.ifYes X0.here hx rfl (pc0 := 75) (pc' := 82) rfl (hb hby d2_75) rfl ((if0 _ _).trans (teq (show (0 : Int32) = (0 : Int32) from (by decide))).1) (by decide) (by decide) k) ?_
        show Go p e below s₁ (mkF m 82 #[.val (.int p1), .val (.int (p1 ||| (32 : Int32))), .val (.int (0 : Int32)), .val (.long ((p1.toInt64) - (48 : Int64))), .second, .val (.int (0 : Int32)), .val (.int (0 : Int32))] []) _
        refine Go.by (fun t k => XS.iconst X0.here hx rfl (hb hby d2_82) k) ?_
        show Go p e below s₁ (mkF m 83 #[.val (.int p1), .val (.int (p1 ||| (32 : Int32))), .val (.int (0 : Int32)), .val (.long ((p1.toInt64) - (48 : Int64))), .second, .val (.int (0 : Int32)), .val (.int (0 : Int32))] [(.int (0 : Int32))]) _
        obtain ⟨fs, hr, hrun, hended, hW, hsame⟩ := X0.leave (v := some (.int (0 : Int32))) (fun h => by rw [Bd.returns] at h; cases h)
        refine Go.done (retN X0 hx (t := .boolean) Bd.returns (by simp) (hb hby d2_83) hr) hrun hended ⟨_, _, rfl, ?_, ⟨_, rfl⟩, hW, hsame.mono (by decide) (by decide)⟩
        show Q2 Z p1 h0 n0 _ s₁.heap _
        rw [e0]
        refine ⟨?_, N0, rfl⟩
        rw [f2, if_pos hc1, if_pos hc2, if_neg hc3]
    · refine Go.by (fun t k => XS.ifNo X0.here hx rfl (hb hby d2_33) rfl (cflt hc2).1 k) ?_
      show Go p e below s₁ (mkF m 36 #[.val (.int p1), .val (.int (p1 ||| (32 : Int32))), .val (.int (0 : Int32)), .val (.long ((p1.toInt64) - (48 : Int64))), .second, .unset, .unset] []) _
      refine Go.by (fun t k => XS.lloadN X0.here hx rfl (hb hby d2_36) rfl k) ?_
      show Go p e below s₁ (mkF m 37 #[.val (.int p1), .val (.int (p1 ||| (32 : Int32))), .val (.int (0 : Int32)), .val (.long ((p1.toInt64) - (48 : Int64))), .second, .unset, .unset] [(.long ((p1.toInt64) - (48 : Int64)))]) _
      refine Go.by (fun t k => X0.ldc2Long hx hown (mvT hZ (hw _ (List.mem_of_getElem? (i := 10) rfl))) (g := (mkF m 37 #[.val (.int p1), .val (.int (p1 ||| (32 : Int32))), .val (.int (0 : Int32)), .val (.long ((p1.toInt64) - (48 : Int64))), .second, .unset, .unset] [(.long ((p1.toInt64) - (48 : Int64)))])) rfl (hb hby d2_37) t k) ?_
      show Go p e below s₁ (mkF m 40 #[.val (.int p1), .val (.int (p1 ||| (32 : Int32))), .val (.int (0 : Int32)), .val (.long ((p1.toInt64) - (48 : Int64))), .second, .unset, .unset] [(.long (10 : Int64)), (.long ((p1.toInt64) - (48 : Int64)))]) _
      refine Go.by (fun t k => XS.lcmp X0.here hx rfl (hb hby d2_40) rfl k) ?_
      show Go p e below s₁ (mkF m 41 #[.val (.int p1), .val (.int (p1 ||| (32 : Int32))), .val (.int (0 : Int32)), .val (.long ((p1.toInt64) - (48 : Int64))), .second, .unset, .unset] [(.int (lcmpW ((p1.toInt64) - (48 : Int64)) (10 : Int64)))]) _
      by_cases hc4 : ((p1.toInt64) - (48 : Int64)) < (10 : Int64)
      · refine Go.by (fun t k => XS.ifNo X0.here hx rfl (hb hby d2_41) rfl (ctlt hc4).2.1 k) ?_
        show Go p e below s₁ (mkF m 44 #[.val (.int p1), .val (.int (p1 ||| (32 : Int32))), .val (.int (0 : Int32)), .val (.long ((p1.toInt64) - (48 : Int64))), .second, .unset, .unset] []) _
        refine Go.by (fun t k => XS.iconst X0.here hx rfl (hb hby d2_44) k) ?_
        show Go p e below s₁ (mkF m 45 #[.val (.int p1), .val (.int (p1 ||| (32 : Int32))), .val (.int (0 : Int32)), .val (.long ((p1.toInt64) - (48 : Int64))), .second, .unset, .unset] [(.int (1 : Int32))]) _
        refine Go.by (fun t k => XS.goto X0.here hx rfl (pc0 := 45) (pc' := 49) rfl (hb hby d2_45) (by decide) (by decide) k) ?_
        show Go p e below s₁ (mkF m 49 #[.val (.int p1), .val (.int (p1 ||| (32 : Int32))), .val (.int (0 : Int32)), .val (.long ((p1.toInt64) - (48 : Int64))), .second, .unset, .unset] [(.int (1 : Int32))]) _
        refine Go.by (fun t k => XS.istore X0.here hx rfl (hb hby d2_49) rfl (l' := #[.val (.int p1), .val (.int (p1 ||| (32 : Int32))), .val (.int (0 : Int32)), .val (.long ((p1.toInt64) - (48 : Int64))), .second, .val (.int (1 : Int32)), .unset]) rfl k) ?_
        show Go p e below s₁ (mkF m 51 #[.val (.int p1), .val (.int (p1 ||| (32 : Int32))), .val (.int (0 : Int32)), .val (.long ((p1.toInt64) - (48 : Int64))), .second, .val (.int (1 : Int32)), .unset] []) _
        refine Go.by (fun t k => XS.iloadN X0.here hx rfl (hb hby d2_51) rfl k) ?_
        show Go p e below s₁ (mkF m 52 #[.val (.int p1), .val (.int (p1 ||| (32 : Int32))), .val (.int (0 : Int32)), .val (.long ((p1.toInt64) - (48 : Int64))), .second, .val (.int (1 : Int32)), .unset] [(.int p1)]) _
        refine Go.by (fun t k => XS.bipush X0.here hx rfl (hb hby d2_52) k) ?_
        show Go p e below s₁ (mkF m 54 #[.val (.int p1), .val (.int (p1 ||| (32 : Int32))), .val (.int (0 : Int32)), .val (.long ((p1.toInt64) - (48 : Int64))), .second, .val (.int (1 : Int32)), .unset] [(.int (95 : Int32)), (.int p1)]) _
        by_cases hc5 : p1 = (95 : Int32)
        · refine Go.by (fun t k => XS.icmpNo X0.here hx rfl (hb hby d2_54) rfl (teq hc5).2 k) ?_
          show Go p e below s₁ (mkF m 57 #[.val (.int p1), .val (.int (p1 ||| (32 : Int32))), .val (.int (0 : Int32)), .val (.long ((p1.toInt64) - (48 : Int64))), .second, .val (.int (1 : Int32)), .unset] []) _
          refine Go.by (fun t k => XS.iconst X0.here hx rfl (hb hby d2_57) k) ?_
          show Go p e below s₁ (mkF m 58 #[.val (.int p1), .val (.int (p1 ||| (32 : Int32))), .val (.int (0 : Int32)), .val (.long ((p1.toInt64) - (48 : Int64))), .second, .val (.int (1 : Int32)), .unset] [(.int (1 : Int32))]) _
          refine Go.by (fun t k => XS.goto X0.here hx rfl (pc0 := 58) (pc' := 62) rfl (hb hby d2_58) (by decide) (by decide) k) ?_
          show Go p e below s₁ (mkF m 62 #[.val (.int p1), .val (.int (p1 ||| (32 : Int32))), .val (.int (0 : Int32)), .val (.long ((p1.toInt64) - (48 : Int64))), .second, .val (.int (1 : Int32)), .unset] [(.int (1 : Int32))]) _
          refine Go.by (fun t k => XS.istore X0.here hx rfl (hb hby d2_62) rfl (l' := #[.val (.int p1), .val (.int (p1 ||| (32 : Int32))), .val (.int (0 : Int32)), .val (.long ((p1.toInt64) - (48 : Int64))), .second, .val (.int (1 : Int32)), .val (.int (1 : Int32))]) rfl k) ?_
          show Go p e below s₁ (mkF m 64 #[.val (.int p1), .val (.int (p1 ||| (32 : Int32))), .val (.int (0 : Int32)), .val (.long ((p1.toInt64) - (48 : Int64))), .second, .val (.int (1 : Int32)), .val (.int (1 : Int32))] []) _
          refine Go.by (fun t k => XS.iloadN X0.here hx rfl (hb hby d2_64) rfl k) ?_
          show Go p e below s₁ (mkF m 65 #[.val (.int p1), .val (.int (p1 ||| (32 : Int32))), .val (.int (0 : Int32)), .val (.long ((p1.toInt64) - (48 : Int64))), .second, .val (.int (1 : Int32)), .val (.int (1 : Int32))] [(.int (0 : Int32))]) _
          refine Go.by (fun t k => XS.ifNo X0.here hx rfl (hb hby d2_65) rfl ((if0 _ _).trans (teq (show (0 : Int32) = (0 : Int32) from (by decide))).2) k) ?_
          show Go p e below s₁ (mkF m 68 #[.val (.int p1), .val (.int (p1 ||| (32 : Int32))), .val (.int (0 : Int32)), .val (.long ((p1.toInt64) - (48 : Int64))), .second, .val (.int (1 : Int32)), .val (.int (1 : Int32))] []) _
          refine Go.by (fun t k => XS.iload X0.here hx rfl (hb hby d2_68) rfl k) ?_
          show Go p e below s₁ (mkF m 70 #[.val (.int p1), .val (.int (p1 ||| (32 : Int32))), .val (.int (0 : Int32)), .val (.long ((p1.toInt64) - (48 : Int64))), .second, .val (.int (1 : Int32)), .val (.int (1 : Int32))] [(.int (1 : Int32))]) _
          refine Go.by (fun t k => XS.ifYes X0.here hx rfl (pc0 := 70) (pc' := 78) rfl (hb hby d2_70) rfl ((if0 _ _).trans (feq (show ¬ ((1 : Int32) = (0 : Int32)) from (by decide))).2) (by decide) (by decide) k) ?_
          show Go p e below s₁ (mkF m 78 #[.val (.int p1), .val (.int (p1 ||| (32 : Int32))), .val (.int (0 : Int32)), .val (.long ((p1.toInt64) - (48 : Int64))), .second, .val (.int (1 : Int32)), .val (.int (1 : Int32))] []) _
          refine Go.by (fun t k => XS.iconst X0.here hx rfl (hb hby d2_78) k) ?_
          show Go p e below s₁ (mkF m 79 #[.val (.int p1), .val (.int (p1 ||| (32 : Int32))), .val (.int (0 : Int32)), .val (.long ((p1.toInt64) - (48 : Int64))), .second, .val (.int (1 : Int32)), .val (.int (1 : Int32))] [(.int (1 : Int32))]) _
          refine Go.by (fun t k => XS.goto X0.here hx rfl (pc0 := 79) (pc' := 83) rfl (hb hby d2_79) (by decide) (by decide) k) ?_
          show Go p e below s₁ (mkF m 83 #[.val (.int p1), .val (.int (p1 ||| (32 : Int32))), .val (.int (0 : Int32)), .val (.long ((p1.toInt64) - (48 : Int64))), .second, .val (.int (1 : Int32)), .val (.int (1 : Int32))] [(.int (1 : Int32))]) _
          obtain ⟨fs, hr, hrun, hended, hW, hsame⟩ := X0.leave (v := some (.int (1 : Int32))) (fun h => by rw [Bd.returns] at h; cases h)
          refine Go.done (retN X0 hx (t := .boolean) Bd.returns (by simp) (hb hby d2_83) hr) hrun hended ⟨_, _, rfl, ?_, ⟨_, rfl⟩, hW, hsame.mono (by decide) (by decide)⟩
          show Q2 Z p1 h0 n0 _ s₁.heap _
          rw [e0]
          refine ⟨?_, N0, rfl⟩
          rw [f2, if_pos hc1, if_neg hc2, if_pos hc4, if_pos hc5]
        · refine Go.by (fun t k => XS.icmpYes X0.here hx rfl (pc0 := 54) (pc' := 61) rfl (hb hby d2_54) rfl (feq hc5).2 (by decide) (by decide) k) ?_
          show Go p e below s₁ (mkF m 61 #[.val (.int p1), .val (.int (p1 ||| (32 : Int32))), .val (.int (0 : Int32)), .val (.long ((p1.toInt64) - (48 : Int64))), .second, .val (.int (1 : Int32)), .unset] []) _
          refine Go.by (fun t k => XS.iconst X0.here hx rfl (hb hby d2_61) k) ?_
          show Go p e below s₁ (mkF m 62 #[.val (.int p1), .val (.int (p1 ||| (32 : Int32))), .val (.int (0 : Int32)), .val (.long ((p1.toInt64) - (48 : Int64))), .second, .val (.int (1 : Int32)), .unset] [(.int (0 : Int32))]) _
          refine Go.by (fun t k => XS.istore X0.here hx rfl (hb hby d2_62) rfl (l' := #[.val (.int p1), .val (.int (p1 ||| (32 : Int32))), .val (.int (0 : Int32)), .val (.long ((p1.toInt64) - (48 : Int64))), .second, .val (.int (1 : Int32)), .val (.int (0 : Int32))]) rfl k) ?_
          show Go p e below s₁ (mkF m 64 #[.val (.int p1), .val (.int (p1 ||| (32 : Int32))), .val (.int (0 : Int32)), .val (.long ((p1.toInt64) - (48 : Int64))), .second, .val (.int (1 : Int32)), .val (.int (0 : Int32))] []) _
          refine Go.by (fun t k => XS.iloadN X0.here hx rfl (hb hby d2_64) rfl k) ?_
          show Go p e below s₁ (mkF m 65 #[.val (.int p1), .val (.int (p1 ||| (32 : Int32))), .val (.int (0 : Int32)), .val (.long ((p1.toInt64) - (48 : Int64))), .second, .val (.int (1 : Int32)), .val (.int (0 : Int32))] [(.int (0 : Int32))]) _
          refine Go.by (fun t k => XS.ifNo X0.here hx rfl (hb hby d2_65) rfl ((if0 _ _).trans (teq (show (0 : Int32) = (0 : Int32) from (by decide))).2) k) ?_
          show Go p e below s₁ (mkF m 68 #[.val (.int p1), .val (.int (p1 ||| (32 : Int32))), .val (.int (0 : Int32)), .val (.long ((p1.toInt64) - (48 : Int64))), .second, .val (.int (1 : Int32)), .val (.int (0 : Int32))] []) _
          refine Go.by (fun t k => XS.iload X0.here hx rfl (hb hby d2_68) rfl k) ?_
          show Go p e below s₁ (mkF m 70 #[.val (.int p1), .val (.int (p1 ||| (32 : Int32))), .val (.int (0 : Int32)), .val (.long ((p1.toInt64) - (48 : Int64))), .second, .val (.int (1 : Int32)), .val (.int (0 : Int32))] [(.int (1 : Int32))]) _
          refine Go.by (fun t k => XS.ifYes X0.here hx rfl (pc0 := 70) (pc' := 78) rfl (hb hby d2_70) rfl ((if0 _ _).trans (feq (show ¬ ((1 : Int32) = (0 : Int32)) from (by decide))).2) (by decide) (by decide) k) ?_
          show Go p e below s₁ (mkF m 78 #[.val (.int p1), .val (.int (p1 ||| (32 : Int32))), .val (.int (0 : Int32)), .val (.long ((p1.toInt64) - (48 : Int64))), .second, .val (.int (1 : Int32)), .val (.int (0 : Int32))] []) _
          refine Go.by (fun t k => XS.iconst X0.here hx rfl (hb hby d2_78) k) ?_
          show Go p e below s₁ (mkF m 79 #[.val (.int p1), .val (.int (p1 ||| (32 : Int32))), .val (.int (0 : Int32)), .val (.long ((p1.toInt64) - (48 : Int64))), .second, .val (.int (1 : Int32)), .val (.int (0 : Int32))] [(.int (1 : Int32))]) _
          refine Go.by (fun t k => XS.goto X0.here hx rfl (pc0 := 79) (pc' := 83) rfl (hb hby d2_79) (by decide) (by decide) k) ?_
          show Go p e below s₁ (mkF m 83 #[.val (.int p1), .val (.int (p1 ||| (32 : Int32))), .val (.int (0 : Int32)), .val (.long ((p1.toInt64) - (48 : Int64))), .second, .val (.int (1 : Int32)), .val (.int (0 : Int32))] [(.int (1 : Int32))]) _
          obtain ⟨fs, hr, hrun, hended, hW, hsame⟩ := X0.leave (v := some (.int (1 : Int32))) (fun h => by rw [Bd.returns] at h; cases h)
          refine Go.done (retN X0 hx (t := .boolean) Bd.returns (by simp) (hb hby d2_83) hr) hrun hended ⟨_, _, rfl, ?_, ⟨_, rfl⟩, hW, hsame.mono (by decide) (by decide)⟩
          show Q2 Z p1 h0 n0 _ s₁.heap _
          rw [e0]
          refine ⟨?_, N0, rfl⟩
          rw [f2, if_pos hc1, if_neg hc2, if_pos hc4, if_neg hc5]
      · refine Go.by (fun t k => XS.ifYes X0.here hx rfl (pc0 := 41) (pc' := 48) rfl (hb hby d2_41) rfl (cflt hc4).2.1 (by decide) (by decide) k) ?_
        show Go p e below s₁ (mkF m 48 #[.val (.int p1), .val (.int (p1 ||| (32 : Int32))), .val (.int (0 : Int32)), .val (.long ((p1.toInt64) - (48 : Int64))), .second, .unset, .unset] []) _
        refine Go.by (fun t k => XS.iconst X0.here hx rfl (hb hby d2_48) k) ?_
        show Go p e below s₁ (mkF m 49 #[.val (.int p1), .val (.int (p1 ||| (32 : Int32))), .val (.int (0 : Int32)), .val (.long ((p1.toInt64) - (48 : Int64))), .second, .unset, .unset] [(.int (0 : Int32))]) _
        refine Go.by (fun t k => XS.istore X0.here hx rfl (hb hby d2_49) rfl (l' := #[.val (.int p1), .val (.int (p1 ||| (32 : Int32))), .val (.int (0 : Int32)), .val (.long ((p1.toInt64) - (48 : Int64))), .second, .val (.int (0 : Int32)), .unset]) rfl k) ?_
        show Go p e below s₁ (mkF m 51 #[.val (.int p1), .val (.int (p1 ||| (32 : Int32))), .val (.int (0 : Int32)), .val (.long ((p1.toInt64) - (48 : Int64))), .second, .val (.int (0 : Int32)), .unset] []) _
        refine Go.by (fun t k => XS.iloadN X0.here hx rfl (hb hby d2_51) rfl k) ?_
        show Go p e below s₁ (mkF m 52 #[.val (.int p1), .val (.int (p1 ||| (32 : Int32))), .val (.int (0 : Int32)), .val (.long ((p1.toInt64) - (48 : Int64))), .second, .val (.int (0 : Int32)), .unset] [(.int p1)]) _
        refine Go.by (fun t k => XS.bipush X0.here hx rfl (hb hby d2_52) k) ?_
        show Go p e below s₁ (mkF m 54 #[.val (.int p1), .val (.int (p1 ||| (32 : Int32))), .val (.int (0 : Int32)), .val (.long ((p1.toInt64) - (48 : Int64))), .second, .val (.int (0 : Int32)), .unset] [(.int (95 : Int32)), (.int p1)]) _
        by_cases hc6 : p1 = (95 : Int32)
        · refine Go.by (fun t k => XS.icmpNo X0.here hx rfl (hb hby d2_54) rfl (teq hc6).2 k) ?_
          show Go p e below s₁ (mkF m 57 #[.val (.int p1), .val (.int (p1 ||| (32 : Int32))), .val (.int (0 : Int32)), .val (.long ((p1.toInt64) - (48 : Int64))), .second, .val (.int (0 : Int32)), .unset] []) _
          refine Go.by (fun t k => XS.iconst X0.here hx rfl (hb hby d2_57) k) ?_
          show Go p e below s₁ (mkF m 58 #[.val (.int p1), .val (.int (p1 ||| (32 : Int32))), .val (.int (0 : Int32)), .val (.long ((p1.toInt64) - (48 : Int64))), .second, .val (.int (0 : Int32)), .unset] [(.int (1 : Int32))]) _
          refine Go.by (fun t k => XS.goto X0.here hx rfl (pc0 := 58) (pc' := 62) rfl (hb hby d2_58) (by decide) (by decide) k) ?_
          show Go p e below s₁ (mkF m 62 #[.val (.int p1), .val (.int (p1 ||| (32 : Int32))), .val (.int (0 : Int32)), .val (.long ((p1.toInt64) - (48 : Int64))), .second, .val (.int (0 : Int32)), .unset] [(.int (1 : Int32))]) _
          refine Go.by (fun t k => XS.istore X0.here hx rfl (hb hby d2_62) rfl (l' := #[.val (.int p1), .val (.int (p1 ||| (32 : Int32))), .val (.int (0 : Int32)), .val (.long ((p1.toInt64) - (48 : Int64))), .second, .val (.int (0 : Int32)), .val (.int (1 : Int32))]) rfl k) ?_
          show Go p e below s₁ (mkF m 64 #[.val (.int p1), .val (.int (p1 ||| (32 : Int32))), .val (.int (0 : Int32)), .val (.long ((p1.toInt64) - (48 : Int64))), .second, .val (.int (0 : Int32)), .val (.int (1 : Int32))] []) _
          refine Go.by (fun t k => XS.iloadN X0.here hx rfl (hb hby d2_64) rfl k) ?_
          show Go p e below s₁ (mkF m 65 #[.val (.int p1), .val (.int (p1 ||| (32 : Int32))), .val (.int (0 : Int32)), .val (.long ((p1.toInt64) - (48 : Int64))), .second, .val (.int (0 : Int32)), .val (.int (1 : Int32))] [(.int (0 : Int32))]) _
          refine Go.by (fun t k => XS.ifNo X0.here hx rfl (hb hby d2_65) rfl ((if0 _ _).trans (teq (show (0 : Int32) = (0 : Int32) from (by decide))).2) k) ?_
          show Go p e below s₁ (mkF m 68 #[.val (.int p1), .val (.int (p1 ||| (32 : Int32))), .val (.int (0 : Int32)), .val (.long ((p1.toInt64) - (48 : Int64))), .second, .val (.int (0 : Int32)), .val (.int (1 : Int32))] []) _
          refine Go.by (fun t k => XS.iload X0.here hx rfl (hb hby d2_68) rfl k) ?_
          show Go p e below s₁ (mkF m 70 #[.val (.int p1), .val (.int (p1 ||| (32 : Int32))), .val (.int (0 : Int32)), .val (.long ((p1.toInt64) - (48 : Int64))), .second, .val (.int (0 : Int32)), .val (.int (1 : Int32))] [(.int (0 : Int32))]) _
          refine Go.by (fun t k => XS.ifNo X0.here hx rfl (hb hby d2_70) rfl ((if0 _ _).trans (teq (show (0 : Int32) = (0 : Int32) from (by decide))).2) k) ?_
          show Go p e below s₁ (mkF m 73 #[.val (.int p1), .val (.int (p1 ||| (32 : Int32))), .val (.int (0 : Int32)), .val (.long ((p1.toInt64) - (48 : Int64))), .second, .val (.int (0 : Int32)), .val (.int (1 : Int32))] []) _
          refine Go.by (fun t k => XS.iload X0.here hx rfl (hb hby d2_73) rfl k) ?_
          show Go p e below s₁ (mkF m 75 #[.val (.int p1), .val (.int (p1 ||| (32 : Int32))), .val (.int (0 : Int32)), .val (.long ((p1.toInt64) - (48 : Int64))), .second, .val (.int (0 : Int32)), .val (.int (1 : Int32))] [(.int (1 : Int32))]) _
          refine Go.by (fun t k => XS.ifNo X0.here hx rfl (hb hby d2_75) rfl ((if0 _ _).trans (feq (show ¬ ((1 : Int32) = (0 : Int32)) from (by decide))).1) k) ?_
          show Go p e below s₁ (mkF m 78 #[.val (.int p1), .val (.int (p1 ||| (32 : Int32))), .val (.int (0 : Int32)), .val (.long ((p1.toInt64) - (48 : Int64))), .second, .val (.int (0 : Int32)), .val (.int (1 : Int32))] []) _
          refine Go.by (fun t k => XS.iconst X0.here hx rfl (hb hby d2_78) k) ?_
          show Go p e below s₁ (mkF m 79 #[.val (.int p1), .val (.int (p1 ||| (32 : Int32))), .val (.int (0 : Int32)), .val (.long ((p1.toInt64) - (48 : Int64))), .second, .val (.int (0 : Int32)), .val (.int (1 : Int32))] [(.int (1 : Int32))]) _
          refine Go.by (fun t k => XS.goto X0.here hx rfl (pc0 := 79) (pc' := 83) rfl (hb hby d2_79) (by decide) (by decide) k) ?_
          show Go p e below s₁ (mkF m 83 #[.val (.int p1), .val (.int (p1 ||| (32 : Int32))), .val (.int (0 : Int32)), .val (.long ((p1.toInt64) - (48 : Int64))), .second, .val (.int (0 : Int32)), .val (.int (1 : Int32))] [(.int (1 : Int32))]) _
          obtain ⟨fs, hr, hrun, hended, hW, hsame⟩ := X0.leave (v := some (.int (1 : Int32))) (fun h => by rw [Bd.returns] at h; cases h)
          refine Go.done (retN X0 hx (t := .boolean) Bd.returns (by simp) (hb hby d2_83) hr) hrun hended ⟨_, _, rfl, ?_, ⟨_, rfl⟩, hW, hsame.mono (by decide) (by decide)⟩
          show Q2 Z p1 h0 n0 _ s₁.heap _
          rw [e0]
          refine ⟨?_, N0, rfl⟩
          rw [f2, if_pos hc1, if_neg hc2, if_neg hc4, if_pos hc6]
        · refine Go.by (fun t k => XS.icmpYes X0.here hx rfl (pc0 := 54) (pc' := 61) rfl (hb hby d2_54) rfl (feq hc6).2 (by decide) (by decide) k) ?_
          show Go p e below s₁ (mkF m 61 #[.val (.int p1), .val (.int (p1 ||| (32 : Int32))), .val (.int (0 : Int32)), .val (.long ((p1.toInt64) - (48 : Int64))), .second, .val (.int (0 : Int32)), .unset] []) _
          refine Go.by (fun t k => XS.iconst X0.here hx rfl (hb hby d2_61) k) ?_
          show Go p e below s₁ (mkF m 62 #[.val (.int p1), .val (.int (p1 ||| (32 : Int32))), .val (.int (0 : Int32)), .val (.long ((p1.toInt64) - (48 : Int64))), .second, .val (.int (0 : Int32)), .unset] [(.int (0 : Int32))]) _
          refine Go.by (fun t k => XS.istore X0.here hx rfl (hb hby d2_62) rfl (l' := #[.val (.int p1), .val (.int (p1 ||| (32 : Int32))), .val (.int (0 : Int32)), .val (.long ((p1.toInt64) - (48 : Int64))), .second, .val (.int (0 : Int32)), .val (.int (0 : Int32))]) rfl k) ?_
          show Go p e below s₁ (mkF m 64 #[.val (.int p1), .val (.int (p1 ||| (32 : Int32))), .val (.int (0 : Int32)), .val (.long ((p1.toInt64) - (48 : Int64))), .second, .val (.int (0 : Int32)), .val (.int (0 : Int32))] []) _
          refine Go.by (fun t k => XS.iloadN X0.here hx rfl (hb hby d2_64) rfl k) ?_
          show Go p e below s₁ (mkF m 65 #[.val (.int p1), .val (.int (p1 ||| (32 : Int32))), .val (.int (0 : Int32)), .val (.long ((p1.toInt64) - (48 : Int64))), .second, .val (.int (0 : Int32)), .val (.int (0 : Int32))] [(.int (0 : Int32))]) _
          refine Go.by (fun t k => XS.ifNo X0.here hx rfl (hb hby d2_65) rfl ((if0 _ _).trans (teq (show (0 : Int32) = (0 : Int32) from (by decide))).2) k) ?_
          show Go p e below s₁ (mkF m 68 #[.val (.int p1), .val (.int (p1 ||| (32 : Int32))), .val (.int (0 : Int32)), .val (.long ((p1.toInt64) - (48 : Int64))), .second, .val (.int (0 : Int32)), .val (.int (0 : Int32))] []) _
          refine Go.by (fun t k => XS.iload X0.here hx rfl (hb hby d2_68) rfl k) ?_
          show Go p e below s₁ (mkF m 70 #[.val (.int p1), .val (.int (p1 ||| (32 : Int32))), .val (.int (0 : Int32)), .val (.long ((p1.toInt64) - (48 : Int64))), .second, .val (.int (0 : Int32)), .val (.int (0 : Int32))] [(.int (0 : Int32))]) _
          refine Go.by (fun t k => XS.ifNo X0.here hx rfl (hb hby d2_70) rfl ((if0 _ _).trans (teq (show (0 : Int32) = (0 : Int32) from (by decide))).2) k) ?_
          show Go p e below s₁ (mkF m 73 #[.val (.int p1), .val (.int (p1 ||| (32 : Int32))), .val (.int (0 : Int32)), .val (.long ((p1.toInt64) - (48 : Int64))), .second, .val (.int (0 : Int32)), .val (.int (0 : Int32))] []) _
          refine Go.by (fun t k => XS.iload X0.here hx rfl (hb hby d2_73) rfl k) ?_
          show Go p e below s₁ (mkF m 75 #[.val (.int p1), .val (.int (p1 ||| (32 : Int32))), .val (.int (0 : Int32)), .val (.long ((p1.toInt64) - (48 : Int64))), .second, .val (.int (0 : Int32)), .val (.int (0 : Int32))] [(.int (0 : Int32))]) _
          refine Go.by (fun t k => XS.ifYes X0.here hx rfl (pc0 := 75) (pc' := 82) rfl (hb hby d2_75) rfl ((if0 _ _).trans (teq (show (0 : Int32) = (0 : Int32) from (by decide))).1) (by decide) (by decide) k) ?_
          show Go p e below s₁ (mkF m 82 #[.val (.int p1), .val (.int (p1 ||| (32 : Int32))), .val (.int (0 : Int32)), .val (.long ((p1.toInt64) - (48 : Int64))), .second, .val (.int (0 : Int32)), .val (.int (0 : Int32))] []) _
          refine Go.by (fun t k => XS.iconst X0.here hx rfl (hb hby d2_82) k) ?_
          show Go p e below s₁ (mkF m 83 #[.val (.int p1), .val (.int (p1 ||| (32 : Int32))), .val (.int (0 : Int32)), .val (.long ((p1.toInt64) - (48 : Int64))), .second, .val (.int (0 : Int32)), .val (.int (0 : Int32))] [(.int (0 : Int32))]) _
          obtain ⟨fs, hr, hrun, hended, hW, hsame⟩ := X0.leave (v := some (.int (0 : Int32))) (fun h => by rw [Bd.returns] at h; cases h)
          refine Go.done (retN X0 hx (t := .boolean) Bd.returns (by simp) (hb hby d2_83) hr) hrun hended ⟨_, _, rfl, ?_, ⟨_, rfl⟩, hW, hsame.mono (by decide) (by decide)⟩
          show Q2 Z p1 h0 n0 _ s₁.heap _
          rw [e0]
          refine ⟨?_, N0, rfl⟩
          rw [f2, if_pos hc1, if_neg hc2, if_neg hc4, if_neg hc6]
  · refine Go.by (fun t k => XS.icmpNo X0.here hx rfl (hb hby d2_8) rfl (flt hc1).1 k) ?_
    show Go p e below s₁ (mkF m 11 #[.val (.int p1), .val (.int (p1 ||| (32 : Int32))), .unset, .unset, .unset, .unset, .unset] []) _
    refine Go.by (fun t k => XS.iloadN X0.here hx rfl (hb hby d2_11) rfl k) ?_
    show Go p e below s₁ (mkF m 12 #[.val (.int p1), .val (.int (p1 ||| (32 : Int32))), .unset, .unset, .unset, .unset, .unset] [(.int (p1 ||| (32 : Int32)))]) _
    refine Go.by (fun t k => XS.bipush X0.here hx rfl (hb hby d2_12) k) ?_
    show Go p e below s₁ (mkF m 14 #[.val (.int p1), .val (.int (p1 ||| (32 : Int32))), .unset, .unset, .unset, .unset, .unset] [(.int (122 : Int32)), (.int (p1 ||| (32 : Int32)))]) _
    by_cases hc7 : (122 : Int32) < (p1 ||| (32 : Int32))
    · refine Go.by (fun t k => XS.icmpYes X0.here hx rfl (pc0 := 14) (pc' := 21) rfl (hb hby d2_14) rfl (tlt hc7).2.2.1 (by decide) (by decide) k) ?_
      show Go p e below s₁ (mkF m 21 #[.val (.int p1), .val (.int (p1 ||| (32 : Int32))), .unset, .unset, .unset, .unset, .unset] []) _
      refine Go.by (fun t k => XS.iconst X0.here hx rfl (hb hby d2_21) k) ?_
      show Go p e below s₁ (mkF m 22 #[.val (.int p1), .val (.int (p1 ||| (32 : Int32))), .unset, .unset, .unset, .unset, .unset] [(.int (0 : Int32))]) _
      refine Go.by (fun t k => XS.istoreN X0.here hx rfl (hb hby d2_22) rfl (l' := #[.val (.int p1), .val (.int (p1 ||| (32 : Int32))), .val (.int (0 : Int32)), .unset, .unset, .unset, .unset]) rfl k) ?_
      show Go p e below s₁ (mkF m 23 #[.val (.int p1), .val (.int (p1 ||| (32 : Int32))), .val (.int (0 : Int32)), .unset, .unset, .unset, .unset] []) _
      refine Go.by (fun t k => XS.iloadN X0.here hx rfl (hb hby d2_23) rfl k) ?_
      show Go p e below s₁ (mkF m 24 #[.val (.int p1), .val (.int (p1 ||| (32 : Int32))), .val (.int (0 : Int32)), .unset, .unset, .unset, .unset] [(.int p1)]) _
      refine Go.by (fun t k => XS.i2l X0.here hx rfl (hb hby d2_24) rfl k) ?_
      show Go p e below s₁ (mkF m 25 #[.val (.int p1), .val (.int (p1 ||| (32 : Int32))), .val (.int (0 : Int32)), .unset, .unset, .unset, .unset] [(.long (p1.toInt64))]) _
      refine Go.by (fun t k => X0.ldc2Long hx hown (mvT hZ (hw _ (List.mem_of_getElem? (i := 9) rfl))) (g := (mkF m 25 #[.val (.int p1), .val (.int (p1 ||| (32 : Int32))), .val (.int (0 : Int32)), .unset, .unset, .unset, .unset] [(.long (p1.toInt64))])) rfl (hb hby d2_25) t k) ?_
      show Go p e below s₁ (mkF m 28 #[.val (.int p1), .val (.int (p1 ||| (32 : Int32))), .val (.int (0 : Int32)), .unset, .unset, .unset, .unset] [(.long (48 : Int64)), (.long (p1.toInt64))]) _
      refine Go.by (fun t k => XS.lsub X0.here hx rfl (hb hby d2_28) rfl k) ?_
      show Go p e below s₁ (mkF m 29 #[.val (.int p1), .val (.int (p1 ||| (32 : Int32))), .val (.int (0 : Int32)), .unset, .unset, .unset, .unset] [(.long ((p1.toInt64) - (48 : Int64)))]) _
      refine Go.by (fun t k => XS.lstoreN X0.here hx rfl (hb hby d2_29) rfl (l' := #[.val (.int p1), .val (.int (p1 ||| (32 : Int32))), .val (.int (0 : Int32)), .val (.long ((p1.toInt64) - (48 : Int64))), .second, .unset, .unset]) rfl k) ?_
      show Go p e below s₁ (mkF m 30 #[.val (.int p1), .val (.int (p1 ||| (32 : Int32))), .val (.int (0 : Int32)), .val (.long ((p1.toInt64) - (48 : Int64))), .second, .unset, .unset] []) _
      refine Go.by (fun t k => XS.lloadN X0.here hx rfl (hb hby d2_30) rfl k) ?_
      show Go p e below s₁ (mkF m 31 #[.val (.int p1), .val (.int (p1 ||| (32 : Int32))), .val (.int (0 : Int32)), .val (.long ((p1.toInt64) - (48 : Int64))), .second, .unset, .unset] [(.long ((p1.toInt64) - (48 : Int64)))]) _
      refine Go.by (fun t k => XS.lconst X0.here hx rfl (hb hby d2_31) k) ?_
      show Go p e below s₁ (mkF m 32 #[.val (.int p1), .val (.int (p1 ||| (32 : Int32))), .val (.int (0 : Int32)), .val (.long ((p1.toInt64) - (48 : Int64))), .second, .unset, .unset] [(.long (0 : Int64)), (.long ((p1.toInt64) - (48 : Int64)))]) _
      refine Go.by (fun t k => XS.lcmp X0.here hx rfl (hb hby d2_32) rfl k) ?_
      show Go p e below s₁ (mkF m 33 #[.val (.int p1), .val (.int (p1 ||| (32 : Int32))), .val (.int (0 : Int32)), .val (.long ((p1.toInt64) - (48 : Int64))), .second, .unset, .unset] [(.int (lcmpW ((p1.toInt64) - (48 : Int64)) (0 : Int64)))]) _
      by_cases hc8 : ((p1.toInt64) - (48 : Int64)) < (0 : Int64)
      · refine Go.by (fun t k => XS.ifYes X0.here hx rfl (pc0 := 33) (pc' := 48) rfl (hb hby d2_33) rfl (ctlt hc8).1 (by decide) (by decide) k) ?_
        show Go p e below s₁ (mkF m 48 #[.val (.int p1), .val (.int (p1 ||| (32 : Int32))), .val (.int (0 : Int32)), .val (.long ((p1.toInt64) - (48 : Int64))), .second, .unset, .unset] []) _
        refine Go.by (fun t k => XS.iconst X0.here hx rfl (hb hby d2_48) k) ?_
        show Go p e below s₁ (mkF m 49 #[.val (.int p1), .val (.int (p1 ||| (32 : Int32))), .val (.int (0 : Int32)), .val (.long ((p1.toInt64) - (48 : Int64))), .second, .unset, .unset] [(.int (0 : Int32))]) _
        refine Go.by (fun t k => XS.istore X0.here hx rfl (hb hby d2_49) rfl (l' := #[.val (.int p1), .val (.int (p1 ||| (32 : Int32))), .val (.int (0 : Int32)), .val (.long ((p1.toInt64) - (48 : Int64))), .second, .val (.int (0 : Int32)), .unset]) rfl k) ?_
        show Go p e below s₁ (mkF m 51 #[.val (.int p1), .val (.int (p1 ||| (32 : Int32))), .val (.int (0 : Int32)), .val (.long ((p1.toInt64) - (48 : Int64))), .second, .val (.int (0 : Int32)), .unset] []) _
        refine Go.by (fun t k => XS.iloadN X0.here hx rfl (hb hby d2_51) rfl k) ?_
        show Go p e below s₁ (mkF m 52 #[.val (.int p1), .val (.int (p1 ||| (32 : Int32))), .val (.int (0 : Int32)), .val (.long ((p1.toInt64) - (48 : Int64))), .second, .val (.int (0 : Int32)), .unset] [(.int p1)]) _
        refine Go.by (fun t k => XS.bipush X0.here hx rfl (hb hby d2_52) k) ?_
        show Go p e below s₁ (mkF m 54 #[.val (.int p1), .val (.int (p1 ||| (32 : Int32))), .val (.int (0 : Int32)), .val (.long ((p1.toInt64) - (48 : Int64))), .second, .val (.int (0 : Int32)), .unset] [(.int (95 : Int32)), (.int p1)]) _
        by_cases hc9 : p1 = (95 : Int32)
        · refine Go.by (fun t k => XS.icmpNo X0.here hx rfl (hb hby d2_54) rfl (teq hc9).2 k) ?_
          show Go p e below s₁ (mkF m 57 #[.val (.int p1), .val (.int (p1 ||| (32 : Int32))), .val (.int (0 : Int32)), .val (.long ((p1.toInt64) - (48 : Int64))), .second, .val (.int (0 : Int32)), .unset] []) _
          refine Go.by (fun t k => XS.iconst X0.here hx rfl (hb hby d2_57) k) ?_
          show Go p e below s₁ (mkF m 58 #[.val (.int p1), .val (.int (p1 ||| (32 : Int32))), .val (.int (0 : Int32)), .val (.long ((p1.toInt64) - (48 : Int64))), .second, .val (.int (0 : Int32)), .unset] [(.int (1 : Int32))]) _
          refine Go.by (fun t k => XS.goto X0.here hx rfl (pc0 := 58) (pc' := 62) rfl (hb hby d2_58) (by decide) (by decide) k) ?_
          show Go p e below s₁ (mkF m 62 #[.val (.int p1), .val (.int (p1 ||| (32 : Int32))), .val (.int (0 : Int32)), .val (.long ((p1.toInt64) - (48 : Int64))), .second, .val (.int (0 : Int32)), .unset] [(.int (1 : Int32))]) _
          refine Go.by (fun t k => XS.istore X0.here hx rfl (hb hby d2_62) rfl (l' := #[.val (.int p1), .val (.int (p1 ||| (32 : Int32))), .val (.int (0 : Int32)), .val (.long ((p1.toInt64) - (48 : Int64))), .second, .val (.int (0 : Int32)), .val (.int (1 : Int32))]) rfl k) ?_
          show Go p e below s₁ (mkF m 64 #[.val (.int p1), .val (.int (p1 ||| (32 : Int32))), .val (.int (0 : Int32)), .val (.long ((p1.toInt64) - (48 : Int64))), .second, .val (.int (0 : Int32)), .val (.int (1 : Int32))] []) _
          refine Go.by (fun t k => XS.iloadN X0.here hx rfl (hb hby d2_64) rfl k) ?_
          show Go p e below s₁ (mkF m 65 #[.val (.int p1), .val (.int (p1 ||| (32 : Int32))), .val (.int (0 : Int32)), .val (.long ((p1.toInt64) - (48 : Int64))), .second, .val (.int (0 : Int32)), .val (.int (1 : Int32))] [(.int (0 : Int32))]) _
          refine Go.by (fun t k => XS.ifNo X0.here hx rfl (hb hby d2_65) rfl ((if0 _ _).trans (teq (show (0 : Int32) = (0 : Int32) from (by decide))).2) k) ?_
          show Go p e below s₁ (mkF m 68 #[.val (.int p1), .val (.int (p1 ||| (32 : Int32))), .val (.int (0 : Int32)), .val (.long ((p1.toInt64) - (48 : Int64))), .second, .val (.int (0 : Int32)), .val (.int (1 : Int32))] []) _
          refine Go.by (fun t k => XS.iload X0.here hx rfl (hb hby d2_68) rfl k) ?_
          show Go p e below s₁ (mkF m 70 #[.val (.int p1), .val (.int (p1 ||| (32 : Int32))), .val (.int (0 : Int32)), .val (.long ((p1.toInt64) - (48 : Int64))), .second, .val (.int (0 : Int32)), .val (.int (1 : Int32))] [(.int (0 : Int32))]) _
          refine Go.by (fun t k => XS.ifNo X0.here hx rfl (hb hby d2_70) rfl ((if0 _ _).trans (teq (show (0 : Int32) = (0 : Int32) from (by decide))).2) k) ?_
          show Go p e below s₁ (mkF m 73 #[.val (.int p1), .val (.int (p1 ||| (32 : Int32))), .val (.int (0 : Int32)), .val (.long ((p1.toInt64) - (48 : Int64))), .second, .val (.int (0 : Int32)), .val (.int (1 : Int32))] []) _
          refine Go.by (fun t k => XS.iload X0.here hx rfl (hb hby d2_73) rfl k) ?_
          show Go p e below s₁ (mkF m 75 #[.val (.int p1), .val (.int (p1 ||| (32 : Int32))), .val (.int (0 : Int32)), .val (.long ((p1.toInt64) - (48 : Int64))), .second, .val (.int (0 : Int32)), .val (.int (1 : Int32))] [(.int (1 : Int32))]) _
          refine Go.by (fun t k => XS.ifNo X0.here hx rfl (hb hby d2_75) rfl ((if0 _ _).trans (feq (show ¬ ((1 : Int32) = (0 : Int32)) from (by decide))).1) k) ?_
          show Go p e below s₁ (mkF m 78 #[.val (.int p1), .val (.int (p1 ||| (32 : Int32))), .val (.int (0 : Int32)), .val (.long ((p1.toInt64) - (48 : Int64))), .second, .val (.int (0 : Int32)), .val (.int (1 : Int32))] []) _
          refine Go.by (fun t k => XS.iconst X0.here hx rfl (hb hby d2_78) k) ?_
          show Go p e below s₁ (mkF m 79 #[.val (.int p1), .val (.int (p1 ||| (32 : Int32))), .val (.int (0 : Int32)), .val (.long ((p1.toInt64) - (48 : Int64))), .second, .val (.int (0 : Int32)), .val (.int (1 : Int32))] [(.int (1 : Int32))]) _
          refine Go.by (fun t k => XS.goto X0.here hx rfl (pc0 := 79) (pc' := 83) rfl (hb hby d2_79) (by decide) (by decide) k) ?_
          show Go p e below s₁ (mkF m 83 #[.val (.int p1), .val (.int (p1 ||| (32 : Int32))), .val (.int (0 : Int32)), .val (.long ((p1.toInt64) - (48 : Int64))), .second, .val (.int (0 : Int32)), .val (.int (1 : Int32))] [(.int (1 : Int32))]) _
          obtain ⟨fs, hr, hrun, hended, hW, hsame⟩ := X0.leave (v := some (.int (1 : Int32))) (fun h => by rw [Bd.returns] at h; cases h)
          refine Go.done (retN X0 hx (t := .boolean) Bd.returns (by simp) (hb hby d2_83) hr) hrun hended ⟨_, _, rfl, ?_, ⟨_, rfl⟩, hW, hsame.mono (by decide) (by decide)⟩
          show Q2 Z p1 h0 n0 _ s₁.heap _
          rw [e0]
          refine ⟨?_, N0, rfl⟩
          rw [f2, if_neg hc1, if_pos hc7, if_pos hc8, if_pos hc9]
        · refine Go.by (fun t k => XS.icmpYes X0.here hx rfl (pc0 := 54) (pc' := 61) rfl (hb hby d2_54) rfl (feq hc9).2 (by decide) (by decide) k) ?_
          show Go p e below s₁ (mkF m 61 #[.val (.int p1), .val (.int (p1 ||| (32 : Int32))), .val (.int (0 : Int32)), .val (.long ((p1.toInt64) - (48 : Int64))), .second, .val (.int (0 : Int32)), .unset] []) _
          refine Go.by (fun t k => XS.iconst X0.here hx rfl (hb hby d2_61) k) ?_
          show Go p e below s₁ (mkF m 62 #[.val (.int p1), .val (.int (p1 ||| (32 : Int32))), .val (.int (0 : Int32)), .val (.long ((p1.toInt64) - (48 : Int64))), .second, .val (.int (0 : Int32)), .unset] [(.int (0 : Int32))]) _
          refine Go.by (fun t k => XS.istore X0.here hx rfl (hb hby d2_62) rfl (l' := #[.val (.int p1), .val (.int (p1 ||| (32 : Int32))), .val (.int (0 : Int32)), .val (.long ((p1.toInt64) - (48 : Int64))), .second, .val (.int (0 : Int32)), .val (.int (0 : Int32))]) rfl k) ?_
          show Go p e below s₁ (mkF m 64 #[.val (.int p1), .val (.int (p1 ||| (32 : Int32))), .val (.int (0 : Int32)), .val (.long ((p1.toInt64) - (48 : Int64))), .second, .val (.int (0 : Int32)), .val (.int (0 : Int32))] []) _
          refine Go.by (fun t k => XS.iloadN X0.here hx rfl (hb hby d2_64) rfl k) ?_
          show Go p e below s₁ (mkF m 65 #[.val (.int p1), .val (.int (p1 ||| (32 : Int32))), .val (.int (0 : Int32)), .val (.long ((p1.toInt64) - (48 : Int64))), .second, .val (.int (0 : Int32)), .val (.int (0 : Int32))] [(.int (0 : Int32))]) _
          refine Go.by (fun t k => XS.ifNo X0.here hx rfl (hb hby d2_65) rfl ((if0 _ _).trans (teq (show (0 : Int32) = (0 : Int32) from (by decide))).2) k) ?_
          show Go p e below s₁ (mkF m 68 #[.val (.int p1), .val (.int (p1 ||| (32 : Int32))), .val (.int (0 : Int32)), .val (.long ((p1.toInt64) - (48 : Int64))), .second, .val (.int (0 : Int32)), .val (.int (0 : Int32))] []) _
          refine Go.by (fun t k => XS.iload X0.here hx rfl (hb hby d2_68) rfl k) ?_
          show Go p e below s₁ (mkF m 70 #[.val (.int p1), .val (.int (p1 ||| (32 : Int32))), .val (.int (0 : Int32)), .val (.long ((p1.toInt64) - (48 : Int64))), .second, .val (.int (0 : Int32)), .val (.int (0 : Int32))] [(.int (0 : Int32))]) _
          refine Go.by (fun t k => XS.ifNo X0.here hx rfl (hb hby d2_70) rfl ((if0 _ _).trans (teq (show (0 : Int32) = (0 : Int32) from (by decide))).2) k) ?_
          show Go p e below s₁ (mkF m 73 #[.val (.int p1), .val (.int (p1 ||| (32 : Int32))), .val (.int (0 : Int32)), .val (.long ((p1.toInt64) - (48 : Int64))), .second, .val (.int (0 : Int32)), .val (.int (0 : Int32))] []) _
          refine Go.by (fun t k => XS.iload X0.here hx rfl (hb hby d2_73) rfl k) ?_
          show Go p e below s₁ (mkF m 75 #[.val (.int p1), .val (.int (p1 ||| (32 : Int32))), .val (.int (0 : Int32)), .val (.long ((p1.toInt64) - (48 : Int64))), .second, .val (.int (0 : Int32)), .val (.int (0 : Int32))] [(.int (0 : Int32))]) _
          refine Go.by (fun t k => XS.ifYes X0.here hx rfl (pc0 := 75) (pc' := 82) rfl (hb hby d2_75) rfl ((if0 _ _).trans (teq (show (0 : Int32) = (0 : Int32) from (by decide))).1) (by decide) (by decide) k) ?_
          show Go p e below s₁ (mkF m 82 #[.val (.int p1), .val (.int (p1 ||| (32 : Int32))), .val (.int (0 : Int32)), .val (.long ((p1.toInt64) - (48 : Int64))), .second, .val (.int (0 : Int32)), .val (.int (0 : Int32))] []) _
          refine Go.by (fun t k => XS.iconst X0.here hx rfl (hb hby d2_82) k) ?_
          show Go p e below s₁ (mkF m 83 #[.val (.int p1), .val (.int (p1 ||| (32 : Int32))), .val (.int (0 : Int32)), .val (.long ((p1.toInt64) - (48 : Int64))), .second, .val (.int (0 : Int32)), .val (.int (0 : Int32))] [(.int (0 : Int32))]) _
          obtain ⟨fs, hr, hrun, hended, hW, hsame⟩ := X0.leave (v := some (.int (0 : Int32))) (fun h => by rw [Bd.returns] at h; cases h)
          refine Go.done (retN X0 hx (t := .boolean) Bd.returns (by simp) (hb hby d2_83) hr) hrun hended ⟨_, _, rfl, ?_, ⟨_, rfl⟩, hW, hsame.mono (by decide) (by decide)⟩
          show Q2 Z p1 h0 n0 _ s₁.heap _
          rw [e0]
          refine ⟨?_, N0, rfl⟩
          rw [f2, if_neg hc1, if_pos hc7, if_pos hc8, if_neg hc9]
      · refine Go.by (fun t k => XS.ifNo X0.here hx rfl (hb hby d2_33) rfl (cflt hc8).1 k) ?_
        show Go p e below s₁ (mkF m 36 #[.val (.int p1), .val (.int (p1 ||| (32 : Int32))), .val (.int (0 : Int32)), .val (.long ((p1.toInt64) - (48 : Int64))), .second, .unset, .unset] []) _
        refine Go.by (fun t k => XS.lloadN X0.here hx rfl (hb hby d2_36) rfl k) ?_
        show Go p e below s₁ (mkF m 37 #[.val (.int p1), .val (.int (p1 ||| (32 : Int32))), .val (.int (0 : Int32)), .val (.long ((p1.toInt64) - (48 : Int64))), .second, .unset, .unset] [(.long ((p1.toInt64) - (48 : Int64)))]) _
        refine Go.by (fun t k => X0.ldc2Long hx hown (mvT hZ (hw _ (List.mem_of_getElem? (i := 10) rfl))) (g := (mkF m 37 #[.val (.int p1), .val (.int (p1 ||| (32 : Int32))), .val (.int (0 : Int32)), .val (.long ((p1.toInt64) - (48 : Int64))), .second, .unset, .unset] [(.long ((p1.toInt64) - (48 : Int64)))])) rfl (hb hby d2_37) t k) ?_
        show Go p e below s₁ (mkF m 40 #[.val (.int p1), .val (.int (p1 ||| (32 : Int32))), .val (.int (0 : Int32)), .val (.long ((p1.toInt64) - (48 : Int64))), .second, .unset, .unset] [(.long (10 : Int64)), (.long ((p1.toInt64) - (48 : Int64)))]) _
        refine Go.by (fun t k => XS.lcmp X0.here hx rfl (hb hby d2_40) rfl k) ?_
        show Go p e below s₁ (mkF m 41 #[.val (.int p1), .val (.int (p1 ||| (32 : Int32))), .val (.int (0 : Int32)), .val (.long ((p1.toInt64) - (48 : Int64))), .second, .unset, .unset] [(.int (lcmpW ((p1.toInt64) - (48 : Int64)) (10 : Int64)))]) _
        by_cases hc10 : ((p1.toInt64) - (48 : Int64)) < (10 : Int64)
        · refine Go.by (fun t k => XS.ifNo X0.here hx rfl (hb hby d2_41) rfl (ctlt hc10).2.1 k) ?_
          show Go p e below s₁ (mkF m 44 #[.val (.int p1), .val (.int (p1 ||| (32 : Int32))), .val (.int (0 : Int32)), .val (.long ((p1.toInt64) - (48 : Int64))), .second, .unset, .unset] []) _
          refine Go.by (fun t k => XS.iconst X0.here hx rfl (hb hby d2_44) k) ?_
          show Go p e below s₁ (mkF m 45 #[.val (.int p1), .val (.int (p1 ||| (32 : Int32))), .val (.int (0 : Int32)), .val (.long ((p1.toInt64) - (48 : Int64))), .second, .unset, .unset] [(.int (1 : Int32))]) _
          refine Go.by (fun t k => XS.goto X0.here hx rfl (pc0 := 45) (pc' := 49) rfl (hb hby d2_45) (by decide) (by decide) k) ?_
          show Go p e below s₁ (mkF m 49 #[.val (.int p1), .val (.int (p1 ||| (32 : Int32))), .val (.int (0 : Int32)), .val (.long ((p1.toInt64) - (48 : Int64))), .second, .unset, .unset] [(.int (1 : Int32))]) _
          refine Go.by (fun t k => XS.istore X0.here hx rfl (hb hby d2_49) rfl (l' := #[.val (.int p1), .val (.int (p1 ||| (32 : Int32))), .val (.int (0 : Int32)), .val (.long ((p1.toInt64) - (48 : Int64))), .second, .val (.int (1 : Int32)), .unset]) rfl k) ?_
          show Go p e below s₁ (mkF m 51 #[.val (.int p1), .val (.int (p1 ||| (32 : Int32))), .val (.int (0 : Int32)), .val (.long ((p1.toInt64) - (48 : Int64))), .second, .val (.int (1 : Int32)), .unset] []) _
          refine Go.by (fun t k => XS.iloadN X0.here hx rfl (hb hby d2_51) rfl k) ?_
          show Go p e below s₁ (mkF m 52 #[.val (.int p1), .val (.int (p1 ||| (32 : Int32))), .val (.int (0 : Int32)), .val (.long ((p1.toInt64) - (48 : Int64))), .second, .val (.int (1 : Int32)), .unset] [(.int p1)]) _
          refine Go.by (fun t k => XS.bipush X0.here hx rfl (hb hby d2_52) k) ?_
          show Go p e below s₁ (mkF m 54 #[.val (.int p1), .val (.int (p1 ||| (32 : Int32))), .val (.int (0 : Int32)), .val (.long ((p1.toInt64) - (48 : Int64))), .second, .val (.int (1 : Int32)), .unset] [(.int (95 : Int32)), (.int p1)]) _
          by_cases hc11 : p1 = (95 : Int32)
          · refine Go.by (fun t k => XS.icmpNo X0.here hx rfl (hb hby d2_54) rfl (teq hc11).2 k) ?_
            show Go p e below s₁ (mkF m 57 #[.val (.int p1), .val (.int (p1 ||| (32 : Int32))), .val (.int (0 : Int32)), .val (.long ((p1.toInt64) - (48 : Int64))), .second, .val (.int (1 : Int32)), .unset] []) _
            refine Go.by (fun t k => XS.iconst X0.here hx rfl (hb hby d2_57) k) ?_
            show Go p e below s₁ (mkF m 58 #[.val (.int p1), .val (.int (p1 ||| (32 : Int32))), .val (.int (0 : Int32)), .val (.long ((p1.toInt64) - (48 : Int64))), .second, .val (.int (1 : Int32)), .unset] [(.int (1 : Int32))]) _
            refine Go.by (fun t k => XS.goto X0.here hx rfl (pc0 := 58) (pc' := 62) rfl (hb hby d2_58) (by decide) (by decide) k) ?_
            show Go p e below s₁ (mkF m 62 #[.val (.int p1), .val (.int (p1 ||| (32 : Int32))), .val (.int (0 : Int32)), .val (.long ((p1.toInt64) - (48 : Int64))), .second, .val (.int (1 : Int32)), .unset] [(.int (1 : Int32))]) _
            refine Go.by (fun t k => XS.istore X0.here hx rfl (hb hby d2_62) rfl (l' := #[.val (.int p1), .val (.int (p1 ||| (32 : Int32))), .val (.int (0 : Int32)), .val (.long ((p1.toInt64) - (48 : Int64))), .second, .val (.int (1 : Int32)), .val (.int (1 : Int32))]) rfl k) ?_
            show Go p e below s₁ (mkF m 64 #[.val (.int p1), .val (.int (p1 ||| (32 : Int32))), .val (.int (0 : Int32)), .val (.long ((p1.toInt64) - (48 : Int64))), .second, .val (.int (1 : Int32)), .val (.int (1 : Int32))] []) _
            refine Go.by (fun t k => XS.iloadN X0.here hx rfl (hb hby d2_64) rfl k) ?_
            show Go p e below s₁ (mkF m 65 #[.val (.int p1), .val (.int (p1 ||| (32 : Int32))), .val (.int (0 : Int32)), .val (.long ((p1.toInt64) - (48 : Int64))), .second, .val (.int (1 : Int32)), .val (.int (1 : Int32))] [(.int (0 : Int32))]) _
            refine Go.by (fun t k => XS.ifNo X0.here hx rfl (hb hby d2_65) rfl ((if0 _ _).trans (teq (show (0 : Int32) = (0 : Int32) from (by decide))).2) k) ?_
            show Go p e below s₁ (mkF m 68 #[.val (.int p1), .val (.int (p1 ||| (32 : Int32))), .val (.int (0 : Int32)), .val (.long ((p1.toInt64) - (48 : Int64))), .second, .val (.int (1 : Int32)), .val (.int (1 : Int32))] []) _
            refine Go.by (fun t k => XS.iload X0.here hx rfl (hb hby d2_68) rfl k) ?_
            show Go p e below s₁ (mkF m 70 #[.val (.int p1), .val (.int (p1 ||| (32 : Int32))), .val (.int (0 : Int32)), .val (.long ((p1.toInt64) - (48 : Int64))), .second, .val (.int (1 : Int32)), .val (.int (1 : Int32))] [(.int (1 : Int32))]) _
            refine Go.by (fun t k => XS.ifYes X0.here hx rfl (pc0 := 70) (pc' := 78) rfl (hb hby d2_70) rfl ((if0 _ _).trans (feq (show ¬ ((1 : Int32) = (0 : Int32)) from (by decide))).2) (by decide) (by decide) k) ?_
            show Go p e below s₁ (mkF m 78 #[.val (.int p1), .val (.int (p1 ||| (32 : Int32))), .val (.int (0 : Int32)), .val (.long ((p1.toInt64) - (48 : Int64))), .second, .val (.int (1 : Int32)), .val (.int (1 : Int32))] []) _
            refine Go.by (fun t k => XS.iconst X0.here hx rfl (hb hby d2_78) k) ?_
            show Go p e below s₁ (mkF m 79 #[.val (.int p1), .val (.int (p1 ||| (32 : Int32))), .val (.int (0 : Int32)), .val (.long ((p1.toInt64) - (48 : Int64))), .second, .val (.int (1 : Int32)), .val (.int (1 : Int32))] [(.int (1 : Int32))]) _
            refine Go.by (fun t k => XS.goto X0.here hx rfl (pc0 := 79) (pc' := 83) rfl (hb hby d2_79) (by decide) (by decide) k) ?_
            show Go p e below s₁ (mkF m 83 #[.val (.int p1), .val (.int (p1 ||| (32 : Int32))), .val (.int (0 : Int32)), .val (.long ((p1.toInt64) - (48 : Int64))), .second, .val (.int (1 : Int32)), .val (.int (1 : Int32))] [(.int (1 : Int32))]) _
            obtain ⟨fs, hr, hrun, hended, hW, hsame⟩ := X0.leave (v := some (.int (1 : Int32))) (fun h => by rw [Bd.returns] at h; cases h)
            refine Go.done (retN X0 hx (t := .boolean) Bd.returns (by simp) (hb hby d2_83) hr) hrun hended ⟨_, _, rfl, ?_, ⟨_, rfl⟩, hW, hsame.mono (by decide) (by decide)⟩
            show Q2 Z p1 h0 n0 _ s₁.heap _
            rw [e0]
            refine ⟨?_, N0, rfl⟩
            rw [f2, if_neg hc1, if_pos hc7, if_neg hc8, if_pos hc10, if_pos hc11]
          · refine Go.by (fun t k => XS.icmpYes X0.here hx rfl (pc0 := 54) (pc' := 61) rfl (hb hby d2_54) rfl (feq hc11).2 (by decide) (by decide) k) ?_
            show Go p e below s₁ (mkF m 61 #[.val (.int p1), .val (.int (p1 ||| (32 : Int32))), .val (.int (0 : Int32)), .val (.long ((p1.toInt64) - (48 : Int64))), .second, .val (.int (1 : Int32)), .unset] []) _
            refine Go.by (fun t k => XS.iconst X0.here hx rfl (hb hby d2_61) k) ?_
            show Go p e below s₁ (mkF m 62 #[.val (.int p1), .val (.int (p1 ||| (32 : Int32))), .val (.int (0 : Int32)), .val (.long ((p1.toInt64) - (48 : Int64))), .second, .val (.int (1 : Int32)), .unset] [(.int (0 : Int32))]) _
            refine Go.by (fun t k => XS.istore X0.here hx rfl (hb hby d2_62) rfl (l' := #[.val (.int p1), .val (.int (p1 ||| (32 : Int32))), .val (.int (0 : Int32)), .val (.long ((p1.toInt64) - (48 : Int64))), .second, .val (.int (1 : Int32)), .val (.int (0 : Int32))]) rfl k) ?_
            show Go p e below s₁ (mkF m 64 #[.val (.int p1), .val (.int (p1 ||| (32 : Int32))), .val (.int (0 : Int32)), .val (.long ((p1.toInt64) - (48 : Int64))), .second, .val (.int (1 : Int32)), .val (.int (0 : Int32))] []) _
            refine Go.by (fun t k => XS.iloadN X0.here hx rfl (hb hby d2_64) rfl k) ?_
            show Go p e below s₁ (mkF m 65 #[.val (.int p1), .val (.int (p1 ||| (32 : Int32))), .val (.int (0 : Int32)), .val (.long ((p1.toInt64) - (48 : Int64))), .second, .val (.int (1 : Int32)), .val (.int (0 : Int32))] [(.int (0 : Int32))]) _
            refine Go.by (fun t k => XS.ifNo X0.here hx rfl (hb hby d2_65) rfl ((if0 _ _).trans (teq (show (0 : Int32) = (0 : Int32) from (by decide))).2) k) ?_
            show Go p e below s₁ (mkF m 68 #[.val (.int p1), .val (.int (p1 ||| (32 : Int32))), .val (.int (0 : Int32)), .val (.long ((p1.toInt64) - (48 : Int64))), .second, .val (.int (1 : Int32)), .val (.int (0 : Int32))] []) _
            refine Go.by (fun t k => XS.iload X0.here hx rfl (hb hby d2_68) rfl k) ?_
            show Go p e below s₁ (mkF m 70 #[.val (.int p1), .val (.int (p1 ||| (32 : Int32))), .val (.int (0 : Int32)), .val (.long ((p1.toInt64) - (48 : Int64))), .second, .val (.int (1 : Int32)), .val (.int (0 : Int32))] [(.int (1 : Int32))]) _
            refine Go.by (fun t k => XS.ifYes X0.here hx rfl (pc0 := 70) (pc' := 78) rfl (hb hby d2_70) rfl ((if0 _ _).trans (feq (show ¬ ((1 : Int32) = (0 : Int32)) from (by decide))).2) (by decide) (by decide) k) ?_
            show Go p e below s₁ (mkF m 78 #[.val (.int p1), .val (.int (p1 ||| (32 : Int32))), .val (.int (0 : Int32)), .val (.long ((p1.toInt64) - (48 : Int64))), .second, .val (.int (1 : Int32)), .val (.int (0 : Int32))] []) _
            refine Go.by (fun t k => XS.iconst X0.here hx rfl (hb hby d2_78) k) ?_
            show Go p e below s₁ (mkF m 79 #[.val (.int p1), .val (.int (p1 ||| (32 : Int32))), .val (.int (0 : Int32)), .val (.long ((p1.toInt64) - (48 : Int64))), .second, .val (.int (1 : Int32)), .val (.int (0 : Int32))] [(.int (1 : Int32))]) _
            refine Go.by (fun t k => XS.goto X0.here hx rfl (pc0 := 79) (pc' := 83) rfl (hb hby d2_79) (by decide) (by decide) k) ?_
            show Go p e below s₁ (mkF m 83 #[.val (.int p1), .val (.int (p1 ||| (32 : Int32))), .val (.int (0 : Int32)), .val (.long ((p1.toInt64) - (48 : Int64))), .second, .val (.int (1 : Int32)), .val (.int (0 : Int32))] [(.int (1 : Int32))]) _
            obtain ⟨fs, hr, hrun, hended, hW, hsame⟩ := X0.leave (v := some (.int (1 : Int32))) (fun h => by rw [Bd.returns] at h; cases h)
            refine Go.done (retN X0 hx (t := .boolean) Bd.returns (by simp) (hb hby d2_83) hr) hrun hended ⟨_, _, rfl, ?_, ⟨_, rfl⟩, hW, hsame.mono (by decide) (by decide)⟩
            show Q2 Z p1 h0 n0 _ s₁.heap _
            rw [e0]
            refine ⟨?_, N0, rfl⟩
            rw [f2, if_neg hc1, if_pos hc7, if_neg hc8, if_pos hc10, if_neg hc11]
        · refine Go.by (fun t k => XS.ifYes X0.here hx rfl (pc0 := 41) (pc' := 48) rfl (hb hby d2_41) rfl (cflt hc10).2.1 (by decide) (by decide) k) ?_
          show Go p e below s₁ (mkF m 48 #[.val (.int p1), .val (.int (p1 ||| (32 : Int32))), .val (.int (0 : Int32)), .val (.long ((p1.toInt64) - (48 : Int64))), .second, .unset, .unset] []) _
          refine Go.by (fun t k => XS.iconst X0.here hx rfl (hb hby d2_48) k) ?_
          show Go p e below s₁ (mkF m 49 #[.val (.int p1), .val (.int (p1 ||| (32 : Int32))), .val (.int (0 : Int32)), .val (.long ((p1.toInt64) - (48 : Int64))), .second, .unset, .unset] [(.int (0 : Int32))]) _
          refine Go.by (fun t k => XS.istore X0.here hx rfl (hb hby d2_49) rfl (l' := #[.val (.int p1), .val (.int (p1 ||| (32 : Int32))), .val (.int (0 : Int32)), .val (.long ((p1.toInt64) - (48 : Int64))), .second, .val (.int (0 : Int32)), .unset]) rfl k) ?_
          show Go p e below s₁ (mkF m 51 #[.val (.int p1), .val (.int (p1 ||| (32 : Int32))), .val (.int (0 : Int32)), .val (.long ((p1.toInt64) - (48 : Int64))), .second, .val (.int (0 : Int32)), .unset] []) _
          refine Go.by (fun t k => XS.iloadN X0.here hx rfl (hb hby d2_51) rfl k) ?_
          show Go p e below s₁ (mkF m 52 #[.val (.int p1), .val (.int (p1 ||| (32 : Int32))), .val (.int (0 : Int32)), .val (.long ((p1.toInt64) - (48 : Int64))), .second, .val (.int (0 : Int32)), .unset] [(.int p1)]) _
          refine Go.by (fun t k => XS.bipush X0.here hx rfl (hb hby d2_52) k) ?_
          show Go p e below s₁ (mkF m 54 #[.val (.int p1), .val (.int (p1 ||| (32 : Int32))), .val (.int (0 : Int32)), .val (.long ((p1.toInt64) - (48 : Int64))), .second, .val (.int (0 : Int32)), .unset] [(.int (95 : Int32)), (.int p1)]) _
          by_cases hc12 : p1 = (95 : Int32)
          · refine Go.by (fun t k => XS.icmpNo X0.here hx rfl (hb hby d2_54) rfl (teq hc12).2 k) ?_
            show Go p e below s₁ (mkF m 57 #[.val (.int p1), .val (.int (p1 ||| (32 : Int32))), .val (.int (0 : Int32)), .val (.long ((p1.toInt64) - (48 : Int64))), .second, .val (.int (0 : Int32)), .unset] []) _
            refine Go.by (fun t k => XS.iconst X0.here hx rfl (hb hby d2_57) k) ?_
            show Go p e below s₁ (mkF m 58 #[.val (.int p1), .val (.int (p1 ||| (32 : Int32))), .val (.int (0 : Int32)), .val (.long ((p1.toInt64) - (48 : Int64))), .second, .val (.int (0 : Int32)), .unset] [(.int (1 : Int32))]) _
            refine Go.by (fun t k => XS.goto X0.here hx rfl (pc0 := 58) (pc' := 62) rfl (hb hby d2_58) (by decide) (by decide) k) ?_
            show Go p e below s₁ (mkF m 62 #[.val (.int p1), .val (.int (p1 ||| (32 : Int32))), .val (.int (0 : Int32)), .val (.long ((p1.toInt64) - (48 : Int64))), .second, .val (.int (0 : Int32)), .unset] [(.int (1 : Int32))]) _
            refine Go.by (fun t k => XS.istore X0.here hx rfl (hb hby d2_62) rfl (l' := #[.val (.int p1), .val (.int (p1 ||| (32 : Int32))), .val (.int (0 : Int32)), .val (.long ((p1.toInt64) - (48 : Int64))), .second, .val (.int (0 : Int32)), .val (.int (1 : Int32))]) rfl k) ?_
            show Go p e below s₁ (mkF m 64 #[.val (.int p1), .val (.int (p1 ||| (32 : Int32))), .val (.int (0 : Int32)), .val (.long ((p1.toInt64) - (48 : Int64))), .second, .val (.int (0 : Int32)), .val (.int (1 : Int32))] []) _
            refine Go.by (fun t k => XS.iloadN X0.here hx rfl (hb hby d2_64) rfl k) ?_
            show Go p e below s₁ (mkF m 65 #[.val (.int p1), .val (.int (p1 ||| (32 : Int32))), .val (.int (0 : Int32)), .val (.long ((p1.toInt64) - (48 : Int64))), .second, .val (.int (0 : Int32)), .val (.int (1 : Int32))] [(.int (0 : Int32))]) _
            refine Go.by (fun t k => XS.ifNo X0.here hx rfl (hb hby d2_65) rfl ((if0 _ _).trans (teq (show (0 : Int32) = (0 : Int32) from (by decide))).2) k) ?_
            show Go p e below s₁ (mkF m 68 #[.val (.int p1), .val (.int (p1 ||| (32 : Int32))), .val (.int (0 : Int32)), .val (.long ((p1.toInt64) - (48 : Int64))), .second, .val (.int (0 : Int32)), .val (.int (1 : Int32))] []) _
            refine Go.by (fun t k => XS.iload X0.here hx rfl (hb hby d2_68) rfl k) ?_
            show Go p e below s₁ (mkF m 70 #[.val (.int p1), .val (.int (p1 ||| (32 : Int32))), .val (.int (0 : Int32)), .val (.long ((p1.toInt64) - (48 : Int64))), .second, .val (.int (0 : Int32)), .val (.int (1 : Int32))] [(.int (0 : Int32))]) _
            refine Go.by (fun t k => XS.ifNo X0.here hx rfl (hb hby d2_70) rfl ((if0 _ _).trans (teq (show (0 : Int32) = (0 : Int32) from (by decide))).2) k) ?_
            show Go p e below s₁ (mkF m 73 #[.val (.int p1), .val (.int (p1 ||| (32 : Int32))), .val (.int (0 : Int32)), .val (.long ((p1.toInt64) - (48 : Int64))), .second, .val (.int (0 : Int32)), .val (.int (1 : Int32))] []) _
            refine Go.by (fun t k => XS.iload X0.here hx rfl (hb hby d2_73) rfl k) ?_
            show Go p e below s₁ (mkF m 75 #[.val (.int p1), .val (.int (p1 ||| (32 : Int32))), .val (.int (0 : Int32)), .val (.long ((p1.toInt64) - (48 : Int64))), .second, .val (.int (0 : Int32)), .val (.int (1 : Int32))] [(.int (1 : Int32))]) _
            refine Go.by (fun t k => XS.ifNo X0.here hx rfl (hb hby d2_75) rfl ((if0 _ _).trans (feq (show ¬ ((1 : Int32) = (0 : Int32)) from (by decide))).1) k) ?_
            show Go p e below s₁ (mkF m 78 #[.val (.int p1), .val (.int (p1 ||| (32 : Int32))), .val (.int (0 : Int32)), .val (.long ((p1.toInt64) - (48 : Int64))), .second, .val (.int (0 : Int32)), .val (.int (1 : Int32))] []) _
            refine Go.by (fun t k => XS.iconst X0.here hx rfl (hb hby d2_78) k) ?_
            show Go p e below s₁ (mkF m 79 #[.val (.int p1), .val (.int (p1 ||| (32 : Int32))), .val (.int (0 : Int32)), .val (.long ((p1.toInt64) - (48 : Int64))), .second, .val (.int (0 : Int32)), .val (.int (1 : Int32))] [(.int (1 : Int32))]) _
            refine Go.by (fun t k => XS.goto X0.here hx rfl (pc0 := 79) (pc' := 83) rfl (hb hby d2_79) (by decide) (by decide) k) ?_
            show Go p e below s₁ (mkF m 83 #[.val (.int p1), .val (.int (p1 ||| (32 : Int32))), .val (.int (0 : Int32)), .val (.long ((p1.toInt64) - (48 : Int64))), .second, .val (.int (0 : Int32)), .val (.int (1 : Int32))] [(.int (1 : Int32))]) _
            obtain ⟨fs, hr, hrun, hended, hW, hsame⟩ := X0.leave (v := some (.int (1 : Int32))) (fun h => by rw [Bd.returns] at h; cases h)
            refine Go.done (retN X0 hx (t := .boolean) Bd.returns (by simp) (hb hby d2_83) hr) hrun hended ⟨_, _, rfl, ?_, ⟨_, rfl⟩, hW, hsame.mono (by decide) (by decide)⟩
            show Q2 Z p1 h0 n0 _ s₁.heap _
            rw [e0]
            refine ⟨?_, N0, rfl⟩
            rw [f2, if_neg hc1, if_pos hc7, if_neg hc8, if_neg hc10, if_pos hc12]
          · refine Go.by (fun t k => XS.icmpYes X0.here hx rfl (pc0 := 54) (pc' := 61) rfl (hb hby d2_54) rfl (feq hc12).2 (by decide) (by decide) k) ?_
            show Go p e below s₁ (mkF m 61 #[.val (.int p1), .val (.int (p1 ||| (32 : Int32))), .val (.int (0 : Int32)), .val (.long ((p1.toInt64) - (48 : Int64))), .second, .val (.int (0 : Int32)), .unset] []) _
            refine Go.by (fun t k => XS.iconst X0.here hx rfl (hb hby d2_61) k) ?_
            show Go p e below s₁ (mkF m 62 #[.val (.int p1), .val (.int (p1 ||| (32 : Int32))), .val (.int (0 : Int32)), .val (.long ((p1.toInt64) - (48 : Int64))), .second, .val (.int (0 : Int32)), .unset] [(.int (0 : Int32))]) _
            refine Go.by (fun t k => XS.istore X0.here hx rfl (hb hby d2_62) rfl (l' := #[.val (.int p1), .val (.int (p1 ||| (32 : Int32))), .val (.int (0 : Int32)), .val (.long ((p1.toInt64) - (48 : Int64))), .second, .val (.int (0 : Int32)), .val (.int (0 : Int32))]) rfl k) ?_
            show Go p e below s₁ (mkF m 64 #[.val (.int p1), .val (.int (p1 ||| (32 : Int32))), .val (.int (0 : Int32)), .val (.long ((p1.toInt64) - (48 : Int64))), .second, .val (.int (0 : Int32)), .val (.int (0 : Int32))] []) _
            refine Go.by (fun t k => XS.iloadN X0.here hx rfl (hb hby d2_64) rfl k) ?_
            show Go p e below s₁ (mkF m 65 #[.val (.int p1), .val (.int (p1 ||| (32 : Int32))), .val (.int (0 : Int32)), .val (.long ((p1.toInt64) - (48 : Int64))), .second, .val (.int (0 : Int32)), .val (.int (0 : Int32))] [(.int (0 : Int32))]) _
            refine Go.by (fun t k => XS.ifNo X0.here hx rfl (hb hby d2_65) rfl ((if0 _ _).trans (teq (show (0 : Int32) = (0 : Int32) from (by decide))).2) k) ?_
            show Go p e below s₁ (mkF m 68 #[.val (.int p1), .val (.int (p1 ||| (32 : Int32))), .val (.int (0 : Int32)), .val (.long ((p1.toInt64) - (48 : Int64))), .second, .val (.int (0 : Int32)), .val (.int (0 : Int32))] []) _
            refine Go.by (fun t k => XS.iload X0.here hx rfl (hb hby d2_68) rfl k) ?_
            show Go p e below s₁ (mkF m 70 #[.val (.int p1), .val (.int (p1 ||| (32 : Int32))), .val (.int (0 : Int32)), .val (.long ((p1.toInt64) - (48 : Int64))), .second, .val (.int (0 : Int32)), .val (.int (0 : Int32))] [(.int (0 : Int32))]) _
            refine Go.by (fun t k => XS.ifNo X0.here hx rfl (hb hby d2_70) rfl ((if0 _ _).trans (teq (show (0 : Int32) = (0 : Int32) from (by decide))).2) k) ?_
            show Go p e below s₁ (mkF m 73 #[.val (.int p1), .val (.int (p1 ||| (32 : Int32))), .val (.int (0 : Int32)), .val (.long ((p1.toInt64) - (48 : Int64))), .second, .val (.int (0 : Int32)), .val (.int (0 : Int32))] []) _
            refine Go.by (fun t k => XS.iload X0.here hx rfl (hb hby d2_73) rfl k) ?_
            show Go p e below s₁ (mkF m 75 #[.val (.int p1), .val (.int (p1 ||| (32 : Int32))), .val (.int (0 : Int32)), .val (.long ((p1.toInt64) - (48 : Int64))), .second, .val (.int (0 : Int32)), .val (.int (0 : Int32))] [(.int (0 : Int32))]) _
            refine Go.by (fun t k => XS.ifYes X0.here hx rfl (pc0 := 75) (pc' := 82) rfl (hb hby d2_75) rfl ((if0 _ _).trans (teq (show (0 : Int32) = (0 : Int32) from (by decide))).1) (by decide) (by decide) k) ?_
            show Go p e below s₁ (mkF m 82 #[.val (.int p1), .val (.int (p1 ||| (32 : Int32))), .val (.int (0 : Int32)), .val (.long ((p1.toInt64) - (48 : Int64))), .second, .val (.int (0 : Int32)), .val (.int (0 : Int32))] []) _
            refine Go.by (fun t k => XS.iconst X0.here hx rfl (hb hby d2_82) k) ?_
            show Go p e below s₁ (mkF m 83 #[.val (.int p1), .val (.int (p1 ||| (32 : Int32))), .val (.int (0 : Int32)), .val (.long ((p1.toInt64) - (48 : Int64))), .second, .val (.int (0 : Int32)), .val (.int (0 : Int32))] [(.int (0 : Int32))]) _
            obtain ⟨fs, hr, hrun, hended, hW, hsame⟩ := X0.leave (v := some (.int (0 : Int32))) (fun h => by rw [Bd.returns] at h; cases h)
            refine Go.done (retN X0 hx (t := .boolean) Bd.returns (by simp) (hb hby d2_83) hr) hrun hended ⟨_, _, rfl, ?_, ⟨_, rfl⟩, hW, hsame.mono (by decide) (by decide)⟩
            show Q2 Z p1 h0 n0 _ s₁.heap _
            rw [e0]
            refine ⟨?_, N0, rfl⟩
            rw [f2, if_neg hc1, if_pos hc7, if_neg hc8, if_neg hc10, if_neg hc12]
    · refine Go.by (fun t k => XS.icmpNo X0.here hx rfl (hb hby d2_14) rfl (flt hc7).2.2.1 k) ?_
      show Go p e below s₁ (mkF m 17 #[.val (.int p1), .val (.int (p1 ||| (32 : Int32))), .unset, .unset, .unset, .unset, .unset] []) _
      refine Go.by (fun t k => XS.iconst X0.here hx rfl (hb hby d2_17) k) ?_
      show Go p e below s₁ (mkF m 18 #[.val (.int p1), .val (.int (p1 ||| (32 : Int32))), .unset, .unset, .unset, .unset, .unset] [(.int (1 : Int32))]) _
      refine Go.by (fun t k => XS.goto X0.here hx rfl (pc0 := 18) (pc' := 22) rfl (hb hby d2_18) (by decide) (by decide) k) ?_
      show Go p e below s₁ (mkF m 22 #[.val (.int p1), .val (.int (p1 ||| (32 : Int32))), .unset, .unset, .unset, .unset, .unset] [(.int (1 : Int32))]) _
      refine Go.by (fun t k => XS.istoreN X0.here hx rfl (hb hby d2_22) rfl (l' := #[.val (.int p1), .val (.int (p1 ||| (32 : Int32))), .val (.int (1 : Int32)), .unset, .unset, .unset, .unset]) rfl k) ?_
      show Go p e below s₁ (mkF m 23 #[.val (.int p1), .val (.int (p1 ||| (32 : Int32))), .val (.int (1 : Int32)), .unset, .unset, .unset, .unset] []) _
      refine Go.by (fun t k => XS.iloadN X0.here hx rfl (hb hby d2_23) rfl k) ?_
      show Go p e below s₁ (mkF m 24 #[.val (.int p1), .val (.int (p1 ||| (32 : Int32))), .val (.int (1 : Int32)), .unset, .unset, .unset, .unset] [(.int p1)]) _
      refine Go.by (fun t k => XS.i2l X0.here hx rfl (hb hby d2_24) rfl k) ?_
      show Go p e below s₁ (mkF m 25 #[.val (.int p1), .val (.int (p1 ||| (32 : Int32))), .val (.int (1 : Int32)), .unset, .unset, .unset, .unset] [(.long (p1.toInt64))]) _
      refine Go.by (fun t k => X0.ldc2Long hx hown (mvT hZ (hw _ (List.mem_of_getElem? (i := 9) rfl))) (g := (mkF m 25 #[.val (.int p1), .val (.int (p1 ||| (32 : Int32))), .val (.int (1 : Int32)), .unset, .unset, .unset, .unset] [(.long (p1.toInt64))])) rfl (hb hby d2_25) t k) ?_
      show Go p e below s₁ (mkF m 28 #[.val (.int p1), .val (.int (p1 ||| (32 : Int32))), .val (.int (1 : Int32)), .unset, .unset, .unset, .unset] [(.long (48 : Int64)), (.long (p1.toInt64))]) _
      refine Go.by (fun t k => XS.lsub X0.here hx rfl (hb hby d2_28) rfl k) ?_
      show Go p e below s₁ (mkF m 29 #[.val (.int p1), .val (.int (p1 ||| (32 : Int32))), .val (.int (1 : Int32)), .unset, .unset, .unset, .unset] [(.long ((p1.toInt64) - (48 : Int64)))]) _
      refine Go.by (fun t k => XS.lstoreN X0.here hx rfl (hb hby d2_29) rfl (l' := #[.val (.int p1), .val (.int (p1 ||| (32 : Int32))), .val (.int (1 : Int32)), .val (.long ((p1.toInt64) - (48 : Int64))), .second, .unset, .unset]) rfl k) ?_
      show Go p e below s₁ (mkF m 30 #[.val (.int p1), .val (.int (p1 ||| (32 : Int32))), .val (.int (1 : Int32)), .val (.long ((p1.toInt64) - (48 : Int64))), .second, .unset, .unset] []) _
      refine Go.by (fun t k => XS.lloadN X0.here hx rfl (hb hby d2_30) rfl k) ?_
      show Go p e below s₁ (mkF m 31 #[.val (.int p1), .val (.int (p1 ||| (32 : Int32))), .val (.int (1 : Int32)), .val (.long ((p1.toInt64) - (48 : Int64))), .second, .unset, .unset] [(.long ((p1.toInt64) - (48 : Int64)))]) _
      refine Go.by (fun t k => XS.lconst X0.here hx rfl (hb hby d2_31) k) ?_
      show Go p e below s₁ (mkF m 32 #[.val (.int p1), .val (.int (p1 ||| (32 : Int32))), .val (.int (1 : Int32)), .val (.long ((p1.toInt64) - (48 : Int64))), .second, .unset, .unset] [(.long (0 : Int64)), (.long ((p1.toInt64) - (48 : Int64)))]) _
      refine Go.by (fun t k => XS.lcmp X0.here hx rfl (hb hby d2_32) rfl k) ?_
      show Go p e below s₁ (mkF m 33 #[.val (.int p1), .val (.int (p1 ||| (32 : Int32))), .val (.int (1 : Int32)), .val (.long ((p1.toInt64) - (48 : Int64))), .second, .unset, .unset] [(.int (lcmpW ((p1.toInt64) - (48 : Int64)) (0 : Int64)))]) _
      by_cases hc13 : ((p1.toInt64) - (48 : Int64)) < (0 : Int64)
      · refine Go.by (fun t k => XS.ifYes X0.here hx rfl (pc0 := 33) (pc' := 48) rfl (hb hby d2_33) rfl (ctlt hc13).1 (by decide) (by decide) k) ?_
        show Go p e below s₁ (mkF m 48 #[.val (.int p1), .val (.int (p1 ||| (32 : Int32))), .val (.int (1 : Int32)), .val (.long ((p1.toInt64) - (48 : Int64))), .second, .unset, .unset] []) _
        refine Go.by (fun t k => XS.iconst X0.here hx rfl (hb hby d2_48) k) ?_
        show Go p e below s₁ (mkF m 49 #[.val (.int p1), .val (.int (p1 ||| (32 : Int32))), .val (.int (1 : Int32)), .val (.long ((p1.toInt64) - (48 : Int64))), .second, .unset, .unset] [(.int (0 : Int32))]) _
        refine Go.by (fun t k => XS.istore X0.here hx rfl (hb hby d2_49) rfl (l' := #[.val (.int p1), .val (.int (p1 ||| (32 : Int32))), .val (.int (1 : Int32)), .val (.long ((p1.toInt64) - (48 : Int64))), .second, .val (.int (0 : Int32)), .unset]) rfl k) ?_
        show Go p e below s₁ (mkF m 51 #[.val (.int p1), .val (.int (p1 ||| (32 : Int32))), .val (.int (1 : Int32)), .val (.long ((p1.toInt64) - (48 : Int64))), .second, .val (.int (0 : Int32)), .unset] []) _
        refine Go.by (fun t k => XS.iloadN X0.here hx rfl (hb hby d2_51) rfl k) ?_
        show Go p e below s₁ (mkF m 52 #[.val (.int p1), .val (.int (p1 ||| (32 : Int32))), .val (.int (1 : Int32)), .val (.long ((p1.toInt64) - (48 : Int64))), .second, .val (.int (0 : Int32)), .unset] [(.int p1)]) _
        refine Go.by (fun t k => XS.bipush X0.here hx rfl (hb hby d2_52) k) ?_
        show Go p e below s₁ (mkF m 54 #[.val (.int p1), .val (.int (p1 ||| (32 : Int32))), .val (.int (1 : Int32)), .val (.long ((p1.toInt64) - (48 : Int64))), .second, .val (.int (0 : Int32)), .unset] [(.int (95 : Int32)), (.int p1)]) _
        by_cases hc14 : p1 = (95 : Int32)
        · refine Go.by (fun t k => XS.icmpNo X0.here hx rfl (hb hby d2_54) rfl (teq hc14).2 k) ?_
          show Go p e below s₁ (mkF m 57 #[.val (.int p1), .val (.int (p1 ||| (32 : Int32))), .val (.int (1 : Int32)), .val (.long ((p1.toInt64) - (48 : Int64))), .second, .val (.int (0 : Int32)), .unset] []) _
          refine Go.by (fun t k => XS.iconst X0.here hx rfl (hb hby d2_57) k) ?_
          show Go p e below s₁ (mkF m 58 #[.val (.int p1), .val (.int (p1 ||| (32 : Int32))), .val (.int (1 : Int32)), .val (.long ((p1.toInt64) - (48 : Int64))), .second, .val (.int (0 : Int32)), .unset] [(.int (1 : Int32))]) _
          refine Go.by (fun t k => XS.goto X0.here hx rfl (pc0 := 58) (pc' := 62) rfl (hb hby d2_58) (by decide) (by decide) k) ?_
          show Go p e below s₁ (mkF m 62 #[.val (.int p1), .val (.int (p1 ||| (32 : Int32))), .val (.int (1 : Int32)), .val (.long ((p1.toInt64) - (48 : Int64))), .second, .val (.int (0 : Int32)), .unset] [(.int (1 : Int32))]) _
          refine Go.by (fun t k => XS.istore X0.here hx rfl (hb hby d2_62) rfl (l' := #[.val (.int p1), .val (.int (p1 ||| (32 : Int32))), .val (.int (1 : Int32)), .val (.long ((p1.toInt64) - (48 : Int64))), .second, .val (.int (0 : Int32)), .val (.int (1 : Int32))]) rfl k) ?_
          show Go p e below s₁ (mkF m 64 #[.val (.int p1), .val (.int (p1 ||| (32 : Int32))), .val (.int (1 : Int32)), .val (.long ((p1.toInt64) - (48 : Int64))), .second, .val (.int (0 : Int32)), .val (.int (1 : Int32))] []) _
          refine Go.by (fun t k => XS.iloadN X0.here hx rfl (hb hby d2_64) rfl k) ?_
          show Go p e below s₁ (mkF m 65 #[.val (.int p1), .val (.int (p1 ||| (32 : Int32))), .val (.int (1 : Int32)), .val (.long ((p1.toInt64) - (48 : Int64))), .second, .val (.int (0 : Int32)), .val (.int (1 : Int32))] [(.int (1 : Int32))]) _
          refine Go.by (fun t k => XS.ifYes X0.here hx rfl (pc0 := 65) (pc' := 78) rfl (hb hby d2_65) rfl ((if0 _ _).trans (feq (show ¬ ((1 : Int32) = (0 : Int32)) from (by decide))).2) (by decide) (by decide) k) ?_
          show Go p e below s₁ (mkF m 78 #[.val (.int p1), .val (.int (p1 ||| (32 : Int32))), .val (.int (1 : Int32)), .val (.long ((p1.toInt64) - (48 : Int64))), .second, .val (.int (0 : Int32)), .val (.int (1 : Int32))] []) _
          refine Go.by (fun t k => XS.iconst X0.here hx rfl (hb hby d2_78) k) ?_
          show Go p e below s₁ (mkF m 79 #[.val (.int p1), .val (.int (p1 ||| (32 : Int32))), .val (.int (1 : Int32)), .val (.long ((p1.toInt64) - (48 : Int64))), .second, .val (.int (0 : Int32)), .val (.int (1 : Int32))] [(.int (1 : Int32))]) _
          refine Go.by (fun t k => XS.goto X0.here hx rfl (pc0 := 79) (pc' := 83) rfl (hb hby d2_79) (by decide) (by decide) k) ?_
          show Go p e below s₁ (mkF m 83 #[.val (.int p1), .val (.int (p1 ||| (32 : Int32))), .val (.int (1 : Int32)), .val (.long ((p1.toInt64) - (48 : Int64))), .second, .val (.int (0 : Int32)), .val (.int (1 : Int32))] [(.int (1 : Int32))]) _
          obtain ⟨fs, hr, hrun, hended, hW, hsame⟩ := X0.leave (v := some (.int (1 : Int32))) (fun h => by rw [Bd.returns] at h; cases h)
          refine Go.done (retN X0 hx (t := .boolean) Bd.returns (by simp) (hb hby d2_83) hr) hrun hended ⟨_, _, rfl, ?_, ⟨_, rfl⟩, hW, hsame.mono (by decide) (by decide)⟩
          show Q2 Z p1 h0 n0 _ s₁.heap _
          rw [e0]
          refine ⟨?_, N0, rfl⟩
          rw [f2, if_neg hc1, if_neg hc7, if_pos hc13, if_pos hc14]
        · refine Go.by (fun t k => XS.icmpYes X0.here hx rfl (pc0 := 54) (pc' := 61) rfl (hb hby d2_54) rfl (feq hc14).2 (by decide) (by decide) k) ?_
          show Go p e below s₁ (mkF m 61 #[.val (.int p1), .val (.int (p1 ||| (32 : Int32))), .val (.int (1 : Int32)), .val (.long ((p1.toInt64) - (48 : Int64))), .second, .val (.int (0 : Int32)), .unset] []) _
          refine Go.by (fun t k => XS.iconst X0.here hx rfl (hb hby d2_61) k) ?_
          show Go p e below s₁ (mkF m 62 #[.val (.int p1), .val (.int (p1 ||| (32 : Int32))), .val (.int (1 : Int32)), .val (.long ((p1.toInt64) - (48 : Int64))), .second, .val (.int (0 : Int32)), .unset] [(.int (0 : Int32))]) _
          refine Go.by (fun t k => XS.istore X0.here hx rfl (hb hby d2_62) rfl (l' := #[.val (.int p1), .val (.int (p1 ||| (32 : Int32))), .val (.int (1 : Int32)), .val (.long ((p1.toInt64) - (48 : Int64))), .second, .val (.int (0 : Int32)), .val (.int (0 : Int32))]) rfl k) ?_
          show Go p e below s₁ (mkF m 64 #[.val (.int p1), .val (.int (p1 ||| (32 : Int32))), .val (.int (1 : Int32)), .val (.long ((p1.toInt64) - (48 : Int64))), .second, .val (.int (0 : Int32)), .val (.int (0 : Int32))] []) _
          refine Go.by (fun t k => XS.iloadN X0.here hx rfl (hb hby d2_64) rfl k) ?_
          show Go p e below s₁ (mkF m 65 #[.val (.int p1), .val (.int (p1 ||| (32 : Int32))), .val (.int (1 : Int32)), .val (.long ((p1.toInt64) - (48 : Int64))), .second, .val (.int (0 : Int32)), .val (.int (0 : Int32))] [(.int (1 : Int32))]) _
          refine Go.by (fun t k => XS.ifYes X0.here hx rfl (pc0 := 65) (pc' := 78) rfl (hb hby d2_65) rfl ((if0 _ _).trans (feq (show ¬ ((1 : Int32) = (0 : Int32)) from (by decide))).2) (by decide) (by decide) k) ?_
          show Go p e below s₁ (mkF m 78 #[.val (.int p1), .val (.int (p1 ||| (32 : Int32))), .val (.int (1 : Int32)), .val (.long ((p1.toInt64) - (48 : Int64))), .second, .val (.int (0 : Int32)), .val (.int (0 : Int32))] []) _
          refine Go.by (fun t k => XS.iconst X0.here hx rfl (hb hby d2_78) k) ?_
          show Go p e below s₁ (mkF m 79 #[.val (.int p1), .val (.int (p1 ||| (32 : Int32))), .val (.int (1 : Int32)), .val (.long ((p1.toInt64) - (48 : Int64))), .second, .val (.int (0 : Int32)), .val (.int (0 : Int32))] [(.int (1 : Int32))]) _
          refine Go.by (fun t k => XS.goto X0.here hx rfl (pc0 := 79) (pc' := 83) rfl (hb hby d2_79) (by decide) (by decide) k) ?_
          show Go p e below s₁ (mkF m 83 #[.val (.int p1), .val (.int (p1 ||| (32 : Int32))), .val (.int (1 : Int32)), .val (.long ((p1.toInt64) - (48 : Int64))), .second, .val (.int (0 : Int32)), .val (.int (0 : Int32))] [(.int (1 : Int32))]) _
          obtain ⟨fs, hr, hrun, hended, hW, hsame⟩ := X0.leave (v := some (.int (1 : Int32))) (fun h => by rw [Bd.returns] at h; cases h)
          refine Go.done (retN X0 hx (t := .boolean) Bd.returns (by simp) (hb hby d2_83) hr) hrun hended ⟨_, _, rfl, ?_, ⟨_, rfl⟩, hW, hsame.mono (by decide) (by decide)⟩
          show Q2 Z p1 h0 n0 _ s₁.heap _
          rw [e0]
          refine ⟨?_, N0, rfl⟩
          rw [f2, if_neg hc1, if_neg hc7, if_pos hc13, if_neg hc14]
      · refine Go.by (fun t k => XS.ifNo X0.here hx rfl (hb hby d2_33) rfl (cflt hc13).1 k) ?_
        show Go p e below s₁ (mkF m 36 #[.val (.int p1), .val (.int (p1 ||| (32 : Int32))), .val (.int (1 : Int32)), .val (.long ((p1.toInt64) - (48 : Int64))), .second, .unset, .unset] []) _
        refine Go.by (fun t k => XS.lloadN X0.here hx rfl (hb hby d2_36) rfl k) ?_
        show Go p e below s₁ (mkF m 37 #[.val (.int p1), .val (.int (p1 ||| (32 : Int32))), .val (.int (1 : Int32)), .val (.long ((p1.toInt64) - (48 : Int64))), .second, .unset, .unset] [(.long ((p1.toInt64) - (48 : Int64)))]) _
        refine Go.by (fun t k => X0.ldc2Long hx hown (mvT hZ (hw _ (List.mem_of_getElem? (i := 10) rfl))) (g := (mkF m 37 #[.val (.int p1), .val (.int (p1 ||| (32 : Int32))), .val (.int (1 : Int32)), .val (.long ((p1.toInt64) - (48 : Int64))), .second, .unset, .unset] [(.long ((p1.toInt64) - (48 : Int64)))])) rfl (hb hby d2_37) t k) ?_
        show Go p e below s₁ (mkF m 40 #[.val (.int p1), .val (.int (p1 ||| (32 : Int32))), .val (.int (1 : Int32)), .val (.long ((p1.toInt64) - (48 : Int64))), .second, .unset, .unset] [(.long (10 : Int64)), (.long ((p1.toInt64) - (48 : Int64)))]) _
        refine Go.by (fun t k => XS.lcmp X0.here hx rfl (hb hby d2_40) rfl k) ?_
        show Go p e below s₁ (mkF m 41 #[.val (.int p1), .val (.int (p1 ||| (32 : Int32))), .val (.int (1 : Int32)), .val (.long ((p1.toInt64) - (48 : Int64))), .second, .unset, .unset] [(.int (lcmpW ((p1.toInt64) - (48 : Int64)) (10 : Int64)))]) _
        by_cases hc15 : ((p1.toInt64) - (48 : Int64)) < (10 : Int64)
        · refine Go.by (fun t k => XS.ifNo X0.here hx rfl (hb hby d2_41) rfl (ctlt hc15).2.1 k) ?_
          show Go p e below s₁ (mkF m 44 #[.val (.int p1), .val (.int (p1 ||| (32 : Int32))), .val (.int (1 : Int32)), .val (.long ((p1.toInt64) - (48 : Int64))), .second, .unset, .unset] []) _
          refine Go.by (fun t k => XS.iconst X0.here hx rfl (hb hby d2_44) k) ?_
          show Go p e below s₁ (mkF m 45 #[.val (.int p1), .val (.int (p1 ||| (32 : Int32))), .val (.int (1 : Int32)), .val (.long ((p1.toInt64) - (48 : Int64))), .second, .unset, .unset] [(.int (1 : Int32))]) _
          refine Go.by (fun t k => XS.goto X0.here hx rfl (pc0 := 45) (pc' := 49) rfl (hb hby d2_45) (by decide) (by decide) k) ?_
          show Go p e below s₁ (mkF m 49 #[.val (.int p1), .val (.int (p1 ||| (32 : Int32))), .val (.int (1 : Int32)), .val (.long ((p1.toInt64) - (48 : Int64))), .second, .unset, .unset] [(.int (1 : Int32))]) _
          refine Go.by (fun t k => XS.istore X0.here hx rfl (hb hby d2_49) rfl (l' := #[.val (.int p1), .val (.int (p1 ||| (32 : Int32))), .val (.int (1 : Int32)), .val (.long ((p1.toInt64) - (48 : Int64))), .second, .val (.int (1 : Int32)), .unset]) rfl k) ?_
          show Go p e below s₁ (mkF m 51 #[.val (.int p1), .val (.int (p1 ||| (32 : Int32))), .val (.int (1 : Int32)), .val (.long ((p1.toInt64) - (48 : Int64))), .second, .val (.int (1 : Int32)), .unset] []) _
          refine Go.by (fun t k => XS.iloadN X0.here hx rfl (hb hby d2_51) rfl k) ?_
          show Go p e below s₁ (mkF m 52 #[.val (.int p1), .val (.int (p1 ||| (32 : Int32))), .val (.int (1 : Int32)), .val (.long ((p1.toInt64) - (48 : Int64))), .second, .val (.int (1 : Int32)), .unset] [(.int p1)]) _
          refine Go.by (fun t k => XS.bipush X0.here hx rfl (hb hby d2_52) k) ?_
          show Go p e below s₁ (mkF m 54 #[.val (.int p1), .val (.int (p1 ||| (32 : Int32))), .val (.int (1 : Int32)), .val (.long ((p1.toInt64) - (48 : Int64))), .second, .val (.int (1 : Int32)), .unset] [(.int (95 : Int32)), (.int p1)]) _
          by_cases hc16 : p1 = (95 : Int32)
          · refine Go.by (fun t k => XS.icmpNo X0.here hx rfl (hb hby d2_54) rfl (teq hc16).2 k) ?_
            show Go p e below s₁ (mkF m 57 #[.val (.int p1), .val (.int (p1 ||| (32 : Int32))), .val (.int (1 : Int32)), .val (.long ((p1.toInt64) - (48 : Int64))), .second, .val (.int (1 : Int32)), .unset] []) _
            refine Go.by (fun t k => XS.iconst X0.here hx rfl (hb hby d2_57) k) ?_
            show Go p e below s₁ (mkF m 58 #[.val (.int p1), .val (.int (p1 ||| (32 : Int32))), .val (.int (1 : Int32)), .val (.long ((p1.toInt64) - (48 : Int64))), .second, .val (.int (1 : Int32)), .unset] [(.int (1 : Int32))]) _
            refine Go.by (fun t k => XS.goto X0.here hx rfl (pc0 := 58) (pc' := 62) rfl (hb hby d2_58) (by decide) (by decide) k) ?_
            show Go p e below s₁ (mkF m 62 #[.val (.int p1), .val (.int (p1 ||| (32 : Int32))), .val (.int (1 : Int32)), .val (.long ((p1.toInt64) - (48 : Int64))), .second, .val (.int (1 : Int32)), .unset] [(.int (1 : Int32))]) _
            refine Go.by (fun t k => XS.istore X0.here hx rfl (hb hby d2_62) rfl (l' := #[.val (.int p1), .val (.int (p1 ||| (32 : Int32))), .val (.int (1 : Int32)), .val (.long ((p1.toInt64) - (48 : Int64))), .second, .val (.int (1 : Int32)), .val (.int (1 : Int32))]) rfl k) ?_
            show Go p e below s₁ (mkF m 64 #[.val (.int p1), .val (.int (p1 ||| (32 : Int32))), .val (.int (1 : Int32)), .val (.long ((p1.toInt64) - (48 : Int64))), .second, .val (.int (1 : Int32)), .val (.int (1 : Int32))] []) _
            refine Go.by (fun t k => XS.iloadN X0.here hx rfl (hb hby d2_64) rfl k) ?_
            show Go p e below s₁ (mkF m 65 #[.val (.int p1), .val (.int (p1 ||| (32 : Int32))), .val (.int (1 : Int32)), .val (.long ((p1.toInt64) - (48 : Int64))), .second, .val (.int (1 : Int32)), .val (.int (1 : Int32))] [(.int (1 : Int32))]) _
            refine Go.by (fun t k => XS.ifYes X0.here hx rfl (pc0 := 65) (pc' := 78) rfl (hb hby d2_65) rfl ((if0 _ _).trans (feq (show ¬ ((1 : Int32) = (0 : Int32)) from (by decide))).2) (by decide) (by decide) k) ?_
            show Go p e below s₁ (mkF m 78 #[.val (.int p1), .val (.int (p1 ||| (32 : Int32))), .val (.int (1 : Int32)), .val (.long ((p1.toInt64) - (48 : Int64))), .second, .val (.int (1 : Int32)), .val (.int (1 : Int32))] []) _
            refine Go.by (fun t k => XS.iconst X0.here hx rfl (hb hby d2_78) k) ?_
            show Go p e below s₁ (mkF m 79 #[.val (.int p1), .val (.int (p1 ||| (32 : Int32))), .val (.int (1 : Int32)), .val (.long ((p1.toInt64) - (48 : Int64))), .second, .val (.int (1 : Int32)), .val (.int (1 : Int32))] [(.int (1 : Int32))]) _
            refine Go.by (fun t k => XS.goto X0.here hx rfl (pc0 := 79) (pc' := 83) rfl (hb hby d2_79) (by decide) (by decide) k) ?_
            show Go p e below s₁ (mkF m 83 #[.val (.int p1), .val (.int (p1 ||| (32 : Int32))), .val (.int (1 : Int32)), .val (.long ((p1.toInt64) - (48 : Int64))), .second, .val (.int (1 : Int32)), .val (.int (1 : Int32))] [(.int (1 : Int32))]) _
            obtain ⟨fs, hr, hrun, hended, hW, hsame⟩ := X0.leave (v := some (.int (1 : Int32))) (fun h => by rw [Bd.returns] at h; cases h)
            refine Go.done (retN X0 hx (t := .boolean) Bd.returns (by simp) (hb hby d2_83) hr) hrun hended ⟨_, _, rfl, ?_, ⟨_, rfl⟩, hW, hsame.mono (by decide) (by decide)⟩
            show Q2 Z p1 h0 n0 _ s₁.heap _
            rw [e0]
            refine ⟨?_, N0, rfl⟩
            rw [f2, if_neg hc1, if_neg hc7, if_neg hc13, if_pos hc15, if_pos hc16]
          · refine Go.by (fun t k => XS.icmpYes X0.here hx rfl (pc0 := 54) (pc' := 61) rfl (hb hby d2_54) rfl (feq hc16).2 (by decide) (by decide) k) ?_
            show Go p e below s₁ (mkF m 61 #[.val (.int p1), .val (.int (p1 ||| (32 : Int32))), .val (.int (1 : Int32)), .val (.long ((p1.toInt64) - (48 : Int64))), .second, .val (.int (1 : Int32)), .unset] []) _
            refine Go.by (fun t k => XS.iconst X0.here hx rfl (hb hby d2_61) k) ?_
            show Go p e below s₁ (mkF m 62 #[.val (.int p1), .val (.int (p1 ||| (32 : Int32))), .val (.int (1 : Int32)), .val (.long ((p1.toInt64) - (48 : Int64))), .second, .val (.int (1 : Int32)), .unset] [(.int (0 : Int32))]) _
            refine Go.by (fun t k => XS.istore X0.here hx rfl (hb hby d2_62) rfl (l' := #[.val (.int p1), .val (.int (p1 ||| (32 : Int32))), .val (.int (1 : Int32)), .val (.long ((p1.toInt64) - (48 : Int64))), .second, .val (.int (1 : Int32)), .val (.int (0 : Int32))]) rfl k) ?_
            show Go p e below s₁ (mkF m 64 #[.val (.int p1), .val (.int (p1 ||| (32 : Int32))), .val (.int (1 : Int32)), .val (.long ((p1.toInt64) - (48 : Int64))), .second, .val (.int (1 : Int32)), .val (.int (0 : Int32))] []) _
            refine Go.by (fun t k => XS.iloadN X0.here hx rfl (hb hby d2_64) rfl k) ?_
            show Go p e below s₁ (mkF m 65 #[.val (.int p1), .val (.int (p1 ||| (32 : Int32))), .val (.int (1 : Int32)), .val (.long ((p1.toInt64) - (48 : Int64))), .second, .val (.int (1 : Int32)), .val (.int (0 : Int32))] [(.int (1 : Int32))]) _
            refine Go.by (fun t k => XS.ifYes X0.here hx rfl (pc0 := 65) (pc' := 78) rfl (hb hby d2_65) rfl ((if0 _ _).trans (feq (show ¬ ((1 : Int32) = (0 : Int32)) from (by decide))).2) (by decide) (by decide) k) ?_
            show Go p e below s₁ (mkF m 78 #[.val (.int p1), .val (.int (p1 ||| (32 : Int32))), .val (.int (1 : Int32)), .val (.long ((p1.toInt64) - (48 : Int64))), .second, .val (.int (1 : Int32)), .val (.int (0 : Int32))] []) _
            refine Go.by (fun t k => XS.iconst X0.here hx rfl (hb hby d2_78) k) ?_
            show Go p e below s₁ (mkF m 79 #[.val (.int p1), .val (.int (p1 ||| (32 : Int32))), .val (.int (1 : Int32)), .val (.long ((p1.toInt64) - (48 : Int64))), .second, .val (.int (1 : Int32)), .val (.int (0 : Int32))] [(.int (1 : Int32))]) _
            refine Go.by (fun t k => XS.goto X0.here hx rfl (pc0 := 79) (pc' := 83) rfl (hb hby d2_79) (by decide) (by decide) k) ?_
            show Go p e below s₁ (mkF m 83 #[.val (.int p1), .val (.int (p1 ||| (32 : Int32))), .val (.int (1 : Int32)), .val (.long ((p1.toInt64) - (48 : Int64))), .second, .val (.int (1 : Int32)), .val (.int (0 : Int32))] [(.int (1 : Int32))]) _
            obtain ⟨fs, hr, hrun, hended, hW, hsame⟩ := X0.leave (v := some (.int (1 : Int32))) (fun h => by rw [Bd.returns] at h; cases h)
            refine Go.done (retN X0 hx (t := .boolean) Bd.returns (by simp) (hb hby d2_83) hr) hrun hended ⟨_, _, rfl, ?_, ⟨_, rfl⟩, hW, hsame.mono (by decide) (by decide)⟩
            show Q2 Z p1 h0 n0 _ s₁.heap _
            rw [e0]
            refine ⟨?_, N0, rfl⟩
            rw [f2, if_neg hc1, if_neg hc7, if_neg hc13, if_pos hc15, if_neg hc16]
        · refine Go.by (fun t k => XS.ifYes X0.here hx rfl (pc0 := 41) (pc' := 48) rfl (hb hby d2_41) rfl (cflt hc15).2.1 (by decide) (by decide) k) ?_
          show Go p e below s₁ (mkF m 48 #[.val (.int p1), .val (.int (p1 ||| (32 : Int32))), .val (.int (1 : Int32)), .val (.long ((p1.toInt64) - (48 : Int64))), .second, .unset, .unset] []) _
          refine Go.by (fun t k => XS.iconst X0.here hx rfl (hb hby d2_48) k) ?_
          show Go p e below s₁ (mkF m 49 #[.val (.int p1), .val (.int (p1 ||| (32 : Int32))), .val (.int (1 : Int32)), .val (.long ((p1.toInt64) - (48 : Int64))), .second, .unset, .unset] [(.int (0 : Int32))]) _
          refine Go.by (fun t k => XS.istore X0.here hx rfl (hb hby d2_49) rfl (l' := #[.val (.int p1), .val (.int (p1 ||| (32 : Int32))), .val (.int (1 : Int32)), .val (.long ((p1.toInt64) - (48 : Int64))), .second, .val (.int (0 : Int32)), .unset]) rfl k) ?_
          show Go p e below s₁ (mkF m 51 #[.val (.int p1), .val (.int (p1 ||| (32 : Int32))), .val (.int (1 : Int32)), .val (.long ((p1.toInt64) - (48 : Int64))), .second, .val (.int (0 : Int32)), .unset] []) _
          refine Go.by (fun t k => XS.iloadN X0.here hx rfl (hb hby d2_51) rfl k) ?_
          show Go p e below s₁ (mkF m 52 #[.val (.int p1), .val (.int (p1 ||| (32 : Int32))), .val (.int (1 : Int32)), .val (.long ((p1.toInt64) - (48 : Int64))), .second, .val (.int (0 : Int32)), .unset] [(.int p1)]) _
          refine Go.by (fun t k => XS.bipush X0.here hx rfl (hb hby d2_52) k) ?_
          show Go p e below s₁ (mkF m 54 #[.val (.int p1), .val (.int (p1 ||| (32 : Int32))), .val (.int (1 : Int32)), .val (.long ((p1.toInt64) - (48 : Int64))), .second, .val (.int (0 : Int32)), .unset] [(.int (95 : Int32)), (.int p1)]) _
          by_cases hc17 : p1 = (95 : Int32)
          · refine Go.by (fun t k => XS.icmpNo X0.here hx rfl (hb hby d2_54) rfl (teq hc17).2 k) ?_
            show Go p e below s₁ (mkF m 57 #[.val (.int p1), .val (.int (p1 ||| (32 : Int32))), .val (.int (1 : Int32)), .val (.long ((p1.toInt64) - (48 : Int64))), .second, .val (.int (0 : Int32)), .unset] []) _
            refine Go.by (fun t k => XS.iconst X0.here hx rfl (hb hby d2_57) k) ?_
            show Go p e below s₁ (mkF m 58 #[.val (.int p1), .val (.int (p1 ||| (32 : Int32))), .val (.int (1 : Int32)), .val (.long ((p1.toInt64) - (48 : Int64))), .second, .val (.int (0 : Int32)), .unset] [(.int (1 : Int32))]) _
            refine Go.by (fun t k => XS.goto X0.here hx rfl (pc0 := 58) (pc' := 62) rfl (hb hby d2_58) (by decide) (by decide) k) ?_
            show Go p e below s₁ (mkF m 62 #[.val (.int p1), .val (.int (p1 ||| (32 : Int32))), .val (.int (1 : Int32)), .val (.long ((p1.toInt64) - (48 : Int64))), .second, .val (.int (0 : Int32)), .unset] [(.int (1 : Int32))]) _
            refine Go.by (fun t k => XS.istore X0.here hx rfl (hb hby d2_62) rfl (l' := #[.val (.int p1), .val (.int (p1 ||| (32 : Int32))), .val (.int (1 : Int32)), .val (.long ((p1.toInt64) - (48 : Int64))), .second, .val (.int (0 : Int32)), .val (.int (1 : Int32))]) rfl k) ?_
            show Go p e below s₁ (mkF m 64 #[.val (.int p1), .val (.int (p1 ||| (32 : Int32))), .val (.int (1 : Int32)), .val (.long ((p1.toInt64) - (48 : Int64))), .second, .val (.int (0 : Int32)), .val (.int (1 : Int32))] []) _
            refine Go.by (fun t k => XS.iloadN X0.here hx rfl (hb hby d2_64) rfl k) ?_
            show Go p e below s₁ (mkF m 65 #[.val (.int p1), .val (.int (p1 ||| (32 : Int32))), .val (.int (1 : Int32)), .val (.long ((p1.toInt64) - (48 : Int64))), .second, .val (.int (0 : Int32)), .val (.int (1 : Int32))] [(.int (1 : Int32))]) _
            refine Go.by (fun t k => XS.ifYes X0.here hx rfl (pc0 := 65) (pc' := 78) rfl (hb hby d2_65) rfl ((if0 _ _).trans (feq (show ¬ ((1 : Int32) = (0 : Int32)) from (by decide))).2) (by decide) (by decide) k) ?_
            show Go p e below s₁ (mkF m 78 #[.val (.int p1), .val (.int (p1 ||| (32 : Int32))), .val (.int (1 : Int32)), .val (.long ((p1.toInt64) - (48 : Int64))), .second, .val (.int (0 : Int32)), .val (.int (1 : Int32))] []) _
            refine Go.by (fun t k => XS.iconst X0.here hx rfl (hb hby d2_78) k) ?_
            show Go p e below s₁ (mkF m 79 #[.val (.int p1), .val (.int (p1 ||| (32 : Int32))), .val (.int (1 : Int32)), .val (.long ((p1.toInt64) - (48 : Int64))), .second, .val (.int (0 : Int32)), .val (.int (1 : Int32))] [(.int (1 : Int32))]) _
            refine Go.by (fun t k => XS.goto X0.here hx rfl (pc0 := 79) (pc' := 83) rfl (hb hby d2_79) (by decide) (by decide) k) ?_
            show Go p e below s₁ (mkF m 83 #[.val (.int p1), .val (.int (p1 ||| (32 : Int32))), .val (.int (1 : Int32)), .val (.long ((p1.toInt64) - (48 : Int64))), .second, .val (.int (0 : Int32)), .val (.int (1 : Int32))] [(.int (1 : Int32))]) _
            obtain ⟨fs, hr, hrun, hended, hW, hsame⟩ := X0.leave (v := some (.int (1 : Int32))) (fun h => by rw [Bd.returns] at h; cases h)
            refine Go.done (retN X0 hx (t := .boolean) Bd.returns (by simp) (hb hby d2_83) hr) hrun hended ⟨_, _, rfl, ?_, ⟨_, rfl⟩, hW, hsame.mono (by decide) (by decide)⟩
            show Q2 Z p1 h0 n0 _ s₁.heap _
            rw [e0]
            refine ⟨?_, N0, rfl⟩
            rw [f2, if_neg hc1, if_neg hc7, if_neg hc13, if_neg hc15, if_pos hc17]
          · refine Go.by (fun t k => XS.icmpYes X0.here hx rfl (pc0 := 54) (pc' := 61) rfl (hb hby d2_54) rfl (feq hc17).2 (by decide) (by decide) k) ?_
            show Go p e below s₁ (mkF m 61 #[.val (.int p1), .val (.int (p1 ||| (32 : Int32))), .val (.int (1 : Int32)), .val (.long ((p1.toInt64) - (48 : Int64))), .second, .val (.int (0 : Int32)), .unset] []) _
            refine Go.by (fun t k => XS.iconst X0.here hx rfl (hb hby d2_61) k) ?_
            show Go p e below s₁ (mkF m 62 #[.val (.int p1), .val (.int (p1 ||| (32 : Int32))), .val (.int (1 : Int32)), .val (.long ((p1.toInt64) - (48 : Int64))), .second, .val (.int (0 : Int32)), .unset] [(.int (0 : Int32))]) _
            refine Go.by (fun t k => XS.istore X0.here hx rfl (hb hby d2_62) rfl (l' := #[.val (.int p1), .val (.int (p1 ||| (32 : Int32))), .val (.int (1 : Int32)), .val (.long ((p1.toInt64) - (48 : Int64))), .second, .val (.int (0 : Int32)), .val (.int (0 : Int32))]) rfl k) ?_
            show Go p e below s₁ (mkF m 64 #[.val (.int p1), .val (.int (p1 ||| (32 : Int32))), .val (.int (1 : Int32)), .val (.long ((p1.toInt64) - (48 : Int64))), .second, .val (.int (0 : Int32)), .val (.int (0 : Int32))] []) _
            refine Go.by (fun t k => XS.iloadN X0.here hx rfl (hb hby d2_64) rfl k) ?_
            show Go p e below s₁ (mkF m 65 #[.val (.int p1), .val (.int (p1 ||| (32 : Int32))), .val (.int (1 : Int32)), .val (.long ((p1.toInt64) - (48 : Int64))), .second, .val (.int (0 : Int32)), .val (.int (0 : Int32))] [(.int (1 : Int32))]) _
            refine Go.by (fun t k => XS.ifYes X0.here hx rfl (pc0 := 65) (pc' := 78) rfl (hb hby d2_65) rfl ((if0 _ _).trans (feq (show ¬ ((1 : Int32) = (0 : Int32)) from (by decide))).2) (by decide) (by decide) k) ?_
            show Go p e below s₁ (mkF m 78 #[.val (.int p1), .val (.int (p1 ||| (32 : Int32))), .val (.int (1 : Int32)), .val (.long ((p1.toInt64) - (48 : Int64))), .second, .val (.int (0 : Int32)), .val (.int (0 : Int32))] []) _
            refine Go.by (fun t k => XS.iconst X0.here hx rfl (hb hby d2_78) k) ?_
            show Go p e below s₁ (mkF m 79 #[.val (.int p1), .val (.int (p1 ||| (32 : Int32))), .val (.int (1 : Int32)), .val (.long ((p1.toInt64) - (48 : Int64))), .second, .val (.int (0 : Int32)), .val (.int (0 : Int32))] [(.int (1 : Int32))]) _
            refine Go.by (fun t k => XS.goto X0.here hx rfl (pc0 := 79) (pc' := 83) rfl (hb hby d2_79) (by decide) (by decide) k) ?_
            show Go p e below s₁ (mkF m 83 #[.val (.int p1), .val (.int (p1 ||| (32 : Int32))), .val (.int (1 : Int32)), .val (.long ((p1.toInt64) - (48 : Int64))), .second, .val (.int (0 : Int32)), .val (.int (0 : Int32))] [(.int (1 : Int32))]) _
            obtain ⟨fs, hr, hrun, hended, hW, hsame⟩ := X0.leave (v := some (.int (1 : Int32))) (fun h => by rw [Bd.returns] at h; cases h)
            refine Go.done (retN X0 hx (t := .boolean) Bd.returns (by simp) (hb hby d2_83) hr) hrun hended ⟨_, _, rfl, ?_, ⟨_, rfl⟩, hW, hsame.mono (by decide) (by decide)⟩
            show Q2 Z p1 h0 n0 _ s₁.heap _
            rw [e0]
            refine ⟨?_, N0, rfl⟩
            rw [f2, if_neg hc1, if_neg hc7, if_neg hc13, if_neg hc15, if_neg hc17]
def own_az (c : Int32) : Prop := (65 ≤ c.toInt ∧ c.toInt ≤ 90) ∨ (97 ≤ c.toInt ∧ c.toInt ≤ 122)
theorem own_32 : (32 : Int32).toBitVec = BitVec.twoPow 32 5 := by decide
theorem own_or32 (c : Int32) : c ||| 32 = c ∨ c ||| 32 = c + 32 := by
  by_cases h : c.toBitVec.getLsbD 5 = true
  · left
    apply Int32.toBitVec_inj.mp
    rw [Int32.toBitVec_or, own_32]
    apply BitVec.eq_of_getLsbD_eq
    intro i hi
    rw [BitVec.getLsbD_or, BitVec.getLsbD_twoPow]
    by_cases q : 5 = i
    · subst q; simp [h]
    · simp [q]
  · right
    apply Int32.toBitVec_inj.mp
    rw [Int32.toBitVec_or, Int32.toBitVec_add, own_32]
    symm
    apply BitVec.add_eq_or_of_and_eq_zero
    apply BitVec.eq_of_getLsbD_eq
    intro i hi
    rw [BitVec.getLsbD_and, BitVec.getLsbD_twoPow]
    by_cases q : 5 = i
    · subst q
      rw [Bool.eq_false_iff.mpr h, Bool.false_and]
      decide
    · simp [q]
theorem own_fin : ∀ k : Fin 26, (Int32.ofInt (65 + (k.val : Int)) ||| 32).toInt = 97 + (k.val : Int) ∧ (Int32.ofInt (97 + (k.val : Int)) ||| 32).toInt = 97 + (k.val : Int) := by decide
theorem own_or_az (c : Int32) : (97 ≤ (c ||| 32).toInt ∧ (c ||| 32).toInt ≤ 122) ↔ own_az c := by
  have b1 := c.toInt_lt
  have b2 := c.le_toInt
  constructor
  · intro h
    unfold own_az
    rcases own_or32 c with q | q
    · rw [q] at h; omega
    · rw [q, Int32.toInt_add, Int.bmod_def] at h
      simp only [Int32.reduceToInt] at h
      omega
  · intro h
    have e : Int32.ofInt c.toInt = c := Int32.ofInt_toInt c
    rcases h with h | h
    · have f := (own_fin ⟨(c.toInt - 65).toNat, by omega⟩).1
      have e2 : (65 : Int) + (((c.toInt - 65).toNat : Nat) : Int) = c.toInt := by omega
      simp only [e2, e] at f
      omega
    · have f := (own_fin ⟨(c.toInt - 97).toNat, by omega⟩).2
      have e2 : (97 : Int) + (((c.toInt - 97).toNat : Nat) : Int) = c.toInt := by omega
      simp only [e2, e] at f
      omega

theorem own_sub (c : Int32) : (c.toInt64 - 48).toInt = c.toInt - 48 := by
  have b1 := c.toInt_lt
  have b2 := c.le_toInt
  have e := Jvm.Kit.i64_of_i32 c
  have e48 : (48 : Int64).toInt = 48 := rfl
  rw [Jvm.Kit.i64_sub (by omega) (by omega), e, e48]
def own_W (z : Int) : Prop := (65 ≤ z ∧ z ≤ 90) ∨ (97 ≤ z ∧ z ≤ 122) ∨ (48 ≤ z ∧ z ≤ 57) ∨ z = 95
theorem own_a (p1 : Int32) : (own_W p1.toInt → f1 p1 = 1) ∧ (¬ own_W p1.toInt → f1 p1 = 0) := by
  have e : ∀ q : Int32, p1 = q ↔ p1.toInt = q.toInt := fun q => Int32.toInt_inj.symm
  unfold f1 own_W
  simp only [Int32.lt_iff_toInt_lt, e, Int32.reduceToInt]
  generalize p1.toInt = z
  constructor
  · intro h
    repeat' split
    all_goals first
      | rfl
      | (exfalso; omega)
  · intro h
    repeat' split
    all_goals first
      | rfl
      | (exfalso; omega)
theorem own_b (p1 : Int32) : (own_W p1.toInt → f2 p1 = 1) ∧ (¬ own_W p1.toInt → f2 p1 = 0) := by
  have e : ∀ q : Int32, p1 = q ↔ p1.toInt = q.toInt := fun q => Int32.toInt_inj.symm
  have o := own_or_az p1
  have d := own_sub p1
  unfold own_az at o
  unfold f2 own_W
  simp only [Int32.lt_iff_toInt_lt, Int64.lt_iff_toInt_lt, e, Int32.reduceToInt, Int64.reduceToInt, d]
  generalize (p1 ||| 32).toInt = y at *
  generalize p1.toInt = z at *
  constructor
  · intro h
    repeat' split
    all_goals first
      | rfl
      | (exfalso; omega)
  · intro h
    repeat' split
    all_goals first
      | rfl
      | (exfalso; omega)
theorem own_law (p1 : Int32) : f1 p1 = f2 p1 := by
  by_cases h : own_W p1.toInt
  · rw [(own_a p1).1 h, (own_b p1).1 h]
  · rw [(own_a p1).2 h, (own_b p1).2 h]
theorem pd_0 : parseMethodDescriptor "(I)Z" = some ⟨[.int], some .boolean⟩ := by decide +kernel
theorem ef_0 (m : MethodId) (x0 : Int32) (x1 : Int32) : entryFrame m #[(.int x0), (.int x1)] maxLocals = mkF m 0 #[.val (.int x0), .val (.int x1), .unset, .unset, .unset, .unset] [] := by first | (simp [entryFrame, mkF, argsToLocals, Value.category, maxLocals]; done) | rfl
def Q0 (Z : State) (p1 : Int32) (p2 : Int32) (h0 : Heap) (n0 : Nat) (v : Option Value) (h : Heap) (L : List Loc) : Prop := v = some (.int 1) ∧ Fr n0 L
set_option maxRecDepth 65536 in
set_option maxHeartbeats 40000000 in
theorem rm0 (l : Launch) (Z : State) (a0 : Array Value) (hw : ∀ d ∈ tables_1, d.before a0 Z = true) (ws : List Jvm.Cond) (p1 : Int32) (p2 : Int32) (h0 : Heap) (n0 : Nat) (Z0 : n0 ≤ h0.size) :
    MetFree l x (head1 (Jvm.Cond.code x code maxLocals ret :: ws) room_1) (fun a U => a = #[(.int p1), (.int p2)] ∧ Z.Warmed39 U.vm ∧ U.heap = h0) (fun _ _ _ _ _ => True) (fun _ U o U' => ∃ v L, o = .returned v ∧ Q0 Z p1 p2 h0 n0 v U'.heap L ∧ FrameEnd U o U' L room_1.cells room_1.slots) := by
  refine MetFree.of_bodySF (plainFor_of_name pn_1) hisR ?_
  intro p e s m args below meth c s₁ Bd hml0 hP hK
  obtain ⟨rfl, hZ, hh⟩ := hP
  have hx := Bd.exec
  have hby := Bd.bytes
  have hml : c.maxLocals = 6 := hml0
  have hown : s.vm.findClass "com/example/omega_automata_convert/omegaautomataconvert/BlockTokenizerIsWordCharacterPinLaw" = some m.cls := findClass_of_methodNamed Bd.named
  have hnm := (name_of_methodNamed Bd.named Bd.method).1
  have X0 : Stand p l e room_1 s m #[(.int p1), (.int p2)] below meth c s₁ [] 0 0 := Stand.of_body Bd
  have e0 : s₁.heap = h0 := by rw [← hh, Bd.state]; rfl
  have N0 := Fr.nil n0
  refine Go.start (ef_0 m p1 p2) ?_
  show Go p e below s₁ (mkF m 0 #[.val (.int p1), .val (.int p2), .unset, .unset, .unset, .unset] []) _
  refine Go.by (fun t k => XS.iloadN X0.here hx rfl (hb hby at_0) rfl k) ?_
  show Go p e below s₁ (mkF m 1 #[.val (.int p1), .val (.int p2), .unset, .unset, .unset, .unset] [(.int p1)]) _
  refine Go.by (fun t k => XS.istoreN X0.here hx rfl (hb hby at_1) rfl (l' := #[.val (.int p1), .val (.int p2), .val (.int p1), .unset, .unset, .unset]) rfl k) ?_
  show Go p e below s₁ (mkF m 2 #[.val (.int p1), .val (.int p2), .val (.int p1), .unset, .unset, .unset] []) _
  refine Go.by (fun t k => XS.iloadN X0.here hx rfl (hb hby at_2) rfl k) ?_
  show Go p e below s₁ (mkF m 3 #[.val (.int p1), .val (.int p2), .val (.int p1), .unset, .unset, .unset] [(.int p1)]) _
  refine Go.by (fun t k => X0.ldcInt hx hown (mvT hZ (hw _ (List.mem_of_getElem? (i := 0) rfl))) (g := (mkF m 3 #[.val (.int p1), .val (.int p2), .val (.int p1), .unset, .unset, .unset] [(.int p1)])) rfl (hb hby at_3) t k) ?_
  show Go p e below s₁ (mkF m 5 #[.val (.int p1), .val (.int p2), .val (.int p1), .unset, .unset, .unset] [(.int (-65536 : Int32)), (.int p1)]) _
  refine Go.by (fun t k => XS.iand X0.here hx rfl (hb hby at_5) rfl k) ?_
  show Go p e below s₁ (mkF m 6 #[.val (.int p1), .val (.int p2), .val (.int p1), .unset, .unset, .unset] [(.int (p1 &&& (-65536 : Int32)))]) _
  refine Go.by (fun t k => XS.iloadN X0.here hx rfl (hb hby at_6) rfl k) ?_
  show Go p e below s₁ (mkF m 7 #[.val (.int p1), .val (.int p2), .val (.int p1), .unset, .unset, .unset] [(.int p2), (.int (p1 &&& (-65536 : Int32)))]) _
  refine Go.by (fun t k => XS.sipush X0.here hx rfl (hb hby at_7) k) ?_
  show Go p e below s₁ (mkF m 10 #[.val (.int p1), .val (.int p2), .val (.int p1), .unset, .unset, .unset] [(.int (255 : Int32)), (.int p2), (.int (p1 &&& (-65536 : Int32)))]) _
  refine Go.by (fun t k => XS.iand X0.here hx rfl (hb hby at_10) rfl k) ?_
  show Go p e below s₁ (mkF m 11 #[.val (.int p1), .val (.int p2), .val (.int p1), .unset, .unset, .unset] [(.int (p2 &&& (255 : Int32))), (.int (p1 &&& (-65536 : Int32)))]) _
  refine Go.by (fun t k => XS.ior X0.here hx rfl (hb hby at_11) rfl k) ?_
  show Go p e below s₁ (mkF m 12 #[.val (.int p1), .val (.int p2), .val (.int p1), .unset, .unset, .unset] [(.int ((p1 &&& (-65536 : Int32)) ||| (p2 &&& (255 : Int32))))]) _
  refine Go.by (fun t k => XS.istoreN X0.here hx rfl (hb hby at_12) rfl (l' := #[.val (.int p1), .val (.int p2), .val (.int p1), .val (.int ((p1 &&& (-65536 : Int32)) ||| (p2 &&& (255 : Int32)))), .unset, .unset]) rfl k) ?_
  show Go p e below s₁ (mkF m 13 #[.val (.int p1), .val (.int p2), .val (.int p1), .val (.int ((p1 &&& (-65536 : Int32)) ||| (p2 &&& (255 : Int32)))), .unset, .unset] []) _
  refine Go.by (fun t k => XS.iloadN X0.here hx rfl (hb hby at_13) rfl k) ?_
  show Go p e below s₁ (mkF m 14 #[.val (.int p1), .val (.int p2), .val (.int p1), .val (.int ((p1 &&& (-65536 : Int32)) ||| (p2 &&& (255 : Int32)))), .unset, .unset] [(.int p1)]) _
  obtain ⟨_, _, ⟨T1, L1, k1, n1⟩, -, X1, ⟨Lc1, hQ1, l1, y1, z1⟩, st1⟩ := Jvm.LawKit.callS X0 hx (y := (⟨"com/example/omega_automata_convert/omegaautomataconvert/BlockTokenizer", "isWordCharacter", "(I)Z"⟩ : MethodName)) hown (mvT hZ (hw _ (List.mem_of_getElem? (i := 1) rfl))) (mvT hZ (hw _ (List.mem_of_getElem? (i := 2) rfl))) (mvT hZ (hw _ (List.mem_of_getElem? (i := 3) rfl))) (mvT hZ (hw _ (List.mem_of_getElem? (i := 4) rfl))) (by decide) (backOf (W := 0) (rm1 l Z a0 hw [] p1 h0 n0 Z0) hZ (hw _ (List.mem_of_getElem? (i := 4) rfl)) (hw _ (List.mem_of_getElem? (i := 3) rfl)) (by decide) (by decide)) (g := (mkF m 14 #[.val (.int p1), .val (.int p2), .val (.int p1), .val (.int ((p1 &&& (-65536 : Int32)) ||| (p2 &&& (255 : Int32)))), .unset, .unset] [(.int p1)])) rfl (by rw [hml]; rfl) (argsL := [(.int p1)]) (rest := []) (lenOf pd_0 rfl) rfl (by show 2 * 0 + _ ≤ _; exact Nat.le_of_eq rfl) (hb hby at_14) (fun _ _ => ⟨rfl, e0, (by decide : 0 + 0 ≤ _), (by decide : 0 + 0 ≤ _)⟩)
  dsimp only [Pt.U, Pt.locs, Pt.cells, Pt.slots] at X1 l1 y1 z1 st1 hQ1
  subst l1 y1 z1
  obtain ⟨rfl, N1q, e1q⟩ := hQ1
  have N1 := Fr.app N0 N1q
  refine Go.by st1 ?_
  show Go p e below T1 (mkF m 17 #[.val (.int p1), .val (.int p2), .val (.int p1), .val (.int ((p1 &&& (-65536 : Int32)) ||| (p2 &&& (255 : Int32)))), .unset, .unset] [(.int (f1 p1))]) _
  refine Go.by (fun t k => XS.iloadN X1.here hx rfl (hb hby at_17) rfl k) ?_
  show Go p e below T1 (mkF m 18 #[.val (.int p1), .val (.int p2), .val (.int p1), .val (.int ((p1 &&& (-65536 : Int32)) ||| (p2 &&& (255 : Int32)))), .unset, .unset] [(.int p1), (.int (f1 p1))]) _
  obtain ⟨_, _, ⟨T2, L2, k2, n2⟩, -, X2, ⟨Lc2, hQ2, l2, y2, z2⟩, st2⟩ := Jvm.LawKit.callS X1 hx (y := (⟨"com/example/omega_automata_convert/omegaautomataconvert/BlockTokenizerIsWordCharacterPinLaw", "reference", "(I)Z"⟩ : MethodName)) hown (mvT hZ (hw _ (List.mem_of_getElem? (i := 5) rfl))) (mvT hZ (hw _ (List.mem_of_getElem? (i := 6) rfl))) (mvT hZ (hw _ (List.mem_of_getElem? (i := 7) rfl))) (mvT hZ (hw _ (List.mem_of_getElem? (i := 8) rfl))) (by decide) (backOf (W := 1) (rm2 l Z a0 hw [] p1 h0 n0 Z0) hZ (hw _ (List.mem_of_getElem? (i := 8) rfl)) (hw _ (List.mem_of_getElem? (i := 7) rfl)) (by decide) (by decide)) (g := (mkF m 18 #[.val (.int p1), .val (.int p2), .val (.int p1), .val (.int ((p1 &&& (-65536 : Int32)) ||| (p2 &&& (255 : Int32)))), .unset, .unset] [(.int p1), (.int (f1 p1))])) rfl (by rw [hml]; rfl) (argsL := [(.int p1)]) (rest := [(.int (f1 p1))]) (lenOf pd_0 rfl) rfl (by show 2 * 0 + _ ≤ _; exact Nat.le_of_eq rfl) (hb hby at_18) (fun _ _ => ⟨rfl, e1q, (by decide : 0 + 0 ≤ _), (by decide : 0 + 0 ≤ _)⟩)
  dsimp only [Pt.U, Pt.locs, Pt.cells, Pt.slots] at X2 l2 y2 z2 st2 hQ2
  subst l2 y2 z2
  obtain ⟨rfl, N2q, e2q⟩ := hQ2
  have N2 := Fr.app N1 N2q
  refine Go.by st2 ?_
  show Go p e below T2 (mkF m 21 #[.val (.int p1), .val (.int p2), .val (.int p1), .val (.int ((p1 &&& (-65536 : Int32)) ||| (p2 &&& (255 : Int32)))), .unset, .unset] [(.int (f2 p1)), (.int (f1 p1))]) _
  refine Go.by (fun t k => XS.icmpNo X2.here hx rfl (hb hby at_21) rfl (teq (show (f1 p1) = (f2 p1) from own_law _)).2 k) ?_
  show Go p e below T2 (mkF m 24 #[.val (.int p1), .val (.int p2), .val (.int p1), .val (.int ((p1 &&& (-65536 : Int32)) ||| (p2 &&& (255 : Int32)))), .unset, .unset] []) _
  refine Go.by (fun t k => XS.iconst X2.here hx rfl (hb hby at_24) k) ?_
  show Go p e below T2 (mkF m 25 #[.val (.int p1), .val (.int p2), .val (.int p1), .val (.int ((p1 &&& (-65536 : Int32)) ||| (p2 &&& (255 : Int32)))), .unset, .unset] [(.int (1 : Int32))]) _
  refine Go.by (fun t k => XS.goto X2.here hx rfl (pc0 := 25) (pc' := 29) rfl (hb hby at_25) (by decide) (by decide) k) ?_
  show Go p e below T2 (mkF m 29 #[.val (.int p1), .val (.int p2), .val (.int p1), .val (.int ((p1 &&& (-65536 : Int32)) ||| (p2 &&& (255 : Int32)))), .unset, .unset] [(.int (1 : Int32))]) _
  refine Go.by (fun t k => XS.istore X2.here hx rfl (hb hby at_29) rfl (l' := #[.val (.int p1), .val (.int p2), .val (.int p1), .val (.int ((p1 &&& (-65536 : Int32)) ||| (p2 &&& (255 : Int32)))), .val (.int (1 : Int32)), .unset]) rfl k) ?_
  show Go p e below T2 (mkF m 31 #[.val (.int p1), .val (.int p2), .val (.int p1), .val (.int ((p1 &&& (-65536 : Int32)) ||| (p2 &&& (255 : Int32)))), .val (.int (1 : Int32)), .unset] []) _
  refine Go.by (fun t k => XS.iloadN X2.here hx rfl (hb hby at_31) rfl k) ?_
  show Go p e below T2 (mkF m 32 #[.val (.int p1), .val (.int p2), .val (.int p1), .val (.int ((p1 &&& (-65536 : Int32)) ||| (p2 &&& (255 : Int32)))), .val (.int (1 : Int32)), .unset] [(.int ((p1 &&& (-65536 : Int32)) ||| (p2 &&& (255 : Int32))))]) _
  obtain ⟨_, _, ⟨T3, L3, k3, n3⟩, -, X3, ⟨Lc3, hQ3, l3, y3, z3⟩, st3⟩ := Jvm.LawKit.callS X2 hx (y := (⟨"com/example/omega_automata_convert/omegaautomataconvert/BlockTokenizer", "isWordCharacter", "(I)Z"⟩ : MethodName)) hown (mvT hZ (hw _ (List.mem_of_getElem? (i := 1) rfl))) (mvT hZ (hw _ (List.mem_of_getElem? (i := 2) rfl))) (mvT hZ (hw _ (List.mem_of_getElem? (i := 3) rfl))) (mvT hZ (hw _ (List.mem_of_getElem? (i := 4) rfl))) (by decide) (backOf (W := 0) (rm1 l Z a0 hw [] ((p1 &&& (-65536 : Int32)) ||| (p2 &&& (255 : Int32))) h0 n0 Z0) hZ (hw _ (List.mem_of_getElem? (i := 4) rfl)) (hw _ (List.mem_of_getElem? (i := 3) rfl)) (by decide) (by decide)) (g := (mkF m 32 #[.val (.int p1), .val (.int p2), .val (.int p1), .val (.int ((p1 &&& (-65536 : Int32)) ||| (p2 &&& (255 : Int32)))), .val (.int (1 : Int32)), .unset] [(.int ((p1 &&& (-65536 : Int32)) ||| (p2 &&& (255 : Int32))))])) rfl (by rw [hml]; rfl) (argsL := [(.int ((p1 &&& (-65536 : Int32)) ||| (p2 &&& (255 : Int32))))]) (rest := []) (lenOf pd_0 rfl) rfl (by show 2 * 0 + _ ≤ _; exact Nat.le_of_eq rfl) (hb hby at_32) (fun _ _ => ⟨rfl, e2q, (by decide : 0 + 0 ≤ _), (by decide : 0 + 0 ≤ _)⟩)
  dsimp only [Pt.U, Pt.locs, Pt.cells, Pt.slots] at X3 l3 y3 z3 st3 hQ3
  subst l3 y3 z3
  obtain ⟨rfl, N3q, e3q⟩ := hQ3
  have N3 := Fr.app N2 N3q
  refine Go.by st3 ?_
  show Go p e below T3 (mkF m 35 #[.val (.int p1), .val (.int p2), .val (.int p1), .val (.int ((p1 &&& (-65536 : Int32)) ||| (p2 &&& (255 : Int32)))), .val (.int (1 : Int32)), .unset] [(.int (f1 ((p1 &&& (-65536 : Int32)) ||| (p2 &&& (255 : Int32)))))]) _
  refine Go.by (fun t k => XS.iloadN X3.here hx rfl (hb hby at_35) rfl k) ?_
  show Go p e below T3 (mkF m 36 #[.val (.int p1), .val (.int p2), .val (.int p1), .val (.int ((p1 &&& (-65536 : Int32)) ||| (p2 &&& (255 : Int32)))), .val (.int (1 : Int32)), .unset] [(.int ((p1 &&& (-65536 : Int32)) ||| (p2 &&& (255 : Int32)))), (.int (f1 ((p1 &&& (-65536 : Int32)) ||| (p2 &&& (255 : Int32)))))]) _
  obtain ⟨_, _, ⟨T4, L4, k4, n4⟩, -, X4, ⟨Lc4, hQ4, l4, y4, z4⟩, st4⟩ := Jvm.LawKit.callS X3 hx (y := (⟨"com/example/omega_automata_convert/omegaautomataconvert/BlockTokenizerIsWordCharacterPinLaw", "reference", "(I)Z"⟩ : MethodName)) hown (mvT hZ (hw _ (List.mem_of_getElem? (i := 5) rfl))) (mvT hZ (hw _ (List.mem_of_getElem? (i := 6) rfl))) (mvT hZ (hw _ (List.mem_of_getElem? (i := 7) rfl))) (mvT hZ (hw _ (List.mem_of_getElem? (i := 8) rfl))) (by decide) (backOf (W := 1) (rm2 l Z a0 hw [] ((p1 &&& (-65536 : Int32)) ||| (p2 &&& (255 : Int32))) h0 n0 Z0) hZ (hw _ (List.mem_of_getElem? (i := 8) rfl)) (hw _ (List.mem_of_getElem? (i := 7) rfl)) (by decide) (by decide)) (g := (mkF m 36 #[.val (.int p1), .val (.int p2), .val (.int p1), .val (.int ((p1 &&& (-65536 : Int32)) ||| (p2 &&& (255 : Int32)))), .val (.int (1 : Int32)), .unset] [(.int ((p1 &&& (-65536 : Int32)) ||| (p2 &&& (255 : Int32)))), (.int (f1 ((p1 &&& (-65536 : Int32)) ||| (p2 &&& (255 : Int32)))))])) rfl (by rw [hml]; rfl) (argsL := [(.int ((p1 &&& (-65536 : Int32)) ||| (p2 &&& (255 : Int32))))]) (rest := [(.int (f1 ((p1 &&& (-65536 : Int32)) ||| (p2 &&& (255 : Int32)))))]) (lenOf pd_0 rfl) rfl (by show 2 * 0 + _ ≤ _; exact Nat.le_of_eq rfl) (hb hby at_36) (fun _ _ => ⟨rfl, e3q, (by decide : 0 + 0 ≤ _), (by decide : 0 + 0 ≤ _)⟩)
  dsimp only [Pt.U, Pt.locs, Pt.cells, Pt.slots] at X4 l4 y4 z4 st4 hQ4
  subst l4 y4 z4
  obtain ⟨rfl, N4q, e4q⟩ := hQ4
  have N4 := Fr.app N3 N4q
  refine Go.by st4 ?_
  show Go p e below T4 (mkF m 39 #[.val (.int p1), .val (.int p2), .val (.int p1), .val (.int ((p1 &&& (-65536 : Int32)) ||| (p2 &&& (255 : Int32)))), .val (.int (1 : Int32)), .unset] [(.int (f2 ((p1 &&& (-65536 : Int32)) ||| (p2 &&& (255 : Int32))))), (.int (f1 ((p1 &&& (-65536 : Int32)) ||| (p2 &&& (255 : Int32)))))]) _
  refine Go.by (fun t k => XS.icmpNo X4.here hx rfl (hb hby at_39) rfl (teq (show (f1 ((p1 &&& (-65536 : Int32)) ||| (p2 &&& (255 : Int32)))) = (f2 ((p1 &&& (-65536 : Int32)) ||| (p2 &&& (255 : Int32)))) from own_law _)).2 k) ?_
  show Go p e below T4 (mkF m 42 #[.val (.int p1), .val (.int p2), .val (.int p1), .val (.int ((p1 &&& (-65536 : Int32)) ||| (p2 &&& (255 : Int32)))), .val (.int (1 : Int32)), .unset] []) _
  refine Go.by (fun t k => XS.iconst X4.here hx rfl (hb hby at_42) k) ?_
  show Go p e below T4 (mkF m 43 #[.val (.int p1), .val (.int p2), .val (.int p1), .val (.int ((p1 &&& (-65536 : Int32)) ||| (p2 &&& (255 : Int32)))), .val (.int (1 : Int32)), .unset] [(.int (1 : Int32))]) _
  refine Go.by (fun t k => XS.goto X4.here hx rfl (pc0 := 43) (pc' := 47) rfl (hb hby at_43) (by decide) (by decide) k) ?_
  show Go p e below T4 (mkF m 47 #[.val (.int p1), .val (.int p2), .val (.int p1), .val (.int ((p1 &&& (-65536 : Int32)) ||| (p2 &&& (255 : Int32)))), .val (.int (1 : Int32)), .unset] [(.int (1 : Int32))]) _
  refine Go.by (fun t k => XS.istore X4.here hx rfl (hb hby at_47) rfl (l' := #[.val (.int p1), .val (.int p2), .val (.int p1), .val (.int ((p1 &&& (-65536 : Int32)) ||| (p2 &&& (255 : Int32)))), .val (.int (1 : Int32)), .val (.int (1 : Int32))]) rfl k) ?_
  show Go p e below T4 (mkF m 49 #[.val (.int p1), .val (.int p2), .val (.int p1), .val (.int ((p1 &&& (-65536 : Int32)) ||| (p2 &&& (255 : Int32)))), .val (.int (1 : Int32)), .val (.int (1 : Int32))] []) _
  refine Go.by (fun t k => XS.iload X4.here hx rfl (hb hby at_49) rfl k) ?_
  show Go p e below T4 (mkF m 51 #[.val (.int p1), .val (.int p2), .val (.int p1), .val (.int ((p1 &&& (-65536 : Int32)) ||| (p2 &&& (255 : Int32)))), .val (.int (1 : Int32)), .val (.int (1 : Int32))] [(.int (1 : Int32))]) _
  refine Go.by (fun t k => XS.ifNo X4.here hx rfl (hb hby at_51) rfl ((if0 _ _).trans (feq (show ¬ ((1 : Int32) = (0 : Int32)) from (by decide))).1) k) ?_
  show Go p e below T4 (mkF m 54 #[.val (.int p1), .val (.int p2), .val (.int p1), .val (.int ((p1 &&& (-65536 : Int32)) ||| (p2 &&& (255 : Int32)))), .val (.int (1 : Int32)), .val (.int (1 : Int32))] []) _
  refine Go.by (fun t k => XS.iload X4.here hx rfl (hb hby at_54) rfl k) ?_
  show Go p e below T4 (mkF m 56 #[.val (.int p1), .val (.int p2), .val (.int p1), .val (.int ((p1 &&& (-65536 : Int32)) ||| (p2 &&& (255 : Int32)))), .val (.int (1 : Int32)), .val (.int (1 : Int32))] [(.int (1 : Int32))]) _
  refine Go.by (fun t k => XS.ifNo X4.here hx rfl (hb hby at_56) rfl ((if0 _ _).trans (feq (show ¬ ((1 : Int32) = (0 : Int32)) from (by decide))).1) k) ?_
  show Go p e below T4 (mkF m 59 #[.val (.int p1), .val (.int p2), .val (.int p1), .val (.int ((p1 &&& (-65536 : Int32)) ||| (p2 &&& (255 : Int32)))), .val (.int (1 : Int32)), .val (.int (1 : Int32))] []) _
  refine Go.by (fun t k => XS.iconst X4.here hx rfl (hb hby at_59) k) ?_
  show Go p e below T4 (mkF m 60 #[.val (.int p1), .val (.int p2), .val (.int p1), .val (.int ((p1 &&& (-65536 : Int32)) ||| (p2 &&& (255 : Int32)))), .val (.int (1 : Int32)), .val (.int (1 : Int32))] [(.int (1 : Int32))]) _
  refine Go.by (fun t k => XS.goto X4.here hx rfl (pc0 := 60) (pc' := 64) rfl (hb hby at_60) (by decide) (by decide) k) ?_
  show Go p e below T4 (mkF m 64 #[.val (.int p1), .val (.int p2), .val (.int p1), .val (.int ((p1 &&& (-65536 : Int32)) ||| (p2 &&& (255 : Int32)))), .val (.int (1 : Int32)), .val (.int (1 : Int32))] [(.int (1 : Int32))]) _
  obtain ⟨fs, hr, hrun, hended, hW, hsame⟩ := X4.leave (v := some (.int (1 : Int32))) (fun h => by rw [Bd.returns] at h; cases h)
  refine Go.done (retN X4 hx (t := .boolean) Bd.returns (by simp) (hb hby at_64) hr) hrun hended ⟨_, _, rfl, ?_, ⟨_, rfl⟩, hW, hsame.mono (by decide) (by decide)⟩
  show Q0 Z p1 p2 h0 n0 _ T4.heap _
  rw [e4q]
  exact ⟨rfl, N4⟩
set_option maxRecDepth 65536 in
set_option maxHeartbeats 40000000 in
theorem comes_1 {Post : Tables → Env → Array Value → State → Outcome → State → Prop} (hpost : ∀ tb e args s v u, (limb_1_1.after args s (.returned v) u = true ∧ limb_1_2.after args s (.returned v) u = true ∧ True) → FrameEnd s (.returned v) u (Jvm.fieldLocs frame_1_writes args s ++ Jvm.arrayLocs frame_1_arrays args s ++ Jvm.staticLocs frame_1_statics s) 0 0 → Post tb e args s (.returned v) u) :
    ArmFor flags0 classFile x code maxLocals ret World_1 tables_1 room_1 Calls_1 rest_1 Pre_1 Post := by
  intro l hfl _ _ p e ha hc hk s m args below hf hA hF happ hP
  obtain ⟨hcalls, hrest, hpre⟩ := hP
  obtain ⟨-, -, -, hnamed, -, -, -, hat⟩ := (Spec.applies_iff hf).mp happ
  obtain ⟨hg, hn⟩ := and_e (Cond.before_iff.mp (show (Jvm.Cond.and given_1 narrow_1).before args s = true from hpre))
  obtain ⟨g1, g2⟩ := and_e hg
  obtain ⟨g3, g4⟩ := and_e g2
  obtain ⟨w0, w1, rfl⟩ : ∃ w0 w1 : Value, args = #[w0, w1] := by
    have hs : args.size = 2 := by simpa [Cond.value, given_1] using g1
    obtain ⟨L⟩ := args
    match L, hs with
    | [w0, w1], _ => exact ⟨w0, w1, rfl⟩
  have hw := fun d (hd : d ∈ tables_1) => atoms_spec (ws := Jvm.Cond.code x code maxLocals ret :: tables_1) hat d (List.mem_cons_of_mem _ hd)
  obtain ⟨i0, ei0⟩ := is_v g3
  obtain rfl : w0 = (.int i0) := Option.some.inj ei0
  obtain ⟨i1, ei1⟩ := is_v g4
  obtain rfl : w1 = (.int i1) := Option.some.inj ei1
  obtain ⟨n, o, h1, h2, h3, _, L, rfl, ⟨rfl, N⟩, hq⟩ := rm0 l s _ hw tables_1 i0 i1 s.heap s.heap.size (Nat.le_refl _) p e ha hc hk s m _ below hf ((Spec.applies_iff_loose hf).mp happ).1 ⟨rfl, State.Warmed39.refl s, rfl⟩ trivial
  refine ⟨n, _, h1, h2, h3, hpost _ _ _ _ _ _ ⟨Cond.after_iff.mpr rfl, Cond.after_iff.mpr (eq_i res_at (Term.int_eval (1)) rfl), trivial⟩ ⟨hq.1, hq.2.1, (hq.2.2.sift fun y hy => Or.inr (N y hy)).mono (by decide) (by decide)⟩⟩
theorem main_1_1 : Claimed_1_1 := comes_1 fun _ _ _ _ _ _ h hF => ⟨h.1, hF⟩
theorem main_1_2 : Claimed_1_2 := comes_1 fun _ _ _ _ _ _ h hF => ⟨h.2.1, hF⟩
end Jvm.Pilot.@@N@@
namespace Jvm.Pilot.@@N@@
open Jvm Jvm.ClassFile Sem Op Lib Jvm.Free Jvm.Stand Jvm.Pilot.@@N@@.Jvm.D
/-! MADE BY PROGRAM (witnessworld.py) out of the Statement's table words and the real class files: 9 classes; the members and pool entries that the words name. The judged class is class 1, her method 2. -/
namespace start1
open Jvm.ClassFile
def u (s : String) : CpInfo := .utf8 (stringToUtf16 s)
/-- a pool by its gaps: so many unusable entries, then the entry; so many at the end -/
def gap : Nat → List CpInfo → List CpInfo
  | 0, r => r
  | n + 1, r => .unusable :: gap n r
def poolList (es : List (Nat × CpInfo)) (last : Nat) : List CpInfo := es.foldr (fun e r => gap e.1 (e.2 :: r)) (gap last [])
def pool (es : List (Nat × CpInfo)) (last : Nat) : Array CpInfo := ⟨poolList es last⟩
def fileOf (pool : Array CpInfo) (this : Nat) (attrs : Array Attribute := #[]) (ms : Array MethodInfo := #[]) (fl : Nat := 33) (sup : Nat := 0) (ifs : Array Nat := #[]) (fds : Array FieldInfo := #[]) : ClassFile where
  minorVersion := 0
  majorVersion := 65
  constantPool := pool
  accessFlags := fl
  thisClass := this
  superClass := sup
  interfaces := ifs
  fields := fds
  methods := ms
  attributes := attrs
def plain (name : String) (sup : Option ClassId) : Class where
  name := name
  kind := .ordinary
  loader := none
  accessFlags := 33
  super := sup
  interfaces := #[]
  cf := none
  fields := #[]
  methods := #[]
  instanceTypes := #[]
  staticTypes := #[]
  resolved := #[]
  callSites := []
  init := .initialized
  statics := none
  mirror := none

def pool0 : Array CpInfo := pool [(5, u "<init>"), (0, u "()V"), (1, .class_ 10), (1, u "java/lang/Object")] 113

def k0m0 : Method := { name := "<init>", desc := "()V", sig := { parameters := [], returnType := none }, accessFlags := 1, code := none }
/-- java/lang/Object -/
def k0 : Class := { plain "java/lang/Object" none with
  accessFlags := 33
  interfaces := #[]
  cf := some (fileOf pool0 8 #[] #[{ accessFlags := 1, nameIndex := 5, descriptorIndex := 6, attributes := #[] }] 33 0 #[] #[])
  fields := #[]
  methods := #[k0m0]
  instanceTypes := #[]
  staticTypes := #[]
  resolved := Array.replicate 124 none
  statics := none }

def pool1 : Array CpInfo := pool [(2, .class_ 4), (1, u "java/lang/Object"), (0, u "<init>"), (0, u "()V"), (0, .long 48), (1, .long 10), (1, .integer 4294901760), (0, .methodref 13 14), (0, .class_ 15), (0, .nameAndType 16 17), (0, u "com/example/omega_automata_convert/omegaautomataconvert/BlockTokenizer"), (0, u "isWordCharacter"), (0, u "(I)Z"), (0, .methodref 19 20), (0, .class_ 21), (0, .nameAndType 22 17), (0, u "com/example/omega_automata_convert/omegaautomataconvert/BlockTokenizerIsWordCharacterPinLaw"), (0, u "reference"), (3, u "law"), (0, u "(II)Z")] 2

def k1m0 : Method := { name := "<init>", desc := "()V", sig := { parameters := [], returnType := none }, accessFlags := 1, code := none }
def k1c1 : Code := { maxStack := 4, maxLocals := 7, code := method_2_code, exceptionTable := #[], attributes := #[] }
def k1m1 : Method := { name := "reference", desc := "(I)Z", sig := { parameters := [.int], returnType := some .boolean }, accessFlags := 10, code := some k1c1 }
def k1c2 : Code := { maxStack := 3, maxLocals := 6, code := code, exceptionTable := #[], attributes := #[] }
def k1m2 : Method := { name := "law", desc := "(II)Z", sig := { parameters := [.int, .int], returnType := some .boolean }, accessFlags := 9, code := some k1c2 }
/-- com/example/omega_automata_convert/omegaautomataconvert/BlockTokenizerIsWordCharacterPinLaw -/
def k1 : Class := { plain "com/example/omega_automata_convert/omegaautomataconvert/BlockTokenizerIsWordCharacterPinLaw" (some 0) with
  accessFlags := 49
  interfaces := #[]
  cf := some (fileOf pool1 19 #[] #[{ accessFlags := 1, nameIndex := 5, descriptorIndex := 6, attributes := #[] }, { accessFlags := 10, nameIndex := 22, descriptorIndex := 17, attributes := #[] }, { accessFlags := 9, nameIndex := 26, descriptorIndex := 27, attributes := #[] }] 49 2 #[] #[])
  fields := #[]
  methods := #[k1m0, k1m1, k1m2]
  instanceTypes := #[]
  staticTypes := #[]
  resolved := Array.replicate 30 none
  statics := none }

def pool2 : Array CpInfo := pool [(2, .class_ 4), (1, u "java/lang/Object"), (3, .class_ 10), (1, u "com/example/omega_automata_convert/omegaautomataconvert/BlockTokenizer"), (0, u "line"), (0, u "I"), (2, u "column"), (2, u "text"), (0, u "Ljava/lang/String;"), (15, u "offset"), (2, u "lookahead"), (0, u "Lcom/example/omega_automata_convert/omegaautomataconvert/BlockTokenizer$Token;"), (8, .class_ 50), (1, u "com/example/omega_automata_convert/omegaautomataconvert/BlockTokenizer$Token"), (3, .class_ 56), (1, u "com/example/omega_automata_convert/omegaautomataconvert/BlockTokenizer$Kind"), (26, u "isWordCharacter"), (0, u "(I)Z"), (46, u "SYMBOLS"), (1, u "BYTE_ORDER_MARK")] 12

def k2c0 : Code := { maxStack := 2, maxLocals := 1, code := prog_18_method_8_code, exceptionTable := #[], attributes := #[] }
def k2m0 : Method := { name := "isWordCharacter", desc := "(I)Z", sig := { parameters := [.int], returnType := some .boolean }, accessFlags := 8, code := some k2c0 }
/-- com/example/omega_automata_convert/omegaautomataconvert/BlockTokenizer -/
def k2 : Class := { plain "com/example/omega_automata_convert/omegaautomataconvert/BlockTokenizer" (some 0) with
  accessFlags := 48
  interfaces := #[]
  cf := some (fileOf pool2 8 #[.nestMembers #[48, 54]] #[{ accessFlags := 8, nameIndex := 83, descriptorIndex := 84, attributes := #[] }] 48 2 #[] #[{ accessFlags := 26, nameIndex := 131, descriptorIndex := 19, attributes := #[] }, { accessFlags := 26, nameIndex := 133, descriptorIndex := 12, attributes := #[] }, { accessFlags := 18, nameIndex := 18, descriptorIndex := 19, attributes := #[] }, { accessFlags := 2, nameIndex := 35, descriptorIndex := 12, attributes := #[] }, { accessFlags := 2, nameIndex := 11, descriptorIndex := 12, attributes := #[] }, { accessFlags := 2, nameIndex := 15, descriptorIndex := 12, attributes := #[] }, { accessFlags := 2, nameIndex := 38, descriptorIndex := 39, attributes := #[] }])
  fields := #[{ name := "SYMBOLS", type := (.object "java/lang/String"), accessFlags := 26, slot := 0, constantValue := 0 }, { name := "BYTE_ORDER_MARK", type := .int, accessFlags := 26, slot := 1, constantValue := 0 }, { name := "text", type := (.object "java/lang/String"), accessFlags := 18, slot := 0, constantValue := 0 }, { name := "offset", type := .int, accessFlags := 2, slot := 1, constantValue := 0 }, { name := "line", type := .int, accessFlags := 2, slot := 2, constantValue := 0 }, { name := "column", type := .int, accessFlags := 2, slot := 3, constantValue := 0 }, { name := "lookahead", type := (.object "com/example/omega_automata_convert/omegaautomataconvert/BlockTokenizer$Token"), accessFlags := 2, slot := 4, constantValue := 0 }]
  methods := #[k2m0]
  instanceTypes := #[(.object "java/lang/String"), .int, .int, .int, (.object "com/example/omega_automata_convert/omegaautomataconvert/BlockTokenizer$Token")]
  staticTypes := #[(.object "java/lang/String"), .int]
  resolved := Array.replicate 146 none
  statics := none }

def pool3 : Array CpInfo := pool [(1, u "java/lang/Cloneable"), (0, .class_ 1), (0, u "java/lang/Object"), (0, .class_ 3)] 3

/-- java/lang/Cloneable -/
def k3 : Class := { plain "java/lang/Cloneable" (some 0) with
  accessFlags := 1537
  interfaces := #[]
  cf := some (fileOf pool3 2 #[] #[] 1537 4 #[] #[])
  fields := #[]
  methods := #[]
  instanceTypes := #[]
  staticTypes := #[]
  resolved := Array.replicate 8 none
  statics := none }

def pool4 : Array CpInfo := pool [(1, u "java/io/Serializable"), (0, .class_ 1), (0, u "java/lang/Object"), (0, .class_ 3)] 3

/-- java/io/Serializable -/
def k4 : Class := { plain "java/io/Serializable" (some 0) with
  accessFlags := 1537
  interfaces := #[]
  cf := some (fileOf pool4 2 #[] #[] 1537 4 #[] #[])
  fields := #[]
  methods := #[]
  instanceTypes := #[]
  staticTypes := #[]
  resolved := Array.replicate 8 none
  statics := none }

/-- the primitive byte -/
def k5 : Class := { plain "byte" none with kind := .primitive 'B', accessFlags := 0x411 }
/-- [B -/
def k6 : Class := { plain "[B" (some 0) with kind := .array 5 .byte, interfaces := #[3, 4], accessFlags := 1041 }

/-- the primitive int -/
def k7 : Class := { plain "int" none with kind := .primitive 'I', accessFlags := 0x411 }
/-- [I -/
def k8 : Class := { plain "[I" (some 0) with kind := .array 7 .int, interfaces := #[3, 4], accessFlags := 1041 }

def heap : Heap := #[]
def classes : Array Class := #[k0, k1, k2, k3, k4, k5, k6, k7, k8]
def interned : List (Array UInt16 × Addr) := []
def slotsUsed : Nat := 0
def theMethod : MethodId := ⟨1, 2⟩
def args0 : Array Value := #[.int 5, .int 6]
def aboutOver (below : List Frame) : State where
  vm := { classes := classes, interned := interned.toArray }
  heap := heap
  slotsUsed := slotsUsed
  threads := #[{ frames := .invoking theMethod args0 :: below }]
def below0 : List Frame := [.native { method := ⟨0, 0⟩, args := #[] }]
def about1 : State := aboutOver below0
def p0 : Program := .bare "" "" ""
def e0 : Env := launch0.env 0 0 0
theorem w_frames : about1.frames = Frame.invoking theMethod args0 :: below0 := rfl
set_option maxRecDepth 65536 in
theorem w_args : argsFit about1.vm theMethod args0 = true := by decide +kernel
set_option maxRecDepth 65536 in
theorem w_heap : heapFits about1 = true := by decide +kernel
set_option maxRecDepth 65536 in
theorem w_runnable : about1.curStatus? = some .runnable := by decide +kernel
set_option maxRecDepth 65536 in
theorem w_alone : about1.alone = true := by decide +kernel
set_option maxRecDepth 65536 in
theorem w_named : about1.methodNamed? x = some theMethod := by decide +kernel
set_option maxRecDepth 65536 in
theorem w_hears : about1.hears theMethod below0 = true := by decide +kernel
set_option maxRecDepth 65536 in
theorem w_ripe : about1.ripe theMethod args0 below0 = true := by decide +kernel
theorem w_running : about1.status = .running := rfl
set_option maxRecDepth 65536 in
theorem w_room : about1.hasRoom e0.platform room_1 = true :=
  launch0.hasRoom_least _ room_1 (by decide +kernel) (by decide +kernel) (by decide +kernel) (by decide +kernel) (by decide +kernel) (by decide +kernel)
theorem allAtoms_all (ts : List Jvm.Cond) (a : Array Jvm.Value) (st : Jvm.State) : (allAtoms ts).before a st = ts.all (fun c => c.before a st) := by
  induction ts with
  | nil => rfl
  | cons c t ih =>
    show (Jvm.Cond.and c (allAtoms t)).before a st = _
    rw [Jvm.Cond.before_and, ih, List.all_cons]
def words1 : List Jvm.Cond := Jvm.Cond.code x code maxLocals ret :: tables_1
/-- a 'code' word, met by the world's own term for the bytes: nothing is compared byte by byte -/
theorem code_word {y : MethodName} {bytes : ByteArray} {mx : Nat} {rt : Option FieldType} {a : Array Value} {s : State} {m : MethodId} {meth : Method} {c : Code} (h1 : s.methodNamed? y = some m) (h2 : s.vm.method? m = some meth) (h3 : meth.code = some c) (h4 : c.code = bytes)
    (h5 : (c.maxLocals == mx && c.exceptionTable.isEmpty && decide (c.maxStack ≤ mostOperands) && decide (meth.sig.returnType = rt) && !meth.locks && decide (parseMethodDescriptor y.desc = some meth.sig)) = true) : (Jvm.Cond.code y bytes mx rt).before a s = true := by
  simp only [Bool.and_eq_true, beq_iff_eq, Bool.not_eq_true', decide_eq_true_eq] at h5
  obtain ⟨⟨⟨⟨⟨g1, g2⟩, g3⟩, g4⟩, g5⟩, g6⟩ := h5
  simp [Cond.before, Cond.holds, Cond.value, h1, h2, h3, h4, g1, g2, g3, g4, g5, g6]
def isCode : Jvm.Cond → Bool
  | .code _ _ _ _ => true
  | _ => false
theorem all_split {L : List Jvm.Cond} {P : Jvm.Cond → Bool} (h1 : L.all (fun c => isCode c || P c) = true) (h2 : ∀ c ∈ L.filter isCode, P c = true) : L.all P = true := by
  refine List.all_eq_true.mpr fun c hc => ?_
  have h := List.all_eq_true.mp h1 c hc
  rcases Bool.eq_false_or_eq_true (isCode c) with hi | hi
  · exact h2 c (List.mem_filter.mpr ⟨hc, hi⟩)
  · simpa [hi] using h
set_option maxRecDepth 65536 in
theorem w_c0 : (Jvm.Cond.code x code maxLocals ret).before args0 about1 = true := code_word (m := ⟨1, 2⟩) (meth := k1m2) (c := k1c2) (by decide +kernel) rfl rfl rfl (by decide +kernel)
set_option maxRecDepth 65536 in
theorem w_c1 : (Jvm.Cond.code ({ cls := "com/example/omega_automata_convert/omegaautomataconvert/BlockTokenizer", name := "isWordCharacter", desc := "(I)Z" } : Jvm.MethodName) prog_18_method_8_code (1 : Nat) (Option.some Jvm.ClassFile.FieldType.boolean)).before args0 about1 = true := code_word (m := ⟨2, 0⟩) (meth := k2m0) (c := k2c0) (by decide +kernel) rfl rfl rfl (by decide +kernel)
set_option maxRecDepth 65536 in
theorem w_c2 : (Jvm.Cond.code ({ cls := "com/example/omega_automata_convert/omegaautomataconvert/BlockTokenizerIsWordCharacterPinLaw", name := "reference", desc := "(I)Z" } : Jvm.MethodName) method_2_code (7 : Nat) (Option.some Jvm.ClassFile.FieldType.boolean)).before args0 about1 = true := code_word (m := ⟨1, 1⟩) (meth := k1m1) (c := k1c1) (by decide +kernel) rfl rfl rfl (by decide +kernel)
def codes1 : List Jvm.Cond := [Jvm.Cond.code x code maxLocals ret, Jvm.Cond.code ({ cls := "com/example/omega_automata_convert/omegaautomataconvert/BlockTokenizer", name := "isWordCharacter", desc := "(I)Z" } : Jvm.MethodName) prog_18_method_8_code (1 : Nat) (Option.some Jvm.ClassFile.FieldType.boolean), Jvm.Cond.code ({ cls := "com/example/omega_automata_convert/omegaautomataconvert/BlockTokenizerIsWordCharacterPinLaw", name := "reference", desc := "(I)Z" } : Jvm.MethodName) method_2_code (7 : Nat) (Option.some Jvm.ClassFile.FieldType.boolean)]
set_option maxRecDepth 65536 in
theorem codes_eq : words1.filter isCode = codes1 := rfl
theorem w_codes : ∀ c ∈ words1.filter isCode, c.before args0 about1 = true := by
  rw [codes_eq]
  intro c hc
  simp only [codes1, List.mem_cons, List.not_mem_nil, or_false] at hc
  rcases hc with rfl | rfl | rfl
  · exact w_c0
  · exact w_c1
  · exact w_c2
set_option maxRecDepth 65536 in
theorem w_t1 : words1.all (fun c => isCode c || c.before args0 about1) = true := by decide +kernel
theorem w_tables : (allAtoms (Jvm.Cond.code x code maxLocals ret :: tables_1)).before args0 about1 = true := by
  rw [allAtoms_all]
  show words1.all (fun c => c.before args0 about1) = true
  refine all_split ?_ w_codes
  rw [w_t1]
set_option maxRecDepth 65536 in
theorem w_case : (Jvm.Cond.and given_1 narrow_1).before args0 about1 = true := by decide +kernel
theorem w_applies : (headSpec (Jvm.Cond.code x code maxLocals ret :: tables_1) room_1).applies x e0.platform about1 = true :=
  (Spec.applies_iff w_frames).mpr ⟨w_running, w_runnable, w_alone, w_named, w_hears, w_ripe, w_room, w_tables⟩
theorem atStart : AtStart classFile x code maxLocals ret World_1 tables_1 room_1 Calls_1 rest_1 Pre_1 launch0 p0 e0 about1 theMethod args0 below0 :=
  ⟨lists_1, trivial, launch0.admits_env _ _ _, launch0.least_env, fairChoices_fair.cas, fairChoices_fair.clock, w_frames, w_args, w_heap, w_applies, trivial, trivial, w_case⟩
end start1
theorem witness_1 : WitnessClaimed_1 := ⟨start1.p0, start1.e0, start1.about1, start1.theMethod, start1.args0, start1.below0, start1.atStart⟩
end Jvm.Pilot.@@N@@
