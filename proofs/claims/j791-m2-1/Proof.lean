import JvmDerived
import JvmDerived.Pilot.@@N@@Statement
import JvmDerived.Pilot.@@N@@Code
set_option linter.unusedVariables false
set_option linter.unusedSimpArgs false
@@BLOCK:NumsL.lean.txt@@
namespace Jvm.RoadKit
open Sem ClassFile Op Lib Jvm.Stand Jvm.Free Jvm.LawKit
section New
variable {p : Program} {l : Launch} {e : Env} {R : Room} {s : State} {m : MethodId} {args : Array Value} {below : List Frame} {meth : Method} {c : Code} {T : State} {locs : List Loc} {cells slots : Nat}
theorem retI (X : Stand p l e R s m args below meth c T locs cells slots) (hx : p.tables.exec = Jvm.exec) {pc : Nat} {Ls : Array Slot} {z : Int32} {rest : List Value} (hret : meth.sig.returnType = some .int) (hd : decode c.code pc = .ok (.ireturn, 1)) {fs : List Frame}
    (hl : ∀ (f : JFrame) (acts : List Action), f.method = m → f.locked = none → f.entered = [] → (doReturn e (T.setTop f) acts (some (.int z))).1 = T.setFrames fs) : Steps p.tables e below (T.setTop (mkF m pc Ls (.int z :: rest))) (T.setFrames fs) :=
  retOut X hx hret rfl (Or.inl ⟨rfl, Or.inl rfl, z, rfl⟩) hd hl
theorem retJ (X : Stand p l e R s m args below meth c T locs cells slots) (hx : p.tables.exec = Jvm.exec) {pc : Nat} {Ls : Array Slot} {z : Int64} {rest : List Value} (hret : meth.sig.returnType = some .long) (hd : decode c.code pc = .ok (.lreturn, 1)) {fs : List Frame}
    (hl : ∀ (f : JFrame) (acts : List Action), f.method = m → f.locked = none → f.entered = [] → (doReturn e (T.setTop f) acts (some (.long z))).1 = T.setFrames fs) : Steps p.tables e below (T.setTop (mkF m pc Ls (.long z :: rest))) (T.setFrames fs) :=
  retOut X hx hret rfl (Or.inr (Or.inl ⟨rfl, rfl, z, rfl⟩)) hd hl
theorem retA (X : Stand p l e R s m args below meth c T locs cells slots) (hx : p.tables.exec = Jvm.exec) {pc : Nat} {Ls : Array Slot} {w : Value} {t : FieldType} {rest : List Value} (hret : meth.sig.returnType = some t) (hn : narrow t w = w) (ht : t.isReference = true ∧ w.isRef = true) (hd : decode c.code pc = .ok (.areturn, 1)) {fs : List Frame}
    (hl : ∀ (f : JFrame) (acts : List Action), f.method = m → f.locked = none → f.entered = [] → (doReturn e (T.setTop f) acts (some w)).1 = T.setFrames fs) : Steps p.tables e below (T.setTop (mkF m pc Ls (w :: rest))) (T.setFrames fs) :=
  retOut X hx hret hn (Or.inr (Or.inr (Or.inr (Or.inr ⟨rfl, ht.1, ht.2⟩)))) hd hl
def Go (p : Program) (e : Env) (below : List Frame) (T : State) (f : JFrame) (Post : Outcome → State → Prop) : Prop :=
  ∃ s₂ o, Steps p.tables e below (T.setTop f) s₂ ∧ s₂.status = .running ∧ Ended s₂ below o ∧ Post o s₂
theorem Go.by {T T' : State} {f f' : JFrame} {Post : Outcome → State → Prop} (st : ∀ t, Steps p.tables e below (T'.setTop f') t → Steps p.tables e below (T.setTop f) t) (k : Go p e below T' f' Post) : Go p e below T f Post := by
  obtain ⟨s2, o, a, b⟩ := k
  exact ⟨s2, o, st _ a, b⟩
theorem Go.start {T : State} {f g : JFrame} {Post : Outcome → State → Prop} (q : f = g) (k : Go p e below T g Post) : ∃ s₂ o, Steps p.tables e below (T.setTop f) s₂ ∧ s₂.status = .running ∧ Ended s₂ below o ∧ Post o s₂ := by
  subst q; exact k
theorem Go.done {T s₂ : State} {f : JFrame} {o : Outcome} {Post : Outcome → State → Prop} (a : Steps p.tables e below (T.setTop f) s₂) (b : s₂.status = .running) (c : Ended s₂ below o) (d : Post o s₂) : Go p e below T f Post := ⟨s₂, o, a, b, c, d⟩
def own_ushr (x y : Int32) : Int32 := (x.toUInt32 >>> (y &&& 31).toUInt32).toInt32
def own_ushrL (x : Int64) (y : Int32) : Int64 := (x.toUInt64 >>> (y &&& 63).toInt64.toUInt64).toInt64
theorem own_cmpV (x y : Int64) : lcmpW x y = lcmpV x y := lcW x y
theorem own_holdsLt (z : Int32) : ifCond.holds .lt z = decide (z < 0) := rfl
theorem own_holdsGe (z : Int32) : ifCond.holds .ge z = decide (z ≥ 0) := rfl
theorem own_holdsGt (z : Int32) : ifCond.holds .gt z = decide (z > 0) := rfl
theorem own_holdsLe (z : Int32) : ifCond.holds .le z = decide (z ≤ 0) := rfl
theorem own_holdsEq (z : Int32) : ifCond.holds .eq z = (z == 0) := rfl
theorem own_holdsNe (z : Int32) : ifCond.holds .ne z = (z != 0) := rfl
theorem ctlt {x y : Int64} (h : x < y) : ifCond.holds .lt (lcmpW x y) = true ∧ ifCond.holds .ge (lcmpW x y) = false ∧ ifCond.holds .gt (lcmpW y x) = true ∧ ifCond.holds .le (lcmpW y x) = false := by
  rw [own_holdsLt, own_holdsGe, own_holdsGt, own_holdsLe, own_cmpV, own_cmpV]
  refine ⟨decide_eq_true ((lc_lt x y).mpr h), decide_eq_false fun q => ?_, decide_eq_true ((lc_gt y x).mpr h), decide_eq_false fun q => ?_⟩
  · exact Int64.not_le.mpr h ((lc_ge x y).mp q)
  · exact Int64.not_le.mpr h ((lc_le y x).mp q)
theorem cflt {x y : Int64} (h : ¬ x < y) : ifCond.holds .lt (lcmpW x y) = false ∧ ifCond.holds .ge (lcmpW x y) = true ∧ ifCond.holds .gt (lcmpW y x) = false ∧ ifCond.holds .le (lcmpW y x) = true := by
  rw [own_holdsLt, own_holdsGe, own_holdsGt, own_holdsLe, own_cmpV, own_cmpV]
  exact ⟨decide_eq_false fun q => h ((lc_lt x y).mp q), decide_eq_true ((lc_ge x y).mpr (Int64.not_lt.mp h)), decide_eq_false fun q => h ((lc_gt y x).mp q), decide_eq_true ((lc_le y x).mpr (Int64.not_lt.mp h))⟩
theorem cteq {x y : Int64} (h : x = y) : ifCond.holds .eq (lcmpW x y) = true ∧ ifCond.holds .ne (lcmpW x y) = false := by
  rw [own_holdsEq, own_holdsNe, own_cmpV, (lc_eq x y).mpr h]; exact ⟨rfl, rfl⟩
theorem cfeq {x y : Int64} (h : ¬ x = y) : ifCond.holds .eq (lcmpW x y) = false ∧ ifCond.holds .ne (lcmpW x y) = true := by
  have q : ¬ lcmpV x y = 0 := fun r => h ((lc_eq x y).mp r)
  rw [own_holdsEq, own_holdsNe, own_cmpV]
  exact ⟨beq_false_of_ne q, bne_iff_ne.mpr q⟩
theorem Arr.keep {Z : State} {h h' : Heap} {a : Addr} {cl : Cell} {ty : FieldType} {ws : List Addr} (F : Arr Z h a cl ty) (K : Keep h h' ws) (q : a ∉ ws) : Arr Z h' a cl ty := ⟨K.2.1 a cl F.1 q, F.2⟩
theorem own_selPriv {y : MethodName} {s : State} {args : Array Value} {n : Nat} (hy : y.cls ≠ "java/lang/invoke/MethodHandle" ∧ y.cls ≠ "java/lang/invoke/VarHandle") (hins : (Cond.instantiable y.cls n).before args s = true) (hpriv : (Cond.privateMethod y).before args s = true) (hinst : (Cond.instanceMethod y).before args s = true) :
    (Cond.selects y.cls y y).before args s = true := by
  obtain ⟨c, k, hc, hk, -, hniab, -, -⟩ := Cond.instantiable_spec hins
  have hni : k.isInterface = false := (Bool.or_eq_false_iff.mp hniab).1
  obtain ⟨mk, methM, hnamed, hmethM, -, -⟩ := Cond.instanceMethod_spec hinst
  have hfound : s.methodFound? y.cls y.name y.desc = some mk := State.methodFound?_of_named hnamed hy
  have hcls : mk.cls = c := Option.some.inj ((findClass_of_methodNamed hnamed).symm.trans hc)
  have hsel : selectMethod {} s.vm c mk = .method mk := selectMethod_private hmethM (Cond.privateMethod_at hpriv mk methM hnamed hmethM)
  simp only [Cond.before, Cond.holds, Cond.value, hc, hfound, hnamed, hsel, hcls, hk]
  simp; exact hni
end New
end Jvm.RoadKit
namespace Jvm.Pilot.@@N@@
open Jvm Jvm.ClassFile Sem Op Lib Jvm.Free Jvm.Stand Jvm.LawKit Jvm.RoadKit Bundle Jvm.Pilot.@@N@@.Jvm.D
def f3 (p1 : Int32) (p2 : Int32) : Int32 :=
  if p2 < p1 then p2
  else p1
theorem d3_0 : decode jdk_29_method_69_code 0 = .ok (.iload_n 0, 1) := by decide +kernel
theorem d3_1 : decode jdk_29_method_69_code 1 = .ok (.iload_n 1, 1) := by decide +kernel
theorem d3_2 : decode jdk_29_method_69_code 2 = .ok (.if_icmp .gt 7, 3) := by decide +kernel
theorem d3_5 : decode jdk_29_method_69_code 5 = .ok (.iload_n 0, 1) := by decide +kernel
theorem d3_6 : decode jdk_29_method_69_code 6 = .ok (.goto 4, 3) := by decide +kernel
theorem d3_9 : decode jdk_29_method_69_code 9 = .ok (.iload_n 1, 1) := by decide +kernel
theorem d3_10 : decode jdk_29_method_69_code 10 = .ok (.ireturn, 1) := by decide +kernel
theorem ef_3 (m : MethodId) (x0 : Int32) (x1 : Int32) : entryFrame m #[(.int x0), (.int x1)] 2 = mkF m 0 #[.val (.int x0), .val (.int x1)] [] := by first | (simp [entryFrame, mkF, argsToLocals, Value.category]; done) | rfl
def Q3 (Z : State) (p1 : Int32) (p2 : Int32) (h0 : Heap) (n0 : Nat) (v : Option Value) (h : Heap) (L : List Loc) : Prop := v = some (.int (f3 p1 p2)) ∧ Fr n0 L ∧ h = h0
set_option maxRecDepth 65536 in
set_option maxHeartbeats 40000000 in
theorem rm3 (l : Launch) (Z : State) (a0 : Array Value) (hw : ∀ d ∈ tables_1, d.before a0 Z = true) (ws : List Jvm.Cond) (p1 : Int32) (p2 : Int32) (h0 : Heap) (n0 : Nat) (Z0 : n0 ≤ h0.size) :
    MetFree l (⟨"java/lang/Math", "min", "(II)I"⟩ : MethodName) (head1 (Jvm.Cond.code (⟨"java/lang/Math", "min", "(II)I"⟩ : MethodName) jdk_29_method_69_code 2 (some .int) :: ws) ({ frames := 0, cells := 0, slots := 0, locals := 0 } : Room)) (fun a U => a = #[(.int p1), (.int p2)] ∧ Z.Warmed39 U.vm ∧ U.heap = h0) (fun _ _ _ _ _ => True) (fun _ U o U' => ∃ v L, o = .returned v ∧ Q3 Z p1 p2 h0 n0 v U'.heap L ∧ FrameEnd U o U' L ({ frames := 0, cells := 0, slots := 0, locals := 0 } : Room).cells ({ frames := 0, cells := 0, slots := 0, locals := 0 } : Room).slots) := by
  refine MetFree.of_bodySF (Jvm.Free.JP.mathPlain rfl (by decide +kernel)) hisR ?_
  intro p e s m args below meth c s₁ Bd hml0 hP hK
  obtain ⟨rfl, hZ, hh⟩ := hP
  have hx := Bd.exec
  have hby := Bd.bytes
  have hml : c.maxLocals = 2 := hml0
  have hown : s.vm.findClass "java/lang/Math" = some m.cls := findClass_of_methodNamed Bd.named
  have hnm := (name_of_methodNamed Bd.named Bd.method).1
  have X0 : Stand p l e ({ frames := 0, cells := 0, slots := 0, locals := 0 } : Room) s m #[(.int p1), (.int p2)] below meth c s₁ [] 0 0 := Stand.of_body Bd
  have e0 : s₁.heap = h0 := by rw [← hh, Bd.state]; rfl
  have N0 := Fr.nil n0
  refine Go.start (ef_3 m p1 p2) ?_
  show Go p e below s₁ (mkF m 0 #[.val (.int p1), .val (.int p2)] []) _
  refine Go.by (fun t k => XS.iloadN X0.here hx rfl (hb hby d3_0) rfl k) ?_
  show Go p e below s₁ (mkF m 1 #[.val (.int p1), .val (.int p2)] [(.int p1)]) _
  refine Go.by (fun t k => XS.iloadN X0.here hx rfl (hb hby d3_1) rfl k) ?_
  show Go p e below s₁ (mkF m 2 #[.val (.int p1), .val (.int p2)] [(.int p2), (.int p1)]) _
  by_cases hc1 : p2 < p1
  · refine Go.by (fun t k => XS.icmpYes X0.here hx rfl (pc0 := 2) (pc' := 9) rfl (hb hby d3_2) rfl (tlt hc1).2.2.1 (by decide) (by decide) k) ?_
    show Go p e below s₁ (mkF m 9 #[.val (.int p1), .val (.int p2)] []) _
    refine Go.by (fun t k => XS.iloadN X0.here hx rfl (hb hby d3_9) rfl k) ?_
    show Go p e below s₁ (mkF m 10 #[.val (.int p1), .val (.int p2)] [(.int p2)]) _
    obtain ⟨fs, hr, hrun, hended, hW, hsame⟩ := X0.leave (v := some (.int p2)) (fun h => by rw [Bd.returns] at h; cases h)
    refine Go.done (retI X0 hx Bd.returns (hb hby d3_10) hr) hrun hended ⟨_, _, rfl, ?_, ⟨_, rfl⟩, hW, hsame.mono (by decide) (by decide)⟩
    show Q3 Z p1 p2 h0 n0 _ s₁.heap _
    rw [e0]
    refine ⟨?_, N0, rfl⟩
    rw [f3, if_pos hc1]
  · refine Go.by (fun t k => XS.icmpNo X0.here hx rfl (hb hby d3_2) rfl (flt hc1).2.2.1 k) ?_
    show Go p e below s₁ (mkF m 5 #[.val (.int p1), .val (.int p2)] []) _
    refine Go.by (fun t k => XS.iloadN X0.here hx rfl (hb hby d3_5) rfl k) ?_
    show Go p e below s₁ (mkF m 6 #[.val (.int p1), .val (.int p2)] [(.int p1)]) _
    refine Go.by (fun t k => XS.goto X0.here hx rfl (pc0 := 6) (pc' := 10) rfl (hb hby d3_6) (by decide) (by decide) k) ?_
    show Go p e below s₁ (mkF m 10 #[.val (.int p1), .val (.int p2)] [(.int p1)]) _
    obtain ⟨fs, hr, hrun, hended, hW, hsame⟩ := X0.leave (v := some (.int p1)) (fun h => by rw [Bd.returns] at h; cases h)
    refine Go.done (retI X0 hx Bd.returns (hb hby d3_10) hr) hrun hended ⟨_, _, rfl, ?_, ⟨_, rfl⟩, hW, hsame.mono (by decide) (by decide)⟩
    show Q3 Z p1 p2 h0 n0 _ s₁.heap _
    rw [e0]
    refine ⟨?_, N0, rfl⟩
    rw [f3, if_neg hc1]
def f7 (q1 : Int64) (q2 : Int64) : Int64 :=
  if q2 < q1 then q2
  else q1
theorem d7_0 : decode jdk_29_method_70_code 0 = .ok (.lload_n 0, 1) := by decide +kernel
theorem d7_1 : decode jdk_29_method_70_code 1 = .ok (.lload_n 2, 1) := by decide +kernel
theorem d7_2 : decode jdk_29_method_70_code 2 = .ok (.lcmp, 1) := by decide +kernel
theorem d7_3 : decode jdk_29_method_70_code 3 = .ok (.ifCond .gt 7, 3) := by decide +kernel
theorem d7_6 : decode jdk_29_method_70_code 6 = .ok (.lload_n 0, 1) := by decide +kernel
theorem d7_7 : decode jdk_29_method_70_code 7 = .ok (.goto 4, 3) := by decide +kernel
theorem d7_10 : decode jdk_29_method_70_code 10 = .ok (.lload_n 2, 1) := by decide +kernel
theorem d7_11 : decode jdk_29_method_70_code 11 = .ok (.lreturn, 1) := by decide +kernel
theorem ef_7 (m : MethodId) (x0 : Int64) (x1 : Int64) : entryFrame m #[(.long x0), (.long x1)] 4 = mkF m 0 #[.val (.long x0), .second, .val (.long x1), .second] [] := by first | (simp [entryFrame, mkF, argsToLocals, Value.category]; done) | rfl
def Q7 (Z : State) (q1 : Int64) (q2 : Int64) (h0 : Heap) (n0 : Nat) (v : Option Value) (h : Heap) (L : List Loc) : Prop := v = some (.long (f7 q1 q2)) ∧ Fr n0 L ∧ h = h0
set_option maxRecDepth 65536 in
set_option maxHeartbeats 40000000 in
theorem rm7 (l : Launch) (Z : State) (a0 : Array Value) (hw : ∀ d ∈ tables_1, d.before a0 Z = true) (ws : List Jvm.Cond) (q1 : Int64) (q2 : Int64) (h0 : Heap) (n0 : Nat) (Z0 : n0 ≤ h0.size) :
    MetFree l (⟨"java/lang/Math", "min", "(JJ)J"⟩ : MethodName) (head1 (Jvm.Cond.code (⟨"java/lang/Math", "min", "(JJ)J"⟩ : MethodName) jdk_29_method_70_code 4 (some .long) :: ws) ({ frames := 0, cells := 0, slots := 0, locals := 0 } : Room)) (fun a U => a = #[(.long q1), (.long q2)] ∧ Z.Warmed39 U.vm ∧ U.heap = h0) (fun _ _ _ _ _ => True) (fun _ U o U' => ∃ v L, o = .returned v ∧ Q7 Z q1 q2 h0 n0 v U'.heap L ∧ FrameEnd U o U' L ({ frames := 0, cells := 0, slots := 0, locals := 0 } : Room).cells ({ frames := 0, cells := 0, slots := 0, locals := 0 } : Room).slots) := by
  refine MetFree.of_bodySF (Jvm.Free.JP.mathPlain rfl (by decide +kernel)) hisR ?_
  intro p e s m args below meth c s₁ Bd hml0 hP hK
  obtain ⟨rfl, hZ, hh⟩ := hP
  have hx := Bd.exec
  have hby := Bd.bytes
  have hml : c.maxLocals = 4 := hml0
  have hown : s.vm.findClass "java/lang/Math" = some m.cls := findClass_of_methodNamed Bd.named
  have hnm := (name_of_methodNamed Bd.named Bd.method).1
  have X0 : Stand p l e ({ frames := 0, cells := 0, slots := 0, locals := 0 } : Room) s m #[(.long q1), (.long q2)] below meth c s₁ [] 0 0 := Stand.of_body Bd
  have e0 : s₁.heap = h0 := by rw [← hh, Bd.state]; rfl
  have N0 := Fr.nil n0
  refine Go.start (ef_7 m q1 q2) ?_
  show Go p e below s₁ (mkF m 0 #[.val (.long q1), .second, .val (.long q2), .second] []) _
  refine Go.by (fun t k => XS.lloadN X0.here hx rfl (hb hby d7_0) rfl k) ?_
  show Go p e below s₁ (mkF m 1 #[.val (.long q1), .second, .val (.long q2), .second] [(.long q1)]) _
  refine Go.by (fun t k => XS.lloadN X0.here hx rfl (hb hby d7_1) rfl k) ?_
  show Go p e below s₁ (mkF m 2 #[.val (.long q1), .second, .val (.long q2), .second] [(.long q2), (.long q1)]) _
  refine Go.by (fun t k => XS.lcmp X0.here hx rfl (hb hby d7_2) rfl k) ?_
  show Go p e below s₁ (mkF m 3 #[.val (.long q1), .second, .val (.long q2), .second] [(.int (lcmpW q1 q2))]) _
  by_cases hc1 : q2 < q1
  · refine Go.by (fun t k => XS.ifYes X0.here hx rfl (pc0 := 3) (pc' := 10) rfl (hb hby d7_3) rfl (ctlt hc1).2.2.1 (by decide) (by decide) k) ?_
    show Go p e below s₁ (mkF m 10 #[.val (.long q1), .second, .val (.long q2), .second] []) _
    refine Go.by (fun t k => XS.lloadN X0.here hx rfl (hb hby d7_10) rfl k) ?_
    show Go p e below s₁ (mkF m 11 #[.val (.long q1), .second, .val (.long q2), .second] [(.long q2)]) _
    obtain ⟨fs, hr, hrun, hended, hW, hsame⟩ := X0.leave (v := some (.long q2)) (fun h => by rw [Bd.returns] at h; cases h)
    refine Go.done (retJ X0 hx Bd.returns (hb hby d7_11) hr) hrun hended ⟨_, _, rfl, ?_, ⟨_, rfl⟩, hW, hsame.mono (by decide) (by decide)⟩
    show Q7 Z q1 q2 h0 n0 _ s₁.heap _
    rw [e0]
    refine ⟨?_, N0, rfl⟩
    rw [f7, if_pos hc1]
  · refine Go.by (fun t k => XS.ifNo X0.here hx rfl (hb hby d7_3) rfl (cflt hc1).2.2.1 k) ?_
    show Go p e below s₁ (mkF m 6 #[.val (.long q1), .second, .val (.long q2), .second] []) _
    refine Go.by (fun t k => XS.lloadN X0.here hx rfl (hb hby d7_6) rfl k) ?_
    show Go p e below s₁ (mkF m 7 #[.val (.long q1), .second, .val (.long q2), .second] [(.long q1)]) _
    refine Go.by (fun t k => XS.goto X0.here hx rfl (pc0 := 7) (pc' := 11) rfl (hb hby d7_7) (by decide) (by decide) k) ?_
    show Go p e below s₁ (mkF m 11 #[.val (.long q1), .second, .val (.long q2), .second] [(.long q1)]) _
    obtain ⟨fs, hr, hrun, hended, hW, hsame⟩ := X0.leave (v := some (.long q1)) (fun h => by rw [Bd.returns] at h; cases h)
    refine Go.done (retJ X0 hx Bd.returns (hb hby d7_11) hr) hrun hended ⟨_, _, rfl, ?_, ⟨_, rfl⟩, hW, hsame.mono (by decide) (by decide)⟩
    show Q7 Z q1 q2 h0 n0 _ s₁.heap _
    rw [e0]
    refine ⟨?_, N0, rfl⟩
    rw [f7, if_neg hc1]
def f4 (q1 : Int64) (q2 : Int64) (p3 : Int32) : Int64 :=
  (q1 + ((p3.toInt64) * q2))
theorem d4_0 : decode method_2_code 0 = .ok (.lload_n 0, 1) := by decide +kernel
theorem d4_1 : decode method_2_code 1 = .ok (.iload 4, 2) := by decide +kernel
theorem d4_3 : decode method_2_code 3 = .ok (.i2l, 1) := by decide +kernel
theorem d4_4 : decode method_2_code 4 = .ok (.lload_n 2, 1) := by decide +kernel
theorem d4_5 : decode method_2_code 5 = .ok (.lmul, 1) := by decide +kernel
theorem d4_6 : decode method_2_code 6 = .ok (.ladd, 1) := by decide +kernel
theorem d4_7 : decode method_2_code 7 = .ok (.lreturn, 1) := by decide +kernel
theorem pn_0 : plainName "com/example/pagecast/pagecast/push/StartsGetPinLaw" = true := by first | (simp [plainName, overriddenIn]; done) | decide +kernel
theorem ef_4 (m : MethodId) (x0 : Int64) (x1 : Int64) (x2 : Int32) : entryFrame m #[(.long x0), (.long x1), (.int x2)] 5 = mkF m 0 #[.val (.long x0), .second, .val (.long x1), .second, .val (.int x2)] [] := by first | (simp [entryFrame, mkF, argsToLocals, Value.category]; done) | rfl
def Q4 (Z : State) (q1 : Int64) (q2 : Int64) (p3 : Int32) (h0 : Heap) (n0 : Nat) (v : Option Value) (h : Heap) (L : List Loc) : Prop := v = some (.long (f4 q1 q2 p3)) ∧ Fr n0 L ∧ h = h0
set_option maxRecDepth 65536 in
set_option maxHeartbeats 40000000 in
theorem rm4 (l : Launch) (Z : State) (a0 : Array Value) (hw : ∀ d ∈ tables_1, d.before a0 Z = true) (ws : List Jvm.Cond) (q1 : Int64) (q2 : Int64) (p3 : Int32) (h0 : Heap) (n0 : Nat) (Z0 : n0 ≤ h0.size) :
    MetFree l (⟨"com/example/pagecast/pagecast/push/StartsGetPinLaw", "v", "(JJI)J"⟩ : MethodName) (head1 (Jvm.Cond.code (⟨"com/example/pagecast/pagecast/push/StartsGetPinLaw", "v", "(JJI)J"⟩ : MethodName) method_2_code 5 (some .long) :: ws) ({ frames := 0, cells := 0, slots := 0, locals := 0 } : Room)) (fun a U => a = #[(.long q1), (.long q2), (.int p3)] ∧ Z.Warmed39 U.vm ∧ U.heap = h0) (fun _ _ _ _ _ => True) (fun _ U o U' => ∃ v L, o = .returned v ∧ Q4 Z q1 q2 p3 h0 n0 v U'.heap L ∧ FrameEnd U o U' L ({ frames := 0, cells := 0, slots := 0, locals := 0 } : Room).cells ({ frames := 0, cells := 0, slots := 0, locals := 0 } : Room).slots) := by
  refine MetFree.of_bodySF (plainFor_of_name pn_0) hisR ?_
  intro p e s m args below meth c s₁ Bd hml0 hP hK
  obtain ⟨rfl, hZ, hh⟩ := hP
  have hx := Bd.exec
  have hby := Bd.bytes
  have hml : c.maxLocals = 5 := hml0
  have hown : s.vm.findClass "com/example/pagecast/pagecast/push/StartsGetPinLaw" = some m.cls := findClass_of_methodNamed Bd.named
  have hnm := (name_of_methodNamed Bd.named Bd.method).1
  have X0 : Stand p l e ({ frames := 0, cells := 0, slots := 0, locals := 0 } : Room) s m #[(.long q1), (.long q2), (.int p3)] below meth c s₁ [] 0 0 := Stand.of_body Bd
  have e0 : s₁.heap = h0 := by rw [← hh, Bd.state]; rfl
  have N0 := Fr.nil n0
  refine Go.start (ef_4 m q1 q2 p3) ?_
  show Go p e below s₁ (mkF m 0 #[.val (.long q1), .second, .val (.long q2), .second, .val (.int p3)] []) _
  refine Go.by (fun t k => XS.lloadN X0.here hx rfl (hb hby d4_0) rfl k) ?_
  show Go p e below s₁ (mkF m 1 #[.val (.long q1), .second, .val (.long q2), .second, .val (.int p3)] [(.long q1)]) _
  refine Go.by (fun t k => XS.iload X0.here hx rfl (hb hby d4_1) rfl k) ?_
  show Go p e below s₁ (mkF m 3 #[.val (.long q1), .second, .val (.long q2), .second, .val (.int p3)] [(.int p3), (.long q1)]) _
  refine Go.by (fun t k => XS.i2l X0.here hx rfl (hb hby d4_3) rfl k) ?_
  show Go p e below s₁ (mkF m 4 #[.val (.long q1), .second, .val (.long q2), .second, .val (.int p3)] [(.long (p3.toInt64)), (.long q1)]) _
  refine Go.by (fun t k => XS.lloadN X0.here hx rfl (hb hby d4_4) rfl k) ?_
  show Go p e below s₁ (mkF m 5 #[.val (.long q1), .second, .val (.long q2), .second, .val (.int p3)] [(.long q2), (.long (p3.toInt64)), (.long q1)]) _
  refine Go.by (fun t k => XS.lmul X0.here hx rfl (hb hby d4_5) rfl k) ?_
  show Go p e below s₁ (mkF m 6 #[.val (.long q1), .second, .val (.long q2), .second, .val (.int p3)] [(.long ((p3.toInt64) * q2)), (.long q1)]) _
  refine Go.by (fun t k => XS.ladd X0.here hx rfl (hb hby d4_6) rfl k) ?_
  show Go p e below s₁ (mkF m 7 #[.val (.long q1), .second, .val (.long q2), .second, .val (.int p3)] [(.long (q1 + ((p3.toInt64) * q2)))]) _
  obtain ⟨fs, hr, hrun, hended, hW, hsame⟩ := X0.leave (v := some (.long (q1 + ((p3.toInt64) * q2)))) (fun h => by rw [Bd.returns] at h; cases h)
  refine Go.done (retJ X0 hx Bd.returns (hb hby d4_7) hr) hrun hended ⟨_, _, rfl, ?_, ⟨_, rfl⟩, hW, hsame.mono (by decide) (by decide)⟩
  show Q4 Z q1 q2 p3 h0 n0 _ s₁.heap _
  rw [e0]
  refine ⟨?_, N0, rfl⟩
  rw [f4]
def own_len (K : Int) (c : Nat) : Int := if c ≤ 4 then min K 4 else min K 8
def own_Ring (Z : State) (h : Heap) (n0 : Nat) (a fa : Addr) (K : Int32) (c : Nat) (val : Nat → Int64) (lv : Value) : Prop :=
  ((c : Int) ≤ K.toInt ∧ lv = .null) ∨ (K.toInt < (c : Int) ∧ ∃ (la : Addr) (cl : Cell), lv = .ref la ∧ n0 ≤ la ∧ la ≠ a ∧ la ≠ fa ∧ Arr Z h la cl .long ∧ cl.slots.size = K.toNatClampNeg ∧
    ∀ i : Nat, K.toNatClampNeg ≤ i → i < c → c ≤ i + K.toNatClampNeg → cl.slots[i % K.toNatClampNeg]? = some (.long (val i)))
def own_Inv (Z : State) (h : Heap) (n0 : Nat) (a : Addr) (K : Int32) (c : Nat) (val : Nat → Int64) : Prop :=
  ∃ (fa : Addr) (cf : Cell) (zf cc : Int32) (lv : Value), Exa Z h a "com/example/pagecast/pagecast/push/Starts" ∧ Fld Z h a "com/example/pagecast/pagecast/push/Starts" "keep" "I" (.int K) ∧ Fld Z h a "com/example/pagecast/pagecast/push/Starts" "count" "I" (.int cc) ∧ Fld Z h a "com/example/pagecast/pagecast/push/Starts" "first" "[J" (.ref fa) ∧ Fld Z h a "com/example/pagecast/pagecast/push/Starts" "last" "[J" lv ∧
    cc.toInt = (c : Int) ∧ n0 ≤ fa ∧ fa ≠ a ∧ Arr Z h fa cf .long ∧ cf.slots.size = zf.toNatClampNeg ∧ ¬ zf < 0 ∧ zf.toInt = own_len K.toInt c ∧
    (∀ i : Nat, i < c → (i : Int) < K.toInt → cf.slots[i]? = some (.long (val i))) ∧ own_Ring Z h n0 a fa K c val lv
theorem own_exa {Z : State} {h : Heap} {n0 : Nat} {a : Addr} {K : Int32} {c : Nat} {val : Nat → Int64} (I : own_Inv Z h n0 a K c val) : Exa Z h a "com/example/pagecast/pagecast/push/Starts" := by
  obtain ⟨_, _, _, _, _, E, -⟩ := I; exact E
theorem own_lt0 (x : Int32) : x < 0 ↔ x.toInt < 0 := by
  rw [Int32.lt_iff_toInt_lt]; exact Iff.rfl
theorem own_inb {cc : Int32} {sz c : Nat} (h : cc.toInt = (c : Int)) (q : c < sz) : ¬ (cc < 0 ∨ sz ≤ cc.toNatClampNeg) := by
  have e : cc.toNatClampNeg = cc.toInt.toNat := rfl
  rw [own_lt0, e]; omega
theorem own_inc {cc : Int32} {c : Nat} (h : cc.toInt = (c : Int)) (q : c < 100) : (cc + (1 : Int32)).toInt = ((c + 1 : Nat) : Int) := by
  have o : (1 : Int32).toInt = 1 := rfl
  rw [Jvm.Kit.i32_add (by omega) (by omega)]; omega
theorem own_ss (c : Cell) (i : Nat) (v : Value) : (c.setSlot i v).slots.size = c.slots.size := sz_set c i v
theorem own_other (c : Cell) (i j : Nat) (v : Value) (h : i ≠ j) : (c.setSlot i v).slots[j]? = c.slots[j]? := by
  show (c.slots.setIfInBounds i v)[j]? = _
  rw [Array.getElem?_setIfInBounds_ne h]
theorem own_self (c : Cell) (i : Nat) (v : Value) (h : i < c.slots.size) : (c.setSlot i v).slots[i]? = some v := by
  show (c.slots.setIfInBounds i v)[i]? = _
  simp [h]
theorem own_nat {cc : Int32} {c : Nat} (h : cc.toInt = (c : Int)) : cc.toNatClampNeg = c := by
  have e : cc.toNatClampNeg = cc.toInt.toNat := rfl
  rw [e]; omega
theorem own_vals {cf : Cell} {cc K : Int32} {c : Nat} {val : Nat → Int64} {q : Int64} (hcc : cc.toInt = (c : Int)) (hs : c < cf.slots.size) (hv : ∀ i : Nat, i < c → (i : Int) < K.toInt → cf.slots[i]? = some (.long (val i))) (hq : q = val c) :
    ∀ i : Nat, i < c + 1 → (i : Int) < K.toInt → (cf.setSlot cc.toNatClampNeg (.long q)).slots[i]? = some (.long (val i)) := by
  intro i h1 h2
  rw [own_nat hcc]
  by_cases e : i = c
  · subst e; rw [own_self _ _ _ hs, hq]
  · rw [own_other _ _ _ _ (fun r => e r.symm)]; exact hv i (by omega) h2
theorem own_ringB {cl : Cell} {cc K : Int32} {c : Nat} {val : Nat → Int64} {q : Int64} (j : Int32) (hj : j.toNatClampNeg = c % K.toNatClampNeg) (hK : 0 < K.toNatClampNeg) (hs : cl.slots.size = K.toNatClampNeg)
    (hv : ∀ i : Nat, K.toNatClampNeg ≤ i → i < c → c + 1 ≤ i + K.toNatClampNeg → cl.slots[i % K.toNatClampNeg]? = some (.long (val i))) (hq : q = val c) :
    ∀ i : Nat, K.toNatClampNeg ≤ i → i < c + 1 → c + 1 ≤ i + K.toNatClampNeg → (cl.setSlot j.toNatClampNeg (.long q)).slots[i % K.toNatClampNeg]? = some (.long (val i)) := by
  intro i h1 h2 h3
  rw [hj]
  by_cases e : i = c
  · subst e; rw [own_self _ _ _ (by rw [hs]; exact Nat.mod_lt _ hK), hq]
  · rw [own_other _ _ _ _ ?_]
    · exact hv i h1 (by omega) h3
    · intro r
      have e1 := Nat.div_add_mod c K.toNatClampNeg
      have e2 := Nat.div_add_mod i K.toNatClampNeg
      rw [r] at e1
      have hlt : i < c := by omega
      have hd : i / K.toNatClampNeg ≤ c / K.toNatClampNeg := Nat.div_le_div_right (by omega)
      rcases Nat.lt_or_ge (i / K.toNatClampNeg) (c / K.toNatClampNeg) with g | g
      · have m : K.toNatClampNeg * (i / K.toNatClampNeg + 1) ≤ K.toNatClampNeg * (c / K.toNatClampNeg) := Nat.mul_le_mul_left _ g
        rw [Nat.mul_add, Nat.mul_one] at m
        omega
      · have g2 : i / K.toNatClampNeg = c / K.toNatClampNeg := by omega
        rw [g2] at e2; omega
theorem own_rem {cc K : Int32} {c : Nat} (h : cc.toInt = (c : Int)) (hK : 1 ≤ K.toInt) : (cc % K).toNatClampNeg = c % K.toNatClampNeg ∧ ¬ (cc % K) < 0 ∧ c % K.toNatClampNeg < K.toNatClampNeg := by
  have e : (cc % K).toInt = cc.toInt % K.toInt := Jvm.Kit.i32_rem_nonneg (by omega)
  have eK : K.toNatClampNeg = K.toInt.toNat := rfl
  have e1 : (cc % K).toNatClampNeg = (cc % K).toInt.toNat := rfl
  have kk : K.toInt = ((K.toInt.toNat : Nat) : Int) := by omega
  have e2 : (cc % K).toInt = ((c % K.toInt.toNat : Nat) : Int) := by rw [e, h, kk, Int.natCast_emod]; simp
  refine ⟨by rw [e1, e2, eK, Int.toNat_natCast], by rw [own_lt0, e2]; exact Int.not_lt.mpr (Int.natCast_nonneg _), by rw [eK]; exact Nat.mod_lt _ (by omega)⟩
theorem own_ne0 {K : Int32} (h : 1 ≤ K.toInt) : K ≠ 0 := fun q => by rw [q] at h; exact absurd h (by decide)

theorem own_minI (x y : Int32) : (f3 x y).toInt = min x.toInt y.toInt := by
  rw [f3]
  simp only [Int32.lt_iff_toInt_lt]
  split <;> omega
theorem own_min4 (p : Int32) (h : 5 ≤ p.toInt) : f3 (4 : Int32) p = (4 : Int32) := by
  have o : (4 : Int32).toInt = 4 := rfl
  apply Int32.toInt_inj.mp
  rw [own_minI, o]; omega
theorem own_newlen (K zf : Int32) (hz : zf.toInt = 4) (hK : 5 ≤ K.toInt) : ((f7 K.toInt64 ((2 : Int64) * zf.toInt64)).toInt32).toInt = min K.toInt 8 := by
  have b := K.toInt_lt
  have e1 := Jvm.Kit.i64_of_i32 K
  have e2 := Jvm.Kit.i64_of_i32 zf
  have o : (2 : Int64).toInt = 2 := rfl
  have pp : (2 : Int64).toInt * zf.toInt64.toInt = 8 := by rw [o, e2, hz]; rfl
  have e3 : ((2 : Int64) * zf.toInt64).toInt = 8 := by rw [Jvm.Kit.i64_mul (by omega) (by omega)]; exact pp
  have e4 : (f7 K.toInt64 ((2 : Int64) * zf.toInt64)).toInt = min K.toInt 8 := by
    rw [f7]
    simp only [Int64.lt_iff_toInt_lt, e1, e3]
    split <;> omega
  rw [Jvm.Kit.i32_of_i64 (by omega) (by omega), e4]
theorem own_m4 (K : Int32) (h : 1 ≤ K.toInt) : ¬ f3 K (4 : Int32) < 0 ∧ (f3 K (4 : Int32)).toNatClampNeg ≤ 4 := by
  have o : (4 : Int32).toInt = 4 := rfl
  have e := own_minI K 4
  refine ⟨by rw [own_lt0]; omega, ?_⟩
  show (f3 K (4 : Int32)).toInt.toNat ≤ 4
  omega
theorem pd_0 : parseMethodDescriptor "(II)I" = some ⟨[.int, .int], some .int⟩ := by decide +kernel
theorem d1_0 : decode prog_91_method_1_code 0 = .ok (.aload_n 0, 1) := by decide +kernel
theorem d1_1 : decode prog_91_method_1_code 1 = .ok (.invokespecial 1, 3) := by decide +kernel
theorem d1_4 : decode prog_91_method_1_code 4 = .ok (.aload_n 0, 1) := by decide +kernel
theorem d1_5 : decode prog_91_method_1_code 5 = .ok (.iload_n 1, 1) := by decide +kernel
theorem d1_6 : decode prog_91_method_1_code 6 = .ok (.putfield 7, 3) := by decide +kernel
theorem d1_9 : decode prog_91_method_1_code 9 = .ok (.aload_n 0, 1) := by decide +kernel
theorem d1_10 : decode prog_91_method_1_code 10 = .ok (.iload_n 1, 1) := by decide +kernel
theorem d1_11 : decode prog_91_method_1_code 11 = .ok (.iconst 4, 1) := by decide +kernel
theorem d1_12 : decode prog_91_method_1_code 12 = .ok (.invokestatic 13, 3) := by decide +kernel
theorem d1_15 : decode prog_91_method_1_code 15 = .ok (.newarray .long, 2) := by decide +kernel
theorem d1_17 : decode prog_91_method_1_code 17 = .ok (.putfield 19, 3) := by decide +kernel
theorem d1_20 : decode prog_91_method_1_code 20 = .ok (.return_, 1) := by decide +kernel
theorem pn_1 : plainName "com/example/pagecast/pagecast/push/Starts" = true := by first | (simp [plainName, overriddenIn]; done) | decide +kernel
theorem ef_1 (m : MethodId) (x0 : Addr) (x1 : Int32) : entryFrame m #[(.ref x0), (.int x1)] 2 = mkF m 0 #[.val (.ref x0), .val (.int x1)] [] := by first | (simp [entryFrame, mkF, argsToLocals, Value.category]; done) | rfl
def Q1 (Z : State) (a1 : Addr) (p2 : Int32) (val : Nat → Int64) (u1 : Value) (u2 : Value) (h0 : Heap) (n0 : Nat) (v : Option Value) (h : Heap) (L : List Loc) : Prop := v = none ∧ Fr n0 L ∧ n0 ≤ h.size ∧ own_Inv Z h n0 a1 p2 0 val
set_option maxRecDepth 65536 in
set_option maxHeartbeats 40000000 in
theorem rm1 (l : Launch) (Z : State) (a0 : Array Value) (hw : ∀ d ∈ tables_1, d.before a0 Z = true) (ws : List Jvm.Cond) (a1 : Addr) (p2 : Int32) (val : Nat → Int64) (u1 : Value) (u2 : Value) (h0 : Heap) (n0 : Nat) (Z0 : n0 ≤ h0.size) (E1 : Exa Z h0 a1 "com/example/pagecast/pagecast/push/Starts") (F_keep : Fld Z h0 a1 "com/example/pagecast/pagecast/push/Starts" "keep" "I" u1) (F_first : Fld Z h0 a1 "com/example/pagecast/pagecast/push/Starts" "first" "[J" u2) (F_count : Fld Z h0 a1 "com/example/pagecast/pagecast/push/Starts" "count" "I" (.int (0 : Int32))) (F_last : Fld Z h0 a1 "com/example/pagecast/pagecast/push/Starts" "last" "[J" .null) (g1 : n0 ≤ a1) (hK1 : 1 ≤ p2.toInt) (hK2 : p2.toInt ≤ 1073741824) :
    MetFree l (⟨"com/example/pagecast/pagecast/push/Starts", "<init>", "(I)V"⟩ : MethodName) (head1 (Jvm.Cond.code (⟨"com/example/pagecast/pagecast/push/Starts", "<init>", "(I)V"⟩ : MethodName) prog_91_method_1_code 2 none :: ws) ({ frames := 1, cells := 1, slots := 4, locals := 14 } : Room)) (fun a U => a = #[(.ref a1), (.int p2)] ∧ Z.Warmed39 U.vm ∧ U.heap = h0) (fun _ _ _ _ _ => True) (fun _ U o U' => ∃ v L, o = .returned v ∧ Q1 Z a1 p2 val u1 u2 h0 n0 v U'.heap L ∧ FrameEnd U o U' L ({ frames := 1, cells := 1, slots := 4, locals := 14 } : Room).cells ({ frames := 1, cells := 1, slots := 4, locals := 14 } : Room).slots) := by
  refine MetFree.of_bodySF (plainFor_of_name pn_1) hisR ?_
  intro p e s m args below meth c s₁ Bd hml0 hP hK
  obtain ⟨rfl, hZ, hh⟩ := hP
  have hx := Bd.exec
  have hby := Bd.bytes
  have hml : c.maxLocals = 2 := hml0
  have hown : s.vm.findClass "com/example/pagecast/pagecast/push/Starts" = some m.cls := findClass_of_methodNamed Bd.named
  have hnm := (name_of_methodNamed Bd.named Bd.method).1
  have X0 : Stand p l e ({ frames := 1, cells := 1, slots := 4, locals := 14 } : Room) s m #[(.ref a1), (.int p2)] below meth c s₁ [] 0 0 := Stand.of_body Bd
  have e0 : s₁.heap = h0 := by rw [← hh, Bd.state]; rfl
  have N0 := Fr.nil n0
  refine Go.start (ef_1 m a1 p2) ?_
  show Go p e below s₁ (mkF m 0 #[.val (.ref a1), .val (.int p2)] []) _
  refine Go.by (fun t k => XS.aloadN X0.here hx rfl (hb hby d1_0) rfl rfl k) ?_
  show Go p e below s₁ (mkF m 1 #[.val (.ref a1), .val (.int p2)] [(.ref a1)]) _
  obtain ⟨T1, X1, e1, st1⟩ := initO X0 hx hZ hown (hw _ (List.mem_of_getElem? (i := 6) rfl)) (hw _ (List.mem_of_getElem? (i := 7) rfl)) (hw _ (List.mem_of_getElem? (i := 8) rfl)) e0 (g := (mkF m 1 #[.val (.ref a1), .val (.int p2)] [(.ref a1)])) rfl (by rw [hml]; rfl) rfl (hb hby d1_1) (by decide) (W := 0) (by show 2 * 0 + _ ≤ _; exact Nat.le_of_eq rfl) (by decide)
  refine Go.by st1 ?_
  show Go p e below T1 (mkF m 4 #[.val (.ref a1), .val (.int p2)] []) _
  refine Go.by (fun t k => XS.aloadN X1.here hx rfl (hb hby d1_4) rfl rfl k) ?_
  show Go p e below T1 (mkF m 5 #[.val (.ref a1), .val (.int p2)] [(.ref a1)]) _
  refine Go.by (fun t k => XS.iloadN X1.here hx rfl (hb hby d1_5) rfl k) ?_
  show Go p e below T1 (mkF m 6 #[.val (.ref a1), .val (.int p2)] [(.int p2), (.ref a1)]) _
  obtain ⟨T2, h2, X2, e2, W2, st2⟩ := putF X1 hx hZ hown (host := "") (Or.inl (hw _ (List.mem_of_getElem? (i := 9) rfl))) Via.refl e1 F_keep E1 (Or.inr ⟨(hw _ (List.mem_of_getElem? (i := 10) rfl)), rfl, hnm⟩) (hw _ (List.mem_of_getElem? (i := 1) rfl)) (ty := .int) (by decide) rfl rfl (g := (mkF m 6 #[.val (.ref a1), .val (.int p2)] [(.int p2), (.ref a1)])) rfl rfl (hb hby d1_6)
  have F2 := F_keep.same W2
  have N2 := Fr.snoc X2 N0 g1
  have Z2 : n0 ≤ h2.size := by rw [W2.size]; exact Z0
  refine Go.by st2 ?_
  show Go p e below T2 (mkF m 9 #[.val (.ref a1), .val (.int p2)] []) _
  refine Go.by (fun t k => XS.aloadN X2.here hx rfl (hb hby d1_9) rfl rfl k) ?_
  show Go p e below T2 (mkF m 10 #[.val (.ref a1), .val (.int p2)] [(.ref a1)]) _
  refine Go.by (fun t k => XS.iloadN X2.here hx rfl (hb hby d1_10) rfl k) ?_
  show Go p e below T2 (mkF m 11 #[.val (.ref a1), .val (.int p2)] [(.int p2), (.ref a1)]) _
  refine Go.by (fun t k => XS.iconst X2.here hx rfl (hb hby d1_11) k) ?_
  show Go p e below T2 (mkF m 12 #[.val (.ref a1), .val (.int p2)] [(.int (4 : Int32)), (.int p2), (.ref a1)]) _
  obtain ⟨_, _, ⟨T3, L3, k3, n3⟩, -, X3, ⟨Lc3, hQ3, l3, y3, z3⟩, st3⟩ := Jvm.LawKit.callS X2 hx (y := (⟨"java/lang/Math", "min", "(II)I"⟩ : MethodName)) hown (mvT hZ (hw _ (List.mem_of_getElem? (i := 11) rfl))) (mvT hZ (hw _ (List.mem_of_getElem? (i := 12) rfl))) (mvT hZ (hw _ (List.mem_of_getElem? (i := 13) rfl))) (mvT hZ (hw _ (List.mem_of_getElem? (i := 14) rfl))) (by decide) (backOf (W := 1) (rm3 l Z a0 hw [] p2 (4 : Int32) h2 n0 Z2) hZ (hw _ (List.mem_of_getElem? (i := 14) rfl)) (hw _ (List.mem_of_getElem? (i := 13) rfl)) (by decide) (by decide)) (g := (mkF m 12 #[.val (.ref a1), .val (.int p2)] [(.int (4 : Int32)), (.int p2), (.ref a1)])) rfl (by rw [hml]; rfl) (argsL := [(.int p2), (.int (4 : Int32))]) (rest := [(.ref a1)]) (lenOf pd_0 rfl) rfl (by show 2 * 0 + _ ≤ _; exact Nat.le_of_eq rfl) (hb hby d1_12) (fun _ _ => ⟨rfl, e2, (by decide : 0 + 0 ≤ _), (by decide : 0 + 0 ≤ _)⟩)
  dsimp only [Pt.U, Pt.locs, Pt.cells, Pt.slots] at X3 l3 y3 z3 st3 hQ3
  subst l3 y3 z3
  obtain ⟨rfl, N3q, e3q⟩ := hQ3
  have N3 := Fr.app N2 N3q
  refine Go.by st3 ?_
  show Go p e below T3 (mkF m 15 #[.val (.ref a1), .val (.int p2)] [(.int (f3 p2 (4 : Int32))), (.ref a1)]) _
  obtain ⟨T4, h4, k4, X4, e4, E4, A4, st4⟩ := newP X3 hx hZ (hw _ (List.mem_of_getElem? (i := 15) rfl)) e3q (g := (mkF m 15 #[.val (.ref a1), .val (.int p2)] [(.int (f3 p2 (4 : Int32))), (.ref a1)])) rfl (hb hby d1_15) rfl (own_m4 p2 hK1).1 (cap := 4) (own_m4 p2 hK1).2 (by decide) (by decide) (by decide)
  obtain ⟨b4, g4⟩ : ∃ z, z = h2.size := ⟨_, rfl⟩
  rw [← g4] at A4 st4
  have gn4 : n0 ≤ b4 := Nat.le_trans Z2 (Nat.le_of_eq g4.symm)
  have fa5 := E1.wr W2
  have ne_a1_b4 : a1 ≠ b4 := Nat.ne_of_lt (Nat.lt_of_lt_of_le fa5.lt (Nat.le_of_eq g4.symm))
  have Z4 : n0 ≤ h4.size := Nat.le_trans Z2 E4.1
  have V4 := Arv.new A4 (own_m4 p2 hK1).1
  refine Go.by st4 ?_
  show Go p e below T4 (mkF m 17 #[.val (.ref a1), .val (.int p2)] [(.ref b4), (.ref a1)]) _
  have fa6 := F_first.other W2 (Or.inr (slot_ne (Or.inl (hw _ (List.mem_of_getElem? (i := 17) rfl))) (Or.inr (hw _ (List.mem_of_getElem? (i := 10) rfl))) (by decide) (t := (.array .long)) (t' := .int) (by decide) (by decide)))
  have fa7 := fa6.ext E4
  have fa8 := fa5.ext E4
  obtain ⟨T9, h9, X9, e9, W9, st9⟩ := putF X4 hx hZ hown (host := "") (Or.inl (hw _ (List.mem_of_getElem? (i := 16) rfl))) Via.refl e4 fa7 fa8 (Or.inl (hw _ (List.mem_of_getElem? (i := 17) rfl))) (hw _ (List.mem_of_getElem? (i := 1) rfl)) (ty := (.array .long)) (by decide) rfl rfl (g := (mkF m 17 #[.val (.ref a1), .val (.int p2)] [(.ref b4), (.ref a1)])) rfl rfl (hb hby d1_17)
  have F9 := fa7.same W9
  have N9 := Fr.snoc X9 N3 g1
  have Z9 : n0 ≤ h9.size := by rw [W9.size]; exact Z4
  refine Go.by st9 ?_
  show Go p e below T9 (mkF m 20 #[.val (.ref a1), .val (.int p2)] []) _
  obtain ⟨fs, hr, hrun, hended, hW, hsame⟩ := X9.leave (v := none) (fun _ => rfl)
  refine Go.done (X9.returnOut hx Bd.returns (hb hby d1_20) hr) hrun hended ⟨_, _, rfl, ?_, ⟨_, rfl⟩, hW, hsame.mono (by decide) (by decide)⟩
  show Q1 Z a1 p2 val u1 u2 h0 n0 _ T9.heap _
  rw [e9]
  have fa10 := fa8.wr W9
  have fa11 := F2.ext E4
  have fa12 := fa11.other W9 (Or.inr (slot_ne (Or.inr (hw _ (List.mem_of_getElem? (i := 10) rfl))) (Or.inl (hw _ (List.mem_of_getElem? (i := 17) rfl))) (by decide) (t := .int) (t' := (.array .long)) (by decide) (by decide)))
  have fa13 := F_count.other W2 (Or.inr (slot_ne (Or.inl (hw _ (List.mem_of_getElem? (i := 28) rfl))) (Or.inr (hw _ (List.mem_of_getElem? (i := 10) rfl))) (by decide) (t := .int) (t' := .int) (by decide) (by decide)))
  have fa14 := fa13.ext E4
  have fa15 := fa14.other W9 (Or.inr (slot_ne (Or.inl (hw _ (List.mem_of_getElem? (i := 28) rfl))) (Or.inl (hw _ (List.mem_of_getElem? (i := 17) rfl))) (by decide) (t := .int) (t' := (.array .long)) (by decide) (by decide)))
  have fa16 := F_last.other W2 (Or.inr (slot_ne (Or.inl (hw _ (List.mem_of_getElem? (i := 30) rfl))) (Or.inr (hw _ (List.mem_of_getElem? (i := 10) rfl))) (by decide) (t := (.array .long)) (t' := .int) (by decide) (by decide)))
  have fa17 := fa16.ext E4
  have fa18 := fa17.other W9 (Or.inr (slot_ne (Or.inl (hw _ (List.mem_of_getElem? (i := 30) rfl))) (Or.inl (hw _ (List.mem_of_getElem? (i := 17) rfl))) (by decide) (t := (.array .long)) (t' := (.array .long)) (by decide) (by decide)))
  have fa19 := V4.other W9 (Ne.symm ne_a1_b4)
  obtain ⟨cf, Af, -, Sf, Mf, -, -⟩ := fa19
  refine ⟨rfl, N9, Z9, b4, cf, f3 p2 (4 : Int32), (0 : Int32), .null, fa10, fa12, fa15, F9, fa18, rfl, gn4, (Ne.symm ne_a1_b4), Af, Sf, Mf, ?_, fun i h => absurd h (Nat.not_lt_zero i), Or.inl ⟨?_, rfl⟩⟩
  · rw [own_minI]; exact rfl
  · show (((0 : Nat) : Int)) ≤ p2.toInt; omega
theorem own_has4 {cl : Cell} {x0 x1 x2 x3 : Int64} (S : cl.slots.size = (4 : Int32).toNatClampNeg) (h0 : cl.slots[0]? = some (.long x0)) (h1 : cl.slots[1]? = some (.long x1)) (h2 : cl.slots[2]? = some (.long x2)) (h3 : cl.slots[3]? = some (.long x3)) : Has cl [.long x0, .long x1, .long x2, .long x3] (.long (0 : Int64)) := by
  have e : (4 : Int32).toNatClampNeg = 4 := rfl
  intro k hk
  rw [S, e] at hk
  rcases (by omega : k = 0 ∨ k = 1 ∨ k = 2 ∨ k = 3) with rfl | rfl | rfl | rfl
  · exact h0
  · exact h1
  · exact h2
  · exact h3
theorem own_fits4 (x0 x1 x2 x3 : Int64) (i : Nat) : fits .long (([.long x0, .long x1, .long x2, .long x3] : List Value).getD i (.long (0 : Int64))) = true := by
  match i with
  | 0 => rfl
  | 1 => rfl
  | 2 => rfl
  | 3 => rfl
  | _ + 4 => rfl
theorem own_ge4' (p : Int32) (h : 5 ≤ p.toInt) : 4 ≤ p.toNatClampNeg := by
  show 4 ≤ p.toInt.toNat
  omega
theorem own_ge4 (p : Int32) (h : 5 ≤ p.toInt) : (0 : Int32).toNatClampNeg + (4 : Int32).toNatClampNeg ≤ p.toNatClampNeg := by
  have e : (4 : Int32).toNatClampNeg = 4 := rfl
  have e0 : (0 : Int32).toNatClampNeg = 0 := rfl
  have := own_ge4' p h
  omega
theorem own_nn (p : Int32) (h : 5 ≤ p.toInt) (h2 : p.toInt ≤ 8) : ¬ p < 0 ∧ p.toNatClampNeg ≤ 8 := by
  refine ⟨by rw [own_lt0]; omega, ?_⟩
  show p.toInt.toNat ≤ 8
  omega
theorem d8_0 : decode jdk_65_method_124_code 0 = .ok (.iload_n 1, 1) := by decide +kernel
theorem d8_1 : decode jdk_65_method_124_code 1 = .ok (.aload_n 0, 1) := by decide +kernel
theorem d8_2 : decode jdk_65_method_124_code 2 = .ok (.arraylength, 1) := by decide +kernel
theorem d8_3 : decode jdk_65_method_124_code 3 = .ok (.if_icmp .ne 11, 3) := by decide +kernel
theorem d8_14 : decode jdk_65_method_124_code 14 = .ok (.iload_n 1, 1) := by decide +kernel
theorem d8_15 : decode jdk_65_method_124_code 15 = .ok (.newarray .long, 2) := by decide +kernel
theorem d8_17 : decode jdk_65_method_124_code 17 = .ok (.astore_n 2, 1) := by decide +kernel
theorem d8_18 : decode jdk_65_method_124_code 18 = .ok (.aload_n 0, 1) := by decide +kernel
theorem d8_19 : decode jdk_65_method_124_code 19 = .ok (.iconst 0, 1) := by decide +kernel
theorem d8_20 : decode jdk_65_method_124_code 20 = .ok (.aload_n 2, 1) := by decide +kernel
theorem d8_21 : decode jdk_65_method_124_code 21 = .ok (.iconst 0, 1) := by decide +kernel
theorem d8_22 : decode jdk_65_method_124_code 22 = .ok (.aload_n 0, 1) := by decide +kernel
theorem d8_23 : decode jdk_65_method_124_code 23 = .ok (.arraylength, 1) := by decide +kernel
theorem d8_24 : decode jdk_65_method_124_code 24 = .ok (.iload_n 1, 1) := by decide +kernel
theorem d8_25 : decode jdk_65_method_124_code 25 = .ok (.invokestatic 304, 3) := by decide +kernel
theorem d8_28 : decode jdk_65_method_124_code 28 = .ok (.invokestatic 150, 3) := by decide +kernel
theorem d8_31 : decode jdk_65_method_124_code 31 = .ok (.aload_n 2, 1) := by decide +kernel
theorem d8_32 : decode jdk_65_method_124_code 32 = .ok (.areturn, 1) := by decide +kernel
theorem pn_2 : plainName "java/util/Arrays" = true := by first | (simp [plainName, overriddenIn]; done) | decide +kernel
theorem ef_8 (m : MethodId) (x0 : Addr) (x1 : Int32) : entryFrame m #[(.ref x0), (.int x1)] 3 = mkF m 0 #[.val (.ref x0), .val (.int x1), .unset] [] := by first | (simp [entryFrame, mkF, argsToLocals, Value.category]; done) | rfl
def Q8 (Z : State) (a1 : Addr) (p2 : Int32) (cl : Cell) (x0 : Int64) (x1 : Int64) (x2 : Int64) (x3 : Int64) (h0 : Heap) (n0 : Nat) (v : Option Value) (h : Heap) (L : List Loc) : Prop := v = some (.ref h0.size) ∧ Fr n0 L ∧ Keep h0 h [] ∧ ∃ cb : Cell, Arr Z h h0.size cb .long ∧ cb.slots.size = p2.toNatClampNeg ∧ cb.slots[0]? = some (.long x0) ∧ cb.slots[1]? = some (.long x1) ∧ cb.slots[2]? = some (.long x2) ∧ cb.slots[3]? = some (.long x3)
set_option maxRecDepth 65536 in
set_option maxHeartbeats 40000000 in
theorem rm8 (l : Launch) (Z : State) (a0 : Array Value) (hw : ∀ d ∈ tables_1, d.before a0 Z = true) (ws : List Jvm.Cond) (a1 : Addr) (p2 : Int32) (cl : Cell) (x0 : Int64) (x1 : Int64) (x2 : Int64) (x3 : Int64) (h0 : Heap) (n0 : Nat) (Z0 : n0 ≤ h0.size) (Ar : Arr Z h0 a1 cl .long) (Sz : cl.slots.size = (4 : Int32).toNatClampNeg) (hv0 : cl.slots[0]? = some (.long x0)) (hv1 : cl.slots[1]? = some (.long x1)) (hv2 : cl.slots[2]? = some (.long x2)) (hv3 : cl.slots[3]? = some (.long x3)) (hne : ¬ p2 = (4 : Int32)) (hp5 : 5 ≤ p2.toInt) (hp8 : p2.toInt ≤ 8) :
    MetFree l (⟨"java/util/Arrays", "copyOf", "([JI)[J"⟩ : MethodName) (head1 (Jvm.Cond.code (⟨"java/util/Arrays", "copyOf", "([JI)[J"⟩ : MethodName) jdk_65_method_124_code 3 (some (.array .long)) :: ws) ({ frames := 1, cells := 1, slots := 8, locals := 18 } : Room)) (fun a U => a = #[(.ref a1), (.int p2)] ∧ Z.Warmed39 U.vm ∧ U.heap = h0) (fun _ _ _ _ _ => True) (fun _ U o U' => ∃ v L, o = .returned v ∧ Q8 Z a1 p2 cl x0 x1 x2 x3 h0 n0 v U'.heap L ∧ FrameEnd U o U' L ({ frames := 1, cells := 1, slots := 8, locals := 18 } : Room).cells ({ frames := 1, cells := 1, slots := 8, locals := 18 } : Room).slots) := by
  refine MetFree.of_bodySF (plainFor_of_name pn_2) hisR ?_
  intro p e s m args below meth c s₁ Bd hml0 hP hK
  obtain ⟨rfl, hZ, hh⟩ := hP
  have hx := Bd.exec
  have hby := Bd.bytes
  have hml : c.maxLocals = 3 := hml0
  have hown : s.vm.findClass "java/util/Arrays" = some m.cls := findClass_of_methodNamed Bd.named
  have hnm := (name_of_methodNamed Bd.named Bd.method).1
  have X0 : Stand p l e ({ frames := 1, cells := 1, slots := 8, locals := 18 } : Room) s m #[(.ref a1), (.int p2)] below meth c s₁ [] 0 0 := Stand.of_body Bd
  have e0 : s₁.heap = h0 := by rw [← hh, Bd.state]; rfl
  have N0 := Fr.nil n0
  refine Go.start (ef_8 m a1 p2) ?_
  show Go p e below s₁ (mkF m 0 #[.val (.ref a1), .val (.int p2), .unset] []) _
  have K0 := Keep.refl h0 []
  refine Go.by (fun t k => XS.iloadN X0.here hx rfl (hb hby d8_0) rfl k) ?_
  show Go p e below s₁ (mkF m 1 #[.val (.ref a1), .val (.int p2), .unset] [(.int p2)]) _
  refine Go.by (fun t k => XS.aloadN X0.here hx rfl (hb hby d8_1) rfl rfl k) ?_
  show Go p e below s₁ (mkF m 2 #[.val (.ref a1), .val (.int p2), .unset] [(.ref a1), (.int p2)]) _
  refine Go.by (fun t k => X0.arraylength hx (cell := cl) (by rw [e0]; exact Ar.1) (State.isArrayOf_alike hZ.alike Ar.2.1) (g := (mkF m 2 #[.val (.ref a1), .val (.int p2), .unset] [(.ref a1), (.int p2)])) rfl (rest := [(.int p2)]) rfl (hb hby d8_2) t k) ?_
  rw [len_of Sz (by decide)]
  show Go p e below s₁ (mkF m 3 #[.val (.ref a1), .val (.int p2), .unset] [(.int (4 : Int32)), (.int p2)]) _
  refine Go.by (fun t k => XS.icmpYes X0.here hx rfl (pc0 := 3) (pc' := 14) rfl (hb hby d8_3) rfl (feq (show ¬ (p2 = (4 : Int32)) from hne)).2 (by decide) (by decide) k) ?_
  show Go p e below s₁ (mkF m 14 #[.val (.ref a1), .val (.int p2), .unset] []) _
  refine Go.by (fun t k => XS.iloadN X0.here hx rfl (hb hby d8_14) rfl k) ?_
  show Go p e below s₁ (mkF m 15 #[.val (.ref a1), .val (.int p2), .unset] [(.int p2)]) _
  obtain ⟨T1, h1, k1, X1, e1, E1, A1, st1⟩ := newP X0 hx hZ (hw _ (List.mem_of_getElem? (i := 15) rfl)) e0 (g := (mkF m 15 #[.val (.ref a1), .val (.int p2), .unset] [(.int p2)])) rfl (hb hby d8_15) rfl (own_nn p2 hp5 hp8).1 (cap := 8) (own_nn p2 hp5 hp8).2 (by decide) (by decide) (by decide)
  obtain ⟨b1, g1⟩ : ∃ z, z = h0.size := ⟨_, rfl⟩
  rw [← g1] at A1 st1
  have gn1 : n0 ≤ b1 := Nat.le_trans Z0 (Nat.le_of_eq g1.symm)
  have ne_a1_b1 : a1 ≠ b1 := Nat.ne_of_lt (Nat.lt_of_lt_of_le Ar.lt (Nat.le_of_eq g1.symm))
  have Z1 : n0 ≤ h1.size := Nat.le_trans Z0 E1.1
  have sz1 : h0.size ≤ b1 := Nat.le_trans K0.1 (Nat.le_of_eq g1.symm)
  have K1 := K0.ext E1
  have V1 := Arv.new A1 (own_nn p2 hp5 hp8).1
  refine Go.by st1 ?_
  show Go p e below T1 (mkF m 17 #[.val (.ref a1), .val (.int p2), .unset] [(.ref b1)]) _
  refine Go.by (fun t k => XS.astoreN X1.here hx rfl (hb hby d8_17) rfl rfl (l' := #[.val (.ref a1), .val (.int p2), .val (.ref b1)]) rfl k) ?_
  show Go p e below T1 (mkF m 18 #[.val (.ref a1), .val (.int p2), .val (.ref b1)] []) _
  refine Go.by (fun t k => XS.aloadN X1.here hx rfl (hb hby d8_18) rfl rfl k) ?_
  show Go p e below T1 (mkF m 19 #[.val (.ref a1), .val (.int p2), .val (.ref b1)] [(.ref a1)]) _
  refine Go.by (fun t k => XS.iconst X1.here hx rfl (hb hby d8_19) k) ?_
  show Go p e below T1 (mkF m 20 #[.val (.ref a1), .val (.int p2), .val (.ref b1)] [(.int (0 : Int32)), (.ref a1)]) _
  refine Go.by (fun t k => XS.aloadN X1.here hx rfl (hb hby d8_20) rfl rfl k) ?_
  show Go p e below T1 (mkF m 21 #[.val (.ref a1), .val (.int p2), .val (.ref b1)] [(.ref b1), (.int (0 : Int32)), (.ref a1)]) _
  refine Go.by (fun t k => XS.iconst X1.here hx rfl (hb hby d8_21) k) ?_
  show Go p e below T1 (mkF m 22 #[.val (.ref a1), .val (.int p2), .val (.ref b1)] [(.int (0 : Int32)), (.ref b1), (.int (0 : Int32)), (.ref a1)]) _
  refine Go.by (fun t k => XS.aloadN X1.here hx rfl (hb hby d8_22) rfl rfl k) ?_
  show Go p e below T1 (mkF m 23 #[.val (.ref a1), .val (.int p2), .val (.ref b1)] [(.ref a1), (.int (0 : Int32)), (.ref b1), (.int (0 : Int32)), (.ref a1)]) _
  have fa2 := Ar.ext E1
  refine Go.by (fun t k => X1.arraylength hx (cell := cl) (by rw [e1]; exact fa2.1) (State.isArrayOf_alike hZ.alike fa2.2.1) (g := (mkF m 23 #[.val (.ref a1), .val (.int p2), .val (.ref b1)] [(.ref a1), (.int (0 : Int32)), (.ref b1), (.int (0 : Int32)), (.ref a1)])) rfl (rest := [(.int (0 : Int32)), (.ref b1), (.int (0 : Int32)), (.ref a1)]) rfl (hb hby d8_23) t k) ?_
  rw [len_of Sz (by decide)]
  show Go p e below T1 (mkF m 24 #[.val (.ref a1), .val (.int p2), .val (.ref b1)] [(.int (4 : Int32)), (.int (0 : Int32)), (.ref b1), (.int (0 : Int32)), (.ref a1)]) _
  refine Go.by (fun t k => XS.iloadN X1.here hx rfl (hb hby d8_24) rfl k) ?_
  show Go p e below T1 (mkF m 25 #[.val (.ref a1), .val (.int p2), .val (.ref b1)] [(.int p2), (.int (4 : Int32)), (.int (0 : Int32)), (.ref b1), (.int (0 : Int32)), (.ref a1)]) _
  obtain ⟨_, _, ⟨T3, L3, k3, n3⟩, -, X3, ⟨Lc3, hQ3, l3, y3, z3⟩, st3⟩ := Jvm.LawKit.callS X1 hx (y := (⟨"java/lang/Math", "min", "(II)I"⟩ : MethodName)) hown (mvT hZ (hw _ (List.mem_of_getElem? (i := 47) rfl))) (mvT hZ (hw _ (List.mem_of_getElem? (i := 12) rfl))) (mvT hZ (hw _ (List.mem_of_getElem? (i := 13) rfl))) (mvT hZ (hw _ (List.mem_of_getElem? (i := 14) rfl))) (by decide) (backOf (W := 4) (rm3 l Z a0 hw [] (4 : Int32) p2 h1 n0 Z1) hZ (hw _ (List.mem_of_getElem? (i := 14) rfl)) (hw _ (List.mem_of_getElem? (i := 13) rfl)) (by decide) (by decide)) (g := (mkF m 25 #[.val (.ref a1), .val (.int p2), .val (.ref b1)] [(.int p2), (.int (4 : Int32)), (.int (0 : Int32)), (.ref b1), (.int (0 : Int32)), (.ref a1)])) rfl (by rw [hml]; rfl) (argsL := [(.int (4 : Int32)), (.int p2)]) (rest := [(.int (0 : Int32)), (.ref b1), (.int (0 : Int32)), (.ref a1)]) (lenOf pd_0 rfl) rfl (by show 2 * 0 + _ ≤ _; exact Nat.le_of_eq rfl) (hb hby d8_25) (fun _ _ => ⟨rfl, e1, (by decide : 1 + 0 ≤ _), (by decide : 8 + 0 ≤ _)⟩)
  dsimp only [Pt.U, Pt.locs, Pt.cells, Pt.slots] at X3 l3 y3 z3 st3 hQ3
  subst l3 y3 z3
  obtain ⟨hv3, N3q, e3q⟩ := hQ3
  rw [own_min4 p2 hp5] at hv3
  subst hv3
  have N3 := Fr.app N0 N3q
  refine Go.by st3 ?_
  show Go p e below T3 (mkF m 28 #[.val (.ref a1), .val (.int p2), .val (.ref b1)] [(.int (4 : Int32)), (.int (0 : Int32)), (.ref b1), (.int (0 : Int32)), (.ref a1)]) _
  have As4 : Arv Z h1 a1 cl.cls .long (4 : Int32) [.long x0, .long x1, .long x2, .long x3] (.long (0 : Int64)) := ⟨cl, fa2, rfl, Sz, by decide, own_has4 Sz hv0 hv1 hv2 hv3, fun i _ => own_fits4 x0 x1 x2 x3 i⟩
  have Bs4 := V1.pad (pad_rep [] (.long (0 : Int64)) 4)
  obtain ⟨T4, h4, L4, X4, e4, N4, K4q, V4, st4⟩ := cpA X3 hx hZ hown (hw _ (List.mem_of_getElem? (i := 48) rfl)) (hw _ (List.mem_of_getElem? (i := 51) rfl)) (hw _ (List.mem_of_getElem? (i := 49) rfl)) (hw _ (List.mem_of_getElem? (i := 50) rfl)) e3q As4 Bs4 (us := [.long x0, .long x1, .long x2, .long x3]) (Or.inl ⟨rfl, rfl⟩) (by decide) (by decide) (by decide) (by decide) (own_ge4 p2 hp5) rfl (Nat.le_refl _) N3 gn1 (g := (mkF m 28 #[.val (.ref a1), .val (.int p2), .val (.ref b1)] [(.int (4 : Int32)), (.int (0 : Int32)), (.ref b1), (.int (0 : Int32)), (.ref a1)])) rfl (by rw [hml]; rfl) rfl (hb hby d8_28) (by decide) (W := 0) (by show 2 * 0 + _ ≤ _; exact Nat.le_of_eq rfl) (by decide)
  have K4 := K1.trans K4q (allS (Or.inr sz1) all0)
  refine Go.by st4 ?_
  show Go p e below T4 (mkF m 31 #[.val (.ref a1), .val (.int p2), .val (.ref b1)] []) _
  refine Go.by (fun t k => XS.aloadN X4.here hx rfl (hb hby d8_31) rfl rfl k) ?_
  show Go p e below T4 (mkF m 32 #[.val (.ref a1), .val (.int p2), .val (.ref b1)] [(.ref b1)]) _
  obtain ⟨fs, hr, hrun, hended, hW, hsame⟩ := X4.leave (v := some (.ref b1)) (fun h => by rw [Bd.returns] at h; cases h)
  refine Go.done (retA X4 hx Bd.returns rfl ⟨rfl, rfl⟩ (hb hby d8_32) hr) hrun hended ⟨_, _, rfl, ?_, ⟨_, rfl⟩, hW, hsame.mono (by decide) (by decide)⟩
  show Q8 Z a1 p2 cl x0 x1 x2 x3 h0 n0 _ T4.heap _
  rw [e4]
  obtain ⟨cb, Ab, -, Sb, Mb, Hb, -⟩ := V4
  rw [g1] at Ab
  have q5 : 4 ≤ cb.slots.size := by rw [Sb]; exact own_ge4' p2 hp5
  exact ⟨by rw [g1], N4, K4, cb, Ab, Sb, Hb 0 (by omega), Hb 1 (by omega), Hb 2 (by omega), Hb 3 (by omega)⟩
theorem own_len4 {K : Int} {c : Nat} {zf cc : Int32} (hcc : cc.toInt = (c : Int)) (hz : zf.toInt = own_len K c) (hc : c ≤ 7) (h1 : (c : Int) < K) (e : cc = zf) : c = 4 ∧ zf.toInt = 4 ∧ 5 ≤ K := by
  rw [e] at hcc; unfold own_len at hz
  split at hz <;> omega
theorem own_lenA {K : Int} {c : Nat} {zf cc : Int32} (hcc : cc.toInt = (c : Int)) (hz : zf.toInt = own_len K c) (hc : c ≤ 7) (h1 : (c : Int) < K) (e : ¬ cc = zf) : (c : Int) < zf.toInt ∧ zf.toInt = own_len K (c + 1) := by
  have q : ¬ cc.toInt = zf.toInt := fun r => e (Int32.toInt_inj.mp r)
  unfold own_len at hz ⊢
  split at hz <;> split <;> omega
theorem own_lenB {K : Int} {c : Nat} {zf : Int32} (hz : zf.toInt = own_len K c) (h1 : ¬ (c : Int) < K) : zf.toInt = own_len K (c + 1) := by
  unfold own_len at hz ⊢
  split at hz <;> split <;> omega
theorem own_len5 (K : Int) (h : 5 ≤ K) : own_len K (4 + 1) = min K 8 := by
  unfold own_len; split <;> omega
theorem own_ltI {cc K : Int32} {c : Nat} (hcc : cc.toInt = (c : Int)) (h : cc < K) : (c : Int) < K.toInt := by
  rw [Int32.lt_iff_toInt_lt, hcc] at h; exact h
theorem own_nltI {cc K : Int32} {c : Nat} (hcc : cc.toInt = (c : Int)) (h : ¬ cc < K) : ¬ (c : Int) < K.toInt := by
  rw [Int32.lt_iff_toInt_lt, hcc] at h; exact h
theorem own_sz {zf : Int32} {n c : Nat} (h : n = zf.toNatClampNeg) (q : (c : Int) < zf.toInt) : c < n := by
  have e : zf.toNatClampNeg = zf.toInt.toNat := rfl
  rw [h, e]; omega
theorem own_K7 {K : Int32} {c : Nat} (h1 : 1 ≤ K.toInt) (h : ¬ (c : Int) < K.toInt) (hc : c ≤ 7) : ¬ K < 0 ∧ K.toNatClampNeg ≤ 8 ∧ 0 < K.toNatClampNeg := by
  have e : K.toNatClampNeg = K.toInt.toNat := rfl
  refine ⟨by rw [own_lt0]; omega, by rw [e]; omega, by rw [e]; omega⟩
theorem own_v5 {cb : Cell} {K : Int32} {val : Nat → Int64} (h0 : cb.slots[0]? = some (.long (val 0))) (h1 : cb.slots[1]? = some (.long (val 1))) (h2 : cb.slots[2]? = some (.long (val 2))) (h3 : cb.slots[3]? = some (.long (val 3))) : ∀ i : Nat, i < 4 → (i : Int) < K.toInt → cb.slots[i]? = some (.long (val i)) := by
  intro i hi _
  rcases (by omega : i = 0 ∨ i = 1 ∨ i = 2 ∨ i = 3) with rfl | rfl | rfl | rfl
  · exact h0
  · exact h1
  · exact h2
  · exact h3
theorem own_ringN {Z : State} {h h' : Heap} {n0 : Nat} {a fa fb : Addr} {K : Int32} {c : Nat} {val : Nat → Int64} {lv : Value} (R : own_Ring Z h n0 a fa K c val lv) (hK : (c : Int) < K.toInt) : own_Ring Z h' n0 a fb K (c + 1) val lv := by
  rcases R with ⟨-, q⟩ | ⟨q, -⟩
  · exact Or.inl ⟨by omega, q⟩
  · omega
theorem pd_1 : parseMethodDescriptor "(JJ)J" = some ⟨[.long, .long], some .long⟩ := by decide +kernel
theorem pd_2 : parseMethodDescriptor "([JI)[J" = some ⟨[(.array .long), .int], some (.array .long)⟩ := by decide +kernel
theorem d5_0 : decode prog_91_method_2_code 0 = .ok (.aload_n 0, 1) := by decide +kernel
theorem d5_1 : decode prog_91_method_2_code 1 = .ok (.getfield 23, 3) := by decide +kernel
theorem d5_4 : decode prog_91_method_2_code 4 = .ok (.aload_n 0, 1) := by decide +kernel
theorem d5_5 : decode prog_91_method_2_code 5 = .ok (.getfield 7, 3) := by decide +kernel
theorem d5_8 : decode prog_91_method_2_code 8 = .ok (.if_icmp .ge 58, 3) := by decide +kernel
theorem d5_11 : decode prog_91_method_2_code 11 = .ok (.aload_n 0, 1) := by decide +kernel
theorem d5_12 : decode prog_91_method_2_code 12 = .ok (.getfield 23, 3) := by decide +kernel
theorem d5_15 : decode prog_91_method_2_code 15 = .ok (.aload_n 0, 1) := by decide +kernel
theorem d5_16 : decode prog_91_method_2_code 16 = .ok (.getfield 19, 3) := by decide +kernel
theorem d5_19 : decode prog_91_method_2_code 19 = .ok (.arraylength, 1) := by decide +kernel
theorem d5_20 : decode prog_91_method_2_code 20 = .ok (.if_icmp .ne 33, 3) := by decide +kernel
theorem d5_23 : decode prog_91_method_2_code 23 = .ok (.aload_n 0, 1) := by decide +kernel
theorem d5_24 : decode prog_91_method_2_code 24 = .ok (.aload_n 0, 1) := by decide +kernel
theorem d5_25 : decode prog_91_method_2_code 25 = .ok (.getfield 19, 3) := by decide +kernel
theorem d5_28 : decode prog_91_method_2_code 28 = .ok (.aload_n 0, 1) := by decide +kernel
theorem d5_29 : decode prog_91_method_2_code 29 = .ok (.getfield 7, 3) := by decide +kernel
theorem d5_32 : decode prog_91_method_2_code 32 = .ok (.i2l, 1) := by decide +kernel
theorem d5_33 : decode prog_91_method_2_code 33 = .ok (.ldc2_w 26, 3) := by decide +kernel
theorem d5_36 : decode prog_91_method_2_code 36 = .ok (.aload_n 0, 1) := by decide +kernel
theorem d5_37 : decode prog_91_method_2_code 37 = .ok (.getfield 19, 3) := by decide +kernel
theorem d5_40 : decode prog_91_method_2_code 40 = .ok (.arraylength, 1) := by decide +kernel
theorem d5_41 : decode prog_91_method_2_code 41 = .ok (.i2l, 1) := by decide +kernel
theorem d5_42 : decode prog_91_method_2_code 42 = .ok (.lmul, 1) := by decide +kernel
theorem d5_43 : decode prog_91_method_2_code 43 = .ok (.invokestatic 28, 3) := by decide +kernel
theorem d5_46 : decode prog_91_method_2_code 46 = .ok (.l2i, 1) := by decide +kernel
theorem d5_47 : decode prog_91_method_2_code 47 = .ok (.invokestatic 31, 3) := by decide +kernel
theorem d5_50 : decode prog_91_method_2_code 50 = .ok (.putfield 19, 3) := by decide +kernel
theorem d5_53 : decode prog_91_method_2_code 53 = .ok (.aload_n 0, 1) := by decide +kernel
theorem d5_54 : decode prog_91_method_2_code 54 = .ok (.getfield 19, 3) := by decide +kernel
theorem d5_57 : decode prog_91_method_2_code 57 = .ok (.aload_n 0, 1) := by decide +kernel
theorem d5_58 : decode prog_91_method_2_code 58 = .ok (.getfield 23, 3) := by decide +kernel
theorem d5_61 : decode prog_91_method_2_code 61 = .ok (.lload_n 1, 1) := by decide +kernel
theorem d5_62 : decode prog_91_method_2_code 62 = .ok (.lastore, 1) := by decide +kernel
theorem d5_63 : decode prog_91_method_2_code 63 = .ok (.goto 35, 3) := by decide +kernel
theorem d5_66 : decode prog_91_method_2_code 66 = .ok (.aload_n 0, 1) := by decide +kernel
theorem d5_67 : decode prog_91_method_2_code 67 = .ok (.getfield 37, 3) := by decide +kernel
theorem d5_70 : decode prog_91_method_2_code 70 = .ok (.ifnonnull 13, 3) := by decide +kernel
theorem d5_73 : decode prog_91_method_2_code 73 = .ok (.aload_n 0, 1) := by decide +kernel
theorem d5_74 : decode prog_91_method_2_code 74 = .ok (.aload_n 0, 1) := by decide +kernel
theorem d5_75 : decode prog_91_method_2_code 75 = .ok (.getfield 7, 3) := by decide +kernel
theorem d5_78 : decode prog_91_method_2_code 78 = .ok (.newarray .long, 2) := by decide +kernel
theorem d5_80 : decode prog_91_method_2_code 80 = .ok (.putfield 37, 3) := by decide +kernel
theorem d5_83 : decode prog_91_method_2_code 83 = .ok (.aload_n 0, 1) := by decide +kernel
theorem d5_84 : decode prog_91_method_2_code 84 = .ok (.getfield 37, 3) := by decide +kernel
theorem d5_87 : decode prog_91_method_2_code 87 = .ok (.aload_n 0, 1) := by decide +kernel
theorem d5_88 : decode prog_91_method_2_code 88 = .ok (.getfield 23, 3) := by decide +kernel
theorem d5_91 : decode prog_91_method_2_code 91 = .ok (.aload_n 0, 1) := by decide +kernel
theorem d5_92 : decode prog_91_method_2_code 92 = .ok (.getfield 7, 3) := by decide +kernel
theorem d5_95 : decode prog_91_method_2_code 95 = .ok (.irem, 1) := by decide +kernel
theorem d5_96 : decode prog_91_method_2_code 96 = .ok (.lload_n 1, 1) := by decide +kernel
theorem d5_97 : decode prog_91_method_2_code 97 = .ok (.lastore, 1) := by decide +kernel
theorem d5_98 : decode prog_91_method_2_code 98 = .ok (.aload_n 0, 1) := by decide +kernel
theorem d5_99 : decode prog_91_method_2_code 99 = .ok (.dup, 1) := by decide +kernel
theorem d5_100 : decode prog_91_method_2_code 100 = .ok (.getfield 23, 3) := by decide +kernel
theorem d5_103 : decode prog_91_method_2_code 103 = .ok (.iconst 1, 1) := by decide +kernel
theorem d5_104 : decode prog_91_method_2_code 104 = .ok (.iadd, 1) := by decide +kernel
theorem d5_105 : decode prog_91_method_2_code 105 = .ok (.putfield 23, 3) := by decide +kernel
theorem d5_108 : decode prog_91_method_2_code 108 = .ok (.return_, 1) := by decide +kernel
theorem ef_5 (m : MethodId) (x0 : Addr) (x1 : Int64) : entryFrame m #[(.ref x0), (.long x1)] 3 = mkF m 0 #[.val (.ref x0), .val (.long x1), .second] [] := by first | (simp [entryFrame, mkF, argsToLocals, Value.category]; done) | rfl
def Q5 (Z : State) (a1 : Addr) (q2 : Int64) (K : Int32) (cn : Nat) (val : Nat → Int64) (h0 : Heap) (n0 : Nat) (v : Option Value) (h : Heap) (L : List Loc) : Prop := v = none ∧ Fr n0 L ∧ n0 ≤ h.size ∧ own_Inv Z h n0 a1 K (cn + 1) val
set_option maxRecDepth 65536 in
set_option maxHeartbeats 40000000 in
theorem rm5 (l : Launch) (Z : State) (a0 : Array Value) (hw : ∀ d ∈ tables_1, d.before a0 Z = true) (ws : List Jvm.Cond) (a1 : Addr) (q2 : Int64) (K : Int32) (cn : Nat) (val : Nat → Int64) (h0 : Heap) (n0 : Nat) (Z0 : n0 ≤ h0.size) (I : own_Inv Z h0 n0 a1 K cn val) (g1 : n0 ≤ a1) (hq : q2 = val cn) (hc7 : cn ≤ 7) (hK1 : 1 ≤ K.toInt) (hK2 : K.toInt ≤ 1073741824) :
    MetFree l (⟨"com/example/pagecast/pagecast/push/Starts", "add", "(J)V"⟩ : MethodName) (head1 (Jvm.Cond.code (⟨"com/example/pagecast/pagecast/push/Starts", "add", "(J)V"⟩ : MethodName) prog_91_method_2_code 3 none :: ws) ({ frames := 2, cells := 1, slots := 8, locals := 33 } : Room)) (fun a U => a = #[(.ref a1), (.long q2)] ∧ Z.Warmed39 U.vm ∧ U.heap = h0) (fun _ _ _ _ _ => True) (fun _ U o U' => ∃ v L, o = .returned v ∧ Q5 Z a1 q2 K cn val h0 n0 v U'.heap L ∧ FrameEnd U o U' L ({ frames := 2, cells := 1, slots := 8, locals := 33 } : Room).cells ({ frames := 2, cells := 1, slots := 8, locals := 33 } : Room).slots) := by
  refine MetFree.of_bodySF (plainFor_of_name pn_1) hisR ?_
  intro p e s m args below meth c s₁ Bd hml0 hP hK
  obtain ⟨rfl, hZ, hh⟩ := hP
  have hx := Bd.exec
  have hby := Bd.bytes
  have hml : c.maxLocals = 3 := hml0
  have hown : s.vm.findClass "com/example/pagecast/pagecast/push/Starts" = some m.cls := findClass_of_methodNamed Bd.named
  have hnm := (name_of_methodNamed Bd.named Bd.method).1
  have X0 : Stand p l e ({ frames := 2, cells := 1, slots := 8, locals := 33 } : Room) s m #[(.ref a1), (.long q2)] below meth c s₁ [] 0 0 := Stand.of_body Bd
  have e0 : s₁.heap = h0 := by rw [← hh, Bd.state]; rfl
  have N0 := Fr.nil n0
  refine Go.start (ef_5 m a1 q2) ?_
  show Go p e below s₁ (mkF m 0 #[.val (.ref a1), .val (.long q2), .second] []) _
  obtain ⟨fa, cf, zf, cc, lv, E1, Fk, Fc, Ff, Fl, hcc, g2, nfa, Ar, Sz, Mz, Lz, Hv, HL⟩ := I
  refine Go.by (fun t k => XS.aloadN X0.here hx rfl (hb hby d5_0) rfl rfl k) ?_
  show Go p e below s₁ (mkF m 1 #[.val (.ref a1), .val (.long q2), .second] [(.ref a1)]) _
  obtain ⟨T1, X1, e1, st1⟩ := getF X0 hx hZ hown (host := "") (Or.inl (hw _ (List.mem_of_getElem? (i := 27) rfl))) Via.refl e0 Fc (g := (mkF m 1 #[.val (.ref a1), .val (.long q2), .second] [(.ref a1)])) rfl rfl (hb hby d5_1)
  refine Go.by st1 ?_
  show Go p e below T1 (mkF m 4 #[.val (.ref a1), .val (.long q2), .second] [(.int cc)]) _
  refine Go.by (fun t k => XS.aloadN X1.here hx rfl (hb hby d5_4) rfl rfl k) ?_
  show Go p e below T1 (mkF m 5 #[.val (.ref a1), .val (.long q2), .second] [(.ref a1), (.int cc)]) _
  obtain ⟨T2, X2, e2, st2⟩ := getF X1 hx hZ hown (host := "") (Or.inl (hw _ (List.mem_of_getElem? (i := 9) rfl))) Via.refl e1 Fk (g := (mkF m 5 #[.val (.ref a1), .val (.long q2), .second] [(.ref a1), (.int cc)])) rfl rfl (hb hby d5_5)
  refine Go.by st2 ?_
  show Go p e below T2 (mkF m 8 #[.val (.ref a1), .val (.long q2), .second] [(.int K), (.int cc)]) _
  by_cases hc3 : cc < K
  · refine Go.by (fun t k => XS.icmpNo X2.here hx rfl (hb hby d5_8) rfl (tlt hc3).2.1 k) ?_
    show Go p e below T2 (mkF m 11 #[.val (.ref a1), .val (.long q2), .second] []) _
    refine Go.by (fun t k => XS.aloadN X2.here hx rfl (hb hby d5_11) rfl rfl k) ?_
    show Go p e below T2 (mkF m 12 #[.val (.ref a1), .val (.long q2), .second] [(.ref a1)]) _
    obtain ⟨T4, X4, e4, st4⟩ := getF X2 hx hZ hown (host := "") (Or.inl (hw _ (List.mem_of_getElem? (i := 27) rfl))) Via.refl e2 Fc (g := (mkF m 12 #[.val (.ref a1), .val (.long q2), .second] [(.ref a1)])) rfl rfl (hb hby d5_12)
    refine Go.by st4 ?_
    show Go p e below T4 (mkF m 15 #[.val (.ref a1), .val (.long q2), .second] [(.int cc)]) _
    refine Go.by (fun t k => XS.aloadN X4.here hx rfl (hb hby d5_15) rfl rfl k) ?_
    show Go p e below T4 (mkF m 16 #[.val (.ref a1), .val (.long q2), .second] [(.ref a1), (.int cc)]) _
    obtain ⟨T5, X5, e5, st5⟩ := getF X4 hx hZ hown (host := "") (Or.inl (hw _ (List.mem_of_getElem? (i := 16) rfl))) Via.refl e4 Ff (g := (mkF m 16 #[.val (.ref a1), .val (.long q2), .second] [(.ref a1), (.int cc)])) rfl rfl (hb hby d5_16)
    refine Go.by st5 ?_
    show Go p e below T5 (mkF m 19 #[.val (.ref a1), .val (.long q2), .second] [(.ref fa), (.int cc)]) _
    refine Go.by (fun t k => X5.arraylength hx (cell := cf) (by rw [e5]; exact Ar.1) (State.isArrayOf_alike hZ.alike Ar.2.1) (g := (mkF m 19 #[.val (.ref a1), .val (.long q2), .second] [(.ref fa), (.int cc)])) rfl (rest := [(.int cc)]) rfl (hb hby d5_19) t k) ?_
    rw [len_of Sz Mz]
    show Go p e below T5 (mkF m 20 #[.val (.ref a1), .val (.long q2), .second] [(.int zf), (.int cc)]) _
    by_cases hc6 : cc = zf
    · refine Go.by (fun t k => XS.icmpNo X5.here hx rfl (hb hby d5_20) rfl (teq hc6).2 k) ?_
      show Go p e below T5 (mkF m 23 #[.val (.ref a1), .val (.long q2), .second] []) _
      refine Go.by (fun t k => XS.aloadN X5.here hx rfl (hb hby d5_23) rfl rfl k) ?_
      show Go p e below T5 (mkF m 24 #[.val (.ref a1), .val (.long q2), .second] [(.ref a1)]) _
      refine Go.by (fun t k => XS.aloadN X5.here hx rfl (hb hby d5_24) rfl rfl k) ?_
      show Go p e below T5 (mkF m 25 #[.val (.ref a1), .val (.long q2), .second] [(.ref a1), (.ref a1)]) _
      obtain ⟨T7, X7, e7, st7⟩ := getF X5 hx hZ hown (host := "") (Or.inl (hw _ (List.mem_of_getElem? (i := 16) rfl))) Via.refl e5 Ff (g := (mkF m 25 #[.val (.ref a1), .val (.long q2), .second] [(.ref a1), (.ref a1)])) rfl rfl (hb hby d5_25)
      refine Go.by st7 ?_
      show Go p e below T7 (mkF m 28 #[.val (.ref a1), .val (.long q2), .second] [(.ref fa), (.ref a1)]) _
      refine Go.by (fun t k => XS.aloadN X7.here hx rfl (hb hby d5_28) rfl rfl k) ?_
      show Go p e below T7 (mkF m 29 #[.val (.ref a1), .val (.long q2), .second] [(.ref a1), (.ref fa), (.ref a1)]) _
      obtain ⟨T8, X8, e8, st8⟩ := getF X7 hx hZ hown (host := "") (Or.inl (hw _ (List.mem_of_getElem? (i := 9) rfl))) Via.refl e7 Fk (g := (mkF m 29 #[.val (.ref a1), .val (.long q2), .second] [(.ref a1), (.ref fa), (.ref a1)])) rfl rfl (hb hby d5_29)
      refine Go.by st8 ?_
      show Go p e below T8 (mkF m 32 #[.val (.ref a1), .val (.long q2), .second] [(.int K), (.ref fa), (.ref a1)]) _
      refine Go.by (fun t k => XS.i2l X8.here hx rfl (hb hby d5_32) rfl k) ?_
      show Go p e below T8 (mkF m 33 #[.val (.ref a1), .val (.long q2), .second] [(.long (K.toInt64)), (.ref fa), (.ref a1)]) _
      refine Go.by (fun t k => X8.ldc2Long hx hown (mvT hZ (hw _ (List.mem_of_getElem? (i := 39) rfl))) (g := (mkF m 33 #[.val (.ref a1), .val (.long q2), .second] [(.long (K.toInt64)), (.ref fa), (.ref a1)])) rfl (hb hby d5_33) t k) ?_
      show Go p e below T8 (mkF m 36 #[.val (.ref a1), .val (.long q2), .second] [(.long (2 : Int64)), (.long (K.toInt64)), (.ref fa), (.ref a1)]) _
      refine Go.by (fun t k => XS.aloadN X8.here hx rfl (hb hby d5_36) rfl rfl k) ?_
      show Go p e below T8 (mkF m 37 #[.val (.ref a1), .val (.long q2), .second] [(.ref a1), (.long (2 : Int64)), (.long (K.toInt64)), (.ref fa), (.ref a1)]) _
      obtain ⟨T9, X9, e9, st9⟩ := getF X8 hx hZ hown (host := "") (Or.inl (hw _ (List.mem_of_getElem? (i := 16) rfl))) Via.refl e8 Ff (g := (mkF m 37 #[.val (.ref a1), .val (.long q2), .second] [(.ref a1), (.long (2 : Int64)), (.long (K.toInt64)), (.ref fa), (.ref a1)])) rfl rfl (hb hby d5_37)
      refine Go.by st9 ?_
      show Go p e below T9 (mkF m 40 #[.val (.ref a1), .val (.long q2), .second] [(.ref fa), (.long (2 : Int64)), (.long (K.toInt64)), (.ref fa), (.ref a1)]) _
      refine Go.by (fun t k => X9.arraylength hx (cell := cf) (by rw [e9]; exact Ar.1) (State.isArrayOf_alike hZ.alike Ar.2.1) (g := (mkF m 40 #[.val (.ref a1), .val (.long q2), .second] [(.ref fa), (.long (2 : Int64)), (.long (K.toInt64)), (.ref fa), (.ref a1)])) rfl (rest := [(.long (2 : Int64)), (.long (K.toInt64)), (.ref fa), (.ref a1)]) rfl (hb hby d5_40) t k) ?_
      rw [len_of Sz Mz]
      show Go p e below T9 (mkF m 41 #[.val (.ref a1), .val (.long q2), .second] [(.int zf), (.long (2 : Int64)), (.long (K.toInt64)), (.ref fa), (.ref a1)]) _
      refine Go.by (fun t k => XS.i2l X9.here hx rfl (hb hby d5_41) rfl k) ?_
      show Go p e below T9 (mkF m 42 #[.val (.ref a1), .val (.long q2), .second] [(.long (zf.toInt64)), (.long (2 : Int64)), (.long (K.toInt64)), (.ref fa), (.ref a1)]) _
      refine Go.by (fun t k => XS.lmul X9.here hx rfl (hb hby d5_42) rfl k) ?_
      show Go p e below T9 (mkF m 43 #[.val (.ref a1), .val (.long q2), .second] [(.long ((2 : Int64) * (zf.toInt64))), (.long (K.toInt64)), (.ref fa), (.ref a1)]) _
      obtain ⟨_, _, ⟨T10, L10, k10, n10⟩, -, X10, ⟨Lc10, hQ10, l10, y10, z10⟩, st10⟩ := Jvm.LawKit.callS X9 hx (y := (⟨"java/lang/Math", "min", "(JJ)J"⟩ : MethodName)) hown (mvT hZ (hw _ (List.mem_of_getElem? (i := 40) rfl))) (mvT hZ (hw _ (List.mem_of_getElem? (i := 41) rfl))) (mvT hZ (hw _ (List.mem_of_getElem? (i := 13) rfl))) (mvT hZ (hw _ (List.mem_of_getElem? (i := 42) rfl))) (by decide) (backOf (W := 2) (rm7 l Z a0 hw [] (K.toInt64) ((2 : Int64) * (zf.toInt64)) h0 n0 Z0) hZ (hw _ (List.mem_of_getElem? (i := 42) rfl)) (hw _ (List.mem_of_getElem? (i := 13) rfl)) (by decide) (by decide)) (g := (mkF m 43 #[.val (.ref a1), .val (.long q2), .second] [(.long ((2 : Int64) * (zf.toInt64))), (.long (K.toInt64)), (.ref fa), (.ref a1)])) rfl (by rw [hml]; rfl) (argsL := [(.long (K.toInt64)), (.long ((2 : Int64) * (zf.toInt64)))]) (rest := [(.ref fa), (.ref a1)]) (lenOf pd_1 rfl) rfl (by show 2 * 0 + _ ≤ _; exact Nat.le_of_eq rfl) (hb hby d5_43) (fun _ _ => ⟨rfl, e9, (by decide : 0 + 0 ≤ _), (by decide : 0 + 0 ≤ _)⟩)
      dsimp only [Pt.U, Pt.locs, Pt.cells, Pt.slots] at X10 l10 y10 z10 st10 hQ10
      subst l10 y10 z10
      obtain ⟨rfl, N10q, e10q⟩ := hQ10
      have N10 := Fr.app N0 N10q
      refine Go.by st10 ?_
      show Go p e below T10 (mkF m 46 #[.val (.ref a1), .val (.long q2), .second] [(.long (f7 (K.toInt64) ((2 : Int64) * (zf.toInt64)))), (.ref fa), (.ref a1)]) _
      refine Go.by (fun t k => XS.l2i X10.here hx rfl (hb hby d5_46) rfl k) ?_
      show Go p e below T10 (mkF m 47 #[.val (.ref a1), .val (.long q2), .second] [(.int ((f7 (K.toInt64) ((2 : Int64) * (zf.toInt64))).toInt32)), (.ref fa), (.ref a1)]) _
      obtain ⟨c4, z4, K5⟩ := own_len4 hcc Lz hc7 (own_ltI hcc hc3) hc6
      have nl := own_newlen K zf z4 K5
      have zz : zf = (4 : Int32) := Int32.toInt_inj.mp z4
      have pn : ¬ ((f7 (K.toInt64) ((2 : Int64) * (zf.toInt64))).toInt32) = (4 : Int32) := fun r => by rw [r] at nl; have o4 : (4 : Int32).toInt = 4 := rfl; omega
      obtain ⟨_, _, ⟨T11, L11, k11, n11⟩, -, X11, ⟨Lc11, hQ11, l11, y11, z11⟩, st11⟩ := Jvm.LawKit.callS X10 hx (y := (⟨"java/util/Arrays", "copyOf", "([JI)[J"⟩ : MethodName)) hown (mvT hZ (hw _ (List.mem_of_getElem? (i := 43) rfl))) (mvT hZ (hw _ (List.mem_of_getElem? (i := 44) rfl))) (mvT hZ (hw _ (List.mem_of_getElem? (i := 45) rfl))) (mvT hZ (hw _ (List.mem_of_getElem? (i := 46) rfl))) (by decide) (backOf (W := 1) (rm8 l Z a0 hw [] fa ((f7 (K.toInt64) ((2 : Int64) * (zf.toInt64))).toInt32) cf (val 0) (val 1) (val 2) (val 3) h0 n0 Z0 Ar (by rw [Sz, zz]) (Hv 0 (by omega) (by omega)) (Hv 1 (by omega) (by omega)) (Hv 2 (by omega) (by omega)) (Hv 3 (by omega) (by omega)) pn (by rw [nl]; omega) (by rw [nl]; omega)) hZ (hw _ (List.mem_of_getElem? (i := 46) rfl)) (hw _ (List.mem_of_getElem? (i := 45) rfl)) (by decide) (by decide)) (g := (mkF m 47 #[.val (.ref a1), .val (.long q2), .second] [(.int ((f7 (K.toInt64) ((2 : Int64) * (zf.toInt64))).toInt32)), (.ref fa), (.ref a1)])) rfl (by rw [hml]; rfl) (argsL := [(.ref fa), (.int ((f7 (K.toInt64) ((2 : Int64) * (zf.toInt64))).toInt32))]) (rest := [(.ref a1)]) (lenOf pd_2 rfl) rfl (by show 2 * 0 + _ ≤ _; exact Nat.le_of_eq rfl) (hb hby d5_47) (fun _ _ => ⟨rfl, e10q, (by decide : 0 + 1 ≤ _), (by decide : 0 + 8 ≤ _)⟩)
      dsimp only [Pt.U, Pt.locs, Pt.cells, Pt.slots] at X11 l11 y11 z11 st11 hQ11
      subst l11 y11 z11
      obtain ⟨rfl, N11q, K11q, cb11, Ab11, Sb11, v0, v1, v2, v3⟩ := hQ11
      have N11 := Fr.app N10 N11q
      have Z11 : n0 ≤ T11.heap.size := Nat.le_trans Z0 K11q.1
      refine Go.by st11 ?_
      show Go p e below T11 (mkF m 50 #[.val (.ref a1), .val (.long q2), .second] [(.ref h0.size), (.ref a1)]) _
      have fa12 := Ff.keep K11q nin0
      have fa13 := E1.keep K11q
      obtain ⟨T14, h14, X14, e14, W14, st14⟩ := putF X11 hx hZ hown (host := "") (Or.inl (hw _ (List.mem_of_getElem? (i := 16) rfl))) Via.refl rfl fa12 fa13 (Or.inl (hw _ (List.mem_of_getElem? (i := 17) rfl))) (hw _ (List.mem_of_getElem? (i := 1) rfl)) (ty := (.array .long)) (by decide) rfl rfl (g := (mkF m 50 #[.val (.ref a1), .val (.long q2), .second] [(.ref h0.size), (.ref a1)])) rfl rfl (hb hby d5_50)
      have F14 := fa12.same W14
      have N14 := Fr.snoc X14 N11 g1
      have Z14 : n0 ≤ h14.size := by rw [W14.size]; exact Z11
      refine Go.by st14 ?_
      show Go p e below T14 (mkF m 53 #[.val (.ref a1), .val (.long q2), .second] []) _
      refine Go.by (fun t k => XS.aloadN X14.here hx rfl (hb hby d5_53) rfl rfl k) ?_
      show Go p e below T14 (mkF m 54 #[.val (.ref a1), .val (.long q2), .second] [(.ref a1)]) _
      obtain ⟨T15, X15, e15, st15⟩ := getF X14 hx hZ hown (host := "") (Or.inl (hw _ (List.mem_of_getElem? (i := 16) rfl))) Via.refl e14 F14 (g := (mkF m 54 #[.val (.ref a1), .val (.long q2), .second] [(.ref a1)])) rfl rfl (hb hby d5_54)
      refine Go.by st15 ?_
      show Go p e below T15 (mkF m 57 #[.val (.ref a1), .val (.long q2), .second] [(.ref h0.size)]) _
      refine Go.by (fun t k => XS.aloadN X15.here hx rfl (hb hby d5_57) rfl rfl k) ?_
      show Go p e below T15 (mkF m 58 #[.val (.ref a1), .val (.long q2), .second] [(.ref a1), (.ref h0.size)]) _
      have fa16 := Fc.keep K11q nin0
      have fa17 := fa16.other W14 (Or.inr (slot_ne (Or.inl (hw _ (List.mem_of_getElem? (i := 28) rfl))) (Or.inl (hw _ (List.mem_of_getElem? (i := 17) rfl))) (by decide) (t := .int) (t' := (.array .long)) (by decide) (by decide)))
      obtain ⟨T18, X18, e18, st18⟩ := getF X15 hx hZ hown (host := "") (Or.inl (hw _ (List.mem_of_getElem? (i := 27) rfl))) Via.refl e15 fa17 (g := (mkF m 58 #[.val (.ref a1), .val (.long q2), .second] [(.ref a1), (.ref h0.size)])) rfl rfl (hb hby d5_58)
      refine Go.by st18 ?_
      show Go p e below T18 (mkF m 61 #[.val (.ref a1), .val (.long q2), .second] [(.int cc), (.ref h0.size)]) _
      refine Go.by (fun t k => XS.lloadN X18.here hx rfl (hb hby d5_61) rfl k) ?_
      show Go p e below T18 (mkF m 62 #[.val (.ref a1), .val (.long q2), .second] [(.long q2), (.int cc), (.ref h0.size)]) _
      have fa20 := Ab11.other W14 (Ne.symm (Nat.ne_of_lt E1.lt))
      have hs : cn < cb11.slots.size := own_sz Sb11 (by rw [nl]; omega)
      obtain ⟨T19, h19, X19, e19, W19, st19⟩ := stJ X18 hx hZ e18 fa20 (j := cc) (own_inb hcc hs) (g := (mkF m 62 #[.val (.ref a1), .val (.long q2), .second] [(.long q2), (.int cc), (.ref h0.size)])) rfl rfl (hb hby d5_62)
      have N19 := Fr.snoc X19 N14 Z0
      have Z19 : n0 ≤ h19.size := by rw [W19.size]; exact Z14
      have Aw19 := fa20.same W19
      refine Go.by st19 ?_
      show Go p e below T19 (mkF m 63 #[.val (.ref a1), .val (.long q2), .second] []) _
      refine Go.by (fun t k => XS.goto X19.here hx rfl (pc0 := 63) (pc' := 98) rfl (hb hby d5_63) (by decide) (by decide) k) ?_
      show Go p e below T19 (mkF m 98 #[.val (.ref a1), .val (.long q2), .second] []) _
      refine Go.by (fun t k => XS.aloadN X19.here hx rfl (hb hby d5_98) rfl rfl k) ?_
      show Go p e below T19 (mkF m 99 #[.val (.ref a1), .val (.long q2), .second] [(.ref a1)]) _
      refine Go.by (fun t k => XS.dup X19.here hx rfl (hb hby d5_99) rfl rfl k) ?_
      show Go p e below T19 (mkF m 100 #[.val (.ref a1), .val (.long q2), .second] [(.ref a1), (.ref a1)]) _
      have fa21 := fa17.other W19 (Or.inl (Nat.ne_of_lt E1.lt))
      obtain ⟨T22, X22, e22, st22⟩ := getF X19 hx hZ hown (host := "") (Or.inl (hw _ (List.mem_of_getElem? (i := 27) rfl))) Via.refl e19 fa21 (g := (mkF m 100 #[.val (.ref a1), .val (.long q2), .second] [(.ref a1), (.ref a1)])) rfl rfl (hb hby d5_100)
      refine Go.by st22 ?_
      show Go p e below T22 (mkF m 103 #[.val (.ref a1), .val (.long q2), .second] [(.int cc), (.ref a1)]) _
      refine Go.by (fun t k => XS.iconst X22.here hx rfl (hb hby d5_103) k) ?_
      show Go p e below T22 (mkF m 104 #[.val (.ref a1), .val (.long q2), .second] [(.int (1 : Int32)), (.int cc), (.ref a1)]) _
      refine Go.by (fun t k => XS.iadd X22.here hx rfl (hb hby d5_104) rfl k) ?_
      show Go p e below T22 (mkF m 105 #[.val (.ref a1), .val (.long q2), .second] [(.int (cc + (1 : Int32))), (.ref a1)]) _
      have fa23 := fa13.wr W14
      have fa24 := fa23.wr W19
      obtain ⟨T25, h25, X25, e25, W25, st25⟩ := putF X22 hx hZ hown (host := "") (Or.inl (hw _ (List.mem_of_getElem? (i := 27) rfl))) Via.refl e22 fa21 fa24 (Or.inl (hw _ (List.mem_of_getElem? (i := 28) rfl))) (hw _ (List.mem_of_getElem? (i := 1) rfl)) (ty := .int) (by decide) rfl rfl (g := (mkF m 105 #[.val (.ref a1), .val (.long q2), .second] [(.int (cc + (1 : Int32))), (.ref a1)])) rfl rfl (hb hby d5_105)
      have F25 := fa21.same W25
      have N25 := Fr.snoc X25 N19 g1
      have Z25 : n0 ≤ h25.size := by rw [W25.size]; exact Z19
      refine Go.by st25 ?_
      show Go p e below T25 (mkF m 108 #[.val (.ref a1), .val (.long q2), .second] []) _
      obtain ⟨fs, hr, hrun, hended, hW, hsame⟩ := X25.leave (v := none) (fun _ => rfl)
      refine Go.done (X25.returnOut hx Bd.returns (hb hby d5_108) hr) hrun hended ⟨_, _, rfl, ?_, ⟨_, rfl⟩, hW, hsame.mono (by decide) (by decide)⟩
      show Q5 Z a1 q2 K cn val h0 n0 _ T25.heap _
      rw [e25]
      have fa26 := fa24.wr W25
      have fa27 := Fk.keep K11q nin0
      have fa28 := fa27.other W14 (Or.inr (slot_ne (Or.inr (hw _ (List.mem_of_getElem? (i := 10) rfl))) (Or.inl (hw _ (List.mem_of_getElem? (i := 17) rfl))) (by decide) (t := .int) (t' := (.array .long)) (by decide) (by decide)))
      have fa29 := fa28.other W19 (Or.inl (Nat.ne_of_lt E1.lt))
      have fa30 := fa29.other W25 (Or.inr (slot_ne (Or.inr (hw _ (List.mem_of_getElem? (i := 10) rfl))) (Or.inl (hw _ (List.mem_of_getElem? (i := 28) rfl))) (by decide) (t := .int) (t' := .int) (by decide) (by decide)))
      have fa31 := F14.other W19 (Or.inl (Nat.ne_of_lt E1.lt))
      have fa32 := fa31.other W25 (Or.inr (slot_ne (Or.inl (hw _ (List.mem_of_getElem? (i := 17) rfl))) (Or.inl (hw _ (List.mem_of_getElem? (i := 28) rfl))) (by decide) (t := (.array .long)) (t' := .int) (by decide) (by decide)))
      have fa33 := Fl.keep K11q nin0
      have fa34 := fa33.other W14 (Or.inr (slot_ne (Or.inl (hw _ (List.mem_of_getElem? (i := 30) rfl))) (Or.inl (hw _ (List.mem_of_getElem? (i := 17) rfl))) (by decide) (t := (.array .long)) (t' := (.array .long)) (by decide) (by decide)))
      have fa35 := fa34.other W19 (Or.inl (Nat.ne_of_lt E1.lt))
      have fa36 := fa35.other W25 (Or.inr (slot_ne (Or.inl (hw _ (List.mem_of_getElem? (i := 30) rfl))) (Or.inl (hw _ (List.mem_of_getElem? (i := 28) rfl))) (by decide) (t := (.array .long)) (t' := .int) (by decide) (by decide)))
      have fa37 := Aw19.other W25 (Ne.symm (Nat.ne_of_lt E1.lt))
      exact ⟨rfl, N25, Z25, h0.size, _, ((f7 (K.toInt64) ((2 : Int64) * (zf.toInt64))).toInt32), _, lv, fa26, fa30, F25, fa32, fa36, own_inc hcc (by omega), Z0, (Ne.symm (Nat.ne_of_lt E1.lt)), fa37, by rw [own_ss]; exact Sb11, by rw [own_lt0, nl]; omega, by rw [nl, c4, own_len5 _ K5], own_vals hcc hs (fun i q => own_v5 v0 v1 v2 v3 i (by omega)) hq, own_ringN HL (own_ltI hcc hc3)⟩
    · refine Go.by (fun t k => XS.icmpYes X5.here hx rfl (pc0 := 20) (pc' := 53) rfl (hb hby d5_20) rfl (feq hc6).2 (by decide) (by decide) k) ?_
      show Go p e below T5 (mkF m 53 #[.val (.ref a1), .val (.long q2), .second] []) _
      refine Go.by (fun t k => XS.aloadN X5.here hx rfl (hb hby d5_53) rfl rfl k) ?_
      show Go p e below T5 (mkF m 54 #[.val (.ref a1), .val (.long q2), .second] [(.ref a1)]) _
      obtain ⟨T38, X38, e38, st38⟩ := getF X5 hx hZ hown (host := "") (Or.inl (hw _ (List.mem_of_getElem? (i := 16) rfl))) Via.refl e5 Ff (g := (mkF m 54 #[.val (.ref a1), .val (.long q2), .second] [(.ref a1)])) rfl rfl (hb hby d5_54)
      refine Go.by st38 ?_
      show Go p e below T38 (mkF m 57 #[.val (.ref a1), .val (.long q2), .second] [(.ref fa)]) _
      refine Go.by (fun t k => XS.aloadN X38.here hx rfl (hb hby d5_57) rfl rfl k) ?_
      show Go p e below T38 (mkF m 58 #[.val (.ref a1), .val (.long q2), .second] [(.ref a1), (.ref fa)]) _
      obtain ⟨T39, X39, e39, st39⟩ := getF X38 hx hZ hown (host := "") (Or.inl (hw _ (List.mem_of_getElem? (i := 27) rfl))) Via.refl e38 Fc (g := (mkF m 58 #[.val (.ref a1), .val (.long q2), .second] [(.ref a1), (.ref fa)])) rfl rfl (hb hby d5_58)
      refine Go.by st39 ?_
      show Go p e below T39 (mkF m 61 #[.val (.ref a1), .val (.long q2), .second] [(.int cc), (.ref fa)]) _
      refine Go.by (fun t k => XS.lloadN X39.here hx rfl (hb hby d5_61) rfl k) ?_
      show Go p e below T39 (mkF m 62 #[.val (.ref a1), .val (.long q2), .second] [(.long q2), (.int cc), (.ref fa)]) _
      have ln := own_lenA hcc Lz hc7 (own_ltI hcc hc3) hc6
      have hs := own_sz Sz ln.1
      obtain ⟨T40, h40, X40, e40, W40, st40⟩ := stJ X39 hx hZ e39 Ar (j := cc) (own_inb hcc hs) (g := (mkF m 62 #[.val (.ref a1), .val (.long q2), .second] [(.long q2), (.int cc), (.ref fa)])) rfl rfl (hb hby d5_62)
      have N40 := Fr.snoc X40 N0 g2
      have Z40 : n0 ≤ h40.size := by rw [W40.size]; exact Z0
      have Aw40 := Ar.same W40
      refine Go.by st40 ?_
      show Go p e below T40 (mkF m 63 #[.val (.ref a1), .val (.long q2), .second] []) _
      refine Go.by (fun t k => XS.goto X40.here hx rfl (pc0 := 63) (pc' := 98) rfl (hb hby d5_63) (by decide) (by decide) k) ?_
      show Go p e below T40 (mkF m 98 #[.val (.ref a1), .val (.long q2), .second] []) _
      refine Go.by (fun t k => XS.aloadN X40.here hx rfl (hb hby d5_98) rfl rfl k) ?_
      show Go p e below T40 (mkF m 99 #[.val (.ref a1), .val (.long q2), .second] [(.ref a1)]) _
      refine Go.by (fun t k => XS.dup X40.here hx rfl (hb hby d5_99) rfl rfl k) ?_
      show Go p e below T40 (mkF m 100 #[.val (.ref a1), .val (.long q2), .second] [(.ref a1), (.ref a1)]) _
      have fa41 := Fc.other W40 (Or.inl (Ne.symm nfa))
      obtain ⟨T42, X42, e42, st42⟩ := getF X40 hx hZ hown (host := "") (Or.inl (hw _ (List.mem_of_getElem? (i := 27) rfl))) Via.refl e40 fa41 (g := (mkF m 100 #[.val (.ref a1), .val (.long q2), .second] [(.ref a1), (.ref a1)])) rfl rfl (hb hby d5_100)
      refine Go.by st42 ?_
      show Go p e below T42 (mkF m 103 #[.val (.ref a1), .val (.long q2), .second] [(.int cc), (.ref a1)]) _
      refine Go.by (fun t k => XS.iconst X42.here hx rfl (hb hby d5_103) k) ?_
      show Go p e below T42 (mkF m 104 #[.val (.ref a1), .val (.long q2), .second] [(.int (1 : Int32)), (.int cc), (.ref a1)]) _
      refine Go.by (fun t k => XS.iadd X42.here hx rfl (hb hby d5_104) rfl k) ?_
      show Go p e below T42 (mkF m 105 #[.val (.ref a1), .val (.long q2), .second] [(.int (cc + (1 : Int32))), (.ref a1)]) _
      have fa43 := E1.wr W40
      obtain ⟨T44, h44, X44, e44, W44, st44⟩ := putF X42 hx hZ hown (host := "") (Or.inl (hw _ (List.mem_of_getElem? (i := 27) rfl))) Via.refl e42 fa41 fa43 (Or.inl (hw _ (List.mem_of_getElem? (i := 28) rfl))) (hw _ (List.mem_of_getElem? (i := 1) rfl)) (ty := .int) (by decide) rfl rfl (g := (mkF m 105 #[.val (.ref a1), .val (.long q2), .second] [(.int (cc + (1 : Int32))), (.ref a1)])) rfl rfl (hb hby d5_105)
      have F44 := fa41.same W44
      have N44 := Fr.snoc X44 N40 g1
      have Z44 : n0 ≤ h44.size := by rw [W44.size]; exact Z40
      refine Go.by st44 ?_
      show Go p e below T44 (mkF m 108 #[.val (.ref a1), .val (.long q2), .second] []) _
      obtain ⟨fs, hr, hrun, hended, hW, hsame⟩ := X44.leave (v := none) (fun _ => rfl)
      refine Go.done (X44.returnOut hx Bd.returns (hb hby d5_108) hr) hrun hended ⟨_, _, rfl, ?_, ⟨_, rfl⟩, hW, hsame.mono (by decide) (by decide)⟩
      show Q5 Z a1 q2 K cn val h0 n0 _ T44.heap _
      rw [e44]
      have fa45 := fa43.wr W44
      have fa46 := Fk.other W40 (Or.inl (Ne.symm nfa))
      have fa47 := fa46.other W44 (Or.inr (slot_ne (Or.inr (hw _ (List.mem_of_getElem? (i := 10) rfl))) (Or.inl (hw _ (List.mem_of_getElem? (i := 28) rfl))) (by decide) (t := .int) (t' := .int) (by decide) (by decide)))
      have fa48 := Ff.other W40 (Or.inl (Ne.symm nfa))
      have fa49 := fa48.other W44 (Or.inr (slot_ne (Or.inl (hw _ (List.mem_of_getElem? (i := 17) rfl))) (Or.inl (hw _ (List.mem_of_getElem? (i := 28) rfl))) (by decide) (t := (.array .long)) (t' := .int) (by decide) (by decide)))
      have fa50 := Fl.other W40 (Or.inl (Ne.symm nfa))
      have fa51 := fa50.other W44 (Or.inr (slot_ne (Or.inl (hw _ (List.mem_of_getElem? (i := 30) rfl))) (Or.inl (hw _ (List.mem_of_getElem? (i := 28) rfl))) (by decide) (t := (.array .long)) (t' := .int) (by decide) (by decide)))
      have fa52 := Aw40.other W44 nfa
      exact ⟨rfl, N44, Z44, fa, _, zf, _, lv, fa45, fa47, F44, fa49, fa51, own_inc hcc (by omega), g2, nfa, fa52, by rw [own_ss]; exact Sz, Mz, ln.2, own_vals hcc hs Hv hq, own_ringN HL (own_ltI hcc hc3)⟩
  · refine Go.by (fun t k => XS.icmpYes X2.here hx rfl (pc0 := 8) (pc' := 66) rfl (hb hby d5_8) rfl (flt hc3).2.1 (by decide) (by decide) k) ?_
    show Go p e below T2 (mkF m 66 #[.val (.ref a1), .val (.long q2), .second] []) _
    have K7 := own_K7 hK1 (own_nltI hcc hc3) hc7
    have RM := own_rem (K := K) hcc hK1
    rcases HL with ⟨hcK, rfl⟩ | ⟨hcK, la, cr, rfl, g3, nla, nlf, Ar2, Sz2, Hr⟩
    · show Go p e below T2 (mkF m 66 #[.val (.ref a1), .val (.long q2), .second] []) _
      refine Go.by (fun t k => XS.aloadN X2.here hx rfl (hb hby d5_66) rfl rfl k) ?_
      show Go p e below T2 (mkF m 67 #[.val (.ref a1), .val (.long q2), .second] [(.ref a1)]) _
      obtain ⟨T53, X53, e53, st53⟩ := getF X2 hx hZ hown (host := "") (Or.inl (hw _ (List.mem_of_getElem? (i := 29) rfl))) Via.refl e2 Fl (g := (mkF m 67 #[.val (.ref a1), .val (.long q2), .second] [(.ref a1)])) rfl rfl (hb hby d5_67)
      refine Go.by st53 ?_
      show Go p e below T53 (mkF m 70 #[.val (.ref a1), .val (.long q2), .second] [.null]) _
      refine Go.by (fun t k => XS.ifnonnullNo X53.here hx rfl (hb hby d5_70) rfl k) ?_
      show Go p e below T53 (mkF m 73 #[.val (.ref a1), .val (.long q2), .second] []) _
      refine Go.by (fun t k => XS.aloadN X53.here hx rfl (hb hby d5_73) rfl rfl k) ?_
      show Go p e below T53 (mkF m 74 #[.val (.ref a1), .val (.long q2), .second] [(.ref a1)]) _
      refine Go.by (fun t k => XS.aloadN X53.here hx rfl (hb hby d5_74) rfl rfl k) ?_
      show Go p e below T53 (mkF m 75 #[.val (.ref a1), .val (.long q2), .second] [(.ref a1), (.ref a1)]) _
      obtain ⟨T54, X54, e54, st54⟩ := getF X53 hx hZ hown (host := "") (Or.inl (hw _ (List.mem_of_getElem? (i := 9) rfl))) Via.refl e53 Fk (g := (mkF m 75 #[.val (.ref a1), .val (.long q2), .second] [(.ref a1), (.ref a1)])) rfl rfl (hb hby d5_75)
      refine Go.by st54 ?_
      show Go p e below T54 (mkF m 78 #[.val (.ref a1), .val (.long q2), .second] [(.int K), (.ref a1)]) _
      obtain ⟨T55, h55, k55, X55, e55, E55, A55, st55⟩ := newP X54 hx hZ (hw _ (List.mem_of_getElem? (i := 15) rfl)) e54 (g := (mkF m 78 #[.val (.ref a1), .val (.long q2), .second] [(.int K), (.ref a1)])) rfl (hb hby d5_78) rfl K7.1 (cap := 8) K7.2.1 (by decide) (by decide) (by decide)
      obtain ⟨b55, g55⟩ : ∃ z, z = h0.size := ⟨_, rfl⟩
      rw [← g55] at A55 st55
      have gn55 : n0 ≤ b55 := Nat.le_trans Z0 (Nat.le_of_eq g55.symm)
      have ne_a1_b55 : a1 ≠ b55 := Nat.ne_of_lt (Nat.lt_of_lt_of_le E1.lt (Nat.le_of_eq g55.symm))
      have ne_fa_b55 : fa ≠ b55 := Nat.ne_of_lt (Nat.lt_of_lt_of_le Ar.lt (Nat.le_of_eq g55.symm))
      have Z55 : n0 ≤ h55.size := Nat.le_trans Z0 E55.1
      have V55 := Arv.new A55 K7.1
      refine Go.by st55 ?_
      show Go p e below T55 (mkF m 80 #[.val (.ref a1), .val (.long q2), .second] [(.ref b55), (.ref a1)]) _
      have fa56 := Fl.ext E55
      have fa57 := E1.ext E55
      obtain ⟨T58, h58, X58, e58, W58, st58⟩ := putF X55 hx hZ hown (host := "") (Or.inl (hw _ (List.mem_of_getElem? (i := 29) rfl))) Via.refl e55 fa56 fa57 (Or.inl (hw _ (List.mem_of_getElem? (i := 30) rfl))) (hw _ (List.mem_of_getElem? (i := 1) rfl)) (ty := (.array .long)) (by decide) rfl rfl (g := (mkF m 80 #[.val (.ref a1), .val (.long q2), .second] [(.ref b55), (.ref a1)])) rfl rfl (hb hby d5_80)
      have F58 := fa56.same W58
      have N58 := Fr.snoc X58 N0 g1
      have Z58 : n0 ≤ h58.size := by rw [W58.size]; exact Z55
      refine Go.by st58 ?_
      show Go p e below T58 (mkF m 83 #[.val (.ref a1), .val (.long q2), .second] []) _
      refine Go.by (fun t k => XS.aloadN X58.here hx rfl (hb hby d5_83) rfl rfl k) ?_
      show Go p e below T58 (mkF m 84 #[.val (.ref a1), .val (.long q2), .second] [(.ref a1)]) _
      obtain ⟨T59, X59, e59, st59⟩ := getF X58 hx hZ hown (host := "") (Or.inl (hw _ (List.mem_of_getElem? (i := 29) rfl))) Via.refl e58 F58 (g := (mkF m 84 #[.val (.ref a1), .val (.long q2), .second] [(.ref a1)])) rfl rfl (hb hby d5_84)
      refine Go.by st59 ?_
      show Go p e below T59 (mkF m 87 #[.val (.ref a1), .val (.long q2), .second] [(.ref b55)]) _
      refine Go.by (fun t k => XS.aloadN X59.here hx rfl (hb hby d5_87) rfl rfl k) ?_
      show Go p e below T59 (mkF m 88 #[.val (.ref a1), .val (.long q2), .second] [(.ref a1), (.ref b55)]) _
      have fa60 := Fc.ext E55
      have fa61 := fa60.other W58 (Or.inr (slot_ne (Or.inl (hw _ (List.mem_of_getElem? (i := 28) rfl))) (Or.inl (hw _ (List.mem_of_getElem? (i := 30) rfl))) (by decide) (t := .int) (t' := (.array .long)) (by decide) (by decide)))
      obtain ⟨T62, X62, e62, st62⟩ := getF X59 hx hZ hown (host := "") (Or.inl (hw _ (List.mem_of_getElem? (i := 27) rfl))) Via.refl e59 fa61 (g := (mkF m 88 #[.val (.ref a1), .val (.long q2), .second] [(.ref a1), (.ref b55)])) rfl rfl (hb hby d5_88)
      refine Go.by st62 ?_
      show Go p e below T62 (mkF m 91 #[.val (.ref a1), .val (.long q2), .second] [(.int cc), (.ref b55)]) _
      refine Go.by (fun t k => XS.aloadN X62.here hx rfl (hb hby d5_91) rfl rfl k) ?_
      show Go p e below T62 (mkF m 92 #[.val (.ref a1), .val (.long q2), .second] [(.ref a1), (.int cc), (.ref b55)]) _
      have fa63 := Fk.ext E55
      have fa64 := fa63.other W58 (Or.inr (slot_ne (Or.inr (hw _ (List.mem_of_getElem? (i := 10) rfl))) (Or.inl (hw _ (List.mem_of_getElem? (i := 30) rfl))) (by decide) (t := .int) (t' := (.array .long)) (by decide) (by decide)))
      obtain ⟨T65, X65, e65, st65⟩ := getF X62 hx hZ hown (host := "") (Or.inl (hw _ (List.mem_of_getElem? (i := 9) rfl))) Via.refl e62 fa64 (g := (mkF m 92 #[.val (.ref a1), .val (.long q2), .second] [(.ref a1), (.int cc), (.ref b55)])) rfl rfl (hb hby d5_92)
      refine Go.by st65 ?_
      show Go p e below T65 (mkF m 95 #[.val (.ref a1), .val (.long q2), .second] [(.int K), (.int cc), (.ref b55)]) _
      refine Go.by (fun t k => iremM X65 hx rfl (hb hby d5_95) rfl (own_ne0 hK1) k) ?_
      show Go p e below T65 (mkF m 96 #[.val (.ref a1), .val (.long q2), .second] [(.int (cc % K)), (.ref b55)]) _
      refine Go.by (fun t k => XS.lloadN X65.here hx rfl (hb hby d5_96) rfl k) ?_
      show Go p e below T65 (mkF m 97 #[.val (.ref a1), .val (.long q2), .second] [(.long q2), (.int (cc % K)), (.ref b55)]) _
      have fa67 := V55.other W58 (Ne.symm ne_a1_b55)
      obtain ⟨cr, Ar2, -, Sz2, -, -, -⟩ := fa67
      obtain ⟨T66, h66, X66, e66, W66, st66⟩ := stJ X65 hx hZ e65 Ar2 (j := (cc % K)) (fun q => q.elim RM.2.1 (fun r => by rw [Sz2, RM.1] at r; exact absurd RM.2.2 (Nat.not_lt.mpr r))) (g := (mkF m 97 #[.val (.ref a1), .val (.long q2), .second] [(.long q2), (.int (cc % K)), (.ref b55)])) rfl rfl (hb hby d5_97)
      have N66 := Fr.snoc X66 N58 gn55
      have Z66 : n0 ≤ h66.size := by rw [W66.size]; exact Z58
      have Aw66 := Ar2.same W66
      refine Go.by st66 ?_
      show Go p e below T66 (mkF m 98 #[.val (.ref a1), .val (.long q2), .second] []) _
      refine Go.by (fun t k => XS.aloadN X66.here hx rfl (hb hby d5_98) rfl rfl k) ?_
      show Go p e below T66 (mkF m 99 #[.val (.ref a1), .val (.long q2), .second] [(.ref a1)]) _
      refine Go.by (fun t k => XS.dup X66.here hx rfl (hb hby d5_99) rfl rfl k) ?_
      show Go p e below T66 (mkF m 100 #[.val (.ref a1), .val (.long q2), .second] [(.ref a1), (.ref a1)]) _
      have fa68 := fa61.other W66 (Or.inl ne_a1_b55)
      obtain ⟨T69, X69, e69, st69⟩ := getF X66 hx hZ hown (host := "") (Or.inl (hw _ (List.mem_of_getElem? (i := 27) rfl))) Via.refl e66 fa68 (g := (mkF m 100 #[.val (.ref a1), .val (.long q2), .second] [(.ref a1), (.ref a1)])) rfl rfl (hb hby d5_100)
      refine Go.by st69 ?_
      show Go p e below T69 (mkF m 103 #[.val (.ref a1), .val (.long q2), .second] [(.int cc), (.ref a1)]) _
      refine Go.by (fun t k => XS.iconst X69.here hx rfl (hb hby d5_103) k) ?_
      show Go p e below T69 (mkF m 104 #[.val (.ref a1), .val (.long q2), .second] [(.int (1 : Int32)), (.int cc), (.ref a1)]) _
      refine Go.by (fun t k => XS.iadd X69.here hx rfl (hb hby d5_104) rfl k) ?_
      show Go p e below T69 (mkF m 105 #[.val (.ref a1), .val (.long q2), .second] [(.int (cc + (1 : Int32))), (.ref a1)]) _
      have fa70 := fa57.wr W58
      have fa71 := fa70.wr W66
      obtain ⟨T72, h72, X72, e72, W72, st72⟩ := putF X69 hx hZ hown (host := "") (Or.inl (hw _ (List.mem_of_getElem? (i := 27) rfl))) Via.refl e69 fa68 fa71 (Or.inl (hw _ (List.mem_of_getElem? (i := 28) rfl))) (hw _ (List.mem_of_getElem? (i := 1) rfl)) (ty := .int) (by decide) rfl rfl (g := (mkF m 105 #[.val (.ref a1), .val (.long q2), .second] [(.int (cc + (1 : Int32))), (.ref a1)])) rfl rfl (hb hby d5_105)
      have F72 := fa68.same W72
      have N72 := Fr.snoc X72 N66 g1
      have Z72 : n0 ≤ h72.size := by rw [W72.size]; exact Z66
      refine Go.by st72 ?_
      show Go p e below T72 (mkF m 108 #[.val (.ref a1), .val (.long q2), .second] []) _
      obtain ⟨fs, hr, hrun, hended, hW, hsame⟩ := X72.leave (v := none) (fun _ => rfl)
      refine Go.done (X72.returnOut hx Bd.returns (hb hby d5_108) hr) hrun hended ⟨_, _, rfl, ?_, ⟨_, rfl⟩, hW, hsame.mono (by decide) (by decide)⟩
      show Q5 Z a1 q2 K cn val h0 n0 _ T72.heap _
      rw [e72]
      have fa73 := fa71.wr W72
      have fa74 := fa64.other W66 (Or.inl ne_a1_b55)
      have fa75 := fa74.other W72 (Or.inr (slot_ne (Or.inr (hw _ (List.mem_of_getElem? (i := 10) rfl))) (Or.inl (hw _ (List.mem_of_getElem? (i := 28) rfl))) (by decide) (t := .int) (t' := .int) (by decide) (by decide)))
      have fa76 := Ff.ext E55
      have fa77 := fa76.other W58 (Or.inr (slot_ne (Or.inl (hw _ (List.mem_of_getElem? (i := 17) rfl))) (Or.inl (hw _ (List.mem_of_getElem? (i := 30) rfl))) (by decide) (t := (.array .long)) (t' := (.array .long)) (by decide) (by decide)))
      have fa78 := fa77.other W66 (Or.inl ne_a1_b55)
      have fa79 := fa78.other W72 (Or.inr (slot_ne (Or.inl (hw _ (List.mem_of_getElem? (i := 17) rfl))) (Or.inl (hw _ (List.mem_of_getElem? (i := 28) rfl))) (by decide) (t := (.array .long)) (t' := .int) (by decide) (by decide)))
      have fa80 := F58.other W66 (Or.inl ne_a1_b55)
      have fa81 := fa80.other W72 (Or.inr (slot_ne (Or.inl (hw _ (List.mem_of_getElem? (i := 30) rfl))) (Or.inl (hw _ (List.mem_of_getElem? (i := 28) rfl))) (by decide) (t := (.array .long)) (t' := .int) (by decide) (by decide)))
      have fa82 := Ar.ext E55
      have fa83 := fa82.other W58 nfa
      have fa84 := fa83.other W66 ne_fa_b55
      have fa85 := fa84.other W72 nfa
      have fa86 := Aw66.other W72 (Ne.symm ne_a1_b55)
      exact ⟨rfl, N72, Z72, fa, cf, zf, _, .ref b55, fa73, fa75, F72, fa79, fa81, own_inc hcc (by omega), g2, nfa, fa85, Sz, Mz, own_lenB Lz (own_nltI hcc hc3), fun i q1 q2 => Hv i (by have := own_nltI hcc hc3; omega) q2, Or.inr ⟨by have := own_nltI hcc hc3; omega, b55, _, rfl, gn55, (Ne.symm ne_a1_b55), (Ne.symm ne_fa_b55), fa86, by rw [own_ss]; exact Sz2, own_ringB (cc := cc) _ RM.1 K7.2.2 Sz2 (fun i q1 q2 q3 => absurd q2 (by have e : K.toNatClampNeg = K.toInt.toNat := rfl; rw [e] at q1; omega)) hq⟩⟩
    · show Go p e below T2 (mkF m 66 #[.val (.ref a1), .val (.long q2), .second] []) _
      refine Go.by (fun t k => XS.aloadN X2.here hx rfl (hb hby d5_66) rfl rfl k) ?_
      show Go p e below T2 (mkF m 67 #[.val (.ref a1), .val (.long q2), .second] [(.ref a1)]) _
      obtain ⟨T87, X87, e87, st87⟩ := getF X2 hx hZ hown (host := "") (Or.inl (hw _ (List.mem_of_getElem? (i := 29) rfl))) Via.refl e2 Fl (g := (mkF m 67 #[.val (.ref a1), .val (.long q2), .second] [(.ref a1)])) rfl rfl (hb hby d5_67)
      refine Go.by st87 ?_
      show Go p e below T87 (mkF m 70 #[.val (.ref a1), .val (.long q2), .second] [(.ref la)]) _
      refine Go.by (fun t k => XS.ifnonnullYes X87.here hx rfl (pc0 := 70) (pc' := 83) rfl (hb hby d5_70) rfl (by decide) (by decide) k) ?_
      show Go p e below T87 (mkF m 83 #[.val (.ref a1), .val (.long q2), .second] []) _
      refine Go.by (fun t k => XS.aloadN X87.here hx rfl (hb hby d5_83) rfl rfl k) ?_
      show Go p e below T87 (mkF m 84 #[.val (.ref a1), .val (.long q2), .second] [(.ref a1)]) _
      obtain ⟨T88, X88, e88, st88⟩ := getF X87 hx hZ hown (host := "") (Or.inl (hw _ (List.mem_of_getElem? (i := 29) rfl))) Via.refl e87 Fl (g := (mkF m 84 #[.val (.ref a1), .val (.long q2), .second] [(.ref a1)])) rfl rfl (hb hby d5_84)
      refine Go.by st88 ?_
      show Go p e below T88 (mkF m 87 #[.val (.ref a1), .val (.long q2), .second] [(.ref la)]) _
      refine Go.by (fun t k => XS.aloadN X88.here hx rfl (hb hby d5_87) rfl rfl k) ?_
      show Go p e below T88 (mkF m 88 #[.val (.ref a1), .val (.long q2), .second] [(.ref a1), (.ref la)]) _
      obtain ⟨T89, X89, e89, st89⟩ := getF X88 hx hZ hown (host := "") (Or.inl (hw _ (List.mem_of_getElem? (i := 27) rfl))) Via.refl e88 Fc (g := (mkF m 88 #[.val (.ref a1), .val (.long q2), .second] [(.ref a1), (.ref la)])) rfl rfl (hb hby d5_88)
      refine Go.by st89 ?_
      show Go p e below T89 (mkF m 91 #[.val (.ref a1), .val (.long q2), .second] [(.int cc), (.ref la)]) _
      refine Go.by (fun t k => XS.aloadN X89.here hx rfl (hb hby d5_91) rfl rfl k) ?_
      show Go p e below T89 (mkF m 92 #[.val (.ref a1), .val (.long q2), .second] [(.ref a1), (.int cc), (.ref la)]) _
      obtain ⟨T90, X90, e90, st90⟩ := getF X89 hx hZ hown (host := "") (Or.inl (hw _ (List.mem_of_getElem? (i := 9) rfl))) Via.refl e89 Fk (g := (mkF m 92 #[.val (.ref a1), .val (.long q2), .second] [(.ref a1), (.int cc), (.ref la)])) rfl rfl (hb hby d5_92)
      refine Go.by st90 ?_
      show Go p e below T90 (mkF m 95 #[.val (.ref a1), .val (.long q2), .second] [(.int K), (.int cc), (.ref la)]) _
      refine Go.by (fun t k => iremM X90 hx rfl (hb hby d5_95) rfl (own_ne0 hK1) k) ?_
      show Go p e below T90 (mkF m 96 #[.val (.ref a1), .val (.long q2), .second] [(.int (cc % K)), (.ref la)]) _
      refine Go.by (fun t k => XS.lloadN X90.here hx rfl (hb hby d5_96) rfl k) ?_
      show Go p e below T90 (mkF m 97 #[.val (.ref a1), .val (.long q2), .second] [(.long q2), (.int (cc % K)), (.ref la)]) _
      obtain ⟨T91, h91, X91, e91, W91, st91⟩ := stJ X90 hx hZ e90 Ar2 (j := (cc % K)) (fun q => q.elim RM.2.1 (fun r => by rw [Sz2, RM.1] at r; exact absurd RM.2.2 (Nat.not_lt.mpr r))) (g := (mkF m 97 #[.val (.ref a1), .val (.long q2), .second] [(.long q2), (.int (cc % K)), (.ref la)])) rfl rfl (hb hby d5_97)
      have N91 := Fr.snoc X91 N0 g3
      have Z91 : n0 ≤ h91.size := by rw [W91.size]; exact Z0
      have Aw91 := Ar2.same W91
      refine Go.by st91 ?_
      show Go p e below T91 (mkF m 98 #[.val (.ref a1), .val (.long q2), .second] []) _
      refine Go.by (fun t k => XS.aloadN X91.here hx rfl (hb hby d5_98) rfl rfl k) ?_
      show Go p e below T91 (mkF m 99 #[.val (.ref a1), .val (.long q2), .second] [(.ref a1)]) _
      refine Go.by (fun t k => XS.dup X91.here hx rfl (hb hby d5_99) rfl rfl k) ?_
      show Go p e below T91 (mkF m 100 #[.val (.ref a1), .val (.long q2), .second] [(.ref a1), (.ref a1)]) _
      have fa92 := Fc.other W91 (Or.inl (Ne.symm nla))
      obtain ⟨T93, X93, e93, st93⟩ := getF X91 hx hZ hown (host := "") (Or.inl (hw _ (List.mem_of_getElem? (i := 27) rfl))) Via.refl e91 fa92 (g := (mkF m 100 #[.val (.ref a1), .val (.long q2), .second] [(.ref a1), (.ref a1)])) rfl rfl (hb hby d5_100)
      refine Go.by st93 ?_
      show Go p e below T93 (mkF m 103 #[.val (.ref a1), .val (.long q2), .second] [(.int cc), (.ref a1)]) _
      refine Go.by (fun t k => XS.iconst X93.here hx rfl (hb hby d5_103) k) ?_
      show Go p e below T93 (mkF m 104 #[.val (.ref a1), .val (.long q2), .second] [(.int (1 : Int32)), (.int cc), (.ref a1)]) _
      refine Go.by (fun t k => XS.iadd X93.here hx rfl (hb hby d5_104) rfl k) ?_
      show Go p e below T93 (mkF m 105 #[.val (.ref a1), .val (.long q2), .second] [(.int (cc + (1 : Int32))), (.ref a1)]) _
      have fa94 := E1.wr W91
      obtain ⟨T95, h95, X95, e95, W95, st95⟩ := putF X93 hx hZ hown (host := "") (Or.inl (hw _ (List.mem_of_getElem? (i := 27) rfl))) Via.refl e93 fa92 fa94 (Or.inl (hw _ (List.mem_of_getElem? (i := 28) rfl))) (hw _ (List.mem_of_getElem? (i := 1) rfl)) (ty := .int) (by decide) rfl rfl (g := (mkF m 105 #[.val (.ref a1), .val (.long q2), .second] [(.int (cc + (1 : Int32))), (.ref a1)])) rfl rfl (hb hby d5_105)
      have F95 := fa92.same W95
      have N95 := Fr.snoc X95 N91 g1
      have Z95 : n0 ≤ h95.size := by rw [W95.size]; exact Z91
      refine Go.by st95 ?_
      show Go p e below T95 (mkF m 108 #[.val (.ref a1), .val (.long q2), .second] []) _
      obtain ⟨fs, hr, hrun, hended, hW, hsame⟩ := X95.leave (v := none) (fun _ => rfl)
      refine Go.done (X95.returnOut hx Bd.returns (hb hby d5_108) hr) hrun hended ⟨_, _, rfl, ?_, ⟨_, rfl⟩, hW, hsame.mono (by decide) (by decide)⟩
      show Q5 Z a1 q2 K cn val h0 n0 _ T95.heap _
      rw [e95]
      have fa96 := fa94.wr W95
      have fa97 := Fk.other W91 (Or.inl (Ne.symm nla))
      have fa98 := fa97.other W95 (Or.inr (slot_ne (Or.inr (hw _ (List.mem_of_getElem? (i := 10) rfl))) (Or.inl (hw _ (List.mem_of_getElem? (i := 28) rfl))) (by decide) (t := .int) (t' := .int) (by decide) (by decide)))
      have fa99 := Ff.other W91 (Or.inl (Ne.symm nla))
      have fa100 := fa99.other W95 (Or.inr (slot_ne (Or.inl (hw _ (List.mem_of_getElem? (i := 17) rfl))) (Or.inl (hw _ (List.mem_of_getElem? (i := 28) rfl))) (by decide) (t := (.array .long)) (t' := .int) (by decide) (by decide)))
      have fa101 := Fl.other W91 (Or.inl (Ne.symm nla))
      have fa102 := fa101.other W95 (Or.inr (slot_ne (Or.inl (hw _ (List.mem_of_getElem? (i := 30) rfl))) (Or.inl (hw _ (List.mem_of_getElem? (i := 28) rfl))) (by decide) (t := (.array .long)) (t' := .int) (by decide) (by decide)))
      have fa103 := Ar.other W91 (Ne.symm nlf)
      have fa104 := fa103.other W95 nfa
      have fa105 := Aw91.other W95 nla
      exact ⟨rfl, N95, Z95, fa, cf, zf, _, .ref la, fa96, fa98, F95, fa100, fa102, own_inc hcc (by omega), g2, nfa, fa104, Sz, Mz, own_lenB Lz (own_nltI hcc hc3), fun i q1 q2 => Hv i (by have := own_nltI hcc hc3; omega) q2, Or.inr ⟨by have := own_nltI hcc hc3; omega, la, _, rfl, g3, nla, nlf, fa105, by rw [own_ss]; exact Sz2, own_ringB (cc := cc) _ RM.1 K7.2.2 Sz2 (fun i q1 q2 q3 => Hr i q1 q2 (by omega)) hq⟩⟩
theorem own_back {x cc K : Int32} {ix c : Nat} (h : x.toInt = (ix : Int)) (hcc : cc.toInt = (c : Int)) (h1 : 1 ≤ K.toInt) (h2 : K.toInt ≤ 1073741824) (hc : c ≤ 8) (hn : ¬ (ix : Int) < K.toInt) (q : (ix : Int) < K.toInt ∨ (c : Int) ≤ (ix : Int) + K.toInt) : ¬ x < (cc - K) := by
  rw [Int32.lt_iff_toInt_lt, Jvm.Kit.i32_sub (by omega) (by omega)]; omega
theorem own_first {K zf : Int32} {cf : Cell} {c ix : Nat} (hz : zf.toInt = own_len K.toInt c) (S : cf.slots.size = zf.toNatClampNeg) (h : ix < c) (hc : c ≤ 8) (q : (ix : Int) < K.toInt) : ix < cf.slots.size := by
  have e : zf.toNatClampNeg = zf.toInt.toNat := rfl
  unfold own_len at hz
  rw [S, e]
  split at hz <;> omega
theorem own_geN {x K : Int32} {ix : Nat} (h : x.toInt = (ix : Int)) (hn : ¬ (ix : Int) < K.toInt) (h1 : 1 ≤ K.toInt) : K.toNatClampNeg ≤ ix := by
  show K.toInt.toNat ≤ ix
  omega
theorem own_le2 {K : Int32} {ix c : Nat} (q : (ix : Int) < K.toInt ∨ (c : Int) ≤ (ix : Int) + K.toInt) (hn : ¬ (ix : Int) < K.toInt) (h1 : 1 ≤ K.toInt) : c ≤ ix + K.toNatClampNeg := by
  have e : K.toNatClampNeg = K.toInt.toNat := rfl
  rw [e]; omega
theorem d6_0 : decode prog_91_method_4_code 0 = .ok (.iload_n 1, 1) := by decide +kernel
theorem d6_1 : decode prog_91_method_4_code 1 = .ok (.ifCond .lt 32, 3) := by decide +kernel
theorem d6_4 : decode prog_91_method_4_code 4 = .ok (.iload_n 1, 1) := by decide +kernel
theorem d6_5 : decode prog_91_method_4_code 5 = .ok (.aload_n 0, 1) := by decide +kernel
theorem d6_6 : decode prog_91_method_4_code 6 = .ok (.getfield 23, 3) := by decide +kernel
theorem d6_9 : decode prog_91_method_4_code 9 = .ok (.if_icmp .ge 24, 3) := by decide +kernel
theorem d6_12 : decode prog_91_method_4_code 12 = .ok (.iload_n 1, 1) := by decide +kernel
theorem d6_13 : decode prog_91_method_4_code 13 = .ok (.aload_n 0, 1) := by decide +kernel
theorem d6_14 : decode prog_91_method_4_code 14 = .ok (.getfield 7, 3) := by decide +kernel
theorem d6_17 : decode prog_91_method_4_code 17 = .ok (.if_icmp .lt 38, 3) := by decide +kernel
theorem d6_20 : decode prog_91_method_4_code 20 = .ok (.iload_n 1, 1) := by decide +kernel
theorem d6_21 : decode prog_91_method_4_code 21 = .ok (.aload_n 0, 1) := by decide +kernel
theorem d6_22 : decode prog_91_method_4_code 22 = .ok (.getfield 23, 3) := by decide +kernel
theorem d6_25 : decode prog_91_method_4_code 25 = .ok (.aload_n 0, 1) := by decide +kernel
theorem d6_26 : decode prog_91_method_4_code 26 = .ok (.getfield 7, 3) := by decide +kernel
theorem d6_29 : decode prog_91_method_4_code 29 = .ok (.isub, 1) := by decide +kernel
theorem d6_30 : decode prog_91_method_4_code 30 = .ok (.if_icmp .ge 25, 3) := by decide +kernel
theorem d6_55 : decode prog_91_method_4_code 55 = .ok (.iload_n 1, 1) := by decide +kernel
theorem d6_56 : decode prog_91_method_4_code 56 = .ok (.aload_n 0, 1) := by decide +kernel
theorem d6_57 : decode prog_91_method_4_code 57 = .ok (.getfield 7, 3) := by decide +kernel
theorem d6_60 : decode prog_91_method_4_code 60 = .ok (.if_icmp .ge 12, 3) := by decide +kernel
theorem d6_63 : decode prog_91_method_4_code 63 = .ok (.aload_n 0, 1) := by decide +kernel
theorem d6_64 : decode prog_91_method_4_code 64 = .ok (.getfield 19, 3) := by decide +kernel
theorem d6_67 : decode prog_91_method_4_code 67 = .ok (.iload_n 1, 1) := by decide +kernel
theorem d6_68 : decode prog_91_method_4_code 68 = .ok (.laload, 1) := by decide +kernel
theorem d6_69 : decode prog_91_method_4_code 69 = .ok (.goto 14, 3) := by decide +kernel
theorem d6_72 : decode prog_91_method_4_code 72 = .ok (.aload_n 0, 1) := by decide +kernel
theorem d6_73 : decode prog_91_method_4_code 73 = .ok (.getfield 37, 3) := by decide +kernel
theorem d6_76 : decode prog_91_method_4_code 76 = .ok (.iload_n 1, 1) := by decide +kernel
theorem d6_77 : decode prog_91_method_4_code 77 = .ok (.aload_n 0, 1) := by decide +kernel
theorem d6_78 : decode prog_91_method_4_code 78 = .ok (.getfield 7, 3) := by decide +kernel
theorem d6_81 : decode prog_91_method_4_code 81 = .ok (.irem, 1) := by decide +kernel
theorem d6_82 : decode prog_91_method_4_code 82 = .ok (.laload, 1) := by decide +kernel
theorem d6_83 : decode prog_91_method_4_code 83 = .ok (.lreturn, 1) := by decide +kernel
theorem ef_6 (m : MethodId) (x0 : Addr) (x1 : Int32) : entryFrame m #[(.ref x0), (.int x1)] 2 = mkF m 0 #[.val (.ref x0), .val (.int x1)] [] := by first | (simp [entryFrame, mkF, argsToLocals, Value.category]; done) | rfl
def Q6 (Z : State) (a1 : Addr) (p2 : Int32) (K : Int32) (cn : Nat) (val : Nat → Int64) (ix : Nat) (h0 : Heap) (n0 : Nat) (v : Option Value) (h : Heap) (L : List Loc) : Prop := v = some (.long (val ix)) ∧ Fr n0 L ∧ h = h0
set_option maxRecDepth 65536 in
set_option maxHeartbeats 40000000 in
theorem rm6 (l : Launch) (Z : State) (a0 : Array Value) (hw : ∀ d ∈ tables_1, d.before a0 Z = true) (ws : List Jvm.Cond) (a1 : Addr) (p2 : Int32) (K : Int32) (cn : Nat) (val : Nat → Int64) (ix : Nat) (h0 : Heap) (n0 : Nat) (Z0 : n0 ≤ h0.size) (I : own_Inv Z h0 n0 a1 K cn val) (hix : p2.toInt = (ix : Int)) (hin1 : ix < cn) (hin2 : (ix : Int) < K.toInt ∨ (cn : Int) ≤ (ix : Int) + K.toInt) (hc8 : cn ≤ 8) (hK1 : 1 ≤ K.toInt) (hK2 : K.toInt ≤ 1073741824) :
    MetFree l (⟨"com/example/pagecast/pagecast/push/Starts", "get", "(I)J"⟩ : MethodName) (head1 (Jvm.Cond.code (⟨"com/example/pagecast/pagecast/push/Starts", "get", "(I)J"⟩ : MethodName) prog_91_method_4_code 2 (some .long) :: ws) ({ frames := 0, cells := 0, slots := 0, locals := 0 } : Room)) (fun a U => a = #[(.ref a1), (.int p2)] ∧ Z.Warmed39 U.vm ∧ U.heap = h0) (fun _ _ _ _ _ => True) (fun _ U o U' => ∃ v L, o = .returned v ∧ Q6 Z a1 p2 K cn val ix h0 n0 v U'.heap L ∧ FrameEnd U o U' L ({ frames := 0, cells := 0, slots := 0, locals := 0 } : Room).cells ({ frames := 0, cells := 0, slots := 0, locals := 0 } : Room).slots) := by
  refine MetFree.of_bodySF (plainFor_of_name pn_1) hisR ?_
  intro p e s m args below meth c s₁ Bd hml0 hP hK
  obtain ⟨rfl, hZ, hh⟩ := hP
  have hx := Bd.exec
  have hby := Bd.bytes
  have hml : c.maxLocals = 2 := hml0
  have hown : s.vm.findClass "com/example/pagecast/pagecast/push/Starts" = some m.cls := findClass_of_methodNamed Bd.named
  have hnm := (name_of_methodNamed Bd.named Bd.method).1
  have X0 : Stand p l e ({ frames := 0, cells := 0, slots := 0, locals := 0 } : Room) s m #[(.ref a1), (.int p2)] below meth c s₁ [] 0 0 := Stand.of_body Bd
  have e0 : s₁.heap = h0 := by rw [← hh, Bd.state]; rfl
  have N0 := Fr.nil n0
  refine Go.start (ef_6 m a1 p2) ?_
  show Go p e below s₁ (mkF m 0 #[.val (.ref a1), .val (.int p2)] []) _
  obtain ⟨fa, cf, zf, cc, lv, E1, Fk, Fc, Ff, Fl, hcc, g2, nfa, Ar, Sz, Mz, Lz, Hv, HL⟩ := I
  refine Go.by (fun t k => XS.iloadN X0.here hx rfl (hb hby d6_0) rfl k) ?_
  show Go p e below s₁ (mkF m 1 #[.val (.ref a1), .val (.int p2)] [(.int p2)]) _
  refine Go.by (fun t k => XS.ifNo X0.here hx rfl (hb hby d6_1) rfl ((if0 _ _).trans (flt (show ¬ (p2 < (0 : Int32)) from (fun r => by rw [own_lt0, hix] at r; omega))).1) k) ?_
  show Go p e below s₁ (mkF m 4 #[.val (.ref a1), .val (.int p2)] []) _
  refine Go.by (fun t k => XS.iloadN X0.here hx rfl (hb hby d6_4) rfl k) ?_
  show Go p e below s₁ (mkF m 5 #[.val (.ref a1), .val (.int p2)] [(.int p2)]) _
  refine Go.by (fun t k => XS.aloadN X0.here hx rfl (hb hby d6_5) rfl rfl k) ?_
  show Go p e below s₁ (mkF m 6 #[.val (.ref a1), .val (.int p2)] [(.ref a1), (.int p2)]) _
  obtain ⟨T1, X1, e1, st1⟩ := getF X0 hx hZ hown (host := "") (Or.inl (hw _ (List.mem_of_getElem? (i := 27) rfl))) Via.refl e0 Fc (g := (mkF m 6 #[.val (.ref a1), .val (.int p2)] [(.ref a1), (.int p2)])) rfl rfl (hb hby d6_6)
  refine Go.by st1 ?_
  show Go p e below T1 (mkF m 9 #[.val (.ref a1), .val (.int p2)] [(.int cc), (.int p2)]) _
  refine Go.by (fun t k => XS.icmpNo X1.here hx rfl (hb hby d6_9) rfl (tlt (show p2 < cc from (by rw [Int32.lt_iff_toInt_lt, hix, hcc]; omega))).2.1 k) ?_
  show Go p e below T1 (mkF m 12 #[.val (.ref a1), .val (.int p2)] []) _
  refine Go.by (fun t k => XS.iloadN X1.here hx rfl (hb hby d6_12) rfl k) ?_
  show Go p e below T1 (mkF m 13 #[.val (.ref a1), .val (.int p2)] [(.int p2)]) _
  refine Go.by (fun t k => XS.aloadN X1.here hx rfl (hb hby d6_13) rfl rfl k) ?_
  show Go p e below T1 (mkF m 14 #[.val (.ref a1), .val (.int p2)] [(.ref a1), (.int p2)]) _
  obtain ⟨T2, X2, e2, st2⟩ := getF X1 hx hZ hown (host := "") (Or.inl (hw _ (List.mem_of_getElem? (i := 9) rfl))) Via.refl e1 Fk (g := (mkF m 14 #[.val (.ref a1), .val (.int p2)] [(.ref a1), (.int p2)])) rfl rfl (hb hby d6_14)
  refine Go.by st2 ?_
  show Go p e below T2 (mkF m 17 #[.val (.ref a1), .val (.int p2)] [(.int K), (.int p2)]) _
  by_cases hc3 : p2 < K
  · refine Go.by (fun t k => XS.icmpYes X2.here hx rfl (pc0 := 17) (pc' := 55) rfl (hb hby d6_17) rfl (tlt hc3).1 (by decide) (by decide) k) ?_
    show Go p e below T2 (mkF m 55 #[.val (.ref a1), .val (.int p2)] []) _
    refine Go.by (fun t k => XS.iloadN X2.here hx rfl (hb hby d6_55) rfl k) ?_
    show Go p e below T2 (mkF m 56 #[.val (.ref a1), .val (.int p2)] [(.int p2)]) _
    refine Go.by (fun t k => XS.aloadN X2.here hx rfl (hb hby d6_56) rfl rfl k) ?_
    show Go p e below T2 (mkF m 57 #[.val (.ref a1), .val (.int p2)] [(.ref a1), (.int p2)]) _
    obtain ⟨T4, X4, e4, st4⟩ := getF X2 hx hZ hown (host := "") (Or.inl (hw _ (List.mem_of_getElem? (i := 9) rfl))) Via.refl e2 Fk (g := (mkF m 57 #[.val (.ref a1), .val (.int p2)] [(.ref a1), (.int p2)])) rfl rfl (hb hby d6_57)
    refine Go.by st4 ?_
    show Go p e below T4 (mkF m 60 #[.val (.ref a1), .val (.int p2)] [(.int K), (.int p2)]) _
    refine Go.by (fun t k => XS.icmpNo X4.here hx rfl (hb hby d6_60) rfl (tlt (show p2 < K from hc3)).2.1 k) ?_
    show Go p e below T4 (mkF m 63 #[.val (.ref a1), .val (.int p2)] []) _
    refine Go.by (fun t k => XS.aloadN X4.here hx rfl (hb hby d6_63) rfl rfl k) ?_
    show Go p e below T4 (mkF m 64 #[.val (.ref a1), .val (.int p2)] [(.ref a1)]) _
    obtain ⟨T5, X5, e5, st5⟩ := getF X4 hx hZ hown (host := "") (Or.inl (hw _ (List.mem_of_getElem? (i := 16) rfl))) Via.refl e4 Ff (g := (mkF m 64 #[.val (.ref a1), .val (.int p2)] [(.ref a1)])) rfl rfl (hb hby d6_64)
    refine Go.by st5 ?_
    show Go p e below T5 (mkF m 67 #[.val (.ref a1), .val (.int p2)] [(.ref fa)]) _
    refine Go.by (fun t k => XS.iloadN X5.here hx rfl (hb hby d6_67) rfl k) ?_
    show Go p e below T5 (mkF m 68 #[.val (.ref a1), .val (.int p2)] [(.int p2), (.ref fa)]) _
    have hs := own_first Lz Sz hin1 hc8 (own_ltI hix hc3)
    refine Go.by (fun t k => X5.laload hx (j := p2) (v := (.long (val ix))) (by rw [e5]; exact Ar.1) (State.isArrayOf_alike hZ.alike Ar.2.1) Ar.2.2 (own_inb hix hs) (by rw [own_nat hix]; exact Hv ix hin1 (own_ltI hix hc3)) (g := (mkF m 68 #[.val (.ref a1), .val (.int p2)] [(.int p2), (.ref fa)])) rfl rfl (hb hby d6_68) t k) ?_
    show Go p e below T5 (mkF m 69 #[.val (.ref a1), .val (.int p2)] [(.long (val ix))]) _
    refine Go.by (fun t k => XS.goto X5.here hx rfl (pc0 := 69) (pc' := 83) rfl (hb hby d6_69) (by decide) (by decide) k) ?_
    show Go p e below T5 (mkF m 83 #[.val (.ref a1), .val (.int p2)] [(.long (val ix))]) _
    obtain ⟨fs, hr, hrun, hended, hW, hsame⟩ := X5.leave (v := some (.long (val ix))) (fun h => by rw [Bd.returns] at h; cases h)
    refine Go.done (retJ X5 hx Bd.returns (hb hby d6_83) hr) hrun hended ⟨_, _, rfl, ?_, ⟨_, rfl⟩, hW, hsame.mono (by decide) (by decide)⟩
    show Q6 Z a1 p2 K cn val ix h0 n0 _ T5.heap _
    rw [e5]
    exact ⟨rfl, N0, rfl⟩
  · refine Go.by (fun t k => XS.icmpNo X2.here hx rfl (hb hby d6_17) rfl (flt hc3).1 k) ?_
    show Go p e below T2 (mkF m 20 #[.val (.ref a1), .val (.int p2)] []) _
    refine Go.by (fun t k => XS.iloadN X2.here hx rfl (hb hby d6_20) rfl k) ?_
    show Go p e below T2 (mkF m 21 #[.val (.ref a1), .val (.int p2)] [(.int p2)]) _
    refine Go.by (fun t k => XS.aloadN X2.here hx rfl (hb hby d6_21) rfl rfl k) ?_
    show Go p e below T2 (mkF m 22 #[.val (.ref a1), .val (.int p2)] [(.ref a1), (.int p2)]) _
    obtain ⟨T6, X6, e6, st6⟩ := getF X2 hx hZ hown (host := "") (Or.inl (hw _ (List.mem_of_getElem? (i := 27) rfl))) Via.refl e2 Fc (g := (mkF m 22 #[.val (.ref a1), .val (.int p2)] [(.ref a1), (.int p2)])) rfl rfl (hb hby d6_22)
    refine Go.by st6 ?_
    show Go p e below T6 (mkF m 25 #[.val (.ref a1), .val (.int p2)] [(.int cc), (.int p2)]) _
    refine Go.by (fun t k => XS.aloadN X6.here hx rfl (hb hby d6_25) rfl rfl k) ?_
    show Go p e below T6 (mkF m 26 #[.val (.ref a1), .val (.int p2)] [(.ref a1), (.int cc), (.int p2)]) _
    obtain ⟨T7, X7, e7, st7⟩ := getF X6 hx hZ hown (host := "") (Or.inl (hw _ (List.mem_of_getElem? (i := 9) rfl))) Via.refl e6 Fk (g := (mkF m 26 #[.val (.ref a1), .val (.int p2)] [(.ref a1), (.int cc), (.int p2)])) rfl rfl (hb hby d6_26)
    refine Go.by st7 ?_
    show Go p e below T7 (mkF m 29 #[.val (.ref a1), .val (.int p2)] [(.int K), (.int cc), (.int p2)]) _
    refine Go.by (fun t k => XS.isub X7.here hx rfl (hb hby d6_29) rfl k) ?_
    show Go p e below T7 (mkF m 30 #[.val (.ref a1), .val (.int p2)] [(.int (cc - K)), (.int p2)]) _
    refine Go.by (fun t k => XS.icmpYes X7.here hx rfl (pc0 := 30) (pc' := 55) rfl (hb hby d6_30) rfl (flt (show ¬ (p2 < (cc - K)) from (own_back hix hcc hK1 hK2 hc8 (own_nltI hix hc3) hin2))).2.1 (by decide) (by decide) k) ?_
    show Go p e below T7 (mkF m 55 #[.val (.ref a1), .val (.int p2)] []) _
    refine Go.by (fun t k => XS.iloadN X7.here hx rfl (hb hby d6_55) rfl k) ?_
    show Go p e below T7 (mkF m 56 #[.val (.ref a1), .val (.int p2)] [(.int p2)]) _
    refine Go.by (fun t k => XS.aloadN X7.here hx rfl (hb hby d6_56) rfl rfl k) ?_
    show Go p e below T7 (mkF m 57 #[.val (.ref a1), .val (.int p2)] [(.ref a1), (.int p2)]) _
    obtain ⟨T8, X8, e8, st8⟩ := getF X7 hx hZ hown (host := "") (Or.inl (hw _ (List.mem_of_getElem? (i := 9) rfl))) Via.refl e7 Fk (g := (mkF m 57 #[.val (.ref a1), .val (.int p2)] [(.ref a1), (.int p2)])) rfl rfl (hb hby d6_57)
    refine Go.by st8 ?_
    show Go p e below T8 (mkF m 60 #[.val (.ref a1), .val (.int p2)] [(.int K), (.int p2)]) _
    refine Go.by (fun t k => XS.icmpYes X8.here hx rfl (pc0 := 60) (pc' := 72) rfl (hb hby d6_60) rfl (flt (show ¬ (p2 < K) from hc3)).2.1 (by decide) (by decide) k) ?_
    show Go p e below T8 (mkF m 72 #[.val (.ref a1), .val (.int p2)] []) _
    rcases HL with ⟨hcK, -⟩ | ⟨hcK, la, cr, rfl, g3, nla, nlf, Ar2, Sz2, Hr⟩
    · exact absurd (own_nltI hix hc3) (by omega)
    · show Go p e below T8 (mkF m 72 #[.val (.ref a1), .val (.int p2)] []) _
      refine Go.by (fun t k => XS.aloadN X8.here hx rfl (hb hby d6_72) rfl rfl k) ?_
      show Go p e below T8 (mkF m 73 #[.val (.ref a1), .val (.int p2)] [(.ref a1)]) _
      obtain ⟨T9, X9, e9, st9⟩ := getF X8 hx hZ hown (host := "") (Or.inl (hw _ (List.mem_of_getElem? (i := 29) rfl))) Via.refl e8 Fl (g := (mkF m 73 #[.val (.ref a1), .val (.int p2)] [(.ref a1)])) rfl rfl (hb hby d6_73)
      refine Go.by st9 ?_
      show Go p e below T9 (mkF m 76 #[.val (.ref a1), .val (.int p2)] [(.ref la)]) _
      refine Go.by (fun t k => XS.iloadN X9.here hx rfl (hb hby d6_76) rfl k) ?_
      show Go p e below T9 (mkF m 77 #[.val (.ref a1), .val (.int p2)] [(.int p2), (.ref la)]) _
      refine Go.by (fun t k => XS.aloadN X9.here hx rfl (hb hby d6_77) rfl rfl k) ?_
      show Go p e below T9 (mkF m 78 #[.val (.ref a1), .val (.int p2)] [(.ref a1), (.int p2), (.ref la)]) _
      obtain ⟨T10, X10, e10, st10⟩ := getF X9 hx hZ hown (host := "") (Or.inl (hw _ (List.mem_of_getElem? (i := 9) rfl))) Via.refl e9 Fk (g := (mkF m 78 #[.val (.ref a1), .val (.int p2)] [(.ref a1), (.int p2), (.ref la)])) rfl rfl (hb hby d6_78)
      refine Go.by st10 ?_
      show Go p e below T10 (mkF m 81 #[.val (.ref a1), .val (.int p2)] [(.int K), (.int p2), (.ref la)]) _
      refine Go.by (fun t k => iremM X10 hx rfl (hb hby d6_81) rfl (own_ne0 hK1) k) ?_
      show Go p e below T10 (mkF m 82 #[.val (.ref a1), .val (.int p2)] [(.int (p2 % K)), (.ref la)]) _
      have RM := own_rem (K := K) hix hK1
      refine Go.by (fun t k => X10.laload hx (j := (p2 % K)) (v := (.long (val ix))) (by rw [e10]; exact Ar2.1) (State.isArrayOf_alike hZ.alike Ar2.2.1) Ar2.2.2 (fun q => q.elim RM.2.1 (fun r => by rw [Sz2, RM.1] at r; exact absurd RM.2.2 (Nat.not_lt.mpr r))) (by rw [RM.1]; exact Hr ix (own_geN hix (own_nltI hix hc3) hK1) hin1 (own_le2 hin2 (own_nltI hix hc3) hK1)) (g := (mkF m 82 #[.val (.ref a1), .val (.int p2)] [(.int (p2 % K)), (.ref la)])) rfl rfl (hb hby d6_82) t k) ?_
      show Go p e below T10 (mkF m 83 #[.val (.ref a1), .val (.int p2)] [(.long (val ix))]) _
      obtain ⟨fs, hr, hrun, hended, hW, hsame⟩ := X10.leave (v := some (.long (val ix))) (fun h => by rw [Bd.returns] at h; cases h)
      refine Go.done (retJ X10 hx Bd.returns (hb hby d6_83) hr) hrun hended ⟨_, _, rfl, ?_, ⟨_, rfl⟩, hW, hsame.mono (by decide) (by decide)⟩
      show Q6 Z a1 p2 K cn val ix h0 n0 _ T10.heap _
      rw [e10]
      exact ⟨rfl, N0, rfl⟩
theorem own_kv (p1 mk kv : Int32) (hm : mk = 7 ∨ mk = 1073741823) (h : (1 : Int32) + ((own_ushr p1 (1 : Int32)) &&& mk) = kv) : 1 ≤ kv.toInt ∧ kv.toInt ≤ 1073741824 := by
  have o : (1 : Int32).toInt = 1 := rfl
  rcases hm with rfl | rfl
  · have e := Jvm.Kit.i32_mask (own_ushr p1 1) 7 (k := 3) (by decide) (by decide)
    rw [← h, Jvm.Kit.i32_add (by omega) (by omega)]; omega
  · have e := Jvm.Kit.i32_mask (own_ushr p1 1) 1073741823 (k := 30) (by decide) (by decide)
    rw [← h, Jvm.Kit.i32_add (by omega) (by omega)]; omega
theorem own_nv (p2 nv : Int32) (h : (1 : Int32) + (p2 &&& (7 : Int32)) = nv) : 1 ≤ nv.toInt ∧ nv.toInt ≤ 8 := by
  have o : (1 : Int32).toInt = 1 := rfl
  have e := Jvm.Kit.i32_mask p2 7 (k := 3) (by decide) (by decide)
  rw [← h, Jvm.Kit.i32_add (by omega) (by omega)]; omega
theorem own_min1 {nv : Int32} (h : 1 ≤ nv.toInt) : min nv.toInt.toNat 1 = 1 := by omega
theorem own_yes {nv kk : Int32} {k : Nat} (hk : kk.toInt = (k : Int)) (h : kk < nv) : min nv.toInt.toNat k = k ∧ min nv.toInt.toNat (k + 1) = k + 1 := by
  rw [Int32.lt_iff_toInt_lt, hk] at h; omega
theorem own_no {nv kk : Int32} {k : Nat} (hk : kk.toInt = (k : Int)) (h : ¬ kk < nv) : min nv.toInt.toNat k = min nv.toInt.toNat (k + 1) := by
  rw [Int32.lt_iff_toInt_lt, hk] at h; omega
theorem own_cast {Z : State} {h : Heap} {n0 : Nat} {a : Addr} {K : Int32} {c c' : Nat} {val : Nat → Int64} (I : own_Inv Z h n0 a K c val) (e : c = c') : own_Inv Z h n0 a K c' val := e ▸ I
def own_tt (n K : Int) : Int := if n ≤ K then n else min (n - K) K + K
theorem own_t1 {nv kv : Int32} (h : ¬ kv < nv) : nv.toInt = own_tt nv.toInt kv.toInt := by
  rw [Int32.lt_iff_toInt_lt] at h
  unfold own_tt; split <;> omega
theorem own_t2 {nv kv : Int32} (h : kv < nv) (hn : 1 ≤ nv.toInt ∧ nv.toInt ≤ 8) (hk : 1 ≤ kv.toInt ∧ kv.toInt ≤ 1073741824) : ((f3 (nv - kv) kv) + kv).toInt = own_tt nv.toInt kv.toInt := by
  rw [Int32.lt_iff_toInt_lt] at h
  have e1 : (nv - kv).toInt = nv.toInt - kv.toInt := Jvm.Kit.i32_sub (by omega) (by omega)
  have e2 := own_minI (nv - kv) kv
  rw [e1] at e2
  rw [Jvm.Kit.i32_add (by omega) (by omega), e2]
  unfold own_tt; split <;> omega
theorem own_tpos {t nv kv : Int32} (h : t.toInt = own_tt nv.toInt kv.toInt) (hn : 1 ≤ nv.toInt ∧ nv.toInt ≤ 8) (hk : 1 ≤ kv.toInt ∧ kv.toInt ≤ 1073741824) : 1 ≤ t.toInt ∧ t.toInt ≤ 8 := by
  unfold own_tt at h; split at h <;> omega
theorem own_jv {p3 t jv : Int32} (h : (p3 &&& (2147483647 : Int32)) % t = jv) (ht : 1 ≤ t.toInt) : 0 ≤ jv.toInt ∧ jv.toInt < t.toInt := by
  have e := Jvm.Kit.i32_mask p3 2147483647 (k := 31) (by decide) (by decide)
  rw [← h, Jvm.Kit.i32_rem_nonneg (by omega)]
  exact ⟨Int.emod_nonneg _ (by omega), Int.emod_lt_of_pos _ (by omega)⟩
def own_ix (n K j : Int32) : Prop := ∃ ix : Nat, j.toInt = (ix : Int) ∧ ix < n.toInt.toNat ∧ ((ix : Int) < K.toInt ∨ ((n.toInt.toNat : Nat) : Int) ≤ (ix : Int) + K.toInt)
theorem own_i1 {nv kv t jv : Int32} (ht : t.toInt = own_tt nv.toInt kv.toInt) (hj : 0 ≤ jv.toInt ∧ jv.toInt < t.toInt) (h : jv < f3 nv kv) : own_ix nv kv jv := by
  rw [Int32.lt_iff_toInt_lt, own_minI] at h
  exact ⟨jv.toInt.toNat, by omega, by omega, by omega⟩
theorem own_i2 {nv kv t jv : Int32} (hn : 1 ≤ nv.toInt ∧ nv.toInt ≤ 8) (hk : 1 ≤ kv.toInt ∧ kv.toInt ≤ 1073741824) (ht : t.toInt = own_tt nv.toInt kv.toInt) (hj : 0 ≤ jv.toInt ∧ jv.toInt < t.toInt) (h : ¬ jv < f3 nv kv) : own_ix nv kv ((nv - t) + jv) := by
  rw [Int32.lt_iff_toInt_lt, own_minI] at h
  have tp := own_tpos ht hn hk
  have e1 : (nv - t).toInt = nv.toInt - t.toInt := Jvm.Kit.i32_sub (by omega) (by omega)
  have e2 : ((nv - t) + jv).toInt = nv.toInt - t.toInt + jv.toInt := by rw [Jvm.Kit.i32_add (by omega) (by omega), e1]
  unfold own_tt at ht
  refine ⟨((nv - t) + jv).toInt.toNat, ?_, ?_, ?_⟩ <;> (rw [e2]; split at ht <;> omega)
theorem own_last {b d : Int64} {j : Int32} {ix : Nat} (h : j.toInt = (ix : Int)) : f4 b d (Int32.ofNat ix) = f4 b d j := by
  have b1 := j.toInt_lt
  have e : Int32.ofNat ix = j := Int32.toInt_inj.mp (by rw [Int32.toInt_ofNat_of_lt (by omega), h])
  rw [e]
theorem pd_3 : parseMethodDescriptor "(I)V" = some ⟨[.int], none⟩ := by decide +kernel
theorem pd_4 : parseMethodDescriptor "(JJI)J" = some ⟨[.long, .long, .int], some .long⟩ := by decide +kernel
theorem pd_5 : parseMethodDescriptor "(J)V" = some ⟨[.long], none⟩ := by decide +kernel
theorem pd_6 : parseMethodDescriptor "(I)J" = some ⟨[.int], some .long⟩ := by decide +kernel
theorem ef_0 (m : MethodId) (x0 : Int32) (x1 : Int32) (x2 : Int32) (x3 : Int64) (x4 : Int64) : entryFrame m #[(.int x0), (.int x1), (.int x2), (.long x3), (.long x4)] maxLocals = mkF m 0 #[.val (.int x0), .val (.int x1), .val (.int x2), .val (.long x3), .second, .val (.long x4), .second, .unset, .unset, .unset, .unset, .unset, .unset, .unset, .unset] [] := by first | (simp [entryFrame, mkF, argsToLocals, Value.category, maxLocals]; done) | rfl
def Q0 (Z : State) (p1 : Int32) (p2 : Int32) (p3 : Int32) (q4 : Int64) (q5 : Int64) (h0 : Heap) (n0 : Nat) (v : Option Value) (h : Heap) (L : List Loc) : Prop := v = some (.int 1) ∧ Fr n0 L
def Pst0 (Z : State) (p1 : Int32) (p2 : Int32) (p3 : Int32) (q4 : Int64) (q5 : Int64) (h0 : Heap) (n0 : Nat) (s : State) : Outcome → State → Prop := fun o U' => ∃ v L, o = .returned v ∧ Q0 Z p1 p2 p3 q4 q5 h0 n0 v U'.heap L ∧ FrameEnd s o U' L room_1.cells room_1.slots
set_option maxRecDepth 65536 in
set_option maxHeartbeats 40000000 in
theorem rm0 (l : Launch) (Z : State) (a0 : Array Value) (hw : ∀ d ∈ tables_1, d.before a0 Z = true) (ws : List Jvm.Cond) (p1 : Int32) (p2 : Int32) (p3 : Int32) (q4 : Int64) (q5 : Int64) (h0 : Heap) (n0 : Nat) (Z0 : n0 ≤ h0.size) :
    MetFree l x (head1 (Jvm.Cond.code x code maxLocals ret :: ws) room_1) (fun a U => a = #[(.int p1), (.int p2), (.int p3), (.long q4), (.long q5)] ∧ Z.Warmed39 U.vm ∧ U.heap = h0) (fun _ _ _ _ _ => True) (fun _ U o U' => ∃ v L, o = .returned v ∧ Q0 Z p1 p2 p3 q4 q5 h0 n0 v U'.heap L ∧ FrameEnd U o U' L room_1.cells room_1.slots) := by
  refine MetFree.of_bodySF (plainFor_of_name pn_0) hisR ?_
  intro p e s m args below meth c s₁ Bd hml0 hP hK
  obtain ⟨rfl, hZ, hh⟩ := hP
  have hx := Bd.exec
  have hby := Bd.bytes
  have hml : c.maxLocals = 15 := hml0
  have hown : s.vm.findClass "com/example/pagecast/pagecast/push/StartsGetPinLaw" = some m.cls := findClass_of_methodNamed Bd.named
  have hnm := (name_of_methodNamed Bd.named Bd.method).1
  have X0 : Stand p l e room_1 s m #[(.int p1), (.int p2), (.int p3), (.long q4), (.long q5)] below meth c s₁ [] 0 0 := Stand.of_body Bd
  have e0 : s₁.heap = h0 := by rw [← hh, Bd.state]; rfl
  have N0 := Fr.nil n0
  refine Go.start (ef_0 m p1 p2 p3 q4 q5) ?_
  show Go p e below s₁ (mkF m 0 #[.val (.int p1), .val (.int p2), .val (.int p3), .val (.long q4), .second, .val (.long q5), .second, .unset, .unset, .unset, .unset, .unset, .unset, .unset, .unset] []) _
  refine Go.by (fun t k => XS.iconst X0.here hx rfl (hb hby at_0) k) ?_
  show Go p e below s₁ (mkF m 1 #[.val (.int p1), .val (.int p2), .val (.int p3), .val (.long q4), .second, .val (.long q5), .second, .unset, .unset, .unset, .unset, .unset, .unset, .unset, .unset] [(.int (1 : Int32))]) _
  refine Go.by (fun t k => XS.iloadN X0.here hx rfl (hb hby at_1) rfl k) ?_
  show Go p e below s₁ (mkF m 2 #[.val (.int p1), .val (.int p2), .val (.int p3), .val (.long q4), .second, .val (.long q5), .second, .unset, .unset, .unset, .unset, .unset, .unset, .unset, .unset] [(.int p1), (.int (1 : Int32))]) _
  refine Go.by (fun t k => XS.iconst X0.here hx rfl (hb hby at_2) k) ?_
  show Go p e below s₁ (mkF m 3 #[.val (.int p1), .val (.int p2), .val (.int p3), .val (.long q4), .second, .val (.long q5), .second, .unset, .unset, .unset, .unset, .unset, .unset, .unset, .unset] [(.int (1 : Int32)), (.int p1), (.int (1 : Int32))]) _
  refine Go.by (fun t k => XS.iushr X0.here hx rfl (hb hby at_3) rfl k) ?_
  show Go p e below s₁ (mkF m 4 #[.val (.int p1), .val (.int p2), .val (.int p3), .val (.long q4), .second, .val (.long q5), .second, .unset, .unset, .unset, .unset, .unset, .unset, .unset, .unset] [(.int (own_ushr p1 (1 : Int32))), (.int (1 : Int32))]) _
  refine Go.by (fun t k => XS.iloadN X0.here hx rfl (hb hby at_4) rfl k) ?_
  show Go p e below s₁ (mkF m 5 #[.val (.int p1), .val (.int p2), .val (.int p3), .val (.long q4), .second, .val (.long q5), .second, .unset, .unset, .unset, .unset, .unset, .unset, .unset, .unset] [(.int p1), (.int (own_ushr p1 (1 : Int32))), (.int (1 : Int32))]) _
  refine Go.by (fun t k => XS.iconst X0.here hx rfl (hb hby at_5) k) ?_
  show Go p e below s₁ (mkF m 6 #[.val (.int p1), .val (.int p2), .val (.int p3), .val (.long q4), .second, .val (.long q5), .second, .unset, .unset, .unset, .unset, .unset, .unset, .unset, .unset] [(.int (1 : Int32)), (.int p1), (.int (own_ushr p1 (1 : Int32))), (.int (1 : Int32))]) _
  refine Go.by (fun t k => XS.iand X0.here hx rfl (hb hby at_6) rfl k) ?_
  show Go p e below s₁ (mkF m 7 #[.val (.int p1), .val (.int p2), .val (.int p3), .val (.long q4), .second, .val (.long q5), .second, .unset, .unset, .unset, .unset, .unset, .unset, .unset, .unset] [(.int (p1 &&& (1 : Int32))), (.int (own_ushr p1 (1 : Int32))), (.int (1 : Int32))]) _
  have J17 : ∀ (j17_0 : Int32), (j17_0 = 7 ∨ j17_0 = 1073741823) → Go p e below s₁ (mkF m 17 #[.val (.int p1), .val (.int p2), .val (.int p3), .val (.long q4), .second, .val (.long q5), .second, .unset, .unset, .unset, .unset, .unset, .unset, .unset, .unset] [(.int j17_0), (.int (own_ushr p1 (1 : Int32))), (.int (1 : Int32))]) (Pst0 Z p1 p2 p3 q4 q5 h0 n0 s) := by
    intro j17_0 hj17
    refine Go.by (fun t k => XS.iand X0.here hx rfl (hb hby at_17) rfl k) ?_
    show Go p e below s₁ (mkF m 18 #[.val (.int p1), .val (.int p2), .val (.int p3), .val (.long q4), .second, .val (.long q5), .second, .unset, .unset, .unset, .unset, .unset, .unset, .unset, .unset] [(.int ((own_ushr p1 (1 : Int32)) &&& j17_0)), (.int (1 : Int32))]) _
    refine Go.by (fun t k => XS.iadd X0.here hx rfl (hb hby at_18) rfl k) ?_
    show Go p e below s₁ (mkF m 19 #[.val (.int p1), .val (.int p2), .val (.int p3), .val (.long q4), .second, .val (.long q5), .second, .unset, .unset, .unset, .unset, .unset, .unset, .unset, .unset] [(.int ((1 : Int32) + ((own_ushr p1 (1 : Int32)) &&& j17_0)))]) _
    refine Go.by (fun t k => XS.istore X0.here hx rfl (hb hby at_19) rfl (l' := #[.val (.int p1), .val (.int p2), .val (.int p3), .val (.long q4), .second, .val (.long q5), .second, .val (.int ((1 : Int32) + ((own_ushr p1 (1 : Int32)) &&& j17_0))), .unset, .unset, .unset, .unset, .unset, .unset, .unset]) rfl k) ?_
    show Go p e below s₁ (mkF m 21 #[.val (.int p1), .val (.int p2), .val (.int p3), .val (.long q4), .second, .val (.long q5), .second, .val (.int ((1 : Int32) + ((own_ushr p1 (1 : Int32)) &&& j17_0))), .unset, .unset, .unset, .unset, .unset, .unset, .unset] []) _
    generalize h_kv : ((1 : Int32) + ((own_ushr p1 (1 : Int32)) &&& j17_0)) = kv
    have KB := own_kv p1 _ kv hj17 h_kv
    refine Go.by (fun t k => XS.iconst X0.here hx rfl (hb hby at_21) k) ?_
    show Go p e below s₁ (mkF m 22 #[.val (.int p1), .val (.int p2), .val (.int p3), .val (.long q4), .second, .val (.long q5), .second, .val (.int kv), .unset, .unset, .unset, .unset, .unset, .unset, .unset] [(.int (1 : Int32))]) _
    refine Go.by (fun t k => XS.iloadN X0.here hx rfl (hb hby at_22) rfl k) ?_
    show Go p e below s₁ (mkF m 23 #[.val (.int p1), .val (.int p2), .val (.int p3), .val (.long q4), .second, .val (.long q5), .second, .val (.int kv), .unset, .unset, .unset, .unset, .unset, .unset, .unset] [(.int p2), (.int (1 : Int32))]) _
    refine Go.by (fun t k => XS.bipush X0.here hx rfl (hb hby at_23) k) ?_
    show Go p e below s₁ (mkF m 25 #[.val (.int p1), .val (.int p2), .val (.int p3), .val (.long q4), .second, .val (.long q5), .second, .val (.int kv), .unset, .unset, .unset, .unset, .unset, .unset, .unset] [(.int (7 : Int32)), (.int p2), (.int (1 : Int32))]) _
    refine Go.by (fun t k => XS.iand X0.here hx rfl (hb hby at_25) rfl k) ?_
    show Go p e below s₁ (mkF m 26 #[.val (.int p1), .val (.int p2), .val (.int p3), .val (.long q4), .second, .val (.long q5), .second, .val (.int kv), .unset, .unset, .unset, .unset, .unset, .unset, .unset] [(.int (p2 &&& (7 : Int32))), (.int (1 : Int32))]) _
    refine Go.by (fun t k => XS.iadd X0.here hx rfl (hb hby at_26) rfl k) ?_
    show Go p e below s₁ (mkF m 27 #[.val (.int p1), .val (.int p2), .val (.int p3), .val (.long q4), .second, .val (.long q5), .second, .val (.int kv), .unset, .unset, .unset, .unset, .unset, .unset, .unset] [(.int ((1 : Int32) + (p2 &&& (7 : Int32))))]) _
    refine Go.by (fun t k => XS.istore X0.here hx rfl (hb hby at_27) rfl (l' := #[.val (.int p1), .val (.int p2), .val (.int p3), .val (.long q4), .second, .val (.long q5), .second, .val (.int kv), .val (.int ((1 : Int32) + (p2 &&& (7 : Int32)))), .unset, .unset, .unset, .unset, .unset, .unset]) rfl k) ?_
    show Go p e below s₁ (mkF m 29 #[.val (.int p1), .val (.int p2), .val (.int p3), .val (.long q4), .second, .val (.long q5), .second, .val (.int kv), .val (.int ((1 : Int32) + (p2 &&& (7 : Int32)))), .unset, .unset, .unset, .unset, .unset, .unset] []) _
    generalize h_nv : ((1 : Int32) + (p2 &&& (7 : Int32))) = nv
    have NB := own_nv p2 nv h_nv
    refine Go.by (fun t k => XS.lload X0.here hx rfl (hb hby at_29) rfl k) ?_
    show Go p e below s₁ (mkF m 31 #[.val (.int p1), .val (.int p2), .val (.int p3), .val (.long q4), .second, .val (.long q5), .second, .val (.int kv), .val (.int nv), .unset, .unset, .unset, .unset, .unset, .unset] [(.long q5)]) _
    refine Go.by (fun t k => XS.lconst X0.here hx rfl (hb hby at_31) k) ?_
    show Go p e below s₁ (mkF m 32 #[.val (.int p1), .val (.int p2), .val (.int p3), .val (.long q4), .second, .val (.long q5), .second, .val (.int kv), .val (.int nv), .unset, .unset, .unset, .unset, .unset, .unset] [(.long (1 : Int64)), (.long q5)]) _
    refine Go.by (fun t k => XS.lor X0.here hx rfl (hb hby at_32) rfl k) ?_
    show Go p e below s₁ (mkF m 33 #[.val (.int p1), .val (.int p2), .val (.int p3), .val (.long q4), .second, .val (.long q5), .second, .val (.int kv), .val (.int nv), .unset, .unset, .unset, .unset, .unset, .unset] [(.long (q5 ||| (1 : Int64)))]) _
    refine Go.by (fun t k => XS.lstore X0.here hx rfl (hb hby at_33) rfl (l' := #[.val (.int p1), .val (.int p2), .val (.int p3), .val (.long q4), .second, .val (.long q5), .second, .val (.int kv), .val (.int nv), .val (.long (q5 ||| (1 : Int64))), .second, .unset, .unset, .unset, .unset]) rfl k) ?_
    show Go p e below s₁ (mkF m 35 #[.val (.int p1), .val (.int p2), .val (.int p3), .val (.long q4), .second, .val (.long q5), .second, .val (.int kv), .val (.int nv), .val (.long (q5 ||| (1 : Int64))), .second, .unset, .unset, .unset, .unset] []) _
    generalize h_dv : (q5 ||| (1 : Int64)) = dv
    obtain ⟨T1, h1, X1, e1, E1, A1, D1, -, st1⟩ := newO X0 hx hZ hown (hw _ (List.mem_of_getElem? (i := 0) rfl)) (hw _ (List.mem_of_getElem? (i := 1) rfl)) (hw _ (List.mem_of_getElem? (i := 2) rfl)) e0 (g := (mkF m 35 #[.val (.int p1), .val (.int p2), .val (.int p3), .val (.long q4), .second, .val (.long q5), .second, .val (.int kv), .val (.int nv), .val (.long dv), .second, .unset, .unset, .unset, .unset] [])) rfl (hb hby at_35) (by decide) (by decide)
    obtain ⟨b1, g1⟩ : ∃ z, z = h0.size := ⟨_, rfl⟩
    rw [← g1] at A1 D1 st1
    have gn1 : n0 ≤ b1 := Nat.le_trans Z0 (Nat.le_of_eq g1.symm)
    have Z1 : n0 ≤ h1.size := Nat.le_trans Z0 E1.1
    have F1_keep : Fld Z h1 b1 "com/example/pagecast/pagecast/push/Starts" "keep" "I" (.int (0 : Int32)) := D1 (Or.inr (hw _ (List.mem_of_getElem? (i := 10) rfl))) (ty := .int) (by decide)
    have F1_first : Fld Z h1 b1 "com/example/pagecast/pagecast/push/Starts" "first" "[J" .null := D1 (Or.inl (hw _ (List.mem_of_getElem? (i := 17) rfl))) (ty := (.array .long)) (by decide)
    have F1_count : Fld Z h1 b1 "com/example/pagecast/pagecast/push/Starts" "count" "I" (.int (0 : Int32)) := D1 (Or.inl (hw _ (List.mem_of_getElem? (i := 28) rfl))) (ty := .int) (by decide)
    have F1_last : Fld Z h1 b1 "com/example/pagecast/pagecast/push/Starts" "last" "[J" .null := D1 (Or.inl (hw _ (List.mem_of_getElem? (i := 30) rfl))) (ty := (.array .long)) (by decide)
    refine Go.by st1 ?_
    show Go p e below T1 (mkF m 38 #[.val (.int p1), .val (.int p2), .val (.int p3), .val (.long q4), .second, .val (.long q5), .second, .val (.int kv), .val (.int nv), .val (.long dv), .second, .unset, .unset, .unset, .unset] [(.ref b1)]) _
    refine Go.by (fun t k => XS.dup X1.here hx rfl (hb hby at_38) rfl rfl k) ?_
    show Go p e below T1 (mkF m 39 #[.val (.int p1), .val (.int p2), .val (.int p3), .val (.long q4), .second, .val (.long q5), .second, .val (.int kv), .val (.int nv), .val (.long dv), .second, .unset, .unset, .unset, .unset] [(.ref b1), (.ref b1)]) _
    refine Go.by (fun t k => XS.iload X1.here hx rfl (hb hby at_39) rfl k) ?_
    show Go p e below T1 (mkF m 41 #[.val (.int p1), .val (.int p2), .val (.int p3), .val (.long q4), .second, .val (.long q5), .second, .val (.int kv), .val (.int nv), .val (.long dv), .second, .unset, .unset, .unset, .unset] [(.int kv), (.ref b1), (.ref b1)]) _
    obtain ⟨_, _, ⟨T2, L2, k2, n2⟩, -, X2, ⟨Lc2, hQ2, l2, y2, z2⟩, st2⟩ := X1.specialBack hx (y := (⟨"com/example/pagecast/pagecast/push/Starts", "<init>", "(I)V"⟩ : MethodName)) rfl hown (mvT hZ (hw _ (List.mem_of_getElem? (i := 3) rfl))) (mvT hZ (hw _ (List.mem_of_getElem? (i := 4) rfl))) (mvT hZ (hw _ (List.mem_of_getElem? (i := 5) rfl))) (by decide) (backOf (W := 1) (rm1 l Z a0 hw [] b1 kv (fun i => f4 q4 dv (Int32.ofNat i)) (.int (0 : Int32)) .null h1 n0 Z1 A1 F1_keep F1_first F1_count F1_last gn1 KB.1 KB.2) hZ (hw _ (List.mem_of_getElem? (i := 5) rfl)) (hw _ (List.mem_of_getElem? (i := 2) rfl)) (by decide) (by decide)) (g := (mkF m 41 #[.val (.int p1), .val (.int p2), .val (.int p3), .val (.long q4), .second, .val (.long q5), .second, .val (.int kv), .val (.int nv), .val (.long dv), .second, .unset, .unset, .unset, .unset] [(.int kv), (.ref b1), (.ref b1)])) rfl (by rw [hml]; rfl) (Steps.refl _) (a := b1) (argsL := [(.int kv)]) (rest := [(.ref b1)]) (lenOf pd_3 rfl) rfl (by show 2 * 0 + _ ≤ _; exact Nat.le_of_eq rfl) (hb hby at_41) (fun _ _ => ⟨rfl, e1, (by decide : 1 + 1 ≤ _), (by decide : 4 + 4 ≤ _)⟩)
    dsimp only [Pt.U, Pt.locs, Pt.cells, Pt.slots] at X2 l2 y2 z2 st2 hQ2
    subst l2 y2 z2
    obtain ⟨rfl, N2q, Z2q, I2q⟩ := hQ2
    have N2 := Fr.app N0 N2q
    have Ex3 := own_exa I2q
    refine Go.by (fun t k => st2.trans k) ?_
    show Go p e below T2 (mkF m 44 #[.val (.int p1), .val (.int p2), .val (.int p3), .val (.long q4), .second, .val (.long q5), .second, .val (.int kv), .val (.int nv), .val (.long dv), .second, .unset, .unset, .unset, .unset] [(.ref b1)]) _
    refine Go.by (fun t k => XS.astore X2.here hx rfl (hb hby at_44) rfl rfl (l' := #[.val (.int p1), .val (.int p2), .val (.int p3), .val (.long q4), .second, .val (.long q5), .second, .val (.int kv), .val (.int nv), .val (.long dv), .second, .val (.ref b1), .unset, .unset, .unset]) rfl k) ?_
    show Go p e below T2 (mkF m 46 #[.val (.int p1), .val (.int p2), .val (.int p3), .val (.long q4), .second, .val (.long q5), .second, .val (.int kv), .val (.int nv), .val (.long dv), .second, .val (.ref b1), .unset, .unset, .unset] []) _
    refine Go.by (fun t k => XS.aload X2.here hx rfl (hb hby at_46) rfl rfl k) ?_
    show Go p e below T2 (mkF m 48 #[.val (.int p1), .val (.int p2), .val (.int p3), .val (.long q4), .second, .val (.long q5), .second, .val (.int kv), .val (.int nv), .val (.long dv), .second, .val (.ref b1), .unset, .unset, .unset] [(.ref b1)]) _
    refine Go.by (fun t k => XS.lloadN X2.here hx rfl (hb hby at_48) rfl k) ?_
    show Go p e below T2 (mkF m 49 #[.val (.int p1), .val (.int p2), .val (.int p3), .val (.long q4), .second, .val (.long q5), .second, .val (.int kv), .val (.int nv), .val (.long dv), .second, .val (.ref b1), .unset, .unset, .unset] [(.long q4), (.ref b1)]) _
    refine Go.by (fun t k => XS.lload X2.here hx rfl (hb hby at_49) rfl k) ?_
    show Go p e below T2 (mkF m 51 #[.val (.int p1), .val (.int p2), .val (.int p3), .val (.long q4), .second, .val (.long q5), .second, .val (.int kv), .val (.int nv), .val (.long dv), .second, .val (.ref b1), .unset, .unset, .unset] [(.long dv), (.long q4), (.ref b1)]) _
    refine Go.by (fun t k => XS.iconst X2.here hx rfl (hb hby at_51) k) ?_
    show Go p e below T2 (mkF m 52 #[.val (.int p1), .val (.int p2), .val (.int p3), .val (.long q4), .second, .val (.long q5), .second, .val (.int kv), .val (.int nv), .val (.long dv), .second, .val (.ref b1), .unset, .unset, .unset] [(.int (0 : Int32)), (.long dv), (.long q4), (.ref b1)]) _
    obtain ⟨_, _, ⟨T4, L4, k4, n4⟩, -, X4, ⟨Lc4, hQ4, l4, y4, z4⟩, st4⟩ := Jvm.LawKit.callS X2 hx (y := (⟨"com/example/pagecast/pagecast/push/StartsGetPinLaw", "v", "(JJI)J"⟩ : MethodName)) hown (mvT hZ (hw _ (List.mem_of_getElem? (i := 18) rfl))) (mvT hZ (hw _ (List.mem_of_getElem? (i := 19) rfl))) (mvT hZ (hw _ (List.mem_of_getElem? (i := 20) rfl))) (mvT hZ (hw _ (List.mem_of_getElem? (i := 21) rfl))) (by decide) (backOf (W := 1) (rm4 l Z a0 hw [] q4 dv (0 : Int32) T2.heap n0 Z2q) hZ (hw _ (List.mem_of_getElem? (i := 21) rfl)) (hw _ (List.mem_of_getElem? (i := 20) rfl)) (by decide) (by decide)) (g := (mkF m 52 #[.val (.int p1), .val (.int p2), .val (.int p3), .val (.long q4), .second, .val (.long q5), .second, .val (.int kv), .val (.int nv), .val (.long dv), .second, .val (.ref b1), .unset, .unset, .unset] [(.int (0 : Int32)), (.long dv), (.long q4), (.ref b1)])) rfl (by rw [hml]; rfl) (argsL := [(.long q4), (.long dv), (.int (0 : Int32))]) (rest := [(.ref b1)]) (lenOf pd_4 rfl) rfl (by show 2 * 0 + _ ≤ _; exact Nat.le_of_eq rfl) (hb hby at_52) (fun _ _ => ⟨rfl, rfl, (by decide : 2 + 0 ≤ _), (by decide : 8 + 0 ≤ _)⟩)
    dsimp only [Pt.U, Pt.locs, Pt.cells, Pt.slots] at X4 l4 y4 z4 st4 hQ4
    subst l4 y4 z4
    obtain ⟨rfl, N4q, e4q⟩ := hQ4
    have N4 := Fr.app N2 N4q
    refine Go.by st4 ?_
    show Go p e below T4 (mkF m 55 #[.val (.int p1), .val (.int p2), .val (.int p3), .val (.long q4), .second, .val (.long q5), .second, .val (.int kv), .val (.int nv), .val (.long dv), .second, .val (.ref b1), .unset, .unset, .unset] [(.long (f4 q4 dv (0 : Int32))), (.ref b1)]) _
    obtain ⟨cq5, kq5, q5a, q5b, q5c⟩ := isOf hZ e4q Ex3
    obtain ⟨_, _, ⟨T5, L5, k5, n5⟩, -, X5, ⟨Lc5, hQ5, l5, y5, z5⟩, st5⟩ := X4.virtualBack hx (y := (⟨"com/example/pagecast/pagecast/push/Starts", "add", "(J)V"⟩ : MethodName)) (z := (⟨"com/example/pagecast/pagecast/push/Starts", "add", "(J)V"⟩ : MethodName)) hown (mvT hZ (hw _ (List.mem_of_getElem? (i := 22) rfl))) (mvT hZ (hw _ (List.mem_of_getElem? (i := 23) rfl))) (notFace_of_selects (args := #[]) (mvT hZ (hw _ (List.mem_of_getElem? (i := 25) rfl)))) (mvT hZ (hw _ (List.mem_of_getElem? (i := 25) rfl))) (mvT hZ (hw _ (List.mem_of_getElem? (i := 24) rfl))) (by decide) (backOf (W := 0) (rm5 l Z a0 hw [] b1 (f4 q4 dv (0 : Int32)) kv 0 (fun i => f4 q4 dv (Int32.ofNat i)) T2.heap n0 Z2q I2q gn1 rfl (by decide) KB.1 KB.2) hZ (hw _ (List.mem_of_getElem? (i := 26) rfl)) (hw _ (List.mem_of_getElem? (i := 2) rfl)) (by decide) (by decide)) q5a q5c (g := (mkF m 55 #[.val (.int p1), .val (.int p2), .val (.int p3), .val (.long q4), .second, .val (.long q5), .second, .val (.int kv), .val (.int nv), .val (.long dv), .second, .val (.ref b1), .unset, .unset, .unset] [(.long (f4 q4 dv (0 : Int32))), (.ref b1)])) rfl (by rw [hml]; rfl) (Steps.refl _) (argsL := [(.long (f4 q4 dv (0 : Int32)))]) (rest := []) (lenOf pd_5 rfl) rfl (by show 2 * 0 + _ ≤ _; exact Nat.le_of_eq rfl) (hb hby at_55) (fun _ _ => ⟨rfl, e4q, (by decide : 2 + 1 ≤ _), (by decide : 8 + 8 ≤ _)⟩)
    dsimp only [Pt.U, Pt.locs, Pt.cells, Pt.slots] at X5 l5 y5 z5 st5 hQ5
    subst l5 y5 z5
    obtain ⟨rfl, N5q, Z5q, I5q⟩ := hQ5
    have N5 := Fr.app N4 N5q
    have Id5 : own_Inv Z T5.heap n0 b1 kv (min nv.toInt.toNat 1) (fun i => f4 q4 dv (Int32.ofNat i)) := own_cast I5q (own_min1 NB.1).symm
    have Ex6 := own_exa Id5
    refine Go.by (fun t k => st5.trans k) ?_
    show Go p e below T5 (mkF m 58 #[.val (.int p1), .val (.int p2), .val (.int p3), .val (.long q4), .second, .val (.long q5), .second, .val (.int kv), .val (.int nv), .val (.long dv), .second, .val (.ref b1), .unset, .unset, .unset] []) _
    have J188 : ∀ (Tj188 : State) (Lj188 : List Loc) (hj188 : Heap) (Xj188 : Stand p l e room_1 s m #[(.int p1), (.int p2), (.int p3), (.long q4), (.long q5)] below meth c Tj188 Lj188 10 72) (ej188 : Tj188.heap = hj188) (Nj188 : Fr n0 Lj188) (Zj188 : n0 ≤ hj188.size) (Ij188 : own_Inv Z hj188 n0 b1 kv (min nv.toInt.toNat 8) (fun i => f4 q4 dv (Int32.ofNat i))), Go p e below Tj188 (mkF m 188 #[.val (.int p1), .val (.int p2), .val (.int p3), .val (.long q4), .second, .val (.long q5), .second, .val (.int kv), .val (.int nv), .val (.long dv), .second, .val (.ref b1), .unset, .unset, .unset] []) (Pst0 Z p1 p2 p3 q4 q5 h0 n0 s) := by
      intro Tj188 Lj188 hj188 Xj188 ej188 Nj188 Zj188 Ij188
      have Ex7 := own_exa Ij188
      refine Go.by (fun t k => XS.iload Xj188.here hx rfl (hb hby at_188) rfl k) ?_
      show Go p e below Tj188 (mkF m 190 #[.val (.int p1), .val (.int p2), .val (.int p3), .val (.long q4), .second, .val (.long q5), .second, .val (.int kv), .val (.int nv), .val (.long dv), .second, .val (.ref b1), .unset, .unset, .unset] [(.int nv)]) _
      refine Go.by (fun t k => XS.iload Xj188.here hx rfl (hb hby at_190) rfl k) ?_
      show Go p e below Tj188 (mkF m 192 #[.val (.int p1), .val (.int p2), .val (.int p3), .val (.long q4), .second, .val (.long q5), .second, .val (.int kv), .val (.int nv), .val (.long dv), .second, .val (.ref b1), .unset, .unset, .unset] [(.int kv), (.int nv)]) _
      have J213 : ∀ (Tj213 : State) (Lj213 : List Loc) (Xj213 : Stand p l e room_1 s m #[(.int p1), (.int p2), (.int p3), (.long q4), (.long q5)] below meth c Tj213 Lj213 10 72) (ej213 : Tj213.heap = hj188) (Nj213 : Fr n0 Lj213) (j213_0 : Int32), (j213_0.toInt = own_tt nv.toInt kv.toInt) → Go p e below Tj213 (mkF m 213 #[.val (.int p1), .val (.int p2), .val (.int p3), .val (.long q4), .second, .val (.long q5), .second, .val (.int kv), .val (.int nv), .val (.long dv), .second, .val (.ref b1), .unset, .unset, .unset] [(.int j213_0)]) (Pst0 Z p1 p2 p3 q4 q5 h0 n0 s) := by
        intro Tj213 Lj213 Xj213 ej213 Nj213 j213_0 hj213
        have TB := own_tpos hj213 NB KB
        refine Go.by (fun t k => XS.istore Xj213.here hx rfl (hb hby at_213) rfl (l' := #[.val (.int p1), .val (.int p2), .val (.int p3), .val (.long q4), .second, .val (.long q5), .second, .val (.int kv), .val (.int nv), .val (.long dv), .second, .val (.ref b1), .val (.int j213_0), .unset, .unset]) rfl k) ?_
        show Go p e below Tj213 (mkF m 215 #[.val (.int p1), .val (.int p2), .val (.int p3), .val (.long q4), .second, .val (.long q5), .second, .val (.int kv), .val (.int nv), .val (.long dv), .second, .val (.ref b1), .val (.int j213_0), .unset, .unset] []) _
        refine Go.by (fun t k => XS.iloadN Xj213.here hx rfl (hb hby at_215) rfl k) ?_
        show Go p e below Tj213 (mkF m 216 #[.val (.int p1), .val (.int p2), .val (.int p3), .val (.long q4), .second, .val (.long q5), .second, .val (.int kv), .val (.int nv), .val (.long dv), .second, .val (.ref b1), .val (.int j213_0), .unset, .unset] [(.int p3)]) _
        refine Go.by (fun t k => Xj213.ldcInt hx hown (mvT hZ (hw _ (List.mem_of_getElem? (i := 32) rfl))) (g := (mkF m 216 #[.val (.int p1), .val (.int p2), .val (.int p3), .val (.long q4), .second, .val (.long q5), .second, .val (.int kv), .val (.int nv), .val (.long dv), .second, .val (.ref b1), .val (.int j213_0), .unset, .unset] [(.int p3)])) rfl (hb hby at_216) t k) ?_
        show Go p e below Tj213 (mkF m 218 #[.val (.int p1), .val (.int p2), .val (.int p3), .val (.long q4), .second, .val (.long q5), .second, .val (.int kv), .val (.int nv), .val (.long dv), .second, .val (.ref b1), .val (.int j213_0), .unset, .unset] [(.int (2147483647 : Int32)), (.int p3)]) _
        refine Go.by (fun t k => XS.iand Xj213.here hx rfl (hb hby at_218) rfl k) ?_
        show Go p e below Tj213 (mkF m 219 #[.val (.int p1), .val (.int p2), .val (.int p3), .val (.long q4), .second, .val (.long q5), .second, .val (.int kv), .val (.int nv), .val (.long dv), .second, .val (.ref b1), .val (.int j213_0), .unset, .unset] [(.int (p3 &&& (2147483647 : Int32)))]) _
        refine Go.by (fun t k => XS.iload Xj213.here hx rfl (hb hby at_219) rfl k) ?_
        show Go p e below Tj213 (mkF m 221 #[.val (.int p1), .val (.int p2), .val (.int p3), .val (.long q4), .second, .val (.long q5), .second, .val (.int kv), .val (.int nv), .val (.long dv), .second, .val (.ref b1), .val (.int j213_0), .unset, .unset] [(.int j213_0), (.int (p3 &&& (2147483647 : Int32)))]) _
        refine Go.by (fun t k => iremM Xj213 hx rfl (hb hby at_221) rfl (own_ne0 TB.1) k) ?_
        show Go p e below Tj213 (mkF m 222 #[.val (.int p1), .val (.int p2), .val (.int p3), .val (.long q4), .second, .val (.long q5), .second, .val (.int kv), .val (.int nv), .val (.long dv), .second, .val (.ref b1), .val (.int j213_0), .unset, .unset] [(.int ((p3 &&& (2147483647 : Int32)) % j213_0))]) _
        refine Go.by (fun t k => XS.istore Xj213.here hx rfl (hb hby at_222) rfl (l' := #[.val (.int p1), .val (.int p2), .val (.int p3), .val (.long q4), .second, .val (.long q5), .second, .val (.int kv), .val (.int nv), .val (.long dv), .second, .val (.ref b1), .val (.int j213_0), .val (.int ((p3 &&& (2147483647 : Int32)) % j213_0)), .unset]) rfl k) ?_
        show Go p e below Tj213 (mkF m 224 #[.val (.int p1), .val (.int p2), .val (.int p3), .val (.long q4), .second, .val (.long q5), .second, .val (.int kv), .val (.int nv), .val (.long dv), .second, .val (.ref b1), .val (.int j213_0), .val (.int ((p3 &&& (2147483647 : Int32)) % j213_0)), .unset] []) _
        generalize h_jv : ((p3 &&& (2147483647 : Int32)) % j213_0) = jv
        have JB := own_jv h_jv TB.1
        refine Go.by (fun t k => XS.iload Xj213.here hx rfl (hb hby at_224) rfl k) ?_
        show Go p e below Tj213 (mkF m 226 #[.val (.int p1), .val (.int p2), .val (.int p3), .val (.long q4), .second, .val (.long q5), .second, .val (.int kv), .val (.int nv), .val (.long dv), .second, .val (.ref b1), .val (.int j213_0), .val (.int jv), .unset] [(.int jv)]) _
        refine Go.by (fun t k => XS.iload Xj213.here hx rfl (hb hby at_226) rfl k) ?_
        show Go p e below Tj213 (mkF m 228 #[.val (.int p1), .val (.int p2), .val (.int p3), .val (.long q4), .second, .val (.long q5), .second, .val (.int kv), .val (.int nv), .val (.long dv), .second, .val (.ref b1), .val (.int j213_0), .val (.int jv), .unset] [(.int nv), (.int jv)]) _
        refine Go.by (fun t k => XS.iload Xj213.here hx rfl (hb hby at_228) rfl k) ?_
        show Go p e below Tj213 (mkF m 230 #[.val (.int p1), .val (.int p2), .val (.int p3), .val (.long q4), .second, .val (.long q5), .second, .val (.int kv), .val (.int nv), .val (.long dv), .second, .val (.ref b1), .val (.int j213_0), .val (.int jv), .unset] [(.int kv), (.int nv), (.int jv)]) _
        obtain ⟨_, _, ⟨T8, L8, k8, n8⟩, -, X8, ⟨Lc8, hQ8, l8, y8, z8⟩, st8⟩ := Jvm.LawKit.callS Xj213 hx (y := (⟨"java/lang/Math", "min", "(II)I"⟩ : MethodName)) hown (mvT hZ (hw _ (List.mem_of_getElem? (i := 31) rfl))) (mvT hZ (hw _ (List.mem_of_getElem? (i := 12) rfl))) (mvT hZ (hw _ (List.mem_of_getElem? (i := 13) rfl))) (mvT hZ (hw _ (List.mem_of_getElem? (i := 14) rfl))) (by decide) (backOf (W := 1) (rm3 l Z a0 hw [] nv kv hj188 n0 Zj188) hZ (hw _ (List.mem_of_getElem? (i := 14) rfl)) (hw _ (List.mem_of_getElem? (i := 13) rfl)) (by decide) (by decide)) (g := (mkF m 230 #[.val (.int p1), .val (.int p2), .val (.int p3), .val (.long q4), .second, .val (.long q5), .second, .val (.int kv), .val (.int nv), .val (.long dv), .second, .val (.ref b1), .val (.int j213_0), .val (.int jv), .unset] [(.int kv), (.int nv), (.int jv)])) rfl (by rw [hml]; rfl) (argsL := [(.int nv), (.int kv)]) (rest := [(.int jv)]) (lenOf pd_0 rfl) rfl (by show 2 * 0 + _ ≤ _; exact Nat.le_of_eq rfl) (hb hby at_230) (fun _ _ => ⟨rfl, ej213, (by decide : 10 + 0 ≤ _), (by decide : 72 + 0 ≤ _)⟩)
        dsimp only [Pt.U, Pt.locs, Pt.cells, Pt.slots] at X8 l8 y8 z8 st8 hQ8
        subst l8 y8 z8
        obtain ⟨rfl, N8q, e8q⟩ := hQ8
        have N8 := Fr.app Nj213 N8q
        refine Go.by st8 ?_
        show Go p e below T8 (mkF m 233 #[.val (.int p1), .val (.int p2), .val (.int p3), .val (.long q4), .second, .val (.long q5), .second, .val (.int kv), .val (.int nv), .val (.long dv), .second, .val (.ref b1), .val (.int j213_0), .val (.int jv), .unset] [(.int (f3 nv kv)), (.int jv)]) _
        have J249 : ∀ (j249_0 : Int32), (own_ix nv kv j249_0) → Go p e below T8 (mkF m 249 #[.val (.int p1), .val (.int p2), .val (.int p3), .val (.long q4), .second, .val (.long q5), .second, .val (.int kv), .val (.int nv), .val (.long dv), .second, .val (.ref b1), .val (.int j213_0), .val (.int jv), .unset] [(.int j249_0)]) (Pst0 Z p1 p2 p3 q4 q5 h0 n0 s) := by
          intro j249_0 hj249
          obtain ⟨ix, hi1, hi2, hi3⟩ := hj249
          refine Go.by (fun t k => XS.istore X8.here hx rfl (hb hby at_249) rfl (l' := #[.val (.int p1), .val (.int p2), .val (.int p3), .val (.long q4), .second, .val (.long q5), .second, .val (.int kv), .val (.int nv), .val (.long dv), .second, .val (.ref b1), .val (.int j213_0), .val (.int jv), .val (.int j249_0)]) rfl k) ?_
          show Go p e below T8 (mkF m 251 #[.val (.int p1), .val (.int p2), .val (.int p3), .val (.long q4), .second, .val (.long q5), .second, .val (.int kv), .val (.int nv), .val (.long dv), .second, .val (.ref b1), .val (.int j213_0), .val (.int jv), .val (.int j249_0)] []) _
          refine Go.by (fun t k => XS.aload X8.here hx rfl (hb hby at_251) rfl rfl k) ?_
          show Go p e below T8 (mkF m 253 #[.val (.int p1), .val (.int p2), .val (.int p3), .val (.long q4), .second, .val (.long q5), .second, .val (.int kv), .val (.int nv), .val (.long dv), .second, .val (.ref b1), .val (.int j213_0), .val (.int jv), .val (.int j249_0)] [(.ref b1)]) _
          refine Go.by (fun t k => XS.iload X8.here hx rfl (hb hby at_253) rfl k) ?_
          show Go p e below T8 (mkF m 255 #[.val (.int p1), .val (.int p2), .val (.int p3), .val (.long q4), .second, .val (.long q5), .second, .val (.int kv), .val (.int nv), .val (.long dv), .second, .val (.ref b1), .val (.int j213_0), .val (.int jv), .val (.int j249_0)] [(.int j249_0), (.ref b1)]) _
          obtain ⟨cq9, kq9, q9a, q9b, q9c⟩ := isOf hZ e8q Ex7
          obtain ⟨_, _, ⟨T9, L9, k9, n9⟩, -, X9, ⟨Lc9, hQ9, l9, y9, z9⟩, st9⟩ := X8.virtualBack hx (y := (⟨"com/example/pagecast/pagecast/push/Starts", "get", "(I)J"⟩ : MethodName)) (z := (⟨"com/example/pagecast/pagecast/push/Starts", "get", "(I)J"⟩ : MethodName)) hown (mvT hZ (hw _ (List.mem_of_getElem? (i := 33) rfl))) (mvT hZ (hw _ (List.mem_of_getElem? (i := 34) rfl))) (notFace_of_selects (args := #[]) (mvT hZ (hw _ (List.mem_of_getElem? (i := 36) rfl)))) (mvT hZ (hw _ (List.mem_of_getElem? (i := 36) rfl))) (mvT hZ (hw _ (List.mem_of_getElem? (i := 35) rfl))) (by decide) (backOf (W := 0) (rm6 l Z a0 hw [] b1 j249_0 kv nv.toInt.toNat (fun i => f4 q4 dv (Int32.ofNat i)) ix hj188 n0 Zj188 (own_cast Ij188 (by omega)) hi1 hi2 hi3 (by omega) KB.1 KB.2) hZ (hw _ (List.mem_of_getElem? (i := 37) rfl)) (hw _ (List.mem_of_getElem? (i := 2) rfl)) (by decide) (by decide)) q9a q9c (g := (mkF m 255 #[.val (.int p1), .val (.int p2), .val (.int p3), .val (.long q4), .second, .val (.long q5), .second, .val (.int kv), .val (.int nv), .val (.long dv), .second, .val (.ref b1), .val (.int j213_0), .val (.int jv), .val (.int j249_0)] [(.int j249_0), (.ref b1)])) rfl (by rw [hml]; rfl) (Steps.refl _) (argsL := [(.int j249_0)]) (rest := []) (lenOf pd_6 rfl) rfl (by show 2 * 0 + _ ≤ _; exact Nat.le_of_eq rfl) (hb hby at_255) (fun _ _ => ⟨rfl, e8q, (by decide : 10 + 0 ≤ _), (by decide : 72 + 0 ≤ _)⟩)
          dsimp only [Pt.U, Pt.locs, Pt.cells, Pt.slots] at X9 l9 y9 z9 st9 hQ9
          subst l9 y9 z9
          obtain ⟨rfl, N9q, e9q⟩ := hQ9
          have N9 := Fr.app N8 N9q
          refine Go.by (fun t k => st9.trans k) ?_
          show Go p e below T9 (mkF m 258 #[.val (.int p1), .val (.int p2), .val (.int p3), .val (.long q4), .second, .val (.long q5), .second, .val (.int kv), .val (.int nv), .val (.long dv), .second, .val (.ref b1), .val (.int j213_0), .val (.int jv), .val (.int j249_0)] [(.long (f4 q4 dv (Int32.ofNat ix)))]) _
          refine Go.by (fun t k => XS.lloadN X9.here hx rfl (hb hby at_258) rfl k) ?_
          show Go p e below T9 (mkF m 259 #[.val (.int p1), .val (.int p2), .val (.int p3), .val (.long q4), .second, .val (.long q5), .second, .val (.int kv), .val (.int nv), .val (.long dv), .second, .val (.ref b1), .val (.int j213_0), .val (.int jv), .val (.int j249_0)] [(.long q4), (.long (f4 q4 dv (Int32.ofNat ix)))]) _
          refine Go.by (fun t k => XS.lload X9.here hx rfl (hb hby at_259) rfl k) ?_
          show Go p e below T9 (mkF m 261 #[.val (.int p1), .val (.int p2), .val (.int p3), .val (.long q4), .second, .val (.long q5), .second, .val (.int kv), .val (.int nv), .val (.long dv), .second, .val (.ref b1), .val (.int j213_0), .val (.int jv), .val (.int j249_0)] [(.long dv), (.long q4), (.long (f4 q4 dv (Int32.ofNat ix)))]) _
          refine Go.by (fun t k => XS.iload X9.here hx rfl (hb hby at_261) rfl k) ?_
          show Go p e below T9 (mkF m 263 #[.val (.int p1), .val (.int p2), .val (.int p3), .val (.long q4), .second, .val (.long q5), .second, .val (.int kv), .val (.int nv), .val (.long dv), .second, .val (.ref b1), .val (.int j213_0), .val (.int jv), .val (.int j249_0)] [(.int j249_0), (.long dv), (.long q4), (.long (f4 q4 dv (Int32.ofNat ix)))]) _
          obtain ⟨_, _, ⟨T10, L10, k10, n10⟩, -, X10, ⟨Lc10, hQ10, l10, y10, z10⟩, st10⟩ := Jvm.LawKit.callS X9 hx (y := (⟨"com/example/pagecast/pagecast/push/StartsGetPinLaw", "v", "(JJI)J"⟩ : MethodName)) hown (mvT hZ (hw _ (List.mem_of_getElem? (i := 18) rfl))) (mvT hZ (hw _ (List.mem_of_getElem? (i := 19) rfl))) (mvT hZ (hw _ (List.mem_of_getElem? (i := 20) rfl))) (mvT hZ (hw _ (List.mem_of_getElem? (i := 21) rfl))) (by decide) (backOf (W := 2) (rm4 l Z a0 hw [] q4 dv j249_0 hj188 n0 Zj188) hZ (hw _ (List.mem_of_getElem? (i := 21) rfl)) (hw _ (List.mem_of_getElem? (i := 20) rfl)) (by decide) (by decide)) (g := (mkF m 263 #[.val (.int p1), .val (.int p2), .val (.int p3), .val (.long q4), .second, .val (.long q5), .second, .val (.int kv), .val (.int nv), .val (.long dv), .second, .val (.ref b1), .val (.int j213_0), .val (.int jv), .val (.int j249_0)] [(.int j249_0), (.long dv), (.long q4), (.long (f4 q4 dv (Int32.ofNat ix)))])) rfl (by rw [hml]; rfl) (argsL := [(.long q4), (.long dv), (.int j249_0)]) (rest := [(.long (f4 q4 dv (Int32.ofNat ix)))]) (lenOf pd_4 rfl) rfl (by show 2 * 0 + _ ≤ _; exact Nat.le_of_eq rfl) (hb hby at_263) (fun _ _ => ⟨rfl, e9q, (by decide : 10 + 0 ≤ _), (by decide : 72 + 0 ≤ _)⟩)
          dsimp only [Pt.U, Pt.locs, Pt.cells, Pt.slots] at X10 l10 y10 z10 st10 hQ10
          subst l10 y10 z10
          obtain ⟨rfl, N10q, e10q⟩ := hQ10
          have N10 := Fr.app N9 N10q
          refine Go.by st10 ?_
          show Go p e below T10 (mkF m 266 #[.val (.int p1), .val (.int p2), .val (.int p3), .val (.long q4), .second, .val (.long q5), .second, .val (.int kv), .val (.int nv), .val (.long dv), .second, .val (.ref b1), .val (.int j213_0), .val (.int jv), .val (.int j249_0)] [(.long (f4 q4 dv j249_0)), (.long (f4 q4 dv (Int32.ofNat ix)))]) _
          refine Go.by (fun t k => XS.lcmp X10.here hx rfl (hb hby at_266) rfl k) ?_
          show Go p e below T10 (mkF m 267 #[.val (.int p1), .val (.int p2), .val (.int p3), .val (.long q4), .second, .val (.long q5), .second, .val (.int kv), .val (.int nv), .val (.long dv), .second, .val (.ref b1), .val (.int j213_0), .val (.int jv), .val (.int j249_0)] [(.int (lcmpW (f4 q4 dv (Int32.ofNat ix)) (f4 q4 dv j249_0)))]) _
          refine Go.by (fun t k => XS.ifNo X10.here hx rfl (hb hby at_267) rfl (cteq (show (f4 q4 dv (Int32.ofNat ix)) = (f4 q4 dv j249_0) from own_last hi1)).2 k) ?_
          show Go p e below T10 (mkF m 270 #[.val (.int p1), .val (.int p2), .val (.int p3), .val (.long q4), .second, .val (.long q5), .second, .val (.int kv), .val (.int nv), .val (.long dv), .second, .val (.ref b1), .val (.int j213_0), .val (.int jv), .val (.int j249_0)] []) _
          refine Go.by (fun t k => XS.iconst X10.here hx rfl (hb hby at_270) k) ?_
          show Go p e below T10 (mkF m 271 #[.val (.int p1), .val (.int p2), .val (.int p3), .val (.long q4), .second, .val (.long q5), .second, .val (.int kv), .val (.int nv), .val (.long dv), .second, .val (.ref b1), .val (.int j213_0), .val (.int jv), .val (.int j249_0)] [(.int (1 : Int32))]) _
          refine Go.by (fun t k => XS.goto X10.here hx rfl (pc0 := 271) (pc' := 275) rfl (hb hby at_271) (by decide) (by decide) k) ?_
          show Go p e below T10 (mkF m 275 #[.val (.int p1), .val (.int p2), .val (.int p3), .val (.long q4), .second, .val (.long q5), .second, .val (.int kv), .val (.int nv), .val (.long dv), .second, .val (.ref b1), .val (.int j213_0), .val (.int jv), .val (.int j249_0)] [(.int (1 : Int32))]) _
          obtain ⟨fs, hr, hrun, hended, hW, hsame⟩ := X10.leave (v := some (.int (1 : Int32))) (fun h => by rw [Bd.returns] at h; cases h)
          refine Go.done (retN X10 hx (t := .boolean) Bd.returns (by simp) (hb hby at_275) hr) hrun hended ⟨_, _, rfl, ?_, ⟨_, rfl⟩, hW, hsame.mono (by decide) (by decide)⟩
          show Q0 Z p1 p2 p3 q4 q5 h0 n0 _ T10.heap _
          rw [e10q]
          exact ⟨rfl, N10⟩
        by_cases hc11 : jv < (f3 nv kv)
        · refine Go.by (fun t k => XS.icmpNo X8.here hx rfl (hb hby at_233) rfl (tlt hc11).2.1 k) ?_
          show Go p e below T8 (mkF m 236 #[.val (.int p1), .val (.int p2), .val (.int p3), .val (.long q4), .second, .val (.long q5), .second, .val (.int kv), .val (.int nv), .val (.long dv), .second, .val (.ref b1), .val (.int j213_0), .val (.int jv), .unset] []) _
          refine Go.by (fun t k => XS.iload X8.here hx rfl (hb hby at_236) rfl k) ?_
          show Go p e below T8 (mkF m 238 #[.val (.int p1), .val (.int p2), .val (.int p3), .val (.long q4), .second, .val (.long q5), .second, .val (.int kv), .val (.int nv), .val (.long dv), .second, .val (.ref b1), .val (.int j213_0), .val (.int jv), .unset] [(.int jv)]) _
          refine Go.by (fun t k => XS.goto X8.here hx rfl (pc0 := 238) (pc' := 249) rfl (hb hby at_238) (by decide) (by decide) k) ?_
          show Go p e below T8 (mkF m 249 #[.val (.int p1), .val (.int p2), .val (.int p3), .val (.long q4), .second, .val (.long q5), .second, .val (.int kv), .val (.int nv), .val (.long dv), .second, .val (.ref b1), .val (.int j213_0), .val (.int jv), .unset] [(.int jv)]) _
          exact J249 jv (own_i1 hj213 JB hc11)
        · refine Go.by (fun t k => XS.icmpYes X8.here hx rfl (pc0 := 233) (pc' := 241) rfl (hb hby at_233) rfl (flt hc11).2.1 (by decide) (by decide) k) ?_
          show Go p e below T8 (mkF m 241 #[.val (.int p1), .val (.int p2), .val (.int p3), .val (.long q4), .second, .val (.long q5), .second, .val (.int kv), .val (.int nv), .val (.long dv), .second, .val (.ref b1), .val (.int j213_0), .val (.int jv), .unset] []) _
          refine Go.by (fun t k => XS.iload X8.here hx rfl (hb hby at_241) rfl k) ?_
          show Go p e below T8 (mkF m 243 #[.val (.int p1), .val (.int p2), .val (.int p3), .val (.long q4), .second, .val (.long q5), .second, .val (.int kv), .val (.int nv), .val (.long dv), .second, .val (.ref b1), .val (.int j213_0), .val (.int jv), .unset] [(.int nv)]) _
          refine Go.by (fun t k => XS.iload X8.here hx rfl (hb hby at_243) rfl k) ?_
          show Go p e below T8 (mkF m 245 #[.val (.int p1), .val (.int p2), .val (.int p3), .val (.long q4), .second, .val (.long q5), .second, .val (.int kv), .val (.int nv), .val (.long dv), .second, .val (.ref b1), .val (.int j213_0), .val (.int jv), .unset] [(.int j213_0), (.int nv)]) _
          refine Go.by (fun t k => XS.isub X8.here hx rfl (hb hby at_245) rfl k) ?_
          show Go p e below T8 (mkF m 246 #[.val (.int p1), .val (.int p2), .val (.int p3), .val (.long q4), .second, .val (.long q5), .second, .val (.int kv), .val (.int nv), .val (.long dv), .second, .val (.ref b1), .val (.int j213_0), .val (.int jv), .unset] [(.int (nv - j213_0))]) _
          refine Go.by (fun t k => XS.iload X8.here hx rfl (hb hby at_246) rfl k) ?_
          show Go p e below T8 (mkF m 248 #[.val (.int p1), .val (.int p2), .val (.int p3), .val (.long q4), .second, .val (.long q5), .second, .val (.int kv), .val (.int nv), .val (.long dv), .second, .val (.ref b1), .val (.int j213_0), .val (.int jv), .unset] [(.int jv), (.int (nv - j213_0))]) _
          refine Go.by (fun t k => XS.iadd X8.here hx rfl (hb hby at_248) rfl k) ?_
          show Go p e below T8 (mkF m 249 #[.val (.int p1), .val (.int p2), .val (.int p3), .val (.long q4), .second, .val (.long q5), .second, .val (.int kv), .val (.int nv), .val (.long dv), .second, .val (.ref b1), .val (.int j213_0), .val (.int jv), .unset] [(.int ((nv - j213_0) + jv))]) _
          exact J249 ((nv - j213_0) + jv) (own_i2 NB KB hj213 JB hc11)
      by_cases hc12 : kv < nv
      · refine Go.by (fun t k => XS.icmpYes Xj188.here hx rfl (pc0 := 192) (pc' := 200) rfl (hb hby at_192) rfl (tlt hc12).2.2.1 (by decide) (by decide) k) ?_
        show Go p e below Tj188 (mkF m 200 #[.val (.int p1), .val (.int p2), .val (.int p3), .val (.long q4), .second, .val (.long q5), .second, .val (.int kv), .val (.int nv), .val (.long dv), .second, .val (.ref b1), .unset, .unset, .unset] []) _
        refine Go.by (fun t k => XS.iload Xj188.here hx rfl (hb hby at_200) rfl k) ?_
        show Go p e below Tj188 (mkF m 202 #[.val (.int p1), .val (.int p2), .val (.int p3), .val (.long q4), .second, .val (.long q5), .second, .val (.int kv), .val (.int nv), .val (.long dv), .second, .val (.ref b1), .unset, .unset, .unset] [(.int nv)]) _
        refine Go.by (fun t k => XS.iload Xj188.here hx rfl (hb hby at_202) rfl k) ?_
        show Go p e below Tj188 (mkF m 204 #[.val (.int p1), .val (.int p2), .val (.int p3), .val (.long q4), .second, .val (.long q5), .second, .val (.int kv), .val (.int nv), .val (.long dv), .second, .val (.ref b1), .unset, .unset, .unset] [(.int kv), (.int nv)]) _
        refine Go.by (fun t k => XS.isub Xj188.here hx rfl (hb hby at_204) rfl k) ?_
        show Go p e below Tj188 (mkF m 205 #[.val (.int p1), .val (.int p2), .val (.int p3), .val (.long q4), .second, .val (.long q5), .second, .val (.int kv), .val (.int nv), .val (.long dv), .second, .val (.ref b1), .unset, .unset, .unset] [(.int (nv - kv))]) _
        refine Go.by (fun t k => XS.iload Xj188.here hx rfl (hb hby at_205) rfl k) ?_
        show Go p e below Tj188 (mkF m 207 #[.val (.int p1), .val (.int p2), .val (.int p3), .val (.long q4), .second, .val (.long q5), .second, .val (.int kv), .val (.int nv), .val (.long dv), .second, .val (.ref b1), .unset, .unset, .unset] [(.int kv), (.int (nv - kv))]) _
        obtain ⟨_, _, ⟨T13, L13, k13, n13⟩, -, X13, ⟨Lc13, hQ13, l13, y13, z13⟩, st13⟩ := Jvm.LawKit.callS Xj188 hx (y := (⟨"java/lang/Math", "min", "(II)I"⟩ : MethodName)) hown (mvT hZ (hw _ (List.mem_of_getElem? (i := 31) rfl))) (mvT hZ (hw _ (List.mem_of_getElem? (i := 12) rfl))) (mvT hZ (hw _ (List.mem_of_getElem? (i := 13) rfl))) (mvT hZ (hw _ (List.mem_of_getElem? (i := 14) rfl))) (by decide) (backOf (W := 0) (rm3 l Z a0 hw [] (nv - kv) kv hj188 n0 Zj188) hZ (hw _ (List.mem_of_getElem? (i := 14) rfl)) (hw _ (List.mem_of_getElem? (i := 13) rfl)) (by decide) (by decide)) (g := (mkF m 207 #[.val (.int p1), .val (.int p2), .val (.int p3), .val (.long q4), .second, .val (.long q5), .second, .val (.int kv), .val (.int nv), .val (.long dv), .second, .val (.ref b1), .unset, .unset, .unset] [(.int kv), (.int (nv - kv))])) rfl (by rw [hml]; rfl) (argsL := [(.int (nv - kv)), (.int kv)]) (rest := []) (lenOf pd_0 rfl) rfl (by show 2 * 0 + _ ≤ _; exact Nat.le_of_eq rfl) (hb hby at_207) (fun _ _ => ⟨rfl, ej188, (by decide : 10 + 0 ≤ _), (by decide : 72 + 0 ≤ _)⟩)
        dsimp only [Pt.U, Pt.locs, Pt.cells, Pt.slots] at X13 l13 y13 z13 st13 hQ13
        subst l13 y13 z13
        obtain ⟨rfl, N13q, e13q⟩ := hQ13
        have N13 := Fr.app Nj188 N13q
        refine Go.by st13 ?_
        show Go p e below T13 (mkF m 210 #[.val (.int p1), .val (.int p2), .val (.int p3), .val (.long q4), .second, .val (.long q5), .second, .val (.int kv), .val (.int nv), .val (.long dv), .second, .val (.ref b1), .unset, .unset, .unset] [(.int (f3 (nv - kv) kv))]) _
        refine Go.by (fun t k => XS.iload X13.here hx rfl (hb hby at_210) rfl k) ?_
        show Go p e below T13 (mkF m 212 #[.val (.int p1), .val (.int p2), .val (.int p3), .val (.long q4), .second, .val (.long q5), .second, .val (.int kv), .val (.int nv), .val (.long dv), .second, .val (.ref b1), .unset, .unset, .unset] [(.int kv), (.int (f3 (nv - kv) kv))]) _
        refine Go.by (fun t k => XS.iadd X13.here hx rfl (hb hby at_212) rfl k) ?_
        show Go p e below T13 (mkF m 213 #[.val (.int p1), .val (.int p2), .val (.int p3), .val (.long q4), .second, .val (.long q5), .second, .val (.int kv), .val (.int nv), .val (.long dv), .second, .val (.ref b1), .unset, .unset, .unset] [(.int ((f3 (nv - kv) kv) + kv))]) _
        exact J213 _ _ X13 e13q N13 ((f3 (nv - kv) kv) + kv) (own_t2 hc12 NB KB)
      · refine Go.by (fun t k => XS.icmpNo Xj188.here hx rfl (hb hby at_192) rfl (flt hc12).2.2.1 k) ?_
        show Go p e below Tj188 (mkF m 195 #[.val (.int p1), .val (.int p2), .val (.int p3), .val (.long q4), .second, .val (.long q5), .second, .val (.int kv), .val (.int nv), .val (.long dv), .second, .val (.ref b1), .unset, .unset, .unset] []) _
        refine Go.by (fun t k => XS.iload Xj188.here hx rfl (hb hby at_195) rfl k) ?_
        show Go p e below Tj188 (mkF m 197 #[.val (.int p1), .val (.int p2), .val (.int p3), .val (.long q4), .second, .val (.long q5), .second, .val (.int kv), .val (.int nv), .val (.long dv), .second, .val (.ref b1), .unset, .unset, .unset] [(.int nv)]) _
        refine Go.by (fun t k => XS.goto Xj188.here hx rfl (pc0 := 197) (pc' := 213) rfl (hb hby at_197) (by decide) (by decide) k) ?_
        show Go p e below Tj188 (mkF m 213 #[.val (.int p1), .val (.int p2), .val (.int p3), .val (.long q4), .second, .val (.long q5), .second, .val (.int kv), .val (.int nv), .val (.long dv), .second, .val (.ref b1), .unset, .unset, .unset] [(.int nv)]) _
        exact J213 _ _ Xj188 ej188 Nj188 nv (own_t1 hc12)
    have J168 : ∀ (Tj168 : State) (Lj168 : List Loc) (hj168 : Heap) (Xj168 : Stand p l e room_1 s m #[(.int p1), (.int p2), (.int p3), (.long q4), (.long q5)] below meth c Tj168 Lj168 9 64) (ej168 : Tj168.heap = hj168) (Nj168 : Fr n0 Lj168) (Zj168 : n0 ≤ hj168.size) (Ij168 : own_Inv Z hj168 n0 b1 kv (min nv.toInt.toNat 7) (fun i => f4 q4 dv (Int32.ofNat i))), Go p e below Tj168 (mkF m 168 #[.val (.int p1), .val (.int p2), .val (.int p3), .val (.long q4), .second, .val (.long q5), .second, .val (.int kv), .val (.int nv), .val (.long dv), .second, .val (.ref b1), .unset, .unset, .unset] []) (Pst0 Z p1 p2 p3 q4 q5 h0 n0 s) := by
      intro Tj168 Lj168 hj168 Xj168 ej168 Nj168 Zj168 Ij168
      have Ex14 := own_exa Ij168
      refine Go.by (fun t k => XS.iload Xj168.here hx rfl (hb hby at_168) rfl k) ?_
      show Go p e below Tj168 (mkF m 170 #[.val (.int p1), .val (.int p2), .val (.int p3), .val (.long q4), .second, .val (.long q5), .second, .val (.int kv), .val (.int nv), .val (.long dv), .second, .val (.ref b1), .unset, .unset, .unset] [(.int nv)]) _
      refine Go.by (fun t k => XS.bipush Xj168.here hx rfl (hb hby at_170) k) ?_
      show Go p e below Tj168 (mkF m 172 #[.val (.int p1), .val (.int p2), .val (.int p3), .val (.long q4), .second, .val (.long q5), .second, .val (.int kv), .val (.int nv), .val (.long dv), .second, .val (.ref b1), .unset, .unset, .unset] [(.int (7 : Int32)), (.int nv)]) _
      by_cases hc15 : (7 : Int32) < nv
      · refine Go.by (fun t k => XS.icmpNo Xj168.here hx rfl (hb hby at_172) rfl (tlt hc15).2.2.2 k) ?_
        show Go p e below Tj168 (mkF m 175 #[.val (.int p1), .val (.int p2), .val (.int p3), .val (.long q4), .second, .val (.long q5), .second, .val (.int kv), .val (.int nv), .val (.long dv), .second, .val (.ref b1), .unset, .unset, .unset] []) _
        refine Go.by (fun t k => XS.aload Xj168.here hx rfl (hb hby at_175) rfl rfl k) ?_
        show Go p e below Tj168 (mkF m 177 #[.val (.int p1), .val (.int p2), .val (.int p3), .val (.long q4), .second, .val (.long q5), .second, .val (.int kv), .val (.int nv), .val (.long dv), .second, .val (.ref b1), .unset, .unset, .unset] [(.ref b1)]) _
        refine Go.by (fun t k => XS.lloadN Xj168.here hx rfl (hb hby at_177) rfl k) ?_
        show Go p e below Tj168 (mkF m 178 #[.val (.int p1), .val (.int p2), .val (.int p3), .val (.long q4), .second, .val (.long q5), .second, .val (.int kv), .val (.int nv), .val (.long dv), .second, .val (.ref b1), .unset, .unset, .unset] [(.long q4), (.ref b1)]) _
        refine Go.by (fun t k => XS.lload Xj168.here hx rfl (hb hby at_178) rfl k) ?_
        show Go p e below Tj168 (mkF m 180 #[.val (.int p1), .val (.int p2), .val (.int p3), .val (.long q4), .second, .val (.long q5), .second, .val (.int kv), .val (.int nv), .val (.long dv), .second, .val (.ref b1), .unset, .unset, .unset] [(.long dv), (.long q4), (.ref b1)]) _
        refine Go.by (fun t k => XS.bipush Xj168.here hx rfl (hb hby at_180) k) ?_
        show Go p e below Tj168 (mkF m 182 #[.val (.int p1), .val (.int p2), .val (.int p3), .val (.long q4), .second, .val (.long q5), .second, .val (.int kv), .val (.int nv), .val (.long dv), .second, .val (.ref b1), .unset, .unset, .unset] [(.int (7 : Int32)), (.long dv), (.long q4), (.ref b1)]) _
        obtain ⟨_, _, ⟨T16, L16, k16, n16⟩, -, X16, ⟨Lc16, hQ16, l16, y16, z16⟩, st16⟩ := Jvm.LawKit.callS Xj168 hx (y := (⟨"com/example/pagecast/pagecast/push/StartsGetPinLaw", "v", "(JJI)J"⟩ : MethodName)) hown (mvT hZ (hw _ (List.mem_of_getElem? (i := 18) rfl))) (mvT hZ (hw _ (List.mem_of_getElem? (i := 19) rfl))) (mvT hZ (hw _ (List.mem_of_getElem? (i := 20) rfl))) (mvT hZ (hw _ (List.mem_of_getElem? (i := 21) rfl))) (by decide) (backOf (W := 1) (rm4 l Z a0 hw [] q4 dv (7 : Int32) hj168 n0 Zj168) hZ (hw _ (List.mem_of_getElem? (i := 21) rfl)) (hw _ (List.mem_of_getElem? (i := 20) rfl)) (by decide) (by decide)) (g := (mkF m 182 #[.val (.int p1), .val (.int p2), .val (.int p3), .val (.long q4), .second, .val (.long q5), .second, .val (.int kv), .val (.int nv), .val (.long dv), .second, .val (.ref b1), .unset, .unset, .unset] [(.int (7 : Int32)), (.long dv), (.long q4), (.ref b1)])) rfl (by rw [hml]; rfl) (argsL := [(.long q4), (.long dv), (.int (7 : Int32))]) (rest := [(.ref b1)]) (lenOf pd_4 rfl) rfl (by show 2 * 0 + _ ≤ _; exact Nat.le_of_eq rfl) (hb hby at_182) (fun _ _ => ⟨rfl, ej168, (by decide : 9 + 0 ≤ _), (by decide : 64 + 0 ≤ _)⟩)
        dsimp only [Pt.U, Pt.locs, Pt.cells, Pt.slots] at X16 l16 y16 z16 st16 hQ16
        subst l16 y16 z16
        obtain ⟨rfl, N16q, e16q⟩ := hQ16
        have N16 := Fr.app Nj168 N16q
        refine Go.by st16 ?_
        show Go p e below T16 (mkF m 185 #[.val (.int p1), .val (.int p2), .val (.int p3), .val (.long q4), .second, .val (.long q5), .second, .val (.int kv), .val (.int nv), .val (.long dv), .second, .val (.ref b1), .unset, .unset, .unset] [(.long (f4 q4 dv (7 : Int32))), (.ref b1)]) _
        have Ic17 := own_cast Ij168 (own_yes (k := 7) rfl hc15).1
        obtain ⟨cq17, kq17, q17a, q17b, q17c⟩ := isOf hZ e16q Ex14
        obtain ⟨_, _, ⟨T17, L17, k17, n17⟩, -, X17, ⟨Lc17, hQ17, l17, y17, z17⟩, st17⟩ := X16.virtualBack hx (y := (⟨"com/example/pagecast/pagecast/push/Starts", "add", "(J)V"⟩ : MethodName)) (z := (⟨"com/example/pagecast/pagecast/push/Starts", "add", "(J)V"⟩ : MethodName)) hown (mvT hZ (hw _ (List.mem_of_getElem? (i := 22) rfl))) (mvT hZ (hw _ (List.mem_of_getElem? (i := 23) rfl))) (notFace_of_selects (args := #[]) (mvT hZ (hw _ (List.mem_of_getElem? (i := 25) rfl)))) (mvT hZ (hw _ (List.mem_of_getElem? (i := 25) rfl))) (mvT hZ (hw _ (List.mem_of_getElem? (i := 24) rfl))) (by decide) (backOf (W := 0) (rm5 l Z a0 hw [] b1 (f4 q4 dv (7 : Int32)) kv 7 (fun i => f4 q4 dv (Int32.ofNat i)) hj168 n0 Zj168 Ic17 gn1 rfl (by decide) KB.1 KB.2) hZ (hw _ (List.mem_of_getElem? (i := 26) rfl)) (hw _ (List.mem_of_getElem? (i := 2) rfl)) (by decide) (by decide)) q17a q17c (g := (mkF m 185 #[.val (.int p1), .val (.int p2), .val (.int p3), .val (.long q4), .second, .val (.long q5), .second, .val (.int kv), .val (.int nv), .val (.long dv), .second, .val (.ref b1), .unset, .unset, .unset] [(.long (f4 q4 dv (7 : Int32))), (.ref b1)])) rfl (by rw [hml]; rfl) (Steps.refl _) (argsL := [(.long (f4 q4 dv (7 : Int32)))]) (rest := []) (lenOf pd_5 rfl) rfl (by show 2 * 0 + _ ≤ _; exact Nat.le_of_eq rfl) (hb hby at_185) (fun _ _ => ⟨rfl, e16q, (by decide : 9 + 1 ≤ _), (by decide : 64 + 8 ≤ _)⟩)
        dsimp only [Pt.U, Pt.locs, Pt.cells, Pt.slots] at X17 l17 y17 z17 st17 hQ17
        subst l17 y17 z17
        obtain ⟨rfl, N17q, Z17q, I17q⟩ := hQ17
        have N17 := Fr.app N16 N17q
        have Id17 : own_Inv Z T17.heap n0 b1 kv (min nv.toInt.toNat 8) (fun i => f4 q4 dv (Int32.ofNat i)) := own_cast I17q (own_yes (k := 7) rfl hc15).2.symm
        have Ex18 := own_exa Id17
        refine Go.by (fun t k => st17.trans k) ?_
        show Go p e below T17 (mkF m 188 #[.val (.int p1), .val (.int p2), .val (.int p3), .val (.long q4), .second, .val (.long q5), .second, .val (.int kv), .val (.int nv), .val (.long dv), .second, .val (.ref b1), .unset, .unset, .unset] []) _
        exact J188 _ _ _ (X17.more (by decide) (by decide)) rfl N17 Z17q Id17
      · refine Go.by (fun t k => XS.icmpYes Xj168.here hx rfl (pc0 := 172) (pc' := 188) rfl (hb hby at_172) rfl (flt hc15).2.2.2 (by decide) (by decide) k) ?_
        show Go p e below Tj168 (mkF m 188 #[.val (.int p1), .val (.int p2), .val (.int p3), .val (.long q4), .second, .val (.long q5), .second, .val (.int kv), .val (.int nv), .val (.long dv), .second, .val (.ref b1), .unset, .unset, .unset] []) _
        exact J188 _ _ _ (Xj168.more (by decide) (by decide)) ej168 Nj168 Zj168 (own_cast Ij168 (own_no (k := 7) rfl hc15))
    have J148 : ∀ (Tj148 : State) (Lj148 : List Loc) (hj148 : Heap) (Xj148 : Stand p l e room_1 s m #[(.int p1), (.int p2), (.int p3), (.long q4), (.long q5)] below meth c Tj148 Lj148 8 56) (ej148 : Tj148.heap = hj148) (Nj148 : Fr n0 Lj148) (Zj148 : n0 ≤ hj148.size) (Ij148 : own_Inv Z hj148 n0 b1 kv (min nv.toInt.toNat 6) (fun i => f4 q4 dv (Int32.ofNat i))), Go p e below Tj148 (mkF m 148 #[.val (.int p1), .val (.int p2), .val (.int p3), .val (.long q4), .second, .val (.long q5), .second, .val (.int kv), .val (.int nv), .val (.long dv), .second, .val (.ref b1), .unset, .unset, .unset] []) (Pst0 Z p1 p2 p3 q4 q5 h0 n0 s) := by
      intro Tj148 Lj148 hj148 Xj148 ej148 Nj148 Zj148 Ij148
      have Ex19 := own_exa Ij148
      refine Go.by (fun t k => XS.iload Xj148.here hx rfl (hb hby at_148) rfl k) ?_
      show Go p e below Tj148 (mkF m 150 #[.val (.int p1), .val (.int p2), .val (.int p3), .val (.long q4), .second, .val (.long q5), .second, .val (.int kv), .val (.int nv), .val (.long dv), .second, .val (.ref b1), .unset, .unset, .unset] [(.int nv)]) _
      refine Go.by (fun t k => XS.bipush Xj148.here hx rfl (hb hby at_150) k) ?_
      show Go p e below Tj148 (mkF m 152 #[.val (.int p1), .val (.int p2), .val (.int p3), .val (.long q4), .second, .val (.long q5), .second, .val (.int kv), .val (.int nv), .val (.long dv), .second, .val (.ref b1), .unset, .unset, .unset] [(.int (6 : Int32)), (.int nv)]) _
      by_cases hc20 : (6 : Int32) < nv
      · refine Go.by (fun t k => XS.icmpNo Xj148.here hx rfl (hb hby at_152) rfl (tlt hc20).2.2.2 k) ?_
        show Go p e below Tj148 (mkF m 155 #[.val (.int p1), .val (.int p2), .val (.int p3), .val (.long q4), .second, .val (.long q5), .second, .val (.int kv), .val (.int nv), .val (.long dv), .second, .val (.ref b1), .unset, .unset, .unset] []) _
        refine Go.by (fun t k => XS.aload Xj148.here hx rfl (hb hby at_155) rfl rfl k) ?_
        show Go p e below Tj148 (mkF m 157 #[.val (.int p1), .val (.int p2), .val (.int p3), .val (.long q4), .second, .val (.long q5), .second, .val (.int kv), .val (.int nv), .val (.long dv), .second, .val (.ref b1), .unset, .unset, .unset] [(.ref b1)]) _
        refine Go.by (fun t k => XS.lloadN Xj148.here hx rfl (hb hby at_157) rfl k) ?_
        show Go p e below Tj148 (mkF m 158 #[.val (.int p1), .val (.int p2), .val (.int p3), .val (.long q4), .second, .val (.long q5), .second, .val (.int kv), .val (.int nv), .val (.long dv), .second, .val (.ref b1), .unset, .unset, .unset] [(.long q4), (.ref b1)]) _
        refine Go.by (fun t k => XS.lload Xj148.here hx rfl (hb hby at_158) rfl k) ?_
        show Go p e below Tj148 (mkF m 160 #[.val (.int p1), .val (.int p2), .val (.int p3), .val (.long q4), .second, .val (.long q5), .second, .val (.int kv), .val (.int nv), .val (.long dv), .second, .val (.ref b1), .unset, .unset, .unset] [(.long dv), (.long q4), (.ref b1)]) _
        refine Go.by (fun t k => XS.bipush Xj148.here hx rfl (hb hby at_160) k) ?_
        show Go p e below Tj148 (mkF m 162 #[.val (.int p1), .val (.int p2), .val (.int p3), .val (.long q4), .second, .val (.long q5), .second, .val (.int kv), .val (.int nv), .val (.long dv), .second, .val (.ref b1), .unset, .unset, .unset] [(.int (6 : Int32)), (.long dv), (.long q4), (.ref b1)]) _
        obtain ⟨_, _, ⟨T21, L21, k21, n21⟩, -, X21, ⟨Lc21, hQ21, l21, y21, z21⟩, st21⟩ := Jvm.LawKit.callS Xj148 hx (y := (⟨"com/example/pagecast/pagecast/push/StartsGetPinLaw", "v", "(JJI)J"⟩ : MethodName)) hown (mvT hZ (hw _ (List.mem_of_getElem? (i := 18) rfl))) (mvT hZ (hw _ (List.mem_of_getElem? (i := 19) rfl))) (mvT hZ (hw _ (List.mem_of_getElem? (i := 20) rfl))) (mvT hZ (hw _ (List.mem_of_getElem? (i := 21) rfl))) (by decide) (backOf (W := 1) (rm4 l Z a0 hw [] q4 dv (6 : Int32) hj148 n0 Zj148) hZ (hw _ (List.mem_of_getElem? (i := 21) rfl)) (hw _ (List.mem_of_getElem? (i := 20) rfl)) (by decide) (by decide)) (g := (mkF m 162 #[.val (.int p1), .val (.int p2), .val (.int p3), .val (.long q4), .second, .val (.long q5), .second, .val (.int kv), .val (.int nv), .val (.long dv), .second, .val (.ref b1), .unset, .unset, .unset] [(.int (6 : Int32)), (.long dv), (.long q4), (.ref b1)])) rfl (by rw [hml]; rfl) (argsL := [(.long q4), (.long dv), (.int (6 : Int32))]) (rest := [(.ref b1)]) (lenOf pd_4 rfl) rfl (by show 2 * 0 + _ ≤ _; exact Nat.le_of_eq rfl) (hb hby at_162) (fun _ _ => ⟨rfl, ej148, (by decide : 8 + 0 ≤ _), (by decide : 56 + 0 ≤ _)⟩)
        dsimp only [Pt.U, Pt.locs, Pt.cells, Pt.slots] at X21 l21 y21 z21 st21 hQ21
        subst l21 y21 z21
        obtain ⟨rfl, N21q, e21q⟩ := hQ21
        have N21 := Fr.app Nj148 N21q
        refine Go.by st21 ?_
        show Go p e below T21 (mkF m 165 #[.val (.int p1), .val (.int p2), .val (.int p3), .val (.long q4), .second, .val (.long q5), .second, .val (.int kv), .val (.int nv), .val (.long dv), .second, .val (.ref b1), .unset, .unset, .unset] [(.long (f4 q4 dv (6 : Int32))), (.ref b1)]) _
        have Ic22 := own_cast Ij148 (own_yes (k := 6) rfl hc20).1
        obtain ⟨cq22, kq22, q22a, q22b, q22c⟩ := isOf hZ e21q Ex19
        obtain ⟨_, _, ⟨T22, L22, k22, n22⟩, -, X22, ⟨Lc22, hQ22, l22, y22, z22⟩, st22⟩ := X21.virtualBack hx (y := (⟨"com/example/pagecast/pagecast/push/Starts", "add", "(J)V"⟩ : MethodName)) (z := (⟨"com/example/pagecast/pagecast/push/Starts", "add", "(J)V"⟩ : MethodName)) hown (mvT hZ (hw _ (List.mem_of_getElem? (i := 22) rfl))) (mvT hZ (hw _ (List.mem_of_getElem? (i := 23) rfl))) (notFace_of_selects (args := #[]) (mvT hZ (hw _ (List.mem_of_getElem? (i := 25) rfl)))) (mvT hZ (hw _ (List.mem_of_getElem? (i := 25) rfl))) (mvT hZ (hw _ (List.mem_of_getElem? (i := 24) rfl))) (by decide) (backOf (W := 0) (rm5 l Z a0 hw [] b1 (f4 q4 dv (6 : Int32)) kv 6 (fun i => f4 q4 dv (Int32.ofNat i)) hj148 n0 Zj148 Ic22 gn1 rfl (by decide) KB.1 KB.2) hZ (hw _ (List.mem_of_getElem? (i := 26) rfl)) (hw _ (List.mem_of_getElem? (i := 2) rfl)) (by decide) (by decide)) q22a q22c (g := (mkF m 165 #[.val (.int p1), .val (.int p2), .val (.int p3), .val (.long q4), .second, .val (.long q5), .second, .val (.int kv), .val (.int nv), .val (.long dv), .second, .val (.ref b1), .unset, .unset, .unset] [(.long (f4 q4 dv (6 : Int32))), (.ref b1)])) rfl (by rw [hml]; rfl) (Steps.refl _) (argsL := [(.long (f4 q4 dv (6 : Int32)))]) (rest := []) (lenOf pd_5 rfl) rfl (by show 2 * 0 + _ ≤ _; exact Nat.le_of_eq rfl) (hb hby at_165) (fun _ _ => ⟨rfl, e21q, (by decide : 8 + 1 ≤ _), (by decide : 56 + 8 ≤ _)⟩)
        dsimp only [Pt.U, Pt.locs, Pt.cells, Pt.slots] at X22 l22 y22 z22 st22 hQ22
        subst l22 y22 z22
        obtain ⟨rfl, N22q, Z22q, I22q⟩ := hQ22
        have N22 := Fr.app N21 N22q
        have Id22 : own_Inv Z T22.heap n0 b1 kv (min nv.toInt.toNat 7) (fun i => f4 q4 dv (Int32.ofNat i)) := own_cast I22q (own_yes (k := 6) rfl hc20).2.symm
        have Ex23 := own_exa Id22
        refine Go.by (fun t k => st22.trans k) ?_
        show Go p e below T22 (mkF m 168 #[.val (.int p1), .val (.int p2), .val (.int p3), .val (.long q4), .second, .val (.long q5), .second, .val (.int kv), .val (.int nv), .val (.long dv), .second, .val (.ref b1), .unset, .unset, .unset] []) _
        exact J168 _ _ _ (X22.more (by decide) (by decide)) rfl N22 Z22q Id22
      · refine Go.by (fun t k => XS.icmpYes Xj148.here hx rfl (pc0 := 152) (pc' := 168) rfl (hb hby at_152) rfl (flt hc20).2.2.2 (by decide) (by decide) k) ?_
        show Go p e below Tj148 (mkF m 168 #[.val (.int p1), .val (.int p2), .val (.int p3), .val (.long q4), .second, .val (.long q5), .second, .val (.int kv), .val (.int nv), .val (.long dv), .second, .val (.ref b1), .unset, .unset, .unset] []) _
        exact J168 _ _ _ (Xj148.more (by decide) (by decide)) ej148 Nj148 Zj148 (own_cast Ij148 (own_no (k := 6) rfl hc20))
    have J130 : ∀ (Tj130 : State) (Lj130 : List Loc) (hj130 : Heap) (Xj130 : Stand p l e room_1 s m #[(.int p1), (.int p2), (.int p3), (.long q4), (.long q5)] below meth c Tj130 Lj130 7 48) (ej130 : Tj130.heap = hj130) (Nj130 : Fr n0 Lj130) (Zj130 : n0 ≤ hj130.size) (Ij130 : own_Inv Z hj130 n0 b1 kv (min nv.toInt.toNat 5) (fun i => f4 q4 dv (Int32.ofNat i))), Go p e below Tj130 (mkF m 130 #[.val (.int p1), .val (.int p2), .val (.int p3), .val (.long q4), .second, .val (.long q5), .second, .val (.int kv), .val (.int nv), .val (.long dv), .second, .val (.ref b1), .unset, .unset, .unset] []) (Pst0 Z p1 p2 p3 q4 q5 h0 n0 s) := by
      intro Tj130 Lj130 hj130 Xj130 ej130 Nj130 Zj130 Ij130
      have Ex24 := own_exa Ij130
      refine Go.by (fun t k => XS.iload Xj130.here hx rfl (hb hby at_130) rfl k) ?_
      show Go p e below Tj130 (mkF m 132 #[.val (.int p1), .val (.int p2), .val (.int p3), .val (.long q4), .second, .val (.long q5), .second, .val (.int kv), .val (.int nv), .val (.long dv), .second, .val (.ref b1), .unset, .unset, .unset] [(.int nv)]) _
      refine Go.by (fun t k => XS.iconst Xj130.here hx rfl (hb hby at_132) k) ?_
      show Go p e below Tj130 (mkF m 133 #[.val (.int p1), .val (.int p2), .val (.int p3), .val (.long q4), .second, .val (.long q5), .second, .val (.int kv), .val (.int nv), .val (.long dv), .second, .val (.ref b1), .unset, .unset, .unset] [(.int (5 : Int32)), (.int nv)]) _
      by_cases hc25 : (5 : Int32) < nv
      · refine Go.by (fun t k => XS.icmpNo Xj130.here hx rfl (hb hby at_133) rfl (tlt hc25).2.2.2 k) ?_
        show Go p e below Tj130 (mkF m 136 #[.val (.int p1), .val (.int p2), .val (.int p3), .val (.long q4), .second, .val (.long q5), .second, .val (.int kv), .val (.int nv), .val (.long dv), .second, .val (.ref b1), .unset, .unset, .unset] []) _
        refine Go.by (fun t k => XS.aload Xj130.here hx rfl (hb hby at_136) rfl rfl k) ?_
        show Go p e below Tj130 (mkF m 138 #[.val (.int p1), .val (.int p2), .val (.int p3), .val (.long q4), .second, .val (.long q5), .second, .val (.int kv), .val (.int nv), .val (.long dv), .second, .val (.ref b1), .unset, .unset, .unset] [(.ref b1)]) _
        refine Go.by (fun t k => XS.lloadN Xj130.here hx rfl (hb hby at_138) rfl k) ?_
        show Go p e below Tj130 (mkF m 139 #[.val (.int p1), .val (.int p2), .val (.int p3), .val (.long q4), .second, .val (.long q5), .second, .val (.int kv), .val (.int nv), .val (.long dv), .second, .val (.ref b1), .unset, .unset, .unset] [(.long q4), (.ref b1)]) _
        refine Go.by (fun t k => XS.lload Xj130.here hx rfl (hb hby at_139) rfl k) ?_
        show Go p e below Tj130 (mkF m 141 #[.val (.int p1), .val (.int p2), .val (.int p3), .val (.long q4), .second, .val (.long q5), .second, .val (.int kv), .val (.int nv), .val (.long dv), .second, .val (.ref b1), .unset, .unset, .unset] [(.long dv), (.long q4), (.ref b1)]) _
        refine Go.by (fun t k => XS.iconst Xj130.here hx rfl (hb hby at_141) k) ?_
        show Go p e below Tj130 (mkF m 142 #[.val (.int p1), .val (.int p2), .val (.int p3), .val (.long q4), .second, .val (.long q5), .second, .val (.int kv), .val (.int nv), .val (.long dv), .second, .val (.ref b1), .unset, .unset, .unset] [(.int (5 : Int32)), (.long dv), (.long q4), (.ref b1)]) _
        obtain ⟨_, _, ⟨T26, L26, k26, n26⟩, -, X26, ⟨Lc26, hQ26, l26, y26, z26⟩, st26⟩ := Jvm.LawKit.callS Xj130 hx (y := (⟨"com/example/pagecast/pagecast/push/StartsGetPinLaw", "v", "(JJI)J"⟩ : MethodName)) hown (mvT hZ (hw _ (List.mem_of_getElem? (i := 18) rfl))) (mvT hZ (hw _ (List.mem_of_getElem? (i := 19) rfl))) (mvT hZ (hw _ (List.mem_of_getElem? (i := 20) rfl))) (mvT hZ (hw _ (List.mem_of_getElem? (i := 21) rfl))) (by decide) (backOf (W := 1) (rm4 l Z a0 hw [] q4 dv (5 : Int32) hj130 n0 Zj130) hZ (hw _ (List.mem_of_getElem? (i := 21) rfl)) (hw _ (List.mem_of_getElem? (i := 20) rfl)) (by decide) (by decide)) (g := (mkF m 142 #[.val (.int p1), .val (.int p2), .val (.int p3), .val (.long q4), .second, .val (.long q5), .second, .val (.int kv), .val (.int nv), .val (.long dv), .second, .val (.ref b1), .unset, .unset, .unset] [(.int (5 : Int32)), (.long dv), (.long q4), (.ref b1)])) rfl (by rw [hml]; rfl) (argsL := [(.long q4), (.long dv), (.int (5 : Int32))]) (rest := [(.ref b1)]) (lenOf pd_4 rfl) rfl (by show 2 * 0 + _ ≤ _; exact Nat.le_of_eq rfl) (hb hby at_142) (fun _ _ => ⟨rfl, ej130, (by decide : 7 + 0 ≤ _), (by decide : 48 + 0 ≤ _)⟩)
        dsimp only [Pt.U, Pt.locs, Pt.cells, Pt.slots] at X26 l26 y26 z26 st26 hQ26
        subst l26 y26 z26
        obtain ⟨rfl, N26q, e26q⟩ := hQ26
        have N26 := Fr.app Nj130 N26q
        refine Go.by st26 ?_
        show Go p e below T26 (mkF m 145 #[.val (.int p1), .val (.int p2), .val (.int p3), .val (.long q4), .second, .val (.long q5), .second, .val (.int kv), .val (.int nv), .val (.long dv), .second, .val (.ref b1), .unset, .unset, .unset] [(.long (f4 q4 dv (5 : Int32))), (.ref b1)]) _
        have Ic27 := own_cast Ij130 (own_yes (k := 5) rfl hc25).1
        obtain ⟨cq27, kq27, q27a, q27b, q27c⟩ := isOf hZ e26q Ex24
        obtain ⟨_, _, ⟨T27, L27, k27, n27⟩, -, X27, ⟨Lc27, hQ27, l27, y27, z27⟩, st27⟩ := X26.virtualBack hx (y := (⟨"com/example/pagecast/pagecast/push/Starts", "add", "(J)V"⟩ : MethodName)) (z := (⟨"com/example/pagecast/pagecast/push/Starts", "add", "(J)V"⟩ : MethodName)) hown (mvT hZ (hw _ (List.mem_of_getElem? (i := 22) rfl))) (mvT hZ (hw _ (List.mem_of_getElem? (i := 23) rfl))) (notFace_of_selects (args := #[]) (mvT hZ (hw _ (List.mem_of_getElem? (i := 25) rfl)))) (mvT hZ (hw _ (List.mem_of_getElem? (i := 25) rfl))) (mvT hZ (hw _ (List.mem_of_getElem? (i := 24) rfl))) (by decide) (backOf (W := 0) (rm5 l Z a0 hw [] b1 (f4 q4 dv (5 : Int32)) kv 5 (fun i => f4 q4 dv (Int32.ofNat i)) hj130 n0 Zj130 Ic27 gn1 rfl (by decide) KB.1 KB.2) hZ (hw _ (List.mem_of_getElem? (i := 26) rfl)) (hw _ (List.mem_of_getElem? (i := 2) rfl)) (by decide) (by decide)) q27a q27c (g := (mkF m 145 #[.val (.int p1), .val (.int p2), .val (.int p3), .val (.long q4), .second, .val (.long q5), .second, .val (.int kv), .val (.int nv), .val (.long dv), .second, .val (.ref b1), .unset, .unset, .unset] [(.long (f4 q4 dv (5 : Int32))), (.ref b1)])) rfl (by rw [hml]; rfl) (Steps.refl _) (argsL := [(.long (f4 q4 dv (5 : Int32)))]) (rest := []) (lenOf pd_5 rfl) rfl (by show 2 * 0 + _ ≤ _; exact Nat.le_of_eq rfl) (hb hby at_145) (fun _ _ => ⟨rfl, e26q, (by decide : 7 + 1 ≤ _), (by decide : 48 + 8 ≤ _)⟩)
        dsimp only [Pt.U, Pt.locs, Pt.cells, Pt.slots] at X27 l27 y27 z27 st27 hQ27
        subst l27 y27 z27
        obtain ⟨rfl, N27q, Z27q, I27q⟩ := hQ27
        have N27 := Fr.app N26 N27q
        have Id27 : own_Inv Z T27.heap n0 b1 kv (min nv.toInt.toNat 6) (fun i => f4 q4 dv (Int32.ofNat i)) := own_cast I27q (own_yes (k := 5) rfl hc25).2.symm
        have Ex28 := own_exa Id27
        refine Go.by (fun t k => st27.trans k) ?_
        show Go p e below T27 (mkF m 148 #[.val (.int p1), .val (.int p2), .val (.int p3), .val (.long q4), .second, .val (.long q5), .second, .val (.int kv), .val (.int nv), .val (.long dv), .second, .val (.ref b1), .unset, .unset, .unset] []) _
        exact J148 _ _ _ (X27.more (by decide) (by decide)) rfl N27 Z27q Id27
      · refine Go.by (fun t k => XS.icmpYes Xj130.here hx rfl (pc0 := 133) (pc' := 148) rfl (hb hby at_133) rfl (flt hc25).2.2.2 (by decide) (by decide) k) ?_
        show Go p e below Tj130 (mkF m 148 #[.val (.int p1), .val (.int p2), .val (.int p3), .val (.long q4), .second, .val (.long q5), .second, .val (.int kv), .val (.int nv), .val (.long dv), .second, .val (.ref b1), .unset, .unset, .unset] []) _
        exact J148 _ _ _ (Xj130.more (by decide) (by decide)) ej130 Nj130 Zj130 (own_cast Ij130 (own_no (k := 5) rfl hc25))
    have J112 : ∀ (Tj112 : State) (Lj112 : List Loc) (hj112 : Heap) (Xj112 : Stand p l e room_1 s m #[(.int p1), (.int p2), (.int p3), (.long q4), (.long q5)] below meth c Tj112 Lj112 6 40) (ej112 : Tj112.heap = hj112) (Nj112 : Fr n0 Lj112) (Zj112 : n0 ≤ hj112.size) (Ij112 : own_Inv Z hj112 n0 b1 kv (min nv.toInt.toNat 4) (fun i => f4 q4 dv (Int32.ofNat i))), Go p e below Tj112 (mkF m 112 #[.val (.int p1), .val (.int p2), .val (.int p3), .val (.long q4), .second, .val (.long q5), .second, .val (.int kv), .val (.int nv), .val (.long dv), .second, .val (.ref b1), .unset, .unset, .unset] []) (Pst0 Z p1 p2 p3 q4 q5 h0 n0 s) := by
      intro Tj112 Lj112 hj112 Xj112 ej112 Nj112 Zj112 Ij112
      have Ex29 := own_exa Ij112
      refine Go.by (fun t k => XS.iload Xj112.here hx rfl (hb hby at_112) rfl k) ?_
      show Go p e below Tj112 (mkF m 114 #[.val (.int p1), .val (.int p2), .val (.int p3), .val (.long q4), .second, .val (.long q5), .second, .val (.int kv), .val (.int nv), .val (.long dv), .second, .val (.ref b1), .unset, .unset, .unset] [(.int nv)]) _
      refine Go.by (fun t k => XS.iconst Xj112.here hx rfl (hb hby at_114) k) ?_
      show Go p e below Tj112 (mkF m 115 #[.val (.int p1), .val (.int p2), .val (.int p3), .val (.long q4), .second, .val (.long q5), .second, .val (.int kv), .val (.int nv), .val (.long dv), .second, .val (.ref b1), .unset, .unset, .unset] [(.int (4 : Int32)), (.int nv)]) _
      by_cases hc30 : (4 : Int32) < nv
      · refine Go.by (fun t k => XS.icmpNo Xj112.here hx rfl (hb hby at_115) rfl (tlt hc30).2.2.2 k) ?_
        show Go p e below Tj112 (mkF m 118 #[.val (.int p1), .val (.int p2), .val (.int p3), .val (.long q4), .second, .val (.long q5), .second, .val (.int kv), .val (.int nv), .val (.long dv), .second, .val (.ref b1), .unset, .unset, .unset] []) _
        refine Go.by (fun t k => XS.aload Xj112.here hx rfl (hb hby at_118) rfl rfl k) ?_
        show Go p e below Tj112 (mkF m 120 #[.val (.int p1), .val (.int p2), .val (.int p3), .val (.long q4), .second, .val (.long q5), .second, .val (.int kv), .val (.int nv), .val (.long dv), .second, .val (.ref b1), .unset, .unset, .unset] [(.ref b1)]) _
        refine Go.by (fun t k => XS.lloadN Xj112.here hx rfl (hb hby at_120) rfl k) ?_
        show Go p e below Tj112 (mkF m 121 #[.val (.int p1), .val (.int p2), .val (.int p3), .val (.long q4), .second, .val (.long q5), .second, .val (.int kv), .val (.int nv), .val (.long dv), .second, .val (.ref b1), .unset, .unset, .unset] [(.long q4), (.ref b1)]) _
        refine Go.by (fun t k => XS.lload Xj112.here hx rfl (hb hby at_121) rfl k) ?_
        show Go p e below Tj112 (mkF m 123 #[.val (.int p1), .val (.int p2), .val (.int p3), .val (.long q4), .second, .val (.long q5), .second, .val (.int kv), .val (.int nv), .val (.long dv), .second, .val (.ref b1), .unset, .unset, .unset] [(.long dv), (.long q4), (.ref b1)]) _
        refine Go.by (fun t k => XS.iconst Xj112.here hx rfl (hb hby at_123) k) ?_
        show Go p e below Tj112 (mkF m 124 #[.val (.int p1), .val (.int p2), .val (.int p3), .val (.long q4), .second, .val (.long q5), .second, .val (.int kv), .val (.int nv), .val (.long dv), .second, .val (.ref b1), .unset, .unset, .unset] [(.int (4 : Int32)), (.long dv), (.long q4), (.ref b1)]) _
        obtain ⟨_, _, ⟨T31, L31, k31, n31⟩, -, X31, ⟨Lc31, hQ31, l31, y31, z31⟩, st31⟩ := Jvm.LawKit.callS Xj112 hx (y := (⟨"com/example/pagecast/pagecast/push/StartsGetPinLaw", "v", "(JJI)J"⟩ : MethodName)) hown (mvT hZ (hw _ (List.mem_of_getElem? (i := 18) rfl))) (mvT hZ (hw _ (List.mem_of_getElem? (i := 19) rfl))) (mvT hZ (hw _ (List.mem_of_getElem? (i := 20) rfl))) (mvT hZ (hw _ (List.mem_of_getElem? (i := 21) rfl))) (by decide) (backOf (W := 1) (rm4 l Z a0 hw [] q4 dv (4 : Int32) hj112 n0 Zj112) hZ (hw _ (List.mem_of_getElem? (i := 21) rfl)) (hw _ (List.mem_of_getElem? (i := 20) rfl)) (by decide) (by decide)) (g := (mkF m 124 #[.val (.int p1), .val (.int p2), .val (.int p3), .val (.long q4), .second, .val (.long q5), .second, .val (.int kv), .val (.int nv), .val (.long dv), .second, .val (.ref b1), .unset, .unset, .unset] [(.int (4 : Int32)), (.long dv), (.long q4), (.ref b1)])) rfl (by rw [hml]; rfl) (argsL := [(.long q4), (.long dv), (.int (4 : Int32))]) (rest := [(.ref b1)]) (lenOf pd_4 rfl) rfl (by show 2 * 0 + _ ≤ _; exact Nat.le_of_eq rfl) (hb hby at_124) (fun _ _ => ⟨rfl, ej112, (by decide : 6 + 0 ≤ _), (by decide : 40 + 0 ≤ _)⟩)
        dsimp only [Pt.U, Pt.locs, Pt.cells, Pt.slots] at X31 l31 y31 z31 st31 hQ31
        subst l31 y31 z31
        obtain ⟨rfl, N31q, e31q⟩ := hQ31
        have N31 := Fr.app Nj112 N31q
        refine Go.by st31 ?_
        show Go p e below T31 (mkF m 127 #[.val (.int p1), .val (.int p2), .val (.int p3), .val (.long q4), .second, .val (.long q5), .second, .val (.int kv), .val (.int nv), .val (.long dv), .second, .val (.ref b1), .unset, .unset, .unset] [(.long (f4 q4 dv (4 : Int32))), (.ref b1)]) _
        have Ic32 := own_cast Ij112 (own_yes (k := 4) rfl hc30).1
        obtain ⟨cq32, kq32, q32a, q32b, q32c⟩ := isOf hZ e31q Ex29
        obtain ⟨_, _, ⟨T32, L32, k32, n32⟩, -, X32, ⟨Lc32, hQ32, l32, y32, z32⟩, st32⟩ := X31.virtualBack hx (y := (⟨"com/example/pagecast/pagecast/push/Starts", "add", "(J)V"⟩ : MethodName)) (z := (⟨"com/example/pagecast/pagecast/push/Starts", "add", "(J)V"⟩ : MethodName)) hown (mvT hZ (hw _ (List.mem_of_getElem? (i := 22) rfl))) (mvT hZ (hw _ (List.mem_of_getElem? (i := 23) rfl))) (notFace_of_selects (args := #[]) (mvT hZ (hw _ (List.mem_of_getElem? (i := 25) rfl)))) (mvT hZ (hw _ (List.mem_of_getElem? (i := 25) rfl))) (mvT hZ (hw _ (List.mem_of_getElem? (i := 24) rfl))) (by decide) (backOf (W := 0) (rm5 l Z a0 hw [] b1 (f4 q4 dv (4 : Int32)) kv 4 (fun i => f4 q4 dv (Int32.ofNat i)) hj112 n0 Zj112 Ic32 gn1 rfl (by decide) KB.1 KB.2) hZ (hw _ (List.mem_of_getElem? (i := 26) rfl)) (hw _ (List.mem_of_getElem? (i := 2) rfl)) (by decide) (by decide)) q32a q32c (g := (mkF m 127 #[.val (.int p1), .val (.int p2), .val (.int p3), .val (.long q4), .second, .val (.long q5), .second, .val (.int kv), .val (.int nv), .val (.long dv), .second, .val (.ref b1), .unset, .unset, .unset] [(.long (f4 q4 dv (4 : Int32))), (.ref b1)])) rfl (by rw [hml]; rfl) (Steps.refl _) (argsL := [(.long (f4 q4 dv (4 : Int32)))]) (rest := []) (lenOf pd_5 rfl) rfl (by show 2 * 0 + _ ≤ _; exact Nat.le_of_eq rfl) (hb hby at_127) (fun _ _ => ⟨rfl, e31q, (by decide : 6 + 1 ≤ _), (by decide : 40 + 8 ≤ _)⟩)
        dsimp only [Pt.U, Pt.locs, Pt.cells, Pt.slots] at X32 l32 y32 z32 st32 hQ32
        subst l32 y32 z32
        obtain ⟨rfl, N32q, Z32q, I32q⟩ := hQ32
        have N32 := Fr.app N31 N32q
        have Id32 : own_Inv Z T32.heap n0 b1 kv (min nv.toInt.toNat 5) (fun i => f4 q4 dv (Int32.ofNat i)) := own_cast I32q (own_yes (k := 4) rfl hc30).2.symm
        have Ex33 := own_exa Id32
        refine Go.by (fun t k => st32.trans k) ?_
        show Go p e below T32 (mkF m 130 #[.val (.int p1), .val (.int p2), .val (.int p3), .val (.long q4), .second, .val (.long q5), .second, .val (.int kv), .val (.int nv), .val (.long dv), .second, .val (.ref b1), .unset, .unset, .unset] []) _
        exact J130 _ _ _ (X32.more (by decide) (by decide)) rfl N32 Z32q Id32
      · refine Go.by (fun t k => XS.icmpYes Xj112.here hx rfl (pc0 := 115) (pc' := 130) rfl (hb hby at_115) rfl (flt hc30).2.2.2 (by decide) (by decide) k) ?_
        show Go p e below Tj112 (mkF m 130 #[.val (.int p1), .val (.int p2), .val (.int p3), .val (.long q4), .second, .val (.long q5), .second, .val (.int kv), .val (.int nv), .val (.long dv), .second, .val (.ref b1), .unset, .unset, .unset] []) _
        exact J130 _ _ _ (Xj112.more (by decide) (by decide)) ej112 Nj112 Zj112 (own_cast Ij112 (own_no (k := 4) rfl hc30))
    have J94 : ∀ (Tj94 : State) (Lj94 : List Loc) (hj94 : Heap) (Xj94 : Stand p l e room_1 s m #[(.int p1), (.int p2), (.int p3), (.long q4), (.long q5)] below meth c Tj94 Lj94 5 32) (ej94 : Tj94.heap = hj94) (Nj94 : Fr n0 Lj94) (Zj94 : n0 ≤ hj94.size) (Ij94 : own_Inv Z hj94 n0 b1 kv (min nv.toInt.toNat 3) (fun i => f4 q4 dv (Int32.ofNat i))), Go p e below Tj94 (mkF m 94 #[.val (.int p1), .val (.int p2), .val (.int p3), .val (.long q4), .second, .val (.long q5), .second, .val (.int kv), .val (.int nv), .val (.long dv), .second, .val (.ref b1), .unset, .unset, .unset] []) (Pst0 Z p1 p2 p3 q4 q5 h0 n0 s) := by
      intro Tj94 Lj94 hj94 Xj94 ej94 Nj94 Zj94 Ij94
      have Ex34 := own_exa Ij94
      refine Go.by (fun t k => XS.iload Xj94.here hx rfl (hb hby at_94) rfl k) ?_
      show Go p e below Tj94 (mkF m 96 #[.val (.int p1), .val (.int p2), .val (.int p3), .val (.long q4), .second, .val (.long q5), .second, .val (.int kv), .val (.int nv), .val (.long dv), .second, .val (.ref b1), .unset, .unset, .unset] [(.int nv)]) _
      refine Go.by (fun t k => XS.iconst Xj94.here hx rfl (hb hby at_96) k) ?_
      show Go p e below Tj94 (mkF m 97 #[.val (.int p1), .val (.int p2), .val (.int p3), .val (.long q4), .second, .val (.long q5), .second, .val (.int kv), .val (.int nv), .val (.long dv), .second, .val (.ref b1), .unset, .unset, .unset] [(.int (3 : Int32)), (.int nv)]) _
      by_cases hc35 : (3 : Int32) < nv
      · refine Go.by (fun t k => XS.icmpNo Xj94.here hx rfl (hb hby at_97) rfl (tlt hc35).2.2.2 k) ?_
        show Go p e below Tj94 (mkF m 100 #[.val (.int p1), .val (.int p2), .val (.int p3), .val (.long q4), .second, .val (.long q5), .second, .val (.int kv), .val (.int nv), .val (.long dv), .second, .val (.ref b1), .unset, .unset, .unset] []) _
        refine Go.by (fun t k => XS.aload Xj94.here hx rfl (hb hby at_100) rfl rfl k) ?_
        show Go p e below Tj94 (mkF m 102 #[.val (.int p1), .val (.int p2), .val (.int p3), .val (.long q4), .second, .val (.long q5), .second, .val (.int kv), .val (.int nv), .val (.long dv), .second, .val (.ref b1), .unset, .unset, .unset] [(.ref b1)]) _
        refine Go.by (fun t k => XS.lloadN Xj94.here hx rfl (hb hby at_102) rfl k) ?_
        show Go p e below Tj94 (mkF m 103 #[.val (.int p1), .val (.int p2), .val (.int p3), .val (.long q4), .second, .val (.long q5), .second, .val (.int kv), .val (.int nv), .val (.long dv), .second, .val (.ref b1), .unset, .unset, .unset] [(.long q4), (.ref b1)]) _
        refine Go.by (fun t k => XS.lload Xj94.here hx rfl (hb hby at_103) rfl k) ?_
        show Go p e below Tj94 (mkF m 105 #[.val (.int p1), .val (.int p2), .val (.int p3), .val (.long q4), .second, .val (.long q5), .second, .val (.int kv), .val (.int nv), .val (.long dv), .second, .val (.ref b1), .unset, .unset, .unset] [(.long dv), (.long q4), (.ref b1)]) _
        refine Go.by (fun t k => XS.iconst Xj94.here hx rfl (hb hby at_105) k) ?_
        show Go p e below Tj94 (mkF m 106 #[.val (.int p1), .val (.int p2), .val (.int p3), .val (.long q4), .second, .val (.long q5), .second, .val (.int kv), .val (.int nv), .val (.long dv), .second, .val (.ref b1), .unset, .unset, .unset] [(.int (3 : Int32)), (.long dv), (.long q4), (.ref b1)]) _
        obtain ⟨_, _, ⟨T36, L36, k36, n36⟩, -, X36, ⟨Lc36, hQ36, l36, y36, z36⟩, st36⟩ := Jvm.LawKit.callS Xj94 hx (y := (⟨"com/example/pagecast/pagecast/push/StartsGetPinLaw", "v", "(JJI)J"⟩ : MethodName)) hown (mvT hZ (hw _ (List.mem_of_getElem? (i := 18) rfl))) (mvT hZ (hw _ (List.mem_of_getElem? (i := 19) rfl))) (mvT hZ (hw _ (List.mem_of_getElem? (i := 20) rfl))) (mvT hZ (hw _ (List.mem_of_getElem? (i := 21) rfl))) (by decide) (backOf (W := 1) (rm4 l Z a0 hw [] q4 dv (3 : Int32) hj94 n0 Zj94) hZ (hw _ (List.mem_of_getElem? (i := 21) rfl)) (hw _ (List.mem_of_getElem? (i := 20) rfl)) (by decide) (by decide)) (g := (mkF m 106 #[.val (.int p1), .val (.int p2), .val (.int p3), .val (.long q4), .second, .val (.long q5), .second, .val (.int kv), .val (.int nv), .val (.long dv), .second, .val (.ref b1), .unset, .unset, .unset] [(.int (3 : Int32)), (.long dv), (.long q4), (.ref b1)])) rfl (by rw [hml]; rfl) (argsL := [(.long q4), (.long dv), (.int (3 : Int32))]) (rest := [(.ref b1)]) (lenOf pd_4 rfl) rfl (by show 2 * 0 + _ ≤ _; exact Nat.le_of_eq rfl) (hb hby at_106) (fun _ _ => ⟨rfl, ej94, (by decide : 5 + 0 ≤ _), (by decide : 32 + 0 ≤ _)⟩)
        dsimp only [Pt.U, Pt.locs, Pt.cells, Pt.slots] at X36 l36 y36 z36 st36 hQ36
        subst l36 y36 z36
        obtain ⟨rfl, N36q, e36q⟩ := hQ36
        have N36 := Fr.app Nj94 N36q
        refine Go.by st36 ?_
        show Go p e below T36 (mkF m 109 #[.val (.int p1), .val (.int p2), .val (.int p3), .val (.long q4), .second, .val (.long q5), .second, .val (.int kv), .val (.int nv), .val (.long dv), .second, .val (.ref b1), .unset, .unset, .unset] [(.long (f4 q4 dv (3 : Int32))), (.ref b1)]) _
        have Ic37 := own_cast Ij94 (own_yes (k := 3) rfl hc35).1
        obtain ⟨cq37, kq37, q37a, q37b, q37c⟩ := isOf hZ e36q Ex34
        obtain ⟨_, _, ⟨T37, L37, k37, n37⟩, -, X37, ⟨Lc37, hQ37, l37, y37, z37⟩, st37⟩ := X36.virtualBack hx (y := (⟨"com/example/pagecast/pagecast/push/Starts", "add", "(J)V"⟩ : MethodName)) (z := (⟨"com/example/pagecast/pagecast/push/Starts", "add", "(J)V"⟩ : MethodName)) hown (mvT hZ (hw _ (List.mem_of_getElem? (i := 22) rfl))) (mvT hZ (hw _ (List.mem_of_getElem? (i := 23) rfl))) (notFace_of_selects (args := #[]) (mvT hZ (hw _ (List.mem_of_getElem? (i := 25) rfl)))) (mvT hZ (hw _ (List.mem_of_getElem? (i := 25) rfl))) (mvT hZ (hw _ (List.mem_of_getElem? (i := 24) rfl))) (by decide) (backOf (W := 0) (rm5 l Z a0 hw [] b1 (f4 q4 dv (3 : Int32)) kv 3 (fun i => f4 q4 dv (Int32.ofNat i)) hj94 n0 Zj94 Ic37 gn1 rfl (by decide) KB.1 KB.2) hZ (hw _ (List.mem_of_getElem? (i := 26) rfl)) (hw _ (List.mem_of_getElem? (i := 2) rfl)) (by decide) (by decide)) q37a q37c (g := (mkF m 109 #[.val (.int p1), .val (.int p2), .val (.int p3), .val (.long q4), .second, .val (.long q5), .second, .val (.int kv), .val (.int nv), .val (.long dv), .second, .val (.ref b1), .unset, .unset, .unset] [(.long (f4 q4 dv (3 : Int32))), (.ref b1)])) rfl (by rw [hml]; rfl) (Steps.refl _) (argsL := [(.long (f4 q4 dv (3 : Int32)))]) (rest := []) (lenOf pd_5 rfl) rfl (by show 2 * 0 + _ ≤ _; exact Nat.le_of_eq rfl) (hb hby at_109) (fun _ _ => ⟨rfl, e36q, (by decide : 5 + 1 ≤ _), (by decide : 32 + 8 ≤ _)⟩)
        dsimp only [Pt.U, Pt.locs, Pt.cells, Pt.slots] at X37 l37 y37 z37 st37 hQ37
        subst l37 y37 z37
        obtain ⟨rfl, N37q, Z37q, I37q⟩ := hQ37
        have N37 := Fr.app N36 N37q
        have Id37 : own_Inv Z T37.heap n0 b1 kv (min nv.toInt.toNat 4) (fun i => f4 q4 dv (Int32.ofNat i)) := own_cast I37q (own_yes (k := 3) rfl hc35).2.symm
        have Ex38 := own_exa Id37
        refine Go.by (fun t k => st37.trans k) ?_
        show Go p e below T37 (mkF m 112 #[.val (.int p1), .val (.int p2), .val (.int p3), .val (.long q4), .second, .val (.long q5), .second, .val (.int kv), .val (.int nv), .val (.long dv), .second, .val (.ref b1), .unset, .unset, .unset] []) _
        exact J112 _ _ _ (X37.more (by decide) (by decide)) rfl N37 Z37q Id37
      · refine Go.by (fun t k => XS.icmpYes Xj94.here hx rfl (pc0 := 97) (pc' := 112) rfl (hb hby at_97) rfl (flt hc35).2.2.2 (by decide) (by decide) k) ?_
        show Go p e below Tj94 (mkF m 112 #[.val (.int p1), .val (.int p2), .val (.int p3), .val (.long q4), .second, .val (.long q5), .second, .val (.int kv), .val (.int nv), .val (.long dv), .second, .val (.ref b1), .unset, .unset, .unset] []) _
        exact J112 _ _ _ (Xj94.more (by decide) (by decide)) ej94 Nj94 Zj94 (own_cast Ij94 (own_no (k := 3) rfl hc35))
    have J76 : ∀ (Tj76 : State) (Lj76 : List Loc) (hj76 : Heap) (Xj76 : Stand p l e room_1 s m #[(.int p1), (.int p2), (.int p3), (.long q4), (.long q5)] below meth c Tj76 Lj76 4 24) (ej76 : Tj76.heap = hj76) (Nj76 : Fr n0 Lj76) (Zj76 : n0 ≤ hj76.size) (Ij76 : own_Inv Z hj76 n0 b1 kv (min nv.toInt.toNat 2) (fun i => f4 q4 dv (Int32.ofNat i))), Go p e below Tj76 (mkF m 76 #[.val (.int p1), .val (.int p2), .val (.int p3), .val (.long q4), .second, .val (.long q5), .second, .val (.int kv), .val (.int nv), .val (.long dv), .second, .val (.ref b1), .unset, .unset, .unset] []) (Pst0 Z p1 p2 p3 q4 q5 h0 n0 s) := by
      intro Tj76 Lj76 hj76 Xj76 ej76 Nj76 Zj76 Ij76
      have Ex39 := own_exa Ij76
      refine Go.by (fun t k => XS.iload Xj76.here hx rfl (hb hby at_76) rfl k) ?_
      show Go p e below Tj76 (mkF m 78 #[.val (.int p1), .val (.int p2), .val (.int p3), .val (.long q4), .second, .val (.long q5), .second, .val (.int kv), .val (.int nv), .val (.long dv), .second, .val (.ref b1), .unset, .unset, .unset] [(.int nv)]) _
      refine Go.by (fun t k => XS.iconst Xj76.here hx rfl (hb hby at_78) k) ?_
      show Go p e below Tj76 (mkF m 79 #[.val (.int p1), .val (.int p2), .val (.int p3), .val (.long q4), .second, .val (.long q5), .second, .val (.int kv), .val (.int nv), .val (.long dv), .second, .val (.ref b1), .unset, .unset, .unset] [(.int (2 : Int32)), (.int nv)]) _
      by_cases hc40 : (2 : Int32) < nv
      · refine Go.by (fun t k => XS.icmpNo Xj76.here hx rfl (hb hby at_79) rfl (tlt hc40).2.2.2 k) ?_
        show Go p e below Tj76 (mkF m 82 #[.val (.int p1), .val (.int p2), .val (.int p3), .val (.long q4), .second, .val (.long q5), .second, .val (.int kv), .val (.int nv), .val (.long dv), .second, .val (.ref b1), .unset, .unset, .unset] []) _
        refine Go.by (fun t k => XS.aload Xj76.here hx rfl (hb hby at_82) rfl rfl k) ?_
        show Go p e below Tj76 (mkF m 84 #[.val (.int p1), .val (.int p2), .val (.int p3), .val (.long q4), .second, .val (.long q5), .second, .val (.int kv), .val (.int nv), .val (.long dv), .second, .val (.ref b1), .unset, .unset, .unset] [(.ref b1)]) _
        refine Go.by (fun t k => XS.lloadN Xj76.here hx rfl (hb hby at_84) rfl k) ?_
        show Go p e below Tj76 (mkF m 85 #[.val (.int p1), .val (.int p2), .val (.int p3), .val (.long q4), .second, .val (.long q5), .second, .val (.int kv), .val (.int nv), .val (.long dv), .second, .val (.ref b1), .unset, .unset, .unset] [(.long q4), (.ref b1)]) _
        refine Go.by (fun t k => XS.lload Xj76.here hx rfl (hb hby at_85) rfl k) ?_
        show Go p e below Tj76 (mkF m 87 #[.val (.int p1), .val (.int p2), .val (.int p3), .val (.long q4), .second, .val (.long q5), .second, .val (.int kv), .val (.int nv), .val (.long dv), .second, .val (.ref b1), .unset, .unset, .unset] [(.long dv), (.long q4), (.ref b1)]) _
        refine Go.by (fun t k => XS.iconst Xj76.here hx rfl (hb hby at_87) k) ?_
        show Go p e below Tj76 (mkF m 88 #[.val (.int p1), .val (.int p2), .val (.int p3), .val (.long q4), .second, .val (.long q5), .second, .val (.int kv), .val (.int nv), .val (.long dv), .second, .val (.ref b1), .unset, .unset, .unset] [(.int (2 : Int32)), (.long dv), (.long q4), (.ref b1)]) _
        obtain ⟨_, _, ⟨T41, L41, k41, n41⟩, -, X41, ⟨Lc41, hQ41, l41, y41, z41⟩, st41⟩ := Jvm.LawKit.callS Xj76 hx (y := (⟨"com/example/pagecast/pagecast/push/StartsGetPinLaw", "v", "(JJI)J"⟩ : MethodName)) hown (mvT hZ (hw _ (List.mem_of_getElem? (i := 18) rfl))) (mvT hZ (hw _ (List.mem_of_getElem? (i := 19) rfl))) (mvT hZ (hw _ (List.mem_of_getElem? (i := 20) rfl))) (mvT hZ (hw _ (List.mem_of_getElem? (i := 21) rfl))) (by decide) (backOf (W := 1) (rm4 l Z a0 hw [] q4 dv (2 : Int32) hj76 n0 Zj76) hZ (hw _ (List.mem_of_getElem? (i := 21) rfl)) (hw _ (List.mem_of_getElem? (i := 20) rfl)) (by decide) (by decide)) (g := (mkF m 88 #[.val (.int p1), .val (.int p2), .val (.int p3), .val (.long q4), .second, .val (.long q5), .second, .val (.int kv), .val (.int nv), .val (.long dv), .second, .val (.ref b1), .unset, .unset, .unset] [(.int (2 : Int32)), (.long dv), (.long q4), (.ref b1)])) rfl (by rw [hml]; rfl) (argsL := [(.long q4), (.long dv), (.int (2 : Int32))]) (rest := [(.ref b1)]) (lenOf pd_4 rfl) rfl (by show 2 * 0 + _ ≤ _; exact Nat.le_of_eq rfl) (hb hby at_88) (fun _ _ => ⟨rfl, ej76, (by decide : 4 + 0 ≤ _), (by decide : 24 + 0 ≤ _)⟩)
        dsimp only [Pt.U, Pt.locs, Pt.cells, Pt.slots] at X41 l41 y41 z41 st41 hQ41
        subst l41 y41 z41
        obtain ⟨rfl, N41q, e41q⟩ := hQ41
        have N41 := Fr.app Nj76 N41q
        refine Go.by st41 ?_
        show Go p e below T41 (mkF m 91 #[.val (.int p1), .val (.int p2), .val (.int p3), .val (.long q4), .second, .val (.long q5), .second, .val (.int kv), .val (.int nv), .val (.long dv), .second, .val (.ref b1), .unset, .unset, .unset] [(.long (f4 q4 dv (2 : Int32))), (.ref b1)]) _
        have Ic42 := own_cast Ij76 (own_yes (k := 2) rfl hc40).1
        obtain ⟨cq42, kq42, q42a, q42b, q42c⟩ := isOf hZ e41q Ex39
        obtain ⟨_, _, ⟨T42, L42, k42, n42⟩, -, X42, ⟨Lc42, hQ42, l42, y42, z42⟩, st42⟩ := X41.virtualBack hx (y := (⟨"com/example/pagecast/pagecast/push/Starts", "add", "(J)V"⟩ : MethodName)) (z := (⟨"com/example/pagecast/pagecast/push/Starts", "add", "(J)V"⟩ : MethodName)) hown (mvT hZ (hw _ (List.mem_of_getElem? (i := 22) rfl))) (mvT hZ (hw _ (List.mem_of_getElem? (i := 23) rfl))) (notFace_of_selects (args := #[]) (mvT hZ (hw _ (List.mem_of_getElem? (i := 25) rfl)))) (mvT hZ (hw _ (List.mem_of_getElem? (i := 25) rfl))) (mvT hZ (hw _ (List.mem_of_getElem? (i := 24) rfl))) (by decide) (backOf (W := 0) (rm5 l Z a0 hw [] b1 (f4 q4 dv (2 : Int32)) kv 2 (fun i => f4 q4 dv (Int32.ofNat i)) hj76 n0 Zj76 Ic42 gn1 rfl (by decide) KB.1 KB.2) hZ (hw _ (List.mem_of_getElem? (i := 26) rfl)) (hw _ (List.mem_of_getElem? (i := 2) rfl)) (by decide) (by decide)) q42a q42c (g := (mkF m 91 #[.val (.int p1), .val (.int p2), .val (.int p3), .val (.long q4), .second, .val (.long q5), .second, .val (.int kv), .val (.int nv), .val (.long dv), .second, .val (.ref b1), .unset, .unset, .unset] [(.long (f4 q4 dv (2 : Int32))), (.ref b1)])) rfl (by rw [hml]; rfl) (Steps.refl _) (argsL := [(.long (f4 q4 dv (2 : Int32)))]) (rest := []) (lenOf pd_5 rfl) rfl (by show 2 * 0 + _ ≤ _; exact Nat.le_of_eq rfl) (hb hby at_91) (fun _ _ => ⟨rfl, e41q, (by decide : 4 + 1 ≤ _), (by decide : 24 + 8 ≤ _)⟩)
        dsimp only [Pt.U, Pt.locs, Pt.cells, Pt.slots] at X42 l42 y42 z42 st42 hQ42
        subst l42 y42 z42
        obtain ⟨rfl, N42q, Z42q, I42q⟩ := hQ42
        have N42 := Fr.app N41 N42q
        have Id42 : own_Inv Z T42.heap n0 b1 kv (min nv.toInt.toNat 3) (fun i => f4 q4 dv (Int32.ofNat i)) := own_cast I42q (own_yes (k := 2) rfl hc40).2.symm
        have Ex43 := own_exa Id42
        refine Go.by (fun t k => st42.trans k) ?_
        show Go p e below T42 (mkF m 94 #[.val (.int p1), .val (.int p2), .val (.int p3), .val (.long q4), .second, .val (.long q5), .second, .val (.int kv), .val (.int nv), .val (.long dv), .second, .val (.ref b1), .unset, .unset, .unset] []) _
        exact J94 _ _ _ (X42.more (by decide) (by decide)) rfl N42 Z42q Id42
      · refine Go.by (fun t k => XS.icmpYes Xj76.here hx rfl (pc0 := 79) (pc' := 94) rfl (hb hby at_79) rfl (flt hc40).2.2.2 (by decide) (by decide) k) ?_
        show Go p e below Tj76 (mkF m 94 #[.val (.int p1), .val (.int p2), .val (.int p3), .val (.long q4), .second, .val (.long q5), .second, .val (.int kv), .val (.int nv), .val (.long dv), .second, .val (.ref b1), .unset, .unset, .unset] []) _
        exact J94 _ _ _ (Xj76.more (by decide) (by decide)) ej76 Nj76 Zj76 (own_cast Ij76 (own_no (k := 2) rfl hc40))
    refine Go.by (fun t k => XS.iload X5.here hx rfl (hb hby at_58) rfl k) ?_
    show Go p e below T5 (mkF m 60 #[.val (.int p1), .val (.int p2), .val (.int p3), .val (.long q4), .second, .val (.long q5), .second, .val (.int kv), .val (.int nv), .val (.long dv), .second, .val (.ref b1), .unset, .unset, .unset] [(.int nv)]) _
    refine Go.by (fun t k => XS.iconst X5.here hx rfl (hb hby at_60) k) ?_
    show Go p e below T5 (mkF m 61 #[.val (.int p1), .val (.int p2), .val (.int p3), .val (.long q4), .second, .val (.long q5), .second, .val (.int kv), .val (.int nv), .val (.long dv), .second, .val (.ref b1), .unset, .unset, .unset] [(.int (1 : Int32)), (.int nv)]) _
    by_cases hc44 : (1 : Int32) < nv
    · refine Go.by (fun t k => XS.icmpNo X5.here hx rfl (hb hby at_61) rfl (tlt hc44).2.2.2 k) ?_
      show Go p e below T5 (mkF m 64 #[.val (.int p1), .val (.int p2), .val (.int p3), .val (.long q4), .second, .val (.long q5), .second, .val (.int kv), .val (.int nv), .val (.long dv), .second, .val (.ref b1), .unset, .unset, .unset] []) _
      refine Go.by (fun t k => XS.aload X5.here hx rfl (hb hby at_64) rfl rfl k) ?_
      show Go p e below T5 (mkF m 66 #[.val (.int p1), .val (.int p2), .val (.int p3), .val (.long q4), .second, .val (.long q5), .second, .val (.int kv), .val (.int nv), .val (.long dv), .second, .val (.ref b1), .unset, .unset, .unset] [(.ref b1)]) _
      refine Go.by (fun t k => XS.lloadN X5.here hx rfl (hb hby at_66) rfl k) ?_
      show Go p e below T5 (mkF m 67 #[.val (.int p1), .val (.int p2), .val (.int p3), .val (.long q4), .second, .val (.long q5), .second, .val (.int kv), .val (.int nv), .val (.long dv), .second, .val (.ref b1), .unset, .unset, .unset] [(.long q4), (.ref b1)]) _
      refine Go.by (fun t k => XS.lload X5.here hx rfl (hb hby at_67) rfl k) ?_
      show Go p e below T5 (mkF m 69 #[.val (.int p1), .val (.int p2), .val (.int p3), .val (.long q4), .second, .val (.long q5), .second, .val (.int kv), .val (.int nv), .val (.long dv), .second, .val (.ref b1), .unset, .unset, .unset] [(.long dv), (.long q4), (.ref b1)]) _
      refine Go.by (fun t k => XS.iconst X5.here hx rfl (hb hby at_69) k) ?_
      show Go p e below T5 (mkF m 70 #[.val (.int p1), .val (.int p2), .val (.int p3), .val (.long q4), .second, .val (.long q5), .second, .val (.int kv), .val (.int nv), .val (.long dv), .second, .val (.ref b1), .unset, .unset, .unset] [(.int (1 : Int32)), (.long dv), (.long q4), (.ref b1)]) _
      obtain ⟨_, _, ⟨T45, L45, k45, n45⟩, -, X45, ⟨Lc45, hQ45, l45, y45, z45⟩, st45⟩ := Jvm.LawKit.callS X5 hx (y := (⟨"com/example/pagecast/pagecast/push/StartsGetPinLaw", "v", "(JJI)J"⟩ : MethodName)) hown (mvT hZ (hw _ (List.mem_of_getElem? (i := 18) rfl))) (mvT hZ (hw _ (List.mem_of_getElem? (i := 19) rfl))) (mvT hZ (hw _ (List.mem_of_getElem? (i := 20) rfl))) (mvT hZ (hw _ (List.mem_of_getElem? (i := 21) rfl))) (by decide) (backOf (W := 1) (rm4 l Z a0 hw [] q4 dv (1 : Int32) T5.heap n0 Z5q) hZ (hw _ (List.mem_of_getElem? (i := 21) rfl)) (hw _ (List.mem_of_getElem? (i := 20) rfl)) (by decide) (by decide)) (g := (mkF m 70 #[.val (.int p1), .val (.int p2), .val (.int p3), .val (.long q4), .second, .val (.long q5), .second, .val (.int kv), .val (.int nv), .val (.long dv), .second, .val (.ref b1), .unset, .unset, .unset] [(.int (1 : Int32)), (.long dv), (.long q4), (.ref b1)])) rfl (by rw [hml]; rfl) (argsL := [(.long q4), (.long dv), (.int (1 : Int32))]) (rest := [(.ref b1)]) (lenOf pd_4 rfl) rfl (by show 2 * 0 + _ ≤ _; exact Nat.le_of_eq rfl) (hb hby at_70) (fun _ _ => ⟨rfl, rfl, (by decide : 3 + 0 ≤ _), (by decide : 16 + 0 ≤ _)⟩)
      dsimp only [Pt.U, Pt.locs, Pt.cells, Pt.slots] at X45 l45 y45 z45 st45 hQ45
      subst l45 y45 z45
      obtain ⟨rfl, N45q, e45q⟩ := hQ45
      have N45 := Fr.app N5 N45q
      refine Go.by st45 ?_
      show Go p e below T45 (mkF m 73 #[.val (.int p1), .val (.int p2), .val (.int p3), .val (.long q4), .second, .val (.long q5), .second, .val (.int kv), .val (.int nv), .val (.long dv), .second, .val (.ref b1), .unset, .unset, .unset] [(.long (f4 q4 dv (1 : Int32))), (.ref b1)]) _
      have Ic46 := own_cast Id5 (own_yes (k := 1) rfl hc44).1
      obtain ⟨cq46, kq46, q46a, q46b, q46c⟩ := isOf hZ e45q Ex6
      obtain ⟨_, _, ⟨T46, L46, k46, n46⟩, -, X46, ⟨Lc46, hQ46, l46, y46, z46⟩, st46⟩ := X45.virtualBack hx (y := (⟨"com/example/pagecast/pagecast/push/Starts", "add", "(J)V"⟩ : MethodName)) (z := (⟨"com/example/pagecast/pagecast/push/Starts", "add", "(J)V"⟩ : MethodName)) hown (mvT hZ (hw _ (List.mem_of_getElem? (i := 22) rfl))) (mvT hZ (hw _ (List.mem_of_getElem? (i := 23) rfl))) (notFace_of_selects (args := #[]) (mvT hZ (hw _ (List.mem_of_getElem? (i := 25) rfl)))) (mvT hZ (hw _ (List.mem_of_getElem? (i := 25) rfl))) (mvT hZ (hw _ (List.mem_of_getElem? (i := 24) rfl))) (by decide) (backOf (W := 0) (rm5 l Z a0 hw [] b1 (f4 q4 dv (1 : Int32)) kv 1 (fun i => f4 q4 dv (Int32.ofNat i)) T5.heap n0 Z5q Ic46 gn1 rfl (by decide) KB.1 KB.2) hZ (hw _ (List.mem_of_getElem? (i := 26) rfl)) (hw _ (List.mem_of_getElem? (i := 2) rfl)) (by decide) (by decide)) q46a q46c (g := (mkF m 73 #[.val (.int p1), .val (.int p2), .val (.int p3), .val (.long q4), .second, .val (.long q5), .second, .val (.int kv), .val (.int nv), .val (.long dv), .second, .val (.ref b1), .unset, .unset, .unset] [(.long (f4 q4 dv (1 : Int32))), (.ref b1)])) rfl (by rw [hml]; rfl) (Steps.refl _) (argsL := [(.long (f4 q4 dv (1 : Int32)))]) (rest := []) (lenOf pd_5 rfl) rfl (by show 2 * 0 + _ ≤ _; exact Nat.le_of_eq rfl) (hb hby at_73) (fun _ _ => ⟨rfl, e45q, (by decide : 3 + 1 ≤ _), (by decide : 16 + 8 ≤ _)⟩)
      dsimp only [Pt.U, Pt.locs, Pt.cells, Pt.slots] at X46 l46 y46 z46 st46 hQ46
      subst l46 y46 z46
      obtain ⟨rfl, N46q, Z46q, I46q⟩ := hQ46
      have N46 := Fr.app N45 N46q
      have Id46 : own_Inv Z T46.heap n0 b1 kv (min nv.toInt.toNat 2) (fun i => f4 q4 dv (Int32.ofNat i)) := own_cast I46q (own_yes (k := 1) rfl hc44).2.symm
      have Ex47 := own_exa Id46
      refine Go.by (fun t k => st46.trans k) ?_
      show Go p e below T46 (mkF m 76 #[.val (.int p1), .val (.int p2), .val (.int p3), .val (.long q4), .second, .val (.long q5), .second, .val (.int kv), .val (.int nv), .val (.long dv), .second, .val (.ref b1), .unset, .unset, .unset] []) _
      exact J76 _ _ _ (X46.more (by decide) (by decide)) rfl N46 Z46q Id46
    · refine Go.by (fun t k => XS.icmpYes X5.here hx rfl (pc0 := 61) (pc' := 76) rfl (hb hby at_61) rfl (flt hc44).2.2.2 (by decide) (by decide) k) ?_
      show Go p e below T5 (mkF m 76 #[.val (.int p1), .val (.int p2), .val (.int p3), .val (.long q4), .second, .val (.long q5), .second, .val (.int kv), .val (.int nv), .val (.long dv), .second, .val (.ref b1), .unset, .unset, .unset] []) _
      exact J76 _ _ _ (X5.more (by decide) (by decide)) rfl N5 Z5q (own_cast Id5 (own_no (k := 1) rfl hc44))
  by_cases hc48 : (p1 &&& (1 : Int32)) = (0 : Int32)
  · refine Go.by (fun t k => XS.ifNo X0.here hx rfl (hb hby at_7) rfl ((if0 _ _).trans (teq hc48).2) k) ?_
    show Go p e below s₁ (mkF m 10 #[.val (.int p1), .val (.int p2), .val (.int p3), .val (.long q4), .second, .val (.long q5), .second, .unset, .unset, .unset, .unset, .unset, .unset, .unset, .unset] [(.int (own_ushr p1 (1 : Int32))), (.int (1 : Int32))]) _
    refine Go.by (fun t k => XS.bipush X0.here hx rfl (hb hby at_10) k) ?_
    show Go p e below s₁ (mkF m 12 #[.val (.int p1), .val (.int p2), .val (.int p3), .val (.long q4), .second, .val (.long q5), .second, .unset, .unset, .unset, .unset, .unset, .unset, .unset, .unset] [(.int (7 : Int32)), (.int (own_ushr p1 (1 : Int32))), (.int (1 : Int32))]) _
    refine Go.by (fun t k => XS.goto X0.here hx rfl (pc0 := 12) (pc' := 17) rfl (hb hby at_12) (by decide) (by decide) k) ?_
    show Go p e below s₁ (mkF m 17 #[.val (.int p1), .val (.int p2), .val (.int p3), .val (.long q4), .second, .val (.long q5), .second, .unset, .unset, .unset, .unset, .unset, .unset, .unset, .unset] [(.int (7 : Int32)), (.int (own_ushr p1 (1 : Int32))), (.int (1 : Int32))]) _
    exact J17 (7 : Int32) (Or.inl rfl)
  · refine Go.by (fun t k => XS.ifYes X0.here hx rfl (pc0 := 7) (pc' := 15) rfl (hb hby at_7) rfl ((if0 _ _).trans (feq hc48).2) (by decide) (by decide) k) ?_
    show Go p e below s₁ (mkF m 15 #[.val (.int p1), .val (.int p2), .val (.int p3), .val (.long q4), .second, .val (.long q5), .second, .unset, .unset, .unset, .unset, .unset, .unset, .unset, .unset] [(.int (own_ushr p1 (1 : Int32))), (.int (1 : Int32))]) _
    refine Go.by (fun t k => X0.ldcInt hx hown (mvT hZ (hw _ (List.mem_of_getElem? (i := 38) rfl))) (g := (mkF m 15 #[.val (.int p1), .val (.int p2), .val (.int p3), .val (.long q4), .second, .val (.long q5), .second, .unset, .unset, .unset, .unset, .unset, .unset, .unset, .unset] [(.int (own_ushr p1 (1 : Int32))), (.int (1 : Int32))])) rfl (hb hby at_15) t k) ?_
    show Go p e below s₁ (mkF m 17 #[.val (.int p1), .val (.int p2), .val (.int p3), .val (.long q4), .second, .val (.long q5), .second, .unset, .unset, .unset, .unset, .unset, .unset, .unset, .unset] [(.int (1073741823 : Int32)), (.int (own_ushr p1 (1 : Int32))), (.int (1 : Int32))]) _
    exact J17 (1073741823 : Int32) (Or.inr rfl)
set_option maxRecDepth 65536 in
set_option maxHeartbeats 40000000 in
theorem comes_1 {Post : Tables → Env → Array Value → State → Outcome → State → Prop} (hpost : ∀ tb e args s v u, (limb_1_1.after args s (.returned v) u = true ∧ limb_1_2.after args s (.returned v) u = true ∧ True) → FrameEnd s (.returned v) u (Jvm.fieldLocs frame_1_writes args s ++ Jvm.arrayLocs frame_1_arrays args s ++ Jvm.staticLocs frame_1_statics s) 16 128 → Post tb e args s (.returned v) u) :
    ArmFor flags0 classFile x code maxLocals ret World_1 tables_1 room_1 Calls_1 rest_1 Pre_1 Post := by
  intro l hfl _ _ p e ha hc hk s m args below hf hA hF happ hP
  obtain ⟨hcalls, hrest, hpre⟩ := hP
  obtain ⟨-, -, -, hnamed, -, -, -, hat⟩ := (Spec.applies_iff hf).mp happ
  obtain ⟨hg, hn⟩ := and_e (Cond.before_iff.mp (show (Jvm.Cond.and given_1 narrow_1).before args s = true from hpre))
  obtain ⟨g1, g2⟩ := and_e hg
  obtain ⟨g3, g4⟩ := and_e g2
  obtain ⟨g5, g6⟩ := and_e g4
  obtain ⟨g7, g8⟩ := and_e g6
  obtain ⟨g9, g10⟩ := and_e g8
  obtain ⟨w0, w1, w2, w3, w4, rfl⟩ : ∃ w0 w1 w2 w3 w4 : Value, args = #[w0, w1, w2, w3, w4] := by
    have hs : args.size = 5 := by simpa [Cond.value, given_1] using g1
    obtain ⟨L⟩ := args
    match L, hs with
    | [w0, w1, w2, w3, w4], _ => exact ⟨w0, w1, w2, w3, w4, rfl⟩
  have hw := fun d (hd : d ∈ tables_1) => atoms_spec (ws := Jvm.Cond.code x code maxLocals ret :: tables_1) hat d (List.mem_cons_of_mem _ hd)
  obtain ⟨i0, ei0⟩ := is_v g3
  obtain rfl : w0 = (.int i0) := Option.some.inj ei0
  obtain ⟨i1, ei1⟩ := is_v g5
  obtain rfl : w1 = (.int i1) := Option.some.inj ei1
  obtain ⟨i2, ei2⟩ := is_v g7
  obtain rfl : w2 = (.int i2) := Option.some.inj ei2
  obtain ⟨i3, ei3⟩ := isL_v g9
  obtain rfl : w3 = (.long i3) := Option.some.inj ei3
  obtain ⟨i4, ei4⟩ := isL_v g10
  obtain rfl : w4 = (.long i4) := Option.some.inj ei4
  obtain ⟨n, o, h1, h2, h3, _, L, rfl, ⟨rfl, N⟩, hq⟩ := rm0 l s _ hw tables_1 i0 i1 i2 i3 i4 s.heap s.heap.size (Nat.le_refl _) p e ha hc hk s m _ below hf ((Spec.applies_iff_loose hf).mp happ).1 ⟨rfl, State.Warmed39.refl s, rfl⟩ trivial
  refine ⟨n, _, h1, h2, h3, hpost _ _ _ _ _ _ ⟨Cond.after_iff.mpr rfl, Cond.after_iff.mpr (eq_i res_at (Term.int_eval (1)) rfl), trivial⟩ ⟨hq.1, hq.2.1, (hq.2.2.sift fun y hy => Or.inr (N y hy)).mono (by decide) (by decide)⟩⟩
theorem main_1_1 : Claimed_1_1 := comes_1 fun _ _ _ _ _ _ h hF => ⟨h.1, hF⟩
theorem main_1_2 : Claimed_1_2 := comes_1 fun _ _ _ _ _ _ h hF => ⟨h.2.1, hF⟩
end Jvm.Pilot.@@N@@
namespace Jvm.Pilot.@@N@@
open Jvm Jvm.ClassFile Sem Op Lib Jvm.Free Jvm.Stand Jvm.Pilot.@@N@@.Jvm.D
/-! MADE BY PROGRAM (witnessworld.py) out of the Statement's table words and the real class files: 14 classes; the members and pool entries that the words name. The judged class is class 1, her method 2. -/
namespace start1
open Jvm.ClassFile
def u (s : String) : CpInfo := .utf8 (stringToUtf16 s)
/-- a pool by its gaps: so many unusable entries, then the entry; so many at the end -/
def gap : Nat → List CpInfo → List CpInfo
  | 0, r => r
  | n + 1, r => .unusable :: gap n r
def poolList (es : List (Nat × CpInfo)) (last : Nat) : List CpInfo := es.foldr (fun e r => gap e.1 (e.2 :: r)) (gap last [])
def pool (es : List (Nat × CpInfo)) (last : Nat) : Array CpInfo := ⟨poolList es last⟩
def fileOf (pool : Array CpInfo) (this : Nat) (attrs : Array Attribute := #[]) (ms : Array MethodInfo := #[]) (fl : Nat := 33) (sup : Nat := 0) (ifs : Array Nat := #[]) (fds : Array FieldInfo := #[]) : ClassFile where
  minorVersion := 0
  majorVersion := 65
  constantPool := pool
  accessFlags := fl
  thisClass := this
  superClass := sup
  interfaces := ifs
  fields := fds
  methods := ms
  attributes := attrs
def plain (name : String) (sup : Option ClassId) : Class where
  name := name
  kind := .ordinary
  loader := none
  accessFlags := 33
  super := sup
  interfaces := #[]
  cf := none
  fields := #[]
  methods := #[]
  instanceTypes := #[]
  staticTypes := #[]
  resolved := #[]
  callSites := []
  init := .initialized
  statics := none
  mirror := none

def pool0 : Array CpInfo := pool [(5, u "<init>"), (0, u "()V"), (1, .class_ 10), (1, u "java/lang/Object")] 113

def k0c0 : Code := { maxStack := 0, maxLocals := 1, code := object_method_1_code, exceptionTable := #[], attributes := #[] }
def k0m0 : Method := { name := "<init>", desc := "()V", sig := { parameters := [], returnType := none }, accessFlags := 1, code := some k0c0 }
/-- java/lang/Object -/
def k0 : Class := { plain "java/lang/Object" none with
  accessFlags := 33
  interfaces := #[]
  cf := some (fileOf pool0 8 #[] #[{ accessFlags := 1, nameIndex := 5, descriptorIndex := 6, attributes := #[] }] 33 0 #[] #[])
  fields := #[]
  methods := #[k0m0]
  instanceTypes := #[]
  staticTypes := #[]
  resolved := Array.replicate 124 none
  statics := none }

def pool1 : Array CpInfo := pool [(2, .class_ 4), (1, u "java/lang/Object"), (0, u "<init>"), (0, u "()V"), (0, .integer 1073741823), (0, .class_ 9), (0, u "com/example/pagecast/pagecast/push/Starts"), (0, .methodref 8 11), (0, .nameAndType 5 12), (0, u "(I)V"), (0, .methodref 14 15), (0, .class_ 16), (0, .nameAndType 17 18), (0, u "com/example/pagecast/pagecast/push/StartsGetPinLaw"), (0, u "v"), (0, u "(JJI)J"), (0, .methodref 8 20), (0, .nameAndType 21 22), (0, u "add"), (0, u "(J)V"), (0, .methodref 24 25), (0, .class_ 26), (0, .nameAndType 27 28), (0, u "java/lang/Math"), (0, u "min"), (0, u "(II)I"), (0, .integer 2147483647), (0, .methodref 8 31), (0, .nameAndType 32 33), (0, u "get"), (0, u "(I)J"), (2, u "law"), (0, u "(IIIJJ)Z")] 3

def k1m0 : Method := { name := "<init>", desc := "()V", sig := { parameters := [], returnType := none }, accessFlags := 1, code := none }
def k1c1 : Code := { maxStack := 6, maxLocals := 5, code := method_2_code, exceptionTable := #[], attributes := #[] }
def k1m1 : Method := { name := "v", desc := "(JJI)J", sig := { parameters := [.long, .long, .int], returnType := some .long }, accessFlags := 10, code := some k1c1 }
def k1c2 : Code := { maxStack := 7, maxLocals := 15, code := code, exceptionTable := #[], attributes := #[] }
def k1m2 : Method := { name := "law", desc := "(IIIJJ)Z", sig := { parameters := [.int, .int, .int, .long, .long], returnType := some .boolean }, accessFlags := 9, code := some k1c2 }
/-- com/example/pagecast/pagecast/push/StartsGetPinLaw -/
def k1 : Class := { plain "com/example/pagecast/pagecast/push/StartsGetPinLaw" (some 0) with
  accessFlags := 49
  interfaces := #[]
  cf := some (fileOf pool1 14 #[] #[{ accessFlags := 1, nameIndex := 5, descriptorIndex := 6, attributes := #[] }, { accessFlags := 10, nameIndex := 17, descriptorIndex := 18, attributes := #[] }, { accessFlags := 9, nameIndex := 36, descriptorIndex := 37, attributes := #[] }] 49 2 #[] #[])
  fields := #[]
  methods := #[k1m0, k1m1, k1m2]
  instanceTypes := #[]
  staticTypes := #[]
  resolved := Array.replicate 41 none
  statics := none }

def pool2 : Array CpInfo := pool [(1, .methodref 2 3), (0, .class_ 4), (0, .nameAndType 5 6), (0, u "java/lang/Object"), (0, u "<init>"), (0, u "()V"), (0, .fieldref 8 9), (0, .class_ 10), (0, .nameAndType 11 12), (0, u "com/example/pagecast/pagecast/push/Starts"), (0, u "keep"), (0, u "I"), (0, .methodref 14 15), (0, .class_ 16), (0, .nameAndType 17 18), (0, u "java/lang/Math"), (0, u "min"), (0, u "(II)I"), (0, .fieldref 8 20), (0, .nameAndType 21 22), (0, u "first"), (0, u "[J"), (0, .fieldref 8 24), (0, .nameAndType 25 12), (0, u "count"), (0, .long 2), (1, .methodref 14 29), (0, .nameAndType 17 30), (0, u "(JJ)J"), (0, .methodref 32 33), (0, .class_ 34), (0, .nameAndType 35 36), (0, u "java/util/Arrays"), (0, u "copyOf"), (0, u "([JI)[J"), (0, .fieldref 8 38), (0, .nameAndType 39 22), (0, u "last"), (9, u "INITIAL_CAPACITY"), (2, u "(I)V"), (2, u "add"), (0, u "(J)V"), (2, u "get"), (0, u "(I)J")] 17

def k2c0 : Code := { maxStack := 3, maxLocals := 2, code := prog_91_method_1_code, exceptionTable := #[], attributes := #[] }
def k2m0 : Method := { name := "<init>", desc := "(I)V", sig := { parameters := [.int], returnType := none }, accessFlags := 0, code := some k2c0 }
def k2c1 : Code := { maxStack := 8, maxLocals := 3, code := prog_91_method_2_code, exceptionTable := #[], attributes := #[] }
def k2m1 : Method := { name := "add", desc := "(J)V", sig := { parameters := [.long], returnType := none }, accessFlags := 0, code := some k2c1 }
def k2c2 : Code := { maxStack := 5, maxLocals := 2, code := prog_91_method_4_code, exceptionTable := #[], attributes := #[] }
def k2m2 : Method := { name := "get", desc := "(I)J", sig := { parameters := [.int], returnType := some .long }, accessFlags := 0, code := some k2c2 }
/-- com/example/pagecast/pagecast/push/Starts -/
def k2 : Class := { plain "com/example/pagecast/pagecast/push/Starts" (some 0) with
  accessFlags := 48
  interfaces := #[]
  cf := some (fileOf pool2 8 #[] #[{ accessFlags := 0, nameIndex := 5, descriptorIndex := 52, attributes := #[] }, { accessFlags := 0, nameIndex := 55, descriptorIndex := 56, attributes := #[] }, { accessFlags := 0, nameIndex := 59, descriptorIndex := 60, attributes := #[] }] 48 2 #[] #[{ accessFlags := 26, nameIndex := 49, descriptorIndex := 12, attributes := #[] }, { accessFlags := 18, nameIndex := 11, descriptorIndex := 12, attributes := #[] }, { accessFlags := 2, nameIndex := 21, descriptorIndex := 22, attributes := #[] }, { accessFlags := 2, nameIndex := 39, descriptorIndex := 22, attributes := #[] }, { accessFlags := 2, nameIndex := 25, descriptorIndex := 12, attributes := #[] }])
  fields := #[{ name := "INITIAL_CAPACITY", type := .int, accessFlags := 26, slot := 0, constantValue := 0 }, { name := "keep", type := .int, accessFlags := 18, slot := 0, constantValue := 0 }, { name := "first", type := (.array .long), accessFlags := 2, slot := 1, constantValue := 0 }, { name := "last", type := (.array .long), accessFlags := 2, slot := 2, constantValue := 0 }, { name := "count", type := .int, accessFlags := 2, slot := 3, constantValue := 0 }]
  methods := #[k2m0, k2m1, k2m2]
  instanceTypes := #[.int, (.array .long), (.array .long), .int]
  staticTypes := #[.int]
  resolved := Array.replicate 78 none
  statics := none }

def pool3 : Array CpInfo := pool [(1, .class_ 2), (0, u "java/lang/Math"), (1, .class_ 6), (1, u "java/lang/Object"), (0, u "<init>"), (0, u "()V"), (89, .class_ 100), (1, u "java/lang/Math$RandomNumberGeneratorHolder"), (20, u "(JJ)J"), (50, u "negativeZeroFloatBits"), (0, u "J"), (2, u "negativeZeroDoubleBits"), (24, u "min"), (43, u "$assertionsDisabled"), (0, u "Z"), (88, u "(II)I"), (2, u "twoToTheDoubleScaleDown"), (0, u "D"), (4, u "twoToTheDoubleScaleUp"), (9, u "E"), (3, u "PI"), (2, u "TAU"), (2, u "DEGREES_TO_RADIANS"), (0, u "RADIANS_TO_DEGREES")] 94

def k3m0 : Method := { name := "<init>", desc := "()V", sig := { parameters := [], returnType := none }, accessFlags := 2, code := none }
def k3c1 : Code := { maxStack := 2, maxLocals := 2, code := jdk_29_method_69_code, exceptionTable := #[], attributes := #[] }
def k3m1 : Method := { name := "min", desc := "(II)I", sig := { parameters := [.int, .int], returnType := some .int }, accessFlags := 9, code := some k3c1 }
def k3c2 : Code := { maxStack := 4, maxLocals := 4, code := jdk_29_method_70_code, exceptionTable := #[], attributes := #[] }
def k3m2 : Method := { name := "min", desc := "(JJ)J", sig := { parameters := [.long, .long], returnType := some .long }, accessFlags := 9, code := some k3c2 }
/-- java/lang/Math -/
def k3 : Class := { plain "java/lang/Math" (some 0) with
  accessFlags := 49
  interfaces := #[]
  cf := some (fileOf pool3 1 #[.nestMembers #[98]] #[{ accessFlags := 2, nameIndex := 7, descriptorIndex := 8, attributes := #[] }, { accessFlags := 9, nameIndex := 201, descriptorIndex := 335, attributes := #[] }, { accessFlags := 9, nameIndex := 201, descriptorIndex := 121, attributes := #[] }] 49 4 #[] #[{ accessFlags := 25, nameIndex := 354, descriptorIndex := 339, attributes := #[] }, { accessFlags := 25, nameIndex := 358, descriptorIndex := 339, attributes := #[] }, { accessFlags := 25, nameIndex := 361, descriptorIndex := 339, attributes := #[] }, { accessFlags := 26, nameIndex := 364, descriptorIndex := 339, attributes := #[] }, { accessFlags := 26, nameIndex := 365, descriptorIndex := 339, attributes := #[] }, { accessFlags := 26, nameIndex := 172, descriptorIndex := 173, attributes := #[] }, { accessFlags := 26, nameIndex := 176, descriptorIndex := 173, attributes := #[] }, { accessFlags := 8, nameIndex := 344, descriptorIndex := 339, attributes := #[] }, { accessFlags := 8, nameIndex := 338, descriptorIndex := 339, attributes := #[] }, { accessFlags := 4120, nameIndex := 245, descriptorIndex := 246, attributes := #[] }])
  fields := #[{ name := "E", type := .double, accessFlags := 25, slot := 0, constantValue := 0 }, { name := "PI", type := .double, accessFlags := 25, slot := 1, constantValue := 0 }, { name := "TAU", type := .double, accessFlags := 25, slot := 2, constantValue := 0 }, { name := "DEGREES_TO_RADIANS", type := .double, accessFlags := 26, slot := 3, constantValue := 0 }, { name := "RADIANS_TO_DEGREES", type := .double, accessFlags := 26, slot := 4, constantValue := 0 }, { name := "negativeZeroFloatBits", type := .long, accessFlags := 26, slot := 5, constantValue := 0 }, { name := "negativeZeroDoubleBits", type := .long, accessFlags := 26, slot := 6, constantValue := 0 }, { name := "twoToTheDoubleScaleUp", type := .double, accessFlags := 8, slot := 7, constantValue := 0 }, { name := "twoToTheDoubleScaleDown", type := .double, accessFlags := 8, slot := 8, constantValue := 0 }, { name := "$assertionsDisabled", type := .boolean, accessFlags := 4120, slot := 9, constantValue := 0 }]
  methods := #[k3m0, k3m1, k3m2]
  instanceTypes := #[]
  staticTypes := #[.double, .double, .double, .double, .double, .long, .long, .double, .double, .boolean]
  resolved := Array.replicate 460 none
  statics := none }

def pool4 : Array CpInfo := pool [(2, .class_ 4), (1, u "java/lang/Object"), (0, u "<init>"), (0, u "()V"), (7, .class_ 16), (1, u "java/util/Arrays"), (57, .class_ 76), (1, u "java/util/Arrays$NaturalOrder"), (36, .class_ 115), (1, u "java/util/Arrays$LegacyMergeSort"), (1, u "Z"), (32, .methodref 151 152), (0, .class_ 153), (0, .nameAndType 154 155), (0, u "java/lang/System"), (0, u "arraycopy"), (0, u "(Ljava/lang/Object;ILjava/lang/Object;II)V"), (146, u "copyOf"), (1, .methodref 305 306), (0, .class_ 307), (0, .nameAndType 308 309), (0, u "java/lang/Math"), (0, u "min"), (0, u "(II)I"), (65, .class_ 376), (0, u "java/util/Arrays$ArrayList"), (68, u "$assertionsDisabled"), (269, u "MIN_ARRAY_SORT_GRAN"), (0, u "I"), (2, u "INSERTIONSORT_THRESHOLD"), (152, u "([JI)[J"), (102, .class_ 976), (0, u "java/util/Arrays$ArrayItr")] 52

def k4m0 : Method := { name := "<init>", desc := "()V", sig := { parameters := [], returnType := none }, accessFlags := 2, code := none }
def k4c1 : Code := { maxStack := 6, maxLocals := 3, code := jdk_65_method_124_code, exceptionTable := #[], attributes := #[] }
def k4m1 : Method := { name := "copyOf", desc := "([JI)[J", sig := { parameters := [(.array .long), .int], returnType := some (.array .long) }, accessFlags := 9, code := some k4c1 }
/-- java/util/Arrays -/
def k4 : Class := { plain "java/util/Arrays" (some 0) with
  accessFlags := 49
  interfaces := #[]
  cf := some (fileOf pool4 14 #[.nestMembers #[975, 375, 113, 74]] #[{ accessFlags := 2, nameIndex := 5, descriptorIndex := 6, attributes := #[] }, { accessFlags := 9, nameIndex := 302, descriptorIndex := 872, attributes := #[] }] 49 2 #[] #[{ accessFlags := 26, nameIndex := 715, descriptorIndex := 716, attributes := #[] }, { accessFlags := 26, nameIndex := 719, descriptorIndex := 716, attributes := #[] }, { accessFlags := 4120, nameIndex := 445, descriptorIndex := 117, attributes := #[] }])
  fields := #[{ name := "MIN_ARRAY_SORT_GRAN", type := .int, accessFlags := 26, slot := 0, constantValue := 0 }, { name := "INSERTIONSORT_THRESHOLD", type := .int, accessFlags := 26, slot := 1, constantValue := 0 }, { name := "$assertionsDisabled", type := .boolean, accessFlags := 4120, slot := 2, constantValue := 0 }]
  methods := #[k4m0, k4m1]
  instanceTypes := #[]
  staticTypes := #[.int, .int, .boolean]
  resolved := Array.replicate 1029 none
  statics := none }

def pool5 : Array CpInfo := pool [(2, .class_ 4), (1, u "java/lang/Object"), (0, u "<init>"), (0, u "()V"), (1, .class_ 10), (1, u "java/lang/System"), (0, u "allowSecurityManager"), (0, u "I"), (16, u "cons"), (0, u "Ljava/io/Console;"), (77, .class_ 110), (1, u "java/lang/System$CallersHolder"), (43, u "initialErrStream"), (0, u "Ljava/io/PrintStream;"), (19, u "security"), (0, u "Ljava/lang/SecurityManager;"), (31, .class_ 209), (0, u "java/lang/System$1"), (7, u "props"), (0, u "Ljava/util/Properties;"), (2, u "lineSeparator"), (0, u "Ljava/lang/String;"), (96, .class_ 321), (1, u "java/lang/System$LoggerFinder"), (5, .class_ 328), (0, u "java/lang/System$Logger"), (67, u "err"), (2, u "out"), (91, u "notSupportedJnuEncoding"), (15, u "in"), (17, u "initialIn"), (0, u "Ljava/io/InputStream;"), (35, u "bootLayer"), (0, u "Ljava/lang/ModuleLayer;"), (99, .class_ 664), (0, u "java/lang/System$2"), (9, u "NEVER"), (2, u "MAYBE"), (49, u "arraycopy"), (0, u "(Ljava/lang/Object;ILjava/lang/Object;II)V"), (72, .class_ 802), (0, u "java/lang/System$Logger$Level")] 31

def k5m0 : Method := { name := "<init>", desc := "()V", sig := { parameters := [], returnType := none }, accessFlags := 2, code := none }
def k5m1 : Method := { name := "arraycopy", desc := "(Ljava/lang/Object;ILjava/lang/Object;II)V", sig := { parameters := [(.object "java/lang/Object"), .int, (.object "java/lang/Object"), .int, .int], returnType := none }, accessFlags := 265, code := none }
/-- java/lang/System -/
def k5 : Class := { plain "java/lang/System" (some 0) with
  accessFlags := 49
  interfaces := #[]
  cf := some (fileOf pool5 8 #[.nestMembers #[319, 327, 801, 108, 663, 208]] #[{ accessFlags := 2, nameIndex := 5, descriptorIndex := 6, attributes := #[] }, { accessFlags := 265, nameIndex := 727, descriptorIndex := 728, attributes := #[] }] 49 2 #[] #[{ accessFlags := 25, nameIndex := 507, descriptorIndex := 526, attributes := #[] }, { accessFlags := 25, nameIndex := 399, descriptorIndex := 155, attributes := #[] }, { accessFlags := 25, nameIndex := 396, descriptorIndex := 155, attributes := #[] }, { accessFlags := 10, nameIndex := 525, descriptorIndex := 526, attributes := #[] }, { accessFlags := 26, nameIndex := 674, descriptorIndex := 12, attributes := #[] }, { accessFlags := 26, nameIndex := 677, descriptorIndex := 12, attributes := #[] }, { accessFlags := 10, nameIndex := 11, descriptorIndex := 12, attributes := #[] }, { accessFlags := 74, nameIndex := 175, descriptorIndex := 176, attributes := #[] }, { accessFlags := 10, nameIndex := 491, descriptorIndex := 222, attributes := #[] }, { accessFlags := 74, nameIndex := 29, descriptorIndex := 30, attributes := #[] }, { accessFlags := 74, nameIndex := 154, descriptorIndex := 155, attributes := #[] }, { accessFlags := 10, nameIndex := 217, descriptorIndex := 218, attributes := #[] }, { accessFlags := 10, nameIndex := 221, descriptorIndex := 222, attributes := #[] }, { accessFlags := 8, nameIndex := 562, descriptorIndex := 563, attributes := #[] }])
  fields := #[{ name := "in", type := (.object "java/io/InputStream"), accessFlags := 25, slot := 0, constantValue := 0 }, { name := "out", type := (.object "java/io/PrintStream"), accessFlags := 25, slot := 1, constantValue := 0 }, { name := "err", type := (.object "java/io/PrintStream"), accessFlags := 25, slot := 2, constantValue := 0 }, { name := "initialIn", type := (.object "java/io/InputStream"), accessFlags := 10, slot := 3, constantValue := 0 }, { name := "NEVER", type := .int, accessFlags := 26, slot := 4, constantValue := 0 }, { name := "MAYBE", type := .int, accessFlags := 26, slot := 5, constantValue := 0 }, { name := "allowSecurityManager", type := .int, accessFlags := 10, slot := 6, constantValue := 0 }, { name := "security", type := (.object "java/lang/SecurityManager"), accessFlags := 74, slot := 7, constantValue := 0 }, { name := "notSupportedJnuEncoding", type := (.object "java/lang/String"), accessFlags := 10, slot := 8, constantValue := 0 }, { name := "cons", type := (.object "java/io/Console"), accessFlags := 74, slot := 9, constantValue := 0 }, { name := "initialErrStream", type := (.object "java/io/PrintStream"), accessFlags := 74, slot := 10, constantValue := 0 }, { name := "props", type := (.object "java/util/Properties"), accessFlags := 10, slot := 11, constantValue := 0 }, { name := "lineSeparator", type := (.object "java/lang/String"), accessFlags := 10, slot := 12, constantValue := 0 }, { name := "bootLayer", type := (.object "java/lang/ModuleLayer"), accessFlags := 8, slot := 13, constantValue := 0 }]
  methods := #[k5m0, k5m1]
  instanceTypes := #[]
  staticTypes := #[(.object "java/io/InputStream"), (.object "java/io/PrintStream"), (.object "java/io/PrintStream"), (.object "java/io/InputStream"), .int, .int, .int, (.object "java/lang/SecurityManager"), (.object "java/lang/String"), (.object "java/io/Console"), (.object "java/io/PrintStream"), (.object "java/util/Properties"), (.object "java/lang/String"), (.object "java/lang/ModuleLayer")]
  resolved := Array.replicate 834 none
  statics := none }

def pool6 : Array CpInfo := pool [(1, u "java/lang/Cloneable"), (0, .class_ 1), (0, u "java/lang/Object"), (0, .class_ 3)] 3

/-- java/lang/Cloneable -/
def k6 : Class := { plain "java/lang/Cloneable" (some 0) with
  accessFlags := 1537
  interfaces := #[]
  cf := some (fileOf pool6 2 #[] #[] 1537 4 #[] #[])
  fields := #[]
  methods := #[]
  instanceTypes := #[]
  staticTypes := #[]
  resolved := Array.replicate 8 none
  statics := none }

def pool7 : Array CpInfo := pool [(1, u "java/io/Serializable"), (0, .class_ 1), (0, u "java/lang/Object"), (0, .class_ 3)] 3

/-- java/io/Serializable -/
def k7 : Class := { plain "java/io/Serializable" (some 0) with
  accessFlags := 1537
  interfaces := #[]
  cf := some (fileOf pool7 2 #[] #[] 1537 4 #[] #[])
  fields := #[]
  methods := #[]
  instanceTypes := #[]
  staticTypes := #[]
  resolved := Array.replicate 8 none
  statics := none }

/-- the primitive byte -/
def k8 : Class := { plain "byte" none with kind := .primitive 'B', accessFlags := 0x411 }
/-- [B -/
def k9 : Class := { plain "[B" (some 0) with kind := .array 8 .byte, interfaces := #[6, 7], accessFlags := 1041 }

/-- the primitive int -/
def k10 : Class := { plain "int" none with kind := .primitive 'I', accessFlags := 0x411 }
/-- [I -/
def k11 : Class := { plain "[I" (some 0) with kind := .array 10 .int, interfaces := #[6, 7], accessFlags := 1041 }

/-- the primitive long -/
def k12 : Class := { plain "long" none with kind := .primitive 'J', accessFlags := 0x411 }
/-- [J -/
def k13 : Class := { plain "[J" (some 0) with kind := .array 12 .long, interfaces := #[6, 7], accessFlags := 1041 }

def heap : Heap := #[]
def classes : Array Class := #[k0, k1, k2, k3, k4, k5, k6, k7, k8, k9, k10, k11, k12, k13]
def interned : List (Array UInt16 × Addr) := []
def slotsUsed : Nat := 0
def theMethod : MethodId := ⟨1, 2⟩
def args0 : Array Value := #[.int 5, .int 6, .int 7, .long 8, .long 9]
def aboutOver (below : List Frame) : State where
  vm := { classes := classes, interned := interned.toArray }
  heap := heap
  slotsUsed := slotsUsed
  threads := #[{ frames := .invoking theMethod args0 :: below }]
def below0 : List Frame := [.native { method := ⟨0, 0⟩, args := #[] }]
def about1 : State := aboutOver below0
def p0 : Program := .bare "" "" ""
def e0 : Env := launch0.env 0 0 0
theorem w_frames : about1.frames = Frame.invoking theMethod args0 :: below0 := rfl
set_option maxRecDepth 65536 in
theorem w_args : argsFit about1.vm theMethod args0 = true := by decide +kernel
set_option maxRecDepth 65536 in
theorem w_heap : heapFits about1 = true := by decide +kernel
set_option maxRecDepth 65536 in
theorem w_runnable : about1.curStatus? = some .runnable := by decide +kernel
set_option maxRecDepth 65536 in
theorem w_alone : about1.alone = true := by decide +kernel
set_option maxRecDepth 65536 in
theorem w_named : about1.methodNamed? x = some theMethod := by decide +kernel
set_option maxRecDepth 65536 in
theorem w_hears : about1.hears theMethod below0 = true := by decide +kernel
set_option maxRecDepth 65536 in
theorem w_ripe : about1.ripe theMethod args0 below0 = true := by decide +kernel
theorem w_running : about1.status = .running := rfl
set_option maxRecDepth 65536 in
theorem w_room : about1.hasRoom e0.platform room_1 = true :=
  launch0.hasRoom_least _ room_1 (by decide +kernel) (by decide +kernel) (by decide +kernel) (by decide +kernel) (by decide +kernel) (by decide +kernel)
theorem allAtoms_all (ts : List Jvm.Cond) (a : Array Jvm.Value) (st : Jvm.State) : (allAtoms ts).before a st = ts.all (fun c => c.before a st) := by
  induction ts with
  | nil => rfl
  | cons c t ih =>
    show (Jvm.Cond.and c (allAtoms t)).before a st = _
    rw [Jvm.Cond.before_and, ih, List.all_cons]
def words1 : List Jvm.Cond := Jvm.Cond.code x code maxLocals ret :: tables_1
/-- a 'code' word, met by the world's own term for the bytes: nothing is compared byte by byte -/
theorem code_word {y : MethodName} {bytes : ByteArray} {mx : Nat} {rt : Option FieldType} {a : Array Value} {s : State} {m : MethodId} {meth : Method} {c : Code} (h1 : s.methodNamed? y = some m) (h2 : s.vm.method? m = some meth) (h3 : meth.code = some c) (h4 : c.code = bytes)
    (h5 : (c.maxLocals == mx && c.exceptionTable.isEmpty && decide (c.maxStack ≤ mostOperands) && decide (meth.sig.returnType = rt) && !meth.locks && decide (parseMethodDescriptor y.desc = some meth.sig)) = true) : (Jvm.Cond.code y bytes mx rt).before a s = true := by
  simp only [Bool.and_eq_true, beq_iff_eq, Bool.not_eq_true', decide_eq_true_eq] at h5
  obtain ⟨⟨⟨⟨⟨g1, g2⟩, g3⟩, g4⟩, g5⟩, g6⟩ := h5
  simp [Cond.before, Cond.holds, Cond.value, h1, h2, h3, h4, g1, g2, g3, g4, g5, g6]
def isCode : Jvm.Cond → Bool
  | .code _ _ _ _ => true
  | _ => false
theorem all_split {L : List Jvm.Cond} {P : Jvm.Cond → Bool} (h1 : L.all (fun c => isCode c || P c) = true) (h2 : ∀ c ∈ L.filter isCode, P c = true) : L.all P = true := by
  refine List.all_eq_true.mpr fun c hc => ?_
  have h := List.all_eq_true.mp h1 c hc
  rcases Bool.eq_false_or_eq_true (isCode c) with hi | hi
  · exact h2 c (List.mem_filter.mpr ⟨hc, hi⟩)
  · simpa [hi] using h
set_option maxRecDepth 65536 in
theorem w_c0 : (Jvm.Cond.code x code maxLocals ret).before args0 about1 = true := code_word (m := ⟨1, 2⟩) (meth := k1m2) (c := k1c2) (by decide +kernel) rfl rfl rfl (by decide +kernel)
set_option maxRecDepth 65536 in
theorem w_c1 : (Jvm.Cond.code ({ cls := "com/example/pagecast/pagecast/push/Starts", name := "<init>", desc := "(I)V" } : Jvm.MethodName) prog_91_method_1_code (2 : Nat) (Option.none : Option Jvm.ClassFile.FieldType)).before args0 about1 = true := code_word (m := ⟨2, 0⟩) (meth := k2m0) (c := k2c0) (by decide +kernel) rfl rfl rfl (by decide +kernel)
set_option maxRecDepth 65536 in
theorem w_c2 : (Jvm.Cond.code ({ cls := "java/lang/Object", name := "<init>", desc := "()V" } : Jvm.MethodName) object_method_1_code (1 : Nat) (Option.none : Option Jvm.ClassFile.FieldType)).before args0 about1 = true := code_word (m := ⟨0, 0⟩) (meth := k0m0) (c := k0c0) (by decide +kernel) rfl rfl rfl (by decide +kernel)
set_option maxRecDepth 65536 in
theorem w_c3 : (Jvm.Cond.code ({ cls := "java/lang/Math", name := "min", desc := "(II)I" } : Jvm.MethodName) jdk_29_method_69_code (2 : Nat) (Option.some Jvm.ClassFile.FieldType.int)).before args0 about1 = true := code_word (m := ⟨3, 1⟩) (meth := k3m1) (c := k3c1) (by decide +kernel) rfl rfl rfl (by decide +kernel)
set_option maxRecDepth 65536 in
theorem w_c4 : (Jvm.Cond.code ({ cls := "com/example/pagecast/pagecast/push/StartsGetPinLaw", name := "v", desc := "(JJI)J" } : Jvm.MethodName) method_2_code (5 : Nat) (Option.some Jvm.ClassFile.FieldType.long)).before args0 about1 = true := code_word (m := ⟨1, 1⟩) (meth := k1m1) (c := k1c1) (by decide +kernel) rfl rfl rfl (by decide +kernel)
set_option maxRecDepth 65536 in
theorem w_c5 : (Jvm.Cond.code ({ cls := "com/example/pagecast/pagecast/push/Starts", name := "add", desc := "(J)V" } : Jvm.MethodName) prog_91_method_2_code (3 : Nat) (Option.none : Option Jvm.ClassFile.FieldType)).before args0 about1 = true := code_word (m := ⟨2, 1⟩) (meth := k2m1) (c := k2c1) (by decide +kernel) rfl rfl rfl (by decide +kernel)
set_option maxRecDepth 65536 in
theorem w_c6 : (Jvm.Cond.code ({ cls := "com/example/pagecast/pagecast/push/Starts", name := "get", desc := "(I)J" } : Jvm.MethodName) prog_91_method_4_code (2 : Nat) (Option.some Jvm.ClassFile.FieldType.long)).before args0 about1 = true := code_word (m := ⟨2, 2⟩) (meth := k2m2) (c := k2c2) (by decide +kernel) rfl rfl rfl (by decide +kernel)
set_option maxRecDepth 65536 in
theorem w_c7 : (Jvm.Cond.code ({ cls := "java/lang/Math", name := "min", desc := "(JJ)J" } : Jvm.MethodName) jdk_29_method_70_code (4 : Nat) (Option.some Jvm.ClassFile.FieldType.long)).before args0 about1 = true := code_word (m := ⟨3, 2⟩) (meth := k3m2) (c := k3c2) (by decide +kernel) rfl rfl rfl (by decide +kernel)
set_option maxRecDepth 65536 in
theorem w_c8 : (Jvm.Cond.code ({ cls := "java/util/Arrays", name := "copyOf", desc := "([JI)[J" } : Jvm.MethodName) jdk_65_method_124_code (3 : Nat) (Option.some (Jvm.ClassFile.FieldType.array Jvm.ClassFile.FieldType.long))).before args0 about1 = true := code_word (m := ⟨4, 1⟩) (meth := k4m1) (c := k4c1) (by decide +kernel) rfl rfl rfl (by decide +kernel)
def codes1 : List Jvm.Cond := [Jvm.Cond.code x code maxLocals ret, Jvm.Cond.code ({ cls := "com/example/pagecast/pagecast/push/Starts", name := "<init>", desc := "(I)V" } : Jvm.MethodName) prog_91_method_1_code (2 : Nat) (Option.none : Option Jvm.ClassFile.FieldType), Jvm.Cond.code ({ cls := "java/lang/Object", name := "<init>", desc := "()V" } : Jvm.MethodName) object_method_1_code (1 : Nat) (Option.none : Option Jvm.ClassFile.FieldType), Jvm.Cond.code ({ cls := "java/lang/Math", name := "min", desc := "(II)I" } : Jvm.MethodName) jdk_29_method_69_code (2 : Nat) (Option.some Jvm.ClassFile.FieldType.int), Jvm.Cond.code ({ cls := "com/example/pagecast/pagecast/push/StartsGetPinLaw", name := "v", desc := "(JJI)J" } : Jvm.MethodName) method_2_code (5 : Nat) (Option.some Jvm.ClassFile.FieldType.long), Jvm.Cond.code ({ cls := "com/example/pagecast/pagecast/push/Starts", name := "add", desc := "(J)V" } : Jvm.MethodName) prog_91_method_2_code (3 : Nat) (Option.none : Option Jvm.ClassFile.FieldType), Jvm.Cond.code ({ cls := "com/example/pagecast/pagecast/push/Starts", name := "get", desc := "(I)J" } : Jvm.MethodName) prog_91_method_4_code (2 : Nat) (Option.some Jvm.ClassFile.FieldType.long), Jvm.Cond.code ({ cls := "java/lang/Math", name := "min", desc := "(JJ)J" } : Jvm.MethodName) jdk_29_method_70_code (4 : Nat) (Option.some Jvm.ClassFile.FieldType.long), Jvm.Cond.code ({ cls := "java/util/Arrays", name := "copyOf", desc := "([JI)[J" } : Jvm.MethodName) jdk_65_method_124_code (3 : Nat) (Option.some (Jvm.ClassFile.FieldType.array Jvm.ClassFile.FieldType.long))]
set_option maxRecDepth 65536 in
theorem codes_eq : words1.filter isCode = codes1 := rfl
theorem w_codes : ∀ c ∈ words1.filter isCode, c.before args0 about1 = true := by
  rw [codes_eq]
  intro c hc
  simp only [codes1, List.mem_cons, List.not_mem_nil, or_false] at hc
  rcases hc with rfl | rfl | rfl | rfl | rfl | rfl | rfl | rfl | rfl
  · exact w_c0
  · exact w_c1
  · exact w_c2
  · exact w_c3
  · exact w_c4
  · exact w_c5
  · exact w_c6
  · exact w_c7
  · exact w_c8
set_option maxRecDepth 65536 in
theorem w_t1 : (words1.take 24).all (fun c => isCode c || c.before args0 about1) = true := by decide +kernel
set_option maxRecDepth 65536 in
theorem w_t2 : ((words1.drop 24).take 24).all (fun c => isCode c || c.before args0 about1) = true := by decide +kernel
set_option maxRecDepth 65536 in
theorem w_t3 : ((words1.drop 24).drop 24).all (fun c => isCode c || c.before args0 about1) = true := by decide +kernel
theorem w_tables : (allAtoms (Jvm.Cond.code x code maxLocals ret :: tables_1)).before args0 about1 = true := by
  rw [allAtoms_all]
  show words1.all (fun c => c.before args0 about1) = true
  refine all_split ?_ w_codes
  rw [← List.take_append_drop 24 words1, List.all_append, w_t1, ← List.take_append_drop 24 (words1.drop 24), List.all_append, w_t2, w_t3]
  rfl
set_option maxRecDepth 65536 in
theorem w_case : (Jvm.Cond.and given_1 narrow_1).before args0 about1 = true := by decide +kernel
theorem w_applies : (headSpec (Jvm.Cond.code x code maxLocals ret :: tables_1) room_1).applies x e0.platform about1 = true :=
  (Spec.applies_iff w_frames).mpr ⟨w_running, w_runnable, w_alone, w_named, w_hears, w_ripe, w_room, w_tables⟩
theorem atStart : AtStart classFile x code maxLocals ret World_1 tables_1 room_1 Calls_1 rest_1 Pre_1 launch0 p0 e0 about1 theMethod args0 below0 :=
  ⟨lists_1, trivial, launch0.admits_env _ _ _, launch0.least_env, fairChoices_fair.cas, fairChoices_fair.clock, w_frames, w_args, w_heap, w_applies, trivial, trivial, w_case⟩
end start1
theorem witness_1 : WitnessClaimed_1 := ⟨start1.p0, start1.e0, start1.about1, start1.theMethod, start1.args0, start1.below0, start1.atStart⟩
end Jvm.Pilot.@@N@@
