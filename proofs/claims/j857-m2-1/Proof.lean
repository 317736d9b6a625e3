import JvmDerived
import JvmDerived.Pilot.@@N@@Statement
import JvmDerived.Pilot.@@N@@Code
set_option linter.unusedVariables false
set_option linter.unusedSimpArgs false
@@BLOCK:NumsL.lean.txt@@
namespace Jvm.RoadKit
open Sem ClassFile Op Lib Jvm.Stand Jvm.Free Jvm.LawKit
section New
variable {p : Program} {l : Launch} {e : Env} {R : Room} {s : State} {m : MethodId} {args : Array Value} {below : List Frame} {meth : Method} {c : Code} {T : State} {locs : List Loc} {cells slots : Nat}
theorem retI (X : Stand p l e R s m args below meth c T locs cells slots) (hx : p.tables.exec = Jvm.exec) {pc : Nat} {Ls : Array Slot} {z : Int32} {rest : List Value} (hret : meth.sig.returnType = some .int) (hd : decode c.code pc = .ok (.ireturn, 1)) {fs : List Frame}
    (hl : ∀ (f : JFrame) (acts : List Action), f.method = m → f.locked = none → f.entered = [] → (doReturn e (T.setTop f) acts (some (.int z))).1 = T.setFrames fs) : Steps p.tables e below (T.setTop (mkF m pc Ls (.int z :: rest))) (T.setFrames fs) :=
  retOut X hx hret rfl (Or.inl ⟨rfl, Or.inl rfl, z, rfl⟩) hd hl
theorem retJ (X : Stand p l e R s m args below meth c T locs cells slots) (hx : p.tables.exec = Jvm.exec) {pc : Nat} {Ls : Array Slot} {z : Int64} {rest : List Value} (hret : meth.sig.returnType = some .long) (hd : decode c.code pc = .ok (.lreturn, 1)) {fs : List Frame}
    (hl : ∀ (f : JFrame) (acts : List Action), f.method = m → f.locked = none → f.entered = [] → (doReturn e (T.setTop f) acts (some (.long z))).1 = T.setFrames fs) : Steps p.tables e below (T.setTop (mkF m pc Ls (.long z :: rest))) (T.setFrames fs) :=
  retOut X hx hret rfl (Or.inr (Or.inl ⟨rfl, rfl, z, rfl⟩)) hd hl
theorem retA (X : Stand p l e R s m args below meth c T locs cells slots) (hx : p.tables.exec = Jvm.exec) {pc : Nat} {Ls : Array Slot} {w : Value} {t : FieldType} {rest : List Value} (hret : meth.sig.returnType = some t) (hn : narrow t w = w) (ht : t.isReference = true ∧ w.isRef = true) (hd : decode c.code pc = .ok (.areturn, 1)) {fs : List Frame}
    (hl : ∀ (f : JFrame) (acts : List Action), f.method = m → f.locked = none → f.entered = [] → (doReturn e (T.setTop f) acts (some w)).1 = T.setFrames fs) : Steps p.tables e below (T.setTop (mkF m pc Ls (w :: rest))) (T.setFrames fs) :=
  retOut X hx hret hn (Or.inr (Or.inr (Or.inr (Or.inr ⟨rfl, ht.1, ht.2⟩)))) hd hl
def Go (p : Program) (e : Env) (below : List Frame) (T : State) (f : JFrame) (Post : Outcome → State → Prop) : Prop :=
  ∃ s₂ o, Steps p.tables e below (T.setTop f) s₂ ∧ s₂.status = .running ∧ Ended s₂ below o ∧ Post o s₂
theorem Go.by {T T' : State} {f f' : JFrame} {Post : Outcome → State → Prop} (st : ∀ t, Steps p.tables e below (T'.setTop f') t → Steps p.tables e below (T.setTop f) t) (k : Go p e below T' f' Post) : Go p e below T f Post := by
  obtain ⟨s2, o, a, b⟩ := k
  exact ⟨s2, o, st _ a, b⟩
theorem Go.start {T : State} {f g : JFrame} {Post : Outcome → State → Prop} (q : f = g) (k : Go p e below T g Post) : ∃ s₂ o, Steps p.tables e below (T.setTop f) s₂ ∧ s₂.status = .running ∧ Ended s₂ below o ∧ Post o s₂ := by
  subst q; exact k
theorem Go.done {T s₂ : State} {f : JFrame} {o : Outcome} {Post : Outcome → State → Prop} (a : Steps p.tables e below (T.setTop f) s₂) (b : s₂.status = .running) (c : Ended s₂ below o) (d : Post o s₂) : Go p e below T f Post := ⟨s₂, o, a, b, c, d⟩
def own_ushr (x y : Int32) : Int32 := (x.toUInt32 >>> (y &&& 31).toUInt32).toInt32
def own_ushrL (x : Int64) (y : Int32) : Int64 := (x.toUInt64 >>> (y &&& 63).toInt64.toUInt64).toInt64
theorem own_cmpV (x y : Int64) : lcmpW x y = lcmpV x y := lcW x y
theorem own_holdsLt (z : Int32) : ifCond.holds .lt z = decide (z < 0) := rfl
theorem own_holdsGe (z : Int32) : ifCond.holds .ge z = decide (z ≥ 0) := rfl
theorem own_holdsGt (z : Int32) : ifCond.holds .gt z = decide (z > 0) := rfl
theorem own_holdsLe (z : Int32) : ifCond.holds .le z = decide (z ≤ 0) := rfl
theorem own_holdsEq (z : Int32) : ifCond.holds .eq z = (z == 0) := rfl
theorem own_holdsNe (z : Int32) : ifCond.holds .ne z = (z != 0) := rfl
theorem ctlt {x y : Int64} (h : x < y) : ifCond.holds .lt (lcmpW x y) = true ∧ ifCond.holds .ge (lcmpW x y) = false ∧ ifCond.holds .gt (lcmpW y x) = true ∧ ifCond.holds .le (lcmpW y x) = false := by
  rw [own_holdsLt, own_holdsGe, own_holdsGt, own_holdsLe, own_cmpV, own_cmpV]
  refine ⟨decide_eq_true ((lc_lt x y).mpr h), decide_eq_false fun q => ?_, decide_eq_true ((lc_gt y x).mpr h), decide_eq_false fun q => ?_⟩
  · exact Int64.not_le.mpr h ((lc_ge x y).mp q)
  · exact Int64.not_le.mpr h ((lc_le y x).mp q)
theorem cflt {x y : Int64} (h : ¬ x < y) : ifCond.holds .lt (lcmpW x y) = false ∧ ifCond.holds .ge (lcmpW x y) = true ∧ ifCond.holds .gt (lcmpW y x) = false ∧ ifCond.holds .le (lcmpW y x) = true := by
  rw [own_holdsLt, own_holdsGe, own_holdsGt, own_holdsLe, own_cmpV, own_cmpV]
  exact ⟨decide_eq_false fun q => h ((lc_lt x y).mp q), decide_eq_true ((lc_ge x y).mpr (Int64.not_lt.mp h)), decide_eq_false fun q => h ((lc_gt y x).mp q), decide_eq_true ((lc_le y x).mpr (Int64.not_lt.mp h))⟩
theorem cteq {x y : Int64} (h : x = y) : ifCond.holds .eq (lcmpW x y) = true ∧ ifCond.holds .ne (lcmpW x y) = false := by
  rw [own_holdsEq, own_holdsNe, own_cmpV, (lc_eq x y).mpr h]; exact ⟨rfl, rfl⟩
theorem cfeq {x y : Int64} (h : ¬ x = y) : ifCond.holds .eq (lcmpW x y) = false ∧ ifCond.holds .ne (lcmpW x y) = true := by
  have q : ¬ lcmpV x y = 0 := fun r => h ((lc_eq x y).mp r)
  rw [own_holdsEq, own_holdsNe, own_cmpV]
  exact ⟨beq_false_of_ne q, bne_iff_ne.mpr q⟩
theorem Arr.keep {Z : State} {h h' : Heap} {a : Addr} {cl : Cell} {ty : FieldType} {ws : List Addr} (F : Arr Z h a cl ty) (K : Keep h h' ws) (q : a ∉ ws) : Arr Z h' a cl ty := ⟨K.2.1 a cl F.1 q, F.2⟩
theorem own_selPriv {y : MethodName} {s : State} {args : Array Value} {n : Nat} (hy : y.cls ≠ "java/lang/invoke/MethodHandle" ∧ y.cls ≠ "java/lang/invoke/VarHandle") (hins : (Cond.instantiable y.cls n).before args s = true) (hpriv : (Cond.privateMethod y).before args s = true) (hinst : (Cond.instanceMethod y).before args s = true) :
    (Cond.selects y.cls y y).before args s = true := by
  obtain ⟨c, k, hc, hk, -, hniab, -, -⟩ := Cond.instantiable_spec hins
  have hni : k.isInterface = false := (Bool.or_eq_false_iff.mp hniab).1
  obtain ⟨mk, methM, hnamed, hmethM, -, -⟩ := Cond.instanceMethod_spec hinst
  have hfound : s.methodFound? y.cls y.name y.desc = some mk := State.methodFound?_of_named hnamed hy
  have hcls : mk.cls = c := Option.some.inj ((findClass_of_methodNamed hnamed).symm.trans hc)
  have hsel : selectMethod {} s.vm c mk = .method mk := selectMethod_private hmethM (Cond.privateMethod_at hpriv mk methM hnamed hmethM)
  simp only [Cond.before, Cond.holds, Cond.value, hc, hfound, hnamed, hsel, hcls, hk]
  simp; exact hni
end New
end Jvm.RoadKit
namespace Jvm.Pilot.@@N@@
open Jvm Jvm.ClassFile Sem Op Lib Jvm.Free Jvm.Stand Jvm.LawKit Jvm.RoadKit Bundle Jvm.Pilot.@@N@@.Jvm.D
def f1 (q1 : Int64) : Int64 :=
  ((((((q1 + (-7046029254386353131 : Int64)) ^^^ (own_ushrL (q1 + (-7046029254386353131 : Int64)) (33 : Int32))) * (-49064778989728563 : Int64)) ^^^ (own_ushrL (((q1 + (-7046029254386353131 : Int64)) ^^^ (own_ushrL (q1 + (-7046029254386353131 : Int64)) (33 : Int32))) * (-49064778989728563 : Int64)) (33 : Int32))) * (-4265267296055464877 : Int64)) ^^^ (own_ushrL (((((q1 + (-7046029254386353131 : Int64)) ^^^ (own_ushrL (q1 + (-7046029254386353131 : Int64)) (33 : Int32))) * (-49064778989728563 : Int64)) ^^^ (own_ushrL (((q1 + (-7046029254386353131 : Int64)) ^^^ (own_ushrL (q1 + (-7046029254386353131 : Int64)) (33 : Int32))) * (-49064778989728563 : Int64)) (33 : Int32))) * (-4265267296055464877 : Int64)) (33 : Int32)))
theorem d1_0 : decode prog_25_method_1_code 0 = .ok (.lload_n 0, 1) := by decide +kernel
theorem d1_1 : decode prog_25_method_1_code 1 = .ok (.ldc2_w 1, 3) := by decide +kernel
theorem d1_4 : decode prog_25_method_1_code 4 = .ok (.ladd, 1) := by decide +kernel
theorem d1_5 : decode prog_25_method_1_code 5 = .ok (.lstore_n 2, 1) := by decide +kernel
theorem d1_6 : decode prog_25_method_1_code 6 = .ok (.lload_n 2, 1) := by decide +kernel
theorem d1_7 : decode prog_25_method_1_code 7 = .ok (.lload_n 2, 1) := by decide +kernel
theorem d1_8 : decode prog_25_method_1_code 8 = .ok (.bipush 33, 2) := by decide +kernel
theorem d1_10 : decode prog_25_method_1_code 10 = .ok (.lushr, 1) := by decide +kernel
theorem d1_11 : decode prog_25_method_1_code 11 = .ok (.lxor, 1) := by decide +kernel
theorem d1_12 : decode prog_25_method_1_code 12 = .ok (.ldc2_w 3, 3) := by decide +kernel
theorem d1_15 : decode prog_25_method_1_code 15 = .ok (.lmul, 1) := by decide +kernel
theorem d1_16 : decode prog_25_method_1_code 16 = .ok (.lstore 4, 2) := by decide +kernel
theorem d1_18 : decode prog_25_method_1_code 18 = .ok (.lload 4, 2) := by decide +kernel
theorem d1_20 : decode prog_25_method_1_code 20 = .ok (.lload 4, 2) := by decide +kernel
theorem d1_22 : decode prog_25_method_1_code 22 = .ok (.bipush 33, 2) := by decide +kernel
theorem d1_24 : decode prog_25_method_1_code 24 = .ok (.lushr, 1) := by decide +kernel
theorem d1_25 : decode prog_25_method_1_code 25 = .ok (.lxor, 1) := by decide +kernel
theorem d1_26 : decode prog_25_method_1_code 26 = .ok (.ldc2_w 5, 3) := by decide +kernel
theorem d1_29 : decode prog_25_method_1_code 29 = .ok (.lmul, 1) := by decide +kernel
theorem d1_30 : decode prog_25_method_1_code 30 = .ok (.lstore 4, 2) := by decide +kernel
theorem d1_32 : decode prog_25_method_1_code 32 = .ok (.lload 4, 2) := by decide +kernel
theorem d1_34 : decode prog_25_method_1_code 34 = .ok (.lload 4, 2) := by decide +kernel
theorem d1_36 : decode prog_25_method_1_code 36 = .ok (.bipush 33, 2) := by decide +kernel
theorem d1_38 : decode prog_25_method_1_code 38 = .ok (.lushr, 1) := by decide +kernel
theorem d1_39 : decode prog_25_method_1_code 39 = .ok (.lxor, 1) := by decide +kernel
theorem d1_40 : decode prog_25_method_1_code 40 = .ok (.lreturn, 1) := by decide +kernel
theorem pn_0 : plainName "com/example/omega_automata_convert/omegaautomataconvert/Combinations" = true := by first | (simp [plainName, overriddenIn]; done) | decide +kernel
theorem ef_1 (m : MethodId) (x0 : Int64) : entryFrame m #[(.long x0)] 6 = mkF m 0 #[.val (.long x0), .second, .unset, .unset, .unset, .unset] [] := by first | (simp [entryFrame, mkF, argsToLocals, Value.category]; done) | rfl
def Q1 (Z : State) (q1 : Int64) (h0 : Heap) (n0 : Nat) (v : Option Value) (h : Heap) (L : List Loc) : Prop := v = some (.long (f1 q1)) ∧ Fr n0 L ∧ h = h0
set_option maxRecDepth 65536 in
set_option maxHeartbeats 40000000 in
theorem rm1 (l : Launch) (Z : State) (a0 : Array Value) (hw : ∀ d ∈ tables_1, d.before a0 Z = true) (ws : List Jvm.Cond) (q1 : Int64) (h0 : Heap) (n0 : Nat) (Z0 : n0 ≤ h0.size) :
    MetFree l (⟨"com/example/omega_automata_convert/omegaautomataconvert/Combinations", "mix", "(J)J"⟩ : MethodName) (head1 (Jvm.Cond.code (⟨"com/example/omega_automata_convert/omegaautomataconvert/Combinations", "mix", "(J)J"⟩ : MethodName) prog_25_method_1_code 6 (some .long) :: ws) ({ frames := 0, cells := 0, slots := 0, locals := 0 } : Room)) (fun a U => a = #[(.long q1)] ∧ Z.Warmed39 U.vm ∧ U.heap = h0) (fun _ _ _ _ _ => True) (fun _ U o U' => ∃ v L, o = .returned v ∧ Q1 Z q1 h0 n0 v U'.heap L ∧ FrameEnd U o U' L ({ frames := 0, cells := 0, slots := 0, locals := 0 } : Room).cells ({ frames := 0, cells := 0, slots := 0, locals := 0 } : Room).slots) := by
  refine MetFree.of_bodySF (plainFor_of_name pn_0) hisR ?_
  intro p e s m args below meth c s₁ Bd hml0 hP hK
  obtain ⟨rfl, hZ, hh⟩ := hP
  have hx := Bd.exec
  have hby := Bd.bytes
  have hml : c.maxLocals = 6 := hml0
  have hown : s.vm.findClass "com/example/omega_automata_convert/omegaautomataconvert/Combinations" = some m.cls := findClass_of_methodNamed Bd.named
  have hnm := (name_of_methodNamed Bd.named Bd.method).1
  have X0 : Stand p l e ({ frames := 0, cells := 0, slots := 0, locals := 0 } : Room) s m #[(.long q1)] below meth c s₁ [] 0 0 := Stand.of_body Bd
  have e0 : s₁.heap = h0 := by rw [← hh, Bd.state]; rfl
  have N0 := Fr.nil n0
  refine Go.start (ef_1 m q1) ?_
  show Go p e below s₁ (mkF m 0 #[.val (.long q1), .second, .unset, .unset, .unset, .unset] []) _
  refine Go.by (fun t k => XS.lloadN X0.here hx rfl (hb hby d1_0) rfl k) ?_
  show Go p e below s₁ (mkF m 1 #[.val (.long q1), .second, .unset, .unset, .unset, .unset] [(.long q1)]) _
  refine Go.by (fun t k => X0.ldc2Long hx hown (mvT hZ (hw _ (List.mem_of_getElem? (i := 4) rfl))) (g := (mkF m 1 #[.val (.long q1), .second, .unset, .unset, .unset, .unset] [(.long q1)])) rfl (hb hby d1_1) t k) ?_
  show Go p e below s₁ (mkF m 4 #[.val (.long q1), .second, .unset, .unset, .unset, .unset] [(.long (-7046029254386353131 : Int64)), (.long q1)]) _
  refine Go.by (fun t k => XS.ladd X0.here hx rfl (hb hby d1_4) rfl k) ?_
  show Go p e below s₁ (mkF m 5 #[.val (.long q1), .second, .unset, .unset, .unset, .unset] [(.long (q1 + (-7046029254386353131 : Int64)))]) _
  refine Go.by (fun t k => XS.lstoreN X0.here hx rfl (hb hby d1_5) rfl (l' := #[.val (.long q1), .second, .val (.long (q1 + (-7046029254386353131 : Int64))), .second, .unset, .unset]) rfl k) ?_
  show Go p e below s₁ (mkF m 6 #[.val (.long q1), .second, .val (.long (q1 + (-7046029254386353131 : Int64))), .second, .unset, .unset] []) _
  refine Go.by (fun t k => XS.lloadN X0.here hx rfl (hb hby d1_6) rfl k) ?_
  show Go p e below s₁ (mkF m 7 #[.val (.long q1), .second, .val (.long (q1 + (-7046029254386353131 : Int64))), .second, .unset, .unset] [(.long (q1 + (-7046029254386353131 : Int64)))]) _
  refine Go.by (fun t k => XS.lloadN X0.here hx rfl (hb hby d1_7) rfl k) ?_
  show Go p e below s₁ (mkF m 8 #[.val (.long q1), .second, .val (.long (q1 + (-7046029254386353131 : Int64))), .second, .unset, .unset] [(.long (q1 + (-7046029254386353131 : Int64))), (.long (q1 + (-7046029254386353131 : Int64)))]) _
  refine Go.by (fun t k => XS.bipush X0.here hx rfl (hb hby d1_8) k) ?_
  show Go p e below s₁ (mkF m 10 #[.val (.long q1), .second, .val (.long (q1 + (-7046029254386353131 : Int64))), .second, .unset, .unset] [(.int (33 : Int32)), (.long (q1 + (-7046029254386353131 : Int64))), (.long (q1 + (-7046029254386353131 : Int64)))]) _
  refine Go.by (fun t k => XS.lushr X0.here hx rfl (hb hby d1_10) rfl k) ?_
  show Go p e below s₁ (mkF m 11 #[.val (.long q1), .second, .val (.long (q1 + (-7046029254386353131 : Int64))), .second, .unset, .unset] [(.long (own_ushrL (q1 + (-7046029254386353131 : Int64)) (33 : Int32))), (.long (q1 + (-7046029254386353131 : Int64)))]) _
  refine Go.by (fun t k => XS.lxor X0.here hx rfl (hb hby d1_11) rfl k) ?_
  show Go p e below s₁ (mkF m 12 #[.val (.long q1), .second, .val (.long (q1 + (-7046029254386353131 : Int64))), .second, .unset, .unset] [(.long ((q1 + (-7046029254386353131 : Int64)) ^^^ (own_ushrL (q1 + (-7046029254386353131 : Int64)) (33 : Int32))))]) _
  refine Go.by (fun t k => X0.ldc2Long hx hown (mvT hZ (hw _ (List.mem_of_getElem? (i := 5) rfl))) (g := (mkF m 12 #[.val (.long q1), .second, .val (.long (q1 + (-7046029254386353131 : Int64))), .second, .unset, .unset] [(.long ((q1 + (-7046029254386353131 : Int64)) ^^^ (own_ushrL (q1 + (-7046029254386353131 : Int64)) (33 : Int32))))])) rfl (hb hby d1_12) t k) ?_
  show Go p e below s₁ (mkF m 15 #[.val (.long q1), .second, .val (.long (q1 + (-7046029254386353131 : Int64))), .second, .unset, .unset] [(.long (-49064778989728563 : Int64)), (.long ((q1 + (-7046029254386353131 : Int64)) ^^^ (own_ushrL (q1 + (-7046029254386353131 : Int64)) (33 : Int32))))]) _
  refine Go.by (fun t k => XS.lmul X0.here hx rfl (hb hby d1_15) rfl k) ?_
  show Go p e below s₁ (mkF m 16 #[.val (.long q1), .second, .val (.long (q1 + (-7046029254386353131 : Int64))), .second, .unset, .unset] [(.long (((q1 + (-7046029254386353131 : Int64)) ^^^ (own_ushrL (q1 + (-7046029254386353131 : Int64)) (33 : Int32))) * (-49064778989728563 : Int64)))]) _
  refine Go.by (fun t k => XS.lstore X0.here hx rfl (hb hby d1_16) rfl (l' := #[.val (.long q1), .second, .val (.long (q1 + (-7046029254386353131 : Int64))), .second, .val (.long (((q1 + (-7046029254386353131 : Int64)) ^^^ (own_ushrL (q1 + (-7046029254386353131 : Int64)) (33 : Int32))) * (-49064778989728563 : Int64))), .second]) rfl k) ?_
  show Go p e below s₁ (mkF m 18 #[.val (.long q1), .second, .val (.long (q1 + (-7046029254386353131 : Int64))), .second, .val (.long (((q1 + (-7046029254386353131 : Int64)) ^^^ (own_ushrL (q1 + (-7046029254386353131 : Int64)) (33 : Int32))) * (-49064778989728563 : Int64))), .second] []) _
  refine Go.by (fun t k => XS.lload X0.here hx rfl (hb hby d1_18) rfl k) ?_
  show Go p e below s₁ (mkF m 20 #[.val (.long q1), .second, .val (.long (q1 + (-7046029254386353131 : Int64))), .second, .val (.long (((q1 + (-7046029254386353131 : Int64)) ^^^ (own_ushrL (q1 + (-7046029254386353131 : Int64)) (33 : Int32))) * (-49064778989728563 : Int64))), .second] [(.long (((q1 + (-7046029254386353131 : Int64)) ^^^ (own_ushrL (q1 + (-7046029254386353131 : Int64)) (33 : Int32))) * (-49064778989728563 : Int64)))]) _
  refine Go.by (fun t k => XS.lload X0.here hx rfl (hb hby d1_20) rfl k) ?_
  show Go p e below s₁ (mkF m 22 #[.val (.long q1), .second, .val (.long (q1 + (-7046029254386353131 : Int64))), .second, .val (.long (((q1 + (-7046029254386353131 : Int64)) ^^^ (own_ushrL (q1 + (-7046029254386353131 : Int64)) (33 : Int32))) * (-49064778989728563 : Int64))), .second] [(.long (((q1 + (-7046029254386353131 : Int64)) ^^^ (own_ushrL (q1 + (-7046029254386353131 : Int64)) (33 : Int32))) * (-49064778989728563 : Int64))), (.long (((q1 + (-7046029254386353131 : Int64)) ^^^ (own_ushrL (q1 + (-7046029254386353131 : Int64)) (33 : Int32))) * (-49064778989728563 : Int64)))]) _
  refine Go.by (fun t k => XS.bipush X0.here hx rfl (hb hby d1_22) k) ?_
  show Go p e below s₁ (mkF m 24 #[.val (.long q1), .second, .val (.long (q1 + (-7046029254386353131 : Int64))), .second, .val (.long (((q1 + (-7046029254386353131 : Int64)) ^^^ (own_ushrL (q1 + (-7046029254386353131 : Int64)) (33 : Int32))) * (-49064778989728563 : Int64))), .second] [(.int (33 : Int32)), (.long (((q1 + (-7046029254386353131 : Int64)) ^^^ (own_ushrL (q1 + (-7046029254386353131 : Int64)) (33 : Int32))) * (-49064778989728563 : Int64))), (.long (((q1 + (-7046029254386353131 : Int64)) ^^^ (own_ushrL (q1 + (-7046029254386353131 : Int64)) (33 : Int32))) * (-49064778989728563 : Int64)))]) _
  refine Go.by (fun t k => XS.lushr X0.here hx rfl (hb hby d1_24) rfl k) ?_
  show Go p e below s₁ (mkF m 25 #[.val (.long q1), .second, .val (.long (q1 + (-7046029254386353131 : Int64))), .second, .val (.long (((q1 + (-7046029254386353131 : Int64)) ^^^ (own_ushrL (q1 + (-7046029254386353131 : Int64)) (33 : Int32))) * (-49064778989728563 : Int64))), .second] [(.long (own_ushrL (((q1 + (-7046029254386353131 : Int64)) ^^^ (own_ushrL (q1 + (-7046029254386353131 : Int64)) (33 : Int32))) * (-49064778989728563 : Int64)) (33 : Int32))), (.long (((q1 + (-7046029254386353131 : Int64)) ^^^ (own_ushrL (q1 + (-7046029254386353131 : Int64)) (33 : Int32))) * (-49064778989728563 : Int64)))]) _
  refine Go.by (fun t k => XS.lxor X0.here hx rfl (hb hby d1_25) rfl k) ?_
  show Go p e below s₁ (mkF m 26 #[.val (.long q1), .second, .val (.long (q1 + (-7046029254386353131 : Int64))), .second, .val (.long (((q1 + (-7046029254386353131 : Int64)) ^^^ (own_ushrL (q1 + (-7046029254386353131 : Int64)) (33 : Int32))) * (-49064778989728563 : Int64))), .second] [(.long ((((q1 + (-7046029254386353131 : Int64)) ^^^ (own_ushrL (q1 + (-7046029254386353131 : Int64)) (33 : Int32))) * (-49064778989728563 : Int64)) ^^^ (own_ushrL (((q1 + (-7046029254386353131 : Int64)) ^^^ (own_ushrL (q1 + (-7046029254386353131 : Int64)) (33 : Int32))) * (-49064778989728563 : Int64)) (33 : Int32))))]) _
  refine Go.by (fun t k => X0.ldc2Long hx hown (mvT hZ (hw _ (List.mem_of_getElem? (i := 6) rfl))) (g := (mkF m 26 #[.val (.long q1), .second, .val (.long (q1 + (-7046029254386353131 : Int64))), .second, .val (.long (((q1 + (-7046029254386353131 : Int64)) ^^^ (own_ushrL (q1 + (-7046029254386353131 : Int64)) (33 : Int32))) * (-49064778989728563 : Int64))), .second] [(.long ((((q1 + (-7046029254386353131 : Int64)) ^^^ (own_ushrL (q1 + (-7046029254386353131 : Int64)) (33 : Int32))) * (-49064778989728563 : Int64)) ^^^ (own_ushrL (((q1 + (-7046029254386353131 : Int64)) ^^^ (own_ushrL (q1 + (-7046029254386353131 : Int64)) (33 : Int32))) * (-49064778989728563 : Int64)) (33 : Int32))))])) rfl (hb hby d1_26) t k) ?_
  show Go p e below s₁ (mkF m 29 #[.val (.long q1), .second, .val (.long (q1 + (-7046029254386353131 : Int64))), .second, .val (.long (((q1 + (-7046029254386353131 : Int64)) ^^^ (own_ushrL (q1 + (-7046029254386353131 : Int64)) (33 : Int32))) * (-49064778989728563 : Int64))), .second] [(.long (-4265267296055464877 : Int64)), (.long ((((q1 + (-7046029254386353131 : Int64)) ^^^ (own_ushrL (q1 + (-7046029254386353131 : Int64)) (33 : Int32))) * (-49064778989728563 : Int64)) ^^^ (own_ushrL (((q1 + (-7046029254386353131 : Int64)) ^^^ (own_ushrL (q1 + (-7046029254386353131 : Int64)) (33 : Int32))) * (-49064778989728563 : Int64)) (33 : Int32))))]) _
  refine Go.by (fun t k => XS.lmul X0.here hx rfl (hb hby d1_29) rfl k) ?_
  show Go p e below s₁ (mkF m 30 #[.val (.long q1), .second, .val (.long (q1 + (-7046029254386353131 : Int64))), .second, .val (.long (((q1 + (-7046029254386353131 : Int64)) ^^^ (own_ushrL (q1 + (-7046029254386353131 : Int64)) (33 : Int32))) * (-49064778989728563 : Int64))), .second] [(.long (((((q1 + (-7046029254386353131 : Int64)) ^^^ (own_ushrL (q1 + (-7046029254386353131 : Int64)) (33 : Int32))) * (-49064778989728563 : Int64)) ^^^ (own_ushrL (((q1 + (-7046029254386353131 : Int64)) ^^^ (own_ushrL (q1 + (-7046029254386353131 : Int64)) (33 : Int32))) * (-49064778989728563 : Int64)) (33 : Int32))) * (-4265267296055464877 : Int64)))]) _
  refine Go.by (fun t k => XS.lstore X0.here hx rfl (hb hby d1_30) rfl (l' := #[.val (.long q1), .second, .val (.long (q1 + (-7046029254386353131 : Int64))), .second, .val (.long (((((q1 + (-7046029254386353131 : Int64)) ^^^ (own_ushrL (q1 + (-7046029254386353131 : Int64)) (33 : Int32))) * (-49064778989728563 : Int64)) ^^^ (own_ushrL (((q1 + (-7046029254386353131 : Int64)) ^^^ (own_ushrL (q1 + (-7046029254386353131 : Int64)) (33 : Int32))) * (-49064778989728563 : Int64)) (33 : Int32))) * (-4265267296055464877 : Int64))), .second]) rfl k) ?_
  show Go p e below s₁ (mkF m 32 #[.val (.long q1), .second, .val (.long (q1 + (-7046029254386353131 : Int64))), .second, .val (.long (((((q1 + (-7046029254386353131 : Int64)) ^^^ (own_ushrL (q1 + (-7046029254386353131 : Int64)) (33 : Int32))) * (-49064778989728563 : Int64)) ^^^ (own_ushrL (((q1 + (-7046029254386353131 : Int64)) ^^^ (own_ushrL (q1 + (-7046029254386353131 : Int64)) (33 : Int32))) * (-49064778989728563 : Int64)) (33 : Int32))) * (-4265267296055464877 : Int64))), .second] []) _
  refine Go.by (fun t k => XS.lload X0.here hx rfl (hb hby d1_32) rfl k) ?_
  show Go p e below s₁ (mkF m 34 #[.val (.long q1), .second, .val (.long (q1 + (-7046029254386353131 : Int64))), .second, .val (.long (((((q1 + (-7046029254386353131 : Int64)) ^^^ (own_ushrL (q1 + (-7046029254386353131 : Int64)) (33 : Int32))) * (-49064778989728563 : Int64)) ^^^ (own_ushrL (((q1 + (-7046029254386353131 : Int64)) ^^^ (own_ushrL (q1 + (-7046029254386353131 : Int64)) (33 : Int32))) * (-49064778989728563 : Int64)) (33 : Int32))) * (-4265267296055464877 : Int64))), .second] [(.long (((((q1 + (-7046029254386353131 : Int64)) ^^^ (own_ushrL (q1 + (-7046029254386353131 : Int64)) (33 : Int32))) * (-49064778989728563 : Int64)) ^^^ (own_ushrL (((q1 + (-7046029254386353131 : Int64)) ^^^ (own_ushrL (q1 + (-7046029254386353131 : Int64)) (33 : Int32))) * (-49064778989728563 : Int64)) (33 : Int32))) * (-4265267296055464877 : Int64)))]) _
  refine Go.by (fun t k => XS.lload X0.here hx rfl (hb hby d1_34) rfl k) ?_
  show Go p e below s₁ (mkF m 36 #[.val (.long q1), .second, .val (.long (q1 + (-7046029254386353131 : Int64))), .second, .val (.long (((((q1 + (-7046029254386353131 : Int64)) ^^^ (own_ushrL (q1 + (-7046029254386353131 : Int64)) (33 : Int32))) * (-49064778989728563 : Int64)) ^^^ (own_ushrL (((q1 + (-7046029254386353131 : Int64)) ^^^ (own_ushrL (q1 + (-7046029254386353131 : Int64)) (33 : Int32))) * (-49064778989728563 : Int64)) (33 : Int32))) * (-4265267296055464877 : Int64))), .second] [(.long (((((q1 + (-7046029254386353131 : Int64)) ^^^ (own_ushrL (q1 + (-7046029254386353131 : Int64)) (33 : Int32))) * (-49064778989728563 : Int64)) ^^^ (own_ushrL (((q1 + (-7046029254386353131 : Int64)) ^^^ (own_ushrL (q1 + (-7046029254386353131 : Int64)) (33 : Int32))) * (-49064778989728563 : Int64)) (33 : Int32))) * (-4265267296055464877 : Int64))), (.long (((((q1 + (-7046029254386353131 : Int64)) ^^^ (own_ushrL (q1 + (-7046029254386353131 : Int64)) (33 : Int32))) * (-49064778989728563 : Int64)) ^^^ (own_ushrL (((q1 + (-7046029254386353131 : Int64)) ^^^ (own_ushrL (q1 + (-7046029254386353131 : Int64)) (33 : Int32))) * (-49064778989728563 : Int64)) (33 : Int32))) * (-4265267296055464877 : Int64)))]) _
  refine Go.by (fun t k => XS.bipush X0.here hx rfl (hb hby d1_36) k) ?_
  show Go p e below s₁ (mkF m 38 #[.val (.long q1), .second, .val (.long (q1 + (-7046029254386353131 : Int64))), .second, .val (.long (((((q1 + (-7046029254386353131 : Int64)) ^^^ (own_ushrL (q1 + (-7046029254386353131 : Int64)) (33 : Int32))) * (-49064778989728563 : Int64)) ^^^ (own_ushrL (((q1 + (-7046029254386353131 : Int64)) ^^^ (own_ushrL (q1 + (-7046029254386353131 : Int64)) (33 : Int32))) * (-49064778989728563 : Int64)) (33 : Int32))) * (-4265267296055464877 : Int64))), .second] [(.int (33 : Int32)), (.long (((((q1 + (-7046029254386353131 : Int64)) ^^^ (own_ushrL (q1 + (-7046029254386353131 : Int64)) (33 : Int32))) * (-49064778989728563 : Int64)) ^^^ (own_ushrL (((q1 + (-7046029254386353131 : Int64)) ^^^ (own_ushrL (q1 + (-7046029254386353131 : Int64)) (33 : Int32))) * (-49064778989728563 : Int64)) (33 : Int32))) * (-4265267296055464877 : Int64))), (.long (((((q1 + (-7046029254386353131 : Int64)) ^^^ (own_ushrL (q1 + (-7046029254386353131 : Int64)) (33 : Int32))) * (-49064778989728563 : Int64)) ^^^ (own_ushrL (((q1 + (-7046029254386353131 : Int64)) ^^^ (own_ushrL (q1 + (-7046029254386353131 : Int64)) (33 : Int32))) * (-49064778989728563 : Int64)) (33 : Int32))) * (-4265267296055464877 : Int64)))]) _
  refine Go.by (fun t k => XS.lushr X0.here hx rfl (hb hby d1_38) rfl k) ?_
  show Go p e below s₁ (mkF m 39 #[.val (.long q1), .second, .val (.long (q1 + (-7046029254386353131 : Int64))), .second, .val (.long (((((q1 + (-7046029254386353131 : Int64)) ^^^ (own_ushrL (q1 + (-7046029254386353131 : Int64)) (33 : Int32))) * (-49064778989728563 : Int64)) ^^^ (own_ushrL (((q1 + (-7046029254386353131 : Int64)) ^^^ (own_ushrL (q1 + (-7046029254386353131 : Int64)) (33 : Int32))) * (-49064778989728563 : Int64)) (33 : Int32))) * (-4265267296055464877 : Int64))), .second] [(.long (own_ushrL (((((q1 + (-7046029254386353131 : Int64)) ^^^ (own_ushrL (q1 + (-7046029254386353131 : Int64)) (33 : Int32))) * (-49064778989728563 : Int64)) ^^^ (own_ushrL (((q1 + (-7046029254386353131 : Int64)) ^^^ (own_ushrL (q1 + (-7046029254386353131 : Int64)) (33 : Int32))) * (-49064778989728563 : Int64)) (33 : Int32))) * (-4265267296055464877 : Int64)) (33 : Int32))), (.long (((((q1 + (-7046029254386353131 : Int64)) ^^^ (own_ushrL (q1 + (-7046029254386353131 : Int64)) (33 : Int32))) * (-49064778989728563 : Int64)) ^^^ (own_ushrL (((q1 + (-7046029254386353131 : Int64)) ^^^ (own_ushrL (q1 + (-7046029254386353131 : Int64)) (33 : Int32))) * (-49064778989728563 : Int64)) (33 : Int32))) * (-4265267296055464877 : Int64)))]) _
  refine Go.by (fun t k => XS.lxor X0.here hx rfl (hb hby d1_39) rfl k) ?_
  show Go p e below s₁ (mkF m 40 #[.val (.long q1), .second, .val (.long (q1 + (-7046029254386353131 : Int64))), .second, .val (.long (((((q1 + (-7046029254386353131 : Int64)) ^^^ (own_ushrL (q1 + (-7046029254386353131 : Int64)) (33 : Int32))) * (-49064778989728563 : Int64)) ^^^ (own_ushrL (((q1 + (-7046029254386353131 : Int64)) ^^^ (own_ushrL (q1 + (-7046029254386353131 : Int64)) (33 : Int32))) * (-49064778989728563 : Int64)) (33 : Int32))) * (-4265267296055464877 : Int64))), .second] [(.long ((((((q1 + (-7046029254386353131 : Int64)) ^^^ (own_ushrL (q1 + (-7046029254386353131 : Int64)) (33 : Int32))) * (-49064778989728563 : Int64)) ^^^ (own_ushrL (((q1 + (-7046029254386353131 : Int64)) ^^^ (own_ushrL (q1 + (-7046029254386353131 : Int64)) (33 : Int32))) * (-49064778989728563 : Int64)) (33 : Int32))) * (-4265267296055464877 : Int64)) ^^^ (own_ushrL (((((q1 + (-7046029254386353131 : Int64)) ^^^ (own_ushrL (q1 + (-7046029254386353131 : Int64)) (33 : Int32))) * (-49064778989728563 : Int64)) ^^^ (own_ushrL (((q1 + (-7046029254386353131 : Int64)) ^^^ (own_ushrL (q1 + (-7046029254386353131 : Int64)) (33 : Int32))) * (-49064778989728563 : Int64)) (33 : Int32))) * (-4265267296055464877 : Int64)) (33 : Int32))))]) _
  obtain ⟨fs, hr, hrun, hended, hW, hsame⟩ := X0.leave (v := some (.long ((((((q1 + (-7046029254386353131 : Int64)) ^^^ (own_ushrL (q1 + (-7046029254386353131 : Int64)) (33 : Int32))) * (-49064778989728563 : Int64)) ^^^ (own_ushrL (((q1 + (-7046029254386353131 : Int64)) ^^^ (own_ushrL (q1 + (-7046029254386353131 : Int64)) (33 : Int32))) * (-49064778989728563 : Int64)) (33 : Int32))) * (-4265267296055464877 : Int64)) ^^^ (own_ushrL (((((q1 + (-7046029254386353131 : Int64)) ^^^ (own_ushrL (q1 + (-7046029254386353131 : Int64)) (33 : Int32))) * (-49064778989728563 : Int64)) ^^^ (own_ushrL (((q1 + (-7046029254386353131 : Int64)) ^^^ (own_ushrL (q1 + (-7046029254386353131 : Int64)) (33 : Int32))) * (-49064778989728563 : Int64)) (33 : Int32))) * (-4265267296055464877 : Int64)) (33 : Int32))))) (fun h => by rw [Bd.returns] at h; cases h)
  refine Go.done (retJ X0 hx Bd.returns (hb hby d1_40) hr) hrun hended ⟨_, _, rfl, ?_, ⟨_, rfl⟩, hW, hsame.mono (by decide) (by decide)⟩
  show Q1 Z q1 h0 n0 _ s₁.heap _
  rw [e0]
  refine ⟨?_, N0, rfl⟩
  rw [f1]
def f2 (q1 : Int64) : Int64 :=
  ((((((q1 ^^^ (own_ushrL q1 (33 : Int32))) * (-7154897129451604005 : Int64)) ^^^ (own_ushrL ((q1 ^^^ (own_ushrL q1 (33 : Int32))) * (-7154897129451604005 : Int64)) (33 : Int32))) * (5725274745694666757 : Int64)) ^^^ (own_ushrL ((((q1 ^^^ (own_ushrL q1 (33 : Int32))) * (-7154897129451604005 : Int64)) ^^^ (own_ushrL ((q1 ^^^ (own_ushrL q1 (33 : Int32))) * (-7154897129451604005 : Int64)) (33 : Int32))) * (5725274745694666757 : Int64)) (33 : Int32))) - (-7046029254386353131 : Int64))
theorem d2_0 : decode method_2_code 0 = .ok (.lload_n 0, 1) := by decide +kernel
theorem d2_1 : decode method_2_code 1 = .ok (.lload_n 0, 1) := by decide +kernel
theorem d2_2 : decode method_2_code 2 = .ok (.bipush 33, 2) := by decide +kernel
theorem d2_4 : decode method_2_code 4 = .ok (.lushr, 1) := by decide +kernel
theorem d2_5 : decode method_2_code 5 = .ok (.lxor, 1) := by decide +kernel
theorem d2_6 : decode method_2_code 6 = .ok (.lstore_n 2, 1) := by decide +kernel
theorem d2_7 : decode method_2_code 7 = .ok (.lload_n 2, 1) := by decide +kernel
theorem d2_8 : decode method_2_code 8 = .ok (.ldc2_w 7, 3) := by decide +kernel
theorem d2_11 : decode method_2_code 11 = .ok (.lmul, 1) := by decide +kernel
theorem d2_12 : decode method_2_code 12 = .ok (.lstore_n 2, 1) := by decide +kernel
theorem d2_13 : decode method_2_code 13 = .ok (.lload_n 2, 1) := by decide +kernel
theorem d2_14 : decode method_2_code 14 = .ok (.lload_n 2, 1) := by decide +kernel
theorem d2_15 : decode method_2_code 15 = .ok (.bipush 33, 2) := by decide +kernel
theorem d2_17 : decode method_2_code 17 = .ok (.lushr, 1) := by decide +kernel
theorem d2_18 : decode method_2_code 18 = .ok (.lxor, 1) := by decide +kernel
theorem d2_19 : decode method_2_code 19 = .ok (.lstore_n 2, 1) := by decide +kernel
theorem d2_20 : decode method_2_code 20 = .ok (.lload_n 2, 1) := by decide +kernel
theorem d2_21 : decode method_2_code 21 = .ok (.ldc2_w 9, 3) := by decide +kernel
theorem d2_24 : decode method_2_code 24 = .ok (.lmul, 1) := by decide +kernel
theorem d2_25 : decode method_2_code 25 = .ok (.lstore_n 2, 1) := by decide +kernel
theorem d2_26 : decode method_2_code 26 = .ok (.lload_n 2, 1) := by decide +kernel
theorem d2_27 : decode method_2_code 27 = .ok (.lload_n 2, 1) := by decide +kernel
theorem d2_28 : decode method_2_code 28 = .ok (.bipush 33, 2) := by decide +kernel
theorem d2_30 : decode method_2_code 30 = .ok (.lushr, 1) := by decide +kernel
theorem d2_31 : decode method_2_code 31 = .ok (.lxor, 1) := by decide +kernel
theorem d2_32 : decode method_2_code 32 = .ok (.lstore_n 2, 1) := by decide +kernel
theorem d2_33 : decode method_2_code 33 = .ok (.lload_n 2, 1) := by decide +kernel
theorem d2_34 : decode method_2_code 34 = .ok (.ldc2_w 11, 3) := by decide +kernel
theorem d2_37 : decode method_2_code 37 = .ok (.lsub, 1) := by decide +kernel
theorem d2_38 : decode method_2_code 38 = .ok (.lreturn, 1) := by decide +kernel
theorem pn_1 : plainName "com/example/omega_automata_convert/omegaautomataconvert/CombinationsMixPinLaw" = true := by first | (simp [plainName, overriddenIn]; done) | decide +kernel
theorem ef_2 (m : MethodId) (x0 : Int64) : entryFrame m #[(.long x0)] 4 = mkF m 0 #[.val (.long x0), .second, .unset, .unset] [] := by first | (simp [entryFrame, mkF, argsToLocals, Value.category]; done) | rfl
def Q2 (Z : State) (q1 : Int64) (h0 : Heap) (n0 : Nat) (v : Option Value) (h : Heap) (L : List Loc) : Prop := v = some (.long (f2 q1)) ∧ Fr n0 L ∧ h = h0
set_option maxRecDepth 65536 in
set_option maxHeartbeats 40000000 in
theorem rm2 (l : Launch) (Z : State) (a0 : Array Value) (hw : ∀ d ∈ tables_1, d.before a0 Z = true) (ws : List Jvm.Cond) (q1 : Int64) (h0 : Heap) (n0 : Nat) (Z0 : n0 ≤ h0.size) :
    MetFree l (⟨"com/example/omega_automata_convert/omegaautomataconvert/CombinationsMixPinLaw", "unmix", "(J)J"⟩ : MethodName) (head1 (Jvm.Cond.code (⟨"com/example/omega_automata_convert/omegaautomataconvert/CombinationsMixPinLaw", "unmix", "(J)J"⟩ : MethodName) method_2_code 4 (some .long) :: ws) ({ frames := 0, cells := 0, slots := 0, locals := 0 } : Room)) (fun a U => a = #[(.long q1)] ∧ Z.Warmed39 U.vm ∧ U.heap = h0) (fun _ _ _ _ _ => True) (fun _ U o U' => ∃ v L, o = .returned v ∧ Q2 Z q1 h0 n0 v U'.heap L ∧ FrameEnd U o U' L ({ frames := 0, cells := 0, slots := 0, locals := 0 } : Room).cells ({ frames := 0, cells := 0, slots := 0, locals := 0 } : Room).slots) := by
  refine MetFree.of_bodySF (plainFor_of_name pn_1) hisR ?_
  intro p e s m args below meth c s₁ Bd hml0 hP hK
  obtain ⟨rfl, hZ, hh⟩ := hP
  have hx := Bd.exec
  have hby := Bd.bytes
  have hml : c.maxLocals = 4 := hml0
  have hown : s.vm.findClass "com/example/omega_automata_convert/omegaautomataconvert/CombinationsMixPinLaw" = some m.cls := findClass_of_methodNamed Bd.named
  have hnm := (name_of_methodNamed Bd.named Bd.method).1
  have X0 : Stand p l e ({ frames := 0, cells := 0, slots := 0, locals := 0 } : Room) s m #[(.long q1)] below meth c s₁ [] 0 0 := Stand.of_body Bd
  have e0 : s₁.heap = h0 := by rw [← hh, Bd.state]; rfl
  have N0 := Fr.nil n0
  refine Go.start (ef_2 m q1) ?_
  show Go p e below s₁ (mkF m 0 #[.val (.long q1), .second, .unset, .unset] []) _
  refine Go.by (fun t k => XS.lloadN X0.here hx rfl (hb hby d2_0) rfl k) ?_
  show Go p e below s₁ (mkF m 1 #[.val (.long q1), .second, .unset, .unset] [(.long q1)]) _
  refine Go.by (fun t k => XS.lloadN X0.here hx rfl (hb hby d2_1) rfl k) ?_
  show Go p e below s₁ (mkF m 2 #[.val (.long q1), .second, .unset, .unset] [(.long q1), (.long q1)]) _
  refine Go.by (fun t k => XS.bipush X0.here hx rfl (hb hby d2_2) k) ?_
  show Go p e below s₁ (mkF m 4 #[.val (.long q1), .second, .unset, .unset] [(.int (33 : Int32)), (.long q1), (.long q1)]) _
  refine Go.by (fun t k => XS.lushr X0.here hx rfl (hb hby d2_4) rfl k) ?_
  show Go p e below s₁ (mkF m 5 #[.val (.long q1), .second, .unset, .unset] [(.long (own_ushrL q1 (33 : Int32))), (.long q1)]) _
  refine Go.by (fun t k => XS.lxor X0.here hx rfl (hb hby d2_5) rfl k) ?_
  show Go p e below s₁ (mkF m 6 #[.val (.long q1), .second, .unset, .unset] [(.long (q1 ^^^ (own_ushrL q1 (33 : Int32))))]) _
  refine Go.by (fun t k => XS.lstoreN X0.here hx rfl (hb hby d2_6) rfl (l' := #[.val (.long q1), .second, .val (.long (q1 ^^^ (own_ushrL q1 (33 : Int32)))), .second]) rfl k) ?_
  show Go p e below s₁ (mkF m 7 #[.val (.long q1), .second, .val (.long (q1 ^^^ (own_ushrL q1 (33 : Int32)))), .second] []) _
  refine Go.by (fun t k => XS.lloadN X0.here hx rfl (hb hby d2_7) rfl k) ?_
  show Go p e below s₁ (mkF m 8 #[.val (.long q1), .second, .val (.long (q1 ^^^ (own_ushrL q1 (33 : Int32)))), .second] [(.long (q1 ^^^ (own_ushrL q1 (33 : Int32))))]) _
  refine Go.by (fun t k => X0.ldc2Long hx hown (mvT hZ (hw _ (List.mem_of_getElem? (i := 11) rfl))) (g := (mkF m 8 #[.val (.long q1), .second, .val (.long (q1 ^^^ (own_ushrL q1 (33 : Int32)))), .second] [(.long (q1 ^^^ (own_ushrL q1 (33 : Int32))))])) rfl (hb hby d2_8) t k) ?_
  show Go p e below s₁ (mkF m 11 #[.val (.long q1), .second, .val (.long (q1 ^^^ (own_ushrL q1 (33 : Int32)))), .second] [(.long (-7154897129451604005 : Int64)), (.long (q1 ^^^ (own_ushrL q1 (33 : Int32))))]) _
  refine Go.by (fun t k => XS.lmul X0.here hx rfl (hb hby d2_11) rfl k) ?_
  show Go p e below s₁ (mkF m 12 #[.val (.long q1), .second, .val (.long (q1 ^^^ (own_ushrL q1 (33 : Int32)))), .second] [(.long ((q1 ^^^ (own_ushrL q1 (33 : Int32))) * (-7154897129451604005 : Int64)))]) _
  refine Go.by (fun t k => XS.lstoreN X0.here hx rfl (hb hby d2_12) rfl (l' := #[.val (.long q1), .second, .val (.long ((q1 ^^^ (own_ushrL q1 (33 : Int32))) * (-7154897129451604005 : Int64))), .second]) rfl k) ?_
  show Go p e below s₁ (mkF m 13 #[.val (.long q1), .second, .val (.long ((q1 ^^^ (own_ushrL q1 (33 : Int32))) * (-7154897129451604005 : Int64))), .second] []) _
  refine Go.by (fun t k => XS.lloadN X0.here hx rfl (hb hby d2_13) rfl k) ?_
  show Go p e below s₁ (mkF m 14 #[.val (.long q1), .second, .val (.long ((q1 ^^^ (own_ushrL q1 (33 : Int32))) * (-7154897129451604005 : Int64))), .second] [(.long ((q1 ^^^ (own_ushrL q1 (33 : Int32))) * (-7154897129451604005 : Int64)))]) _
  refine Go.by (fun t k => XS.lloadN X0.here hx rfl (hb hby d2_14) rfl k) ?_
  show Go p e below s₁ (mkF m 15 #[.val (.long q1), .second, .val (.long ((q1 ^^^ (own_ushrL q1 (33 : Int32))) * (-7154897129451604005 : Int64))), .second] [(.long ((q1 ^^^ (own_ushrL q1 (33 : Int32))) * (-7154897129451604005 : Int64))), (.long ((q1 ^^^ (own_ushrL q1 (33 : Int32))) * (-7154897129451604005 : Int64)))]) _
  refine Go.by (fun t k => XS.bipush X0.here hx rfl (hb hby d2_15) k) ?_
  show Go p e below s₁ (mkF m 17 #[.val (.long q1), .second, .val (.long ((q1 ^^^ (own_ushrL q1 (33 : Int32))) * (-7154897129451604005 : Int64))), .second] [(.int (33 : Int32)), (.long ((q1 ^^^ (own_ushrL q1 (33 : Int32))) * (-7154897129451604005 : Int64))), (.long ((q1 ^^^ (own_ushrL q1 (33 : Int32))) * (-7154897129451604005 : Int64)))]) _
  refine Go.by (fun t k => XS.lushr X0.here hx rfl (hb hby d2_17) rfl k) ?_
  show Go p e below s₁ (mkF m 18 #[.val (.long q1), .second, .val (.long ((q1 ^^^ (own_ushrL q1 (33 : Int32))) * (-7154897129451604005 : Int64))), .second] [(.long (own_ushrL ((q1 ^^^ (own_ushrL q1 (33 : Int32))) * (-7154897129451604005 : Int64)) (33 : Int32))), (.long ((q1 ^^^ (own_ushrL q1 (33 : Int32))) * (-7154897129451604005 : Int64)))]) _
  refine Go.by (fun t k => XS.lxor X0.here hx rfl (hb hby d2_18) rfl k) ?_
  show Go p e below s₁ (mkF m 19 #[.val (.long q1), .second, .val (.long ((q1 ^^^ (own_ushrL q1 (33 : Int32))) * (-7154897129451604005 : Int64))), .second] [(.long (((q1 ^^^ (own_ushrL q1 (33 : Int32))) * (-7154897129451604005 : Int64)) ^^^ (own_ushrL ((q1 ^^^ (own_ushrL q1 (33 : Int32))) * (-7154897129451604005 : Int64)) (33 : Int32))))]) _
  refine Go.by (fun t k => XS.lstoreN X0.here hx rfl (hb hby d2_19) rfl (l' := #[.val (.long q1), .second, .val (.long (((q1 ^^^ (own_ushrL q1 (33 : Int32))) * (-7154897129451604005 : Int64)) ^^^ (own_ushrL ((q1 ^^^ (own_ushrL q1 (33 : Int32))) * (-7154897129451604005 : Int64)) (33 : Int32)))), .second]) rfl k) ?_
  show Go p e below s₁ (mkF m 20 #[.val (.long q1), .second, .val (.long (((q1 ^^^ (own_ushrL q1 (33 : Int32))) * (-7154897129451604005 : Int64)) ^^^ (own_ushrL ((q1 ^^^ (own_ushrL q1 (33 : Int32))) * (-7154897129451604005 : Int64)) (33 : Int32)))), .second] []) _
  refine Go.by (fun t k => XS.lloadN X0.here hx rfl (hb hby d2_20) rfl k) ?_
  show Go p e below s₁ (mkF m 21 #[.val (.long q1), .second, .val (.long (((q1 ^^^ (own_ushrL q1 (33 : Int32))) * (-7154897129451604005 : Int64)) ^^^ (own_ushrL ((q1 ^^^ (own_ushrL q1 (33 : Int32))) * (-7154897129451604005 : Int64)) (33 : Int32)))), .second] [(.long (((q1 ^^^ (own_ushrL q1 (33 : Int32))) * (-7154897129451604005 : Int64)) ^^^ (own_ushrL ((q1 ^^^ (own_ushrL q1 (33 : Int32))) * (-7154897129451604005 : Int64)) (33 : Int32))))]) _
  refine Go.by (fun t k => X0.ldc2Long hx hown (mvT hZ (hw _ (List.mem_of_getElem? (i := 12) rfl))) (g := (mkF m 21 #[.val (.long q1), .second, .val (.long (((q1 ^^^ (own_ushrL q1 (33 : Int32))) * (-7154897129451604005 : Int64)) ^^^ (own_ushrL ((q1 ^^^ (own_ushrL q1 (33 : Int32))) * (-7154897129451604005 : Int64)) (33 : Int32)))), .second] [(.long (((q1 ^^^ (own_ushrL q1 (33 : Int32))) * (-7154897129451604005 : Int64)) ^^^ (own_ushrL ((q1 ^^^ (own_ushrL q1 (33 : Int32))) * (-7154897129451604005 : Int64)) (33 : Int32))))])) rfl (hb hby d2_21) t k) ?_
  show Go p e below s₁ (mkF m 24 #[.val (.long q1), .second, .val (.long (((q1 ^^^ (own_ushrL q1 (33 : Int32))) * (-7154897129451604005 : Int64)) ^^^ (own_ushrL ((q1 ^^^ (own_ushrL q1 (33 : Int32))) * (-7154897129451604005 : Int64)) (33 : Int32)))), .second] [(.long (5725274745694666757 : Int64)), (.long (((q1 ^^^ (own_ushrL q1 (33 : Int32))) * (-7154897129451604005 : Int64)) ^^^ (own_ushrL ((q1 ^^^ (own_ushrL q1 (33 : Int32))) * (-7154897129451604005 : Int64)) (33 : Int32))))]) _
  refine Go.by (fun t k => XS.lmul X0.here hx rfl (hb hby d2_24) rfl k) ?_
  show Go p e below s₁ (mkF m 25 #[.val (.long q1), .second, .val (.long (((q1 ^^^ (own_ushrL q1 (33 : Int32))) * (-7154897129451604005 : Int64)) ^^^ (own_ushrL ((q1 ^^^ (own_ushrL q1 (33 : Int32))) * (-7154897129451604005 : Int64)) (33 : Int32)))), .second] [(.long ((((q1 ^^^ (own_ushrL q1 (33 : Int32))) * (-7154897129451604005 : Int64)) ^^^ (own_ushrL ((q1 ^^^ (own_ushrL q1 (33 : Int32))) * (-7154897129451604005 : Int64)) (33 : Int32))) * (5725274745694666757 : Int64)))]) _
  refine Go.by (fun t k => XS.lstoreN X0.here hx rfl (hb hby d2_25) rfl (l' := #[.val (.long q1), .second, .val (.long ((((q1 ^^^ (own_ushrL q1 (33 : Int32))) * (-7154897129451604005 : Int64)) ^^^ (own_ushrL ((q1 ^^^ (own_ushrL q1 (33 : Int32))) * (-7154897129451604005 : Int64)) (33 : Int32))) * (5725274745694666757 : Int64))), .second]) rfl k) ?_
  show Go p e below s₁ (mkF m 26 #[.val (.long q1), .second, .val (.long ((((q1 ^^^ (own_ushrL q1 (33 : Int32))) * (-7154897129451604005 : Int64)) ^^^ (own_ushrL ((q1 ^^^ (own_ushrL q1 (33 : Int32))) * (-7154897129451604005 : Int64)) (33 : Int32))) * (5725274745694666757 : Int64))), .second] []) _
  refine Go.by (fun t k => XS.lloadN X0.here hx rfl (hb hby d2_26) rfl k) ?_
  show Go p e below s₁ (mkF m 27 #[.val (.long q1), .second, .val (.long ((((q1 ^^^ (own_ushrL q1 (33 : Int32))) * (-7154897129451604005 : Int64)) ^^^ (own_ushrL ((q1 ^^^ (own_ushrL q1 (33 : Int32))) * (-7154897129451604005 : Int64)) (33 : Int32))) * (5725274745694666757 : Int64))), .second] [(.long ((((q1 ^^^ (own_ushrL q1 (33 : Int32))) * (-7154897129451604005 : Int64)) ^^^ (own_ushrL ((q1 ^^^ (own_ushrL q1 (33 : Int32))) * (-7154897129451604005 : Int64)) (33 : Int32))) * (5725274745694666757 : Int64)))]) _
  refine Go.by (fun t k => XS.lloadN X0.here hx rfl (hb hby d2_27) rfl k) ?_
  show Go p e below s₁ (mkF m 28 #[.val (.long q1), .second, .val (.long ((((q1 ^^^ (own_ushrL q1 (33 : Int32))) * (-7154897129451604005 : Int64)) ^^^ (own_ushrL ((q1 ^^^ (own_ushrL q1 (33 : Int32))) * (-7154897129451604005 : Int64)) (33 : Int32))) * (5725274745694666757 : Int64))), .second] [(.long ((((q1 ^^^ (own_ushrL q1 (33 : Int32))) * (-7154897129451604005 : Int64)) ^^^ (own_ushrL ((q1 ^^^ (own_ushrL q1 (33 : Int32))) * (-7154897129451604005 : Int64)) (33 : Int32))) * (5725274745694666757 : Int64))), (.long ((((q1 ^^^ (own_ushrL q1 (33 : Int32))) * (-7154897129451604005 : Int64)) ^^^ (own_ushrL ((q1 ^^^ (own_ushrL q1 (33 : Int32))) * (-7154897129451604005 : Int64)) (33 : Int32))) * (5725274745694666757 : Int64)))]) _
  refine Go.by (fun t k => XS.bipush X0.here hx rfl (hb hby d2_28) k) ?_
  show Go p e below s₁ (mkF m 30 #[.val (.long q1), .second, .val (.long ((((q1 ^^^ (own_ushrL q1 (33 : Int32))) * (-7154897129451604005 : Int64)) ^^^ (own_ushrL ((q1 ^^^ (own_ushrL q1 (33 : Int32))) * (-7154897129451604005 : Int64)) (33 : Int32))) * (5725274745694666757 : Int64))), .second] [(.int (33 : Int32)), (.long ((((q1 ^^^ (own_ushrL q1 (33 : Int32))) * (-7154897129451604005 : Int64)) ^^^ (own_ushrL ((q1 ^^^ (own_ushrL q1 (33 : Int32))) * (-7154897129451604005 : Int64)) (33 : Int32))) * (5725274745694666757 : Int64))), (.long ((((q1 ^^^ (own_ushrL q1 (33 : Int32))) * (-7154897129451604005 : Int64)) ^^^ (own_ushrL ((q1 ^^^ (own_ushrL q1 (33 : Int32))) * (-7154897129451604005 : Int64)) (33 : Int32))) * (5725274745694666757 : Int64)))]) _
  refine Go.by (fun t k => XS.lushr X0.here hx rfl (hb hby d2_30) rfl k) ?_
  show Go p e below s₁ (mkF m 31 #[.val (.long q1), .second, .val (.long ((((q1 ^^^ (own_ushrL q1 (33 : Int32))) * (-7154897129451604005 : Int64)) ^^^ (own_ushrL ((q1 ^^^ (own_ushrL q1 (33 : Int32))) * (-7154897129451604005 : Int64)) (33 : Int32))) * (5725274745694666757 : Int64))), .second] [(.long (own_ushrL ((((q1 ^^^ (own_ushrL q1 (33 : Int32))) * (-7154897129451604005 : Int64)) ^^^ (own_ushrL ((q1 ^^^ (own_ushrL q1 (33 : Int32))) * (-7154897129451604005 : Int64)) (33 : Int32))) * (5725274745694666757 : Int64)) (33 : Int32))), (.long ((((q1 ^^^ (own_ushrL q1 (33 : Int32))) * (-7154897129451604005 : Int64)) ^^^ (own_ushrL ((q1 ^^^ (own_ushrL q1 (33 : Int32))) * (-7154897129451604005 : Int64)) (33 : Int32))) * (5725274745694666757 : Int64)))]) _
  refine Go.by (fun t k => XS.lxor X0.here hx rfl (hb hby d2_31) rfl k) ?_
  show Go p e below s₁ (mkF m 32 #[.val (.long q1), .second, .val (.long ((((q1 ^^^ (own_ushrL q1 (33 : Int32))) * (-7154897129451604005 : Int64)) ^^^ (own_ushrL ((q1 ^^^ (own_ushrL q1 (33 : Int32))) * (-7154897129451604005 : Int64)) (33 : Int32))) * (5725274745694666757 : Int64))), .second] [(.long (((((q1 ^^^ (own_ushrL q1 (33 : Int32))) * (-7154897129451604005 : Int64)) ^^^ (own_ushrL ((q1 ^^^ (own_ushrL q1 (33 : Int32))) * (-7154897129451604005 : Int64)) (33 : Int32))) * (5725274745694666757 : Int64)) ^^^ (own_ushrL ((((q1 ^^^ (own_ushrL q1 (33 : Int32))) * (-7154897129451604005 : Int64)) ^^^ (own_ushrL ((q1 ^^^ (own_ushrL q1 (33 : Int32))) * (-7154897129451604005 : Int64)) (33 : Int32))) * (5725274745694666757 : Int64)) (33 : Int32))))]) _
  refine Go.by (fun t k => XS.lstoreN X0.here hx rfl (hb hby d2_32) rfl (l' := #[.val (.long q1), .second, .val (.long (((((q1 ^^^ (own_ushrL q1 (33 : Int32))) * (-7154897129451604005 : Int64)) ^^^ (own_ushrL ((q1 ^^^ (own_ushrL q1 (33 : Int32))) * (-7154897129451604005 : Int64)) (33 : Int32))) * (5725274745694666757 : Int64)) ^^^ (own_ushrL ((((q1 ^^^ (own_ushrL q1 (33 : Int32))) * (-7154897129451604005 : Int64)) ^^^ (own_ushrL ((q1 ^^^ (own_ushrL q1 (33 : Int32))) * (-7154897129451604005 : Int64)) (33 : Int32))) * (5725274745694666757 : Int64)) (33 : Int32)))), .second]) rfl k) ?_
  show Go p e below s₁ (mkF m 33 #[.val (.long q1), .second, .val (.long (((((q1 ^^^ (own_ushrL q1 (33 : Int32))) * (-7154897129451604005 : Int64)) ^^^ (own_ushrL ((q1 ^^^ (own_ushrL q1 (33 : Int32))) * (-7154897129451604005 : Int64)) (33 : Int32))) * (5725274745694666757 : Int64)) ^^^ (own_ushrL ((((q1 ^^^ (own_ushrL q1 (33 : Int32))) * (-7154897129451604005 : Int64)) ^^^ (own_ushrL ((q1 ^^^ (own_ushrL q1 (33 : Int32))) * (-7154897129451604005 : Int64)) (33 : Int32))) * (5725274745694666757 : Int64)) (33 : Int32)))), .second] []) _
  refine Go.by (fun t k => XS.lloadN X0.here hx rfl (hb hby d2_33) rfl k) ?_
  show Go p e below s₁ (mkF m 34 #[.val (.long q1), .second, .val (.long (((((q1 ^^^ (own_ushrL q1 (33 : Int32))) * (-7154897129451604005 : Int64)) ^^^ (own_ushrL ((q1 ^^^ (own_ushrL q1 (33 : Int32))) * (-7154897129451604005 : Int64)) (33 : Int32))) * (5725274745694666757 : Int64)) ^^^ (own_ushrL ((((q1 ^^^ (own_ushrL q1 (33 : Int32))) * (-7154897129451604005 : Int64)) ^^^ (own_ushrL ((q1 ^^^ (own_ushrL q1 (33 : Int32))) * (-7154897129451604005 : Int64)) (33 : Int32))) * (5725274745694666757 : Int64)) (33 : Int32)))), .second] [(.long (((((q1 ^^^ (own_ushrL q1 (33 : Int32))) * (-7154897129451604005 : Int64)) ^^^ (own_ushrL ((q1 ^^^ (own_ushrL q1 (33 : Int32))) * (-7154897129451604005 : Int64)) (33 : Int32))) * (5725274745694666757 : Int64)) ^^^ (own_ushrL ((((q1 ^^^ (own_ushrL q1 (33 : Int32))) * (-7154897129451604005 : Int64)) ^^^ (own_ushrL ((q1 ^^^ (own_ushrL q1 (33 : Int32))) * (-7154897129451604005 : Int64)) (33 : Int32))) * (5725274745694666757 : Int64)) (33 : Int32))))]) _
  refine Go.by (fun t k => X0.ldc2Long hx hown (mvT hZ (hw _ (List.mem_of_getElem? (i := 13) rfl))) (g := (mkF m 34 #[.val (.long q1), .second, .val (.long (((((q1 ^^^ (own_ushrL q1 (33 : Int32))) * (-7154897129451604005 : Int64)) ^^^ (own_ushrL ((q1 ^^^ (own_ushrL q1 (33 : Int32))) * (-7154897129451604005 : Int64)) (33 : Int32))) * (5725274745694666757 : Int64)) ^^^ (own_ushrL ((((q1 ^^^ (own_ushrL q1 (33 : Int32))) * (-7154897129451604005 : Int64)) ^^^ (own_ushrL ((q1 ^^^ (own_ushrL q1 (33 : Int32))) * (-7154897129451604005 : Int64)) (33 : Int32))) * (5725274745694666757 : Int64)) (33 : Int32)))), .second] [(.long (((((q1 ^^^ (own_ushrL q1 (33 : Int32))) * (-7154897129451604005 : Int64)) ^^^ (own_ushrL ((q1 ^^^ (own_ushrL q1 (33 : Int32))) * (-7154897129451604005 : Int64)) (33 : Int32))) * (5725274745694666757 : Int64)) ^^^ (own_ushrL ((((q1 ^^^ (own_ushrL q1 (33 : Int32))) * (-7154897129451604005 : Int64)) ^^^ (own_ushrL ((q1 ^^^ (own_ushrL q1 (33 : Int32))) * (-7154897129451604005 : Int64)) (33 : Int32))) * (5725274745694666757 : Int64)) (33 : Int32))))])) rfl (hb hby d2_34) t k) ?_
  show Go p e below s₁ (mkF m 37 #[.val (.long q1), .second, .val (.long (((((q1 ^^^ (own_ushrL q1 (33 : Int32))) * (-7154897129451604005 : Int64)) ^^^ (own_ushrL ((q1 ^^^ (own_ushrL q1 (33 : Int32))) * (-7154897129451604005 : Int64)) (33 : Int32))) * (5725274745694666757 : Int64)) ^^^ (own_ushrL ((((q1 ^^^ (own_ushrL q1 (33 : Int32))) * (-7154897129451604005 : Int64)) ^^^ (own_ushrL ((q1 ^^^ (own_ushrL q1 (33 : Int32))) * (-7154897129451604005 : Int64)) (33 : Int32))) * (5725274745694666757 : Int64)) (33 : Int32)))), .second] [(.long (-7046029254386353131 : Int64)), (.long (((((q1 ^^^ (own_ushrL q1 (33 : Int32))) * (-7154897129451604005 : Int64)) ^^^ (own_ushrL ((q1 ^^^ (own_ushrL q1 (33 : Int32))) * (-7154897129451604005 : Int64)) (33 : Int32))) * (5725274745694666757 : Int64)) ^^^ (own_ushrL ((((q1 ^^^ (own_ushrL q1 (33 : Int32))) * (-7154897129451604005 : Int64)) ^^^ (own_ushrL ((q1 ^^^ (own_ushrL q1 (33 : Int32))) * (-7154897129451604005 : Int64)) (33 : Int32))) * (5725274745694666757 : Int64)) (33 : Int32))))]) _
  refine Go.by (fun t k => XS.lsub X0.here hx rfl (hb hby d2_37) rfl k) ?_
  show Go p e below s₁ (mkF m 38 #[.val (.long q1), .second, .val (.long (((((q1 ^^^ (own_ushrL q1 (33 : Int32))) * (-7154897129451604005 : Int64)) ^^^ (own_ushrL ((q1 ^^^ (own_ushrL q1 (33 : Int32))) * (-7154897129451604005 : Int64)) (33 : Int32))) * (5725274745694666757 : Int64)) ^^^ (own_ushrL ((((q1 ^^^ (own_ushrL q1 (33 : Int32))) * (-7154897129451604005 : Int64)) ^^^ (own_ushrL ((q1 ^^^ (own_ushrL q1 (33 : Int32))) * (-7154897129451604005 : Int64)) (33 : Int32))) * (5725274745694666757 : Int64)) (33 : Int32)))), .second] [(.long ((((((q1 ^^^ (own_ushrL q1 (33 : Int32))) * (-7154897129451604005 : Int64)) ^^^ (own_ushrL ((q1 ^^^ (own_ushrL q1 (33 : Int32))) * (-7154897129451604005 : Int64)) (33 : Int32))) * (5725274745694666757 : Int64)) ^^^ (own_ushrL ((((q1 ^^^ (own_ushrL q1 (33 : Int32))) * (-7154897129451604005 : Int64)) ^^^ (own_ushrL ((q1 ^^^ (own_ushrL q1 (33 : Int32))) * (-7154897129451604005 : Int64)) (33 : Int32))) * (5725274745694666757 : Int64)) (33 : Int32))) - (-7046029254386353131 : Int64)))]) _
  obtain ⟨fs, hr, hrun, hended, hW, hsame⟩ := X0.leave (v := some (.long ((((((q1 ^^^ (own_ushrL q1 (33 : Int32))) * (-7154897129451604005 : Int64)) ^^^ (own_ushrL ((q1 ^^^ (own_ushrL q1 (33 : Int32))) * (-7154897129451604005 : Int64)) (33 : Int32))) * (5725274745694666757 : Int64)) ^^^ (own_ushrL ((((q1 ^^^ (own_ushrL q1 (33 : Int32))) * (-7154897129451604005 : Int64)) ^^^ (own_ushrL ((q1 ^^^ (own_ushrL q1 (33 : Int32))) * (-7154897129451604005 : Int64)) (33 : Int32))) * (5725274745694666757 : Int64)) (33 : Int32))) - (-7046029254386353131 : Int64)))) (fun h => by rw [Bd.returns] at h; cases h)
  refine Go.done (retJ X0 hx Bd.returns (hb hby d2_38) hr) hrun hended ⟨_, _, rfl, ?_, ⟨_, rfl⟩, hW, hsame.mono (by decide) (by decide)⟩
  show Q2 Z q1 h0 n0 _ s₁.heap _
  rw [e0]
  refine ⟨?_, N0, rfl⟩
  rw [f2]
def own_g (h : Int64) : Int64 := h ^^^ own_ushrL h 33
theorem own_f1 (x : Int64) : f1 x = own_g (own_g (own_g (x + (-7046029254386353131)) * (-49064778989728563)) * (-4265267296055464877)) := rfl
theorem own_f2 (y : Int64) : f2 y = own_g (own_g (own_g y * (-7154897129451604005)) * 5725274745694666757) - (-7046029254386353131) := rfl
theorem own_ush33 (h : Int64) : (own_ushrL h 33).toBitVec = h.toBitVec >>> 33 := by
  have e : own_ushrL h 33 = (h.toUInt64 >>> (33 : UInt64)).toInt64 := rfl
  rw [e]
  simp only [UInt64.toBitVec_toInt64, UInt64.toBitVec_shiftRight, Int64.toBitVec_toUInt64]
  rfl
theorem own_gg (h : Int64) : own_g (own_g h) = h := by
  apply Int64.toBitVec_inj.mp
  unfold own_g
  simp only [Int64.toBitVec_xor, own_ush33]
  apply BitVec.eq_of_getLsbD_eq
  intro i hi
  simp only [BitVec.getLsbD_xor, BitVec.getLsbD_ushiftRight]
  have q : h.toBitVec.getLsbD (33 + (33 + i)) = false := BitVec.getLsbD_of_ge _ _ (by omega)
  rw [q]
  cases h.toBitVec.getLsbD i <;> cases h.toBitVec.getLsbD (33 + i) <;> rfl
theorem own_law (x : Int64) : f2 (f1 x) = x := by
  rw [own_f1, own_f2, own_gg, Int64.mul_assoc, show (-4265267296055464877 : Int64) * (-7154897129451604005) = 1 by decide, Int64.mul_one, own_gg, Int64.mul_assoc, show (-49064778989728563 : Int64) * 5725274745694666757 = 1 by decide, Int64.mul_one, own_gg]
  exact Int64.add_sub_cancel x _
theorem pd_0 : parseMethodDescriptor "(J)J" = some ⟨[.long], some .long⟩ := by decide +kernel
theorem ef_0 (m : MethodId) (x0 : Int64) : entryFrame m #[(.long x0)] maxLocals = mkF m 0 #[.val (.long x0), .second] [] := by first | (simp [entryFrame, mkF, argsToLocals, Value.category, maxLocals]; done) | rfl
def Q0 (Z : State) (q1 : Int64) (h0 : Heap) (n0 : Nat) (v : Option Value) (h : Heap) (L : List Loc) : Prop := v = some (.int 1) ∧ Fr n0 L
set_option maxRecDepth 65536 in
set_option maxHeartbeats 40000000 in
theorem rm0 (l : Launch) (Z : State) (a0 : Array Value) (hw : ∀ d ∈ tables_1, d.before a0 Z = true) (ws : List Jvm.Cond) (q1 : Int64) (h0 : Heap) (n0 : Nat) (Z0 : n0 ≤ h0.size) :
    MetFree l x (head1 (Jvm.Cond.code x code maxLocals ret :: ws) room_1) (fun a U => a = #[(.long q1)] ∧ Z.Warmed39 U.vm ∧ U.heap = h0) (fun _ _ _ _ _ => True) (fun _ U o U' => ∃ v L, o = .returned v ∧ Q0 Z q1 h0 n0 v U'.heap L ∧ FrameEnd U o U' L room_1.cells room_1.slots) := by
  refine MetFree.of_bodySF (plainFor_of_name pn_1) hisR ?_
  intro p e s m args below meth c s₁ Bd hml0 hP hK
  obtain ⟨rfl, hZ, hh⟩ := hP
  have hx := Bd.exec
  have hby := Bd.bytes
  have hml : c.maxLocals = 2 := hml0
  have hown : s.vm.findClass "com/example/omega_automata_convert/omegaautomataconvert/CombinationsMixPinLaw" = some m.cls := findClass_of_methodNamed Bd.named
  have hnm := (name_of_methodNamed Bd.named Bd.method).1
  have X0 : Stand p l e room_1 s m #[(.long q1)] below meth c s₁ [] 0 0 := Stand.of_body Bd
  have e0 : s₁.heap = h0 := by rw [← hh, Bd.state]; rfl
  have N0 := Fr.nil n0
  refine Go.start (ef_0 m q1) ?_
  show Go p e below s₁ (mkF m 0 #[.val (.long q1), .second] []) _
  refine Go.by (fun t k => XS.lloadN X0.here hx rfl (hb hby at_0) rfl k) ?_
  show Go p e below s₁ (mkF m 1 #[.val (.long q1), .second] [(.long q1)]) _
  obtain ⟨_, _, ⟨T1, L1, k1, n1⟩, -, X1, ⟨Lc1, hQ1, l1, y1, z1⟩, st1⟩ := Jvm.LawKit.callS X0 hx (y := (⟨"com/example/omega_automata_convert/omegaautomataconvert/Combinations", "mix", "(J)J"⟩ : MethodName)) hown (mvT hZ (hw _ (List.mem_of_getElem? (i := 0) rfl))) (mvT hZ (hw _ (List.mem_of_getElem? (i := 1) rfl))) (mvT hZ (hw _ (List.mem_of_getElem? (i := 2) rfl))) (mvT hZ (hw _ (List.mem_of_getElem? (i := 3) rfl))) (by decide) (backOf (W := 0) (rm1 l Z a0 hw [] q1 h0 n0 Z0) hZ (hw _ (List.mem_of_getElem? (i := 3) rfl)) (hw _ (List.mem_of_getElem? (i := 2) rfl)) (by decide) (by decide)) (g := (mkF m 1 #[.val (.long q1), .second] [(.long q1)])) rfl (by rw [hml]; rfl) (argsL := [(.long q1)]) (rest := []) (lenOf pd_0 rfl) rfl (by show 2 * 0 + _ ≤ _; exact Nat.le_of_eq rfl) (hb hby at_1) (fun _ _ => ⟨rfl, e0, (by decide : 0 + 0 ≤ _), (by decide : 0 + 0 ≤ _)⟩)
  dsimp only [Pt.U, Pt.locs, Pt.cells, Pt.slots] at X1 l1 y1 z1 st1 hQ1
  subst l1 y1 z1
  obtain ⟨rfl, N1q, e1q⟩ := hQ1
  have N1 := Fr.app N0 N1q
  refine Go.by st1 ?_
  show Go p e below T1 (mkF m 4 #[.val (.long q1), .second] [(.long (f1 q1))]) _
  obtain ⟨_, _, ⟨T2, L2, k2, n2⟩, -, X2, ⟨Lc2, hQ2, l2, y2, z2⟩, st2⟩ := Jvm.LawKit.callS X1 hx (y := (⟨"com/example/omega_automata_convert/omegaautomataconvert/CombinationsMixPinLaw", "unmix", "(J)J"⟩ : MethodName)) hown (mvT hZ (hw _ (List.mem_of_getElem? (i := 7) rfl))) (mvT hZ (hw _ (List.mem_of_getElem? (i := 8) rfl))) (mvT hZ (hw _ (List.mem_of_getElem? (i := 9) rfl))) (mvT hZ (hw _ (List.mem_of_getElem? (i := 10) rfl))) (by decide) (backOf (W := 0) (rm2 l Z a0 hw [] (f1 q1) h0 n0 Z0) hZ (hw _ (List.mem_of_getElem? (i := 10) rfl)) (hw _ (List.mem_of_getElem? (i := 9) rfl)) (by decide) (by decide)) (g := (mkF m 4 #[.val (.long q1), .second] [(.long (f1 q1))])) rfl (by rw [hml]; rfl) (argsL := [(.long (f1 q1))]) (rest := []) (lenOf pd_0 rfl) rfl (by show 2 * 0 + _ ≤ _; exact Nat.le_of_eq rfl) (hb hby at_4) (fun _ _ => ⟨rfl, e1q, (by decide : 0 + 0 ≤ _), (by decide : 0 + 0 ≤ _)⟩)
  dsimp only [Pt.U, Pt.locs, Pt.cells, Pt.slots] at X2 l2 y2 z2 st2 hQ2
  subst l2 y2 z2
  obtain ⟨rfl, N2q, e2q⟩ := hQ2
  have N2 := Fr.app N1 N2q
  refine Go.by st2 ?_
  show Go p e below T2 (mkF m 7 #[.val (.long q1), .second] [(.long (f2 (f1 q1)))]) _
  refine Go.by (fun t k => XS.lloadN X2.here hx rfl (hb hby at_7) rfl k) ?_
  show Go p e below T2 (mkF m 8 #[.val (.long q1), .second] [(.long q1), (.long (f2 (f1 q1)))]) _
  refine Go.by (fun t k => XS.lcmp X2.here hx rfl (hb hby at_8) rfl k) ?_
  show Go p e below T2 (mkF m 9 #[.val (.long q1), .second] [(.int (lcmpW (f2 (f1 q1)) q1))]) _
  refine Go.by (fun t k => XS.ifNo X2.here hx rfl (hb hby at_9) rfl (cteq (show (f2 (f1 q1)) = q1 from own_law _)).2 k) ?_
  show Go p e below T2 (mkF m 12 #[.val (.long q1), .second] []) _
  refine Go.by (fun t k => XS.iconst X2.here hx rfl (hb hby at_12) k) ?_
  show Go p e below T2 (mkF m 13 #[.val (.long q1), .second] [(.int (1 : Int32))]) _
  refine Go.by (fun t k => XS.goto X2.here hx rfl (pc0 := 13) (pc' := 17) rfl (hb hby at_13) (by decide) (by decide) k) ?_
  show Go p e below T2 (mkF m 17 #[.val (.long q1), .second] [(.int (1 : Int32))]) _
  obtain ⟨fs, hr, hrun, hended, hW, hsame⟩ := X2.leave (v := some (.int (1 : Int32))) (fun h => by rw [Bd.returns] at h; cases h)
  refine Go.done (retN X2 hx (t := .boolean) Bd.returns (by simp) (hb hby at_17) hr) hrun hended ⟨_, _, rfl, ?_, ⟨_, rfl⟩, hW, hsame.mono (by decide) (by decide)⟩
  show Q0 Z q1 h0 n0 _ T2.heap _
  rw [e2q]
  exact ⟨rfl, N2⟩
set_option maxRecDepth 65536 in
set_option maxHeartbeats 40000000 in
theorem comes_1 {Post : Tables → Env → Array Value → State → Outcome → State → Prop} (hpost : ∀ tb e args s v u, (limb_1_1.after args s (.returned v) u = true ∧ limb_1_2.after args s (.returned v) u = true ∧ True) → FrameEnd s (.returned v) u (Jvm.fieldLocs frame_1_writes args s ++ Jvm.arrayLocs frame_1_arrays args s ++ Jvm.staticLocs frame_1_statics s) 0 0 → Post tb e args s (.returned v) u) :
    ArmFor flags0 classFile x code maxLocals ret World_1 tables_1 room_1 Calls_1 rest_1 Pre_1 Post := by
  intro l hfl _ _ p e ha hc hk s m args below hf hA hF happ hP
  obtain ⟨hcalls, hrest, hpre⟩ := hP
  obtain ⟨-, -, -, hnamed, -, -, -, hat⟩ := (Spec.applies_iff hf).mp happ
  obtain ⟨hg, hn⟩ := and_e (Cond.before_iff.mp (show (Jvm.Cond.and given_1 narrow_1).before args s = true from hpre))
  obtain ⟨g1, g2⟩ := and_e hg
  obtain ⟨w0, rfl⟩ : ∃ w0 : Value, args = #[w0] := by
    have hs : args.size = 1 := by simpa [Cond.value, given_1] using g1
    obtain ⟨L⟩ := args
    match L, hs with
    | [w0], _ => exact ⟨w0, rfl⟩
  have hw := fun d (hd : d ∈ tables_1) => atoms_spec (ws := Jvm.Cond.code x code maxLocals ret :: tables_1) hat d (List.mem_cons_of_mem _ hd)
  obtain ⟨i0, ei0⟩ := isL_v g2
  obtain rfl : w0 = (.long i0) := Option.some.inj ei0
  obtain ⟨n, o, h1, h2, h3, _, L, rfl, ⟨rfl, N⟩, hq⟩ := rm0 l s _ hw tables_1 i0 s.heap s.heap.size (Nat.le_refl _) p e ha hc hk s m _ below hf ((Spec.applies_iff_loose hf).mp happ).1 ⟨rfl, State.Warmed39.refl s, rfl⟩ trivial
  refine ⟨n, _, h1, h2, h3, hpost _ _ _ _ _ _ ⟨Cond.after_iff.mpr rfl, Cond.after_iff.mpr (eq_i res_at (Term.int_eval (1)) rfl), trivial⟩ ⟨hq.1, hq.2.1, (hq.2.2.sift fun y hy => Or.inr (N y hy)).mono (by decide) (by decide)⟩⟩
theorem main_1_1 : Claimed_1_1 := comes_1 fun _ _ _ _ _ _ h hF => ⟨h.1, hF⟩
theorem main_1_2 : Claimed_1_2 := comes_1 fun _ _ _ _ _ _ h hF => ⟨h.2.1, hF⟩
end Jvm.Pilot.@@N@@
namespace Jvm.Pilot.@@N@@
open Jvm Jvm.ClassFile Sem Op Lib Jvm.Free Jvm.Stand Jvm.Pilot.@@N@@.Jvm.D
/-! MADE BY PROGRAM (witnessworld.py) out of the Statement's table words and the real class files: 10 classes; the members and pool entries that the words name. The judged class is class 1, her method 2. -/
namespace start1
open Jvm.ClassFile
def u (s : String) : CpInfo := .utf8 (stringToUtf16 s)
/-- a pool by its gaps: so many unusable entries, then the entry; so many at the end -/
def gap : Nat → List CpInfo → List CpInfo
  | 0, r => r
  | n + 1, r => .unusable :: gap n r
def poolList (es : List (Nat × CpInfo)) (last : Nat) : List CpInfo := es.foldr (fun e r => gap e.1 (e.2 :: r)) (gap last [])
def pool (es : List (Nat × CpInfo)) (last : Nat) : Array CpInfo := ⟨poolList es last⟩
def fileOf (pool : Array CpInfo) (this : Nat) (attrs : Array Attribute := #[]) (ms : Array MethodInfo := #[]) (fl : Nat := 33) (sup : Nat := 0) (ifs : Array Nat := #[]) (fds : Array FieldInfo := #[]) : ClassFile where
  minorVersion := 0
  majorVersion := 65
  constantPool := pool
  accessFlags := fl
  thisClass := this
  superClass := sup
  interfaces := ifs
  fields := fds
  methods := ms
  attributes := attrs
def plain (name : String) (sup : Option ClassId) : Class where
  name := name
  kind := .ordinary
  loader := none
  accessFlags := 33
  super := sup
  interfaces := #[]
  cf := none
  fields := #[]
  methods := #[]
  instanceTypes := #[]
  staticTypes := #[]
  resolved := #[]
  callSites := []
  init := .initialized
  statics := none
  mirror := none

def pool0 : Array CpInfo := pool [(5, u "<init>"), (0, u "()V"), (1, .class_ 10), (1, u "java/lang/Object")] 113

def k0m0 : Method := { name := "<init>", desc := "()V", sig := { parameters := [], returnType := none }, accessFlags := 1, code := none }
/-- java/lang/Object -/
def k0 : Class := { plain "java/lang/Object" none with
  accessFlags := 33
  interfaces := #[]
  cf := some (fileOf pool0 8 #[] #[{ accessFlags := 1, nameIndex := 5, descriptorIndex := 6, attributes := #[] }] 33 0 #[] #[])
  fields := #[]
  methods := #[k0m0]
  instanceTypes := #[]
  staticTypes := #[]
  resolved := Array.replicate 124 none
  statics := none }

def pool1 : Array CpInfo := pool [(2, .class_ 4), (1, u "java/lang/Object"), (0, u "<init>"), (0, u "()V"), (0, .long 11291846944257947611), (1, .long 5725274745694666757), (1, .long 11400714819323198485), (1, .methodref 14 15), (0, .class_ 16), (0, .nameAndType 17 18), (0, u "com/example/omega_automata_convert/omegaautomataconvert/Combinations"), (0, u "mix"), (0, u "(J)J"), (0, .methodref 20 21), (0, .class_ 22), (0, .nameAndType 23 18), (0, u "com/example/omega_automata_convert/omegaautomataconvert/CombinationsMixPinLaw"), (0, u "unmix"), (2, u "law"), (0, u "(J)Z")] 3

def k1m0 : Method := { name := "<init>", desc := "()V", sig := { parameters := [], returnType := none }, accessFlags := 2, code := none }
def k1c1 : Code := { maxStack := 5, maxLocals := 4, code := method_2_code, exceptionTable := #[], attributes := #[] }
def k1m1 : Method := { name := "unmix", desc := "(J)J", sig := { parameters := [.long], returnType := some .long }, accessFlags := 10, code := some k1c1 }
def k1c2 : Code := { maxStack := 4, maxLocals := 2, code := code, exceptionTable := #[], attributes := #[] }
def k1m2 : Method := { name := "law", desc := "(J)Z", sig := { parameters := [.long], returnType := some .boolean }, accessFlags := 9, code := some k1c2 }
/-- com/example/omega_automata_convert/omegaautomataconvert/CombinationsMixPinLaw -/
def k1 : Class := { plain "com/example/omega_automata_convert/omegaautomataconvert/CombinationsMixPinLaw" (some 0) with
  accessFlags := 49
  interfaces := #[]
  cf := some (fileOf pool1 20 #[] #[{ accessFlags := 2, nameIndex := 5, descriptorIndex := 6, attributes := #[] }, { accessFlags := 10, nameIndex := 23, descriptorIndex := 18, attributes := #[] }, { accessFlags := 9, nameIndex := 26, descriptorIndex := 27, attributes := #[] }] 49 2 #[] #[])
  fields := #[]
  methods := #[k1m0, k1m1, k1m2]
  instanceTypes := #[]
  staticTypes := #[]
  resolved := Array.replicate 31 none
  statics := none }

def pool2 : Array CpInfo := pool [(16, .class_ 18), (1, u "java/util/Iterator"), (12, .class_ 32), (0, u "java/lang/Object")] 20

/-- java/util/Iterator -/
def k2 : Class := { plain "java/util/Iterator" (some 0) with
  accessFlags := 1537
  interfaces := #[]
  cf := some (fileOf pool2 16 #[] #[] 1537 31 #[] #[])
  fields := #[]
  methods := #[]
  instanceTypes := #[]
  staticTypes := #[]
  resolved := Array.replicate 53 none
  statics := none }

def pool3 : Array CpInfo := pool [(1, .long 11400714819323198485), (1, .long 18397679294719823053), (1, .long 14181476777654086739), (2, .class_ 10), (1, u "java/lang/Object"), (6, .class_ 19), (1, u "com/example/omega_automata_convert/omegaautomataconvert/Combinations"), (0, u "reached"), (0, u "Ljava/util/Map;"), (8, u "levels"), (0, u "Ljava/util/List;"), (2, u "walk"), (0, u "Lcom/example/omega_automata_convert/omegaautomataconvert/Combinations$Walk;"), (0, .class_ 37), (0, u "com/example/omega_automata_convert/omegaautomataconvert/Combinations$Union"), (9, u "union"), (0, u "Lcom/example/omega_automata_convert/omegaautomataconvert/Combinations$Union;"), (2, u "nextChoice"), (0, u "[I"), (0, .class_ 54), (0, u "com/example/omega_automata_convert/omegaautomataconvert/Combinations$Reached"), (2, u "path"), (0, u "[Lcom/example/omega_automata_convert/omegaautomataconvert/Combinations$Reached;"), (2, u "START"), (0, u "Lcom/example/omega_automata_convert/omegaautomataconvert/Combinations$Reached;"), (2, u "next"), (0, u "Ljava/lang/Object;"), (2, u "depth"), (0, u "I"), (1, .class_ 74), (1, u "com/example/omega_automata_convert/omegaautomataconvert/Combinations$Walk"), (9, .class_ 85), (0, u "com/example/omega_automata_convert/omegaautomataconvert/Combinations$Choices"), (39, u "mix"), (0, u "(J)J"), (48, .class_ 176), (0, u "java/util/Iterator"), (26, .class_ 204), (0, u "com/example/omega_automata_convert/omegaautomataconvert/Combinations$SetKey"), (0, .class_ 206), (0, u "com/example/omega_automata_convert/omegaautomataconvert/Combinations$Snapshot")] 27

def k3c0 : Code := { maxStack := 5, maxLocals := 6, code := prog_25_method_1_code, exceptionTable := #[], attributes := #[] }
def k3m0 : Method := { name := "mix", desc := "(J)J", sig := { parameters := [.long], returnType := some .long }, accessFlags := 8, code := some k3c0 }
/-- com/example/omega_automata_convert/omegaautomataconvert/Combinations -/
def k3 : Class := { plain "com/example/omega_automata_convert/omegaautomataconvert/Combinations" (some 0) with
  accessFlags := 48
  interfaces := #[2]
  cf := some (fileOf pool3 17 #[.nestMembers #[203, 53, 205, 36, 84, 72]] #[{ accessFlags := 8, nameIndex := 125, descriptorIndex := 126, attributes := #[] }] 48 8 #[175] #[{ accessFlags := 26, nameIndex := 61, descriptorIndex := 62, attributes := #[] }, { accessFlags := 18, nameIndex := 30, descriptorIndex := 31, attributes := #[] }, { accessFlags := 18, nameIndex := 34, descriptorIndex := 35, attributes := #[] }, { accessFlags := 18, nameIndex := 47, descriptorIndex := 48, attributes := #[] }, { accessFlags := 18, nameIndex := 51, descriptorIndex := 52, attributes := #[] }, { accessFlags := 18, nameIndex := 57, descriptorIndex := 58, attributes := #[] }, { accessFlags := 18, nameIndex := 20, descriptorIndex := 21, attributes := #[] }, { accessFlags := 2, nameIndex := 69, descriptorIndex := 70, attributes := #[] }, { accessFlags := 2, nameIndex := 65, descriptorIndex := 66, attributes := #[] }])
  fields := #[{ name := "START", type := (.object "com/example/omega_automata_convert/omegaautomataconvert/Combinations$Reached"), accessFlags := 26, slot := 0, constantValue := 0 }, { name := "levels", type := (.object "java/util/List"), accessFlags := 18, slot := 0, constantValue := 0 }, { name := "walk", type := (.object "com/example/omega_automata_convert/omegaautomataconvert/Combinations$Walk"), accessFlags := 18, slot := 1, constantValue := 0 }, { name := "union", type := (.object "com/example/omega_automata_convert/omegaautomataconvert/Combinations$Union"), accessFlags := 18, slot := 2, constantValue := 0 }, { name := "nextChoice", type := (.array .int), accessFlags := 18, slot := 3, constantValue := 0 }, { name := "path", type := (.array (.object "com/example/omega_automata_convert/omegaautomataconvert/Combinations$Reached")), accessFlags := 18, slot := 4, constantValue := 0 }, { name := "reached", type := (.object "java/util/Map"), accessFlags := 18, slot := 5, constantValue := 0 }, { name := "depth", type := .int, accessFlags := 2, slot := 6, constantValue := 0 }, { name := "next", type := (.object "java/lang/Object"), accessFlags := 2, slot := 7, constantValue := 0 }]
  methods := #[k3m0]
  instanceTypes := #[(.object "java/util/List"), (.object "com/example/omega_automata_convert/omegaautomataconvert/Combinations$Walk"), (.object "com/example/omega_automata_convert/omegaautomataconvert/Combinations$Union"), (.array .int), (.array (.object "com/example/omega_automata_convert/omegaautomataconvert/Combinations$Reached")), (.object "java/util/Map"), .int, (.object "java/lang/Object")]
  staticTypes := #[(.object "com/example/omega_automata_convert/omegaautomataconvert/Combinations$Reached")]
  resolved := Array.replicate 234 none
  statics := none }

def pool4 : Array CpInfo := pool [(1, u "java/lang/Cloneable"), (0, .class_ 1), (0, u "java/lang/Object"), (0, .class_ 3)] 3

/-- java/lang/Cloneable -/
def k4 : Class := { plain "java/lang/Cloneable" (some 0) with
  accessFlags := 1537
  interfaces := #[]
  cf := some (fileOf pool4 2 #[] #[] 1537 4 #[] #[])
  fields := #[]
  methods := #[]
  instanceTypes := #[]
  staticTypes := #[]
  resolved := Array.replicate 8 none
  statics := none }

def pool5 : Array CpInfo := pool [(1, u "java/io/Serializable"), (0, .class_ 1), (0, u "java/lang/Object"), (0, .class_ 3)] 3

/-- java/io/Serializable -/
def k5 : Class := { plain "java/io/Serializable" (some 0) with
  accessFlags := 1537
  interfaces := #[]
  cf := some (fileOf pool5 2 #[] #[] 1537 4 #[] #[])
  fields := #[]
  methods := #[]
  instanceTypes := #[]
  staticTypes := #[]
  resolved := Array.replicate 8 none
  statics := none }

/-- the primitive byte -/
def k6 : Class := { plain "byte" none with kind := .primitive 'B', accessFlags := 0x411 }
/-- [B -/
def k7 : Class := { plain "[B" (some 0) with kind := .array 6 .byte, interfaces := #[4, 5], accessFlags := 1041 }

/-- the primitive int -/
def k8 : Class := { plain "int" none with kind := .primitive 'I', accessFlags := 0x411 }
/-- [I -/
def k9 : Class := { plain "[I" (some 0) with kind := .array 8 .int, interfaces := #[4, 5], accessFlags := 1041 }

def heap : Heap := #[]
def classes : Array Class := #[k0, k1, k2, k3, k4, k5, k6, k7, k8, k9]
def interned : List (Array UInt16 × Addr) := []
def slotsUsed : Nat := 0
def theMethod : MethodId := ⟨1, 2⟩
def args0 : Array Value := #[.long 5]
def aboutOver (below : List Frame) : State where
  vm := { classes := classes, interned := interned.toArray }
  heap := heap
  slotsUsed := slotsUsed
  threads := #[{ frames := .invoking theMethod args0 :: below }]
def below0 : List Frame := [.native { method := ⟨0, 0⟩, args := #[] }]
def about1 : State := aboutOver below0
def p0 : Program := .bare "" "" ""
def e0 : Env := launch0.env 0 0 0
theorem w_frames : about1.frames = Frame.invoking theMethod args0 :: below0 := rfl
set_option maxRecDepth 65536 in
theorem w_args : argsFit about1.vm theMethod args0 = true := by decide +kernel
set_option maxRecDepth 65536 in
theorem w_heap : heapFits about1 = true := by decide +kernel
set_option maxRecDepth 65536 in
theorem w_runnable : about1.curStatus? = some .runnable := by decide +kernel
set_option maxRecDepth 65536 in
theorem w_alone : about1.alone = true := by decide +kernel
set_option maxRecDepth 65536 in
theorem w_named : about1.methodNamed? x = some theMethod := by decide +kernel
set_option maxRecDepth 65536 in
theorem w_hears : about1.hears theMethod below0 = true := by decide +kernel
set_option maxRecDepth 65536 in
theorem w_ripe : about1.ripe theMethod args0 below0 = true := by decide +kernel
theorem w_running : about1.status = .running := rfl
set_option maxRecDepth 65536 in
theorem w_room : about1.hasRoom e0.platform room_1 = true :=
  launch0.hasRoom_least _ room_1 (by decide +kernel) (by decide +kernel) (by decide +kernel) (by decide +kernel) (by decide +kernel) (by decide +kernel)
theorem allAtoms_all (ts : List Jvm.Cond) (a : Array Jvm.Value) (st : Jvm.State) : (allAtoms ts).before a st = ts.all (fun c => c.before a st) := by
  induction ts with
  | nil => rfl
  | cons c t ih =>
    show (Jvm.Cond.and c (allAtoms t)).before a st = _
    rw [Jvm.Cond.before_and, ih, List.all_cons]
def words1 : List Jvm.Cond := Jvm.Cond.code x code maxLocals ret :: tables_1
/-- a 'code' word, met by the world's own term for the bytes: nothing is compared byte by byte -/
theorem code_word {y : MethodName} {bytes : ByteArray} {mx : Nat} {rt : Option FieldType} {a : Array Value} {s : State} {m : MethodId} {meth : Method} {c : Code} (h1 : s.methodNamed? y = some m) (h2 : s.vm.method? m = some meth) (h3 : meth.code = some c) (h4 : c.code = bytes)
    (h5 : (c.maxLocals == mx && c.exceptionTable.isEmpty && decide (c.maxStack ≤ mostOperands) && decide (meth.sig.returnType = rt) && !meth.locks && decide (parseMethodDescriptor y.desc = some meth.sig)) = true) : (Jvm.Cond.code y bytes mx rt).before a s = true := by
  simp only [Bool.and_eq_true, beq_iff_eq, Bool.not_eq_true', decide_eq_true_eq] at h5
  obtain ⟨⟨⟨⟨⟨g1, g2⟩, g3⟩, g4⟩, g5⟩, g6⟩ := h5
  simp [Cond.before, Cond.holds, Cond.value, h1, h2, h3, h4, g1, g2, g3, g4, g5, g6]
def isCode : Jvm.Cond → Bool
  | .code _ _ _ _ => true
  | _ => false
theorem all_split {L : List Jvm.Cond} {P : Jvm.Cond → Bool} (h1 : L.all (fun c => isCode c || P c) = true) (h2 : ∀ c ∈ L.filter isCode, P c = true) : L.all P = true := by
  refine List.all_eq_true.mpr fun c hc => ?_
  have h := List.all_eq_true.mp h1 c hc
  rcases Bool.eq_false_or_eq_true (isCode c) with hi | hi
  · exact h2 c (List.mem_filter.mpr ⟨hc, hi⟩)
  · simpa [hi] using h
set_option maxRecDepth 65536 in
theorem w_c0 : (Jvm.Cond.code x code maxLocals ret).before args0 about1 = true := code_word (m := ⟨1, 2⟩) (meth := k1m2) (c := k1c2) (by decide +kernel) rfl rfl rfl (by decide +kernel)
set_option maxRecDepth 65536 in
theorem w_c1 : (Jvm.Cond.code ({ cls := "com/example/omega_automata_convert/omegaautomataconvert/Combinations", name := "mix", desc := "(J)J" } : Jvm.MethodName) prog_25_method_1_code (6 : Nat) (Option.some Jvm.ClassFile.FieldType.long)).before args0 about1 = true := code_word (m := ⟨3, 0⟩) (meth := k3m0) (c := k3c0) (by decide +kernel) rfl rfl rfl (by decide +kernel)
set_option maxRecDepth 65536 in
theorem w_c2 : (Jvm.Cond.code ({ cls := "com/example/omega_automata_convert/omegaautomataconvert/CombinationsMixPinLaw", name := "unmix", desc := "(J)J" } : Jvm.MethodName) method_2_code (4 : Nat) (Option.some Jvm.ClassFile.FieldType.long)).before args0 about1 = true := code_word (m := ⟨1, 1⟩) (meth := k1m1) (c := k1c1) (by decide +kernel) rfl rfl rfl (by decide +kernel)
def codes1 : List Jvm.Cond := [Jvm.Cond.code x code maxLocals ret, Jvm.Cond.code ({ cls := "com/example/omega_automata_convert/omegaautomataconvert/Combinations", name := "mix", desc := "(J)J" } : Jvm.MethodName) prog_25_method_1_code (6 : Nat) (Option.some Jvm.ClassFile.FieldType.long), Jvm.Cond.code ({ cls := "com/example/omega_automata_convert/omegaautomataconvert/CombinationsMixPinLaw", name := "unmix", desc := "(J)J" } : Jvm.MethodName) method_2_code (4 : Nat) (Option.some Jvm.ClassFile.FieldType.long)]
set_option maxRecDepth 65536 in
theorem codes_eq : words1.filter isCode = codes1 := rfl
theorem w_codes : ∀ c ∈ words1.filter isCode, c.before args0 about1 = true := by
  rw [codes_eq]
  intro c hc
  simp only [codes1, List.mem_cons, List.not_mem_nil, or_false] at hc
  rcases hc with rfl | rfl | rfl
  · exact w_c0
  · exact w_c1
  · exact w_c2
set_option maxRecDepth 65536 in
theorem w_t1 : words1.all (fun c => isCode c || c.before args0 about1) = true := by decide +kernel
theorem w_tables : (allAtoms (Jvm.Cond.code x code maxLocals ret :: tables_1)).before args0 about1 = true := by
  rw [allAtoms_all]
  show words1.all (fun c => c.before args0 about1) = true
  refine all_split ?_ w_codes
  rw [w_t1]
set_option maxRecDepth 65536 in
theorem w_case : (Jvm.Cond.and given_1 narrow_1).before args0 about1 = true := by decide +kernel
theorem w_applies : (headSpec (Jvm.Cond.code x code maxLocals ret :: tables_1) room_1).applies x e0.platform about1 = true :=
  (Spec.applies_iff w_frames).mpr ⟨w_running, w_runnable, w_alone, w_named, w_hears, w_ripe, w_room, w_tables⟩
theorem atStart : AtStart classFile x code maxLocals ret World_1 tables_1 room_1 Calls_1 rest_1 Pre_1 launch0 p0 e0 about1 theMethod args0 below0 :=
  ⟨lists_1, trivial, launch0.admits_env _ _ _, launch0.least_env, fairChoices_fair.cas, fairChoices_fair.clock, w_frames, w_args, w_heap, w_applies, trivial, trivial, w_case⟩
end start1
theorem witness_1 : WitnessClaimed_1 := ⟨start1.p0, start1.e0, start1.about1, start1.theMethod, start1.args0, start1.below0, start1.atStart⟩
end Jvm.Pilot.@@N@@
