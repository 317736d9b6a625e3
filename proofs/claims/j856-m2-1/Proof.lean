import JvmDerived
import JvmDerived.Pilot.@@N@@Statement
import JvmDerived.Pilot.@@N@@Code
set_option linter.unusedVariables false
set_option linter.unusedSimpArgs false
@@BLOCK:NumsL.lean.txt@@
namespace Jvm.RoadKit
open Sem ClassFile Op Lib Jvm.Stand Jvm.Free Jvm.LawKit
section New
variable {p : Program} {l : Launch} {e : Env} {R : Room} {s : State} {m : MethodId} {args : Array Value} {below : List Frame} {meth : Method} {c : Code} {T : State} {locs : List Loc} {cells slots : Nat}
theorem retI (X : Stand p l e R s m args below meth c T locs cells slots) (hx : p.tables.exec = Jvm.exec) {pc : Nat} {Ls : Array Slot} {z : Int32} {rest : List Value} (hret : meth.sig.returnType = some .int) (hd : decode c.code pc = .ok (.ireturn, 1)) {fs : List Frame}
    (hl : ∀ (f : JFrame) (acts : List Action), f.method = m → f.locked = none → f.entered = [] → (doReturn e (T.setTop f) acts (some (.int z))).1 = T.setFrames fs) : Steps p.tables e below (T.setTop (mkF m pc Ls (.int z :: rest))) (T.setFrames fs) :=
  retOut X hx hret rfl (Or.inl ⟨rfl, Or.inl rfl, z, rfl⟩) hd hl
theorem retJ (X : Stand p l e R s m args below meth c T locs cells slots) (hx : p.tables.exec = Jvm.exec) {pc : Nat} {Ls : Array Slot} {z : Int64} {rest : List Value} (hret : meth.sig.returnType = some .long) (hd : decode c.code pc = .ok (.lreturn, 1)) {fs : List Frame}
    (hl : ∀ (f : JFrame) (acts : List Action), f.method = m → f.locked = none → f.entered = [] → (doReturn e (T.setTop f) acts (some (.long z))).1 = T.setFrames fs) : Steps p.tables e below (T.setTop (mkF m pc Ls (.long z :: rest))) (T.setFrames fs) :=
  retOut X hx hret rfl (Or.inr (Or.inl ⟨rfl, rfl, z, rfl⟩)) hd hl
theorem retA (X : Stand p l e R s m args below meth c T locs cells slots) (hx : p.tables.exec = Jvm.exec) {pc : Nat} {Ls : Array Slot} {w : Value} {t : FieldType} {rest : List Value} (hret : meth.sig.returnType = some t) (hn : narrow t w = w) (ht : t.isReference = true ∧ w.isRef = true) (hd : decode c.code pc = .ok (.areturn, 1)) {fs : List Frame}
    (hl : ∀ (f : JFrame) (acts : List Action), f.method = m → f.locked = none → f.entered = [] → (doReturn e (T.setTop f) acts (some w)).1 = T.setFrames fs) : Steps p.tables e below (T.setTop (mkF m pc Ls (w :: rest))) (T.setFrames fs) :=
  retOut X hx hret hn (Or.inr (Or.inr (Or.inr (Or.inr ⟨rfl, ht.1, ht.2⟩)))) hd hl
def Go (p : Program) (e : Env) (below : List Frame) (T : State) (f : JFrame) (Post : Outcome → State → Prop) : Prop :=
  ∃ s₂ o, Steps p.tables e below (T.setTop f) s₂ ∧ s₂.status = .running ∧ Ended s₂ below o ∧ Post o s₂
theorem Go.by {T T' : State} {f f' : JFrame} {Post : Outcome → State → Prop} (st : ∀ t, Steps p.tables e below (T'.setTop f') t → Steps p.tables e below (T.setTop f) t) (k : Go p e below T' f' Post) : Go p e below T f Post := by
  obtain ⟨s2, o, a, b⟩ := k
  exact ⟨s2, o, st _ a, b⟩
theorem Go.start {T : State} {f g : JFrame} {Post : Outcome → State → Prop} (q : f = g) (k : Go p e below T g Post) : ∃ s₂ o, Steps p.tables e below (T.setTop f) s₂ ∧ s₂.status = .running ∧ Ended s₂ below o ∧ Post o s₂ := by
  subst q; exact k
theorem Go.done {T s₂ : State} {f : JFrame} {o : Outcome} {Post : Outcome → State → Prop} (a : Steps p.tables e below (T.setTop f) s₂) (b : s₂.status = .running) (c : Ended s₂ below o) (d : Post o s₂) : Go p e below T f Post := ⟨s₂, o, a, b, c, d⟩
def own_ushr (x y : Int32) : Int32 := (x.toUInt32 >>> (y &&& 31).toUInt32).toInt32
def own_ushrL (x : Int64) (y : Int32) : Int64 := (x.toUInt64 >>> (y &&& 63).toInt64.toUInt64).toInt64
theorem own_cmpV (x y : Int64) : lcmpW x y = lcmpV x y := lcW x y
theorem own_holdsLt (z : Int32) : ifCond.holds .lt z = decide (z < 0) := rfl
theorem own_holdsGe (z : Int32) : ifCond.holds .ge z = decide (z ≥ 0) := rfl
theorem own_holdsGt (z : Int32) : ifCond.holds .gt z = decide (z > 0) := rfl
theorem own_holdsLe (z : Int32) : ifCond.holds .le z = decide (z ≤ 0) := rfl
theorem own_holdsEq (z : Int32) : ifCond.holds .eq z = (z == 0) := rfl
theorem own_holdsNe (z : Int32) : ifCond.holds .ne z = (z != 0) := rfl
theorem ctlt {x y : Int64} (h : x < y) : ifCond.holds .lt (lcmpW x y) = true ∧ ifCond.holds .ge (lcmpW x y) = false ∧ ifCond.holds .gt (lcmpW y x) = true ∧ ifCond.holds .le (lcmpW y x) = false := by
  rw [own_holdsLt, own_holdsGe, own_holdsGt, own_holdsLe, own_cmpV, own_cmpV]
  refine ⟨decide_eq_true ((lc_lt x y).mpr h), decide_eq_false fun q => ?_, decide_eq_true ((lc_gt y x).mpr h), decide_eq_false fun q => ?_⟩
  · exact Int64.not_le.mpr h ((lc_ge x y).mp q)
  · exact Int64.not_le.mpr h ((lc_le y x).mp q)
theorem cflt {x y : Int64} (h : ¬ x < y) : ifCond.holds .lt (lcmpW x y) = false ∧ ifCond.holds .ge (lcmpW x y) = true ∧ ifCond.holds .gt (lcmpW y x) = false ∧ ifCond.holds .le (lcmpW y x) = true := by
  rw [own_holdsLt, own_holdsGe, own_holdsGt, own_holdsLe, own_cmpV, own_cmpV]
  exact ⟨decide_eq_false fun q => h ((lc_lt x y).mp q), decide_eq_true ((lc_ge x y).mpr (Int64.not_lt.mp h)), decide_eq_false fun q => h ((lc_gt y x).mp q), decide_eq_true ((lc_le y x).mpr (Int64.not_lt.mp h))⟩
theorem cteq {x y : Int64} (h : x = y) : ifCond.holds .eq (lcmpW x y) = true ∧ ifCond.holds .ne (lcmpW x y) = false := by
  rw [own_holdsEq, own_holdsNe, own_cmpV, (lc_eq x y).mpr h]; exact ⟨rfl, rfl⟩
theorem cfeq {x y : Int64} (h : ¬ x = y) : ifCond.holds .eq (lcmpW x y) = false ∧ ifCond.holds .ne (lcmpW x y) = true := by
  have q : ¬ lcmpV x y = 0 := fun r => h ((lc_eq x y).mp r)
  rw [own_holdsEq, own_holdsNe, own_cmpV]
  exact ⟨beq_false_of_ne q, bne_iff_ne.mpr q⟩
theorem Arr.keep {Z : State} {h h' : Heap} {a : Addr} {cl : Cell} {ty : FieldType} {ws : List Addr} (F : Arr Z h a cl ty) (K : Keep h h' ws) (q : a ∉ ws) : Arr Z h' a cl ty := ⟨K.2.1 a cl F.1 q, F.2⟩
theorem own_selPriv {y : MethodName} {s : State} {args : Array Value} {n : Nat} (hy : y.cls ≠ "java/lang/invoke/MethodHandle" ∧ y.cls ≠ "java/lang/invoke/VarHandle") (hins : (Cond.instantiable y.cls n).before args s = true) (hpriv : (Cond.privateMethod y).before args s = true) (hinst : (Cond.instanceMethod y).before args s = true) :
    (Cond.selects y.cls y y).before args s = true := by
  obtain ⟨c, k, hc, hk, -, hniab, -, -⟩ := Cond.instantiable_spec hins
  have hni : k.isInterface = false := (Bool.or_eq_false_iff.mp hniab).1
  obtain ⟨mk, methM, hnamed, hmethM, -, -⟩ := Cond.instanceMethod_spec hinst
  have hfound : s.methodFound? y.cls y.name y.desc = some mk := State.methodFound?_of_named hnamed hy
  have hcls : mk.cls = c := Option.some.inj ((findClass_of_methodNamed hnamed).symm.trans hc)
  have hsel : selectMethod {} s.vm c mk = .method mk := selectMethod_private hmethM (Cond.privateMethod_at hpriv mk methM hnamed hmethM)
  simp only [Cond.before, Cond.holds, Cond.value, hc, hfound, hnamed, hsel, hcls, hk]
  simp; exact hni
end New
end Jvm.RoadKit
namespace Jvm.Pilot.@@N@@
open Jvm Jvm.ClassFile Sem Op Lib Jvm.Free Jvm.Stand Jvm.LawKit Jvm.RoadKit Bundle Jvm.Pilot.@@N@@.Jvm.D
theorem d1_0 : decode prog_25_method_1_code 0 = .ok (.aload_n 0, 1) := by decide +kernel
theorem d1_1 : decode prog_25_method_1_code 1 = .ok (.invokespecial 1, 3) := by decide +kernel
theorem d1_4 : decode prog_25_method_1_code 4 = .ok (.iload_n 1, 1) := by decide +kernel
theorem d1_5 : decode prog_25_method_1_code 5 = .ok (.ifCond .lt 10, 3) := by decide +kernel
theorem d1_8 : decode prog_25_method_1_code 8 = .ok (.iload_n 1, 1) := by decide +kernel
theorem d1_9 : decode prog_25_method_1_code 9 = .ok (.sipush 255, 3) := by decide +kernel
theorem d1_12 : decode prog_25_method_1_code 12 = .ok (.if_icmp .le 17, 3) := by decide +kernel
theorem d1_29 : decode prog_25_method_1_code 29 = .ok (.iload_n 2, 1) := by decide +kernel
theorem d1_30 : decode prog_25_method_1_code 30 = .ok (.ifCond .ge 17, 3) := by decide +kernel
theorem d1_47 : decode prog_25_method_1_code 47 = .ok (.lload_n 3, 1) := by decide +kernel
theorem d1_48 : decode prog_25_method_1_code 48 = .ok (.lconst 0, 1) := by decide +kernel
theorem d1_49 : decode prog_25_method_1_code 49 = .ok (.lcmp, 1) := by decide +kernel
theorem d1_50 : decode prog_25_method_1_code 50 = .ok (.ifCond .lt 11, 3) := by decide +kernel
theorem d1_53 : decode prog_25_method_1_code 53 = .ok (.lload_n 3, 1) := by decide +kernel
theorem d1_54 : decode prog_25_method_1_code 54 = .ok (.ldc2_w 17, 3) := by decide +kernel
theorem d1_57 : decode prog_25_method_1_code 57 = .ok (.lcmp, 1) := by decide +kernel
theorem d1_58 : decode prog_25_method_1_code 58 = .ok (.ifCond .le 17, 3) := by decide +kernel
theorem d1_75 : decode prog_25_method_1_code 75 = .ok (.aload 5, 2) := by decide +kernel
theorem d1_77 : decode prog_25_method_1_code 77 = .ok (.arraylength, 1) := by decide +kernel
theorem d1_78 : decode prog_25_method_1_code 78 = .ok (.ldc 24, 2) := by decide +kernel
theorem d1_80 : decode prog_25_method_1_code 80 = .ok (.if_icmp .le 19, 3) := by decide +kernel
theorem d1_99 : decode prog_25_method_1_code 99 = .ok (.aload_n 0, 1) := by decide +kernel
theorem d1_100 : decode prog_25_method_1_code 100 = .ok (.iload_n 1, 1) := by decide +kernel
theorem d1_101 : decode prog_25_method_1_code 101 = .ok (.putfield 26, 3) := by decide +kernel
theorem d1_104 : decode prog_25_method_1_code 104 = .ok (.aload_n 0, 1) := by decide +kernel
theorem d1_105 : decode prog_25_method_1_code 105 = .ok (.iload_n 2, 1) := by decide +kernel
theorem d1_106 : decode prog_25_method_1_code 106 = .ok (.putfield 30, 3) := by decide +kernel
theorem d1_109 : decode prog_25_method_1_code 109 = .ok (.aload_n 0, 1) := by decide +kernel
theorem d1_110 : decode prog_25_method_1_code 110 = .ok (.lload_n 3, 1) := by decide +kernel
theorem d1_111 : decode prog_25_method_1_code 111 = .ok (.putfield 33, 3) := by decide +kernel
theorem d1_114 : decode prog_25_method_1_code 114 = .ok (.aload_n 0, 1) := by decide +kernel
theorem d1_115 : decode prog_25_method_1_code 115 = .ok (.aload 5, 2) := by decide +kernel
theorem d1_117 : decode prog_25_method_1_code 117 = .ok (.putfield 37, 3) := by decide +kernel
theorem d1_120 : decode prog_25_method_1_code 120 = .ok (.return_, 1) := by decide +kernel
theorem pn_0 : plainName "com/example/chunkwire/chunkwire/model/RtmpMessage" = true := by first | (simp [plainName, overriddenIn]; done) | decide +kernel
theorem ef_1 (m : MethodId) (x0 : Addr) (x1 : Int32) (x2 : Int32) (x3 : Int64) (x4 : Addr) : entryFrame m #[(.ref x0), (.int x1), (.int x2), (.long x3), (.ref x4)] 6 = mkF m 0 #[.val (.ref x0), .val (.int x1), .val (.int x2), .val (.long x3), .second, .val (.ref x4)] [] := by first | (simp [entryFrame, mkF, argsToLocals, Value.category]; done) | rfl
def Q1 (Z : State) (a1 : Addr) (p2 : Int32) (p3 : Int32) (q4 : Int64) (a5 : Addr) (u_type : Value) (u_streamId : Value) (u_timestamp : Value) (u_payload : Value) (cl : Cell) (zn : Int32) (h0 : Heap) (n0 : Nat) (v : Option Value) (h : Heap) (L : List Loc) : Prop := v = none ∧ Fr n0 L ∧ Keep h0 h [a1] ∧ Exa Z h a1 "com/example/chunkwire/chunkwire/model/RtmpMessage" ∧ Fld Z h a1 "com/example/chunkwire/chunkwire/model/RtmpMessage" "type" "I" (.int p2) ∧ Fld Z h a1 "com/example/chunkwire/chunkwire/model/RtmpMessage" "streamId" "I" (.int p3) ∧ Fld Z h a1 "com/example/chunkwire/chunkwire/model/RtmpMessage" "timestamp" "J" (.long q4) ∧ Fld Z h a1 "com/example/chunkwire/chunkwire/model/RtmpMessage" "payload" "[B" (.ref a5)
set_option maxRecDepth 65536 in
set_option maxHeartbeats 40000000 in
theorem rm1 (l : Launch) (Z : State) (a0 : Array Value) (hw : ∀ d ∈ tables_1, d.before a0 Z = true) (ws : List Jvm.Cond) (a1 : Addr) (p2 : Int32) (p3 : Int32) (q4 : Int64) (a5 : Addr) (u_type : Value) (u_streamId : Value) (u_timestamp : Value) (u_payload : Value) (cl : Cell) (zn : Int32) (h0 : Heap) (n0 : Nat) (Z0 : n0 ≤ h0.size) (E1 : Exa Z h0 a1 "com/example/chunkwire/chunkwire/model/RtmpMessage") (F_type : Fld Z h0 a1 "com/example/chunkwire/chunkwire/model/RtmpMessage" "type" "I" u_type) (F_streamId : Fld Z h0 a1 "com/example/chunkwire/chunkwire/model/RtmpMessage" "streamId" "I" u_streamId) (F_timestamp : Fld Z h0 a1 "com/example/chunkwire/chunkwire/model/RtmpMessage" "timestamp" "J" u_timestamp) (F_payload : Fld Z h0 a1 "com/example/chunkwire/chunkwire/model/RtmpMessage" "payload" "[B" u_payload) (g1 : n0 ≤ a1) (Ar : Arr Z h0 a5 cl .byte) (Sz : cl.slots.size = zn.toNatClampNeg) (Mz : ¬ zn < 0) (hp1 : ¬ p2 < (0 : Int32)) (hp2 : ¬ (255 : Int32) < p2) (hp3 : ¬ p3 < (0 : Int32)) (hp4 : ¬ q4 < (0 : Int64)) (hp5 : ¬ (4294967295 : Int64) < q4) (hp6 : ¬ (16777215 : Int32) < zn) :
    MetFree l (⟨"com/example/chunkwire/chunkwire/model/RtmpMessage", "<init>", "(IIJ[B)V"⟩ : MethodName) (head1 (Jvm.Cond.code (⟨"com/example/chunkwire/chunkwire/model/RtmpMessage", "<init>", "(IIJ[B)V"⟩ : MethodName) prog_25_method_1_code 6 none :: ws) ({ frames := 1, cells := 0, slots := 0, locals := 12 } : Room)) (fun a U => a = #[(.ref a1), (.int p2), (.int p3), (.long q4), (.ref a5)] ∧ Z.Warmed39 U.vm ∧ U.heap = h0) (fun _ _ _ _ _ => True) (fun _ U o U' => ∃ v L, o = .returned v ∧ Q1 Z a1 p2 p3 q4 a5 u_type u_streamId u_timestamp u_payload cl zn h0 n0 v U'.heap L ∧ FrameEnd U o U' L ({ frames := 1, cells := 0, slots := 0, locals := 12 } : Room).cells ({ frames := 1, cells := 0, slots := 0, locals := 12 } : Room).slots) := by
  refine MetFree.of_bodySF (plainFor_of_name pn_0) hisR ?_
  intro p e s m args below meth c s₁ Bd hml0 hP hK
  obtain ⟨rfl, hZ, hh⟩ := hP
  have hx := Bd.exec
  have hby := Bd.bytes
  have hml : c.maxLocals = 6 := hml0
  have hown : s.vm.findClass "com/example/chunkwire/chunkwire/model/RtmpMessage" = some m.cls := findClass_of_methodNamed Bd.named
  have hnm := (name_of_methodNamed Bd.named Bd.method).1
  have X0 : Stand p l e ({ frames := 1, cells := 0, slots := 0, locals := 12 } : Room) s m #[(.ref a1), (.int p2), (.int p3), (.long q4), (.ref a5)] below meth c s₁ [] 0 0 := Stand.of_body Bd
  have e0 : s₁.heap = h0 := by rw [← hh, Bd.state]; rfl
  have N0 := Fr.nil n0
  refine Go.start (ef_1 m a1 p2 p3 q4 a5) ?_
  show Go p e below s₁ (mkF m 0 #[.val (.ref a1), .val (.int p2), .val (.int p3), .val (.long q4), .second, .val (.ref a5)] []) _
  have K0 := Keep.refl h0 [a1]
  refine Go.by (fun t k => XS.aloadN X0.here hx rfl (hb hby d1_0) rfl rfl k) ?_
  show Go p e below s₁ (mkF m 1 #[.val (.ref a1), .val (.int p2), .val (.int p3), .val (.long q4), .second, .val (.ref a5)] [(.ref a1)]) _
  obtain ⟨T1, X1, e1, st1⟩ := initO X0 hx hZ hown (hw _ (List.mem_of_getElem? (i := 7) rfl)) (hw _ (List.mem_of_getElem? (i := 8) rfl)) (hw _ (List.mem_of_getElem? (i := 9) rfl)) e0 (g := (mkF m 1 #[.val (.ref a1), .val (.int p2), .val (.int p3), .val (.long q4), .second, .val (.ref a5)] [(.ref a1)])) rfl (by rw [hml]; rfl) rfl (hb hby d1_1) (by decide) (W := 0) (by show 2 * 0 + _ ≤ _; exact Nat.le_of_eq rfl) (by decide)
  refine Go.by st1 ?_
  show Go p e below T1 (mkF m 4 #[.val (.ref a1), .val (.int p2), .val (.int p3), .val (.long q4), .second, .val (.ref a5)] []) _
  refine Go.by (fun t k => XS.iloadN X1.here hx rfl (hb hby d1_4) rfl k) ?_
  show Go p e below T1 (mkF m 5 #[.val (.ref a1), .val (.int p2), .val (.int p3), .val (.long q4), .second, .val (.ref a5)] [(.int p2)]) _
  refine Go.by (fun t k => XS.ifNo X1.here hx rfl (hb hby d1_5) rfl ((if0 _ _).trans (flt (show ¬ (p2 < (0 : Int32)) from hp1)).1) k) ?_
  show Go p e below T1 (mkF m 8 #[.val (.ref a1), .val (.int p2), .val (.int p3), .val (.long q4), .second, .val (.ref a5)] []) _
  refine Go.by (fun t k => XS.iloadN X1.here hx rfl (hb hby d1_8) rfl k) ?_
  show Go p e below T1 (mkF m 9 #[.val (.ref a1), .val (.int p2), .val (.int p3), .val (.long q4), .second, .val (.ref a5)] [(.int p2)]) _
  refine Go.by (fun t k => XS.sipush X1.here hx rfl (hb hby d1_9) k) ?_
  show Go p e below T1 (mkF m 12 #[.val (.ref a1), .val (.int p2), .val (.int p3), .val (.long q4), .second, .val (.ref a5)] [(.int (255 : Int32)), (.int p2)]) _
  refine Go.by (fun t k => XS.icmpYes X1.here hx rfl (pc0 := 12) (pc' := 29) rfl (hb hby d1_12) rfl (flt (show ¬ ((255 : Int32) < p2) from hp2)).2.2.2 (by decide) (by decide) k) ?_
  show Go p e below T1 (mkF m 29 #[.val (.ref a1), .val (.int p2), .val (.int p3), .val (.long q4), .second, .val (.ref a5)] []) _
  refine Go.by (fun t k => XS.iloadN X1.here hx rfl (hb hby d1_29) rfl k) ?_
  show Go p e below T1 (mkF m 30 #[.val (.ref a1), .val (.int p2), .val (.int p3), .val (.long q4), .second, .val (.ref a5)] [(.int p3)]) _
  refine Go.by (fun t k => XS.ifYes X1.here hx rfl (pc0 := 30) (pc' := 47) rfl (hb hby d1_30) rfl ((if0 _ _).trans (flt (show ¬ (p3 < (0 : Int32)) from hp3)).2.1) (by decide) (by decide) k) ?_
  show Go p e below T1 (mkF m 47 #[.val (.ref a1), .val (.int p2), .val (.int p3), .val (.long q4), .second, .val (.ref a5)] []) _
  refine Go.by (fun t k => XS.lloadN X1.here hx rfl (hb hby d1_47) rfl k) ?_
  show Go p e below T1 (mkF m 48 #[.val (.ref a1), .val (.int p2), .val (.int p3), .val (.long q4), .second, .val (.ref a5)] [(.long q4)]) _
  refine Go.by (fun t k => XS.lconst X1.here hx rfl (hb hby d1_48) k) ?_
  show Go p e below T1 (mkF m 49 #[.val (.ref a1), .val (.int p2), .val (.int p3), .val (.long q4), .second, .val (.ref a5)] [(.long (0 : Int64)), (.long q4)]) _
  refine Go.by (fun t k => XS.lcmp X1.here hx rfl (hb hby d1_49) rfl k) ?_
  show Go p e below T1 (mkF m 50 #[.val (.ref a1), .val (.int p2), .val (.int p3), .val (.long q4), .second, .val (.ref a5)] [(.int (lcmpW q4 (0 : Int64)))]) _
  refine Go.by (fun t k => XS.ifNo X1.here hx rfl (hb hby d1_50) rfl (cflt (show ¬ (q4 < (0 : Int64)) from hp4)).1 k) ?_
  show Go p e below T1 (mkF m 53 #[.val (.ref a1), .val (.int p2), .val (.int p3), .val (.long q4), .second, .val (.ref a5)] []) _
  refine Go.by (fun t k => XS.lloadN X1.here hx rfl (hb hby d1_53) rfl k) ?_
  show Go p e below T1 (mkF m 54 #[.val (.ref a1), .val (.int p2), .val (.int p3), .val (.long q4), .second, .val (.ref a5)] [(.long q4)]) _
  refine Go.by (fun t k => X1.ldc2Long hx hown (mvT hZ (hw _ (List.mem_of_getElem? (i := 10) rfl))) (g := (mkF m 54 #[.val (.ref a1), .val (.int p2), .val (.int p3), .val (.long q4), .second, .val (.ref a5)] [(.long q4)])) rfl (hb hby d1_54) t k) ?_
  show Go p e below T1 (mkF m 57 #[.val (.ref a1), .val (.int p2), .val (.int p3), .val (.long q4), .second, .val (.ref a5)] [(.long (4294967295 : Int64)), (.long q4)]) _
  refine Go.by (fun t k => XS.lcmp X1.here hx rfl (hb hby d1_57) rfl k) ?_
  show Go p e below T1 (mkF m 58 #[.val (.ref a1), .val (.int p2), .val (.int p3), .val (.long q4), .second, .val (.ref a5)] [(.int (lcmpW q4 (4294967295 : Int64)))]) _
  refine Go.by (fun t k => XS.ifYes X1.here hx rfl (pc0 := 58) (pc' := 75) rfl (hb hby d1_58) rfl (cflt (show ¬ ((4294967295 : Int64) < q4) from hp5)).2.2.2 (by decide) (by decide) k) ?_
  show Go p e below T1 (mkF m 75 #[.val (.ref a1), .val (.int p2), .val (.int p3), .val (.long q4), .second, .val (.ref a5)] []) _
  refine Go.by (fun t k => XS.aload X1.here hx rfl (hb hby d1_75) rfl rfl k) ?_
  show Go p e below T1 (mkF m 77 #[.val (.ref a1), .val (.int p2), .val (.int p3), .val (.long q4), .second, .val (.ref a5)] [(.ref a5)]) _
  refine Go.by (fun t k => X1.arraylength hx (cell := cl) (by rw [e1]; exact Ar.1) (State.isArrayOf_alike hZ.alike Ar.2.1) (g := (mkF m 77 #[.val (.ref a1), .val (.int p2), .val (.int p3), .val (.long q4), .second, .val (.ref a5)] [(.ref a5)])) rfl (rest := []) rfl (hb hby d1_77) t k) ?_
  rw [len_of Sz Mz]
  show Go p e below T1 (mkF m 78 #[.val (.ref a1), .val (.int p2), .val (.int p3), .val (.long q4), .second, .val (.ref a5)] [(.int zn)]) _
  refine Go.by (fun t k => X1.ldcInt hx hown (mvT hZ (hw _ (List.mem_of_getElem? (i := 11) rfl))) (g := (mkF m 78 #[.val (.ref a1), .val (.int p2), .val (.int p3), .val (.long q4), .second, .val (.ref a5)] [(.int zn)])) rfl (hb hby d1_78) t k) ?_
  show Go p e below T1 (mkF m 80 #[.val (.ref a1), .val (.int p2), .val (.int p3), .val (.long q4), .second, .val (.ref a5)] [(.int (16777215 : Int32)), (.int zn)]) _
  refine Go.by (fun t k => XS.icmpYes X1.here hx rfl (pc0 := 80) (pc' := 99) rfl (hb hby d1_80) rfl (flt (show ¬ ((16777215 : Int32) < zn) from hp6)).2.2.2 (by decide) (by decide) k) ?_
  show Go p e below T1 (mkF m 99 #[.val (.ref a1), .val (.int p2), .val (.int p3), .val (.long q4), .second, .val (.ref a5)] []) _
  refine Go.by (fun t k => XS.aloadN X1.here hx rfl (hb hby d1_99) rfl rfl k) ?_
  show Go p e below T1 (mkF m 100 #[.val (.ref a1), .val (.int p2), .val (.int p3), .val (.long q4), .second, .val (.ref a5)] [(.ref a1)]) _
  refine Go.by (fun t k => XS.iloadN X1.here hx rfl (hb hby d1_100) rfl k) ?_
  show Go p e below T1 (mkF m 101 #[.val (.ref a1), .val (.int p2), .val (.int p3), .val (.long q4), .second, .val (.ref a5)] [(.int p2), (.ref a1)]) _
  obtain ⟨T2, h2, X2, e2, W2, st2⟩ := putF X1 hx hZ hown (host := "") (Or.inl (hw _ (List.mem_of_getElem? (i := 12) rfl))) Via.refl e1 F_type E1 (Or.inr ⟨(hw _ (List.mem_of_getElem? (i := 13) rfl)), rfl, hnm⟩) (hw _ (List.mem_of_getElem? (i := 2) rfl)) (ty := .int) (by decide) rfl rfl (g := (mkF m 101 #[.val (.ref a1), .val (.int p2), .val (.int p3), .val (.long q4), .second, .val (.ref a5)] [(.int p2), (.ref a1)])) rfl rfl (hb hby d1_101)
  have F2 := F_type.same W2
  have N2 := Fr.snoc X2 N0 g1
  have Z2 : n0 ≤ h2.size := by rw [W2.size]; exact Z0
  have K2 := K0.wr W2 (Or.inl (List.mem_of_getElem? (i := 0) rfl))
  refine Go.by st2 ?_
  show Go p e below T2 (mkF m 104 #[.val (.ref a1), .val (.int p2), .val (.int p3), .val (.long q4), .second, .val (.ref a5)] []) _
  refine Go.by (fun t k => XS.aloadN X2.here hx rfl (hb hby d1_104) rfl rfl k) ?_
  show Go p e below T2 (mkF m 105 #[.val (.ref a1), .val (.int p2), .val (.int p3), .val (.long q4), .second, .val (.ref a5)] [(.ref a1)]) _
  refine Go.by (fun t k => XS.iloadN X2.here hx rfl (hb hby d1_105) rfl k) ?_
  show Go p e below T2 (mkF m 106 #[.val (.ref a1), .val (.int p2), .val (.int p3), .val (.long q4), .second, .val (.ref a5)] [(.int p3), (.ref a1)]) _
  have fa3 := F_streamId.other W2 (Or.inr (slot_ne (Or.inr (hw _ (List.mem_of_getElem? (i := 15) rfl))) (Or.inr (hw _ (List.mem_of_getElem? (i := 13) rfl))) (by decide) (t := .int) (t' := .int) (by decide) (by decide)))
  have fa4 := E1.wr W2
  obtain ⟨T5, h5, X5, e5, W5, st5⟩ := putF X2 hx hZ hown (host := "") (Or.inl (hw _ (List.mem_of_getElem? (i := 14) rfl))) Via.refl e2 fa3 fa4 (Or.inr ⟨(hw _ (List.mem_of_getElem? (i := 15) rfl)), rfl, hnm⟩) (hw _ (List.mem_of_getElem? (i := 2) rfl)) (ty := .int) (by decide) rfl rfl (g := (mkF m 106 #[.val (.ref a1), .val (.int p2), .val (.int p3), .val (.long q4), .second, .val (.ref a5)] [(.int p3), (.ref a1)])) rfl rfl (hb hby d1_106)
  have F5 := fa3.same W5
  have N5 := Fr.snoc X5 N2 g1
  have Z5 : n0 ≤ h5.size := by rw [W5.size]; exact Z2
  have K5 := K2.wr W5 (Or.inl (List.mem_of_getElem? (i := 0) rfl))
  refine Go.by st5 ?_
  show Go p e below T5 (mkF m 109 #[.val (.ref a1), .val (.int p2), .val (.int p3), .val (.long q4), .second, .val (.ref a5)] []) _
  refine Go.by (fun t k => XS.aloadN X5.here hx rfl (hb hby d1_109) rfl rfl k) ?_
  show Go p e below T5 (mkF m 110 #[.val (.ref a1), .val (.int p2), .val (.int p3), .val (.long q4), .second, .val (.ref a5)] [(.ref a1)]) _
  refine Go.by (fun t k => XS.lloadN X5.here hx rfl (hb hby d1_110) rfl k) ?_
  show Go p e below T5 (mkF m 111 #[.val (.ref a1), .val (.int p2), .val (.int p3), .val (.long q4), .second, .val (.ref a5)] [(.long q4), (.ref a1)]) _
  have fa6 := F_timestamp.other W2 (Or.inr (slot_ne (Or.inr (hw _ (List.mem_of_getElem? (i := 17) rfl))) (Or.inr (hw _ (List.mem_of_getElem? (i := 13) rfl))) (by decide) (t := .long) (t' := .int) (by decide) (by decide)))
  have fa7 := fa6.other W5 (Or.inr (slot_ne (Or.inr (hw _ (List.mem_of_getElem? (i := 17) rfl))) (Or.inr (hw _ (List.mem_of_getElem? (i := 15) rfl))) (by decide) (t := .long) (t' := .int) (by decide) (by decide)))
  have fa8 := fa4.wr W5
  obtain ⟨T9, h9, X9, e9, W9, st9⟩ := putF X5 hx hZ hown (host := "") (Or.inl (hw _ (List.mem_of_getElem? (i := 16) rfl))) Via.refl e5 fa7 fa8 (Or.inr ⟨(hw _ (List.mem_of_getElem? (i := 17) rfl)), rfl, hnm⟩) (hw _ (List.mem_of_getElem? (i := 2) rfl)) (ty := .long) (by decide) rfl rfl (g := (mkF m 111 #[.val (.ref a1), .val (.int p2), .val (.int p3), .val (.long q4), .second, .val (.ref a5)] [(.long q4), (.ref a1)])) rfl rfl (hb hby d1_111)
  have F9 := fa7.same W9
  have N9 := Fr.snoc X9 N5 g1
  have Z9 : n0 ≤ h9.size := by rw [W9.size]; exact Z5
  have K9 := K5.wr W9 (Or.inl (List.mem_of_getElem? (i := 0) rfl))
  refine Go.by st9 ?_
  show Go p e below T9 (mkF m 114 #[.val (.ref a1), .val (.int p2), .val (.int p3), .val (.long q4), .second, .val (.ref a5)] []) _
  refine Go.by (fun t k => XS.aloadN X9.here hx rfl (hb hby d1_114) rfl rfl k) ?_
  show Go p e below T9 (mkF m 115 #[.val (.ref a1), .val (.int p2), .val (.int p3), .val (.long q4), .second, .val (.ref a5)] [(.ref a1)]) _
  refine Go.by (fun t k => XS.aload X9.here hx rfl (hb hby d1_115) rfl rfl k) ?_
  show Go p e below T9 (mkF m 117 #[.val (.ref a1), .val (.int p2), .val (.int p3), .val (.long q4), .second, .val (.ref a5)] [(.ref a5), (.ref a1)]) _
  have fa10 := F_payload.other W2 (Or.inr (slot_ne (Or.inr (hw _ (List.mem_of_getElem? (i := 19) rfl))) (Or.inr (hw _ (List.mem_of_getElem? (i := 13) rfl))) (by decide) (t := (.array .byte)) (t' := .int) (by decide) (by decide)))
  have fa11 := fa10.other W5 (Or.inr (slot_ne (Or.inr (hw _ (List.mem_of_getElem? (i := 19) rfl))) (Or.inr (hw _ (List.mem_of_getElem? (i := 15) rfl))) (by decide) (t := (.array .byte)) (t' := .int) (by decide) (by decide)))
  have fa12 := fa11.other W9 (Or.inr (slot_ne (Or.inr (hw _ (List.mem_of_getElem? (i := 19) rfl))) (Or.inr (hw _ (List.mem_of_getElem? (i := 17) rfl))) (by decide) (t := (.array .byte)) (t' := .long) (by decide) (by decide)))
  have fa13 := fa8.wr W9
  obtain ⟨T14, h14, X14, e14, W14, st14⟩ := putF X9 hx hZ hown (host := "") (Or.inl (hw _ (List.mem_of_getElem? (i := 18) rfl))) Via.refl e9 fa12 fa13 (Or.inr ⟨(hw _ (List.mem_of_getElem? (i := 19) rfl)), rfl, hnm⟩) (hw _ (List.mem_of_getElem? (i := 2) rfl)) (ty := (.array .byte)) (by decide) rfl rfl (g := (mkF m 117 #[.val (.ref a1), .val (.int p2), .val (.int p3), .val (.long q4), .second, .val (.ref a5)] [(.ref a5), (.ref a1)])) rfl rfl (hb hby d1_117)
  have F14 := fa12.same W14
  have N14 := Fr.snoc X14 N9 g1
  have Z14 : n0 ≤ h14.size := by rw [W14.size]; exact Z9
  have K14 := K9.wr W14 (Or.inl (List.mem_of_getElem? (i := 0) rfl))
  refine Go.by st14 ?_
  show Go p e below T14 (mkF m 120 #[.val (.ref a1), .val (.int p2), .val (.int p3), .val (.long q4), .second, .val (.ref a5)] []) _
  obtain ⟨fs, hr, hrun, hended, hW, hsame⟩ := X14.leave (v := none) (fun _ => rfl)
  refine Go.done (X14.returnOut hx Bd.returns (hb hby d1_120) hr) hrun hended ⟨_, _, rfl, ?_, ⟨_, rfl⟩, hW, hsame.mono (by decide) (by decide)⟩
  show Q1 Z a1 p2 p3 q4 a5 u_type u_streamId u_timestamp u_payload cl zn h0 n0 _ T14.heap _
  rw [e14]
  have fa15 := fa13.wr W14
  have fa16 := F2.other W5 (Or.inr (slot_ne (Or.inr (hw _ (List.mem_of_getElem? (i := 13) rfl))) (Or.inr (hw _ (List.mem_of_getElem? (i := 15) rfl))) (by decide) (t := .int) (t' := .int) (by decide) (by decide)))
  have fa17 := fa16.other W9 (Or.inr (slot_ne (Or.inr (hw _ (List.mem_of_getElem? (i := 13) rfl))) (Or.inr (hw _ (List.mem_of_getElem? (i := 17) rfl))) (by decide) (t := .int) (t' := .long) (by decide) (by decide)))
  have fa18 := fa17.other W14 (Or.inr (slot_ne (Or.inr (hw _ (List.mem_of_getElem? (i := 13) rfl))) (Or.inr (hw _ (List.mem_of_getElem? (i := 19) rfl))) (by decide) (t := .int) (t' := (.array .byte)) (by decide) (by decide)))
  have fa19 := F5.other W9 (Or.inr (slot_ne (Or.inr (hw _ (List.mem_of_getElem? (i := 15) rfl))) (Or.inr (hw _ (List.mem_of_getElem? (i := 17) rfl))) (by decide) (t := .int) (t' := .long) (by decide) (by decide)))
  have fa20 := fa19.other W14 (Or.inr (slot_ne (Or.inr (hw _ (List.mem_of_getElem? (i := 15) rfl))) (Or.inr (hw _ (List.mem_of_getElem? (i := 19) rfl))) (by decide) (t := .int) (t' := (.array .byte)) (by decide) (by decide)))
  have fa21 := F9.other W14 (Or.inr (slot_ne (Or.inr (hw _ (List.mem_of_getElem? (i := 17) rfl))) (Or.inr (hw _ (List.mem_of_getElem? (i := 19) rfl))) (by decide) (t := .long) (t' := (.array .byte)) (by decide) (by decide)))
  exact ⟨rfl, N14, K14, fa15, fa18, fa20, fa21, F14⟩
theorem d5_0 : decode prog_25_method_2_code 0 = .ok (.aload_n 0, 1) := by decide +kernel
theorem d5_1 : decode prog_25_method_2_code 1 = .ok (.getfield 26, 3) := by decide +kernel
theorem d5_4 : decode prog_25_method_2_code 4 = .ok (.ireturn, 1) := by decide +kernel
theorem ef_5 (m : MethodId) (x0 : Addr) : entryFrame m #[(.ref x0)] 1 = mkF m 0 #[.val (.ref x0)] [] := by first | (simp [entryFrame, mkF, argsToLocals, Value.category]; done) | rfl
def Q5 (Z : State) (a1 : Addr) (u_type : Int32) (h0 : Heap) (n0 : Nat) (v : Option Value) (h : Heap) (L : List Loc) : Prop := v = some (.int u_type) ∧ Fr n0 L ∧ h = h0
set_option maxRecDepth 65536 in
set_option maxHeartbeats 40000000 in
theorem rm5 (l : Launch) (Z : State) (a0 : Array Value) (hw : ∀ d ∈ tables_1, d.before a0 Z = true) (ws : List Jvm.Cond) (a1 : Addr) (u_type : Int32) (h0 : Heap) (n0 : Nat) (Z0 : n0 ≤ h0.size) (F_type : Fld Z h0 a1 "com/example/chunkwire/chunkwire/model/RtmpMessage" "type" "I" (.int u_type)) :
    MetFree l (⟨"com/example/chunkwire/chunkwire/model/RtmpMessage", "type", "()I"⟩ : MethodName) (head1 (Jvm.Cond.code (⟨"com/example/chunkwire/chunkwire/model/RtmpMessage", "type", "()I"⟩ : MethodName) prog_25_method_2_code 1 (some .int) :: ws) ({ frames := 0, cells := 0, slots := 0, locals := 0 } : Room)) (fun a U => a = #[(.ref a1)] ∧ Z.Warmed39 U.vm ∧ U.heap = h0) (fun _ _ _ _ _ => True) (fun _ U o U' => ∃ v L, o = .returned v ∧ Q5 Z a1 u_type h0 n0 v U'.heap L ∧ FrameEnd U o U' L ({ frames := 0, cells := 0, slots := 0, locals := 0 } : Room).cells ({ frames := 0, cells := 0, slots := 0, locals := 0 } : Room).slots) := by
  refine MetFree.of_bodySF (plainFor_of_name pn_0) hisR ?_
  intro p e s m args below meth c s₁ Bd hml0 hP hK
  obtain ⟨rfl, hZ, hh⟩ := hP
  have hx := Bd.exec
  have hby := Bd.bytes
  have hml : c.maxLocals = 1 := hml0
  have hown : s.vm.findClass "com/example/chunkwire/chunkwire/model/RtmpMessage" = some m.cls := findClass_of_methodNamed Bd.named
  have hnm := (name_of_methodNamed Bd.named Bd.method).1
  have X0 : Stand p l e ({ frames := 0, cells := 0, slots := 0, locals := 0 } : Room) s m #[(.ref a1)] below meth c s₁ [] 0 0 := Stand.of_body Bd
  have e0 : s₁.heap = h0 := by rw [← hh, Bd.state]; rfl
  have N0 := Fr.nil n0
  refine Go.start (ef_5 m a1) ?_
  show Go p e below s₁ (mkF m 0 #[.val (.ref a1)] []) _
  refine Go.by (fun t k => XS.aloadN X0.here hx rfl (hb hby d5_0) rfl rfl k) ?_
  show Go p e below s₁ (mkF m 1 #[.val (.ref a1)] [(.ref a1)]) _
  obtain ⟨T1, X1, e1, st1⟩ := getF X0 hx hZ hown (host := "") (Or.inl (hw _ (List.mem_of_getElem? (i := 12) rfl))) Via.refl e0 F_type (g := (mkF m 1 #[.val (.ref a1)] [(.ref a1)])) rfl rfl (hb hby d5_1)
  refine Go.by st1 ?_
  show Go p e below T1 (mkF m 4 #[.val (.ref a1)] [(.int u_type)]) _
  obtain ⟨fs, hr, hrun, hended, hW, hsame⟩ := X1.leave (v := some (.int u_type)) (fun h => by rw [Bd.returns] at h; cases h)
  refine Go.done (retI X1 hx Bd.returns (hb hby d5_4) hr) hrun hended ⟨_, _, rfl, ?_, ⟨_, rfl⟩, hW, hsame.mono (by decide) (by decide)⟩
  show Q5 Z a1 u_type h0 n0 _ T1.heap _
  rw [e1]
  exact ⟨rfl, N0, rfl⟩
theorem d6_0 : decode prog_25_method_5_code 0 = .ok (.aload_n 0, 1) := by decide +kernel
theorem d6_1 : decode prog_25_method_5_code 1 = .ok (.getfield 37, 3) := by decide +kernel
theorem d6_4 : decode prog_25_method_5_code 4 = .ok (.areturn, 1) := by decide +kernel
theorem ef_6 (m : MethodId) (x0 : Addr) : entryFrame m #[(.ref x0)] 1 = mkF m 0 #[.val (.ref x0)] [] := by first | (simp [entryFrame, mkF, argsToLocals, Value.category]; done) | rfl
def Q6 (Z : State) (a1 : Addr) (u_payload : Addr) (h0 : Heap) (n0 : Nat) (v : Option Value) (h : Heap) (L : List Loc) : Prop := v = some (.ref u_payload) ∧ Fr n0 L ∧ h = h0
set_option maxRecDepth 65536 in
set_option maxHeartbeats 40000000 in
theorem rm6 (l : Launch) (Z : State) (a0 : Array Value) (hw : ∀ d ∈ tables_1, d.before a0 Z = true) (ws : List Jvm.Cond) (a1 : Addr) (u_payload : Addr) (h0 : Heap) (n0 : Nat) (Z0 : n0 ≤ h0.size) (F_payload : Fld Z h0 a1 "com/example/chunkwire/chunkwire/model/RtmpMessage" "payload" "[B" (.ref u_payload)) :
    MetFree l (⟨"com/example/chunkwire/chunkwire/model/RtmpMessage", "payload", "()[B"⟩ : MethodName) (head1 (Jvm.Cond.code (⟨"com/example/chunkwire/chunkwire/model/RtmpMessage", "payload", "()[B"⟩ : MethodName) prog_25_method_5_code 1 (some (.array .byte)) :: ws) ({ frames := 0, cells := 0, slots := 0, locals := 0 } : Room)) (fun a U => a = #[(.ref a1)] ∧ Z.Warmed39 U.vm ∧ U.heap = h0) (fun _ _ _ _ _ => True) (fun _ U o U' => ∃ v L, o = .returned v ∧ Q6 Z a1 u_payload h0 n0 v U'.heap L ∧ FrameEnd U o U' L ({ frames := 0, cells := 0, slots := 0, locals := 0 } : Room).cells ({ frames := 0, cells := 0, slots := 0, locals := 0 } : Room).slots) := by
  refine MetFree.of_bodySF (plainFor_of_name pn_0) hisR ?_
  intro p e s m args below meth c s₁ Bd hml0 hP hK
  obtain ⟨rfl, hZ, hh⟩ := hP
  have hx := Bd.exec
  have hby := Bd.bytes
  have hml : c.maxLocals = 1 := hml0
  have hown : s.vm.findClass "com/example/chunkwire/chunkwire/model/RtmpMessage" = some m.cls := findClass_of_methodNamed Bd.named
  have hnm := (name_of_methodNamed Bd.named Bd.method).1
  have X0 : Stand p l e ({ frames := 0, cells := 0, slots := 0, locals := 0 } : Room) s m #[(.ref a1)] below meth c s₁ [] 0 0 := Stand.of_body Bd
  have e0 : s₁.heap = h0 := by rw [← hh, Bd.state]; rfl
  have N0 := Fr.nil n0
  refine Go.start (ef_6 m a1) ?_
  show Go p e below s₁ (mkF m 0 #[.val (.ref a1)] []) _
  refine Go.by (fun t k => XS.aloadN X0.here hx rfl (hb hby d6_0) rfl rfl k) ?_
  show Go p e below s₁ (mkF m 1 #[.val (.ref a1)] [(.ref a1)]) _
  obtain ⟨T1, X1, e1, st1⟩ := getF X0 hx hZ hown (host := "") (Or.inl (hw _ (List.mem_of_getElem? (i := 18) rfl))) Via.refl e0 F_payload (g := (mkF m 1 #[.val (.ref a1)] [(.ref a1)])) rfl rfl (hb hby d6_1)
  refine Go.by st1 ?_
  show Go p e below T1 (mkF m 4 #[.val (.ref a1)] [(.ref u_payload)]) _
  obtain ⟨fs, hr, hrun, hended, hW, hsame⟩ := X1.leave (v := some (.ref u_payload)) (fun h => by rw [Bd.returns] at h; cases h)
  refine Go.done (retA X1 hx Bd.returns rfl ⟨rfl, rfl⟩ (hb hby d6_4) hr) hrun hended ⟨_, _, rfl, ?_, ⟨_, rfl⟩, hW, hsame.mono (by decide) (by decide)⟩
  show Q6 Z a1 u_payload h0 n0 _ T1.heap _
  rw [e1]
  exact ⟨rfl, N0, rfl⟩
def own_sel (t : Int32) : Int32 := if t = 17 then 1 else if t = 15 then 1 else 0
theorem pd_0 : parseMethodDescriptor "()I" = some ⟨[], some .int⟩ := by decide +kernel
theorem d4_0 : decode prog_17_method_5_code 0 = .ok (.aload_n 0, 1) := by decide +kernel
theorem d4_1 : decode prog_17_method_5_code 1 = .ok (.invokevirtual 21, 3) := by decide +kernel
theorem d4_4 : decode prog_17_method_5_code 4 = .ok (.bipush 17, 2) := by decide +kernel
theorem d4_6 : decode prog_17_method_5_code 6 = .ok (.if_icmp .eq 12, 3) := by decide +kernel
theorem d4_9 : decode prog_17_method_5_code 9 = .ok (.aload_n 0, 1) := by decide +kernel
theorem d4_10 : decode prog_17_method_5_code 10 = .ok (.invokevirtual 21, 3) := by decide +kernel
theorem d4_13 : decode prog_17_method_5_code 13 = .ok (.bipush 15, 2) := by decide +kernel
theorem d4_15 : decode prog_17_method_5_code 15 = .ok (.if_icmp .ne 7, 3) := by decide +kernel
theorem d4_18 : decode prog_17_method_5_code 18 = .ok (.iconst 1, 1) := by decide +kernel
theorem d4_19 : decode prog_17_method_5_code 19 = .ok (.goto 4, 3) := by decide +kernel
theorem d4_22 : decode prog_17_method_5_code 22 = .ok (.iconst 0, 1) := by decide +kernel
theorem d4_23 : decode prog_17_method_5_code 23 = .ok (.ireturn, 1) := by decide +kernel
theorem pn_1 : plainName "com/example/chunkwire/chunkwire/io/MessageValues" = true := by first | (simp [plainName, overriddenIn]; done) | decide +kernel
theorem ef_4 (m : MethodId) (x0 : Addr) : entryFrame m #[(.ref x0)] 1 = mkF m 0 #[.val (.ref x0)] [] := by first | (simp [entryFrame, mkF, argsToLocals, Value.category]; done) | rfl
def Q4 (Z : State) (a1 : Addr) (u_type : Int32) (h0 : Heap) (n0 : Nat) (v : Option Value) (h : Heap) (L : List Loc) : Prop := v = some (.int (own_sel u_type)) ∧ Fr n0 L ∧ h = h0
set_option maxRecDepth 65536 in
set_option maxHeartbeats 40000000 in
theorem rm4 (l : Launch) (Z : State) (a0 : Array Value) (hw : ∀ d ∈ tables_1, d.before a0 Z = true) (ws : List Jvm.Cond) (a1 : Addr) (u_type : Int32) (h0 : Heap) (n0 : Nat) (Z0 : n0 ≤ h0.size) (E1 : Exa Z h0 a1 "com/example/chunkwire/chunkwire/model/RtmpMessage") (F1 : Fld Z h0 a1 "com/example/chunkwire/chunkwire/model/RtmpMessage" "type" "I" (.int u_type)) :
    MetFree l (⟨"com/example/chunkwire/chunkwire/io/MessageValues", "hasFormatSelector", "(Lcom/example/chunkwire/chunkwire/model/RtmpMessage;)Z"⟩ : MethodName) (head1 (Jvm.Cond.code (⟨"com/example/chunkwire/chunkwire/io/MessageValues", "hasFormatSelector", "(Lcom/example/chunkwire/chunkwire/model/RtmpMessage;)Z"⟩ : MethodName) prog_17_method_5_code 1 (some .boolean) :: ws) ({ frames := 1, cells := 0, slots := 0, locals := 12 } : Room)) (fun a U => a = #[(.ref a1)] ∧ Z.Warmed39 U.vm ∧ U.heap = h0) (fun _ _ _ _ _ => True) (fun _ U o U' => ∃ v L, o = .returned v ∧ Q4 Z a1 u_type h0 n0 v U'.heap L ∧ FrameEnd U o U' L ({ frames := 1, cells := 0, slots := 0, locals := 12 } : Room).cells ({ frames := 1, cells := 0, slots := 0, locals := 12 } : Room).slots) := by
  refine MetFree.of_bodySF (plainFor_of_name pn_1) hisR ?_
  intro p e s m args below meth c s₁ Bd hml0 hP hK
  obtain ⟨rfl, hZ, hh⟩ := hP
  have hx := Bd.exec
  have hby := Bd.bytes
  have hml : c.maxLocals = 1 := hml0
  have hown : s.vm.findClass "com/example/chunkwire/chunkwire/io/MessageValues" = some m.cls := findClass_of_methodNamed Bd.named
  have hnm := (name_of_methodNamed Bd.named Bd.method).1
  have X0 : Stand p l e ({ frames := 1, cells := 0, slots := 0, locals := 12 } : Room) s m #[(.ref a1)] below meth c s₁ [] 0 0 := Stand.of_body Bd
  have e0 : s₁.heap = h0 := by rw [← hh, Bd.state]; rfl
  have N0 := Fr.nil n0
  refine Go.start (ef_4 m a1) ?_
  show Go p e below s₁ (mkF m 0 #[.val (.ref a1)] []) _
  refine Go.by (fun t k => XS.aloadN X0.here hx rfl (hb hby d4_0) rfl rfl k) ?_
  show Go p e below s₁ (mkF m 1 #[.val (.ref a1)] [(.ref a1)]) _
  obtain ⟨cq1, kq1, q1a, q1b, q1c⟩ := isOf hZ e0 E1
  obtain ⟨_, _, ⟨T1, L1, k1, n1⟩, -, X1, ⟨Lc1, hQ1, l1, y1, z1⟩, st1⟩ := X0.virtualBack hx (y := (⟨"com/example/chunkwire/chunkwire/model/RtmpMessage", "type", "()I"⟩ : MethodName)) (z := (⟨"com/example/chunkwire/chunkwire/model/RtmpMessage", "type", "()I"⟩ : MethodName)) hown (mvT hZ (hw _ (List.mem_of_getElem? (i := 27) rfl))) (mvT hZ (hw _ (List.mem_of_getElem? (i := 28) rfl))) (notFace_of_selects (args := #[]) (mvT hZ (hw _ (List.mem_of_getElem? (i := 30) rfl)))) (mvT hZ (hw _ (List.mem_of_getElem? (i := 30) rfl))) (mvT hZ (hw _ (List.mem_of_getElem? (i := 29) rfl))) (by decide) (backOf (W := 0) (rm5 l Z a0 hw [] a1 u_type h0 n0 Z0 F1) hZ (hw _ (List.mem_of_getElem? (i := 31) rfl)) (hw _ (List.mem_of_getElem? (i := 3) rfl)) (by decide) (by decide)) q1a q1c (g := (mkF m 1 #[.val (.ref a1)] [(.ref a1)])) rfl (by rw [hml]; rfl) (Steps.refl _) (argsL := []) (rest := []) (lenOf pd_0 rfl) rfl (by show 2 * 0 + _ ≤ _; exact Nat.le_of_eq rfl) (hb hby d4_1) (fun _ _ => ⟨rfl, e0, (by decide : 0 + 0 ≤ _), (by decide : 0 + 0 ≤ _)⟩)
  dsimp only [Pt.U, Pt.locs, Pt.cells, Pt.slots] at X1 l1 y1 z1 st1 hQ1
  subst l1 y1 z1
  obtain ⟨rfl, N1q, e1q⟩ := hQ1
  have N1 := Fr.app N0 N1q
  refine Go.by (fun t k => st1.trans k) ?_
  show Go p e below T1 (mkF m 4 #[.val (.ref a1)] [(.int u_type)]) _
  refine Go.by (fun t k => XS.bipush X1.here hx rfl (hb hby d4_4) k) ?_
  show Go p e below T1 (mkF m 6 #[.val (.ref a1)] [(.int (17 : Int32)), (.int u_type)]) _
  by_cases hc2 : u_type = (17 : Int32)
  · refine Go.by (fun t k => XS.icmpYes X1.here hx rfl (pc0 := 6) (pc' := 18) rfl (hb hby d4_6) rfl (teq hc2).1 (by decide) (by decide) k) ?_
    show Go p e below T1 (mkF m 18 #[.val (.ref a1)] []) _
    refine Go.by (fun t k => XS.iconst X1.here hx rfl (hb hby d4_18) k) ?_
    show Go p e below T1 (mkF m 19 #[.val (.ref a1)] [(.int (1 : Int32))]) _
    refine Go.by (fun t k => XS.goto X1.here hx rfl (pc0 := 19) (pc' := 23) rfl (hb hby d4_19) (by decide) (by decide) k) ?_
    show Go p e below T1 (mkF m 23 #[.val (.ref a1)] [(.int (1 : Int32))]) _
    obtain ⟨fs, hr, hrun, hended, hW, hsame⟩ := X1.leave (v := some (.int (1 : Int32))) (fun h => by rw [Bd.returns] at h; cases h)
    refine Go.done (retN X1 hx (t := .boolean) Bd.returns (by simp) (hb hby d4_23) hr) hrun hended ⟨_, _, rfl, ?_, ⟨_, rfl⟩, hW, hsame.mono (by decide) (by decide)⟩
    show Q4 Z a1 u_type h0 n0 _ T1.heap _
    rw [e1q]
    refine ⟨?_, N1, rfl⟩
    rw [own_sel, if_pos hc2]
  · refine Go.by (fun t k => XS.icmpNo X1.here hx rfl (hb hby d4_6) rfl (feq hc2).1 k) ?_
    show Go p e below T1 (mkF m 9 #[.val (.ref a1)] []) _
    refine Go.by (fun t k => XS.aloadN X1.here hx rfl (hb hby d4_9) rfl rfl k) ?_
    show Go p e below T1 (mkF m 10 #[.val (.ref a1)] [(.ref a1)]) _
    obtain ⟨cq3, kq3, q3a, q3b, q3c⟩ := isOf hZ e1q E1
    obtain ⟨_, _, ⟨T3, L3, k3, n3⟩, -, X3, ⟨Lc3, hQ3, l3, y3, z3⟩, st3⟩ := X1.virtualBack hx (y := (⟨"com/example/chunkwire/chunkwire/model/RtmpMessage", "type", "()I"⟩ : MethodName)) (z := (⟨"com/example/chunkwire/chunkwire/model/RtmpMessage", "type", "()I"⟩ : MethodName)) hown (mvT hZ (hw _ (List.mem_of_getElem? (i := 27) rfl))) (mvT hZ (hw _ (List.mem_of_getElem? (i := 28) rfl))) (notFace_of_selects (args := #[]) (mvT hZ (hw _ (List.mem_of_getElem? (i := 30) rfl)))) (mvT hZ (hw _ (List.mem_of_getElem? (i := 30) rfl))) (mvT hZ (hw _ (List.mem_of_getElem? (i := 29) rfl))) (by decide) (backOf (W := 0) (rm5 l Z a0 hw [] a1 u_type h0 n0 Z0 F1) hZ (hw _ (List.mem_of_getElem? (i := 31) rfl)) (hw _ (List.mem_of_getElem? (i := 3) rfl)) (by decide) (by decide)) q3a q3c (g := (mkF m 10 #[.val (.ref a1)] [(.ref a1)])) rfl (by rw [hml]; rfl) (Steps.refl _) (argsL := []) (rest := []) (lenOf pd_0 rfl) rfl (by show 2 * 0 + _ ≤ _; exact Nat.le_of_eq rfl) (hb hby d4_10) (fun _ _ => ⟨rfl, e1q, (by decide : 0 + 0 ≤ _), (by decide : 0 + 0 ≤ _)⟩)
    dsimp only [Pt.U, Pt.locs, Pt.cells, Pt.slots] at X3 l3 y3 z3 st3 hQ3
    subst l3 y3 z3
    obtain ⟨rfl, N3q, e3q⟩ := hQ3
    have N3 := Fr.app N1 N3q
    refine Go.by (fun t k => st3.trans k) ?_
    show Go p e below T3 (mkF m 13 #[.val (.ref a1)] [(.int u_type)]) _
    refine Go.by (fun t k => XS.bipush X3.here hx rfl (hb hby d4_13) k) ?_
    show Go p e below T3 (mkF m 15 #[.val (.ref a1)] [(.int (15 : Int32)), (.int u_type)]) _
    by_cases hc4 : u_type = (15 : Int32)
    · refine Go.by (fun t k => XS.icmpNo X3.here hx rfl (hb hby d4_15) rfl (teq hc4).2 k) ?_
      show Go p e below T3 (mkF m 18 #[.val (.ref a1)] []) _
      refine Go.by (fun t k => XS.iconst X3.here hx rfl (hb hby d4_18) k) ?_
      show Go p e below T3 (mkF m 19 #[.val (.ref a1)] [(.int (1 : Int32))]) _
      refine Go.by (fun t k => XS.goto X3.here hx rfl (pc0 := 19) (pc' := 23) rfl (hb hby d4_19) (by decide) (by decide) k) ?_
      show Go p e below T3 (mkF m 23 #[.val (.ref a1)] [(.int (1 : Int32))]) _
      obtain ⟨fs, hr, hrun, hended, hW, hsame⟩ := X3.leave (v := some (.int (1 : Int32))) (fun h => by rw [Bd.returns] at h; cases h)
      refine Go.done (retN X3 hx (t := .boolean) Bd.returns (by simp) (hb hby d4_23) hr) hrun hended ⟨_, _, rfl, ?_, ⟨_, rfl⟩, hW, hsame.mono (by decide) (by decide)⟩
      show Q4 Z a1 u_type h0 n0 _ T3.heap _
      rw [e3q]
      refine ⟨?_, N3, rfl⟩
      rw [own_sel, if_neg hc2, if_pos hc4]
    · refine Go.by (fun t k => XS.icmpYes X3.here hx rfl (pc0 := 15) (pc' := 22) rfl (hb hby d4_15) rfl (feq hc4).2 (by decide) (by decide) k) ?_
      show Go p e below T3 (mkF m 22 #[.val (.ref a1)] []) _
      refine Go.by (fun t k => XS.iconst X3.here hx rfl (hb hby d4_22) k) ?_
      show Go p e below T3 (mkF m 23 #[.val (.ref a1)] [(.int (0 : Int32))]) _
      obtain ⟨fs, hr, hrun, hended, hW, hsame⟩ := X3.leave (v := some (.int (0 : Int32))) (fun h => by rw [Bd.returns] at h; cases h)
      refine Go.done (retN X3 hx (t := .boolean) Bd.returns (by simp) (hb hby d4_23) hr) hrun hended ⟨_, _, rfl, ?_, ⟨_, rfl⟩, hW, hsame.mono (by decide) (by decide)⟩
      show Q4 Z a1 u_type h0 n0 _ T3.heap _
      rw [e3q]
      refine ⟨?_, N3, rfl⟩
      rw [own_sel, if_neg hc2, if_neg hc4]
theorem pd_1 : parseMethodDescriptor "(Lcom/example/chunkwire/chunkwire/model/RtmpMessage;)Z" = some ⟨[(.object "com/example/chunkwire/chunkwire/model/RtmpMessage")], some .boolean⟩ := by decide +kernel
theorem pd_2 : parseMethodDescriptor "()[B" = some ⟨[], some (.array .byte)⟩ := by decide +kernel
theorem d3_0 : decode prog_17_method_2_code 0 = .ok (.aload_n 0, 1) := by decide +kernel
theorem d3_1 : decode prog_17_method_2_code 1 = .ok (.invokestatic 7, 3) := by decide +kernel
theorem d3_4 : decode prog_17_method_2_code 4 = .ok (.ifCond .ne 5, 3) := by decide +kernel
theorem d3_7 : decode prog_17_method_2_code 7 = .ok (.iconst 0, 1) := by decide +kernel
theorem d3_8 : decode prog_17_method_2_code 8 = .ok (.ireturn, 1) := by decide +kernel
theorem d3_9 : decode prog_17_method_2_code 9 = .ok (.aload_n 0, 1) := by decide +kernel
theorem d3_10 : decode prog_17_method_2_code 10 = .ok (.invokevirtual 13, 3) := by decide +kernel
theorem d3_13 : decode prog_17_method_2_code 13 = .ok (.arraylength, 1) := by decide +kernel
theorem d3_14 : decode prog_17_method_2_code 14 = .ok (.ifCond .ne 20, 3) := by decide +kernel
theorem d3_34 : decode prog_17_method_2_code 34 = .ok (.aload_n 0, 1) := by decide +kernel
theorem d3_35 : decode prog_17_method_2_code 35 = .ok (.invokevirtual 13, 3) := by decide +kernel
theorem d3_38 : decode prog_17_method_2_code 38 = .ok (.iconst 0, 1) := by decide +kernel
theorem d3_39 : decode prog_17_method_2_code 39 = .ok (.baload, 1) := by decide +kernel
theorem d3_40 : decode prog_17_method_2_code 40 = .ok (.sipush 255, 3) := by decide +kernel
theorem d3_43 : decode prog_17_method_2_code 43 = .ok (.iand, 1) := by decide +kernel
theorem d3_44 : decode prog_17_method_2_code 44 = .ok (.ireturn, 1) := by decide +kernel
theorem ef_3 (m : MethodId) (x0 : Addr) : entryFrame m #[(.ref x0)] 1 = mkF m 0 #[.val (.ref x0)] [] := by first | (simp [entryFrame, mkF, argsToLocals, Value.category]; done) | rfl
def Q3 (Z : State) (a1 : Addr) (u_type : Int32) (pa : Addr) (cl : Cell) (zn : Int32) (x0 : Int32) (h0 : Heap) (n0 : Nat) (v : Option Value) (h : Heap) (L : List Loc) : Prop := v = some (.int (if own_sel u_type = 0 then 0 else (x0 &&& 255))) ∧ Fr n0 L ∧ h = h0
set_option maxRecDepth 65536 in
set_option maxHeartbeats 40000000 in
theorem rm3 (l : Launch) (Z : State) (a0 : Array Value) (hw : ∀ d ∈ tables_1, d.before a0 Z = true) (ws : List Jvm.Cond) (a1 : Addr) (u_type : Int32) (pa : Addr) (cl : Cell) (zn : Int32) (x0 : Int32) (h0 : Heap) (n0 : Nat) (Z0 : n0 ≤ h0.size) (E1 : Exa Z h0 a1 "com/example/chunkwire/chunkwire/model/RtmpMessage") (F1 : Fld Z h0 a1 "com/example/chunkwire/chunkwire/model/RtmpMessage" "type" "I" (.int u_type)) (F2 : Fld Z h0 a1 "com/example/chunkwire/chunkwire/model/RtmpMessage" "payload" "[B" (.ref pa)) (Ar : Arr Z h0 pa cl .byte) (Sz : cl.slots.size = zn.toNatClampNeg) (Mz : ¬ zn < 0) (hz : ¬ own_sel u_type = 0 → ¬ zn = 0) (hin0 : ¬ own_sel u_type = 0 → (0 : Int32) < zn) (hat0 : ¬ own_sel u_type = 0 → cl.slots[(0 : Int32).toNatClampNeg]? = some (.int x0)) :
    MetFree l (⟨"com/example/chunkwire/chunkwire/io/MessageValues", "formatSelector", "(Lcom/example/chunkwire/chunkwire/model/RtmpMessage;)I"⟩ : MethodName) (head1 (Jvm.Cond.code (⟨"com/example/chunkwire/chunkwire/io/MessageValues", "formatSelector", "(Lcom/example/chunkwire/chunkwire/model/RtmpMessage;)I"⟩ : MethodName) prog_17_method_2_code 1 (some .int) :: ws) ({ frames := 2, cells := 0, slots := 0, locals := 24 } : Room)) (fun a U => a = #[(.ref a1)] ∧ Z.Warmed39 U.vm ∧ U.heap = h0) (fun _ _ _ _ _ => True) (fun _ U o U' => ∃ v L, o = .returned v ∧ Q3 Z a1 u_type pa cl zn x0 h0 n0 v U'.heap L ∧ FrameEnd U o U' L ({ frames := 2, cells := 0, slots := 0, locals := 24 } : Room).cells ({ frames := 2, cells := 0, slots := 0, locals := 24 } : Room).slots) := by
  refine MetFree.of_bodySF (plainFor_of_name pn_1) hisR ?_
  intro p e s m args below meth c s₁ Bd hml0 hP hK
  obtain ⟨rfl, hZ, hh⟩ := hP
  have hx := Bd.exec
  have hby := Bd.bytes
  have hml : c.maxLocals = 1 := hml0
  have hown : s.vm.findClass "com/example/chunkwire/chunkwire/io/MessageValues" = some m.cls := findClass_of_methodNamed Bd.named
  have hnm := (name_of_methodNamed Bd.named Bd.method).1
  have X0 : Stand p l e ({ frames := 2, cells := 0, slots := 0, locals := 24 } : Room) s m #[(.ref a1)] below meth c s₁ [] 0 0 := Stand.of_body Bd
  have e0 : s₁.heap = h0 := by rw [← hh, Bd.state]; rfl
  have N0 := Fr.nil n0
  refine Go.start (ef_3 m a1) ?_
  show Go p e below s₁ (mkF m 0 #[.val (.ref a1)] []) _
  refine Go.by (fun t k => XS.aloadN X0.here hx rfl (hb hby d3_0) rfl rfl k) ?_
  show Go p e below s₁ (mkF m 1 #[.val (.ref a1)] [(.ref a1)]) _
  obtain ⟨_, _, ⟨T1, L1, k1, n1⟩, -, X1, ⟨Lc1, hQ1, l1, y1, z1⟩, st1⟩ := Jvm.LawKit.callS X0 hx (y := (⟨"com/example/chunkwire/chunkwire/io/MessageValues", "hasFormatSelector", "(Lcom/example/chunkwire/chunkwire/model/RtmpMessage;)Z"⟩ : MethodName)) hown (mvT hZ (hw _ (List.mem_of_getElem? (i := 24) rfl))) (mvT hZ (hw _ (List.mem_of_getElem? (i := 25) rfl))) (mvT hZ (hw _ (List.mem_of_getElem? (i := 22) rfl))) (mvT hZ (hw _ (List.mem_of_getElem? (i := 26) rfl))) (by decide) (backOf (W := 0) (rm4 l Z a0 hw [] a1 u_type h0 n0 Z0 E1 F1) hZ (hw _ (List.mem_of_getElem? (i := 26) rfl)) (hw _ (List.mem_of_getElem? (i := 22) rfl)) (by decide) (by decide)) (g := (mkF m 1 #[.val (.ref a1)] [(.ref a1)])) rfl (by rw [hml]; rfl) (argsL := [(.ref a1)]) (rest := []) (lenOf pd_1 rfl) rfl (by show 2 * 0 + _ ≤ _; exact Nat.le_of_eq rfl) (hb hby d3_1) (fun _ _ => ⟨rfl, e0, (by decide : 0 + 0 ≤ _), (by decide : 0 + 0 ≤ _)⟩)
  dsimp only [Pt.U, Pt.locs, Pt.cells, Pt.slots] at X1 l1 y1 z1 st1 hQ1
  subst l1 y1 z1
  obtain ⟨rfl, N1q, e1q⟩ := hQ1
  have N1 := Fr.app N0 N1q
  refine Go.by st1 ?_
  show Go p e below T1 (mkF m 4 #[.val (.ref a1)] [(.int (own_sel u_type))]) _
  by_cases hc2 : (own_sel u_type) = (0 : Int32)
  · refine Go.by (fun t k => XS.ifNo X1.here hx rfl (hb hby d3_4) rfl ((if0 _ _).trans (teq hc2).2) k) ?_
    show Go p e below T1 (mkF m 7 #[.val (.ref a1)] []) _
    refine Go.by (fun t k => XS.iconst X1.here hx rfl (hb hby d3_7) k) ?_
    show Go p e below T1 (mkF m 8 #[.val (.ref a1)] [(.int (0 : Int32))]) _
    obtain ⟨fs, hr, hrun, hended, hW, hsame⟩ := X1.leave (v := some (.int (0 : Int32))) (fun h => by rw [Bd.returns] at h; cases h)
    refine Go.done (retI X1 hx Bd.returns (hb hby d3_8) hr) hrun hended ⟨_, _, rfl, ?_, ⟨_, rfl⟩, hW, hsame.mono (by decide) (by decide)⟩
    show Q3 Z a1 u_type pa cl zn x0 h0 n0 _ T1.heap _
    rw [e1q]
    exact ⟨by rw [if_pos hc2], N1, rfl⟩
  · refine Go.by (fun t k => XS.ifYes X1.here hx rfl (pc0 := 4) (pc' := 9) rfl (hb hby d3_4) rfl ((if0 _ _).trans (feq hc2).2) (by decide) (by decide) k) ?_
    show Go p e below T1 (mkF m 9 #[.val (.ref a1)] []) _
    refine Go.by (fun t k => XS.aloadN X1.here hx rfl (hb hby d3_9) rfl rfl k) ?_
    show Go p e below T1 (mkF m 10 #[.val (.ref a1)] [(.ref a1)]) _
    obtain ⟨cq3, kq3, q3a, q3b, q3c⟩ := isOf hZ e1q E1
    obtain ⟨_, _, ⟨T3, L3, k3, n3⟩, -, X3, ⟨Lc3, hQ3, l3, y3, z3⟩, st3⟩ := X1.virtualBack hx (y := (⟨"com/example/chunkwire/chunkwire/model/RtmpMessage", "payload", "()[B"⟩ : MethodName)) (z := (⟨"com/example/chunkwire/chunkwire/model/RtmpMessage", "payload", "()[B"⟩ : MethodName)) hown (mvT hZ (hw _ (List.mem_of_getElem? (i := 32) rfl))) (mvT hZ (hw _ (List.mem_of_getElem? (i := 33) rfl))) (notFace_of_selects (args := #[]) (mvT hZ (hw _ (List.mem_of_getElem? (i := 35) rfl)))) (mvT hZ (hw _ (List.mem_of_getElem? (i := 35) rfl))) (mvT hZ (hw _ (List.mem_of_getElem? (i := 34) rfl))) (by decide) (backOf (W := 0) (rm6 l Z a0 hw [] a1 pa h0 n0 Z0 F2) hZ (hw _ (List.mem_of_getElem? (i := 36) rfl)) (hw _ (List.mem_of_getElem? (i := 3) rfl)) (by decide) (by decide)) q3a q3c (g := (mkF m 10 #[.val (.ref a1)] [(.ref a1)])) rfl (by rw [hml]; rfl) (Steps.refl _) (argsL := []) (rest := []) (lenOf pd_2 rfl) rfl (by show 2 * 0 + _ ≤ _; exact Nat.le_of_eq rfl) (hb hby d3_10) (fun _ _ => ⟨rfl, e1q, (by decide : 0 + 0 ≤ _), (by decide : 0 + 0 ≤ _)⟩)
    dsimp only [Pt.U, Pt.locs, Pt.cells, Pt.slots] at X3 l3 y3 z3 st3 hQ3
    subst l3 y3 z3
    obtain ⟨rfl, N3q, e3q⟩ := hQ3
    have N3 := Fr.app N1 N3q
    refine Go.by (fun t k => st3.trans k) ?_
    show Go p e below T3 (mkF m 13 #[.val (.ref a1)] [(.ref pa)]) _
    refine Go.by (fun t k => X3.arraylength hx (cell := cl) (by rw [e3q]; exact Ar.1) (State.isArrayOf_alike hZ.alike Ar.2.1) (g := (mkF m 13 #[.val (.ref a1)] [(.ref pa)])) rfl (rest := []) rfl (hb hby d3_13) t k) ?_
    rw [len_of Sz Mz]
    show Go p e below T3 (mkF m 14 #[.val (.ref a1)] [(.int zn)]) _
    refine Go.by (fun t k => XS.ifYes X3.here hx rfl (pc0 := 14) (pc' := 34) rfl (hb hby d3_14) rfl ((if0 _ _).trans (feq (show ¬ (zn = (0 : Int32)) from (hz hc2))).2) (by decide) (by decide) k) ?_
    show Go p e below T3 (mkF m 34 #[.val (.ref a1)] []) _
    refine Go.by (fun t k => XS.aloadN X3.here hx rfl (hb hby d3_34) rfl rfl k) ?_
    show Go p e below T3 (mkF m 35 #[.val (.ref a1)] [(.ref a1)]) _
    obtain ⟨cq4, kq4, q4a, q4b, q4c⟩ := isOf hZ e3q E1
    obtain ⟨_, _, ⟨T4, L4, k4, n4⟩, -, X4, ⟨Lc4, hQ4, l4, y4, z4⟩, st4⟩ := X3.virtualBack hx (y := (⟨"com/example/chunkwire/chunkwire/model/RtmpMessage", "payload", "()[B"⟩ : MethodName)) (z := (⟨"com/example/chunkwire/chunkwire/model/RtmpMessage", "payload", "()[B"⟩ : MethodName)) hown (mvT hZ (hw _ (List.mem_of_getElem? (i := 32) rfl))) (mvT hZ (hw _ (List.mem_of_getElem? (i := 33) rfl))) (notFace_of_selects (args := #[]) (mvT hZ (hw _ (List.mem_of_getElem? (i := 35) rfl)))) (mvT hZ (hw _ (List.mem_of_getElem? (i := 35) rfl))) (mvT hZ (hw _ (List.mem_of_getElem? (i := 34) rfl))) (by decide) (backOf (W := 0) (rm6 l Z a0 hw [] a1 pa h0 n0 Z0 F2) hZ (hw _ (List.mem_of_getElem? (i := 36) rfl)) (hw _ (List.mem_of_getElem? (i := 3) rfl)) (by decide) (by decide)) q4a q4c (g := (mkF m 35 #[.val (.ref a1)] [(.ref a1)])) rfl (by rw [hml]; rfl) (Steps.refl _) (argsL := []) (rest := []) (lenOf pd_2 rfl) rfl (by show 2 * 0 + _ ≤ _; exact Nat.le_of_eq rfl) (hb hby d3_35) (fun _ _ => ⟨rfl, e3q, (by decide : 0 + 0 ≤ _), (by decide : 0 + 0 ≤ _)⟩)
    dsimp only [Pt.U, Pt.locs, Pt.cells, Pt.slots] at X4 l4 y4 z4 st4 hQ4
    subst l4 y4 z4
    obtain ⟨rfl, N4q, e4q⟩ := hQ4
    have N4 := Fr.app N3 N4q
    refine Go.by (fun t k => st4.trans k) ?_
    show Go p e below T4 (mkF m 38 #[.val (.ref a1)] [(.ref pa)]) _
    refine Go.by (fun t k => XS.iconst X4.here hx rfl (hb hby d3_38) k) ?_
    show Go p e below T4 (mkF m 39 #[.val (.ref a1)] [(.int (0 : Int32)), (.ref pa)]) _
    refine Go.by (fun t k => X4.baloadBytes hx (j := (0 : Int32)) (v := (.int x0)) (by rw [e4q]; exact Ar.1) (State.isArrayOf_alike hZ.alike Ar.2.1) Ar.2.2 (inb_of Sz ⟨by decide, hin0 hc2⟩) (hat0 hc2) (g := (mkF m 39 #[.val (.ref a1)] [(.int (0 : Int32)), (.ref pa)])) rfl rfl (hb hby d3_39) t k) ?_
    show Go p e below T4 (mkF m 40 #[.val (.ref a1)] [(.int x0)]) _
    refine Go.by (fun t k => XS.sipush X4.here hx rfl (hb hby d3_40) k) ?_
    show Go p e below T4 (mkF m 43 #[.val (.ref a1)] [(.int (255 : Int32)), (.int x0)]) _
    refine Go.by (fun t k => XS.iand X4.here hx rfl (hb hby d3_43) rfl k) ?_
    show Go p e below T4 (mkF m 44 #[.val (.ref a1)] [(.int (x0 &&& (255 : Int32)))]) _
    obtain ⟨fs, hr, hrun, hended, hW, hsame⟩ := X4.leave (v := some (.int (x0 &&& (255 : Int32)))) (fun h => by rw [Bd.returns] at h; cases h)
    refine Go.done (retI X4 hx Bd.returns (hb hby d3_44) hr) hrun hended ⟨_, _, rfl, ?_, ⟨_, rfl⟩, hW, hsame.mono (by decide) (by decide)⟩
    show Q3 Z a1 u_type pa cl zn x0 h0 n0 _ T4.heap _
    rw [e4q]
    exact ⟨by rw [if_neg hc2], N4, rfl⟩
theorem own_ss (c : Cell) (i : Nat) (v : Value) : (c.setSlot i v).slots.size = c.slots.size := by
  show (c.slots.setIfInBounds i v).size = _
  simp
theorem own_other (c : Cell) (i j : Nat) (v : Value) (h : i ≠ j) : (c.setSlot i v).slots[j]? = c.slots[j]? := by
  show (c.slots.setIfInBounds i v)[j]? = _
  rw [Array.getElem?_setIfInBounds_ne h]
theorem own_self (c : Cell) (i : Nat) (v : Value) (h : i < c.slots.size) : (c.setSlot i v).slots[i]? = some v := by
  show (c.slots.setIfInBounds i v)[i]? = _
  simp [h]
def own_T (t : Int32) : Prop := ¬ t < (0 : Int32) ∧ ¬ (255 : Int32) < t
theorem own_T15 : own_T 15 := ⟨by decide, by decide⟩
theorem own_T17 : own_T 17 := ⟨by decide, by decide⟩
theorem own_T255 (x : Int32) : own_T (x &&& 255) := by
  have e := Jvm.Kit.i32_mask x 255 (k := 8) (by decide) (by decide)
  have z : (0 : Int32).toInt = 0 := rfl
  have z2 : (255 : Int32).toInt = 255 := rfl
  unfold own_T
  rw [Int32.lt_iff_toInt_lt, Int32.lt_iff_toInt_lt]; omega
def own_S (t s : Int32) : Prop := (s = 1 ∧ own_sel t = 1) ∨ (s = 0 ∧ own_sel t = 0)
theorem own_S15 (t : Int32) (h : t = 15) : own_S t 1 := Or.inl ⟨rfl, by subst h; rfl⟩
theorem own_S17 (t : Int32) (h : t = 17) : own_S t 1 := Or.inl ⟨rfl, by subst h; rfl⟩
theorem own_S0 (t : Int32) (h : ¬ t = 15) (h2 : ¬ t = 17) : own_S t 0 := Or.inr ⟨rfl, by rw [own_sel, if_neg h2, if_neg h]⟩
def own_N (s n : Int32) : Prop := ¬ n < 0 ∧ n.toNatClampNeg ≤ 3 ∧ (¬ s = 0 → (0 : Int32) < n)
theorem own_and3 (x : Int32) : ¬ (x &&& 3) < 0 ∧ (x &&& 3).toNatClampNeg ≤ 3 ∧ (¬ (x &&& 3) = 0 → (0 : Int32) < x &&& 3) := by
  have e := Jvm.Kit.i32_mask x 3 (k := 2) (by decide) (by decide)
  have z : (0 : Int32).toInt = 0 := rfl
  refine ⟨by rw [Int32.lt_iff_toInt_lt]; omega, ?_, fun q => ?_⟩
  · show (x &&& 3).toInt.toNat ≤ 3
    omega
  · rw [Int32.lt_iff_toInt_lt]
    have q2 : ¬ (x &&& 3).toInt = (0 : Int32).toInt := fun r => q (Int32.toInt_inj.mp r)
    omega
theorem own_Na (s x : Int32) (h : s = 0) : own_N s (x &&& 3) := ⟨(own_and3 x).1, (own_and3 x).2.1, fun q => absurd h q⟩
theorem own_Nb (s x : Int32) (h : ¬ (x &&& 3) = 0) : own_N s (x &&& 3) := ⟨(own_and3 x).1, (own_and3 x).2.1, fun _ => (own_and3 x).2.2 h⟩
theorem own_N1 (s : Int32) : own_N s 1 := ⟨by decide, by decide, fun _ => by decide⟩
theorem own_big (n : Int32) (h : n.toNatClampNeg ≤ 3) : ¬ (16777215 : Int32) < n := by
  have z2 : (16777215 : Int32).toInt = 16777215 := rfl
  have q : n.toInt.toNat ≤ 3 := h
  rw [Int32.lt_iff_toInt_lt]; omega
theorem own_byte (x : Int32) : (nar .byte (x.toInt8.toInt32)) &&& 255 = x &&& 255 := by
  have e1 := Jvm.Kit.i32_mask x 255 (k := 8) (by decide) (by decide)
  have e2 := Jvm.Kit.i32_mask (x.toInt8.toInt32.toInt8.toInt32) 255 (k := 8) (by decide) (by decide)
  show (x.toInt8.toInt32.toInt8.toInt32) &&& 255 = x &&& 255
  apply Int32.toInt_inj.mp
  rw [e1, e2]
  simp only [Int8.toInt_toInt32, Int32.toInt_toInt8, Int.bmod_def]
  omega
theorem own_ne1 (t s : Int32) (h : own_S t s) (q : ¬ own_sel t = 0) : ¬ s = 0 := by
  rcases h with ⟨rfl, r⟩ | ⟨rfl, r⟩
  · decide
  · exact absurd r q
theorem own_e0 (t s x : Int32) (h : own_S t s) (q : s = 0) : (if own_sel t = 0 then 0 else (nar .byte (x.toInt8.toInt32) &&& 255)) = (0 : Int32) := by
  rcases h with ⟨rfl, r⟩ | ⟨_, r⟩
  · exact absurd q (by decide)
  · rw [if_pos r]
theorem own_e1 (t s x : Int32) (h : own_S t s) (q : ¬ s = 0) : (if own_sel t = 0 then 0 else (nar .byte (x.toInt8.toInt32) &&& 255)) = x &&& 255 := by
  rcases h with ⟨_, r⟩ | ⟨r, _⟩
  · rw [if_neg (by rw [r]; decide), own_byte]
  · exact absurd r q
theorem pd_3 : parseMethodDescriptor "(IIJ[B)V" = some ⟨[.int, .int, .long, (.array .byte)], none⟩ := by decide +kernel
theorem pd_4 : parseMethodDescriptor "(Lcom/example/chunkwire/chunkwire/model/RtmpMessage;)I" = some ⟨[(.object "com/example/chunkwire/chunkwire/model/RtmpMessage")], some .int⟩ := by decide +kernel
theorem pn_2 : plainName "com/example/chunkwire/chunkwire/io/MessageValuesFormatSelectorPinLaw" = true := by first | (simp [plainName, overriddenIn]; done) | decide +kernel
theorem ef_0 (m : MethodId) (x0 : Int32) (x1 : Int32) (x2 : Int32) (x3 : Int32) : entryFrame m #[(.int x0), (.int x1), (.int x2), (.int x3)] maxLocals = mkF m 0 #[.val (.int x0), .val (.int x1), .val (.int x2), .val (.int x3), .unset, .unset, .unset, .unset, .unset, .unset, .unset, .unset] [] := by first | (simp [entryFrame, mkF, argsToLocals, Value.category, maxLocals]; done) | rfl
def Q0 (Z : State) (p1 : Int32) (p2 : Int32) (p3 : Int32) (p4 : Int32) (h0 : Heap) (n0 : Nat) (v : Option Value) (h : Heap) (L : List Loc) : Prop := v = some (.int 1) ∧ Fr n0 L
def Pst0 (Z : State) (p1 : Int32) (p2 : Int32) (p3 : Int32) (p4 : Int32) (h0 : Heap) (n0 : Nat) (s : State) : Outcome → State → Prop := fun o U' => ∃ v L, o = .returned v ∧ Q0 Z p1 p2 p3 p4 h0 n0 v U'.heap L ∧ FrameEnd s o U' L room_1.cells room_1.slots
set_option maxRecDepth 65536 in
set_option maxHeartbeats 40000000 in
theorem rm0 (l : Launch) (Z : State) (a0 : Array Value) (hw : ∀ d ∈ tables_1, d.before a0 Z = true) (ws : List Jvm.Cond) (p1 : Int32) (p2 : Int32) (p3 : Int32) (p4 : Int32) (h0 : Heap) (n0 : Nat) (Z0 : n0 ≤ h0.size) :
    MetFree l x (head1 (Jvm.Cond.code x code maxLocals ret :: ws) room_1) (fun a U => a = #[(.int p1), (.int p2), (.int p3), (.int p4)] ∧ Z.Warmed39 U.vm ∧ U.heap = h0) (fun _ _ _ _ _ => True) (fun _ U o U' => ∃ v L, o = .returned v ∧ Q0 Z p1 p2 p3 p4 h0 n0 v U'.heap L ∧ FrameEnd U o U' L room_1.cells room_1.slots) := by
  refine MetFree.of_bodySF (plainFor_of_name pn_2) hisR ?_
  intro p e s m args below meth c s₁ Bd hml0 hP hK
  obtain ⟨rfl, hZ, hh⟩ := hP
  have hx := Bd.exec
  have hby := Bd.bytes
  have hml : c.maxLocals = 12 := hml0
  have hown : s.vm.findClass "com/example/chunkwire/chunkwire/io/MessageValuesFormatSelectorPinLaw" = some m.cls := findClass_of_methodNamed Bd.named
  have hnm := (name_of_methodNamed Bd.named Bd.method).1
  have X0 : Stand p l e room_1 s m #[(.int p1), (.int p2), (.int p3), (.int p4)] below meth c s₁ [] 0 0 := Stand.of_body Bd
  have e0 : s₁.heap = h0 := by rw [← hh, Bd.state]; rfl
  have N0 := Fr.nil n0
  refine Go.start (ef_0 m p1 p2 p3 p4) ?_
  show Go p e below s₁ (mkF m 0 #[.val (.int p1), .val (.int p2), .val (.int p3), .val (.int p4), .unset, .unset, .unset, .unset, .unset, .unset, .unset, .unset] []) _
  refine Go.by (fun t k => XS.iloadN X0.here hx rfl (hb hby at_0) rfl k) ?_
  show Go p e below s₁ (mkF m 1 #[.val (.int p1), .val (.int p2), .val (.int p3), .val (.int p4), .unset, .unset, .unset, .unset, .unset, .unset, .unset, .unset] [(.int p1)]) _
  refine Go.by (fun t k => XS.bipush X0.here hx rfl (hb hby at_1) k) ?_
  show Go p e below s₁ (mkF m 3 #[.val (.int p1), .val (.int p2), .val (.int p3), .val (.int p4), .unset, .unset, .unset, .unset, .unset, .unset, .unset, .unset] [(.int (8 : Int32)), (.int p1)]) _
  refine Go.by (fun t k => XS.iushr X0.here hx rfl (hb hby at_3) rfl k) ?_
  show Go p e below s₁ (mkF m 4 #[.val (.int p1), .val (.int p2), .val (.int p3), .val (.int p4), .unset, .unset, .unset, .unset, .unset, .unset, .unset, .unset] [(.int (own_ushr p1 (8 : Int32)))]) _
  refine Go.by (fun t k => XS.iconst X0.here hx rfl (hb hby at_4) k) ?_
  show Go p e below s₁ (mkF m 5 #[.val (.int p1), .val (.int p2), .val (.int p3), .val (.int p4), .unset, .unset, .unset, .unset, .unset, .unset, .unset, .unset] [(.int (3 : Int32)), (.int (own_ushr p1 (8 : Int32)))]) _
  refine Go.by (fun t k => XS.iand X0.here hx rfl (hb hby at_5) rfl k) ?_
  show Go p e below s₁ (mkF m 6 #[.val (.int p1), .val (.int p2), .val (.int p3), .val (.int p4), .unset, .unset, .unset, .unset, .unset, .unset, .unset, .unset] [(.int ((own_ushr p1 (8 : Int32)) &&& (3 : Int32)))]) _
  refine Go.by (fun t k => XS.istore X0.here hx rfl (hb hby at_6) rfl (l' := #[.val (.int p1), .val (.int p2), .val (.int p3), .val (.int p4), .val (.int ((own_ushr p1 (8 : Int32)) &&& (3 : Int32))), .unset, .unset, .unset, .unset, .unset, .unset, .unset]) rfl k) ?_
  show Go p e below s₁ (mkF m 8 #[.val (.int p1), .val (.int p2), .val (.int p3), .val (.int p4), .val (.int ((own_ushr p1 (8 : Int32)) &&& (3 : Int32))), .unset, .unset, .unset, .unset, .unset, .unset, .unset] []) _
  refine Go.by (fun t k => XS.iload X0.here hx rfl (hb hby at_8) rfl k) ?_
  show Go p e below s₁ (mkF m 10 #[.val (.int p1), .val (.int p2), .val (.int p3), .val (.int p4), .val (.int ((own_ushr p1 (8 : Int32)) &&& (3 : Int32))), .unset, .unset, .unset, .unset, .unset, .unset, .unset] [(.int ((own_ushr p1 (8 : Int32)) &&& (3 : Int32)))]) _
  have J40 : ∀ (j40_0 : Int32), (own_T j40_0) → Go p e below s₁ (mkF m 40 #[.val (.int p1), .val (.int p2), .val (.int p3), .val (.int p4), .val (.int ((own_ushr p1 (8 : Int32)) &&& (3 : Int32))), .val (.int j40_0), .unset, .unset, .unset, .unset, .unset, .unset] []) (Pst0 Z p1 p2 p3 p4 h0 n0 s) := by
    intro j40_0 hj40
    refine Go.by (fun t k => XS.iload X0.here hx rfl (hb hby at_40) rfl k) ?_
    show Go p e below s₁ (mkF m 42 #[.val (.int p1), .val (.int p2), .val (.int p3), .val (.int p4), .val (.int ((own_ushr p1 (8 : Int32)) &&& (3 : Int32))), .val (.int j40_0), .unset, .unset, .unset, .unset, .unset, .unset] [(.int j40_0)]) _
    refine Go.by (fun t k => XS.bipush X0.here hx rfl (hb hby at_42) k) ?_
    show Go p e below s₁ (mkF m 44 #[.val (.int p1), .val (.int p2), .val (.int p3), .val (.int p4), .val (.int ((own_ushr p1 (8 : Int32)) &&& (3 : Int32))), .val (.int j40_0), .unset, .unset, .unset, .unset, .unset, .unset] [(.int (15 : Int32)), (.int j40_0)]) _
    have J59 : ∀ (j59_0 : Int32), (own_S j40_0 j59_0) → Go p e below s₁ (mkF m 59 #[.val (.int p1), .val (.int p2), .val (.int p3), .val (.int p4), .val (.int ((own_ushr p1 (8 : Int32)) &&& (3 : Int32))), .val (.int j40_0), .unset, .unset, .unset, .unset, .unset, .unset] [(.int j59_0)]) (Pst0 Z p1 p2 p3 p4 h0 n0 s) := by
      intro j59_0 hj59
      refine Go.by (fun t k => XS.istore X0.here hx rfl (hb hby at_59) rfl (l' := #[.val (.int p1), .val (.int p2), .val (.int p3), .val (.int p4), .val (.int ((own_ushr p1 (8 : Int32)) &&& (3 : Int32))), .val (.int j40_0), .val (.int j59_0), .unset, .unset, .unset, .unset, .unset]) rfl k) ?_
      show Go p e below s₁ (mkF m 61 #[.val (.int p1), .val (.int p2), .val (.int p3), .val (.int p4), .val (.int ((own_ushr p1 (8 : Int32)) &&& (3 : Int32))), .val (.int j40_0), .val (.int j59_0), .unset, .unset, .unset, .unset, .unset] []) _
      refine Go.by (fun t k => XS.iloadN X0.here hx rfl (hb hby at_61) rfl k) ?_
      show Go p e below s₁ (mkF m 62 #[.val (.int p1), .val (.int p2), .val (.int p3), .val (.int p4), .val (.int ((own_ushr p1 (8 : Int32)) &&& (3 : Int32))), .val (.int j40_0), .val (.int j59_0), .unset, .unset, .unset, .unset, .unset] [(.int p4)]) _
      refine Go.by (fun t k => XS.iconst X0.here hx rfl (hb hby at_62) k) ?_
      show Go p e below s₁ (mkF m 63 #[.val (.int p1), .val (.int p2), .val (.int p3), .val (.int p4), .val (.int ((own_ushr p1 (8 : Int32)) &&& (3 : Int32))), .val (.int j40_0), .val (.int j59_0), .unset, .unset, .unset, .unset, .unset] [(.int (3 : Int32)), (.int p4)]) _
      refine Go.by (fun t k => XS.iand X0.here hx rfl (hb hby at_63) rfl k) ?_
      show Go p e below s₁ (mkF m 64 #[.val (.int p1), .val (.int p2), .val (.int p3), .val (.int p4), .val (.int ((own_ushr p1 (8 : Int32)) &&& (3 : Int32))), .val (.int j40_0), .val (.int j59_0), .unset, .unset, .unset, .unset, .unset] [(.int (p4 &&& (3 : Int32)))]) _
      refine Go.by (fun t k => XS.istore X0.here hx rfl (hb hby at_64) rfl (l' := #[.val (.int p1), .val (.int p2), .val (.int p3), .val (.int p4), .val (.int ((own_ushr p1 (8 : Int32)) &&& (3 : Int32))), .val (.int j40_0), .val (.int j59_0), .val (.int (p4 &&& (3 : Int32))), .unset, .unset, .unset, .unset]) rfl k) ?_
      show Go p e below s₁ (mkF m 66 #[.val (.int p1), .val (.int p2), .val (.int p3), .val (.int p4), .val (.int ((own_ushr p1 (8 : Int32)) &&& (3 : Int32))), .val (.int j40_0), .val (.int j59_0), .val (.int (p4 &&& (3 : Int32))), .unset, .unset, .unset, .unset] []) _
      refine Go.by (fun t k => XS.iload X0.here hx rfl (hb hby at_66) rfl k) ?_
      show Go p e below s₁ (mkF m 68 #[.val (.int p1), .val (.int p2), .val (.int p3), .val (.int p4), .val (.int ((own_ushr p1 (8 : Int32)) &&& (3 : Int32))), .val (.int j40_0), .val (.int j59_0), .val (.int (p4 &&& (3 : Int32))), .unset, .unset, .unset, .unset] [(.int j59_0)]) _
      have J79 : ∀ (j79_0 : Int32), (own_N j59_0 j79_0) → Go p e below s₁ (mkF m 79 #[.val (.int p1), .val (.int p2), .val (.int p3), .val (.int p4), .val (.int ((own_ushr p1 (8 : Int32)) &&& (3 : Int32))), .val (.int j40_0), .val (.int j59_0), .val (.int j79_0), .unset, .unset, .unset, .unset] []) (Pst0 Z p1 p2 p3 p4 h0 n0 s) := by
        intro j79_0 hj79
        refine Go.by (fun t k => XS.iload X0.here hx rfl (hb hby at_79) rfl k) ?_
        show Go p e below s₁ (mkF m 81 #[.val (.int p1), .val (.int p2), .val (.int p3), .val (.int p4), .val (.int ((own_ushr p1 (8 : Int32)) &&& (3 : Int32))), .val (.int j40_0), .val (.int j59_0), .val (.int j79_0), .unset, .unset, .unset, .unset] [(.int j79_0)]) _
        obtain ⟨T1, h1, k1, X1, e1, E1, A1, st1⟩ := newP X0 hx hZ (hw _ (List.mem_of_getElem? (i := 0) rfl)) e0 (g := (mkF m 81 #[.val (.int p1), .val (.int p2), .val (.int p3), .val (.int p4), .val (.int ((own_ushr p1 (8 : Int32)) &&& (3 : Int32))), .val (.int j40_0), .val (.int j59_0), .val (.int j79_0), .unset, .unset, .unset, .unset] [(.int j79_0)])) rfl (hb hby at_81) rfl hj79.1 (cap := 3) hj79.2.1 (by decide) (by decide) (by decide)
        obtain ⟨b1, g1⟩ : ∃ z, z = h0.size := ⟨_, rfl⟩
        rw [← g1] at A1 st1
        have gn1 : n0 ≤ b1 := Nat.le_trans Z0 (Nat.le_of_eq g1.symm)
        have Z1 : n0 ≤ h1.size := Nat.le_trans Z0 E1.1
        have V1 := Arv.new A1 hj79.1
        refine Go.by st1 ?_
        show Go p e below T1 (mkF m 83 #[.val (.int p1), .val (.int p2), .val (.int p3), .val (.int p4), .val (.int ((own_ushr p1 (8 : Int32)) &&& (3 : Int32))), .val (.int j40_0), .val (.int j59_0), .val (.int j79_0), .unset, .unset, .unset, .unset] [(.ref b1)]) _
        refine Go.by (fun t k => XS.astore X1.here hx rfl (hb hby at_83) rfl rfl (l' := #[.val (.int p1), .val (.int p2), .val (.int p3), .val (.int p4), .val (.int ((own_ushr p1 (8 : Int32)) &&& (3 : Int32))), .val (.int j40_0), .val (.int j59_0), .val (.int j79_0), .val (.ref b1), .unset, .unset, .unset]) rfl k) ?_
        show Go p e below T1 (mkF m 85 #[.val (.int p1), .val (.int p2), .val (.int p3), .val (.int p4), .val (.int ((own_ushr p1 (8 : Int32)) &&& (3 : Int32))), .val (.int j40_0), .val (.int j59_0), .val (.int j79_0), .val (.ref b1), .unset, .unset, .unset] []) _
        have A0 : ∃ cl : Cell, Arr Z h1 b1 cl .byte ∧ cl.slots.size = j79_0.toNatClampNeg := ⟨_, A1, sz_new _ _ _⟩
        have J122 : ∀ (Tj122 : State) (Lj122 : List Loc) (hj122 : Heap) (Xj122 : Stand p l e room_1 s m #[(.int p1), (.int p2), (.int p3), (.int p4)] below meth c Tj122 Lj122 1 3) (ej122 : Tj122.heap = hj122) (Nj122 : Fr n0 Lj122) (Zj122 : n0 ≤ hj122.size) (Aj122 : ∃ cl : Cell, Arr Z hj122 b1 cl .byte ∧ cl.slots.size = j79_0.toNatClampNeg ∧ ((0 : Int32) < j79_0 → cl.slots[(0 : Int32).toNatClampNeg]? = some (.int (nar .byte (p2.toInt8.toInt32))))), Go p e below Tj122 (mkF m 122 #[.val (.int p1), .val (.int p2), .val (.int p3), .val (.int p4), .val (.int ((own_ushr p1 (8 : Int32)) &&& (3 : Int32))), .val (.int j40_0), .val (.int j59_0), .val (.int j79_0), .val (.ref b1), .unset, .unset, .unset] []) (Pst0 Z p1 p2 p3 p4 h0 n0 s) := by
          intro Tj122 Lj122 hj122 Xj122 ej122 Nj122 Zj122 Aj122
          obtain ⟨clp, Arp, Szp, Bp⟩ := Aj122
          obtain ⟨T2, h2, X2, e2, E2, A2, D2, -, st2⟩ := newO Xj122 hx hZ hown (hw _ (List.mem_of_getElem? (i := 1) rfl)) (hw _ (List.mem_of_getElem? (i := 2) rfl)) (hw _ (List.mem_of_getElem? (i := 3) rfl)) ej122 (g := (mkF m 122 #[.val (.int p1), .val (.int p2), .val (.int p3), .val (.int p4), .val (.int ((own_ushr p1 (8 : Int32)) &&& (3 : Int32))), .val (.int j40_0), .val (.int j59_0), .val (.int j79_0), .val (.ref b1), .unset, .unset, .unset] [])) rfl (hb hby at_122) (by decide) (by decide)
          obtain ⟨b2, g2⟩ : ∃ z, z = hj122.size := ⟨_, rfl⟩
          rw [← g2] at A2 D2 st2
          have gn2 : n0 ≤ b2 := Nat.le_trans Zj122 (Nat.le_of_eq g2.symm)
          have ne_b1_b2 : b1 ≠ b2 := Nat.ne_of_lt (Nat.lt_of_lt_of_le Arp.lt (Nat.le_of_eq g2.symm))
          have Z2 : n0 ≤ h2.size := Nat.le_trans Zj122 E2.1
          have F2_type : Fld Z h2 b2 "com/example/chunkwire/chunkwire/model/RtmpMessage" "type" "I" (.int (0 : Int32)) := D2 (Or.inr (hw _ (List.mem_of_getElem? (i := 13) rfl))) (ty := .int) (by decide)
          have F2_streamId : Fld Z h2 b2 "com/example/chunkwire/chunkwire/model/RtmpMessage" "streamId" "I" (.int (0 : Int32)) := D2 (Or.inr (hw _ (List.mem_of_getElem? (i := 15) rfl))) (ty := .int) (by decide)
          have F2_timestamp : Fld Z h2 b2 "com/example/chunkwire/chunkwire/model/RtmpMessage" "timestamp" "J" (.long (0 : Int64)) := D2 (Or.inr (hw _ (List.mem_of_getElem? (i := 17) rfl))) (ty := .long) (by decide)
          have F2_payload : Fld Z h2 b2 "com/example/chunkwire/chunkwire/model/RtmpMessage" "payload" "[B" .null := D2 (Or.inr (hw _ (List.mem_of_getElem? (i := 19) rfl))) (ty := (.array .byte)) (by decide)
          refine Go.by st2 ?_
          show Go p e below T2 (mkF m 125 #[.val (.int p1), .val (.int p2), .val (.int p3), .val (.int p4), .val (.int ((own_ushr p1 (8 : Int32)) &&& (3 : Int32))), .val (.int j40_0), .val (.int j59_0), .val (.int j79_0), .val (.ref b1), .unset, .unset, .unset] [(.ref b2)]) _
          refine Go.by (fun t k => XS.dup X2.here hx rfl (hb hby at_125) rfl rfl k) ?_
          show Go p e below T2 (mkF m 126 #[.val (.int p1), .val (.int p2), .val (.int p3), .val (.int p4), .val (.int ((own_ushr p1 (8 : Int32)) &&& (3 : Int32))), .val (.int j40_0), .val (.int j59_0), .val (.int j79_0), .val (.ref b1), .unset, .unset, .unset] [(.ref b2), (.ref b2)]) _
          refine Go.by (fun t k => XS.iload X2.here hx rfl (hb hby at_126) rfl k) ?_
          show Go p e below T2 (mkF m 128 #[.val (.int p1), .val (.int p2), .val (.int p3), .val (.int p4), .val (.int ((own_ushr p1 (8 : Int32)) &&& (3 : Int32))), .val (.int j40_0), .val (.int j59_0), .val (.int j79_0), .val (.ref b1), .unset, .unset, .unset] [(.int j40_0), (.ref b2), (.ref b2)]) _
          refine Go.by (fun t k => XS.iconst X2.here hx rfl (hb hby at_128) k) ?_
          show Go p e below T2 (mkF m 129 #[.val (.int p1), .val (.int p2), .val (.int p3), .val (.int p4), .val (.int ((own_ushr p1 (8 : Int32)) &&& (3 : Int32))), .val (.int j40_0), .val (.int j59_0), .val (.int j79_0), .val (.ref b1), .unset, .unset, .unset] [(.int (0 : Int32)), (.int j40_0), (.ref b2), (.ref b2)]) _
          refine Go.by (fun t k => XS.lconst X2.here hx rfl (hb hby at_129) k) ?_
          show Go p e below T2 (mkF m 130 #[.val (.int p1), .val (.int p2), .val (.int p3), .val (.int p4), .val (.int ((own_ushr p1 (8 : Int32)) &&& (3 : Int32))), .val (.int j40_0), .val (.int j59_0), .val (.int j79_0), .val (.ref b1), .unset, .unset, .unset] [(.long (0 : Int64)), (.int (0 : Int32)), (.int j40_0), (.ref b2), (.ref b2)]) _
          refine Go.by (fun t k => XS.aload X2.here hx rfl (hb hby at_130) rfl rfl k) ?_
          show Go p e below T2 (mkF m 132 #[.val (.int p1), .val (.int p2), .val (.int p3), .val (.int p4), .val (.int ((own_ushr p1 (8 : Int32)) &&& (3 : Int32))), .val (.int j40_0), .val (.int j59_0), .val (.int j79_0), .val (.ref b1), .unset, .unset, .unset] [(.ref b1), (.long (0 : Int64)), (.int (0 : Int32)), (.int j40_0), (.ref b2), (.ref b2)]) _
          have fa4 := Arp.ext E2
          obtain ⟨_, _, ⟨T3, L3, k3, n3⟩, -, X3, ⟨Lc3, hQ3, l3, y3, z3⟩, st3⟩ := X2.specialBack hx (y := (⟨"com/example/chunkwire/chunkwire/model/RtmpMessage", "<init>", "(IIJ[B)V"⟩ : MethodName)) rfl hown (mvT hZ (hw _ (List.mem_of_getElem? (i := 4) rfl))) (mvT hZ (hw _ (List.mem_of_getElem? (i := 5) rfl))) (mvT hZ (hw _ (List.mem_of_getElem? (i := 6) rfl))) (by decide) (backOf (W := 1) (rm1 l Z a0 hw [] b2 j40_0 (0 : Int32) (0 : Int64) b1 ((.int (0 : Int32))) ((.int (0 : Int32))) ((.long (0 : Int64))) (.null) clp j79_0 h2 n0 Z2 A2 F2_type F2_streamId F2_timestamp F2_payload gn2 fa4 Szp hj79.1 hj40.1 hj40.2 (by decide) (by decide) (by decide) (own_big _ hj79.2.1)) hZ (hw _ (List.mem_of_getElem? (i := 6) rfl)) (hw _ (List.mem_of_getElem? (i := 3) rfl)) (by decide) (by decide)) (g := (mkF m 132 #[.val (.int p1), .val (.int p2), .val (.int p3), .val (.int p4), .val (.int ((own_ushr p1 (8 : Int32)) &&& (3 : Int32))), .val (.int j40_0), .val (.int j59_0), .val (.int j79_0), .val (.ref b1), .unset, .unset, .unset] [(.ref b1), (.long (0 : Int64)), (.int (0 : Int32)), (.int j40_0), (.ref b2), (.ref b2)])) rfl (by rw [hml]; rfl) (Steps.refl _) (a := b2) (argsL := [(.int j40_0), (.int (0 : Int32)), (.long (0 : Int64)), (.ref b1)]) (rest := [(.ref b2)]) (lenOf pd_3 rfl) rfl (by show 2 * 0 + _ ≤ _; exact Nat.le_of_eq rfl) (hb hby at_132) (fun _ _ => ⟨rfl, e2, (by decide : 2 + 0 ≤ _), (by decide : 7 + 0 ≤ _)⟩)
          dsimp only [Pt.U, Pt.locs, Pt.cells, Pt.slots] at X3 l3 y3 z3 st3 hQ3
          subst l3 y3 z3
          obtain ⟨rfl, N3q, K3q, E3q, F3q_type, F3q_streamId, F3q_timestamp, F3q_payload⟩ := hQ3
          have N3 := Fr.app Nj122 N3q
          have Z3 : n0 ≤ T3.heap.size := Nat.le_trans Z2 K3q.1
          refine Go.by (fun t k => st3.trans k) ?_
          show Go p e below T3 (mkF m 135 #[.val (.int p1), .val (.int p2), .val (.int p3), .val (.int p4), .val (.int ((own_ushr p1 (8 : Int32)) &&& (3 : Int32))), .val (.int j40_0), .val (.int j59_0), .val (.int j79_0), .val (.ref b1), .unset, .unset, .unset] [(.ref b2)]) _
          refine Go.by (fun t k => XS.astore X3.here hx rfl (hb hby at_135) rfl rfl (l' := #[.val (.int p1), .val (.int p2), .val (.int p3), .val (.int p4), .val (.int ((own_ushr p1 (8 : Int32)) &&& (3 : Int32))), .val (.int j40_0), .val (.int j59_0), .val (.int j79_0), .val (.ref b1), .val (.ref b2), .unset, .unset]) rfl k) ?_
          show Go p e below T3 (mkF m 137 #[.val (.int p1), .val (.int p2), .val (.int p3), .val (.int p4), .val (.int ((own_ushr p1 (8 : Int32)) &&& (3 : Int32))), .val (.int j40_0), .val (.int j59_0), .val (.int j79_0), .val (.ref b1), .val (.ref b2), .unset, .unset] []) _
          refine Go.by (fun t k => XS.aload X3.here hx rfl (hb hby at_137) rfl rfl k) ?_
          show Go p e below T3 (mkF m 139 #[.val (.int p1), .val (.int p2), .val (.int p3), .val (.int p4), .val (.int ((own_ushr p1 (8 : Int32)) &&& (3 : Int32))), .val (.int j40_0), .val (.int j59_0), .val (.int j79_0), .val (.ref b1), .val (.ref b2), .unset, .unset] [(.ref b2)]) _
          have fa6 := fa4.keep K3q (ninS ne_b1_b2 nin0)
          obtain ⟨_, _, ⟨T5, L5, k5, n5⟩, -, X5, ⟨Lc5, hQ5, l5, y5, z5⟩, st5⟩ := Jvm.LawKit.callS X3 hx (y := (⟨"com/example/chunkwire/chunkwire/io/MessageValues", "formatSelector", "(Lcom/example/chunkwire/chunkwire/model/RtmpMessage;)I"⟩ : MethodName)) hown (mvT hZ (hw _ (List.mem_of_getElem? (i := 20) rfl))) (mvT hZ (hw _ (List.mem_of_getElem? (i := 21) rfl))) (mvT hZ (hw _ (List.mem_of_getElem? (i := 22) rfl))) (mvT hZ (hw _ (List.mem_of_getElem? (i := 23) rfl))) (by decide) (backOf (W := 0) (rm3 l Z a0 hw [] b2 j40_0 b1 clp j79_0 (nar .byte (p2.toInt8.toInt32)) T3.heap n0 Z3 E3q F3q_type F3q_payload fa6 Szp hj79.1 (fun q r => absurd (hj79.2.2 (own_ne1 _ _ hj59 q)) (by rw [r]; decide)) (fun q => hj79.2.2 (own_ne1 _ _ hj59 q)) (fun q => Bp (hj79.2.2 (own_ne1 _ _ hj59 q)))) hZ (hw _ (List.mem_of_getElem? (i := 23) rfl)) (hw _ (List.mem_of_getElem? (i := 22) rfl)) (by decide) (by decide)) (g := (mkF m 139 #[.val (.int p1), .val (.int p2), .val (.int p3), .val (.int p4), .val (.int ((own_ushr p1 (8 : Int32)) &&& (3 : Int32))), .val (.int j40_0), .val (.int j59_0), .val (.int j79_0), .val (.ref b1), .val (.ref b2), .unset, .unset] [(.ref b2)])) rfl (by rw [hml]; rfl) (argsL := [(.ref b2)]) (rest := []) (lenOf pd_4 rfl) rfl (by show 2 * 0 + _ ≤ _; exact Nat.le_of_eq rfl) (hb hby at_139) (fun _ _ => ⟨rfl, rfl, (by decide : 2 + 0 ≤ _), (by decide : 7 + 0 ≤ _)⟩)
          dsimp only [Pt.U, Pt.locs, Pt.cells, Pt.slots] at X5 l5 y5 z5 st5 hQ5
          subst l5 y5 z5
          obtain ⟨rfl, N5q, e5q⟩ := hQ5
          have N5 := Fr.app N3 N5q
          refine Go.by st5 ?_
          show Go p e below T5 (mkF m 142 #[.val (.int p1), .val (.int p2), .val (.int p3), .val (.int p4), .val (.int ((own_ushr p1 (8 : Int32)) &&& (3 : Int32))), .val (.int j40_0), .val (.int j59_0), .val (.int j79_0), .val (.ref b1), .val (.ref b2), .unset, .unset] [(.int (if own_sel j40_0 = 0 then 0 else ((nar .byte (p2.toInt8.toInt32)) &&& 255)))]) _
          refine Go.by (fun t k => XS.istore X5.here hx rfl (hb hby at_142) rfl (l' := #[.val (.int p1), .val (.int p2), .val (.int p3), .val (.int p4), .val (.int ((own_ushr p1 (8 : Int32)) &&& (3 : Int32))), .val (.int j40_0), .val (.int j59_0), .val (.int j79_0), .val (.ref b1), .val (.ref b2), .val (.int (if own_sel j40_0 = 0 then 0 else ((nar .byte (p2.toInt8.toInt32)) &&& 255))), .unset]) rfl k) ?_
          show Go p e below T5 (mkF m 144 #[.val (.int p1), .val (.int p2), .val (.int p3), .val (.int p4), .val (.int ((own_ushr p1 (8 : Int32)) &&& (3 : Int32))), .val (.int j40_0), .val (.int j59_0), .val (.int j79_0), .val (.ref b1), .val (.ref b2), .val (.int (if own_sel j40_0 = 0 then 0 else ((nar .byte (p2.toInt8.toInt32)) &&& 255))), .unset] []) _
          refine Go.by (fun t k => XS.iload X5.here hx rfl (hb hby at_144) rfl k) ?_
          show Go p e below T5 (mkF m 146 #[.val (.int p1), .val (.int p2), .val (.int p3), .val (.int p4), .val (.int ((own_ushr p1 (8 : Int32)) &&& (3 : Int32))), .val (.int j40_0), .val (.int j59_0), .val (.int j79_0), .val (.ref b1), .val (.ref b2), .val (.int (if own_sel j40_0 = 0 then 0 else ((nar .byte (p2.toInt8.toInt32)) &&& 255))), .unset] [(.int j59_0)]) _
          by_cases hc7 : j59_0 = (0 : Int32)
          · refine Go.by (fun t k => XS.ifYes X5.here hx rfl (pc0 := 146) (pc' := 159) rfl (hb hby at_146) rfl ((if0 _ _).trans (teq hc7).1) (by decide) (by decide) k) ?_
            show Go p e below T5 (mkF m 159 #[.val (.int p1), .val (.int p2), .val (.int p3), .val (.int p4), .val (.int ((own_ushr p1 (8 : Int32)) &&& (3 : Int32))), .val (.int j40_0), .val (.int j59_0), .val (.int j79_0), .val (.ref b1), .val (.ref b2), .val (.int (if own_sel j40_0 = 0 then 0 else ((nar .byte (p2.toInt8.toInt32)) &&& 255))), .unset] []) _
            refine Go.by (fun t k => XS.iconst X5.here hx rfl (hb hby at_159) k) ?_
            show Go p e below T5 (mkF m 160 #[.val (.int p1), .val (.int p2), .val (.int p3), .val (.int p4), .val (.int ((own_ushr p1 (8 : Int32)) &&& (3 : Int32))), .val (.int j40_0), .val (.int j59_0), .val (.int j79_0), .val (.ref b1), .val (.ref b2), .val (.int (if own_sel j40_0 = 0 then 0 else ((nar .byte (p2.toInt8.toInt32)) &&& 255))), .unset] [(.int (0 : Int32))]) _
            refine Go.by (fun t k => XS.istore X5.here hx rfl (hb hby at_160) rfl (l' := #[.val (.int p1), .val (.int p2), .val (.int p3), .val (.int p4), .val (.int ((own_ushr p1 (8 : Int32)) &&& (3 : Int32))), .val (.int j40_0), .val (.int j59_0), .val (.int j79_0), .val (.ref b1), .val (.ref b2), .val (.int (if own_sel j40_0 = 0 then 0 else ((nar .byte (p2.toInt8.toInt32)) &&& 255))), .val (.int (0 : Int32))]) rfl k) ?_
            show Go p e below T5 (mkF m 162 #[.val (.int p1), .val (.int p2), .val (.int p3), .val (.int p4), .val (.int ((own_ushr p1 (8 : Int32)) &&& (3 : Int32))), .val (.int j40_0), .val (.int j59_0), .val (.int j79_0), .val (.ref b1), .val (.ref b2), .val (.int (if own_sel j40_0 = 0 then 0 else ((nar .byte (p2.toInt8.toInt32)) &&& 255))), .val (.int (0 : Int32))] []) _
            refine Go.by (fun t k => XS.iload X5.here hx rfl (hb hby at_162) rfl k) ?_
            show Go p e below T5 (mkF m 164 #[.val (.int p1), .val (.int p2), .val (.int p3), .val (.int p4), .val (.int ((own_ushr p1 (8 : Int32)) &&& (3 : Int32))), .val (.int j40_0), .val (.int j59_0), .val (.int j79_0), .val (.ref b1), .val (.ref b2), .val (.int (if own_sel j40_0 = 0 then 0 else ((nar .byte (p2.toInt8.toInt32)) &&& 255))), .val (.int (0 : Int32))] [(.int (if own_sel j40_0 = 0 then 0 else ((nar .byte (p2.toInt8.toInt32)) &&& 255)))]) _
            refine Go.by (fun t k => XS.iload X5.here hx rfl (hb hby at_164) rfl k) ?_
            show Go p e below T5 (mkF m 166 #[.val (.int p1), .val (.int p2), .val (.int p3), .val (.int p4), .val (.int ((own_ushr p1 (8 : Int32)) &&& (3 : Int32))), .val (.int j40_0), .val (.int j59_0), .val (.int j79_0), .val (.ref b1), .val (.ref b2), .val (.int (if own_sel j40_0 = 0 then 0 else ((nar .byte (p2.toInt8.toInt32)) &&& 255))), .val (.int (0 : Int32))] [(.int (0 : Int32)), (.int (if own_sel j40_0 = 0 then 0 else ((nar .byte (p2.toInt8.toInt32)) &&& 255)))]) _
            refine Go.by (fun t k => XS.icmpNo X5.here hx rfl (hb hby at_166) rfl (teq (show (if own_sel j40_0 = 0 then 0 else ((nar .byte (p2.toInt8.toInt32)) &&& 255)) = (0 : Int32) from own_e0 _ _ _ hj59 hc7)).2 k) ?_
            show Go p e below T5 (mkF m 169 #[.val (.int p1), .val (.int p2), .val (.int p3), .val (.int p4), .val (.int ((own_ushr p1 (8 : Int32)) &&& (3 : Int32))), .val (.int j40_0), .val (.int j59_0), .val (.int j79_0), .val (.ref b1), .val (.ref b2), .val (.int (if own_sel j40_0 = 0 then 0 else ((nar .byte (p2.toInt8.toInt32)) &&& 255))), .val (.int (0 : Int32))] []) _
            refine Go.by (fun t k => XS.iconst X5.here hx rfl (hb hby at_169) k) ?_
            show Go p e below T5 (mkF m 170 #[.val (.int p1), .val (.int p2), .val (.int p3), .val (.int p4), .val (.int ((own_ushr p1 (8 : Int32)) &&& (3 : Int32))), .val (.int j40_0), .val (.int j59_0), .val (.int j79_0), .val (.ref b1), .val (.ref b2), .val (.int (if own_sel j40_0 = 0 then 0 else ((nar .byte (p2.toInt8.toInt32)) &&& 255))), .val (.int (0 : Int32))] [(.int (1 : Int32))]) _
            refine Go.by (fun t k => XS.goto X5.here hx rfl (pc0 := 170) (pc' := 174) rfl (hb hby at_170) (by decide) (by decide) k) ?_
            show Go p e below T5 (mkF m 174 #[.val (.int p1), .val (.int p2), .val (.int p3), .val (.int p4), .val (.int ((own_ushr p1 (8 : Int32)) &&& (3 : Int32))), .val (.int j40_0), .val (.int j59_0), .val (.int j79_0), .val (.ref b1), .val (.ref b2), .val (.int (if own_sel j40_0 = 0 then 0 else ((nar .byte (p2.toInt8.toInt32)) &&& 255))), .val (.int (0 : Int32))] [(.int (1 : Int32))]) _
            obtain ⟨fs, hr, hrun, hended, hW, hsame⟩ := X5.leave (v := some (.int (1 : Int32))) (fun h => by rw [Bd.returns] at h; cases h)
            refine Go.done (retN X5 hx (t := .boolean) Bd.returns (by simp) (hb hby at_174) hr) hrun hended ⟨_, _, rfl, ?_, ⟨_, rfl⟩, hW, hsame.mono (by decide) (by decide)⟩
            show Q0 Z p1 p2 p3 p4 h0 n0 _ T5.heap _
            rw [e5q]
            exact ⟨rfl, N5⟩
          · refine Go.by (fun t k => XS.ifNo X5.here hx rfl (hb hby at_146) rfl ((if0 _ _).trans (feq hc7).1) k) ?_
            show Go p e below T5 (mkF m 149 #[.val (.int p1), .val (.int p2), .val (.int p3), .val (.int p4), .val (.int ((own_ushr p1 (8 : Int32)) &&& (3 : Int32))), .val (.int j40_0), .val (.int j59_0), .val (.int j79_0), .val (.ref b1), .val (.ref b2), .val (.int (if own_sel j40_0 = 0 then 0 else ((nar .byte (p2.toInt8.toInt32)) &&& 255))), .unset] []) _
            refine Go.by (fun t k => XS.iloadN X5.here hx rfl (hb hby at_149) rfl k) ?_
            show Go p e below T5 (mkF m 150 #[.val (.int p1), .val (.int p2), .val (.int p3), .val (.int p4), .val (.int ((own_ushr p1 (8 : Int32)) &&& (3 : Int32))), .val (.int j40_0), .val (.int j59_0), .val (.int j79_0), .val (.ref b1), .val (.ref b2), .val (.int (if own_sel j40_0 = 0 then 0 else ((nar .byte (p2.toInt8.toInt32)) &&& 255))), .unset] [(.int p2)]) _
            refine Go.by (fun t k => XS.sipush X5.here hx rfl (hb hby at_150) k) ?_
            show Go p e below T5 (mkF m 153 #[.val (.int p1), .val (.int p2), .val (.int p3), .val (.int p4), .val (.int ((own_ushr p1 (8 : Int32)) &&& (3 : Int32))), .val (.int j40_0), .val (.int j59_0), .val (.int j79_0), .val (.ref b1), .val (.ref b2), .val (.int (if own_sel j40_0 = 0 then 0 else ((nar .byte (p2.toInt8.toInt32)) &&& 255))), .unset] [(.int (255 : Int32)), (.int p2)]) _
            refine Go.by (fun t k => XS.iand X5.here hx rfl (hb hby at_153) rfl k) ?_
            show Go p e below T5 (mkF m 154 #[.val (.int p1), .val (.int p2), .val (.int p3), .val (.int p4), .val (.int ((own_ushr p1 (8 : Int32)) &&& (3 : Int32))), .val (.int j40_0), .val (.int j59_0), .val (.int j79_0), .val (.ref b1), .val (.ref b2), .val (.int (if own_sel j40_0 = 0 then 0 else ((nar .byte (p2.toInt8.toInt32)) &&& 255))), .unset] [(.int (p2 &&& (255 : Int32)))]) _
            refine Go.by (fun t k => XS.istore X5.here hx rfl (hb hby at_154) rfl (l' := #[.val (.int p1), .val (.int p2), .val (.int p3), .val (.int p4), .val (.int ((own_ushr p1 (8 : Int32)) &&& (3 : Int32))), .val (.int j40_0), .val (.int j59_0), .val (.int j79_0), .val (.ref b1), .val (.ref b2), .val (.int (if own_sel j40_0 = 0 then 0 else ((nar .byte (p2.toInt8.toInt32)) &&& 255))), .val (.int (p2 &&& (255 : Int32)))]) rfl k) ?_
            show Go p e below T5 (mkF m 156 #[.val (.int p1), .val (.int p2), .val (.int p3), .val (.int p4), .val (.int ((own_ushr p1 (8 : Int32)) &&& (3 : Int32))), .val (.int j40_0), .val (.int j59_0), .val (.int j79_0), .val (.ref b1), .val (.ref b2), .val (.int (if own_sel j40_0 = 0 then 0 else ((nar .byte (p2.toInt8.toInt32)) &&& 255))), .val (.int (p2 &&& (255 : Int32)))] []) _
            refine Go.by (fun t k => XS.goto X5.here hx rfl (pc0 := 156) (pc' := 162) rfl (hb hby at_156) (by decide) (by decide) k) ?_
            show Go p e below T5 (mkF m 162 #[.val (.int p1), .val (.int p2), .val (.int p3), .val (.int p4), .val (.int ((own_ushr p1 (8 : Int32)) &&& (3 : Int32))), .val (.int j40_0), .val (.int j59_0), .val (.int j79_0), .val (.ref b1), .val (.ref b2), .val (.int (if own_sel j40_0 = 0 then 0 else ((nar .byte (p2.toInt8.toInt32)) &&& 255))), .val (.int (p2 &&& (255 : Int32)))] []) _
            refine Go.by (fun t k => XS.iload X5.here hx rfl (hb hby at_162) rfl k) ?_
            show Go p e below T5 (mkF m 164 #[.val (.int p1), .val (.int p2), .val (.int p3), .val (.int p4), .val (.int ((own_ushr p1 (8 : Int32)) &&& (3 : Int32))), .val (.int j40_0), .val (.int j59_0), .val (.int j79_0), .val (.ref b1), .val (.ref b2), .val (.int (if own_sel j40_0 = 0 then 0 else ((nar .byte (p2.toInt8.toInt32)) &&& 255))), .val (.int (p2 &&& (255 : Int32)))] [(.int (if own_sel j40_0 = 0 then 0 else ((nar .byte (p2.toInt8.toInt32)) &&& 255)))]) _
            refine Go.by (fun t k => XS.iload X5.here hx rfl (hb hby at_164) rfl k) ?_
            show Go p e below T5 (mkF m 166 #[.val (.int p1), .val (.int p2), .val (.int p3), .val (.int p4), .val (.int ((own_ushr p1 (8 : Int32)) &&& (3 : Int32))), .val (.int j40_0), .val (.int j59_0), .val (.int j79_0), .val (.ref b1), .val (.ref b2), .val (.int (if own_sel j40_0 = 0 then 0 else ((nar .byte (p2.toInt8.toInt32)) &&& 255))), .val (.int (p2 &&& (255 : Int32)))] [(.int (p2 &&& (255 : Int32))), (.int (if own_sel j40_0 = 0 then 0 else ((nar .byte (p2.toInt8.toInt32)) &&& 255)))]) _
            refine Go.by (fun t k => XS.icmpNo X5.here hx rfl (hb hby at_166) rfl (teq (show (if own_sel j40_0 = 0 then 0 else ((nar .byte (p2.toInt8.toInt32)) &&& 255)) = (p2 &&& (255 : Int32)) from own_e1 _ _ _ hj59 hc7)).2 k) ?_
            show Go p e below T5 (mkF m 169 #[.val (.int p1), .val (.int p2), .val (.int p3), .val (.int p4), .val (.int ((own_ushr p1 (8 : Int32)) &&& (3 : Int32))), .val (.int j40_0), .val (.int j59_0), .val (.int j79_0), .val (.ref b1), .val (.ref b2), .val (.int (if own_sel j40_0 = 0 then 0 else ((nar .byte (p2.toInt8.toInt32)) &&& 255))), .val (.int (p2 &&& (255 : Int32)))] []) _
            refine Go.by (fun t k => XS.iconst X5.here hx rfl (hb hby at_169) k) ?_
            show Go p e below T5 (mkF m 170 #[.val (.int p1), .val (.int p2), .val (.int p3), .val (.int p4), .val (.int ((own_ushr p1 (8 : Int32)) &&& (3 : Int32))), .val (.int j40_0), .val (.int j59_0), .val (.int j79_0), .val (.ref b1), .val (.ref b2), .val (.int (if own_sel j40_0 = 0 then 0 else ((nar .byte (p2.toInt8.toInt32)) &&& 255))), .val (.int (p2 &&& (255 : Int32)))] [(.int (1 : Int32))]) _
            refine Go.by (fun t k => XS.goto X5.here hx rfl (pc0 := 170) (pc' := 174) rfl (hb hby at_170) (by decide) (by decide) k) ?_
            show Go p e below T5 (mkF m 174 #[.val (.int p1), .val (.int p2), .val (.int p3), .val (.int p4), .val (.int ((own_ushr p1 (8 : Int32)) &&& (3 : Int32))), .val (.int j40_0), .val (.int j59_0), .val (.int j79_0), .val (.ref b1), .val (.ref b2), .val (.int (if own_sel j40_0 = 0 then 0 else ((nar .byte (p2.toInt8.toInt32)) &&& 255))), .val (.int (p2 &&& (255 : Int32)))] [(.int (1 : Int32))]) _
            obtain ⟨fs, hr, hrun, hended, hW, hsame⟩ := X5.leave (v := some (.int (1 : Int32))) (fun h => by rw [Bd.returns] at h; cases h)
            refine Go.done (retN X5 hx (t := .boolean) Bd.returns (by simp) (hb hby at_174) hr) hrun hended ⟨_, _, rfl, ?_, ⟨_, rfl⟩, hW, hsame.mono (by decide) (by decide)⟩
            show Q0 Z p1 p2 p3 p4 h0 n0 _ T5.heap _
            rw [e5q]
            exact ⟨rfl, N5⟩
        have J108 : ∀ (Tj108 : State) (Lj108 : List Loc) (hj108 : Heap) (Xj108 : Stand p l e room_1 s m #[(.int p1), (.int p2), (.int p3), (.int p4)] below meth c Tj108 Lj108 1 3) (ej108 : Tj108.heap = hj108) (Nj108 : Fr n0 Lj108) (Zj108 : n0 ≤ hj108.size) (Aj108 : ∃ cl : Cell, Arr Z hj108 b1 cl .byte ∧ cl.slots.size = j79_0.toNatClampNeg ∧ ((0 : Int32) < j79_0 → cl.slots[(0 : Int32).toNatClampNeg]? = some (.int (nar .byte (p2.toInt8.toInt32))))), Go p e below Tj108 (mkF m 108 #[.val (.int p1), .val (.int p2), .val (.int p3), .val (.int p4), .val (.int ((own_ushr p1 (8 : Int32)) &&& (3 : Int32))), .val (.int j40_0), .val (.int j59_0), .val (.int j79_0), .val (.ref b1), .unset, .unset, .unset] []) (Pst0 Z p1 p2 p3 p4 h0 n0 s) := by
          intro Tj108 Lj108 hj108 Xj108 ej108 Nj108 Zj108 Aj108
          refine Go.by (fun t k => XS.iload Xj108.here hx rfl (hb hby at_108) rfl k) ?_
          show Go p e below Tj108 (mkF m 110 #[.val (.int p1), .val (.int p2), .val (.int p3), .val (.int p4), .val (.int ((own_ushr p1 (8 : Int32)) &&& (3 : Int32))), .val (.int j40_0), .val (.int j59_0), .val (.int j79_0), .val (.ref b1), .unset, .unset, .unset] [(.int j79_0)]) _
          refine Go.by (fun t k => XS.iconst Xj108.here hx rfl (hb hby at_110) k) ?_
          show Go p e below Tj108 (mkF m 111 #[.val (.int p1), .val (.int p2), .val (.int p3), .val (.int p4), .val (.int ((own_ushr p1 (8 : Int32)) &&& (3 : Int32))), .val (.int j40_0), .val (.int j59_0), .val (.int j79_0), .val (.ref b1), .unset, .unset, .unset] [(.int (2 : Int32)), (.int j79_0)]) _
          by_cases hc8 : (2 : Int32) < j79_0
          · refine Go.by (fun t k => XS.icmpNo Xj108.here hx rfl (hb hby at_111) rfl (tlt hc8).2.2.2 k) ?_
            show Go p e below Tj108 (mkF m 114 #[.val (.int p1), .val (.int p2), .val (.int p3), .val (.int p4), .val (.int ((own_ushr p1 (8 : Int32)) &&& (3 : Int32))), .val (.int j40_0), .val (.int j59_0), .val (.int j79_0), .val (.ref b1), .unset, .unset, .unset] []) _
            refine Go.by (fun t k => XS.aload Xj108.here hx rfl (hb hby at_114) rfl rfl k) ?_
            show Go p e below Tj108 (mkF m 116 #[.val (.int p1), .val (.int p2), .val (.int p3), .val (.int p4), .val (.int ((own_ushr p1 (8 : Int32)) &&& (3 : Int32))), .val (.int j40_0), .val (.int j59_0), .val (.int j79_0), .val (.ref b1), .unset, .unset, .unset] [(.ref b1)]) _
            refine Go.by (fun t k => XS.iconst Xj108.here hx rfl (hb hby at_116) k) ?_
            show Go p e below Tj108 (mkF m 117 #[.val (.int p1), .val (.int p2), .val (.int p3), .val (.int p4), .val (.int ((own_ushr p1 (8 : Int32)) &&& (3 : Int32))), .val (.int j40_0), .val (.int j59_0), .val (.int j79_0), .val (.ref b1), .unset, .unset, .unset] [(.int (2 : Int32)), (.ref b1)]) _
            refine Go.by (fun t k => XS.iloadN Xj108.here hx rfl (hb hby at_117) rfl k) ?_
            show Go p e below Tj108 (mkF m 118 #[.val (.int p1), .val (.int p2), .val (.int p3), .val (.int p4), .val (.int ((own_ushr p1 (8 : Int32)) &&& (3 : Int32))), .val (.int j40_0), .val (.int j59_0), .val (.int j79_0), .val (.ref b1), .unset, .unset, .unset] [(.int p2), (.int (2 : Int32)), (.ref b1)]) _
            refine Go.by (fun t k => XS.iloadN Xj108.here hx rfl (hb hby at_118) rfl k) ?_
            show Go p e below Tj108 (mkF m 119 #[.val (.int p1), .val (.int p2), .val (.int p3), .val (.int p4), .val (.int ((own_ushr p1 (8 : Int32)) &&& (3 : Int32))), .val (.int j40_0), .val (.int j59_0), .val (.int j79_0), .val (.ref b1), .unset, .unset, .unset] [(.int p3), (.int p2), (.int (2 : Int32)), (.ref b1)]) _
            refine Go.by (fun t k => XS.ixor Xj108.here hx rfl (hb hby at_119) rfl k) ?_
            show Go p e below Tj108 (mkF m 120 #[.val (.int p1), .val (.int p2), .val (.int p3), .val (.int p4), .val (.int ((own_ushr p1 (8 : Int32)) &&& (3 : Int32))), .val (.int j40_0), .val (.int j59_0), .val (.int j79_0), .val (.ref b1), .unset, .unset, .unset] [(.int (p2 ^^^ p3)), (.int (2 : Int32)), (.ref b1)]) _
            refine Go.by (fun t k => XS.i2b Xj108.here hx rfl (hb hby at_120) rfl k) ?_
            show Go p e below Tj108 (mkF m 121 #[.val (.int p1), .val (.int p2), .val (.int p3), .val (.int p4), .val (.int ((own_ushr p1 (8 : Int32)) &&& (3 : Int32))), .val (.int j40_0), .val (.int j59_0), .val (.int j79_0), .val (.ref b1), .unset, .unset, .unset] [(.int ((p2 ^^^ p3).toInt8.toInt32)), (.int (2 : Int32)), (.ref b1)]) _
            obtain ⟨cl9, Ar9, S9, B9⟩ := Aj108
            obtain ⟨T9, h9, X9, e9, W9, st9⟩ := stB Xj108 hx hZ ej108 Ar9 (j := (2 : Int32)) (inb_of S9 ⟨by decide, hc8⟩) (g := (mkF m 121 #[.val (.int p1), .val (.int p2), .val (.int p3), .val (.int p4), .val (.int ((own_ushr p1 (8 : Int32)) &&& (3 : Int32))), .val (.int j40_0), .val (.int j59_0), .val (.int j79_0), .val (.ref b1), .unset, .unset, .unset] [(.int ((p2 ^^^ p3).toInt8.toInt32)), (.int (2 : Int32)), (.ref b1)])) rfl rfl (hb hby at_121)
            have N9 := Fr.snoc X9 Nj108 gn1
            have Z9 : n0 ≤ h9.size := by rw [W9.size]; exact Zj108
            have A9a : ∃ cl : Cell, Arr Z h9 b1 cl .byte ∧ cl.slots.size = j79_0.toNatClampNeg ∧ ((0 : Int32) < j79_0 → cl.slots[(0 : Int32).toNatClampNeg]? = some (.int (nar .byte (p2.toInt8.toInt32)))) := ⟨_, Ar9.same W9, by rw [own_ss]; exact S9, fun q => by rw [own_other _ _ _ _ (by decide)]; exact B9 q⟩
            refine Go.by st9 ?_
            show Go p e below T9 (mkF m 122 #[.val (.int p1), .val (.int p2), .val (.int p3), .val (.int p4), .val (.int ((own_ushr p1 (8 : Int32)) &&& (3 : Int32))), .val (.int j40_0), .val (.int j59_0), .val (.int j79_0), .val (.ref b1), .unset, .unset, .unset] []) _
            exact J122 _ _ _ X9 e9 N9 Z9 A9a
          · refine Go.by (fun t k => XS.icmpYes Xj108.here hx rfl (pc0 := 111) (pc' := 122) rfl (hb hby at_111) rfl (flt hc8).2.2.2 (by decide) (by decide) k) ?_
            show Go p e below Tj108 (mkF m 122 #[.val (.int p1), .val (.int p2), .val (.int p3), .val (.int p4), .val (.int ((own_ushr p1 (8 : Int32)) &&& (3 : Int32))), .val (.int j40_0), .val (.int j59_0), .val (.int j79_0), .val (.ref b1), .unset, .unset, .unset] []) _
            exact J122 _ _ _ Xj108 ej108 Nj108 Zj108 Aj108
        have J96 : ∀ (Tj96 : State) (Lj96 : List Loc) (hj96 : Heap) (Xj96 : Stand p l e room_1 s m #[(.int p1), (.int p2), (.int p3), (.int p4)] below meth c Tj96 Lj96 1 3) (ej96 : Tj96.heap = hj96) (Nj96 : Fr n0 Lj96) (Zj96 : n0 ≤ hj96.size) (Aj96 : ∃ cl : Cell, Arr Z hj96 b1 cl .byte ∧ cl.slots.size = j79_0.toNatClampNeg ∧ ((0 : Int32) < j79_0 → cl.slots[(0 : Int32).toNatClampNeg]? = some (.int (nar .byte (p2.toInt8.toInt32))))), Go p e below Tj96 (mkF m 96 #[.val (.int p1), .val (.int p2), .val (.int p3), .val (.int p4), .val (.int ((own_ushr p1 (8 : Int32)) &&& (3 : Int32))), .val (.int j40_0), .val (.int j59_0), .val (.int j79_0), .val (.ref b1), .unset, .unset, .unset] []) (Pst0 Z p1 p2 p3 p4 h0 n0 s) := by
          intro Tj96 Lj96 hj96 Xj96 ej96 Nj96 Zj96 Aj96
          refine Go.by (fun t k => XS.iload Xj96.here hx rfl (hb hby at_96) rfl k) ?_
          show Go p e below Tj96 (mkF m 98 #[.val (.int p1), .val (.int p2), .val (.int p3), .val (.int p4), .val (.int ((own_ushr p1 (8 : Int32)) &&& (3 : Int32))), .val (.int j40_0), .val (.int j59_0), .val (.int j79_0), .val (.ref b1), .unset, .unset, .unset] [(.int j79_0)]) _
          refine Go.by (fun t k => XS.iconst Xj96.here hx rfl (hb hby at_98) k) ?_
          show Go p e below Tj96 (mkF m 99 #[.val (.int p1), .val (.int p2), .val (.int p3), .val (.int p4), .val (.int ((own_ushr p1 (8 : Int32)) &&& (3 : Int32))), .val (.int j40_0), .val (.int j59_0), .val (.int j79_0), .val (.ref b1), .unset, .unset, .unset] [(.int (1 : Int32)), (.int j79_0)]) _
          by_cases hc10 : (1 : Int32) < j79_0
          · refine Go.by (fun t k => XS.icmpNo Xj96.here hx rfl (hb hby at_99) rfl (tlt hc10).2.2.2 k) ?_
            show Go p e below Tj96 (mkF m 102 #[.val (.int p1), .val (.int p2), .val (.int p3), .val (.int p4), .val (.int ((own_ushr p1 (8 : Int32)) &&& (3 : Int32))), .val (.int j40_0), .val (.int j59_0), .val (.int j79_0), .val (.ref b1), .unset, .unset, .unset] []) _
            refine Go.by (fun t k => XS.aload Xj96.here hx rfl (hb hby at_102) rfl rfl k) ?_
            show Go p e below Tj96 (mkF m 104 #[.val (.int p1), .val (.int p2), .val (.int p3), .val (.int p4), .val (.int ((own_ushr p1 (8 : Int32)) &&& (3 : Int32))), .val (.int j40_0), .val (.int j59_0), .val (.int j79_0), .val (.ref b1), .unset, .unset, .unset] [(.ref b1)]) _
            refine Go.by (fun t k => XS.iconst Xj96.here hx rfl (hb hby at_104) k) ?_
            show Go p e below Tj96 (mkF m 105 #[.val (.int p1), .val (.int p2), .val (.int p3), .val (.int p4), .val (.int ((own_ushr p1 (8 : Int32)) &&& (3 : Int32))), .val (.int j40_0), .val (.int j59_0), .val (.int j79_0), .val (.ref b1), .unset, .unset, .unset] [(.int (1 : Int32)), (.ref b1)]) _
            refine Go.by (fun t k => XS.iloadN Xj96.here hx rfl (hb hby at_105) rfl k) ?_
            show Go p e below Tj96 (mkF m 106 #[.val (.int p1), .val (.int p2), .val (.int p3), .val (.int p4), .val (.int ((own_ushr p1 (8 : Int32)) &&& (3 : Int32))), .val (.int j40_0), .val (.int j59_0), .val (.int j79_0), .val (.ref b1), .unset, .unset, .unset] [(.int p3), (.int (1 : Int32)), (.ref b1)]) _
            refine Go.by (fun t k => XS.i2b Xj96.here hx rfl (hb hby at_106) rfl k) ?_
            show Go p e below Tj96 (mkF m 107 #[.val (.int p1), .val (.int p2), .val (.int p3), .val (.int p4), .val (.int ((own_ushr p1 (8 : Int32)) &&& (3 : Int32))), .val (.int j40_0), .val (.int j59_0), .val (.int j79_0), .val (.ref b1), .unset, .unset, .unset] [(.int (p3.toInt8.toInt32)), (.int (1 : Int32)), (.ref b1)]) _
            obtain ⟨cl11, Ar11, S11, B11⟩ := Aj96
            obtain ⟨T11, h11, X11, e11, W11, st11⟩ := stB Xj96 hx hZ ej96 Ar11 (j := (1 : Int32)) (inb_of S11 ⟨by decide, hc10⟩) (g := (mkF m 107 #[.val (.int p1), .val (.int p2), .val (.int p3), .val (.int p4), .val (.int ((own_ushr p1 (8 : Int32)) &&& (3 : Int32))), .val (.int j40_0), .val (.int j59_0), .val (.int j79_0), .val (.ref b1), .unset, .unset, .unset] [(.int (p3.toInt8.toInt32)), (.int (1 : Int32)), (.ref b1)])) rfl rfl (hb hby at_107)
            have N11 := Fr.snoc X11 Nj96 gn1
            have Z11 : n0 ≤ h11.size := by rw [W11.size]; exact Zj96
            have A11a : ∃ cl : Cell, Arr Z h11 b1 cl .byte ∧ cl.slots.size = j79_0.toNatClampNeg ∧ ((0 : Int32) < j79_0 → cl.slots[(0 : Int32).toNatClampNeg]? = some (.int (nar .byte (p2.toInt8.toInt32)))) := ⟨_, Ar11.same W11, by rw [own_ss]; exact S11, fun q => by rw [own_other _ _ _ _ (by decide)]; exact B11 q⟩
            refine Go.by st11 ?_
            show Go p e below T11 (mkF m 108 #[.val (.int p1), .val (.int p2), .val (.int p3), .val (.int p4), .val (.int ((own_ushr p1 (8 : Int32)) &&& (3 : Int32))), .val (.int j40_0), .val (.int j59_0), .val (.int j79_0), .val (.ref b1), .unset, .unset, .unset] []) _
            exact J108 _ _ _ X11 e11 N11 Z11 A11a
          · refine Go.by (fun t k => XS.icmpYes Xj96.here hx rfl (pc0 := 99) (pc' := 108) rfl (hb hby at_99) rfl (flt hc10).2.2.2 (by decide) (by decide) k) ?_
            show Go p e below Tj96 (mkF m 108 #[.val (.int p1), .val (.int p2), .val (.int p3), .val (.int p4), .val (.int ((own_ushr p1 (8 : Int32)) &&& (3 : Int32))), .val (.int j40_0), .val (.int j59_0), .val (.int j79_0), .val (.ref b1), .unset, .unset, .unset] []) _
            exact J108 _ _ _ Xj96 ej96 Nj96 Zj96 Aj96
        refine Go.by (fun t k => XS.iload X1.here hx rfl (hb hby at_85) rfl k) ?_
        show Go p e below T1 (mkF m 87 #[.val (.int p1), .val (.int p2), .val (.int p3), .val (.int p4), .val (.int ((own_ushr p1 (8 : Int32)) &&& (3 : Int32))), .val (.int j40_0), .val (.int j59_0), .val (.int j79_0), .val (.ref b1), .unset, .unset, .unset] [(.int j79_0)]) _
        by_cases hc12 : (0 : Int32) < j79_0
        · refine Go.by (fun t k => XS.ifNo X1.here hx rfl (hb hby at_87) rfl ((if0 _ _).trans (tlt hc12).2.2.2) k) ?_
          show Go p e below T1 (mkF m 90 #[.val (.int p1), .val (.int p2), .val (.int p3), .val (.int p4), .val (.int ((own_ushr p1 (8 : Int32)) &&& (3 : Int32))), .val (.int j40_0), .val (.int j59_0), .val (.int j79_0), .val (.ref b1), .unset, .unset, .unset] []) _
          refine Go.by (fun t k => XS.aload X1.here hx rfl (hb hby at_90) rfl rfl k) ?_
          show Go p e below T1 (mkF m 92 #[.val (.int p1), .val (.int p2), .val (.int p3), .val (.int p4), .val (.int ((own_ushr p1 (8 : Int32)) &&& (3 : Int32))), .val (.int j40_0), .val (.int j59_0), .val (.int j79_0), .val (.ref b1), .unset, .unset, .unset] [(.ref b1)]) _
          refine Go.by (fun t k => XS.iconst X1.here hx rfl (hb hby at_92) k) ?_
          show Go p e below T1 (mkF m 93 #[.val (.int p1), .val (.int p2), .val (.int p3), .val (.int p4), .val (.int ((own_ushr p1 (8 : Int32)) &&& (3 : Int32))), .val (.int j40_0), .val (.int j59_0), .val (.int j79_0), .val (.ref b1), .unset, .unset, .unset] [(.int (0 : Int32)), (.ref b1)]) _
          refine Go.by (fun t k => XS.iloadN X1.here hx rfl (hb hby at_93) rfl k) ?_
          show Go p e below T1 (mkF m 94 #[.val (.int p1), .val (.int p2), .val (.int p3), .val (.int p4), .val (.int ((own_ushr p1 (8 : Int32)) &&& (3 : Int32))), .val (.int j40_0), .val (.int j59_0), .val (.int j79_0), .val (.ref b1), .unset, .unset, .unset] [(.int p2), (.int (0 : Int32)), (.ref b1)]) _
          refine Go.by (fun t k => XS.i2b X1.here hx rfl (hb hby at_94) rfl k) ?_
          show Go p e below T1 (mkF m 95 #[.val (.int p1), .val (.int p2), .val (.int p3), .val (.int p4), .val (.int ((own_ushr p1 (8 : Int32)) &&& (3 : Int32))), .val (.int j40_0), .val (.int j59_0), .val (.int j79_0), .val (.ref b1), .unset, .unset, .unset] [(.int (p2.toInt8.toInt32)), (.int (0 : Int32)), (.ref b1)]) _
          obtain ⟨cl13, Ar13, S13⟩ := A0
          obtain ⟨T13, h13, X13, e13, W13, st13⟩ := stB X1 hx hZ e1 Ar13 (j := (0 : Int32)) (inb_of S13 ⟨by decide, hc12⟩) (g := (mkF m 95 #[.val (.int p1), .val (.int p2), .val (.int p3), .val (.int p4), .val (.int ((own_ushr p1 (8 : Int32)) &&& (3 : Int32))), .val (.int j40_0), .val (.int j59_0), .val (.int j79_0), .val (.ref b1), .unset, .unset, .unset] [(.int (p2.toInt8.toInt32)), (.int (0 : Int32)), (.ref b1)])) rfl rfl (hb hby at_95)
          have N13 := Fr.snoc X13 N0 gn1
          have Z13 : n0 ≤ h13.size := by rw [W13.size]; exact Z1
          have A13a : ∃ cl : Cell, Arr Z h13 b1 cl .byte ∧ cl.slots.size = j79_0.toNatClampNeg ∧ ((0 : Int32) < j79_0 → cl.slots[(0 : Int32).toNatClampNeg]? = some (.int (nar .byte (p2.toInt8.toInt32)))) := ⟨_, Ar13.same W13, by rw [own_ss]; exact S13, fun _ => own_self _ _ _ (Nat.lt_of_not_le fun q => inb_of S13 (j := (0 : Int32)) ⟨by decide, hc12⟩ (Or.inr q))⟩
          refine Go.by st13 ?_
          show Go p e below T13 (mkF m 96 #[.val (.int p1), .val (.int p2), .val (.int p3), .val (.int p4), .val (.int ((own_ushr p1 (8 : Int32)) &&& (3 : Int32))), .val (.int j40_0), .val (.int j59_0), .val (.int j79_0), .val (.ref b1), .unset, .unset, .unset] []) _
          exact J96 _ _ _ X13 e13 N13 Z13 A13a
        · refine Go.by (fun t k => XS.ifYes X1.here hx rfl (pc0 := 87) (pc' := 96) rfl (hb hby at_87) rfl ((if0 _ _).trans (flt hc12).2.2.2) (by decide) (by decide) k) ?_
          show Go p e below T1 (mkF m 96 #[.val (.int p1), .val (.int p2), .val (.int p3), .val (.int p4), .val (.int ((own_ushr p1 (8 : Int32)) &&& (3 : Int32))), .val (.int j40_0), .val (.int j59_0), .val (.int j79_0), .val (.ref b1), .unset, .unset, .unset] []) _
          have A0b : ∃ cl : Cell, Arr Z h1 b1 cl .byte ∧ cl.slots.size = j79_0.toNatClampNeg ∧ ((0 : Int32) < j79_0 → cl.slots[(0 : Int32).toNatClampNeg]? = some (.int (nar .byte (p2.toInt8.toInt32)))) := by obtain ⟨cl, Ar, S⟩ := A0; exact ⟨cl, Ar, S, fun q => absurd q hc12⟩
          exact J96 _ _ _ X1 e1 N0 Z1 A0b
      by_cases hc14 : j59_0 = (0 : Int32)
      · refine Go.by (fun t k => XS.ifYes X0.here hx rfl (pc0 := 68) (pc' := 79) rfl (hb hby at_68) rfl ((if0 _ _).trans (teq hc14).1) (by decide) (by decide) k) ?_
        show Go p e below s₁ (mkF m 79 #[.val (.int p1), .val (.int p2), .val (.int p3), .val (.int p4), .val (.int ((own_ushr p1 (8 : Int32)) &&& (3 : Int32))), .val (.int j40_0), .val (.int j59_0), .val (.int (p4 &&& (3 : Int32))), .unset, .unset, .unset, .unset] []) _
        exact J79 (p4 &&& (3 : Int32)) (own_Na _ _ hc14)
      · refine Go.by (fun t k => XS.ifNo X0.here hx rfl (hb hby at_68) rfl ((if0 _ _).trans (feq hc14).1) k) ?_
        show Go p e below s₁ (mkF m 71 #[.val (.int p1), .val (.int p2), .val (.int p3), .val (.int p4), .val (.int ((own_ushr p1 (8 : Int32)) &&& (3 : Int32))), .val (.int j40_0), .val (.int j59_0), .val (.int (p4 &&& (3 : Int32))), .unset, .unset, .unset, .unset] []) _
        refine Go.by (fun t k => XS.iload X0.here hx rfl (hb hby at_71) rfl k) ?_
        show Go p e below s₁ (mkF m 73 #[.val (.int p1), .val (.int p2), .val (.int p3), .val (.int p4), .val (.int ((own_ushr p1 (8 : Int32)) &&& (3 : Int32))), .val (.int j40_0), .val (.int j59_0), .val (.int (p4 &&& (3 : Int32))), .unset, .unset, .unset, .unset] [(.int (p4 &&& (3 : Int32)))]) _
        by_cases hc15 : (p4 &&& (3 : Int32)) = (0 : Int32)
        · refine Go.by (fun t k => XS.ifNo X0.here hx rfl (hb hby at_73) rfl ((if0 _ _).trans (teq hc15).2) k) ?_
          show Go p e below s₁ (mkF m 76 #[.val (.int p1), .val (.int p2), .val (.int p3), .val (.int p4), .val (.int ((own_ushr p1 (8 : Int32)) &&& (3 : Int32))), .val (.int j40_0), .val (.int j59_0), .val (.int (p4 &&& (3 : Int32))), .unset, .unset, .unset, .unset] []) _
          refine Go.by (fun t k => XS.iconst X0.here hx rfl (hb hby at_76) k) ?_
          show Go p e below s₁ (mkF m 77 #[.val (.int p1), .val (.int p2), .val (.int p3), .val (.int p4), .val (.int ((own_ushr p1 (8 : Int32)) &&& (3 : Int32))), .val (.int j40_0), .val (.int j59_0), .val (.int (p4 &&& (3 : Int32))), .unset, .unset, .unset, .unset] [(.int (1 : Int32))]) _
          refine Go.by (fun t k => XS.istore X0.here hx rfl (hb hby at_77) rfl (l' := #[.val (.int p1), .val (.int p2), .val (.int p3), .val (.int p4), .val (.int ((own_ushr p1 (8 : Int32)) &&& (3 : Int32))), .val (.int j40_0), .val (.int j59_0), .val (.int (1 : Int32)), .unset, .unset, .unset, .unset]) rfl k) ?_
          show Go p e below s₁ (mkF m 79 #[.val (.int p1), .val (.int p2), .val (.int p3), .val (.int p4), .val (.int ((own_ushr p1 (8 : Int32)) &&& (3 : Int32))), .val (.int j40_0), .val (.int j59_0), .val (.int (1 : Int32)), .unset, .unset, .unset, .unset] []) _
          exact J79 (1 : Int32) (own_N1 _)
        · refine Go.by (fun t k => XS.ifYes X0.here hx rfl (pc0 := 73) (pc' := 79) rfl (hb hby at_73) rfl ((if0 _ _).trans (feq hc15).2) (by decide) (by decide) k) ?_
          show Go p e below s₁ (mkF m 79 #[.val (.int p1), .val (.int p2), .val (.int p3), .val (.int p4), .val (.int ((own_ushr p1 (8 : Int32)) &&& (3 : Int32))), .val (.int j40_0), .val (.int j59_0), .val (.int (p4 &&& (3 : Int32))), .unset, .unset, .unset, .unset] []) _
          exact J79 (p4 &&& (3 : Int32)) (own_Nb _ _ hc15)
    by_cases hc16 : j40_0 = (15 : Int32)
    · refine Go.by (fun t k => XS.icmpYes X0.here hx rfl (pc0 := 44) (pc' := 54) rfl (hb hby at_44) rfl (teq hc16).1 (by decide) (by decide) k) ?_
      show Go p e below s₁ (mkF m 54 #[.val (.int p1), .val (.int p2), .val (.int p3), .val (.int p4), .val (.int ((own_ushr p1 (8 : Int32)) &&& (3 : Int32))), .val (.int j40_0), .unset, .unset, .unset, .unset, .unset, .unset] []) _
      refine Go.by (fun t k => XS.iconst X0.here hx rfl (hb hby at_54) k) ?_
      show Go p e below s₁ (mkF m 55 #[.val (.int p1), .val (.int p2), .val (.int p3), .val (.int p4), .val (.int ((own_ushr p1 (8 : Int32)) &&& (3 : Int32))), .val (.int j40_0), .unset, .unset, .unset, .unset, .unset, .unset] [(.int (1 : Int32))]) _
      refine Go.by (fun t k => XS.goto X0.here hx rfl (pc0 := 55) (pc' := 59) rfl (hb hby at_55) (by decide) (by decide) k) ?_
      show Go p e below s₁ (mkF m 59 #[.val (.int p1), .val (.int p2), .val (.int p3), .val (.int p4), .val (.int ((own_ushr p1 (8 : Int32)) &&& (3 : Int32))), .val (.int j40_0), .unset, .unset, .unset, .unset, .unset, .unset] [(.int (1 : Int32))]) _
      exact J59 (1 : Int32) (own_S15 _ hc16)
    · refine Go.by (fun t k => XS.icmpNo X0.here hx rfl (hb hby at_44) rfl (feq hc16).1 k) ?_
      show Go p e below s₁ (mkF m 47 #[.val (.int p1), .val (.int p2), .val (.int p3), .val (.int p4), .val (.int ((own_ushr p1 (8 : Int32)) &&& (3 : Int32))), .val (.int j40_0), .unset, .unset, .unset, .unset, .unset, .unset] []) _
      refine Go.by (fun t k => XS.iload X0.here hx rfl (hb hby at_47) rfl k) ?_
      show Go p e below s₁ (mkF m 49 #[.val (.int p1), .val (.int p2), .val (.int p3), .val (.int p4), .val (.int ((own_ushr p1 (8 : Int32)) &&& (3 : Int32))), .val (.int j40_0), .unset, .unset, .unset, .unset, .unset, .unset] [(.int j40_0)]) _
      refine Go.by (fun t k => XS.bipush X0.here hx rfl (hb hby at_49) k) ?_
      show Go p e below s₁ (mkF m 51 #[.val (.int p1), .val (.int p2), .val (.int p3), .val (.int p4), .val (.int ((own_ushr p1 (8 : Int32)) &&& (3 : Int32))), .val (.int j40_0), .unset, .unset, .unset, .unset, .unset, .unset] [(.int (17 : Int32)), (.int j40_0)]) _
      by_cases hc17 : j40_0 = (17 : Int32)
      · refine Go.by (fun t k => XS.icmpNo X0.here hx rfl (hb hby at_51) rfl (teq hc17).2 k) ?_
        show Go p e below s₁ (mkF m 54 #[.val (.int p1), .val (.int p2), .val (.int p3), .val (.int p4), .val (.int ((own_ushr p1 (8 : Int32)) &&& (3 : Int32))), .val (.int j40_0), .unset, .unset, .unset, .unset, .unset, .unset] []) _
        refine Go.by (fun t k => XS.iconst X0.here hx rfl (hb hby at_54) k) ?_
        show Go p e below s₁ (mkF m 55 #[.val (.int p1), .val (.int p2), .val (.int p3), .val (.int p4), .val (.int ((own_ushr p1 (8 : Int32)) &&& (3 : Int32))), .val (.int j40_0), .unset, .unset, .unset, .unset, .unset, .unset] [(.int (1 : Int32))]) _
        refine Go.by (fun t k => XS.goto X0.here hx rfl (pc0 := 55) (pc' := 59) rfl (hb hby at_55) (by decide) (by decide) k) ?_
        show Go p e below s₁ (mkF m 59 #[.val (.int p1), .val (.int p2), .val (.int p3), .val (.int p4), .val (.int ((own_ushr p1 (8 : Int32)) &&& (3 : Int32))), .val (.int j40_0), .unset, .unset, .unset, .unset, .unset, .unset] [(.int (1 : Int32))]) _
        exact J59 (1 : Int32) (own_S17 _ hc17)
      · refine Go.by (fun t k => XS.icmpYes X0.here hx rfl (pc0 := 51) (pc' := 58) rfl (hb hby at_51) rfl (feq hc17).2 (by decide) (by decide) k) ?_
        show Go p e below s₁ (mkF m 58 #[.val (.int p1), .val (.int p2), .val (.int p3), .val (.int p4), .val (.int ((own_ushr p1 (8 : Int32)) &&& (3 : Int32))), .val (.int j40_0), .unset, .unset, .unset, .unset, .unset, .unset] []) _
        refine Go.by (fun t k => XS.iconst X0.here hx rfl (hb hby at_58) k) ?_
        show Go p e below s₁ (mkF m 59 #[.val (.int p1), .val (.int p2), .val (.int p3), .val (.int p4), .val (.int ((own_ushr p1 (8 : Int32)) &&& (3 : Int32))), .val (.int j40_0), .unset, .unset, .unset, .unset, .unset, .unset] [(.int (0 : Int32))]) _
        exact J59 (0 : Int32) (own_S0 _ hc16 hc17)
  by_cases hc18 : ((own_ushr p1 (8 : Int32)) &&& (3 : Int32)) = (0 : Int32)
  · refine Go.by (fun t k => XS.ifNo X0.here hx rfl (hb hby at_10) rfl ((if0 _ _).trans (teq hc18).2) k) ?_
    show Go p e below s₁ (mkF m 13 #[.val (.int p1), .val (.int p2), .val (.int p3), .val (.int p4), .val (.int ((own_ushr p1 (8 : Int32)) &&& (3 : Int32))), .unset, .unset, .unset, .unset, .unset, .unset, .unset] []) _
    refine Go.by (fun t k => XS.bipush X0.here hx rfl (hb hby at_13) k) ?_
    show Go p e below s₁ (mkF m 15 #[.val (.int p1), .val (.int p2), .val (.int p3), .val (.int p4), .val (.int ((own_ushr p1 (8 : Int32)) &&& (3 : Int32))), .unset, .unset, .unset, .unset, .unset, .unset, .unset] [(.int (15 : Int32))]) _
    refine Go.by (fun t k => XS.istore X0.here hx rfl (hb hby at_15) rfl (l' := #[.val (.int p1), .val (.int p2), .val (.int p3), .val (.int p4), .val (.int ((own_ushr p1 (8 : Int32)) &&& (3 : Int32))), .val (.int (15 : Int32)), .unset, .unset, .unset, .unset, .unset, .unset]) rfl k) ?_
    show Go p e below s₁ (mkF m 17 #[.val (.int p1), .val (.int p2), .val (.int p3), .val (.int p4), .val (.int ((own_ushr p1 (8 : Int32)) &&& (3 : Int32))), .val (.int (15 : Int32)), .unset, .unset, .unset, .unset, .unset, .unset] []) _
    refine Go.by (fun t k => XS.goto X0.here hx rfl (pc0 := 17) (pc' := 40) rfl (hb hby at_17) (by decide) (by decide) k) ?_
    show Go p e below s₁ (mkF m 40 #[.val (.int p1), .val (.int p2), .val (.int p3), .val (.int p4), .val (.int ((own_ushr p1 (8 : Int32)) &&& (3 : Int32))), .val (.int (15 : Int32)), .unset, .unset, .unset, .unset, .unset, .unset] []) _
    exact J40 (15 : Int32) own_T15
  · refine Go.by (fun t k => XS.ifYes X0.here hx rfl (pc0 := 10) (pc' := 20) rfl (hb hby at_10) rfl ((if0 _ _).trans (feq hc18).2) (by decide) (by decide) k) ?_
    show Go p e below s₁ (mkF m 20 #[.val (.int p1), .val (.int p2), .val (.int p3), .val (.int p4), .val (.int ((own_ushr p1 (8 : Int32)) &&& (3 : Int32))), .unset, .unset, .unset, .unset, .unset, .unset, .unset] []) _
    refine Go.by (fun t k => XS.iload X0.here hx rfl (hb hby at_20) rfl k) ?_
    show Go p e below s₁ (mkF m 22 #[.val (.int p1), .val (.int p2), .val (.int p3), .val (.int p4), .val (.int ((own_ushr p1 (8 : Int32)) &&& (3 : Int32))), .unset, .unset, .unset, .unset, .unset, .unset, .unset] [(.int ((own_ushr p1 (8 : Int32)) &&& (3 : Int32)))]) _
    refine Go.by (fun t k => XS.iconst X0.here hx rfl (hb hby at_22) k) ?_
    show Go p e below s₁ (mkF m 23 #[.val (.int p1), .val (.int p2), .val (.int p3), .val (.int p4), .val (.int ((own_ushr p1 (8 : Int32)) &&& (3 : Int32))), .unset, .unset, .unset, .unset, .unset, .unset, .unset] [(.int (1 : Int32)), (.int ((own_ushr p1 (8 : Int32)) &&& (3 : Int32)))]) _
    by_cases hc19 : ((own_ushr p1 (8 : Int32)) &&& (3 : Int32)) = (1 : Int32)
    · refine Go.by (fun t k => XS.icmpNo X0.here hx rfl (hb hby at_23) rfl (teq hc19).2 k) ?_
      show Go p e below s₁ (mkF m 26 #[.val (.int p1), .val (.int p2), .val (.int p3), .val (.int p4), .val (.int ((own_ushr p1 (8 : Int32)) &&& (3 : Int32))), .unset, .unset, .unset, .unset, .unset, .unset, .unset] []) _
      refine Go.by (fun t k => XS.bipush X0.here hx rfl (hb hby at_26) k) ?_
      show Go p e below s₁ (mkF m 28 #[.val (.int p1), .val (.int p2), .val (.int p3), .val (.int p4), .val (.int ((own_ushr p1 (8 : Int32)) &&& (3 : Int32))), .unset, .unset, .unset, .unset, .unset, .unset, .unset] [(.int (17 : Int32))]) _
      refine Go.by (fun t k => XS.istore X0.here hx rfl (hb hby at_28) rfl (l' := #[.val (.int p1), .val (.int p2), .val (.int p3), .val (.int p4), .val (.int ((own_ushr p1 (8 : Int32)) &&& (3 : Int32))), .val (.int (17 : Int32)), .unset, .unset, .unset, .unset, .unset, .unset]) rfl k) ?_
      show Go p e below s₁ (mkF m 30 #[.val (.int p1), .val (.int p2), .val (.int p3), .val (.int p4), .val (.int ((own_ushr p1 (8 : Int32)) &&& (3 : Int32))), .val (.int (17 : Int32)), .unset, .unset, .unset, .unset, .unset, .unset] []) _
      refine Go.by (fun t k => XS.goto X0.here hx rfl (pc0 := 30) (pc' := 40) rfl (hb hby at_30) (by decide) (by decide) k) ?_
      show Go p e below s₁ (mkF m 40 #[.val (.int p1), .val (.int p2), .val (.int p3), .val (.int p4), .val (.int ((own_ushr p1 (8 : Int32)) &&& (3 : Int32))), .val (.int (17 : Int32)), .unset, .unset, .unset, .unset, .unset, .unset] []) _
      exact J40 (17 : Int32) own_T17
    · refine Go.by (fun t k => XS.icmpYes X0.here hx rfl (pc0 := 23) (pc' := 33) rfl (hb hby at_23) rfl (feq hc19).2 (by decide) (by decide) k) ?_
      show Go p e below s₁ (mkF m 33 #[.val (.int p1), .val (.int p2), .val (.int p3), .val (.int p4), .val (.int ((own_ushr p1 (8 : Int32)) &&& (3 : Int32))), .unset, .unset, .unset, .unset, .unset, .unset, .unset] []) _
      refine Go.by (fun t k => XS.iloadN X0.here hx rfl (hb hby at_33) rfl k) ?_
      show Go p e below s₁ (mkF m 34 #[.val (.int p1), .val (.int p2), .val (.int p3), .val (.int p4), .val (.int ((own_ushr p1 (8 : Int32)) &&& (3 : Int32))), .unset, .unset, .unset, .unset, .unset, .unset, .unset] [(.int p1)]) _
      refine Go.by (fun t k => XS.sipush X0.here hx rfl (hb hby at_34) k) ?_
      show Go p e below s₁ (mkF m 37 #[.val (.int p1), .val (.int p2), .val (.int p3), .val (.int p4), .val (.int ((own_ushr p1 (8 : Int32)) &&& (3 : Int32))), .unset, .unset, .unset, .unset, .unset, .unset, .unset] [(.int (255 : Int32)), (.int p1)]) _
      refine Go.by (fun t k => XS.iand X0.here hx rfl (hb hby at_37) rfl k) ?_
      show Go p e below s₁ (mkF m 38 #[.val (.int p1), .val (.int p2), .val (.int p3), .val (.int p4), .val (.int ((own_ushr p1 (8 : Int32)) &&& (3 : Int32))), .unset, .unset, .unset, .unset, .unset, .unset, .unset] [(.int (p1 &&& (255 : Int32)))]) _
      refine Go.by (fun t k => XS.istore X0.here hx rfl (hb hby at_38) rfl (l' := #[.val (.int p1), .val (.int p2), .val (.int p3), .val (.int p4), .val (.int ((own_ushr p1 (8 : Int32)) &&& (3 : Int32))), .val (.int (p1 &&& (255 : Int32))), .unset, .unset, .unset, .unset, .unset, .unset]) rfl k) ?_
      show Go p e below s₁ (mkF m 40 #[.val (.int p1), .val (.int p2), .val (.int p3), .val (.int p4), .val (.int ((own_ushr p1 (8 : Int32)) &&& (3 : Int32))), .val (.int (p1 &&& (255 : Int32))), .unset, .unset, .unset, .unset, .unset, .unset] []) _
      exact J40 (p1 &&& (255 : Int32)) (own_T255 _)
set_option maxRecDepth 65536 in
set_option maxHeartbeats 40000000 in
theorem comes_1 {Post : Tables → Env → Array Value → State → Outcome → State → Prop} (hpost : ∀ tb e args s v u, (limb_1_1.after args s (.returned v) u = true ∧ limb_1_2.after args s (.returned v) u = true ∧ True) → FrameEnd s (.returned v) u (Jvm.fieldLocs frame_1_writes args s ++ Jvm.arrayLocs frame_1_arrays args s ++ Jvm.staticLocs frame_1_statics s) 16 128 → Post tb e args s (.returned v) u) :
    ArmFor flags0 classFile x code maxLocals ret World_1 tables_1 room_1 Calls_1 rest_1 Pre_1 Post := by
  intro l hfl _ _ p e ha hc hk s m args below hf hA hF happ hP
  obtain ⟨hcalls, hrest, hpre⟩ := hP
  obtain ⟨-, -, -, hnamed, -, -, -, hat⟩ := (Spec.applies_iff hf).mp happ
  obtain ⟨hg, hn⟩ := and_e (Cond.before_iff.mp (show (Jvm.Cond.and given_1 narrow_1).before args s = true from hpre))
  obtain ⟨g1, g2⟩ := and_e hg
  obtain ⟨g3, g4⟩ := and_e g2
  obtain ⟨g5, g6⟩ := and_e g4
  obtain ⟨g7, g8⟩ := and_e g6
  obtain ⟨w0, w1, w2, w3, rfl⟩ : ∃ w0 w1 w2 w3 : Value, args = #[w0, w1, w2, w3] := by
    have hs : args.size = 4 := by simpa [Cond.value, given_1] using g1
    obtain ⟨L⟩ := args
    match L, hs with
    | [w0, w1, w2, w3], _ => exact ⟨w0, w1, w2, w3, rfl⟩
  have hw := fun d (hd : d ∈ tables_1) => atoms_spec (ws := Jvm.Cond.code x code maxLocals ret :: tables_1) hat d (List.mem_cons_of_mem _ hd)
  obtain ⟨i0, ei0⟩ := is_v g3
  obtain rfl : w0 = (.int i0) := Option.some.inj ei0
  obtain ⟨i1, ei1⟩ := is_v g5
  obtain rfl : w1 = (.int i1) := Option.some.inj ei1
  obtain ⟨i2, ei2⟩ := is_v g7
  obtain rfl : w2 = (.int i2) := Option.some.inj ei2
  obtain ⟨i3, ei3⟩ := is_v g8
  obtain rfl : w3 = (.int i3) := Option.some.inj ei3
  obtain ⟨n, o, h1, h2, h3, _, L, rfl, ⟨rfl, N⟩, hq⟩ := rm0 l s _ hw tables_1 i0 i1 i2 i3 s.heap s.heap.size (Nat.le_refl _) p e ha hc hk s m _ below hf ((Spec.applies_iff_loose hf).mp happ).1 ⟨rfl, State.Warmed39.refl s, rfl⟩ trivial
  refine ⟨n, _, h1, h2, h3, hpost _ _ _ _ _ _ ⟨Cond.after_iff.mpr rfl, Cond.after_iff.mpr (eq_i res_at (Term.int_eval (1)) rfl), trivial⟩ ⟨hq.1, hq.2.1, (hq.2.2.sift fun y hy => Or.inr (N y hy)).mono (by decide) (by decide)⟩⟩
theorem main_1_1 : Claimed_1_1 := comes_1 fun _ _ _ _ _ _ h hF => ⟨h.1, hF⟩
theorem main_1_2 : Claimed_1_2 := comes_1 fun _ _ _ _ _ _ h hF => ⟨h.2.1, hF⟩
end Jvm.Pilot.@@N@@
namespace Jvm.Pilot.@@N@@
open Jvm Jvm.ClassFile Sem Op Lib Jvm.Free Jvm.Stand Jvm.Pilot.@@N@@.Jvm.D
/-! MADE BY PROGRAM (witnessworld.py) out of the Statement's table words and the real class files: 10 classes; the members and pool entries that the words name. The judged class is class 1, her method 1. -/
namespace start1
open Jvm.ClassFile
def u (s : String) : CpInfo := .utf8 (stringToUtf16 s)
/-- a pool by its gaps: so many unusable entries, then the entry; so many at the end -/
def gap : Nat → List CpInfo → List CpInfo
  | 0, r => r
  | n + 1, r => .unusable :: gap n r
def poolList (es : List (Nat × CpInfo)) (last : Nat) : List CpInfo := es.foldr (fun e r => gap e.1 (e.2 :: r)) (gap last [])
def pool (es : List (Nat × CpInfo)) (last : Nat) : Array CpInfo := ⟨poolList es last⟩
def fileOf (pool : Array CpInfo) (this : Nat) (attrs : Array Attribute := #[]) (ms : Array MethodInfo := #[]) (fl : Nat := 33) (sup : Nat := 0) (ifs : Array Nat := #[]) (fds : Array FieldInfo := #[]) : ClassFile where
  minorVersion := 0
  majorVersion := 65
  constantPool := pool
  accessFlags := fl
  thisClass := this
  superClass := sup
  interfaces := ifs
  fields := fds
  methods := ms
  attributes := attrs
def plain (name : String) (sup : Option ClassId) : Class where
  name := name
  kind := .ordinary
  loader := none
  accessFlags := 33
  super := sup
  interfaces := #[]
  cf := none
  fields := #[]
  methods := #[]
  instanceTypes := #[]
  staticTypes := #[]
  resolved := #[]
  callSites := []
  init := .initialized
  statics := none
  mirror := none

def pool0 : Array CpInfo := pool [(5, u "<init>"), (0, u "()V"), (1, .class_ 10), (1, u "java/lang/Object")] 113

def k0c0 : Code := { maxStack := 0, maxLocals := 1, code := object_method_1_code, exceptionTable := #[], attributes := #[] }
def k0m0 : Method := { name := "<init>", desc := "()V", sig := { parameters := [], returnType := none }, accessFlags := 1, code := some k0c0 }
/-- java/lang/Object -/
def k0 : Class := { plain "java/lang/Object" none with
  accessFlags := 33
  interfaces := #[]
  cf := some (fileOf pool0 8 #[] #[{ accessFlags := 1, nameIndex := 5, descriptorIndex := 6, attributes := #[] }] 33 0 #[] #[])
  fields := #[]
  methods := #[k0m0]
  instanceTypes := #[]
  staticTypes := #[]
  resolved := Array.replicate 124 none
  statics := none }

def pool1 : Array CpInfo := pool [(2, .class_ 4), (1, u "java/lang/Object"), (0, u "<init>"), (0, u "()V"), (0, .class_ 8), (0, u "com/example/chunkwire/chunkwire/model/RtmpMessage"), (0, .methodref 7 10), (0, .nameAndType 5 11), (0, u "(IIJ[B)V"), (0, .methodref 13 14), (0, .class_ 15), (0, .nameAndType 16 17), (0, u "com/example/chunkwire/chunkwire/io/MessageValues"), (0, u "formatSelector"), (0, u "(Lcom/example/chunkwire/chunkwire/model/RtmpMessage;)I"), (0, .class_ 19), (0, u "com/example/chunkwire/chunkwire/io/MessageValuesFormatSelectorPinLaw"), (2, u "law"), (0, u "(IIII)Z")] 8

def k1m0 : Method := { name := "<init>", desc := "()V", sig := { parameters := [], returnType := none }, accessFlags := 1, code := none }
def k1c1 : Code := { maxStack := 7, maxLocals := 12, code := code, exceptionTable := #[], attributes := #[] }
def k1m1 : Method := { name := "law", desc := "(IIII)Z", sig := { parameters := [.int, .int, .int, .int], returnType := some .boolean }, accessFlags := 9, code := some k1c1 }
/-- com/example/chunkwire/chunkwire/io/MessageValuesFormatSelectorPinLaw -/
def k1 : Class := { plain "com/example/chunkwire/chunkwire/io/MessageValuesFormatSelectorPinLaw" (some 0) with
  accessFlags := 49
  interfaces := #[]
  cf := some (fileOf pool1 18 #[] #[{ accessFlags := 1, nameIndex := 5, descriptorIndex := 6, attributes := #[] }, { accessFlags := 9, nameIndex := 22, descriptorIndex := 23, attributes := #[] }] 49 2 #[] #[])
  fields := #[]
  methods := #[k1m0, k1m1]
  instanceTypes := #[]
  staticTypes := #[]
  resolved := Array.replicate 32 none
  statics := none }

def pool2 : Array CpInfo := pool [(1, .methodref 2 3), (0, .class_ 4), (0, .nameAndType 5 6), (0, u "java/lang/Object"), (0, u "<init>"), (0, u "()V"), (10, .long 4294967295), (4, .class_ 23), (0, u "com/example/chunkwire/chunkwire/model/RtmpMessage"), (0, .integer 16777215), (1, .fieldref 22 27), (0, .nameAndType 28 29), (0, u "type"), (0, u "I"), (0, .fieldref 22 31), (0, .nameAndType 32 29), (0, u "streamId"), (0, .fieldref 22 34), (0, .nameAndType 35 36), (0, u "timestamp"), (0, u "J"), (0, .fieldref 22 38), (0, .nameAndType 39 40), (0, u "payload"), (0, u "[B"), (3, u "SET_CHUNK_SIZE"), (2, u "ABORT"), (1, u "ACKNOWLEDGEMENT"), (1, u "USER_CONTROL"), (1, u "WINDOW_ACKNOWLEDGEMENT_SIZE"), (1, u "SET_PEER_BANDWIDTH"), (1, u "AUDIO"), (1, u "VIDEO"), (1, u "DATA_AMF3"), (1, u "COMMAND_AMF3"), (1, u "DATA_AMF0"), (1, u "COMMAND_AMF0"), (1, u "AGGREGATE"), (1, u "MAX_LENGTH"), (0, u "(IIJ[B)V"), (4, u "()I"), (1, u "()[B")] 27

def k2c0 : Code := { maxStack := 4, maxLocals := 6, code := prog_25_method_1_code, exceptionTable := #[], attributes := #[] }
def k2m0 : Method := { name := "<init>", desc := "(IIJ[B)V", sig := { parameters := [.int, .int, .long, (.array .byte)], returnType := none }, accessFlags := 1, code := some k2c0 }
def k2c1 : Code := { maxStack := 1, maxLocals := 1, code := prog_25_method_2_code, exceptionTable := #[], attributes := #[] }
def k2m1 : Method := { name := "type", desc := "()I", sig := { parameters := [], returnType := some .int }, accessFlags := 1, code := some k2c1 }
def k2c2 : Code := { maxStack := 1, maxLocals := 1, code := prog_25_method_5_code, exceptionTable := #[], attributes := #[] }
def k2m2 : Method := { name := "payload", desc := "()[B", sig := { parameters := [], returnType := some (.array .byte) }, accessFlags := 1, code := some k2c2 }
/-- com/example/chunkwire/chunkwire/model/RtmpMessage -/
def k2 : Class := { plain "com/example/chunkwire/chunkwire/model/RtmpMessage" (some 0) with
  accessFlags := 49
  interfaces := #[]
  cf := some (fileOf pool2 22 #[] #[{ accessFlags := 1, nameIndex := 5, descriptorIndex := 72, attributes := #[] }, { accessFlags := 1, nameIndex := 28, descriptorIndex := 77, attributes := #[] }, { accessFlags := 1, nameIndex := 39, descriptorIndex := 79, attributes := #[] }] 49 2 #[] #[{ accessFlags := 25, nameIndex := 44, descriptorIndex := 29, attributes := #[] }, { accessFlags := 25, nameIndex := 47, descriptorIndex := 29, attributes := #[] }, { accessFlags := 25, nameIndex := 49, descriptorIndex := 29, attributes := #[] }, { accessFlags := 25, nameIndex := 51, descriptorIndex := 29, attributes := #[] }, { accessFlags := 25, nameIndex := 53, descriptorIndex := 29, attributes := #[] }, { accessFlags := 25, nameIndex := 55, descriptorIndex := 29, attributes := #[] }, { accessFlags := 25, nameIndex := 57, descriptorIndex := 29, attributes := #[] }, { accessFlags := 25, nameIndex := 59, descriptorIndex := 29, attributes := #[] }, { accessFlags := 25, nameIndex := 61, descriptorIndex := 29, attributes := #[] }, { accessFlags := 25, nameIndex := 63, descriptorIndex := 29, attributes := #[] }, { accessFlags := 25, nameIndex := 65, descriptorIndex := 29, attributes := #[] }, { accessFlags := 25, nameIndex := 67, descriptorIndex := 29, attributes := #[] }, { accessFlags := 25, nameIndex := 69, descriptorIndex := 29, attributes := #[] }, { accessFlags := 25, nameIndex := 71, descriptorIndex := 29, attributes := #[] }, { accessFlags := 18, nameIndex := 28, descriptorIndex := 29, attributes := #[] }, { accessFlags := 18, nameIndex := 32, descriptorIndex := 29, attributes := #[] }, { accessFlags := 18, nameIndex := 35, descriptorIndex := 36, attributes := #[] }, { accessFlags := 18, nameIndex := 39, descriptorIndex := 40, attributes := #[] }])
  fields := #[{ name := "SET_CHUNK_SIZE", type := .int, accessFlags := 25, slot := 0, constantValue := 0 }, { name := "ABORT", type := .int, accessFlags := 25, slot := 1, constantValue := 0 }, { name := "ACKNOWLEDGEMENT", type := .int, accessFlags := 25, slot := 2, constantValue := 0 }, { name := "USER_CONTROL", type := .int, accessFlags := 25, slot := 3, constantValue := 0 }, { name := "WINDOW_ACKNOWLEDGEMENT_SIZE", type := .int, accessFlags := 25, slot := 4, constantValue := 0 }, { name := "SET_PEER_BANDWIDTH", type := .int, accessFlags := 25, slot := 5, constantValue := 0 }, { name := "AUDIO", type := .int, accessFlags := 25, slot := 6, constantValue := 0 }, { name := "VIDEO", type := .int, accessFlags := 25, slot := 7, constantValue := 0 }, { name := "DATA_AMF3", type := .int, accessFlags := 25, slot := 8, constantValue := 0 }, { name := "COMMAND_AMF3", type := .int, accessFlags := 25, slot := 9, constantValue := 0 }, { name := "DATA_AMF0", type := .int, accessFlags := 25, slot := 10, constantValue := 0 }, { name := "COMMAND_AMF0", type := .int, accessFlags := 25, slot := 11, constantValue := 0 }, { name := "AGGREGATE", type := .int, accessFlags := 25, slot := 12, constantValue := 0 }, { name := "MAX_LENGTH", type := .int, accessFlags := 25, slot := 13, constantValue := 0 }, { name := "type", type := .int, accessFlags := 18, slot := 0, constantValue := 0 }, { name := "streamId", type := .int, accessFlags := 18, slot := 1, constantValue := 0 }, { name := "timestamp", type := .long, accessFlags := 18, slot := 2, constantValue := 0 }, { name := "payload", type := (.array .byte), accessFlags := 18, slot := 3, constantValue := 0 }]
  methods := #[k2m0, k2m1, k2m2]
  instanceTypes := #[.int, .int, .long, (.array .byte)]
  staticTypes := #[.int, .int, .int, .int, .int, .int, .int, .int, .int, .int, .int, .int, .int, .int]
  resolved := Array.replicate 107 none
  statics := none }

def pool3 : Array CpInfo := pool [(2, .class_ 4), (1, u "java/lang/Object"), (0, u "<init>"), (0, u "()V"), (0, .methodref 8 9), (0, .class_ 10), (0, .nameAndType 11 12), (0, u "com/example/chunkwire/chunkwire/io/MessageValues"), (0, u "hasFormatSelector"), (0, u "(Lcom/example/chunkwire/chunkwire/model/RtmpMessage;)Z"), (0, .methodref 14 15), (0, .class_ 16), (0, .nameAndType 17 18), (0, u "com/example/chunkwire/chunkwire/model/RtmpMessage"), (0, u "payload"), (0, u "()[B"), (2, .methodref 14 22), (0, .nameAndType 23 24), (0, u "type"), (0, u "()I"), (21, u "formatSelector"), (0, u "(Lcom/example/chunkwire/chunkwire/model/RtmpMessage;)I"), (35, u "AMF0_FORMAT"), (0, u "I")] 41

def k3m0 : Method := { name := "<init>", desc := "()V", sig := { parameters := [], returnType := none }, accessFlags := 2, code := none }
def k3c1 : Code := { maxStack := 3, maxLocals := 1, code := prog_17_method_2_code, exceptionTable := #[], attributes := #[] }
def k3m1 : Method := { name := "formatSelector", desc := "(Lcom/example/chunkwire/chunkwire/model/RtmpMessage;)I", sig := { parameters := [(.object "com/example/chunkwire/chunkwire/model/RtmpMessage")], returnType := some .int }, accessFlags := 9, code := some k3c1 }
def k3c2 : Code := { maxStack := 2, maxLocals := 1, code := prog_17_method_5_code, exceptionTable := #[], attributes := #[] }
def k3m2 : Method := { name := "hasFormatSelector", desc := "(Lcom/example/chunkwire/chunkwire/model/RtmpMessage;)Z", sig := { parameters := [(.object "com/example/chunkwire/chunkwire/model/RtmpMessage")], returnType := some .boolean }, accessFlags := 10, code := some k3c2 }
/-- com/example/chunkwire/chunkwire/io/MessageValues -/
def k3 : Class := { plain "com/example/chunkwire/chunkwire/io/MessageValues" (some 0) with
  accessFlags := 49
  interfaces := #[]
  cf := some (fileOf pool3 8 #[] #[{ accessFlags := 2, nameIndex := 5, descriptorIndex := 6, attributes := #[] }, { accessFlags := 9, nameIndex := 46, descriptorIndex := 47, attributes := #[] }, { accessFlags := 10, nameIndex := 11, descriptorIndex := 12, attributes := #[] }] 49 2 #[] #[{ accessFlags := 25, nameIndex := 83, descriptorIndex := 84, attributes := #[] }])
  fields := #[{ name := "AMF0_FORMAT", type := .int, accessFlags := 25, slot := 0, constantValue := 0 }]
  methods := #[k3m0, k3m1, k3m2]
  instanceTypes := #[]
  staticTypes := #[.int]
  resolved := Array.replicate 126 none
  statics := none }

def pool4 : Array CpInfo := pool [(1, u "java/lang/Cloneable"), (0, .class_ 1), (0, u "java/lang/Object"), (0, .class_ 3)] 3

/-- java/lang/Cloneable -/
def k4 : Class := { plain "java/lang/Cloneable" (some 0) with
  accessFlags := 1537
  interfaces := #[]
  cf := some (fileOf pool4 2 #[] #[] 1537 4 #[] #[])
  fields := #[]
  methods := #[]
  instanceTypes := #[]
  staticTypes := #[]
  resolved := Array.replicate 8 none
  statics := none }

def pool5 : Array CpInfo := pool [(1, u "java/io/Serializable"), (0, .class_ 1), (0, u "java/lang/Object"), (0, .class_ 3)] 3

/-- java/io/Serializable -/
def k5 : Class := { plain "java/io/Serializable" (some 0) with
  accessFlags := 1537
  interfaces := #[]
  cf := some (fileOf pool5 2 #[] #[] 1537 4 #[] #[])
  fields := #[]
  methods := #[]
  instanceTypes := #[]
  staticTypes := #[]
  resolved := Array.replicate 8 none
  statics := none }

/-- the primitive byte -/
def k6 : Class := { plain "byte" none with kind := .primitive 'B', accessFlags := 0x411 }
/-- [B -/
def k7 : Class := { plain "[B" (some 0) with kind := .array 6 .byte, interfaces := #[4, 5], accessFlags := 1041 }

/-- the primitive int -/
def k8 : Class := { plain "int" none with kind := .primitive 'I', accessFlags := 0x411 }
/-- [I -/
def k9 : Class := { plain "[I" (some 0) with kind := .array 8 .int, interfaces := #[4, 5], accessFlags := 1041 }

def heap : Heap := #[]
def classes : Array Class := #[k0, k1, k2, k3, k4, k5, k6, k7, k8, k9]
def interned : List (Array UInt16 × Addr) := []
def slotsUsed : Nat := 0
def theMethod : MethodId := ⟨1, 1⟩
def args0 : Array Value := #[.int 5, .int 6, .int 7, .int 8]
def aboutOver (below : List Frame) : State where
  vm := { classes := classes, interned := interned.toArray }
  heap := heap
  slotsUsed := slotsUsed
  threads := #[{ frames := .invoking theMethod args0 :: below }]
def below0 : List Frame := [.native { method := ⟨0, 0⟩, args := #[] }]
def about1 : State := aboutOver below0
def p0 : Program := .bare "" "" ""
def e0 : Env := launch0.env 0 0 0
theorem w_frames : about1.frames = Frame.invoking theMethod args0 :: below0 := rfl
set_option maxRecDepth 65536 in
theorem w_args : argsFit about1.vm theMethod args0 = true := by decide +kernel
set_option maxRecDepth 65536 in
theorem w_heap : heapFits about1 = true := by decide +kernel
set_option maxRecDepth 65536 in
theorem w_runnable : about1.curStatus? = some .runnable := by decide +kernel
set_option maxRecDepth 65536 in
theorem w_alone : about1.alone = true := by decide +kernel
set_option maxRecDepth 65536 in
theorem w_named : about1.methodNamed? x = some theMethod := by decide +kernel
set_option maxRecDepth 65536 in
theorem w_hears : about1.hears theMethod below0 = true := by decide +kernel
set_option maxRecDepth 65536 in
theorem w_ripe : about1.ripe theMethod args0 below0 = true := by decide +kernel
theorem w_running : about1.status = .running := rfl
set_option maxRecDepth 65536 in
theorem w_room : about1.hasRoom e0.platform room_1 = true :=
  launch0.hasRoom_least _ room_1 (by decide +kernel) (by decide +kernel) (by decide +kernel) (by decide +kernel) (by decide +kernel) (by decide +kernel)
theorem allAtoms_all (ts : List Jvm.Cond) (a : Array Jvm.Value) (st : Jvm.State) : (allAtoms ts).before a st = ts.all (fun c => c.before a st) := by
  induction ts with
  | nil => rfl
  | cons c t ih =>
    show (Jvm.Cond.and c (allAtoms t)).before a st = _
    rw [Jvm.Cond.before_and, ih, List.all_cons]
def words1 : List Jvm.Cond := Jvm.Cond.code x code maxLocals ret :: tables_1
/-- a 'code' word, met by the world's own term for the bytes: nothing is compared byte by byte -/
theorem code_word {y : MethodName} {bytes : ByteArray} {mx : Nat} {rt : Option FieldType} {a : Array Value} {s : State} {m : MethodId} {meth : Method} {c : Code} (h1 : s.methodNamed? y = some m) (h2 : s.vm.method? m = some meth) (h3 : meth.code = some c) (h4 : c.code = bytes)
    (h5 : (c.maxLocals == mx && c.exceptionTable.isEmpty && decide (c.maxStack ≤ mostOperands) && decide (meth.sig.returnType = rt) && !meth.locks && decide (parseMethodDescriptor y.desc = some meth.sig)) = true) : (Jvm.Cond.code y bytes mx rt).before a s = true := by
  simp only [Bool.and_eq_true, beq_iff_eq, Bool.not_eq_true', decide_eq_true_eq] at h5
  obtain ⟨⟨⟨⟨⟨g1, g2⟩, g3⟩, g4⟩, g5⟩, g6⟩ := h5
  simp [Cond.before, Cond.holds, Cond.value, h1, h2, h3, h4, g1, g2, g3, g4, g5, g6]
def isCode : Jvm.Cond → Bool
  | .code _ _ _ _ => true
  | _ => false
theorem all_split {L : List Jvm.Cond} {P : Jvm.Cond → Bool} (h1 : L.all (fun c => isCode c || P c) = true) (h2 : ∀ c ∈ L.filter isCode, P c = true) : L.all P = true := by
  refine List.all_eq_true.mpr fun c hc => ?_
  have h := List.all_eq_true.mp h1 c hc
  rcases Bool.eq_false_or_eq_true (isCode c) with hi | hi
  · exact h2 c (List.mem_filter.mpr ⟨hc, hi⟩)
  · simpa [hi] using h
set_option maxRecDepth 65536 in
theorem w_c0 : (Jvm.Cond.code x code maxLocals ret).before args0 about1 = true := code_word (m := ⟨1, 1⟩) (meth := k1m1) (c := k1c1) (by decide +kernel) rfl rfl rfl (by decide +kernel)
set_option maxRecDepth 65536 in
theorem w_c1 : (Jvm.Cond.code ({ cls := "com/example/chunkwire/chunkwire/model/RtmpMessage", name := "<init>", desc := "(IIJ[B)V" } : Jvm.MethodName) prog_25_method_1_code (6 : Nat) (Option.none : Option Jvm.ClassFile.FieldType)).before args0 about1 = true := code_word (m := ⟨2, 0⟩) (meth := k2m0) (c := k2c0) (by decide +kernel) rfl rfl rfl (by decide +kernel)
set_option maxRecDepth 65536 in
theorem w_c2 : (Jvm.Cond.code ({ cls := "java/lang/Object", name := "<init>", desc := "()V" } : Jvm.MethodName) object_method_1_code (1 : Nat) (Option.none : Option Jvm.ClassFile.FieldType)).before args0 about1 = true := code_word (m := ⟨0, 0⟩) (meth := k0m0) (c := k0c0) (by decide +kernel) rfl rfl rfl (by decide +kernel)
set_option maxRecDepth 65536 in
theorem w_c3 : (Jvm.Cond.code ({ cls := "com/example/chunkwire/chunkwire/io/MessageValues", name := "formatSelector", desc := "(Lcom/example/chunkwire/chunkwire/model/RtmpMessage;)I" } : Jvm.MethodName) prog_17_method_2_code (1 : Nat) (Option.some Jvm.ClassFile.FieldType.int)).before args0 about1 = true := code_word (m := ⟨3, 1⟩) (meth := k3m1) (c := k3c1) (by decide +kernel) rfl rfl rfl (by decide +kernel)
set_option maxRecDepth 65536 in
theorem w_c4 : (Jvm.Cond.code ({ cls := "com/example/chunkwire/chunkwire/io/MessageValues", name := "hasFormatSelector", desc := "(Lcom/example/chunkwire/chunkwire/model/RtmpMessage;)Z" } : Jvm.MethodName) prog_17_method_5_code (1 : Nat) (Option.some Jvm.ClassFile.FieldType.boolean)).before args0 about1 = true := code_word (m := ⟨3, 2⟩) (meth := k3m2) (c := k3c2) (by decide +kernel) rfl rfl rfl (by decide +kernel)
set_option maxRecDepth 65536 in
theorem w_c5 : (Jvm.Cond.code ({ cls := "com/example/chunkwire/chunkwire/model/RtmpMessage", name := "type", desc := "()I" } : Jvm.MethodName) prog_25_method_2_code (1 : Nat) (Option.some Jvm.ClassFile.FieldType.int)).before args0 about1 = true := code_word (m := ⟨2, 1⟩) (meth := k2m1) (c := k2c1) (by decide +kernel) rfl rfl rfl (by decide +kernel)
set_option maxRecDepth 65536 in
theorem w_c6 : (Jvm.Cond.code ({ cls := "com/example/chunkwire/chunkwire/model/RtmpMessage", name := "payload", desc := "()[B" } : Jvm.MethodName) prog_25_method_5_code (1 : Nat) (Option.some (Jvm.ClassFile.FieldType.array Jvm.ClassFile.FieldType.byte))).before args0 about1 = true := code_word (m := ⟨2, 2⟩) (meth := k2m2) (c := k2c2) (by decide +kernel) rfl rfl rfl (by decide +kernel)
def codes1 : List Jvm.Cond := [Jvm.Cond.code x code maxLocals ret, Jvm.Cond.code ({ cls := "com/example/chunkwire/chunkwire/model/RtmpMessage", name := "<init>", desc := "(IIJ[B)V" } : Jvm.MethodName) prog_25_method_1_code (6 : Nat) (Option.none : Option Jvm.ClassFile.FieldType), Jvm.Cond.code ({ cls := "java/lang/Object", name := "<init>", desc := "()V" } : Jvm.MethodName) object_method_1_code (1 : Nat) (Option.none : Option Jvm.ClassFile.FieldType), Jvm.Cond.code ({ cls := "com/example/chunkwire/chunkwire/io/MessageValues", name := "formatSelector", desc := "(Lcom/example/chunkwire/chunkwire/model/RtmpMessage;)I" } : Jvm.MethodName) prog_17_method_2_code (1 : Nat) (Option.some Jvm.ClassFile.FieldType.int), Jvm.Cond.code ({ cls := "com/example/chunkwire/chunkwire/io/MessageValues", name := "hasFormatSelector", desc := "(Lcom/example/chunkwire/chunkwire/model/RtmpMessage;)Z" } : Jvm.MethodName) prog_17_method_5_code (1 : Nat) (Option.some Jvm.ClassFile.FieldType.boolean), Jvm.Cond.code ({ cls := "com/example/chunkwire/chunkwire/model/RtmpMessage", name := "type", desc := "()I" } : Jvm.MethodName) prog_25_method_2_code (1 : Nat) (Option.some Jvm.ClassFile.FieldType.int), Jvm.Cond.code ({ cls := "com/example/chunkwire/chunkwire/model/RtmpMessage", name := "payload", desc := "()[B" } : Jvm.MethodName) prog_25_method_5_code (1 : Nat) (Option.some (Jvm.ClassFile.FieldType.array Jvm.ClassFile.FieldType.byte))]
set_option maxRecDepth 65536 in
theorem codes_eq : words1.filter isCode = codes1 := rfl
theorem w_codes : ∀ c ∈ words1.filter isCode, c.before args0 about1 = true := by
  rw [codes_eq]
  intro c hc
  simp only [codes1, List.mem_cons, List.not_mem_nil, or_false] at hc
  rcases hc with rfl | rfl | rfl | rfl | rfl | rfl | rfl
  · exact w_c0
  · exact w_c1
  · exact w_c2
  · exact w_c3
  · exact w_c4
  · exact w_c5
  · exact w_c6
set_option maxRecDepth 65536 in
theorem w_t1 : (words1.take 24).all (fun c => isCode c || c.before args0 about1) = true := by decide +kernel
set_option maxRecDepth 65536 in
theorem w_t2 : (words1.drop 24).all (fun c => isCode c || c.before args0 about1) = true := by decide +kernel
theorem w_tables : (allAtoms (Jvm.Cond.code x code maxLocals ret :: tables_1)).before args0 about1 = true := by
  rw [allAtoms_all]
  show words1.all (fun c => c.before args0 about1) = true
  refine all_split ?_ w_codes
  rw [← List.take_append_drop 24 words1, List.all_append, w_t1, w_t2]
  rfl
set_option maxRecDepth 65536 in
theorem w_case : (Jvm.Cond.and given_1 narrow_1).before args0 about1 = true := by decide +kernel
theorem w_applies : (headSpec (Jvm.Cond.code x code maxLocals ret :: tables_1) room_1).applies x e0.platform about1 = true :=
  (Spec.applies_iff w_frames).mpr ⟨w_running, w_runnable, w_alone, w_named, w_hears, w_ripe, w_room, w_tables⟩
theorem atStart : AtStart classFile x code maxLocals ret World_1 tables_1 room_1 Calls_1 rest_1 Pre_1 launch0 p0 e0 about1 theMethod args0 below0 :=
  ⟨lists_1, trivial, launch0.admits_env _ _ _, launch0.least_env, fairChoices_fair.cas, fairChoices_fair.clock, w_frames, w_args, w_heap, w_applies, trivial, trivial, w_case⟩
end start1
theorem witness_1 : WitnessClaimed_1 := ⟨start1.p0, start1.e0, start1.about1, start1.theMethod, start1.args0, start1.below0, start1.atStart⟩
end Jvm.Pilot.@@N@@
