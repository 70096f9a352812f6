import JvmDerived
import JvmDerived.Pilot.@@N@@Statement
import JvmDerived.Pilot.@@N@@Code
set_option linter.unusedVariables false
set_option linter.unusedSimpArgs false
namespace Jvm.RoadKit
open Sem ClassFile Op Lib Jvm.Stand Jvm.Free Jvm.LawKit
section New
variable {p : Program} {l : Launch} {e : Env} {R : Room} {s : State} {m : MethodId} {args : Array Value} {below : List Frame} {meth : Method} {c : Code} {T : State} {locs : List Loc} {cells slots : Nat}
theorem retI (X : Stand p l e R s m args below meth c T locs cells slots) (hx : p.tables.exec = Jvm.exec) {pc : Nat} {Ls : Array Slot} {z : Int32} {rest : List Value} (hret : meth.sig.returnType = some .int) (hd : decode c.code pc = .ok (.ireturn, 1)) {fs : List Frame}
    (hl : ∀ (f : JFrame) (acts : List Action), f.method = m → f.locked = none → f.entered = [] → (doReturn e (T.setTop f) acts (some (.int z))).1 = T.setFrames fs) : Steps p.tables e below (T.setTop (mkF m pc Ls (.int z :: rest))) (T.setFrames fs) :=
  retOut X hx hret rfl (Or.inl ⟨rfl, Or.inl rfl, z, rfl⟩) hd hl
end New
end Jvm.RoadKit
namespace Jvm.Pilot.@@N@@
open Jvm Jvm.ClassFile Sem Op Lib Jvm.Free Jvm.Stand Jvm.LawKit Jvm.RoadKit Bundle Jvm.Pilot.@@N@@.Jvm.D
theorem W {a0 : Array Value} {Z : State} (hw : ∀ d ∈ tables_1, d.before a0 Z = true) (i : Nat) {d : Jvm.Cond} (h : tables_1[i]? = some d) : d.before a0 Z = true := hw d (List.mem_of_getElem? h)
theorem own_eqv {args : Array Value} {first s : State} {o : Option Outcome} {idx : List Nat} {a b : Term} {x : Value} (h : (Cond.eq a b).value args first o s idx = some true) (hb : b.eval args first o idx s = some x) : a.eval args first o idx s = some x := by
  simp only [Cond.value, hb] at h
  cases ha : a.eval args first o idx s with
  | none => rw [ha] at h; cases h
  | some y => rw [ha] at h; cases x <;> cases y <;> simp at h <;> first | rw [h] | rfl
def OL (val : Option Value) (n0 : Nat) (v : Option Value) (h : Heap) (L : List Loc) : Prop := v = val ∧ Fr n0 L
def OQ (val : Option Value) (h0 : Heap) (n0 : Nat) (v : Option Value) (h : Heap) (L : List Loc) : Prop := v = val ∧ Fr n0 L ∧ h = h0
theorem own_leap (y : Int32) : ((y &&& (3 : Int32)) = (0 : Int32) ↔ (y % (4 : Int32)) = (0 : Int32)) ∧ ((y &&& (3 : Int32)) = (0 : Int32) → ((y % (25 : Int32)) = (0 : Int32) ↔ (y % (100 : Int32)) = (0 : Int32))) ∧ ((y &&& (3 : Int32)) = (0 : Int32) → (y % (25 : Int32)) = (0 : Int32) → ((y &&& (15 : Int32)) = (0 : Int32) ↔ (y % (400 : Int32)) = (0 : Int32))) := by
  have h3 := c_mask y (3 : Int32) 2 (by decide) (by decide)
  have h15 := c_mask y (15 : Int32) 4 (by decide) (by decide)
  have r4 := c_irem y (4 : Int32) 4 (by decide)
  have r25 := c_irem y (25 : Int32) 25 (by decide)
  have r100 := c_irem y (100 : Int32) 100 (by decide)
  have r400 := c_irem y (400 : Int32) 400 (by decide)
  simp only [← Int32.toInt_inj, h3, h15, (by decide : (0 : Int32).toInt = 0)]
  rcases Int.lt_or_le y.toInt 0 with q | q
  · rw [r4.2 q, r25.2 q, r100.2 q, r400.2 q]; omega
  · rw [r4.1 q, r25.1 q, r100.1 q, r400.1 q]; omega
def Wd (Z : State) (w : Nat → Addr) (kk : Nat → ClassId) : Prop :=
  Sta Z Z.heap "com/example/kalendae/kalendae/calendar/CalendarRule" "JULIAN" "Lcom/example/kalendae/kalendae/calendar/CalendarRule;" (.ref (w 0)) ∧
  Exa Z Z.heap (w 0) "com/example/kalendae/kalendae/calendar/CalendarRule" ∧
  Sta Z Z.heap "com/example/kalendae/kalendae/calendar/CalendarRule" "GREGORIAN" "Lcom/example/kalendae/kalendae/calendar/CalendarRule;" (.ref (w 1)) ∧
  Exa Z Z.heap (w 1) "com/example/kalendae/kalendae/calendar/CalendarRule" ∧
  Fld Z Z.heap (w 1) "java/lang/Enum" "ordinal" "I" (.int (1 : Int32)) ∧
  Fld Z Z.heap (w 0) "java/lang/Enum" "ordinal" "I" (.int (0 : Int32))
theorem own_split_0 (x : Int32) : (x &&& (1 : Int32)) = (0 : Int32) ∨ (x &&& (1 : Int32)) = (1 : Int32) := by
  have h1 := c_mask x (1 : Int32) 1 (by decide) (by decide)
  simp only [← Int32.toInt_inj, h1, (by decide : (0 : Int32).toInt = 0), (by decide : (1 : Int32).toInt = 1)]
  omega
theorem d_prog_15_method_4_code_0 : decode prog_15_method_4_code 0 = .ok (.iload_n 1, 1) := by decide +kernel
theorem d_prog_15_method_4_code_1 : decode prog_15_method_4_code 1 = .ok (.iconst 4, 1) := by decide +kernel
theorem d_prog_15_method_4_code_2 : decode prog_15_method_4_code 2 = .ok (.irem, 1) := by decide +kernel
theorem d_prog_15_method_4_code_3 : decode prog_15_method_4_code 3 = .ok (.ifCond .ne 29, 3) := by decide +kernel
theorem d_prog_15_method_4_code_6 : decode prog_15_method_4_code 6 = .ok (.aload_n 0, 1) := by decide +kernel
theorem d_prog_15_method_4_code_7 : decode prog_15_method_4_code 7 = .ok (.getstatic 3, 3) := by decide +kernel
theorem d_prog_15_method_4_code_10 : decode prog_15_method_4_code 10 = .ok (.if_acmp .eq 18, 3) := by decide +kernel
theorem d_prog_15_method_4_code_28 : decode prog_15_method_4_code 28 = .ok (.iconst 1, 1) := by decide +kernel
theorem d_prog_15_method_4_code_29 : decode prog_15_method_4_code 29 = .ok (.goto 4, 3) := by decide +kernel
theorem d_prog_15_method_4_code_33 : decode prog_15_method_4_code 33 = .ok (.ireturn, 1) := by decide +kernel
theorem ef_0 (m : MethodId) (x0 : Value) (h0 : x0.category = 1) (x1 : Value) (h1 : x1.category = 1) : entryFrame m #[x0, x1] 2 = mkF m 0 #[.val x0, .val x1] [] := by first | (simp [entryFrame, mkF, argsToLocals, h0, h1]; done) | rfl
theorem pn_0 : plainName "com/example/kalendae/kalendae/calendar/CalendarRule" = true := by first | (simp [plainName, overriddenIn]; done) | decide +kernel
set_option maxRecDepth 65536 in
set_option maxHeartbeats 40000000 in
theorem rm_1 (l : Launch) (Z : State) (a0 : Array Value) (hw : ∀ d ∈ tables_1, d.before a0 Z = true) (w : Nat → Addr) (kk : Nat → ClassId) (hN : Wd Z w kk) (ws : List Jvm.Cond) (p1 : Int32) (h0 : Heap) (O0 : Old Z Z.heap.size h0) (hp0 : (p1 % (4 : Int32)) = (0 : Int32)) :
    MetFree l (⟨"com/example/kalendae/kalendae/calendar/CalendarRule", "isLeapYear", "(I)Z"⟩ : MethodName) (head1 (Jvm.Cond.code (⟨"com/example/kalendae/kalendae/calendar/CalendarRule", "isLeapYear", "(I)Z"⟩ : MethodName) prog_15_method_4_code 2 (some .boolean) :: ws) ({ frames := 0, cells := 0, slots := 0, locals := 0 } : Room)) (fun a U => a = #[(.ref (w 0)), (.int p1)] ∧ Z.Warmed39 U.vm ∧ U.heap = h0) (fun _ _ _ _ _ => True) (fun _ U o U' => ∃ v L, o = .returned v ∧ OQ (some (.int (1 : Int32))) h0 Z.heap.size v U'.heap L ∧ FrameEnd U o U' L ({ frames := 0, cells := 0, slots := 0, locals := 0 } : Room).cells ({ frames := 0, cells := 0, slots := 0, locals := 0 } : Room).slots) := by
  have hN' := hN
  obtain ⟨hS0, hE0, hS1, hE1, hF1_ordinal, hF0_ordinal⟩ := hN'
  refine MetFree.of_bodySF (plainFor_of_name pn_0) hisR ?_
  intro p e s m args below meth c s₁ Bd hml0 hP hK
  obtain ⟨rfl, hZ, hh⟩ := hP
  have hx := Bd.exec
  have hby := Bd.bytes
  have hml : c.maxLocals = 2 := hml0
  have hown : s.vm.findClass "com/example/kalendae/kalendae/calendar/CalendarRule" = some m.cls := findClass_of_methodNamed Bd.named
  have hnm := (name_of_methodNamed Bd.named Bd.method).1
  have X0 : Stand p l e ({ frames := 0, cells := 0, slots := 0, locals := 0 } : Room) s m #[(.ref (w 0)), (.int p1)] below meth c s₁ [] 0 0 := Stand.of_body Bd
  have e0 : s₁.heap = h0 := by rw [← hh, Bd.state]; rfl
  have N0 := Fr.nil Z.heap.size
  have pre0 : ∀ t, Steps p.tables e below (s₁.setTop (mkF m 0 #[.val (.ref (w 0)), .val (.int p1)] [])) t → Steps p.tables e below (s₁.setTop (entryFrame m #[(.ref (w 0)), (.int p1)] 2)) t := fun t k => castTop (ef_0 m (.ref (w 0)) rfl (.int p1) rfl) k
  obtain ⟨T1, X1, e1, st1⟩ := getS2 X0 hx hZ hown (host := "") (Or.inl (W hw 10 rfl)) Via.refl e0 (hS0.ext O0.2) (g := (mkF m 7 #[.val (.ref (w 0)), .val (.int p1)] [(.ref (w 0))])) rfl (hb hby d_prog_15_method_4_code_7)
  obtain ⟨fs, hr, hrun, hended, hW, hsame⟩ := X1.leave (v := some (.int (1 : Int32))) (fun h => by rw [Bd.returns] at h; cases h)
  refine ⟨_, _, pre0 _ ?_, hrun, hended, _, _, rfl, ?_, ⟨_, rfl⟩, hW, hsame.mono (by decide) (by decide)⟩
  · show Steps p.tables e below (s₁.setTop (mkF m 0 #[.val (.ref (w 0)), .val (.int p1)] [])) _
    refine XS.iloadN X0.here hx rfl (hb hby d_prog_15_method_4_code_0) rfl ?_
    show Steps p.tables e below (s₁.setTop (mkF m 1 #[.val (.ref (w 0)), .val (.int p1)] [(.int p1)])) _
    refine XS.iconst X0.here hx rfl (hb hby d_prog_15_method_4_code_1) ?_
    show Steps p.tables e below (s₁.setTop (mkF m 2 #[.val (.ref (w 0)), .val (.int p1)] [(.int (4 : Int32)), (.int p1)])) _
    refine iremM X0 hx rfl (hb hby d_prog_15_method_4_code_2) rfl (by decide : ¬ ((4 : Int32) = (0 : Int32))) ?_
    show Steps p.tables e below (s₁.setTop (mkF m 3 #[.val (.ref (w 0)), .val (.int p1)] [(.int (p1 % (4 : Int32)))])) _
    refine XS.ifNo X0.here hx rfl (hb hby d_prog_15_method_4_code_3) rfl ((if0 _ _).trans (teq hp0).2) ?_
    show Steps p.tables e below (s₁.setTop (mkF m 6 #[.val (.ref (w 0)), .val (.int p1)] [])) _
    refine XS.aloadN X0.here hx rfl (hb hby d_prog_15_method_4_code_6) rfl rfl ?_
    show Steps p.tables e below (s₁.setTop (mkF m 7 #[.val (.ref (w 0)), .val (.int p1)] [(.ref (w 0))])) _
    refine st1 _ ?_
    show Steps p.tables e below (T1.setTop (mkF m 10 #[.val (.ref (w 0)), .val (.int p1)] [(.ref (w 0)), (.ref (w 0))])) _
    refine Jvm.RoadKit.acmp (g := (mkF m 10 #[.val (.ref (w 0)), .val (.int p1)] [(.ref (w 0)), (.ref (w 0))])) X1 hx rfl rfl rfl (pc0 := 10) (pc' := 28) (same := true) rfl (hb hby d_prog_15_method_4_code_10) rfl (decide_eq_true rfl) (by decide) (by decide) ?_
    show Steps p.tables e below (T1.setTop (mkF m 28 #[.val (.ref (w 0)), .val (.int p1)] [])) _
    refine XS.iconst X1.here hx rfl (hb hby d_prog_15_method_4_code_28) ?_
    show Steps p.tables e below (T1.setTop (mkF m 29 #[.val (.ref (w 0)), .val (.int p1)] [(.int (1 : Int32))])) _
    refine XS.goto X1.here hx rfl (pc0 := 29) (pc' := 33) rfl (hb hby d_prog_15_method_4_code_29) (by decide) (by decide) ?_
    show Steps p.tables e below (T1.setTop (mkF m 33 #[.val (.ref (w 0)), .val (.int p1)] [(.int (1 : Int32))])) _
    exact retN X1 hx (t := .boolean) Bd.returns (by simp) (hb hby d_prog_15_method_4_code_33) hr
  · show OQ (some (.int (1 : Int32))) h0 Z.heap.size _ T1.heap _
    rw [e1]
    exact ⟨rfl, N0, rfl⟩
theorem pd_0 : parseMethodDescriptor "(I)Z" = some ⟨[.int], some .boolean⟩ := by decide +kernel
theorem ef_1 (m : MethodId) (x0 : Value) (h0 : x0.category = 1) (x1 : Value) (h1 : x1.category = 1) (x2 : Value) (h2 : x2.category = 1) : entryFrame m #[x0, x1, x2] maxLocals = mkF m 0 #[.val x0, .val x1, .val x2, .unset, .unset, .unset, .unset] [] := by first | (simp [entryFrame, mkF, argsToLocals, h0, h1, h2, maxLocals]; done) | rfl
theorem pn_1 : plainName "com/example/kalendae/kalendae/calendar/CalendarRuleIsLeapYearPinLaw" = true := by first | (simp [plainName, overriddenIn]; done) | decide +kernel
set_option maxRecDepth 65536 in
set_option maxHeartbeats 40000000 in
theorem law_2 (l : Launch) (Z : State) (a0 : Array Value) (hw : ∀ d ∈ tables_1, d.before a0 Z = true) (w : Nat → Addr) (kk : Nat → ClassId) (hN : Wd Z w kk) (ws : List Jvm.Cond) (p0 : Int32) (p1 : Int32) (p2 : Int32) (h0 : Heap) (O0 : Old Z Z.heap.size h0) (hp0 : (p2 &&& (1 : Int32)) = (0 : Int32)) (hp1 : (p1 &&& (1 : Int32)) = (0 : Int32)) (hp2 : (p0 &&& (3 : Int32)) = (0 : Int32)) (hp3 : (p0 % (4 : Int32)) = (0 : Int32)) :
    MetFree l x (head1 (Jvm.Cond.code x code maxLocals ret :: ws) room_1) (fun a U => a = #[(.int p0), (.int p1), (.int p2)] ∧ Z.Warmed39 U.vm ∧ U.heap = h0) (fun _ _ _ _ _ => True) (fun _ U o U' => ∃ v L, o = .returned v ∧ OL (some (.int (1 : Int32))) Z.heap.size v U'.heap L ∧ FrameEnd U o U' L 0 0) := by
  have hN' := hN
  obtain ⟨hS0, hE0, hS1, hE1, hF1_ordinal, hF0_ordinal⟩ := hN'
  refine MetFree.of_bodySF (plainFor_of_name pn_1) hisR ?_
  intro p e s m args below meth c s₁ Bd hml0 hP hK
  obtain ⟨rfl, hZ, hh⟩ := hP
  have hx := Bd.exec
  have hby := Bd.bytes
  have hml : c.maxLocals = 7 := hml0
  have hown : s.vm.findClass "com/example/kalendae/kalendae/calendar/CalendarRuleIsLeapYearPinLaw" = some m.cls := findClass_of_methodNamed Bd.named
  have hnm := (name_of_methodNamed Bd.named Bd.method).1
  have X0 : Stand p l e room_1 s m #[(.int p0), (.int p1), (.int p2)] below meth c s₁ [] 0 0 := Stand.of_body Bd
  have e0 : s₁.heap = h0 := by rw [← hh, Bd.state]; rfl
  have N0 := Fr.nil Z.heap.size
  have pre0 : ∀ t, Steps p.tables e below (s₁.setTop (mkF m 0 #[.val (.int p0), .val (.int p1), .val (.int p2), .unset, .unset, .unset, .unset] [])) t → Steps p.tables e below (s₁.setTop (entryFrame m #[(.int p0), (.int p1), (.int p2)] maxLocals)) t := fun t k => castTop (ef_1 m (.int p0) rfl (.int p1) rfl (.int p2) rfl) k
  obtain ⟨T1, X1, e1, st1⟩ := getS2 X0 hx hZ hown (host := "") (Or.inl (W hw 0 rfl)) Via.refl e0 (hS0.ext O0.2) (g := (mkF m 12 #[.val (.int p0), .val (.int p1), .val (.int p2), .unset, .unset, .unset, .unset] [])) rfl (hb hby at_12)
  obtain ⟨T2, X2, e2, st2⟩ := getS2 X1 hx hZ hown (host := "") (Or.inl (W hw 0 rfl)) Via.refl e1 (hS0.ext O0.2) (g := (mkF m 77 #[.val (.int p0), .val (.int p1), .val (.int p2), .val (.ref (w 0)), .val (.int p0), .unset, .val (.int (1 : Int32))] [(.ref (w 0))])) rfl (hb hby at_77)
  obtain ⟨cq3, kq3, q3a, q3b, q3c⟩ := isOf hZ e2 (hE0.ext O0.2)
  obtain ⟨_, _, ⟨T3, L3, k3, n3⟩, -, X3, ⟨Lc3, hQ3, l3, y3, z3⟩, st3⟩ := X2.virtualBack hx (y := (⟨"com/example/kalendae/kalendae/calendar/CalendarRule", "isLeapYear", "(I)Z"⟩ : MethodName)) (z := (⟨"com/example/kalendae/kalendae/calendar/CalendarRule", "isLeapYear", "(I)Z"⟩ : MethodName)) hown (mvT hZ (W hw 3 rfl)) (mvT hZ (W hw 4 rfl)) (notFace_of_selects (args := #[]) (mvT hZ (W hw 6 rfl))) (mvT hZ (W hw 6 rfl)) (mvT hZ (W hw 5 rfl)) (by decide) (backOf (W := 0) (rm_1 l Z a0 hw w kk hN [] p0 h0 O0 hp3) hZ (W hw 7 rfl) (W hw 1 rfl) (by decide) (by decide)) q3a q3c (g := (mkF m 121 #[.val (.int p0), .val (.int p1), .val (.int p2), .val (.ref (w 0)), .val (.int p0), .val (.int (1 : Int32)), .val (.int (1 : Int32))] [(.int p0), (.ref (w 0))])) rfl (by rw [hml]; rfl) (Steps.refl _) (argsL := [(.int p0)]) (rest := []) (lenOf pd_0 rfl) rfl (by show 2 * 0 + _ ≤ _; exact Nat.le_of_eq rfl) (hb hby at_121) (fun _ _ => ⟨rfl, e2, (by decide : 0 + 0 ≤ _), (by decide : 0 + 0 ≤ _)⟩)
  dsimp only [Pt.U, Pt.locs, Pt.cells, Pt.slots] at X3 l3 y3 z3 st3 hQ3
  subst l3 y3 z3
  obtain ⟨rfl, N3q, e3⟩ := hQ3
  have N3 := Fr.app N0 N3q
  obtain ⟨fs, hr, hrun, hended, hW, hsame⟩ := X3.leave (v := some (.int (1 : Int32))) (fun h => by rw [Bd.returns] at h; cases h)
  refine ⟨_, _, pre0 _ ?_, hrun, hended, _, _, rfl, ?_, ⟨_, rfl⟩, hW, hsame.mono (by decide) (by decide)⟩
  · show Steps p.tables e below (s₁.setTop (mkF m 0 #[.val (.int p0), .val (.int p1), .val (.int p2), .unset, .unset, .unset, .unset] [])) _
    refine XS.iloadN X0.here hx rfl (hb hby at_0) rfl ?_
    show Steps p.tables e below (s₁.setTop (mkF m 1 #[.val (.int p0), .val (.int p1), .val (.int p2), .unset, .unset, .unset, .unset] [(.int p2)])) _
    refine XS.iconst X0.here hx rfl (hb hby at_1) ?_
    show Steps p.tables e below (s₁.setTop (mkF m 2 #[.val (.int p0), .val (.int p1), .val (.int p2), .unset, .unset, .unset, .unset] [(.int (1 : Int32)), (.int p2)])) _
    refine XS.iand X0.here hx rfl (hb hby at_2) rfl ?_
    show Steps p.tables e below (s₁.setTop (mkF m 3 #[.val (.int p0), .val (.int p1), .val (.int p2), .unset, .unset, .unset, .unset] [(.int (p2 &&& (1 : Int32)))])) _
    rw [hp0]
    show Steps p.tables e below (s₁.setTop (mkF m 3 #[.val (.int p0), .val (.int p1), .val (.int p2), .unset, .unset, .unset, .unset] [(.int (0 : Int32))])) _
    refine XS.ifYes X0.here hx rfl (pc0 := 3) (pc' := 12) rfl (hb hby at_3) rfl ((if0 _ _).trans (teq (by decide : (0 : Int32) = (0 : Int32))).1) (by decide) (by decide) ?_
    show Steps p.tables e below (s₁.setTop (mkF m 12 #[.val (.int p0), .val (.int p1), .val (.int p2), .unset, .unset, .unset, .unset] [])) _
    refine st1 _ ?_
    show Steps p.tables e below (T1.setTop (mkF m 15 #[.val (.int p0), .val (.int p1), .val (.int p2), .unset, .unset, .unset, .unset] [(.ref (w 0))])) _
    refine XS.astoreN X1.here hx rfl (hb hby at_15) rfl rfl (l' := #[.val (.int p0), .val (.int p1), .val (.int p2), .val (.ref (w 0)), .unset, .unset, .unset]) rfl ?_
    show Steps p.tables e below (T1.setTop (mkF m 16 #[.val (.int p0), .val (.int p1), .val (.int p2), .val (.ref (w 0)), .unset, .unset, .unset] [])) _
    refine XS.iloadN X1.here hx rfl (hb hby at_16) rfl ?_
    show Steps p.tables e below (T1.setTop (mkF m 17 #[.val (.int p0), .val (.int p1), .val (.int p2), .val (.ref (w 0)), .unset, .unset, .unset] [(.int p1)])) _
    refine XS.iconst X1.here hx rfl (hb hby at_17) ?_
    show Steps p.tables e below (T1.setTop (mkF m 18 #[.val (.int p0), .val (.int p1), .val (.int p2), .val (.ref (w 0)), .unset, .unset, .unset] [(.int (1 : Int32)), (.int p1)])) _
    refine XS.iand X1.here hx rfl (hb hby at_18) rfl ?_
    show Steps p.tables e below (T1.setTop (mkF m 19 #[.val (.int p0), .val (.int p1), .val (.int p2), .val (.ref (w 0)), .unset, .unset, .unset] [(.int (p1 &&& (1 : Int32)))])) _
    rw [hp1]
    show Steps p.tables e below (T1.setTop (mkF m 19 #[.val (.int p0), .val (.int p1), .val (.int p2), .val (.ref (w 0)), .unset, .unset, .unset] [(.int (0 : Int32))])) _
    refine XS.ifNo X1.here hx rfl (hb hby at_19) rfl ((if0 _ _).trans (teq (by decide : (0 : Int32) = (0 : Int32))).2) ?_
    show Steps p.tables e below (T1.setTop (mkF m 22 #[.val (.int p0), .val (.int p1), .val (.int p2), .val (.ref (w 0)), .unset, .unset, .unset] [])) _
    refine XS.iloadN X1.here hx rfl (hb hby at_22) rfl ?_
    show Steps p.tables e below (T1.setTop (mkF m 23 #[.val (.int p0), .val (.int p1), .val (.int p2), .val (.ref (w 0)), .unset, .unset, .unset] [(.int p0)])) _
    refine XS.istore X1.here hx rfl (hb hby at_23) rfl (l' := #[.val (.int p0), .val (.int p1), .val (.int p2), .val (.ref (w 0)), .val (.int p0), .unset, .unset]) rfl ?_
    show Steps p.tables e below (T1.setTop (mkF m 25 #[.val (.int p0), .val (.int p1), .val (.int p2), .val (.ref (w 0)), .val (.int p0), .unset, .unset] [])) _
    refine XS.goto X1.here hx rfl (pc0 := 25) (pc' := 51) rfl (hb hby at_25) (by decide) (by decide) ?_
    show Steps p.tables e below (T1.setTop (mkF m 51 #[.val (.int p0), .val (.int p1), .val (.int p2), .val (.ref (w 0)), .val (.int p0), .unset, .unset] [])) _
    refine XS.iload X1.here hx rfl (hb hby at_51) rfl ?_
    show Steps p.tables e below (T1.setTop (mkF m 53 #[.val (.int p0), .val (.int p1), .val (.int p2), .val (.ref (w 0)), .val (.int p0), .unset, .unset] [(.int p0)])) _
    refine XS.iconst X1.here hx rfl (hb hby at_53) ?_
    show Steps p.tables e below (T1.setTop (mkF m 54 #[.val (.int p0), .val (.int p1), .val (.int p2), .val (.ref (w 0)), .val (.int p0), .unset, .unset] [(.int (3 : Int32)), (.int p0)])) _
    refine XS.iand X1.here hx rfl (hb hby at_54) rfl ?_
    show Steps p.tables e below (T1.setTop (mkF m 55 #[.val (.int p0), .val (.int p1), .val (.int p2), .val (.ref (w 0)), .val (.int p0), .unset, .unset] [(.int (p0 &&& (3 : Int32)))])) _
    refine XS.ifNo X1.here hx rfl (hb hby at_55) rfl ((if0 _ _).trans (teq hp2).2) ?_
    show Steps p.tables e below (T1.setTop (mkF m 58 #[.val (.int p0), .val (.int p1), .val (.int p2), .val (.ref (w 0)), .val (.int p0), .unset, .unset] [])) _
    refine XS.iconst X1.here hx rfl (hb hby at_58) ?_
    show Steps p.tables e below (T1.setTop (mkF m 59 #[.val (.int p0), .val (.int p1), .val (.int p2), .val (.ref (w 0)), .val (.int p0), .unset, .unset] [(.int (1 : Int32))])) _
    refine XS.goto X1.here hx rfl (pc0 := 59) (pc' := 63) rfl (hb hby at_59) (by decide) (by decide) ?_
    show Steps p.tables e below (T1.setTop (mkF m 63 #[.val (.int p0), .val (.int p1), .val (.int p2), .val (.ref (w 0)), .val (.int p0), .unset, .unset] [(.int (1 : Int32))])) _
    refine XS.istore X1.here hx rfl (hb hby at_63) rfl (l' := #[.val (.int p0), .val (.int p1), .val (.int p2), .val (.ref (w 0)), .val (.int p0), .unset, .val (.int (1 : Int32))]) rfl ?_
    show Steps p.tables e below (T1.setTop (mkF m 65 #[.val (.int p0), .val (.int p1), .val (.int p2), .val (.ref (w 0)), .val (.int p0), .unset, .val (.int (1 : Int32))] [])) _
    refine XS.iload X1.here hx rfl (hb hby at_65) rfl ?_
    show Steps p.tables e below (T1.setTop (mkF m 67 #[.val (.int p0), .val (.int p1), .val (.int p2), .val (.ref (w 0)), .val (.int p0), .unset, .val (.int (1 : Int32))] [(.int (1 : Int32))])) _
    refine XS.ifYes X1.here hx rfl (pc0 := 67) (pc' := 76) rfl (hb hby at_67) rfl ((if0 _ _).trans (feq (by decide : ¬ ((1 : Int32) = (0 : Int32)))).2) (by decide) (by decide) ?_
    show Steps p.tables e below (T1.setTop (mkF m 76 #[.val (.int p0), .val (.int p1), .val (.int p2), .val (.ref (w 0)), .val (.int p0), .unset, .val (.int (1 : Int32))] [])) _
    refine XS.aloadN X1.here hx rfl (hb hby at_76) rfl rfl ?_
    show Steps p.tables e below (T1.setTop (mkF m 77 #[.val (.int p0), .val (.int p1), .val (.int p2), .val (.ref (w 0)), .val (.int p0), .unset, .val (.int (1 : Int32))] [(.ref (w 0))])) _
    refine st2 _ ?_
    show Steps p.tables e below (T2.setTop (mkF m 80 #[.val (.int p0), .val (.int p1), .val (.int p2), .val (.ref (w 0)), .val (.int p0), .unset, .val (.int (1 : Int32))] [(.ref (w 0)), (.ref (w 0))])) _
    refine Jvm.RoadKit.acmp (g := (mkF m 80 #[.val (.int p0), .val (.int p1), .val (.int p2), .val (.ref (w 0)), .val (.int p0), .unset, .val (.int (1 : Int32))] [(.ref (w 0)), (.ref (w 0))])) X2 hx rfl rfl rfl (pc0 := 80) (pc' := 83) (same := true) rfl (hb hby at_80) rfl (decide_eq_true rfl) (by decide) (by decide) ?_
    show Steps p.tables e below (T2.setTop (mkF m 83 #[.val (.int p0), .val (.int p1), .val (.int p2), .val (.ref (w 0)), .val (.int p0), .unset, .val (.int (1 : Int32))] [])) _
    refine XS.iconst X2.here hx rfl (hb hby at_83) ?_
    show Steps p.tables e below (T2.setTop (mkF m 84 #[.val (.int p0), .val (.int p1), .val (.int p2), .val (.ref (w 0)), .val (.int p0), .unset, .val (.int (1 : Int32))] [(.int (1 : Int32))])) _
    refine XS.istore X2.here hx rfl (hb hby at_84) rfl (l' := #[.val (.int p0), .val (.int p1), .val (.int p2), .val (.ref (w 0)), .val (.int p0), .val (.int (1 : Int32)), .val (.int (1 : Int32))]) rfl ?_
    show Steps p.tables e below (T2.setTop (mkF m 86 #[.val (.int p0), .val (.int p1), .val (.int p2), .val (.ref (w 0)), .val (.int p0), .val (.int (1 : Int32)), .val (.int (1 : Int32))] [])) _
    refine XS.goto X2.here hx rfl (pc0 := 86) (pc' := 118) rfl (hb hby at_86) (by decide) (by decide) ?_
    show Steps p.tables e below (T2.setTop (mkF m 118 #[.val (.int p0), .val (.int p1), .val (.int p2), .val (.ref (w 0)), .val (.int p0), .val (.int (1 : Int32)), .val (.int (1 : Int32))] [])) _
    refine XS.aloadN X2.here hx rfl (hb hby at_118) rfl rfl ?_
    show Steps p.tables e below (T2.setTop (mkF m 119 #[.val (.int p0), .val (.int p1), .val (.int p2), .val (.ref (w 0)), .val (.int p0), .val (.int (1 : Int32)), .val (.int (1 : Int32))] [(.ref (w 0))])) _
    refine XS.iload X2.here hx rfl (hb hby at_119) rfl ?_
    show Steps p.tables e below (T2.setTop (mkF m 121 #[.val (.int p0), .val (.int p1), .val (.int p2), .val (.ref (w 0)), .val (.int p0), .val (.int (1 : Int32)), .val (.int (1 : Int32))] [(.int p0), (.ref (w 0))])) _
    refine st3.trans ?_
    show Steps p.tables e below (T3.setTop (mkF m 124 #[.val (.int p0), .val (.int p1), .val (.int p2), .val (.ref (w 0)), .val (.int p0), .val (.int (1 : Int32)), .val (.int (1 : Int32))] [(.int (1 : Int32))])) _
    refine XS.iload X3.here hx rfl (hb hby at_124) rfl ?_
    show Steps p.tables e below (T3.setTop (mkF m 126 #[.val (.int p0), .val (.int p1), .val (.int p2), .val (.ref (w 0)), .val (.int p0), .val (.int (1 : Int32)), .val (.int (1 : Int32))] [(.int (1 : Int32)), (.int (1 : Int32))])) _
    refine XS.icmpNo X3.here hx rfl (hb hby at_126) rfl (teq (by decide : (1 : Int32) = (1 : Int32))).2 ?_
    show Steps p.tables e below (T3.setTop (mkF m 129 #[.val (.int p0), .val (.int p1), .val (.int p2), .val (.ref (w 0)), .val (.int p0), .val (.int (1 : Int32)), .val (.int (1 : Int32))] [])) _
    refine XS.iconst X3.here hx rfl (hb hby at_129) ?_
    show Steps p.tables e below (T3.setTop (mkF m 130 #[.val (.int p0), .val (.int p1), .val (.int p2), .val (.ref (w 0)), .val (.int p0), .val (.int (1 : Int32)), .val (.int (1 : Int32))] [(.int (1 : Int32))])) _
    refine XS.goto X3.here hx rfl (pc0 := 130) (pc' := 134) rfl (hb hby at_130) (by decide) (by decide) ?_
    show Steps p.tables e below (T3.setTop (mkF m 134 #[.val (.int p0), .val (.int p1), .val (.int p2), .val (.ref (w 0)), .val (.int p0), .val (.int (1 : Int32)), .val (.int (1 : Int32))] [(.int (1 : Int32))])) _
    exact retN X3 hx (t := .boolean) Bd.returns (by simp) (hb hby at_134) hr
  · show OL (some (.int (1 : Int32))) Z.heap.size _ T3.heap _
    exact ⟨rfl, N3⟩
theorem d_prog_15_method_4_code_32 : decode prog_15_method_4_code 32 = .ok (.iconst 0, 1) := by decide +kernel
set_option maxRecDepth 65536 in
set_option maxHeartbeats 40000000 in
theorem rm_3 (l : Launch) (Z : State) (a0 : Array Value) (hw : ∀ d ∈ tables_1, d.before a0 Z = true) (w : Nat → Addr) (kk : Nat → ClassId) (hN : Wd Z w kk) (ws : List Jvm.Cond) (p1 : Int32) (h0 : Heap) (O0 : Old Z Z.heap.size h0) (hp0 : ¬ ((p1 % (4 : Int32)) = (0 : Int32))) :
    MetFree l (⟨"com/example/kalendae/kalendae/calendar/CalendarRule", "isLeapYear", "(I)Z"⟩ : MethodName) (head1 (Jvm.Cond.code (⟨"com/example/kalendae/kalendae/calendar/CalendarRule", "isLeapYear", "(I)Z"⟩ : MethodName) prog_15_method_4_code 2 (some .boolean) :: ws) ({ frames := 0, cells := 0, slots := 0, locals := 0 } : Room)) (fun a U => a = #[(.ref (w 0)), (.int p1)] ∧ Z.Warmed39 U.vm ∧ U.heap = h0) (fun _ _ _ _ _ => True) (fun _ U o U' => ∃ v L, o = .returned v ∧ OQ (some (.int (0 : Int32))) h0 Z.heap.size v U'.heap L ∧ FrameEnd U o U' L ({ frames := 0, cells := 0, slots := 0, locals := 0 } : Room).cells ({ frames := 0, cells := 0, slots := 0, locals := 0 } : Room).slots) := by
  have hN' := hN
  obtain ⟨hS0, hE0, hS1, hE1, hF1_ordinal, hF0_ordinal⟩ := hN'
  refine MetFree.of_bodySF (plainFor_of_name pn_0) hisR ?_
  intro p e s m args below meth c s₁ Bd hml0 hP hK
  obtain ⟨rfl, hZ, hh⟩ := hP
  have hx := Bd.exec
  have hby := Bd.bytes
  have hml : c.maxLocals = 2 := hml0
  have hown : s.vm.findClass "com/example/kalendae/kalendae/calendar/CalendarRule" = some m.cls := findClass_of_methodNamed Bd.named
  have hnm := (name_of_methodNamed Bd.named Bd.method).1
  have X0 : Stand p l e ({ frames := 0, cells := 0, slots := 0, locals := 0 } : Room) s m #[(.ref (w 0)), (.int p1)] below meth c s₁ [] 0 0 := Stand.of_body Bd
  have e0 : s₁.heap = h0 := by rw [← hh, Bd.state]; rfl
  have N0 := Fr.nil Z.heap.size
  have pre0 : ∀ t, Steps p.tables e below (s₁.setTop (mkF m 0 #[.val (.ref (w 0)), .val (.int p1)] [])) t → Steps p.tables e below (s₁.setTop (entryFrame m #[(.ref (w 0)), (.int p1)] 2)) t := fun t k => castTop (ef_0 m (.ref (w 0)) rfl (.int p1) rfl) k
  obtain ⟨fs, hr, hrun, hended, hW, hsame⟩ := X0.leave (v := some (.int (0 : Int32))) (fun h => by rw [Bd.returns] at h; cases h)
  refine ⟨_, _, pre0 _ ?_, hrun, hended, _, _, rfl, ?_, ⟨_, rfl⟩, hW, hsame.mono (by decide) (by decide)⟩
  · show Steps p.tables e below (s₁.setTop (mkF m 0 #[.val (.ref (w 0)), .val (.int p1)] [])) _
    refine XS.iloadN X0.here hx rfl (hb hby d_prog_15_method_4_code_0) rfl ?_
    show Steps p.tables e below (s₁.setTop (mkF m 1 #[.val (.ref (w 0)), .val (.int p1)] [(.int p1)])) _
    refine XS.iconst X0.here hx rfl (hb hby d_prog_15_method_4_code_1) ?_
    show Steps p.tables e below (s₁.setTop (mkF m 2 #[.val (.ref (w 0)), .val (.int p1)] [(.int (4 : Int32)), (.int p1)])) _
    refine iremM X0 hx rfl (hb hby d_prog_15_method_4_code_2) rfl (by decide : ¬ ((4 : Int32) = (0 : Int32))) ?_
    show Steps p.tables e below (s₁.setTop (mkF m 3 #[.val (.ref (w 0)), .val (.int p1)] [(.int (p1 % (4 : Int32)))])) _
    refine XS.ifYes X0.here hx rfl (pc0 := 3) (pc' := 32) rfl (hb hby d_prog_15_method_4_code_3) rfl ((if0 _ _).trans (feq hp0).2) (by decide) (by decide) ?_
    show Steps p.tables e below (s₁.setTop (mkF m 32 #[.val (.ref (w 0)), .val (.int p1)] [])) _
    refine XS.iconst X0.here hx rfl (hb hby d_prog_15_method_4_code_32) ?_
    show Steps p.tables e below (s₁.setTop (mkF m 33 #[.val (.ref (w 0)), .val (.int p1)] [(.int (0 : Int32))])) _
    exact retN X0 hx (t := .boolean) Bd.returns (by simp) (hb hby d_prog_15_method_4_code_33) hr
  · show OQ (some (.int (0 : Int32))) h0 Z.heap.size _ s₁.heap _
    rw [e0]
    exact ⟨rfl, N0, rfl⟩
set_option maxRecDepth 65536 in
set_option maxHeartbeats 40000000 in
theorem law_4 (l : Launch) (Z : State) (a0 : Array Value) (hw : ∀ d ∈ tables_1, d.before a0 Z = true) (w : Nat → Addr) (kk : Nat → ClassId) (hN : Wd Z w kk) (ws : List Jvm.Cond) (p0 : Int32) (p1 : Int32) (p2 : Int32) (h0 : Heap) (O0 : Old Z Z.heap.size h0) (hp0 : (p2 &&& (1 : Int32)) = (0 : Int32)) (hp1 : (p1 &&& (1 : Int32)) = (0 : Int32)) (hp2 : ¬ ((p0 &&& (3 : Int32)) = (0 : Int32))) (hp3 : ¬ ((p0 % (4 : Int32)) = (0 : Int32))) :
    MetFree l x (head1 (Jvm.Cond.code x code maxLocals ret :: ws) room_1) (fun a U => a = #[(.int p0), (.int p1), (.int p2)] ∧ Z.Warmed39 U.vm ∧ U.heap = h0) (fun _ _ _ _ _ => True) (fun _ U o U' => ∃ v L, o = .returned v ∧ OL (some (.int (1 : Int32))) Z.heap.size v U'.heap L ∧ FrameEnd U o U' L 0 0) := by
  have hN' := hN
  obtain ⟨hS0, hE0, hS1, hE1, hF1_ordinal, hF0_ordinal⟩ := hN'
  refine MetFree.of_bodySF (plainFor_of_name pn_1) hisR ?_
  intro p e s m args below meth c s₁ Bd hml0 hP hK
  obtain ⟨rfl, hZ, hh⟩ := hP
  have hx := Bd.exec
  have hby := Bd.bytes
  have hml : c.maxLocals = 7 := hml0
  have hown : s.vm.findClass "com/example/kalendae/kalendae/calendar/CalendarRuleIsLeapYearPinLaw" = some m.cls := findClass_of_methodNamed Bd.named
  have hnm := (name_of_methodNamed Bd.named Bd.method).1
  have X0 : Stand p l e room_1 s m #[(.int p0), (.int p1), (.int p2)] below meth c s₁ [] 0 0 := Stand.of_body Bd
  have e0 : s₁.heap = h0 := by rw [← hh, Bd.state]; rfl
  have N0 := Fr.nil Z.heap.size
  have pre0 : ∀ t, Steps p.tables e below (s₁.setTop (mkF m 0 #[.val (.int p0), .val (.int p1), .val (.int p2), .unset, .unset, .unset, .unset] [])) t → Steps p.tables e below (s₁.setTop (entryFrame m #[(.int p0), (.int p1), (.int p2)] maxLocals)) t := fun t k => castTop (ef_1 m (.int p0) rfl (.int p1) rfl (.int p2) rfl) k
  obtain ⟨T1, X1, e1, st1⟩ := getS2 X0 hx hZ hown (host := "") (Or.inl (W hw 0 rfl)) Via.refl e0 (hS0.ext O0.2) (g := (mkF m 12 #[.val (.int p0), .val (.int p1), .val (.int p2), .unset, .unset, .unset, .unset] [])) rfl (hb hby at_12)
  obtain ⟨cq2, kq2, q2a, q2b, q2c⟩ := isOf hZ e1 (hE0.ext O0.2)
  obtain ⟨_, _, ⟨T2, L2, k2, n2⟩, -, X2, ⟨Lc2, hQ2, l2, y2, z2⟩, st2⟩ := X1.virtualBack hx (y := (⟨"com/example/kalendae/kalendae/calendar/CalendarRule", "isLeapYear", "(I)Z"⟩ : MethodName)) (z := (⟨"com/example/kalendae/kalendae/calendar/CalendarRule", "isLeapYear", "(I)Z"⟩ : MethodName)) hown (mvT hZ (W hw 3 rfl)) (mvT hZ (W hw 4 rfl)) (notFace_of_selects (args := #[]) (mvT hZ (W hw 6 rfl))) (mvT hZ (W hw 6 rfl)) (mvT hZ (W hw 5 rfl)) (by decide) (backOf (W := 0) (rm_3 l Z a0 hw w kk hN [] p0 h0 O0 hp3) hZ (W hw 7 rfl) (W hw 1 rfl) (by decide) (by decide)) q2a q2c (g := (mkF m 121 #[.val (.int p0), .val (.int p1), .val (.int p2), .val (.ref (w 0)), .val (.int p0), .val (.int (0 : Int32)), .val (.int (0 : Int32))] [(.int p0), (.ref (w 0))])) rfl (by rw [hml]; rfl) (Steps.refl _) (argsL := [(.int p0)]) (rest := []) (lenOf pd_0 rfl) rfl (by show 2 * 0 + _ ≤ _; exact Nat.le_of_eq rfl) (hb hby at_121) (fun _ _ => ⟨rfl, e1, (by decide : 0 + 0 ≤ _), (by decide : 0 + 0 ≤ _)⟩)
  dsimp only [Pt.U, Pt.locs, Pt.cells, Pt.slots] at X2 l2 y2 z2 st2 hQ2
  subst l2 y2 z2
  obtain ⟨rfl, N2q, e2⟩ := hQ2
  have N2 := Fr.app N0 N2q
  obtain ⟨fs, hr, hrun, hended, hW, hsame⟩ := X2.leave (v := some (.int (1 : Int32))) (fun h => by rw [Bd.returns] at h; cases h)
  refine ⟨_, _, pre0 _ ?_, hrun, hended, _, _, rfl, ?_, ⟨_, rfl⟩, hW, hsame.mono (by decide) (by decide)⟩
  · show Steps p.tables e below (s₁.setTop (mkF m 0 #[.val (.int p0), .val (.int p1), .val (.int p2), .unset, .unset, .unset, .unset] [])) _
    refine XS.iloadN X0.here hx rfl (hb hby at_0) rfl ?_
    show Steps p.tables e below (s₁.setTop (mkF m 1 #[.val (.int p0), .val (.int p1), .val (.int p2), .unset, .unset, .unset, .unset] [(.int p2)])) _
    refine XS.iconst X0.here hx rfl (hb hby at_1) ?_
    show Steps p.tables e below (s₁.setTop (mkF m 2 #[.val (.int p0), .val (.int p1), .val (.int p2), .unset, .unset, .unset, .unset] [(.int (1 : Int32)), (.int p2)])) _
    refine XS.iand X0.here hx rfl (hb hby at_2) rfl ?_
    show Steps p.tables e below (s₁.setTop (mkF m 3 #[.val (.int p0), .val (.int p1), .val (.int p2), .unset, .unset, .unset, .unset] [(.int (p2 &&& (1 : Int32)))])) _
    rw [hp0]
    show Steps p.tables e below (s₁.setTop (mkF m 3 #[.val (.int p0), .val (.int p1), .val (.int p2), .unset, .unset, .unset, .unset] [(.int (0 : Int32))])) _
    refine XS.ifYes X0.here hx rfl (pc0 := 3) (pc' := 12) rfl (hb hby at_3) rfl ((if0 _ _).trans (teq (by decide : (0 : Int32) = (0 : Int32))).1) (by decide) (by decide) ?_
    show Steps p.tables e below (s₁.setTop (mkF m 12 #[.val (.int p0), .val (.int p1), .val (.int p2), .unset, .unset, .unset, .unset] [])) _
    refine st1 _ ?_
    show Steps p.tables e below (T1.setTop (mkF m 15 #[.val (.int p0), .val (.int p1), .val (.int p2), .unset, .unset, .unset, .unset] [(.ref (w 0))])) _
    refine XS.astoreN X1.here hx rfl (hb hby at_15) rfl rfl (l' := #[.val (.int p0), .val (.int p1), .val (.int p2), .val (.ref (w 0)), .unset, .unset, .unset]) rfl ?_
    show Steps p.tables e below (T1.setTop (mkF m 16 #[.val (.int p0), .val (.int p1), .val (.int p2), .val (.ref (w 0)), .unset, .unset, .unset] [])) _
    refine XS.iloadN X1.here hx rfl (hb hby at_16) rfl ?_
    show Steps p.tables e below (T1.setTop (mkF m 17 #[.val (.int p0), .val (.int p1), .val (.int p2), .val (.ref (w 0)), .unset, .unset, .unset] [(.int p1)])) _
    refine XS.iconst X1.here hx rfl (hb hby at_17) ?_
    show Steps p.tables e below (T1.setTop (mkF m 18 #[.val (.int p0), .val (.int p1), .val (.int p2), .val (.ref (w 0)), .unset, .unset, .unset] [(.int (1 : Int32)), (.int p1)])) _
    refine XS.iand X1.here hx rfl (hb hby at_18) rfl ?_
    show Steps p.tables e below (T1.setTop (mkF m 19 #[.val (.int p0), .val (.int p1), .val (.int p2), .val (.ref (w 0)), .unset, .unset, .unset] [(.int (p1 &&& (1 : Int32)))])) _
    rw [hp1]
    show Steps p.tables e below (T1.setTop (mkF m 19 #[.val (.int p0), .val (.int p1), .val (.int p2), .val (.ref (w 0)), .unset, .unset, .unset] [(.int (0 : Int32))])) _
    refine XS.ifNo X1.here hx rfl (hb hby at_19) rfl ((if0 _ _).trans (teq (by decide : (0 : Int32) = (0 : Int32))).2) ?_
    show Steps p.tables e below (T1.setTop (mkF m 22 #[.val (.int p0), .val (.int p1), .val (.int p2), .val (.ref (w 0)), .unset, .unset, .unset] [])) _
    refine XS.iloadN X1.here hx rfl (hb hby at_22) rfl ?_
    show Steps p.tables e below (T1.setTop (mkF m 23 #[.val (.int p0), .val (.int p1), .val (.int p2), .val (.ref (w 0)), .unset, .unset, .unset] [(.int p0)])) _
    refine XS.istore X1.here hx rfl (hb hby at_23) rfl (l' := #[.val (.int p0), .val (.int p1), .val (.int p2), .val (.ref (w 0)), .val (.int p0), .unset, .unset]) rfl ?_
    show Steps p.tables e below (T1.setTop (mkF m 25 #[.val (.int p0), .val (.int p1), .val (.int p2), .val (.ref (w 0)), .val (.int p0), .unset, .unset] [])) _
    refine XS.goto X1.here hx rfl (pc0 := 25) (pc' := 51) rfl (hb hby at_25) (by decide) (by decide) ?_
    show Steps p.tables e below (T1.setTop (mkF m 51 #[.val (.int p0), .val (.int p1), .val (.int p2), .val (.ref (w 0)), .val (.int p0), .unset, .unset] [])) _
    refine XS.iload X1.here hx rfl (hb hby at_51) rfl ?_
    show Steps p.tables e below (T1.setTop (mkF m 53 #[.val (.int p0), .val (.int p1), .val (.int p2), .val (.ref (w 0)), .val (.int p0), .unset, .unset] [(.int p0)])) _
    refine XS.iconst X1.here hx rfl (hb hby at_53) ?_
    show Steps p.tables e below (T1.setTop (mkF m 54 #[.val (.int p0), .val (.int p1), .val (.int p2), .val (.ref (w 0)), .val (.int p0), .unset, .unset] [(.int (3 : Int32)), (.int p0)])) _
    refine XS.iand X1.here hx rfl (hb hby at_54) rfl ?_
    show Steps p.tables e below (T1.setTop (mkF m 55 #[.val (.int p0), .val (.int p1), .val (.int p2), .val (.ref (w 0)), .val (.int p0), .unset, .unset] [(.int (p0 &&& (3 : Int32)))])) _
    refine XS.ifYes X1.here hx rfl (pc0 := 55) (pc' := 62) rfl (hb hby at_55) rfl ((if0 _ _).trans (feq hp2).2) (by decide) (by decide) ?_
    show Steps p.tables e below (T1.setTop (mkF m 62 #[.val (.int p0), .val (.int p1), .val (.int p2), .val (.ref (w 0)), .val (.int p0), .unset, .unset] [])) _
    refine XS.iconst X1.here hx rfl (hb hby at_62) ?_
    show Steps p.tables e below (T1.setTop (mkF m 63 #[.val (.int p0), .val (.int p1), .val (.int p2), .val (.ref (w 0)), .val (.int p0), .unset, .unset] [(.int (0 : Int32))])) _
    refine XS.istore X1.here hx rfl (hb hby at_63) rfl (l' := #[.val (.int p0), .val (.int p1), .val (.int p2), .val (.ref (w 0)), .val (.int p0), .unset, .val (.int (0 : Int32))]) rfl ?_
    show Steps p.tables e below (T1.setTop (mkF m 65 #[.val (.int p0), .val (.int p1), .val (.int p2), .val (.ref (w 0)), .val (.int p0), .unset, .val (.int (0 : Int32))] [])) _
    refine XS.iload X1.here hx rfl (hb hby at_65) rfl ?_
    show Steps p.tables e below (T1.setTop (mkF m 67 #[.val (.int p0), .val (.int p1), .val (.int p2), .val (.ref (w 0)), .val (.int p0), .unset, .val (.int (0 : Int32))] [(.int (0 : Int32))])) _
    refine XS.ifNo X1.here hx rfl (hb hby at_67) rfl ((if0 _ _).trans (teq (by decide : (0 : Int32) = (0 : Int32))).2) ?_
    show Steps p.tables e below (T1.setTop (mkF m 70 #[.val (.int p0), .val (.int p1), .val (.int p2), .val (.ref (w 0)), .val (.int p0), .unset, .val (.int (0 : Int32))] [])) _
    refine XS.iconst X1.here hx rfl (hb hby at_70) ?_
    show Steps p.tables e below (T1.setTop (mkF m 71 #[.val (.int p0), .val (.int p1), .val (.int p2), .val (.ref (w 0)), .val (.int p0), .unset, .val (.int (0 : Int32))] [(.int (0 : Int32))])) _
    refine XS.istore X1.here hx rfl (hb hby at_71) rfl (l' := #[.val (.int p0), .val (.int p1), .val (.int p2), .val (.ref (w 0)), .val (.int p0), .val (.int (0 : Int32)), .val (.int (0 : Int32))]) rfl ?_
    show Steps p.tables e below (T1.setTop (mkF m 73 #[.val (.int p0), .val (.int p1), .val (.int p2), .val (.ref (w 0)), .val (.int p0), .val (.int (0 : Int32)), .val (.int (0 : Int32))] [])) _
    refine XS.goto X1.here hx rfl (pc0 := 73) (pc' := 118) rfl (hb hby at_73) (by decide) (by decide) ?_
    show Steps p.tables e below (T1.setTop (mkF m 118 #[.val (.int p0), .val (.int p1), .val (.int p2), .val (.ref (w 0)), .val (.int p0), .val (.int (0 : Int32)), .val (.int (0 : Int32))] [])) _
    refine XS.aloadN X1.here hx rfl (hb hby at_118) rfl rfl ?_
    show Steps p.tables e below (T1.setTop (mkF m 119 #[.val (.int p0), .val (.int p1), .val (.int p2), .val (.ref (w 0)), .val (.int p0), .val (.int (0 : Int32)), .val (.int (0 : Int32))] [(.ref (w 0))])) _
    refine XS.iload X1.here hx rfl (hb hby at_119) rfl ?_
    show Steps p.tables e below (T1.setTop (mkF m 121 #[.val (.int p0), .val (.int p1), .val (.int p2), .val (.ref (w 0)), .val (.int p0), .val (.int (0 : Int32)), .val (.int (0 : Int32))] [(.int p0), (.ref (w 0))])) _
    refine st2.trans ?_
    show Steps p.tables e below (T2.setTop (mkF m 124 #[.val (.int p0), .val (.int p1), .val (.int p2), .val (.ref (w 0)), .val (.int p0), .val (.int (0 : Int32)), .val (.int (0 : Int32))] [(.int (0 : Int32))])) _
    refine XS.iload X2.here hx rfl (hb hby at_124) rfl ?_
    show Steps p.tables e below (T2.setTop (mkF m 126 #[.val (.int p0), .val (.int p1), .val (.int p2), .val (.ref (w 0)), .val (.int p0), .val (.int (0 : Int32)), .val (.int (0 : Int32))] [(.int (0 : Int32)), (.int (0 : Int32))])) _
    refine XS.icmpNo X2.here hx rfl (hb hby at_126) rfl (teq (by decide : (0 : Int32) = (0 : Int32))).2 ?_
    show Steps p.tables e below (T2.setTop (mkF m 129 #[.val (.int p0), .val (.int p1), .val (.int p2), .val (.ref (w 0)), .val (.int p0), .val (.int (0 : Int32)), .val (.int (0 : Int32))] [])) _
    refine XS.iconst X2.here hx rfl (hb hby at_129) ?_
    show Steps p.tables e below (T2.setTop (mkF m 130 #[.val (.int p0), .val (.int p1), .val (.int p2), .val (.ref (w 0)), .val (.int p0), .val (.int (0 : Int32)), .val (.int (0 : Int32))] [(.int (1 : Int32))])) _
    refine XS.goto X2.here hx rfl (pc0 := 130) (pc' := 134) rfl (hb hby at_130) (by decide) (by decide) ?_
    show Steps p.tables e below (T2.setTop (mkF m 134 #[.val (.int p0), .val (.int p1), .val (.int p2), .val (.ref (w 0)), .val (.int p0), .val (.int (0 : Int32)), .val (.int (0 : Int32))] [(.int (1 : Int32))])) _
    exact retN X2 hx (t := .boolean) Bd.returns (by simp) (hb hby at_134) hr
  · show OL (some (.int (1 : Int32))) Z.heap.size _ T2.heap _
    exact ⟨rfl, N2⟩
set_option maxRecDepth 65536 in
set_option maxHeartbeats 40000000 in
theorem law_5 (l : Launch) (Z : State) (a0 : Array Value) (hw : ∀ d ∈ tables_1, d.before a0 Z = true) (w : Nat → Addr) (kk : Nat → ClassId) (hN : Wd Z w kk) (ws : List Jvm.Cond) (p0 : Int32) (p1 : Int32) (p2 : Int32) (h0 : Heap) (O0 : Old Z Z.heap.size h0) (hp0 : (p2 &&& (1 : Int32)) = (0 : Int32)) (hp1 : (p1 &&& (1 : Int32)) = (1 : Int32)) (hp2 : ((((p0 / (400 : Int32)) * (400 : Int32)) + ((p1 >>> ((1 : Int32) &&& 31)) % (400 : Int32))) &&& (3 : Int32)) = (0 : Int32)) (hp3 : ((((p0 / (400 : Int32)) * (400 : Int32)) + ((p1 >>> ((1 : Int32) &&& 31)) % (400 : Int32))) % (4 : Int32)) = (0 : Int32)) :
    MetFree l x (head1 (Jvm.Cond.code x code maxLocals ret :: ws) room_1) (fun a U => a = #[(.int p0), (.int p1), (.int p2)] ∧ Z.Warmed39 U.vm ∧ U.heap = h0) (fun _ _ _ _ _ => True) (fun _ U o U' => ∃ v L, o = .returned v ∧ OL (some (.int (1 : Int32))) Z.heap.size v U'.heap L ∧ FrameEnd U o U' L 0 0) := by
  have hN' := hN
  obtain ⟨hS0, hE0, hS1, hE1, hF1_ordinal, hF0_ordinal⟩ := hN'
  refine MetFree.of_bodySF (plainFor_of_name pn_1) hisR ?_
  intro p e s m args below meth c s₁ Bd hml0 hP hK
  obtain ⟨rfl, hZ, hh⟩ := hP
  have hx := Bd.exec
  have hby := Bd.bytes
  have hml : c.maxLocals = 7 := hml0
  have hown : s.vm.findClass "com/example/kalendae/kalendae/calendar/CalendarRuleIsLeapYearPinLaw" = some m.cls := findClass_of_methodNamed Bd.named
  have hnm := (name_of_methodNamed Bd.named Bd.method).1
  have X0 : Stand p l e room_1 s m #[(.int p0), (.int p1), (.int p2)] below meth c s₁ [] 0 0 := Stand.of_body Bd
  have e0 : s₁.heap = h0 := by rw [← hh, Bd.state]; rfl
  have N0 := Fr.nil Z.heap.size
  have pre0 : ∀ t, Steps p.tables e below (s₁.setTop (mkF m 0 #[.val (.int p0), .val (.int p1), .val (.int p2), .unset, .unset, .unset, .unset] [])) t → Steps p.tables e below (s₁.setTop (entryFrame m #[(.int p0), (.int p1), (.int p2)] maxLocals)) t := fun t k => castTop (ef_1 m (.int p0) rfl (.int p1) rfl (.int p2) rfl) k
  obtain ⟨T1, X1, e1, st1⟩ := getS2 X0 hx hZ hown (host := "") (Or.inl (W hw 0 rfl)) Via.refl e0 (hS0.ext O0.2) (g := (mkF m 12 #[.val (.int p0), .val (.int p1), .val (.int p2), .unset, .unset, .unset, .unset] [])) rfl (hb hby at_12)
  obtain ⟨T2, X2, e2, st2⟩ := getS2 X1 hx hZ hown (host := "") (Or.inl (W hw 0 rfl)) Via.refl e1 (hS0.ext O0.2) (g := (mkF m 77 #[.val (.int p0), .val (.int p1), .val (.int p2), .val (.ref (w 0)), .val (.int (((p0 / (400 : Int32)) * (400 : Int32)) + ((p1 >>> ((1 : Int32) &&& 31)) % (400 : Int32)))), .val (.int ((p1 >>> ((1 : Int32) &&& 31)) % (400 : Int32))), .val (.int (1 : Int32))] [(.ref (w 0))])) rfl (hb hby at_77)
  obtain ⟨cq3, kq3, q3a, q3b, q3c⟩ := isOf hZ e2 (hE0.ext O0.2)
  obtain ⟨_, _, ⟨T3, L3, k3, n3⟩, -, X3, ⟨Lc3, hQ3, l3, y3, z3⟩, st3⟩ := X2.virtualBack hx (y := (⟨"com/example/kalendae/kalendae/calendar/CalendarRule", "isLeapYear", "(I)Z"⟩ : MethodName)) (z := (⟨"com/example/kalendae/kalendae/calendar/CalendarRule", "isLeapYear", "(I)Z"⟩ : MethodName)) hown (mvT hZ (W hw 3 rfl)) (mvT hZ (W hw 4 rfl)) (notFace_of_selects (args := #[]) (mvT hZ (W hw 6 rfl))) (mvT hZ (W hw 6 rfl)) (mvT hZ (W hw 5 rfl)) (by decide) (backOf (W := 0) (rm_1 l Z a0 hw w kk hN [] (((p0 / (400 : Int32)) * (400 : Int32)) + ((p1 >>> ((1 : Int32) &&& 31)) % (400 : Int32))) h0 O0 hp3) hZ (W hw 7 rfl) (W hw 1 rfl) (by decide) (by decide)) q3a q3c (g := (mkF m 121 #[.val (.int p0), .val (.int p1), .val (.int p2), .val (.ref (w 0)), .val (.int (((p0 / (400 : Int32)) * (400 : Int32)) + ((p1 >>> ((1 : Int32) &&& 31)) % (400 : Int32)))), .val (.int (1 : Int32)), .val (.int (1 : Int32))] [(.int (((p0 / (400 : Int32)) * (400 : Int32)) + ((p1 >>> ((1 : Int32) &&& 31)) % (400 : Int32)))), (.ref (w 0))])) rfl (by rw [hml]; rfl) (Steps.refl _) (argsL := [(.int (((p0 / (400 : Int32)) * (400 : Int32)) + ((p1 >>> ((1 : Int32) &&& 31)) % (400 : Int32))))]) (rest := []) (lenOf pd_0 rfl) rfl (by show 2 * 0 + _ ≤ _; exact Nat.le_of_eq rfl) (hb hby at_121) (fun _ _ => ⟨rfl, e2, (by decide : 0 + 0 ≤ _), (by decide : 0 + 0 ≤ _)⟩)
  dsimp only [Pt.U, Pt.locs, Pt.cells, Pt.slots] at X3 l3 y3 z3 st3 hQ3
  subst l3 y3 z3
  obtain ⟨rfl, N3q, e3⟩ := hQ3
  have N3 := Fr.app N0 N3q
  obtain ⟨fs, hr, hrun, hended, hW, hsame⟩ := X3.leave (v := some (.int (1 : Int32))) (fun h => by rw [Bd.returns] at h; cases h)
  refine ⟨_, _, pre0 _ ?_, hrun, hended, _, _, rfl, ?_, ⟨_, rfl⟩, hW, hsame.mono (by decide) (by decide)⟩
  · show Steps p.tables e below (s₁.setTop (mkF m 0 #[.val (.int p0), .val (.int p1), .val (.int p2), .unset, .unset, .unset, .unset] [])) _
    refine XS.iloadN X0.here hx rfl (hb hby at_0) rfl ?_
    show Steps p.tables e below (s₁.setTop (mkF m 1 #[.val (.int p0), .val (.int p1), .val (.int p2), .unset, .unset, .unset, .unset] [(.int p2)])) _
    refine XS.iconst X0.here hx rfl (hb hby at_1) ?_
    show Steps p.tables e below (s₁.setTop (mkF m 2 #[.val (.int p0), .val (.int p1), .val (.int p2), .unset, .unset, .unset, .unset] [(.int (1 : Int32)), (.int p2)])) _
    refine XS.iand X0.here hx rfl (hb hby at_2) rfl ?_
    show Steps p.tables e below (s₁.setTop (mkF m 3 #[.val (.int p0), .val (.int p1), .val (.int p2), .unset, .unset, .unset, .unset] [(.int (p2 &&& (1 : Int32)))])) _
    rw [hp0]
    show Steps p.tables e below (s₁.setTop (mkF m 3 #[.val (.int p0), .val (.int p1), .val (.int p2), .unset, .unset, .unset, .unset] [(.int (0 : Int32))])) _
    refine XS.ifYes X0.here hx rfl (pc0 := 3) (pc' := 12) rfl (hb hby at_3) rfl ((if0 _ _).trans (teq (by decide : (0 : Int32) = (0 : Int32))).1) (by decide) (by decide) ?_
    show Steps p.tables e below (s₁.setTop (mkF m 12 #[.val (.int p0), .val (.int p1), .val (.int p2), .unset, .unset, .unset, .unset] [])) _
    refine st1 _ ?_
    show Steps p.tables e below (T1.setTop (mkF m 15 #[.val (.int p0), .val (.int p1), .val (.int p2), .unset, .unset, .unset, .unset] [(.ref (w 0))])) _
    refine XS.astoreN X1.here hx rfl (hb hby at_15) rfl rfl (l' := #[.val (.int p0), .val (.int p1), .val (.int p2), .val (.ref (w 0)), .unset, .unset, .unset]) rfl ?_
    show Steps p.tables e below (T1.setTop (mkF m 16 #[.val (.int p0), .val (.int p1), .val (.int p2), .val (.ref (w 0)), .unset, .unset, .unset] [])) _
    refine XS.iloadN X1.here hx rfl (hb hby at_16) rfl ?_
    show Steps p.tables e below (T1.setTop (mkF m 17 #[.val (.int p0), .val (.int p1), .val (.int p2), .val (.ref (w 0)), .unset, .unset, .unset] [(.int p1)])) _
    refine XS.iconst X1.here hx rfl (hb hby at_17) ?_
    show Steps p.tables e below (T1.setTop (mkF m 18 #[.val (.int p0), .val (.int p1), .val (.int p2), .val (.ref (w 0)), .unset, .unset, .unset] [(.int (1 : Int32)), (.int p1)])) _
    refine XS.iand X1.here hx rfl (hb hby at_18) rfl ?_
    show Steps p.tables e below (T1.setTop (mkF m 19 #[.val (.int p0), .val (.int p1), .val (.int p2), .val (.ref (w 0)), .unset, .unset, .unset] [(.int (p1 &&& (1 : Int32)))])) _
    rw [hp1]
    show Steps p.tables e below (T1.setTop (mkF m 19 #[.val (.int p0), .val (.int p1), .val (.int p2), .val (.ref (w 0)), .unset, .unset, .unset] [(.int (1 : Int32))])) _
    refine XS.ifYes X1.here hx rfl (pc0 := 19) (pc' := 28) rfl (hb hby at_19) rfl ((if0 _ _).trans (feq (by decide : ¬ ((1 : Int32) = (0 : Int32)))).2) (by decide) (by decide) ?_
    show Steps p.tables e below (T1.setTop (mkF m 28 #[.val (.int p0), .val (.int p1), .val (.int p2), .val (.ref (w 0)), .unset, .unset, .unset] [])) _
    refine XS.iloadN X1.here hx rfl (hb hby at_28) rfl ?_
    show Steps p.tables e below (T1.setTop (mkF m 29 #[.val (.int p0), .val (.int p1), .val (.int p2), .val (.ref (w 0)), .unset, .unset, .unset] [(.int p1)])) _
    refine XS.iconst X1.here hx rfl (hb hby at_29) ?_
    show Steps p.tables e below (T1.setTop (mkF m 30 #[.val (.int p0), .val (.int p1), .val (.int p2), .val (.ref (w 0)), .unset, .unset, .unset] [(.int (1 : Int32)), (.int p1)])) _
    refine XS.ishr X1.here hx rfl (hb hby at_30) rfl ?_
    show Steps p.tables e below (T1.setTop (mkF m 31 #[.val (.int p0), .val (.int p1), .val (.int p2), .val (.ref (w 0)), .unset, .unset, .unset] [(.int (p1 >>> ((1 : Int32) &&& 31)))])) _
    refine XS.sipush X1.here hx rfl (hb hby at_31) ?_
    show Steps p.tables e below (T1.setTop (mkF m 34 #[.val (.int p0), .val (.int p1), .val (.int p2), .val (.ref (w 0)), .unset, .unset, .unset] [(.int (400 : Int32)), (.int (p1 >>> ((1 : Int32) &&& 31)))])) _
    refine iremM X1 hx rfl (hb hby at_34) rfl (by decide : ¬ ((400 : Int32) = (0 : Int32))) ?_
    show Steps p.tables e below (T1.setTop (mkF m 35 #[.val (.int p0), .val (.int p1), .val (.int p2), .val (.ref (w 0)), .unset, .unset, .unset] [(.int ((p1 >>> ((1 : Int32) &&& 31)) % (400 : Int32)))])) _
    refine XS.istore X1.here hx rfl (hb hby at_35) rfl (l' := #[.val (.int p0), .val (.int p1), .val (.int p2), .val (.ref (w 0)), .unset, .val (.int ((p1 >>> ((1 : Int32) &&& 31)) % (400 : Int32))), .unset]) rfl ?_
    show Steps p.tables e below (T1.setTop (mkF m 37 #[.val (.int p0), .val (.int p1), .val (.int p2), .val (.ref (w 0)), .unset, .val (.int ((p1 >>> ((1 : Int32) &&& 31)) % (400 : Int32))), .unset] [])) _
    refine XS.iloadN X1.here hx rfl (hb hby at_37) rfl ?_
    show Steps p.tables e below (T1.setTop (mkF m 38 #[.val (.int p0), .val (.int p1), .val (.int p2), .val (.ref (w 0)), .unset, .val (.int ((p1 >>> ((1 : Int32) &&& 31)) % (400 : Int32))), .unset] [(.int p0)])) _
    refine XS.sipush X1.here hx rfl (hb hby at_38) ?_
    show Steps p.tables e below (T1.setTop (mkF m 41 #[.val (.int p0), .val (.int p1), .val (.int p2), .val (.ref (w 0)), .unset, .val (.int ((p1 >>> ((1 : Int32) &&& 31)) % (400 : Int32))), .unset] [(.int (400 : Int32)), (.int p0)])) _
    refine XS.idiv X1.here hx rfl (hb hby at_41) rfl (by decide : ¬ ((400 : Int32) = (0 : Int32))) ?_
    show Steps p.tables e below (T1.setTop (mkF m 42 #[.val (.int p0), .val (.int p1), .val (.int p2), .val (.ref (w 0)), .unset, .val (.int ((p1 >>> ((1 : Int32) &&& 31)) % (400 : Int32))), .unset] [(.int (p0 / (400 : Int32)))])) _
    refine XS.sipush X1.here hx rfl (hb hby at_42) ?_
    show Steps p.tables e below (T1.setTop (mkF m 45 #[.val (.int p0), .val (.int p1), .val (.int p2), .val (.ref (w 0)), .unset, .val (.int ((p1 >>> ((1 : Int32) &&& 31)) % (400 : Int32))), .unset] [(.int (400 : Int32)), (.int (p0 / (400 : Int32)))])) _
    refine XS.imul X1.here hx rfl (hb hby at_45) rfl ?_
    show Steps p.tables e below (T1.setTop (mkF m 46 #[.val (.int p0), .val (.int p1), .val (.int p2), .val (.ref (w 0)), .unset, .val (.int ((p1 >>> ((1 : Int32) &&& 31)) % (400 : Int32))), .unset] [(.int ((p0 / (400 : Int32)) * (400 : Int32)))])) _
    refine XS.iload X1.here hx rfl (hb hby at_46) rfl ?_
    show Steps p.tables e below (T1.setTop (mkF m 48 #[.val (.int p0), .val (.int p1), .val (.int p2), .val (.ref (w 0)), .unset, .val (.int ((p1 >>> ((1 : Int32) &&& 31)) % (400 : Int32))), .unset] [(.int ((p1 >>> ((1 : Int32) &&& 31)) % (400 : Int32))), (.int ((p0 / (400 : Int32)) * (400 : Int32)))])) _
    refine XS.iadd X1.here hx rfl (hb hby at_48) rfl ?_
    show Steps p.tables e below (T1.setTop (mkF m 49 #[.val (.int p0), .val (.int p1), .val (.int p2), .val (.ref (w 0)), .unset, .val (.int ((p1 >>> ((1 : Int32) &&& 31)) % (400 : Int32))), .unset] [(.int (((p0 / (400 : Int32)) * (400 : Int32)) + ((p1 >>> ((1 : Int32) &&& 31)) % (400 : Int32))))])) _
    refine XS.istore X1.here hx rfl (hb hby at_49) rfl (l' := #[.val (.int p0), .val (.int p1), .val (.int p2), .val (.ref (w 0)), .val (.int (((p0 / (400 : Int32)) * (400 : Int32)) + ((p1 >>> ((1 : Int32) &&& 31)) % (400 : Int32)))), .val (.int ((p1 >>> ((1 : Int32) &&& 31)) % (400 : Int32))), .unset]) rfl ?_
    show Steps p.tables e below (T1.setTop (mkF m 51 #[.val (.int p0), .val (.int p1), .val (.int p2), .val (.ref (w 0)), .val (.int (((p0 / (400 : Int32)) * (400 : Int32)) + ((p1 >>> ((1 : Int32) &&& 31)) % (400 : Int32)))), .val (.int ((p1 >>> ((1 : Int32) &&& 31)) % (400 : Int32))), .unset] [])) _
    refine XS.iload X1.here hx rfl (hb hby at_51) rfl ?_
    show Steps p.tables e below (T1.setTop (mkF m 53 #[.val (.int p0), .val (.int p1), .val (.int p2), .val (.ref (w 0)), .val (.int (((p0 / (400 : Int32)) * (400 : Int32)) + ((p1 >>> ((1 : Int32) &&& 31)) % (400 : Int32)))), .val (.int ((p1 >>> ((1 : Int32) &&& 31)) % (400 : Int32))), .unset] [(.int (((p0 / (400 : Int32)) * (400 : Int32)) + ((p1 >>> ((1 : Int32) &&& 31)) % (400 : Int32))))])) _
    refine XS.iconst X1.here hx rfl (hb hby at_53) ?_
    show Steps p.tables e below (T1.setTop (mkF m 54 #[.val (.int p0), .val (.int p1), .val (.int p2), .val (.ref (w 0)), .val (.int (((p0 / (400 : Int32)) * (400 : Int32)) + ((p1 >>> ((1 : Int32) &&& 31)) % (400 : Int32)))), .val (.int ((p1 >>> ((1 : Int32) &&& 31)) % (400 : Int32))), .unset] [(.int (3 : Int32)), (.int (((p0 / (400 : Int32)) * (400 : Int32)) + ((p1 >>> ((1 : Int32) &&& 31)) % (400 : Int32))))])) _
    refine XS.iand X1.here hx rfl (hb hby at_54) rfl ?_
    show Steps p.tables e below (T1.setTop (mkF m 55 #[.val (.int p0), .val (.int p1), .val (.int p2), .val (.ref (w 0)), .val (.int (((p0 / (400 : Int32)) * (400 : Int32)) + ((p1 >>> ((1 : Int32) &&& 31)) % (400 : Int32)))), .val (.int ((p1 >>> ((1 : Int32) &&& 31)) % (400 : Int32))), .unset] [(.int ((((p0 / (400 : Int32)) * (400 : Int32)) + ((p1 >>> ((1 : Int32) &&& 31)) % (400 : Int32))) &&& (3 : Int32)))])) _
    refine XS.ifNo X1.here hx rfl (hb hby at_55) rfl ((if0 _ _).trans (teq hp2).2) ?_
    show Steps p.tables e below (T1.setTop (mkF m 58 #[.val (.int p0), .val (.int p1), .val (.int p2), .val (.ref (w 0)), .val (.int (((p0 / (400 : Int32)) * (400 : Int32)) + ((p1 >>> ((1 : Int32) &&& 31)) % (400 : Int32)))), .val (.int ((p1 >>> ((1 : Int32) &&& 31)) % (400 : Int32))), .unset] [])) _
    refine XS.iconst X1.here hx rfl (hb hby at_58) ?_
    show Steps p.tables e below (T1.setTop (mkF m 59 #[.val (.int p0), .val (.int p1), .val (.int p2), .val (.ref (w 0)), .val (.int (((p0 / (400 : Int32)) * (400 : Int32)) + ((p1 >>> ((1 : Int32) &&& 31)) % (400 : Int32)))), .val (.int ((p1 >>> ((1 : Int32) &&& 31)) % (400 : Int32))), .unset] [(.int (1 : Int32))])) _
    refine XS.goto X1.here hx rfl (pc0 := 59) (pc' := 63) rfl (hb hby at_59) (by decide) (by decide) ?_
    show Steps p.tables e below (T1.setTop (mkF m 63 #[.val (.int p0), .val (.int p1), .val (.int p2), .val (.ref (w 0)), .val (.int (((p0 / (400 : Int32)) * (400 : Int32)) + ((p1 >>> ((1 : Int32) &&& 31)) % (400 : Int32)))), .val (.int ((p1 >>> ((1 : Int32) &&& 31)) % (400 : Int32))), .unset] [(.int (1 : Int32))])) _
    refine XS.istore X1.here hx rfl (hb hby at_63) rfl (l' := #[.val (.int p0), .val (.int p1), .val (.int p2), .val (.ref (w 0)), .val (.int (((p0 / (400 : Int32)) * (400 : Int32)) + ((p1 >>> ((1 : Int32) &&& 31)) % (400 : Int32)))), .val (.int ((p1 >>> ((1 : Int32) &&& 31)) % (400 : Int32))), .val (.int (1 : Int32))]) rfl ?_
    show Steps p.tables e below (T1.setTop (mkF m 65 #[.val (.int p0), .val (.int p1), .val (.int p2), .val (.ref (w 0)), .val (.int (((p0 / (400 : Int32)) * (400 : Int32)) + ((p1 >>> ((1 : Int32) &&& 31)) % (400 : Int32)))), .val (.int ((p1 >>> ((1 : Int32) &&& 31)) % (400 : Int32))), .val (.int (1 : Int32))] [])) _
    refine XS.iload X1.here hx rfl (hb hby at_65) rfl ?_
    show Steps p.tables e below (T1.setTop (mkF m 67 #[.val (.int p0), .val (.int p1), .val (.int p2), .val (.ref (w 0)), .val (.int (((p0 / (400 : Int32)) * (400 : Int32)) + ((p1 >>> ((1 : Int32) &&& 31)) % (400 : Int32)))), .val (.int ((p1 >>> ((1 : Int32) &&& 31)) % (400 : Int32))), .val (.int (1 : Int32))] [(.int (1 : Int32))])) _
    refine XS.ifYes X1.here hx rfl (pc0 := 67) (pc' := 76) rfl (hb hby at_67) rfl ((if0 _ _).trans (feq (by decide : ¬ ((1 : Int32) = (0 : Int32)))).2) (by decide) (by decide) ?_
    show Steps p.tables e below (T1.setTop (mkF m 76 #[.val (.int p0), .val (.int p1), .val (.int p2), .val (.ref (w 0)), .val (.int (((p0 / (400 : Int32)) * (400 : Int32)) + ((p1 >>> ((1 : Int32) &&& 31)) % (400 : Int32)))), .val (.int ((p1 >>> ((1 : Int32) &&& 31)) % (400 : Int32))), .val (.int (1 : Int32))] [])) _
    refine XS.aloadN X1.here hx rfl (hb hby at_76) rfl rfl ?_
    show Steps p.tables e below (T1.setTop (mkF m 77 #[.val (.int p0), .val (.int p1), .val (.int p2), .val (.ref (w 0)), .val (.int (((p0 / (400 : Int32)) * (400 : Int32)) + ((p1 >>> ((1 : Int32) &&& 31)) % (400 : Int32)))), .val (.int ((p1 >>> ((1 : Int32) &&& 31)) % (400 : Int32))), .val (.int (1 : Int32))] [(.ref (w 0))])) _
    refine st2 _ ?_
    show Steps p.tables e below (T2.setTop (mkF m 80 #[.val (.int p0), .val (.int p1), .val (.int p2), .val (.ref (w 0)), .val (.int (((p0 / (400 : Int32)) * (400 : Int32)) + ((p1 >>> ((1 : Int32) &&& 31)) % (400 : Int32)))), .val (.int ((p1 >>> ((1 : Int32) &&& 31)) % (400 : Int32))), .val (.int (1 : Int32))] [(.ref (w 0)), (.ref (w 0))])) _
    refine Jvm.RoadKit.acmp (g := (mkF m 80 #[.val (.int p0), .val (.int p1), .val (.int p2), .val (.ref (w 0)), .val (.int (((p0 / (400 : Int32)) * (400 : Int32)) + ((p1 >>> ((1 : Int32) &&& 31)) % (400 : Int32)))), .val (.int ((p1 >>> ((1 : Int32) &&& 31)) % (400 : Int32))), .val (.int (1 : Int32))] [(.ref (w 0)), (.ref (w 0))])) X2 hx rfl rfl rfl (pc0 := 80) (pc' := 83) (same := true) rfl (hb hby at_80) rfl (decide_eq_true rfl) (by decide) (by decide) ?_
    show Steps p.tables e below (T2.setTop (mkF m 83 #[.val (.int p0), .val (.int p1), .val (.int p2), .val (.ref (w 0)), .val (.int (((p0 / (400 : Int32)) * (400 : Int32)) + ((p1 >>> ((1 : Int32) &&& 31)) % (400 : Int32)))), .val (.int ((p1 >>> ((1 : Int32) &&& 31)) % (400 : Int32))), .val (.int (1 : Int32))] [])) _
    refine XS.iconst X2.here hx rfl (hb hby at_83) ?_
    show Steps p.tables e below (T2.setTop (mkF m 84 #[.val (.int p0), .val (.int p1), .val (.int p2), .val (.ref (w 0)), .val (.int (((p0 / (400 : Int32)) * (400 : Int32)) + ((p1 >>> ((1 : Int32) &&& 31)) % (400 : Int32)))), .val (.int ((p1 >>> ((1 : Int32) &&& 31)) % (400 : Int32))), .val (.int (1 : Int32))] [(.int (1 : Int32))])) _
    refine XS.istore X2.here hx rfl (hb hby at_84) rfl (l' := #[.val (.int p0), .val (.int p1), .val (.int p2), .val (.ref (w 0)), .val (.int (((p0 / (400 : Int32)) * (400 : Int32)) + ((p1 >>> ((1 : Int32) &&& 31)) % (400 : Int32)))), .val (.int (1 : Int32)), .val (.int (1 : Int32))]) rfl ?_
    show Steps p.tables e below (T2.setTop (mkF m 86 #[.val (.int p0), .val (.int p1), .val (.int p2), .val (.ref (w 0)), .val (.int (((p0 / (400 : Int32)) * (400 : Int32)) + ((p1 >>> ((1 : Int32) &&& 31)) % (400 : Int32)))), .val (.int (1 : Int32)), .val (.int (1 : Int32))] [])) _
    refine XS.goto X2.here hx rfl (pc0 := 86) (pc' := 118) rfl (hb hby at_86) (by decide) (by decide) ?_
    show Steps p.tables e below (T2.setTop (mkF m 118 #[.val (.int p0), .val (.int p1), .val (.int p2), .val (.ref (w 0)), .val (.int (((p0 / (400 : Int32)) * (400 : Int32)) + ((p1 >>> ((1 : Int32) &&& 31)) % (400 : Int32)))), .val (.int (1 : Int32)), .val (.int (1 : Int32))] [])) _
    refine XS.aloadN X2.here hx rfl (hb hby at_118) rfl rfl ?_
    show Steps p.tables e below (T2.setTop (mkF m 119 #[.val (.int p0), .val (.int p1), .val (.int p2), .val (.ref (w 0)), .val (.int (((p0 / (400 : Int32)) * (400 : Int32)) + ((p1 >>> ((1 : Int32) &&& 31)) % (400 : Int32)))), .val (.int (1 : Int32)), .val (.int (1 : Int32))] [(.ref (w 0))])) _
    refine XS.iload X2.here hx rfl (hb hby at_119) rfl ?_
    show Steps p.tables e below (T2.setTop (mkF m 121 #[.val (.int p0), .val (.int p1), .val (.int p2), .val (.ref (w 0)), .val (.int (((p0 / (400 : Int32)) * (400 : Int32)) + ((p1 >>> ((1 : Int32) &&& 31)) % (400 : Int32)))), .val (.int (1 : Int32)), .val (.int (1 : Int32))] [(.int (((p0 / (400 : Int32)) * (400 : Int32)) + ((p1 >>> ((1 : Int32) &&& 31)) % (400 : Int32)))), (.ref (w 0))])) _
    refine st3.trans ?_
    show Steps p.tables e below (T3.setTop (mkF m 124 #[.val (.int p0), .val (.int p1), .val (.int p2), .val (.ref (w 0)), .val (.int (((p0 / (400 : Int32)) * (400 : Int32)) + ((p1 >>> ((1 : Int32) &&& 31)) % (400 : Int32)))), .val (.int (1 : Int32)), .val (.int (1 : Int32))] [(.int (1 : Int32))])) _
    refine XS.iload X3.here hx rfl (hb hby at_124) rfl ?_
    show Steps p.tables e below (T3.setTop (mkF m 126 #[.val (.int p0), .val (.int p1), .val (.int p2), .val (.ref (w 0)), .val (.int (((p0 / (400 : Int32)) * (400 : Int32)) + ((p1 >>> ((1 : Int32) &&& 31)) % (400 : Int32)))), .val (.int (1 : Int32)), .val (.int (1 : Int32))] [(.int (1 : Int32)), (.int (1 : Int32))])) _
    refine XS.icmpNo X3.here hx rfl (hb hby at_126) rfl (teq (by decide : (1 : Int32) = (1 : Int32))).2 ?_
    show Steps p.tables e below (T3.setTop (mkF m 129 #[.val (.int p0), .val (.int p1), .val (.int p2), .val (.ref (w 0)), .val (.int (((p0 / (400 : Int32)) * (400 : Int32)) + ((p1 >>> ((1 : Int32) &&& 31)) % (400 : Int32)))), .val (.int (1 : Int32)), .val (.int (1 : Int32))] [])) _
    refine XS.iconst X3.here hx rfl (hb hby at_129) ?_
    show Steps p.tables e below (T3.setTop (mkF m 130 #[.val (.int p0), .val (.int p1), .val (.int p2), .val (.ref (w 0)), .val (.int (((p0 / (400 : Int32)) * (400 : Int32)) + ((p1 >>> ((1 : Int32) &&& 31)) % (400 : Int32)))), .val (.int (1 : Int32)), .val (.int (1 : Int32))] [(.int (1 : Int32))])) _
    refine XS.goto X3.here hx rfl (pc0 := 130) (pc' := 134) rfl (hb hby at_130) (by decide) (by decide) ?_
    show Steps p.tables e below (T3.setTop (mkF m 134 #[.val (.int p0), .val (.int p1), .val (.int p2), .val (.ref (w 0)), .val (.int (((p0 / (400 : Int32)) * (400 : Int32)) + ((p1 >>> ((1 : Int32) &&& 31)) % (400 : Int32)))), .val (.int (1 : Int32)), .val (.int (1 : Int32))] [(.int (1 : Int32))])) _
    exact retN X3 hx (t := .boolean) Bd.returns (by simp) (hb hby at_134) hr
  · show OL (some (.int (1 : Int32))) Z.heap.size _ T3.heap _
    exact ⟨rfl, N3⟩
set_option maxRecDepth 65536 in
set_option maxHeartbeats 40000000 in
theorem law_6 (l : Launch) (Z : State) (a0 : Array Value) (hw : ∀ d ∈ tables_1, d.before a0 Z = true) (w : Nat → Addr) (kk : Nat → ClassId) (hN : Wd Z w kk) (ws : List Jvm.Cond) (p0 : Int32) (p1 : Int32) (p2 : Int32) (h0 : Heap) (O0 : Old Z Z.heap.size h0) (hp0 : (p2 &&& (1 : Int32)) = (0 : Int32)) (hp1 : (p1 &&& (1 : Int32)) = (1 : Int32)) (hp2 : ¬ (((((p0 / (400 : Int32)) * (400 : Int32)) + ((p1 >>> ((1 : Int32) &&& 31)) % (400 : Int32))) &&& (3 : Int32)) = (0 : Int32))) (hp3 : ¬ (((((p0 / (400 : Int32)) * (400 : Int32)) + ((p1 >>> ((1 : Int32) &&& 31)) % (400 : Int32))) % (4 : Int32)) = (0 : Int32))) :
    MetFree l x (head1 (Jvm.Cond.code x code maxLocals ret :: ws) room_1) (fun a U => a = #[(.int p0), (.int p1), (.int p2)] ∧ Z.Warmed39 U.vm ∧ U.heap = h0) (fun _ _ _ _ _ => True) (fun _ U o U' => ∃ v L, o = .returned v ∧ OL (some (.int (1 : Int32))) Z.heap.size v U'.heap L ∧ FrameEnd U o U' L 0 0) := by
  have hN' := hN
  obtain ⟨hS0, hE0, hS1, hE1, hF1_ordinal, hF0_ordinal⟩ := hN'
  refine MetFree.of_bodySF (plainFor_of_name pn_1) hisR ?_
  intro p e s m args below meth c s₁ Bd hml0 hP hK
  obtain ⟨rfl, hZ, hh⟩ := hP
  have hx := Bd.exec
  have hby := Bd.bytes
  have hml : c.maxLocals = 7 := hml0
  have hown : s.vm.findClass "com/example/kalendae/kalendae/calendar/CalendarRuleIsLeapYearPinLaw" = some m.cls := findClass_of_methodNamed Bd.named
  have hnm := (name_of_methodNamed Bd.named Bd.method).1
  have X0 : Stand p l e room_1 s m #[(.int p0), (.int p1), (.int p2)] below meth c s₁ [] 0 0 := Stand.of_body Bd
  have e0 : s₁.heap = h0 := by rw [← hh, Bd.state]; rfl
  have N0 := Fr.nil Z.heap.size
  have pre0 : ∀ t, Steps p.tables e below (s₁.setTop (mkF m 0 #[.val (.int p0), .val (.int p1), .val (.int p2), .unset, .unset, .unset, .unset] [])) t → Steps p.tables e below (s₁.setTop (entryFrame m #[(.int p0), (.int p1), (.int p2)] maxLocals)) t := fun t k => castTop (ef_1 m (.int p0) rfl (.int p1) rfl (.int p2) rfl) k
  obtain ⟨T1, X1, e1, st1⟩ := getS2 X0 hx hZ hown (host := "") (Or.inl (W hw 0 rfl)) Via.refl e0 (hS0.ext O0.2) (g := (mkF m 12 #[.val (.int p0), .val (.int p1), .val (.int p2), .unset, .unset, .unset, .unset] [])) rfl (hb hby at_12)
  obtain ⟨cq2, kq2, q2a, q2b, q2c⟩ := isOf hZ e1 (hE0.ext O0.2)
  obtain ⟨_, _, ⟨T2, L2, k2, n2⟩, -, X2, ⟨Lc2, hQ2, l2, y2, z2⟩, st2⟩ := X1.virtualBack hx (y := (⟨"com/example/kalendae/kalendae/calendar/CalendarRule", "isLeapYear", "(I)Z"⟩ : MethodName)) (z := (⟨"com/example/kalendae/kalendae/calendar/CalendarRule", "isLeapYear", "(I)Z"⟩ : MethodName)) hown (mvT hZ (W hw 3 rfl)) (mvT hZ (W hw 4 rfl)) (notFace_of_selects (args := #[]) (mvT hZ (W hw 6 rfl))) (mvT hZ (W hw 6 rfl)) (mvT hZ (W hw 5 rfl)) (by decide) (backOf (W := 0) (rm_3 l Z a0 hw w kk hN [] (((p0 / (400 : Int32)) * (400 : Int32)) + ((p1 >>> ((1 : Int32) &&& 31)) % (400 : Int32))) h0 O0 hp3) hZ (W hw 7 rfl) (W hw 1 rfl) (by decide) (by decide)) q2a q2c (g := (mkF m 121 #[.val (.int p0), .val (.int p1), .val (.int p2), .val (.ref (w 0)), .val (.int (((p0 / (400 : Int32)) * (400 : Int32)) + ((p1 >>> ((1 : Int32) &&& 31)) % (400 : Int32)))), .val (.int (0 : Int32)), .val (.int (0 : Int32))] [(.int (((p0 / (400 : Int32)) * (400 : Int32)) + ((p1 >>> ((1 : Int32) &&& 31)) % (400 : Int32)))), (.ref (w 0))])) rfl (by rw [hml]; rfl) (Steps.refl _) (argsL := [(.int (((p0 / (400 : Int32)) * (400 : Int32)) + ((p1 >>> ((1 : Int32) &&& 31)) % (400 : Int32))))]) (rest := []) (lenOf pd_0 rfl) rfl (by show 2 * 0 + _ ≤ _; exact Nat.le_of_eq rfl) (hb hby at_121) (fun _ _ => ⟨rfl, e1, (by decide : 0 + 0 ≤ _), (by decide : 0 + 0 ≤ _)⟩)
  dsimp only [Pt.U, Pt.locs, Pt.cells, Pt.slots] at X2 l2 y2 z2 st2 hQ2
  subst l2 y2 z2
  obtain ⟨rfl, N2q, e2⟩ := hQ2
  have N2 := Fr.app N0 N2q
  obtain ⟨fs, hr, hrun, hended, hW, hsame⟩ := X2.leave (v := some (.int (1 : Int32))) (fun h => by rw [Bd.returns] at h; cases h)
  refine ⟨_, _, pre0 _ ?_, hrun, hended, _, _, rfl, ?_, ⟨_, rfl⟩, hW, hsame.mono (by decide) (by decide)⟩
  · show Steps p.tables e below (s₁.setTop (mkF m 0 #[.val (.int p0), .val (.int p1), .val (.int p2), .unset, .unset, .unset, .unset] [])) _
    refine XS.iloadN X0.here hx rfl (hb hby at_0) rfl ?_
    show Steps p.tables e below (s₁.setTop (mkF m 1 #[.val (.int p0), .val (.int p1), .val (.int p2), .unset, .unset, .unset, .unset] [(.int p2)])) _
    refine XS.iconst X0.here hx rfl (hb hby at_1) ?_
    show Steps p.tables e below (s₁.setTop (mkF m 2 #[.val (.int p0), .val (.int p1), .val (.int p2), .unset, .unset, .unset, .unset] [(.int (1 : Int32)), (.int p2)])) _
    refine XS.iand X0.here hx rfl (hb hby at_2) rfl ?_
    show Steps p.tables e below (s₁.setTop (mkF m 3 #[.val (.int p0), .val (.int p1), .val (.int p2), .unset, .unset, .unset, .unset] [(.int (p2 &&& (1 : Int32)))])) _
    rw [hp0]
    show Steps p.tables e below (s₁.setTop (mkF m 3 #[.val (.int p0), .val (.int p1), .val (.int p2), .unset, .unset, .unset, .unset] [(.int (0 : Int32))])) _
    refine XS.ifYes X0.here hx rfl (pc0 := 3) (pc' := 12) rfl (hb hby at_3) rfl ((if0 _ _).trans (teq (by decide : (0 : Int32) = (0 : Int32))).1) (by decide) (by decide) ?_
    show Steps p.tables e below (s₁.setTop (mkF m 12 #[.val (.int p0), .val (.int p1), .val (.int p2), .unset, .unset, .unset, .unset] [])) _
    refine st1 _ ?_
    show Steps p.tables e below (T1.setTop (mkF m 15 #[.val (.int p0), .val (.int p1), .val (.int p2), .unset, .unset, .unset, .unset] [(.ref (w 0))])) _
    refine XS.astoreN X1.here hx rfl (hb hby at_15) rfl rfl (l' := #[.val (.int p0), .val (.int p1), .val (.int p2), .val (.ref (w 0)), .unset, .unset, .unset]) rfl ?_
    show Steps p.tables e below (T1.setTop (mkF m 16 #[.val (.int p0), .val (.int p1), .val (.int p2), .val (.ref (w 0)), .unset, .unset, .unset] [])) _
    refine XS.iloadN X1.here hx rfl (hb hby at_16) rfl ?_
    show Steps p.tables e below (T1.setTop (mkF m 17 #[.val (.int p0), .val (.int p1), .val (.int p2), .val (.ref (w 0)), .unset, .unset, .unset] [(.int p1)])) _
    refine XS.iconst X1.here hx rfl (hb hby at_17) ?_
    show Steps p.tables e below (T1.setTop (mkF m 18 #[.val (.int p0), .val (.int p1), .val (.int p2), .val (.ref (w 0)), .unset, .unset, .unset] [(.int (1 : Int32)), (.int p1)])) _
    refine XS.iand X1.here hx rfl (hb hby at_18) rfl ?_
    show Steps p.tables e below (T1.setTop (mkF m 19 #[.val (.int p0), .val (.int p1), .val (.int p2), .val (.ref (w 0)), .unset, .unset, .unset] [(.int (p1 &&& (1 : Int32)))])) _
    rw [hp1]
    show Steps p.tables e below (T1.setTop (mkF m 19 #[.val (.int p0), .val (.int p1), .val (.int p2), .val (.ref (w 0)), .unset, .unset, .unset] [(.int (1 : Int32))])) _
    refine XS.ifYes X1.here hx rfl (pc0 := 19) (pc' := 28) rfl (hb hby at_19) rfl ((if0 _ _).trans (feq (by decide : ¬ ((1 : Int32) = (0 : Int32)))).2) (by decide) (by decide) ?_
    show Steps p.tables e below (T1.setTop (mkF m 28 #[.val (.int p0), .val (.int p1), .val (.int p2), .val (.ref (w 0)), .unset, .unset, .unset] [])) _
    refine XS.iloadN X1.here hx rfl (hb hby at_28) rfl ?_
    show Steps p.tables e below (T1.setTop (mkF m 29 #[.val (.int p0), .val (.int p1), .val (.int p2), .val (.ref (w 0)), .unset, .unset, .unset] [(.int p1)])) _
    refine XS.iconst X1.here hx rfl (hb hby at_29) ?_
    show Steps p.tables e below (T1.setTop (mkF m 30 #[.val (.int p0), .val (.int p1), .val (.int p2), .val (.ref (w 0)), .unset, .unset, .unset] [(.int (1 : Int32)), (.int p1)])) _
    refine XS.ishr X1.here hx rfl (hb hby at_30) rfl ?_
    show Steps p.tables e below (T1.setTop (mkF m 31 #[.val (.int p0), .val (.int p1), .val (.int p2), .val (.ref (w 0)), .unset, .unset, .unset] [(.int (p1 >>> ((1 : Int32) &&& 31)))])) _
    refine XS.sipush X1.here hx rfl (hb hby at_31) ?_
    show Steps p.tables e below (T1.setTop (mkF m 34 #[.val (.int p0), .val (.int p1), .val (.int p2), .val (.ref (w 0)), .unset, .unset, .unset] [(.int (400 : Int32)), (.int (p1 >>> ((1 : Int32) &&& 31)))])) _
    refine iremM X1 hx rfl (hb hby at_34) rfl (by decide : ¬ ((400 : Int32) = (0 : Int32))) ?_
    show Steps p.tables e below (T1.setTop (mkF m 35 #[.val (.int p0), .val (.int p1), .val (.int p2), .val (.ref (w 0)), .unset, .unset, .unset] [(.int ((p1 >>> ((1 : Int32) &&& 31)) % (400 : Int32)))])) _
    refine XS.istore X1.here hx rfl (hb hby at_35) rfl (l' := #[.val (.int p0), .val (.int p1), .val (.int p2), .val (.ref (w 0)), .unset, .val (.int ((p1 >>> ((1 : Int32) &&& 31)) % (400 : Int32))), .unset]) rfl ?_
    show Steps p.tables e below (T1.setTop (mkF m 37 #[.val (.int p0), .val (.int p1), .val (.int p2), .val (.ref (w 0)), .unset, .val (.int ((p1 >>> ((1 : Int32) &&& 31)) % (400 : Int32))), .unset] [])) _
    refine XS.iloadN X1.here hx rfl (hb hby at_37) rfl ?_
    show Steps p.tables e below (T1.setTop (mkF m 38 #[.val (.int p0), .val (.int p1), .val (.int p2), .val (.ref (w 0)), .unset, .val (.int ((p1 >>> ((1 : Int32) &&& 31)) % (400 : Int32))), .unset] [(.int p0)])) _
    refine XS.sipush X1.here hx rfl (hb hby at_38) ?_
    show Steps p.tables e below (T1.setTop (mkF m 41 #[.val (.int p0), .val (.int p1), .val (.int p2), .val (.ref (w 0)), .unset, .val (.int ((p1 >>> ((1 : Int32) &&& 31)) % (400 : Int32))), .unset] [(.int (400 : Int32)), (.int p0)])) _
    refine XS.idiv X1.here hx rfl (hb hby at_41) rfl (by decide : ¬ ((400 : Int32) = (0 : Int32))) ?_
    show Steps p.tables e below (T1.setTop (mkF m 42 #[.val (.int p0), .val (.int p1), .val (.int p2), .val (.ref (w 0)), .unset, .val (.int ((p1 >>> ((1 : Int32) &&& 31)) % (400 : Int32))), .unset] [(.int (p0 / (400 : Int32)))])) _
    refine XS.sipush X1.here hx rfl (hb hby at_42) ?_
    show Steps p.tables e below (T1.setTop (mkF m 45 #[.val (.int p0), .val (.int p1), .val (.int p2), .val (.ref (w 0)), .unset, .val (.int ((p1 >>> ((1 : Int32) &&& 31)) % (400 : Int32))), .unset] [(.int (400 : Int32)), (.int (p0 / (400 : Int32)))])) _
    refine XS.imul X1.here hx rfl (hb hby at_45) rfl ?_
    show Steps p.tables e below (T1.setTop (mkF m 46 #[.val (.int p0), .val (.int p1), .val (.int p2), .val (.ref (w 0)), .unset, .val (.int ((p1 >>> ((1 : Int32) &&& 31)) % (400 : Int32))), .unset] [(.int ((p0 / (400 : Int32)) * (400 : Int32)))])) _
    refine XS.iload X1.here hx rfl (hb hby at_46) rfl ?_
    show Steps p.tables e below (T1.setTop (mkF m 48 #[.val (.int p0), .val (.int p1), .val (.int p2), .val (.ref (w 0)), .unset, .val (.int ((p1 >>> ((1 : Int32) &&& 31)) % (400 : Int32))), .unset] [(.int ((p1 >>> ((1 : Int32) &&& 31)) % (400 : Int32))), (.int ((p0 / (400 : Int32)) * (400 : Int32)))])) _
    refine XS.iadd X1.here hx rfl (hb hby at_48) rfl ?_
    show Steps p.tables e below (T1.setTop (mkF m 49 #[.val (.int p0), .val (.int p1), .val (.int p2), .val (.ref (w 0)), .unset, .val (.int ((p1 >>> ((1 : Int32) &&& 31)) % (400 : Int32))), .unset] [(.int (((p0 / (400 : Int32)) * (400 : Int32)) + ((p1 >>> ((1 : Int32) &&& 31)) % (400 : Int32))))])) _
    refine XS.istore X1.here hx rfl (hb hby at_49) rfl (l' := #[.val (.int p0), .val (.int p1), .val (.int p2), .val (.ref (w 0)), .val (.int (((p0 / (400 : Int32)) * (400 : Int32)) + ((p1 >>> ((1 : Int32) &&& 31)) % (400 : Int32)))), .val (.int ((p1 >>> ((1 : Int32) &&& 31)) % (400 : Int32))), .unset]) rfl ?_
    show Steps p.tables e below (T1.setTop (mkF m 51 #[.val (.int p0), .val (.int p1), .val (.int p2), .val (.ref (w 0)), .val (.int (((p0 / (400 : Int32)) * (400 : Int32)) + ((p1 >>> ((1 : Int32) &&& 31)) % (400 : Int32)))), .val (.int ((p1 >>> ((1 : Int32) &&& 31)) % (400 : Int32))), .unset] [])) _
    refine XS.iload X1.here hx rfl (hb hby at_51) rfl ?_
    show Steps p.tables e below (T1.setTop (mkF m 53 #[.val (.int p0), .val (.int p1), .val (.int p2), .val (.ref (w 0)), .val (.int (((p0 / (400 : Int32)) * (400 : Int32)) + ((p1 >>> ((1 : Int32) &&& 31)) % (400 : Int32)))), .val (.int ((p1 >>> ((1 : Int32) &&& 31)) % (400 : Int32))), .unset] [(.int (((p0 / (400 : Int32)) * (400 : Int32)) + ((p1 >>> ((1 : Int32) &&& 31)) % (400 : Int32))))])) _
    refine XS.iconst X1.here hx rfl (hb hby at_53) ?_
    show Steps p.tables e below (T1.setTop (mkF m 54 #[.val (.int p0), .val (.int p1), .val (.int p2), .val (.ref (w 0)), .val (.int (((p0 / (400 : Int32)) * (400 : Int32)) + ((p1 >>> ((1 : Int32) &&& 31)) % (400 : Int32)))), .val (.int ((p1 >>> ((1 : Int32) &&& 31)) % (400 : Int32))), .unset] [(.int (3 : Int32)), (.int (((p0 / (400 : Int32)) * (400 : Int32)) + ((p1 >>> ((1 : Int32) &&& 31)) % (400 : Int32))))])) _
    refine XS.iand X1.here hx rfl (hb hby at_54) rfl ?_
    show Steps p.tables e below (T1.setTop (mkF m 55 #[.val (.int p0), .val (.int p1), .val (.int p2), .val (.ref (w 0)), .val (.int (((p0 / (400 : Int32)) * (400 : Int32)) + ((p1 >>> ((1 : Int32) &&& 31)) % (400 : Int32)))), .val (.int ((p1 >>> ((1 : Int32) &&& 31)) % (400 : Int32))), .unset] [(.int ((((p0 / (400 : Int32)) * (400 : Int32)) + ((p1 >>> ((1 : Int32) &&& 31)) % (400 : Int32))) &&& (3 : Int32)))])) _
    refine XS.ifYes X1.here hx rfl (pc0 := 55) (pc' := 62) rfl (hb hby at_55) rfl ((if0 _ _).trans (feq hp2).2) (by decide) (by decide) ?_
    show Steps p.tables e below (T1.setTop (mkF m 62 #[.val (.int p0), .val (.int p1), .val (.int p2), .val (.ref (w 0)), .val (.int (((p0 / (400 : Int32)) * (400 : Int32)) + ((p1 >>> ((1 : Int32) &&& 31)) % (400 : Int32)))), .val (.int ((p1 >>> ((1 : Int32) &&& 31)) % (400 : Int32))), .unset] [])) _
    refine XS.iconst X1.here hx rfl (hb hby at_62) ?_
    show Steps p.tables e below (T1.setTop (mkF m 63 #[.val (.int p0), .val (.int p1), .val (.int p2), .val (.ref (w 0)), .val (.int (((p0 / (400 : Int32)) * (400 : Int32)) + ((p1 >>> ((1 : Int32) &&& 31)) % (400 : Int32)))), .val (.int ((p1 >>> ((1 : Int32) &&& 31)) % (400 : Int32))), .unset] [(.int (0 : Int32))])) _
    refine XS.istore X1.here hx rfl (hb hby at_63) rfl (l' := #[.val (.int p0), .val (.int p1), .val (.int p2), .val (.ref (w 0)), .val (.int (((p0 / (400 : Int32)) * (400 : Int32)) + ((p1 >>> ((1 : Int32) &&& 31)) % (400 : Int32)))), .val (.int ((p1 >>> ((1 : Int32) &&& 31)) % (400 : Int32))), .val (.int (0 : Int32))]) rfl ?_
    show Steps p.tables e below (T1.setTop (mkF m 65 #[.val (.int p0), .val (.int p1), .val (.int p2), .val (.ref (w 0)), .val (.int (((p0 / (400 : Int32)) * (400 : Int32)) + ((p1 >>> ((1 : Int32) &&& 31)) % (400 : Int32)))), .val (.int ((p1 >>> ((1 : Int32) &&& 31)) % (400 : Int32))), .val (.int (0 : Int32))] [])) _
    refine XS.iload X1.here hx rfl (hb hby at_65) rfl ?_
    show Steps p.tables e below (T1.setTop (mkF m 67 #[.val (.int p0), .val (.int p1), .val (.int p2), .val (.ref (w 0)), .val (.int (((p0 / (400 : Int32)) * (400 : Int32)) + ((p1 >>> ((1 : Int32) &&& 31)) % (400 : Int32)))), .val (.int ((p1 >>> ((1 : Int32) &&& 31)) % (400 : Int32))), .val (.int (0 : Int32))] [(.int (0 : Int32))])) _
    refine XS.ifNo X1.here hx rfl (hb hby at_67) rfl ((if0 _ _).trans (teq (by decide : (0 : Int32) = (0 : Int32))).2) ?_
    show Steps p.tables e below (T1.setTop (mkF m 70 #[.val (.int p0), .val (.int p1), .val (.int p2), .val (.ref (w 0)), .val (.int (((p0 / (400 : Int32)) * (400 : Int32)) + ((p1 >>> ((1 : Int32) &&& 31)) % (400 : Int32)))), .val (.int ((p1 >>> ((1 : Int32) &&& 31)) % (400 : Int32))), .val (.int (0 : Int32))] [])) _
    refine XS.iconst X1.here hx rfl (hb hby at_70) ?_
    show Steps p.tables e below (T1.setTop (mkF m 71 #[.val (.int p0), .val (.int p1), .val (.int p2), .val (.ref (w 0)), .val (.int (((p0 / (400 : Int32)) * (400 : Int32)) + ((p1 >>> ((1 : Int32) &&& 31)) % (400 : Int32)))), .val (.int ((p1 >>> ((1 : Int32) &&& 31)) % (400 : Int32))), .val (.int (0 : Int32))] [(.int (0 : Int32))])) _
    refine XS.istore X1.here hx rfl (hb hby at_71) rfl (l' := #[.val (.int p0), .val (.int p1), .val (.int p2), .val (.ref (w 0)), .val (.int (((p0 / (400 : Int32)) * (400 : Int32)) + ((p1 >>> ((1 : Int32) &&& 31)) % (400 : Int32)))), .val (.int (0 : Int32)), .val (.int (0 : Int32))]) rfl ?_
    show Steps p.tables e below (T1.setTop (mkF m 73 #[.val (.int p0), .val (.int p1), .val (.int p2), .val (.ref (w 0)), .val (.int (((p0 / (400 : Int32)) * (400 : Int32)) + ((p1 >>> ((1 : Int32) &&& 31)) % (400 : Int32)))), .val (.int (0 : Int32)), .val (.int (0 : Int32))] [])) _
    refine XS.goto X1.here hx rfl (pc0 := 73) (pc' := 118) rfl (hb hby at_73) (by decide) (by decide) ?_
    show Steps p.tables e below (T1.setTop (mkF m 118 #[.val (.int p0), .val (.int p1), .val (.int p2), .val (.ref (w 0)), .val (.int (((p0 / (400 : Int32)) * (400 : Int32)) + ((p1 >>> ((1 : Int32) &&& 31)) % (400 : Int32)))), .val (.int (0 : Int32)), .val (.int (0 : Int32))] [])) _
    refine XS.aloadN X1.here hx rfl (hb hby at_118) rfl rfl ?_
    show Steps p.tables e below (T1.setTop (mkF m 119 #[.val (.int p0), .val (.int p1), .val (.int p2), .val (.ref (w 0)), .val (.int (((p0 / (400 : Int32)) * (400 : Int32)) + ((p1 >>> ((1 : Int32) &&& 31)) % (400 : Int32)))), .val (.int (0 : Int32)), .val (.int (0 : Int32))] [(.ref (w 0))])) _
    refine XS.iload X1.here hx rfl (hb hby at_119) rfl ?_
    show Steps p.tables e below (T1.setTop (mkF m 121 #[.val (.int p0), .val (.int p1), .val (.int p2), .val (.ref (w 0)), .val (.int (((p0 / (400 : Int32)) * (400 : Int32)) + ((p1 >>> ((1 : Int32) &&& 31)) % (400 : Int32)))), .val (.int (0 : Int32)), .val (.int (0 : Int32))] [(.int (((p0 / (400 : Int32)) * (400 : Int32)) + ((p1 >>> ((1 : Int32) &&& 31)) % (400 : Int32)))), (.ref (w 0))])) _
    refine st2.trans ?_
    show Steps p.tables e below (T2.setTop (mkF m 124 #[.val (.int p0), .val (.int p1), .val (.int p2), .val (.ref (w 0)), .val (.int (((p0 / (400 : Int32)) * (400 : Int32)) + ((p1 >>> ((1 : Int32) &&& 31)) % (400 : Int32)))), .val (.int (0 : Int32)), .val (.int (0 : Int32))] [(.int (0 : Int32))])) _
    refine XS.iload X2.here hx rfl (hb hby at_124) rfl ?_
    show Steps p.tables e below (T2.setTop (mkF m 126 #[.val (.int p0), .val (.int p1), .val (.int p2), .val (.ref (w 0)), .val (.int (((p0 / (400 : Int32)) * (400 : Int32)) + ((p1 >>> ((1 : Int32) &&& 31)) % (400 : Int32)))), .val (.int (0 : Int32)), .val (.int (0 : Int32))] [(.int (0 : Int32)), (.int (0 : Int32))])) _
    refine XS.icmpNo X2.here hx rfl (hb hby at_126) rfl (teq (by decide : (0 : Int32) = (0 : Int32))).2 ?_
    show Steps p.tables e below (T2.setTop (mkF m 129 #[.val (.int p0), .val (.int p1), .val (.int p2), .val (.ref (w 0)), .val (.int (((p0 / (400 : Int32)) * (400 : Int32)) + ((p1 >>> ((1 : Int32) &&& 31)) % (400 : Int32)))), .val (.int (0 : Int32)), .val (.int (0 : Int32))] [])) _
    refine XS.iconst X2.here hx rfl (hb hby at_129) ?_
    show Steps p.tables e below (T2.setTop (mkF m 130 #[.val (.int p0), .val (.int p1), .val (.int p2), .val (.ref (w 0)), .val (.int (((p0 / (400 : Int32)) * (400 : Int32)) + ((p1 >>> ((1 : Int32) &&& 31)) % (400 : Int32)))), .val (.int (0 : Int32)), .val (.int (0 : Int32))] [(.int (1 : Int32))])) _
    refine XS.goto X2.here hx rfl (pc0 := 130) (pc' := 134) rfl (hb hby at_130) (by decide) (by decide) ?_
    show Steps p.tables e below (T2.setTop (mkF m 134 #[.val (.int p0), .val (.int p1), .val (.int p2), .val (.ref (w 0)), .val (.int (((p0 / (400 : Int32)) * (400 : Int32)) + ((p1 >>> ((1 : Int32) &&& 31)) % (400 : Int32)))), .val (.int (0 : Int32)), .val (.int (0 : Int32))] [(.int (1 : Int32))])) _
    exact retN X2 hx (t := .boolean) Bd.returns (by simp) (hb hby at_134) hr
  · show OL (some (.int (1 : Int32))) Z.heap.size _ T2.heap _
    exact ⟨rfl, N2⟩
theorem d_prog_15_method_4_code_13 : decode prog_15_method_4_code 13 = .ok (.iload_n 1, 1) := by decide +kernel
theorem d_prog_15_method_4_code_14 : decode prog_15_method_4_code 14 = .ok (.bipush 100, 2) := by decide +kernel
theorem d_prog_15_method_4_code_16 : decode prog_15_method_4_code 16 = .ok (.irem, 1) := by decide +kernel
theorem d_prog_15_method_4_code_17 : decode prog_15_method_4_code 17 = .ok (.ifCond .ne 11, 3) := by decide +kernel
theorem d_prog_15_method_4_code_20 : decode prog_15_method_4_code 20 = .ok (.iload_n 1, 1) := by decide +kernel
theorem d_prog_15_method_4_code_21 : decode prog_15_method_4_code 21 = .ok (.sipush 400, 3) := by decide +kernel
theorem d_prog_15_method_4_code_24 : decode prog_15_method_4_code 24 = .ok (.irem, 1) := by decide +kernel
theorem d_prog_15_method_4_code_25 : decode prog_15_method_4_code 25 = .ok (.ifCond .ne 7, 3) := by decide +kernel
set_option maxRecDepth 65536 in
set_option maxHeartbeats 40000000 in
theorem rm_7 (l : Launch) (Z : State) (a0 : Array Value) (hw : ∀ d ∈ tables_1, d.before a0 Z = true) (w : Nat → Addr) (kk : Nat → ClassId) (hN : Wd Z w kk) (ws : List Jvm.Cond) (p1 : Int32) (h0 : Heap) (O0 : Old Z Z.heap.size h0) (hp0 : (p1 % (4 : Int32)) = (0 : Int32)) (hp1 : (p1 % (100 : Int32)) = (0 : Int32)) (hp2 : (p1 % (400 : Int32)) = (0 : Int32)) :
    MetFree l (⟨"com/example/kalendae/kalendae/calendar/CalendarRule", "isLeapYear", "(I)Z"⟩ : MethodName) (head1 (Jvm.Cond.code (⟨"com/example/kalendae/kalendae/calendar/CalendarRule", "isLeapYear", "(I)Z"⟩ : MethodName) prog_15_method_4_code 2 (some .boolean) :: ws) ({ frames := 0, cells := 0, slots := 0, locals := 0 } : Room)) (fun a U => a = #[(.ref (w 1)), (.int p1)] ∧ Z.Warmed39 U.vm ∧ U.heap = h0) (fun _ _ _ _ _ => True) (fun _ U o U' => ∃ v L, o = .returned v ∧ OQ (some (.int (1 : Int32))) h0 Z.heap.size v U'.heap L ∧ FrameEnd U o U' L ({ frames := 0, cells := 0, slots := 0, locals := 0 } : Room).cells ({ frames := 0, cells := 0, slots := 0, locals := 0 } : Room).slots) := by
  have hN' := hN
  obtain ⟨hS0, hE0, hS1, hE1, hF1_ordinal, hF0_ordinal⟩ := hN'
  refine MetFree.of_bodySF (plainFor_of_name pn_0) hisR ?_
  intro p e s m args below meth c s₁ Bd hml0 hP hK
  obtain ⟨rfl, hZ, hh⟩ := hP
  have hx := Bd.exec
  have hby := Bd.bytes
  have hml : c.maxLocals = 2 := hml0
  have hown : s.vm.findClass "com/example/kalendae/kalendae/calendar/CalendarRule" = some m.cls := findClass_of_methodNamed Bd.named
  have hnm := (name_of_methodNamed Bd.named Bd.method).1
  have X0 : Stand p l e ({ frames := 0, cells := 0, slots := 0, locals := 0 } : Room) s m #[(.ref (w 1)), (.int p1)] below meth c s₁ [] 0 0 := Stand.of_body Bd
  have e0 : s₁.heap = h0 := by rw [← hh, Bd.state]; rfl
  have N0 := Fr.nil Z.heap.size
  have pre0 : ∀ t, Steps p.tables e below (s₁.setTop (mkF m 0 #[.val (.ref (w 1)), .val (.int p1)] [])) t → Steps p.tables e below (s₁.setTop (entryFrame m #[(.ref (w 1)), (.int p1)] 2)) t := fun t k => castTop (ef_0 m (.ref (w 1)) rfl (.int p1) rfl) k
  obtain ⟨T1, X1, e1, st1⟩ := getS2 X0 hx hZ hown (host := "") (Or.inl (W hw 10 rfl)) Via.refl e0 (hS0.ext O0.2) (g := (mkF m 7 #[.val (.ref (w 1)), .val (.int p1)] [(.ref (w 1))])) rfl (hb hby d_prog_15_method_4_code_7)
  obtain ⟨fs, hr, hrun, hended, hW, hsame⟩ := X1.leave (v := some (.int (1 : Int32))) (fun h => by rw [Bd.returns] at h; cases h)
  refine ⟨_, _, pre0 _ ?_, hrun, hended, _, _, rfl, ?_, ⟨_, rfl⟩, hW, hsame.mono (by decide) (by decide)⟩
  · show Steps p.tables e below (s₁.setTop (mkF m 0 #[.val (.ref (w 1)), .val (.int p1)] [])) _
    refine XS.iloadN X0.here hx rfl (hb hby d_prog_15_method_4_code_0) rfl ?_
    show Steps p.tables e below (s₁.setTop (mkF m 1 #[.val (.ref (w 1)), .val (.int p1)] [(.int p1)])) _
    refine XS.iconst X0.here hx rfl (hb hby d_prog_15_method_4_code_1) ?_
    show Steps p.tables e below (s₁.setTop (mkF m 2 #[.val (.ref (w 1)), .val (.int p1)] [(.int (4 : Int32)), (.int p1)])) _
    refine iremM X0 hx rfl (hb hby d_prog_15_method_4_code_2) rfl (by decide : ¬ ((4 : Int32) = (0 : Int32))) ?_
    show Steps p.tables e below (s₁.setTop (mkF m 3 #[.val (.ref (w 1)), .val (.int p1)] [(.int (p1 % (4 : Int32)))])) _
    refine XS.ifNo X0.here hx rfl (hb hby d_prog_15_method_4_code_3) rfl ((if0 _ _).trans (teq hp0).2) ?_
    show Steps p.tables e below (s₁.setTop (mkF m 6 #[.val (.ref (w 1)), .val (.int p1)] [])) _
    refine XS.aloadN X0.here hx rfl (hb hby d_prog_15_method_4_code_6) rfl rfl ?_
    show Steps p.tables e below (s₁.setTop (mkF m 7 #[.val (.ref (w 1)), .val (.int p1)] [(.ref (w 1))])) _
    refine st1 _ ?_
    show Steps p.tables e below (T1.setTop (mkF m 10 #[.val (.ref (w 1)), .val (.int p1)] [(.ref (w 0)), (.ref (w 1))])) _
    refine Jvm.RoadKit.acmp (g := (mkF m 10 #[.val (.ref (w 1)), .val (.int p1)] [(.ref (w 0)), (.ref (w 1))])) X1 hx rfl rfl rfl (pc0 := 10) (pc' := 13) (same := false) rfl (hb hby d_prog_15_method_4_code_10) rfl (decide_eq_false fun q => (Fld.ne hF1_ordinal hF0_ordinal (by decide)) (Value.ref.inj q)) (by decide) (by decide) ?_
    show Steps p.tables e below (T1.setTop (mkF m 13 #[.val (.ref (w 1)), .val (.int p1)] [])) _
    refine XS.iloadN X1.here hx rfl (hb hby d_prog_15_method_4_code_13) rfl ?_
    show Steps p.tables e below (T1.setTop (mkF m 14 #[.val (.ref (w 1)), .val (.int p1)] [(.int p1)])) _
    refine XS.bipush X1.here hx rfl (hb hby d_prog_15_method_4_code_14) ?_
    show Steps p.tables e below (T1.setTop (mkF m 16 #[.val (.ref (w 1)), .val (.int p1)] [(.int (100 : Int32)), (.int p1)])) _
    refine iremM X1 hx rfl (hb hby d_prog_15_method_4_code_16) rfl (by decide : ¬ ((100 : Int32) = (0 : Int32))) ?_
    show Steps p.tables e below (T1.setTop (mkF m 17 #[.val (.ref (w 1)), .val (.int p1)] [(.int (p1 % (100 : Int32)))])) _
    refine XS.ifNo X1.here hx rfl (hb hby d_prog_15_method_4_code_17) rfl ((if0 _ _).trans (teq hp1).2) ?_
    show Steps p.tables e below (T1.setTop (mkF m 20 #[.val (.ref (w 1)), .val (.int p1)] [])) _
    refine XS.iloadN X1.here hx rfl (hb hby d_prog_15_method_4_code_20) rfl ?_
    show Steps p.tables e below (T1.setTop (mkF m 21 #[.val (.ref (w 1)), .val (.int p1)] [(.int p1)])) _
    refine XS.sipush X1.here hx rfl (hb hby d_prog_15_method_4_code_21) ?_
    show Steps p.tables e below (T1.setTop (mkF m 24 #[.val (.ref (w 1)), .val (.int p1)] [(.int (400 : Int32)), (.int p1)])) _
    refine iremM X1 hx rfl (hb hby d_prog_15_method_4_code_24) rfl (by decide : ¬ ((400 : Int32) = (0 : Int32))) ?_
    show Steps p.tables e below (T1.setTop (mkF m 25 #[.val (.ref (w 1)), .val (.int p1)] [(.int (p1 % (400 : Int32)))])) _
    refine XS.ifNo X1.here hx rfl (hb hby d_prog_15_method_4_code_25) rfl ((if0 _ _).trans (teq hp2).2) ?_
    show Steps p.tables e below (T1.setTop (mkF m 28 #[.val (.ref (w 1)), .val (.int p1)] [])) _
    refine XS.iconst X1.here hx rfl (hb hby d_prog_15_method_4_code_28) ?_
    show Steps p.tables e below (T1.setTop (mkF m 29 #[.val (.ref (w 1)), .val (.int p1)] [(.int (1 : Int32))])) _
    refine XS.goto X1.here hx rfl (pc0 := 29) (pc' := 33) rfl (hb hby d_prog_15_method_4_code_29) (by decide) (by decide) ?_
    show Steps p.tables e below (T1.setTop (mkF m 33 #[.val (.ref (w 1)), .val (.int p1)] [(.int (1 : Int32))])) _
    exact retN X1 hx (t := .boolean) Bd.returns (by simp) (hb hby d_prog_15_method_4_code_33) hr
  · show OQ (some (.int (1 : Int32))) h0 Z.heap.size _ T1.heap _
    rw [e1]
    exact ⟨rfl, N0, rfl⟩
set_option maxRecDepth 65536 in
set_option maxHeartbeats 40000000 in
theorem law_8 (l : Launch) (Z : State) (a0 : Array Value) (hw : ∀ d ∈ tables_1, d.before a0 Z = true) (w : Nat → Addr) (kk : Nat → ClassId) (hN : Wd Z w kk) (ws : List Jvm.Cond) (p0 : Int32) (p1 : Int32) (p2 : Int32) (h0 : Heap) (O0 : Old Z Z.heap.size h0) (hp0 : (p2 &&& (1 : Int32)) = (1 : Int32)) (hp1 : (p1 &&& (1 : Int32)) = (0 : Int32)) (hp2 : (p0 &&& (3 : Int32)) = (0 : Int32)) (hp3 : (p0 % (25 : Int32)) = (0 : Int32)) (hp4 : (p0 &&& (15 : Int32)) = (0 : Int32)) (hp5 : (p0 % (4 : Int32)) = (0 : Int32)) (hp6 : (p0 % (100 : Int32)) = (0 : Int32)) (hp7 : (p0 % (400 : Int32)) = (0 : Int32)) :
    MetFree l x (head1 (Jvm.Cond.code x code maxLocals ret :: ws) room_1) (fun a U => a = #[(.int p0), (.int p1), (.int p2)] ∧ Z.Warmed39 U.vm ∧ U.heap = h0) (fun _ _ _ _ _ => True) (fun _ U o U' => ∃ v L, o = .returned v ∧ OL (some (.int (1 : Int32))) Z.heap.size v U'.heap L ∧ FrameEnd U o U' L 0 0) := by
  have hN' := hN
  obtain ⟨hS0, hE0, hS1, hE1, hF1_ordinal, hF0_ordinal⟩ := hN'
  refine MetFree.of_bodySF (plainFor_of_name pn_1) hisR ?_
  intro p e s m args below meth c s₁ Bd hml0 hP hK
  obtain ⟨rfl, hZ, hh⟩ := hP
  have hx := Bd.exec
  have hby := Bd.bytes
  have hml : c.maxLocals = 7 := hml0
  have hown : s.vm.findClass "com/example/kalendae/kalendae/calendar/CalendarRuleIsLeapYearPinLaw" = some m.cls := findClass_of_methodNamed Bd.named
  have hnm := (name_of_methodNamed Bd.named Bd.method).1
  have X0 : Stand p l e room_1 s m #[(.int p0), (.int p1), (.int p2)] below meth c s₁ [] 0 0 := Stand.of_body Bd
  have e0 : s₁.heap = h0 := by rw [← hh, Bd.state]; rfl
  have N0 := Fr.nil Z.heap.size
  have pre0 : ∀ t, Steps p.tables e below (s₁.setTop (mkF m 0 #[.val (.int p0), .val (.int p1), .val (.int p2), .unset, .unset, .unset, .unset] [])) t → Steps p.tables e below (s₁.setTop (entryFrame m #[(.int p0), (.int p1), (.int p2)] maxLocals)) t := fun t k => castTop (ef_1 m (.int p0) rfl (.int p1) rfl (.int p2) rfl) k
  obtain ⟨T1, X1, e1, st1⟩ := getS2 X0 hx hZ hown (host := "") (Or.inl (W hw 8 rfl)) Via.refl e0 (hS1.ext O0.2) (g := (mkF m 6 #[.val (.int p0), .val (.int p1), .val (.int p2), .unset, .unset, .unset, .unset] [])) rfl (hb hby at_6)
  obtain ⟨T2, X2, e2, st2⟩ := getS2 X1 hx hZ hown (host := "") (Or.inl (W hw 0 rfl)) Via.refl e1 (hS0.ext O0.2) (g := (mkF m 77 #[.val (.int p0), .val (.int p1), .val (.int p2), .val (.ref (w 1)), .val (.int p0), .unset, .val (.int (1 : Int32))] [(.ref (w 1))])) rfl (hb hby at_77)
  obtain ⟨cq3, kq3, q3a, q3b, q3c⟩ := isOf hZ e2 (hE1.ext O0.2)
  obtain ⟨_, _, ⟨T3, L3, k3, n3⟩, -, X3, ⟨Lc3, hQ3, l3, y3, z3⟩, st3⟩ := X2.virtualBack hx (y := (⟨"com/example/kalendae/kalendae/calendar/CalendarRule", "isLeapYear", "(I)Z"⟩ : MethodName)) (z := (⟨"com/example/kalendae/kalendae/calendar/CalendarRule", "isLeapYear", "(I)Z"⟩ : MethodName)) hown (mvT hZ (W hw 3 rfl)) (mvT hZ (W hw 4 rfl)) (notFace_of_selects (args := #[]) (mvT hZ (W hw 6 rfl))) (mvT hZ (W hw 6 rfl)) (mvT hZ (W hw 5 rfl)) (by decide) (backOf (W := 0) (rm_7 l Z a0 hw w kk hN [] p0 h0 O0 hp5 hp6 hp7) hZ (W hw 7 rfl) (W hw 1 rfl) (by decide) (by decide)) q3a q3c (g := (mkF m 121 #[.val (.int p0), .val (.int p1), .val (.int p2), .val (.ref (w 1)), .val (.int p0), .val (.int (1 : Int32)), .val (.int (1 : Int32))] [(.int p0), (.ref (w 1))])) rfl (by rw [hml]; rfl) (Steps.refl _) (argsL := [(.int p0)]) (rest := []) (lenOf pd_0 rfl) rfl (by show 2 * 0 + _ ≤ _; exact Nat.le_of_eq rfl) (hb hby at_121) (fun _ _ => ⟨rfl, e2, (by decide : 0 + 0 ≤ _), (by decide : 0 + 0 ≤ _)⟩)
  dsimp only [Pt.U, Pt.locs, Pt.cells, Pt.slots] at X3 l3 y3 z3 st3 hQ3
  subst l3 y3 z3
  obtain ⟨rfl, N3q, e3⟩ := hQ3
  have N3 := Fr.app N0 N3q
  obtain ⟨fs, hr, hrun, hended, hW, hsame⟩ := X3.leave (v := some (.int (1 : Int32))) (fun h => by rw [Bd.returns] at h; cases h)
  refine ⟨_, _, pre0 _ ?_, hrun, hended, _, _, rfl, ?_, ⟨_, rfl⟩, hW, hsame.mono (by decide) (by decide)⟩
  · show Steps p.tables e below (s₁.setTop (mkF m 0 #[.val (.int p0), .val (.int p1), .val (.int p2), .unset, .unset, .unset, .unset] [])) _
    refine XS.iloadN X0.here hx rfl (hb hby at_0) rfl ?_
    show Steps p.tables e below (s₁.setTop (mkF m 1 #[.val (.int p0), .val (.int p1), .val (.int p2), .unset, .unset, .unset, .unset] [(.int p2)])) _
    refine XS.iconst X0.here hx rfl (hb hby at_1) ?_
    show Steps p.tables e below (s₁.setTop (mkF m 2 #[.val (.int p0), .val (.int p1), .val (.int p2), .unset, .unset, .unset, .unset] [(.int (1 : Int32)), (.int p2)])) _
    refine XS.iand X0.here hx rfl (hb hby at_2) rfl ?_
    show Steps p.tables e below (s₁.setTop (mkF m 3 #[.val (.int p0), .val (.int p1), .val (.int p2), .unset, .unset, .unset, .unset] [(.int (p2 &&& (1 : Int32)))])) _
    rw [hp0]
    show Steps p.tables e below (s₁.setTop (mkF m 3 #[.val (.int p0), .val (.int p1), .val (.int p2), .unset, .unset, .unset, .unset] [(.int (1 : Int32))])) _
    refine XS.ifNo X0.here hx rfl (hb hby at_3) rfl ((if0 _ _).trans (feq (by decide : ¬ ((1 : Int32) = (0 : Int32)))).1) ?_
    show Steps p.tables e below (s₁.setTop (mkF m 6 #[.val (.int p0), .val (.int p1), .val (.int p2), .unset, .unset, .unset, .unset] [])) _
    refine st1 _ ?_
    show Steps p.tables e below (T1.setTop (mkF m 9 #[.val (.int p0), .val (.int p1), .val (.int p2), .unset, .unset, .unset, .unset] [(.ref (w 1))])) _
    refine XS.goto X1.here hx rfl (pc0 := 9) (pc' := 15) rfl (hb hby at_9) (by decide) (by decide) ?_
    show Steps p.tables e below (T1.setTop (mkF m 15 #[.val (.int p0), .val (.int p1), .val (.int p2), .unset, .unset, .unset, .unset] [(.ref (w 1))])) _
    refine XS.astoreN X1.here hx rfl (hb hby at_15) rfl rfl (l' := #[.val (.int p0), .val (.int p1), .val (.int p2), .val (.ref (w 1)), .unset, .unset, .unset]) rfl ?_
    show Steps p.tables e below (T1.setTop (mkF m 16 #[.val (.int p0), .val (.int p1), .val (.int p2), .val (.ref (w 1)), .unset, .unset, .unset] [])) _
    refine XS.iloadN X1.here hx rfl (hb hby at_16) rfl ?_
    show Steps p.tables e below (T1.setTop (mkF m 17 #[.val (.int p0), .val (.int p1), .val (.int p2), .val (.ref (w 1)), .unset, .unset, .unset] [(.int p1)])) _
    refine XS.iconst X1.here hx rfl (hb hby at_17) ?_
    show Steps p.tables e below (T1.setTop (mkF m 18 #[.val (.int p0), .val (.int p1), .val (.int p2), .val (.ref (w 1)), .unset, .unset, .unset] [(.int (1 : Int32)), (.int p1)])) _
    refine XS.iand X1.here hx rfl (hb hby at_18) rfl ?_
    show Steps p.tables e below (T1.setTop (mkF m 19 #[.val (.int p0), .val (.int p1), .val (.int p2), .val (.ref (w 1)), .unset, .unset, .unset] [(.int (p1 &&& (1 : Int32)))])) _
    rw [hp1]
    show Steps p.tables e below (T1.setTop (mkF m 19 #[.val (.int p0), .val (.int p1), .val (.int p2), .val (.ref (w 1)), .unset, .unset, .unset] [(.int (0 : Int32))])) _
    refine XS.ifNo X1.here hx rfl (hb hby at_19) rfl ((if0 _ _).trans (teq (by decide : (0 : Int32) = (0 : Int32))).2) ?_
    show Steps p.tables e below (T1.setTop (mkF m 22 #[.val (.int p0), .val (.int p1), .val (.int p2), .val (.ref (w 1)), .unset, .unset, .unset] [])) _
    refine XS.iloadN X1.here hx rfl (hb hby at_22) rfl ?_
    show Steps p.tables e below (T1.setTop (mkF m 23 #[.val (.int p0), .val (.int p1), .val (.int p2), .val (.ref (w 1)), .unset, .unset, .unset] [(.int p0)])) _
    refine XS.istore X1.here hx rfl (hb hby at_23) rfl (l' := #[.val (.int p0), .val (.int p1), .val (.int p2), .val (.ref (w 1)), .val (.int p0), .unset, .unset]) rfl ?_
    show Steps p.tables e below (T1.setTop (mkF m 25 #[.val (.int p0), .val (.int p1), .val (.int p2), .val (.ref (w 1)), .val (.int p0), .unset, .unset] [])) _
    refine XS.goto X1.here hx rfl (pc0 := 25) (pc' := 51) rfl (hb hby at_25) (by decide) (by decide) ?_
    show Steps p.tables e below (T1.setTop (mkF m 51 #[.val (.int p0), .val (.int p1), .val (.int p2), .val (.ref (w 1)), .val (.int p0), .unset, .unset] [])) _
    refine XS.iload X1.here hx rfl (hb hby at_51) rfl ?_
    show Steps p.tables e below (T1.setTop (mkF m 53 #[.val (.int p0), .val (.int p1), .val (.int p2), .val (.ref (w 1)), .val (.int p0), .unset, .unset] [(.int p0)])) _
    refine XS.iconst X1.here hx rfl (hb hby at_53) ?_
    show Steps p.tables e below (T1.setTop (mkF m 54 #[.val (.int p0), .val (.int p1), .val (.int p2), .val (.ref (w 1)), .val (.int p0), .unset, .unset] [(.int (3 : Int32)), (.int p0)])) _
    refine XS.iand X1.here hx rfl (hb hby at_54) rfl ?_
    show Steps p.tables e below (T1.setTop (mkF m 55 #[.val (.int p0), .val (.int p1), .val (.int p2), .val (.ref (w 1)), .val (.int p0), .unset, .unset] [(.int (p0 &&& (3 : Int32)))])) _
    refine XS.ifNo X1.here hx rfl (hb hby at_55) rfl ((if0 _ _).trans (teq hp2).2) ?_
    show Steps p.tables e below (T1.setTop (mkF m 58 #[.val (.int p0), .val (.int p1), .val (.int p2), .val (.ref (w 1)), .val (.int p0), .unset, .unset] [])) _
    refine XS.iconst X1.here hx rfl (hb hby at_58) ?_
    show Steps p.tables e below (T1.setTop (mkF m 59 #[.val (.int p0), .val (.int p1), .val (.int p2), .val (.ref (w 1)), .val (.int p0), .unset, .unset] [(.int (1 : Int32))])) _
    refine XS.goto X1.here hx rfl (pc0 := 59) (pc' := 63) rfl (hb hby at_59) (by decide) (by decide) ?_
    show Steps p.tables e below (T1.setTop (mkF m 63 #[.val (.int p0), .val (.int p1), .val (.int p2), .val (.ref (w 1)), .val (.int p0), .unset, .unset] [(.int (1 : Int32))])) _
    refine XS.istore X1.here hx rfl (hb hby at_63) rfl (l' := #[.val (.int p0), .val (.int p1), .val (.int p2), .val (.ref (w 1)), .val (.int p0), .unset, .val (.int (1 : Int32))]) rfl ?_
    show Steps p.tables e below (T1.setTop (mkF m 65 #[.val (.int p0), .val (.int p1), .val (.int p2), .val (.ref (w 1)), .val (.int p0), .unset, .val (.int (1 : Int32))] [])) _
    refine XS.iload X1.here hx rfl (hb hby at_65) rfl ?_
    show Steps p.tables e below (T1.setTop (mkF m 67 #[.val (.int p0), .val (.int p1), .val (.int p2), .val (.ref (w 1)), .val (.int p0), .unset, .val (.int (1 : Int32))] [(.int (1 : Int32))])) _
    refine XS.ifYes X1.here hx rfl (pc0 := 67) (pc' := 76) rfl (hb hby at_67) rfl ((if0 _ _).trans (feq (by decide : ¬ ((1 : Int32) = (0 : Int32)))).2) (by decide) (by decide) ?_
    show Steps p.tables e below (T1.setTop (mkF m 76 #[.val (.int p0), .val (.int p1), .val (.int p2), .val (.ref (w 1)), .val (.int p0), .unset, .val (.int (1 : Int32))] [])) _
    refine XS.aloadN X1.here hx rfl (hb hby at_76) rfl rfl ?_
    show Steps p.tables e below (T1.setTop (mkF m 77 #[.val (.int p0), .val (.int p1), .val (.int p2), .val (.ref (w 1)), .val (.int p0), .unset, .val (.int (1 : Int32))] [(.ref (w 1))])) _
    refine st2 _ ?_
    show Steps p.tables e below (T2.setTop (mkF m 80 #[.val (.int p0), .val (.int p1), .val (.int p2), .val (.ref (w 1)), .val (.int p0), .unset, .val (.int (1 : Int32))] [(.ref (w 0)), (.ref (w 1))])) _
    refine Jvm.RoadKit.acmp (g := (mkF m 80 #[.val (.int p0), .val (.int p1), .val (.int p2), .val (.ref (w 1)), .val (.int p0), .unset, .val (.int (1 : Int32))] [(.ref (w 0)), (.ref (w 1))])) X2 hx rfl rfl rfl (pc0 := 80) (pc' := 89) (same := false) rfl (hb hby at_80) rfl (decide_eq_false fun q => (Fld.ne hF1_ordinal hF0_ordinal (by decide)) (Value.ref.inj q)) (by decide) (by decide) ?_
    show Steps p.tables e below (T2.setTop (mkF m 89 #[.val (.int p0), .val (.int p1), .val (.int p2), .val (.ref (w 1)), .val (.int p0), .unset, .val (.int (1 : Int32))] [])) _
    refine XS.iload X2.here hx rfl (hb hby at_89) rfl ?_
    show Steps p.tables e below (T2.setTop (mkF m 91 #[.val (.int p0), .val (.int p1), .val (.int p2), .val (.ref (w 1)), .val (.int p0), .unset, .val (.int (1 : Int32))] [(.int p0)])) _
    refine XS.bipush X2.here hx rfl (hb hby at_91) ?_
    show Steps p.tables e below (T2.setTop (mkF m 93 #[.val (.int p0), .val (.int p1), .val (.int p2), .val (.ref (w 1)), .val (.int p0), .unset, .val (.int (1 : Int32))] [(.int (25 : Int32)), (.int p0)])) _
    refine iremM X2 hx rfl (hb hby at_93) rfl (by decide : ¬ ((25 : Int32) = (0 : Int32))) ?_
    show Steps p.tables e below (T2.setTop (mkF m 94 #[.val (.int p0), .val (.int p1), .val (.int p2), .val (.ref (w 1)), .val (.int p0), .unset, .val (.int (1 : Int32))] [(.int (p0 % (25 : Int32)))])) _
    refine XS.ifYes X2.here hx rfl (pc0 := 94) (pc' := 103) rfl (hb hby at_94) rfl ((if0 _ _).trans (teq hp3).1) (by decide) (by decide) ?_
    show Steps p.tables e below (T2.setTop (mkF m 103 #[.val (.int p0), .val (.int p1), .val (.int p2), .val (.ref (w 1)), .val (.int p0), .unset, .val (.int (1 : Int32))] [])) _
    refine XS.iload X2.here hx rfl (hb hby at_103) rfl ?_
    show Steps p.tables e below (T2.setTop (mkF m 105 #[.val (.int p0), .val (.int p1), .val (.int p2), .val (.ref (w 1)), .val (.int p0), .unset, .val (.int (1 : Int32))] [(.int p0)])) _
    refine XS.bipush X2.here hx rfl (hb hby at_105) ?_
    show Steps p.tables e below (T2.setTop (mkF m 107 #[.val (.int p0), .val (.int p1), .val (.int p2), .val (.ref (w 1)), .val (.int p0), .unset, .val (.int (1 : Int32))] [(.int (15 : Int32)), (.int p0)])) _
    refine XS.iand X2.here hx rfl (hb hby at_107) rfl ?_
    show Steps p.tables e below (T2.setTop (mkF m 108 #[.val (.int p0), .val (.int p1), .val (.int p2), .val (.ref (w 1)), .val (.int p0), .unset, .val (.int (1 : Int32))] [(.int (p0 &&& (15 : Int32)))])) _
    refine XS.ifNo X2.here hx rfl (hb hby at_108) rfl ((if0 _ _).trans (teq hp4).2) ?_
    show Steps p.tables e below (T2.setTop (mkF m 111 #[.val (.int p0), .val (.int p1), .val (.int p2), .val (.ref (w 1)), .val (.int p0), .unset, .val (.int (1 : Int32))] [])) _
    refine XS.iconst X2.here hx rfl (hb hby at_111) ?_
    show Steps p.tables e below (T2.setTop (mkF m 112 #[.val (.int p0), .val (.int p1), .val (.int p2), .val (.ref (w 1)), .val (.int p0), .unset, .val (.int (1 : Int32))] [(.int (1 : Int32))])) _
    refine XS.goto X2.here hx rfl (pc0 := 112) (pc' := 116) rfl (hb hby at_112) (by decide) (by decide) ?_
    show Steps p.tables e below (T2.setTop (mkF m 116 #[.val (.int p0), .val (.int p1), .val (.int p2), .val (.ref (w 1)), .val (.int p0), .unset, .val (.int (1 : Int32))] [(.int (1 : Int32))])) _
    refine XS.istore X2.here hx rfl (hb hby at_116) rfl (l' := #[.val (.int p0), .val (.int p1), .val (.int p2), .val (.ref (w 1)), .val (.int p0), .val (.int (1 : Int32)), .val (.int (1 : Int32))]) rfl ?_
    show Steps p.tables e below (T2.setTop (mkF m 118 #[.val (.int p0), .val (.int p1), .val (.int p2), .val (.ref (w 1)), .val (.int p0), .val (.int (1 : Int32)), .val (.int (1 : Int32))] [])) _
    refine XS.aloadN X2.here hx rfl (hb hby at_118) rfl rfl ?_
    show Steps p.tables e below (T2.setTop (mkF m 119 #[.val (.int p0), .val (.int p1), .val (.int p2), .val (.ref (w 1)), .val (.int p0), .val (.int (1 : Int32)), .val (.int (1 : Int32))] [(.ref (w 1))])) _
    refine XS.iload X2.here hx rfl (hb hby at_119) rfl ?_
    show Steps p.tables e below (T2.setTop (mkF m 121 #[.val (.int p0), .val (.int p1), .val (.int p2), .val (.ref (w 1)), .val (.int p0), .val (.int (1 : Int32)), .val (.int (1 : Int32))] [(.int p0), (.ref (w 1))])) _
    refine st3.trans ?_
    show Steps p.tables e below (T3.setTop (mkF m 124 #[.val (.int p0), .val (.int p1), .val (.int p2), .val (.ref (w 1)), .val (.int p0), .val (.int (1 : Int32)), .val (.int (1 : Int32))] [(.int (1 : Int32))])) _
    refine XS.iload X3.here hx rfl (hb hby at_124) rfl ?_
    show Steps p.tables e below (T3.setTop (mkF m 126 #[.val (.int p0), .val (.int p1), .val (.int p2), .val (.ref (w 1)), .val (.int p0), .val (.int (1 : Int32)), .val (.int (1 : Int32))] [(.int (1 : Int32)), (.int (1 : Int32))])) _
    refine XS.icmpNo X3.here hx rfl (hb hby at_126) rfl (teq (by decide : (1 : Int32) = (1 : Int32))).2 ?_
    show Steps p.tables e below (T3.setTop (mkF m 129 #[.val (.int p0), .val (.int p1), .val (.int p2), .val (.ref (w 1)), .val (.int p0), .val (.int (1 : Int32)), .val (.int (1 : Int32))] [])) _
    refine XS.iconst X3.here hx rfl (hb hby at_129) ?_
    show Steps p.tables e below (T3.setTop (mkF m 130 #[.val (.int p0), .val (.int p1), .val (.int p2), .val (.ref (w 1)), .val (.int p0), .val (.int (1 : Int32)), .val (.int (1 : Int32))] [(.int (1 : Int32))])) _
    refine XS.goto X3.here hx rfl (pc0 := 130) (pc' := 134) rfl (hb hby at_130) (by decide) (by decide) ?_
    show Steps p.tables e below (T3.setTop (mkF m 134 #[.val (.int p0), .val (.int p1), .val (.int p2), .val (.ref (w 1)), .val (.int p0), .val (.int (1 : Int32)), .val (.int (1 : Int32))] [(.int (1 : Int32))])) _
    exact retN X3 hx (t := .boolean) Bd.returns (by simp) (hb hby at_134) hr
  · show OL (some (.int (1 : Int32))) Z.heap.size _ T3.heap _
    exact ⟨rfl, N3⟩
set_option maxRecDepth 65536 in
set_option maxHeartbeats 40000000 in
theorem rm_9 (l : Launch) (Z : State) (a0 : Array Value) (hw : ∀ d ∈ tables_1, d.before a0 Z = true) (w : Nat → Addr) (kk : Nat → ClassId) (hN : Wd Z w kk) (ws : List Jvm.Cond) (p1 : Int32) (h0 : Heap) (O0 : Old Z Z.heap.size h0) (hp0 : (p1 % (4 : Int32)) = (0 : Int32)) (hp1 : (p1 % (100 : Int32)) = (0 : Int32)) (hp2 : ¬ ((p1 % (400 : Int32)) = (0 : Int32))) :
    MetFree l (⟨"com/example/kalendae/kalendae/calendar/CalendarRule", "isLeapYear", "(I)Z"⟩ : MethodName) (head1 (Jvm.Cond.code (⟨"com/example/kalendae/kalendae/calendar/CalendarRule", "isLeapYear", "(I)Z"⟩ : MethodName) prog_15_method_4_code 2 (some .boolean) :: ws) ({ frames := 0, cells := 0, slots := 0, locals := 0 } : Room)) (fun a U => a = #[(.ref (w 1)), (.int p1)] ∧ Z.Warmed39 U.vm ∧ U.heap = h0) (fun _ _ _ _ _ => True) (fun _ U o U' => ∃ v L, o = .returned v ∧ OQ (some (.int (0 : Int32))) h0 Z.heap.size v U'.heap L ∧ FrameEnd U o U' L ({ frames := 0, cells := 0, slots := 0, locals := 0 } : Room).cells ({ frames := 0, cells := 0, slots := 0, locals := 0 } : Room).slots) := by
  have hN' := hN
  obtain ⟨hS0, hE0, hS1, hE1, hF1_ordinal, hF0_ordinal⟩ := hN'
  refine MetFree.of_bodySF (plainFor_of_name pn_0) hisR ?_
  intro p e s m args below meth c s₁ Bd hml0 hP hK
  obtain ⟨rfl, hZ, hh⟩ := hP
  have hx := Bd.exec
  have hby := Bd.bytes
  have hml : c.maxLocals = 2 := hml0
  have hown : s.vm.findClass "com/example/kalendae/kalendae/calendar/CalendarRule" = some m.cls := findClass_of_methodNamed Bd.named
  have hnm := (name_of_methodNamed Bd.named Bd.method).1
  have X0 : Stand p l e ({ frames := 0, cells := 0, slots := 0, locals := 0 } : Room) s m #[(.ref (w 1)), (.int p1)] below meth c s₁ [] 0 0 := Stand.of_body Bd
  have e0 : s₁.heap = h0 := by rw [← hh, Bd.state]; rfl
  have N0 := Fr.nil Z.heap.size
  have pre0 : ∀ t, Steps p.tables e below (s₁.setTop (mkF m 0 #[.val (.ref (w 1)), .val (.int p1)] [])) t → Steps p.tables e below (s₁.setTop (entryFrame m #[(.ref (w 1)), (.int p1)] 2)) t := fun t k => castTop (ef_0 m (.ref (w 1)) rfl (.int p1) rfl) k
  obtain ⟨T1, X1, e1, st1⟩ := getS2 X0 hx hZ hown (host := "") (Or.inl (W hw 10 rfl)) Via.refl e0 (hS0.ext O0.2) (g := (mkF m 7 #[.val (.ref (w 1)), .val (.int p1)] [(.ref (w 1))])) rfl (hb hby d_prog_15_method_4_code_7)
  obtain ⟨fs, hr, hrun, hended, hW, hsame⟩ := X1.leave (v := some (.int (0 : Int32))) (fun h => by rw [Bd.returns] at h; cases h)
  refine ⟨_, _, pre0 _ ?_, hrun, hended, _, _, rfl, ?_, ⟨_, rfl⟩, hW, hsame.mono (by decide) (by decide)⟩
  · show Steps p.tables e below (s₁.setTop (mkF m 0 #[.val (.ref (w 1)), .val (.int p1)] [])) _
    refine XS.iloadN X0.here hx rfl (hb hby d_prog_15_method_4_code_0) rfl ?_
    show Steps p.tables e below (s₁.setTop (mkF m 1 #[.val (.ref (w 1)), .val (.int p1)] [(.int p1)])) _
    refine XS.iconst X0.here hx rfl (hb hby d_prog_15_method_4_code_1) ?_
    show Steps p.tables e below (s₁.setTop (mkF m 2 #[.val (.ref (w 1)), .val (.int p1)] [(.int (4 : Int32)), (.int p1)])) _
    refine iremM X0 hx rfl (hb hby d_prog_15_method_4_code_2) rfl (by decide : ¬ ((4 : Int32) = (0 : Int32))) ?_
    show Steps p.tables e below (s₁.setTop (mkF m 3 #[.val (.ref (w 1)), .val (.int p1)] [(.int (p1 % (4 : Int32)))])) _
    refine XS.ifNo X0.here hx rfl (hb hby d_prog_15_method_4_code_3) rfl ((if0 _ _).trans (teq hp0).2) ?_
    show Steps p.tables e below (s₁.setTop (mkF m 6 #[.val (.ref (w 1)), .val (.int p1)] [])) _
    refine XS.aloadN X0.here hx rfl (hb hby d_prog_15_method_4_code_6) rfl rfl ?_
    show Steps p.tables e below (s₁.setTop (mkF m 7 #[.val (.ref (w 1)), .val (.int p1)] [(.ref (w 1))])) _
    refine st1 _ ?_
    show Steps p.tables e below (T1.setTop (mkF m 10 #[.val (.ref (w 1)), .val (.int p1)] [(.ref (w 0)), (.ref (w 1))])) _
    refine Jvm.RoadKit.acmp (g := (mkF m 10 #[.val (.ref (w 1)), .val (.int p1)] [(.ref (w 0)), (.ref (w 1))])) X1 hx rfl rfl rfl (pc0 := 10) (pc' := 13) (same := false) rfl (hb hby d_prog_15_method_4_code_10) rfl (decide_eq_false fun q => (Fld.ne hF1_ordinal hF0_ordinal (by decide)) (Value.ref.inj q)) (by decide) (by decide) ?_
    show Steps p.tables e below (T1.setTop (mkF m 13 #[.val (.ref (w 1)), .val (.int p1)] [])) _
    refine XS.iloadN X1.here hx rfl (hb hby d_prog_15_method_4_code_13) rfl ?_
    show Steps p.tables e below (T1.setTop (mkF m 14 #[.val (.ref (w 1)), .val (.int p1)] [(.int p1)])) _
    refine XS.bipush X1.here hx rfl (hb hby d_prog_15_method_4_code_14) ?_
    show Steps p.tables e below (T1.setTop (mkF m 16 #[.val (.ref (w 1)), .val (.int p1)] [(.int (100 : Int32)), (.int p1)])) _
    refine iremM X1 hx rfl (hb hby d_prog_15_method_4_code_16) rfl (by decide : ¬ ((100 : Int32) = (0 : Int32))) ?_
    show Steps p.tables e below (T1.setTop (mkF m 17 #[.val (.ref (w 1)), .val (.int p1)] [(.int (p1 % (100 : Int32)))])) _
    refine XS.ifNo X1.here hx rfl (hb hby d_prog_15_method_4_code_17) rfl ((if0 _ _).trans (teq hp1).2) ?_
    show Steps p.tables e below (T1.setTop (mkF m 20 #[.val (.ref (w 1)), .val (.int p1)] [])) _
    refine XS.iloadN X1.here hx rfl (hb hby d_prog_15_method_4_code_20) rfl ?_
    show Steps p.tables e below (T1.setTop (mkF m 21 #[.val (.ref (w 1)), .val (.int p1)] [(.int p1)])) _
    refine XS.sipush X1.here hx rfl (hb hby d_prog_15_method_4_code_21) ?_
    show Steps p.tables e below (T1.setTop (mkF m 24 #[.val (.ref (w 1)), .val (.int p1)] [(.int (400 : Int32)), (.int p1)])) _
    refine iremM X1 hx rfl (hb hby d_prog_15_method_4_code_24) rfl (by decide : ¬ ((400 : Int32) = (0 : Int32))) ?_
    show Steps p.tables e below (T1.setTop (mkF m 25 #[.val (.ref (w 1)), .val (.int p1)] [(.int (p1 % (400 : Int32)))])) _
    refine XS.ifYes X1.here hx rfl (pc0 := 25) (pc' := 32) rfl (hb hby d_prog_15_method_4_code_25) rfl ((if0 _ _).trans (feq hp2).2) (by decide) (by decide) ?_
    show Steps p.tables e below (T1.setTop (mkF m 32 #[.val (.ref (w 1)), .val (.int p1)] [])) _
    refine XS.iconst X1.here hx rfl (hb hby d_prog_15_method_4_code_32) ?_
    show Steps p.tables e below (T1.setTop (mkF m 33 #[.val (.ref (w 1)), .val (.int p1)] [(.int (0 : Int32))])) _
    exact retN X1 hx (t := .boolean) Bd.returns (by simp) (hb hby d_prog_15_method_4_code_33) hr
  · show OQ (some (.int (0 : Int32))) h0 Z.heap.size _ T1.heap _
    rw [e1]
    exact ⟨rfl, N0, rfl⟩
set_option maxRecDepth 65536 in
set_option maxHeartbeats 40000000 in
theorem law_10 (l : Launch) (Z : State) (a0 : Array Value) (hw : ∀ d ∈ tables_1, d.before a0 Z = true) (w : Nat → Addr) (kk : Nat → ClassId) (hN : Wd Z w kk) (ws : List Jvm.Cond) (p0 : Int32) (p1 : Int32) (p2 : Int32) (h0 : Heap) (O0 : Old Z Z.heap.size h0) (hp0 : (p2 &&& (1 : Int32)) = (1 : Int32)) (hp1 : (p1 &&& (1 : Int32)) = (0 : Int32)) (hp2 : (p0 &&& (3 : Int32)) = (0 : Int32)) (hp3 : (p0 % (25 : Int32)) = (0 : Int32)) (hp4 : ¬ ((p0 &&& (15 : Int32)) = (0 : Int32))) (hp5 : (p0 % (4 : Int32)) = (0 : Int32)) (hp6 : (p0 % (100 : Int32)) = (0 : Int32)) (hp7 : ¬ ((p0 % (400 : Int32)) = (0 : Int32))) :
    MetFree l x (head1 (Jvm.Cond.code x code maxLocals ret :: ws) room_1) (fun a U => a = #[(.int p0), (.int p1), (.int p2)] ∧ Z.Warmed39 U.vm ∧ U.heap = h0) (fun _ _ _ _ _ => True) (fun _ U o U' => ∃ v L, o = .returned v ∧ OL (some (.int (1 : Int32))) Z.heap.size v U'.heap L ∧ FrameEnd U o U' L 0 0) := by
  have hN' := hN
  obtain ⟨hS0, hE0, hS1, hE1, hF1_ordinal, hF0_ordinal⟩ := hN'
  refine MetFree.of_bodySF (plainFor_of_name pn_1) hisR ?_
  intro p e s m args below meth c s₁ Bd hml0 hP hK
  obtain ⟨rfl, hZ, hh⟩ := hP
  have hx := Bd.exec
  have hby := Bd.bytes
  have hml : c.maxLocals = 7 := hml0
  have hown : s.vm.findClass "com/example/kalendae/kalendae/calendar/CalendarRuleIsLeapYearPinLaw" = some m.cls := findClass_of_methodNamed Bd.named
  have hnm := (name_of_methodNamed Bd.named Bd.method).1
  have X0 : Stand p l e room_1 s m #[(.int p0), (.int p1), (.int p2)] below meth c s₁ [] 0 0 := Stand.of_body Bd
  have e0 : s₁.heap = h0 := by rw [← hh, Bd.state]; rfl
  have N0 := Fr.nil Z.heap.size
  have pre0 : ∀ t, Steps p.tables e below (s₁.setTop (mkF m 0 #[.val (.int p0), .val (.int p1), .val (.int p2), .unset, .unset, .unset, .unset] [])) t → Steps p.tables e below (s₁.setTop (entryFrame m #[(.int p0), (.int p1), (.int p2)] maxLocals)) t := fun t k => castTop (ef_1 m (.int p0) rfl (.int p1) rfl (.int p2) rfl) k
  obtain ⟨T1, X1, e1, st1⟩ := getS2 X0 hx hZ hown (host := "") (Or.inl (W hw 8 rfl)) Via.refl e0 (hS1.ext O0.2) (g := (mkF m 6 #[.val (.int p0), .val (.int p1), .val (.int p2), .unset, .unset, .unset, .unset] [])) rfl (hb hby at_6)
  obtain ⟨T2, X2, e2, st2⟩ := getS2 X1 hx hZ hown (host := "") (Or.inl (W hw 0 rfl)) Via.refl e1 (hS0.ext O0.2) (g := (mkF m 77 #[.val (.int p0), .val (.int p1), .val (.int p2), .val (.ref (w 1)), .val (.int p0), .unset, .val (.int (1 : Int32))] [(.ref (w 1))])) rfl (hb hby at_77)
  obtain ⟨cq3, kq3, q3a, q3b, q3c⟩ := isOf hZ e2 (hE1.ext O0.2)
  obtain ⟨_, _, ⟨T3, L3, k3, n3⟩, -, X3, ⟨Lc3, hQ3, l3, y3, z3⟩, st3⟩ := X2.virtualBack hx (y := (⟨"com/example/kalendae/kalendae/calendar/CalendarRule", "isLeapYear", "(I)Z"⟩ : MethodName)) (z := (⟨"com/example/kalendae/kalendae/calendar/CalendarRule", "isLeapYear", "(I)Z"⟩ : MethodName)) hown (mvT hZ (W hw 3 rfl)) (mvT hZ (W hw 4 rfl)) (notFace_of_selects (args := #[]) (mvT hZ (W hw 6 rfl))) (mvT hZ (W hw 6 rfl)) (mvT hZ (W hw 5 rfl)) (by decide) (backOf (W := 0) (rm_9 l Z a0 hw w kk hN [] p0 h0 O0 hp5 hp6 hp7) hZ (W hw 7 rfl) (W hw 1 rfl) (by decide) (by decide)) q3a q3c (g := (mkF m 121 #[.val (.int p0), .val (.int p1), .val (.int p2), .val (.ref (w 1)), .val (.int p0), .val (.int (0 : Int32)), .val (.int (1 : Int32))] [(.int p0), (.ref (w 1))])) rfl (by rw [hml]; rfl) (Steps.refl _) (argsL := [(.int p0)]) (rest := []) (lenOf pd_0 rfl) rfl (by show 2 * 0 + _ ≤ _; exact Nat.le_of_eq rfl) (hb hby at_121) (fun _ _ => ⟨rfl, e2, (by decide : 0 + 0 ≤ _), (by decide : 0 + 0 ≤ _)⟩)
  dsimp only [Pt.U, Pt.locs, Pt.cells, Pt.slots] at X3 l3 y3 z3 st3 hQ3
  subst l3 y3 z3
  obtain ⟨rfl, N3q, e3⟩ := hQ3
  have N3 := Fr.app N0 N3q
  obtain ⟨fs, hr, hrun, hended, hW, hsame⟩ := X3.leave (v := some (.int (1 : Int32))) (fun h => by rw [Bd.returns] at h; cases h)
  refine ⟨_, _, pre0 _ ?_, hrun, hended, _, _, rfl, ?_, ⟨_, rfl⟩, hW, hsame.mono (by decide) (by decide)⟩
  · show Steps p.tables e below (s₁.setTop (mkF m 0 #[.val (.int p0), .val (.int p1), .val (.int p2), .unset, .unset, .unset, .unset] [])) _
    refine XS.iloadN X0.here hx rfl (hb hby at_0) rfl ?_
    show Steps p.tables e below (s₁.setTop (mkF m 1 #[.val (.int p0), .val (.int p1), .val (.int p2), .unset, .unset, .unset, .unset] [(.int p2)])) _
    refine XS.iconst X0.here hx rfl (hb hby at_1) ?_
    show Steps p.tables e below (s₁.setTop (mkF m 2 #[.val (.int p0), .val (.int p1), .val (.int p2), .unset, .unset, .unset, .unset] [(.int (1 : Int32)), (.int p2)])) _
    refine XS.iand X0.here hx rfl (hb hby at_2) rfl ?_
    show Steps p.tables e below (s₁.setTop (mkF m 3 #[.val (.int p0), .val (.int p1), .val (.int p2), .unset, .unset, .unset, .unset] [(.int (p2 &&& (1 : Int32)))])) _
    rw [hp0]
    show Steps p.tables e below (s₁.setTop (mkF m 3 #[.val (.int p0), .val (.int p1), .val (.int p2), .unset, .unset, .unset, .unset] [(.int (1 : Int32))])) _
    refine XS.ifNo X0.here hx rfl (hb hby at_3) rfl ((if0 _ _).trans (feq (by decide : ¬ ((1 : Int32) = (0 : Int32)))).1) ?_
    show Steps p.tables e below (s₁.setTop (mkF m 6 #[.val (.int p0), .val (.int p1), .val (.int p2), .unset, .unset, .unset, .unset] [])) _
    refine st1 _ ?_
    show Steps p.tables e below (T1.setTop (mkF m 9 #[.val (.int p0), .val (.int p1), .val (.int p2), .unset, .unset, .unset, .unset] [(.ref (w 1))])) _
    refine XS.goto X1.here hx rfl (pc0 := 9) (pc' := 15) rfl (hb hby at_9) (by decide) (by decide) ?_
    show Steps p.tables e below (T1.setTop (mkF m 15 #[.val (.int p0), .val (.int p1), .val (.int p2), .unset, .unset, .unset, .unset] [(.ref (w 1))])) _
    refine XS.astoreN X1.here hx rfl (hb hby at_15) rfl rfl (l' := #[.val (.int p0), .val (.int p1), .val (.int p2), .val (.ref (w 1)), .unset, .unset, .unset]) rfl ?_
    show Steps p.tables e below (T1.setTop (mkF m 16 #[.val (.int p0), .val (.int p1), .val (.int p2), .val (.ref (w 1)), .unset, .unset, .unset] [])) _
    refine XS.iloadN X1.here hx rfl (hb hby at_16) rfl ?_
    show Steps p.tables e below (T1.setTop (mkF m 17 #[.val (.int p0), .val (.int p1), .val (.int p2), .val (.ref (w 1)), .unset, .unset, .unset] [(.int p1)])) _
    refine XS.iconst X1.here hx rfl (hb hby at_17) ?_
    show Steps p.tables e below (T1.setTop (mkF m 18 #[.val (.int p0), .val (.int p1), .val (.int p2), .val (.ref (w 1)), .unset, .unset, .unset] [(.int (1 : Int32)), (.int p1)])) _
    refine XS.iand X1.here hx rfl (hb hby at_18) rfl ?_
    show Steps p.tables e below (T1.setTop (mkF m 19 #[.val (.int p0), .val (.int p1), .val (.int p2), .val (.ref (w 1)), .unset, .unset, .unset] [(.int (p1 &&& (1 : Int32)))])) _
    rw [hp1]
    show Steps p.tables e below (T1.setTop (mkF m 19 #[.val (.int p0), .val (.int p1), .val (.int p2), .val (.ref (w 1)), .unset, .unset, .unset] [(.int (0 : Int32))])) _
    refine XS.ifNo X1.here hx rfl (hb hby at_19) rfl ((if0 _ _).trans (teq (by decide : (0 : Int32) = (0 : Int32))).2) ?_
    show Steps p.tables e below (T1.setTop (mkF m 22 #[.val (.int p0), .val (.int p1), .val (.int p2), .val (.ref (w 1)), .unset, .unset, .unset] [])) _
    refine XS.iloadN X1.here hx rfl (hb hby at_22) rfl ?_
    show Steps p.tables e below (T1.setTop (mkF m 23 #[.val (.int p0), .val (.int p1), .val (.int p2), .val (.ref (w 1)), .unset, .unset, .unset] [(.int p0)])) _
    refine XS.istore X1.here hx rfl (hb hby at_23) rfl (l' := #[.val (.int p0), .val (.int p1), .val (.int p2), .val (.ref (w 1)), .val (.int p0), .unset, .unset]) rfl ?_
    show Steps p.tables e below (T1.setTop (mkF m 25 #[.val (.int p0), .val (.int p1), .val (.int p2), .val (.ref (w 1)), .val (.int p0), .unset, .unset] [])) _
    refine XS.goto X1.here hx rfl (pc0 := 25) (pc' := 51) rfl (hb hby at_25) (by decide) (by decide) ?_
    show Steps p.tables e below (T1.setTop (mkF m 51 #[.val (.int p0), .val (.int p1), .val (.int p2), .val (.ref (w 1)), .val (.int p0), .unset, .unset] [])) _
    refine XS.iload X1.here hx rfl (hb hby at_51) rfl ?_
    show Steps p.tables e below (T1.setTop (mkF m 53 #[.val (.int p0), .val (.int p1), .val (.int p2), .val (.ref (w 1)), .val (.int p0), .unset, .unset] [(.int p0)])) _
    refine XS.iconst X1.here hx rfl (hb hby at_53) ?_
    show Steps p.tables e below (T1.setTop (mkF m 54 #[.val (.int p0), .val (.int p1), .val (.int p2), .val (.ref (w 1)), .val (.int p0), .unset, .unset] [(.int (3 : Int32)), (.int p0)])) _
    refine XS.iand X1.here hx rfl (hb hby at_54) rfl ?_
    show Steps p.tables e below (T1.setTop (mkF m 55 #[.val (.int p0), .val (.int p1), .val (.int p2), .val (.ref (w 1)), .val (.int p0), .unset, .unset] [(.int (p0 &&& (3 : Int32)))])) _
    refine XS.ifNo X1.here hx rfl (hb hby at_55) rfl ((if0 _ _).trans (teq hp2).2) ?_
    show Steps p.tables e below (T1.setTop (mkF m 58 #[.val (.int p0), .val (.int p1), .val (.int p2), .val (.ref (w 1)), .val (.int p0), .unset, .unset] [])) _
    refine XS.iconst X1.here hx rfl (hb hby at_58) ?_
    show Steps p.tables e below (T1.setTop (mkF m 59 #[.val (.int p0), .val (.int p1), .val (.int p2), .val (.ref (w 1)), .val (.int p0), .unset, .unset] [(.int (1 : Int32))])) _
    refine XS.goto X1.here hx rfl (pc0 := 59) (pc' := 63) rfl (hb hby at_59) (by decide) (by decide) ?_
    show Steps p.tables e below (T1.setTop (mkF m 63 #[.val (.int p0), .val (.int p1), .val (.int p2), .val (.ref (w 1)), .val (.int p0), .unset, .unset] [(.int (1 : Int32))])) _
    refine XS.istore X1.here hx rfl (hb hby at_63) rfl (l' := #[.val (.int p0), .val (.int p1), .val (.int p2), .val (.ref (w 1)), .val (.int p0), .unset, .val (.int (1 : Int32))]) rfl ?_
    show Steps p.tables e below (T1.setTop (mkF m 65 #[.val (.int p0), .val (.int p1), .val (.int p2), .val (.ref (w 1)), .val (.int p0), .unset, .val (.int (1 : Int32))] [])) _
    refine XS.iload X1.here hx rfl (hb hby at_65) rfl ?_
    show Steps p.tables e below (T1.setTop (mkF m 67 #[.val (.int p0), .val (.int p1), .val (.int p2), .val (.ref (w 1)), .val (.int p0), .unset, .val (.int (1 : Int32))] [(.int (1 : Int32))])) _
    refine XS.ifYes X1.here hx rfl (pc0 := 67) (pc' := 76) rfl (hb hby at_67) rfl ((if0 _ _).trans (feq (by decide : ¬ ((1 : Int32) = (0 : Int32)))).2) (by decide) (by decide) ?_
    show Steps p.tables e below (T1.setTop (mkF m 76 #[.val (.int p0), .val (.int p1), .val (.int p2), .val (.ref (w 1)), .val (.int p0), .unset, .val (.int (1 : Int32))] [])) _
    refine XS.aloadN X1.here hx rfl (hb hby at_76) rfl rfl ?_
    show Steps p.tables e below (T1.setTop (mkF m 77 #[.val (.int p0), .val (.int p1), .val (.int p2), .val (.ref (w 1)), .val (.int p0), .unset, .val (.int (1 : Int32))] [(.ref (w 1))])) _
    refine st2 _ ?_
    show Steps p.tables e below (T2.setTop (mkF m 80 #[.val (.int p0), .val (.int p1), .val (.int p2), .val (.ref (w 1)), .val (.int p0), .unset, .val (.int (1 : Int32))] [(.ref (w 0)), (.ref (w 1))])) _
    refine Jvm.RoadKit.acmp (g := (mkF m 80 #[.val (.int p0), .val (.int p1), .val (.int p2), .val (.ref (w 1)), .val (.int p0), .unset, .val (.int (1 : Int32))] [(.ref (w 0)), (.ref (w 1))])) X2 hx rfl rfl rfl (pc0 := 80) (pc' := 89) (same := false) rfl (hb hby at_80) rfl (decide_eq_false fun q => (Fld.ne hF1_ordinal hF0_ordinal (by decide)) (Value.ref.inj q)) (by decide) (by decide) ?_
    show Steps p.tables e below (T2.setTop (mkF m 89 #[.val (.int p0), .val (.int p1), .val (.int p2), .val (.ref (w 1)), .val (.int p0), .unset, .val (.int (1 : Int32))] [])) _
    refine XS.iload X2.here hx rfl (hb hby at_89) rfl ?_
    show Steps p.tables e below (T2.setTop (mkF m 91 #[.val (.int p0), .val (.int p1), .val (.int p2), .val (.ref (w 1)), .val (.int p0), .unset, .val (.int (1 : Int32))] [(.int p0)])) _
    refine XS.bipush X2.here hx rfl (hb hby at_91) ?_
    show Steps p.tables e below (T2.setTop (mkF m 93 #[.val (.int p0), .val (.int p1), .val (.int p2), .val (.ref (w 1)), .val (.int p0), .unset, .val (.int (1 : Int32))] [(.int (25 : Int32)), (.int p0)])) _
    refine iremM X2 hx rfl (hb hby at_93) rfl (by decide : ¬ ((25 : Int32) = (0 : Int32))) ?_
    show Steps p.tables e below (T2.setTop (mkF m 94 #[.val (.int p0), .val (.int p1), .val (.int p2), .val (.ref (w 1)), .val (.int p0), .unset, .val (.int (1 : Int32))] [(.int (p0 % (25 : Int32)))])) _
    refine XS.ifYes X2.here hx rfl (pc0 := 94) (pc' := 103) rfl (hb hby at_94) rfl ((if0 _ _).trans (teq hp3).1) (by decide) (by decide) ?_
    show Steps p.tables e below (T2.setTop (mkF m 103 #[.val (.int p0), .val (.int p1), .val (.int p2), .val (.ref (w 1)), .val (.int p0), .unset, .val (.int (1 : Int32))] [])) _
    refine XS.iload X2.here hx rfl (hb hby at_103) rfl ?_
    show Steps p.tables e below (T2.setTop (mkF m 105 #[.val (.int p0), .val (.int p1), .val (.int p2), .val (.ref (w 1)), .val (.int p0), .unset, .val (.int (1 : Int32))] [(.int p0)])) _
    refine XS.bipush X2.here hx rfl (hb hby at_105) ?_
    show Steps p.tables e below (T2.setTop (mkF m 107 #[.val (.int p0), .val (.int p1), .val (.int p2), .val (.ref (w 1)), .val (.int p0), .unset, .val (.int (1 : Int32))] [(.int (15 : Int32)), (.int p0)])) _
    refine XS.iand X2.here hx rfl (hb hby at_107) rfl ?_
    show Steps p.tables e below (T2.setTop (mkF m 108 #[.val (.int p0), .val (.int p1), .val (.int p2), .val (.ref (w 1)), .val (.int p0), .unset, .val (.int (1 : Int32))] [(.int (p0 &&& (15 : Int32)))])) _
    refine XS.ifYes X2.here hx rfl (pc0 := 108) (pc' := 115) rfl (hb hby at_108) rfl ((if0 _ _).trans (feq hp4).2) (by decide) (by decide) ?_
    show Steps p.tables e below (T2.setTop (mkF m 115 #[.val (.int p0), .val (.int p1), .val (.int p2), .val (.ref (w 1)), .val (.int p0), .unset, .val (.int (1 : Int32))] [])) _
    refine XS.iconst X2.here hx rfl (hb hby at_115) ?_
    show Steps p.tables e below (T2.setTop (mkF m 116 #[.val (.int p0), .val (.int p1), .val (.int p2), .val (.ref (w 1)), .val (.int p0), .unset, .val (.int (1 : Int32))] [(.int (0 : Int32))])) _
    refine XS.istore X2.here hx rfl (hb hby at_116) rfl (l' := #[.val (.int p0), .val (.int p1), .val (.int p2), .val (.ref (w 1)), .val (.int p0), .val (.int (0 : Int32)), .val (.int (1 : Int32))]) rfl ?_
    show Steps p.tables e below (T2.setTop (mkF m 118 #[.val (.int p0), .val (.int p1), .val (.int p2), .val (.ref (w 1)), .val (.int p0), .val (.int (0 : Int32)), .val (.int (1 : Int32))] [])) _
    refine XS.aloadN X2.here hx rfl (hb hby at_118) rfl rfl ?_
    show Steps p.tables e below (T2.setTop (mkF m 119 #[.val (.int p0), .val (.int p1), .val (.int p2), .val (.ref (w 1)), .val (.int p0), .val (.int (0 : Int32)), .val (.int (1 : Int32))] [(.ref (w 1))])) _
    refine XS.iload X2.here hx rfl (hb hby at_119) rfl ?_
    show Steps p.tables e below (T2.setTop (mkF m 121 #[.val (.int p0), .val (.int p1), .val (.int p2), .val (.ref (w 1)), .val (.int p0), .val (.int (0 : Int32)), .val (.int (1 : Int32))] [(.int p0), (.ref (w 1))])) _
    refine st3.trans ?_
    show Steps p.tables e below (T3.setTop (mkF m 124 #[.val (.int p0), .val (.int p1), .val (.int p2), .val (.ref (w 1)), .val (.int p0), .val (.int (0 : Int32)), .val (.int (1 : Int32))] [(.int (0 : Int32))])) _
    refine XS.iload X3.here hx rfl (hb hby at_124) rfl ?_
    show Steps p.tables e below (T3.setTop (mkF m 126 #[.val (.int p0), .val (.int p1), .val (.int p2), .val (.ref (w 1)), .val (.int p0), .val (.int (0 : Int32)), .val (.int (1 : Int32))] [(.int (0 : Int32)), (.int (0 : Int32))])) _
    refine XS.icmpNo X3.here hx rfl (hb hby at_126) rfl (teq (by decide : (0 : Int32) = (0 : Int32))).2 ?_
    show Steps p.tables e below (T3.setTop (mkF m 129 #[.val (.int p0), .val (.int p1), .val (.int p2), .val (.ref (w 1)), .val (.int p0), .val (.int (0 : Int32)), .val (.int (1 : Int32))] [])) _
    refine XS.iconst X3.here hx rfl (hb hby at_129) ?_
    show Steps p.tables e below (T3.setTop (mkF m 130 #[.val (.int p0), .val (.int p1), .val (.int p2), .val (.ref (w 1)), .val (.int p0), .val (.int (0 : Int32)), .val (.int (1 : Int32))] [(.int (1 : Int32))])) _
    refine XS.goto X3.here hx rfl (pc0 := 130) (pc' := 134) rfl (hb hby at_130) (by decide) (by decide) ?_
    show Steps p.tables e below (T3.setTop (mkF m 134 #[.val (.int p0), .val (.int p1), .val (.int p2), .val (.ref (w 1)), .val (.int p0), .val (.int (0 : Int32)), .val (.int (1 : Int32))] [(.int (1 : Int32))])) _
    exact retN X3 hx (t := .boolean) Bd.returns (by simp) (hb hby at_134) hr
  · show OL (some (.int (1 : Int32))) Z.heap.size _ T3.heap _
    exact ⟨rfl, N3⟩
set_option maxRecDepth 65536 in
set_option maxHeartbeats 40000000 in
theorem rm_11 (l : Launch) (Z : State) (a0 : Array Value) (hw : ∀ d ∈ tables_1, d.before a0 Z = true) (w : Nat → Addr) (kk : Nat → ClassId) (hN : Wd Z w kk) (ws : List Jvm.Cond) (p1 : Int32) (h0 : Heap) (O0 : Old Z Z.heap.size h0) (hp0 : (p1 % (4 : Int32)) = (0 : Int32)) (hp1 : ¬ ((p1 % (100 : Int32)) = (0 : Int32))) :
    MetFree l (⟨"com/example/kalendae/kalendae/calendar/CalendarRule", "isLeapYear", "(I)Z"⟩ : MethodName) (head1 (Jvm.Cond.code (⟨"com/example/kalendae/kalendae/calendar/CalendarRule", "isLeapYear", "(I)Z"⟩ : MethodName) prog_15_method_4_code 2 (some .boolean) :: ws) ({ frames := 0, cells := 0, slots := 0, locals := 0 } : Room)) (fun a U => a = #[(.ref (w 1)), (.int p1)] ∧ Z.Warmed39 U.vm ∧ U.heap = h0) (fun _ _ _ _ _ => True) (fun _ U o U' => ∃ v L, o = .returned v ∧ OQ (some (.int (1 : Int32))) h0 Z.heap.size v U'.heap L ∧ FrameEnd U o U' L ({ frames := 0, cells := 0, slots := 0, locals := 0 } : Room).cells ({ frames := 0, cells := 0, slots := 0, locals := 0 } : Room).slots) := by
  have hN' := hN
  obtain ⟨hS0, hE0, hS1, hE1, hF1_ordinal, hF0_ordinal⟩ := hN'
  refine MetFree.of_bodySF (plainFor_of_name pn_0) hisR ?_
  intro p e s m args below meth c s₁ Bd hml0 hP hK
  obtain ⟨rfl, hZ, hh⟩ := hP
  have hx := Bd.exec
  have hby := Bd.bytes
  have hml : c.maxLocals = 2 := hml0
  have hown : s.vm.findClass "com/example/kalendae/kalendae/calendar/CalendarRule" = some m.cls := findClass_of_methodNamed Bd.named
  have hnm := (name_of_methodNamed Bd.named Bd.method).1
  have X0 : Stand p l e ({ frames := 0, cells := 0, slots := 0, locals := 0 } : Room) s m #[(.ref (w 1)), (.int p1)] below meth c s₁ [] 0 0 := Stand.of_body Bd
  have e0 : s₁.heap = h0 := by rw [← hh, Bd.state]; rfl
  have N0 := Fr.nil Z.heap.size
  have pre0 : ∀ t, Steps p.tables e below (s₁.setTop (mkF m 0 #[.val (.ref (w 1)), .val (.int p1)] [])) t → Steps p.tables e below (s₁.setTop (entryFrame m #[(.ref (w 1)), (.int p1)] 2)) t := fun t k => castTop (ef_0 m (.ref (w 1)) rfl (.int p1) rfl) k
  obtain ⟨T1, X1, e1, st1⟩ := getS2 X0 hx hZ hown (host := "") (Or.inl (W hw 10 rfl)) Via.refl e0 (hS0.ext O0.2) (g := (mkF m 7 #[.val (.ref (w 1)), .val (.int p1)] [(.ref (w 1))])) rfl (hb hby d_prog_15_method_4_code_7)
  obtain ⟨fs, hr, hrun, hended, hW, hsame⟩ := X1.leave (v := some (.int (1 : Int32))) (fun h => by rw [Bd.returns] at h; cases h)
  refine ⟨_, _, pre0 _ ?_, hrun, hended, _, _, rfl, ?_, ⟨_, rfl⟩, hW, hsame.mono (by decide) (by decide)⟩
  · show Steps p.tables e below (s₁.setTop (mkF m 0 #[.val (.ref (w 1)), .val (.int p1)] [])) _
    refine XS.iloadN X0.here hx rfl (hb hby d_prog_15_method_4_code_0) rfl ?_
    show Steps p.tables e below (s₁.setTop (mkF m 1 #[.val (.ref (w 1)), .val (.int p1)] [(.int p1)])) _
    refine XS.iconst X0.here hx rfl (hb hby d_prog_15_method_4_code_1) ?_
    show Steps p.tables e below (s₁.setTop (mkF m 2 #[.val (.ref (w 1)), .val (.int p1)] [(.int (4 : Int32)), (.int p1)])) _
    refine iremM X0 hx rfl (hb hby d_prog_15_method_4_code_2) rfl (by decide : ¬ ((4 : Int32) = (0 : Int32))) ?_
    show Steps p.tables e below (s₁.setTop (mkF m 3 #[.val (.ref (w 1)), .val (.int p1)] [(.int (p1 % (4 : Int32)))])) _
    refine XS.ifNo X0.here hx rfl (hb hby d_prog_15_method_4_code_3) rfl ((if0 _ _).trans (teq hp0).2) ?_
    show Steps p.tables e below (s₁.setTop (mkF m 6 #[.val (.ref (w 1)), .val (.int p1)] [])) _
    refine XS.aloadN X0.here hx rfl (hb hby d_prog_15_method_4_code_6) rfl rfl ?_
    show Steps p.tables e below (s₁.setTop (mkF m 7 #[.val (.ref (w 1)), .val (.int p1)] [(.ref (w 1))])) _
    refine st1 _ ?_
    show Steps p.tables e below (T1.setTop (mkF m 10 #[.val (.ref (w 1)), .val (.int p1)] [(.ref (w 0)), (.ref (w 1))])) _
    refine Jvm.RoadKit.acmp (g := (mkF m 10 #[.val (.ref (w 1)), .val (.int p1)] [(.ref (w 0)), (.ref (w 1))])) X1 hx rfl rfl rfl (pc0 := 10) (pc' := 13) (same := false) rfl (hb hby d_prog_15_method_4_code_10) rfl (decide_eq_false fun q => (Fld.ne hF1_ordinal hF0_ordinal (by decide)) (Value.ref.inj q)) (by decide) (by decide) ?_
    show Steps p.tables e below (T1.setTop (mkF m 13 #[.val (.ref (w 1)), .val (.int p1)] [])) _
    refine XS.iloadN X1.here hx rfl (hb hby d_prog_15_method_4_code_13) rfl ?_
    show Steps p.tables e below (T1.setTop (mkF m 14 #[.val (.ref (w 1)), .val (.int p1)] [(.int p1)])) _
    refine XS.bipush X1.here hx rfl (hb hby d_prog_15_method_4_code_14) ?_
    show Steps p.tables e below (T1.setTop (mkF m 16 #[.val (.ref (w 1)), .val (.int p1)] [(.int (100 : Int32)), (.int p1)])) _
    refine iremM X1 hx rfl (hb hby d_prog_15_method_4_code_16) rfl (by decide : ¬ ((100 : Int32) = (0 : Int32))) ?_
    show Steps p.tables e below (T1.setTop (mkF m 17 #[.val (.ref (w 1)), .val (.int p1)] [(.int (p1 % (100 : Int32)))])) _
    refine XS.ifYes X1.here hx rfl (pc0 := 17) (pc' := 28) rfl (hb hby d_prog_15_method_4_code_17) rfl ((if0 _ _).trans (feq hp1).2) (by decide) (by decide) ?_
    show Steps p.tables e below (T1.setTop (mkF m 28 #[.val (.ref (w 1)), .val (.int p1)] [])) _
    refine XS.iconst X1.here hx rfl (hb hby d_prog_15_method_4_code_28) ?_
    show Steps p.tables e below (T1.setTop (mkF m 29 #[.val (.ref (w 1)), .val (.int p1)] [(.int (1 : Int32))])) _
    refine XS.goto X1.here hx rfl (pc0 := 29) (pc' := 33) rfl (hb hby d_prog_15_method_4_code_29) (by decide) (by decide) ?_
    show Steps p.tables e below (T1.setTop (mkF m 33 #[.val (.ref (w 1)), .val (.int p1)] [(.int (1 : Int32))])) _
    exact retN X1 hx (t := .boolean) Bd.returns (by simp) (hb hby d_prog_15_method_4_code_33) hr
  · show OQ (some (.int (1 : Int32))) h0 Z.heap.size _ T1.heap _
    rw [e1]
    exact ⟨rfl, N0, rfl⟩
set_option maxRecDepth 65536 in
set_option maxHeartbeats 40000000 in
theorem law_12 (l : Launch) (Z : State) (a0 : Array Value) (hw : ∀ d ∈ tables_1, d.before a0 Z = true) (w : Nat → Addr) (kk : Nat → ClassId) (hN : Wd Z w kk) (ws : List Jvm.Cond) (p0 : Int32) (p1 : Int32) (p2 : Int32) (h0 : Heap) (O0 : Old Z Z.heap.size h0) (hp0 : (p2 &&& (1 : Int32)) = (1 : Int32)) (hp1 : (p1 &&& (1 : Int32)) = (0 : Int32)) (hp2 : (p0 &&& (3 : Int32)) = (0 : Int32)) (hp3 : ¬ ((p0 % (25 : Int32)) = (0 : Int32))) (hp4 : (p0 % (4 : Int32)) = (0 : Int32)) (hp5 : ¬ ((p0 % (100 : Int32)) = (0 : Int32))) :
    MetFree l x (head1 (Jvm.Cond.code x code maxLocals ret :: ws) room_1) (fun a U => a = #[(.int p0), (.int p1), (.int p2)] ∧ Z.Warmed39 U.vm ∧ U.heap = h0) (fun _ _ _ _ _ => True) (fun _ U o U' => ∃ v L, o = .returned v ∧ OL (some (.int (1 : Int32))) Z.heap.size v U'.heap L ∧ FrameEnd U o U' L 0 0) := by
  have hN' := hN
  obtain ⟨hS0, hE0, hS1, hE1, hF1_ordinal, hF0_ordinal⟩ := hN'
  refine MetFree.of_bodySF (plainFor_of_name pn_1) hisR ?_
  intro p e s m args below meth c s₁ Bd hml0 hP hK
  obtain ⟨rfl, hZ, hh⟩ := hP
  have hx := Bd.exec
  have hby := Bd.bytes
  have hml : c.maxLocals = 7 := hml0
  have hown : s.vm.findClass "com/example/kalendae/kalendae/calendar/CalendarRuleIsLeapYearPinLaw" = some m.cls := findClass_of_methodNamed Bd.named
  have hnm := (name_of_methodNamed Bd.named Bd.method).1
  have X0 : Stand p l e room_1 s m #[(.int p0), (.int p1), (.int p2)] below meth c s₁ [] 0 0 := Stand.of_body Bd
  have e0 : s₁.heap = h0 := by rw [← hh, Bd.state]; rfl
  have N0 := Fr.nil Z.heap.size
  have pre0 : ∀ t, Steps p.tables e below (s₁.setTop (mkF m 0 #[.val (.int p0), .val (.int p1), .val (.int p2), .unset, .unset, .unset, .unset] [])) t → Steps p.tables e below (s₁.setTop (entryFrame m #[(.int p0), (.int p1), (.int p2)] maxLocals)) t := fun t k => castTop (ef_1 m (.int p0) rfl (.int p1) rfl (.int p2) rfl) k
  obtain ⟨T1, X1, e1, st1⟩ := getS2 X0 hx hZ hown (host := "") (Or.inl (W hw 8 rfl)) Via.refl e0 (hS1.ext O0.2) (g := (mkF m 6 #[.val (.int p0), .val (.int p1), .val (.int p2), .unset, .unset, .unset, .unset] [])) rfl (hb hby at_6)
  obtain ⟨T2, X2, e2, st2⟩ := getS2 X1 hx hZ hown (host := "") (Or.inl (W hw 0 rfl)) Via.refl e1 (hS0.ext O0.2) (g := (mkF m 77 #[.val (.int p0), .val (.int p1), .val (.int p2), .val (.ref (w 1)), .val (.int p0), .unset, .val (.int (1 : Int32))] [(.ref (w 1))])) rfl (hb hby at_77)
  obtain ⟨cq3, kq3, q3a, q3b, q3c⟩ := isOf hZ e2 (hE1.ext O0.2)
  obtain ⟨_, _, ⟨T3, L3, k3, n3⟩, -, X3, ⟨Lc3, hQ3, l3, y3, z3⟩, st3⟩ := X2.virtualBack hx (y := (⟨"com/example/kalendae/kalendae/calendar/CalendarRule", "isLeapYear", "(I)Z"⟩ : MethodName)) (z := (⟨"com/example/kalendae/kalendae/calendar/CalendarRule", "isLeapYear", "(I)Z"⟩ : MethodName)) hown (mvT hZ (W hw 3 rfl)) (mvT hZ (W hw 4 rfl)) (notFace_of_selects (args := #[]) (mvT hZ (W hw 6 rfl))) (mvT hZ (W hw 6 rfl)) (mvT hZ (W hw 5 rfl)) (by decide) (backOf (W := 0) (rm_11 l Z a0 hw w kk hN [] p0 h0 O0 hp4 hp5) hZ (W hw 7 rfl) (W hw 1 rfl) (by decide) (by decide)) q3a q3c (g := (mkF m 121 #[.val (.int p0), .val (.int p1), .val (.int p2), .val (.ref (w 1)), .val (.int p0), .val (.int (1 : Int32)), .val (.int (1 : Int32))] [(.int p0), (.ref (w 1))])) rfl (by rw [hml]; rfl) (Steps.refl _) (argsL := [(.int p0)]) (rest := []) (lenOf pd_0 rfl) rfl (by show 2 * 0 + _ ≤ _; exact Nat.le_of_eq rfl) (hb hby at_121) (fun _ _ => ⟨rfl, e2, (by decide : 0 + 0 ≤ _), (by decide : 0 + 0 ≤ _)⟩)
  dsimp only [Pt.U, Pt.locs, Pt.cells, Pt.slots] at X3 l3 y3 z3 st3 hQ3
  subst l3 y3 z3
  obtain ⟨rfl, N3q, e3⟩ := hQ3
  have N3 := Fr.app N0 N3q
  obtain ⟨fs, hr, hrun, hended, hW, hsame⟩ := X3.leave (v := some (.int (1 : Int32))) (fun h => by rw [Bd.returns] at h; cases h)
  refine ⟨_, _, pre0 _ ?_, hrun, hended, _, _, rfl, ?_, ⟨_, rfl⟩, hW, hsame.mono (by decide) (by decide)⟩
  · show Steps p.tables e below (s₁.setTop (mkF m 0 #[.val (.int p0), .val (.int p1), .val (.int p2), .unset, .unset, .unset, .unset] [])) _
    refine XS.iloadN X0.here hx rfl (hb hby at_0) rfl ?_
    show Steps p.tables e below (s₁.setTop (mkF m 1 #[.val (.int p0), .val (.int p1), .val (.int p2), .unset, .unset, .unset, .unset] [(.int p2)])) _
    refine XS.iconst X0.here hx rfl (hb hby at_1) ?_
    show Steps p.tables e below (s₁.setTop (mkF m 2 #[.val (.int p0), .val (.int p1), .val (.int p2), .unset, .unset, .unset, .unset] [(.int (1 : Int32)), (.int p2)])) _
    refine XS.iand X0.here hx rfl (hb hby at_2) rfl ?_
    show Steps p.tables e below (s₁.setTop (mkF m 3 #[.val (.int p0), .val (.int p1), .val (.int p2), .unset, .unset, .unset, .unset] [(.int (p2 &&& (1 : Int32)))])) _
    rw [hp0]
    show Steps p.tables e below (s₁.setTop (mkF m 3 #[.val (.int p0), .val (.int p1), .val (.int p2), .unset, .unset, .unset, .unset] [(.int (1 : Int32))])) _
    refine XS.ifNo X0.here hx rfl (hb hby at_3) rfl ((if0 _ _).trans (feq (by decide : ¬ ((1 : Int32) = (0 : Int32)))).1) ?_
    show Steps p.tables e below (s₁.setTop (mkF m 6 #[.val (.int p0), .val (.int p1), .val (.int p2), .unset, .unset, .unset, .unset] [])) _
    refine st1 _ ?_
    show Steps p.tables e below (T1.setTop (mkF m 9 #[.val (.int p0), .val (.int p1), .val (.int p2), .unset, .unset, .unset, .unset] [(.ref (w 1))])) _
    refine XS.goto X1.here hx rfl (pc0 := 9) (pc' := 15) rfl (hb hby at_9) (by decide) (by decide) ?_
    show Steps p.tables e below (T1.setTop (mkF m 15 #[.val (.int p0), .val (.int p1), .val (.int p2), .unset, .unset, .unset, .unset] [(.ref (w 1))])) _
    refine XS.astoreN X1.here hx rfl (hb hby at_15) rfl rfl (l' := #[.val (.int p0), .val (.int p1), .val (.int p2), .val (.ref (w 1)), .unset, .unset, .unset]) rfl ?_
    show Steps p.tables e below (T1.setTop (mkF m 16 #[.val (.int p0), .val (.int p1), .val (.int p2), .val (.ref (w 1)), .unset, .unset, .unset] [])) _
    refine XS.iloadN X1.here hx rfl (hb hby at_16) rfl ?_
    show Steps p.tables e below (T1.setTop (mkF m 17 #[.val (.int p0), .val (.int p1), .val (.int p2), .val (.ref (w 1)), .unset, .unset, .unset] [(.int p1)])) _
    refine XS.iconst X1.here hx rfl (hb hby at_17) ?_
    show Steps p.tables e below (T1.setTop (mkF m 18 #[.val (.int p0), .val (.int p1), .val (.int p2), .val (.ref (w 1)), .unset, .unset, .unset] [(.int (1 : Int32)), (.int p1)])) _
    refine XS.iand X1.here hx rfl (hb hby at_18) rfl ?_
    show Steps p.tables e below (T1.setTop (mkF m 19 #[.val (.int p0), .val (.int p1), .val (.int p2), .val (.ref (w 1)), .unset, .unset, .unset] [(.int (p1 &&& (1 : Int32)))])) _
    rw [hp1]
    show Steps p.tables e below (T1.setTop (mkF m 19 #[.val (.int p0), .val (.int p1), .val (.int p2), .val (.ref (w 1)), .unset, .unset, .unset] [(.int (0 : Int32))])) _
    refine XS.ifNo X1.here hx rfl (hb hby at_19) rfl ((if0 _ _).trans (teq (by decide : (0 : Int32) = (0 : Int32))).2) ?_
    show Steps p.tables e below (T1.setTop (mkF m 22 #[.val (.int p0), .val (.int p1), .val (.int p2), .val (.ref (w 1)), .unset, .unset, .unset] [])) _
    refine XS.iloadN X1.here hx rfl (hb hby at_22) rfl ?_
    show Steps p.tables e below (T1.setTop (mkF m 23 #[.val (.int p0), .val (.int p1), .val (.int p2), .val (.ref (w 1)), .unset, .unset, .unset] [(.int p0)])) _
    refine XS.istore X1.here hx rfl (hb hby at_23) rfl (l' := #[.val (.int p0), .val (.int p1), .val (.int p2), .val (.ref (w 1)), .val (.int p0), .unset, .unset]) rfl ?_
    show Steps p.tables e below (T1.setTop (mkF m 25 #[.val (.int p0), .val (.int p1), .val (.int p2), .val (.ref (w 1)), .val (.int p0), .unset, .unset] [])) _
    refine XS.goto X1.here hx rfl (pc0 := 25) (pc' := 51) rfl (hb hby at_25) (by decide) (by decide) ?_
    show Steps p.tables e below (T1.setTop (mkF m 51 #[.val (.int p0), .val (.int p1), .val (.int p2), .val (.ref (w 1)), .val (.int p0), .unset, .unset] [])) _
    refine XS.iload X1.here hx rfl (hb hby at_51) rfl ?_
    show Steps p.tables e below (T1.setTop (mkF m 53 #[.val (.int p0), .val (.int p1), .val (.int p2), .val (.ref (w 1)), .val (.int p0), .unset, .unset] [(.int p0)])) _
    refine XS.iconst X1.here hx rfl (hb hby at_53) ?_
    show Steps p.tables e below (T1.setTop (mkF m 54 #[.val (.int p0), .val (.int p1), .val (.int p2), .val (.ref (w 1)), .val (.int p0), .unset, .unset] [(.int (3 : Int32)), (.int p0)])) _
    refine XS.iand X1.here hx rfl (hb hby at_54) rfl ?_
    show Steps p.tables e below (T1.setTop (mkF m 55 #[.val (.int p0), .val (.int p1), .val (.int p2), .val (.ref (w 1)), .val (.int p0), .unset, .unset] [(.int (p0 &&& (3 : Int32)))])) _
    refine XS.ifNo X1.here hx rfl (hb hby at_55) rfl ((if0 _ _).trans (teq hp2).2) ?_
    show Steps p.tables e below (T1.setTop (mkF m 58 #[.val (.int p0), .val (.int p1), .val (.int p2), .val (.ref (w 1)), .val (.int p0), .unset, .unset] [])) _
    refine XS.iconst X1.here hx rfl (hb hby at_58) ?_
    show Steps p.tables e below (T1.setTop (mkF m 59 #[.val (.int p0), .val (.int p1), .val (.int p2), .val (.ref (w 1)), .val (.int p0), .unset, .unset] [(.int (1 : Int32))])) _
    refine XS.goto X1.here hx rfl (pc0 := 59) (pc' := 63) rfl (hb hby at_59) (by decide) (by decide) ?_
    show Steps p.tables e below (T1.setTop (mkF m 63 #[.val (.int p0), .val (.int p1), .val (.int p2), .val (.ref (w 1)), .val (.int p0), .unset, .unset] [(.int (1 : Int32))])) _
    refine XS.istore X1.here hx rfl (hb hby at_63) rfl (l' := #[.val (.int p0), .val (.int p1), .val (.int p2), .val (.ref (w 1)), .val (.int p0), .unset, .val (.int (1 : Int32))]) rfl ?_
    show Steps p.tables e below (T1.setTop (mkF m 65 #[.val (.int p0), .val (.int p1), .val (.int p2), .val (.ref (w 1)), .val (.int p0), .unset, .val (.int (1 : Int32))] [])) _
    refine XS.iload X1.here hx rfl (hb hby at_65) rfl ?_
    show Steps p.tables e below (T1.setTop (mkF m 67 #[.val (.int p0), .val (.int p1), .val (.int p2), .val (.ref (w 1)), .val (.int p0), .unset, .val (.int (1 : Int32))] [(.int (1 : Int32))])) _
    refine XS.ifYes X1.here hx rfl (pc0 := 67) (pc' := 76) rfl (hb hby at_67) rfl ((if0 _ _).trans (feq (by decide : ¬ ((1 : Int32) = (0 : Int32)))).2) (by decide) (by decide) ?_
    show Steps p.tables e below (T1.setTop (mkF m 76 #[.val (.int p0), .val (.int p1), .val (.int p2), .val (.ref (w 1)), .val (.int p0), .unset, .val (.int (1 : Int32))] [])) _
    refine XS.aloadN X1.here hx rfl (hb hby at_76) rfl rfl ?_
    show Steps p.tables e below (T1.setTop (mkF m 77 #[.val (.int p0), .val (.int p1), .val (.int p2), .val (.ref (w 1)), .val (.int p0), .unset, .val (.int (1 : Int32))] [(.ref (w 1))])) _
    refine st2 _ ?_
    show Steps p.tables e below (T2.setTop (mkF m 80 #[.val (.int p0), .val (.int p1), .val (.int p2), .val (.ref (w 1)), .val (.int p0), .unset, .val (.int (1 : Int32))] [(.ref (w 0)), (.ref (w 1))])) _
    refine Jvm.RoadKit.acmp (g := (mkF m 80 #[.val (.int p0), .val (.int p1), .val (.int p2), .val (.ref (w 1)), .val (.int p0), .unset, .val (.int (1 : Int32))] [(.ref (w 0)), (.ref (w 1))])) X2 hx rfl rfl rfl (pc0 := 80) (pc' := 89) (same := false) rfl (hb hby at_80) rfl (decide_eq_false fun q => (Fld.ne hF1_ordinal hF0_ordinal (by decide)) (Value.ref.inj q)) (by decide) (by decide) ?_
    show Steps p.tables e below (T2.setTop (mkF m 89 #[.val (.int p0), .val (.int p1), .val (.int p2), .val (.ref (w 1)), .val (.int p0), .unset, .val (.int (1 : Int32))] [])) _
    refine XS.iload X2.here hx rfl (hb hby at_89) rfl ?_
    show Steps p.tables e below (T2.setTop (mkF m 91 #[.val (.int p0), .val (.int p1), .val (.int p2), .val (.ref (w 1)), .val (.int p0), .unset, .val (.int (1 : Int32))] [(.int p0)])) _
    refine XS.bipush X2.here hx rfl (hb hby at_91) ?_
    show Steps p.tables e below (T2.setTop (mkF m 93 #[.val (.int p0), .val (.int p1), .val (.int p2), .val (.ref (w 1)), .val (.int p0), .unset, .val (.int (1 : Int32))] [(.int (25 : Int32)), (.int p0)])) _
    refine iremM X2 hx rfl (hb hby at_93) rfl (by decide : ¬ ((25 : Int32) = (0 : Int32))) ?_
    show Steps p.tables e below (T2.setTop (mkF m 94 #[.val (.int p0), .val (.int p1), .val (.int p2), .val (.ref (w 1)), .val (.int p0), .unset, .val (.int (1 : Int32))] [(.int (p0 % (25 : Int32)))])) _
    refine XS.ifNo X2.here hx rfl (hb hby at_94) rfl ((if0 _ _).trans (feq hp3).1) ?_
    show Steps p.tables e below (T2.setTop (mkF m 97 #[.val (.int p0), .val (.int p1), .val (.int p2), .val (.ref (w 1)), .val (.int p0), .unset, .val (.int (1 : Int32))] [])) _
    refine XS.iconst X2.here hx rfl (hb hby at_97) ?_
    show Steps p.tables e below (T2.setTop (mkF m 98 #[.val (.int p0), .val (.int p1), .val (.int p2), .val (.ref (w 1)), .val (.int p0), .unset, .val (.int (1 : Int32))] [(.int (1 : Int32))])) _
    refine XS.istore X2.here hx rfl (hb hby at_98) rfl (l' := #[.val (.int p0), .val (.int p1), .val (.int p2), .val (.ref (w 1)), .val (.int p0), .val (.int (1 : Int32)), .val (.int (1 : Int32))]) rfl ?_
    show Steps p.tables e below (T2.setTop (mkF m 100 #[.val (.int p0), .val (.int p1), .val (.int p2), .val (.ref (w 1)), .val (.int p0), .val (.int (1 : Int32)), .val (.int (1 : Int32))] [])) _
    refine XS.goto X2.here hx rfl (pc0 := 100) (pc' := 118) rfl (hb hby at_100) (by decide) (by decide) ?_
    show Steps p.tables e below (T2.setTop (mkF m 118 #[.val (.int p0), .val (.int p1), .val (.int p2), .val (.ref (w 1)), .val (.int p0), .val (.int (1 : Int32)), .val (.int (1 : Int32))] [])) _
    refine XS.aloadN X2.here hx rfl (hb hby at_118) rfl rfl ?_
    show Steps p.tables e below (T2.setTop (mkF m 119 #[.val (.int p0), .val (.int p1), .val (.int p2), .val (.ref (w 1)), .val (.int p0), .val (.int (1 : Int32)), .val (.int (1 : Int32))] [(.ref (w 1))])) _
    refine XS.iload X2.here hx rfl (hb hby at_119) rfl ?_
    show Steps p.tables e below (T2.setTop (mkF m 121 #[.val (.int p0), .val (.int p1), .val (.int p2), .val (.ref (w 1)), .val (.int p0), .val (.int (1 : Int32)), .val (.int (1 : Int32))] [(.int p0), (.ref (w 1))])) _
    refine st3.trans ?_
    show Steps p.tables e below (T3.setTop (mkF m 124 #[.val (.int p0), .val (.int p1), .val (.int p2), .val (.ref (w 1)), .val (.int p0), .val (.int (1 : Int32)), .val (.int (1 : Int32))] [(.int (1 : Int32))])) _
    refine XS.iload X3.here hx rfl (hb hby at_124) rfl ?_
    show Steps p.tables e below (T3.setTop (mkF m 126 #[.val (.int p0), .val (.int p1), .val (.int p2), .val (.ref (w 1)), .val (.int p0), .val (.int (1 : Int32)), .val (.int (1 : Int32))] [(.int (1 : Int32)), (.int (1 : Int32))])) _
    refine XS.icmpNo X3.here hx rfl (hb hby at_126) rfl (teq (by decide : (1 : Int32) = (1 : Int32))).2 ?_
    show Steps p.tables e below (T3.setTop (mkF m 129 #[.val (.int p0), .val (.int p1), .val (.int p2), .val (.ref (w 1)), .val (.int p0), .val (.int (1 : Int32)), .val (.int (1 : Int32))] [])) _
    refine XS.iconst X3.here hx rfl (hb hby at_129) ?_
    show Steps p.tables e below (T3.setTop (mkF m 130 #[.val (.int p0), .val (.int p1), .val (.int p2), .val (.ref (w 1)), .val (.int p0), .val (.int (1 : Int32)), .val (.int (1 : Int32))] [(.int (1 : Int32))])) _
    refine XS.goto X3.here hx rfl (pc0 := 130) (pc' := 134) rfl (hb hby at_130) (by decide) (by decide) ?_
    show Steps p.tables e below (T3.setTop (mkF m 134 #[.val (.int p0), .val (.int p1), .val (.int p2), .val (.ref (w 1)), .val (.int p0), .val (.int (1 : Int32)), .val (.int (1 : Int32))] [(.int (1 : Int32))])) _
    exact retN X3 hx (t := .boolean) Bd.returns (by simp) (hb hby at_134) hr
  · show OL (some (.int (1 : Int32))) Z.heap.size _ T3.heap _
    exact ⟨rfl, N3⟩
set_option maxRecDepth 65536 in
set_option maxHeartbeats 40000000 in
theorem rm_13 (l : Launch) (Z : State) (a0 : Array Value) (hw : ∀ d ∈ tables_1, d.before a0 Z = true) (w : Nat → Addr) (kk : Nat → ClassId) (hN : Wd Z w kk) (ws : List Jvm.Cond) (p1 : Int32) (h0 : Heap) (O0 : Old Z Z.heap.size h0) (hp0 : ¬ ((p1 % (4 : Int32)) = (0 : Int32))) :
    MetFree l (⟨"com/example/kalendae/kalendae/calendar/CalendarRule", "isLeapYear", "(I)Z"⟩ : MethodName) (head1 (Jvm.Cond.code (⟨"com/example/kalendae/kalendae/calendar/CalendarRule", "isLeapYear", "(I)Z"⟩ : MethodName) prog_15_method_4_code 2 (some .boolean) :: ws) ({ frames := 0, cells := 0, slots := 0, locals := 0 } : Room)) (fun a U => a = #[(.ref (w 1)), (.int p1)] ∧ Z.Warmed39 U.vm ∧ U.heap = h0) (fun _ _ _ _ _ => True) (fun _ U o U' => ∃ v L, o = .returned v ∧ OQ (some (.int (0 : Int32))) h0 Z.heap.size v U'.heap L ∧ FrameEnd U o U' L ({ frames := 0, cells := 0, slots := 0, locals := 0 } : Room).cells ({ frames := 0, cells := 0, slots := 0, locals := 0 } : Room).slots) := by
  have hN' := hN
  obtain ⟨hS0, hE0, hS1, hE1, hF1_ordinal, hF0_ordinal⟩ := hN'
  refine MetFree.of_bodySF (plainFor_of_name pn_0) hisR ?_
  intro p e s m args below meth c s₁ Bd hml0 hP hK
  obtain ⟨rfl, hZ, hh⟩ := hP
  have hx := Bd.exec
  have hby := Bd.bytes
  have hml : c.maxLocals = 2 := hml0
  have hown : s.vm.findClass "com/example/kalendae/kalendae/calendar/CalendarRule" = some m.cls := findClass_of_methodNamed Bd.named
  have hnm := (name_of_methodNamed Bd.named Bd.method).1
  have X0 : Stand p l e ({ frames := 0, cells := 0, slots := 0, locals := 0 } : Room) s m #[(.ref (w 1)), (.int p1)] below meth c s₁ [] 0 0 := Stand.of_body Bd
  have e0 : s₁.heap = h0 := by rw [← hh, Bd.state]; rfl
  have N0 := Fr.nil Z.heap.size
  have pre0 : ∀ t, Steps p.tables e below (s₁.setTop (mkF m 0 #[.val (.ref (w 1)), .val (.int p1)] [])) t → Steps p.tables e below (s₁.setTop (entryFrame m #[(.ref (w 1)), (.int p1)] 2)) t := fun t k => castTop (ef_0 m (.ref (w 1)) rfl (.int p1) rfl) k
  obtain ⟨fs, hr, hrun, hended, hW, hsame⟩ := X0.leave (v := some (.int (0 : Int32))) (fun h => by rw [Bd.returns] at h; cases h)
  refine ⟨_, _, pre0 _ ?_, hrun, hended, _, _, rfl, ?_, ⟨_, rfl⟩, hW, hsame.mono (by decide) (by decide)⟩
  · show Steps p.tables e below (s₁.setTop (mkF m 0 #[.val (.ref (w 1)), .val (.int p1)] [])) _
    refine XS.iloadN X0.here hx rfl (hb hby d_prog_15_method_4_code_0) rfl ?_
    show Steps p.tables e below (s₁.setTop (mkF m 1 #[.val (.ref (w 1)), .val (.int p1)] [(.int p1)])) _
    refine XS.iconst X0.here hx rfl (hb hby d_prog_15_method_4_code_1) ?_
    show Steps p.tables e below (s₁.setTop (mkF m 2 #[.val (.ref (w 1)), .val (.int p1)] [(.int (4 : Int32)), (.int p1)])) _
    refine iremM X0 hx rfl (hb hby d_prog_15_method_4_code_2) rfl (by decide : ¬ ((4 : Int32) = (0 : Int32))) ?_
    show Steps p.tables e below (s₁.setTop (mkF m 3 #[.val (.ref (w 1)), .val (.int p1)] [(.int (p1 % (4 : Int32)))])) _
    refine XS.ifYes X0.here hx rfl (pc0 := 3) (pc' := 32) rfl (hb hby d_prog_15_method_4_code_3) rfl ((if0 _ _).trans (feq hp0).2) (by decide) (by decide) ?_
    show Steps p.tables e below (s₁.setTop (mkF m 32 #[.val (.ref (w 1)), .val (.int p1)] [])) _
    refine XS.iconst X0.here hx rfl (hb hby d_prog_15_method_4_code_32) ?_
    show Steps p.tables e below (s₁.setTop (mkF m 33 #[.val (.ref (w 1)), .val (.int p1)] [(.int (0 : Int32))])) _
    exact retN X0 hx (t := .boolean) Bd.returns (by simp) (hb hby d_prog_15_method_4_code_33) hr
  · show OQ (some (.int (0 : Int32))) h0 Z.heap.size _ s₁.heap _
    rw [e0]
    exact ⟨rfl, N0, rfl⟩
set_option maxRecDepth 65536 in
set_option maxHeartbeats 40000000 in
theorem law_14 (l : Launch) (Z : State) (a0 : Array Value) (hw : ∀ d ∈ tables_1, d.before a0 Z = true) (w : Nat → Addr) (kk : Nat → ClassId) (hN : Wd Z w kk) (ws : List Jvm.Cond) (p0 : Int32) (p1 : Int32) (p2 : Int32) (h0 : Heap) (O0 : Old Z Z.heap.size h0) (hp0 : (p2 &&& (1 : Int32)) = (1 : Int32)) (hp1 : (p1 &&& (1 : Int32)) = (0 : Int32)) (hp2 : ¬ ((p0 &&& (3 : Int32)) = (0 : Int32))) (hp3 : ¬ ((p0 % (4 : Int32)) = (0 : Int32))) :
    MetFree l x (head1 (Jvm.Cond.code x code maxLocals ret :: ws) room_1) (fun a U => a = #[(.int p0), (.int p1), (.int p2)] ∧ Z.Warmed39 U.vm ∧ U.heap = h0) (fun _ _ _ _ _ => True) (fun _ U o U' => ∃ v L, o = .returned v ∧ OL (some (.int (1 : Int32))) Z.heap.size v U'.heap L ∧ FrameEnd U o U' L 0 0) := by
  have hN' := hN
  obtain ⟨hS0, hE0, hS1, hE1, hF1_ordinal, hF0_ordinal⟩ := hN'
  refine MetFree.of_bodySF (plainFor_of_name pn_1) hisR ?_
  intro p e s m args below meth c s₁ Bd hml0 hP hK
  obtain ⟨rfl, hZ, hh⟩ := hP
  have hx := Bd.exec
  have hby := Bd.bytes
  have hml : c.maxLocals = 7 := hml0
  have hown : s.vm.findClass "com/example/kalendae/kalendae/calendar/CalendarRuleIsLeapYearPinLaw" = some m.cls := findClass_of_methodNamed Bd.named
  have hnm := (name_of_methodNamed Bd.named Bd.method).1
  have X0 : Stand p l e room_1 s m #[(.int p0), (.int p1), (.int p2)] below meth c s₁ [] 0 0 := Stand.of_body Bd
  have e0 : s₁.heap = h0 := by rw [← hh, Bd.state]; rfl
  have N0 := Fr.nil Z.heap.size
  have pre0 : ∀ t, Steps p.tables e below (s₁.setTop (mkF m 0 #[.val (.int p0), .val (.int p1), .val (.int p2), .unset, .unset, .unset, .unset] [])) t → Steps p.tables e below (s₁.setTop (entryFrame m #[(.int p0), (.int p1), (.int p2)] maxLocals)) t := fun t k => castTop (ef_1 m (.int p0) rfl (.int p1) rfl (.int p2) rfl) k
  obtain ⟨T1, X1, e1, st1⟩ := getS2 X0 hx hZ hown (host := "") (Or.inl (W hw 8 rfl)) Via.refl e0 (hS1.ext O0.2) (g := (mkF m 6 #[.val (.int p0), .val (.int p1), .val (.int p2), .unset, .unset, .unset, .unset] [])) rfl (hb hby at_6)
  obtain ⟨cq2, kq2, q2a, q2b, q2c⟩ := isOf hZ e1 (hE1.ext O0.2)
  obtain ⟨_, _, ⟨T2, L2, k2, n2⟩, -, X2, ⟨Lc2, hQ2, l2, y2, z2⟩, st2⟩ := X1.virtualBack hx (y := (⟨"com/example/kalendae/kalendae/calendar/CalendarRule", "isLeapYear", "(I)Z"⟩ : MethodName)) (z := (⟨"com/example/kalendae/kalendae/calendar/CalendarRule", "isLeapYear", "(I)Z"⟩ : MethodName)) hown (mvT hZ (W hw 3 rfl)) (mvT hZ (W hw 4 rfl)) (notFace_of_selects (args := #[]) (mvT hZ (W hw 6 rfl))) (mvT hZ (W hw 6 rfl)) (mvT hZ (W hw 5 rfl)) (by decide) (backOf (W := 0) (rm_13 l Z a0 hw w kk hN [] p0 h0 O0 hp3) hZ (W hw 7 rfl) (W hw 1 rfl) (by decide) (by decide)) q2a q2c (g := (mkF m 121 #[.val (.int p0), .val (.int p1), .val (.int p2), .val (.ref (w 1)), .val (.int p0), .val (.int (0 : Int32)), .val (.int (0 : Int32))] [(.int p0), (.ref (w 1))])) rfl (by rw [hml]; rfl) (Steps.refl _) (argsL := [(.int p0)]) (rest := []) (lenOf pd_0 rfl) rfl (by show 2 * 0 + _ ≤ _; exact Nat.le_of_eq rfl) (hb hby at_121) (fun _ _ => ⟨rfl, e1, (by decide : 0 + 0 ≤ _), (by decide : 0 + 0 ≤ _)⟩)
  dsimp only [Pt.U, Pt.locs, Pt.cells, Pt.slots] at X2 l2 y2 z2 st2 hQ2
  subst l2 y2 z2
  obtain ⟨rfl, N2q, e2⟩ := hQ2
  have N2 := Fr.app N0 N2q
  obtain ⟨fs, hr, hrun, hended, hW, hsame⟩ := X2.leave (v := some (.int (1 : Int32))) (fun h => by rw [Bd.returns] at h; cases h)
  refine ⟨_, _, pre0 _ ?_, hrun, hended, _, _, rfl, ?_, ⟨_, rfl⟩, hW, hsame.mono (by decide) (by decide)⟩
  · show Steps p.tables e below (s₁.setTop (mkF m 0 #[.val (.int p0), .val (.int p1), .val (.int p2), .unset, .unset, .unset, .unset] [])) _
    refine XS.iloadN X0.here hx rfl (hb hby at_0) rfl ?_
    show Steps p.tables e below (s₁.setTop (mkF m 1 #[.val (.int p0), .val (.int p1), .val (.int p2), .unset, .unset, .unset, .unset] [(.int p2)])) _
    refine XS.iconst X0.here hx rfl (hb hby at_1) ?_
    show Steps p.tables e below (s₁.setTop (mkF m 2 #[.val (.int p0), .val (.int p1), .val (.int p2), .unset, .unset, .unset, .unset] [(.int (1 : Int32)), (.int p2)])) _
    refine XS.iand X0.here hx rfl (hb hby at_2) rfl ?_
    show Steps p.tables e below (s₁.setTop (mkF m 3 #[.val (.int p0), .val (.int p1), .val (.int p2), .unset, .unset, .unset, .unset] [(.int (p2 &&& (1 : Int32)))])) _
    rw [hp0]
    show Steps p.tables e below (s₁.setTop (mkF m 3 #[.val (.int p0), .val (.int p1), .val (.int p2), .unset, .unset, .unset, .unset] [(.int (1 : Int32))])) _
    refine XS.ifNo X0.here hx rfl (hb hby at_3) rfl ((if0 _ _).trans (feq (by decide : ¬ ((1 : Int32) = (0 : Int32)))).1) ?_
    show Steps p.tables e below (s₁.setTop (mkF m 6 #[.val (.int p0), .val (.int p1), .val (.int p2), .unset, .unset, .unset, .unset] [])) _
    refine st1 _ ?_
    show Steps p.tables e below (T1.setTop (mkF m 9 #[.val (.int p0), .val (.int p1), .val (.int p2), .unset, .unset, .unset, .unset] [(.ref (w 1))])) _
    refine XS.goto X1.here hx rfl (pc0 := 9) (pc' := 15) rfl (hb hby at_9) (by decide) (by decide) ?_
    show Steps p.tables e below (T1.setTop (mkF m 15 #[.val (.int p0), .val (.int p1), .val (.int p2), .unset, .unset, .unset, .unset] [(.ref (w 1))])) _
    refine XS.astoreN X1.here hx rfl (hb hby at_15) rfl rfl (l' := #[.val (.int p0), .val (.int p1), .val (.int p2), .val (.ref (w 1)), .unset, .unset, .unset]) rfl ?_
    show Steps p.tables e below (T1.setTop (mkF m 16 #[.val (.int p0), .val (.int p1), .val (.int p2), .val (.ref (w 1)), .unset, .unset, .unset] [])) _
    refine XS.iloadN X1.here hx rfl (hb hby at_16) rfl ?_
    show Steps p.tables e below (T1.setTop (mkF m 17 #[.val (.int p0), .val (.int p1), .val (.int p2), .val (.ref (w 1)), .unset, .unset, .unset] [(.int p1)])) _
    refine XS.iconst X1.here hx rfl (hb hby at_17) ?_
    show Steps p.tables e below (T1.setTop (mkF m 18 #[.val (.int p0), .val (.int p1), .val (.int p2), .val (.ref (w 1)), .unset, .unset, .unset] [(.int (1 : Int32)), (.int p1)])) _
    refine XS.iand X1.here hx rfl (hb hby at_18) rfl ?_
    show Steps p.tables e below (T1.setTop (mkF m 19 #[.val (.int p0), .val (.int p1), .val (.int p2), .val (.ref (w 1)), .unset, .unset, .unset] [(.int (p1 &&& (1 : Int32)))])) _
    rw [hp1]
    show Steps p.tables e below (T1.setTop (mkF m 19 #[.val (.int p0), .val (.int p1), .val (.int p2), .val (.ref (w 1)), .unset, .unset, .unset] [(.int (0 : Int32))])) _
    refine XS.ifNo X1.here hx rfl (hb hby at_19) rfl ((if0 _ _).trans (teq (by decide : (0 : Int32) = (0 : Int32))).2) ?_
    show Steps p.tables e below (T1.setTop (mkF m 22 #[.val (.int p0), .val (.int p1), .val (.int p2), .val (.ref (w 1)), .unset, .unset, .unset] [])) _
    refine XS.iloadN X1.here hx rfl (hb hby at_22) rfl ?_
    show Steps p.tables e below (T1.setTop (mkF m 23 #[.val (.int p0), .val (.int p1), .val (.int p2), .val (.ref (w 1)), .unset, .unset, .unset] [(.int p0)])) _
    refine XS.istore X1.here hx rfl (hb hby at_23) rfl (l' := #[.val (.int p0), .val (.int p1), .val (.int p2), .val (.ref (w 1)), .val (.int p0), .unset, .unset]) rfl ?_
    show Steps p.tables e below (T1.setTop (mkF m 25 #[.val (.int p0), .val (.int p1), .val (.int p2), .val (.ref (w 1)), .val (.int p0), .unset, .unset] [])) _
    refine XS.goto X1.here hx rfl (pc0 := 25) (pc' := 51) rfl (hb hby at_25) (by decide) (by decide) ?_
    show Steps p.tables e below (T1.setTop (mkF m 51 #[.val (.int p0), .val (.int p1), .val (.int p2), .val (.ref (w 1)), .val (.int p0), .unset, .unset] [])) _
    refine XS.iload X1.here hx rfl (hb hby at_51) rfl ?_
    show Steps p.tables e below (T1.setTop (mkF m 53 #[.val (.int p0), .val (.int p1), .val (.int p2), .val (.ref (w 1)), .val (.int p0), .unset, .unset] [(.int p0)])) _
    refine XS.iconst X1.here hx rfl (hb hby at_53) ?_
    show Steps p.tables e below (T1.setTop (mkF m 54 #[.val (.int p0), .val (.int p1), .val (.int p2), .val (.ref (w 1)), .val (.int p0), .unset, .unset] [(.int (3 : Int32)), (.int p0)])) _
    refine XS.iand X1.here hx rfl (hb hby at_54) rfl ?_
    show Steps p.tables e below (T1.setTop (mkF m 55 #[.val (.int p0), .val (.int p1), .val (.int p2), .val (.ref (w 1)), .val (.int p0), .unset, .unset] [(.int (p0 &&& (3 : Int32)))])) _
    refine XS.ifYes X1.here hx rfl (pc0 := 55) (pc' := 62) rfl (hb hby at_55) rfl ((if0 _ _).trans (feq hp2).2) (by decide) (by decide) ?_
    show Steps p.tables e below (T1.setTop (mkF m 62 #[.val (.int p0), .val (.int p1), .val (.int p2), .val (.ref (w 1)), .val (.int p0), .unset, .unset] [])) _
    refine XS.iconst X1.here hx rfl (hb hby at_62) ?_
    show Steps p.tables e below (T1.setTop (mkF m 63 #[.val (.int p0), .val (.int p1), .val (.int p2), .val (.ref (w 1)), .val (.int p0), .unset, .unset] [(.int (0 : Int32))])) _
    refine XS.istore X1.here hx rfl (hb hby at_63) rfl (l' := #[.val (.int p0), .val (.int p1), .val (.int p2), .val (.ref (w 1)), .val (.int p0), .unset, .val (.int (0 : Int32))]) rfl ?_
    show Steps p.tables e below (T1.setTop (mkF m 65 #[.val (.int p0), .val (.int p1), .val (.int p2), .val (.ref (w 1)), .val (.int p0), .unset, .val (.int (0 : Int32))] [])) _
    refine XS.iload X1.here hx rfl (hb hby at_65) rfl ?_
    show Steps p.tables e below (T1.setTop (mkF m 67 #[.val (.int p0), .val (.int p1), .val (.int p2), .val (.ref (w 1)), .val (.int p0), .unset, .val (.int (0 : Int32))] [(.int (0 : Int32))])) _
    refine XS.ifNo X1.here hx rfl (hb hby at_67) rfl ((if0 _ _).trans (teq (by decide : (0 : Int32) = (0 : Int32))).2) ?_
    show Steps p.tables e below (T1.setTop (mkF m 70 #[.val (.int p0), .val (.int p1), .val (.int p2), .val (.ref (w 1)), .val (.int p0), .unset, .val (.int (0 : Int32))] [])) _
    refine XS.iconst X1.here hx rfl (hb hby at_70) ?_
    show Steps p.tables e below (T1.setTop (mkF m 71 #[.val (.int p0), .val (.int p1), .val (.int p2), .val (.ref (w 1)), .val (.int p0), .unset, .val (.int (0 : Int32))] [(.int (0 : Int32))])) _
    refine XS.istore X1.here hx rfl (hb hby at_71) rfl (l' := #[.val (.int p0), .val (.int p1), .val (.int p2), .val (.ref (w 1)), .val (.int p0), .val (.int (0 : Int32)), .val (.int (0 : Int32))]) rfl ?_
    show Steps p.tables e below (T1.setTop (mkF m 73 #[.val (.int p0), .val (.int p1), .val (.int p2), .val (.ref (w 1)), .val (.int p0), .val (.int (0 : Int32)), .val (.int (0 : Int32))] [])) _
    refine XS.goto X1.here hx rfl (pc0 := 73) (pc' := 118) rfl (hb hby at_73) (by decide) (by decide) ?_
    show Steps p.tables e below (T1.setTop (mkF m 118 #[.val (.int p0), .val (.int p1), .val (.int p2), .val (.ref (w 1)), .val (.int p0), .val (.int (0 : Int32)), .val (.int (0 : Int32))] [])) _
    refine XS.aloadN X1.here hx rfl (hb hby at_118) rfl rfl ?_
    show Steps p.tables e below (T1.setTop (mkF m 119 #[.val (.int p0), .val (.int p1), .val (.int p2), .val (.ref (w 1)), .val (.int p0), .val (.int (0 : Int32)), .val (.int (0 : Int32))] [(.ref (w 1))])) _
    refine XS.iload X1.here hx rfl (hb hby at_119) rfl ?_
    show Steps p.tables e below (T1.setTop (mkF m 121 #[.val (.int p0), .val (.int p1), .val (.int p2), .val (.ref (w 1)), .val (.int p0), .val (.int (0 : Int32)), .val (.int (0 : Int32))] [(.int p0), (.ref (w 1))])) _
    refine st2.trans ?_
    show Steps p.tables e below (T2.setTop (mkF m 124 #[.val (.int p0), .val (.int p1), .val (.int p2), .val (.ref (w 1)), .val (.int p0), .val (.int (0 : Int32)), .val (.int (0 : Int32))] [(.int (0 : Int32))])) _
    refine XS.iload X2.here hx rfl (hb hby at_124) rfl ?_
    show Steps p.tables e below (T2.setTop (mkF m 126 #[.val (.int p0), .val (.int p1), .val (.int p2), .val (.ref (w 1)), .val (.int p0), .val (.int (0 : Int32)), .val (.int (0 : Int32))] [(.int (0 : Int32)), (.int (0 : Int32))])) _
    refine XS.icmpNo X2.here hx rfl (hb hby at_126) rfl (teq (by decide : (0 : Int32) = (0 : Int32))).2 ?_
    show Steps p.tables e below (T2.setTop (mkF m 129 #[.val (.int p0), .val (.int p1), .val (.int p2), .val (.ref (w 1)), .val (.int p0), .val (.int (0 : Int32)), .val (.int (0 : Int32))] [])) _
    refine XS.iconst X2.here hx rfl (hb hby at_129) ?_
    show Steps p.tables e below (T2.setTop (mkF m 130 #[.val (.int p0), .val (.int p1), .val (.int p2), .val (.ref (w 1)), .val (.int p0), .val (.int (0 : Int32)), .val (.int (0 : Int32))] [(.int (1 : Int32))])) _
    refine XS.goto X2.here hx rfl (pc0 := 130) (pc' := 134) rfl (hb hby at_130) (by decide) (by decide) ?_
    show Steps p.tables e below (T2.setTop (mkF m 134 #[.val (.int p0), .val (.int p1), .val (.int p2), .val (.ref (w 1)), .val (.int p0), .val (.int (0 : Int32)), .val (.int (0 : Int32))] [(.int (1 : Int32))])) _
    exact retN X2 hx (t := .boolean) Bd.returns (by simp) (hb hby at_134) hr
  · show OL (some (.int (1 : Int32))) Z.heap.size _ T2.heap _
    exact ⟨rfl, N2⟩
set_option maxRecDepth 65536 in
set_option maxHeartbeats 40000000 in
theorem law_15 (l : Launch) (Z : State) (a0 : Array Value) (hw : ∀ d ∈ tables_1, d.before a0 Z = true) (w : Nat → Addr) (kk : Nat → ClassId) (hN : Wd Z w kk) (ws : List Jvm.Cond) (p0 : Int32) (p1 : Int32) (p2 : Int32) (h0 : Heap) (O0 : Old Z Z.heap.size h0) (hp0 : (p2 &&& (1 : Int32)) = (1 : Int32)) (hp1 : (p1 &&& (1 : Int32)) = (1 : Int32)) (hp2 : ((((p0 / (400 : Int32)) * (400 : Int32)) + ((p1 >>> ((1 : Int32) &&& 31)) % (400 : Int32))) &&& (3 : Int32)) = (0 : Int32)) (hp3 : ((((p0 / (400 : Int32)) * (400 : Int32)) + ((p1 >>> ((1 : Int32) &&& 31)) % (400 : Int32))) % (25 : Int32)) = (0 : Int32)) (hp4 : ((((p0 / (400 : Int32)) * (400 : Int32)) + ((p1 >>> ((1 : Int32) &&& 31)) % (400 : Int32))) &&& (15 : Int32)) = (0 : Int32)) (hp5 : ((((p0 / (400 : Int32)) * (400 : Int32)) + ((p1 >>> ((1 : Int32) &&& 31)) % (400 : Int32))) % (4 : Int32)) = (0 : Int32)) (hp6 : ((((p0 / (400 : Int32)) * (400 : Int32)) + ((p1 >>> ((1 : Int32) &&& 31)) % (400 : Int32))) % (100 : Int32)) = (0 : Int32)) (hp7 : ((((p0 / (400 : Int32)) * (400 : Int32)) + ((p1 >>> ((1 : Int32) &&& 31)) % (400 : Int32))) % (400 : Int32)) = (0 : Int32)) :
    MetFree l x (head1 (Jvm.Cond.code x code maxLocals ret :: ws) room_1) (fun a U => a = #[(.int p0), (.int p1), (.int p2)] ∧ Z.Warmed39 U.vm ∧ U.heap = h0) (fun _ _ _ _ _ => True) (fun _ U o U' => ∃ v L, o = .returned v ∧ OL (some (.int (1 : Int32))) Z.heap.size v U'.heap L ∧ FrameEnd U o U' L 0 0) := by
  have hN' := hN
  obtain ⟨hS0, hE0, hS1, hE1, hF1_ordinal, hF0_ordinal⟩ := hN'
  refine MetFree.of_bodySF (plainFor_of_name pn_1) hisR ?_
  intro p e s m args below meth c s₁ Bd hml0 hP hK
  obtain ⟨rfl, hZ, hh⟩ := hP
  have hx := Bd.exec
  have hby := Bd.bytes
  have hml : c.maxLocals = 7 := hml0
  have hown : s.vm.findClass "com/example/kalendae/kalendae/calendar/CalendarRuleIsLeapYearPinLaw" = some m.cls := findClass_of_methodNamed Bd.named
  have hnm := (name_of_methodNamed Bd.named Bd.method).1
  have X0 : Stand p l e room_1 s m #[(.int p0), (.int p1), (.int p2)] below meth c s₁ [] 0 0 := Stand.of_body Bd
  have e0 : s₁.heap = h0 := by rw [← hh, Bd.state]; rfl
  have N0 := Fr.nil Z.heap.size
  have pre0 : ∀ t, Steps p.tables e below (s₁.setTop (mkF m 0 #[.val (.int p0), .val (.int p1), .val (.int p2), .unset, .unset, .unset, .unset] [])) t → Steps p.tables e below (s₁.setTop (entryFrame m #[(.int p0), (.int p1), (.int p2)] maxLocals)) t := fun t k => castTop (ef_1 m (.int p0) rfl (.int p1) rfl (.int p2) rfl) k
  obtain ⟨T1, X1, e1, st1⟩ := getS2 X0 hx hZ hown (host := "") (Or.inl (W hw 8 rfl)) Via.refl e0 (hS1.ext O0.2) (g := (mkF m 6 #[.val (.int p0), .val (.int p1), .val (.int p2), .unset, .unset, .unset, .unset] [])) rfl (hb hby at_6)
  obtain ⟨T2, X2, e2, st2⟩ := getS2 X1 hx hZ hown (host := "") (Or.inl (W hw 0 rfl)) Via.refl e1 (hS0.ext O0.2) (g := (mkF m 77 #[.val (.int p0), .val (.int p1), .val (.int p2), .val (.ref (w 1)), .val (.int (((p0 / (400 : Int32)) * (400 : Int32)) + ((p1 >>> ((1 : Int32) &&& 31)) % (400 : Int32)))), .val (.int ((p1 >>> ((1 : Int32) &&& 31)) % (400 : Int32))), .val (.int (1 : Int32))] [(.ref (w 1))])) rfl (hb hby at_77)
  obtain ⟨cq3, kq3, q3a, q3b, q3c⟩ := isOf hZ e2 (hE1.ext O0.2)
  obtain ⟨_, _, ⟨T3, L3, k3, n3⟩, -, X3, ⟨Lc3, hQ3, l3, y3, z3⟩, st3⟩ := X2.virtualBack hx (y := (⟨"com/example/kalendae/kalendae/calendar/CalendarRule", "isLeapYear", "(I)Z"⟩ : MethodName)) (z := (⟨"com/example/kalendae/kalendae/calendar/CalendarRule", "isLeapYear", "(I)Z"⟩ : MethodName)) hown (mvT hZ (W hw 3 rfl)) (mvT hZ (W hw 4 rfl)) (notFace_of_selects (args := #[]) (mvT hZ (W hw 6 rfl))) (mvT hZ (W hw 6 rfl)) (mvT hZ (W hw 5 rfl)) (by decide) (backOf (W := 0) (rm_7 l Z a0 hw w kk hN [] (((p0 / (400 : Int32)) * (400 : Int32)) + ((p1 >>> ((1 : Int32) &&& 31)) % (400 : Int32))) h0 O0 hp5 hp6 hp7) hZ (W hw 7 rfl) (W hw 1 rfl) (by decide) (by decide)) q3a q3c (g := (mkF m 121 #[.val (.int p0), .val (.int p1), .val (.int p2), .val (.ref (w 1)), .val (.int (((p0 / (400 : Int32)) * (400 : Int32)) + ((p1 >>> ((1 : Int32) &&& 31)) % (400 : Int32)))), .val (.int (1 : Int32)), .val (.int (1 : Int32))] [(.int (((p0 / (400 : Int32)) * (400 : Int32)) + ((p1 >>> ((1 : Int32) &&& 31)) % (400 : Int32)))), (.ref (w 1))])) rfl (by rw [hml]; rfl) (Steps.refl _) (argsL := [(.int (((p0 / (400 : Int32)) * (400 : Int32)) + ((p1 >>> ((1 : Int32) &&& 31)) % (400 : Int32))))]) (rest := []) (lenOf pd_0 rfl) rfl (by show 2 * 0 + _ ≤ _; exact Nat.le_of_eq rfl) (hb hby at_121) (fun _ _ => ⟨rfl, e2, (by decide : 0 + 0 ≤ _), (by decide : 0 + 0 ≤ _)⟩)
  dsimp only [Pt.U, Pt.locs, Pt.cells, Pt.slots] at X3 l3 y3 z3 st3 hQ3
  subst l3 y3 z3
  obtain ⟨rfl, N3q, e3⟩ := hQ3
  have N3 := Fr.app N0 N3q
  obtain ⟨fs, hr, hrun, hended, hW, hsame⟩ := X3.leave (v := some (.int (1 : Int32))) (fun h => by rw [Bd.returns] at h; cases h)
  refine ⟨_, _, pre0 _ ?_, hrun, hended, _, _, rfl, ?_, ⟨_, rfl⟩, hW, hsame.mono (by decide) (by decide)⟩
  · show Steps p.tables e below (s₁.setTop (mkF m 0 #[.val (.int p0), .val (.int p1), .val (.int p2), .unset, .unset, .unset, .unset] [])) _
    refine XS.iloadN X0.here hx rfl (hb hby at_0) rfl ?_
    show Steps p.tables e below (s₁.setTop (mkF m 1 #[.val (.int p0), .val (.int p1), .val (.int p2), .unset, .unset, .unset, .unset] [(.int p2)])) _
    refine XS.iconst X0.here hx rfl (hb hby at_1) ?_
    show Steps p.tables e below (s₁.setTop (mkF m 2 #[.val (.int p0), .val (.int p1), .val (.int p2), .unset, .unset, .unset, .unset] [(.int (1 : Int32)), (.int p2)])) _
    refine XS.iand X0.here hx rfl (hb hby at_2) rfl ?_
    show Steps p.tables e below (s₁.setTop (mkF m 3 #[.val (.int p0), .val (.int p1), .val (.int p2), .unset, .unset, .unset, .unset] [(.int (p2 &&& (1 : Int32)))])) _
    rw [hp0]
    show Steps p.tables e below (s₁.setTop (mkF m 3 #[.val (.int p0), .val (.int p1), .val (.int p2), .unset, .unset, .unset, .unset] [(.int (1 : Int32))])) _
    refine XS.ifNo X0.here hx rfl (hb hby at_3) rfl ((if0 _ _).trans (feq (by decide : ¬ ((1 : Int32) = (0 : Int32)))).1) ?_
    show Steps p.tables e below (s₁.setTop (mkF m 6 #[.val (.int p0), .val (.int p1), .val (.int p2), .unset, .unset, .unset, .unset] [])) _
    refine st1 _ ?_
    show Steps p.tables e below (T1.setTop (mkF m 9 #[.val (.int p0), .val (.int p1), .val (.int p2), .unset, .unset, .unset, .unset] [(.ref (w 1))])) _
    refine XS.goto X1.here hx rfl (pc0 := 9) (pc' := 15) rfl (hb hby at_9) (by decide) (by decide) ?_
    show Steps p.tables e below (T1.setTop (mkF m 15 #[.val (.int p0), .val (.int p1), .val (.int p2), .unset, .unset, .unset, .unset] [(.ref (w 1))])) _
    refine XS.astoreN X1.here hx rfl (hb hby at_15) rfl rfl (l' := #[.val (.int p0), .val (.int p1), .val (.int p2), .val (.ref (w 1)), .unset, .unset, .unset]) rfl ?_
    show Steps p.tables e below (T1.setTop (mkF m 16 #[.val (.int p0), .val (.int p1), .val (.int p2), .val (.ref (w 1)), .unset, .unset, .unset] [])) _
    refine XS.iloadN X1.here hx rfl (hb hby at_16) rfl ?_
    show Steps p.tables e below (T1.setTop (mkF m 17 #[.val (.int p0), .val (.int p1), .val (.int p2), .val (.ref (w 1)), .unset, .unset, .unset] [(.int p1)])) _
    refine XS.iconst X1.here hx rfl (hb hby at_17) ?_
    show Steps p.tables e below (T1.setTop (mkF m 18 #[.val (.int p0), .val (.int p1), .val (.int p2), .val (.ref (w 1)), .unset, .unset, .unset] [(.int (1 : Int32)), (.int p1)])) _
    refine XS.iand X1.here hx rfl (hb hby at_18) rfl ?_
    show Steps p.tables e below (T1.setTop (mkF m 19 #[.val (.int p0), .val (.int p1), .val (.int p2), .val (.ref (w 1)), .unset, .unset, .unset] [(.int (p1 &&& (1 : Int32)))])) _
    rw [hp1]
    show Steps p.tables e below (T1.setTop (mkF m 19 #[.val (.int p0), .val (.int p1), .val (.int p2), .val (.ref (w 1)), .unset, .unset, .unset] [(.int (1 : Int32))])) _
    refine XS.ifYes X1.here hx rfl (pc0 := 19) (pc' := 28) rfl (hb hby at_19) rfl ((if0 _ _).trans (feq (by decide : ¬ ((1 : Int32) = (0 : Int32)))).2) (by decide) (by decide) ?_
    show Steps p.tables e below (T1.setTop (mkF m 28 #[.val (.int p0), .val (.int p1), .val (.int p2), .val (.ref (w 1)), .unset, .unset, .unset] [])) _
    refine XS.iloadN X1.here hx rfl (hb hby at_28) rfl ?_
    show Steps p.tables e below (T1.setTop (mkF m 29 #[.val (.int p0), .val (.int p1), .val (.int p2), .val (.ref (w 1)), .unset, .unset, .unset] [(.int p1)])) _
    refine XS.iconst X1.here hx rfl (hb hby at_29) ?_
    show Steps p.tables e below (T1.setTop (mkF m 30 #[.val (.int p0), .val (.int p1), .val (.int p2), .val (.ref (w 1)), .unset, .unset, .unset] [(.int (1 : Int32)), (.int p1)])) _
    refine XS.ishr X1.here hx rfl (hb hby at_30) rfl ?_
    show Steps p.tables e below (T1.setTop (mkF m 31 #[.val (.int p0), .val (.int p1), .val (.int p2), .val (.ref (w 1)), .unset, .unset, .unset] [(.int (p1 >>> ((1 : Int32) &&& 31)))])) _
    refine XS.sipush X1.here hx rfl (hb hby at_31) ?_
    show Steps p.tables e below (T1.setTop (mkF m 34 #[.val (.int p0), .val (.int p1), .val (.int p2), .val (.ref (w 1)), .unset, .unset, .unset] [(.int (400 : Int32)), (.int (p1 >>> ((1 : Int32) &&& 31)))])) _
    refine iremM X1 hx rfl (hb hby at_34) rfl (by decide : ¬ ((400 : Int32) = (0 : Int32))) ?_
    show Steps p.tables e below (T1.setTop (mkF m 35 #[.val (.int p0), .val (.int p1), .val (.int p2), .val (.ref (w 1)), .unset, .unset, .unset] [(.int ((p1 >>> ((1 : Int32) &&& 31)) % (400 : Int32)))])) _
    refine XS.istore X1.here hx rfl (hb hby at_35) rfl (l' := #[.val (.int p0), .val (.int p1), .val (.int p2), .val (.ref (w 1)), .unset, .val (.int ((p1 >>> ((1 : Int32) &&& 31)) % (400 : Int32))), .unset]) rfl ?_
    show Steps p.tables e below (T1.setTop (mkF m 37 #[.val (.int p0), .val (.int p1), .val (.int p2), .val (.ref (w 1)), .unset, .val (.int ((p1 >>> ((1 : Int32) &&& 31)) % (400 : Int32))), .unset] [])) _
    refine XS.iloadN X1.here hx rfl (hb hby at_37) rfl ?_
    show Steps p.tables e below (T1.setTop (mkF m 38 #[.val (.int p0), .val (.int p1), .val (.int p2), .val (.ref (w 1)), .unset, .val (.int ((p1 >>> ((1 : Int32) &&& 31)) % (400 : Int32))), .unset] [(.int p0)])) _
    refine XS.sipush X1.here hx rfl (hb hby at_38) ?_
    show Steps p.tables e below (T1.setTop (mkF m 41 #[.val (.int p0), .val (.int p1), .val (.int p2), .val (.ref (w 1)), .unset, .val (.int ((p1 >>> ((1 : Int32) &&& 31)) % (400 : Int32))), .unset] [(.int (400 : Int32)), (.int p0)])) _
    refine XS.idiv X1.here hx rfl (hb hby at_41) rfl (by decide : ¬ ((400 : Int32) = (0 : Int32))) ?_
    show Steps p.tables e below (T1.setTop (mkF m 42 #[.val (.int p0), .val (.int p1), .val (.int p2), .val (.ref (w 1)), .unset, .val (.int ((p1 >>> ((1 : Int32) &&& 31)) % (400 : Int32))), .unset] [(.int (p0 / (400 : Int32)))])) _
    refine XS.sipush X1.here hx rfl (hb hby at_42) ?_
    show Steps p.tables e below (T1.setTop (mkF m 45 #[.val (.int p0), .val (.int p1), .val (.int p2), .val (.ref (w 1)), .unset, .val (.int ((p1 >>> ((1 : Int32) &&& 31)) % (400 : Int32))), .unset] [(.int (400 : Int32)), (.int (p0 / (400 : Int32)))])) _
    refine XS.imul X1.here hx rfl (hb hby at_45) rfl ?_
    show Steps p.tables e below (T1.setTop (mkF m 46 #[.val (.int p0), .val (.int p1), .val (.int p2), .val (.ref (w 1)), .unset, .val (.int ((p1 >>> ((1 : Int32) &&& 31)) % (400 : Int32))), .unset] [(.int ((p0 / (400 : Int32)) * (400 : Int32)))])) _
    refine XS.iload X1.here hx rfl (hb hby at_46) rfl ?_
    show Steps p.tables e below (T1.setTop (mkF m 48 #[.val (.int p0), .val (.int p1), .val (.int p2), .val (.ref (w 1)), .unset, .val (.int ((p1 >>> ((1 : Int32) &&& 31)) % (400 : Int32))), .unset] [(.int ((p1 >>> ((1 : Int32) &&& 31)) % (400 : Int32))), (.int ((p0 / (400 : Int32)) * (400 : Int32)))])) _
    refine XS.iadd X1.here hx rfl (hb hby at_48) rfl ?_
    show Steps p.tables e below (T1.setTop (mkF m 49 #[.val (.int p0), .val (.int p1), .val (.int p2), .val (.ref (w 1)), .unset, .val (.int ((p1 >>> ((1 : Int32) &&& 31)) % (400 : Int32))), .unset] [(.int (((p0 / (400 : Int32)) * (400 : Int32)) + ((p1 >>> ((1 : Int32) &&& 31)) % (400 : Int32))))])) _
    refine XS.istore X1.here hx rfl (hb hby at_49) rfl (l' := #[.val (.int p0), .val (.int p1), .val (.int p2), .val (.ref (w 1)), .val (.int (((p0 / (400 : Int32)) * (400 : Int32)) + ((p1 >>> ((1 : Int32) &&& 31)) % (400 : Int32)))), .val (.int ((p1 >>> ((1 : Int32) &&& 31)) % (400 : Int32))), .unset]) rfl ?_
    show Steps p.tables e below (T1.setTop (mkF m 51 #[.val (.int p0), .val (.int p1), .val (.int p2), .val (.ref (w 1)), .val (.int (((p0 / (400 : Int32)) * (400 : Int32)) + ((p1 >>> ((1 : Int32) &&& 31)) % (400 : Int32)))), .val (.int ((p1 >>> ((1 : Int32) &&& 31)) % (400 : Int32))), .unset] [])) _
    refine XS.iload X1.here hx rfl (hb hby at_51) rfl ?_
    show Steps p.tables e below (T1.setTop (mkF m 53 #[.val (.int p0), .val (.int p1), .val (.int p2), .val (.ref (w 1)), .val (.int (((p0 / (400 : Int32)) * (400 : Int32)) + ((p1 >>> ((1 : Int32) &&& 31)) % (400 : Int32)))), .val (.int ((p1 >>> ((1 : Int32) &&& 31)) % (400 : Int32))), .unset] [(.int (((p0 / (400 : Int32)) * (400 : Int32)) + ((p1 >>> ((1 : Int32) &&& 31)) % (400 : Int32))))])) _
    refine XS.iconst X1.here hx rfl (hb hby at_53) ?_
    show Steps p.tables e below (T1.setTop (mkF m 54 #[.val (.int p0), .val (.int p1), .val (.int p2), .val (.ref (w 1)), .val (.int (((p0 / (400 : Int32)) * (400 : Int32)) + ((p1 >>> ((1 : Int32) &&& 31)) % (400 : Int32)))), .val (.int ((p1 >>> ((1 : Int32) &&& 31)) % (400 : Int32))), .unset] [(.int (3 : Int32)), (.int (((p0 / (400 : Int32)) * (400 : Int32)) + ((p1 >>> ((1 : Int32) &&& 31)) % (400 : Int32))))])) _
    refine XS.iand X1.here hx rfl (hb hby at_54) rfl ?_
    show Steps p.tables e below (T1.setTop (mkF m 55 #[.val (.int p0), .val (.int p1), .val (.int p2), .val (.ref (w 1)), .val (.int (((p0 / (400 : Int32)) * (400 : Int32)) + ((p1 >>> ((1 : Int32) &&& 31)) % (400 : Int32)))), .val (.int ((p1 >>> ((1 : Int32) &&& 31)) % (400 : Int32))), .unset] [(.int ((((p0 / (400 : Int32)) * (400 : Int32)) + ((p1 >>> ((1 : Int32) &&& 31)) % (400 : Int32))) &&& (3 : Int32)))])) _
    refine XS.ifNo X1.here hx rfl (hb hby at_55) rfl ((if0 _ _).trans (teq hp2).2) ?_
    show Steps p.tables e below (T1.setTop (mkF m 58 #[.val (.int p0), .val (.int p1), .val (.int p2), .val (.ref (w 1)), .val (.int (((p0 / (400 : Int32)) * (400 : Int32)) + ((p1 >>> ((1 : Int32) &&& 31)) % (400 : Int32)))), .val (.int ((p1 >>> ((1 : Int32) &&& 31)) % (400 : Int32))), .unset] [])) _
    refine XS.iconst X1.here hx rfl (hb hby at_58) ?_
    show Steps p.tables e below (T1.setTop (mkF m 59 #[.val (.int p0), .val (.int p1), .val (.int p2), .val (.ref (w 1)), .val (.int (((p0 / (400 : Int32)) * (400 : Int32)) + ((p1 >>> ((1 : Int32) &&& 31)) % (400 : Int32)))), .val (.int ((p1 >>> ((1 : Int32) &&& 31)) % (400 : Int32))), .unset] [(.int (1 : Int32))])) _
    refine XS.goto X1.here hx rfl (pc0 := 59) (pc' := 63) rfl (hb hby at_59) (by decide) (by decide) ?_
    show Steps p.tables e below (T1.setTop (mkF m 63 #[.val (.int p0), .val (.int p1), .val (.int p2), .val (.ref (w 1)), .val (.int (((p0 / (400 : Int32)) * (400 : Int32)) + ((p1 >>> ((1 : Int32) &&& 31)) % (400 : Int32)))), .val (.int ((p1 >>> ((1 : Int32) &&& 31)) % (400 : Int32))), .unset] [(.int (1 : Int32))])) _
    refine XS.istore X1.here hx rfl (hb hby at_63) rfl (l' := #[.val (.int p0), .val (.int p1), .val (.int p2), .val (.ref (w 1)), .val (.int (((p0 / (400 : Int32)) * (400 : Int32)) + ((p1 >>> ((1 : Int32) &&& 31)) % (400 : Int32)))), .val (.int ((p1 >>> ((1 : Int32) &&& 31)) % (400 : Int32))), .val (.int (1 : Int32))]) rfl ?_
    show Steps p.tables e below (T1.setTop (mkF m 65 #[.val (.int p0), .val (.int p1), .val (.int p2), .val (.ref (w 1)), .val (.int (((p0 / (400 : Int32)) * (400 : Int32)) + ((p1 >>> ((1 : Int32) &&& 31)) % (400 : Int32)))), .val (.int ((p1 >>> ((1 : Int32) &&& 31)) % (400 : Int32))), .val (.int (1 : Int32))] [])) _
    refine XS.iload X1.here hx rfl (hb hby at_65) rfl ?_
    show Steps p.tables e below (T1.setTop (mkF m 67 #[.val (.int p0), .val (.int p1), .val (.int p2), .val (.ref (w 1)), .val (.int (((p0 / (400 : Int32)) * (400 : Int32)) + ((p1 >>> ((1 : Int32) &&& 31)) % (400 : Int32)))), .val (.int ((p1 >>> ((1 : Int32) &&& 31)) % (400 : Int32))), .val (.int (1 : Int32))] [(.int (1 : Int32))])) _
    refine XS.ifYes X1.here hx rfl (pc0 := 67) (pc' := 76) rfl (hb hby at_67) rfl ((if0 _ _).trans (feq (by decide : ¬ ((1 : Int32) = (0 : Int32)))).2) (by decide) (by decide) ?_
    show Steps p.tables e below (T1.setTop (mkF m 76 #[.val (.int p0), .val (.int p1), .val (.int p2), .val (.ref (w 1)), .val (.int (((p0 / (400 : Int32)) * (400 : Int32)) + ((p1 >>> ((1 : Int32) &&& 31)) % (400 : Int32)))), .val (.int ((p1 >>> ((1 : Int32) &&& 31)) % (400 : Int32))), .val (.int (1 : Int32))] [])) _
    refine XS.aloadN X1.here hx rfl (hb hby at_76) rfl rfl ?_
    show Steps p.tables e below (T1.setTop (mkF m 77 #[.val (.int p0), .val (.int p1), .val (.int p2), .val (.ref (w 1)), .val (.int (((p0 / (400 : Int32)) * (400 : Int32)) + ((p1 >>> ((1 : Int32) &&& 31)) % (400 : Int32)))), .val (.int ((p1 >>> ((1 : Int32) &&& 31)) % (400 : Int32))), .val (.int (1 : Int32))] [(.ref (w 1))])) _
    refine st2 _ ?_
    show Steps p.tables e below (T2.setTop (mkF m 80 #[.val (.int p0), .val (.int p1), .val (.int p2), .val (.ref (w 1)), .val (.int (((p0 / (400 : Int32)) * (400 : Int32)) + ((p1 >>> ((1 : Int32) &&& 31)) % (400 : Int32)))), .val (.int ((p1 >>> ((1 : Int32) &&& 31)) % (400 : Int32))), .val (.int (1 : Int32))] [(.ref (w 0)), (.ref (w 1))])) _
    refine Jvm.RoadKit.acmp (g := (mkF m 80 #[.val (.int p0), .val (.int p1), .val (.int p2), .val (.ref (w 1)), .val (.int (((p0 / (400 : Int32)) * (400 : Int32)) + ((p1 >>> ((1 : Int32) &&& 31)) % (400 : Int32)))), .val (.int ((p1 >>> ((1 : Int32) &&& 31)) % (400 : Int32))), .val (.int (1 : Int32))] [(.ref (w 0)), (.ref (w 1))])) X2 hx rfl rfl rfl (pc0 := 80) (pc' := 89) (same := false) rfl (hb hby at_80) rfl (decide_eq_false fun q => (Fld.ne hF1_ordinal hF0_ordinal (by decide)) (Value.ref.inj q)) (by decide) (by decide) ?_
    show Steps p.tables e below (T2.setTop (mkF m 89 #[.val (.int p0), .val (.int p1), .val (.int p2), .val (.ref (w 1)), .val (.int (((p0 / (400 : Int32)) * (400 : Int32)) + ((p1 >>> ((1 : Int32) &&& 31)) % (400 : Int32)))), .val (.int ((p1 >>> ((1 : Int32) &&& 31)) % (400 : Int32))), .val (.int (1 : Int32))] [])) _
    refine XS.iload X2.here hx rfl (hb hby at_89) rfl ?_
    show Steps p.tables e below (T2.setTop (mkF m 91 #[.val (.int p0), .val (.int p1), .val (.int p2), .val (.ref (w 1)), .val (.int (((p0 / (400 : Int32)) * (400 : Int32)) + ((p1 >>> ((1 : Int32) &&& 31)) % (400 : Int32)))), .val (.int ((p1 >>> ((1 : Int32) &&& 31)) % (400 : Int32))), .val (.int (1 : Int32))] [(.int (((p0 / (400 : Int32)) * (400 : Int32)) + ((p1 >>> ((1 : Int32) &&& 31)) % (400 : Int32))))])) _
    refine XS.bipush X2.here hx rfl (hb hby at_91) ?_
    show Steps p.tables e below (T2.setTop (mkF m 93 #[.val (.int p0), .val (.int p1), .val (.int p2), .val (.ref (w 1)), .val (.int (((p0 / (400 : Int32)) * (400 : Int32)) + ((p1 >>> ((1 : Int32) &&& 31)) % (400 : Int32)))), .val (.int ((p1 >>> ((1 : Int32) &&& 31)) % (400 : Int32))), .val (.int (1 : Int32))] [(.int (25 : Int32)), (.int (((p0 / (400 : Int32)) * (400 : Int32)) + ((p1 >>> ((1 : Int32) &&& 31)) % (400 : Int32))))])) _
    refine iremM X2 hx rfl (hb hby at_93) rfl (by decide : ¬ ((25 : Int32) = (0 : Int32))) ?_
    show Steps p.tables e below (T2.setTop (mkF m 94 #[.val (.int p0), .val (.int p1), .val (.int p2), .val (.ref (w 1)), .val (.int (((p0 / (400 : Int32)) * (400 : Int32)) + ((p1 >>> ((1 : Int32) &&& 31)) % (400 : Int32)))), .val (.int ((p1 >>> ((1 : Int32) &&& 31)) % (400 : Int32))), .val (.int (1 : Int32))] [(.int ((((p0 / (400 : Int32)) * (400 : Int32)) + ((p1 >>> ((1 : Int32) &&& 31)) % (400 : Int32))) % (25 : Int32)))])) _
    refine XS.ifYes X2.here hx rfl (pc0 := 94) (pc' := 103) rfl (hb hby at_94) rfl ((if0 _ _).trans (teq hp3).1) (by decide) (by decide) ?_
    show Steps p.tables e below (T2.setTop (mkF m 103 #[.val (.int p0), .val (.int p1), .val (.int p2), .val (.ref (w 1)), .val (.int (((p0 / (400 : Int32)) * (400 : Int32)) + ((p1 >>> ((1 : Int32) &&& 31)) % (400 : Int32)))), .val (.int ((p1 >>> ((1 : Int32) &&& 31)) % (400 : Int32))), .val (.int (1 : Int32))] [])) _
    refine XS.iload X2.here hx rfl (hb hby at_103) rfl ?_
    show Steps p.tables e below (T2.setTop (mkF m 105 #[.val (.int p0), .val (.int p1), .val (.int p2), .val (.ref (w 1)), .val (.int (((p0 / (400 : Int32)) * (400 : Int32)) + ((p1 >>> ((1 : Int32) &&& 31)) % (400 : Int32)))), .val (.int ((p1 >>> ((1 : Int32) &&& 31)) % (400 : Int32))), .val (.int (1 : Int32))] [(.int (((p0 / (400 : Int32)) * (400 : Int32)) + ((p1 >>> ((1 : Int32) &&& 31)) % (400 : Int32))))])) _
    refine XS.bipush X2.here hx rfl (hb hby at_105) ?_
    show Steps p.tables e below (T2.setTop (mkF m 107 #[.val (.int p0), .val (.int p1), .val (.int p2), .val (.ref (w 1)), .val (.int (((p0 / (400 : Int32)) * (400 : Int32)) + ((p1 >>> ((1 : Int32) &&& 31)) % (400 : Int32)))), .val (.int ((p1 >>> ((1 : Int32) &&& 31)) % (400 : Int32))), .val (.int (1 : Int32))] [(.int (15 : Int32)), (.int (((p0 / (400 : Int32)) * (400 : Int32)) + ((p1 >>> ((1 : Int32) &&& 31)) % (400 : Int32))))])) _
    refine XS.iand X2.here hx rfl (hb hby at_107) rfl ?_
    show Steps p.tables e below (T2.setTop (mkF m 108 #[.val (.int p0), .val (.int p1), .val (.int p2), .val (.ref (w 1)), .val (.int (((p0 / (400 : Int32)) * (400 : Int32)) + ((p1 >>> ((1 : Int32) &&& 31)) % (400 : Int32)))), .val (.int ((p1 >>> ((1 : Int32) &&& 31)) % (400 : Int32))), .val (.int (1 : Int32))] [(.int ((((p0 / (400 : Int32)) * (400 : Int32)) + ((p1 >>> ((1 : Int32) &&& 31)) % (400 : Int32))) &&& (15 : Int32)))])) _
    refine XS.ifNo X2.here hx rfl (hb hby at_108) rfl ((if0 _ _).trans (teq hp4).2) ?_
    show Steps p.tables e below (T2.setTop (mkF m 111 #[.val (.int p0), .val (.int p1), .val (.int p2), .val (.ref (w 1)), .val (.int (((p0 / (400 : Int32)) * (400 : Int32)) + ((p1 >>> ((1 : Int32) &&& 31)) % (400 : Int32)))), .val (.int ((p1 >>> ((1 : Int32) &&& 31)) % (400 : Int32))), .val (.int (1 : Int32))] [])) _
    refine XS.iconst X2.here hx rfl (hb hby at_111) ?_
    show Steps p.tables e below (T2.setTop (mkF m 112 #[.val (.int p0), .val (.int p1), .val (.int p2), .val (.ref (w 1)), .val (.int (((p0 / (400 : Int32)) * (400 : Int32)) + ((p1 >>> ((1 : Int32) &&& 31)) % (400 : Int32)))), .val (.int ((p1 >>> ((1 : Int32) &&& 31)) % (400 : Int32))), .val (.int (1 : Int32))] [(.int (1 : Int32))])) _
    refine XS.goto X2.here hx rfl (pc0 := 112) (pc' := 116) rfl (hb hby at_112) (by decide) (by decide) ?_
    show Steps p.tables e below (T2.setTop (mkF m 116 #[.val (.int p0), .val (.int p1), .val (.int p2), .val (.ref (w 1)), .val (.int (((p0 / (400 : Int32)) * (400 : Int32)) + ((p1 >>> ((1 : Int32) &&& 31)) % (400 : Int32)))), .val (.int ((p1 >>> ((1 : Int32) &&& 31)) % (400 : Int32))), .val (.int (1 : Int32))] [(.int (1 : Int32))])) _
    refine XS.istore X2.here hx rfl (hb hby at_116) rfl (l' := #[.val (.int p0), .val (.int p1), .val (.int p2), .val (.ref (w 1)), .val (.int (((p0 / (400 : Int32)) * (400 : Int32)) + ((p1 >>> ((1 : Int32) &&& 31)) % (400 : Int32)))), .val (.int (1 : Int32)), .val (.int (1 : Int32))]) rfl ?_
    show Steps p.tables e below (T2.setTop (mkF m 118 #[.val (.int p0), .val (.int p1), .val (.int p2), .val (.ref (w 1)), .val (.int (((p0 / (400 : Int32)) * (400 : Int32)) + ((p1 >>> ((1 : Int32) &&& 31)) % (400 : Int32)))), .val (.int (1 : Int32)), .val (.int (1 : Int32))] [])) _
    refine XS.aloadN X2.here hx rfl (hb hby at_118) rfl rfl ?_
    show Steps p.tables e below (T2.setTop (mkF m 119 #[.val (.int p0), .val (.int p1), .val (.int p2), .val (.ref (w 1)), .val (.int (((p0 / (400 : Int32)) * (400 : Int32)) + ((p1 >>> ((1 : Int32) &&& 31)) % (400 : Int32)))), .val (.int (1 : Int32)), .val (.int (1 : Int32))] [(.ref (w 1))])) _
    refine XS.iload X2.here hx rfl (hb hby at_119) rfl ?_
    show Steps p.tables e below (T2.setTop (mkF m 121 #[.val (.int p0), .val (.int p1), .val (.int p2), .val (.ref (w 1)), .val (.int (((p0 / (400 : Int32)) * (400 : Int32)) + ((p1 >>> ((1 : Int32) &&& 31)) % (400 : Int32)))), .val (.int (1 : Int32)), .val (.int (1 : Int32))] [(.int (((p0 / (400 : Int32)) * (400 : Int32)) + ((p1 >>> ((1 : Int32) &&& 31)) % (400 : Int32)))), (.ref (w 1))])) _
    refine st3.trans ?_
    show Steps p.tables e below (T3.setTop (mkF m 124 #[.val (.int p0), .val (.int p1), .val (.int p2), .val (.ref (w 1)), .val (.int (((p0 / (400 : Int32)) * (400 : Int32)) + ((p1 >>> ((1 : Int32) &&& 31)) % (400 : Int32)))), .val (.int (1 : Int32)), .val (.int (1 : Int32))] [(.int (1 : Int32))])) _
    refine XS.iload X3.here hx rfl (hb hby at_124) rfl ?_
    show Steps p.tables e below (T3.setTop (mkF m 126 #[.val (.int p0), .val (.int p1), .val (.int p2), .val (.ref (w 1)), .val (.int (((p0 / (400 : Int32)) * (400 : Int32)) + ((p1 >>> ((1 : Int32) &&& 31)) % (400 : Int32)))), .val (.int (1 : Int32)), .val (.int (1 : Int32))] [(.int (1 : Int32)), (.int (1 : Int32))])) _
    refine XS.icmpNo X3.here hx rfl (hb hby at_126) rfl (teq (by decide : (1 : Int32) = (1 : Int32))).2 ?_
    show Steps p.tables e below (T3.setTop (mkF m 129 #[.val (.int p0), .val (.int p1), .val (.int p2), .val (.ref (w 1)), .val (.int (((p0 / (400 : Int32)) * (400 : Int32)) + ((p1 >>> ((1 : Int32) &&& 31)) % (400 : Int32)))), .val (.int (1 : Int32)), .val (.int (1 : Int32))] [])) _
    refine XS.iconst X3.here hx rfl (hb hby at_129) ?_
    show Steps p.tables e below (T3.setTop (mkF m 130 #[.val (.int p0), .val (.int p1), .val (.int p2), .val (.ref (w 1)), .val (.int (((p0 / (400 : Int32)) * (400 : Int32)) + ((p1 >>> ((1 : Int32) &&& 31)) % (400 : Int32)))), .val (.int (1 : Int32)), .val (.int (1 : Int32))] [(.int (1 : Int32))])) _
    refine XS.goto X3.here hx rfl (pc0 := 130) (pc' := 134) rfl (hb hby at_130) (by decide) (by decide) ?_
    show Steps p.tables e below (T3.setTop (mkF m 134 #[.val (.int p0), .val (.int p1), .val (.int p2), .val (.ref (w 1)), .val (.int (((p0 / (400 : Int32)) * (400 : Int32)) + ((p1 >>> ((1 : Int32) &&& 31)) % (400 : Int32)))), .val (.int (1 : Int32)), .val (.int (1 : Int32))] [(.int (1 : Int32))])) _
    exact retN X3 hx (t := .boolean) Bd.returns (by simp) (hb hby at_134) hr
  · show OL (some (.int (1 : Int32))) Z.heap.size _ T3.heap _
    exact ⟨rfl, N3⟩
set_option maxRecDepth 65536 in
set_option maxHeartbeats 40000000 in
theorem law_16 (l : Launch) (Z : State) (a0 : Array Value) (hw : ∀ d ∈ tables_1, d.before a0 Z = true) (w : Nat → Addr) (kk : Nat → ClassId) (hN : Wd Z w kk) (ws : List Jvm.Cond) (p0 : Int32) (p1 : Int32) (p2 : Int32) (h0 : Heap) (O0 : Old Z Z.heap.size h0) (hp0 : (p2 &&& (1 : Int32)) = (1 : Int32)) (hp1 : (p1 &&& (1 : Int32)) = (1 : Int32)) (hp2 : ((((p0 / (400 : Int32)) * (400 : Int32)) + ((p1 >>> ((1 : Int32) &&& 31)) % (400 : Int32))) &&& (3 : Int32)) = (0 : Int32)) (hp3 : ((((p0 / (400 : Int32)) * (400 : Int32)) + ((p1 >>> ((1 : Int32) &&& 31)) % (400 : Int32))) % (25 : Int32)) = (0 : Int32)) (hp4 : ¬ (((((p0 / (400 : Int32)) * (400 : Int32)) + ((p1 >>> ((1 : Int32) &&& 31)) % (400 : Int32))) &&& (15 : Int32)) = (0 : Int32))) (hp5 : ((((p0 / (400 : Int32)) * (400 : Int32)) + ((p1 >>> ((1 : Int32) &&& 31)) % (400 : Int32))) % (4 : Int32)) = (0 : Int32)) (hp6 : ((((p0 / (400 : Int32)) * (400 : Int32)) + ((p1 >>> ((1 : Int32) &&& 31)) % (400 : Int32))) % (100 : Int32)) = (0 : Int32)) (hp7 : ¬ (((((p0 / (400 : Int32)) * (400 : Int32)) + ((p1 >>> ((1 : Int32) &&& 31)) % (400 : Int32))) % (400 : Int32)) = (0 : Int32))) :
    MetFree l x (head1 (Jvm.Cond.code x code maxLocals ret :: ws) room_1) (fun a U => a = #[(.int p0), (.int p1), (.int p2)] ∧ Z.Warmed39 U.vm ∧ U.heap = h0) (fun _ _ _ _ _ => True) (fun _ U o U' => ∃ v L, o = .returned v ∧ OL (some (.int (1 : Int32))) Z.heap.size v U'.heap L ∧ FrameEnd U o U' L 0 0) := by
  have hN' := hN
  obtain ⟨hS0, hE0, hS1, hE1, hF1_ordinal, hF0_ordinal⟩ := hN'
  refine MetFree.of_bodySF (plainFor_of_name pn_1) hisR ?_
  intro p e s m args below meth c s₁ Bd hml0 hP hK
  obtain ⟨rfl, hZ, hh⟩ := hP
  have hx := Bd.exec
  have hby := Bd.bytes
  have hml : c.maxLocals = 7 := hml0
  have hown : s.vm.findClass "com/example/kalendae/kalendae/calendar/CalendarRuleIsLeapYearPinLaw" = some m.cls := findClass_of_methodNamed Bd.named
  have hnm := (name_of_methodNamed Bd.named Bd.method).1
  have X0 : Stand p l e room_1 s m #[(.int p0), (.int p1), (.int p2)] below meth c s₁ [] 0 0 := Stand.of_body Bd
  have e0 : s₁.heap = h0 := by rw [← hh, Bd.state]; rfl
  have N0 := Fr.nil Z.heap.size
  have pre0 : ∀ t, Steps p.tables e below (s₁.setTop (mkF m 0 #[.val (.int p0), .val (.int p1), .val (.int p2), .unset, .unset, .unset, .unset] [])) t → Steps p.tables e below (s₁.setTop (entryFrame m #[(.int p0), (.int p1), (.int p2)] maxLocals)) t := fun t k => castTop (ef_1 m (.int p0) rfl (.int p1) rfl (.int p2) rfl) k
  obtain ⟨T1, X1, e1, st1⟩ := getS2 X0 hx hZ hown (host := "") (Or.inl (W hw 8 rfl)) Via.refl e0 (hS1.ext O0.2) (g := (mkF m 6 #[.val (.int p0), .val (.int p1), .val (.int p2), .unset, .unset, .unset, .unset] [])) rfl (hb hby at_6)
  obtain ⟨T2, X2, e2, st2⟩ := getS2 X1 hx hZ hown (host := "") (Or.inl (W hw 0 rfl)) Via.refl e1 (hS0.ext O0.2) (g := (mkF m 77 #[.val (.int p0), .val (.int p1), .val (.int p2), .val (.ref (w 1)), .val (.int (((p0 / (400 : Int32)) * (400 : Int32)) + ((p1 >>> ((1 : Int32) &&& 31)) % (400 : Int32)))), .val (.int ((p1 >>> ((1 : Int32) &&& 31)) % (400 : Int32))), .val (.int (1 : Int32))] [(.ref (w 1))])) rfl (hb hby at_77)
  obtain ⟨cq3, kq3, q3a, q3b, q3c⟩ := isOf hZ e2 (hE1.ext O0.2)
  obtain ⟨_, _, ⟨T3, L3, k3, n3⟩, -, X3, ⟨Lc3, hQ3, l3, y3, z3⟩, st3⟩ := X2.virtualBack hx (y := (⟨"com/example/kalendae/kalendae/calendar/CalendarRule", "isLeapYear", "(I)Z"⟩ : MethodName)) (z := (⟨"com/example/kalendae/kalendae/calendar/CalendarRule", "isLeapYear", "(I)Z"⟩ : MethodName)) hown (mvT hZ (W hw 3 rfl)) (mvT hZ (W hw 4 rfl)) (notFace_of_selects (args := #[]) (mvT hZ (W hw 6 rfl))) (mvT hZ (W hw 6 rfl)) (mvT hZ (W hw 5 rfl)) (by decide) (backOf (W := 0) (rm_9 l Z a0 hw w kk hN [] (((p0 / (400 : Int32)) * (400 : Int32)) + ((p1 >>> ((1 : Int32) &&& 31)) % (400 : Int32))) h0 O0 hp5 hp6 hp7) hZ (W hw 7 rfl) (W hw 1 rfl) (by decide) (by decide)) q3a q3c (g := (mkF m 121 #[.val (.int p0), .val (.int p1), .val (.int p2), .val (.ref (w 1)), .val (.int (((p0 / (400 : Int32)) * (400 : Int32)) + ((p1 >>> ((1 : Int32) &&& 31)) % (400 : Int32)))), .val (.int (0 : Int32)), .val (.int (1 : Int32))] [(.int (((p0 / (400 : Int32)) * (400 : Int32)) + ((p1 >>> ((1 : Int32) &&& 31)) % (400 : Int32)))), (.ref (w 1))])) rfl (by rw [hml]; rfl) (Steps.refl _) (argsL := [(.int (((p0 / (400 : Int32)) * (400 : Int32)) + ((p1 >>> ((1 : Int32) &&& 31)) % (400 : Int32))))]) (rest := []) (lenOf pd_0 rfl) rfl (by show 2 * 0 + _ ≤ _; exact Nat.le_of_eq rfl) (hb hby at_121) (fun _ _ => ⟨rfl, e2, (by decide : 0 + 0 ≤ _), (by decide : 0 + 0 ≤ _)⟩)
  dsimp only [Pt.U, Pt.locs, Pt.cells, Pt.slots] at X3 l3 y3 z3 st3 hQ3
  subst l3 y3 z3
  obtain ⟨rfl, N3q, e3⟩ := hQ3
  have N3 := Fr.app N0 N3q
  obtain ⟨fs, hr, hrun, hended, hW, hsame⟩ := X3.leave (v := some (.int (1 : Int32))) (fun h => by rw [Bd.returns] at h; cases h)
  refine ⟨_, _, pre0 _ ?_, hrun, hended, _, _, rfl, ?_, ⟨_, rfl⟩, hW, hsame.mono (by decide) (by decide)⟩
  · show Steps p.tables e below (s₁.setTop (mkF m 0 #[.val (.int p0), .val (.int p1), .val (.int p2), .unset, .unset, .unset, .unset] [])) _
    refine XS.iloadN X0.here hx rfl (hb hby at_0) rfl ?_
    show Steps p.tables e below (s₁.setTop (mkF m 1 #[.val (.int p0), .val (.int p1), .val (.int p2), .unset, .unset, .unset, .unset] [(.int p2)])) _
    refine XS.iconst X0.here hx rfl (hb hby at_1) ?_
    show Steps p.tables e below (s₁.setTop (mkF m 2 #[.val (.int p0), .val (.int p1), .val (.int p2), .unset, .unset, .unset, .unset] [(.int (1 : Int32)), (.int p2)])) _
    refine XS.iand X0.here hx rfl (hb hby at_2) rfl ?_
    show Steps p.tables e below (s₁.setTop (mkF m 3 #[.val (.int p0), .val (.int p1), .val (.int p2), .unset, .unset, .unset, .unset] [(.int (p2 &&& (1 : Int32)))])) _
    rw [hp0]
    show Steps p.tables e below (s₁.setTop (mkF m 3 #[.val (.int p0), .val (.int p1), .val (.int p2), .unset, .unset, .unset, .unset] [(.int (1 : Int32))])) _
    refine XS.ifNo X0.here hx rfl (hb hby at_3) rfl ((if0 _ _).trans (feq (by decide : ¬ ((1 : Int32) = (0 : Int32)))).1) ?_
    show Steps p.tables e below (s₁.setTop (mkF m 6 #[.val (.int p0), .val (.int p1), .val (.int p2), .unset, .unset, .unset, .unset] [])) _
    refine st1 _ ?_
    show Steps p.tables e below (T1.setTop (mkF m 9 #[.val (.int p0), .val (.int p1), .val (.int p2), .unset, .unset, .unset, .unset] [(.ref (w 1))])) _
    refine XS.goto X1.here hx rfl (pc0 := 9) (pc' := 15) rfl (hb hby at_9) (by decide) (by decide) ?_
    show Steps p.tables e below (T1.setTop (mkF m 15 #[.val (.int p0), .val (.int p1), .val (.int p2), .unset, .unset, .unset, .unset] [(.ref (w 1))])) _
    refine XS.astoreN X1.here hx rfl (hb hby at_15) rfl rfl (l' := #[.val (.int p0), .val (.int p1), .val (.int p2), .val (.ref (w 1)), .unset, .unset, .unset]) rfl ?_
    show Steps p.tables e below (T1.setTop (mkF m 16 #[.val (.int p0), .val (.int p1), .val (.int p2), .val (.ref (w 1)), .unset, .unset, .unset] [])) _
    refine XS.iloadN X1.here hx rfl (hb hby at_16) rfl ?_
    show Steps p.tables e below (T1.setTop (mkF m 17 #[.val (.int p0), .val (.int p1), .val (.int p2), .val (.ref (w 1)), .unset, .unset, .unset] [(.int p1)])) _
    refine XS.iconst X1.here hx rfl (hb hby at_17) ?_
    show Steps p.tables e below (T1.setTop (mkF m 18 #[.val (.int p0), .val (.int p1), .val (.int p2), .val (.ref (w 1)), .unset, .unset, .unset] [(.int (1 : Int32)), (.int p1)])) _
    refine XS.iand X1.here hx rfl (hb hby at_18) rfl ?_
    show Steps p.tables e below (T1.setTop (mkF m 19 #[.val (.int p0), .val (.int p1), .val (.int p2), .val (.ref (w 1)), .unset, .unset, .unset] [(.int (p1 &&& (1 : Int32)))])) _
    rw [hp1]
    show Steps p.tables e below (T1.setTop (mkF m 19 #[.val (.int p0), .val (.int p1), .val (.int p2), .val (.ref (w 1)), .unset, .unset, .unset] [(.int (1 : Int32))])) _
    refine XS.ifYes X1.here hx rfl (pc0 := 19) (pc' := 28) rfl (hb hby at_19) rfl ((if0 _ _).trans (feq (by decide : ¬ ((1 : Int32) = (0 : Int32)))).2) (by decide) (by decide) ?_
    show Steps p.tables e below (T1.setTop (mkF m 28 #[.val (.int p0), .val (.int p1), .val (.int p2), .val (.ref (w 1)), .unset, .unset, .unset] [])) _
    refine XS.iloadN X1.here hx rfl (hb hby at_28) rfl ?_
    show Steps p.tables e below (T1.setTop (mkF m 29 #[.val (.int p0), .val (.int p1), .val (.int p2), .val (.ref (w 1)), .unset, .unset, .unset] [(.int p1)])) _
    refine XS.iconst X1.here hx rfl (hb hby at_29) ?_
    show Steps p.tables e below (T1.setTop (mkF m 30 #[.val (.int p0), .val (.int p1), .val (.int p2), .val (.ref (w 1)), .unset, .unset, .unset] [(.int (1 : Int32)), (.int p1)])) _
    refine XS.ishr X1.here hx rfl (hb hby at_30) rfl ?_
    show Steps p.tables e below (T1.setTop (mkF m 31 #[.val (.int p0), .val (.int p1), .val (.int p2), .val (.ref (w 1)), .unset, .unset, .unset] [(.int (p1 >>> ((1 : Int32) &&& 31)))])) _
    refine XS.sipush X1.here hx rfl (hb hby at_31) ?_
    show Steps p.tables e below (T1.setTop (mkF m 34 #[.val (.int p0), .val (.int p1), .val (.int p2), .val (.ref (w 1)), .unset, .unset, .unset] [(.int (400 : Int32)), (.int (p1 >>> ((1 : Int32) &&& 31)))])) _
    refine iremM X1 hx rfl (hb hby at_34) rfl (by decide : ¬ ((400 : Int32) = (0 : Int32))) ?_
    show Steps p.tables e below (T1.setTop (mkF m 35 #[.val (.int p0), .val (.int p1), .val (.int p2), .val (.ref (w 1)), .unset, .unset, .unset] [(.int ((p1 >>> ((1 : Int32) &&& 31)) % (400 : Int32)))])) _
    refine XS.istore X1.here hx rfl (hb hby at_35) rfl (l' := #[.val (.int p0), .val (.int p1), .val (.int p2), .val (.ref (w 1)), .unset, .val (.int ((p1 >>> ((1 : Int32) &&& 31)) % (400 : Int32))), .unset]) rfl ?_
    show Steps p.tables e below (T1.setTop (mkF m 37 #[.val (.int p0), .val (.int p1), .val (.int p2), .val (.ref (w 1)), .unset, .val (.int ((p1 >>> ((1 : Int32) &&& 31)) % (400 : Int32))), .unset] [])) _
    refine XS.iloadN X1.here hx rfl (hb hby at_37) rfl ?_
    show Steps p.tables e below (T1.setTop (mkF m 38 #[.val (.int p0), .val (.int p1), .val (.int p2), .val (.ref (w 1)), .unset, .val (.int ((p1 >>> ((1 : Int32) &&& 31)) % (400 : Int32))), .unset] [(.int p0)])) _
    refine XS.sipush X1.here hx rfl (hb hby at_38) ?_
    show Steps p.tables e below (T1.setTop (mkF m 41 #[.val (.int p0), .val (.int p1), .val (.int p2), .val (.ref (w 1)), .unset, .val (.int ((p1 >>> ((1 : Int32) &&& 31)) % (400 : Int32))), .unset] [(.int (400 : Int32)), (.int p0)])) _
    refine XS.idiv X1.here hx rfl (hb hby at_41) rfl (by decide : ¬ ((400 : Int32) = (0 : Int32))) ?_
    show Steps p.tables e below (T1.setTop (mkF m 42 #[.val (.int p0), .val (.int p1), .val (.int p2), .val (.ref (w 1)), .unset, .val (.int ((p1 >>> ((1 : Int32) &&& 31)) % (400 : Int32))), .unset] [(.int (p0 / (400 : Int32)))])) _
    refine XS.sipush X1.here hx rfl (hb hby at_42) ?_
    show Steps p.tables e below (T1.setTop (mkF m 45 #[.val (.int p0), .val (.int p1), .val (.int p2), .val (.ref (w 1)), .unset, .val (.int ((p1 >>> ((1 : Int32) &&& 31)) % (400 : Int32))), .unset] [(.int (400 : Int32)), (.int (p0 / (400 : Int32)))])) _
    refine XS.imul X1.here hx rfl (hb hby at_45) rfl ?_
    show Steps p.tables e below (T1.setTop (mkF m 46 #[.val (.int p0), .val (.int p1), .val (.int p2), .val (.ref (w 1)), .unset, .val (.int ((p1 >>> ((1 : Int32) &&& 31)) % (400 : Int32))), .unset] [(.int ((p0 / (400 : Int32)) * (400 : Int32)))])) _
    refine XS.iload X1.here hx rfl (hb hby at_46) rfl ?_
    show Steps p.tables e below (T1.setTop (mkF m 48 #[.val (.int p0), .val (.int p1), .val (.int p2), .val (.ref (w 1)), .unset, .val (.int ((p1 >>> ((1 : Int32) &&& 31)) % (400 : Int32))), .unset] [(.int ((p1 >>> ((1 : Int32) &&& 31)) % (400 : Int32))), (.int ((p0 / (400 : Int32)) * (400 : Int32)))])) _
    refine XS.iadd X1.here hx rfl (hb hby at_48) rfl ?_
    show Steps p.tables e below (T1.setTop (mkF m 49 #[.val (.int p0), .val (.int p1), .val (.int p2), .val (.ref (w 1)), .unset, .val (.int ((p1 >>> ((1 : Int32) &&& 31)) % (400 : Int32))), .unset] [(.int (((p0 / (400 : Int32)) * (400 : Int32)) + ((p1 >>> ((1 : Int32) &&& 31)) % (400 : Int32))))])) _
    refine XS.istore X1.here hx rfl (hb hby at_49) rfl (l' := #[.val (.int p0), .val (.int p1), .val (.int p2), .val (.ref (w 1)), .val (.int (((p0 / (400 : Int32)) * (400 : Int32)) + ((p1 >>> ((1 : Int32) &&& 31)) % (400 : Int32)))), .val (.int ((p1 >>> ((1 : Int32) &&& 31)) % (400 : Int32))), .unset]) rfl ?_
    show Steps p.tables e below (T1.setTop (mkF m 51 #[.val (.int p0), .val (.int p1), .val (.int p2), .val (.ref (w 1)), .val (.int (((p0 / (400 : Int32)) * (400 : Int32)) + ((p1 >>> ((1 : Int32) &&& 31)) % (400 : Int32)))), .val (.int ((p1 >>> ((1 : Int32) &&& 31)) % (400 : Int32))), .unset] [])) _
    refine XS.iload X1.here hx rfl (hb hby at_51) rfl ?_
    show Steps p.tables e below (T1.setTop (mkF m 53 #[.val (.int p0), .val (.int p1), .val (.int p2), .val (.ref (w 1)), .val (.int (((p0 / (400 : Int32)) * (400 : Int32)) + ((p1 >>> ((1 : Int32) &&& 31)) % (400 : Int32)))), .val (.int ((p1 >>> ((1 : Int32) &&& 31)) % (400 : Int32))), .unset] [(.int (((p0 / (400 : Int32)) * (400 : Int32)) + ((p1 >>> ((1 : Int32) &&& 31)) % (400 : Int32))))])) _
    refine XS.iconst X1.here hx rfl (hb hby at_53) ?_
    show Steps p.tables e below (T1.setTop (mkF m 54 #[.val (.int p0), .val (.int p1), .val (.int p2), .val (.ref (w 1)), .val (.int (((p0 / (400 : Int32)) * (400 : Int32)) + ((p1 >>> ((1 : Int32) &&& 31)) % (400 : Int32)))), .val (.int ((p1 >>> ((1 : Int32) &&& 31)) % (400 : Int32))), .unset] [(.int (3 : Int32)), (.int (((p0 / (400 : Int32)) * (400 : Int32)) + ((p1 >>> ((1 : Int32) &&& 31)) % (400 : Int32))))])) _
    refine XS.iand X1.here hx rfl (hb hby at_54) rfl ?_
    show Steps p.tables e below (T1.setTop (mkF m 55 #[.val (.int p0), .val (.int p1), .val (.int p2), .val (.ref (w 1)), .val (.int (((p0 / (400 : Int32)) * (400 : Int32)) + ((p1 >>> ((1 : Int32) &&& 31)) % (400 : Int32)))), .val (.int ((p1 >>> ((1 : Int32) &&& 31)) % (400 : Int32))), .unset] [(.int ((((p0 / (400 : Int32)) * (400 : Int32)) + ((p1 >>> ((1 : Int32) &&& 31)) % (400 : Int32))) &&& (3 : Int32)))])) _
    refine XS.ifNo X1.here hx rfl (hb hby at_55) rfl ((if0 _ _).trans (teq hp2).2) ?_
    show Steps p.tables e below (T1.setTop (mkF m 58 #[.val (.int p0), .val (.int p1), .val (.int p2), .val (.ref (w 1)), .val (.int (((p0 / (400 : Int32)) * (400 : Int32)) + ((p1 >>> ((1 : Int32) &&& 31)) % (400 : Int32)))), .val (.int ((p1 >>> ((1 : Int32) &&& 31)) % (400 : Int32))), .unset] [])) _
    refine XS.iconst X1.here hx rfl (hb hby at_58) ?_
    show Steps p.tables e below (T1.setTop (mkF m 59 #[.val (.int p0), .val (.int p1), .val (.int p2), .val (.ref (w 1)), .val (.int (((p0 / (400 : Int32)) * (400 : Int32)) + ((p1 >>> ((1 : Int32) &&& 31)) % (400 : Int32)))), .val (.int ((p1 >>> ((1 : Int32) &&& 31)) % (400 : Int32))), .unset] [(.int (1 : Int32))])) _
    refine XS.goto X1.here hx rfl (pc0 := 59) (pc' := 63) rfl (hb hby at_59) (by decide) (by decide) ?_
    show Steps p.tables e below (T1.setTop (mkF m 63 #[.val (.int p0), .val (.int p1), .val (.int p2), .val (.ref (w 1)), .val (.int (((p0 / (400 : Int32)) * (400 : Int32)) + ((p1 >>> ((1 : Int32) &&& 31)) % (400 : Int32)))), .val (.int ((p1 >>> ((1 : Int32) &&& 31)) % (400 : Int32))), .unset] [(.int (1 : Int32))])) _
    refine XS.istore X1.here hx rfl (hb hby at_63) rfl (l' := #[.val (.int p0), .val (.int p1), .val (.int p2), .val (.ref (w 1)), .val (.int (((p0 / (400 : Int32)) * (400 : Int32)) + ((p1 >>> ((1 : Int32) &&& 31)) % (400 : Int32)))), .val (.int ((p1 >>> ((1 : Int32) &&& 31)) % (400 : Int32))), .val (.int (1 : Int32))]) rfl ?_
    show Steps p.tables e below (T1.setTop (mkF m 65 #[.val (.int p0), .val (.int p1), .val (.int p2), .val (.ref (w 1)), .val (.int (((p0 / (400 : Int32)) * (400 : Int32)) + ((p1 >>> ((1 : Int32) &&& 31)) % (400 : Int32)))), .val (.int ((p1 >>> ((1 : Int32) &&& 31)) % (400 : Int32))), .val (.int (1 : Int32))] [])) _
    refine XS.iload X1.here hx rfl (hb hby at_65) rfl ?_
    show Steps p.tables e below (T1.setTop (mkF m 67 #[.val (.int p0), .val (.int p1), .val (.int p2), .val (.ref (w 1)), .val (.int (((p0 / (400 : Int32)) * (400 : Int32)) + ((p1 >>> ((1 : Int32) &&& 31)) % (400 : Int32)))), .val (.int ((p1 >>> ((1 : Int32) &&& 31)) % (400 : Int32))), .val (.int (1 : Int32))] [(.int (1 : Int32))])) _
    refine XS.ifYes X1.here hx rfl (pc0 := 67) (pc' := 76) rfl (hb hby at_67) rfl ((if0 _ _).trans (feq (by decide : ¬ ((1 : Int32) = (0 : Int32)))).2) (by decide) (by decide) ?_
    show Steps p.tables e below (T1.setTop (mkF m 76 #[.val (.int p0), .val (.int p1), .val (.int p2), .val (.ref (w 1)), .val (.int (((p0 / (400 : Int32)) * (400 : Int32)) + ((p1 >>> ((1 : Int32) &&& 31)) % (400 : Int32)))), .val (.int ((p1 >>> ((1 : Int32) &&& 31)) % (400 : Int32))), .val (.int (1 : Int32))] [])) _
    refine XS.aloadN X1.here hx rfl (hb hby at_76) rfl rfl ?_
    show Steps p.tables e below (T1.setTop (mkF m 77 #[.val (.int p0), .val (.int p1), .val (.int p2), .val (.ref (w 1)), .val (.int (((p0 / (400 : Int32)) * (400 : Int32)) + ((p1 >>> ((1 : Int32) &&& 31)) % (400 : Int32)))), .val (.int ((p1 >>> ((1 : Int32) &&& 31)) % (400 : Int32))), .val (.int (1 : Int32))] [(.ref (w 1))])) _
    refine st2 _ ?_
    show Steps p.tables e below (T2.setTop (mkF m 80 #[.val (.int p0), .val (.int p1), .val (.int p2), .val (.ref (w 1)), .val (.int (((p0 / (400 : Int32)) * (400 : Int32)) + ((p1 >>> ((1 : Int32) &&& 31)) % (400 : Int32)))), .val (.int ((p1 >>> ((1 : Int32) &&& 31)) % (400 : Int32))), .val (.int (1 : Int32))] [(.ref (w 0)), (.ref (w 1))])) _
    refine Jvm.RoadKit.acmp (g := (mkF m 80 #[.val (.int p0), .val (.int p1), .val (.int p2), .val (.ref (w 1)), .val (.int (((p0 / (400 : Int32)) * (400 : Int32)) + ((p1 >>> ((1 : Int32) &&& 31)) % (400 : Int32)))), .val (.int ((p1 >>> ((1 : Int32) &&& 31)) % (400 : Int32))), .val (.int (1 : Int32))] [(.ref (w 0)), (.ref (w 1))])) X2 hx rfl rfl rfl (pc0 := 80) (pc' := 89) (same := false) rfl (hb hby at_80) rfl (decide_eq_false fun q => (Fld.ne hF1_ordinal hF0_ordinal (by decide)) (Value.ref.inj q)) (by decide) (by decide) ?_
    show Steps p.tables e below (T2.setTop (mkF m 89 #[.val (.int p0), .val (.int p1), .val (.int p2), .val (.ref (w 1)), .val (.int (((p0 / (400 : Int32)) * (400 : Int32)) + ((p1 >>> ((1 : Int32) &&& 31)) % (400 : Int32)))), .val (.int ((p1 >>> ((1 : Int32) &&& 31)) % (400 : Int32))), .val (.int (1 : Int32))] [])) _
    refine XS.iload X2.here hx rfl (hb hby at_89) rfl ?_
    show Steps p.tables e below (T2.setTop (mkF m 91 #[.val (.int p0), .val (.int p1), .val (.int p2), .val (.ref (w 1)), .val (.int (((p0 / (400 : Int32)) * (400 : Int32)) + ((p1 >>> ((1 : Int32) &&& 31)) % (400 : Int32)))), .val (.int ((p1 >>> ((1 : Int32) &&& 31)) % (400 : Int32))), .val (.int (1 : Int32))] [(.int (((p0 / (400 : Int32)) * (400 : Int32)) + ((p1 >>> ((1 : Int32) &&& 31)) % (400 : Int32))))])) _
    refine XS.bipush X2.here hx rfl (hb hby at_91) ?_
    show Steps p.tables e below (T2.setTop (mkF m 93 #[.val (.int p0), .val (.int p1), .val (.int p2), .val (.ref (w 1)), .val (.int (((p0 / (400 : Int32)) * (400 : Int32)) + ((p1 >>> ((1 : Int32) &&& 31)) % (400 : Int32)))), .val (.int ((p1 >>> ((1 : Int32) &&& 31)) % (400 : Int32))), .val (.int (1 : Int32))] [(.int (25 : Int32)), (.int (((p0 / (400 : Int32)) * (400 : Int32)) + ((p1 >>> ((1 : Int32) &&& 31)) % (400 : Int32))))])) _
    refine iremM X2 hx rfl (hb hby at_93) rfl (by decide : ¬ ((25 : Int32) = (0 : Int32))) ?_
    show Steps p.tables e below (T2.setTop (mkF m 94 #[.val (.int p0), .val (.int p1), .val (.int p2), .val (.ref (w 1)), .val (.int (((p0 / (400 : Int32)) * (400 : Int32)) + ((p1 >>> ((1 : Int32) &&& 31)) % (400 : Int32)))), .val (.int ((p1 >>> ((1 : Int32) &&& 31)) % (400 : Int32))), .val (.int (1 : Int32))] [(.int ((((p0 / (400 : Int32)) * (400 : Int32)) + ((p1 >>> ((1 : Int32) &&& 31)) % (400 : Int32))) % (25 : Int32)))])) _
    refine XS.ifYes X2.here hx rfl (pc0 := 94) (pc' := 103) rfl (hb hby at_94) rfl ((if0 _ _).trans (teq hp3).1) (by decide) (by decide) ?_
    show Steps p.tables e below (T2.setTop (mkF m 103 #[.val (.int p0), .val (.int p1), .val (.int p2), .val (.ref (w 1)), .val (.int (((p0 / (400 : Int32)) * (400 : Int32)) + ((p1 >>> ((1 : Int32) &&& 31)) % (400 : Int32)))), .val (.int ((p1 >>> ((1 : Int32) &&& 31)) % (400 : Int32))), .val (.int (1 : Int32))] [])) _
    refine XS.iload X2.here hx rfl (hb hby at_103) rfl ?_
    show Steps p.tables e below (T2.setTop (mkF m 105 #[.val (.int p0), .val (.int p1), .val (.int p2), .val (.ref (w 1)), .val (.int (((p0 / (400 : Int32)) * (400 : Int32)) + ((p1 >>> ((1 : Int32) &&& 31)) % (400 : Int32)))), .val (.int ((p1 >>> ((1 : Int32) &&& 31)) % (400 : Int32))), .val (.int (1 : Int32))] [(.int (((p0 / (400 : Int32)) * (400 : Int32)) + ((p1 >>> ((1 : Int32) &&& 31)) % (400 : Int32))))])) _
    refine XS.bipush X2.here hx rfl (hb hby at_105) ?_
    show Steps p.tables e below (T2.setTop (mkF m 107 #[.val (.int p0), .val (.int p1), .val (.int p2), .val (.ref (w 1)), .val (.int (((p0 / (400 : Int32)) * (400 : Int32)) + ((p1 >>> ((1 : Int32) &&& 31)) % (400 : Int32)))), .val (.int ((p1 >>> ((1 : Int32) &&& 31)) % (400 : Int32))), .val (.int (1 : Int32))] [(.int (15 : Int32)), (.int (((p0 / (400 : Int32)) * (400 : Int32)) + ((p1 >>> ((1 : Int32) &&& 31)) % (400 : Int32))))])) _
    refine XS.iand X2.here hx rfl (hb hby at_107) rfl ?_
    show Steps p.tables e below (T2.setTop (mkF m 108 #[.val (.int p0), .val (.int p1), .val (.int p2), .val (.ref (w 1)), .val (.int (((p0 / (400 : Int32)) * (400 : Int32)) + ((p1 >>> ((1 : Int32) &&& 31)) % (400 : Int32)))), .val (.int ((p1 >>> ((1 : Int32) &&& 31)) % (400 : Int32))), .val (.int (1 : Int32))] [(.int ((((p0 / (400 : Int32)) * (400 : Int32)) + ((p1 >>> ((1 : Int32) &&& 31)) % (400 : Int32))) &&& (15 : Int32)))])) _
    refine XS.ifYes X2.here hx rfl (pc0 := 108) (pc' := 115) rfl (hb hby at_108) rfl ((if0 _ _).trans (feq hp4).2) (by decide) (by decide) ?_
    show Steps p.tables e below (T2.setTop (mkF m 115 #[.val (.int p0), .val (.int p1), .val (.int p2), .val (.ref (w 1)), .val (.int (((p0 / (400 : Int32)) * (400 : Int32)) + ((p1 >>> ((1 : Int32) &&& 31)) % (400 : Int32)))), .val (.int ((p1 >>> ((1 : Int32) &&& 31)) % (400 : Int32))), .val (.int (1 : Int32))] [])) _
    refine XS.iconst X2.here hx rfl (hb hby at_115) ?_
    show Steps p.tables e below (T2.setTop (mkF m 116 #[.val (.int p0), .val (.int p1), .val (.int p2), .val (.ref (w 1)), .val (.int (((p0 / (400 : Int32)) * (400 : Int32)) + ((p1 >>> ((1 : Int32) &&& 31)) % (400 : Int32)))), .val (.int ((p1 >>> ((1 : Int32) &&& 31)) % (400 : Int32))), .val (.int (1 : Int32))] [(.int (0 : Int32))])) _
    refine XS.istore X2.here hx rfl (hb hby at_116) rfl (l' := #[.val (.int p0), .val (.int p1), .val (.int p2), .val (.ref (w 1)), .val (.int (((p0 / (400 : Int32)) * (400 : Int32)) + ((p1 >>> ((1 : Int32) &&& 31)) % (400 : Int32)))), .val (.int (0 : Int32)), .val (.int (1 : Int32))]) rfl ?_
    show Steps p.tables e below (T2.setTop (mkF m 118 #[.val (.int p0), .val (.int p1), .val (.int p2), .val (.ref (w 1)), .val (.int (((p0 / (400 : Int32)) * (400 : Int32)) + ((p1 >>> ((1 : Int32) &&& 31)) % (400 : Int32)))), .val (.int (0 : Int32)), .val (.int (1 : Int32))] [])) _
    refine XS.aloadN X2.here hx rfl (hb hby at_118) rfl rfl ?_
    show Steps p.tables e below (T2.setTop (mkF m 119 #[.val (.int p0), .val (.int p1), .val (.int p2), .val (.ref (w 1)), .val (.int (((p0 / (400 : Int32)) * (400 : Int32)) + ((p1 >>> ((1 : Int32) &&& 31)) % (400 : Int32)))), .val (.int (0 : Int32)), .val (.int (1 : Int32))] [(.ref (w 1))])) _
    refine XS.iload X2.here hx rfl (hb hby at_119) rfl ?_
    show Steps p.tables e below (T2.setTop (mkF m 121 #[.val (.int p0), .val (.int p1), .val (.int p2), .val (.ref (w 1)), .val (.int (((p0 / (400 : Int32)) * (400 : Int32)) + ((p1 >>> ((1 : Int32) &&& 31)) % (400 : Int32)))), .val (.int (0 : Int32)), .val (.int (1 : Int32))] [(.int (((p0 / (400 : Int32)) * (400 : Int32)) + ((p1 >>> ((1 : Int32) &&& 31)) % (400 : Int32)))), (.ref (w 1))])) _
    refine st3.trans ?_
    show Steps p.tables e below (T3.setTop (mkF m 124 #[.val (.int p0), .val (.int p1), .val (.int p2), .val (.ref (w 1)), .val (.int (((p0 / (400 : Int32)) * (400 : Int32)) + ((p1 >>> ((1 : Int32) &&& 31)) % (400 : Int32)))), .val (.int (0 : Int32)), .val (.int (1 : Int32))] [(.int (0 : Int32))])) _
    refine XS.iload X3.here hx rfl (hb hby at_124) rfl ?_
    show Steps p.tables e below (T3.setTop (mkF m 126 #[.val (.int p0), .val (.int p1), .val (.int p2), .val (.ref (w 1)), .val (.int (((p0 / (400 : Int32)) * (400 : Int32)) + ((p1 >>> ((1 : Int32) &&& 31)) % (400 : Int32)))), .val (.int (0 : Int32)), .val (.int (1 : Int32))] [(.int (0 : Int32)), (.int (0 : Int32))])) _
    refine XS.icmpNo X3.here hx rfl (hb hby at_126) rfl (teq (by decide : (0 : Int32) = (0 : Int32))).2 ?_
    show Steps p.tables e below (T3.setTop (mkF m 129 #[.val (.int p0), .val (.int p1), .val (.int p2), .val (.ref (w 1)), .val (.int (((p0 / (400 : Int32)) * (400 : Int32)) + ((p1 >>> ((1 : Int32) &&& 31)) % (400 : Int32)))), .val (.int (0 : Int32)), .val (.int (1 : Int32))] [])) _
    refine XS.iconst X3.here hx rfl (hb hby at_129) ?_
    show Steps p.tables e below (T3.setTop (mkF m 130 #[.val (.int p0), .val (.int p1), .val (.int p2), .val (.ref (w 1)), .val (.int (((p0 / (400 : Int32)) * (400 : Int32)) + ((p1 >>> ((1 : Int32) &&& 31)) % (400 : Int32)))), .val (.int (0 : Int32)), .val (.int (1 : Int32))] [(.int (1 : Int32))])) _
    refine XS.goto X3.here hx rfl (pc0 := 130) (pc' := 134) rfl (hb hby at_130) (by decide) (by decide) ?_
    show Steps p.tables e below (T3.setTop (mkF m 134 #[.val (.int p0), .val (.int p1), .val (.int p2), .val (.ref (w 1)), .val (.int (((p0 / (400 : Int32)) * (400 : Int32)) + ((p1 >>> ((1 : Int32) &&& 31)) % (400 : Int32)))), .val (.int (0 : Int32)), .val (.int (1 : Int32))] [(.int (1 : Int32))])) _
    exact retN X3 hx (t := .boolean) Bd.returns (by simp) (hb hby at_134) hr
  · show OL (some (.int (1 : Int32))) Z.heap.size _ T3.heap _
    exact ⟨rfl, N3⟩
set_option maxRecDepth 65536 in
set_option maxHeartbeats 40000000 in
theorem law_17 (l : Launch) (Z : State) (a0 : Array Value) (hw : ∀ d ∈ tables_1, d.before a0 Z = true) (w : Nat → Addr) (kk : Nat → ClassId) (hN : Wd Z w kk) (ws : List Jvm.Cond) (p0 : Int32) (p1 : Int32) (p2 : Int32) (h0 : Heap) (O0 : Old Z Z.heap.size h0) (hp0 : (p2 &&& (1 : Int32)) = (1 : Int32)) (hp1 : (p1 &&& (1 : Int32)) = (1 : Int32)) (hp2 : ((((p0 / (400 : Int32)) * (400 : Int32)) + ((p1 >>> ((1 : Int32) &&& 31)) % (400 : Int32))) &&& (3 : Int32)) = (0 : Int32)) (hp3 : ¬ (((((p0 / (400 : Int32)) * (400 : Int32)) + ((p1 >>> ((1 : Int32) &&& 31)) % (400 : Int32))) % (25 : Int32)) = (0 : Int32))) (hp4 : ((((p0 / (400 : Int32)) * (400 : Int32)) + ((p1 >>> ((1 : Int32) &&& 31)) % (400 : Int32))) % (4 : Int32)) = (0 : Int32)) (hp5 : ¬ (((((p0 / (400 : Int32)) * (400 : Int32)) + ((p1 >>> ((1 : Int32) &&& 31)) % (400 : Int32))) % (100 : Int32)) = (0 : Int32))) :
    MetFree l x (head1 (Jvm.Cond.code x code maxLocals ret :: ws) room_1) (fun a U => a = #[(.int p0), (.int p1), (.int p2)] ∧ Z.Warmed39 U.vm ∧ U.heap = h0) (fun _ _ _ _ _ => True) (fun _ U o U' => ∃ v L, o = .returned v ∧ OL (some (.int (1 : Int32))) Z.heap.size v U'.heap L ∧ FrameEnd U o U' L 0 0) := by
  have hN' := hN
  obtain ⟨hS0, hE0, hS1, hE1, hF1_ordinal, hF0_ordinal⟩ := hN'
  refine MetFree.of_bodySF (plainFor_of_name pn_1) hisR ?_
  intro p e s m args below meth c s₁ Bd hml0 hP hK
  obtain ⟨rfl, hZ, hh⟩ := hP
  have hx := Bd.exec
  have hby := Bd.bytes
  have hml : c.maxLocals = 7 := hml0
  have hown : s.vm.findClass "com/example/kalendae/kalendae/calendar/CalendarRuleIsLeapYearPinLaw" = some m.cls := findClass_of_methodNamed Bd.named
  have hnm := (name_of_methodNamed Bd.named Bd.method).1
  have X0 : Stand p l e room_1 s m #[(.int p0), (.int p1), (.int p2)] below meth c s₁ [] 0 0 := Stand.of_body Bd
  have e0 : s₁.heap = h0 := by rw [← hh, Bd.state]; rfl
  have N0 := Fr.nil Z.heap.size
  have pre0 : ∀ t, Steps p.tables e below (s₁.setTop (mkF m 0 #[.val (.int p0), .val (.int p1), .val (.int p2), .unset, .unset, .unset, .unset] [])) t → Steps p.tables e below (s₁.setTop (entryFrame m #[(.int p0), (.int p1), (.int p2)] maxLocals)) t := fun t k => castTop (ef_1 m (.int p0) rfl (.int p1) rfl (.int p2) rfl) k
  obtain ⟨T1, X1, e1, st1⟩ := getS2 X0 hx hZ hown (host := "") (Or.inl (W hw 8 rfl)) Via.refl e0 (hS1.ext O0.2) (g := (mkF m 6 #[.val (.int p0), .val (.int p1), .val (.int p2), .unset, .unset, .unset, .unset] [])) rfl (hb hby at_6)
  obtain ⟨T2, X2, e2, st2⟩ := getS2 X1 hx hZ hown (host := "") (Or.inl (W hw 0 rfl)) Via.refl e1 (hS0.ext O0.2) (g := (mkF m 77 #[.val (.int p0), .val (.int p1), .val (.int p2), .val (.ref (w 1)), .val (.int (((p0 / (400 : Int32)) * (400 : Int32)) + ((p1 >>> ((1 : Int32) &&& 31)) % (400 : Int32)))), .val (.int ((p1 >>> ((1 : Int32) &&& 31)) % (400 : Int32))), .val (.int (1 : Int32))] [(.ref (w 1))])) rfl (hb hby at_77)
  obtain ⟨cq3, kq3, q3a, q3b, q3c⟩ := isOf hZ e2 (hE1.ext O0.2)
  obtain ⟨_, _, ⟨T3, L3, k3, n3⟩, -, X3, ⟨Lc3, hQ3, l3, y3, z3⟩, st3⟩ := X2.virtualBack hx (y := (⟨"com/example/kalendae/kalendae/calendar/CalendarRule", "isLeapYear", "(I)Z"⟩ : MethodName)) (z := (⟨"com/example/kalendae/kalendae/calendar/CalendarRule", "isLeapYear", "(I)Z"⟩ : MethodName)) hown (mvT hZ (W hw 3 rfl)) (mvT hZ (W hw 4 rfl)) (notFace_of_selects (args := #[]) (mvT hZ (W hw 6 rfl))) (mvT hZ (W hw 6 rfl)) (mvT hZ (W hw 5 rfl)) (by decide) (backOf (W := 0) (rm_11 l Z a0 hw w kk hN [] (((p0 / (400 : Int32)) * (400 : Int32)) + ((p1 >>> ((1 : Int32) &&& 31)) % (400 : Int32))) h0 O0 hp4 hp5) hZ (W hw 7 rfl) (W hw 1 rfl) (by decide) (by decide)) q3a q3c (g := (mkF m 121 #[.val (.int p0), .val (.int p1), .val (.int p2), .val (.ref (w 1)), .val (.int (((p0 / (400 : Int32)) * (400 : Int32)) + ((p1 >>> ((1 : Int32) &&& 31)) % (400 : Int32)))), .val (.int (1 : Int32)), .val (.int (1 : Int32))] [(.int (((p0 / (400 : Int32)) * (400 : Int32)) + ((p1 >>> ((1 : Int32) &&& 31)) % (400 : Int32)))), (.ref (w 1))])) rfl (by rw [hml]; rfl) (Steps.refl _) (argsL := [(.int (((p0 / (400 : Int32)) * (400 : Int32)) + ((p1 >>> ((1 : Int32) &&& 31)) % (400 : Int32))))]) (rest := []) (lenOf pd_0 rfl) rfl (by show 2 * 0 + _ ≤ _; exact Nat.le_of_eq rfl) (hb hby at_121) (fun _ _ => ⟨rfl, e2, (by decide : 0 + 0 ≤ _), (by decide : 0 + 0 ≤ _)⟩)
  dsimp only [Pt.U, Pt.locs, Pt.cells, Pt.slots] at X3 l3 y3 z3 st3 hQ3
  subst l3 y3 z3
  obtain ⟨rfl, N3q, e3⟩ := hQ3
  have N3 := Fr.app N0 N3q
  obtain ⟨fs, hr, hrun, hended, hW, hsame⟩ := X3.leave (v := some (.int (1 : Int32))) (fun h => by rw [Bd.returns] at h; cases h)
  refine ⟨_, _, pre0 _ ?_, hrun, hended, _, _, rfl, ?_, ⟨_, rfl⟩, hW, hsame.mono (by decide) (by decide)⟩
  · show Steps p.tables e below (s₁.setTop (mkF m 0 #[.val (.int p0), .val (.int p1), .val (.int p2), .unset, .unset, .unset, .unset] [])) _
    refine XS.iloadN X0.here hx rfl (hb hby at_0) rfl ?_
    show Steps p.tables e below (s₁.setTop (mkF m 1 #[.val (.int p0), .val (.int p1), .val (.int p2), .unset, .unset, .unset, .unset] [(.int p2)])) _
    refine XS.iconst X0.here hx rfl (hb hby at_1) ?_
    show Steps p.tables e below (s₁.setTop (mkF m 2 #[.val (.int p0), .val (.int p1), .val (.int p2), .unset, .unset, .unset, .unset] [(.int (1 : Int32)), (.int p2)])) _
    refine XS.iand X0.here hx rfl (hb hby at_2) rfl ?_
    show Steps p.tables e below (s₁.setTop (mkF m 3 #[.val (.int p0), .val (.int p1), .val (.int p2), .unset, .unset, .unset, .unset] [(.int (p2 &&& (1 : Int32)))])) _
    rw [hp0]
    show Steps p.tables e below (s₁.setTop (mkF m 3 #[.val (.int p0), .val (.int p1), .val (.int p2), .unset, .unset, .unset, .unset] [(.int (1 : Int32))])) _
    refine XS.ifNo X0.here hx rfl (hb hby at_3) rfl ((if0 _ _).trans (feq (by decide : ¬ ((1 : Int32) = (0 : Int32)))).1) ?_
    show Steps p.tables e below (s₁.setTop (mkF m 6 #[.val (.int p0), .val (.int p1), .val (.int p2), .unset, .unset, .unset, .unset] [])) _
    refine st1 _ ?_
    show Steps p.tables e below (T1.setTop (mkF m 9 #[.val (.int p0), .val (.int p1), .val (.int p2), .unset, .unset, .unset, .unset] [(.ref (w 1))])) _
    refine XS.goto X1.here hx rfl (pc0 := 9) (pc' := 15) rfl (hb hby at_9) (by decide) (by decide) ?_
    show Steps p.tables e below (T1.setTop (mkF m 15 #[.val (.int p0), .val (.int p1), .val (.int p2), .unset, .unset, .unset, .unset] [(.ref (w 1))])) _
    refine XS.astoreN X1.here hx rfl (hb hby at_15) rfl rfl (l' := #[.val (.int p0), .val (.int p1), .val (.int p2), .val (.ref (w 1)), .unset, .unset, .unset]) rfl ?_
    show Steps p.tables e below (T1.setTop (mkF m 16 #[.val (.int p0), .val (.int p1), .val (.int p2), .val (.ref (w 1)), .unset, .unset, .unset] [])) _
    refine XS.iloadN X1.here hx rfl (hb hby at_16) rfl ?_
    show Steps p.tables e below (T1.setTop (mkF m 17 #[.val (.int p0), .val (.int p1), .val (.int p2), .val (.ref (w 1)), .unset, .unset, .unset] [(.int p1)])) _
    refine XS.iconst X1.here hx rfl (hb hby at_17) ?_
    show Steps p.tables e below (T1.setTop (mkF m 18 #[.val (.int p0), .val (.int p1), .val (.int p2), .val (.ref (w 1)), .unset, .unset, .unset] [(.int (1 : Int32)), (.int p1)])) _
    refine XS.iand X1.here hx rfl (hb hby at_18) rfl ?_
    show Steps p.tables e below (T1.setTop (mkF m 19 #[.val (.int p0), .val (.int p1), .val (.int p2), .val (.ref (w 1)), .unset, .unset, .unset] [(.int (p1 &&& (1 : Int32)))])) _
    rw [hp1]
    show Steps p.tables e below (T1.setTop (mkF m 19 #[.val (.int p0), .val (.int p1), .val (.int p2), .val (.ref (w 1)), .unset, .unset, .unset] [(.int (1 : Int32))])) _
    refine XS.ifYes X1.here hx rfl (pc0 := 19) (pc' := 28) rfl (hb hby at_19) rfl ((if0 _ _).trans (feq (by decide : ¬ ((1 : Int32) = (0 : Int32)))).2) (by decide) (by decide) ?_
    show Steps p.tables e below (T1.setTop (mkF m 28 #[.val (.int p0), .val (.int p1), .val (.int p2), .val (.ref (w 1)), .unset, .unset, .unset] [])) _
    refine XS.iloadN X1.here hx rfl (hb hby at_28) rfl ?_
    show Steps p.tables e below (T1.setTop (mkF m 29 #[.val (.int p0), .val (.int p1), .val (.int p2), .val (.ref (w 1)), .unset, .unset, .unset] [(.int p1)])) _
    refine XS.iconst X1.here hx rfl (hb hby at_29) ?_
    show Steps p.tables e below (T1.setTop (mkF m 30 #[.val (.int p0), .val (.int p1), .val (.int p2), .val (.ref (w 1)), .unset, .unset, .unset] [(.int (1 : Int32)), (.int p1)])) _
    refine XS.ishr X1.here hx rfl (hb hby at_30) rfl ?_
    show Steps p.tables e below (T1.setTop (mkF m 31 #[.val (.int p0), .val (.int p1), .val (.int p2), .val (.ref (w 1)), .unset, .unset, .unset] [(.int (p1 >>> ((1 : Int32) &&& 31)))])) _
    refine XS.sipush X1.here hx rfl (hb hby at_31) ?_
    show Steps p.tables e below (T1.setTop (mkF m 34 #[.val (.int p0), .val (.int p1), .val (.int p2), .val (.ref (w 1)), .unset, .unset, .unset] [(.int (400 : Int32)), (.int (p1 >>> ((1 : Int32) &&& 31)))])) _
    refine iremM X1 hx rfl (hb hby at_34) rfl (by decide : ¬ ((400 : Int32) = (0 : Int32))) ?_
    show Steps p.tables e below (T1.setTop (mkF m 35 #[.val (.int p0), .val (.int p1), .val (.int p2), .val (.ref (w 1)), .unset, .unset, .unset] [(.int ((p1 >>> ((1 : Int32) &&& 31)) % (400 : Int32)))])) _
    refine XS.istore X1.here hx rfl (hb hby at_35) rfl (l' := #[.val (.int p0), .val (.int p1), .val (.int p2), .val (.ref (w 1)), .unset, .val (.int ((p1 >>> ((1 : Int32) &&& 31)) % (400 : Int32))), .unset]) rfl ?_
    show Steps p.tables e below (T1.setTop (mkF m 37 #[.val (.int p0), .val (.int p1), .val (.int p2), .val (.ref (w 1)), .unset, .val (.int ((p1 >>> ((1 : Int32) &&& 31)) % (400 : Int32))), .unset] [])) _
    refine XS.iloadN X1.here hx rfl (hb hby at_37) rfl ?_
    show Steps p.tables e below (T1.setTop (mkF m 38 #[.val (.int p0), .val (.int p1), .val (.int p2), .val (.ref (w 1)), .unset, .val (.int ((p1 >>> ((1 : Int32) &&& 31)) % (400 : Int32))), .unset] [(.int p0)])) _
    refine XS.sipush X1.here hx rfl (hb hby at_38) ?_
    show Steps p.tables e below (T1.setTop (mkF m 41 #[.val (.int p0), .val (.int p1), .val (.int p2), .val (.ref (w 1)), .unset, .val (.int ((p1 >>> ((1 : Int32) &&& 31)) % (400 : Int32))), .unset] [(.int (400 : Int32)), (.int p0)])) _
    refine XS.idiv X1.here hx rfl (hb hby at_41) rfl (by decide : ¬ ((400 : Int32) = (0 : Int32))) ?_
    show Steps p.tables e below (T1.setTop (mkF m 42 #[.val (.int p0), .val (.int p1), .val (.int p2), .val (.ref (w 1)), .unset, .val (.int ((p1 >>> ((1 : Int32) &&& 31)) % (400 : Int32))), .unset] [(.int (p0 / (400 : Int32)))])) _
    refine XS.sipush X1.here hx rfl (hb hby at_42) ?_
    show Steps p.tables e below (T1.setTop (mkF m 45 #[.val (.int p0), .val (.int p1), .val (.int p2), .val (.ref (w 1)), .unset, .val (.int ((p1 >>> ((1 : Int32) &&& 31)) % (400 : Int32))), .unset] [(.int (400 : Int32)), (.int (p0 / (400 : Int32)))])) _
    refine XS.imul X1.here hx rfl (hb hby at_45) rfl ?_
    show Steps p.tables e below (T1.setTop (mkF m 46 #[.val (.int p0), .val (.int p1), .val (.int p2), .val (.ref (w 1)), .unset, .val (.int ((p1 >>> ((1 : Int32) &&& 31)) % (400 : Int32))), .unset] [(.int ((p0 / (400 : Int32)) * (400 : Int32)))])) _
    refine XS.iload X1.here hx rfl (hb hby at_46) rfl ?_
    show Steps p.tables e below (T1.setTop (mkF m 48 #[.val (.int p0), .val (.int p1), .val (.int p2), .val (.ref (w 1)), .unset, .val (.int ((p1 >>> ((1 : Int32) &&& 31)) % (400 : Int32))), .unset] [(.int ((p1 >>> ((1 : Int32) &&& 31)) % (400 : Int32))), (.int ((p0 / (400 : Int32)) * (400 : Int32)))])) _
    refine XS.iadd X1.here hx rfl (hb hby at_48) rfl ?_
    show Steps p.tables e below (T1.setTop (mkF m 49 #[.val (.int p0), .val (.int p1), .val (.int p2), .val (.ref (w 1)), .unset, .val (.int ((p1 >>> ((1 : Int32) &&& 31)) % (400 : Int32))), .unset] [(.int (((p0 / (400 : Int32)) * (400 : Int32)) + ((p1 >>> ((1 : Int32) &&& 31)) % (400 : Int32))))])) _
    refine XS.istore X1.here hx rfl (hb hby at_49) rfl (l' := #[.val (.int p0), .val (.int p1), .val (.int p2), .val (.ref (w 1)), .val (.int (((p0 / (400 : Int32)) * (400 : Int32)) + ((p1 >>> ((1 : Int32) &&& 31)) % (400 : Int32)))), .val (.int ((p1 >>> ((1 : Int32) &&& 31)) % (400 : Int32))), .unset]) rfl ?_
    show Steps p.tables e below (T1.setTop (mkF m 51 #[.val (.int p0), .val (.int p1), .val (.int p2), .val (.ref (w 1)), .val (.int (((p0 / (400 : Int32)) * (400 : Int32)) + ((p1 >>> ((1 : Int32) &&& 31)) % (400 : Int32)))), .val (.int ((p1 >>> ((1 : Int32) &&& 31)) % (400 : Int32))), .unset] [])) _
    refine XS.iload X1.here hx rfl (hb hby at_51) rfl ?_
    show Steps p.tables e below (T1.setTop (mkF m 53 #[.val (.int p0), .val (.int p1), .val (.int p2), .val (.ref (w 1)), .val (.int (((p0 / (400 : Int32)) * (400 : Int32)) + ((p1 >>> ((1 : Int32) &&& 31)) % (400 : Int32)))), .val (.int ((p1 >>> ((1 : Int32) &&& 31)) % (400 : Int32))), .unset] [(.int (((p0 / (400 : Int32)) * (400 : Int32)) + ((p1 >>> ((1 : Int32) &&& 31)) % (400 : Int32))))])) _
    refine XS.iconst X1.here hx rfl (hb hby at_53) ?_
    show Steps p.tables e below (T1.setTop (mkF m 54 #[.val (.int p0), .val (.int p1), .val (.int p2), .val (.ref (w 1)), .val (.int (((p0 / (400 : Int32)) * (400 : Int32)) + ((p1 >>> ((1 : Int32) &&& 31)) % (400 : Int32)))), .val (.int ((p1 >>> ((1 : Int32) &&& 31)) % (400 : Int32))), .unset] [(.int (3 : Int32)), (.int (((p0 / (400 : Int32)) * (400 : Int32)) + ((p1 >>> ((1 : Int32) &&& 31)) % (400 : Int32))))])) _
    refine XS.iand X1.here hx rfl (hb hby at_54) rfl ?_
    show Steps p.tables e below (T1.setTop (mkF m 55 #[.val (.int p0), .val (.int p1), .val (.int p2), .val (.ref (w 1)), .val (.int (((p0 / (400 : Int32)) * (400 : Int32)) + ((p1 >>> ((1 : Int32) &&& 31)) % (400 : Int32)))), .val (.int ((p1 >>> ((1 : Int32) &&& 31)) % (400 : Int32))), .unset] [(.int ((((p0 / (400 : Int32)) * (400 : Int32)) + ((p1 >>> ((1 : Int32) &&& 31)) % (400 : Int32))) &&& (3 : Int32)))])) _
    refine XS.ifNo X1.here hx rfl (hb hby at_55) rfl ((if0 _ _).trans (teq hp2).2) ?_
    show Steps p.tables e below (T1.setTop (mkF m 58 #[.val (.int p0), .val (.int p1), .val (.int p2), .val (.ref (w 1)), .val (.int (((p0 / (400 : Int32)) * (400 : Int32)) + ((p1 >>> ((1 : Int32) &&& 31)) % (400 : Int32)))), .val (.int ((p1 >>> ((1 : Int32) &&& 31)) % (400 : Int32))), .unset] [])) _
    refine XS.iconst X1.here hx rfl (hb hby at_58) ?_
    show Steps p.tables e below (T1.setTop (mkF m 59 #[.val (.int p0), .val (.int p1), .val (.int p2), .val (.ref (w 1)), .val (.int (((p0 / (400 : Int32)) * (400 : Int32)) + ((p1 >>> ((1 : Int32) &&& 31)) % (400 : Int32)))), .val (.int ((p1 >>> ((1 : Int32) &&& 31)) % (400 : Int32))), .unset] [(.int (1 : Int32))])) _
    refine XS.goto X1.here hx rfl (pc0 := 59) (pc' := 63) rfl (hb hby at_59) (by decide) (by decide) ?_
    show Steps p.tables e below (T1.setTop (mkF m 63 #[.val (.int p0), .val (.int p1), .val (.int p2), .val (.ref (w 1)), .val (.int (((p0 / (400 : Int32)) * (400 : Int32)) + ((p1 >>> ((1 : Int32) &&& 31)) % (400 : Int32)))), .val (.int ((p1 >>> ((1 : Int32) &&& 31)) % (400 : Int32))), .unset] [(.int (1 : Int32))])) _
    refine XS.istore X1.here hx rfl (hb hby at_63) rfl (l' := #[.val (.int p0), .val (.int p1), .val (.int p2), .val (.ref (w 1)), .val (.int (((p0 / (400 : Int32)) * (400 : Int32)) + ((p1 >>> ((1 : Int32) &&& 31)) % (400 : Int32)))), .val (.int ((p1 >>> ((1 : Int32) &&& 31)) % (400 : Int32))), .val (.int (1 : Int32))]) rfl ?_
    show Steps p.tables e below (T1.setTop (mkF m 65 #[.val (.int p0), .val (.int p1), .val (.int p2), .val (.ref (w 1)), .val (.int (((p0 / (400 : Int32)) * (400 : Int32)) + ((p1 >>> ((1 : Int32) &&& 31)) % (400 : Int32)))), .val (.int ((p1 >>> ((1 : Int32) &&& 31)) % (400 : Int32))), .val (.int (1 : Int32))] [])) _
    refine XS.iload X1.here hx rfl (hb hby at_65) rfl ?_
    show Steps p.tables e below (T1.setTop (mkF m 67 #[.val (.int p0), .val (.int p1), .val (.int p2), .val (.ref (w 1)), .val (.int (((p0 / (400 : Int32)) * (400 : Int32)) + ((p1 >>> ((1 : Int32) &&& 31)) % (400 : Int32)))), .val (.int ((p1 >>> ((1 : Int32) &&& 31)) % (400 : Int32))), .val (.int (1 : Int32))] [(.int (1 : Int32))])) _
    refine XS.ifYes X1.here hx rfl (pc0 := 67) (pc' := 76) rfl (hb hby at_67) rfl ((if0 _ _).trans (feq (by decide : ¬ ((1 : Int32) = (0 : Int32)))).2) (by decide) (by decide) ?_
    show Steps p.tables e below (T1.setTop (mkF m 76 #[.val (.int p0), .val (.int p1), .val (.int p2), .val (.ref (w 1)), .val (.int (((p0 / (400 : Int32)) * (400 : Int32)) + ((p1 >>> ((1 : Int32) &&& 31)) % (400 : Int32)))), .val (.int ((p1 >>> ((1 : Int32) &&& 31)) % (400 : Int32))), .val (.int (1 : Int32))] [])) _
    refine XS.aloadN X1.here hx rfl (hb hby at_76) rfl rfl ?_
    show Steps p.tables e below (T1.setTop (mkF m 77 #[.val (.int p0), .val (.int p1), .val (.int p2), .val (.ref (w 1)), .val (.int (((p0 / (400 : Int32)) * (400 : Int32)) + ((p1 >>> ((1 : Int32) &&& 31)) % (400 : Int32)))), .val (.int ((p1 >>> ((1 : Int32) &&& 31)) % (400 : Int32))), .val (.int (1 : Int32))] [(.ref (w 1))])) _
    refine st2 _ ?_
    show Steps p.tables e below (T2.setTop (mkF m 80 #[.val (.int p0), .val (.int p1), .val (.int p2), .val (.ref (w 1)), .val (.int (((p0 / (400 : Int32)) * (400 : Int32)) + ((p1 >>> ((1 : Int32) &&& 31)) % (400 : Int32)))), .val (.int ((p1 >>> ((1 : Int32) &&& 31)) % (400 : Int32))), .val (.int (1 : Int32))] [(.ref (w 0)), (.ref (w 1))])) _
    refine Jvm.RoadKit.acmp (g := (mkF m 80 #[.val (.int p0), .val (.int p1), .val (.int p2), .val (.ref (w 1)), .val (.int (((p0 / (400 : Int32)) * (400 : Int32)) + ((p1 >>> ((1 : Int32) &&& 31)) % (400 : Int32)))), .val (.int ((p1 >>> ((1 : Int32) &&& 31)) % (400 : Int32))), .val (.int (1 : Int32))] [(.ref (w 0)), (.ref (w 1))])) X2 hx rfl rfl rfl (pc0 := 80) (pc' := 89) (same := false) rfl (hb hby at_80) rfl (decide_eq_false fun q => (Fld.ne hF1_ordinal hF0_ordinal (by decide)) (Value.ref.inj q)) (by decide) (by decide) ?_
    show Steps p.tables e below (T2.setTop (mkF m 89 #[.val (.int p0), .val (.int p1), .val (.int p2), .val (.ref (w 1)), .val (.int (((p0 / (400 : Int32)) * (400 : Int32)) + ((p1 >>> ((1 : Int32) &&& 31)) % (400 : Int32)))), .val (.int ((p1 >>> ((1 : Int32) &&& 31)) % (400 : Int32))), .val (.int (1 : Int32))] [])) _
    refine XS.iload X2.here hx rfl (hb hby at_89) rfl ?_
    show Steps p.tables e below (T2.setTop (mkF m 91 #[.val (.int p0), .val (.int p1), .val (.int p2), .val (.ref (w 1)), .val (.int (((p0 / (400 : Int32)) * (400 : Int32)) + ((p1 >>> ((1 : Int32) &&& 31)) % (400 : Int32)))), .val (.int ((p1 >>> ((1 : Int32) &&& 31)) % (400 : Int32))), .val (.int (1 : Int32))] [(.int (((p0 / (400 : Int32)) * (400 : Int32)) + ((p1 >>> ((1 : Int32) &&& 31)) % (400 : Int32))))])) _
    refine XS.bipush X2.here hx rfl (hb hby at_91) ?_
    show Steps p.tables e below (T2.setTop (mkF m 93 #[.val (.int p0), .val (.int p1), .val (.int p2), .val (.ref (w 1)), .val (.int (((p0 / (400 : Int32)) * (400 : Int32)) + ((p1 >>> ((1 : Int32) &&& 31)) % (400 : Int32)))), .val (.int ((p1 >>> ((1 : Int32) &&& 31)) % (400 : Int32))), .val (.int (1 : Int32))] [(.int (25 : Int32)), (.int (((p0 / (400 : Int32)) * (400 : Int32)) + ((p1 >>> ((1 : Int32) &&& 31)) % (400 : Int32))))])) _
    refine iremM X2 hx rfl (hb hby at_93) rfl (by decide : ¬ ((25 : Int32) = (0 : Int32))) ?_
    show Steps p.tables e below (T2.setTop (mkF m 94 #[.val (.int p0), .val (.int p1), .val (.int p2), .val (.ref (w 1)), .val (.int (((p0 / (400 : Int32)) * (400 : Int32)) + ((p1 >>> ((1 : Int32) &&& 31)) % (400 : Int32)))), .val (.int ((p1 >>> ((1 : Int32) &&& 31)) % (400 : Int32))), .val (.int (1 : Int32))] [(.int ((((p0 / (400 : Int32)) * (400 : Int32)) + ((p1 >>> ((1 : Int32) &&& 31)) % (400 : Int32))) % (25 : Int32)))])) _
    refine XS.ifNo X2.here hx rfl (hb hby at_94) rfl ((if0 _ _).trans (feq hp3).1) ?_
    show Steps p.tables e below (T2.setTop (mkF m 97 #[.val (.int p0), .val (.int p1), .val (.int p2), .val (.ref (w 1)), .val (.int (((p0 / (400 : Int32)) * (400 : Int32)) + ((p1 >>> ((1 : Int32) &&& 31)) % (400 : Int32)))), .val (.int ((p1 >>> ((1 : Int32) &&& 31)) % (400 : Int32))), .val (.int (1 : Int32))] [])) _
    refine XS.iconst X2.here hx rfl (hb hby at_97) ?_
    show Steps p.tables e below (T2.setTop (mkF m 98 #[.val (.int p0), .val (.int p1), .val (.int p2), .val (.ref (w 1)), .val (.int (((p0 / (400 : Int32)) * (400 : Int32)) + ((p1 >>> ((1 : Int32) &&& 31)) % (400 : Int32)))), .val (.int ((p1 >>> ((1 : Int32) &&& 31)) % (400 : Int32))), .val (.int (1 : Int32))] [(.int (1 : Int32))])) _
    refine XS.istore X2.here hx rfl (hb hby at_98) rfl (l' := #[.val (.int p0), .val (.int p1), .val (.int p2), .val (.ref (w 1)), .val (.int (((p0 / (400 : Int32)) * (400 : Int32)) + ((p1 >>> ((1 : Int32) &&& 31)) % (400 : Int32)))), .val (.int (1 : Int32)), .val (.int (1 : Int32))]) rfl ?_
    show Steps p.tables e below (T2.setTop (mkF m 100 #[.val (.int p0), .val (.int p1), .val (.int p2), .val (.ref (w 1)), .val (.int (((p0 / (400 : Int32)) * (400 : Int32)) + ((p1 >>> ((1 : Int32) &&& 31)) % (400 : Int32)))), .val (.int (1 : Int32)), .val (.int (1 : Int32))] [])) _
    refine XS.goto X2.here hx rfl (pc0 := 100) (pc' := 118) rfl (hb hby at_100) (by decide) (by decide) ?_
    show Steps p.tables e below (T2.setTop (mkF m 118 #[.val (.int p0), .val (.int p1), .val (.int p2), .val (.ref (w 1)), .val (.int (((p0 / (400 : Int32)) * (400 : Int32)) + ((p1 >>> ((1 : Int32) &&& 31)) % (400 : Int32)))), .val (.int (1 : Int32)), .val (.int (1 : Int32))] [])) _
    refine XS.aloadN X2.here hx rfl (hb hby at_118) rfl rfl ?_
    show Steps p.tables e below (T2.setTop (mkF m 119 #[.val (.int p0), .val (.int p1), .val (.int p2), .val (.ref (w 1)), .val (.int (((p0 / (400 : Int32)) * (400 : Int32)) + ((p1 >>> ((1 : Int32) &&& 31)) % (400 : Int32)))), .val (.int (1 : Int32)), .val (.int (1 : Int32))] [(.ref (w 1))])) _
    refine XS.iload X2.here hx rfl (hb hby at_119) rfl ?_
    show Steps p.tables e below (T2.setTop (mkF m 121 #[.val (.int p0), .val (.int p1), .val (.int p2), .val (.ref (w 1)), .val (.int (((p0 / (400 : Int32)) * (400 : Int32)) + ((p1 >>> ((1 : Int32) &&& 31)) % (400 : Int32)))), .val (.int (1 : Int32)), .val (.int (1 : Int32))] [(.int (((p0 / (400 : Int32)) * (400 : Int32)) + ((p1 >>> ((1 : Int32) &&& 31)) % (400 : Int32)))), (.ref (w 1))])) _
    refine st3.trans ?_
    show Steps p.tables e below (T3.setTop (mkF m 124 #[.val (.int p0), .val (.int p1), .val (.int p2), .val (.ref (w 1)), .val (.int (((p0 / (400 : Int32)) * (400 : Int32)) + ((p1 >>> ((1 : Int32) &&& 31)) % (400 : Int32)))), .val (.int (1 : Int32)), .val (.int (1 : Int32))] [(.int (1 : Int32))])) _
    refine XS.iload X3.here hx rfl (hb hby at_124) rfl ?_
    show Steps p.tables e below (T3.setTop (mkF m 126 #[.val (.int p0), .val (.int p1), .val (.int p2), .val (.ref (w 1)), .val (.int (((p0 / (400 : Int32)) * (400 : Int32)) + ((p1 >>> ((1 : Int32) &&& 31)) % (400 : Int32)))), .val (.int (1 : Int32)), .val (.int (1 : Int32))] [(.int (1 : Int32)), (.int (1 : Int32))])) _
    refine XS.icmpNo X3.here hx rfl (hb hby at_126) rfl (teq (by decide : (1 : Int32) = (1 : Int32))).2 ?_
    show Steps p.tables e below (T3.setTop (mkF m 129 #[.val (.int p0), .val (.int p1), .val (.int p2), .val (.ref (w 1)), .val (.int (((p0 / (400 : Int32)) * (400 : Int32)) + ((p1 >>> ((1 : Int32) &&& 31)) % (400 : Int32)))), .val (.int (1 : Int32)), .val (.int (1 : Int32))] [])) _
    refine XS.iconst X3.here hx rfl (hb hby at_129) ?_
    show Steps p.tables e below (T3.setTop (mkF m 130 #[.val (.int p0), .val (.int p1), .val (.int p2), .val (.ref (w 1)), .val (.int (((p0 / (400 : Int32)) * (400 : Int32)) + ((p1 >>> ((1 : Int32) &&& 31)) % (400 : Int32)))), .val (.int (1 : Int32)), .val (.int (1 : Int32))] [(.int (1 : Int32))])) _
    refine XS.goto X3.here hx rfl (pc0 := 130) (pc' := 134) rfl (hb hby at_130) (by decide) (by decide) ?_
    show Steps p.tables e below (T3.setTop (mkF m 134 #[.val (.int p0), .val (.int p1), .val (.int p2), .val (.ref (w 1)), .val (.int (((p0 / (400 : Int32)) * (400 : Int32)) + ((p1 >>> ((1 : Int32) &&& 31)) % (400 : Int32)))), .val (.int (1 : Int32)), .val (.int (1 : Int32))] [(.int (1 : Int32))])) _
    exact retN X3 hx (t := .boolean) Bd.returns (by simp) (hb hby at_134) hr
  · show OL (some (.int (1 : Int32))) Z.heap.size _ T3.heap _
    exact ⟨rfl, N3⟩
set_option maxRecDepth 65536 in
set_option maxHeartbeats 40000000 in
theorem law_18 (l : Launch) (Z : State) (a0 : Array Value) (hw : ∀ d ∈ tables_1, d.before a0 Z = true) (w : Nat → Addr) (kk : Nat → ClassId) (hN : Wd Z w kk) (ws : List Jvm.Cond) (p0 : Int32) (p1 : Int32) (p2 : Int32) (h0 : Heap) (O0 : Old Z Z.heap.size h0) (hp0 : (p2 &&& (1 : Int32)) = (1 : Int32)) (hp1 : (p1 &&& (1 : Int32)) = (1 : Int32)) (hp2 : ¬ (((((p0 / (400 : Int32)) * (400 : Int32)) + ((p1 >>> ((1 : Int32) &&& 31)) % (400 : Int32))) &&& (3 : Int32)) = (0 : Int32))) (hp3 : ¬ (((((p0 / (400 : Int32)) * (400 : Int32)) + ((p1 >>> ((1 : Int32) &&& 31)) % (400 : Int32))) % (4 : Int32)) = (0 : Int32))) :
    MetFree l x (head1 (Jvm.Cond.code x code maxLocals ret :: ws) room_1) (fun a U => a = #[(.int p0), (.int p1), (.int p2)] ∧ Z.Warmed39 U.vm ∧ U.heap = h0) (fun _ _ _ _ _ => True) (fun _ U o U' => ∃ v L, o = .returned v ∧ OL (some (.int (1 : Int32))) Z.heap.size v U'.heap L ∧ FrameEnd U o U' L 0 0) := by
  have hN' := hN
  obtain ⟨hS0, hE0, hS1, hE1, hF1_ordinal, hF0_ordinal⟩ := hN'
  refine MetFree.of_bodySF (plainFor_of_name pn_1) hisR ?_
  intro p e s m args below meth c s₁ Bd hml0 hP hK
  obtain ⟨rfl, hZ, hh⟩ := hP
  have hx := Bd.exec
  have hby := Bd.bytes
  have hml : c.maxLocals = 7 := hml0
  have hown : s.vm.findClass "com/example/kalendae/kalendae/calendar/CalendarRuleIsLeapYearPinLaw" = some m.cls := findClass_of_methodNamed Bd.named
  have hnm := (name_of_methodNamed Bd.named Bd.method).1
  have X0 : Stand p l e room_1 s m #[(.int p0), (.int p1), (.int p2)] below meth c s₁ [] 0 0 := Stand.of_body Bd
  have e0 : s₁.heap = h0 := by rw [← hh, Bd.state]; rfl
  have N0 := Fr.nil Z.heap.size
  have pre0 : ∀ t, Steps p.tables e below (s₁.setTop (mkF m 0 #[.val (.int p0), .val (.int p1), .val (.int p2), .unset, .unset, .unset, .unset] [])) t → Steps p.tables e below (s₁.setTop (entryFrame m #[(.int p0), (.int p1), (.int p2)] maxLocals)) t := fun t k => castTop (ef_1 m (.int p0) rfl (.int p1) rfl (.int p2) rfl) k
  obtain ⟨T1, X1, e1, st1⟩ := getS2 X0 hx hZ hown (host := "") (Or.inl (W hw 8 rfl)) Via.refl e0 (hS1.ext O0.2) (g := (mkF m 6 #[.val (.int p0), .val (.int p1), .val (.int p2), .unset, .unset, .unset, .unset] [])) rfl (hb hby at_6)
  obtain ⟨cq2, kq2, q2a, q2b, q2c⟩ := isOf hZ e1 (hE1.ext O0.2)
  obtain ⟨_, _, ⟨T2, L2, k2, n2⟩, -, X2, ⟨Lc2, hQ2, l2, y2, z2⟩, st2⟩ := X1.virtualBack hx (y := (⟨"com/example/kalendae/kalendae/calendar/CalendarRule", "isLeapYear", "(I)Z"⟩ : MethodName)) (z := (⟨"com/example/kalendae/kalendae/calendar/CalendarRule", "isLeapYear", "(I)Z"⟩ : MethodName)) hown (mvT hZ (W hw 3 rfl)) (mvT hZ (W hw 4 rfl)) (notFace_of_selects (args := #[]) (mvT hZ (W hw 6 rfl))) (mvT hZ (W hw 6 rfl)) (mvT hZ (W hw 5 rfl)) (by decide) (backOf (W := 0) (rm_13 l Z a0 hw w kk hN [] (((p0 / (400 : Int32)) * (400 : Int32)) + ((p1 >>> ((1 : Int32) &&& 31)) % (400 : Int32))) h0 O0 hp3) hZ (W hw 7 rfl) (W hw 1 rfl) (by decide) (by decide)) q2a q2c (g := (mkF m 121 #[.val (.int p0), .val (.int p1), .val (.int p2), .val (.ref (w 1)), .val (.int (((p0 / (400 : Int32)) * (400 : Int32)) + ((p1 >>> ((1 : Int32) &&& 31)) % (400 : Int32)))), .val (.int (0 : Int32)), .val (.int (0 : Int32))] [(.int (((p0 / (400 : Int32)) * (400 : Int32)) + ((p1 >>> ((1 : Int32) &&& 31)) % (400 : Int32)))), (.ref (w 1))])) rfl (by rw [hml]; rfl) (Steps.refl _) (argsL := [(.int (((p0 / (400 : Int32)) * (400 : Int32)) + ((p1 >>> ((1 : Int32) &&& 31)) % (400 : Int32))))]) (rest := []) (lenOf pd_0 rfl) rfl (by show 2 * 0 + _ ≤ _; exact Nat.le_of_eq rfl) (hb hby at_121) (fun _ _ => ⟨rfl, e1, (by decide : 0 + 0 ≤ _), (by decide : 0 + 0 ≤ _)⟩)
  dsimp only [Pt.U, Pt.locs, Pt.cells, Pt.slots] at X2 l2 y2 z2 st2 hQ2
  subst l2 y2 z2
  obtain ⟨rfl, N2q, e2⟩ := hQ2
  have N2 := Fr.app N0 N2q
  obtain ⟨fs, hr, hrun, hended, hW, hsame⟩ := X2.leave (v := some (.int (1 : Int32))) (fun h => by rw [Bd.returns] at h; cases h)
  refine ⟨_, _, pre0 _ ?_, hrun, hended, _, _, rfl, ?_, ⟨_, rfl⟩, hW, hsame.mono (by decide) (by decide)⟩
  · show Steps p.tables e below (s₁.setTop (mkF m 0 #[.val (.int p0), .val (.int p1), .val (.int p2), .unset, .unset, .unset, .unset] [])) _
    refine XS.iloadN X0.here hx rfl (hb hby at_0) rfl ?_
    show Steps p.tables e below (s₁.setTop (mkF m 1 #[.val (.int p0), .val (.int p1), .val (.int p2), .unset, .unset, .unset, .unset] [(.int p2)])) _
    refine XS.iconst X0.here hx rfl (hb hby at_1) ?_
    show Steps p.tables e below (s₁.setTop (mkF m 2 #[.val (.int p0), .val (.int p1), .val (.int p2), .unset, .unset, .unset, .unset] [(.int (1 : Int32)), (.int p2)])) _
    refine XS.iand X0.here hx rfl (hb hby at_2) rfl ?_
    show Steps p.tables e below (s₁.setTop (mkF m 3 #[.val (.int p0), .val (.int p1), .val (.int p2), .unset, .unset, .unset, .unset] [(.int (p2 &&& (1 : Int32)))])) _
    rw [hp0]
    show Steps p.tables e below (s₁.setTop (mkF m 3 #[.val (.int p0), .val (.int p1), .val (.int p2), .unset, .unset, .unset, .unset] [(.int (1 : Int32))])) _
    refine XS.ifNo X0.here hx rfl (hb hby at_3) rfl ((if0 _ _).trans (feq (by decide : ¬ ((1 : Int32) = (0 : Int32)))).1) ?_
    show Steps p.tables e below (s₁.setTop (mkF m 6 #[.val (.int p0), .val (.int p1), .val (.int p2), .unset, .unset, .unset, .unset] [])) _
    refine st1 _ ?_
    show Steps p.tables e below (T1.setTop (mkF m 9 #[.val (.int p0), .val (.int p1), .val (.int p2), .unset, .unset, .unset, .unset] [(.ref (w 1))])) _
    refine XS.goto X1.here hx rfl (pc0 := 9) (pc' := 15) rfl (hb hby at_9) (by decide) (by decide) ?_
    show Steps p.tables e below (T1.setTop (mkF m 15 #[.val (.int p0), .val (.int p1), .val (.int p2), .unset, .unset, .unset, .unset] [(.ref (w 1))])) _
    refine XS.astoreN X1.here hx rfl (hb hby at_15) rfl rfl (l' := #[.val (.int p0), .val (.int p1), .val (.int p2), .val (.ref (w 1)), .unset, .unset, .unset]) rfl ?_
    show Steps p.tables e below (T1.setTop (mkF m 16 #[.val (.int p0), .val (.int p1), .val (.int p2), .val (.ref (w 1)), .unset, .unset, .unset] [])) _
    refine XS.iloadN X1.here hx rfl (hb hby at_16) rfl ?_
    show Steps p.tables e below (T1.setTop (mkF m 17 #[.val (.int p0), .val (.int p1), .val (.int p2), .val (.ref (w 1)), .unset, .unset, .unset] [(.int p1)])) _
    refine XS.iconst X1.here hx rfl (hb hby at_17) ?_
    show Steps p.tables e below (T1.setTop (mkF m 18 #[.val (.int p0), .val (.int p1), .val (.int p2), .val (.ref (w 1)), .unset, .unset, .unset] [(.int (1 : Int32)), (.int p1)])) _
    refine XS.iand X1.here hx rfl (hb hby at_18) rfl ?_
    show Steps p.tables e below (T1.setTop (mkF m 19 #[.val (.int p0), .val (.int p1), .val (.int p2), .val (.ref (w 1)), .unset, .unset, .unset] [(.int (p1 &&& (1 : Int32)))])) _
    rw [hp1]
    show Steps p.tables e below (T1.setTop (mkF m 19 #[.val (.int p0), .val (.int p1), .val (.int p2), .val (.ref (w 1)), .unset, .unset, .unset] [(.int (1 : Int32))])) _
    refine XS.ifYes X1.here hx rfl (pc0 := 19) (pc' := 28) rfl (hb hby at_19) rfl ((if0 _ _).trans (feq (by decide : ¬ ((1 : Int32) = (0 : Int32)))).2) (by decide) (by decide) ?_
    show Steps p.tables e below (T1.setTop (mkF m 28 #[.val (.int p0), .val (.int p1), .val (.int p2), .val (.ref (w 1)), .unset, .unset, .unset] [])) _
    refine XS.iloadN X1.here hx rfl (hb hby at_28) rfl ?_
    show Steps p.tables e below (T1.setTop (mkF m 29 #[.val (.int p0), .val (.int p1), .val (.int p2), .val (.ref (w 1)), .unset, .unset, .unset] [(.int p1)])) _
    refine XS.iconst X1.here hx rfl (hb hby at_29) ?_
    show Steps p.tables e below (T1.setTop (mkF m 30 #[.val (.int p0), .val (.int p1), .val (.int p2), .val (.ref (w 1)), .unset, .unset, .unset] [(.int (1 : Int32)), (.int p1)])) _
    refine XS.ishr X1.here hx rfl (hb hby at_30) rfl ?_
    show Steps p.tables e below (T1.setTop (mkF m 31 #[.val (.int p0), .val (.int p1), .val (.int p2), .val (.ref (w 1)), .unset, .unset, .unset] [(.int (p1 >>> ((1 : Int32) &&& 31)))])) _
    refine XS.sipush X1.here hx rfl (hb hby at_31) ?_
    show Steps p.tables e below (T1.setTop (mkF m 34 #[.val (.int p0), .val (.int p1), .val (.int p2), .val (.ref (w 1)), .unset, .unset, .unset] [(.int (400 : Int32)), (.int (p1 >>> ((1 : Int32) &&& 31)))])) _
    refine iremM X1 hx rfl (hb hby at_34) rfl (by decide : ¬ ((400 : Int32) = (0 : Int32))) ?_
    show Steps p.tables e below (T1.setTop (mkF m 35 #[.val (.int p0), .val (.int p1), .val (.int p2), .val (.ref (w 1)), .unset, .unset, .unset] [(.int ((p1 >>> ((1 : Int32) &&& 31)) % (400 : Int32)))])) _
    refine XS.istore X1.here hx rfl (hb hby at_35) rfl (l' := #[.val (.int p0), .val (.int p1), .val (.int p2), .val (.ref (w 1)), .unset, .val (.int ((p1 >>> ((1 : Int32) &&& 31)) % (400 : Int32))), .unset]) rfl ?_
    show Steps p.tables e below (T1.setTop (mkF m 37 #[.val (.int p0), .val (.int p1), .val (.int p2), .val (.ref (w 1)), .unset, .val (.int ((p1 >>> ((1 : Int32) &&& 31)) % (400 : Int32))), .unset] [])) _
    refine XS.iloadN X1.here hx rfl (hb hby at_37) rfl ?_
    show Steps p.tables e below (T1.setTop (mkF m 38 #[.val (.int p0), .val (.int p1), .val (.int p2), .val (.ref (w 1)), .unset, .val (.int ((p1 >>> ((1 : Int32) &&& 31)) % (400 : Int32))), .unset] [(.int p0)])) _
    refine XS.sipush X1.here hx rfl (hb hby at_38) ?_
    show Steps p.tables e below (T1.setTop (mkF m 41 #[.val (.int p0), .val (.int p1), .val (.int p2), .val (.ref (w 1)), .unset, .val (.int ((p1 >>> ((1 : Int32) &&& 31)) % (400 : Int32))), .unset] [(.int (400 : Int32)), (.int p0)])) _
    refine XS.idiv X1.here hx rfl (hb hby at_41) rfl (by decide : ¬ ((400 : Int32) = (0 : Int32))) ?_
    show Steps p.tables e below (T1.setTop (mkF m 42 #[.val (.int p0), .val (.int p1), .val (.int p2), .val (.ref (w 1)), .unset, .val (.int ((p1 >>> ((1 : Int32) &&& 31)) % (400 : Int32))), .unset] [(.int (p0 / (400 : Int32)))])) _
    refine XS.sipush X1.here hx rfl (hb hby at_42) ?_
    show Steps p.tables e below (T1.setTop (mkF m 45 #[.val (.int p0), .val (.int p1), .val (.int p2), .val (.ref (w 1)), .unset, .val (.int ((p1 >>> ((1 : Int32) &&& 31)) % (400 : Int32))), .unset] [(.int (400 : Int32)), (.int (p0 / (400 : Int32)))])) _
    refine XS.imul X1.here hx rfl (hb hby at_45) rfl ?_
    show Steps p.tables e below (T1.setTop (mkF m 46 #[.val (.int p0), .val (.int p1), .val (.int p2), .val (.ref (w 1)), .unset, .val (.int ((p1 >>> ((1 : Int32) &&& 31)) % (400 : Int32))), .unset] [(.int ((p0 / (400 : Int32)) * (400 : Int32)))])) _
    refine XS.iload X1.here hx rfl (hb hby at_46) rfl ?_
    show Steps p.tables e below (T1.setTop (mkF m 48 #[.val (.int p0), .val (.int p1), .val (.int p2), .val (.ref (w 1)), .unset, .val (.int ((p1 >>> ((1 : Int32) &&& 31)) % (400 : Int32))), .unset] [(.int ((p1 >>> ((1 : Int32) &&& 31)) % (400 : Int32))), (.int ((p0 / (400 : Int32)) * (400 : Int32)))])) _
    refine XS.iadd X1.here hx rfl (hb hby at_48) rfl ?_
    show Steps p.tables e below (T1.setTop (mkF m 49 #[.val (.int p0), .val (.int p1), .val (.int p2), .val (.ref (w 1)), .unset, .val (.int ((p1 >>> ((1 : Int32) &&& 31)) % (400 : Int32))), .unset] [(.int (((p0 / (400 : Int32)) * (400 : Int32)) + ((p1 >>> ((1 : Int32) &&& 31)) % (400 : Int32))))])) _
    refine XS.istore X1.here hx rfl (hb hby at_49) rfl (l' := #[.val (.int p0), .val (.int p1), .val (.int p2), .val (.ref (w 1)), .val (.int (((p0 / (400 : Int32)) * (400 : Int32)) + ((p1 >>> ((1 : Int32) &&& 31)) % (400 : Int32)))), .val (.int ((p1 >>> ((1 : Int32) &&& 31)) % (400 : Int32))), .unset]) rfl ?_
    show Steps p.tables e below (T1.setTop (mkF m 51 #[.val (.int p0), .val (.int p1), .val (.int p2), .val (.ref (w 1)), .val (.int (((p0 / (400 : Int32)) * (400 : Int32)) + ((p1 >>> ((1 : Int32) &&& 31)) % (400 : Int32)))), .val (.int ((p1 >>> ((1 : Int32) &&& 31)) % (400 : Int32))), .unset] [])) _
    refine XS.iload X1.here hx rfl (hb hby at_51) rfl ?_
    show Steps p.tables e below (T1.setTop (mkF m 53 #[.val (.int p0), .val (.int p1), .val (.int p2), .val (.ref (w 1)), .val (.int (((p0 / (400 : Int32)) * (400 : Int32)) + ((p1 >>> ((1 : Int32) &&& 31)) % (400 : Int32)))), .val (.int ((p1 >>> ((1 : Int32) &&& 31)) % (400 : Int32))), .unset] [(.int (((p0 / (400 : Int32)) * (400 : Int32)) + ((p1 >>> ((1 : Int32) &&& 31)) % (400 : Int32))))])) _
    refine XS.iconst X1.here hx rfl (hb hby at_53) ?_
    show Steps p.tables e below (T1.setTop (mkF m 54 #[.val (.int p0), .val (.int p1), .val (.int p2), .val (.ref (w 1)), .val (.int (((p0 / (400 : Int32)) * (400 : Int32)) + ((p1 >>> ((1 : Int32) &&& 31)) % (400 : Int32)))), .val (.int ((p1 >>> ((1 : Int32) &&& 31)) % (400 : Int32))), .unset] [(.int (3 : Int32)), (.int (((p0 / (400 : Int32)) * (400 : Int32)) + ((p1 >>> ((1 : Int32) &&& 31)) % (400 : Int32))))])) _
    refine XS.iand X1.here hx rfl (hb hby at_54) rfl ?_
    show Steps p.tables e below (T1.setTop (mkF m 55 #[.val (.int p0), .val (.int p1), .val (.int p2), .val (.ref (w 1)), .val (.int (((p0 / (400 : Int32)) * (400 : Int32)) + ((p1 >>> ((1 : Int32) &&& 31)) % (400 : Int32)))), .val (.int ((p1 >>> ((1 : Int32) &&& 31)) % (400 : Int32))), .unset] [(.int ((((p0 / (400 : Int32)) * (400 : Int32)) + ((p1 >>> ((1 : Int32) &&& 31)) % (400 : Int32))) &&& (3 : Int32)))])) _
    refine XS.ifYes X1.here hx rfl (pc0 := 55) (pc' := 62) rfl (hb hby at_55) rfl ((if0 _ _).trans (feq hp2).2) (by decide) (by decide) ?_
    show Steps p.tables e below (T1.setTop (mkF m 62 #[.val (.int p0), .val (.int p1), .val (.int p2), .val (.ref (w 1)), .val (.int (((p0 / (400 : Int32)) * (400 : Int32)) + ((p1 >>> ((1 : Int32) &&& 31)) % (400 : Int32)))), .val (.int ((p1 >>> ((1 : Int32) &&& 31)) % (400 : Int32))), .unset] [])) _
    refine XS.iconst X1.here hx rfl (hb hby at_62) ?_
    show Steps p.tables e below (T1.setTop (mkF m 63 #[.val (.int p0), .val (.int p1), .val (.int p2), .val (.ref (w 1)), .val (.int (((p0 / (400 : Int32)) * (400 : Int32)) + ((p1 >>> ((1 : Int32) &&& 31)) % (400 : Int32)))), .val (.int ((p1 >>> ((1 : Int32) &&& 31)) % (400 : Int32))), .unset] [(.int (0 : Int32))])) _
    refine XS.istore X1.here hx rfl (hb hby at_63) rfl (l' := #[.val (.int p0), .val (.int p1), .val (.int p2), .val (.ref (w 1)), .val (.int (((p0 / (400 : Int32)) * (400 : Int32)) + ((p1 >>> ((1 : Int32) &&& 31)) % (400 : Int32)))), .val (.int ((p1 >>> ((1 : Int32) &&& 31)) % (400 : Int32))), .val (.int (0 : Int32))]) rfl ?_
    show Steps p.tables e below (T1.setTop (mkF m 65 #[.val (.int p0), .val (.int p1), .val (.int p2), .val (.ref (w 1)), .val (.int (((p0 / (400 : Int32)) * (400 : Int32)) + ((p1 >>> ((1 : Int32) &&& 31)) % (400 : Int32)))), .val (.int ((p1 >>> ((1 : Int32) &&& 31)) % (400 : Int32))), .val (.int (0 : Int32))] [])) _
    refine XS.iload X1.here hx rfl (hb hby at_65) rfl ?_
    show Steps p.tables e below (T1.setTop (mkF m 67 #[.val (.int p0), .val (.int p1), .val (.int p2), .val (.ref (w 1)), .val (.int (((p0 / (400 : Int32)) * (400 : Int32)) + ((p1 >>> ((1 : Int32) &&& 31)) % (400 : Int32)))), .val (.int ((p1 >>> ((1 : Int32) &&& 31)) % (400 : Int32))), .val (.int (0 : Int32))] [(.int (0 : Int32))])) _
    refine XS.ifNo X1.here hx rfl (hb hby at_67) rfl ((if0 _ _).trans (teq (by decide : (0 : Int32) = (0 : Int32))).2) ?_
    show Steps p.tables e below (T1.setTop (mkF m 70 #[.val (.int p0), .val (.int p1), .val (.int p2), .val (.ref (w 1)), .val (.int (((p0 / (400 : Int32)) * (400 : Int32)) + ((p1 >>> ((1 : Int32) &&& 31)) % (400 : Int32)))), .val (.int ((p1 >>> ((1 : Int32) &&& 31)) % (400 : Int32))), .val (.int (0 : Int32))] [])) _
    refine XS.iconst X1.here hx rfl (hb hby at_70) ?_
    show Steps p.tables e below (T1.setTop (mkF m 71 #[.val (.int p0), .val (.int p1), .val (.int p2), .val (.ref (w 1)), .val (.int (((p0 / (400 : Int32)) * (400 : Int32)) + ((p1 >>> ((1 : Int32) &&& 31)) % (400 : Int32)))), .val (.int ((p1 >>> ((1 : Int32) &&& 31)) % (400 : Int32))), .val (.int (0 : Int32))] [(.int (0 : Int32))])) _
    refine XS.istore X1.here hx rfl (hb hby at_71) rfl (l' := #[.val (.int p0), .val (.int p1), .val (.int p2), .val (.ref (w 1)), .val (.int (((p0 / (400 : Int32)) * (400 : Int32)) + ((p1 >>> ((1 : Int32) &&& 31)) % (400 : Int32)))), .val (.int (0 : Int32)), .val (.int (0 : Int32))]) rfl ?_
    show Steps p.tables e below (T1.setTop (mkF m 73 #[.val (.int p0), .val (.int p1), .val (.int p2), .val (.ref (w 1)), .val (.int (((p0 / (400 : Int32)) * (400 : Int32)) + ((p1 >>> ((1 : Int32) &&& 31)) % (400 : Int32)))), .val (.int (0 : Int32)), .val (.int (0 : Int32))] [])) _
    refine XS.goto X1.here hx rfl (pc0 := 73) (pc' := 118) rfl (hb hby at_73) (by decide) (by decide) ?_
    show Steps p.tables e below (T1.setTop (mkF m 118 #[.val (.int p0), .val (.int p1), .val (.int p2), .val (.ref (w 1)), .val (.int (((p0 / (400 : Int32)) * (400 : Int32)) + ((p1 >>> ((1 : Int32) &&& 31)) % (400 : Int32)))), .val (.int (0 : Int32)), .val (.int (0 : Int32))] [])) _
    refine XS.aloadN X1.here hx rfl (hb hby at_118) rfl rfl ?_
    show Steps p.tables e below (T1.setTop (mkF m 119 #[.val (.int p0), .val (.int p1), .val (.int p2), .val (.ref (w 1)), .val (.int (((p0 / (400 : Int32)) * (400 : Int32)) + ((p1 >>> ((1 : Int32) &&& 31)) % (400 : Int32)))), .val (.int (0 : Int32)), .val (.int (0 : Int32))] [(.ref (w 1))])) _
    refine XS.iload X1.here hx rfl (hb hby at_119) rfl ?_
    show Steps p.tables e below (T1.setTop (mkF m 121 #[.val (.int p0), .val (.int p1), .val (.int p2), .val (.ref (w 1)), .val (.int (((p0 / (400 : Int32)) * (400 : Int32)) + ((p1 >>> ((1 : Int32) &&& 31)) % (400 : Int32)))), .val (.int (0 : Int32)), .val (.int (0 : Int32))] [(.int (((p0 / (400 : Int32)) * (400 : Int32)) + ((p1 >>> ((1 : Int32) &&& 31)) % (400 : Int32)))), (.ref (w 1))])) _
    refine st2.trans ?_
    show Steps p.tables e below (T2.setTop (mkF m 124 #[.val (.int p0), .val (.int p1), .val (.int p2), .val (.ref (w 1)), .val (.int (((p0 / (400 : Int32)) * (400 : Int32)) + ((p1 >>> ((1 : Int32) &&& 31)) % (400 : Int32)))), .val (.int (0 : Int32)), .val (.int (0 : Int32))] [(.int (0 : Int32))])) _
    refine XS.iload X2.here hx rfl (hb hby at_124) rfl ?_
    show Steps p.tables e below (T2.setTop (mkF m 126 #[.val (.int p0), .val (.int p1), .val (.int p2), .val (.ref (w 1)), .val (.int (((p0 / (400 : Int32)) * (400 : Int32)) + ((p1 >>> ((1 : Int32) &&& 31)) % (400 : Int32)))), .val (.int (0 : Int32)), .val (.int (0 : Int32))] [(.int (0 : Int32)), (.int (0 : Int32))])) _
    refine XS.icmpNo X2.here hx rfl (hb hby at_126) rfl (teq (by decide : (0 : Int32) = (0 : Int32))).2 ?_
    show Steps p.tables e below (T2.setTop (mkF m 129 #[.val (.int p0), .val (.int p1), .val (.int p2), .val (.ref (w 1)), .val (.int (((p0 / (400 : Int32)) * (400 : Int32)) + ((p1 >>> ((1 : Int32) &&& 31)) % (400 : Int32)))), .val (.int (0 : Int32)), .val (.int (0 : Int32))] [])) _
    refine XS.iconst X2.here hx rfl (hb hby at_129) ?_
    show Steps p.tables e below (T2.setTop (mkF m 130 #[.val (.int p0), .val (.int p1), .val (.int p2), .val (.ref (w 1)), .val (.int (((p0 / (400 : Int32)) * (400 : Int32)) + ((p1 >>> ((1 : Int32) &&& 31)) % (400 : Int32)))), .val (.int (0 : Int32)), .val (.int (0 : Int32))] [(.int (1 : Int32))])) _
    refine XS.goto X2.here hx rfl (pc0 := 130) (pc' := 134) rfl (hb hby at_130) (by decide) (by decide) ?_
    show Steps p.tables e below (T2.setTop (mkF m 134 #[.val (.int p0), .val (.int p1), .val (.int p2), .val (.ref (w 1)), .val (.int (((p0 / (400 : Int32)) * (400 : Int32)) + ((p1 >>> ((1 : Int32) &&& 31)) % (400 : Int32)))), .val (.int (0 : Int32)), .val (.int (0 : Int32))] [(.int (1 : Int32))])) _
    exact retN X2 hx (t := .boolean) Bd.returns (by simp) (hb hby at_134) hr
  · show OL (some (.int (1 : Int32))) Z.heap.size _ T2.heap _
    exact ⟨rfl, N2⟩
set_option maxRecDepth 65536 in
set_option maxHeartbeats 40000000 in
theorem law_all (l : Launch) (Z : State) (a0 : Array Value) (hw : ∀ d ∈ tables_1, d.before a0 Z = true) (w : Nat → Addr) (kk : Nat → ClassId) (hN : Wd Z w kk) (ws : List Jvm.Cond) (p0 : Int32) (p1 : Int32) (p2 : Int32) (h0 : Heap) (O0 : Old Z Z.heap.size h0) :
    MetFree l x (head1 (Jvm.Cond.code x code maxLocals ret :: ws) room_1) (fun a U => a = #[(.int p0), (.int p1), (.int p2)] ∧ Z.Warmed39 U.vm ∧ U.heap = h0) (fun _ _ _ _ _ => True) (fun _ U o U' => ∃ v L, o = .returned v ∧ OL (some (.int (1 : Int32))) Z.heap.size v U'.heap L ∧ FrameEnd U o U' L 0 0) := by
  rcases (own_split_0 p2) with hd0 | hd0
  · rcases (own_split_0 p1) with hd1 | hd1
    · by_cases hd2 : (p0 &&& (3 : Int32)) = (0 : Int32)
      · have hi4_0 : (p0 % (4 : Int32)) = (0 : Int32) := (own_leap p0).1.mp hd2
        exact law_2 l Z a0 hw w kk hN ws p0 p1 p2 h0 O0 hd0 hd1 hd2 hi4_0
      · have hi4_0 : ¬ ((p0 % (4 : Int32)) = (0 : Int32)) := fun q => hd2 ((own_leap p0).1.mpr q)
        exact law_4 l Z a0 hw w kk hN ws p0 p1 p2 h0 O0 hd0 hd1 hd2 hi4_0
    · by_cases hd2 : ((((p0 / (400 : Int32)) * (400 : Int32)) + ((p1 >>> ((1 : Int32) &&& 31)) % (400 : Int32))) &&& (3 : Int32)) = (0 : Int32)
      · have hi4_0 : ((((p0 / (400 : Int32)) * (400 : Int32)) + ((p1 >>> ((1 : Int32) &&& 31)) % (400 : Int32))) % (4 : Int32)) = (0 : Int32) := (own_leap (((p0 / (400 : Int32)) * (400 : Int32)) + ((p1 >>> ((1 : Int32) &&& 31)) % (400 : Int32)))).1.mp hd2
        exact law_5 l Z a0 hw w kk hN ws p0 p1 p2 h0 O0 hd0 hd1 hd2 hi4_0
      · have hi4_0 : ¬ (((((p0 / (400 : Int32)) * (400 : Int32)) + ((p1 >>> ((1 : Int32) &&& 31)) % (400 : Int32))) % (4 : Int32)) = (0 : Int32)) := fun q => hd2 ((own_leap (((p0 / (400 : Int32)) * (400 : Int32)) + ((p1 >>> ((1 : Int32) &&& 31)) % (400 : Int32)))).1.mpr q)
        exact law_6 l Z a0 hw w kk hN ws p0 p1 p2 h0 O0 hd0 hd1 hd2 hi4_0
  · rcases (own_split_0 p1) with hd1 | hd1
    · by_cases hd2 : (p0 &&& (3 : Int32)) = (0 : Int32)
      · by_cases hd3 : (p0 % (25 : Int32)) = (0 : Int32)
        · by_cases hd4 : (p0 &&& (15 : Int32)) = (0 : Int32)
          · have hi6_0 : (p0 % (4 : Int32)) = (0 : Int32) := (own_leap p0).1.mp hd2
            have hi6_1 : (p0 % (100 : Int32)) = (0 : Int32) := ((own_leap p0).2.1 hd2).mp hd3
            have hi6_2 : (p0 % (400 : Int32)) = (0 : Int32) := ((own_leap p0).2.2 hd2 hd3).mp hd4
            exact law_8 l Z a0 hw w kk hN ws p0 p1 p2 h0 O0 hd0 hd1 hd2 hd3 hd4 hi6_0 hi6_1 hi6_2
          · have hi6_0 : (p0 % (4 : Int32)) = (0 : Int32) := (own_leap p0).1.mp hd2
            have hi6_1 : (p0 % (100 : Int32)) = (0 : Int32) := ((own_leap p0).2.1 hd2).mp hd3
            have hi6_2 : ¬ ((p0 % (400 : Int32)) = (0 : Int32)) := fun q => hd4 (((own_leap p0).2.2 hd2 hd3).mpr q)
            exact law_10 l Z a0 hw w kk hN ws p0 p1 p2 h0 O0 hd0 hd1 hd2 hd3 hd4 hi6_0 hi6_1 hi6_2
        · have hi5_0 : (p0 % (4 : Int32)) = (0 : Int32) := (own_leap p0).1.mp hd2
          have hi5_1 : ¬ ((p0 % (100 : Int32)) = (0 : Int32)) := fun q => hd3 (((own_leap p0).2.1 hd2).mpr q)
          exact law_12 l Z a0 hw w kk hN ws p0 p1 p2 h0 O0 hd0 hd1 hd2 hd3 hi5_0 hi5_1
      · have hi4_0 : ¬ ((p0 % (4 : Int32)) = (0 : Int32)) := fun q => hd2 ((own_leap p0).1.mpr q)
        exact law_14 l Z a0 hw w kk hN ws p0 p1 p2 h0 O0 hd0 hd1 hd2 hi4_0
    · by_cases hd2 : ((((p0 / (400 : Int32)) * (400 : Int32)) + ((p1 >>> ((1 : Int32) &&& 31)) % (400 : Int32))) &&& (3 : Int32)) = (0 : Int32)
      · by_cases hd3 : ((((p0 / (400 : Int32)) * (400 : Int32)) + ((p1 >>> ((1 : Int32) &&& 31)) % (400 : Int32))) % (25 : Int32)) = (0 : Int32)
        · by_cases hd4 : ((((p0 / (400 : Int32)) * (400 : Int32)) + ((p1 >>> ((1 : Int32) &&& 31)) % (400 : Int32))) &&& (15 : Int32)) = (0 : Int32)
          · have hi6_0 : ((((p0 / (400 : Int32)) * (400 : Int32)) + ((p1 >>> ((1 : Int32) &&& 31)) % (400 : Int32))) % (4 : Int32)) = (0 : Int32) := (own_leap (((p0 / (400 : Int32)) * (400 : Int32)) + ((p1 >>> ((1 : Int32) &&& 31)) % (400 : Int32)))).1.mp hd2
            have hi6_1 : ((((p0 / (400 : Int32)) * (400 : Int32)) + ((p1 >>> ((1 : Int32) &&& 31)) % (400 : Int32))) % (100 : Int32)) = (0 : Int32) := ((own_leap (((p0 / (400 : Int32)) * (400 : Int32)) + ((p1 >>> ((1 : Int32) &&& 31)) % (400 : Int32)))).2.1 hd2).mp hd3
            have hi6_2 : ((((p0 / (400 : Int32)) * (400 : Int32)) + ((p1 >>> ((1 : Int32) &&& 31)) % (400 : Int32))) % (400 : Int32)) = (0 : Int32) := ((own_leap (((p0 / (400 : Int32)) * (400 : Int32)) + ((p1 >>> ((1 : Int32) &&& 31)) % (400 : Int32)))).2.2 hd2 hd3).mp hd4
            exact law_15 l Z a0 hw w kk hN ws p0 p1 p2 h0 O0 hd0 hd1 hd2 hd3 hd4 hi6_0 hi6_1 hi6_2
          · have hi6_0 : ((((p0 / (400 : Int32)) * (400 : Int32)) + ((p1 >>> ((1 : Int32) &&& 31)) % (400 : Int32))) % (4 : Int32)) = (0 : Int32) := (own_leap (((p0 / (400 : Int32)) * (400 : Int32)) + ((p1 >>> ((1 : Int32) &&& 31)) % (400 : Int32)))).1.mp hd2
            have hi6_1 : ((((p0 / (400 : Int32)) * (400 : Int32)) + ((p1 >>> ((1 : Int32) &&& 31)) % (400 : Int32))) % (100 : Int32)) = (0 : Int32) := ((own_leap (((p0 / (400 : Int32)) * (400 : Int32)) + ((p1 >>> ((1 : Int32) &&& 31)) % (400 : Int32)))).2.1 hd2).mp hd3
            have hi6_2 : ¬ (((((p0 / (400 : Int32)) * (400 : Int32)) + ((p1 >>> ((1 : Int32) &&& 31)) % (400 : Int32))) % (400 : Int32)) = (0 : Int32)) := fun q => hd4 (((own_leap (((p0 / (400 : Int32)) * (400 : Int32)) + ((p1 >>> ((1 : Int32) &&& 31)) % (400 : Int32)))).2.2 hd2 hd3).mpr q)
            exact law_16 l Z a0 hw w kk hN ws p0 p1 p2 h0 O0 hd0 hd1 hd2 hd3 hd4 hi6_0 hi6_1 hi6_2
        · have hi5_0 : ((((p0 / (400 : Int32)) * (400 : Int32)) + ((p1 >>> ((1 : Int32) &&& 31)) % (400 : Int32))) % (4 : Int32)) = (0 : Int32) := (own_leap (((p0 / (400 : Int32)) * (400 : Int32)) + ((p1 >>> ((1 : Int32) &&& 31)) % (400 : Int32)))).1.mp hd2
          have hi5_1 : ¬ (((((p0 / (400 : Int32)) * (400 : Int32)) + ((p1 >>> ((1 : Int32) &&& 31)) % (400 : Int32))) % (100 : Int32)) = (0 : Int32)) := fun q => hd3 (((own_leap (((p0 / (400 : Int32)) * (400 : Int32)) + ((p1 >>> ((1 : Int32) &&& 31)) % (400 : Int32)))).2.1 hd2).mpr q)
          exact law_17 l Z a0 hw w kk hN ws p0 p1 p2 h0 O0 hd0 hd1 hd2 hd3 hi5_0 hi5_1
      · have hi4_0 : ¬ (((((p0 / (400 : Int32)) * (400 : Int32)) + ((p1 >>> ((1 : Int32) &&& 31)) % (400 : Int32))) % (4 : Int32)) = (0 : Int32)) := fun q => hd2 ((own_leap (((p0 / (400 : Int32)) * (400 : Int32)) + ((p1 >>> ((1 : Int32) &&& 31)) % (400 : Int32)))).1.mpr q)
        exact law_18 l Z a0 hw w kk hN ws p0 p1 p2 h0 O0 hd0 hd1 hd2 hi4_0
set_option maxRecDepth 65536 in
set_option maxHeartbeats 40000000 in
theorem comes_1 {Post : Tables → Env → Array Value → State → Outcome → State → Prop} (hpost : ∀ tb e args s v u, (limb_1_1.after args s (.returned v) u = true ∧ limb_1_2.after args s (.returned v) u = true ∧ True) → FrameEnd s (.returned v) u (Jvm.fieldLocs frame_1_writes args s ++ Jvm.arrayLocs frame_1_arrays args s ++ Jvm.staticLocs frame_1_statics s) 0 0 → Post tb e args s (.returned v) u) :
    ArmFor flags0 classFile x code maxLocals ret World_1 tables_1 room_1 Calls_1 rest_1 Pre_1 Post := by
  intro l hfl _ _ p e ha hc hk s m args below hf hA hF happ hP
  obtain ⟨hcalls, hrest, hpre⟩ := hP
  obtain ⟨-, -, -, hnamed, -, -, -, hat⟩ := (Spec.applies_iff hf).mp happ
  obtain ⟨hg, hn⟩ := and_e (Cond.before_iff.mp (show (Jvm.Cond.and given_1 narrow_1).before args s = true from hpre))
  obtain ⟨g1, g2⟩ := and_e hg
  obtain ⟨g3, g4⟩ := and_e g2
  obtain ⟨g5, g6⟩ := and_e g4
  obtain ⟨g7, g8⟩ := and_e hn
  obtain ⟨g9, g10⟩ := and_e g8
  obtain ⟨g11, g12⟩ := and_e g10
  obtain ⟨w0, w1, w2, rfl⟩ : ∃ w0 w1 w2 : Value, args = #[w0, w1, w2] := by
    have hs : args.size = 3 := by simpa [Cond.value, given_1] using g1
    obtain ⟨L⟩ := args
    match L, hs with
    | [w0, w1, w2], _ => exact ⟨w0, w1, w2, rfl⟩
  have hw := fun d (hd : d ∈ tables_1) => atoms_spec (ws := Jvm.Cond.code x code maxLocals ret :: tables_1) hat d (List.mem_cons_of_mem _ hd)
  have hfit : Fit s := fun {y c} hc i hi => by
    obtain ⟨ha, rfl⟩ := Array.getElem?_eq_some_iff.mp hc
    have q := List.all_eq_true.mp ((Array.all_eq_true_iff_forall_mem.mp hF) _ (Array.getElem_mem ha)) i (List.mem_range.mpr hi)
    simpa [Array.getElem?_eq_getElem hi] using q
  obtain ⟨i0, ei0⟩ := is_v g3
  obtain rfl : w0 = (.int i0) := Option.some.inj ei0
  obtain ⟨i1, ei1⟩ := is_v g5
  obtain rfl : w1 = (.int i1) := Option.some.inj ei1
  obtain ⟨i2, ei2⟩ := is_v g6
  obtain rfl : w2 = (.int i2) := Option.some.inj ei2
  obtain ⟨x0, v0⟩ := exa_v g7
  obtain ⟨x1, v1⟩ := exa_v g9
  have hN : Wd s (fun n => [x0, x1].getD n 0) (fun n => [0, 0].getD n 0) := ⟨Sta.start v0 (Or.inr ⟨(W hw 1 rfl), (W hw 2 rfl)⟩), Exa.start v0 g7, Sta.start v1 (Or.inr ⟨(W hw 1 rfl), (W hw 9 rfl)⟩), Exa.start v1 g9, Fld.start ((fld_at v1).symm.trans (own_eqv g11 (Term.int_eval _))), Fld.start ((fld_at v0).symm.trans (own_eqv g12 (Term.int_eval _)))⟩
  obtain ⟨n, o, h1, h2, h3, _, L, rfl, ⟨rfl, N⟩, hq⟩ := law_all l s _ hw _ _ hN tables_1 i0 i1 i2 s.heap (Old.start s) p e ha hc hk s m _ below hf ((Spec.applies_iff_loose hf).mp happ).1 ⟨rfl, State.Warmed39.refl s, rfl⟩ trivial
  refine ⟨n, _, h1, h2, h3, hpost _ _ _ _ _ _ ⟨Cond.after_iff.mpr rfl, Cond.after_iff.mpr (eq_i res_at (Term.int_eval (1)) rfl), trivial⟩ ⟨hq.1, hq.2.1, (hq.2.2.sift fun y hy => Or.inr (N y hy)).mono (by decide) (by decide)⟩⟩
theorem main_1_1 : Claimed_1_1 := comes_1 fun _ _ _ _ _ _ h hF => ⟨h.1, hF⟩
theorem main_1_2 : Claimed_1_2 := comes_1 fun _ _ _ _ _ _ h hF => ⟨h.2.1, hF⟩
end Jvm.Pilot.@@N@@
namespace Jvm.Pilot.@@N@@
open Jvm Jvm.ClassFile Sem Op Lib Jvm.Free Jvm.Stand Jvm.Pilot.@@N@@.Jvm.D
/-! MADE BY PROGRAM (witnessworld.py) out of the Statement's table words and the real class files: 12 classes; the members and pool entries that the words name. The judged class is class 1, her method 1. -/
namespace start1
open Jvm.ClassFile
def u (s : String) : CpInfo := .utf8 (stringToUtf16 s)
/-- a pool by its gaps: so many unusable entries, then the entry; so many at the end -/
def gap : Nat → List CpInfo → List CpInfo
  | 0, r => r
  | n + 1, r => .unusable :: gap n r
def poolList (es : List (Nat × CpInfo)) (last : Nat) : List CpInfo := es.foldr (fun e r => gap e.1 (e.2 :: r)) (gap last [])
def pool (es : List (Nat × CpInfo)) (last : Nat) : Array CpInfo := ⟨poolList es last⟩
def fileOf (pool : Array CpInfo) (this : Nat) (attrs : Array Attribute := #[]) (ms : Array MethodInfo := #[]) (fl : Nat := 33) (sup : Nat := 0) (ifs : Array Nat := #[]) (fds : Array FieldInfo := #[]) : ClassFile where
  minorVersion := 0
  majorVersion := 65
  constantPool := pool
  accessFlags := fl
  thisClass := this
  superClass := sup
  interfaces := ifs
  fields := fds
  methods := ms
  attributes := attrs
def plain (name : String) (sup : Option ClassId) : Class where
  name := name
  kind := .ordinary
  loader := none
  accessFlags := 33
  super := sup
  interfaces := #[]
  cf := none
  fields := #[]
  methods := #[]
  instanceTypes := #[]
  staticTypes := #[]
  resolved := #[]
  callSites := []
  init := .initialized
  statics := none
  mirror := none

def pool0 : Array CpInfo := pool [(5, u "<init>"), (0, u "()V"), (1, .class_ 10), (1, u "java/lang/Object")] 113

def k0m0 : Method := { name := "<init>", desc := "()V", sig := { parameters := [], returnType := none }, accessFlags := 1, code := none }
/-- java/lang/Object -/
def k0 : Class := { plain "java/lang/Object" none with
  accessFlags := 33
  interfaces := #[]
  cf := some (fileOf pool0 8 #[] #[{ accessFlags := 1, nameIndex := 5, descriptorIndex := 6, attributes := #[] }] 33 0 #[] #[])
  fields := #[]
  methods := #[k0m0]
  instanceTypes := #[]
  staticTypes := #[]
  resolved := Array.replicate 124 none
  statics := none }

def pool1 : Array CpInfo := pool [(2, .class_ 4), (1, u "java/lang/Object"), (0, u "<init>"), (0, u "()V"), (0, .fieldref 8 9), (0, .class_ 10), (0, .nameAndType 11 12), (0, u "com/example/kalendae/kalendae/calendar/CalendarRule"), (0, u "GREGORIAN"), (0, u "Lcom/example/kalendae/kalendae/calendar/CalendarRule;"), (0, .fieldref 8 14), (0, .nameAndType 15 12), (0, u "JULIAN"), (0, .methodref 8 17), (0, .nameAndType 18 19), (0, u "isLeapYear"), (0, u "(I)Z"), (0, .class_ 21), (0, u "com/example/kalendae/kalendae/calendar/CalendarRuleIsLeapYearPinLaw"), (2, u "law"), (0, u "(III)Z")] 3

def k1m0 : Method := { name := "<init>", desc := "()V", sig := { parameters := [], returnType := none }, accessFlags := 2, code := none }
def k1c1 : Code := { maxStack := 2, maxLocals := 7, code := code, exceptionTable := #[], attributes := #[] }
def k1m1 : Method := { name := "law", desc := "(III)Z", sig := { parameters := [.int, .int, .int], returnType := some .boolean }, accessFlags := 9, code := some k1c1 }
/-- com/example/kalendae/kalendae/calendar/CalendarRuleIsLeapYearPinLaw -/
def k1 : Class := { plain "com/example/kalendae/kalendae/calendar/CalendarRuleIsLeapYearPinLaw" (some 0) with
  accessFlags := 49
  interfaces := #[]
  cf := some (fileOf pool1 20 #[] #[{ accessFlags := 2, nameIndex := 5, descriptorIndex := 6, attributes := #[] }, { accessFlags := 9, nameIndex := 24, descriptorIndex := 25, attributes := #[] }] 49 2 #[] #[])
  fields := #[]
  methods := #[k1m0, k1m1]
  instanceTypes := #[]
  staticTypes := #[]
  resolved := Array.replicate 29 none
  statics := none }

def pool2 : Array CpInfo := pool [(1, .class_ 2), (0, u "java/lang/constant/Constable"), (0, .class_ 4), (0, u "java/lang/Object")] 6

/-- java/lang/constant/Constable -/
def k2 : Class := { plain "java/lang/constant/Constable" (some 0) with
  accessFlags := 1537
  interfaces := #[]
  cf := some (fileOf pool2 1 #[] #[] 1537 3 #[] #[])
  fields := #[]
  methods := #[]
  instanceTypes := #[]
  staticTypes := #[]
  resolved := Array.replicate 11 none
  statics := none }

def pool3 : Array CpInfo := pool [(1, .class_ 2), (0, u "java/lang/Comparable"), (0, .class_ 4), (0, u "java/lang/Object")] 7

/-- java/lang/Comparable -/
def k3 : Class := { plain "java/lang/Comparable" (some 0) with
  accessFlags := 1537
  interfaces := #[]
  cf := some (fileOf pool3 1 #[] #[] 1537 3 #[] #[])
  fields := #[]
  methods := #[]
  instanceTypes := #[]
  staticTypes := #[]
  resolved := Array.replicate 12 none
  statics := none }

def pool4 : Array CpInfo := pool [(1, .class_ 2), (0, u "java/io/Serializable"), (0, .class_ 4), (0, u "java/lang/Object")] 2

/-- java/io/Serializable -/
def k4 : Class := { plain "java/io/Serializable" (some 0) with
  accessFlags := 1537
  interfaces := #[]
  cf := some (fileOf pool4 1 #[] #[] 1537 3 #[] #[])
  fields := #[]
  methods := #[]
  instanceTypes := #[]
  staticTypes := #[]
  resolved := Array.replicate 7 none
  statics := none }

def pool5 : Array CpInfo := pool [(2, .class_ 4), (1, u "java/lang/Enum"), (0, u "name"), (0, u "Ljava/lang/String;"), (2, u "ordinal"), (0, u "I"), (1, .class_ 14), (1, u "java/lang/Object"), (4, u "hash"), (86, .class_ 108), (1, u "java/lang/Enum$EnumDesc"), (2, .class_ 112), (0, u "java/lang/constant/Constable"), (0, .class_ 114), (0, u "java/lang/Comparable"), (0, .class_ 116), (0, u "java/io/Serializable")] 87

/-- java/lang/Enum -/
def k5 : Class := { plain "java/lang/Enum" (some 0) with
  accessFlags := 1057
  interfaces := #[2, 3, 4]
  cf := some (fileOf pool5 2 #[.nestMembers #[106]] #[] 1057 12 #[111, 113, 115] #[{ accessFlags := 18, nameIndex := 5, descriptorIndex := 6, attributes := #[] }, { accessFlags := 18, nameIndex := 9, descriptorIndex := 10, attributes := #[] }, { accessFlags := 2, nameIndex := 19, descriptorIndex := 10, attributes := #[] }])
  fields := #[{ name := "name", type := (.object "java/lang/String"), accessFlags := 18, slot := 0, constantValue := 0 }, { name := "ordinal", type := .int, accessFlags := 18, slot := 1, constantValue := 0 }, { name := "hash", type := .int, accessFlags := 2, slot := 2, constantValue := 0 }]
  methods := #[]
  instanceTypes := #[(.object "java/lang/String"), .int, .int]
  staticTypes := #[]
  resolved := Array.replicate 204 none
  statics := none }

def pool6 : Array CpInfo := pool [(1, .class_ 2), (0, u "com/example/kalendae/kalendae/calendar/CalendarRule"), (0, .fieldref 1 4), (0, .nameAndType 5 6), (0, u "JULIAN"), (0, u "Lcom/example/kalendae/kalendae/calendar/CalendarRule;"), (2, u "GREGORIAN"), (2, u "$VALUES"), (0, u "[Lcom/example/kalendae/kalendae/calendar/CalendarRule;"), (6, .class_ 22), (1, u "java/lang/Enum"), (16, u "isLeapYear"), (0, u "(I)Z"), (2, u "MAX_LENGTHS"), (0, u "[I")] 74

def k6c0 : Code := { maxStack := 2, maxLocals := 2, code := prog_15_method_4_code, exceptionTable := #[], attributes := #[] }
def k6m0 : Method := { name := "isLeapYear", desc := "(I)Z", sig := { parameters := [.int], returnType := some .boolean }, accessFlags := 1, code := some k6c0 }
/-- com/example/kalendae/kalendae/calendar/CalendarRule -/
def k6 : Class := { plain "com/example/kalendae/kalendae/calendar/CalendarRule" (some 5) with
  accessFlags := 16433
  interfaces := #[]
  cf := some (fileOf pool6 1 #[] #[{ accessFlags := 1, nameIndex := 39, descriptorIndex := 40, attributes := #[] }] 16433 20 #[] #[{ accessFlags := 16409, nameIndex := 5, descriptorIndex := 6, attributes := #[] }, { accessFlags := 16409, nameIndex := 9, descriptorIndex := 6, attributes := #[] }, { accessFlags := 26, nameIndex := 43, descriptorIndex := 44, attributes := #[] }, { accessFlags := 4122, nameIndex := 12, descriptorIndex := 13, attributes := #[] }])
  fields := #[{ name := "JULIAN", type := (.object "com/example/kalendae/kalendae/calendar/CalendarRule"), accessFlags := 16409, slot := 0, constantValue := 0 }, { name := "GREGORIAN", type := (.object "com/example/kalendae/kalendae/calendar/CalendarRule"), accessFlags := 16409, slot := 1, constantValue := 0 }, { name := "MAX_LENGTHS", type := (.array .int), accessFlags := 26, slot := 2, constantValue := 0 }, { name := "$VALUES", type := (.array (.object "com/example/kalendae/kalendae/calendar/CalendarRule")), accessFlags := 4122, slot := 3, constantValue := 0 }]
  methods := #[k6m0]
  instanceTypes := #[(.object "java/lang/String"), .int, .int]
  staticTypes := #[(.object "com/example/kalendae/kalendae/calendar/CalendarRule"), (.object "com/example/kalendae/kalendae/calendar/CalendarRule"), (.array .int), (.array (.object "com/example/kalendae/kalendae/calendar/CalendarRule"))]
  resolved := Array.replicate 119 none
  statics := some 0 }

def pool7 : Array CpInfo := pool [(1, u "java/lang/Cloneable"), (0, .class_ 1), (0, u "java/lang/Object"), (0, .class_ 3)] 3

/-- java/lang/Cloneable -/
def k7 : Class := { plain "java/lang/Cloneable" (some 0) with
  accessFlags := 1537
  interfaces := #[]
  cf := some (fileOf pool7 2 #[] #[] 1537 4 #[] #[])
  fields := #[]
  methods := #[]
  instanceTypes := #[]
  staticTypes := #[]
  resolved := Array.replicate 8 none
  statics := none }

/-- the primitive byte -/
def k8 : Class := { plain "byte" none with kind := .primitive 'B', accessFlags := 0x411 }
/-- [B -/
def k9 : Class := { plain "[B" (some 0) with kind := .array 8 .byte, interfaces := #[7, 4], accessFlags := 1041 }

/-- the primitive int -/
def k10 : Class := { plain "int" none with kind := .primitive 'I', accessFlags := 0x411 }
/-- [I -/
def k11 : Class := { plain "[I" (some 0) with kind := .array 10 .int, interfaces := #[7, 4], accessFlags := 1041 }

def heap : Heap := #[{ cls := 6, slots := #[.ref 1, .ref 2, .null, .null], vm := .statics 6 },
  { cls := 6, slots := #[.null, .int 0, .int 0], vm := .none },
  { cls := 6, slots := #[.null, .int 1, .int 0], vm := .none }]
def classes : Array Class := #[k0, k1, k2, k3, k4, k5, k6, k7, k8, k9, k10, k11]
def interned : List (Array UInt16 × Addr) := []
def slotsUsed : Nat := 10
def theMethod : MethodId := ⟨1, 1⟩
def args0 : Array Value := #[.int 5, .int 5, .int 5]
def aboutOver (below : List Frame) : State where
  vm := { classes := classes, interned := interned.toArray }
  heap := heap
  slotsUsed := slotsUsed
  threads := #[{ frames := .invoking theMethod args0 :: below }]
def below0 : List Frame := [.native { method := ⟨0, 0⟩, args := #[] }]
def about1 : State := aboutOver below0
def p0 : Program := .bare "" "" ""
def e0 : Env := launch0.env 0 0 0
theorem w_frames : about1.frames = Frame.invoking theMethod args0 :: below0 := rfl
set_option maxRecDepth 65536 in
theorem w_args : argsFit about1.vm theMethod args0 = true := by decide +kernel
set_option maxRecDepth 65536 in
theorem w_heap : heapFits about1 = true := by decide +kernel
set_option maxRecDepth 65536 in
theorem w_runnable : about1.curStatus? = some .runnable := by decide +kernel
set_option maxRecDepth 65536 in
theorem w_alone : about1.alone = true := by decide +kernel
set_option maxRecDepth 65536 in
theorem w_named : about1.methodNamed? x = some theMethod := by decide +kernel
set_option maxRecDepth 65536 in
theorem w_hears : about1.hears theMethod below0 = true := by decide +kernel
set_option maxRecDepth 65536 in
theorem w_ripe : about1.ripe theMethod args0 below0 = true := by decide +kernel
theorem w_running : about1.status = .running := rfl
set_option maxRecDepth 65536 in
theorem w_room : about1.hasRoom e0.platform room_1 = true :=
  launch0.hasRoom_least _ room_1 (by decide +kernel) (by decide +kernel) (by decide +kernel) (by decide +kernel) (by decide +kernel) (by decide +kernel)
theorem allAtoms_all (ts : List Jvm.Cond) (a : Array Jvm.Value) (st : Jvm.State) : (allAtoms ts).before a st = ts.all (fun c => c.before a st) := by
  induction ts with
  | nil => rfl
  | cons c t ih =>
    show (Jvm.Cond.and c (allAtoms t)).before a st = _
    rw [Jvm.Cond.before_and, ih, List.all_cons]
def words1 : List Jvm.Cond := Jvm.Cond.code x code maxLocals ret :: tables_1
/-- a 'code' word, met by the world's own term for the bytes: nothing is compared byte by byte -/
theorem code_word {y : MethodName} {bytes : ByteArray} {mx : Nat} {rt : Option FieldType} {a : Array Value} {s : State} {m : MethodId} {meth : Method} {c : Code} (h1 : s.methodNamed? y = some m) (h2 : s.vm.method? m = some meth) (h3 : meth.code = some c) (h4 : c.code = bytes)
    (h5 : (c.maxLocals == mx && c.exceptionTable.isEmpty && decide (c.maxStack ≤ mostOperands) && decide (meth.sig.returnType = rt) && !meth.locks && decide (parseMethodDescriptor y.desc = some meth.sig)) = true) : (Jvm.Cond.code y bytes mx rt).before a s = true := by
  simp only [Bool.and_eq_true, beq_iff_eq, Bool.not_eq_true', decide_eq_true_eq] at h5
  obtain ⟨⟨⟨⟨⟨g1, g2⟩, g3⟩, g4⟩, g5⟩, g6⟩ := h5
  simp [Cond.before, Cond.holds, Cond.value, h1, h2, h3, h4, g1, g2, g3, g4, g5, g6]
def isCode : Jvm.Cond → Bool
  | .code _ _ _ _ => true
  | _ => false
theorem all_split {L : List Jvm.Cond} {P : Jvm.Cond → Bool} (h1 : L.all (fun c => isCode c || P c) = true) (h2 : ∀ c ∈ L.filter isCode, P c = true) : L.all P = true := by
  refine List.all_eq_true.mpr fun c hc => ?_
  have h := List.all_eq_true.mp h1 c hc
  rcases Bool.eq_false_or_eq_true (isCode c) with hi | hi
  · exact h2 c (List.mem_filter.mpr ⟨hc, hi⟩)
  · simpa [hi] using h
set_option maxRecDepth 65536 in
theorem w_c0 : (Jvm.Cond.code x code maxLocals ret).before args0 about1 = true := code_word (m := ⟨1, 1⟩) (meth := k1m1) (c := k1c1) (by decide +kernel) rfl rfl rfl (by decide +kernel)
set_option maxRecDepth 65536 in
theorem w_c1 : (Jvm.Cond.code ({ cls := "com/example/kalendae/kalendae/calendar/CalendarRule", name := "isLeapYear", desc := "(I)Z" } : Jvm.MethodName) prog_15_method_4_code (2 : Nat) (Option.some Jvm.ClassFile.FieldType.boolean)).before args0 about1 = true := code_word (m := ⟨6, 0⟩) (meth := k6m0) (c := k6c0) (by decide +kernel) rfl rfl rfl (by decide +kernel)
def codes1 : List Jvm.Cond := [Jvm.Cond.code x code maxLocals ret, Jvm.Cond.code ({ cls := "com/example/kalendae/kalendae/calendar/CalendarRule", name := "isLeapYear", desc := "(I)Z" } : Jvm.MethodName) prog_15_method_4_code (2 : Nat) (Option.some Jvm.ClassFile.FieldType.boolean)]
set_option maxRecDepth 65536 in
theorem codes_eq : words1.filter isCode = codes1 := rfl
theorem w_codes : ∀ c ∈ words1.filter isCode, c.before args0 about1 = true := by
  rw [codes_eq]
  intro c hc
  simp only [codes1, List.mem_cons, List.not_mem_nil, or_false] at hc
  rcases hc with rfl | rfl
  · exact w_c0
  · exact w_c1
set_option maxRecDepth 65536 in
theorem w_t1 : words1.all (fun c => isCode c || c.before args0 about1) = true := by decide +kernel
theorem w_tables : (allAtoms (Jvm.Cond.code x code maxLocals ret :: tables_1)).before args0 about1 = true := by
  rw [allAtoms_all]
  show words1.all (fun c => c.before args0 about1) = true
  refine all_split ?_ w_codes
  rw [w_t1]
set_option maxRecDepth 65536 in
theorem w_case : (Jvm.Cond.and given_1 narrow_1).before args0 about1 = true := by decide +kernel
theorem w_applies : (headSpec (Jvm.Cond.code x code maxLocals ret :: tables_1) room_1).applies x e0.platform about1 = true :=
  (Spec.applies_iff w_frames).mpr ⟨w_running, w_runnable, w_alone, w_named, w_hears, w_ripe, w_room, w_tables⟩
theorem atStart : AtStart classFile x code maxLocals ret World_1 tables_1 room_1 Calls_1 rest_1 Pre_1 launch0 p0 e0 about1 theMethod args0 below0 :=
  ⟨lists_1, trivial, launch0.admits_env _ _ _, launch0.least_env, fairChoices_fair.cas, fairChoices_fair.clock, w_frames, w_args, w_heap, w_applies, trivial, trivial, w_case⟩
end start1
theorem witness_1 : WitnessClaimed_1 := ⟨start1.p0, start1.e0, start1.about1, start1.theMethod, start1.args0, start1.below0, start1.atStart⟩
end Jvm.Pilot.@@N@@
