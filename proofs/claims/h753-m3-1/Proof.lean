import JvmDerived
import JvmDerived.Pilot.@@N@@Statement
import JvmDerived.Pilot.@@N@@Code
set_option linter.unusedVariables false
set_option linter.unusedSimpArgs false
namespace Jvm.RoadKit
open Sem ClassFile Op Lib Jvm.Stand Jvm.Free Jvm.LawKit
section New
variable {p : Program} {l : Launch} {e : Env} {R : Room} {s : State} {m : MethodId} {args : Array Value} {below : List Frame} {meth : Method} {c : Code} {T : State} {locs : List Loc} {cells slots : Nat}
theorem retI (X : Stand p l e R s m args below meth c T locs cells slots) (hx : p.tables.exec = Jvm.exec) {pc : Nat} {Ls : Array Slot} {z : Int32} {rest : List Value} (hret : meth.sig.returnType = some .int) (hd : decode c.code pc = .ok (.ireturn, 1)) {fs : List Frame}
    (hl : ∀ (f : JFrame) (acts : List Action), f.method = m → f.locked = none → f.entered = [] → (doReturn e (T.setTop f) acts (some (.int z))).1 = T.setFrames fs) : Steps p.tables e below (T.setTop (mkF m pc Ls (.int z :: rest))) (T.setFrames fs) :=
  retOut X hx hret rfl (Or.inl ⟨rfl, Or.inl rfl, z, rfl⟩) hd hl
end New
end Jvm.RoadKit
namespace Jvm.Pilot.@@N@@
open Jvm Jvm.ClassFile Sem Op Lib Jvm.Free Jvm.Stand Jvm.LawKit Jvm.RoadKit Bundle Jvm.Pilot.@@N@@.Jvm.D
theorem W {a0 : Array Value} {Z : State} (hw : ∀ d ∈ tables_1, d.before a0 Z = true) (i : Nat) {d : Jvm.Cond} (h : tables_1[i]? = some d) : d.before a0 Z = true := hw d (List.mem_of_getElem? h)
theorem own_eqv {args : Array Value} {first s : State} {o : Option Outcome} {idx : List Nat} {a b : Term} {x : Value} (h : (Cond.eq a b).value args first o s idx = some true) (hb : b.eval args first o idx s = some x) : a.eval args first o idx s = some x := by
  simp only [Cond.value, hb] at h
  cases ha : a.eval args first o idx s with
  | none => rw [ha] at h; cases h
  | some y => rw [ha] at h; cases x <;> cases y <;> simp at h <;> first | rw [h] | rfl
theorem own_cat {v : Value} (h : v.isRef = true) : v.category = 1 := by rcases ref_cases h with rfl | ⟨a, rfl⟩ <;> rfl
def OL (val : Option Value) (n0 : Nat) (v : Option Value) (h : Heap) (L : List Loc) : Prop := v = val ∧ Fr n0 L
def OQ (val : Option Value) (h0 : Heap) (n0 : Nat) (v : Option Value) (h : Heap) (L : List Loc) : Prop := v = val ∧ Fr n0 L ∧ h = h0
def Wd (Z : State) (w : Nat → Addr) (kk : Nat → ClassId) : Prop :=
  Sta Z Z.heap "org/cartulary/repository/Condition$Operator" "EQUAL" "Lorg/cartulary/repository/Condition$Operator;" (.ref (w 0)) ∧
  Exa Z Z.heap (w 0) "org/cartulary/repository/Condition$Operator" ∧
  Sta Z Z.heap "org/cartulary/repository/Condition$Operator" "LESS" "Lorg/cartulary/repository/Condition$Operator;" (.ref (w 1)) ∧
  Exa Z Z.heap (w 1) "org/cartulary/repository/Condition$Operator" ∧
  Sta Z Z.heap "org/cartulary/repository/Condition$Operator" "GREATER" "Lorg/cartulary/repository/Condition$Operator;" (.ref (w 2)) ∧
  Exa Z Z.heap (w 2) "org/cartulary/repository/Condition$Operator" ∧
  Sta Z Z.heap "org/cartulary/repository/Condition$Operator" "NOT_EQUAL" "Lorg/cartulary/repository/Condition$Operator;" (.ref (w 3)) ∧
  Exa Z Z.heap (w 3) "org/cartulary/repository/Condition$Operator" ∧
  Sta Z Z.heap "org/cartulary/repository/Condition$Operator" "GREATER_OR_EQUAL" "Lorg/cartulary/repository/Condition$Operator;" (.ref (w 4)) ∧
  Exa Z Z.heap (w 4) "org/cartulary/repository/Condition$Operator" ∧
  Sta Z Z.heap "org/cartulary/repository/Condition$Operator" "LESS_OR_EQUAL" "Lorg/cartulary/repository/Condition$Operator;" (.ref (w 5)) ∧
  Exa Z Z.heap (w 5) "org/cartulary/repository/Condition$Operator" ∧
  Fld Z Z.heap (w 0) "java/lang/Enum" "ordinal" "I" (.int (0 : Int32)) ∧
  Fld Z Z.heap (w 1) "java/lang/Enum" "ordinal" "I" (.int (2 : Int32)) ∧
  Fld Z Z.heap (w 2) "java/lang/Enum" "ordinal" "I" (.int (4 : Int32)) ∧
  Fld Z Z.heap (w 3) "java/lang/Enum" "ordinal" "I" (.int (1 : Int32)) ∧
  Fld Z Z.heap (w 4) "java/lang/Enum" "ordinal" "I" (.int (5 : Int32)) ∧
  Fld Z Z.heap (w 5) "java/lang/Enum" "ordinal" "I" (.int (3 : Int32))
theorem d_method_2_code_0 : decode method_2_code 0 = .ok (.iload_n 0, 1) := by decide +kernel
theorem d_method_2_code_1 : decode method_2_code 1 = .ok (.ldc 7, 2) := by decide +kernel
theorem d_method_2_code_3 : decode method_2_code 3 = .ok (.iand, 1) := by decide +kernel
theorem d_method_2_code_4 : decode method_2_code 4 = .ok (.bipush 6, 2) := by decide +kernel
theorem d_method_2_code_6 : decode method_2_code 6 = .ok (.irem, 1) := by decide +kernel
theorem own_split_0 (x : Int32) : ((x &&& (2147483647 : Int32)) % (6 : Int32)) = (0 : Int32) ∨ ((x &&& (2147483647 : Int32)) % (6 : Int32)) = (1 : Int32) ∨ ((x &&& (2147483647 : Int32)) % (6 : Int32)) = (2 : Int32) ∨ ((x &&& (2147483647 : Int32)) % (6 : Int32)) = (3 : Int32) ∨ ((x &&& (2147483647 : Int32)) % (6 : Int32)) = (4 : Int32) ∨ ((x &&& (2147483647 : Int32)) % (6 : Int32)) = (5 : Int32) := by
  have h1 := c_mask x (2147483647 : Int32) 31 (by decide) (by decide)
  have h2 := (c_irem (x &&& (2147483647 : Int32)) (6 : Int32) 6 (by decide)).1 (by omega)
  simp only [← Int32.toInt_inj, h2, (by decide : (0 : Int32).toInt = 0), (by decide : (1 : Int32).toInt = 1), (by decide : (2 : Int32).toInt = 2), (by decide : (3 : Int32).toInt = 3), (by decide : (4 : Int32).toInt = 4), (by decide : (5 : Int32).toInt = 5)]
  omega
theorem d_method_2_code_7 : decode method_2_code 7 = .ok (.istore_n 1, 1) := by decide +kernel
theorem d_method_2_code_8 : decode method_2_code 8 = .ok (.iload_n 1, 1) := by decide +kernel
theorem d_method_2_code_9 : decode method_2_code 9 = .ok (.ifCond .ne 7, 3) := by decide +kernel
theorem d_method_2_code_12 : decode method_2_code 12 = .ok (.getstatic 8, 3) := by decide +kernel
theorem d_method_2_code_15 : decode method_2_code 15 = .ok (.areturn, 1) := by decide +kernel
theorem ef_0 (m : MethodId) (x0 : Value) (h0 : x0.category = 1) : entryFrame m #[x0] 2 = mkF m 0 #[.val x0, .unset] [] := by first | (simp [entryFrame, mkF, argsToLocals, h0]; done) | rfl
theorem pn_0 : plainName "org/cartulary/repository/OperatorSwappedPinLaw" = true := by first | (simp [plainName, overriddenIn]; done) | decide +kernel
set_option maxRecDepth 65536 in
set_option maxHeartbeats 40000000 in
theorem rm_1 (l : Launch) (Z : State) (a0 : Array Value) (hw : ∀ d ∈ tables_1, d.before a0 Z = true) (w : Nat → Addr) (kk : Nat → ClassId) (hN : Wd Z w kk) (ws : List Jvm.Cond) (p0 : Int32) (h0 : Heap) (O0 : Old Z Z.heap.size h0) (hp0 : ((p0 &&& (2147483647 : Int32)) % (6 : Int32)) = (0 : Int32)) :
    MetFree l (⟨"org/cartulary/repository/OperatorSwappedPinLaw", "pick", "(I)Lorg/cartulary/repository/Condition$Operator;"⟩ : MethodName) (head1 (Jvm.Cond.code (⟨"org/cartulary/repository/OperatorSwappedPinLaw", "pick", "(I)Lorg/cartulary/repository/Condition$Operator;"⟩ : MethodName) method_2_code 2 (some (.object "org/cartulary/repository/Condition$Operator")) :: ws) ({ frames := 0, cells := 0, slots := 0, locals := 0 } : Room)) (fun a U => a = #[(.int p0)] ∧ Z.Warmed39 U.vm ∧ U.heap = h0) (fun _ _ _ _ _ => True) (fun _ U o U' => ∃ v L, o = .returned v ∧ OQ (some (.ref (w 0))) h0 Z.heap.size v U'.heap L ∧ FrameEnd U o U' L ({ frames := 0, cells := 0, slots := 0, locals := 0 } : Room).cells ({ frames := 0, cells := 0, slots := 0, locals := 0 } : Room).slots) := by
  have hN' := hN
  obtain ⟨hS0, hE0, hS1, hE1, hS2, hE2, hS3, hE3, hS4, hE4, hS5, hE5, hF0_ordinal, hF1_ordinal, hF2_ordinal, hF3_ordinal, hF4_ordinal, hF5_ordinal⟩ := hN'
  refine MetFree.of_bodySF (plainFor_of_name pn_0) hisR ?_
  intro p e s m args below meth c s₁ Bd hml0 hP hK
  obtain ⟨rfl, hZ, hh⟩ := hP
  have hx := Bd.exec
  have hby := Bd.bytes
  have hml : c.maxLocals = 2 := hml0
  have hown : s.vm.findClass "org/cartulary/repository/OperatorSwappedPinLaw" = some m.cls := findClass_of_methodNamed Bd.named
  have hnm := (name_of_methodNamed Bd.named Bd.method).1
  have X0 : Stand p l e ({ frames := 0, cells := 0, slots := 0, locals := 0 } : Room) s m #[(.int p0)] below meth c s₁ [] 0 0 := Stand.of_body Bd
  have e0 : s₁.heap = h0 := by rw [← hh, Bd.state]; rfl
  have N0 := Fr.nil Z.heap.size
  have pre0 : ∀ t, Steps p.tables e below (s₁.setTop (mkF m 0 #[.val (.int p0), .unset] [])) t → Steps p.tables e below (s₁.setTop (entryFrame m #[(.int p0)] 2)) t := fun t k => castTop (ef_0 m (.int p0) rfl) k
  obtain ⟨T1, X1, e1, st1⟩ := getS2 X0 hx hZ hown (host := "") (Or.inl (W hw 5 rfl)) Via.refl e0 (hS0.ext O0.2) (g := (mkF m 12 #[.val (.int p0), .val (.int (0 : Int32))] [])) rfl (hb hby d_method_2_code_12)
  obtain ⟨fs, hr, hrun, hended, hW, hsame⟩ := X1.leave (v := some (.ref (w 0))) (fun h => by rw [Bd.returns] at h; cases h)
  refine ⟨_, _, pre0 _ ?_, hrun, hended, _, _, rfl, ?_, ⟨_, rfl⟩, hW, hsame.mono (by decide) (by decide)⟩
  · show Steps p.tables e below (s₁.setTop (mkF m 0 #[.val (.int p0), .unset] [])) _
    refine XS.iloadN X0.here hx rfl (hb hby d_method_2_code_0) rfl ?_
    show Steps p.tables e below (s₁.setTop (mkF m 1 #[.val (.int p0), .unset] [(.int p0)])) _
    refine X0.ldcInt hx hown (mvT hZ (W hw 4 rfl)) (g := (mkF m 1 #[.val (.int p0), .unset] [(.int p0)])) rfl (hb hby d_method_2_code_1) _ ?_
    show Steps p.tables e below (s₁.setTop (mkF m 3 #[.val (.int p0), .unset] [(.int (2147483647 : Int32)), (.int p0)])) _
    refine XS.iand X0.here hx rfl (hb hby d_method_2_code_3) rfl ?_
    show Steps p.tables e below (s₁.setTop (mkF m 4 #[.val (.int p0), .unset] [(.int (p0 &&& (2147483647 : Int32)))])) _
    refine XS.bipush X0.here hx rfl (hb hby d_method_2_code_4) ?_
    show Steps p.tables e below (s₁.setTop (mkF m 6 #[.val (.int p0), .unset] [(.int (6 : Int32)), (.int (p0 &&& (2147483647 : Int32)))])) _
    refine iremM X0 hx rfl (hb hby d_method_2_code_6) rfl (by decide : ¬ ((6 : Int32) = (0 : Int32))) ?_
    show Steps p.tables e below (s₁.setTop (mkF m 7 #[.val (.int p0), .unset] [(.int ((p0 &&& (2147483647 : Int32)) % (6 : Int32)))])) _
    rw [hp0]
    show Steps p.tables e below (s₁.setTop (mkF m 7 #[.val (.int p0), .unset] [(.int (0 : Int32))])) _
    refine XS.istoreN X0.here hx rfl (hb hby d_method_2_code_7) rfl (l' := #[.val (.int p0), .val (.int (0 : Int32))]) rfl ?_
    show Steps p.tables e below (s₁.setTop (mkF m 8 #[.val (.int p0), .val (.int (0 : Int32))] [])) _
    refine XS.iloadN X0.here hx rfl (hb hby d_method_2_code_8) rfl ?_
    show Steps p.tables e below (s₁.setTop (mkF m 9 #[.val (.int p0), .val (.int (0 : Int32))] [(.int (0 : Int32))])) _
    refine XS.ifNo X0.here hx rfl (hb hby d_method_2_code_9) rfl ((if0 _ _).trans (teq (by decide : (0 : Int32) = (0 : Int32))).2) ?_
    show Steps p.tables e below (s₁.setTop (mkF m 12 #[.val (.int p0), .val (.int (0 : Int32))] [])) _
    refine st1 _ ?_
    show Steps p.tables e below (T1.setTop (mkF m 15 #[.val (.int p0), .val (.int (0 : Int32))] [(.ref (w 0))])) _
    exact retOut X1 hx Bd.returns rfl (Or.inr (Or.inr (Or.inr (Or.inr ⟨rfl, rfl, rfl⟩)))) (hb hby d_method_2_code_15) hr
  · show OQ (some (.ref (w 0))) h0 Z.heap.size _ T1.heap _
    rw [e1]
    exact ⟨rfl, N0, rfl⟩
theorem pd_0 : parseMethodDescriptor "(I)Lorg/cartulary/repository/Condition$Operator;" = some ⟨[.int], some (.object "org/cartulary/repository/Condition$Operator")⟩ := by decide +kernel
theorem d_prog_67_method_6_code_0 : decode prog_67_method_6_code 0 = .ok (.aload_n 0, 1) := by decide +kernel
theorem d_prog_67_method_6_code_1 : decode prog_67_method_6_code 1 = .ok (.invokevirtual 45, 3) := by decide +kernel
theorem d_jdk_37_method_2_code_0 : decode jdk_37_method_2_code 0 = .ok (.aload_n 0, 1) := by decide +kernel
theorem d_jdk_37_method_2_code_1 : decode jdk_37_method_2_code 1 = .ok (.getfield 7, 3) := by decide +kernel
theorem d_jdk_37_method_2_code_4 : decode jdk_37_method_2_code 4 = .ok (.ireturn, 1) := by decide +kernel
theorem ef_1 (m : MethodId) (x0 : Value) (h0 : x0.category = 1) : entryFrame m #[x0] 1 = mkF m 0 #[.val x0] [] := by first | (simp [entryFrame, mkF, argsToLocals, h0]; done) | rfl
theorem pn_1 : plainName "java/lang/Enum" = true := by first | (simp [plainName, overriddenIn]; done) | decide +kernel
set_option maxRecDepth 65536 in
set_option maxHeartbeats 40000000 in
theorem rm_2 (l : Launch) (Z : State) (a0 : Array Value) (hw : ∀ d ∈ tables_1, d.before a0 Z = true) (w : Nat → Addr) (kk : Nat → ClassId) (hN : Wd Z w kk) (ws : List Jvm.Cond)  (h0 : Heap) (O0 : Old Z Z.heap.size h0) :
    MetFree l (⟨"java/lang/Enum", "ordinal", "()I"⟩ : MethodName) (head1 (Jvm.Cond.code (⟨"java/lang/Enum", "ordinal", "()I"⟩ : MethodName) jdk_37_method_2_code 1 (some .int) :: ws) ({ frames := 0, cells := 0, slots := 0, locals := 0 } : Room)) (fun a U => a = #[(.ref (w 0))] ∧ Z.Warmed39 U.vm ∧ U.heap = h0) (fun _ _ _ _ _ => True) (fun _ U o U' => ∃ v L, o = .returned v ∧ OQ (some (.int (0 : Int32))) h0 Z.heap.size v U'.heap L ∧ FrameEnd U o U' L ({ frames := 0, cells := 0, slots := 0, locals := 0 } : Room).cells ({ frames := 0, cells := 0, slots := 0, locals := 0 } : Room).slots) := by
  have hN' := hN
  obtain ⟨hS0, hE0, hS1, hE1, hS2, hE2, hS3, hE3, hS4, hE4, hS5, hE5, hF0_ordinal, hF1_ordinal, hF2_ordinal, hF3_ordinal, hF4_ordinal, hF5_ordinal⟩ := hN'
  refine MetFree.of_bodySF (plainFor_of_name pn_1) hisR ?_
  intro p e s m args below meth c s₁ Bd hml0 hP hK
  obtain ⟨rfl, hZ, hh⟩ := hP
  have hx := Bd.exec
  have hby := Bd.bytes
  have hml : c.maxLocals = 1 := hml0
  have hown : s.vm.findClass "java/lang/Enum" = some m.cls := findClass_of_methodNamed Bd.named
  have hnm := (name_of_methodNamed Bd.named Bd.method).1
  have X0 : Stand p l e ({ frames := 0, cells := 0, slots := 0, locals := 0 } : Room) s m #[(.ref (w 0))] below meth c s₁ [] 0 0 := Stand.of_body Bd
  have e0 : s₁.heap = h0 := by rw [← hh, Bd.state]; rfl
  have N0 := Fr.nil Z.heap.size
  have pre0 : ∀ t, Steps p.tables e below (s₁.setTop (mkF m 0 #[.val (.ref (w 0))] [])) t → Steps p.tables e below (s₁.setTop (entryFrame m #[(.ref (w 0))] 1)) t := fun t k => castTop (ef_1 m (.ref (w 0)) rfl) k
  obtain ⟨T1, X1, e1, st1⟩ := getF X0 hx hZ hown (host := "") (Or.inl (W hw 20 rfl)) Via.refl e0 (hF0_ordinal.ext O0.2) (g := (mkF m 1 #[.val (.ref (w 0))] [(.ref (w 0))])) rfl rfl (hb hby d_jdk_37_method_2_code_1)
  obtain ⟨fs, hr, hrun, hended, hW, hsame⟩ := X1.leave (v := some (.int (0 : Int32))) (fun h => by rw [Bd.returns] at h; cases h)
  refine ⟨_, _, pre0 _ ?_, hrun, hended, _, _, rfl, ?_, ⟨_, rfl⟩, hW, hsame.mono (by decide) (by decide)⟩
  · show Steps p.tables e below (s₁.setTop (mkF m 0 #[.val (.ref (w 0))] [])) _
    refine XS.aloadN X0.here hx rfl (hb hby d_jdk_37_method_2_code_0) rfl rfl ?_
    show Steps p.tables e below (s₁.setTop (mkF m 1 #[.val (.ref (w 0))] [(.ref (w 0))])) _
    refine st1 _ ?_
    show Steps p.tables e below (T1.setTop (mkF m 4 #[.val (.ref (w 0))] [(.int (0 : Int32))])) _
    exact retI X1 hx Bd.returns (hb hby d_jdk_37_method_2_code_4) hr
  · show OQ (some (.int (0 : Int32))) h0 Z.heap.size _ T1.heap _
    rw [e1]
    exact ⟨rfl, N0, rfl⟩
theorem pd_1 : parseMethodDescriptor "()I" = some ⟨[], some .int⟩ := by decide +kernel
theorem d_prog_67_method_6_code_4 : decode prog_67_method_6_code 4 = .ok (.tableswitch 40 0 5 #[50, 50, 54, 60, 66, 72], 40) := by decide +kernel
theorem d_prog_67_method_6_code_54 : decode prog_67_method_6_code 54 = .ok (.aload_n 0, 1) := by decide +kernel
theorem d_prog_67_method_6_code_55 : decode prog_67_method_6_code 55 = .ok (.goto 24, 3) := by decide +kernel
theorem d_prog_67_method_6_code_79 : decode prog_67_method_6_code 79 = .ok (.areturn, 1) := by decide +kernel
theorem pn_2 : plainName "org/cartulary/repository/Condition$Operator" = true := by first | (simp [plainName, overriddenIn]; done) | decide +kernel
set_option maxRecDepth 65536 in
set_option maxHeartbeats 40000000 in
theorem rm_3 (l : Launch) (Z : State) (a0 : Array Value) (hw : ∀ d ∈ tables_1, d.before a0 Z = true) (w : Nat → Addr) (kk : Nat → ClassId) (hN : Wd Z w kk) (ws : List Jvm.Cond)  (h0 : Heap) (O0 : Old Z Z.heap.size h0) :
    MetFree l (⟨"org/cartulary/repository/Condition$Operator", "swapped", "()Lorg/cartulary/repository/Condition$Operator;"⟩ : MethodName) (head1 (Jvm.Cond.code (⟨"org/cartulary/repository/Condition$Operator", "swapped", "()Lorg/cartulary/repository/Condition$Operator;"⟩ : MethodName) prog_67_method_6_code 1 (some (.object "org/cartulary/repository/Condition$Operator")) :: ws) ({ frames := 1, cells := 0, slots := 0, locals := 12 } : Room)) (fun a U => a = #[(.ref (w 0))] ∧ Z.Warmed39 U.vm ∧ U.heap = h0) (fun _ _ _ _ _ => True) (fun _ U o U' => ∃ v L, o = .returned v ∧ OQ (some (.ref (w 0))) h0 Z.heap.size v U'.heap L ∧ FrameEnd U o U' L ({ frames := 1, cells := 0, slots := 0, locals := 12 } : Room).cells ({ frames := 1, cells := 0, slots := 0, locals := 12 } : Room).slots) := by
  have hN' := hN
  obtain ⟨hS0, hE0, hS1, hE1, hS2, hE2, hS3, hE3, hS4, hE4, hS5, hE5, hF0_ordinal, hF1_ordinal, hF2_ordinal, hF3_ordinal, hF4_ordinal, hF5_ordinal⟩ := hN'
  refine MetFree.of_bodySF (plainFor_of_name pn_2) hisR ?_
  intro p e s m args below meth c s₁ Bd hml0 hP hK
  obtain ⟨rfl, hZ, hh⟩ := hP
  have hx := Bd.exec
  have hby := Bd.bytes
  have hml : c.maxLocals = 1 := hml0
  have hown : s.vm.findClass "org/cartulary/repository/Condition$Operator" = some m.cls := findClass_of_methodNamed Bd.named
  have hnm := (name_of_methodNamed Bd.named Bd.method).1
  have X0 : Stand p l e ({ frames := 1, cells := 0, slots := 0, locals := 12 } : Room) s m #[(.ref (w 0))] below meth c s₁ [] 0 0 := Stand.of_body Bd
  have e0 : s₁.heap = h0 := by rw [← hh, Bd.state]; rfl
  have N0 := Fr.nil Z.heap.size
  have pre0 : ∀ t, Steps p.tables e below (s₁.setTop (mkF m 0 #[.val (.ref (w 0))] [])) t → Steps p.tables e below (s₁.setTop (entryFrame m #[(.ref (w 0))] 1)) t := fun t k => castTop (ef_1 m (.ref (w 0)) rfl) k
  obtain ⟨cq1, kq1, q1a, q1b, q1c⟩ := isOf hZ e0 (hE0.ext O0.2)
  obtain ⟨_, _, ⟨T1, L1, k1, n1⟩, -, X1, ⟨Lc1, hQ1, l1, y1, z1⟩, st1⟩ := X0.virtualBackUp hx (x := (⟨"org/cartulary/repository/Condition$Operator", "ordinal", "()I"⟩ : MethodName)) (y := (⟨"java/lang/Enum", "ordinal", "()I"⟩ : MethodName)) (owner := "java/lang/Enum") hown (mvT hZ (W hw 13 rfl)) (mvT hZ (W hw 14 rfl)) (mvT hZ (W hw 15 rfl)) (by decide) (mvT hZ (W hw 17 rfl)) (mvT hZ (W hw 16 rfl)) (backOf (W := 0) (rm_2 l Z a0 hw w kk hN [] h0 O0) hZ (W hw 19 rfl) (W hw 18 rfl) (by decide) (by decide)) q1a q1c (g := (mkF m 1 #[.val (.ref (w 0))] [(.ref (w 0))])) rfl (by rw [hml]; rfl) (Steps.refl _) (argsL := []) (rest := []) (lenOf pd_1 rfl) rfl (by show 2 * 0 + _ ≤ _; exact Nat.le_of_eq rfl) (hb hby d_prog_67_method_6_code_1) (fun _ _ => ⟨rfl, e0, (by decide : 0 + 0 ≤ _), (by decide : 0 + 0 ≤ _)⟩)
  dsimp only [Pt.U, Pt.locs, Pt.cells, Pt.slots] at X1 l1 y1 z1 st1 hQ1
  subst l1 y1 z1
  obtain ⟨rfl, N1q, e1⟩ := hQ1
  have N1 := Fr.app N0 N1q
  obtain ⟨fs, hr, hrun, hended, hW, hsame⟩ := X1.leave (v := some (.ref (w 0))) (fun h => by rw [Bd.returns] at h; cases h)
  refine ⟨_, _, pre0 _ ?_, hrun, hended, _, _, rfl, ?_, ⟨_, rfl⟩, hW, hsame.mono (by decide) (by decide)⟩
  · show Steps p.tables e below (s₁.setTop (mkF m 0 #[.val (.ref (w 0))] [])) _
    refine XS.aloadN X0.here hx rfl (hb hby d_prog_67_method_6_code_0) rfl rfl ?_
    show Steps p.tables e below (s₁.setTop (mkF m 1 #[.val (.ref (w 0))] [(.ref (w 0))])) _
    refine st1.trans ?_
    show Steps p.tables e below (T1.setTop (mkF m 4 #[.val (.ref (w 0))] [(.int (0 : Int32))])) _
    refine XS.tswIn X1.here hx rfl (pc0 := 4) (pc' := 54) (o := 50) rfl (hb hby d_prog_67_method_6_code_4) rfl (by decide) (by decide) (by decide) (by decide) ?_
    show Steps p.tables e below (T1.setTop (mkF m 54 #[.val (.ref (w 0))] [])) _
    refine XS.aloadN X1.here hx rfl (hb hby d_prog_67_method_6_code_54) rfl rfl ?_
    show Steps p.tables e below (T1.setTop (mkF m 55 #[.val (.ref (w 0))] [(.ref (w 0))])) _
    refine XS.goto X1.here hx rfl (pc0 := 55) (pc' := 79) rfl (hb hby d_prog_67_method_6_code_55) (by decide) (by decide) ?_
    show Steps p.tables e below (T1.setTop (mkF m 79 #[.val (.ref (w 0))] [(.ref (w 0))])) _
    exact retOut X1 hx Bd.returns rfl (Or.inr (Or.inr (Or.inr (Or.inr ⟨rfl, rfl, rfl⟩)))) (hb hby d_prog_67_method_6_code_79) hr
  · show OQ (some (.ref (w 0))) h0 Z.heap.size _ T1.heap _
    rw [e1]
    exact ⟨rfl, N1, rfl⟩
theorem pd_2 : parseMethodDescriptor "()Lorg/cartulary/repository/Condition$Operator;" = some ⟨[], some (.object "org/cartulary/repository/Condition$Operator")⟩ := by decide +kernel
theorem d_prog_67_method_5_code_0 : decode prog_67_method_5_code 0 = .ok (.aload_n 0, 1) := by decide +kernel
theorem d_prog_67_method_5_code_1 : decode prog_67_method_5_code 1 = .ok (.invokevirtual 45, 3) := by decide +kernel
theorem d_prog_67_method_5_code_4 : decode prog_67_method_5_code 4 = .ok (.tableswitch 40 0 5 #[50, 62, 74, 86, 98, 110], 40) := by decide +kernel
theorem d_prog_67_method_5_code_54 : decode prog_67_method_5_code 54 = .ok (.iload_n 1, 1) := by decide +kernel
theorem d_prog_67_method_5_code_55 : decode prog_67_method_5_code 55 = .ok (.ifCond .ne 7, 3) := by decide +kernel
theorem d_prog_67_method_5_code_62 : decode prog_67_method_5_code 62 = .ok (.iconst 0, 1) := by decide +kernel
theorem d_prog_67_method_5_code_63 : decode prog_67_method_5_code 63 = .ok (.goto 60, 3) := by decide +kernel
theorem d_prog_67_method_5_code_123 : decode prog_67_method_5_code 123 = .ok (.ireturn, 1) := by decide +kernel
theorem ef_2 (m : MethodId) (x0 : Value) (h0 : x0.category = 1) (x1 : Value) (h1 : x1.category = 1) : entryFrame m #[x0, x1] 2 = mkF m 0 #[.val x0, .val x1] [] := by first | (simp [entryFrame, mkF, argsToLocals, h0, h1]; done) | rfl
set_option maxRecDepth 65536 in
set_option maxHeartbeats 40000000 in
theorem rm_4 (l : Launch) (Z : State) (a0 : Array Value) (hw : ∀ d ∈ tables_1, d.before a0 Z = true) (w : Nat → Addr) (kk : Nat → ClassId) (hN : Wd Z w kk) (ws : List Jvm.Cond)  (h0 : Heap) (O0 : Old Z Z.heap.size h0) :
    MetFree l (⟨"org/cartulary/repository/Condition$Operator", "holds", "(I)Z"⟩ : MethodName) (head1 (Jvm.Cond.code (⟨"org/cartulary/repository/Condition$Operator", "holds", "(I)Z"⟩ : MethodName) prog_67_method_5_code 2 (some .boolean) :: ws) ({ frames := 1, cells := 0, slots := 0, locals := 12 } : Room)) (fun a U => a = #[(.ref (w 0)), (.int (-1 : Int32))] ∧ Z.Warmed39 U.vm ∧ U.heap = h0) (fun _ _ _ _ _ => True) (fun _ U o U' => ∃ v L, o = .returned v ∧ OQ (some (.int (0 : Int32))) h0 Z.heap.size v U'.heap L ∧ FrameEnd U o U' L ({ frames := 1, cells := 0, slots := 0, locals := 12 } : Room).cells ({ frames := 1, cells := 0, slots := 0, locals := 12 } : Room).slots) := by
  have hN' := hN
  obtain ⟨hS0, hE0, hS1, hE1, hS2, hE2, hS3, hE3, hS4, hE4, hS5, hE5, hF0_ordinal, hF1_ordinal, hF2_ordinal, hF3_ordinal, hF4_ordinal, hF5_ordinal⟩ := hN'
  refine MetFree.of_bodySF (plainFor_of_name pn_2) hisR ?_
  intro p e s m args below meth c s₁ Bd hml0 hP hK
  obtain ⟨rfl, hZ, hh⟩ := hP
  have hx := Bd.exec
  have hby := Bd.bytes
  have hml : c.maxLocals = 2 := hml0
  have hown : s.vm.findClass "org/cartulary/repository/Condition$Operator" = some m.cls := findClass_of_methodNamed Bd.named
  have hnm := (name_of_methodNamed Bd.named Bd.method).1
  have X0 : Stand p l e ({ frames := 1, cells := 0, slots := 0, locals := 12 } : Room) s m #[(.ref (w 0)), (.int (-1 : Int32))] below meth c s₁ [] 0 0 := Stand.of_body Bd
  have e0 : s₁.heap = h0 := by rw [← hh, Bd.state]; rfl
  have N0 := Fr.nil Z.heap.size
  have pre0 : ∀ t, Steps p.tables e below (s₁.setTop (mkF m 0 #[.val (.ref (w 0)), .val (.int (-1 : Int32))] [])) t → Steps p.tables e below (s₁.setTop (entryFrame m #[(.ref (w 0)), (.int (-1 : Int32))] 2)) t := fun t k => castTop (ef_2 m (.ref (w 0)) rfl (.int (-1 : Int32)) rfl) k
  obtain ⟨cq1, kq1, q1a, q1b, q1c⟩ := isOf hZ e0 (hE0.ext O0.2)
  obtain ⟨_, _, ⟨T1, L1, k1, n1⟩, -, X1, ⟨Lc1, hQ1, l1, y1, z1⟩, st1⟩ := X0.virtualBackUp hx (x := (⟨"org/cartulary/repository/Condition$Operator", "ordinal", "()I"⟩ : MethodName)) (y := (⟨"java/lang/Enum", "ordinal", "()I"⟩ : MethodName)) (owner := "java/lang/Enum") hown (mvT hZ (W hw 13 rfl)) (mvT hZ (W hw 14 rfl)) (mvT hZ (W hw 15 rfl)) (by decide) (mvT hZ (W hw 17 rfl)) (mvT hZ (W hw 16 rfl)) (backOf (W := 0) (rm_2 l Z a0 hw w kk hN [] h0 O0) hZ (W hw 19 rfl) (W hw 18 rfl) (by decide) (by decide)) q1a q1c (g := (mkF m 1 #[.val (.ref (w 0)), .val (.int (-1 : Int32))] [(.ref (w 0))])) rfl (by rw [hml]; rfl) (Steps.refl _) (argsL := []) (rest := []) (lenOf pd_1 rfl) rfl (by show 2 * 0 + _ ≤ _; exact Nat.le_of_eq rfl) (hb hby d_prog_67_method_5_code_1) (fun _ _ => ⟨rfl, e0, (by decide : 0 + 0 ≤ _), (by decide : 0 + 0 ≤ _)⟩)
  dsimp only [Pt.U, Pt.locs, Pt.cells, Pt.slots] at X1 l1 y1 z1 st1 hQ1
  subst l1 y1 z1
  obtain ⟨rfl, N1q, e1⟩ := hQ1
  have N1 := Fr.app N0 N1q
  obtain ⟨fs, hr, hrun, hended, hW, hsame⟩ := X1.leave (v := some (.int (0 : Int32))) (fun h => by rw [Bd.returns] at h; cases h)
  refine ⟨_, _, pre0 _ ?_, hrun, hended, _, _, rfl, ?_, ⟨_, rfl⟩, hW, hsame.mono (by decide) (by decide)⟩
  · show Steps p.tables e below (s₁.setTop (mkF m 0 #[.val (.ref (w 0)), .val (.int (-1 : Int32))] [])) _
    refine XS.aloadN X0.here hx rfl (hb hby d_prog_67_method_5_code_0) rfl rfl ?_
    show Steps p.tables e below (s₁.setTop (mkF m 1 #[.val (.ref (w 0)), .val (.int (-1 : Int32))] [(.ref (w 0))])) _
    refine st1.trans ?_
    show Steps p.tables e below (T1.setTop (mkF m 4 #[.val (.ref (w 0)), .val (.int (-1 : Int32))] [(.int (0 : Int32))])) _
    refine XS.tswIn X1.here hx rfl (pc0 := 4) (pc' := 54) (o := 50) rfl (hb hby d_prog_67_method_5_code_4) rfl (by decide) (by decide) (by decide) (by decide) ?_
    show Steps p.tables e below (T1.setTop (mkF m 54 #[.val (.ref (w 0)), .val (.int (-1 : Int32))] [])) _
    refine XS.iloadN X1.here hx rfl (hb hby d_prog_67_method_5_code_54) rfl ?_
    show Steps p.tables e below (T1.setTop (mkF m 55 #[.val (.ref (w 0)), .val (.int (-1 : Int32))] [(.int (-1 : Int32))])) _
    refine XS.ifYes X1.here hx rfl (pc0 := 55) (pc' := 62) rfl (hb hby d_prog_67_method_5_code_55) rfl ((if0 _ _).trans (feq (by decide : ¬ ((-1 : Int32) = (0 : Int32)))).2) (by decide) (by decide) ?_
    show Steps p.tables e below (T1.setTop (mkF m 62 #[.val (.ref (w 0)), .val (.int (-1 : Int32))] [])) _
    refine XS.iconst X1.here hx rfl (hb hby d_prog_67_method_5_code_62) ?_
    show Steps p.tables e below (T1.setTop (mkF m 63 #[.val (.ref (w 0)), .val (.int (-1 : Int32))] [(.int (0 : Int32))])) _
    refine XS.goto X1.here hx rfl (pc0 := 63) (pc' := 123) rfl (hb hby d_prog_67_method_5_code_63) (by decide) (by decide) ?_
    show Steps p.tables e below (T1.setTop (mkF m 123 #[.val (.ref (w 0)), .val (.int (-1 : Int32))] [(.int (0 : Int32))])) _
    exact retN X1 hx (t := .boolean) Bd.returns (by simp) (hb hby d_prog_67_method_5_code_123) hr
  · show OQ (some (.int (0 : Int32))) h0 Z.heap.size _ T1.heap _
    rw [e1]
    exact ⟨rfl, N1, rfl⟩
theorem pd_3 : parseMethodDescriptor "(I)Z" = some ⟨[.int], some .boolean⟩ := by decide +kernel
set_option maxRecDepth 65536 in
set_option maxHeartbeats 40000000 in
theorem rm_5 (l : Launch) (Z : State) (a0 : Array Value) (hw : ∀ d ∈ tables_1, d.before a0 Z = true) (w : Nat → Addr) (kk : Nat → ClassId) (hN : Wd Z w kk) (ws : List Jvm.Cond) (p1 : Int32) (h0 : Heap) (O0 : Old Z Z.heap.size h0) (hp0 : ¬ (p1 = (0 : Int32))) :
    MetFree l (⟨"org/cartulary/repository/Condition$Operator", "holds", "(I)Z"⟩ : MethodName) (head1 (Jvm.Cond.code (⟨"org/cartulary/repository/Condition$Operator", "holds", "(I)Z"⟩ : MethodName) prog_67_method_5_code 2 (some .boolean) :: ws) ({ frames := 1, cells := 0, slots := 0, locals := 12 } : Room)) (fun a U => a = #[(.ref (w 0)), (.int p1)] ∧ Z.Warmed39 U.vm ∧ U.heap = h0) (fun _ _ _ _ _ => True) (fun _ U o U' => ∃ v L, o = .returned v ∧ OQ (some (.int (0 : Int32))) h0 Z.heap.size v U'.heap L ∧ FrameEnd U o U' L ({ frames := 1, cells := 0, slots := 0, locals := 12 } : Room).cells ({ frames := 1, cells := 0, slots := 0, locals := 12 } : Room).slots) := by
  have hN' := hN
  obtain ⟨hS0, hE0, hS1, hE1, hS2, hE2, hS3, hE3, hS4, hE4, hS5, hE5, hF0_ordinal, hF1_ordinal, hF2_ordinal, hF3_ordinal, hF4_ordinal, hF5_ordinal⟩ := hN'
  refine MetFree.of_bodySF (plainFor_of_name pn_2) hisR ?_
  intro p e s m args below meth c s₁ Bd hml0 hP hK
  obtain ⟨rfl, hZ, hh⟩ := hP
  have hx := Bd.exec
  have hby := Bd.bytes
  have hml : c.maxLocals = 2 := hml0
  have hown : s.vm.findClass "org/cartulary/repository/Condition$Operator" = some m.cls := findClass_of_methodNamed Bd.named
  have hnm := (name_of_methodNamed Bd.named Bd.method).1
  have X0 : Stand p l e ({ frames := 1, cells := 0, slots := 0, locals := 12 } : Room) s m #[(.ref (w 0)), (.int p1)] below meth c s₁ [] 0 0 := Stand.of_body Bd
  have e0 : s₁.heap = h0 := by rw [← hh, Bd.state]; rfl
  have N0 := Fr.nil Z.heap.size
  have pre0 : ∀ t, Steps p.tables e below (s₁.setTop (mkF m 0 #[.val (.ref (w 0)), .val (.int p1)] [])) t → Steps p.tables e below (s₁.setTop (entryFrame m #[(.ref (w 0)), (.int p1)] 2)) t := fun t k => castTop (ef_2 m (.ref (w 0)) rfl (.int p1) rfl) k
  obtain ⟨cq1, kq1, q1a, q1b, q1c⟩ := isOf hZ e0 (hE0.ext O0.2)
  obtain ⟨_, _, ⟨T1, L1, k1, n1⟩, -, X1, ⟨Lc1, hQ1, l1, y1, z1⟩, st1⟩ := X0.virtualBackUp hx (x := (⟨"org/cartulary/repository/Condition$Operator", "ordinal", "()I"⟩ : MethodName)) (y := (⟨"java/lang/Enum", "ordinal", "()I"⟩ : MethodName)) (owner := "java/lang/Enum") hown (mvT hZ (W hw 13 rfl)) (mvT hZ (W hw 14 rfl)) (mvT hZ (W hw 15 rfl)) (by decide) (mvT hZ (W hw 17 rfl)) (mvT hZ (W hw 16 rfl)) (backOf (W := 0) (rm_2 l Z a0 hw w kk hN [] h0 O0) hZ (W hw 19 rfl) (W hw 18 rfl) (by decide) (by decide)) q1a q1c (g := (mkF m 1 #[.val (.ref (w 0)), .val (.int p1)] [(.ref (w 0))])) rfl (by rw [hml]; rfl) (Steps.refl _) (argsL := []) (rest := []) (lenOf pd_1 rfl) rfl (by show 2 * 0 + _ ≤ _; exact Nat.le_of_eq rfl) (hb hby d_prog_67_method_5_code_1) (fun _ _ => ⟨rfl, e0, (by decide : 0 + 0 ≤ _), (by decide : 0 + 0 ≤ _)⟩)
  dsimp only [Pt.U, Pt.locs, Pt.cells, Pt.slots] at X1 l1 y1 z1 st1 hQ1
  subst l1 y1 z1
  obtain ⟨rfl, N1q, e1⟩ := hQ1
  have N1 := Fr.app N0 N1q
  obtain ⟨fs, hr, hrun, hended, hW, hsame⟩ := X1.leave (v := some (.int (0 : Int32))) (fun h => by rw [Bd.returns] at h; cases h)
  refine ⟨_, _, pre0 _ ?_, hrun, hended, _, _, rfl, ?_, ⟨_, rfl⟩, hW, hsame.mono (by decide) (by decide)⟩
  · show Steps p.tables e below (s₁.setTop (mkF m 0 #[.val (.ref (w 0)), .val (.int p1)] [])) _
    refine XS.aloadN X0.here hx rfl (hb hby d_prog_67_method_5_code_0) rfl rfl ?_
    show Steps p.tables e below (s₁.setTop (mkF m 1 #[.val (.ref (w 0)), .val (.int p1)] [(.ref (w 0))])) _
    refine st1.trans ?_
    show Steps p.tables e below (T1.setTop (mkF m 4 #[.val (.ref (w 0)), .val (.int p1)] [(.int (0 : Int32))])) _
    refine XS.tswIn X1.here hx rfl (pc0 := 4) (pc' := 54) (o := 50) rfl (hb hby d_prog_67_method_5_code_4) rfl (by decide) (by decide) (by decide) (by decide) ?_
    show Steps p.tables e below (T1.setTop (mkF m 54 #[.val (.ref (w 0)), .val (.int p1)] [])) _
    refine XS.iloadN X1.here hx rfl (hb hby d_prog_67_method_5_code_54) rfl ?_
    show Steps p.tables e below (T1.setTop (mkF m 55 #[.val (.ref (w 0)), .val (.int p1)] [(.int p1)])) _
    refine XS.ifYes X1.here hx rfl (pc0 := 55) (pc' := 62) rfl (hb hby d_prog_67_method_5_code_55) rfl ((if0 _ _).trans (feq hp0).2) (by decide) (by decide) ?_
    show Steps p.tables e below (T1.setTop (mkF m 62 #[.val (.ref (w 0)), .val (.int p1)] [])) _
    refine XS.iconst X1.here hx rfl (hb hby d_prog_67_method_5_code_62) ?_
    show Steps p.tables e below (T1.setTop (mkF m 63 #[.val (.ref (w 0)), .val (.int p1)] [(.int (0 : Int32))])) _
    refine XS.goto X1.here hx rfl (pc0 := 63) (pc' := 123) rfl (hb hby d_prog_67_method_5_code_63) (by decide) (by decide) ?_
    show Steps p.tables e below (T1.setTop (mkF m 123 #[.val (.ref (w 0)), .val (.int p1)] [(.int (0 : Int32))])) _
    exact retN X1 hx (t := .boolean) Bd.returns (by simp) (hb hby d_prog_67_method_5_code_123) hr
  · show OQ (some (.int (0 : Int32))) h0 Z.heap.size _ T1.heap _
    rw [e1]
    exact ⟨rfl, N1, rfl⟩
theorem ef_3 (m : MethodId) (x0 : Value) (h0 : x0.category = 1) (x1 : Value) (h1 : x1.category = 1) : entryFrame m #[x0, x1] maxLocals = mkF m 0 #[.val x0, .val x1, .unset, .unset, .unset, .unset, .unset] [] := by first | (simp [entryFrame, mkF, argsToLocals, h0, h1, maxLocals]; done) | rfl
set_option maxRecDepth 65536 in
set_option maxHeartbeats 40000000 in
theorem law_6 (l : Launch) (Z : State) (a0 : Array Value) (hw : ∀ d ∈ tables_1, d.before a0 Z = true) (w : Nat → Addr) (kk : Nat → ClassId) (hN : Wd Z w kk) (ws : List Jvm.Cond) (p0 : Int32) (p1 : Int32) (h0 : Heap) (O0 : Old Z Z.heap.size h0) (hp0 : ((p0 &&& (2147483647 : Int32)) % (6 : Int32)) = (0 : Int32)) (hp1 : (0 : Int32) < p1) (hp2 : ¬ (p1 = (0 : Int32))) :
    MetFree l x (head1 (Jvm.Cond.code x code maxLocals ret :: ws) room_1) (fun a U => a = #[(.int p0), (.int p1)] ∧ Z.Warmed39 U.vm ∧ U.heap = h0) (fun _ _ _ _ _ => True) (fun _ U o U' => ∃ v L, o = .returned v ∧ OL (some (.int (1 : Int32))) Z.heap.size v U'.heap L ∧ FrameEnd U o U' L 0 0) := by
  have hN' := hN
  obtain ⟨hS0, hE0, hS1, hE1, hS2, hE2, hS3, hE3, hS4, hE4, hS5, hE5, hF0_ordinal, hF1_ordinal, hF2_ordinal, hF3_ordinal, hF4_ordinal, hF5_ordinal⟩ := hN'
  refine MetFree.of_bodySF (plainFor_of_name pn_0) hisR ?_
  intro p e s m args below meth c s₁ Bd hml0 hP hK
  obtain ⟨rfl, hZ, hh⟩ := hP
  have hx := Bd.exec
  have hby := Bd.bytes
  have hml : c.maxLocals = 7 := hml0
  have hown : s.vm.findClass "org/cartulary/repository/OperatorSwappedPinLaw" = some m.cls := findClass_of_methodNamed Bd.named
  have hnm := (name_of_methodNamed Bd.named Bd.method).1
  have X0 : Stand p l e room_1 s m #[(.int p0), (.int p1)] below meth c s₁ [] 0 0 := Stand.of_body Bd
  have e0 : s₁.heap = h0 := by rw [← hh, Bd.state]; rfl
  have N0 := Fr.nil Z.heap.size
  have pre0 : ∀ t, Steps p.tables e below (s₁.setTop (mkF m 0 #[.val (.int p0), .val (.int p1), .unset, .unset, .unset, .unset, .unset] [])) t → Steps p.tables e below (s₁.setTop (entryFrame m #[(.int p0), (.int p1)] maxLocals)) t := fun t k => castTop (ef_3 m (.int p0) rfl (.int p1) rfl) k
  obtain ⟨_, _, ⟨T1, L1, k1, n1⟩, -, X1, ⟨Lc1, hQ1, l1, y1, z1⟩, st1⟩ := Jvm.LawKit.callS X0 hx (y := (⟨"org/cartulary/repository/OperatorSwappedPinLaw", "pick", "(I)Lorg/cartulary/repository/Condition$Operator;"⟩ : MethodName)) hown (mvT hZ (W hw 0 rfl)) (mvT hZ (W hw 1 rfl)) (mvT hZ (W hw 2 rfl)) (mvT hZ (W hw 3 rfl)) (by decide) (backOf (W := 0) (rm_1 l Z a0 hw w kk hN [] p0 h0 O0 hp0) hZ (W hw 3 rfl) (W hw 2 rfl) (by decide) (by decide)) (g := (mkF m 1 #[.val (.int p0), .val (.int p1), .unset, .unset, .unset, .unset, .unset] [(.int p0)])) rfl (by rw [hml]; rfl) (argsL := [(.int p0)]) (rest := []) (lenOf pd_0 rfl) rfl (by show 2 * 0 + _ ≤ _; exact Nat.le_of_eq rfl) (hb hby at_1) (fun _ _ => ⟨rfl, e0, (by decide : 0 + 0 ≤ _), (by decide : 0 + 0 ≤ _)⟩)
  dsimp only [Pt.U, Pt.locs, Pt.cells, Pt.slots] at X1 l1 y1 z1 st1 hQ1
  subst l1 y1 z1
  obtain ⟨rfl, N1q, e1⟩ := hQ1
  have N1 := Fr.app N0 N1q
  obtain ⟨cq2, kq2, q2a, q2b, q2c⟩ := isOf hZ e1 (hE0.ext O0.2)
  obtain ⟨_, _, ⟨T2, L2, k2, n2⟩, -, X2, ⟨Lc2, hQ2, l2, y2, z2⟩, st2⟩ := X1.virtualBack hx (y := (⟨"org/cartulary/repository/Condition$Operator", "swapped", "()Lorg/cartulary/repository/Condition$Operator;"⟩ : MethodName)) (z := (⟨"org/cartulary/repository/Condition$Operator", "swapped", "()Lorg/cartulary/repository/Condition$Operator;"⟩ : MethodName)) hown (mvT hZ (W hw 8 rfl)) (mvT hZ (W hw 9 rfl)) (notFace_of_selects (args := #[]) (mvT hZ (W hw 11 rfl))) (mvT hZ (W hw 11 rfl)) (mvT hZ (W hw 10 rfl)) (by decide) (backOf (W := 0) (rm_3 l Z a0 hw w kk hN [] h0 O0) hZ (W hw 12 rfl) (W hw 6 rfl) (by decide) (by decide)) q2a q2c (g := (mkF m 24 #[.val (.int p0), .val (.int p1), .val (.ref (w 0)), .val (.int (-1 : Int32)), .unset, .unset, .unset] [(.ref (w 0))])) rfl (by rw [hml]; rfl) (Steps.refl _) (argsL := []) (rest := []) (lenOf pd_2 rfl) rfl (by show 2 * 0 + _ ≤ _; exact Nat.le_of_eq rfl) (hb hby at_24) (fun _ _ => ⟨rfl, e1, (by decide : 0 + 0 ≤ _), (by decide : 0 + 0 ≤ _)⟩)
  dsimp only [Pt.U, Pt.locs, Pt.cells, Pt.slots] at X2 l2 y2 z2 st2 hQ2
  subst l2 y2 z2
  obtain ⟨rfl, N2q, e2⟩ := hQ2
  have N2 := Fr.app N1 N2q
  obtain ⟨cq3, kq3, q3a, q3b, q3c⟩ := isOf hZ e2 (hE0.ext O0.2)
  obtain ⟨_, _, ⟨T3, L3, k3, n3⟩, -, X3, ⟨Lc3, hQ3, l3, y3, z3⟩, st3⟩ := X2.virtualBack hx (y := (⟨"org/cartulary/repository/Condition$Operator", "holds", "(I)Z"⟩ : MethodName)) (z := (⟨"org/cartulary/repository/Condition$Operator", "holds", "(I)Z"⟩ : MethodName)) hown (mvT hZ (W hw 22 rfl)) (mvT hZ (W hw 23 rfl)) (notFace_of_selects (args := #[]) (mvT hZ (W hw 25 rfl))) (mvT hZ (W hw 25 rfl)) (mvT hZ (W hw 24 rfl)) (by decide) (backOf (W := 0) (rm_4 l Z a0 hw w kk hN [] h0 O0) hZ (W hw 26 rfl) (W hw 6 rfl) (by decide) (by decide)) q3a q3c (g := (mkF m 32 #[.val (.int p0), .val (.int p1), .val (.ref (w 0)), .val (.int (-1 : Int32)), .val (.ref (w 0)), .unset, .unset] [(.int (-1 : Int32)), (.ref (w 0))])) rfl (by rw [hml]; rfl) (Steps.refl _) (argsL := [(.int (-1 : Int32))]) (rest := []) (lenOf pd_3 rfl) rfl (by show 2 * 0 + _ ≤ _; exact Nat.le_of_eq rfl) (hb hby at_32) (fun _ _ => ⟨rfl, e2, (by decide : 0 + 0 ≤ _), (by decide : 0 + 0 ≤ _)⟩)
  dsimp only [Pt.U, Pt.locs, Pt.cells, Pt.slots] at X3 l3 y3 z3 st3 hQ3
  subst l3 y3 z3
  obtain ⟨rfl, N3q, e3⟩ := hQ3
  have N3 := Fr.app N2 N3q
  obtain ⟨cq4, kq4, q4a, q4b, q4c⟩ := isOf hZ e3 (hE0.ext O0.2)
  obtain ⟨_, _, ⟨T4, L4, k4, n4⟩, -, X4, ⟨Lc4, hQ4, l4, y4, z4⟩, st4⟩ := X3.virtualBack hx (y := (⟨"org/cartulary/repository/Condition$Operator", "holds", "(I)Z"⟩ : MethodName)) (z := (⟨"org/cartulary/repository/Condition$Operator", "holds", "(I)Z"⟩ : MethodName)) hown (mvT hZ (W hw 22 rfl)) (mvT hZ (W hw 23 rfl)) (notFace_of_selects (args := #[]) (mvT hZ (W hw 25 rfl))) (mvT hZ (W hw 25 rfl)) (mvT hZ (W hw 24 rfl)) (by decide) (backOf (W := 1) (rm_5 l Z a0 hw w kk hN [] p1 h0 O0 hp2) hZ (W hw 26 rfl) (W hw 6 rfl) (by decide) (by decide)) q4a q4c (g := (mkF m 37 #[.val (.int p0), .val (.int p1), .val (.ref (w 0)), .val (.int (-1 : Int32)), .val (.ref (w 0)), .unset, .unset] [(.int p1), (.ref (w 0)), (.int (0 : Int32))])) rfl (by rw [hml]; rfl) (Steps.refl _) (argsL := [(.int p1)]) (rest := [(.int (0 : Int32))]) (lenOf pd_3 rfl) rfl (by show 2 * 0 + _ ≤ _; exact Nat.le_of_eq rfl) (hb hby at_37) (fun _ _ => ⟨rfl, e3, (by decide : 0 + 0 ≤ _), (by decide : 0 + 0 ≤ _)⟩)
  dsimp only [Pt.U, Pt.locs, Pt.cells, Pt.slots] at X4 l4 y4 z4 st4 hQ4
  subst l4 y4 z4
  obtain ⟨rfl, N4q, e4⟩ := hQ4
  have N4 := Fr.app N3 N4q
  obtain ⟨cq5, kq5, q5a, q5b, q5c⟩ := isOf hZ e4 (hE0.ext O0.2)
  obtain ⟨_, _, ⟨T5, L5, k5, n5⟩, -, X5, ⟨Lc5, hQ5, l5, y5, z5⟩, st5⟩ := X4.virtualBack hx (y := (⟨"org/cartulary/repository/Condition$Operator", "swapped", "()Lorg/cartulary/repository/Condition$Operator;"⟩ : MethodName)) (z := (⟨"org/cartulary/repository/Condition$Operator", "swapped", "()Lorg/cartulary/repository/Condition$Operator;"⟩ : MethodName)) hown (mvT hZ (W hw 8 rfl)) (mvT hZ (W hw 9 rfl)) (notFace_of_selects (args := #[]) (mvT hZ (W hw 11 rfl))) (mvT hZ (W hw 11 rfl)) (mvT hZ (W hw 10 rfl)) (by decide) (backOf (W := 0) (rm_3 l Z a0 hw w kk hN [] h0 O0) hZ (W hw 12 rfl) (W hw 6 rfl) (by decide) (by decide)) q5a q5c (g := (mkF m 52 #[.val (.int p0), .val (.int p1), .val (.ref (w 0)), .val (.int (-1 : Int32)), .val (.ref (w 0)), .val (.int (1 : Int32)), .unset] [(.ref (w 0))])) rfl (by rw [hml]; rfl) (Steps.refl _) (argsL := []) (rest := []) (lenOf pd_2 rfl) rfl (by show 2 * 0 + _ ≤ _; exact Nat.le_of_eq rfl) (hb hby at_52) (fun _ _ => ⟨rfl, e4, (by decide : 0 + 0 ≤ _), (by decide : 0 + 0 ≤ _)⟩)
  dsimp only [Pt.U, Pt.locs, Pt.cells, Pt.slots] at X5 l5 y5 z5 st5 hQ5
  subst l5 y5 z5
  obtain ⟨rfl, N5q, e5⟩ := hQ5
  have N5 := Fr.app N4 N5q
  obtain ⟨fs, hr, hrun, hended, hW, hsame⟩ := X5.leave (v := some (.int (1 : Int32))) (fun h => by rw [Bd.returns] at h; cases h)
  refine ⟨_, _, pre0 _ ?_, hrun, hended, _, _, rfl, ?_, ⟨_, rfl⟩, hW, hsame.mono (by decide) (by decide)⟩
  · show Steps p.tables e below (s₁.setTop (mkF m 0 #[.val (.int p0), .val (.int p1), .unset, .unset, .unset, .unset, .unset] [])) _
    refine XS.iloadN X0.here hx rfl (hb hby at_0) rfl ?_
    show Steps p.tables e below (s₁.setTop (mkF m 1 #[.val (.int p0), .val (.int p1), .unset, .unset, .unset, .unset, .unset] [(.int p0)])) _
    refine st1 _ ?_
    show Steps p.tables e below (T1.setTop (mkF m 4 #[.val (.int p0), .val (.int p1), .unset, .unset, .unset, .unset, .unset] [(.ref (w 0))])) _
    refine XS.astoreN X1.here hx rfl (hb hby at_4) rfl rfl (l' := #[.val (.int p0), .val (.int p1), .val (.ref (w 0)), .unset, .unset, .unset, .unset]) rfl ?_
    show Steps p.tables e below (T1.setTop (mkF m 5 #[.val (.int p0), .val (.int p1), .val (.ref (w 0)), .unset, .unset, .unset, .unset] [])) _
    refine XS.iloadN X1.here hx rfl (hb hby at_5) rfl ?_
    show Steps p.tables e below (T1.setTop (mkF m 6 #[.val (.int p0), .val (.int p1), .val (.ref (w 0)), .unset, .unset, .unset, .unset] [(.int p1)])) _
    refine XS.ifNo X1.here hx rfl (hb hby at_6) rfl ((if0 _ _).trans (tlt hp1).2.2.2) ?_
    show Steps p.tables e below (T1.setTop (mkF m 9 #[.val (.int p0), .val (.int p1), .val (.ref (w 0)), .unset, .unset, .unset, .unset] [])) _
    refine XS.iconst X1.here hx rfl (hb hby at_9) ?_
    show Steps p.tables e below (T1.setTop (mkF m 10 #[.val (.int p0), .val (.int p1), .val (.ref (w 0)), .unset, .unset, .unset, .unset] [(.int (-1 : Int32))])) _
    refine XS.goto X1.here hx rfl (pc0 := 10) (pc' := 22) rfl (hb hby at_10) (by decide) (by decide) ?_
    show Steps p.tables e below (T1.setTop (mkF m 22 #[.val (.int p0), .val (.int p1), .val (.ref (w 0)), .unset, .unset, .unset, .unset] [(.int (-1 : Int32))])) _
    refine XS.istoreN X1.here hx rfl (hb hby at_22) rfl (l' := #[.val (.int p0), .val (.int p1), .val (.ref (w 0)), .val (.int (-1 : Int32)), .unset, .unset, .unset]) rfl ?_
    show Steps p.tables e below (T1.setTop (mkF m 23 #[.val (.int p0), .val (.int p1), .val (.ref (w 0)), .val (.int (-1 : Int32)), .unset, .unset, .unset] [])) _
    refine XS.aloadN X1.here hx rfl (hb hby at_23) rfl rfl ?_
    show Steps p.tables e below (T1.setTop (mkF m 24 #[.val (.int p0), .val (.int p1), .val (.ref (w 0)), .val (.int (-1 : Int32)), .unset, .unset, .unset] [(.ref (w 0))])) _
    refine st2.trans ?_
    show Steps p.tables e below (T2.setTop (mkF m 27 #[.val (.int p0), .val (.int p1), .val (.ref (w 0)), .val (.int (-1 : Int32)), .unset, .unset, .unset] [(.ref (w 0))])) _
    refine XS.astore X2.here hx rfl (hb hby at_27) rfl rfl (l' := #[.val (.int p0), .val (.int p1), .val (.ref (w 0)), .val (.int (-1 : Int32)), .val (.ref (w 0)), .unset, .unset]) rfl ?_
    show Steps p.tables e below (T2.setTop (mkF m 29 #[.val (.int p0), .val (.int p1), .val (.ref (w 0)), .val (.int (-1 : Int32)), .val (.ref (w 0)), .unset, .unset] [])) _
    refine XS.aload X2.here hx rfl (hb hby at_29) rfl rfl ?_
    show Steps p.tables e below (T2.setTop (mkF m 31 #[.val (.int p0), .val (.int p1), .val (.ref (w 0)), .val (.int (-1 : Int32)), .val (.ref (w 0)), .unset, .unset] [(.ref (w 0))])) _
    refine XS.iloadN X2.here hx rfl (hb hby at_31) rfl ?_
    show Steps p.tables e below (T2.setTop (mkF m 32 #[.val (.int p0), .val (.int p1), .val (.ref (w 0)), .val (.int (-1 : Int32)), .val (.ref (w 0)), .unset, .unset] [(.int (-1 : Int32)), (.ref (w 0))])) _
    refine st3.trans ?_
    show Steps p.tables e below (T3.setTop (mkF m 35 #[.val (.int p0), .val (.int p1), .val (.ref (w 0)), .val (.int (-1 : Int32)), .val (.ref (w 0)), .unset, .unset] [(.int (0 : Int32))])) _
    refine XS.aloadN X3.here hx rfl (hb hby at_35) rfl rfl ?_
    show Steps p.tables e below (T3.setTop (mkF m 36 #[.val (.int p0), .val (.int p1), .val (.ref (w 0)), .val (.int (-1 : Int32)), .val (.ref (w 0)), .unset, .unset] [(.ref (w 0)), (.int (0 : Int32))])) _
    refine XS.iloadN X3.here hx rfl (hb hby at_36) rfl ?_
    show Steps p.tables e below (T3.setTop (mkF m 37 #[.val (.int p0), .val (.int p1), .val (.ref (w 0)), .val (.int (-1 : Int32)), .val (.ref (w 0)), .unset, .unset] [(.int p1), (.ref (w 0)), (.int (0 : Int32))])) _
    refine st4.trans ?_
    show Steps p.tables e below (T4.setTop (mkF m 40 #[.val (.int p0), .val (.int p1), .val (.ref (w 0)), .val (.int (-1 : Int32)), .val (.ref (w 0)), .unset, .unset] [(.int (0 : Int32)), (.int (0 : Int32))])) _
    refine XS.icmpNo X4.here hx rfl (hb hby at_40) rfl (teq (by decide : (0 : Int32) = (0 : Int32))).2 ?_
    show Steps p.tables e below (T4.setTop (mkF m 43 #[.val (.int p0), .val (.int p1), .val (.ref (w 0)), .val (.int (-1 : Int32)), .val (.ref (w 0)), .unset, .unset] [])) _
    refine XS.iconst X4.here hx rfl (hb hby at_43) ?_
    show Steps p.tables e below (T4.setTop (mkF m 44 #[.val (.int p0), .val (.int p1), .val (.ref (w 0)), .val (.int (-1 : Int32)), .val (.ref (w 0)), .unset, .unset] [(.int (1 : Int32))])) _
    refine XS.goto X4.here hx rfl (pc0 := 44) (pc' := 48) rfl (hb hby at_44) (by decide) (by decide) ?_
    show Steps p.tables e below (T4.setTop (mkF m 48 #[.val (.int p0), .val (.int p1), .val (.ref (w 0)), .val (.int (-1 : Int32)), .val (.ref (w 0)), .unset, .unset] [(.int (1 : Int32))])) _
    refine XS.istore X4.here hx rfl (hb hby at_48) rfl (l' := #[.val (.int p0), .val (.int p1), .val (.ref (w 0)), .val (.int (-1 : Int32)), .val (.ref (w 0)), .val (.int (1 : Int32)), .unset]) rfl ?_
    show Steps p.tables e below (T4.setTop (mkF m 50 #[.val (.int p0), .val (.int p1), .val (.ref (w 0)), .val (.int (-1 : Int32)), .val (.ref (w 0)), .val (.int (1 : Int32)), .unset] [])) _
    refine XS.aload X4.here hx rfl (hb hby at_50) rfl rfl ?_
    show Steps p.tables e below (T4.setTop (mkF m 52 #[.val (.int p0), .val (.int p1), .val (.ref (w 0)), .val (.int (-1 : Int32)), .val (.ref (w 0)), .val (.int (1 : Int32)), .unset] [(.ref (w 0))])) _
    refine st5.trans ?_
    show Steps p.tables e below (T5.setTop (mkF m 55 #[.val (.int p0), .val (.int p1), .val (.ref (w 0)), .val (.int (-1 : Int32)), .val (.ref (w 0)), .val (.int (1 : Int32)), .unset] [(.ref (w 0))])) _
    refine XS.aloadN X5.here hx rfl (hb hby at_55) rfl rfl ?_
    show Steps p.tables e below (T5.setTop (mkF m 56 #[.val (.int p0), .val (.int p1), .val (.ref (w 0)), .val (.int (-1 : Int32)), .val (.ref (w 0)), .val (.int (1 : Int32)), .unset] [(.ref (w 0)), (.ref (w 0))])) _
    refine Jvm.RoadKit.acmp (g := (mkF m 56 #[.val (.int p0), .val (.int p1), .val (.ref (w 0)), .val (.int (-1 : Int32)), .val (.ref (w 0)), .val (.int (1 : Int32)), .unset] [(.ref (w 0)), (.ref (w 0))])) X5 hx rfl rfl rfl (pc0 := 56) (pc' := 59) (same := true) rfl (hb hby at_56) rfl (decide_eq_true rfl) (by decide) (by decide) ?_
    show Steps p.tables e below (T5.setTop (mkF m 59 #[.val (.int p0), .val (.int p1), .val (.ref (w 0)), .val (.int (-1 : Int32)), .val (.ref (w 0)), .val (.int (1 : Int32)), .unset] [])) _
    refine XS.iconst X5.here hx rfl (hb hby at_59) ?_
    show Steps p.tables e below (T5.setTop (mkF m 60 #[.val (.int p0), .val (.int p1), .val (.ref (w 0)), .val (.int (-1 : Int32)), .val (.ref (w 0)), .val (.int (1 : Int32)), .unset] [(.int (1 : Int32))])) _
    refine XS.goto X5.here hx rfl (pc0 := 60) (pc' := 64) rfl (hb hby at_60) (by decide) (by decide) ?_
    show Steps p.tables e below (T5.setTop (mkF m 64 #[.val (.int p0), .val (.int p1), .val (.ref (w 0)), .val (.int (-1 : Int32)), .val (.ref (w 0)), .val (.int (1 : Int32)), .unset] [(.int (1 : Int32))])) _
    refine XS.istore X5.here hx rfl (hb hby at_64) rfl (l' := #[.val (.int p0), .val (.int p1), .val (.ref (w 0)), .val (.int (-1 : Int32)), .val (.ref (w 0)), .val (.int (1 : Int32)), .val (.int (1 : Int32))]) rfl ?_
    show Steps p.tables e below (T5.setTop (mkF m 66 #[.val (.int p0), .val (.int p1), .val (.ref (w 0)), .val (.int (-1 : Int32)), .val (.ref (w 0)), .val (.int (1 : Int32)), .val (.int (1 : Int32))] [])) _
    refine XS.iload X5.here hx rfl (hb hby at_66) rfl ?_
    show Steps p.tables e below (T5.setTop (mkF m 68 #[.val (.int p0), .val (.int p1), .val (.ref (w 0)), .val (.int (-1 : Int32)), .val (.ref (w 0)), .val (.int (1 : Int32)), .val (.int (1 : Int32))] [(.int (1 : Int32))])) _
    refine XS.ifNo X5.here hx rfl (hb hby at_68) rfl ((if0 _ _).trans (feq (by decide : ¬ ((1 : Int32) = (0 : Int32)))).1) ?_
    show Steps p.tables e below (T5.setTop (mkF m 71 #[.val (.int p0), .val (.int p1), .val (.ref (w 0)), .val (.int (-1 : Int32)), .val (.ref (w 0)), .val (.int (1 : Int32)), .val (.int (1 : Int32))] [])) _
    refine XS.iload X5.here hx rfl (hb hby at_71) rfl ?_
    show Steps p.tables e below (T5.setTop (mkF m 73 #[.val (.int p0), .val (.int p1), .val (.ref (w 0)), .val (.int (-1 : Int32)), .val (.ref (w 0)), .val (.int (1 : Int32)), .val (.int (1 : Int32))] [(.int (1 : Int32))])) _
    refine XS.ifNo X5.here hx rfl (hb hby at_73) rfl ((if0 _ _).trans (feq (by decide : ¬ ((1 : Int32) = (0 : Int32)))).1) ?_
    show Steps p.tables e below (T5.setTop (mkF m 76 #[.val (.int p0), .val (.int p1), .val (.ref (w 0)), .val (.int (-1 : Int32)), .val (.ref (w 0)), .val (.int (1 : Int32)), .val (.int (1 : Int32))] [])) _
    refine XS.iconst X5.here hx rfl (hb hby at_76) ?_
    show Steps p.tables e below (T5.setTop (mkF m 77 #[.val (.int p0), .val (.int p1), .val (.ref (w 0)), .val (.int (-1 : Int32)), .val (.ref (w 0)), .val (.int (1 : Int32)), .val (.int (1 : Int32))] [(.int (1 : Int32))])) _
    refine XS.goto X5.here hx rfl (pc0 := 77) (pc' := 81) rfl (hb hby at_77) (by decide) (by decide) ?_
    show Steps p.tables e below (T5.setTop (mkF m 81 #[.val (.int p0), .val (.int p1), .val (.ref (w 0)), .val (.int (-1 : Int32)), .val (.ref (w 0)), .val (.int (1 : Int32)), .val (.int (1 : Int32))] [(.int (1 : Int32))])) _
    exact retN X5 hx (t := .boolean) Bd.returns (by simp) (hb hby at_81) hr
  · show OL (some (.int (1 : Int32))) Z.heap.size _ T5.heap _
    exact ⟨rfl, N5⟩
set_option maxRecDepth 65536 in
set_option maxHeartbeats 40000000 in
theorem rm_7 (l : Launch) (Z : State) (a0 : Array Value) (hw : ∀ d ∈ tables_1, d.before a0 Z = true) (w : Nat → Addr) (kk : Nat → ClassId) (hN : Wd Z w kk) (ws : List Jvm.Cond)  (h0 : Heap) (O0 : Old Z Z.heap.size h0) :
    MetFree l (⟨"org/cartulary/repository/Condition$Operator", "holds", "(I)Z"⟩ : MethodName) (head1 (Jvm.Cond.code (⟨"org/cartulary/repository/Condition$Operator", "holds", "(I)Z"⟩ : MethodName) prog_67_method_5_code 2 (some .boolean) :: ws) ({ frames := 1, cells := 0, slots := 0, locals := 12 } : Room)) (fun a U => a = #[(.ref (w 0)), (.int (1 : Int32))] ∧ Z.Warmed39 U.vm ∧ U.heap = h0) (fun _ _ _ _ _ => True) (fun _ U o U' => ∃ v L, o = .returned v ∧ OQ (some (.int (0 : Int32))) h0 Z.heap.size v U'.heap L ∧ FrameEnd U o U' L ({ frames := 1, cells := 0, slots := 0, locals := 12 } : Room).cells ({ frames := 1, cells := 0, slots := 0, locals := 12 } : Room).slots) := by
  have hN' := hN
  obtain ⟨hS0, hE0, hS1, hE1, hS2, hE2, hS3, hE3, hS4, hE4, hS5, hE5, hF0_ordinal, hF1_ordinal, hF2_ordinal, hF3_ordinal, hF4_ordinal, hF5_ordinal⟩ := hN'
  refine MetFree.of_bodySF (plainFor_of_name pn_2) hisR ?_
  intro p e s m args below meth c s₁ Bd hml0 hP hK
  obtain ⟨rfl, hZ, hh⟩ := hP
  have hx := Bd.exec
  have hby := Bd.bytes
  have hml : c.maxLocals = 2 := hml0
  have hown : s.vm.findClass "org/cartulary/repository/Condition$Operator" = some m.cls := findClass_of_methodNamed Bd.named
  have hnm := (name_of_methodNamed Bd.named Bd.method).1
  have X0 : Stand p l e ({ frames := 1, cells := 0, slots := 0, locals := 12 } : Room) s m #[(.ref (w 0)), (.int (1 : Int32))] below meth c s₁ [] 0 0 := Stand.of_body Bd
  have e0 : s₁.heap = h0 := by rw [← hh, Bd.state]; rfl
  have N0 := Fr.nil Z.heap.size
  have pre0 : ∀ t, Steps p.tables e below (s₁.setTop (mkF m 0 #[.val (.ref (w 0)), .val (.int (1 : Int32))] [])) t → Steps p.tables e below (s₁.setTop (entryFrame m #[(.ref (w 0)), (.int (1 : Int32))] 2)) t := fun t k => castTop (ef_2 m (.ref (w 0)) rfl (.int (1 : Int32)) rfl) k
  obtain ⟨cq1, kq1, q1a, q1b, q1c⟩ := isOf hZ e0 (hE0.ext O0.2)
  obtain ⟨_, _, ⟨T1, L1, k1, n1⟩, -, X1, ⟨Lc1, hQ1, l1, y1, z1⟩, st1⟩ := X0.virtualBackUp hx (x := (⟨"org/cartulary/repository/Condition$Operator", "ordinal", "()I"⟩ : MethodName)) (y := (⟨"java/lang/Enum", "ordinal", "()I"⟩ : MethodName)) (owner := "java/lang/Enum") hown (mvT hZ (W hw 13 rfl)) (mvT hZ (W hw 14 rfl)) (mvT hZ (W hw 15 rfl)) (by decide) (mvT hZ (W hw 17 rfl)) (mvT hZ (W hw 16 rfl)) (backOf (W := 0) (rm_2 l Z a0 hw w kk hN [] h0 O0) hZ (W hw 19 rfl) (W hw 18 rfl) (by decide) (by decide)) q1a q1c (g := (mkF m 1 #[.val (.ref (w 0)), .val (.int (1 : Int32))] [(.ref (w 0))])) rfl (by rw [hml]; rfl) (Steps.refl _) (argsL := []) (rest := []) (lenOf pd_1 rfl) rfl (by show 2 * 0 + _ ≤ _; exact Nat.le_of_eq rfl) (hb hby d_prog_67_method_5_code_1) (fun _ _ => ⟨rfl, e0, (by decide : 0 + 0 ≤ _), (by decide : 0 + 0 ≤ _)⟩)
  dsimp only [Pt.U, Pt.locs, Pt.cells, Pt.slots] at X1 l1 y1 z1 st1 hQ1
  subst l1 y1 z1
  obtain ⟨rfl, N1q, e1⟩ := hQ1
  have N1 := Fr.app N0 N1q
  obtain ⟨fs, hr, hrun, hended, hW, hsame⟩ := X1.leave (v := some (.int (0 : Int32))) (fun h => by rw [Bd.returns] at h; cases h)
  refine ⟨_, _, pre0 _ ?_, hrun, hended, _, _, rfl, ?_, ⟨_, rfl⟩, hW, hsame.mono (by decide) (by decide)⟩
  · show Steps p.tables e below (s₁.setTop (mkF m 0 #[.val (.ref (w 0)), .val (.int (1 : Int32))] [])) _
    refine XS.aloadN X0.here hx rfl (hb hby d_prog_67_method_5_code_0) rfl rfl ?_
    show Steps p.tables e below (s₁.setTop (mkF m 1 #[.val (.ref (w 0)), .val (.int (1 : Int32))] [(.ref (w 0))])) _
    refine st1.trans ?_
    show Steps p.tables e below (T1.setTop (mkF m 4 #[.val (.ref (w 0)), .val (.int (1 : Int32))] [(.int (0 : Int32))])) _
    refine XS.tswIn X1.here hx rfl (pc0 := 4) (pc' := 54) (o := 50) rfl (hb hby d_prog_67_method_5_code_4) rfl (by decide) (by decide) (by decide) (by decide) ?_
    show Steps p.tables e below (T1.setTop (mkF m 54 #[.val (.ref (w 0)), .val (.int (1 : Int32))] [])) _
    refine XS.iloadN X1.here hx rfl (hb hby d_prog_67_method_5_code_54) rfl ?_
    show Steps p.tables e below (T1.setTop (mkF m 55 #[.val (.ref (w 0)), .val (.int (1 : Int32))] [(.int (1 : Int32))])) _
    refine XS.ifYes X1.here hx rfl (pc0 := 55) (pc' := 62) rfl (hb hby d_prog_67_method_5_code_55) rfl ((if0 _ _).trans (feq (by decide : ¬ ((1 : Int32) = (0 : Int32)))).2) (by decide) (by decide) ?_
    show Steps p.tables e below (T1.setTop (mkF m 62 #[.val (.ref (w 0)), .val (.int (1 : Int32))] [])) _
    refine XS.iconst X1.here hx rfl (hb hby d_prog_67_method_5_code_62) ?_
    show Steps p.tables e below (T1.setTop (mkF m 63 #[.val (.ref (w 0)), .val (.int (1 : Int32))] [(.int (0 : Int32))])) _
    refine XS.goto X1.here hx rfl (pc0 := 63) (pc' := 123) rfl (hb hby d_prog_67_method_5_code_63) (by decide) (by decide) ?_
    show Steps p.tables e below (T1.setTop (mkF m 123 #[.val (.ref (w 0)), .val (.int (1 : Int32))] [(.int (0 : Int32))])) _
    exact retN X1 hx (t := .boolean) Bd.returns (by simp) (hb hby d_prog_67_method_5_code_123) hr
  · show OQ (some (.int (0 : Int32))) h0 Z.heap.size _ T1.heap _
    rw [e1]
    exact ⟨rfl, N1, rfl⟩
set_option maxRecDepth 65536 in
set_option maxHeartbeats 40000000 in
theorem law_8 (l : Launch) (Z : State) (a0 : Array Value) (hw : ∀ d ∈ tables_1, d.before a0 Z = true) (w : Nat → Addr) (kk : Nat → ClassId) (hN : Wd Z w kk) (ws : List Jvm.Cond) (p0 : Int32) (p1 : Int32) (h0 : Heap) (O0 : Old Z Z.heap.size h0) (hp0 : ((p0 &&& (2147483647 : Int32)) % (6 : Int32)) = (0 : Int32)) (hp1 : ¬ ((0 : Int32) < p1)) (hp2 : p1 < (0 : Int32)) (hp3 : ¬ (p1 = (0 : Int32))) :
    MetFree l x (head1 (Jvm.Cond.code x code maxLocals ret :: ws) room_1) (fun a U => a = #[(.int p0), (.int p1)] ∧ Z.Warmed39 U.vm ∧ U.heap = h0) (fun _ _ _ _ _ => True) (fun _ U o U' => ∃ v L, o = .returned v ∧ OL (some (.int (1 : Int32))) Z.heap.size v U'.heap L ∧ FrameEnd U o U' L 0 0) := by
  have hN' := hN
  obtain ⟨hS0, hE0, hS1, hE1, hS2, hE2, hS3, hE3, hS4, hE4, hS5, hE5, hF0_ordinal, hF1_ordinal, hF2_ordinal, hF3_ordinal, hF4_ordinal, hF5_ordinal⟩ := hN'
  refine MetFree.of_bodySF (plainFor_of_name pn_0) hisR ?_
  intro p e s m args below meth c s₁ Bd hml0 hP hK
  obtain ⟨rfl, hZ, hh⟩ := hP
  have hx := Bd.exec
  have hby := Bd.bytes
  have hml : c.maxLocals = 7 := hml0
  have hown : s.vm.findClass "org/cartulary/repository/OperatorSwappedPinLaw" = some m.cls := findClass_of_methodNamed Bd.named
  have hnm := (name_of_methodNamed Bd.named Bd.method).1
  have X0 : Stand p l e room_1 s m #[(.int p0), (.int p1)] below meth c s₁ [] 0 0 := Stand.of_body Bd
  have e0 : s₁.heap = h0 := by rw [← hh, Bd.state]; rfl
  have N0 := Fr.nil Z.heap.size
  have pre0 : ∀ t, Steps p.tables e below (s₁.setTop (mkF m 0 #[.val (.int p0), .val (.int p1), .unset, .unset, .unset, .unset, .unset] [])) t → Steps p.tables e below (s₁.setTop (entryFrame m #[(.int p0), (.int p1)] maxLocals)) t := fun t k => castTop (ef_3 m (.int p0) rfl (.int p1) rfl) k
  obtain ⟨_, _, ⟨T1, L1, k1, n1⟩, -, X1, ⟨Lc1, hQ1, l1, y1, z1⟩, st1⟩ := Jvm.LawKit.callS X0 hx (y := (⟨"org/cartulary/repository/OperatorSwappedPinLaw", "pick", "(I)Lorg/cartulary/repository/Condition$Operator;"⟩ : MethodName)) hown (mvT hZ (W hw 0 rfl)) (mvT hZ (W hw 1 rfl)) (mvT hZ (W hw 2 rfl)) (mvT hZ (W hw 3 rfl)) (by decide) (backOf (W := 0) (rm_1 l Z a0 hw w kk hN [] p0 h0 O0 hp0) hZ (W hw 3 rfl) (W hw 2 rfl) (by decide) (by decide)) (g := (mkF m 1 #[.val (.int p0), .val (.int p1), .unset, .unset, .unset, .unset, .unset] [(.int p0)])) rfl (by rw [hml]; rfl) (argsL := [(.int p0)]) (rest := []) (lenOf pd_0 rfl) rfl (by show 2 * 0 + _ ≤ _; exact Nat.le_of_eq rfl) (hb hby at_1) (fun _ _ => ⟨rfl, e0, (by decide : 0 + 0 ≤ _), (by decide : 0 + 0 ≤ _)⟩)
  dsimp only [Pt.U, Pt.locs, Pt.cells, Pt.slots] at X1 l1 y1 z1 st1 hQ1
  subst l1 y1 z1
  obtain ⟨rfl, N1q, e1⟩ := hQ1
  have N1 := Fr.app N0 N1q
  obtain ⟨cq2, kq2, q2a, q2b, q2c⟩ := isOf hZ e1 (hE0.ext O0.2)
  obtain ⟨_, _, ⟨T2, L2, k2, n2⟩, -, X2, ⟨Lc2, hQ2, l2, y2, z2⟩, st2⟩ := X1.virtualBack hx (y := (⟨"org/cartulary/repository/Condition$Operator", "swapped", "()Lorg/cartulary/repository/Condition$Operator;"⟩ : MethodName)) (z := (⟨"org/cartulary/repository/Condition$Operator", "swapped", "()Lorg/cartulary/repository/Condition$Operator;"⟩ : MethodName)) hown (mvT hZ (W hw 8 rfl)) (mvT hZ (W hw 9 rfl)) (notFace_of_selects (args := #[]) (mvT hZ (W hw 11 rfl))) (mvT hZ (W hw 11 rfl)) (mvT hZ (W hw 10 rfl)) (by decide) (backOf (W := 0) (rm_3 l Z a0 hw w kk hN [] h0 O0) hZ (W hw 12 rfl) (W hw 6 rfl) (by decide) (by decide)) q2a q2c (g := (mkF m 24 #[.val (.int p0), .val (.int p1), .val (.ref (w 0)), .val (.int (1 : Int32)), .unset, .unset, .unset] [(.ref (w 0))])) rfl (by rw [hml]; rfl) (Steps.refl _) (argsL := []) (rest := []) (lenOf pd_2 rfl) rfl (by show 2 * 0 + _ ≤ _; exact Nat.le_of_eq rfl) (hb hby at_24) (fun _ _ => ⟨rfl, e1, (by decide : 0 + 0 ≤ _), (by decide : 0 + 0 ≤ _)⟩)
  dsimp only [Pt.U, Pt.locs, Pt.cells, Pt.slots] at X2 l2 y2 z2 st2 hQ2
  subst l2 y2 z2
  obtain ⟨rfl, N2q, e2⟩ := hQ2
  have N2 := Fr.app N1 N2q
  obtain ⟨cq3, kq3, q3a, q3b, q3c⟩ := isOf hZ e2 (hE0.ext O0.2)
  obtain ⟨_, _, ⟨T3, L3, k3, n3⟩, -, X3, ⟨Lc3, hQ3, l3, y3, z3⟩, st3⟩ := X2.virtualBack hx (y := (⟨"org/cartulary/repository/Condition$Operator", "holds", "(I)Z"⟩ : MethodName)) (z := (⟨"org/cartulary/repository/Condition$Operator", "holds", "(I)Z"⟩ : MethodName)) hown (mvT hZ (W hw 22 rfl)) (mvT hZ (W hw 23 rfl)) (notFace_of_selects (args := #[]) (mvT hZ (W hw 25 rfl))) (mvT hZ (W hw 25 rfl)) (mvT hZ (W hw 24 rfl)) (by decide) (backOf (W := 0) (rm_7 l Z a0 hw w kk hN [] h0 O0) hZ (W hw 26 rfl) (W hw 6 rfl) (by decide) (by decide)) q3a q3c (g := (mkF m 32 #[.val (.int p0), .val (.int p1), .val (.ref (w 0)), .val (.int (1 : Int32)), .val (.ref (w 0)), .unset, .unset] [(.int (1 : Int32)), (.ref (w 0))])) rfl (by rw [hml]; rfl) (Steps.refl _) (argsL := [(.int (1 : Int32))]) (rest := []) (lenOf pd_3 rfl) rfl (by show 2 * 0 + _ ≤ _; exact Nat.le_of_eq rfl) (hb hby at_32) (fun _ _ => ⟨rfl, e2, (by decide : 0 + 0 ≤ _), (by decide : 0 + 0 ≤ _)⟩)
  dsimp only [Pt.U, Pt.locs, Pt.cells, Pt.slots] at X3 l3 y3 z3 st3 hQ3
  subst l3 y3 z3
  obtain ⟨rfl, N3q, e3⟩ := hQ3
  have N3 := Fr.app N2 N3q
  obtain ⟨cq4, kq4, q4a, q4b, q4c⟩ := isOf hZ e3 (hE0.ext O0.2)
  obtain ⟨_, _, ⟨T4, L4, k4, n4⟩, -, X4, ⟨Lc4, hQ4, l4, y4, z4⟩, st4⟩ := X3.virtualBack hx (y := (⟨"org/cartulary/repository/Condition$Operator", "holds", "(I)Z"⟩ : MethodName)) (z := (⟨"org/cartulary/repository/Condition$Operator", "holds", "(I)Z"⟩ : MethodName)) hown (mvT hZ (W hw 22 rfl)) (mvT hZ (W hw 23 rfl)) (notFace_of_selects (args := #[]) (mvT hZ (W hw 25 rfl))) (mvT hZ (W hw 25 rfl)) (mvT hZ (W hw 24 rfl)) (by decide) (backOf (W := 1) (rm_5 l Z a0 hw w kk hN [] p1 h0 O0 hp3) hZ (W hw 26 rfl) (W hw 6 rfl) (by decide) (by decide)) q4a q4c (g := (mkF m 37 #[.val (.int p0), .val (.int p1), .val (.ref (w 0)), .val (.int (1 : Int32)), .val (.ref (w 0)), .unset, .unset] [(.int p1), (.ref (w 0)), (.int (0 : Int32))])) rfl (by rw [hml]; rfl) (Steps.refl _) (argsL := [(.int p1)]) (rest := [(.int (0 : Int32))]) (lenOf pd_3 rfl) rfl (by show 2 * 0 + _ ≤ _; exact Nat.le_of_eq rfl) (hb hby at_37) (fun _ _ => ⟨rfl, e3, (by decide : 0 + 0 ≤ _), (by decide : 0 + 0 ≤ _)⟩)
  dsimp only [Pt.U, Pt.locs, Pt.cells, Pt.slots] at X4 l4 y4 z4 st4 hQ4
  subst l4 y4 z4
  obtain ⟨rfl, N4q, e4⟩ := hQ4
  have N4 := Fr.app N3 N4q
  obtain ⟨cq5, kq5, q5a, q5b, q5c⟩ := isOf hZ e4 (hE0.ext O0.2)
  obtain ⟨_, _, ⟨T5, L5, k5, n5⟩, -, X5, ⟨Lc5, hQ5, l5, y5, z5⟩, st5⟩ := X4.virtualBack hx (y := (⟨"org/cartulary/repository/Condition$Operator", "swapped", "()Lorg/cartulary/repository/Condition$Operator;"⟩ : MethodName)) (z := (⟨"org/cartulary/repository/Condition$Operator", "swapped", "()Lorg/cartulary/repository/Condition$Operator;"⟩ : MethodName)) hown (mvT hZ (W hw 8 rfl)) (mvT hZ (W hw 9 rfl)) (notFace_of_selects (args := #[]) (mvT hZ (W hw 11 rfl))) (mvT hZ (W hw 11 rfl)) (mvT hZ (W hw 10 rfl)) (by decide) (backOf (W := 0) (rm_3 l Z a0 hw w kk hN [] h0 O0) hZ (W hw 12 rfl) (W hw 6 rfl) (by decide) (by decide)) q5a q5c (g := (mkF m 52 #[.val (.int p0), .val (.int p1), .val (.ref (w 0)), .val (.int (1 : Int32)), .val (.ref (w 0)), .val (.int (1 : Int32)), .unset] [(.ref (w 0))])) rfl (by rw [hml]; rfl) (Steps.refl _) (argsL := []) (rest := []) (lenOf pd_2 rfl) rfl (by show 2 * 0 + _ ≤ _; exact Nat.le_of_eq rfl) (hb hby at_52) (fun _ _ => ⟨rfl, e4, (by decide : 0 + 0 ≤ _), (by decide : 0 + 0 ≤ _)⟩)
  dsimp only [Pt.U, Pt.locs, Pt.cells, Pt.slots] at X5 l5 y5 z5 st5 hQ5
  subst l5 y5 z5
  obtain ⟨rfl, N5q, e5⟩ := hQ5
  have N5 := Fr.app N4 N5q
  obtain ⟨fs, hr, hrun, hended, hW, hsame⟩ := X5.leave (v := some (.int (1 : Int32))) (fun h => by rw [Bd.returns] at h; cases h)
  refine ⟨_, _, pre0 _ ?_, hrun, hended, _, _, rfl, ?_, ⟨_, rfl⟩, hW, hsame.mono (by decide) (by decide)⟩
  · show Steps p.tables e below (s₁.setTop (mkF m 0 #[.val (.int p0), .val (.int p1), .unset, .unset, .unset, .unset, .unset] [])) _
    refine XS.iloadN X0.here hx rfl (hb hby at_0) rfl ?_
    show Steps p.tables e below (s₁.setTop (mkF m 1 #[.val (.int p0), .val (.int p1), .unset, .unset, .unset, .unset, .unset] [(.int p0)])) _
    refine st1 _ ?_
    show Steps p.tables e below (T1.setTop (mkF m 4 #[.val (.int p0), .val (.int p1), .unset, .unset, .unset, .unset, .unset] [(.ref (w 0))])) _
    refine XS.astoreN X1.here hx rfl (hb hby at_4) rfl rfl (l' := #[.val (.int p0), .val (.int p1), .val (.ref (w 0)), .unset, .unset, .unset, .unset]) rfl ?_
    show Steps p.tables e below (T1.setTop (mkF m 5 #[.val (.int p0), .val (.int p1), .val (.ref (w 0)), .unset, .unset, .unset, .unset] [])) _
    refine XS.iloadN X1.here hx rfl (hb hby at_5) rfl ?_
    show Steps p.tables e below (T1.setTop (mkF m 6 #[.val (.int p0), .val (.int p1), .val (.ref (w 0)), .unset, .unset, .unset, .unset] [(.int p1)])) _
    refine XS.ifYes X1.here hx rfl (pc0 := 6) (pc' := 13) rfl (hb hby at_6) rfl ((if0 _ _).trans (flt hp1).2.2.2) (by decide) (by decide) ?_
    show Steps p.tables e below (T1.setTop (mkF m 13 #[.val (.int p0), .val (.int p1), .val (.ref (w 0)), .unset, .unset, .unset, .unset] [])) _
    refine XS.iloadN X1.here hx rfl (hb hby at_13) rfl ?_
    show Steps p.tables e below (T1.setTop (mkF m 14 #[.val (.int p0), .val (.int p1), .val (.ref (w 0)), .unset, .unset, .unset, .unset] [(.int p1)])) _
    refine XS.ifNo X1.here hx rfl (hb hby at_14) rfl ((if0 _ _).trans (tlt hp2).2.1) ?_
    show Steps p.tables e below (T1.setTop (mkF m 17 #[.val (.int p0), .val (.int p1), .val (.ref (w 0)), .unset, .unset, .unset, .unset] [])) _
    refine XS.iconst X1.here hx rfl (hb hby at_17) ?_
    show Steps p.tables e below (T1.setTop (mkF m 18 #[.val (.int p0), .val (.int p1), .val (.ref (w 0)), .unset, .unset, .unset, .unset] [(.int (1 : Int32))])) _
    refine XS.goto X1.here hx rfl (pc0 := 18) (pc' := 22) rfl (hb hby at_18) (by decide) (by decide) ?_
    show Steps p.tables e below (T1.setTop (mkF m 22 #[.val (.int p0), .val (.int p1), .val (.ref (w 0)), .unset, .unset, .unset, .unset] [(.int (1 : Int32))])) _
    refine XS.istoreN X1.here hx rfl (hb hby at_22) rfl (l' := #[.val (.int p0), .val (.int p1), .val (.ref (w 0)), .val (.int (1 : Int32)), .unset, .unset, .unset]) rfl ?_
    show Steps p.tables e below (T1.setTop (mkF m 23 #[.val (.int p0), .val (.int p1), .val (.ref (w 0)), .val (.int (1 : Int32)), .unset, .unset, .unset] [])) _
    refine XS.aloadN X1.here hx rfl (hb hby at_23) rfl rfl ?_
    show Steps p.tables e below (T1.setTop (mkF m 24 #[.val (.int p0), .val (.int p1), .val (.ref (w 0)), .val (.int (1 : Int32)), .unset, .unset, .unset] [(.ref (w 0))])) _
    refine st2.trans ?_
    show Steps p.tables e below (T2.setTop (mkF m 27 #[.val (.int p0), .val (.int p1), .val (.ref (w 0)), .val (.int (1 : Int32)), .unset, .unset, .unset] [(.ref (w 0))])) _
    refine XS.astore X2.here hx rfl (hb hby at_27) rfl rfl (l' := #[.val (.int p0), .val (.int p1), .val (.ref (w 0)), .val (.int (1 : Int32)), .val (.ref (w 0)), .unset, .unset]) rfl ?_
    show Steps p.tables e below (T2.setTop (mkF m 29 #[.val (.int p0), .val (.int p1), .val (.ref (w 0)), .val (.int (1 : Int32)), .val (.ref (w 0)), .unset, .unset] [])) _
    refine XS.aload X2.here hx rfl (hb hby at_29) rfl rfl ?_
    show Steps p.tables e below (T2.setTop (mkF m 31 #[.val (.int p0), .val (.int p1), .val (.ref (w 0)), .val (.int (1 : Int32)), .val (.ref (w 0)), .unset, .unset] [(.ref (w 0))])) _
    refine XS.iloadN X2.here hx rfl (hb hby at_31) rfl ?_
    show Steps p.tables e below (T2.setTop (mkF m 32 #[.val (.int p0), .val (.int p1), .val (.ref (w 0)), .val (.int (1 : Int32)), .val (.ref (w 0)), .unset, .unset] [(.int (1 : Int32)), (.ref (w 0))])) _
    refine st3.trans ?_
    show Steps p.tables e below (T3.setTop (mkF m 35 #[.val (.int p0), .val (.int p1), .val (.ref (w 0)), .val (.int (1 : Int32)), .val (.ref (w 0)), .unset, .unset] [(.int (0 : Int32))])) _
    refine XS.aloadN X3.here hx rfl (hb hby at_35) rfl rfl ?_
    show Steps p.tables e below (T3.setTop (mkF m 36 #[.val (.int p0), .val (.int p1), .val (.ref (w 0)), .val (.int (1 : Int32)), .val (.ref (w 0)), .unset, .unset] [(.ref (w 0)), (.int (0 : Int32))])) _
    refine XS.iloadN X3.here hx rfl (hb hby at_36) rfl ?_
    show Steps p.tables e below (T3.setTop (mkF m 37 #[.val (.int p0), .val (.int p1), .val (.ref (w 0)), .val (.int (1 : Int32)), .val (.ref (w 0)), .unset, .unset] [(.int p1), (.ref (w 0)), (.int (0 : Int32))])) _
    refine st4.trans ?_
    show Steps p.tables e below (T4.setTop (mkF m 40 #[.val (.int p0), .val (.int p1), .val (.ref (w 0)), .val (.int (1 : Int32)), .val (.ref (w 0)), .unset, .unset] [(.int (0 : Int32)), (.int (0 : Int32))])) _
    refine XS.icmpNo X4.here hx rfl (hb hby at_40) rfl (teq (by decide : (0 : Int32) = (0 : Int32))).2 ?_
    show Steps p.tables e below (T4.setTop (mkF m 43 #[.val (.int p0), .val (.int p1), .val (.ref (w 0)), .val (.int (1 : Int32)), .val (.ref (w 0)), .unset, .unset] [])) _
    refine XS.iconst X4.here hx rfl (hb hby at_43) ?_
    show Steps p.tables e below (T4.setTop (mkF m 44 #[.val (.int p0), .val (.int p1), .val (.ref (w 0)), .val (.int (1 : Int32)), .val (.ref (w 0)), .unset, .unset] [(.int (1 : Int32))])) _
    refine XS.goto X4.here hx rfl (pc0 := 44) (pc' := 48) rfl (hb hby at_44) (by decide) (by decide) ?_
    show Steps p.tables e below (T4.setTop (mkF m 48 #[.val (.int p0), .val (.int p1), .val (.ref (w 0)), .val (.int (1 : Int32)), .val (.ref (w 0)), .unset, .unset] [(.int (1 : Int32))])) _
    refine XS.istore X4.here hx rfl (hb hby at_48) rfl (l' := #[.val (.int p0), .val (.int p1), .val (.ref (w 0)), .val (.int (1 : Int32)), .val (.ref (w 0)), .val (.int (1 : Int32)), .unset]) rfl ?_
    show Steps p.tables e below (T4.setTop (mkF m 50 #[.val (.int p0), .val (.int p1), .val (.ref (w 0)), .val (.int (1 : Int32)), .val (.ref (w 0)), .val (.int (1 : Int32)), .unset] [])) _
    refine XS.aload X4.here hx rfl (hb hby at_50) rfl rfl ?_
    show Steps p.tables e below (T4.setTop (mkF m 52 #[.val (.int p0), .val (.int p1), .val (.ref (w 0)), .val (.int (1 : Int32)), .val (.ref (w 0)), .val (.int (1 : Int32)), .unset] [(.ref (w 0))])) _
    refine st5.trans ?_
    show Steps p.tables e below (T5.setTop (mkF m 55 #[.val (.int p0), .val (.int p1), .val (.ref (w 0)), .val (.int (1 : Int32)), .val (.ref (w 0)), .val (.int (1 : Int32)), .unset] [(.ref (w 0))])) _
    refine XS.aloadN X5.here hx rfl (hb hby at_55) rfl rfl ?_
    show Steps p.tables e below (T5.setTop (mkF m 56 #[.val (.int p0), .val (.int p1), .val (.ref (w 0)), .val (.int (1 : Int32)), .val (.ref (w 0)), .val (.int (1 : Int32)), .unset] [(.ref (w 0)), (.ref (w 0))])) _
    refine Jvm.RoadKit.acmp (g := (mkF m 56 #[.val (.int p0), .val (.int p1), .val (.ref (w 0)), .val (.int (1 : Int32)), .val (.ref (w 0)), .val (.int (1 : Int32)), .unset] [(.ref (w 0)), (.ref (w 0))])) X5 hx rfl rfl rfl (pc0 := 56) (pc' := 59) (same := true) rfl (hb hby at_56) rfl (decide_eq_true rfl) (by decide) (by decide) ?_
    show Steps p.tables e below (T5.setTop (mkF m 59 #[.val (.int p0), .val (.int p1), .val (.ref (w 0)), .val (.int (1 : Int32)), .val (.ref (w 0)), .val (.int (1 : Int32)), .unset] [])) _
    refine XS.iconst X5.here hx rfl (hb hby at_59) ?_
    show Steps p.tables e below (T5.setTop (mkF m 60 #[.val (.int p0), .val (.int p1), .val (.ref (w 0)), .val (.int (1 : Int32)), .val (.ref (w 0)), .val (.int (1 : Int32)), .unset] [(.int (1 : Int32))])) _
    refine XS.goto X5.here hx rfl (pc0 := 60) (pc' := 64) rfl (hb hby at_60) (by decide) (by decide) ?_
    show Steps p.tables e below (T5.setTop (mkF m 64 #[.val (.int p0), .val (.int p1), .val (.ref (w 0)), .val (.int (1 : Int32)), .val (.ref (w 0)), .val (.int (1 : Int32)), .unset] [(.int (1 : Int32))])) _
    refine XS.istore X5.here hx rfl (hb hby at_64) rfl (l' := #[.val (.int p0), .val (.int p1), .val (.ref (w 0)), .val (.int (1 : Int32)), .val (.ref (w 0)), .val (.int (1 : Int32)), .val (.int (1 : Int32))]) rfl ?_
    show Steps p.tables e below (T5.setTop (mkF m 66 #[.val (.int p0), .val (.int p1), .val (.ref (w 0)), .val (.int (1 : Int32)), .val (.ref (w 0)), .val (.int (1 : Int32)), .val (.int (1 : Int32))] [])) _
    refine XS.iload X5.here hx rfl (hb hby at_66) rfl ?_
    show Steps p.tables e below (T5.setTop (mkF m 68 #[.val (.int p0), .val (.int p1), .val (.ref (w 0)), .val (.int (1 : Int32)), .val (.ref (w 0)), .val (.int (1 : Int32)), .val (.int (1 : Int32))] [(.int (1 : Int32))])) _
    refine XS.ifNo X5.here hx rfl (hb hby at_68) rfl ((if0 _ _).trans (feq (by decide : ¬ ((1 : Int32) = (0 : Int32)))).1) ?_
    show Steps p.tables e below (T5.setTop (mkF m 71 #[.val (.int p0), .val (.int p1), .val (.ref (w 0)), .val (.int (1 : Int32)), .val (.ref (w 0)), .val (.int (1 : Int32)), .val (.int (1 : Int32))] [])) _
    refine XS.iload X5.here hx rfl (hb hby at_71) rfl ?_
    show Steps p.tables e below (T5.setTop (mkF m 73 #[.val (.int p0), .val (.int p1), .val (.ref (w 0)), .val (.int (1 : Int32)), .val (.ref (w 0)), .val (.int (1 : Int32)), .val (.int (1 : Int32))] [(.int (1 : Int32))])) _
    refine XS.ifNo X5.here hx rfl (hb hby at_73) rfl ((if0 _ _).trans (feq (by decide : ¬ ((1 : Int32) = (0 : Int32)))).1) ?_
    show Steps p.tables e below (T5.setTop (mkF m 76 #[.val (.int p0), .val (.int p1), .val (.ref (w 0)), .val (.int (1 : Int32)), .val (.ref (w 0)), .val (.int (1 : Int32)), .val (.int (1 : Int32))] [])) _
    refine XS.iconst X5.here hx rfl (hb hby at_76) ?_
    show Steps p.tables e below (T5.setTop (mkF m 77 #[.val (.int p0), .val (.int p1), .val (.ref (w 0)), .val (.int (1 : Int32)), .val (.ref (w 0)), .val (.int (1 : Int32)), .val (.int (1 : Int32))] [(.int (1 : Int32))])) _
    refine XS.goto X5.here hx rfl (pc0 := 77) (pc' := 81) rfl (hb hby at_77) (by decide) (by decide) ?_
    show Steps p.tables e below (T5.setTop (mkF m 81 #[.val (.int p0), .val (.int p1), .val (.ref (w 0)), .val (.int (1 : Int32)), .val (.ref (w 0)), .val (.int (1 : Int32)), .val (.int (1 : Int32))] [(.int (1 : Int32))])) _
    exact retN X5 hx (t := .boolean) Bd.returns (by simp) (hb hby at_81) hr
  · show OL (some (.int (1 : Int32))) Z.heap.size _ T5.heap _
    exact ⟨rfl, N5⟩
theorem d_prog_67_method_5_code_58 : decode prog_67_method_5_code 58 = .ok (.iconst 1, 1) := by decide +kernel
theorem d_prog_67_method_5_code_59 : decode prog_67_method_5_code 59 = .ok (.goto 64, 3) := by decide +kernel
set_option maxRecDepth 65536 in
set_option maxHeartbeats 40000000 in
theorem rm_9 (l : Launch) (Z : State) (a0 : Array Value) (hw : ∀ d ∈ tables_1, d.before a0 Z = true) (w : Nat → Addr) (kk : Nat → ClassId) (hN : Wd Z w kk) (ws : List Jvm.Cond)  (h0 : Heap) (O0 : Old Z Z.heap.size h0) :
    MetFree l (⟨"org/cartulary/repository/Condition$Operator", "holds", "(I)Z"⟩ : MethodName) (head1 (Jvm.Cond.code (⟨"org/cartulary/repository/Condition$Operator", "holds", "(I)Z"⟩ : MethodName) prog_67_method_5_code 2 (some .boolean) :: ws) ({ frames := 1, cells := 0, slots := 0, locals := 12 } : Room)) (fun a U => a = #[(.ref (w 0)), (.int (0 : Int32))] ∧ Z.Warmed39 U.vm ∧ U.heap = h0) (fun _ _ _ _ _ => True) (fun _ U o U' => ∃ v L, o = .returned v ∧ OQ (some (.int (1 : Int32))) h0 Z.heap.size v U'.heap L ∧ FrameEnd U o U' L ({ frames := 1, cells := 0, slots := 0, locals := 12 } : Room).cells ({ frames := 1, cells := 0, slots := 0, locals := 12 } : Room).slots) := by
  have hN' := hN
  obtain ⟨hS0, hE0, hS1, hE1, hS2, hE2, hS3, hE3, hS4, hE4, hS5, hE5, hF0_ordinal, hF1_ordinal, hF2_ordinal, hF3_ordinal, hF4_ordinal, hF5_ordinal⟩ := hN'
  refine MetFree.of_bodySF (plainFor_of_name pn_2) hisR ?_
  intro p e s m args below meth c s₁ Bd hml0 hP hK
  obtain ⟨rfl, hZ, hh⟩ := hP
  have hx := Bd.exec
  have hby := Bd.bytes
  have hml : c.maxLocals = 2 := hml0
  have hown : s.vm.findClass "org/cartulary/repository/Condition$Operator" = some m.cls := findClass_of_methodNamed Bd.named
  have hnm := (name_of_methodNamed Bd.named Bd.method).1
  have X0 : Stand p l e ({ frames := 1, cells := 0, slots := 0, locals := 12 } : Room) s m #[(.ref (w 0)), (.int (0 : Int32))] below meth c s₁ [] 0 0 := Stand.of_body Bd
  have e0 : s₁.heap = h0 := by rw [← hh, Bd.state]; rfl
  have N0 := Fr.nil Z.heap.size
  have pre0 : ∀ t, Steps p.tables e below (s₁.setTop (mkF m 0 #[.val (.ref (w 0)), .val (.int (0 : Int32))] [])) t → Steps p.tables e below (s₁.setTop (entryFrame m #[(.ref (w 0)), (.int (0 : Int32))] 2)) t := fun t k => castTop (ef_2 m (.ref (w 0)) rfl (.int (0 : Int32)) rfl) k
  obtain ⟨cq1, kq1, q1a, q1b, q1c⟩ := isOf hZ e0 (hE0.ext O0.2)
  obtain ⟨_, _, ⟨T1, L1, k1, n1⟩, -, X1, ⟨Lc1, hQ1, l1, y1, z1⟩, st1⟩ := X0.virtualBackUp hx (x := (⟨"org/cartulary/repository/Condition$Operator", "ordinal", "()I"⟩ : MethodName)) (y := (⟨"java/lang/Enum", "ordinal", "()I"⟩ : MethodName)) (owner := "java/lang/Enum") hown (mvT hZ (W hw 13 rfl)) (mvT hZ (W hw 14 rfl)) (mvT hZ (W hw 15 rfl)) (by decide) (mvT hZ (W hw 17 rfl)) (mvT hZ (W hw 16 rfl)) (backOf (W := 0) (rm_2 l Z a0 hw w kk hN [] h0 O0) hZ (W hw 19 rfl) (W hw 18 rfl) (by decide) (by decide)) q1a q1c (g := (mkF m 1 #[.val (.ref (w 0)), .val (.int (0 : Int32))] [(.ref (w 0))])) rfl (by rw [hml]; rfl) (Steps.refl _) (argsL := []) (rest := []) (lenOf pd_1 rfl) rfl (by show 2 * 0 + _ ≤ _; exact Nat.le_of_eq rfl) (hb hby d_prog_67_method_5_code_1) (fun _ _ => ⟨rfl, e0, (by decide : 0 + 0 ≤ _), (by decide : 0 + 0 ≤ _)⟩)
  dsimp only [Pt.U, Pt.locs, Pt.cells, Pt.slots] at X1 l1 y1 z1 st1 hQ1
  subst l1 y1 z1
  obtain ⟨rfl, N1q, e1⟩ := hQ1
  have N1 := Fr.app N0 N1q
  obtain ⟨fs, hr, hrun, hended, hW, hsame⟩ := X1.leave (v := some (.int (1 : Int32))) (fun h => by rw [Bd.returns] at h; cases h)
  refine ⟨_, _, pre0 _ ?_, hrun, hended, _, _, rfl, ?_, ⟨_, rfl⟩, hW, hsame.mono (by decide) (by decide)⟩
  · show Steps p.tables e below (s₁.setTop (mkF m 0 #[.val (.ref (w 0)), .val (.int (0 : Int32))] [])) _
    refine XS.aloadN X0.here hx rfl (hb hby d_prog_67_method_5_code_0) rfl rfl ?_
    show Steps p.tables e below (s₁.setTop (mkF m 1 #[.val (.ref (w 0)), .val (.int (0 : Int32))] [(.ref (w 0))])) _
    refine st1.trans ?_
    show Steps p.tables e below (T1.setTop (mkF m 4 #[.val (.ref (w 0)), .val (.int (0 : Int32))] [(.int (0 : Int32))])) _
    refine XS.tswIn X1.here hx rfl (pc0 := 4) (pc' := 54) (o := 50) rfl (hb hby d_prog_67_method_5_code_4) rfl (by decide) (by decide) (by decide) (by decide) ?_
    show Steps p.tables e below (T1.setTop (mkF m 54 #[.val (.ref (w 0)), .val (.int (0 : Int32))] [])) _
    refine XS.iloadN X1.here hx rfl (hb hby d_prog_67_method_5_code_54) rfl ?_
    show Steps p.tables e below (T1.setTop (mkF m 55 #[.val (.ref (w 0)), .val (.int (0 : Int32))] [(.int (0 : Int32))])) _
    refine XS.ifNo X1.here hx rfl (hb hby d_prog_67_method_5_code_55) rfl ((if0 _ _).trans (teq (by decide : (0 : Int32) = (0 : Int32))).2) ?_
    show Steps p.tables e below (T1.setTop (mkF m 58 #[.val (.ref (w 0)), .val (.int (0 : Int32))] [])) _
    refine XS.iconst X1.here hx rfl (hb hby d_prog_67_method_5_code_58) ?_
    show Steps p.tables e below (T1.setTop (mkF m 59 #[.val (.ref (w 0)), .val (.int (0 : Int32))] [(.int (1 : Int32))])) _
    refine XS.goto X1.here hx rfl (pc0 := 59) (pc' := 123) rfl (hb hby d_prog_67_method_5_code_59) (by decide) (by decide) ?_
    show Steps p.tables e below (T1.setTop (mkF m 123 #[.val (.ref (w 0)), .val (.int (0 : Int32))] [(.int (1 : Int32))])) _
    exact retN X1 hx (t := .boolean) Bd.returns (by simp) (hb hby d_prog_67_method_5_code_123) hr
  · show OQ (some (.int (1 : Int32))) h0 Z.heap.size _ T1.heap _
    rw [e1]
    exact ⟨rfl, N1, rfl⟩
set_option maxRecDepth 65536 in
set_option maxHeartbeats 40000000 in
theorem rm_10 (l : Launch) (Z : State) (a0 : Array Value) (hw : ∀ d ∈ tables_1, d.before a0 Z = true) (w : Nat → Addr) (kk : Nat → ClassId) (hN : Wd Z w kk) (ws : List Jvm.Cond) (p1 : Int32) (h0 : Heap) (O0 : Old Z Z.heap.size h0) (hp0 : p1 = (0 : Int32)) :
    MetFree l (⟨"org/cartulary/repository/Condition$Operator", "holds", "(I)Z"⟩ : MethodName) (head1 (Jvm.Cond.code (⟨"org/cartulary/repository/Condition$Operator", "holds", "(I)Z"⟩ : MethodName) prog_67_method_5_code 2 (some .boolean) :: ws) ({ frames := 1, cells := 0, slots := 0, locals := 12 } : Room)) (fun a U => a = #[(.ref (w 0)), (.int p1)] ∧ Z.Warmed39 U.vm ∧ U.heap = h0) (fun _ _ _ _ _ => True) (fun _ U o U' => ∃ v L, o = .returned v ∧ OQ (some (.int (1 : Int32))) h0 Z.heap.size v U'.heap L ∧ FrameEnd U o U' L ({ frames := 1, cells := 0, slots := 0, locals := 12 } : Room).cells ({ frames := 1, cells := 0, slots := 0, locals := 12 } : Room).slots) := by
  have hN' := hN
  obtain ⟨hS0, hE0, hS1, hE1, hS2, hE2, hS3, hE3, hS4, hE4, hS5, hE5, hF0_ordinal, hF1_ordinal, hF2_ordinal, hF3_ordinal, hF4_ordinal, hF5_ordinal⟩ := hN'
  refine MetFree.of_bodySF (plainFor_of_name pn_2) hisR ?_
  intro p e s m args below meth c s₁ Bd hml0 hP hK
  obtain ⟨rfl, hZ, hh⟩ := hP
  have hx := Bd.exec
  have hby := Bd.bytes
  have hml : c.maxLocals = 2 := hml0
  have hown : s.vm.findClass "org/cartulary/repository/Condition$Operator" = some m.cls := findClass_of_methodNamed Bd.named
  have hnm := (name_of_methodNamed Bd.named Bd.method).1
  have X0 : Stand p l e ({ frames := 1, cells := 0, slots := 0, locals := 12 } : Room) s m #[(.ref (w 0)), (.int p1)] below meth c s₁ [] 0 0 := Stand.of_body Bd
  have e0 : s₁.heap = h0 := by rw [← hh, Bd.state]; rfl
  have N0 := Fr.nil Z.heap.size
  have pre0 : ∀ t, Steps p.tables e below (s₁.setTop (mkF m 0 #[.val (.ref (w 0)), .val (.int p1)] [])) t → Steps p.tables e below (s₁.setTop (entryFrame m #[(.ref (w 0)), (.int p1)] 2)) t := fun t k => castTop (ef_2 m (.ref (w 0)) rfl (.int p1) rfl) k
  obtain ⟨cq1, kq1, q1a, q1b, q1c⟩ := isOf hZ e0 (hE0.ext O0.2)
  obtain ⟨_, _, ⟨T1, L1, k1, n1⟩, -, X1, ⟨Lc1, hQ1, l1, y1, z1⟩, st1⟩ := X0.virtualBackUp hx (x := (⟨"org/cartulary/repository/Condition$Operator", "ordinal", "()I"⟩ : MethodName)) (y := (⟨"java/lang/Enum", "ordinal", "()I"⟩ : MethodName)) (owner := "java/lang/Enum") hown (mvT hZ (W hw 13 rfl)) (mvT hZ (W hw 14 rfl)) (mvT hZ (W hw 15 rfl)) (by decide) (mvT hZ (W hw 17 rfl)) (mvT hZ (W hw 16 rfl)) (backOf (W := 0) (rm_2 l Z a0 hw w kk hN [] h0 O0) hZ (W hw 19 rfl) (W hw 18 rfl) (by decide) (by decide)) q1a q1c (g := (mkF m 1 #[.val (.ref (w 0)), .val (.int p1)] [(.ref (w 0))])) rfl (by rw [hml]; rfl) (Steps.refl _) (argsL := []) (rest := []) (lenOf pd_1 rfl) rfl (by show 2 * 0 + _ ≤ _; exact Nat.le_of_eq rfl) (hb hby d_prog_67_method_5_code_1) (fun _ _ => ⟨rfl, e0, (by decide : 0 + 0 ≤ _), (by decide : 0 + 0 ≤ _)⟩)
  dsimp only [Pt.U, Pt.locs, Pt.cells, Pt.slots] at X1 l1 y1 z1 st1 hQ1
  subst l1 y1 z1
  obtain ⟨rfl, N1q, e1⟩ := hQ1
  have N1 := Fr.app N0 N1q
  obtain ⟨fs, hr, hrun, hended, hW, hsame⟩ := X1.leave (v := some (.int (1 : Int32))) (fun h => by rw [Bd.returns] at h; cases h)
  refine ⟨_, _, pre0 _ ?_, hrun, hended, _, _, rfl, ?_, ⟨_, rfl⟩, hW, hsame.mono (by decide) (by decide)⟩
  · show Steps p.tables e below (s₁.setTop (mkF m 0 #[.val (.ref (w 0)), .val (.int p1)] [])) _
    refine XS.aloadN X0.here hx rfl (hb hby d_prog_67_method_5_code_0) rfl rfl ?_
    show Steps p.tables e below (s₁.setTop (mkF m 1 #[.val (.ref (w 0)), .val (.int p1)] [(.ref (w 0))])) _
    refine st1.trans ?_
    show Steps p.tables e below (T1.setTop (mkF m 4 #[.val (.ref (w 0)), .val (.int p1)] [(.int (0 : Int32))])) _
    refine XS.tswIn X1.here hx rfl (pc0 := 4) (pc' := 54) (o := 50) rfl (hb hby d_prog_67_method_5_code_4) rfl (by decide) (by decide) (by decide) (by decide) ?_
    show Steps p.tables e below (T1.setTop (mkF m 54 #[.val (.ref (w 0)), .val (.int p1)] [])) _
    refine XS.iloadN X1.here hx rfl (hb hby d_prog_67_method_5_code_54) rfl ?_
    show Steps p.tables e below (T1.setTop (mkF m 55 #[.val (.ref (w 0)), .val (.int p1)] [(.int p1)])) _
    refine XS.ifNo X1.here hx rfl (hb hby d_prog_67_method_5_code_55) rfl ((if0 _ _).trans (teq hp0).2) ?_
    show Steps p.tables e below (T1.setTop (mkF m 58 #[.val (.ref (w 0)), .val (.int p1)] [])) _
    refine XS.iconst X1.here hx rfl (hb hby d_prog_67_method_5_code_58) ?_
    show Steps p.tables e below (T1.setTop (mkF m 59 #[.val (.ref (w 0)), .val (.int p1)] [(.int (1 : Int32))])) _
    refine XS.goto X1.here hx rfl (pc0 := 59) (pc' := 123) rfl (hb hby d_prog_67_method_5_code_59) (by decide) (by decide) ?_
    show Steps p.tables e below (T1.setTop (mkF m 123 #[.val (.ref (w 0)), .val (.int p1)] [(.int (1 : Int32))])) _
    exact retN X1 hx (t := .boolean) Bd.returns (by simp) (hb hby d_prog_67_method_5_code_123) hr
  · show OQ (some (.int (1 : Int32))) h0 Z.heap.size _ T1.heap _
    rw [e1]
    exact ⟨rfl, N1, rfl⟩
set_option maxRecDepth 65536 in
set_option maxHeartbeats 40000000 in
theorem law_11 (l : Launch) (Z : State) (a0 : Array Value) (hw : ∀ d ∈ tables_1, d.before a0 Z = true) (w : Nat → Addr) (kk : Nat → ClassId) (hN : Wd Z w kk) (ws : List Jvm.Cond) (p0 : Int32) (p1 : Int32) (h0 : Heap) (O0 : Old Z Z.heap.size h0) (hp0 : ((p0 &&& (2147483647 : Int32)) % (6 : Int32)) = (0 : Int32)) (hp1 : ¬ ((0 : Int32) < p1)) (hp2 : ¬ (p1 < (0 : Int32))) (hp3 : p1 = (0 : Int32)) :
    MetFree l x (head1 (Jvm.Cond.code x code maxLocals ret :: ws) room_1) (fun a U => a = #[(.int p0), (.int p1)] ∧ Z.Warmed39 U.vm ∧ U.heap = h0) (fun _ _ _ _ _ => True) (fun _ U o U' => ∃ v L, o = .returned v ∧ OL (some (.int (1 : Int32))) Z.heap.size v U'.heap L ∧ FrameEnd U o U' L 0 0) := by
  have hN' := hN
  obtain ⟨hS0, hE0, hS1, hE1, hS2, hE2, hS3, hE3, hS4, hE4, hS5, hE5, hF0_ordinal, hF1_ordinal, hF2_ordinal, hF3_ordinal, hF4_ordinal, hF5_ordinal⟩ := hN'
  refine MetFree.of_bodySF (plainFor_of_name pn_0) hisR ?_
  intro p e s m args below meth c s₁ Bd hml0 hP hK
  obtain ⟨rfl, hZ, hh⟩ := hP
  have hx := Bd.exec
  have hby := Bd.bytes
  have hml : c.maxLocals = 7 := hml0
  have hown : s.vm.findClass "org/cartulary/repository/OperatorSwappedPinLaw" = some m.cls := findClass_of_methodNamed Bd.named
  have hnm := (name_of_methodNamed Bd.named Bd.method).1
  have X0 : Stand p l e room_1 s m #[(.int p0), (.int p1)] below meth c s₁ [] 0 0 := Stand.of_body Bd
  have e0 : s₁.heap = h0 := by rw [← hh, Bd.state]; rfl
  have N0 := Fr.nil Z.heap.size
  have pre0 : ∀ t, Steps p.tables e below (s₁.setTop (mkF m 0 #[.val (.int p0), .val (.int p1), .unset, .unset, .unset, .unset, .unset] [])) t → Steps p.tables e below (s₁.setTop (entryFrame m #[(.int p0), (.int p1)] maxLocals)) t := fun t k => castTop (ef_3 m (.int p0) rfl (.int p1) rfl) k
  obtain ⟨_, _, ⟨T1, L1, k1, n1⟩, -, X1, ⟨Lc1, hQ1, l1, y1, z1⟩, st1⟩ := Jvm.LawKit.callS X0 hx (y := (⟨"org/cartulary/repository/OperatorSwappedPinLaw", "pick", "(I)Lorg/cartulary/repository/Condition$Operator;"⟩ : MethodName)) hown (mvT hZ (W hw 0 rfl)) (mvT hZ (W hw 1 rfl)) (mvT hZ (W hw 2 rfl)) (mvT hZ (W hw 3 rfl)) (by decide) (backOf (W := 0) (rm_1 l Z a0 hw w kk hN [] p0 h0 O0 hp0) hZ (W hw 3 rfl) (W hw 2 rfl) (by decide) (by decide)) (g := (mkF m 1 #[.val (.int p0), .val (.int p1), .unset, .unset, .unset, .unset, .unset] [(.int p0)])) rfl (by rw [hml]; rfl) (argsL := [(.int p0)]) (rest := []) (lenOf pd_0 rfl) rfl (by show 2 * 0 + _ ≤ _; exact Nat.le_of_eq rfl) (hb hby at_1) (fun _ _ => ⟨rfl, e0, (by decide : 0 + 0 ≤ _), (by decide : 0 + 0 ≤ _)⟩)
  dsimp only [Pt.U, Pt.locs, Pt.cells, Pt.slots] at X1 l1 y1 z1 st1 hQ1
  subst l1 y1 z1
  obtain ⟨rfl, N1q, e1⟩ := hQ1
  have N1 := Fr.app N0 N1q
  obtain ⟨cq2, kq2, q2a, q2b, q2c⟩ := isOf hZ e1 (hE0.ext O0.2)
  obtain ⟨_, _, ⟨T2, L2, k2, n2⟩, -, X2, ⟨Lc2, hQ2, l2, y2, z2⟩, st2⟩ := X1.virtualBack hx (y := (⟨"org/cartulary/repository/Condition$Operator", "swapped", "()Lorg/cartulary/repository/Condition$Operator;"⟩ : MethodName)) (z := (⟨"org/cartulary/repository/Condition$Operator", "swapped", "()Lorg/cartulary/repository/Condition$Operator;"⟩ : MethodName)) hown (mvT hZ (W hw 8 rfl)) (mvT hZ (W hw 9 rfl)) (notFace_of_selects (args := #[]) (mvT hZ (W hw 11 rfl))) (mvT hZ (W hw 11 rfl)) (mvT hZ (W hw 10 rfl)) (by decide) (backOf (W := 0) (rm_3 l Z a0 hw w kk hN [] h0 O0) hZ (W hw 12 rfl) (W hw 6 rfl) (by decide) (by decide)) q2a q2c (g := (mkF m 24 #[.val (.int p0), .val (.int p1), .val (.ref (w 0)), .val (.int (0 : Int32)), .unset, .unset, .unset] [(.ref (w 0))])) rfl (by rw [hml]; rfl) (Steps.refl _) (argsL := []) (rest := []) (lenOf pd_2 rfl) rfl (by show 2 * 0 + _ ≤ _; exact Nat.le_of_eq rfl) (hb hby at_24) (fun _ _ => ⟨rfl, e1, (by decide : 0 + 0 ≤ _), (by decide : 0 + 0 ≤ _)⟩)
  dsimp only [Pt.U, Pt.locs, Pt.cells, Pt.slots] at X2 l2 y2 z2 st2 hQ2
  subst l2 y2 z2
  obtain ⟨rfl, N2q, e2⟩ := hQ2
  have N2 := Fr.app N1 N2q
  obtain ⟨cq3, kq3, q3a, q3b, q3c⟩ := isOf hZ e2 (hE0.ext O0.2)
  obtain ⟨_, _, ⟨T3, L3, k3, n3⟩, -, X3, ⟨Lc3, hQ3, l3, y3, z3⟩, st3⟩ := X2.virtualBack hx (y := (⟨"org/cartulary/repository/Condition$Operator", "holds", "(I)Z"⟩ : MethodName)) (z := (⟨"org/cartulary/repository/Condition$Operator", "holds", "(I)Z"⟩ : MethodName)) hown (mvT hZ (W hw 22 rfl)) (mvT hZ (W hw 23 rfl)) (notFace_of_selects (args := #[]) (mvT hZ (W hw 25 rfl))) (mvT hZ (W hw 25 rfl)) (mvT hZ (W hw 24 rfl)) (by decide) (backOf (W := 0) (rm_9 l Z a0 hw w kk hN [] h0 O0) hZ (W hw 26 rfl) (W hw 6 rfl) (by decide) (by decide)) q3a q3c (g := (mkF m 32 #[.val (.int p0), .val (.int p1), .val (.ref (w 0)), .val (.int (0 : Int32)), .val (.ref (w 0)), .unset, .unset] [(.int (0 : Int32)), (.ref (w 0))])) rfl (by rw [hml]; rfl) (Steps.refl _) (argsL := [(.int (0 : Int32))]) (rest := []) (lenOf pd_3 rfl) rfl (by show 2 * 0 + _ ≤ _; exact Nat.le_of_eq rfl) (hb hby at_32) (fun _ _ => ⟨rfl, e2, (by decide : 0 + 0 ≤ _), (by decide : 0 + 0 ≤ _)⟩)
  dsimp only [Pt.U, Pt.locs, Pt.cells, Pt.slots] at X3 l3 y3 z3 st3 hQ3
  subst l3 y3 z3
  obtain ⟨rfl, N3q, e3⟩ := hQ3
  have N3 := Fr.app N2 N3q
  obtain ⟨cq4, kq4, q4a, q4b, q4c⟩ := isOf hZ e3 (hE0.ext O0.2)
  obtain ⟨_, _, ⟨T4, L4, k4, n4⟩, -, X4, ⟨Lc4, hQ4, l4, y4, z4⟩, st4⟩ := X3.virtualBack hx (y := (⟨"org/cartulary/repository/Condition$Operator", "holds", "(I)Z"⟩ : MethodName)) (z := (⟨"org/cartulary/repository/Condition$Operator", "holds", "(I)Z"⟩ : MethodName)) hown (mvT hZ (W hw 22 rfl)) (mvT hZ (W hw 23 rfl)) (notFace_of_selects (args := #[]) (mvT hZ (W hw 25 rfl))) (mvT hZ (W hw 25 rfl)) (mvT hZ (W hw 24 rfl)) (by decide) (backOf (W := 1) (rm_10 l Z a0 hw w kk hN [] p1 h0 O0 hp3) hZ (W hw 26 rfl) (W hw 6 rfl) (by decide) (by decide)) q4a q4c (g := (mkF m 37 #[.val (.int p0), .val (.int p1), .val (.ref (w 0)), .val (.int (0 : Int32)), .val (.ref (w 0)), .unset, .unset] [(.int p1), (.ref (w 0)), (.int (1 : Int32))])) rfl (by rw [hml]; rfl) (Steps.refl _) (argsL := [(.int p1)]) (rest := [(.int (1 : Int32))]) (lenOf pd_3 rfl) rfl (by show 2 * 0 + _ ≤ _; exact Nat.le_of_eq rfl) (hb hby at_37) (fun _ _ => ⟨rfl, e3, (by decide : 0 + 0 ≤ _), (by decide : 0 + 0 ≤ _)⟩)
  dsimp only [Pt.U, Pt.locs, Pt.cells, Pt.slots] at X4 l4 y4 z4 st4 hQ4
  subst l4 y4 z4
  obtain ⟨rfl, N4q, e4⟩ := hQ4
  have N4 := Fr.app N3 N4q
  obtain ⟨cq5, kq5, q5a, q5b, q5c⟩ := isOf hZ e4 (hE0.ext O0.2)
  obtain ⟨_, _, ⟨T5, L5, k5, n5⟩, -, X5, ⟨Lc5, hQ5, l5, y5, z5⟩, st5⟩ := X4.virtualBack hx (y := (⟨"org/cartulary/repository/Condition$Operator", "swapped", "()Lorg/cartulary/repository/Condition$Operator;"⟩ : MethodName)) (z := (⟨"org/cartulary/repository/Condition$Operator", "swapped", "()Lorg/cartulary/repository/Condition$Operator;"⟩ : MethodName)) hown (mvT hZ (W hw 8 rfl)) (mvT hZ (W hw 9 rfl)) (notFace_of_selects (args := #[]) (mvT hZ (W hw 11 rfl))) (mvT hZ (W hw 11 rfl)) (mvT hZ (W hw 10 rfl)) (by decide) (backOf (W := 0) (rm_3 l Z a0 hw w kk hN [] h0 O0) hZ (W hw 12 rfl) (W hw 6 rfl) (by decide) (by decide)) q5a q5c (g := (mkF m 52 #[.val (.int p0), .val (.int p1), .val (.ref (w 0)), .val (.int (0 : Int32)), .val (.ref (w 0)), .val (.int (1 : Int32)), .unset] [(.ref (w 0))])) rfl (by rw [hml]; rfl) (Steps.refl _) (argsL := []) (rest := []) (lenOf pd_2 rfl) rfl (by show 2 * 0 + _ ≤ _; exact Nat.le_of_eq rfl) (hb hby at_52) (fun _ _ => ⟨rfl, e4, (by decide : 0 + 0 ≤ _), (by decide : 0 + 0 ≤ _)⟩)
  dsimp only [Pt.U, Pt.locs, Pt.cells, Pt.slots] at X5 l5 y5 z5 st5 hQ5
  subst l5 y5 z5
  obtain ⟨rfl, N5q, e5⟩ := hQ5
  have N5 := Fr.app N4 N5q
  obtain ⟨fs, hr, hrun, hended, hW, hsame⟩ := X5.leave (v := some (.int (1 : Int32))) (fun h => by rw [Bd.returns] at h; cases h)
  refine ⟨_, _, pre0 _ ?_, hrun, hended, _, _, rfl, ?_, ⟨_, rfl⟩, hW, hsame.mono (by decide) (by decide)⟩
  · show Steps p.tables e below (s₁.setTop (mkF m 0 #[.val (.int p0), .val (.int p1), .unset, .unset, .unset, .unset, .unset] [])) _
    refine XS.iloadN X0.here hx rfl (hb hby at_0) rfl ?_
    show Steps p.tables e below (s₁.setTop (mkF m 1 #[.val (.int p0), .val (.int p1), .unset, .unset, .unset, .unset, .unset] [(.int p0)])) _
    refine st1 _ ?_
    show Steps p.tables e below (T1.setTop (mkF m 4 #[.val (.int p0), .val (.int p1), .unset, .unset, .unset, .unset, .unset] [(.ref (w 0))])) _
    refine XS.astoreN X1.here hx rfl (hb hby at_4) rfl rfl (l' := #[.val (.int p0), .val (.int p1), .val (.ref (w 0)), .unset, .unset, .unset, .unset]) rfl ?_
    show Steps p.tables e below (T1.setTop (mkF m 5 #[.val (.int p0), .val (.int p1), .val (.ref (w 0)), .unset, .unset, .unset, .unset] [])) _
    refine XS.iloadN X1.here hx rfl (hb hby at_5) rfl ?_
    show Steps p.tables e below (T1.setTop (mkF m 6 #[.val (.int p0), .val (.int p1), .val (.ref (w 0)), .unset, .unset, .unset, .unset] [(.int p1)])) _
    refine XS.ifYes X1.here hx rfl (pc0 := 6) (pc' := 13) rfl (hb hby at_6) rfl ((if0 _ _).trans (flt hp1).2.2.2) (by decide) (by decide) ?_
    show Steps p.tables e below (T1.setTop (mkF m 13 #[.val (.int p0), .val (.int p1), .val (.ref (w 0)), .unset, .unset, .unset, .unset] [])) _
    refine XS.iloadN X1.here hx rfl (hb hby at_13) rfl ?_
    show Steps p.tables e below (T1.setTop (mkF m 14 #[.val (.int p0), .val (.int p1), .val (.ref (w 0)), .unset, .unset, .unset, .unset] [(.int p1)])) _
    refine XS.ifYes X1.here hx rfl (pc0 := 14) (pc' := 21) rfl (hb hby at_14) rfl ((if0 _ _).trans (flt hp2).2.1) (by decide) (by decide) ?_
    show Steps p.tables e below (T1.setTop (mkF m 21 #[.val (.int p0), .val (.int p1), .val (.ref (w 0)), .unset, .unset, .unset, .unset] [])) _
    refine XS.iconst X1.here hx rfl (hb hby at_21) ?_
    show Steps p.tables e below (T1.setTop (mkF m 22 #[.val (.int p0), .val (.int p1), .val (.ref (w 0)), .unset, .unset, .unset, .unset] [(.int (0 : Int32))])) _
    refine XS.istoreN X1.here hx rfl (hb hby at_22) rfl (l' := #[.val (.int p0), .val (.int p1), .val (.ref (w 0)), .val (.int (0 : Int32)), .unset, .unset, .unset]) rfl ?_
    show Steps p.tables e below (T1.setTop (mkF m 23 #[.val (.int p0), .val (.int p1), .val (.ref (w 0)), .val (.int (0 : Int32)), .unset, .unset, .unset] [])) _
    refine XS.aloadN X1.here hx rfl (hb hby at_23) rfl rfl ?_
    show Steps p.tables e below (T1.setTop (mkF m 24 #[.val (.int p0), .val (.int p1), .val (.ref (w 0)), .val (.int (0 : Int32)), .unset, .unset, .unset] [(.ref (w 0))])) _
    refine st2.trans ?_
    show Steps p.tables e below (T2.setTop (mkF m 27 #[.val (.int p0), .val (.int p1), .val (.ref (w 0)), .val (.int (0 : Int32)), .unset, .unset, .unset] [(.ref (w 0))])) _
    refine XS.astore X2.here hx rfl (hb hby at_27) rfl rfl (l' := #[.val (.int p0), .val (.int p1), .val (.ref (w 0)), .val (.int (0 : Int32)), .val (.ref (w 0)), .unset, .unset]) rfl ?_
    show Steps p.tables e below (T2.setTop (mkF m 29 #[.val (.int p0), .val (.int p1), .val (.ref (w 0)), .val (.int (0 : Int32)), .val (.ref (w 0)), .unset, .unset] [])) _
    refine XS.aload X2.here hx rfl (hb hby at_29) rfl rfl ?_
    show Steps p.tables e below (T2.setTop (mkF m 31 #[.val (.int p0), .val (.int p1), .val (.ref (w 0)), .val (.int (0 : Int32)), .val (.ref (w 0)), .unset, .unset] [(.ref (w 0))])) _
    refine XS.iloadN X2.here hx rfl (hb hby at_31) rfl ?_
    show Steps p.tables e below (T2.setTop (mkF m 32 #[.val (.int p0), .val (.int p1), .val (.ref (w 0)), .val (.int (0 : Int32)), .val (.ref (w 0)), .unset, .unset] [(.int (0 : Int32)), (.ref (w 0))])) _
    refine st3.trans ?_
    show Steps p.tables e below (T3.setTop (mkF m 35 #[.val (.int p0), .val (.int p1), .val (.ref (w 0)), .val (.int (0 : Int32)), .val (.ref (w 0)), .unset, .unset] [(.int (1 : Int32))])) _
    refine XS.aloadN X3.here hx rfl (hb hby at_35) rfl rfl ?_
    show Steps p.tables e below (T3.setTop (mkF m 36 #[.val (.int p0), .val (.int p1), .val (.ref (w 0)), .val (.int (0 : Int32)), .val (.ref (w 0)), .unset, .unset] [(.ref (w 0)), (.int (1 : Int32))])) _
    refine XS.iloadN X3.here hx rfl (hb hby at_36) rfl ?_
    show Steps p.tables e below (T3.setTop (mkF m 37 #[.val (.int p0), .val (.int p1), .val (.ref (w 0)), .val (.int (0 : Int32)), .val (.ref (w 0)), .unset, .unset] [(.int p1), (.ref (w 0)), (.int (1 : Int32))])) _
    refine st4.trans ?_
    show Steps p.tables e below (T4.setTop (mkF m 40 #[.val (.int p0), .val (.int p1), .val (.ref (w 0)), .val (.int (0 : Int32)), .val (.ref (w 0)), .unset, .unset] [(.int (1 : Int32)), (.int (1 : Int32))])) _
    refine XS.icmpNo X4.here hx rfl (hb hby at_40) rfl (teq (by decide : (1 : Int32) = (1 : Int32))).2 ?_
    show Steps p.tables e below (T4.setTop (mkF m 43 #[.val (.int p0), .val (.int p1), .val (.ref (w 0)), .val (.int (0 : Int32)), .val (.ref (w 0)), .unset, .unset] [])) _
    refine XS.iconst X4.here hx rfl (hb hby at_43) ?_
    show Steps p.tables e below (T4.setTop (mkF m 44 #[.val (.int p0), .val (.int p1), .val (.ref (w 0)), .val (.int (0 : Int32)), .val (.ref (w 0)), .unset, .unset] [(.int (1 : Int32))])) _
    refine XS.goto X4.here hx rfl (pc0 := 44) (pc' := 48) rfl (hb hby at_44) (by decide) (by decide) ?_
    show Steps p.tables e below (T4.setTop (mkF m 48 #[.val (.int p0), .val (.int p1), .val (.ref (w 0)), .val (.int (0 : Int32)), .val (.ref (w 0)), .unset, .unset] [(.int (1 : Int32))])) _
    refine XS.istore X4.here hx rfl (hb hby at_48) rfl (l' := #[.val (.int p0), .val (.int p1), .val (.ref (w 0)), .val (.int (0 : Int32)), .val (.ref (w 0)), .val (.int (1 : Int32)), .unset]) rfl ?_
    show Steps p.tables e below (T4.setTop (mkF m 50 #[.val (.int p0), .val (.int p1), .val (.ref (w 0)), .val (.int (0 : Int32)), .val (.ref (w 0)), .val (.int (1 : Int32)), .unset] [])) _
    refine XS.aload X4.here hx rfl (hb hby at_50) rfl rfl ?_
    show Steps p.tables e below (T4.setTop (mkF m 52 #[.val (.int p0), .val (.int p1), .val (.ref (w 0)), .val (.int (0 : Int32)), .val (.ref (w 0)), .val (.int (1 : Int32)), .unset] [(.ref (w 0))])) _
    refine st5.trans ?_
    show Steps p.tables e below (T5.setTop (mkF m 55 #[.val (.int p0), .val (.int p1), .val (.ref (w 0)), .val (.int (0 : Int32)), .val (.ref (w 0)), .val (.int (1 : Int32)), .unset] [(.ref (w 0))])) _
    refine XS.aloadN X5.here hx rfl (hb hby at_55) rfl rfl ?_
    show Steps p.tables e below (T5.setTop (mkF m 56 #[.val (.int p0), .val (.int p1), .val (.ref (w 0)), .val (.int (0 : Int32)), .val (.ref (w 0)), .val (.int (1 : Int32)), .unset] [(.ref (w 0)), (.ref (w 0))])) _
    refine Jvm.RoadKit.acmp (g := (mkF m 56 #[.val (.int p0), .val (.int p1), .val (.ref (w 0)), .val (.int (0 : Int32)), .val (.ref (w 0)), .val (.int (1 : Int32)), .unset] [(.ref (w 0)), (.ref (w 0))])) X5 hx rfl rfl rfl (pc0 := 56) (pc' := 59) (same := true) rfl (hb hby at_56) rfl (decide_eq_true rfl) (by decide) (by decide) ?_
    show Steps p.tables e below (T5.setTop (mkF m 59 #[.val (.int p0), .val (.int p1), .val (.ref (w 0)), .val (.int (0 : Int32)), .val (.ref (w 0)), .val (.int (1 : Int32)), .unset] [])) _
    refine XS.iconst X5.here hx rfl (hb hby at_59) ?_
    show Steps p.tables e below (T5.setTop (mkF m 60 #[.val (.int p0), .val (.int p1), .val (.ref (w 0)), .val (.int (0 : Int32)), .val (.ref (w 0)), .val (.int (1 : Int32)), .unset] [(.int (1 : Int32))])) _
    refine XS.goto X5.here hx rfl (pc0 := 60) (pc' := 64) rfl (hb hby at_60) (by decide) (by decide) ?_
    show Steps p.tables e below (T5.setTop (mkF m 64 #[.val (.int p0), .val (.int p1), .val (.ref (w 0)), .val (.int (0 : Int32)), .val (.ref (w 0)), .val (.int (1 : Int32)), .unset] [(.int (1 : Int32))])) _
    refine XS.istore X5.here hx rfl (hb hby at_64) rfl (l' := #[.val (.int p0), .val (.int p1), .val (.ref (w 0)), .val (.int (0 : Int32)), .val (.ref (w 0)), .val (.int (1 : Int32)), .val (.int (1 : Int32))]) rfl ?_
    show Steps p.tables e below (T5.setTop (mkF m 66 #[.val (.int p0), .val (.int p1), .val (.ref (w 0)), .val (.int (0 : Int32)), .val (.ref (w 0)), .val (.int (1 : Int32)), .val (.int (1 : Int32))] [])) _
    refine XS.iload X5.here hx rfl (hb hby at_66) rfl ?_
    show Steps p.tables e below (T5.setTop (mkF m 68 #[.val (.int p0), .val (.int p1), .val (.ref (w 0)), .val (.int (0 : Int32)), .val (.ref (w 0)), .val (.int (1 : Int32)), .val (.int (1 : Int32))] [(.int (1 : Int32))])) _
    refine XS.ifNo X5.here hx rfl (hb hby at_68) rfl ((if0 _ _).trans (feq (by decide : ¬ ((1 : Int32) = (0 : Int32)))).1) ?_
    show Steps p.tables e below (T5.setTop (mkF m 71 #[.val (.int p0), .val (.int p1), .val (.ref (w 0)), .val (.int (0 : Int32)), .val (.ref (w 0)), .val (.int (1 : Int32)), .val (.int (1 : Int32))] [])) _
    refine XS.iload X5.here hx rfl (hb hby at_71) rfl ?_
    show Steps p.tables e below (T5.setTop (mkF m 73 #[.val (.int p0), .val (.int p1), .val (.ref (w 0)), .val (.int (0 : Int32)), .val (.ref (w 0)), .val (.int (1 : Int32)), .val (.int (1 : Int32))] [(.int (1 : Int32))])) _
    refine XS.ifNo X5.here hx rfl (hb hby at_73) rfl ((if0 _ _).trans (feq (by decide : ¬ ((1 : Int32) = (0 : Int32)))).1) ?_
    show Steps p.tables e below (T5.setTop (mkF m 76 #[.val (.int p0), .val (.int p1), .val (.ref (w 0)), .val (.int (0 : Int32)), .val (.ref (w 0)), .val (.int (1 : Int32)), .val (.int (1 : Int32))] [])) _
    refine XS.iconst X5.here hx rfl (hb hby at_76) ?_
    show Steps p.tables e below (T5.setTop (mkF m 77 #[.val (.int p0), .val (.int p1), .val (.ref (w 0)), .val (.int (0 : Int32)), .val (.ref (w 0)), .val (.int (1 : Int32)), .val (.int (1 : Int32))] [(.int (1 : Int32))])) _
    refine XS.goto X5.here hx rfl (pc0 := 77) (pc' := 81) rfl (hb hby at_77) (by decide) (by decide) ?_
    show Steps p.tables e below (T5.setTop (mkF m 81 #[.val (.int p0), .val (.int p1), .val (.ref (w 0)), .val (.int (0 : Int32)), .val (.ref (w 0)), .val (.int (1 : Int32)), .val (.int (1 : Int32))] [(.int (1 : Int32))])) _
    exact retN X5 hx (t := .boolean) Bd.returns (by simp) (hb hby at_81) hr
  · show OL (some (.int (1 : Int32))) Z.heap.size _ T5.heap _
    exact ⟨rfl, N5⟩
theorem d_method_2_code_16 : decode method_2_code 16 = .ok (.iload_n 1, 1) := by decide +kernel
theorem d_method_2_code_17 : decode method_2_code 17 = .ok (.iconst 1, 1) := by decide +kernel
theorem d_method_2_code_18 : decode method_2_code 18 = .ok (.if_icmp .ne 7, 3) := by decide +kernel
theorem d_method_2_code_21 : decode method_2_code 21 = .ok (.getstatic 14, 3) := by decide +kernel
theorem d_method_2_code_24 : decode method_2_code 24 = .ok (.areturn, 1) := by decide +kernel
set_option maxRecDepth 65536 in
set_option maxHeartbeats 40000000 in
theorem rm_12 (l : Launch) (Z : State) (a0 : Array Value) (hw : ∀ d ∈ tables_1, d.before a0 Z = true) (w : Nat → Addr) (kk : Nat → ClassId) (hN : Wd Z w kk) (ws : List Jvm.Cond) (p0 : Int32) (h0 : Heap) (O0 : Old Z Z.heap.size h0) (hp0 : ((p0 &&& (2147483647 : Int32)) % (6 : Int32)) = (1 : Int32)) :
    MetFree l (⟨"org/cartulary/repository/OperatorSwappedPinLaw", "pick", "(I)Lorg/cartulary/repository/Condition$Operator;"⟩ : MethodName) (head1 (Jvm.Cond.code (⟨"org/cartulary/repository/OperatorSwappedPinLaw", "pick", "(I)Lorg/cartulary/repository/Condition$Operator;"⟩ : MethodName) method_2_code 2 (some (.object "org/cartulary/repository/Condition$Operator")) :: ws) ({ frames := 0, cells := 0, slots := 0, locals := 0 } : Room)) (fun a U => a = #[(.int p0)] ∧ Z.Warmed39 U.vm ∧ U.heap = h0) (fun _ _ _ _ _ => True) (fun _ U o U' => ∃ v L, o = .returned v ∧ OQ (some (.ref (w 3))) h0 Z.heap.size v U'.heap L ∧ FrameEnd U o U' L ({ frames := 0, cells := 0, slots := 0, locals := 0 } : Room).cells ({ frames := 0, cells := 0, slots := 0, locals := 0 } : Room).slots) := by
  have hN' := hN
  obtain ⟨hS0, hE0, hS1, hE1, hS2, hE2, hS3, hE3, hS4, hE4, hS5, hE5, hF0_ordinal, hF1_ordinal, hF2_ordinal, hF3_ordinal, hF4_ordinal, hF5_ordinal⟩ := hN'
  refine MetFree.of_bodySF (plainFor_of_name pn_0) hisR ?_
  intro p e s m args below meth c s₁ Bd hml0 hP hK
  obtain ⟨rfl, hZ, hh⟩ := hP
  have hx := Bd.exec
  have hby := Bd.bytes
  have hml : c.maxLocals = 2 := hml0
  have hown : s.vm.findClass "org/cartulary/repository/OperatorSwappedPinLaw" = some m.cls := findClass_of_methodNamed Bd.named
  have hnm := (name_of_methodNamed Bd.named Bd.method).1
  have X0 : Stand p l e ({ frames := 0, cells := 0, slots := 0, locals := 0 } : Room) s m #[(.int p0)] below meth c s₁ [] 0 0 := Stand.of_body Bd
  have e0 : s₁.heap = h0 := by rw [← hh, Bd.state]; rfl
  have N0 := Fr.nil Z.heap.size
  have pre0 : ∀ t, Steps p.tables e below (s₁.setTop (mkF m 0 #[.val (.int p0), .unset] [])) t → Steps p.tables e below (s₁.setTop (entryFrame m #[(.int p0)] 2)) t := fun t k => castTop (ef_0 m (.int p0) rfl) k
  obtain ⟨T1, X1, e1, st1⟩ := getS2 X0 hx hZ hown (host := "") (Or.inl (W hw 33 rfl)) Via.refl e0 (hS3.ext O0.2) (g := (mkF m 21 #[.val (.int p0), .val (.int (1 : Int32))] [])) rfl (hb hby d_method_2_code_21)
  obtain ⟨fs, hr, hrun, hended, hW, hsame⟩ := X1.leave (v := some (.ref (w 3))) (fun h => by rw [Bd.returns] at h; cases h)
  refine ⟨_, _, pre0 _ ?_, hrun, hended, _, _, rfl, ?_, ⟨_, rfl⟩, hW, hsame.mono (by decide) (by decide)⟩
  · show Steps p.tables e below (s₁.setTop (mkF m 0 #[.val (.int p0), .unset] [])) _
    refine XS.iloadN X0.here hx rfl (hb hby d_method_2_code_0) rfl ?_
    show Steps p.tables e below (s₁.setTop (mkF m 1 #[.val (.int p0), .unset] [(.int p0)])) _
    refine X0.ldcInt hx hown (mvT hZ (W hw 4 rfl)) (g := (mkF m 1 #[.val (.int p0), .unset] [(.int p0)])) rfl (hb hby d_method_2_code_1) _ ?_
    show Steps p.tables e below (s₁.setTop (mkF m 3 #[.val (.int p0), .unset] [(.int (2147483647 : Int32)), (.int p0)])) _
    refine XS.iand X0.here hx rfl (hb hby d_method_2_code_3) rfl ?_
    show Steps p.tables e below (s₁.setTop (mkF m 4 #[.val (.int p0), .unset] [(.int (p0 &&& (2147483647 : Int32)))])) _
    refine XS.bipush X0.here hx rfl (hb hby d_method_2_code_4) ?_
    show Steps p.tables e below (s₁.setTop (mkF m 6 #[.val (.int p0), .unset] [(.int (6 : Int32)), (.int (p0 &&& (2147483647 : Int32)))])) _
    refine iremM X0 hx rfl (hb hby d_method_2_code_6) rfl (by decide : ¬ ((6 : Int32) = (0 : Int32))) ?_
    show Steps p.tables e below (s₁.setTop (mkF m 7 #[.val (.int p0), .unset] [(.int ((p0 &&& (2147483647 : Int32)) % (6 : Int32)))])) _
    rw [hp0]
    show Steps p.tables e below (s₁.setTop (mkF m 7 #[.val (.int p0), .unset] [(.int (1 : Int32))])) _
    refine XS.istoreN X0.here hx rfl (hb hby d_method_2_code_7) rfl (l' := #[.val (.int p0), .val (.int (1 : Int32))]) rfl ?_
    show Steps p.tables e below (s₁.setTop (mkF m 8 #[.val (.int p0), .val (.int (1 : Int32))] [])) _
    refine XS.iloadN X0.here hx rfl (hb hby d_method_2_code_8) rfl ?_
    show Steps p.tables e below (s₁.setTop (mkF m 9 #[.val (.int p0), .val (.int (1 : Int32))] [(.int (1 : Int32))])) _
    refine XS.ifYes X0.here hx rfl (pc0 := 9) (pc' := 16) rfl (hb hby d_method_2_code_9) rfl ((if0 _ _).trans (feq (by decide : ¬ ((1 : Int32) = (0 : Int32)))).2) (by decide) (by decide) ?_
    show Steps p.tables e below (s₁.setTop (mkF m 16 #[.val (.int p0), .val (.int (1 : Int32))] [])) _
    refine XS.iloadN X0.here hx rfl (hb hby d_method_2_code_16) rfl ?_
    show Steps p.tables e below (s₁.setTop (mkF m 17 #[.val (.int p0), .val (.int (1 : Int32))] [(.int (1 : Int32))])) _
    refine XS.iconst X0.here hx rfl (hb hby d_method_2_code_17) ?_
    show Steps p.tables e below (s₁.setTop (mkF m 18 #[.val (.int p0), .val (.int (1 : Int32))] [(.int (1 : Int32)), (.int (1 : Int32))])) _
    refine XS.icmpNo X0.here hx rfl (hb hby d_method_2_code_18) rfl (teq (by decide : (1 : Int32) = (1 : Int32))).2 ?_
    show Steps p.tables e below (s₁.setTop (mkF m 21 #[.val (.int p0), .val (.int (1 : Int32))] [])) _
    refine st1 _ ?_
    show Steps p.tables e below (T1.setTop (mkF m 24 #[.val (.int p0), .val (.int (1 : Int32))] [(.ref (w 3))])) _
    exact retOut X1 hx Bd.returns rfl (Or.inr (Or.inr (Or.inr (Or.inr ⟨rfl, rfl, rfl⟩)))) (hb hby d_method_2_code_24) hr
  · show OQ (some (.ref (w 3))) h0 Z.heap.size _ T1.heap _
    rw [e1]
    exact ⟨rfl, N0, rfl⟩
set_option maxRecDepth 65536 in
set_option maxHeartbeats 40000000 in
theorem rm_13 (l : Launch) (Z : State) (a0 : Array Value) (hw : ∀ d ∈ tables_1, d.before a0 Z = true) (w : Nat → Addr) (kk : Nat → ClassId) (hN : Wd Z w kk) (ws : List Jvm.Cond)  (h0 : Heap) (O0 : Old Z Z.heap.size h0) :
    MetFree l (⟨"java/lang/Enum", "ordinal", "()I"⟩ : MethodName) (head1 (Jvm.Cond.code (⟨"java/lang/Enum", "ordinal", "()I"⟩ : MethodName) jdk_37_method_2_code 1 (some .int) :: ws) ({ frames := 0, cells := 0, slots := 0, locals := 0 } : Room)) (fun a U => a = #[(.ref (w 3))] ∧ Z.Warmed39 U.vm ∧ U.heap = h0) (fun _ _ _ _ _ => True) (fun _ U o U' => ∃ v L, o = .returned v ∧ OQ (some (.int (1 : Int32))) h0 Z.heap.size v U'.heap L ∧ FrameEnd U o U' L ({ frames := 0, cells := 0, slots := 0, locals := 0 } : Room).cells ({ frames := 0, cells := 0, slots := 0, locals := 0 } : Room).slots) := by
  have hN' := hN
  obtain ⟨hS0, hE0, hS1, hE1, hS2, hE2, hS3, hE3, hS4, hE4, hS5, hE5, hF0_ordinal, hF1_ordinal, hF2_ordinal, hF3_ordinal, hF4_ordinal, hF5_ordinal⟩ := hN'
  refine MetFree.of_bodySF (plainFor_of_name pn_1) hisR ?_
  intro p e s m args below meth c s₁ Bd hml0 hP hK
  obtain ⟨rfl, hZ, hh⟩ := hP
  have hx := Bd.exec
  have hby := Bd.bytes
  have hml : c.maxLocals = 1 := hml0
  have hown : s.vm.findClass "java/lang/Enum" = some m.cls := findClass_of_methodNamed Bd.named
  have hnm := (name_of_methodNamed Bd.named Bd.method).1
  have X0 : Stand p l e ({ frames := 0, cells := 0, slots := 0, locals := 0 } : Room) s m #[(.ref (w 3))] below meth c s₁ [] 0 0 := Stand.of_body Bd
  have e0 : s₁.heap = h0 := by rw [← hh, Bd.state]; rfl
  have N0 := Fr.nil Z.heap.size
  have pre0 : ∀ t, Steps p.tables e below (s₁.setTop (mkF m 0 #[.val (.ref (w 3))] [])) t → Steps p.tables e below (s₁.setTop (entryFrame m #[(.ref (w 3))] 1)) t := fun t k => castTop (ef_1 m (.ref (w 3)) rfl) k
  obtain ⟨T1, X1, e1, st1⟩ := getF X0 hx hZ hown (host := "") (Or.inl (W hw 20 rfl)) Via.refl e0 (hF3_ordinal.ext O0.2) (g := (mkF m 1 #[.val (.ref (w 3))] [(.ref (w 3))])) rfl rfl (hb hby d_jdk_37_method_2_code_1)
  obtain ⟨fs, hr, hrun, hended, hW, hsame⟩ := X1.leave (v := some (.int (1 : Int32))) (fun h => by rw [Bd.returns] at h; cases h)
  refine ⟨_, _, pre0 _ ?_, hrun, hended, _, _, rfl, ?_, ⟨_, rfl⟩, hW, hsame.mono (by decide) (by decide)⟩
  · show Steps p.tables e below (s₁.setTop (mkF m 0 #[.val (.ref (w 3))] [])) _
    refine XS.aloadN X0.here hx rfl (hb hby d_jdk_37_method_2_code_0) rfl rfl ?_
    show Steps p.tables e below (s₁.setTop (mkF m 1 #[.val (.ref (w 3))] [(.ref (w 3))])) _
    refine st1 _ ?_
    show Steps p.tables e below (T1.setTop (mkF m 4 #[.val (.ref (w 3))] [(.int (1 : Int32))])) _
    exact retI X1 hx Bd.returns (hb hby d_jdk_37_method_2_code_4) hr
  · show OQ (some (.int (1 : Int32))) h0 Z.heap.size _ T1.heap _
    rw [e1]
    exact ⟨rfl, N0, rfl⟩
set_option maxRecDepth 65536 in
set_option maxHeartbeats 40000000 in
theorem rm_14 (l : Launch) (Z : State) (a0 : Array Value) (hw : ∀ d ∈ tables_1, d.before a0 Z = true) (w : Nat → Addr) (kk : Nat → ClassId) (hN : Wd Z w kk) (ws : List Jvm.Cond)  (h0 : Heap) (O0 : Old Z Z.heap.size h0) :
    MetFree l (⟨"org/cartulary/repository/Condition$Operator", "swapped", "()Lorg/cartulary/repository/Condition$Operator;"⟩ : MethodName) (head1 (Jvm.Cond.code (⟨"org/cartulary/repository/Condition$Operator", "swapped", "()Lorg/cartulary/repository/Condition$Operator;"⟩ : MethodName) prog_67_method_6_code 1 (some (.object "org/cartulary/repository/Condition$Operator")) :: ws) ({ frames := 1, cells := 0, slots := 0, locals := 12 } : Room)) (fun a U => a = #[(.ref (w 3))] ∧ Z.Warmed39 U.vm ∧ U.heap = h0) (fun _ _ _ _ _ => True) (fun _ U o U' => ∃ v L, o = .returned v ∧ OQ (some (.ref (w 3))) h0 Z.heap.size v U'.heap L ∧ FrameEnd U o U' L ({ frames := 1, cells := 0, slots := 0, locals := 12 } : Room).cells ({ frames := 1, cells := 0, slots := 0, locals := 12 } : Room).slots) := by
  have hN' := hN
  obtain ⟨hS0, hE0, hS1, hE1, hS2, hE2, hS3, hE3, hS4, hE4, hS5, hE5, hF0_ordinal, hF1_ordinal, hF2_ordinal, hF3_ordinal, hF4_ordinal, hF5_ordinal⟩ := hN'
  refine MetFree.of_bodySF (plainFor_of_name pn_2) hisR ?_
  intro p e s m args below meth c s₁ Bd hml0 hP hK
  obtain ⟨rfl, hZ, hh⟩ := hP
  have hx := Bd.exec
  have hby := Bd.bytes
  have hml : c.maxLocals = 1 := hml0
  have hown : s.vm.findClass "org/cartulary/repository/Condition$Operator" = some m.cls := findClass_of_methodNamed Bd.named
  have hnm := (name_of_methodNamed Bd.named Bd.method).1
  have X0 : Stand p l e ({ frames := 1, cells := 0, slots := 0, locals := 12 } : Room) s m #[(.ref (w 3))] below meth c s₁ [] 0 0 := Stand.of_body Bd
  have e0 : s₁.heap = h0 := by rw [← hh, Bd.state]; rfl
  have N0 := Fr.nil Z.heap.size
  have pre0 : ∀ t, Steps p.tables e below (s₁.setTop (mkF m 0 #[.val (.ref (w 3))] [])) t → Steps p.tables e below (s₁.setTop (entryFrame m #[(.ref (w 3))] 1)) t := fun t k => castTop (ef_1 m (.ref (w 3)) rfl) k
  obtain ⟨cq1, kq1, q1a, q1b, q1c⟩ := isOf hZ e0 (hE3.ext O0.2)
  obtain ⟨_, _, ⟨T1, L1, k1, n1⟩, -, X1, ⟨Lc1, hQ1, l1, y1, z1⟩, st1⟩ := X0.virtualBackUp hx (x := (⟨"org/cartulary/repository/Condition$Operator", "ordinal", "()I"⟩ : MethodName)) (y := (⟨"java/lang/Enum", "ordinal", "()I"⟩ : MethodName)) (owner := "java/lang/Enum") hown (mvT hZ (W hw 13 rfl)) (mvT hZ (W hw 14 rfl)) (mvT hZ (W hw 15 rfl)) (by decide) (mvT hZ (W hw 17 rfl)) (mvT hZ (W hw 16 rfl)) (backOf (W := 0) (rm_13 l Z a0 hw w kk hN [] h0 O0) hZ (W hw 19 rfl) (W hw 18 rfl) (by decide) (by decide)) q1a q1c (g := (mkF m 1 #[.val (.ref (w 3))] [(.ref (w 3))])) rfl (by rw [hml]; rfl) (Steps.refl _) (argsL := []) (rest := []) (lenOf pd_1 rfl) rfl (by show 2 * 0 + _ ≤ _; exact Nat.le_of_eq rfl) (hb hby d_prog_67_method_6_code_1) (fun _ _ => ⟨rfl, e0, (by decide : 0 + 0 ≤ _), (by decide : 0 + 0 ≤ _)⟩)
  dsimp only [Pt.U, Pt.locs, Pt.cells, Pt.slots] at X1 l1 y1 z1 st1 hQ1
  subst l1 y1 z1
  obtain ⟨rfl, N1q, e1⟩ := hQ1
  have N1 := Fr.app N0 N1q
  obtain ⟨fs, hr, hrun, hended, hW, hsame⟩ := X1.leave (v := some (.ref (w 3))) (fun h => by rw [Bd.returns] at h; cases h)
  refine ⟨_, _, pre0 _ ?_, hrun, hended, _, _, rfl, ?_, ⟨_, rfl⟩, hW, hsame.mono (by decide) (by decide)⟩
  · show Steps p.tables e below (s₁.setTop (mkF m 0 #[.val (.ref (w 3))] [])) _
    refine XS.aloadN X0.here hx rfl (hb hby d_prog_67_method_6_code_0) rfl rfl ?_
    show Steps p.tables e below (s₁.setTop (mkF m 1 #[.val (.ref (w 3))] [(.ref (w 3))])) _
    refine st1.trans ?_
    show Steps p.tables e below (T1.setTop (mkF m 4 #[.val (.ref (w 3))] [(.int (1 : Int32))])) _
    refine XS.tswIn X1.here hx rfl (pc0 := 4) (pc' := 54) (o := 50) rfl (hb hby d_prog_67_method_6_code_4) rfl (by decide) (by decide) (by decide) (by decide) ?_
    show Steps p.tables e below (T1.setTop (mkF m 54 #[.val (.ref (w 3))] [])) _
    refine XS.aloadN X1.here hx rfl (hb hby d_prog_67_method_6_code_54) rfl rfl ?_
    show Steps p.tables e below (T1.setTop (mkF m 55 #[.val (.ref (w 3))] [(.ref (w 3))])) _
    refine XS.goto X1.here hx rfl (pc0 := 55) (pc' := 79) rfl (hb hby d_prog_67_method_6_code_55) (by decide) (by decide) ?_
    show Steps p.tables e below (T1.setTop (mkF m 79 #[.val (.ref (w 3))] [(.ref (w 3))])) _
    exact retOut X1 hx Bd.returns rfl (Or.inr (Or.inr (Or.inr (Or.inr ⟨rfl, rfl, rfl⟩)))) (hb hby d_prog_67_method_6_code_79) hr
  · show OQ (some (.ref (w 3))) h0 Z.heap.size _ T1.heap _
    rw [e1]
    exact ⟨rfl, N1, rfl⟩
theorem d_prog_67_method_5_code_66 : decode prog_67_method_5_code 66 = .ok (.iload_n 1, 1) := by decide +kernel
theorem d_prog_67_method_5_code_67 : decode prog_67_method_5_code 67 = .ok (.ifCond .eq 7, 3) := by decide +kernel
theorem d_prog_67_method_5_code_70 : decode prog_67_method_5_code 70 = .ok (.iconst 1, 1) := by decide +kernel
theorem d_prog_67_method_5_code_71 : decode prog_67_method_5_code 71 = .ok (.goto 52, 3) := by decide +kernel
set_option maxRecDepth 65536 in
set_option maxHeartbeats 40000000 in
theorem rm_15 (l : Launch) (Z : State) (a0 : Array Value) (hw : ∀ d ∈ tables_1, d.before a0 Z = true) (w : Nat → Addr) (kk : Nat → ClassId) (hN : Wd Z w kk) (ws : List Jvm.Cond)  (h0 : Heap) (O0 : Old Z Z.heap.size h0) :
    MetFree l (⟨"org/cartulary/repository/Condition$Operator", "holds", "(I)Z"⟩ : MethodName) (head1 (Jvm.Cond.code (⟨"org/cartulary/repository/Condition$Operator", "holds", "(I)Z"⟩ : MethodName) prog_67_method_5_code 2 (some .boolean) :: ws) ({ frames := 1, cells := 0, slots := 0, locals := 12 } : Room)) (fun a U => a = #[(.ref (w 3)), (.int (-1 : Int32))] ∧ Z.Warmed39 U.vm ∧ U.heap = h0) (fun _ _ _ _ _ => True) (fun _ U o U' => ∃ v L, o = .returned v ∧ OQ (some (.int (1 : Int32))) h0 Z.heap.size v U'.heap L ∧ FrameEnd U o U' L ({ frames := 1, cells := 0, slots := 0, locals := 12 } : Room).cells ({ frames := 1, cells := 0, slots := 0, locals := 12 } : Room).slots) := by
  have hN' := hN
  obtain ⟨hS0, hE0, hS1, hE1, hS2, hE2, hS3, hE3, hS4, hE4, hS5, hE5, hF0_ordinal, hF1_ordinal, hF2_ordinal, hF3_ordinal, hF4_ordinal, hF5_ordinal⟩ := hN'
  refine MetFree.of_bodySF (plainFor_of_name pn_2) hisR ?_
  intro p e s m args below meth c s₁ Bd hml0 hP hK
  obtain ⟨rfl, hZ, hh⟩ := hP
  have hx := Bd.exec
  have hby := Bd.bytes
  have hml : c.maxLocals = 2 := hml0
  have hown : s.vm.findClass "org/cartulary/repository/Condition$Operator" = some m.cls := findClass_of_methodNamed Bd.named
  have hnm := (name_of_methodNamed Bd.named Bd.method).1
  have X0 : Stand p l e ({ frames := 1, cells := 0, slots := 0, locals := 12 } : Room) s m #[(.ref (w 3)), (.int (-1 : Int32))] below meth c s₁ [] 0 0 := Stand.of_body Bd
  have e0 : s₁.heap = h0 := by rw [← hh, Bd.state]; rfl
  have N0 := Fr.nil Z.heap.size
  have pre0 : ∀ t, Steps p.tables e below (s₁.setTop (mkF m 0 #[.val (.ref (w 3)), .val (.int (-1 : Int32))] [])) t → Steps p.tables e below (s₁.setTop (entryFrame m #[(.ref (w 3)), (.int (-1 : Int32))] 2)) t := fun t k => castTop (ef_2 m (.ref (w 3)) rfl (.int (-1 : Int32)) rfl) k
  obtain ⟨cq1, kq1, q1a, q1b, q1c⟩ := isOf hZ e0 (hE3.ext O0.2)
  obtain ⟨_, _, ⟨T1, L1, k1, n1⟩, -, X1, ⟨Lc1, hQ1, l1, y1, z1⟩, st1⟩ := X0.virtualBackUp hx (x := (⟨"org/cartulary/repository/Condition$Operator", "ordinal", "()I"⟩ : MethodName)) (y := (⟨"java/lang/Enum", "ordinal", "()I"⟩ : MethodName)) (owner := "java/lang/Enum") hown (mvT hZ (W hw 13 rfl)) (mvT hZ (W hw 14 rfl)) (mvT hZ (W hw 15 rfl)) (by decide) (mvT hZ (W hw 17 rfl)) (mvT hZ (W hw 16 rfl)) (backOf (W := 0) (rm_13 l Z a0 hw w kk hN [] h0 O0) hZ (W hw 19 rfl) (W hw 18 rfl) (by decide) (by decide)) q1a q1c (g := (mkF m 1 #[.val (.ref (w 3)), .val (.int (-1 : Int32))] [(.ref (w 3))])) rfl (by rw [hml]; rfl) (Steps.refl _) (argsL := []) (rest := []) (lenOf pd_1 rfl) rfl (by show 2 * 0 + _ ≤ _; exact Nat.le_of_eq rfl) (hb hby d_prog_67_method_5_code_1) (fun _ _ => ⟨rfl, e0, (by decide : 0 + 0 ≤ _), (by decide : 0 + 0 ≤ _)⟩)
  dsimp only [Pt.U, Pt.locs, Pt.cells, Pt.slots] at X1 l1 y1 z1 st1 hQ1
  subst l1 y1 z1
  obtain ⟨rfl, N1q, e1⟩ := hQ1
  have N1 := Fr.app N0 N1q
  obtain ⟨fs, hr, hrun, hended, hW, hsame⟩ := X1.leave (v := some (.int (1 : Int32))) (fun h => by rw [Bd.returns] at h; cases h)
  refine ⟨_, _, pre0 _ ?_, hrun, hended, _, _, rfl, ?_, ⟨_, rfl⟩, hW, hsame.mono (by decide) (by decide)⟩
  · show Steps p.tables e below (s₁.setTop (mkF m 0 #[.val (.ref (w 3)), .val (.int (-1 : Int32))] [])) _
    refine XS.aloadN X0.here hx rfl (hb hby d_prog_67_method_5_code_0) rfl rfl ?_
    show Steps p.tables e below (s₁.setTop (mkF m 1 #[.val (.ref (w 3)), .val (.int (-1 : Int32))] [(.ref (w 3))])) _
    refine st1.trans ?_
    show Steps p.tables e below (T1.setTop (mkF m 4 #[.val (.ref (w 3)), .val (.int (-1 : Int32))] [(.int (1 : Int32))])) _
    refine XS.tswIn X1.here hx rfl (pc0 := 4) (pc' := 66) (o := 62) rfl (hb hby d_prog_67_method_5_code_4) rfl (by decide) (by decide) (by decide) (by decide) ?_
    show Steps p.tables e below (T1.setTop (mkF m 66 #[.val (.ref (w 3)), .val (.int (-1 : Int32))] [])) _
    refine XS.iloadN X1.here hx rfl (hb hby d_prog_67_method_5_code_66) rfl ?_
    show Steps p.tables e below (T1.setTop (mkF m 67 #[.val (.ref (w 3)), .val (.int (-1 : Int32))] [(.int (-1 : Int32))])) _
    refine XS.ifNo X1.here hx rfl (hb hby d_prog_67_method_5_code_67) rfl ((if0 _ _).trans (feq (by decide : ¬ ((-1 : Int32) = (0 : Int32)))).1) ?_
    show Steps p.tables e below (T1.setTop (mkF m 70 #[.val (.ref (w 3)), .val (.int (-1 : Int32))] [])) _
    refine XS.iconst X1.here hx rfl (hb hby d_prog_67_method_5_code_70) ?_
    show Steps p.tables e below (T1.setTop (mkF m 71 #[.val (.ref (w 3)), .val (.int (-1 : Int32))] [(.int (1 : Int32))])) _
    refine XS.goto X1.here hx rfl (pc0 := 71) (pc' := 123) rfl (hb hby d_prog_67_method_5_code_71) (by decide) (by decide) ?_
    show Steps p.tables e below (T1.setTop (mkF m 123 #[.val (.ref (w 3)), .val (.int (-1 : Int32))] [(.int (1 : Int32))])) _
    exact retN X1 hx (t := .boolean) Bd.returns (by simp) (hb hby d_prog_67_method_5_code_123) hr
  · show OQ (some (.int (1 : Int32))) h0 Z.heap.size _ T1.heap _
    rw [e1]
    exact ⟨rfl, N1, rfl⟩
set_option maxRecDepth 65536 in
set_option maxHeartbeats 40000000 in
theorem rm_16 (l : Launch) (Z : State) (a0 : Array Value) (hw : ∀ d ∈ tables_1, d.before a0 Z = true) (w : Nat → Addr) (kk : Nat → ClassId) (hN : Wd Z w kk) (ws : List Jvm.Cond) (p1 : Int32) (h0 : Heap) (O0 : Old Z Z.heap.size h0) (hp0 : ¬ (p1 = (0 : Int32))) :
    MetFree l (⟨"org/cartulary/repository/Condition$Operator", "holds", "(I)Z"⟩ : MethodName) (head1 (Jvm.Cond.code (⟨"org/cartulary/repository/Condition$Operator", "holds", "(I)Z"⟩ : MethodName) prog_67_method_5_code 2 (some .boolean) :: ws) ({ frames := 1, cells := 0, slots := 0, locals := 12 } : Room)) (fun a U => a = #[(.ref (w 3)), (.int p1)] ∧ Z.Warmed39 U.vm ∧ U.heap = h0) (fun _ _ _ _ _ => True) (fun _ U o U' => ∃ v L, o = .returned v ∧ OQ (some (.int (1 : Int32))) h0 Z.heap.size v U'.heap L ∧ FrameEnd U o U' L ({ frames := 1, cells := 0, slots := 0, locals := 12 } : Room).cells ({ frames := 1, cells := 0, slots := 0, locals := 12 } : Room).slots) := by
  have hN' := hN
  obtain ⟨hS0, hE0, hS1, hE1, hS2, hE2, hS3, hE3, hS4, hE4, hS5, hE5, hF0_ordinal, hF1_ordinal, hF2_ordinal, hF3_ordinal, hF4_ordinal, hF5_ordinal⟩ := hN'
  refine MetFree.of_bodySF (plainFor_of_name pn_2) hisR ?_
  intro p e s m args below meth c s₁ Bd hml0 hP hK
  obtain ⟨rfl, hZ, hh⟩ := hP
  have hx := Bd.exec
  have hby := Bd.bytes
  have hml : c.maxLocals = 2 := hml0
  have hown : s.vm.findClass "org/cartulary/repository/Condition$Operator" = some m.cls := findClass_of_methodNamed Bd.named
  have hnm := (name_of_methodNamed Bd.named Bd.method).1
  have X0 : Stand p l e ({ frames := 1, cells := 0, slots := 0, locals := 12 } : Room) s m #[(.ref (w 3)), (.int p1)] below meth c s₁ [] 0 0 := Stand.of_body Bd
  have e0 : s₁.heap = h0 := by rw [← hh, Bd.state]; rfl
  have N0 := Fr.nil Z.heap.size
  have pre0 : ∀ t, Steps p.tables e below (s₁.setTop (mkF m 0 #[.val (.ref (w 3)), .val (.int p1)] [])) t → Steps p.tables e below (s₁.setTop (entryFrame m #[(.ref (w 3)), (.int p1)] 2)) t := fun t k => castTop (ef_2 m (.ref (w 3)) rfl (.int p1) rfl) k
  obtain ⟨cq1, kq1, q1a, q1b, q1c⟩ := isOf hZ e0 (hE3.ext O0.2)
  obtain ⟨_, _, ⟨T1, L1, k1, n1⟩, -, X1, ⟨Lc1, hQ1, l1, y1, z1⟩, st1⟩ := X0.virtualBackUp hx (x := (⟨"org/cartulary/repository/Condition$Operator", "ordinal", "()I"⟩ : MethodName)) (y := (⟨"java/lang/Enum", "ordinal", "()I"⟩ : MethodName)) (owner := "java/lang/Enum") hown (mvT hZ (W hw 13 rfl)) (mvT hZ (W hw 14 rfl)) (mvT hZ (W hw 15 rfl)) (by decide) (mvT hZ (W hw 17 rfl)) (mvT hZ (W hw 16 rfl)) (backOf (W := 0) (rm_13 l Z a0 hw w kk hN [] h0 O0) hZ (W hw 19 rfl) (W hw 18 rfl) (by decide) (by decide)) q1a q1c (g := (mkF m 1 #[.val (.ref (w 3)), .val (.int p1)] [(.ref (w 3))])) rfl (by rw [hml]; rfl) (Steps.refl _) (argsL := []) (rest := []) (lenOf pd_1 rfl) rfl (by show 2 * 0 + _ ≤ _; exact Nat.le_of_eq rfl) (hb hby d_prog_67_method_5_code_1) (fun _ _ => ⟨rfl, e0, (by decide : 0 + 0 ≤ _), (by decide : 0 + 0 ≤ _)⟩)
  dsimp only [Pt.U, Pt.locs, Pt.cells, Pt.slots] at X1 l1 y1 z1 st1 hQ1
  subst l1 y1 z1
  obtain ⟨rfl, N1q, e1⟩ := hQ1
  have N1 := Fr.app N0 N1q
  obtain ⟨fs, hr, hrun, hended, hW, hsame⟩ := X1.leave (v := some (.int (1 : Int32))) (fun h => by rw [Bd.returns] at h; cases h)
  refine ⟨_, _, pre0 _ ?_, hrun, hended, _, _, rfl, ?_, ⟨_, rfl⟩, hW, hsame.mono (by decide) (by decide)⟩
  · show Steps p.tables e below (s₁.setTop (mkF m 0 #[.val (.ref (w 3)), .val (.int p1)] [])) _
    refine XS.aloadN X0.here hx rfl (hb hby d_prog_67_method_5_code_0) rfl rfl ?_
    show Steps p.tables e below (s₁.setTop (mkF m 1 #[.val (.ref (w 3)), .val (.int p1)] [(.ref (w 3))])) _
    refine st1.trans ?_
    show Steps p.tables e below (T1.setTop (mkF m 4 #[.val (.ref (w 3)), .val (.int p1)] [(.int (1 : Int32))])) _
    refine XS.tswIn X1.here hx rfl (pc0 := 4) (pc' := 66) (o := 62) rfl (hb hby d_prog_67_method_5_code_4) rfl (by decide) (by decide) (by decide) (by decide) ?_
    show Steps p.tables e below (T1.setTop (mkF m 66 #[.val (.ref (w 3)), .val (.int p1)] [])) _
    refine XS.iloadN X1.here hx rfl (hb hby d_prog_67_method_5_code_66) rfl ?_
    show Steps p.tables e below (T1.setTop (mkF m 67 #[.val (.ref (w 3)), .val (.int p1)] [(.int p1)])) _
    refine XS.ifNo X1.here hx rfl (hb hby d_prog_67_method_5_code_67) rfl ((if0 _ _).trans (feq hp0).1) ?_
    show Steps p.tables e below (T1.setTop (mkF m 70 #[.val (.ref (w 3)), .val (.int p1)] [])) _
    refine XS.iconst X1.here hx rfl (hb hby d_prog_67_method_5_code_70) ?_
    show Steps p.tables e below (T1.setTop (mkF m 71 #[.val (.ref (w 3)), .val (.int p1)] [(.int (1 : Int32))])) _
    refine XS.goto X1.here hx rfl (pc0 := 71) (pc' := 123) rfl (hb hby d_prog_67_method_5_code_71) (by decide) (by decide) ?_
    show Steps p.tables e below (T1.setTop (mkF m 123 #[.val (.ref (w 3)), .val (.int p1)] [(.int (1 : Int32))])) _
    exact retN X1 hx (t := .boolean) Bd.returns (by simp) (hb hby d_prog_67_method_5_code_123) hr
  · show OQ (some (.int (1 : Int32))) h0 Z.heap.size _ T1.heap _
    rw [e1]
    exact ⟨rfl, N1, rfl⟩
set_option maxRecDepth 65536 in
set_option maxHeartbeats 40000000 in
theorem law_17 (l : Launch) (Z : State) (a0 : Array Value) (hw : ∀ d ∈ tables_1, d.before a0 Z = true) (w : Nat → Addr) (kk : Nat → ClassId) (hN : Wd Z w kk) (ws : List Jvm.Cond) (p0 : Int32) (p1 : Int32) (h0 : Heap) (O0 : Old Z Z.heap.size h0) (hp0 : ((p0 &&& (2147483647 : Int32)) % (6 : Int32)) = (1 : Int32)) (hp1 : (0 : Int32) < p1) (hp2 : ¬ (p1 = (0 : Int32))) :
    MetFree l x (head1 (Jvm.Cond.code x code maxLocals ret :: ws) room_1) (fun a U => a = #[(.int p0), (.int p1)] ∧ Z.Warmed39 U.vm ∧ U.heap = h0) (fun _ _ _ _ _ => True) (fun _ U o U' => ∃ v L, o = .returned v ∧ OL (some (.int (1 : Int32))) Z.heap.size v U'.heap L ∧ FrameEnd U o U' L 0 0) := by
  have hN' := hN
  obtain ⟨hS0, hE0, hS1, hE1, hS2, hE2, hS3, hE3, hS4, hE4, hS5, hE5, hF0_ordinal, hF1_ordinal, hF2_ordinal, hF3_ordinal, hF4_ordinal, hF5_ordinal⟩ := hN'
  refine MetFree.of_bodySF (plainFor_of_name pn_0) hisR ?_
  intro p e s m args below meth c s₁ Bd hml0 hP hK
  obtain ⟨rfl, hZ, hh⟩ := hP
  have hx := Bd.exec
  have hby := Bd.bytes
  have hml : c.maxLocals = 7 := hml0
  have hown : s.vm.findClass "org/cartulary/repository/OperatorSwappedPinLaw" = some m.cls := findClass_of_methodNamed Bd.named
  have hnm := (name_of_methodNamed Bd.named Bd.method).1
  have X0 : Stand p l e room_1 s m #[(.int p0), (.int p1)] below meth c s₁ [] 0 0 := Stand.of_body Bd
  have e0 : s₁.heap = h0 := by rw [← hh, Bd.state]; rfl
  have N0 := Fr.nil Z.heap.size
  have pre0 : ∀ t, Steps p.tables e below (s₁.setTop (mkF m 0 #[.val (.int p0), .val (.int p1), .unset, .unset, .unset, .unset, .unset] [])) t → Steps p.tables e below (s₁.setTop (entryFrame m #[(.int p0), (.int p1)] maxLocals)) t := fun t k => castTop (ef_3 m (.int p0) rfl (.int p1) rfl) k
  obtain ⟨_, _, ⟨T1, L1, k1, n1⟩, -, X1, ⟨Lc1, hQ1, l1, y1, z1⟩, st1⟩ := Jvm.LawKit.callS X0 hx (y := (⟨"org/cartulary/repository/OperatorSwappedPinLaw", "pick", "(I)Lorg/cartulary/repository/Condition$Operator;"⟩ : MethodName)) hown (mvT hZ (W hw 0 rfl)) (mvT hZ (W hw 1 rfl)) (mvT hZ (W hw 2 rfl)) (mvT hZ (W hw 3 rfl)) (by decide) (backOf (W := 0) (rm_12 l Z a0 hw w kk hN [] p0 h0 O0 hp0) hZ (W hw 3 rfl) (W hw 2 rfl) (by decide) (by decide)) (g := (mkF m 1 #[.val (.int p0), .val (.int p1), .unset, .unset, .unset, .unset, .unset] [(.int p0)])) rfl (by rw [hml]; rfl) (argsL := [(.int p0)]) (rest := []) (lenOf pd_0 rfl) rfl (by show 2 * 0 + _ ≤ _; exact Nat.le_of_eq rfl) (hb hby at_1) (fun _ _ => ⟨rfl, e0, (by decide : 0 + 0 ≤ _), (by decide : 0 + 0 ≤ _)⟩)
  dsimp only [Pt.U, Pt.locs, Pt.cells, Pt.slots] at X1 l1 y1 z1 st1 hQ1
  subst l1 y1 z1
  obtain ⟨rfl, N1q, e1⟩ := hQ1
  have N1 := Fr.app N0 N1q
  obtain ⟨cq2, kq2, q2a, q2b, q2c⟩ := isOf hZ e1 (hE3.ext O0.2)
  obtain ⟨_, _, ⟨T2, L2, k2, n2⟩, -, X2, ⟨Lc2, hQ2, l2, y2, z2⟩, st2⟩ := X1.virtualBack hx (y := (⟨"org/cartulary/repository/Condition$Operator", "swapped", "()Lorg/cartulary/repository/Condition$Operator;"⟩ : MethodName)) (z := (⟨"org/cartulary/repository/Condition$Operator", "swapped", "()Lorg/cartulary/repository/Condition$Operator;"⟩ : MethodName)) hown (mvT hZ (W hw 8 rfl)) (mvT hZ (W hw 9 rfl)) (notFace_of_selects (args := #[]) (mvT hZ (W hw 11 rfl))) (mvT hZ (W hw 11 rfl)) (mvT hZ (W hw 10 rfl)) (by decide) (backOf (W := 0) (rm_14 l Z a0 hw w kk hN [] h0 O0) hZ (W hw 12 rfl) (W hw 6 rfl) (by decide) (by decide)) q2a q2c (g := (mkF m 24 #[.val (.int p0), .val (.int p1), .val (.ref (w 3)), .val (.int (-1 : Int32)), .unset, .unset, .unset] [(.ref (w 3))])) rfl (by rw [hml]; rfl) (Steps.refl _) (argsL := []) (rest := []) (lenOf pd_2 rfl) rfl (by show 2 * 0 + _ ≤ _; exact Nat.le_of_eq rfl) (hb hby at_24) (fun _ _ => ⟨rfl, e1, (by decide : 0 + 0 ≤ _), (by decide : 0 + 0 ≤ _)⟩)
  dsimp only [Pt.U, Pt.locs, Pt.cells, Pt.slots] at X2 l2 y2 z2 st2 hQ2
  subst l2 y2 z2
  obtain ⟨rfl, N2q, e2⟩ := hQ2
  have N2 := Fr.app N1 N2q
  obtain ⟨cq3, kq3, q3a, q3b, q3c⟩ := isOf hZ e2 (hE3.ext O0.2)
  obtain ⟨_, _, ⟨T3, L3, k3, n3⟩, -, X3, ⟨Lc3, hQ3, l3, y3, z3⟩, st3⟩ := X2.virtualBack hx (y := (⟨"org/cartulary/repository/Condition$Operator", "holds", "(I)Z"⟩ : MethodName)) (z := (⟨"org/cartulary/repository/Condition$Operator", "holds", "(I)Z"⟩ : MethodName)) hown (mvT hZ (W hw 22 rfl)) (mvT hZ (W hw 23 rfl)) (notFace_of_selects (args := #[]) (mvT hZ (W hw 25 rfl))) (mvT hZ (W hw 25 rfl)) (mvT hZ (W hw 24 rfl)) (by decide) (backOf (W := 0) (rm_15 l Z a0 hw w kk hN [] h0 O0) hZ (W hw 26 rfl) (W hw 6 rfl) (by decide) (by decide)) q3a q3c (g := (mkF m 32 #[.val (.int p0), .val (.int p1), .val (.ref (w 3)), .val (.int (-1 : Int32)), .val (.ref (w 3)), .unset, .unset] [(.int (-1 : Int32)), (.ref (w 3))])) rfl (by rw [hml]; rfl) (Steps.refl _) (argsL := [(.int (-1 : Int32))]) (rest := []) (lenOf pd_3 rfl) rfl (by show 2 * 0 + _ ≤ _; exact Nat.le_of_eq rfl) (hb hby at_32) (fun _ _ => ⟨rfl, e2, (by decide : 0 + 0 ≤ _), (by decide : 0 + 0 ≤ _)⟩)
  dsimp only [Pt.U, Pt.locs, Pt.cells, Pt.slots] at X3 l3 y3 z3 st3 hQ3
  subst l3 y3 z3
  obtain ⟨rfl, N3q, e3⟩ := hQ3
  have N3 := Fr.app N2 N3q
  obtain ⟨cq4, kq4, q4a, q4b, q4c⟩ := isOf hZ e3 (hE3.ext O0.2)
  obtain ⟨_, _, ⟨T4, L4, k4, n4⟩, -, X4, ⟨Lc4, hQ4, l4, y4, z4⟩, st4⟩ := X3.virtualBack hx (y := (⟨"org/cartulary/repository/Condition$Operator", "holds", "(I)Z"⟩ : MethodName)) (z := (⟨"org/cartulary/repository/Condition$Operator", "holds", "(I)Z"⟩ : MethodName)) hown (mvT hZ (W hw 22 rfl)) (mvT hZ (W hw 23 rfl)) (notFace_of_selects (args := #[]) (mvT hZ (W hw 25 rfl))) (mvT hZ (W hw 25 rfl)) (mvT hZ (W hw 24 rfl)) (by decide) (backOf (W := 1) (rm_16 l Z a0 hw w kk hN [] p1 h0 O0 hp2) hZ (W hw 26 rfl) (W hw 6 rfl) (by decide) (by decide)) q4a q4c (g := (mkF m 37 #[.val (.int p0), .val (.int p1), .val (.ref (w 3)), .val (.int (-1 : Int32)), .val (.ref (w 3)), .unset, .unset] [(.int p1), (.ref (w 3)), (.int (1 : Int32))])) rfl (by rw [hml]; rfl) (Steps.refl _) (argsL := [(.int p1)]) (rest := [(.int (1 : Int32))]) (lenOf pd_3 rfl) rfl (by show 2 * 0 + _ ≤ _; exact Nat.le_of_eq rfl) (hb hby at_37) (fun _ _ => ⟨rfl, e3, (by decide : 0 + 0 ≤ _), (by decide : 0 + 0 ≤ _)⟩)
  dsimp only [Pt.U, Pt.locs, Pt.cells, Pt.slots] at X4 l4 y4 z4 st4 hQ4
  subst l4 y4 z4
  obtain ⟨rfl, N4q, e4⟩ := hQ4
  have N4 := Fr.app N3 N4q
  obtain ⟨cq5, kq5, q5a, q5b, q5c⟩ := isOf hZ e4 (hE3.ext O0.2)
  obtain ⟨_, _, ⟨T5, L5, k5, n5⟩, -, X5, ⟨Lc5, hQ5, l5, y5, z5⟩, st5⟩ := X4.virtualBack hx (y := (⟨"org/cartulary/repository/Condition$Operator", "swapped", "()Lorg/cartulary/repository/Condition$Operator;"⟩ : MethodName)) (z := (⟨"org/cartulary/repository/Condition$Operator", "swapped", "()Lorg/cartulary/repository/Condition$Operator;"⟩ : MethodName)) hown (mvT hZ (W hw 8 rfl)) (mvT hZ (W hw 9 rfl)) (notFace_of_selects (args := #[]) (mvT hZ (W hw 11 rfl))) (mvT hZ (W hw 11 rfl)) (mvT hZ (W hw 10 rfl)) (by decide) (backOf (W := 0) (rm_14 l Z a0 hw w kk hN [] h0 O0) hZ (W hw 12 rfl) (W hw 6 rfl) (by decide) (by decide)) q5a q5c (g := (mkF m 52 #[.val (.int p0), .val (.int p1), .val (.ref (w 3)), .val (.int (-1 : Int32)), .val (.ref (w 3)), .val (.int (1 : Int32)), .unset] [(.ref (w 3))])) rfl (by rw [hml]; rfl) (Steps.refl _) (argsL := []) (rest := []) (lenOf pd_2 rfl) rfl (by show 2 * 0 + _ ≤ _; exact Nat.le_of_eq rfl) (hb hby at_52) (fun _ _ => ⟨rfl, e4, (by decide : 0 + 0 ≤ _), (by decide : 0 + 0 ≤ _)⟩)
  dsimp only [Pt.U, Pt.locs, Pt.cells, Pt.slots] at X5 l5 y5 z5 st5 hQ5
  subst l5 y5 z5
  obtain ⟨rfl, N5q, e5⟩ := hQ5
  have N5 := Fr.app N4 N5q
  obtain ⟨fs, hr, hrun, hended, hW, hsame⟩ := X5.leave (v := some (.int (1 : Int32))) (fun h => by rw [Bd.returns] at h; cases h)
  refine ⟨_, _, pre0 _ ?_, hrun, hended, _, _, rfl, ?_, ⟨_, rfl⟩, hW, hsame.mono (by decide) (by decide)⟩
  · show Steps p.tables e below (s₁.setTop (mkF m 0 #[.val (.int p0), .val (.int p1), .unset, .unset, .unset, .unset, .unset] [])) _
    refine XS.iloadN X0.here hx rfl (hb hby at_0) rfl ?_
    show Steps p.tables e below (s₁.setTop (mkF m 1 #[.val (.int p0), .val (.int p1), .unset, .unset, .unset, .unset, .unset] [(.int p0)])) _
    refine st1 _ ?_
    show Steps p.tables e below (T1.setTop (mkF m 4 #[.val (.int p0), .val (.int p1), .unset, .unset, .unset, .unset, .unset] [(.ref (w 3))])) _
    refine XS.astoreN X1.here hx rfl (hb hby at_4) rfl rfl (l' := #[.val (.int p0), .val (.int p1), .val (.ref (w 3)), .unset, .unset, .unset, .unset]) rfl ?_
    show Steps p.tables e below (T1.setTop (mkF m 5 #[.val (.int p0), .val (.int p1), .val (.ref (w 3)), .unset, .unset, .unset, .unset] [])) _
    refine XS.iloadN X1.here hx rfl (hb hby at_5) rfl ?_
    show Steps p.tables e below (T1.setTop (mkF m 6 #[.val (.int p0), .val (.int p1), .val (.ref (w 3)), .unset, .unset, .unset, .unset] [(.int p1)])) _
    refine XS.ifNo X1.here hx rfl (hb hby at_6) rfl ((if0 _ _).trans (tlt hp1).2.2.2) ?_
    show Steps p.tables e below (T1.setTop (mkF m 9 #[.val (.int p0), .val (.int p1), .val (.ref (w 3)), .unset, .unset, .unset, .unset] [])) _
    refine XS.iconst X1.here hx rfl (hb hby at_9) ?_
    show Steps p.tables e below (T1.setTop (mkF m 10 #[.val (.int p0), .val (.int p1), .val (.ref (w 3)), .unset, .unset, .unset, .unset] [(.int (-1 : Int32))])) _
    refine XS.goto X1.here hx rfl (pc0 := 10) (pc' := 22) rfl (hb hby at_10) (by decide) (by decide) ?_
    show Steps p.tables e below (T1.setTop (mkF m 22 #[.val (.int p0), .val (.int p1), .val (.ref (w 3)), .unset, .unset, .unset, .unset] [(.int (-1 : Int32))])) _
    refine XS.istoreN X1.here hx rfl (hb hby at_22) rfl (l' := #[.val (.int p0), .val (.int p1), .val (.ref (w 3)), .val (.int (-1 : Int32)), .unset, .unset, .unset]) rfl ?_
    show Steps p.tables e below (T1.setTop (mkF m 23 #[.val (.int p0), .val (.int p1), .val (.ref (w 3)), .val (.int (-1 : Int32)), .unset, .unset, .unset] [])) _
    refine XS.aloadN X1.here hx rfl (hb hby at_23) rfl rfl ?_
    show Steps p.tables e below (T1.setTop (mkF m 24 #[.val (.int p0), .val (.int p1), .val (.ref (w 3)), .val (.int (-1 : Int32)), .unset, .unset, .unset] [(.ref (w 3))])) _
    refine st2.trans ?_
    show Steps p.tables e below (T2.setTop (mkF m 27 #[.val (.int p0), .val (.int p1), .val (.ref (w 3)), .val (.int (-1 : Int32)), .unset, .unset, .unset] [(.ref (w 3))])) _
    refine XS.astore X2.here hx rfl (hb hby at_27) rfl rfl (l' := #[.val (.int p0), .val (.int p1), .val (.ref (w 3)), .val (.int (-1 : Int32)), .val (.ref (w 3)), .unset, .unset]) rfl ?_
    show Steps p.tables e below (T2.setTop (mkF m 29 #[.val (.int p0), .val (.int p1), .val (.ref (w 3)), .val (.int (-1 : Int32)), .val (.ref (w 3)), .unset, .unset] [])) _
    refine XS.aload X2.here hx rfl (hb hby at_29) rfl rfl ?_
    show Steps p.tables e below (T2.setTop (mkF m 31 #[.val (.int p0), .val (.int p1), .val (.ref (w 3)), .val (.int (-1 : Int32)), .val (.ref (w 3)), .unset, .unset] [(.ref (w 3))])) _
    refine XS.iloadN X2.here hx rfl (hb hby at_31) rfl ?_
    show Steps p.tables e below (T2.setTop (mkF m 32 #[.val (.int p0), .val (.int p1), .val (.ref (w 3)), .val (.int (-1 : Int32)), .val (.ref (w 3)), .unset, .unset] [(.int (-1 : Int32)), (.ref (w 3))])) _
    refine st3.trans ?_
    show Steps p.tables e below (T3.setTop (mkF m 35 #[.val (.int p0), .val (.int p1), .val (.ref (w 3)), .val (.int (-1 : Int32)), .val (.ref (w 3)), .unset, .unset] [(.int (1 : Int32))])) _
    refine XS.aloadN X3.here hx rfl (hb hby at_35) rfl rfl ?_
    show Steps p.tables e below (T3.setTop (mkF m 36 #[.val (.int p0), .val (.int p1), .val (.ref (w 3)), .val (.int (-1 : Int32)), .val (.ref (w 3)), .unset, .unset] [(.ref (w 3)), (.int (1 : Int32))])) _
    refine XS.iloadN X3.here hx rfl (hb hby at_36) rfl ?_
    show Steps p.tables e below (T3.setTop (mkF m 37 #[.val (.int p0), .val (.int p1), .val (.ref (w 3)), .val (.int (-1 : Int32)), .val (.ref (w 3)), .unset, .unset] [(.int p1), (.ref (w 3)), (.int (1 : Int32))])) _
    refine st4.trans ?_
    show Steps p.tables e below (T4.setTop (mkF m 40 #[.val (.int p0), .val (.int p1), .val (.ref (w 3)), .val (.int (-1 : Int32)), .val (.ref (w 3)), .unset, .unset] [(.int (1 : Int32)), (.int (1 : Int32))])) _
    refine XS.icmpNo X4.here hx rfl (hb hby at_40) rfl (teq (by decide : (1 : Int32) = (1 : Int32))).2 ?_
    show Steps p.tables e below (T4.setTop (mkF m 43 #[.val (.int p0), .val (.int p1), .val (.ref (w 3)), .val (.int (-1 : Int32)), .val (.ref (w 3)), .unset, .unset] [])) _
    refine XS.iconst X4.here hx rfl (hb hby at_43) ?_
    show Steps p.tables e below (T4.setTop (mkF m 44 #[.val (.int p0), .val (.int p1), .val (.ref (w 3)), .val (.int (-1 : Int32)), .val (.ref (w 3)), .unset, .unset] [(.int (1 : Int32))])) _
    refine XS.goto X4.here hx rfl (pc0 := 44) (pc' := 48) rfl (hb hby at_44) (by decide) (by decide) ?_
    show Steps p.tables e below (T4.setTop (mkF m 48 #[.val (.int p0), .val (.int p1), .val (.ref (w 3)), .val (.int (-1 : Int32)), .val (.ref (w 3)), .unset, .unset] [(.int (1 : Int32))])) _
    refine XS.istore X4.here hx rfl (hb hby at_48) rfl (l' := #[.val (.int p0), .val (.int p1), .val (.ref (w 3)), .val (.int (-1 : Int32)), .val (.ref (w 3)), .val (.int (1 : Int32)), .unset]) rfl ?_
    show Steps p.tables e below (T4.setTop (mkF m 50 #[.val (.int p0), .val (.int p1), .val (.ref (w 3)), .val (.int (-1 : Int32)), .val (.ref (w 3)), .val (.int (1 : Int32)), .unset] [])) _
    refine XS.aload X4.here hx rfl (hb hby at_50) rfl rfl ?_
    show Steps p.tables e below (T4.setTop (mkF m 52 #[.val (.int p0), .val (.int p1), .val (.ref (w 3)), .val (.int (-1 : Int32)), .val (.ref (w 3)), .val (.int (1 : Int32)), .unset] [(.ref (w 3))])) _
    refine st5.trans ?_
    show Steps p.tables e below (T5.setTop (mkF m 55 #[.val (.int p0), .val (.int p1), .val (.ref (w 3)), .val (.int (-1 : Int32)), .val (.ref (w 3)), .val (.int (1 : Int32)), .unset] [(.ref (w 3))])) _
    refine XS.aloadN X5.here hx rfl (hb hby at_55) rfl rfl ?_
    show Steps p.tables e below (T5.setTop (mkF m 56 #[.val (.int p0), .val (.int p1), .val (.ref (w 3)), .val (.int (-1 : Int32)), .val (.ref (w 3)), .val (.int (1 : Int32)), .unset] [(.ref (w 3)), (.ref (w 3))])) _
    refine Jvm.RoadKit.acmp (g := (mkF m 56 #[.val (.int p0), .val (.int p1), .val (.ref (w 3)), .val (.int (-1 : Int32)), .val (.ref (w 3)), .val (.int (1 : Int32)), .unset] [(.ref (w 3)), (.ref (w 3))])) X5 hx rfl rfl rfl (pc0 := 56) (pc' := 59) (same := true) rfl (hb hby at_56) rfl (decide_eq_true rfl) (by decide) (by decide) ?_
    show Steps p.tables e below (T5.setTop (mkF m 59 #[.val (.int p0), .val (.int p1), .val (.ref (w 3)), .val (.int (-1 : Int32)), .val (.ref (w 3)), .val (.int (1 : Int32)), .unset] [])) _
    refine XS.iconst X5.here hx rfl (hb hby at_59) ?_
    show Steps p.tables e below (T5.setTop (mkF m 60 #[.val (.int p0), .val (.int p1), .val (.ref (w 3)), .val (.int (-1 : Int32)), .val (.ref (w 3)), .val (.int (1 : Int32)), .unset] [(.int (1 : Int32))])) _
    refine XS.goto X5.here hx rfl (pc0 := 60) (pc' := 64) rfl (hb hby at_60) (by decide) (by decide) ?_
    show Steps p.tables e below (T5.setTop (mkF m 64 #[.val (.int p0), .val (.int p1), .val (.ref (w 3)), .val (.int (-1 : Int32)), .val (.ref (w 3)), .val (.int (1 : Int32)), .unset] [(.int (1 : Int32))])) _
    refine XS.istore X5.here hx rfl (hb hby at_64) rfl (l' := #[.val (.int p0), .val (.int p1), .val (.ref (w 3)), .val (.int (-1 : Int32)), .val (.ref (w 3)), .val (.int (1 : Int32)), .val (.int (1 : Int32))]) rfl ?_
    show Steps p.tables e below (T5.setTop (mkF m 66 #[.val (.int p0), .val (.int p1), .val (.ref (w 3)), .val (.int (-1 : Int32)), .val (.ref (w 3)), .val (.int (1 : Int32)), .val (.int (1 : Int32))] [])) _
    refine XS.iload X5.here hx rfl (hb hby at_66) rfl ?_
    show Steps p.tables e below (T5.setTop (mkF m 68 #[.val (.int p0), .val (.int p1), .val (.ref (w 3)), .val (.int (-1 : Int32)), .val (.ref (w 3)), .val (.int (1 : Int32)), .val (.int (1 : Int32))] [(.int (1 : Int32))])) _
    refine XS.ifNo X5.here hx rfl (hb hby at_68) rfl ((if0 _ _).trans (feq (by decide : ¬ ((1 : Int32) = (0 : Int32)))).1) ?_
    show Steps p.tables e below (T5.setTop (mkF m 71 #[.val (.int p0), .val (.int p1), .val (.ref (w 3)), .val (.int (-1 : Int32)), .val (.ref (w 3)), .val (.int (1 : Int32)), .val (.int (1 : Int32))] [])) _
    refine XS.iload X5.here hx rfl (hb hby at_71) rfl ?_
    show Steps p.tables e below (T5.setTop (mkF m 73 #[.val (.int p0), .val (.int p1), .val (.ref (w 3)), .val (.int (-1 : Int32)), .val (.ref (w 3)), .val (.int (1 : Int32)), .val (.int (1 : Int32))] [(.int (1 : Int32))])) _
    refine XS.ifNo X5.here hx rfl (hb hby at_73) rfl ((if0 _ _).trans (feq (by decide : ¬ ((1 : Int32) = (0 : Int32)))).1) ?_
    show Steps p.tables e below (T5.setTop (mkF m 76 #[.val (.int p0), .val (.int p1), .val (.ref (w 3)), .val (.int (-1 : Int32)), .val (.ref (w 3)), .val (.int (1 : Int32)), .val (.int (1 : Int32))] [])) _
    refine XS.iconst X5.here hx rfl (hb hby at_76) ?_
    show Steps p.tables e below (T5.setTop (mkF m 77 #[.val (.int p0), .val (.int p1), .val (.ref (w 3)), .val (.int (-1 : Int32)), .val (.ref (w 3)), .val (.int (1 : Int32)), .val (.int (1 : Int32))] [(.int (1 : Int32))])) _
    refine XS.goto X5.here hx rfl (pc0 := 77) (pc' := 81) rfl (hb hby at_77) (by decide) (by decide) ?_
    show Steps p.tables e below (T5.setTop (mkF m 81 #[.val (.int p0), .val (.int p1), .val (.ref (w 3)), .val (.int (-1 : Int32)), .val (.ref (w 3)), .val (.int (1 : Int32)), .val (.int (1 : Int32))] [(.int (1 : Int32))])) _
    exact retN X5 hx (t := .boolean) Bd.returns (by simp) (hb hby at_81) hr
  · show OL (some (.int (1 : Int32))) Z.heap.size _ T5.heap _
    exact ⟨rfl, N5⟩
set_option maxRecDepth 65536 in
set_option maxHeartbeats 40000000 in
theorem rm_18 (l : Launch) (Z : State) (a0 : Array Value) (hw : ∀ d ∈ tables_1, d.before a0 Z = true) (w : Nat → Addr) (kk : Nat → ClassId) (hN : Wd Z w kk) (ws : List Jvm.Cond)  (h0 : Heap) (O0 : Old Z Z.heap.size h0) :
    MetFree l (⟨"org/cartulary/repository/Condition$Operator", "holds", "(I)Z"⟩ : MethodName) (head1 (Jvm.Cond.code (⟨"org/cartulary/repository/Condition$Operator", "holds", "(I)Z"⟩ : MethodName) prog_67_method_5_code 2 (some .boolean) :: ws) ({ frames := 1, cells := 0, slots := 0, locals := 12 } : Room)) (fun a U => a = #[(.ref (w 3)), (.int (1 : Int32))] ∧ Z.Warmed39 U.vm ∧ U.heap = h0) (fun _ _ _ _ _ => True) (fun _ U o U' => ∃ v L, o = .returned v ∧ OQ (some (.int (1 : Int32))) h0 Z.heap.size v U'.heap L ∧ FrameEnd U o U' L ({ frames := 1, cells := 0, slots := 0, locals := 12 } : Room).cells ({ frames := 1, cells := 0, slots := 0, locals := 12 } : Room).slots) := by
  have hN' := hN
  obtain ⟨hS0, hE0, hS1, hE1, hS2, hE2, hS3, hE3, hS4, hE4, hS5, hE5, hF0_ordinal, hF1_ordinal, hF2_ordinal, hF3_ordinal, hF4_ordinal, hF5_ordinal⟩ := hN'
  refine MetFree.of_bodySF (plainFor_of_name pn_2) hisR ?_
  intro p e s m args below meth c s₁ Bd hml0 hP hK
  obtain ⟨rfl, hZ, hh⟩ := hP
  have hx := Bd.exec
  have hby := Bd.bytes
  have hml : c.maxLocals = 2 := hml0
  have hown : s.vm.findClass "org/cartulary/repository/Condition$Operator" = some m.cls := findClass_of_methodNamed Bd.named
  have hnm := (name_of_methodNamed Bd.named Bd.method).1
  have X0 : Stand p l e ({ frames := 1, cells := 0, slots := 0, locals := 12 } : Room) s m #[(.ref (w 3)), (.int (1 : Int32))] below meth c s₁ [] 0 0 := Stand.of_body Bd
  have e0 : s₁.heap = h0 := by rw [← hh, Bd.state]; rfl
  have N0 := Fr.nil Z.heap.size
  have pre0 : ∀ t, Steps p.tables e below (s₁.setTop (mkF m 0 #[.val (.ref (w 3)), .val (.int (1 : Int32))] [])) t → Steps p.tables e below (s₁.setTop (entryFrame m #[(.ref (w 3)), (.int (1 : Int32))] 2)) t := fun t k => castTop (ef_2 m (.ref (w 3)) rfl (.int (1 : Int32)) rfl) k
  obtain ⟨cq1, kq1, q1a, q1b, q1c⟩ := isOf hZ e0 (hE3.ext O0.2)
  obtain ⟨_, _, ⟨T1, L1, k1, n1⟩, -, X1, ⟨Lc1, hQ1, l1, y1, z1⟩, st1⟩ := X0.virtualBackUp hx (x := (⟨"org/cartulary/repository/Condition$Operator", "ordinal", "()I"⟩ : MethodName)) (y := (⟨"java/lang/Enum", "ordinal", "()I"⟩ : MethodName)) (owner := "java/lang/Enum") hown (mvT hZ (W hw 13 rfl)) (mvT hZ (W hw 14 rfl)) (mvT hZ (W hw 15 rfl)) (by decide) (mvT hZ (W hw 17 rfl)) (mvT hZ (W hw 16 rfl)) (backOf (W := 0) (rm_13 l Z a0 hw w kk hN [] h0 O0) hZ (W hw 19 rfl) (W hw 18 rfl) (by decide) (by decide)) q1a q1c (g := (mkF m 1 #[.val (.ref (w 3)), .val (.int (1 : Int32))] [(.ref (w 3))])) rfl (by rw [hml]; rfl) (Steps.refl _) (argsL := []) (rest := []) (lenOf pd_1 rfl) rfl (by show 2 * 0 + _ ≤ _; exact Nat.le_of_eq rfl) (hb hby d_prog_67_method_5_code_1) (fun _ _ => ⟨rfl, e0, (by decide : 0 + 0 ≤ _), (by decide : 0 + 0 ≤ _)⟩)
  dsimp only [Pt.U, Pt.locs, Pt.cells, Pt.slots] at X1 l1 y1 z1 st1 hQ1
  subst l1 y1 z1
  obtain ⟨rfl, N1q, e1⟩ := hQ1
  have N1 := Fr.app N0 N1q
  obtain ⟨fs, hr, hrun, hended, hW, hsame⟩ := X1.leave (v := some (.int (1 : Int32))) (fun h => by rw [Bd.returns] at h; cases h)
  refine ⟨_, _, pre0 _ ?_, hrun, hended, _, _, rfl, ?_, ⟨_, rfl⟩, hW, hsame.mono (by decide) (by decide)⟩
  · show Steps p.tables e below (s₁.setTop (mkF m 0 #[.val (.ref (w 3)), .val (.int (1 : Int32))] [])) _
    refine XS.aloadN X0.here hx rfl (hb hby d_prog_67_method_5_code_0) rfl rfl ?_
    show Steps p.tables e below (s₁.setTop (mkF m 1 #[.val (.ref (w 3)), .val (.int (1 : Int32))] [(.ref (w 3))])) _
    refine st1.trans ?_
    show Steps p.tables e below (T1.setTop (mkF m 4 #[.val (.ref (w 3)), .val (.int (1 : Int32))] [(.int (1 : Int32))])) _
    refine XS.tswIn X1.here hx rfl (pc0 := 4) (pc' := 66) (o := 62) rfl (hb hby d_prog_67_method_5_code_4) rfl (by decide) (by decide) (by decide) (by decide) ?_
    show Steps p.tables e below (T1.setTop (mkF m 66 #[.val (.ref (w 3)), .val (.int (1 : Int32))] [])) _
    refine XS.iloadN X1.here hx rfl (hb hby d_prog_67_method_5_code_66) rfl ?_
    show Steps p.tables e below (T1.setTop (mkF m 67 #[.val (.ref (w 3)), .val (.int (1 : Int32))] [(.int (1 : Int32))])) _
    refine XS.ifNo X1.here hx rfl (hb hby d_prog_67_method_5_code_67) rfl ((if0 _ _).trans (feq (by decide : ¬ ((1 : Int32) = (0 : Int32)))).1) ?_
    show Steps p.tables e below (T1.setTop (mkF m 70 #[.val (.ref (w 3)), .val (.int (1 : Int32))] [])) _
    refine XS.iconst X1.here hx rfl (hb hby d_prog_67_method_5_code_70) ?_
    show Steps p.tables e below (T1.setTop (mkF m 71 #[.val (.ref (w 3)), .val (.int (1 : Int32))] [(.int (1 : Int32))])) _
    refine XS.goto X1.here hx rfl (pc0 := 71) (pc' := 123) rfl (hb hby d_prog_67_method_5_code_71) (by decide) (by decide) ?_
    show Steps p.tables e below (T1.setTop (mkF m 123 #[.val (.ref (w 3)), .val (.int (1 : Int32))] [(.int (1 : Int32))])) _
    exact retN X1 hx (t := .boolean) Bd.returns (by simp) (hb hby d_prog_67_method_5_code_123) hr
  · show OQ (some (.int (1 : Int32))) h0 Z.heap.size _ T1.heap _
    rw [e1]
    exact ⟨rfl, N1, rfl⟩
set_option maxRecDepth 65536 in
set_option maxHeartbeats 40000000 in
theorem law_19 (l : Launch) (Z : State) (a0 : Array Value) (hw : ∀ d ∈ tables_1, d.before a0 Z = true) (w : Nat → Addr) (kk : Nat → ClassId) (hN : Wd Z w kk) (ws : List Jvm.Cond) (p0 : Int32) (p1 : Int32) (h0 : Heap) (O0 : Old Z Z.heap.size h0) (hp0 : ((p0 &&& (2147483647 : Int32)) % (6 : Int32)) = (1 : Int32)) (hp1 : ¬ ((0 : Int32) < p1)) (hp2 : p1 < (0 : Int32)) (hp3 : ¬ (p1 = (0 : Int32))) :
    MetFree l x (head1 (Jvm.Cond.code x code maxLocals ret :: ws) room_1) (fun a U => a = #[(.int p0), (.int p1)] ∧ Z.Warmed39 U.vm ∧ U.heap = h0) (fun _ _ _ _ _ => True) (fun _ U o U' => ∃ v L, o = .returned v ∧ OL (some (.int (1 : Int32))) Z.heap.size v U'.heap L ∧ FrameEnd U o U' L 0 0) := by
  have hN' := hN
  obtain ⟨hS0, hE0, hS1, hE1, hS2, hE2, hS3, hE3, hS4, hE4, hS5, hE5, hF0_ordinal, hF1_ordinal, hF2_ordinal, hF3_ordinal, hF4_ordinal, hF5_ordinal⟩ := hN'
  refine MetFree.of_bodySF (plainFor_of_name pn_0) hisR ?_
  intro p e s m args below meth c s₁ Bd hml0 hP hK
  obtain ⟨rfl, hZ, hh⟩ := hP
  have hx := Bd.exec
  have hby := Bd.bytes
  have hml : c.maxLocals = 7 := hml0
  have hown : s.vm.findClass "org/cartulary/repository/OperatorSwappedPinLaw" = some m.cls := findClass_of_methodNamed Bd.named
  have hnm := (name_of_methodNamed Bd.named Bd.method).1
  have X0 : Stand p l e room_1 s m #[(.int p0), (.int p1)] below meth c s₁ [] 0 0 := Stand.of_body Bd
  have e0 : s₁.heap = h0 := by rw [← hh, Bd.state]; rfl
  have N0 := Fr.nil Z.heap.size
  have pre0 : ∀ t, Steps p.tables e below (s₁.setTop (mkF m 0 #[.val (.int p0), .val (.int p1), .unset, .unset, .unset, .unset, .unset] [])) t → Steps p.tables e below (s₁.setTop (entryFrame m #[(.int p0), (.int p1)] maxLocals)) t := fun t k => castTop (ef_3 m (.int p0) rfl (.int p1) rfl) k
  obtain ⟨_, _, ⟨T1, L1, k1, n1⟩, -, X1, ⟨Lc1, hQ1, l1, y1, z1⟩, st1⟩ := Jvm.LawKit.callS X0 hx (y := (⟨"org/cartulary/repository/OperatorSwappedPinLaw", "pick", "(I)Lorg/cartulary/repository/Condition$Operator;"⟩ : MethodName)) hown (mvT hZ (W hw 0 rfl)) (mvT hZ (W hw 1 rfl)) (mvT hZ (W hw 2 rfl)) (mvT hZ (W hw 3 rfl)) (by decide) (backOf (W := 0) (rm_12 l Z a0 hw w kk hN [] p0 h0 O0 hp0) hZ (W hw 3 rfl) (W hw 2 rfl) (by decide) (by decide)) (g := (mkF m 1 #[.val (.int p0), .val (.int p1), .unset, .unset, .unset, .unset, .unset] [(.int p0)])) rfl (by rw [hml]; rfl) (argsL := [(.int p0)]) (rest := []) (lenOf pd_0 rfl) rfl (by show 2 * 0 + _ ≤ _; exact Nat.le_of_eq rfl) (hb hby at_1) (fun _ _ => ⟨rfl, e0, (by decide : 0 + 0 ≤ _), (by decide : 0 + 0 ≤ _)⟩)
  dsimp only [Pt.U, Pt.locs, Pt.cells, Pt.slots] at X1 l1 y1 z1 st1 hQ1
  subst l1 y1 z1
  obtain ⟨rfl, N1q, e1⟩ := hQ1
  have N1 := Fr.app N0 N1q
  obtain ⟨cq2, kq2, q2a, q2b, q2c⟩ := isOf hZ e1 (hE3.ext O0.2)
  obtain ⟨_, _, ⟨T2, L2, k2, n2⟩, -, X2, ⟨Lc2, hQ2, l2, y2, z2⟩, st2⟩ := X1.virtualBack hx (y := (⟨"org/cartulary/repository/Condition$Operator", "swapped", "()Lorg/cartulary/repository/Condition$Operator;"⟩ : MethodName)) (z := (⟨"org/cartulary/repository/Condition$Operator", "swapped", "()Lorg/cartulary/repository/Condition$Operator;"⟩ : MethodName)) hown (mvT hZ (W hw 8 rfl)) (mvT hZ (W hw 9 rfl)) (notFace_of_selects (args := #[]) (mvT hZ (W hw 11 rfl))) (mvT hZ (W hw 11 rfl)) (mvT hZ (W hw 10 rfl)) (by decide) (backOf (W := 0) (rm_14 l Z a0 hw w kk hN [] h0 O0) hZ (W hw 12 rfl) (W hw 6 rfl) (by decide) (by decide)) q2a q2c (g := (mkF m 24 #[.val (.int p0), .val (.int p1), .val (.ref (w 3)), .val (.int (1 : Int32)), .unset, .unset, .unset] [(.ref (w 3))])) rfl (by rw [hml]; rfl) (Steps.refl _) (argsL := []) (rest := []) (lenOf pd_2 rfl) rfl (by show 2 * 0 + _ ≤ _; exact Nat.le_of_eq rfl) (hb hby at_24) (fun _ _ => ⟨rfl, e1, (by decide : 0 + 0 ≤ _), (by decide : 0 + 0 ≤ _)⟩)
  dsimp only [Pt.U, Pt.locs, Pt.cells, Pt.slots] at X2 l2 y2 z2 st2 hQ2
  subst l2 y2 z2
  obtain ⟨rfl, N2q, e2⟩ := hQ2
  have N2 := Fr.app N1 N2q
  obtain ⟨cq3, kq3, q3a, q3b, q3c⟩ := isOf hZ e2 (hE3.ext O0.2)
  obtain ⟨_, _, ⟨T3, L3, k3, n3⟩, -, X3, ⟨Lc3, hQ3, l3, y3, z3⟩, st3⟩ := X2.virtualBack hx (y := (⟨"org/cartulary/repository/Condition$Operator", "holds", "(I)Z"⟩ : MethodName)) (z := (⟨"org/cartulary/repository/Condition$Operator", "holds", "(I)Z"⟩ : MethodName)) hown (mvT hZ (W hw 22 rfl)) (mvT hZ (W hw 23 rfl)) (notFace_of_selects (args := #[]) (mvT hZ (W hw 25 rfl))) (mvT hZ (W hw 25 rfl)) (mvT hZ (W hw 24 rfl)) (by decide) (backOf (W := 0) (rm_18 l Z a0 hw w kk hN [] h0 O0) hZ (W hw 26 rfl) (W hw 6 rfl) (by decide) (by decide)) q3a q3c (g := (mkF m 32 #[.val (.int p0), .val (.int p1), .val (.ref (w 3)), .val (.int (1 : Int32)), .val (.ref (w 3)), .unset, .unset] [(.int (1 : Int32)), (.ref (w 3))])) rfl (by rw [hml]; rfl) (Steps.refl _) (argsL := [(.int (1 : Int32))]) (rest := []) (lenOf pd_3 rfl) rfl (by show 2 * 0 + _ ≤ _; exact Nat.le_of_eq rfl) (hb hby at_32) (fun _ _ => ⟨rfl, e2, (by decide : 0 + 0 ≤ _), (by decide : 0 + 0 ≤ _)⟩)
  dsimp only [Pt.U, Pt.locs, Pt.cells, Pt.slots] at X3 l3 y3 z3 st3 hQ3
  subst l3 y3 z3
  obtain ⟨rfl, N3q, e3⟩ := hQ3
  have N3 := Fr.app N2 N3q
  obtain ⟨cq4, kq4, q4a, q4b, q4c⟩ := isOf hZ e3 (hE3.ext O0.2)
  obtain ⟨_, _, ⟨T4, L4, k4, n4⟩, -, X4, ⟨Lc4, hQ4, l4, y4, z4⟩, st4⟩ := X3.virtualBack hx (y := (⟨"org/cartulary/repository/Condition$Operator", "holds", "(I)Z"⟩ : MethodName)) (z := (⟨"org/cartulary/repository/Condition$Operator", "holds", "(I)Z"⟩ : MethodName)) hown (mvT hZ (W hw 22 rfl)) (mvT hZ (W hw 23 rfl)) (notFace_of_selects (args := #[]) (mvT hZ (W hw 25 rfl))) (mvT hZ (W hw 25 rfl)) (mvT hZ (W hw 24 rfl)) (by decide) (backOf (W := 1) (rm_16 l Z a0 hw w kk hN [] p1 h0 O0 hp3) hZ (W hw 26 rfl) (W hw 6 rfl) (by decide) (by decide)) q4a q4c (g := (mkF m 37 #[.val (.int p0), .val (.int p1), .val (.ref (w 3)), .val (.int (1 : Int32)), .val (.ref (w 3)), .unset, .unset] [(.int p1), (.ref (w 3)), (.int (1 : Int32))])) rfl (by rw [hml]; rfl) (Steps.refl _) (argsL := [(.int p1)]) (rest := [(.int (1 : Int32))]) (lenOf pd_3 rfl) rfl (by show 2 * 0 + _ ≤ _; exact Nat.le_of_eq rfl) (hb hby at_37) (fun _ _ => ⟨rfl, e3, (by decide : 0 + 0 ≤ _), (by decide : 0 + 0 ≤ _)⟩)
  dsimp only [Pt.U, Pt.locs, Pt.cells, Pt.slots] at X4 l4 y4 z4 st4 hQ4
  subst l4 y4 z4
  obtain ⟨rfl, N4q, e4⟩ := hQ4
  have N4 := Fr.app N3 N4q
  obtain ⟨cq5, kq5, q5a, q5b, q5c⟩ := isOf hZ e4 (hE3.ext O0.2)
  obtain ⟨_, _, ⟨T5, L5, k5, n5⟩, -, X5, ⟨Lc5, hQ5, l5, y5, z5⟩, st5⟩ := X4.virtualBack hx (y := (⟨"org/cartulary/repository/Condition$Operator", "swapped", "()Lorg/cartulary/repository/Condition$Operator;"⟩ : MethodName)) (z := (⟨"org/cartulary/repository/Condition$Operator", "swapped", "()Lorg/cartulary/repository/Condition$Operator;"⟩ : MethodName)) hown (mvT hZ (W hw 8 rfl)) (mvT hZ (W hw 9 rfl)) (notFace_of_selects (args := #[]) (mvT hZ (W hw 11 rfl))) (mvT hZ (W hw 11 rfl)) (mvT hZ (W hw 10 rfl)) (by decide) (backOf (W := 0) (rm_14 l Z a0 hw w kk hN [] h0 O0) hZ (W hw 12 rfl) (W hw 6 rfl) (by decide) (by decide)) q5a q5c (g := (mkF m 52 #[.val (.int p0), .val (.int p1), .val (.ref (w 3)), .val (.int (1 : Int32)), .val (.ref (w 3)), .val (.int (1 : Int32)), .unset] [(.ref (w 3))])) rfl (by rw [hml]; rfl) (Steps.refl _) (argsL := []) (rest := []) (lenOf pd_2 rfl) rfl (by show 2 * 0 + _ ≤ _; exact Nat.le_of_eq rfl) (hb hby at_52) (fun _ _ => ⟨rfl, e4, (by decide : 0 + 0 ≤ _), (by decide : 0 + 0 ≤ _)⟩)
  dsimp only [Pt.U, Pt.locs, Pt.cells, Pt.slots] at X5 l5 y5 z5 st5 hQ5
  subst l5 y5 z5
  obtain ⟨rfl, N5q, e5⟩ := hQ5
  have N5 := Fr.app N4 N5q
  obtain ⟨fs, hr, hrun, hended, hW, hsame⟩ := X5.leave (v := some (.int (1 : Int32))) (fun h => by rw [Bd.returns] at h; cases h)
  refine ⟨_, _, pre0 _ ?_, hrun, hended, _, _, rfl, ?_, ⟨_, rfl⟩, hW, hsame.mono (by decide) (by decide)⟩
  · show Steps p.tables e below (s₁.setTop (mkF m 0 #[.val (.int p0), .val (.int p1), .unset, .unset, .unset, .unset, .unset] [])) _
    refine XS.iloadN X0.here hx rfl (hb hby at_0) rfl ?_
    show Steps p.tables e below (s₁.setTop (mkF m 1 #[.val (.int p0), .val (.int p1), .unset, .unset, .unset, .unset, .unset] [(.int p0)])) _
    refine st1 _ ?_
    show Steps p.tables e below (T1.setTop (mkF m 4 #[.val (.int p0), .val (.int p1), .unset, .unset, .unset, .unset, .unset] [(.ref (w 3))])) _
    refine XS.astoreN X1.here hx rfl (hb hby at_4) rfl rfl (l' := #[.val (.int p0), .val (.int p1), .val (.ref (w 3)), .unset, .unset, .unset, .unset]) rfl ?_
    show Steps p.tables e below (T1.setTop (mkF m 5 #[.val (.int p0), .val (.int p1), .val (.ref (w 3)), .unset, .unset, .unset, .unset] [])) _
    refine XS.iloadN X1.here hx rfl (hb hby at_5) rfl ?_
    show Steps p.tables e below (T1.setTop (mkF m 6 #[.val (.int p0), .val (.int p1), .val (.ref (w 3)), .unset, .unset, .unset, .unset] [(.int p1)])) _
    refine XS.ifYes X1.here hx rfl (pc0 := 6) (pc' := 13) rfl (hb hby at_6) rfl ((if0 _ _).trans (flt hp1).2.2.2) (by decide) (by decide) ?_
    show Steps p.tables e below (T1.setTop (mkF m 13 #[.val (.int p0), .val (.int p1), .val (.ref (w 3)), .unset, .unset, .unset, .unset] [])) _
    refine XS.iloadN X1.here hx rfl (hb hby at_13) rfl ?_
    show Steps p.tables e below (T1.setTop (mkF m 14 #[.val (.int p0), .val (.int p1), .val (.ref (w 3)), .unset, .unset, .unset, .unset] [(.int p1)])) _
    refine XS.ifNo X1.here hx rfl (hb hby at_14) rfl ((if0 _ _).trans (tlt hp2).2.1) ?_
    show Steps p.tables e below (T1.setTop (mkF m 17 #[.val (.int p0), .val (.int p1), .val (.ref (w 3)), .unset, .unset, .unset, .unset] [])) _
    refine XS.iconst X1.here hx rfl (hb hby at_17) ?_
    show Steps p.tables e below (T1.setTop (mkF m 18 #[.val (.int p0), .val (.int p1), .val (.ref (w 3)), .unset, .unset, .unset, .unset] [(.int (1 : Int32))])) _
    refine XS.goto X1.here hx rfl (pc0 := 18) (pc' := 22) rfl (hb hby at_18) (by decide) (by decide) ?_
    show Steps p.tables e below (T1.setTop (mkF m 22 #[.val (.int p0), .val (.int p1), .val (.ref (w 3)), .unset, .unset, .unset, .unset] [(.int (1 : Int32))])) _
    refine XS.istoreN X1.here hx rfl (hb hby at_22) rfl (l' := #[.val (.int p0), .val (.int p1), .val (.ref (w 3)), .val (.int (1 : Int32)), .unset, .unset, .unset]) rfl ?_
    show Steps p.tables e below (T1.setTop (mkF m 23 #[.val (.int p0), .val (.int p1), .val (.ref (w 3)), .val (.int (1 : Int32)), .unset, .unset, .unset] [])) _
    refine XS.aloadN X1.here hx rfl (hb hby at_23) rfl rfl ?_
    show Steps p.tables e below (T1.setTop (mkF m 24 #[.val (.int p0), .val (.int p1), .val (.ref (w 3)), .val (.int (1 : Int32)), .unset, .unset, .unset] [(.ref (w 3))])) _
    refine st2.trans ?_
    show Steps p.tables e below (T2.setTop (mkF m 27 #[.val (.int p0), .val (.int p1), .val (.ref (w 3)), .val (.int (1 : Int32)), .unset, .unset, .unset] [(.ref (w 3))])) _
    refine XS.astore X2.here hx rfl (hb hby at_27) rfl rfl (l' := #[.val (.int p0), .val (.int p1), .val (.ref (w 3)), .val (.int (1 : Int32)), .val (.ref (w 3)), .unset, .unset]) rfl ?_
    show Steps p.tables e below (T2.setTop (mkF m 29 #[.val (.int p0), .val (.int p1), .val (.ref (w 3)), .val (.int (1 : Int32)), .val (.ref (w 3)), .unset, .unset] [])) _
    refine XS.aload X2.here hx rfl (hb hby at_29) rfl rfl ?_
    show Steps p.tables e below (T2.setTop (mkF m 31 #[.val (.int p0), .val (.int p1), .val (.ref (w 3)), .val (.int (1 : Int32)), .val (.ref (w 3)), .unset, .unset] [(.ref (w 3))])) _
    refine XS.iloadN X2.here hx rfl (hb hby at_31) rfl ?_
    show Steps p.tables e below (T2.setTop (mkF m 32 #[.val (.int p0), .val (.int p1), .val (.ref (w 3)), .val (.int (1 : Int32)), .val (.ref (w 3)), .unset, .unset] [(.int (1 : Int32)), (.ref (w 3))])) _
    refine st3.trans ?_
    show Steps p.tables e below (T3.setTop (mkF m 35 #[.val (.int p0), .val (.int p1), .val (.ref (w 3)), .val (.int (1 : Int32)), .val (.ref (w 3)), .unset, .unset] [(.int (1 : Int32))])) _
    refine XS.aloadN X3.here hx rfl (hb hby at_35) rfl rfl ?_
    show Steps p.tables e below (T3.setTop (mkF m 36 #[.val (.int p0), .val (.int p1), .val (.ref (w 3)), .val (.int (1 : Int32)), .val (.ref (w 3)), .unset, .unset] [(.ref (w 3)), (.int (1 : Int32))])) _
    refine XS.iloadN X3.here hx rfl (hb hby at_36) rfl ?_
    show Steps p.tables e below (T3.setTop (mkF m 37 #[.val (.int p0), .val (.int p1), .val (.ref (w 3)), .val (.int (1 : Int32)), .val (.ref (w 3)), .unset, .unset] [(.int p1), (.ref (w 3)), (.int (1 : Int32))])) _
    refine st4.trans ?_
    show Steps p.tables e below (T4.setTop (mkF m 40 #[.val (.int p0), .val (.int p1), .val (.ref (w 3)), .val (.int (1 : Int32)), .val (.ref (w 3)), .unset, .unset] [(.int (1 : Int32)), (.int (1 : Int32))])) _
    refine XS.icmpNo X4.here hx rfl (hb hby at_40) rfl (teq (by decide : (1 : Int32) = (1 : Int32))).2 ?_
    show Steps p.tables e below (T4.setTop (mkF m 43 #[.val (.int p0), .val (.int p1), .val (.ref (w 3)), .val (.int (1 : Int32)), .val (.ref (w 3)), .unset, .unset] [])) _
    refine XS.iconst X4.here hx rfl (hb hby at_43) ?_
    show Steps p.tables e below (T4.setTop (mkF m 44 #[.val (.int p0), .val (.int p1), .val (.ref (w 3)), .val (.int (1 : Int32)), .val (.ref (w 3)), .unset, .unset] [(.int (1 : Int32))])) _
    refine XS.goto X4.here hx rfl (pc0 := 44) (pc' := 48) rfl (hb hby at_44) (by decide) (by decide) ?_
    show Steps p.tables e below (T4.setTop (mkF m 48 #[.val (.int p0), .val (.int p1), .val (.ref (w 3)), .val (.int (1 : Int32)), .val (.ref (w 3)), .unset, .unset] [(.int (1 : Int32))])) _
    refine XS.istore X4.here hx rfl (hb hby at_48) rfl (l' := #[.val (.int p0), .val (.int p1), .val (.ref (w 3)), .val (.int (1 : Int32)), .val (.ref (w 3)), .val (.int (1 : Int32)), .unset]) rfl ?_
    show Steps p.tables e below (T4.setTop (mkF m 50 #[.val (.int p0), .val (.int p1), .val (.ref (w 3)), .val (.int (1 : Int32)), .val (.ref (w 3)), .val (.int (1 : Int32)), .unset] [])) _
    refine XS.aload X4.here hx rfl (hb hby at_50) rfl rfl ?_
    show Steps p.tables e below (T4.setTop (mkF m 52 #[.val (.int p0), .val (.int p1), .val (.ref (w 3)), .val (.int (1 : Int32)), .val (.ref (w 3)), .val (.int (1 : Int32)), .unset] [(.ref (w 3))])) _
    refine st5.trans ?_
    show Steps p.tables e below (T5.setTop (mkF m 55 #[.val (.int p0), .val (.int p1), .val (.ref (w 3)), .val (.int (1 : Int32)), .val (.ref (w 3)), .val (.int (1 : Int32)), .unset] [(.ref (w 3))])) _
    refine XS.aloadN X5.here hx rfl (hb hby at_55) rfl rfl ?_
    show Steps p.tables e below (T5.setTop (mkF m 56 #[.val (.int p0), .val (.int p1), .val (.ref (w 3)), .val (.int (1 : Int32)), .val (.ref (w 3)), .val (.int (1 : Int32)), .unset] [(.ref (w 3)), (.ref (w 3))])) _
    refine Jvm.RoadKit.acmp (g := (mkF m 56 #[.val (.int p0), .val (.int p1), .val (.ref (w 3)), .val (.int (1 : Int32)), .val (.ref (w 3)), .val (.int (1 : Int32)), .unset] [(.ref (w 3)), (.ref (w 3))])) X5 hx rfl rfl rfl (pc0 := 56) (pc' := 59) (same := true) rfl (hb hby at_56) rfl (decide_eq_true rfl) (by decide) (by decide) ?_
    show Steps p.tables e below (T5.setTop (mkF m 59 #[.val (.int p0), .val (.int p1), .val (.ref (w 3)), .val (.int (1 : Int32)), .val (.ref (w 3)), .val (.int (1 : Int32)), .unset] [])) _
    refine XS.iconst X5.here hx rfl (hb hby at_59) ?_
    show Steps p.tables e below (T5.setTop (mkF m 60 #[.val (.int p0), .val (.int p1), .val (.ref (w 3)), .val (.int (1 : Int32)), .val (.ref (w 3)), .val (.int (1 : Int32)), .unset] [(.int (1 : Int32))])) _
    refine XS.goto X5.here hx rfl (pc0 := 60) (pc' := 64) rfl (hb hby at_60) (by decide) (by decide) ?_
    show Steps p.tables e below (T5.setTop (mkF m 64 #[.val (.int p0), .val (.int p1), .val (.ref (w 3)), .val (.int (1 : Int32)), .val (.ref (w 3)), .val (.int (1 : Int32)), .unset] [(.int (1 : Int32))])) _
    refine XS.istore X5.here hx rfl (hb hby at_64) rfl (l' := #[.val (.int p0), .val (.int p1), .val (.ref (w 3)), .val (.int (1 : Int32)), .val (.ref (w 3)), .val (.int (1 : Int32)), .val (.int (1 : Int32))]) rfl ?_
    show Steps p.tables e below (T5.setTop (mkF m 66 #[.val (.int p0), .val (.int p1), .val (.ref (w 3)), .val (.int (1 : Int32)), .val (.ref (w 3)), .val (.int (1 : Int32)), .val (.int (1 : Int32))] [])) _
    refine XS.iload X5.here hx rfl (hb hby at_66) rfl ?_
    show Steps p.tables e below (T5.setTop (mkF m 68 #[.val (.int p0), .val (.int p1), .val (.ref (w 3)), .val (.int (1 : Int32)), .val (.ref (w 3)), .val (.int (1 : Int32)), .val (.int (1 : Int32))] [(.int (1 : Int32))])) _
    refine XS.ifNo X5.here hx rfl (hb hby at_68) rfl ((if0 _ _).trans (feq (by decide : ¬ ((1 : Int32) = (0 : Int32)))).1) ?_
    show Steps p.tables e below (T5.setTop (mkF m 71 #[.val (.int p0), .val (.int p1), .val (.ref (w 3)), .val (.int (1 : Int32)), .val (.ref (w 3)), .val (.int (1 : Int32)), .val (.int (1 : Int32))] [])) _
    refine XS.iload X5.here hx rfl (hb hby at_71) rfl ?_
    show Steps p.tables e below (T5.setTop (mkF m 73 #[.val (.int p0), .val (.int p1), .val (.ref (w 3)), .val (.int (1 : Int32)), .val (.ref (w 3)), .val (.int (1 : Int32)), .val (.int (1 : Int32))] [(.int (1 : Int32))])) _
    refine XS.ifNo X5.here hx rfl (hb hby at_73) rfl ((if0 _ _).trans (feq (by decide : ¬ ((1 : Int32) = (0 : Int32)))).1) ?_
    show Steps p.tables e below (T5.setTop (mkF m 76 #[.val (.int p0), .val (.int p1), .val (.ref (w 3)), .val (.int (1 : Int32)), .val (.ref (w 3)), .val (.int (1 : Int32)), .val (.int (1 : Int32))] [])) _
    refine XS.iconst X5.here hx rfl (hb hby at_76) ?_
    show Steps p.tables e below (T5.setTop (mkF m 77 #[.val (.int p0), .val (.int p1), .val (.ref (w 3)), .val (.int (1 : Int32)), .val (.ref (w 3)), .val (.int (1 : Int32)), .val (.int (1 : Int32))] [(.int (1 : Int32))])) _
    refine XS.goto X5.here hx rfl (pc0 := 77) (pc' := 81) rfl (hb hby at_77) (by decide) (by decide) ?_
    show Steps p.tables e below (T5.setTop (mkF m 81 #[.val (.int p0), .val (.int p1), .val (.ref (w 3)), .val (.int (1 : Int32)), .val (.ref (w 3)), .val (.int (1 : Int32)), .val (.int (1 : Int32))] [(.int (1 : Int32))])) _
    exact retN X5 hx (t := .boolean) Bd.returns (by simp) (hb hby at_81) hr
  · show OL (some (.int (1 : Int32))) Z.heap.size _ T5.heap _
    exact ⟨rfl, N5⟩
theorem d_prog_67_method_5_code_74 : decode prog_67_method_5_code 74 = .ok (.iconst 0, 1) := by decide +kernel
theorem d_prog_67_method_5_code_75 : decode prog_67_method_5_code 75 = .ok (.goto 48, 3) := by decide +kernel
set_option maxRecDepth 65536 in
set_option maxHeartbeats 40000000 in
theorem rm_20 (l : Launch) (Z : State) (a0 : Array Value) (hw : ∀ d ∈ tables_1, d.before a0 Z = true) (w : Nat → Addr) (kk : Nat → ClassId) (hN : Wd Z w kk) (ws : List Jvm.Cond)  (h0 : Heap) (O0 : Old Z Z.heap.size h0) :
    MetFree l (⟨"org/cartulary/repository/Condition$Operator", "holds", "(I)Z"⟩ : MethodName) (head1 (Jvm.Cond.code (⟨"org/cartulary/repository/Condition$Operator", "holds", "(I)Z"⟩ : MethodName) prog_67_method_5_code 2 (some .boolean) :: ws) ({ frames := 1, cells := 0, slots := 0, locals := 12 } : Room)) (fun a U => a = #[(.ref (w 3)), (.int (0 : Int32))] ∧ Z.Warmed39 U.vm ∧ U.heap = h0) (fun _ _ _ _ _ => True) (fun _ U o U' => ∃ v L, o = .returned v ∧ OQ (some (.int (0 : Int32))) h0 Z.heap.size v U'.heap L ∧ FrameEnd U o U' L ({ frames := 1, cells := 0, slots := 0, locals := 12 } : Room).cells ({ frames := 1, cells := 0, slots := 0, locals := 12 } : Room).slots) := by
  have hN' := hN
  obtain ⟨hS0, hE0, hS1, hE1, hS2, hE2, hS3, hE3, hS4, hE4, hS5, hE5, hF0_ordinal, hF1_ordinal, hF2_ordinal, hF3_ordinal, hF4_ordinal, hF5_ordinal⟩ := hN'
  refine MetFree.of_bodySF (plainFor_of_name pn_2) hisR ?_
  intro p e s m args below meth c s₁ Bd hml0 hP hK
  obtain ⟨rfl, hZ, hh⟩ := hP
  have hx := Bd.exec
  have hby := Bd.bytes
  have hml : c.maxLocals = 2 := hml0
  have hown : s.vm.findClass "org/cartulary/repository/Condition$Operator" = some m.cls := findClass_of_methodNamed Bd.named
  have hnm := (name_of_methodNamed Bd.named Bd.method).1
  have X0 : Stand p l e ({ frames := 1, cells := 0, slots := 0, locals := 12 } : Room) s m #[(.ref (w 3)), (.int (0 : Int32))] below meth c s₁ [] 0 0 := Stand.of_body Bd
  have e0 : s₁.heap = h0 := by rw [← hh, Bd.state]; rfl
  have N0 := Fr.nil Z.heap.size
  have pre0 : ∀ t, Steps p.tables e below (s₁.setTop (mkF m 0 #[.val (.ref (w 3)), .val (.int (0 : Int32))] [])) t → Steps p.tables e below (s₁.setTop (entryFrame m #[(.ref (w 3)), (.int (0 : Int32))] 2)) t := fun t k => castTop (ef_2 m (.ref (w 3)) rfl (.int (0 : Int32)) rfl) k
  obtain ⟨cq1, kq1, q1a, q1b, q1c⟩ := isOf hZ e0 (hE3.ext O0.2)
  obtain ⟨_, _, ⟨T1, L1, k1, n1⟩, -, X1, ⟨Lc1, hQ1, l1, y1, z1⟩, st1⟩ := X0.virtualBackUp hx (x := (⟨"org/cartulary/repository/Condition$Operator", "ordinal", "()I"⟩ : MethodName)) (y := (⟨"java/lang/Enum", "ordinal", "()I"⟩ : MethodName)) (owner := "java/lang/Enum") hown (mvT hZ (W hw 13 rfl)) (mvT hZ (W hw 14 rfl)) (mvT hZ (W hw 15 rfl)) (by decide) (mvT hZ (W hw 17 rfl)) (mvT hZ (W hw 16 rfl)) (backOf (W := 0) (rm_13 l Z a0 hw w kk hN [] h0 O0) hZ (W hw 19 rfl) (W hw 18 rfl) (by decide) (by decide)) q1a q1c (g := (mkF m 1 #[.val (.ref (w 3)), .val (.int (0 : Int32))] [(.ref (w 3))])) rfl (by rw [hml]; rfl) (Steps.refl _) (argsL := []) (rest := []) (lenOf pd_1 rfl) rfl (by show 2 * 0 + _ ≤ _; exact Nat.le_of_eq rfl) (hb hby d_prog_67_method_5_code_1) (fun _ _ => ⟨rfl, e0, (by decide : 0 + 0 ≤ _), (by decide : 0 + 0 ≤ _)⟩)
  dsimp only [Pt.U, Pt.locs, Pt.cells, Pt.slots] at X1 l1 y1 z1 st1 hQ1
  subst l1 y1 z1
  obtain ⟨rfl, N1q, e1⟩ := hQ1
  have N1 := Fr.app N0 N1q
  obtain ⟨fs, hr, hrun, hended, hW, hsame⟩ := X1.leave (v := some (.int (0 : Int32))) (fun h => by rw [Bd.returns] at h; cases h)
  refine ⟨_, _, pre0 _ ?_, hrun, hended, _, _, rfl, ?_, ⟨_, rfl⟩, hW, hsame.mono (by decide) (by decide)⟩
  · show Steps p.tables e below (s₁.setTop (mkF m 0 #[.val (.ref (w 3)), .val (.int (0 : Int32))] [])) _
    refine XS.aloadN X0.here hx rfl (hb hby d_prog_67_method_5_code_0) rfl rfl ?_
    show Steps p.tables e below (s₁.setTop (mkF m 1 #[.val (.ref (w 3)), .val (.int (0 : Int32))] [(.ref (w 3))])) _
    refine st1.trans ?_
    show Steps p.tables e below (T1.setTop (mkF m 4 #[.val (.ref (w 3)), .val (.int (0 : Int32))] [(.int (1 : Int32))])) _
    refine XS.tswIn X1.here hx rfl (pc0 := 4) (pc' := 66) (o := 62) rfl (hb hby d_prog_67_method_5_code_4) rfl (by decide) (by decide) (by decide) (by decide) ?_
    show Steps p.tables e below (T1.setTop (mkF m 66 #[.val (.ref (w 3)), .val (.int (0 : Int32))] [])) _
    refine XS.iloadN X1.here hx rfl (hb hby d_prog_67_method_5_code_66) rfl ?_
    show Steps p.tables e below (T1.setTop (mkF m 67 #[.val (.ref (w 3)), .val (.int (0 : Int32))] [(.int (0 : Int32))])) _
    refine XS.ifYes X1.here hx rfl (pc0 := 67) (pc' := 74) rfl (hb hby d_prog_67_method_5_code_67) rfl ((if0 _ _).trans (teq (by decide : (0 : Int32) = (0 : Int32))).1) (by decide) (by decide) ?_
    show Steps p.tables e below (T1.setTop (mkF m 74 #[.val (.ref (w 3)), .val (.int (0 : Int32))] [])) _
    refine XS.iconst X1.here hx rfl (hb hby d_prog_67_method_5_code_74) ?_
    show Steps p.tables e below (T1.setTop (mkF m 75 #[.val (.ref (w 3)), .val (.int (0 : Int32))] [(.int (0 : Int32))])) _
    refine XS.goto X1.here hx rfl (pc0 := 75) (pc' := 123) rfl (hb hby d_prog_67_method_5_code_75) (by decide) (by decide) ?_
    show Steps p.tables e below (T1.setTop (mkF m 123 #[.val (.ref (w 3)), .val (.int (0 : Int32))] [(.int (0 : Int32))])) _
    exact retN X1 hx (t := .boolean) Bd.returns (by simp) (hb hby d_prog_67_method_5_code_123) hr
  · show OQ (some (.int (0 : Int32))) h0 Z.heap.size _ T1.heap _
    rw [e1]
    exact ⟨rfl, N1, rfl⟩
set_option maxRecDepth 65536 in
set_option maxHeartbeats 40000000 in
theorem rm_21 (l : Launch) (Z : State) (a0 : Array Value) (hw : ∀ d ∈ tables_1, d.before a0 Z = true) (w : Nat → Addr) (kk : Nat → ClassId) (hN : Wd Z w kk) (ws : List Jvm.Cond) (p1 : Int32) (h0 : Heap) (O0 : Old Z Z.heap.size h0) (hp0 : p1 = (0 : Int32)) :
    MetFree l (⟨"org/cartulary/repository/Condition$Operator", "holds", "(I)Z"⟩ : MethodName) (head1 (Jvm.Cond.code (⟨"org/cartulary/repository/Condition$Operator", "holds", "(I)Z"⟩ : MethodName) prog_67_method_5_code 2 (some .boolean) :: ws) ({ frames := 1, cells := 0, slots := 0, locals := 12 } : Room)) (fun a U => a = #[(.ref (w 3)), (.int p1)] ∧ Z.Warmed39 U.vm ∧ U.heap = h0) (fun _ _ _ _ _ => True) (fun _ U o U' => ∃ v L, o = .returned v ∧ OQ (some (.int (0 : Int32))) h0 Z.heap.size v U'.heap L ∧ FrameEnd U o U' L ({ frames := 1, cells := 0, slots := 0, locals := 12 } : Room).cells ({ frames := 1, cells := 0, slots := 0, locals := 12 } : Room).slots) := by
  have hN' := hN
  obtain ⟨hS0, hE0, hS1, hE1, hS2, hE2, hS3, hE3, hS4, hE4, hS5, hE5, hF0_ordinal, hF1_ordinal, hF2_ordinal, hF3_ordinal, hF4_ordinal, hF5_ordinal⟩ := hN'
  refine MetFree.of_bodySF (plainFor_of_name pn_2) hisR ?_
  intro p e s m args below meth c s₁ Bd hml0 hP hK
  obtain ⟨rfl, hZ, hh⟩ := hP
  have hx := Bd.exec
  have hby := Bd.bytes
  have hml : c.maxLocals = 2 := hml0
  have hown : s.vm.findClass "org/cartulary/repository/Condition$Operator" = some m.cls := findClass_of_methodNamed Bd.named
  have hnm := (name_of_methodNamed Bd.named Bd.method).1
  have X0 : Stand p l e ({ frames := 1, cells := 0, slots := 0, locals := 12 } : Room) s m #[(.ref (w 3)), (.int p1)] below meth c s₁ [] 0 0 := Stand.of_body Bd
  have e0 : s₁.heap = h0 := by rw [← hh, Bd.state]; rfl
  have N0 := Fr.nil Z.heap.size
  have pre0 : ∀ t, Steps p.tables e below (s₁.setTop (mkF m 0 #[.val (.ref (w 3)), .val (.int p1)] [])) t → Steps p.tables e below (s₁.setTop (entryFrame m #[(.ref (w 3)), (.int p1)] 2)) t := fun t k => castTop (ef_2 m (.ref (w 3)) rfl (.int p1) rfl) k
  obtain ⟨cq1, kq1, q1a, q1b, q1c⟩ := isOf hZ e0 (hE3.ext O0.2)
  obtain ⟨_, _, ⟨T1, L1, k1, n1⟩, -, X1, ⟨Lc1, hQ1, l1, y1, z1⟩, st1⟩ := X0.virtualBackUp hx (x := (⟨"org/cartulary/repository/Condition$Operator", "ordinal", "()I"⟩ : MethodName)) (y := (⟨"java/lang/Enum", "ordinal", "()I"⟩ : MethodName)) (owner := "java/lang/Enum") hown (mvT hZ (W hw 13 rfl)) (mvT hZ (W hw 14 rfl)) (mvT hZ (W hw 15 rfl)) (by decide) (mvT hZ (W hw 17 rfl)) (mvT hZ (W hw 16 rfl)) (backOf (W := 0) (rm_13 l Z a0 hw w kk hN [] h0 O0) hZ (W hw 19 rfl) (W hw 18 rfl) (by decide) (by decide)) q1a q1c (g := (mkF m 1 #[.val (.ref (w 3)), .val (.int p1)] [(.ref (w 3))])) rfl (by rw [hml]; rfl) (Steps.refl _) (argsL := []) (rest := []) (lenOf pd_1 rfl) rfl (by show 2 * 0 + _ ≤ _; exact Nat.le_of_eq rfl) (hb hby d_prog_67_method_5_code_1) (fun _ _ => ⟨rfl, e0, (by decide : 0 + 0 ≤ _), (by decide : 0 + 0 ≤ _)⟩)
  dsimp only [Pt.U, Pt.locs, Pt.cells, Pt.slots] at X1 l1 y1 z1 st1 hQ1
  subst l1 y1 z1
  obtain ⟨rfl, N1q, e1⟩ := hQ1
  have N1 := Fr.app N0 N1q
  obtain ⟨fs, hr, hrun, hended, hW, hsame⟩ := X1.leave (v := some (.int (0 : Int32))) (fun h => by rw [Bd.returns] at h; cases h)
  refine ⟨_, _, pre0 _ ?_, hrun, hended, _, _, rfl, ?_, ⟨_, rfl⟩, hW, hsame.mono (by decide) (by decide)⟩
  · show Steps p.tables e below (s₁.setTop (mkF m 0 #[.val (.ref (w 3)), .val (.int p1)] [])) _
    refine XS.aloadN X0.here hx rfl (hb hby d_prog_67_method_5_code_0) rfl rfl ?_
    show Steps p.tables e below (s₁.setTop (mkF m 1 #[.val (.ref (w 3)), .val (.int p1)] [(.ref (w 3))])) _
    refine st1.trans ?_
    show Steps p.tables e below (T1.setTop (mkF m 4 #[.val (.ref (w 3)), .val (.int p1)] [(.int (1 : Int32))])) _
    refine XS.tswIn X1.here hx rfl (pc0 := 4) (pc' := 66) (o := 62) rfl (hb hby d_prog_67_method_5_code_4) rfl (by decide) (by decide) (by decide) (by decide) ?_
    show Steps p.tables e below (T1.setTop (mkF m 66 #[.val (.ref (w 3)), .val (.int p1)] [])) _
    refine XS.iloadN X1.here hx rfl (hb hby d_prog_67_method_5_code_66) rfl ?_
    show Steps p.tables e below (T1.setTop (mkF m 67 #[.val (.ref (w 3)), .val (.int p1)] [(.int p1)])) _
    refine XS.ifYes X1.here hx rfl (pc0 := 67) (pc' := 74) rfl (hb hby d_prog_67_method_5_code_67) rfl ((if0 _ _).trans (teq hp0).1) (by decide) (by decide) ?_
    show Steps p.tables e below (T1.setTop (mkF m 74 #[.val (.ref (w 3)), .val (.int p1)] [])) _
    refine XS.iconst X1.here hx rfl (hb hby d_prog_67_method_5_code_74) ?_
    show Steps p.tables e below (T1.setTop (mkF m 75 #[.val (.ref (w 3)), .val (.int p1)] [(.int (0 : Int32))])) _
    refine XS.goto X1.here hx rfl (pc0 := 75) (pc' := 123) rfl (hb hby d_prog_67_method_5_code_75) (by decide) (by decide) ?_
    show Steps p.tables e below (T1.setTop (mkF m 123 #[.val (.ref (w 3)), .val (.int p1)] [(.int (0 : Int32))])) _
    exact retN X1 hx (t := .boolean) Bd.returns (by simp) (hb hby d_prog_67_method_5_code_123) hr
  · show OQ (some (.int (0 : Int32))) h0 Z.heap.size _ T1.heap _
    rw [e1]
    exact ⟨rfl, N1, rfl⟩
set_option maxRecDepth 65536 in
set_option maxHeartbeats 40000000 in
theorem law_22 (l : Launch) (Z : State) (a0 : Array Value) (hw : ∀ d ∈ tables_1, d.before a0 Z = true) (w : Nat → Addr) (kk : Nat → ClassId) (hN : Wd Z w kk) (ws : List Jvm.Cond) (p0 : Int32) (p1 : Int32) (h0 : Heap) (O0 : Old Z Z.heap.size h0) (hp0 : ((p0 &&& (2147483647 : Int32)) % (6 : Int32)) = (1 : Int32)) (hp1 : ¬ ((0 : Int32) < p1)) (hp2 : ¬ (p1 < (0 : Int32))) (hp3 : p1 = (0 : Int32)) :
    MetFree l x (head1 (Jvm.Cond.code x code maxLocals ret :: ws) room_1) (fun a U => a = #[(.int p0), (.int p1)] ∧ Z.Warmed39 U.vm ∧ U.heap = h0) (fun _ _ _ _ _ => True) (fun _ U o U' => ∃ v L, o = .returned v ∧ OL (some (.int (1 : Int32))) Z.heap.size v U'.heap L ∧ FrameEnd U o U' L 0 0) := by
  have hN' := hN
  obtain ⟨hS0, hE0, hS1, hE1, hS2, hE2, hS3, hE3, hS4, hE4, hS5, hE5, hF0_ordinal, hF1_ordinal, hF2_ordinal, hF3_ordinal, hF4_ordinal, hF5_ordinal⟩ := hN'
  refine MetFree.of_bodySF (plainFor_of_name pn_0) hisR ?_
  intro p e s m args below meth c s₁ Bd hml0 hP hK
  obtain ⟨rfl, hZ, hh⟩ := hP
  have hx := Bd.exec
  have hby := Bd.bytes
  have hml : c.maxLocals = 7 := hml0
  have hown : s.vm.findClass "org/cartulary/repository/OperatorSwappedPinLaw" = some m.cls := findClass_of_methodNamed Bd.named
  have hnm := (name_of_methodNamed Bd.named Bd.method).1
  have X0 : Stand p l e room_1 s m #[(.int p0), (.int p1)] below meth c s₁ [] 0 0 := Stand.of_body Bd
  have e0 : s₁.heap = h0 := by rw [← hh, Bd.state]; rfl
  have N0 := Fr.nil Z.heap.size
  have pre0 : ∀ t, Steps p.tables e below (s₁.setTop (mkF m 0 #[.val (.int p0), .val (.int p1), .unset, .unset, .unset, .unset, .unset] [])) t → Steps p.tables e below (s₁.setTop (entryFrame m #[(.int p0), (.int p1)] maxLocals)) t := fun t k => castTop (ef_3 m (.int p0) rfl (.int p1) rfl) k
  obtain ⟨_, _, ⟨T1, L1, k1, n1⟩, -, X1, ⟨Lc1, hQ1, l1, y1, z1⟩, st1⟩ := Jvm.LawKit.callS X0 hx (y := (⟨"org/cartulary/repository/OperatorSwappedPinLaw", "pick", "(I)Lorg/cartulary/repository/Condition$Operator;"⟩ : MethodName)) hown (mvT hZ (W hw 0 rfl)) (mvT hZ (W hw 1 rfl)) (mvT hZ (W hw 2 rfl)) (mvT hZ (W hw 3 rfl)) (by decide) (backOf (W := 0) (rm_12 l Z a0 hw w kk hN [] p0 h0 O0 hp0) hZ (W hw 3 rfl) (W hw 2 rfl) (by decide) (by decide)) (g := (mkF m 1 #[.val (.int p0), .val (.int p1), .unset, .unset, .unset, .unset, .unset] [(.int p0)])) rfl (by rw [hml]; rfl) (argsL := [(.int p0)]) (rest := []) (lenOf pd_0 rfl) rfl (by show 2 * 0 + _ ≤ _; exact Nat.le_of_eq rfl) (hb hby at_1) (fun _ _ => ⟨rfl, e0, (by decide : 0 + 0 ≤ _), (by decide : 0 + 0 ≤ _)⟩)
  dsimp only [Pt.U, Pt.locs, Pt.cells, Pt.slots] at X1 l1 y1 z1 st1 hQ1
  subst l1 y1 z1
  obtain ⟨rfl, N1q, e1⟩ := hQ1
  have N1 := Fr.app N0 N1q
  obtain ⟨cq2, kq2, q2a, q2b, q2c⟩ := isOf hZ e1 (hE3.ext O0.2)
  obtain ⟨_, _, ⟨T2, L2, k2, n2⟩, -, X2, ⟨Lc2, hQ2, l2, y2, z2⟩, st2⟩ := X1.virtualBack hx (y := (⟨"org/cartulary/repository/Condition$Operator", "swapped", "()Lorg/cartulary/repository/Condition$Operator;"⟩ : MethodName)) (z := (⟨"org/cartulary/repository/Condition$Operator", "swapped", "()Lorg/cartulary/repository/Condition$Operator;"⟩ : MethodName)) hown (mvT hZ (W hw 8 rfl)) (mvT hZ (W hw 9 rfl)) (notFace_of_selects (args := #[]) (mvT hZ (W hw 11 rfl))) (mvT hZ (W hw 11 rfl)) (mvT hZ (W hw 10 rfl)) (by decide) (backOf (W := 0) (rm_14 l Z a0 hw w kk hN [] h0 O0) hZ (W hw 12 rfl) (W hw 6 rfl) (by decide) (by decide)) q2a q2c (g := (mkF m 24 #[.val (.int p0), .val (.int p1), .val (.ref (w 3)), .val (.int (0 : Int32)), .unset, .unset, .unset] [(.ref (w 3))])) rfl (by rw [hml]; rfl) (Steps.refl _) (argsL := []) (rest := []) (lenOf pd_2 rfl) rfl (by show 2 * 0 + _ ≤ _; exact Nat.le_of_eq rfl) (hb hby at_24) (fun _ _ => ⟨rfl, e1, (by decide : 0 + 0 ≤ _), (by decide : 0 + 0 ≤ _)⟩)
  dsimp only [Pt.U, Pt.locs, Pt.cells, Pt.slots] at X2 l2 y2 z2 st2 hQ2
  subst l2 y2 z2
  obtain ⟨rfl, N2q, e2⟩ := hQ2
  have N2 := Fr.app N1 N2q
  obtain ⟨cq3, kq3, q3a, q3b, q3c⟩ := isOf hZ e2 (hE3.ext O0.2)
  obtain ⟨_, _, ⟨T3, L3, k3, n3⟩, -, X3, ⟨Lc3, hQ3, l3, y3, z3⟩, st3⟩ := X2.virtualBack hx (y := (⟨"org/cartulary/repository/Condition$Operator", "holds", "(I)Z"⟩ : MethodName)) (z := (⟨"org/cartulary/repository/Condition$Operator", "holds", "(I)Z"⟩ : MethodName)) hown (mvT hZ (W hw 22 rfl)) (mvT hZ (W hw 23 rfl)) (notFace_of_selects (args := #[]) (mvT hZ (W hw 25 rfl))) (mvT hZ (W hw 25 rfl)) (mvT hZ (W hw 24 rfl)) (by decide) (backOf (W := 0) (rm_20 l Z a0 hw w kk hN [] h0 O0) hZ (W hw 26 rfl) (W hw 6 rfl) (by decide) (by decide)) q3a q3c (g := (mkF m 32 #[.val (.int p0), .val (.int p1), .val (.ref (w 3)), .val (.int (0 : Int32)), .val (.ref (w 3)), .unset, .unset] [(.int (0 : Int32)), (.ref (w 3))])) rfl (by rw [hml]; rfl) (Steps.refl _) (argsL := [(.int (0 : Int32))]) (rest := []) (lenOf pd_3 rfl) rfl (by show 2 * 0 + _ ≤ _; exact Nat.le_of_eq rfl) (hb hby at_32) (fun _ _ => ⟨rfl, e2, (by decide : 0 + 0 ≤ _), (by decide : 0 + 0 ≤ _)⟩)
  dsimp only [Pt.U, Pt.locs, Pt.cells, Pt.slots] at X3 l3 y3 z3 st3 hQ3
  subst l3 y3 z3
  obtain ⟨rfl, N3q, e3⟩ := hQ3
  have N3 := Fr.app N2 N3q
  obtain ⟨cq4, kq4, q4a, q4b, q4c⟩ := isOf hZ e3 (hE3.ext O0.2)
  obtain ⟨_, _, ⟨T4, L4, k4, n4⟩, -, X4, ⟨Lc4, hQ4, l4, y4, z4⟩, st4⟩ := X3.virtualBack hx (y := (⟨"org/cartulary/repository/Condition$Operator", "holds", "(I)Z"⟩ : MethodName)) (z := (⟨"org/cartulary/repository/Condition$Operator", "holds", "(I)Z"⟩ : MethodName)) hown (mvT hZ (W hw 22 rfl)) (mvT hZ (W hw 23 rfl)) (notFace_of_selects (args := #[]) (mvT hZ (W hw 25 rfl))) (mvT hZ (W hw 25 rfl)) (mvT hZ (W hw 24 rfl)) (by decide) (backOf (W := 1) (rm_21 l Z a0 hw w kk hN [] p1 h0 O0 hp3) hZ (W hw 26 rfl) (W hw 6 rfl) (by decide) (by decide)) q4a q4c (g := (mkF m 37 #[.val (.int p0), .val (.int p1), .val (.ref (w 3)), .val (.int (0 : Int32)), .val (.ref (w 3)), .unset, .unset] [(.int p1), (.ref (w 3)), (.int (0 : Int32))])) rfl (by rw [hml]; rfl) (Steps.refl _) (argsL := [(.int p1)]) (rest := [(.int (0 : Int32))]) (lenOf pd_3 rfl) rfl (by show 2 * 0 + _ ≤ _; exact Nat.le_of_eq rfl) (hb hby at_37) (fun _ _ => ⟨rfl, e3, (by decide : 0 + 0 ≤ _), (by decide : 0 + 0 ≤ _)⟩)
  dsimp only [Pt.U, Pt.locs, Pt.cells, Pt.slots] at X4 l4 y4 z4 st4 hQ4
  subst l4 y4 z4
  obtain ⟨rfl, N4q, e4⟩ := hQ4
  have N4 := Fr.app N3 N4q
  obtain ⟨cq5, kq5, q5a, q5b, q5c⟩ := isOf hZ e4 (hE3.ext O0.2)
  obtain ⟨_, _, ⟨T5, L5, k5, n5⟩, -, X5, ⟨Lc5, hQ5, l5, y5, z5⟩, st5⟩ := X4.virtualBack hx (y := (⟨"org/cartulary/repository/Condition$Operator", "swapped", "()Lorg/cartulary/repository/Condition$Operator;"⟩ : MethodName)) (z := (⟨"org/cartulary/repository/Condition$Operator", "swapped", "()Lorg/cartulary/repository/Condition$Operator;"⟩ : MethodName)) hown (mvT hZ (W hw 8 rfl)) (mvT hZ (W hw 9 rfl)) (notFace_of_selects (args := #[]) (mvT hZ (W hw 11 rfl))) (mvT hZ (W hw 11 rfl)) (mvT hZ (W hw 10 rfl)) (by decide) (backOf (W := 0) (rm_14 l Z a0 hw w kk hN [] h0 O0) hZ (W hw 12 rfl) (W hw 6 rfl) (by decide) (by decide)) q5a q5c (g := (mkF m 52 #[.val (.int p0), .val (.int p1), .val (.ref (w 3)), .val (.int (0 : Int32)), .val (.ref (w 3)), .val (.int (1 : Int32)), .unset] [(.ref (w 3))])) rfl (by rw [hml]; rfl) (Steps.refl _) (argsL := []) (rest := []) (lenOf pd_2 rfl) rfl (by show 2 * 0 + _ ≤ _; exact Nat.le_of_eq rfl) (hb hby at_52) (fun _ _ => ⟨rfl, e4, (by decide : 0 + 0 ≤ _), (by decide : 0 + 0 ≤ _)⟩)
  dsimp only [Pt.U, Pt.locs, Pt.cells, Pt.slots] at X5 l5 y5 z5 st5 hQ5
  subst l5 y5 z5
  obtain ⟨rfl, N5q, e5⟩ := hQ5
  have N5 := Fr.app N4 N5q
  obtain ⟨fs, hr, hrun, hended, hW, hsame⟩ := X5.leave (v := some (.int (1 : Int32))) (fun h => by rw [Bd.returns] at h; cases h)
  refine ⟨_, _, pre0 _ ?_, hrun, hended, _, _, rfl, ?_, ⟨_, rfl⟩, hW, hsame.mono (by decide) (by decide)⟩
  · show Steps p.tables e below (s₁.setTop (mkF m 0 #[.val (.int p0), .val (.int p1), .unset, .unset, .unset, .unset, .unset] [])) _
    refine XS.iloadN X0.here hx rfl (hb hby at_0) rfl ?_
    show Steps p.tables e below (s₁.setTop (mkF m 1 #[.val (.int p0), .val (.int p1), .unset, .unset, .unset, .unset, .unset] [(.int p0)])) _
    refine st1 _ ?_
    show Steps p.tables e below (T1.setTop (mkF m 4 #[.val (.int p0), .val (.int p1), .unset, .unset, .unset, .unset, .unset] [(.ref (w 3))])) _
    refine XS.astoreN X1.here hx rfl (hb hby at_4) rfl rfl (l' := #[.val (.int p0), .val (.int p1), .val (.ref (w 3)), .unset, .unset, .unset, .unset]) rfl ?_
    show Steps p.tables e below (T1.setTop (mkF m 5 #[.val (.int p0), .val (.int p1), .val (.ref (w 3)), .unset, .unset, .unset, .unset] [])) _
    refine XS.iloadN X1.here hx rfl (hb hby at_5) rfl ?_
    show Steps p.tables e below (T1.setTop (mkF m 6 #[.val (.int p0), .val (.int p1), .val (.ref (w 3)), .unset, .unset, .unset, .unset] [(.int p1)])) _
    refine XS.ifYes X1.here hx rfl (pc0 := 6) (pc' := 13) rfl (hb hby at_6) rfl ((if0 _ _).trans (flt hp1).2.2.2) (by decide) (by decide) ?_
    show Steps p.tables e below (T1.setTop (mkF m 13 #[.val (.int p0), .val (.int p1), .val (.ref (w 3)), .unset, .unset, .unset, .unset] [])) _
    refine XS.iloadN X1.here hx rfl (hb hby at_13) rfl ?_
    show Steps p.tables e below (T1.setTop (mkF m 14 #[.val (.int p0), .val (.int p1), .val (.ref (w 3)), .unset, .unset, .unset, .unset] [(.int p1)])) _
    refine XS.ifYes X1.here hx rfl (pc0 := 14) (pc' := 21) rfl (hb hby at_14) rfl ((if0 _ _).trans (flt hp2).2.1) (by decide) (by decide) ?_
    show Steps p.tables e below (T1.setTop (mkF m 21 #[.val (.int p0), .val (.int p1), .val (.ref (w 3)), .unset, .unset, .unset, .unset] [])) _
    refine XS.iconst X1.here hx rfl (hb hby at_21) ?_
    show Steps p.tables e below (T1.setTop (mkF m 22 #[.val (.int p0), .val (.int p1), .val (.ref (w 3)), .unset, .unset, .unset, .unset] [(.int (0 : Int32))])) _
    refine XS.istoreN X1.here hx rfl (hb hby at_22) rfl (l' := #[.val (.int p0), .val (.int p1), .val (.ref (w 3)), .val (.int (0 : Int32)), .unset, .unset, .unset]) rfl ?_
    show Steps p.tables e below (T1.setTop (mkF m 23 #[.val (.int p0), .val (.int p1), .val (.ref (w 3)), .val (.int (0 : Int32)), .unset, .unset, .unset] [])) _
    refine XS.aloadN X1.here hx rfl (hb hby at_23) rfl rfl ?_
    show Steps p.tables e below (T1.setTop (mkF m 24 #[.val (.int p0), .val (.int p1), .val (.ref (w 3)), .val (.int (0 : Int32)), .unset, .unset, .unset] [(.ref (w 3))])) _
    refine st2.trans ?_
    show Steps p.tables e below (T2.setTop (mkF m 27 #[.val (.int p0), .val (.int p1), .val (.ref (w 3)), .val (.int (0 : Int32)), .unset, .unset, .unset] [(.ref (w 3))])) _
    refine XS.astore X2.here hx rfl (hb hby at_27) rfl rfl (l' := #[.val (.int p0), .val (.int p1), .val (.ref (w 3)), .val (.int (0 : Int32)), .val (.ref (w 3)), .unset, .unset]) rfl ?_
    show Steps p.tables e below (T2.setTop (mkF m 29 #[.val (.int p0), .val (.int p1), .val (.ref (w 3)), .val (.int (0 : Int32)), .val (.ref (w 3)), .unset, .unset] [])) _
    refine XS.aload X2.here hx rfl (hb hby at_29) rfl rfl ?_
    show Steps p.tables e below (T2.setTop (mkF m 31 #[.val (.int p0), .val (.int p1), .val (.ref (w 3)), .val (.int (0 : Int32)), .val (.ref (w 3)), .unset, .unset] [(.ref (w 3))])) _
    refine XS.iloadN X2.here hx rfl (hb hby at_31) rfl ?_
    show Steps p.tables e below (T2.setTop (mkF m 32 #[.val (.int p0), .val (.int p1), .val (.ref (w 3)), .val (.int (0 : Int32)), .val (.ref (w 3)), .unset, .unset] [(.int (0 : Int32)), (.ref (w 3))])) _
    refine st3.trans ?_
    show Steps p.tables e below (T3.setTop (mkF m 35 #[.val (.int p0), .val (.int p1), .val (.ref (w 3)), .val (.int (0 : Int32)), .val (.ref (w 3)), .unset, .unset] [(.int (0 : Int32))])) _
    refine XS.aloadN X3.here hx rfl (hb hby at_35) rfl rfl ?_
    show Steps p.tables e below (T3.setTop (mkF m 36 #[.val (.int p0), .val (.int p1), .val (.ref (w 3)), .val (.int (0 : Int32)), .val (.ref (w 3)), .unset, .unset] [(.ref (w 3)), (.int (0 : Int32))])) _
    refine XS.iloadN X3.here hx rfl (hb hby at_36) rfl ?_
    show Steps p.tables e below (T3.setTop (mkF m 37 #[.val (.int p0), .val (.int p1), .val (.ref (w 3)), .val (.int (0 : Int32)), .val (.ref (w 3)), .unset, .unset] [(.int p1), (.ref (w 3)), (.int (0 : Int32))])) _
    refine st4.trans ?_
    show Steps p.tables e below (T4.setTop (mkF m 40 #[.val (.int p0), .val (.int p1), .val (.ref (w 3)), .val (.int (0 : Int32)), .val (.ref (w 3)), .unset, .unset] [(.int (0 : Int32)), (.int (0 : Int32))])) _
    refine XS.icmpNo X4.here hx rfl (hb hby at_40) rfl (teq (by decide : (0 : Int32) = (0 : Int32))).2 ?_
    show Steps p.tables e below (T4.setTop (mkF m 43 #[.val (.int p0), .val (.int p1), .val (.ref (w 3)), .val (.int (0 : Int32)), .val (.ref (w 3)), .unset, .unset] [])) _
    refine XS.iconst X4.here hx rfl (hb hby at_43) ?_
    show Steps p.tables e below (T4.setTop (mkF m 44 #[.val (.int p0), .val (.int p1), .val (.ref (w 3)), .val (.int (0 : Int32)), .val (.ref (w 3)), .unset, .unset] [(.int (1 : Int32))])) _
    refine XS.goto X4.here hx rfl (pc0 := 44) (pc' := 48) rfl (hb hby at_44) (by decide) (by decide) ?_
    show Steps p.tables e below (T4.setTop (mkF m 48 #[.val (.int p0), .val (.int p1), .val (.ref (w 3)), .val (.int (0 : Int32)), .val (.ref (w 3)), .unset, .unset] [(.int (1 : Int32))])) _
    refine XS.istore X4.here hx rfl (hb hby at_48) rfl (l' := #[.val (.int p0), .val (.int p1), .val (.ref (w 3)), .val (.int (0 : Int32)), .val (.ref (w 3)), .val (.int (1 : Int32)), .unset]) rfl ?_
    show Steps p.tables e below (T4.setTop (mkF m 50 #[.val (.int p0), .val (.int p1), .val (.ref (w 3)), .val (.int (0 : Int32)), .val (.ref (w 3)), .val (.int (1 : Int32)), .unset] [])) _
    refine XS.aload X4.here hx rfl (hb hby at_50) rfl rfl ?_
    show Steps p.tables e below (T4.setTop (mkF m 52 #[.val (.int p0), .val (.int p1), .val (.ref (w 3)), .val (.int (0 : Int32)), .val (.ref (w 3)), .val (.int (1 : Int32)), .unset] [(.ref (w 3))])) _
    refine st5.trans ?_
    show Steps p.tables e below (T5.setTop (mkF m 55 #[.val (.int p0), .val (.int p1), .val (.ref (w 3)), .val (.int (0 : Int32)), .val (.ref (w 3)), .val (.int (1 : Int32)), .unset] [(.ref (w 3))])) _
    refine XS.aloadN X5.here hx rfl (hb hby at_55) rfl rfl ?_
    show Steps p.tables e below (T5.setTop (mkF m 56 #[.val (.int p0), .val (.int p1), .val (.ref (w 3)), .val (.int (0 : Int32)), .val (.ref (w 3)), .val (.int (1 : Int32)), .unset] [(.ref (w 3)), (.ref (w 3))])) _
    refine Jvm.RoadKit.acmp (g := (mkF m 56 #[.val (.int p0), .val (.int p1), .val (.ref (w 3)), .val (.int (0 : Int32)), .val (.ref (w 3)), .val (.int (1 : Int32)), .unset] [(.ref (w 3)), (.ref (w 3))])) X5 hx rfl rfl rfl (pc0 := 56) (pc' := 59) (same := true) rfl (hb hby at_56) rfl (decide_eq_true rfl) (by decide) (by decide) ?_
    show Steps p.tables e below (T5.setTop (mkF m 59 #[.val (.int p0), .val (.int p1), .val (.ref (w 3)), .val (.int (0 : Int32)), .val (.ref (w 3)), .val (.int (1 : Int32)), .unset] [])) _
    refine XS.iconst X5.here hx rfl (hb hby at_59) ?_
    show Steps p.tables e below (T5.setTop (mkF m 60 #[.val (.int p0), .val (.int p1), .val (.ref (w 3)), .val (.int (0 : Int32)), .val (.ref (w 3)), .val (.int (1 : Int32)), .unset] [(.int (1 : Int32))])) _
    refine XS.goto X5.here hx rfl (pc0 := 60) (pc' := 64) rfl (hb hby at_60) (by decide) (by decide) ?_
    show Steps p.tables e below (T5.setTop (mkF m 64 #[.val (.int p0), .val (.int p1), .val (.ref (w 3)), .val (.int (0 : Int32)), .val (.ref (w 3)), .val (.int (1 : Int32)), .unset] [(.int (1 : Int32))])) _
    refine XS.istore X5.here hx rfl (hb hby at_64) rfl (l' := #[.val (.int p0), .val (.int p1), .val (.ref (w 3)), .val (.int (0 : Int32)), .val (.ref (w 3)), .val (.int (1 : Int32)), .val (.int (1 : Int32))]) rfl ?_
    show Steps p.tables e below (T5.setTop (mkF m 66 #[.val (.int p0), .val (.int p1), .val (.ref (w 3)), .val (.int (0 : Int32)), .val (.ref (w 3)), .val (.int (1 : Int32)), .val (.int (1 : Int32))] [])) _
    refine XS.iload X5.here hx rfl (hb hby at_66) rfl ?_
    show Steps p.tables e below (T5.setTop (mkF m 68 #[.val (.int p0), .val (.int p1), .val (.ref (w 3)), .val (.int (0 : Int32)), .val (.ref (w 3)), .val (.int (1 : Int32)), .val (.int (1 : Int32))] [(.int (1 : Int32))])) _
    refine XS.ifNo X5.here hx rfl (hb hby at_68) rfl ((if0 _ _).trans (feq (by decide : ¬ ((1 : Int32) = (0 : Int32)))).1) ?_
    show Steps p.tables e below (T5.setTop (mkF m 71 #[.val (.int p0), .val (.int p1), .val (.ref (w 3)), .val (.int (0 : Int32)), .val (.ref (w 3)), .val (.int (1 : Int32)), .val (.int (1 : Int32))] [])) _
    refine XS.iload X5.here hx rfl (hb hby at_71) rfl ?_
    show Steps p.tables e below (T5.setTop (mkF m 73 #[.val (.int p0), .val (.int p1), .val (.ref (w 3)), .val (.int (0 : Int32)), .val (.ref (w 3)), .val (.int (1 : Int32)), .val (.int (1 : Int32))] [(.int (1 : Int32))])) _
    refine XS.ifNo X5.here hx rfl (hb hby at_73) rfl ((if0 _ _).trans (feq (by decide : ¬ ((1 : Int32) = (0 : Int32)))).1) ?_
    show Steps p.tables e below (T5.setTop (mkF m 76 #[.val (.int p0), .val (.int p1), .val (.ref (w 3)), .val (.int (0 : Int32)), .val (.ref (w 3)), .val (.int (1 : Int32)), .val (.int (1 : Int32))] [])) _
    refine XS.iconst X5.here hx rfl (hb hby at_76) ?_
    show Steps p.tables e below (T5.setTop (mkF m 77 #[.val (.int p0), .val (.int p1), .val (.ref (w 3)), .val (.int (0 : Int32)), .val (.ref (w 3)), .val (.int (1 : Int32)), .val (.int (1 : Int32))] [(.int (1 : Int32))])) _
    refine XS.goto X5.here hx rfl (pc0 := 77) (pc' := 81) rfl (hb hby at_77) (by decide) (by decide) ?_
    show Steps p.tables e below (T5.setTop (mkF m 81 #[.val (.int p0), .val (.int p1), .val (.ref (w 3)), .val (.int (0 : Int32)), .val (.ref (w 3)), .val (.int (1 : Int32)), .val (.int (1 : Int32))] [(.int (1 : Int32))])) _
    exact retN X5 hx (t := .boolean) Bd.returns (by simp) (hb hby at_81) hr
  · show OL (some (.int (1 : Int32))) Z.heap.size _ T5.heap _
    exact ⟨rfl, N5⟩
theorem d_method_2_code_25 : decode method_2_code 25 = .ok (.iload_n 1, 1) := by decide +kernel
theorem d_method_2_code_26 : decode method_2_code 26 = .ok (.iconst 2, 1) := by decide +kernel
theorem d_method_2_code_27 : decode method_2_code 27 = .ok (.if_icmp .ne 7, 3) := by decide +kernel
theorem d_method_2_code_30 : decode method_2_code 30 = .ok (.getstatic 17, 3) := by decide +kernel
theorem d_method_2_code_33 : decode method_2_code 33 = .ok (.areturn, 1) := by decide +kernel
set_option maxRecDepth 65536 in
set_option maxHeartbeats 40000000 in
theorem rm_23 (l : Launch) (Z : State) (a0 : Array Value) (hw : ∀ d ∈ tables_1, d.before a0 Z = true) (w : Nat → Addr) (kk : Nat → ClassId) (hN : Wd Z w kk) (ws : List Jvm.Cond) (p0 : Int32) (h0 : Heap) (O0 : Old Z Z.heap.size h0) (hp0 : ((p0 &&& (2147483647 : Int32)) % (6 : Int32)) = (2 : Int32)) :
    MetFree l (⟨"org/cartulary/repository/OperatorSwappedPinLaw", "pick", "(I)Lorg/cartulary/repository/Condition$Operator;"⟩ : MethodName) (head1 (Jvm.Cond.code (⟨"org/cartulary/repository/OperatorSwappedPinLaw", "pick", "(I)Lorg/cartulary/repository/Condition$Operator;"⟩ : MethodName) method_2_code 2 (some (.object "org/cartulary/repository/Condition$Operator")) :: ws) ({ frames := 0, cells := 0, slots := 0, locals := 0 } : Room)) (fun a U => a = #[(.int p0)] ∧ Z.Warmed39 U.vm ∧ U.heap = h0) (fun _ _ _ _ _ => True) (fun _ U o U' => ∃ v L, o = .returned v ∧ OQ (some (.ref (w 1))) h0 Z.heap.size v U'.heap L ∧ FrameEnd U o U' L ({ frames := 0, cells := 0, slots := 0, locals := 0 } : Room).cells ({ frames := 0, cells := 0, slots := 0, locals := 0 } : Room).slots) := by
  have hN' := hN
  obtain ⟨hS0, hE0, hS1, hE1, hS2, hE2, hS3, hE3, hS4, hE4, hS5, hE5, hF0_ordinal, hF1_ordinal, hF2_ordinal, hF3_ordinal, hF4_ordinal, hF5_ordinal⟩ := hN'
  refine MetFree.of_bodySF (plainFor_of_name pn_0) hisR ?_
  intro p e s m args below meth c s₁ Bd hml0 hP hK
  obtain ⟨rfl, hZ, hh⟩ := hP
  have hx := Bd.exec
  have hby := Bd.bytes
  have hml : c.maxLocals = 2 := hml0
  have hown : s.vm.findClass "org/cartulary/repository/OperatorSwappedPinLaw" = some m.cls := findClass_of_methodNamed Bd.named
  have hnm := (name_of_methodNamed Bd.named Bd.method).1
  have X0 : Stand p l e ({ frames := 0, cells := 0, slots := 0, locals := 0 } : Room) s m #[(.int p0)] below meth c s₁ [] 0 0 := Stand.of_body Bd
  have e0 : s₁.heap = h0 := by rw [← hh, Bd.state]; rfl
  have N0 := Fr.nil Z.heap.size
  have pre0 : ∀ t, Steps p.tables e below (s₁.setTop (mkF m 0 #[.val (.int p0), .unset] [])) t → Steps p.tables e below (s₁.setTop (entryFrame m #[(.int p0)] 2)) t := fun t k => castTop (ef_0 m (.int p0) rfl) k
  obtain ⟨T1, X1, e1, st1⟩ := getS2 X0 hx hZ hown (host := "") (Or.inl (W hw 27 rfl)) Via.refl e0 (hS1.ext O0.2) (g := (mkF m 30 #[.val (.int p0), .val (.int (2 : Int32))] [])) rfl (hb hby d_method_2_code_30)
  obtain ⟨fs, hr, hrun, hended, hW, hsame⟩ := X1.leave (v := some (.ref (w 1))) (fun h => by rw [Bd.returns] at h; cases h)
  refine ⟨_, _, pre0 _ ?_, hrun, hended, _, _, rfl, ?_, ⟨_, rfl⟩, hW, hsame.mono (by decide) (by decide)⟩
  · show Steps p.tables e below (s₁.setTop (mkF m 0 #[.val (.int p0), .unset] [])) _
    refine XS.iloadN X0.here hx rfl (hb hby d_method_2_code_0) rfl ?_
    show Steps p.tables e below (s₁.setTop (mkF m 1 #[.val (.int p0), .unset] [(.int p0)])) _
    refine X0.ldcInt hx hown (mvT hZ (W hw 4 rfl)) (g := (mkF m 1 #[.val (.int p0), .unset] [(.int p0)])) rfl (hb hby d_method_2_code_1) _ ?_
    show Steps p.tables e below (s₁.setTop (mkF m 3 #[.val (.int p0), .unset] [(.int (2147483647 : Int32)), (.int p0)])) _
    refine XS.iand X0.here hx rfl (hb hby d_method_2_code_3) rfl ?_
    show Steps p.tables e below (s₁.setTop (mkF m 4 #[.val (.int p0), .unset] [(.int (p0 &&& (2147483647 : Int32)))])) _
    refine XS.bipush X0.here hx rfl (hb hby d_method_2_code_4) ?_
    show Steps p.tables e below (s₁.setTop (mkF m 6 #[.val (.int p0), .unset] [(.int (6 : Int32)), (.int (p0 &&& (2147483647 : Int32)))])) _
    refine iremM X0 hx rfl (hb hby d_method_2_code_6) rfl (by decide : ¬ ((6 : Int32) = (0 : Int32))) ?_
    show Steps p.tables e below (s₁.setTop (mkF m 7 #[.val (.int p0), .unset] [(.int ((p0 &&& (2147483647 : Int32)) % (6 : Int32)))])) _
    rw [hp0]
    show Steps p.tables e below (s₁.setTop (mkF m 7 #[.val (.int p0), .unset] [(.int (2 : Int32))])) _
    refine XS.istoreN X0.here hx rfl (hb hby d_method_2_code_7) rfl (l' := #[.val (.int p0), .val (.int (2 : Int32))]) rfl ?_
    show Steps p.tables e below (s₁.setTop (mkF m 8 #[.val (.int p0), .val (.int (2 : Int32))] [])) _
    refine XS.iloadN X0.here hx rfl (hb hby d_method_2_code_8) rfl ?_
    show Steps p.tables e below (s₁.setTop (mkF m 9 #[.val (.int p0), .val (.int (2 : Int32))] [(.int (2 : Int32))])) _
    refine XS.ifYes X0.here hx rfl (pc0 := 9) (pc' := 16) rfl (hb hby d_method_2_code_9) rfl ((if0 _ _).trans (feq (by decide : ¬ ((2 : Int32) = (0 : Int32)))).2) (by decide) (by decide) ?_
    show Steps p.tables e below (s₁.setTop (mkF m 16 #[.val (.int p0), .val (.int (2 : Int32))] [])) _
    refine XS.iloadN X0.here hx rfl (hb hby d_method_2_code_16) rfl ?_
    show Steps p.tables e below (s₁.setTop (mkF m 17 #[.val (.int p0), .val (.int (2 : Int32))] [(.int (2 : Int32))])) _
    refine XS.iconst X0.here hx rfl (hb hby d_method_2_code_17) ?_
    show Steps p.tables e below (s₁.setTop (mkF m 18 #[.val (.int p0), .val (.int (2 : Int32))] [(.int (1 : Int32)), (.int (2 : Int32))])) _
    refine XS.icmpYes X0.here hx rfl (pc0 := 18) (pc' := 25) rfl (hb hby d_method_2_code_18) rfl (feq (by decide : ¬ ((2 : Int32) = (1 : Int32)))).2 (by decide) (by decide) ?_
    show Steps p.tables e below (s₁.setTop (mkF m 25 #[.val (.int p0), .val (.int (2 : Int32))] [])) _
    refine XS.iloadN X0.here hx rfl (hb hby d_method_2_code_25) rfl ?_
    show Steps p.tables e below (s₁.setTop (mkF m 26 #[.val (.int p0), .val (.int (2 : Int32))] [(.int (2 : Int32))])) _
    refine XS.iconst X0.here hx rfl (hb hby d_method_2_code_26) ?_
    show Steps p.tables e below (s₁.setTop (mkF m 27 #[.val (.int p0), .val (.int (2 : Int32))] [(.int (2 : Int32)), (.int (2 : Int32))])) _
    refine XS.icmpNo X0.here hx rfl (hb hby d_method_2_code_27) rfl (teq (by decide : (2 : Int32) = (2 : Int32))).2 ?_
    show Steps p.tables e below (s₁.setTop (mkF m 30 #[.val (.int p0), .val (.int (2 : Int32))] [])) _
    refine st1 _ ?_
    show Steps p.tables e below (T1.setTop (mkF m 33 #[.val (.int p0), .val (.int (2 : Int32))] [(.ref (w 1))])) _
    exact retOut X1 hx Bd.returns rfl (Or.inr (Or.inr (Or.inr (Or.inr ⟨rfl, rfl, rfl⟩)))) (hb hby d_method_2_code_33) hr
  · show OQ (some (.ref (w 1))) h0 Z.heap.size _ T1.heap _
    rw [e1]
    exact ⟨rfl, N0, rfl⟩
set_option maxRecDepth 65536 in
set_option maxHeartbeats 40000000 in
theorem rm_24 (l : Launch) (Z : State) (a0 : Array Value) (hw : ∀ d ∈ tables_1, d.before a0 Z = true) (w : Nat → Addr) (kk : Nat → ClassId) (hN : Wd Z w kk) (ws : List Jvm.Cond)  (h0 : Heap) (O0 : Old Z Z.heap.size h0) :
    MetFree l (⟨"java/lang/Enum", "ordinal", "()I"⟩ : MethodName) (head1 (Jvm.Cond.code (⟨"java/lang/Enum", "ordinal", "()I"⟩ : MethodName) jdk_37_method_2_code 1 (some .int) :: ws) ({ frames := 0, cells := 0, slots := 0, locals := 0 } : Room)) (fun a U => a = #[(.ref (w 1))] ∧ Z.Warmed39 U.vm ∧ U.heap = h0) (fun _ _ _ _ _ => True) (fun _ U o U' => ∃ v L, o = .returned v ∧ OQ (some (.int (2 : Int32))) h0 Z.heap.size v U'.heap L ∧ FrameEnd U o U' L ({ frames := 0, cells := 0, slots := 0, locals := 0 } : Room).cells ({ frames := 0, cells := 0, slots := 0, locals := 0 } : Room).slots) := by
  have hN' := hN
  obtain ⟨hS0, hE0, hS1, hE1, hS2, hE2, hS3, hE3, hS4, hE4, hS5, hE5, hF0_ordinal, hF1_ordinal, hF2_ordinal, hF3_ordinal, hF4_ordinal, hF5_ordinal⟩ := hN'
  refine MetFree.of_bodySF (plainFor_of_name pn_1) hisR ?_
  intro p e s m args below meth c s₁ Bd hml0 hP hK
  obtain ⟨rfl, hZ, hh⟩ := hP
  have hx := Bd.exec
  have hby := Bd.bytes
  have hml : c.maxLocals = 1 := hml0
  have hown : s.vm.findClass "java/lang/Enum" = some m.cls := findClass_of_methodNamed Bd.named
  have hnm := (name_of_methodNamed Bd.named Bd.method).1
  have X0 : Stand p l e ({ frames := 0, cells := 0, slots := 0, locals := 0 } : Room) s m #[(.ref (w 1))] below meth c s₁ [] 0 0 := Stand.of_body Bd
  have e0 : s₁.heap = h0 := by rw [← hh, Bd.state]; rfl
  have N0 := Fr.nil Z.heap.size
  have pre0 : ∀ t, Steps p.tables e below (s₁.setTop (mkF m 0 #[.val (.ref (w 1))] [])) t → Steps p.tables e below (s₁.setTop (entryFrame m #[(.ref (w 1))] 1)) t := fun t k => castTop (ef_1 m (.ref (w 1)) rfl) k
  obtain ⟨T1, X1, e1, st1⟩ := getF X0 hx hZ hown (host := "") (Or.inl (W hw 20 rfl)) Via.refl e0 (hF1_ordinal.ext O0.2) (g := (mkF m 1 #[.val (.ref (w 1))] [(.ref (w 1))])) rfl rfl (hb hby d_jdk_37_method_2_code_1)
  obtain ⟨fs, hr, hrun, hended, hW, hsame⟩ := X1.leave (v := some (.int (2 : Int32))) (fun h => by rw [Bd.returns] at h; cases h)
  refine ⟨_, _, pre0 _ ?_, hrun, hended, _, _, rfl, ?_, ⟨_, rfl⟩, hW, hsame.mono (by decide) (by decide)⟩
  · show Steps p.tables e below (s₁.setTop (mkF m 0 #[.val (.ref (w 1))] [])) _
    refine XS.aloadN X0.here hx rfl (hb hby d_jdk_37_method_2_code_0) rfl rfl ?_
    show Steps p.tables e below (s₁.setTop (mkF m 1 #[.val (.ref (w 1))] [(.ref (w 1))])) _
    refine st1 _ ?_
    show Steps p.tables e below (T1.setTop (mkF m 4 #[.val (.ref (w 1))] [(.int (2 : Int32))])) _
    exact retI X1 hx Bd.returns (hb hby d_jdk_37_method_2_code_4) hr
  · show OQ (some (.int (2 : Int32))) h0 Z.heap.size _ T1.heap _
    rw [e1]
    exact ⟨rfl, N0, rfl⟩
theorem d_prog_67_method_6_code_58 : decode prog_67_method_6_code 58 = .ok (.getstatic 16, 3) := by decide +kernel
theorem d_prog_67_method_6_code_61 : decode prog_67_method_6_code 61 = .ok (.goto 18, 3) := by decide +kernel
set_option maxRecDepth 65536 in
set_option maxHeartbeats 40000000 in
theorem rm_25 (l : Launch) (Z : State) (a0 : Array Value) (hw : ∀ d ∈ tables_1, d.before a0 Z = true) (w : Nat → Addr) (kk : Nat → ClassId) (hN : Wd Z w kk) (ws : List Jvm.Cond)  (h0 : Heap) (O0 : Old Z Z.heap.size h0) :
    MetFree l (⟨"org/cartulary/repository/Condition$Operator", "swapped", "()Lorg/cartulary/repository/Condition$Operator;"⟩ : MethodName) (head1 (Jvm.Cond.code (⟨"org/cartulary/repository/Condition$Operator", "swapped", "()Lorg/cartulary/repository/Condition$Operator;"⟩ : MethodName) prog_67_method_6_code 1 (some (.object "org/cartulary/repository/Condition$Operator")) :: ws) ({ frames := 1, cells := 0, slots := 0, locals := 12 } : Room)) (fun a U => a = #[(.ref (w 1))] ∧ Z.Warmed39 U.vm ∧ U.heap = h0) (fun _ _ _ _ _ => True) (fun _ U o U' => ∃ v L, o = .returned v ∧ OQ (some (.ref (w 2))) h0 Z.heap.size v U'.heap L ∧ FrameEnd U o U' L ({ frames := 1, cells := 0, slots := 0, locals := 12 } : Room).cells ({ frames := 1, cells := 0, slots := 0, locals := 12 } : Room).slots) := by
  have hN' := hN
  obtain ⟨hS0, hE0, hS1, hE1, hS2, hE2, hS3, hE3, hS4, hE4, hS5, hE5, hF0_ordinal, hF1_ordinal, hF2_ordinal, hF3_ordinal, hF4_ordinal, hF5_ordinal⟩ := hN'
  refine MetFree.of_bodySF (plainFor_of_name pn_2) hisR ?_
  intro p e s m args below meth c s₁ Bd hml0 hP hK
  obtain ⟨rfl, hZ, hh⟩ := hP
  have hx := Bd.exec
  have hby := Bd.bytes
  have hml : c.maxLocals = 1 := hml0
  have hown : s.vm.findClass "org/cartulary/repository/Condition$Operator" = some m.cls := findClass_of_methodNamed Bd.named
  have hnm := (name_of_methodNamed Bd.named Bd.method).1
  have X0 : Stand p l e ({ frames := 1, cells := 0, slots := 0, locals := 12 } : Room) s m #[(.ref (w 1))] below meth c s₁ [] 0 0 := Stand.of_body Bd
  have e0 : s₁.heap = h0 := by rw [← hh, Bd.state]; rfl
  have N0 := Fr.nil Z.heap.size
  have pre0 : ∀ t, Steps p.tables e below (s₁.setTop (mkF m 0 #[.val (.ref (w 1))] [])) t → Steps p.tables e below (s₁.setTop (entryFrame m #[(.ref (w 1))] 1)) t := fun t k => castTop (ef_1 m (.ref (w 1)) rfl) k
  obtain ⟨cq1, kq1, q1a, q1b, q1c⟩ := isOf hZ e0 (hE1.ext O0.2)
  obtain ⟨_, _, ⟨T1, L1, k1, n1⟩, -, X1, ⟨Lc1, hQ1, l1, y1, z1⟩, st1⟩ := X0.virtualBackUp hx (x := (⟨"org/cartulary/repository/Condition$Operator", "ordinal", "()I"⟩ : MethodName)) (y := (⟨"java/lang/Enum", "ordinal", "()I"⟩ : MethodName)) (owner := "java/lang/Enum") hown (mvT hZ (W hw 13 rfl)) (mvT hZ (W hw 14 rfl)) (mvT hZ (W hw 15 rfl)) (by decide) (mvT hZ (W hw 17 rfl)) (mvT hZ (W hw 16 rfl)) (backOf (W := 0) (rm_24 l Z a0 hw w kk hN [] h0 O0) hZ (W hw 19 rfl) (W hw 18 rfl) (by decide) (by decide)) q1a q1c (g := (mkF m 1 #[.val (.ref (w 1))] [(.ref (w 1))])) rfl (by rw [hml]; rfl) (Steps.refl _) (argsL := []) (rest := []) (lenOf pd_1 rfl) rfl (by show 2 * 0 + _ ≤ _; exact Nat.le_of_eq rfl) (hb hby d_prog_67_method_6_code_1) (fun _ _ => ⟨rfl, e0, (by decide : 0 + 0 ≤ _), (by decide : 0 + 0 ≤ _)⟩)
  dsimp only [Pt.U, Pt.locs, Pt.cells, Pt.slots] at X1 l1 y1 z1 st1 hQ1
  subst l1 y1 z1
  obtain ⟨rfl, N1q, e1⟩ := hQ1
  have N1 := Fr.app N0 N1q
  obtain ⟨T2, X2, e2, st2⟩ := getS2 X1 hx hZ hown (host := "") (Or.inl (W hw 29 rfl)) Via.refl e1 (hS2.ext O0.2) (g := (mkF m 58 #[.val (.ref (w 1))] [])) rfl (hb hby d_prog_67_method_6_code_58)
  obtain ⟨fs, hr, hrun, hended, hW, hsame⟩ := X2.leave (v := some (.ref (w 2))) (fun h => by rw [Bd.returns] at h; cases h)
  refine ⟨_, _, pre0 _ ?_, hrun, hended, _, _, rfl, ?_, ⟨_, rfl⟩, hW, hsame.mono (by decide) (by decide)⟩
  · show Steps p.tables e below (s₁.setTop (mkF m 0 #[.val (.ref (w 1))] [])) _
    refine XS.aloadN X0.here hx rfl (hb hby d_prog_67_method_6_code_0) rfl rfl ?_
    show Steps p.tables e below (s₁.setTop (mkF m 1 #[.val (.ref (w 1))] [(.ref (w 1))])) _
    refine st1.trans ?_
    show Steps p.tables e below (T1.setTop (mkF m 4 #[.val (.ref (w 1))] [(.int (2 : Int32))])) _
    refine XS.tswIn X1.here hx rfl (pc0 := 4) (pc' := 58) (o := 54) rfl (hb hby d_prog_67_method_6_code_4) rfl (by decide) (by decide) (by decide) (by decide) ?_
    show Steps p.tables e below (T1.setTop (mkF m 58 #[.val (.ref (w 1))] [])) _
    refine st2 _ ?_
    show Steps p.tables e below (T2.setTop (mkF m 61 #[.val (.ref (w 1))] [(.ref (w 2))])) _
    refine XS.goto X2.here hx rfl (pc0 := 61) (pc' := 79) rfl (hb hby d_prog_67_method_6_code_61) (by decide) (by decide) ?_
    show Steps p.tables e below (T2.setTop (mkF m 79 #[.val (.ref (w 1))] [(.ref (w 2))])) _
    exact retOut X2 hx Bd.returns rfl (Or.inr (Or.inr (Or.inr (Or.inr ⟨rfl, rfl, rfl⟩)))) (hb hby d_prog_67_method_6_code_79) hr
  · show OQ (some (.ref (w 2))) h0 Z.heap.size _ T2.heap _
    rw [e2]
    exact ⟨rfl, N1, rfl⟩
set_option maxRecDepth 65536 in
set_option maxHeartbeats 40000000 in
theorem rm_26 (l : Launch) (Z : State) (a0 : Array Value) (hw : ∀ d ∈ tables_1, d.before a0 Z = true) (w : Nat → Addr) (kk : Nat → ClassId) (hN : Wd Z w kk) (ws : List Jvm.Cond)  (h0 : Heap) (O0 : Old Z Z.heap.size h0) :
    MetFree l (⟨"java/lang/Enum", "ordinal", "()I"⟩ : MethodName) (head1 (Jvm.Cond.code (⟨"java/lang/Enum", "ordinal", "()I"⟩ : MethodName) jdk_37_method_2_code 1 (some .int) :: ws) ({ frames := 0, cells := 0, slots := 0, locals := 0 } : Room)) (fun a U => a = #[(.ref (w 2))] ∧ Z.Warmed39 U.vm ∧ U.heap = h0) (fun _ _ _ _ _ => True) (fun _ U o U' => ∃ v L, o = .returned v ∧ OQ (some (.int (4 : Int32))) h0 Z.heap.size v U'.heap L ∧ FrameEnd U o U' L ({ frames := 0, cells := 0, slots := 0, locals := 0 } : Room).cells ({ frames := 0, cells := 0, slots := 0, locals := 0 } : Room).slots) := by
  have hN' := hN
  obtain ⟨hS0, hE0, hS1, hE1, hS2, hE2, hS3, hE3, hS4, hE4, hS5, hE5, hF0_ordinal, hF1_ordinal, hF2_ordinal, hF3_ordinal, hF4_ordinal, hF5_ordinal⟩ := hN'
  refine MetFree.of_bodySF (plainFor_of_name pn_1) hisR ?_
  intro p e s m args below meth c s₁ Bd hml0 hP hK
  obtain ⟨rfl, hZ, hh⟩ := hP
  have hx := Bd.exec
  have hby := Bd.bytes
  have hml : c.maxLocals = 1 := hml0
  have hown : s.vm.findClass "java/lang/Enum" = some m.cls := findClass_of_methodNamed Bd.named
  have hnm := (name_of_methodNamed Bd.named Bd.method).1
  have X0 : Stand p l e ({ frames := 0, cells := 0, slots := 0, locals := 0 } : Room) s m #[(.ref (w 2))] below meth c s₁ [] 0 0 := Stand.of_body Bd
  have e0 : s₁.heap = h0 := by rw [← hh, Bd.state]; rfl
  have N0 := Fr.nil Z.heap.size
  have pre0 : ∀ t, Steps p.tables e below (s₁.setTop (mkF m 0 #[.val (.ref (w 2))] [])) t → Steps p.tables e below (s₁.setTop (entryFrame m #[(.ref (w 2))] 1)) t := fun t k => castTop (ef_1 m (.ref (w 2)) rfl) k
  obtain ⟨T1, X1, e1, st1⟩ := getF X0 hx hZ hown (host := "") (Or.inl (W hw 20 rfl)) Via.refl e0 (hF2_ordinal.ext O0.2) (g := (mkF m 1 #[.val (.ref (w 2))] [(.ref (w 2))])) rfl rfl (hb hby d_jdk_37_method_2_code_1)
  obtain ⟨fs, hr, hrun, hended, hW, hsame⟩ := X1.leave (v := some (.int (4 : Int32))) (fun h => by rw [Bd.returns] at h; cases h)
  refine ⟨_, _, pre0 _ ?_, hrun, hended, _, _, rfl, ?_, ⟨_, rfl⟩, hW, hsame.mono (by decide) (by decide)⟩
  · show Steps p.tables e below (s₁.setTop (mkF m 0 #[.val (.ref (w 2))] [])) _
    refine XS.aloadN X0.here hx rfl (hb hby d_jdk_37_method_2_code_0) rfl rfl ?_
    show Steps p.tables e below (s₁.setTop (mkF m 1 #[.val (.ref (w 2))] [(.ref (w 2))])) _
    refine st1 _ ?_
    show Steps p.tables e below (T1.setTop (mkF m 4 #[.val (.ref (w 2))] [(.int (4 : Int32))])) _
    exact retI X1 hx Bd.returns (hb hby d_jdk_37_method_2_code_4) hr
  · show OQ (some (.int (4 : Int32))) h0 Z.heap.size _ T1.heap _
    rw [e1]
    exact ⟨rfl, N0, rfl⟩
theorem d_prog_67_method_5_code_102 : decode prog_67_method_5_code 102 = .ok (.iload_n 1, 1) := by decide +kernel
theorem d_prog_67_method_5_code_103 : decode prog_67_method_5_code 103 = .ok (.ifCond .le 7, 3) := by decide +kernel
theorem d_prog_67_method_5_code_110 : decode prog_67_method_5_code 110 = .ok (.iconst 0, 1) := by decide +kernel
theorem d_prog_67_method_5_code_111 : decode prog_67_method_5_code 111 = .ok (.goto 12, 3) := by decide +kernel
set_option maxRecDepth 65536 in
set_option maxHeartbeats 40000000 in
theorem rm_27 (l : Launch) (Z : State) (a0 : Array Value) (hw : ∀ d ∈ tables_1, d.before a0 Z = true) (w : Nat → Addr) (kk : Nat → ClassId) (hN : Wd Z w kk) (ws : List Jvm.Cond)  (h0 : Heap) (O0 : Old Z Z.heap.size h0) :
    MetFree l (⟨"org/cartulary/repository/Condition$Operator", "holds", "(I)Z"⟩ : MethodName) (head1 (Jvm.Cond.code (⟨"org/cartulary/repository/Condition$Operator", "holds", "(I)Z"⟩ : MethodName) prog_67_method_5_code 2 (some .boolean) :: ws) ({ frames := 1, cells := 0, slots := 0, locals := 12 } : Room)) (fun a U => a = #[(.ref (w 2)), (.int (-1 : Int32))] ∧ Z.Warmed39 U.vm ∧ U.heap = h0) (fun _ _ _ _ _ => True) (fun _ U o U' => ∃ v L, o = .returned v ∧ OQ (some (.int (0 : Int32))) h0 Z.heap.size v U'.heap L ∧ FrameEnd U o U' L ({ frames := 1, cells := 0, slots := 0, locals := 12 } : Room).cells ({ frames := 1, cells := 0, slots := 0, locals := 12 } : Room).slots) := by
  have hN' := hN
  obtain ⟨hS0, hE0, hS1, hE1, hS2, hE2, hS3, hE3, hS4, hE4, hS5, hE5, hF0_ordinal, hF1_ordinal, hF2_ordinal, hF3_ordinal, hF4_ordinal, hF5_ordinal⟩ := hN'
  refine MetFree.of_bodySF (plainFor_of_name pn_2) hisR ?_
  intro p e s m args below meth c s₁ Bd hml0 hP hK
  obtain ⟨rfl, hZ, hh⟩ := hP
  have hx := Bd.exec
  have hby := Bd.bytes
  have hml : c.maxLocals = 2 := hml0
  have hown : s.vm.findClass "org/cartulary/repository/Condition$Operator" = some m.cls := findClass_of_methodNamed Bd.named
  have hnm := (name_of_methodNamed Bd.named Bd.method).1
  have X0 : Stand p l e ({ frames := 1, cells := 0, slots := 0, locals := 12 } : Room) s m #[(.ref (w 2)), (.int (-1 : Int32))] below meth c s₁ [] 0 0 := Stand.of_body Bd
  have e0 : s₁.heap = h0 := by rw [← hh, Bd.state]; rfl
  have N0 := Fr.nil Z.heap.size
  have pre0 : ∀ t, Steps p.tables e below (s₁.setTop (mkF m 0 #[.val (.ref (w 2)), .val (.int (-1 : Int32))] [])) t → Steps p.tables e below (s₁.setTop (entryFrame m #[(.ref (w 2)), (.int (-1 : Int32))] 2)) t := fun t k => castTop (ef_2 m (.ref (w 2)) rfl (.int (-1 : Int32)) rfl) k
  obtain ⟨cq1, kq1, q1a, q1b, q1c⟩ := isOf hZ e0 (hE2.ext O0.2)
  obtain ⟨_, _, ⟨T1, L1, k1, n1⟩, -, X1, ⟨Lc1, hQ1, l1, y1, z1⟩, st1⟩ := X0.virtualBackUp hx (x := (⟨"org/cartulary/repository/Condition$Operator", "ordinal", "()I"⟩ : MethodName)) (y := (⟨"java/lang/Enum", "ordinal", "()I"⟩ : MethodName)) (owner := "java/lang/Enum") hown (mvT hZ (W hw 13 rfl)) (mvT hZ (W hw 14 rfl)) (mvT hZ (W hw 15 rfl)) (by decide) (mvT hZ (W hw 17 rfl)) (mvT hZ (W hw 16 rfl)) (backOf (W := 0) (rm_26 l Z a0 hw w kk hN [] h0 O0) hZ (W hw 19 rfl) (W hw 18 rfl) (by decide) (by decide)) q1a q1c (g := (mkF m 1 #[.val (.ref (w 2)), .val (.int (-1 : Int32))] [(.ref (w 2))])) rfl (by rw [hml]; rfl) (Steps.refl _) (argsL := []) (rest := []) (lenOf pd_1 rfl) rfl (by show 2 * 0 + _ ≤ _; exact Nat.le_of_eq rfl) (hb hby d_prog_67_method_5_code_1) (fun _ _ => ⟨rfl, e0, (by decide : 0 + 0 ≤ _), (by decide : 0 + 0 ≤ _)⟩)
  dsimp only [Pt.U, Pt.locs, Pt.cells, Pt.slots] at X1 l1 y1 z1 st1 hQ1
  subst l1 y1 z1
  obtain ⟨rfl, N1q, e1⟩ := hQ1
  have N1 := Fr.app N0 N1q
  obtain ⟨fs, hr, hrun, hended, hW, hsame⟩ := X1.leave (v := some (.int (0 : Int32))) (fun h => by rw [Bd.returns] at h; cases h)
  refine ⟨_, _, pre0 _ ?_, hrun, hended, _, _, rfl, ?_, ⟨_, rfl⟩, hW, hsame.mono (by decide) (by decide)⟩
  · show Steps p.tables e below (s₁.setTop (mkF m 0 #[.val (.ref (w 2)), .val (.int (-1 : Int32))] [])) _
    refine XS.aloadN X0.here hx rfl (hb hby d_prog_67_method_5_code_0) rfl rfl ?_
    show Steps p.tables e below (s₁.setTop (mkF m 1 #[.val (.ref (w 2)), .val (.int (-1 : Int32))] [(.ref (w 2))])) _
    refine st1.trans ?_
    show Steps p.tables e below (T1.setTop (mkF m 4 #[.val (.ref (w 2)), .val (.int (-1 : Int32))] [(.int (4 : Int32))])) _
    refine XS.tswIn X1.here hx rfl (pc0 := 4) (pc' := 102) (o := 98) rfl (hb hby d_prog_67_method_5_code_4) rfl (by decide) (by decide) (by decide) (by decide) ?_
    show Steps p.tables e below (T1.setTop (mkF m 102 #[.val (.ref (w 2)), .val (.int (-1 : Int32))] [])) _
    refine XS.iloadN X1.here hx rfl (hb hby d_prog_67_method_5_code_102) rfl ?_
    show Steps p.tables e below (T1.setTop (mkF m 103 #[.val (.ref (w 2)), .val (.int (-1 : Int32))] [(.int (-1 : Int32))])) _
    refine XS.ifYes X1.here hx rfl (pc0 := 103) (pc' := 110) rfl (hb hby d_prog_67_method_5_code_103) rfl ((if0 _ _).trans (flt (by decide : ¬ ((0 : Int32) < (-1 : Int32)))).2.2.2) (by decide) (by decide) ?_
    show Steps p.tables e below (T1.setTop (mkF m 110 #[.val (.ref (w 2)), .val (.int (-1 : Int32))] [])) _
    refine XS.iconst X1.here hx rfl (hb hby d_prog_67_method_5_code_110) ?_
    show Steps p.tables e below (T1.setTop (mkF m 111 #[.val (.ref (w 2)), .val (.int (-1 : Int32))] [(.int (0 : Int32))])) _
    refine XS.goto X1.here hx rfl (pc0 := 111) (pc' := 123) rfl (hb hby d_prog_67_method_5_code_111) (by decide) (by decide) ?_
    show Steps p.tables e below (T1.setTop (mkF m 123 #[.val (.ref (w 2)), .val (.int (-1 : Int32))] [(.int (0 : Int32))])) _
    exact retN X1 hx (t := .boolean) Bd.returns (by simp) (hb hby d_prog_67_method_5_code_123) hr
  · show OQ (some (.int (0 : Int32))) h0 Z.heap.size _ T1.heap _
    rw [e1]
    exact ⟨rfl, N1, rfl⟩
theorem d_prog_67_method_5_code_78 : decode prog_67_method_5_code 78 = .ok (.iload_n 1, 1) := by decide +kernel
theorem d_prog_67_method_5_code_79 : decode prog_67_method_5_code 79 = .ok (.ifCond .ge 7, 3) := by decide +kernel
theorem d_prog_67_method_5_code_86 : decode prog_67_method_5_code 86 = .ok (.iconst 0, 1) := by decide +kernel
theorem d_prog_67_method_5_code_87 : decode prog_67_method_5_code 87 = .ok (.goto 36, 3) := by decide +kernel
set_option maxRecDepth 65536 in
set_option maxHeartbeats 40000000 in
theorem rm_28 (l : Launch) (Z : State) (a0 : Array Value) (hw : ∀ d ∈ tables_1, d.before a0 Z = true) (w : Nat → Addr) (kk : Nat → ClassId) (hN : Wd Z w kk) (ws : List Jvm.Cond) (p1 : Int32) (h0 : Heap) (O0 : Old Z Z.heap.size h0) (hp0 : ¬ (p1 < (0 : Int32))) :
    MetFree l (⟨"org/cartulary/repository/Condition$Operator", "holds", "(I)Z"⟩ : MethodName) (head1 (Jvm.Cond.code (⟨"org/cartulary/repository/Condition$Operator", "holds", "(I)Z"⟩ : MethodName) prog_67_method_5_code 2 (some .boolean) :: ws) ({ frames := 1, cells := 0, slots := 0, locals := 12 } : Room)) (fun a U => a = #[(.ref (w 1)), (.int p1)] ∧ Z.Warmed39 U.vm ∧ U.heap = h0) (fun _ _ _ _ _ => True) (fun _ U o U' => ∃ v L, o = .returned v ∧ OQ (some (.int (0 : Int32))) h0 Z.heap.size v U'.heap L ∧ FrameEnd U o U' L ({ frames := 1, cells := 0, slots := 0, locals := 12 } : Room).cells ({ frames := 1, cells := 0, slots := 0, locals := 12 } : Room).slots) := by
  have hN' := hN
  obtain ⟨hS0, hE0, hS1, hE1, hS2, hE2, hS3, hE3, hS4, hE4, hS5, hE5, hF0_ordinal, hF1_ordinal, hF2_ordinal, hF3_ordinal, hF4_ordinal, hF5_ordinal⟩ := hN'
  refine MetFree.of_bodySF (plainFor_of_name pn_2) hisR ?_
  intro p e s m args below meth c s₁ Bd hml0 hP hK
  obtain ⟨rfl, hZ, hh⟩ := hP
  have hx := Bd.exec
  have hby := Bd.bytes
  have hml : c.maxLocals = 2 := hml0
  have hown : s.vm.findClass "org/cartulary/repository/Condition$Operator" = some m.cls := findClass_of_methodNamed Bd.named
  have hnm := (name_of_methodNamed Bd.named Bd.method).1
  have X0 : Stand p l e ({ frames := 1, cells := 0, slots := 0, locals := 12 } : Room) s m #[(.ref (w 1)), (.int p1)] below meth c s₁ [] 0 0 := Stand.of_body Bd
  have e0 : s₁.heap = h0 := by rw [← hh, Bd.state]; rfl
  have N0 := Fr.nil Z.heap.size
  have pre0 : ∀ t, Steps p.tables e below (s₁.setTop (mkF m 0 #[.val (.ref (w 1)), .val (.int p1)] [])) t → Steps p.tables e below (s₁.setTop (entryFrame m #[(.ref (w 1)), (.int p1)] 2)) t := fun t k => castTop (ef_2 m (.ref (w 1)) rfl (.int p1) rfl) k
  obtain ⟨cq1, kq1, q1a, q1b, q1c⟩ := isOf hZ e0 (hE1.ext O0.2)
  obtain ⟨_, _, ⟨T1, L1, k1, n1⟩, -, X1, ⟨Lc1, hQ1, l1, y1, z1⟩, st1⟩ := X0.virtualBackUp hx (x := (⟨"org/cartulary/repository/Condition$Operator", "ordinal", "()I"⟩ : MethodName)) (y := (⟨"java/lang/Enum", "ordinal", "()I"⟩ : MethodName)) (owner := "java/lang/Enum") hown (mvT hZ (W hw 13 rfl)) (mvT hZ (W hw 14 rfl)) (mvT hZ (W hw 15 rfl)) (by decide) (mvT hZ (W hw 17 rfl)) (mvT hZ (W hw 16 rfl)) (backOf (W := 0) (rm_24 l Z a0 hw w kk hN [] h0 O0) hZ (W hw 19 rfl) (W hw 18 rfl) (by decide) (by decide)) q1a q1c (g := (mkF m 1 #[.val (.ref (w 1)), .val (.int p1)] [(.ref (w 1))])) rfl (by rw [hml]; rfl) (Steps.refl _) (argsL := []) (rest := []) (lenOf pd_1 rfl) rfl (by show 2 * 0 + _ ≤ _; exact Nat.le_of_eq rfl) (hb hby d_prog_67_method_5_code_1) (fun _ _ => ⟨rfl, e0, (by decide : 0 + 0 ≤ _), (by decide : 0 + 0 ≤ _)⟩)
  dsimp only [Pt.U, Pt.locs, Pt.cells, Pt.slots] at X1 l1 y1 z1 st1 hQ1
  subst l1 y1 z1
  obtain ⟨rfl, N1q, e1⟩ := hQ1
  have N1 := Fr.app N0 N1q
  obtain ⟨fs, hr, hrun, hended, hW, hsame⟩ := X1.leave (v := some (.int (0 : Int32))) (fun h => by rw [Bd.returns] at h; cases h)
  refine ⟨_, _, pre0 _ ?_, hrun, hended, _, _, rfl, ?_, ⟨_, rfl⟩, hW, hsame.mono (by decide) (by decide)⟩
  · show Steps p.tables e below (s₁.setTop (mkF m 0 #[.val (.ref (w 1)), .val (.int p1)] [])) _
    refine XS.aloadN X0.here hx rfl (hb hby d_prog_67_method_5_code_0) rfl rfl ?_
    show Steps p.tables e below (s₁.setTop (mkF m 1 #[.val (.ref (w 1)), .val (.int p1)] [(.ref (w 1))])) _
    refine st1.trans ?_
    show Steps p.tables e below (T1.setTop (mkF m 4 #[.val (.ref (w 1)), .val (.int p1)] [(.int (2 : Int32))])) _
    refine XS.tswIn X1.here hx rfl (pc0 := 4) (pc' := 78) (o := 74) rfl (hb hby d_prog_67_method_5_code_4) rfl (by decide) (by decide) (by decide) (by decide) ?_
    show Steps p.tables e below (T1.setTop (mkF m 78 #[.val (.ref (w 1)), .val (.int p1)] [])) _
    refine XS.iloadN X1.here hx rfl (hb hby d_prog_67_method_5_code_78) rfl ?_
    show Steps p.tables e below (T1.setTop (mkF m 79 #[.val (.ref (w 1)), .val (.int p1)] [(.int p1)])) _
    refine XS.ifYes X1.here hx rfl (pc0 := 79) (pc' := 86) rfl (hb hby d_prog_67_method_5_code_79) rfl ((if0 _ _).trans (flt hp0).2.1) (by decide) (by decide) ?_
    show Steps p.tables e below (T1.setTop (mkF m 86 #[.val (.ref (w 1)), .val (.int p1)] [])) _
    refine XS.iconst X1.here hx rfl (hb hby d_prog_67_method_5_code_86) ?_
    show Steps p.tables e below (T1.setTop (mkF m 87 #[.val (.ref (w 1)), .val (.int p1)] [(.int (0 : Int32))])) _
    refine XS.goto X1.here hx rfl (pc0 := 87) (pc' := 123) rfl (hb hby d_prog_67_method_5_code_87) (by decide) (by decide) ?_
    show Steps p.tables e below (T1.setTop (mkF m 123 #[.val (.ref (w 1)), .val (.int p1)] [(.int (0 : Int32))])) _
    exact retN X1 hx (t := .boolean) Bd.returns (by simp) (hb hby d_prog_67_method_5_code_123) hr
  · show OQ (some (.int (0 : Int32))) h0 Z.heap.size _ T1.heap _
    rw [e1]
    exact ⟨rfl, N1, rfl⟩
theorem d_prog_67_method_6_code_70 : decode prog_67_method_6_code 70 = .ok (.getstatic 10, 3) := by decide +kernel
theorem d_prog_67_method_6_code_73 : decode prog_67_method_6_code 73 = .ok (.goto 6, 3) := by decide +kernel
set_option maxRecDepth 65536 in
set_option maxHeartbeats 40000000 in
theorem rm_29 (l : Launch) (Z : State) (a0 : Array Value) (hw : ∀ d ∈ tables_1, d.before a0 Z = true) (w : Nat → Addr) (kk : Nat → ClassId) (hN : Wd Z w kk) (ws : List Jvm.Cond)  (h0 : Heap) (O0 : Old Z Z.heap.size h0) :
    MetFree l (⟨"org/cartulary/repository/Condition$Operator", "swapped", "()Lorg/cartulary/repository/Condition$Operator;"⟩ : MethodName) (head1 (Jvm.Cond.code (⟨"org/cartulary/repository/Condition$Operator", "swapped", "()Lorg/cartulary/repository/Condition$Operator;"⟩ : MethodName) prog_67_method_6_code 1 (some (.object "org/cartulary/repository/Condition$Operator")) :: ws) ({ frames := 1, cells := 0, slots := 0, locals := 12 } : Room)) (fun a U => a = #[(.ref (w 2))] ∧ Z.Warmed39 U.vm ∧ U.heap = h0) (fun _ _ _ _ _ => True) (fun _ U o U' => ∃ v L, o = .returned v ∧ OQ (some (.ref (w 1))) h0 Z.heap.size v U'.heap L ∧ FrameEnd U o U' L ({ frames := 1, cells := 0, slots := 0, locals := 12 } : Room).cells ({ frames := 1, cells := 0, slots := 0, locals := 12 } : Room).slots) := by
  have hN' := hN
  obtain ⟨hS0, hE0, hS1, hE1, hS2, hE2, hS3, hE3, hS4, hE4, hS5, hE5, hF0_ordinal, hF1_ordinal, hF2_ordinal, hF3_ordinal, hF4_ordinal, hF5_ordinal⟩ := hN'
  refine MetFree.of_bodySF (plainFor_of_name pn_2) hisR ?_
  intro p e s m args below meth c s₁ Bd hml0 hP hK
  obtain ⟨rfl, hZ, hh⟩ := hP
  have hx := Bd.exec
  have hby := Bd.bytes
  have hml : c.maxLocals = 1 := hml0
  have hown : s.vm.findClass "org/cartulary/repository/Condition$Operator" = some m.cls := findClass_of_methodNamed Bd.named
  have hnm := (name_of_methodNamed Bd.named Bd.method).1
  have X0 : Stand p l e ({ frames := 1, cells := 0, slots := 0, locals := 12 } : Room) s m #[(.ref (w 2))] below meth c s₁ [] 0 0 := Stand.of_body Bd
  have e0 : s₁.heap = h0 := by rw [← hh, Bd.state]; rfl
  have N0 := Fr.nil Z.heap.size
  have pre0 : ∀ t, Steps p.tables e below (s₁.setTop (mkF m 0 #[.val (.ref (w 2))] [])) t → Steps p.tables e below (s₁.setTop (entryFrame m #[(.ref (w 2))] 1)) t := fun t k => castTop (ef_1 m (.ref (w 2)) rfl) k
  obtain ⟨cq1, kq1, q1a, q1b, q1c⟩ := isOf hZ e0 (hE2.ext O0.2)
  obtain ⟨_, _, ⟨T1, L1, k1, n1⟩, -, X1, ⟨Lc1, hQ1, l1, y1, z1⟩, st1⟩ := X0.virtualBackUp hx (x := (⟨"org/cartulary/repository/Condition$Operator", "ordinal", "()I"⟩ : MethodName)) (y := (⟨"java/lang/Enum", "ordinal", "()I"⟩ : MethodName)) (owner := "java/lang/Enum") hown (mvT hZ (W hw 13 rfl)) (mvT hZ (W hw 14 rfl)) (mvT hZ (W hw 15 rfl)) (by decide) (mvT hZ (W hw 17 rfl)) (mvT hZ (W hw 16 rfl)) (backOf (W := 0) (rm_26 l Z a0 hw w kk hN [] h0 O0) hZ (W hw 19 rfl) (W hw 18 rfl) (by decide) (by decide)) q1a q1c (g := (mkF m 1 #[.val (.ref (w 2))] [(.ref (w 2))])) rfl (by rw [hml]; rfl) (Steps.refl _) (argsL := []) (rest := []) (lenOf pd_1 rfl) rfl (by show 2 * 0 + _ ≤ _; exact Nat.le_of_eq rfl) (hb hby d_prog_67_method_6_code_1) (fun _ _ => ⟨rfl, e0, (by decide : 0 + 0 ≤ _), (by decide : 0 + 0 ≤ _)⟩)
  dsimp only [Pt.U, Pt.locs, Pt.cells, Pt.slots] at X1 l1 y1 z1 st1 hQ1
  subst l1 y1 z1
  obtain ⟨rfl, N1q, e1⟩ := hQ1
  have N1 := Fr.app N0 N1q
  obtain ⟨T2, X2, e2, st2⟩ := getS2 X1 hx hZ hown (host := "") (Or.inl (W hw 31 rfl)) Via.refl e1 (hS1.ext O0.2) (g := (mkF m 70 #[.val (.ref (w 2))] [])) rfl (hb hby d_prog_67_method_6_code_70)
  obtain ⟨fs, hr, hrun, hended, hW, hsame⟩ := X2.leave (v := some (.ref (w 1))) (fun h => by rw [Bd.returns] at h; cases h)
  refine ⟨_, _, pre0 _ ?_, hrun, hended, _, _, rfl, ?_, ⟨_, rfl⟩, hW, hsame.mono (by decide) (by decide)⟩
  · show Steps p.tables e below (s₁.setTop (mkF m 0 #[.val (.ref (w 2))] [])) _
    refine XS.aloadN X0.here hx rfl (hb hby d_prog_67_method_6_code_0) rfl rfl ?_
    show Steps p.tables e below (s₁.setTop (mkF m 1 #[.val (.ref (w 2))] [(.ref (w 2))])) _
    refine st1.trans ?_
    show Steps p.tables e below (T1.setTop (mkF m 4 #[.val (.ref (w 2))] [(.int (4 : Int32))])) _
    refine XS.tswIn X1.here hx rfl (pc0 := 4) (pc' := 70) (o := 66) rfl (hb hby d_prog_67_method_6_code_4) rfl (by decide) (by decide) (by decide) (by decide) ?_
    show Steps p.tables e below (T1.setTop (mkF m 70 #[.val (.ref (w 2))] [])) _
    refine st2 _ ?_
    show Steps p.tables e below (T2.setTop (mkF m 73 #[.val (.ref (w 2))] [(.ref (w 1))])) _
    refine XS.goto X2.here hx rfl (pc0 := 73) (pc' := 79) rfl (hb hby d_prog_67_method_6_code_73) (by decide) (by decide) ?_
    show Steps p.tables e below (T2.setTop (mkF m 79 #[.val (.ref (w 2))] [(.ref (w 1))])) _
    exact retOut X2 hx Bd.returns rfl (Or.inr (Or.inr (Or.inr (Or.inr ⟨rfl, rfl, rfl⟩)))) (hb hby d_prog_67_method_6_code_79) hr
  · show OQ (some (.ref (w 1))) h0 Z.heap.size _ T2.heap _
    rw [e2]
    exact ⟨rfl, N1, rfl⟩
set_option maxRecDepth 65536 in
set_option maxHeartbeats 40000000 in
theorem law_30 (l : Launch) (Z : State) (a0 : Array Value) (hw : ∀ d ∈ tables_1, d.before a0 Z = true) (w : Nat → Addr) (kk : Nat → ClassId) (hN : Wd Z w kk) (ws : List Jvm.Cond) (p0 : Int32) (p1 : Int32) (h0 : Heap) (O0 : Old Z Z.heap.size h0) (hp0 : ((p0 &&& (2147483647 : Int32)) % (6 : Int32)) = (2 : Int32)) (hp1 : (0 : Int32) < p1) (hp2 : ¬ (p1 < (0 : Int32))) :
    MetFree l x (head1 (Jvm.Cond.code x code maxLocals ret :: ws) room_1) (fun a U => a = #[(.int p0), (.int p1)] ∧ Z.Warmed39 U.vm ∧ U.heap = h0) (fun _ _ _ _ _ => True) (fun _ U o U' => ∃ v L, o = .returned v ∧ OL (some (.int (1 : Int32))) Z.heap.size v U'.heap L ∧ FrameEnd U o U' L 0 0) := by
  have hN' := hN
  obtain ⟨hS0, hE0, hS1, hE1, hS2, hE2, hS3, hE3, hS4, hE4, hS5, hE5, hF0_ordinal, hF1_ordinal, hF2_ordinal, hF3_ordinal, hF4_ordinal, hF5_ordinal⟩ := hN'
  refine MetFree.of_bodySF (plainFor_of_name pn_0) hisR ?_
  intro p e s m args below meth c s₁ Bd hml0 hP hK
  obtain ⟨rfl, hZ, hh⟩ := hP
  have hx := Bd.exec
  have hby := Bd.bytes
  have hml : c.maxLocals = 7 := hml0
  have hown : s.vm.findClass "org/cartulary/repository/OperatorSwappedPinLaw" = some m.cls := findClass_of_methodNamed Bd.named
  have hnm := (name_of_methodNamed Bd.named Bd.method).1
  have X0 : Stand p l e room_1 s m #[(.int p0), (.int p1)] below meth c s₁ [] 0 0 := Stand.of_body Bd
  have e0 : s₁.heap = h0 := by rw [← hh, Bd.state]; rfl
  have N0 := Fr.nil Z.heap.size
  have pre0 : ∀ t, Steps p.tables e below (s₁.setTop (mkF m 0 #[.val (.int p0), .val (.int p1), .unset, .unset, .unset, .unset, .unset] [])) t → Steps p.tables e below (s₁.setTop (entryFrame m #[(.int p0), (.int p1)] maxLocals)) t := fun t k => castTop (ef_3 m (.int p0) rfl (.int p1) rfl) k
  obtain ⟨_, _, ⟨T1, L1, k1, n1⟩, -, X1, ⟨Lc1, hQ1, l1, y1, z1⟩, st1⟩ := Jvm.LawKit.callS X0 hx (y := (⟨"org/cartulary/repository/OperatorSwappedPinLaw", "pick", "(I)Lorg/cartulary/repository/Condition$Operator;"⟩ : MethodName)) hown (mvT hZ (W hw 0 rfl)) (mvT hZ (W hw 1 rfl)) (mvT hZ (W hw 2 rfl)) (mvT hZ (W hw 3 rfl)) (by decide) (backOf (W := 0) (rm_23 l Z a0 hw w kk hN [] p0 h0 O0 hp0) hZ (W hw 3 rfl) (W hw 2 rfl) (by decide) (by decide)) (g := (mkF m 1 #[.val (.int p0), .val (.int p1), .unset, .unset, .unset, .unset, .unset] [(.int p0)])) rfl (by rw [hml]; rfl) (argsL := [(.int p0)]) (rest := []) (lenOf pd_0 rfl) rfl (by show 2 * 0 + _ ≤ _; exact Nat.le_of_eq rfl) (hb hby at_1) (fun _ _ => ⟨rfl, e0, (by decide : 0 + 0 ≤ _), (by decide : 0 + 0 ≤ _)⟩)
  dsimp only [Pt.U, Pt.locs, Pt.cells, Pt.slots] at X1 l1 y1 z1 st1 hQ1
  subst l1 y1 z1
  obtain ⟨rfl, N1q, e1⟩ := hQ1
  have N1 := Fr.app N0 N1q
  obtain ⟨cq2, kq2, q2a, q2b, q2c⟩ := isOf hZ e1 (hE1.ext O0.2)
  obtain ⟨_, _, ⟨T2, L2, k2, n2⟩, -, X2, ⟨Lc2, hQ2, l2, y2, z2⟩, st2⟩ := X1.virtualBack hx (y := (⟨"org/cartulary/repository/Condition$Operator", "swapped", "()Lorg/cartulary/repository/Condition$Operator;"⟩ : MethodName)) (z := (⟨"org/cartulary/repository/Condition$Operator", "swapped", "()Lorg/cartulary/repository/Condition$Operator;"⟩ : MethodName)) hown (mvT hZ (W hw 8 rfl)) (mvT hZ (W hw 9 rfl)) (notFace_of_selects (args := #[]) (mvT hZ (W hw 11 rfl))) (mvT hZ (W hw 11 rfl)) (mvT hZ (W hw 10 rfl)) (by decide) (backOf (W := 0) (rm_25 l Z a0 hw w kk hN [] h0 O0) hZ (W hw 12 rfl) (W hw 6 rfl) (by decide) (by decide)) q2a q2c (g := (mkF m 24 #[.val (.int p0), .val (.int p1), .val (.ref (w 1)), .val (.int (-1 : Int32)), .unset, .unset, .unset] [(.ref (w 1))])) rfl (by rw [hml]; rfl) (Steps.refl _) (argsL := []) (rest := []) (lenOf pd_2 rfl) rfl (by show 2 * 0 + _ ≤ _; exact Nat.le_of_eq rfl) (hb hby at_24) (fun _ _ => ⟨rfl, e1, (by decide : 0 + 0 ≤ _), (by decide : 0 + 0 ≤ _)⟩)
  dsimp only [Pt.U, Pt.locs, Pt.cells, Pt.slots] at X2 l2 y2 z2 st2 hQ2
  subst l2 y2 z2
  obtain ⟨rfl, N2q, e2⟩ := hQ2
  have N2 := Fr.app N1 N2q
  obtain ⟨cq3, kq3, q3a, q3b, q3c⟩ := isOf hZ e2 (hE2.ext O0.2)
  obtain ⟨_, _, ⟨T3, L3, k3, n3⟩, -, X3, ⟨Lc3, hQ3, l3, y3, z3⟩, st3⟩ := X2.virtualBack hx (y := (⟨"org/cartulary/repository/Condition$Operator", "holds", "(I)Z"⟩ : MethodName)) (z := (⟨"org/cartulary/repository/Condition$Operator", "holds", "(I)Z"⟩ : MethodName)) hown (mvT hZ (W hw 22 rfl)) (mvT hZ (W hw 23 rfl)) (notFace_of_selects (args := #[]) (mvT hZ (W hw 25 rfl))) (mvT hZ (W hw 25 rfl)) (mvT hZ (W hw 24 rfl)) (by decide) (backOf (W := 0) (rm_27 l Z a0 hw w kk hN [] h0 O0) hZ (W hw 26 rfl) (W hw 6 rfl) (by decide) (by decide)) q3a q3c (g := (mkF m 32 #[.val (.int p0), .val (.int p1), .val (.ref (w 1)), .val (.int (-1 : Int32)), .val (.ref (w 2)), .unset, .unset] [(.int (-1 : Int32)), (.ref (w 2))])) rfl (by rw [hml]; rfl) (Steps.refl _) (argsL := [(.int (-1 : Int32))]) (rest := []) (lenOf pd_3 rfl) rfl (by show 2 * 0 + _ ≤ _; exact Nat.le_of_eq rfl) (hb hby at_32) (fun _ _ => ⟨rfl, e2, (by decide : 0 + 0 ≤ _), (by decide : 0 + 0 ≤ _)⟩)
  dsimp only [Pt.U, Pt.locs, Pt.cells, Pt.slots] at X3 l3 y3 z3 st3 hQ3
  subst l3 y3 z3
  obtain ⟨rfl, N3q, e3⟩ := hQ3
  have N3 := Fr.app N2 N3q
  obtain ⟨cq4, kq4, q4a, q4b, q4c⟩ := isOf hZ e3 (hE1.ext O0.2)
  obtain ⟨_, _, ⟨T4, L4, k4, n4⟩, -, X4, ⟨Lc4, hQ4, l4, y4, z4⟩, st4⟩ := X3.virtualBack hx (y := (⟨"org/cartulary/repository/Condition$Operator", "holds", "(I)Z"⟩ : MethodName)) (z := (⟨"org/cartulary/repository/Condition$Operator", "holds", "(I)Z"⟩ : MethodName)) hown (mvT hZ (W hw 22 rfl)) (mvT hZ (W hw 23 rfl)) (notFace_of_selects (args := #[]) (mvT hZ (W hw 25 rfl))) (mvT hZ (W hw 25 rfl)) (mvT hZ (W hw 24 rfl)) (by decide) (backOf (W := 1) (rm_28 l Z a0 hw w kk hN [] p1 h0 O0 hp2) hZ (W hw 26 rfl) (W hw 6 rfl) (by decide) (by decide)) q4a q4c (g := (mkF m 37 #[.val (.int p0), .val (.int p1), .val (.ref (w 1)), .val (.int (-1 : Int32)), .val (.ref (w 2)), .unset, .unset] [(.int p1), (.ref (w 1)), (.int (0 : Int32))])) rfl (by rw [hml]; rfl) (Steps.refl _) (argsL := [(.int p1)]) (rest := [(.int (0 : Int32))]) (lenOf pd_3 rfl) rfl (by show 2 * 0 + _ ≤ _; exact Nat.le_of_eq rfl) (hb hby at_37) (fun _ _ => ⟨rfl, e3, (by decide : 0 + 0 ≤ _), (by decide : 0 + 0 ≤ _)⟩)
  dsimp only [Pt.U, Pt.locs, Pt.cells, Pt.slots] at X4 l4 y4 z4 st4 hQ4
  subst l4 y4 z4
  obtain ⟨rfl, N4q, e4⟩ := hQ4
  have N4 := Fr.app N3 N4q
  obtain ⟨cq5, kq5, q5a, q5b, q5c⟩ := isOf hZ e4 (hE2.ext O0.2)
  obtain ⟨_, _, ⟨T5, L5, k5, n5⟩, -, X5, ⟨Lc5, hQ5, l5, y5, z5⟩, st5⟩ := X4.virtualBack hx (y := (⟨"org/cartulary/repository/Condition$Operator", "swapped", "()Lorg/cartulary/repository/Condition$Operator;"⟩ : MethodName)) (z := (⟨"org/cartulary/repository/Condition$Operator", "swapped", "()Lorg/cartulary/repository/Condition$Operator;"⟩ : MethodName)) hown (mvT hZ (W hw 8 rfl)) (mvT hZ (W hw 9 rfl)) (notFace_of_selects (args := #[]) (mvT hZ (W hw 11 rfl))) (mvT hZ (W hw 11 rfl)) (mvT hZ (W hw 10 rfl)) (by decide) (backOf (W := 0) (rm_29 l Z a0 hw w kk hN [] h0 O0) hZ (W hw 12 rfl) (W hw 6 rfl) (by decide) (by decide)) q5a q5c (g := (mkF m 52 #[.val (.int p0), .val (.int p1), .val (.ref (w 1)), .val (.int (-1 : Int32)), .val (.ref (w 2)), .val (.int (1 : Int32)), .unset] [(.ref (w 2))])) rfl (by rw [hml]; rfl) (Steps.refl _) (argsL := []) (rest := []) (lenOf pd_2 rfl) rfl (by show 2 * 0 + _ ≤ _; exact Nat.le_of_eq rfl) (hb hby at_52) (fun _ _ => ⟨rfl, e4, (by decide : 0 + 0 ≤ _), (by decide : 0 + 0 ≤ _)⟩)
  dsimp only [Pt.U, Pt.locs, Pt.cells, Pt.slots] at X5 l5 y5 z5 st5 hQ5
  subst l5 y5 z5
  obtain ⟨rfl, N5q, e5⟩ := hQ5
  have N5 := Fr.app N4 N5q
  obtain ⟨fs, hr, hrun, hended, hW, hsame⟩ := X5.leave (v := some (.int (1 : Int32))) (fun h => by rw [Bd.returns] at h; cases h)
  refine ⟨_, _, pre0 _ ?_, hrun, hended, _, _, rfl, ?_, ⟨_, rfl⟩, hW, hsame.mono (by decide) (by decide)⟩
  · show Steps p.tables e below (s₁.setTop (mkF m 0 #[.val (.int p0), .val (.int p1), .unset, .unset, .unset, .unset, .unset] [])) _
    refine XS.iloadN X0.here hx rfl (hb hby at_0) rfl ?_
    show Steps p.tables e below (s₁.setTop (mkF m 1 #[.val (.int p0), .val (.int p1), .unset, .unset, .unset, .unset, .unset] [(.int p0)])) _
    refine st1 _ ?_
    show Steps p.tables e below (T1.setTop (mkF m 4 #[.val (.int p0), .val (.int p1), .unset, .unset, .unset, .unset, .unset] [(.ref (w 1))])) _
    refine XS.astoreN X1.here hx rfl (hb hby at_4) rfl rfl (l' := #[.val (.int p0), .val (.int p1), .val (.ref (w 1)), .unset, .unset, .unset, .unset]) rfl ?_
    show Steps p.tables e below (T1.setTop (mkF m 5 #[.val (.int p0), .val (.int p1), .val (.ref (w 1)), .unset, .unset, .unset, .unset] [])) _
    refine XS.iloadN X1.here hx rfl (hb hby at_5) rfl ?_
    show Steps p.tables e below (T1.setTop (mkF m 6 #[.val (.int p0), .val (.int p1), .val (.ref (w 1)), .unset, .unset, .unset, .unset] [(.int p1)])) _
    refine XS.ifNo X1.here hx rfl (hb hby at_6) rfl ((if0 _ _).trans (tlt hp1).2.2.2) ?_
    show Steps p.tables e below (T1.setTop (mkF m 9 #[.val (.int p0), .val (.int p1), .val (.ref (w 1)), .unset, .unset, .unset, .unset] [])) _
    refine XS.iconst X1.here hx rfl (hb hby at_9) ?_
    show Steps p.tables e below (T1.setTop (mkF m 10 #[.val (.int p0), .val (.int p1), .val (.ref (w 1)), .unset, .unset, .unset, .unset] [(.int (-1 : Int32))])) _
    refine XS.goto X1.here hx rfl (pc0 := 10) (pc' := 22) rfl (hb hby at_10) (by decide) (by decide) ?_
    show Steps p.tables e below (T1.setTop (mkF m 22 #[.val (.int p0), .val (.int p1), .val (.ref (w 1)), .unset, .unset, .unset, .unset] [(.int (-1 : Int32))])) _
    refine XS.istoreN X1.here hx rfl (hb hby at_22) rfl (l' := #[.val (.int p0), .val (.int p1), .val (.ref (w 1)), .val (.int (-1 : Int32)), .unset, .unset, .unset]) rfl ?_
    show Steps p.tables e below (T1.setTop (mkF m 23 #[.val (.int p0), .val (.int p1), .val (.ref (w 1)), .val (.int (-1 : Int32)), .unset, .unset, .unset] [])) _
    refine XS.aloadN X1.here hx rfl (hb hby at_23) rfl rfl ?_
    show Steps p.tables e below (T1.setTop (mkF m 24 #[.val (.int p0), .val (.int p1), .val (.ref (w 1)), .val (.int (-1 : Int32)), .unset, .unset, .unset] [(.ref (w 1))])) _
    refine st2.trans ?_
    show Steps p.tables e below (T2.setTop (mkF m 27 #[.val (.int p0), .val (.int p1), .val (.ref (w 1)), .val (.int (-1 : Int32)), .unset, .unset, .unset] [(.ref (w 2))])) _
    refine XS.astore X2.here hx rfl (hb hby at_27) rfl rfl (l' := #[.val (.int p0), .val (.int p1), .val (.ref (w 1)), .val (.int (-1 : Int32)), .val (.ref (w 2)), .unset, .unset]) rfl ?_
    show Steps p.tables e below (T2.setTop (mkF m 29 #[.val (.int p0), .val (.int p1), .val (.ref (w 1)), .val (.int (-1 : Int32)), .val (.ref (w 2)), .unset, .unset] [])) _
    refine XS.aload X2.here hx rfl (hb hby at_29) rfl rfl ?_
    show Steps p.tables e below (T2.setTop (mkF m 31 #[.val (.int p0), .val (.int p1), .val (.ref (w 1)), .val (.int (-1 : Int32)), .val (.ref (w 2)), .unset, .unset] [(.ref (w 2))])) _
    refine XS.iloadN X2.here hx rfl (hb hby at_31) rfl ?_
    show Steps p.tables e below (T2.setTop (mkF m 32 #[.val (.int p0), .val (.int p1), .val (.ref (w 1)), .val (.int (-1 : Int32)), .val (.ref (w 2)), .unset, .unset] [(.int (-1 : Int32)), (.ref (w 2))])) _
    refine st3.trans ?_
    show Steps p.tables e below (T3.setTop (mkF m 35 #[.val (.int p0), .val (.int p1), .val (.ref (w 1)), .val (.int (-1 : Int32)), .val (.ref (w 2)), .unset, .unset] [(.int (0 : Int32))])) _
    refine XS.aloadN X3.here hx rfl (hb hby at_35) rfl rfl ?_
    show Steps p.tables e below (T3.setTop (mkF m 36 #[.val (.int p0), .val (.int p1), .val (.ref (w 1)), .val (.int (-1 : Int32)), .val (.ref (w 2)), .unset, .unset] [(.ref (w 1)), (.int (0 : Int32))])) _
    refine XS.iloadN X3.here hx rfl (hb hby at_36) rfl ?_
    show Steps p.tables e below (T3.setTop (mkF m 37 #[.val (.int p0), .val (.int p1), .val (.ref (w 1)), .val (.int (-1 : Int32)), .val (.ref (w 2)), .unset, .unset] [(.int p1), (.ref (w 1)), (.int (0 : Int32))])) _
    refine st4.trans ?_
    show Steps p.tables e below (T4.setTop (mkF m 40 #[.val (.int p0), .val (.int p1), .val (.ref (w 1)), .val (.int (-1 : Int32)), .val (.ref (w 2)), .unset, .unset] [(.int (0 : Int32)), (.int (0 : Int32))])) _
    refine XS.icmpNo X4.here hx rfl (hb hby at_40) rfl (teq (by decide : (0 : Int32) = (0 : Int32))).2 ?_
    show Steps p.tables e below (T4.setTop (mkF m 43 #[.val (.int p0), .val (.int p1), .val (.ref (w 1)), .val (.int (-1 : Int32)), .val (.ref (w 2)), .unset, .unset] [])) _
    refine XS.iconst X4.here hx rfl (hb hby at_43) ?_
    show Steps p.tables e below (T4.setTop (mkF m 44 #[.val (.int p0), .val (.int p1), .val (.ref (w 1)), .val (.int (-1 : Int32)), .val (.ref (w 2)), .unset, .unset] [(.int (1 : Int32))])) _
    refine XS.goto X4.here hx rfl (pc0 := 44) (pc' := 48) rfl (hb hby at_44) (by decide) (by decide) ?_
    show Steps p.tables e below (T4.setTop (mkF m 48 #[.val (.int p0), .val (.int p1), .val (.ref (w 1)), .val (.int (-1 : Int32)), .val (.ref (w 2)), .unset, .unset] [(.int (1 : Int32))])) _
    refine XS.istore X4.here hx rfl (hb hby at_48) rfl (l' := #[.val (.int p0), .val (.int p1), .val (.ref (w 1)), .val (.int (-1 : Int32)), .val (.ref (w 2)), .val (.int (1 : Int32)), .unset]) rfl ?_
    show Steps p.tables e below (T4.setTop (mkF m 50 #[.val (.int p0), .val (.int p1), .val (.ref (w 1)), .val (.int (-1 : Int32)), .val (.ref (w 2)), .val (.int (1 : Int32)), .unset] [])) _
    refine XS.aload X4.here hx rfl (hb hby at_50) rfl rfl ?_
    show Steps p.tables e below (T4.setTop (mkF m 52 #[.val (.int p0), .val (.int p1), .val (.ref (w 1)), .val (.int (-1 : Int32)), .val (.ref (w 2)), .val (.int (1 : Int32)), .unset] [(.ref (w 2))])) _
    refine st5.trans ?_
    show Steps p.tables e below (T5.setTop (mkF m 55 #[.val (.int p0), .val (.int p1), .val (.ref (w 1)), .val (.int (-1 : Int32)), .val (.ref (w 2)), .val (.int (1 : Int32)), .unset] [(.ref (w 1))])) _
    refine XS.aloadN X5.here hx rfl (hb hby at_55) rfl rfl ?_
    show Steps p.tables e below (T5.setTop (mkF m 56 #[.val (.int p0), .val (.int p1), .val (.ref (w 1)), .val (.int (-1 : Int32)), .val (.ref (w 2)), .val (.int (1 : Int32)), .unset] [(.ref (w 1)), (.ref (w 1))])) _
    refine Jvm.RoadKit.acmp (g := (mkF m 56 #[.val (.int p0), .val (.int p1), .val (.ref (w 1)), .val (.int (-1 : Int32)), .val (.ref (w 2)), .val (.int (1 : Int32)), .unset] [(.ref (w 1)), (.ref (w 1))])) X5 hx rfl rfl rfl (pc0 := 56) (pc' := 59) (same := true) rfl (hb hby at_56) rfl (decide_eq_true rfl) (by decide) (by decide) ?_
    show Steps p.tables e below (T5.setTop (mkF m 59 #[.val (.int p0), .val (.int p1), .val (.ref (w 1)), .val (.int (-1 : Int32)), .val (.ref (w 2)), .val (.int (1 : Int32)), .unset] [])) _
    refine XS.iconst X5.here hx rfl (hb hby at_59) ?_
    show Steps p.tables e below (T5.setTop (mkF m 60 #[.val (.int p0), .val (.int p1), .val (.ref (w 1)), .val (.int (-1 : Int32)), .val (.ref (w 2)), .val (.int (1 : Int32)), .unset] [(.int (1 : Int32))])) _
    refine XS.goto X5.here hx rfl (pc0 := 60) (pc' := 64) rfl (hb hby at_60) (by decide) (by decide) ?_
    show Steps p.tables e below (T5.setTop (mkF m 64 #[.val (.int p0), .val (.int p1), .val (.ref (w 1)), .val (.int (-1 : Int32)), .val (.ref (w 2)), .val (.int (1 : Int32)), .unset] [(.int (1 : Int32))])) _
    refine XS.istore X5.here hx rfl (hb hby at_64) rfl (l' := #[.val (.int p0), .val (.int p1), .val (.ref (w 1)), .val (.int (-1 : Int32)), .val (.ref (w 2)), .val (.int (1 : Int32)), .val (.int (1 : Int32))]) rfl ?_
    show Steps p.tables e below (T5.setTop (mkF m 66 #[.val (.int p0), .val (.int p1), .val (.ref (w 1)), .val (.int (-1 : Int32)), .val (.ref (w 2)), .val (.int (1 : Int32)), .val (.int (1 : Int32))] [])) _
    refine XS.iload X5.here hx rfl (hb hby at_66) rfl ?_
    show Steps p.tables e below (T5.setTop (mkF m 68 #[.val (.int p0), .val (.int p1), .val (.ref (w 1)), .val (.int (-1 : Int32)), .val (.ref (w 2)), .val (.int (1 : Int32)), .val (.int (1 : Int32))] [(.int (1 : Int32))])) _
    refine XS.ifNo X5.here hx rfl (hb hby at_68) rfl ((if0 _ _).trans (feq (by decide : ¬ ((1 : Int32) = (0 : Int32)))).1) ?_
    show Steps p.tables e below (T5.setTop (mkF m 71 #[.val (.int p0), .val (.int p1), .val (.ref (w 1)), .val (.int (-1 : Int32)), .val (.ref (w 2)), .val (.int (1 : Int32)), .val (.int (1 : Int32))] [])) _
    refine XS.iload X5.here hx rfl (hb hby at_71) rfl ?_
    show Steps p.tables e below (T5.setTop (mkF m 73 #[.val (.int p0), .val (.int p1), .val (.ref (w 1)), .val (.int (-1 : Int32)), .val (.ref (w 2)), .val (.int (1 : Int32)), .val (.int (1 : Int32))] [(.int (1 : Int32))])) _
    refine XS.ifNo X5.here hx rfl (hb hby at_73) rfl ((if0 _ _).trans (feq (by decide : ¬ ((1 : Int32) = (0 : Int32)))).1) ?_
    show Steps p.tables e below (T5.setTop (mkF m 76 #[.val (.int p0), .val (.int p1), .val (.ref (w 1)), .val (.int (-1 : Int32)), .val (.ref (w 2)), .val (.int (1 : Int32)), .val (.int (1 : Int32))] [])) _
    refine XS.iconst X5.here hx rfl (hb hby at_76) ?_
    show Steps p.tables e below (T5.setTop (mkF m 77 #[.val (.int p0), .val (.int p1), .val (.ref (w 1)), .val (.int (-1 : Int32)), .val (.ref (w 2)), .val (.int (1 : Int32)), .val (.int (1 : Int32))] [(.int (1 : Int32))])) _
    refine XS.goto X5.here hx rfl (pc0 := 77) (pc' := 81) rfl (hb hby at_77) (by decide) (by decide) ?_
    show Steps p.tables e below (T5.setTop (mkF m 81 #[.val (.int p0), .val (.int p1), .val (.ref (w 1)), .val (.int (-1 : Int32)), .val (.ref (w 2)), .val (.int (1 : Int32)), .val (.int (1 : Int32))] [(.int (1 : Int32))])) _
    exact retN X5 hx (t := .boolean) Bd.returns (by simp) (hb hby at_81) hr
  · show OL (some (.int (1 : Int32))) Z.heap.size _ T5.heap _
    exact ⟨rfl, N5⟩
theorem d_prog_67_method_5_code_106 : decode prog_67_method_5_code 106 = .ok (.iconst 1, 1) := by decide +kernel
theorem d_prog_67_method_5_code_107 : decode prog_67_method_5_code 107 = .ok (.goto 16, 3) := by decide +kernel
set_option maxRecDepth 65536 in
set_option maxHeartbeats 40000000 in
theorem rm_31 (l : Launch) (Z : State) (a0 : Array Value) (hw : ∀ d ∈ tables_1, d.before a0 Z = true) (w : Nat → Addr) (kk : Nat → ClassId) (hN : Wd Z w kk) (ws : List Jvm.Cond)  (h0 : Heap) (O0 : Old Z Z.heap.size h0) :
    MetFree l (⟨"org/cartulary/repository/Condition$Operator", "holds", "(I)Z"⟩ : MethodName) (head1 (Jvm.Cond.code (⟨"org/cartulary/repository/Condition$Operator", "holds", "(I)Z"⟩ : MethodName) prog_67_method_5_code 2 (some .boolean) :: ws) ({ frames := 1, cells := 0, slots := 0, locals := 12 } : Room)) (fun a U => a = #[(.ref (w 2)), (.int (1 : Int32))] ∧ Z.Warmed39 U.vm ∧ U.heap = h0) (fun _ _ _ _ _ => True) (fun _ U o U' => ∃ v L, o = .returned v ∧ OQ (some (.int (1 : Int32))) h0 Z.heap.size v U'.heap L ∧ FrameEnd U o U' L ({ frames := 1, cells := 0, slots := 0, locals := 12 } : Room).cells ({ frames := 1, cells := 0, slots := 0, locals := 12 } : Room).slots) := by
  have hN' := hN
  obtain ⟨hS0, hE0, hS1, hE1, hS2, hE2, hS3, hE3, hS4, hE4, hS5, hE5, hF0_ordinal, hF1_ordinal, hF2_ordinal, hF3_ordinal, hF4_ordinal, hF5_ordinal⟩ := hN'
  refine MetFree.of_bodySF (plainFor_of_name pn_2) hisR ?_
  intro p e s m args below meth c s₁ Bd hml0 hP hK
  obtain ⟨rfl, hZ, hh⟩ := hP
  have hx := Bd.exec
  have hby := Bd.bytes
  have hml : c.maxLocals = 2 := hml0
  have hown : s.vm.findClass "org/cartulary/repository/Condition$Operator" = some m.cls := findClass_of_methodNamed Bd.named
  have hnm := (name_of_methodNamed Bd.named Bd.method).1
  have X0 : Stand p l e ({ frames := 1, cells := 0, slots := 0, locals := 12 } : Room) s m #[(.ref (w 2)), (.int (1 : Int32))] below meth c s₁ [] 0 0 := Stand.of_body Bd
  have e0 : s₁.heap = h0 := by rw [← hh, Bd.state]; rfl
  have N0 := Fr.nil Z.heap.size
  have pre0 : ∀ t, Steps p.tables e below (s₁.setTop (mkF m 0 #[.val (.ref (w 2)), .val (.int (1 : Int32))] [])) t → Steps p.tables e below (s₁.setTop (entryFrame m #[(.ref (w 2)), (.int (1 : Int32))] 2)) t := fun t k => castTop (ef_2 m (.ref (w 2)) rfl (.int (1 : Int32)) rfl) k
  obtain ⟨cq1, kq1, q1a, q1b, q1c⟩ := isOf hZ e0 (hE2.ext O0.2)
  obtain ⟨_, _, ⟨T1, L1, k1, n1⟩, -, X1, ⟨Lc1, hQ1, l1, y1, z1⟩, st1⟩ := X0.virtualBackUp hx (x := (⟨"org/cartulary/repository/Condition$Operator", "ordinal", "()I"⟩ : MethodName)) (y := (⟨"java/lang/Enum", "ordinal", "()I"⟩ : MethodName)) (owner := "java/lang/Enum") hown (mvT hZ (W hw 13 rfl)) (mvT hZ (W hw 14 rfl)) (mvT hZ (W hw 15 rfl)) (by decide) (mvT hZ (W hw 17 rfl)) (mvT hZ (W hw 16 rfl)) (backOf (W := 0) (rm_26 l Z a0 hw w kk hN [] h0 O0) hZ (W hw 19 rfl) (W hw 18 rfl) (by decide) (by decide)) q1a q1c (g := (mkF m 1 #[.val (.ref (w 2)), .val (.int (1 : Int32))] [(.ref (w 2))])) rfl (by rw [hml]; rfl) (Steps.refl _) (argsL := []) (rest := []) (lenOf pd_1 rfl) rfl (by show 2 * 0 + _ ≤ _; exact Nat.le_of_eq rfl) (hb hby d_prog_67_method_5_code_1) (fun _ _ => ⟨rfl, e0, (by decide : 0 + 0 ≤ _), (by decide : 0 + 0 ≤ _)⟩)
  dsimp only [Pt.U, Pt.locs, Pt.cells, Pt.slots] at X1 l1 y1 z1 st1 hQ1
  subst l1 y1 z1
  obtain ⟨rfl, N1q, e1⟩ := hQ1
  have N1 := Fr.app N0 N1q
  obtain ⟨fs, hr, hrun, hended, hW, hsame⟩ := X1.leave (v := some (.int (1 : Int32))) (fun h => by rw [Bd.returns] at h; cases h)
  refine ⟨_, _, pre0 _ ?_, hrun, hended, _, _, rfl, ?_, ⟨_, rfl⟩, hW, hsame.mono (by decide) (by decide)⟩
  · show Steps p.tables e below (s₁.setTop (mkF m 0 #[.val (.ref (w 2)), .val (.int (1 : Int32))] [])) _
    refine XS.aloadN X0.here hx rfl (hb hby d_prog_67_method_5_code_0) rfl rfl ?_
    show Steps p.tables e below (s₁.setTop (mkF m 1 #[.val (.ref (w 2)), .val (.int (1 : Int32))] [(.ref (w 2))])) _
    refine st1.trans ?_
    show Steps p.tables e below (T1.setTop (mkF m 4 #[.val (.ref (w 2)), .val (.int (1 : Int32))] [(.int (4 : Int32))])) _
    refine XS.tswIn X1.here hx rfl (pc0 := 4) (pc' := 102) (o := 98) rfl (hb hby d_prog_67_method_5_code_4) rfl (by decide) (by decide) (by decide) (by decide) ?_
    show Steps p.tables e below (T1.setTop (mkF m 102 #[.val (.ref (w 2)), .val (.int (1 : Int32))] [])) _
    refine XS.iloadN X1.here hx rfl (hb hby d_prog_67_method_5_code_102) rfl ?_
    show Steps p.tables e below (T1.setTop (mkF m 103 #[.val (.ref (w 2)), .val (.int (1 : Int32))] [(.int (1 : Int32))])) _
    refine XS.ifNo X1.here hx rfl (hb hby d_prog_67_method_5_code_103) rfl ((if0 _ _).trans (tlt (by decide : (0 : Int32) < (1 : Int32))).2.2.2) ?_
    show Steps p.tables e below (T1.setTop (mkF m 106 #[.val (.ref (w 2)), .val (.int (1 : Int32))] [])) _
    refine XS.iconst X1.here hx rfl (hb hby d_prog_67_method_5_code_106) ?_
    show Steps p.tables e below (T1.setTop (mkF m 107 #[.val (.ref (w 2)), .val (.int (1 : Int32))] [(.int (1 : Int32))])) _
    refine XS.goto X1.here hx rfl (pc0 := 107) (pc' := 123) rfl (hb hby d_prog_67_method_5_code_107) (by decide) (by decide) ?_
    show Steps p.tables e below (T1.setTop (mkF m 123 #[.val (.ref (w 2)), .val (.int (1 : Int32))] [(.int (1 : Int32))])) _
    exact retN X1 hx (t := .boolean) Bd.returns (by simp) (hb hby d_prog_67_method_5_code_123) hr
  · show OQ (some (.int (1 : Int32))) h0 Z.heap.size _ T1.heap _
    rw [e1]
    exact ⟨rfl, N1, rfl⟩
theorem d_prog_67_method_5_code_82 : decode prog_67_method_5_code 82 = .ok (.iconst 1, 1) := by decide +kernel
theorem d_prog_67_method_5_code_83 : decode prog_67_method_5_code 83 = .ok (.goto 40, 3) := by decide +kernel
set_option maxRecDepth 65536 in
set_option maxHeartbeats 40000000 in
theorem rm_32 (l : Launch) (Z : State) (a0 : Array Value) (hw : ∀ d ∈ tables_1, d.before a0 Z = true) (w : Nat → Addr) (kk : Nat → ClassId) (hN : Wd Z w kk) (ws : List Jvm.Cond) (p1 : Int32) (h0 : Heap) (O0 : Old Z Z.heap.size h0) (hp0 : p1 < (0 : Int32)) :
    MetFree l (⟨"org/cartulary/repository/Condition$Operator", "holds", "(I)Z"⟩ : MethodName) (head1 (Jvm.Cond.code (⟨"org/cartulary/repository/Condition$Operator", "holds", "(I)Z"⟩ : MethodName) prog_67_method_5_code 2 (some .boolean) :: ws) ({ frames := 1, cells := 0, slots := 0, locals := 12 } : Room)) (fun a U => a = #[(.ref (w 1)), (.int p1)] ∧ Z.Warmed39 U.vm ∧ U.heap = h0) (fun _ _ _ _ _ => True) (fun _ U o U' => ∃ v L, o = .returned v ∧ OQ (some (.int (1 : Int32))) h0 Z.heap.size v U'.heap L ∧ FrameEnd U o U' L ({ frames := 1, cells := 0, slots := 0, locals := 12 } : Room).cells ({ frames := 1, cells := 0, slots := 0, locals := 12 } : Room).slots) := by
  have hN' := hN
  obtain ⟨hS0, hE0, hS1, hE1, hS2, hE2, hS3, hE3, hS4, hE4, hS5, hE5, hF0_ordinal, hF1_ordinal, hF2_ordinal, hF3_ordinal, hF4_ordinal, hF5_ordinal⟩ := hN'
  refine MetFree.of_bodySF (plainFor_of_name pn_2) hisR ?_
  intro p e s m args below meth c s₁ Bd hml0 hP hK
  obtain ⟨rfl, hZ, hh⟩ := hP
  have hx := Bd.exec
  have hby := Bd.bytes
  have hml : c.maxLocals = 2 := hml0
  have hown : s.vm.findClass "org/cartulary/repository/Condition$Operator" = some m.cls := findClass_of_methodNamed Bd.named
  have hnm := (name_of_methodNamed Bd.named Bd.method).1
  have X0 : Stand p l e ({ frames := 1, cells := 0, slots := 0, locals := 12 } : Room) s m #[(.ref (w 1)), (.int p1)] below meth c s₁ [] 0 0 := Stand.of_body Bd
  have e0 : s₁.heap = h0 := by rw [← hh, Bd.state]; rfl
  have N0 := Fr.nil Z.heap.size
  have pre0 : ∀ t, Steps p.tables e below (s₁.setTop (mkF m 0 #[.val (.ref (w 1)), .val (.int p1)] [])) t → Steps p.tables e below (s₁.setTop (entryFrame m #[(.ref (w 1)), (.int p1)] 2)) t := fun t k => castTop (ef_2 m (.ref (w 1)) rfl (.int p1) rfl) k
  obtain ⟨cq1, kq1, q1a, q1b, q1c⟩ := isOf hZ e0 (hE1.ext O0.2)
  obtain ⟨_, _, ⟨T1, L1, k1, n1⟩, -, X1, ⟨Lc1, hQ1, l1, y1, z1⟩, st1⟩ := X0.virtualBackUp hx (x := (⟨"org/cartulary/repository/Condition$Operator", "ordinal", "()I"⟩ : MethodName)) (y := (⟨"java/lang/Enum", "ordinal", "()I"⟩ : MethodName)) (owner := "java/lang/Enum") hown (mvT hZ (W hw 13 rfl)) (mvT hZ (W hw 14 rfl)) (mvT hZ (W hw 15 rfl)) (by decide) (mvT hZ (W hw 17 rfl)) (mvT hZ (W hw 16 rfl)) (backOf (W := 0) (rm_24 l Z a0 hw w kk hN [] h0 O0) hZ (W hw 19 rfl) (W hw 18 rfl) (by decide) (by decide)) q1a q1c (g := (mkF m 1 #[.val (.ref (w 1)), .val (.int p1)] [(.ref (w 1))])) rfl (by rw [hml]; rfl) (Steps.refl _) (argsL := []) (rest := []) (lenOf pd_1 rfl) rfl (by show 2 * 0 + _ ≤ _; exact Nat.le_of_eq rfl) (hb hby d_prog_67_method_5_code_1) (fun _ _ => ⟨rfl, e0, (by decide : 0 + 0 ≤ _), (by decide : 0 + 0 ≤ _)⟩)
  dsimp only [Pt.U, Pt.locs, Pt.cells, Pt.slots] at X1 l1 y1 z1 st1 hQ1
  subst l1 y1 z1
  obtain ⟨rfl, N1q, e1⟩ := hQ1
  have N1 := Fr.app N0 N1q
  obtain ⟨fs, hr, hrun, hended, hW, hsame⟩ := X1.leave (v := some (.int (1 : Int32))) (fun h => by rw [Bd.returns] at h; cases h)
  refine ⟨_, _, pre0 _ ?_, hrun, hended, _, _, rfl, ?_, ⟨_, rfl⟩, hW, hsame.mono (by decide) (by decide)⟩
  · show Steps p.tables e below (s₁.setTop (mkF m 0 #[.val (.ref (w 1)), .val (.int p1)] [])) _
    refine XS.aloadN X0.here hx rfl (hb hby d_prog_67_method_5_code_0) rfl rfl ?_
    show Steps p.tables e below (s₁.setTop (mkF m 1 #[.val (.ref (w 1)), .val (.int p1)] [(.ref (w 1))])) _
    refine st1.trans ?_
    show Steps p.tables e below (T1.setTop (mkF m 4 #[.val (.ref (w 1)), .val (.int p1)] [(.int (2 : Int32))])) _
    refine XS.tswIn X1.here hx rfl (pc0 := 4) (pc' := 78) (o := 74) rfl (hb hby d_prog_67_method_5_code_4) rfl (by decide) (by decide) (by decide) (by decide) ?_
    show Steps p.tables e below (T1.setTop (mkF m 78 #[.val (.ref (w 1)), .val (.int p1)] [])) _
    refine XS.iloadN X1.here hx rfl (hb hby d_prog_67_method_5_code_78) rfl ?_
    show Steps p.tables e below (T1.setTop (mkF m 79 #[.val (.ref (w 1)), .val (.int p1)] [(.int p1)])) _
    refine XS.ifNo X1.here hx rfl (hb hby d_prog_67_method_5_code_79) rfl ((if0 _ _).trans (tlt hp0).2.1) ?_
    show Steps p.tables e below (T1.setTop (mkF m 82 #[.val (.ref (w 1)), .val (.int p1)] [])) _
    refine XS.iconst X1.here hx rfl (hb hby d_prog_67_method_5_code_82) ?_
    show Steps p.tables e below (T1.setTop (mkF m 83 #[.val (.ref (w 1)), .val (.int p1)] [(.int (1 : Int32))])) _
    refine XS.goto X1.here hx rfl (pc0 := 83) (pc' := 123) rfl (hb hby d_prog_67_method_5_code_83) (by decide) (by decide) ?_
    show Steps p.tables e below (T1.setTop (mkF m 123 #[.val (.ref (w 1)), .val (.int p1)] [(.int (1 : Int32))])) _
    exact retN X1 hx (t := .boolean) Bd.returns (by simp) (hb hby d_prog_67_method_5_code_123) hr
  · show OQ (some (.int (1 : Int32))) h0 Z.heap.size _ T1.heap _
    rw [e1]
    exact ⟨rfl, N1, rfl⟩
set_option maxRecDepth 65536 in
set_option maxHeartbeats 40000000 in
theorem law_33 (l : Launch) (Z : State) (a0 : Array Value) (hw : ∀ d ∈ tables_1, d.before a0 Z = true) (w : Nat → Addr) (kk : Nat → ClassId) (hN : Wd Z w kk) (ws : List Jvm.Cond) (p0 : Int32) (p1 : Int32) (h0 : Heap) (O0 : Old Z Z.heap.size h0) (hp0 : ((p0 &&& (2147483647 : Int32)) % (6 : Int32)) = (2 : Int32)) (hp1 : ¬ ((0 : Int32) < p1)) (hp2 : p1 < (0 : Int32)) :
    MetFree l x (head1 (Jvm.Cond.code x code maxLocals ret :: ws) room_1) (fun a U => a = #[(.int p0), (.int p1)] ∧ Z.Warmed39 U.vm ∧ U.heap = h0) (fun _ _ _ _ _ => True) (fun _ U o U' => ∃ v L, o = .returned v ∧ OL (some (.int (1 : Int32))) Z.heap.size v U'.heap L ∧ FrameEnd U o U' L 0 0) := by
  have hN' := hN
  obtain ⟨hS0, hE0, hS1, hE1, hS2, hE2, hS3, hE3, hS4, hE4, hS5, hE5, hF0_ordinal, hF1_ordinal, hF2_ordinal, hF3_ordinal, hF4_ordinal, hF5_ordinal⟩ := hN'
  refine MetFree.of_bodySF (plainFor_of_name pn_0) hisR ?_
  intro p e s m args below meth c s₁ Bd hml0 hP hK
  obtain ⟨rfl, hZ, hh⟩ := hP
  have hx := Bd.exec
  have hby := Bd.bytes
  have hml : c.maxLocals = 7 := hml0
  have hown : s.vm.findClass "org/cartulary/repository/OperatorSwappedPinLaw" = some m.cls := findClass_of_methodNamed Bd.named
  have hnm := (name_of_methodNamed Bd.named Bd.method).1
  have X0 : Stand p l e room_1 s m #[(.int p0), (.int p1)] below meth c s₁ [] 0 0 := Stand.of_body Bd
  have e0 : s₁.heap = h0 := by rw [← hh, Bd.state]; rfl
  have N0 := Fr.nil Z.heap.size
  have pre0 : ∀ t, Steps p.tables e below (s₁.setTop (mkF m 0 #[.val (.int p0), .val (.int p1), .unset, .unset, .unset, .unset, .unset] [])) t → Steps p.tables e below (s₁.setTop (entryFrame m #[(.int p0), (.int p1)] maxLocals)) t := fun t k => castTop (ef_3 m (.int p0) rfl (.int p1) rfl) k
  obtain ⟨_, _, ⟨T1, L1, k1, n1⟩, -, X1, ⟨Lc1, hQ1, l1, y1, z1⟩, st1⟩ := Jvm.LawKit.callS X0 hx (y := (⟨"org/cartulary/repository/OperatorSwappedPinLaw", "pick", "(I)Lorg/cartulary/repository/Condition$Operator;"⟩ : MethodName)) hown (mvT hZ (W hw 0 rfl)) (mvT hZ (W hw 1 rfl)) (mvT hZ (W hw 2 rfl)) (mvT hZ (W hw 3 rfl)) (by decide) (backOf (W := 0) (rm_23 l Z a0 hw w kk hN [] p0 h0 O0 hp0) hZ (W hw 3 rfl) (W hw 2 rfl) (by decide) (by decide)) (g := (mkF m 1 #[.val (.int p0), .val (.int p1), .unset, .unset, .unset, .unset, .unset] [(.int p0)])) rfl (by rw [hml]; rfl) (argsL := [(.int p0)]) (rest := []) (lenOf pd_0 rfl) rfl (by show 2 * 0 + _ ≤ _; exact Nat.le_of_eq rfl) (hb hby at_1) (fun _ _ => ⟨rfl, e0, (by decide : 0 + 0 ≤ _), (by decide : 0 + 0 ≤ _)⟩)
  dsimp only [Pt.U, Pt.locs, Pt.cells, Pt.slots] at X1 l1 y1 z1 st1 hQ1
  subst l1 y1 z1
  obtain ⟨rfl, N1q, e1⟩ := hQ1
  have N1 := Fr.app N0 N1q
  obtain ⟨cq2, kq2, q2a, q2b, q2c⟩ := isOf hZ e1 (hE1.ext O0.2)
  obtain ⟨_, _, ⟨T2, L2, k2, n2⟩, -, X2, ⟨Lc2, hQ2, l2, y2, z2⟩, st2⟩ := X1.virtualBack hx (y := (⟨"org/cartulary/repository/Condition$Operator", "swapped", "()Lorg/cartulary/repository/Condition$Operator;"⟩ : MethodName)) (z := (⟨"org/cartulary/repository/Condition$Operator", "swapped", "()Lorg/cartulary/repository/Condition$Operator;"⟩ : MethodName)) hown (mvT hZ (W hw 8 rfl)) (mvT hZ (W hw 9 rfl)) (notFace_of_selects (args := #[]) (mvT hZ (W hw 11 rfl))) (mvT hZ (W hw 11 rfl)) (mvT hZ (W hw 10 rfl)) (by decide) (backOf (W := 0) (rm_25 l Z a0 hw w kk hN [] h0 O0) hZ (W hw 12 rfl) (W hw 6 rfl) (by decide) (by decide)) q2a q2c (g := (mkF m 24 #[.val (.int p0), .val (.int p1), .val (.ref (w 1)), .val (.int (1 : Int32)), .unset, .unset, .unset] [(.ref (w 1))])) rfl (by rw [hml]; rfl) (Steps.refl _) (argsL := []) (rest := []) (lenOf pd_2 rfl) rfl (by show 2 * 0 + _ ≤ _; exact Nat.le_of_eq rfl) (hb hby at_24) (fun _ _ => ⟨rfl, e1, (by decide : 0 + 0 ≤ _), (by decide : 0 + 0 ≤ _)⟩)
  dsimp only [Pt.U, Pt.locs, Pt.cells, Pt.slots] at X2 l2 y2 z2 st2 hQ2
  subst l2 y2 z2
  obtain ⟨rfl, N2q, e2⟩ := hQ2
  have N2 := Fr.app N1 N2q
  obtain ⟨cq3, kq3, q3a, q3b, q3c⟩ := isOf hZ e2 (hE2.ext O0.2)
  obtain ⟨_, _, ⟨T3, L3, k3, n3⟩, -, X3, ⟨Lc3, hQ3, l3, y3, z3⟩, st3⟩ := X2.virtualBack hx (y := (⟨"org/cartulary/repository/Condition$Operator", "holds", "(I)Z"⟩ : MethodName)) (z := (⟨"org/cartulary/repository/Condition$Operator", "holds", "(I)Z"⟩ : MethodName)) hown (mvT hZ (W hw 22 rfl)) (mvT hZ (W hw 23 rfl)) (notFace_of_selects (args := #[]) (mvT hZ (W hw 25 rfl))) (mvT hZ (W hw 25 rfl)) (mvT hZ (W hw 24 rfl)) (by decide) (backOf (W := 0) (rm_31 l Z a0 hw w kk hN [] h0 O0) hZ (W hw 26 rfl) (W hw 6 rfl) (by decide) (by decide)) q3a q3c (g := (mkF m 32 #[.val (.int p0), .val (.int p1), .val (.ref (w 1)), .val (.int (1 : Int32)), .val (.ref (w 2)), .unset, .unset] [(.int (1 : Int32)), (.ref (w 2))])) rfl (by rw [hml]; rfl) (Steps.refl _) (argsL := [(.int (1 : Int32))]) (rest := []) (lenOf pd_3 rfl) rfl (by show 2 * 0 + _ ≤ _; exact Nat.le_of_eq rfl) (hb hby at_32) (fun _ _ => ⟨rfl, e2, (by decide : 0 + 0 ≤ _), (by decide : 0 + 0 ≤ _)⟩)
  dsimp only [Pt.U, Pt.locs, Pt.cells, Pt.slots] at X3 l3 y3 z3 st3 hQ3
  subst l3 y3 z3
  obtain ⟨rfl, N3q, e3⟩ := hQ3
  have N3 := Fr.app N2 N3q
  obtain ⟨cq4, kq4, q4a, q4b, q4c⟩ := isOf hZ e3 (hE1.ext O0.2)
  obtain ⟨_, _, ⟨T4, L4, k4, n4⟩, -, X4, ⟨Lc4, hQ4, l4, y4, z4⟩, st4⟩ := X3.virtualBack hx (y := (⟨"org/cartulary/repository/Condition$Operator", "holds", "(I)Z"⟩ : MethodName)) (z := (⟨"org/cartulary/repository/Condition$Operator", "holds", "(I)Z"⟩ : MethodName)) hown (mvT hZ (W hw 22 rfl)) (mvT hZ (W hw 23 rfl)) (notFace_of_selects (args := #[]) (mvT hZ (W hw 25 rfl))) (mvT hZ (W hw 25 rfl)) (mvT hZ (W hw 24 rfl)) (by decide) (backOf (W := 1) (rm_32 l Z a0 hw w kk hN [] p1 h0 O0 hp2) hZ (W hw 26 rfl) (W hw 6 rfl) (by decide) (by decide)) q4a q4c (g := (mkF m 37 #[.val (.int p0), .val (.int p1), .val (.ref (w 1)), .val (.int (1 : Int32)), .val (.ref (w 2)), .unset, .unset] [(.int p1), (.ref (w 1)), (.int (1 : Int32))])) rfl (by rw [hml]; rfl) (Steps.refl _) (argsL := [(.int p1)]) (rest := [(.int (1 : Int32))]) (lenOf pd_3 rfl) rfl (by show 2 * 0 + _ ≤ _; exact Nat.le_of_eq rfl) (hb hby at_37) (fun _ _ => ⟨rfl, e3, (by decide : 0 + 0 ≤ _), (by decide : 0 + 0 ≤ _)⟩)
  dsimp only [Pt.U, Pt.locs, Pt.cells, Pt.slots] at X4 l4 y4 z4 st4 hQ4
  subst l4 y4 z4
  obtain ⟨rfl, N4q, e4⟩ := hQ4
  have N4 := Fr.app N3 N4q
  obtain ⟨cq5, kq5, q5a, q5b, q5c⟩ := isOf hZ e4 (hE2.ext O0.2)
  obtain ⟨_, _, ⟨T5, L5, k5, n5⟩, -, X5, ⟨Lc5, hQ5, l5, y5, z5⟩, st5⟩ := X4.virtualBack hx (y := (⟨"org/cartulary/repository/Condition$Operator", "swapped", "()Lorg/cartulary/repository/Condition$Operator;"⟩ : MethodName)) (z := (⟨"org/cartulary/repository/Condition$Operator", "swapped", "()Lorg/cartulary/repository/Condition$Operator;"⟩ : MethodName)) hown (mvT hZ (W hw 8 rfl)) (mvT hZ (W hw 9 rfl)) (notFace_of_selects (args := #[]) (mvT hZ (W hw 11 rfl))) (mvT hZ (W hw 11 rfl)) (mvT hZ (W hw 10 rfl)) (by decide) (backOf (W := 0) (rm_29 l Z a0 hw w kk hN [] h0 O0) hZ (W hw 12 rfl) (W hw 6 rfl) (by decide) (by decide)) q5a q5c (g := (mkF m 52 #[.val (.int p0), .val (.int p1), .val (.ref (w 1)), .val (.int (1 : Int32)), .val (.ref (w 2)), .val (.int (1 : Int32)), .unset] [(.ref (w 2))])) rfl (by rw [hml]; rfl) (Steps.refl _) (argsL := []) (rest := []) (lenOf pd_2 rfl) rfl (by show 2 * 0 + _ ≤ _; exact Nat.le_of_eq rfl) (hb hby at_52) (fun _ _ => ⟨rfl, e4, (by decide : 0 + 0 ≤ _), (by decide : 0 + 0 ≤ _)⟩)
  dsimp only [Pt.U, Pt.locs, Pt.cells, Pt.slots] at X5 l5 y5 z5 st5 hQ5
  subst l5 y5 z5
  obtain ⟨rfl, N5q, e5⟩ := hQ5
  have N5 := Fr.app N4 N5q
  obtain ⟨fs, hr, hrun, hended, hW, hsame⟩ := X5.leave (v := some (.int (1 : Int32))) (fun h => by rw [Bd.returns] at h; cases h)
  refine ⟨_, _, pre0 _ ?_, hrun, hended, _, _, rfl, ?_, ⟨_, rfl⟩, hW, hsame.mono (by decide) (by decide)⟩
  · show Steps p.tables e below (s₁.setTop (mkF m 0 #[.val (.int p0), .val (.int p1), .unset, .unset, .unset, .unset, .unset] [])) _
    refine XS.iloadN X0.here hx rfl (hb hby at_0) rfl ?_
    show Steps p.tables e below (s₁.setTop (mkF m 1 #[.val (.int p0), .val (.int p1), .unset, .unset, .unset, .unset, .unset] [(.int p0)])) _
    refine st1 _ ?_
    show Steps p.tables e below (T1.setTop (mkF m 4 #[.val (.int p0), .val (.int p1), .unset, .unset, .unset, .unset, .unset] [(.ref (w 1))])) _
    refine XS.astoreN X1.here hx rfl (hb hby at_4) rfl rfl (l' := #[.val (.int p0), .val (.int p1), .val (.ref (w 1)), .unset, .unset, .unset, .unset]) rfl ?_
    show Steps p.tables e below (T1.setTop (mkF m 5 #[.val (.int p0), .val (.int p1), .val (.ref (w 1)), .unset, .unset, .unset, .unset] [])) _
    refine XS.iloadN X1.here hx rfl (hb hby at_5) rfl ?_
    show Steps p.tables e below (T1.setTop (mkF m 6 #[.val (.int p0), .val (.int p1), .val (.ref (w 1)), .unset, .unset, .unset, .unset] [(.int p1)])) _
    refine XS.ifYes X1.here hx rfl (pc0 := 6) (pc' := 13) rfl (hb hby at_6) rfl ((if0 _ _).trans (flt hp1).2.2.2) (by decide) (by decide) ?_
    show Steps p.tables e below (T1.setTop (mkF m 13 #[.val (.int p0), .val (.int p1), .val (.ref (w 1)), .unset, .unset, .unset, .unset] [])) _
    refine XS.iloadN X1.here hx rfl (hb hby at_13) rfl ?_
    show Steps p.tables e below (T1.setTop (mkF m 14 #[.val (.int p0), .val (.int p1), .val (.ref (w 1)), .unset, .unset, .unset, .unset] [(.int p1)])) _
    refine XS.ifNo X1.here hx rfl (hb hby at_14) rfl ((if0 _ _).trans (tlt hp2).2.1) ?_
    show Steps p.tables e below (T1.setTop (mkF m 17 #[.val (.int p0), .val (.int p1), .val (.ref (w 1)), .unset, .unset, .unset, .unset] [])) _
    refine XS.iconst X1.here hx rfl (hb hby at_17) ?_
    show Steps p.tables e below (T1.setTop (mkF m 18 #[.val (.int p0), .val (.int p1), .val (.ref (w 1)), .unset, .unset, .unset, .unset] [(.int (1 : Int32))])) _
    refine XS.goto X1.here hx rfl (pc0 := 18) (pc' := 22) rfl (hb hby at_18) (by decide) (by decide) ?_
    show Steps p.tables e below (T1.setTop (mkF m 22 #[.val (.int p0), .val (.int p1), .val (.ref (w 1)), .unset, .unset, .unset, .unset] [(.int (1 : Int32))])) _
    refine XS.istoreN X1.here hx rfl (hb hby at_22) rfl (l' := #[.val (.int p0), .val (.int p1), .val (.ref (w 1)), .val (.int (1 : Int32)), .unset, .unset, .unset]) rfl ?_
    show Steps p.tables e below (T1.setTop (mkF m 23 #[.val (.int p0), .val (.int p1), .val (.ref (w 1)), .val (.int (1 : Int32)), .unset, .unset, .unset] [])) _
    refine XS.aloadN X1.here hx rfl (hb hby at_23) rfl rfl ?_
    show Steps p.tables e below (T1.setTop (mkF m 24 #[.val (.int p0), .val (.int p1), .val (.ref (w 1)), .val (.int (1 : Int32)), .unset, .unset, .unset] [(.ref (w 1))])) _
    refine st2.trans ?_
    show Steps p.tables e below (T2.setTop (mkF m 27 #[.val (.int p0), .val (.int p1), .val (.ref (w 1)), .val (.int (1 : Int32)), .unset, .unset, .unset] [(.ref (w 2))])) _
    refine XS.astore X2.here hx rfl (hb hby at_27) rfl rfl (l' := #[.val (.int p0), .val (.int p1), .val (.ref (w 1)), .val (.int (1 : Int32)), .val (.ref (w 2)), .unset, .unset]) rfl ?_
    show Steps p.tables e below (T2.setTop (mkF m 29 #[.val (.int p0), .val (.int p1), .val (.ref (w 1)), .val (.int (1 : Int32)), .val (.ref (w 2)), .unset, .unset] [])) _
    refine XS.aload X2.here hx rfl (hb hby at_29) rfl rfl ?_
    show Steps p.tables e below (T2.setTop (mkF m 31 #[.val (.int p0), .val (.int p1), .val (.ref (w 1)), .val (.int (1 : Int32)), .val (.ref (w 2)), .unset, .unset] [(.ref (w 2))])) _
    refine XS.iloadN X2.here hx rfl (hb hby at_31) rfl ?_
    show Steps p.tables e below (T2.setTop (mkF m 32 #[.val (.int p0), .val (.int p1), .val (.ref (w 1)), .val (.int (1 : Int32)), .val (.ref (w 2)), .unset, .unset] [(.int (1 : Int32)), (.ref (w 2))])) _
    refine st3.trans ?_
    show Steps p.tables e below (T3.setTop (mkF m 35 #[.val (.int p0), .val (.int p1), .val (.ref (w 1)), .val (.int (1 : Int32)), .val (.ref (w 2)), .unset, .unset] [(.int (1 : Int32))])) _
    refine XS.aloadN X3.here hx rfl (hb hby at_35) rfl rfl ?_
    show Steps p.tables e below (T3.setTop (mkF m 36 #[.val (.int p0), .val (.int p1), .val (.ref (w 1)), .val (.int (1 : Int32)), .val (.ref (w 2)), .unset, .unset] [(.ref (w 1)), (.int (1 : Int32))])) _
    refine XS.iloadN X3.here hx rfl (hb hby at_36) rfl ?_
    show Steps p.tables e below (T3.setTop (mkF m 37 #[.val (.int p0), .val (.int p1), .val (.ref (w 1)), .val (.int (1 : Int32)), .val (.ref (w 2)), .unset, .unset] [(.int p1), (.ref (w 1)), (.int (1 : Int32))])) _
    refine st4.trans ?_
    show Steps p.tables e below (T4.setTop (mkF m 40 #[.val (.int p0), .val (.int p1), .val (.ref (w 1)), .val (.int (1 : Int32)), .val (.ref (w 2)), .unset, .unset] [(.int (1 : Int32)), (.int (1 : Int32))])) _
    refine XS.icmpNo X4.here hx rfl (hb hby at_40) rfl (teq (by decide : (1 : Int32) = (1 : Int32))).2 ?_
    show Steps p.tables e below (T4.setTop (mkF m 43 #[.val (.int p0), .val (.int p1), .val (.ref (w 1)), .val (.int (1 : Int32)), .val (.ref (w 2)), .unset, .unset] [])) _
    refine XS.iconst X4.here hx rfl (hb hby at_43) ?_
    show Steps p.tables e below (T4.setTop (mkF m 44 #[.val (.int p0), .val (.int p1), .val (.ref (w 1)), .val (.int (1 : Int32)), .val (.ref (w 2)), .unset, .unset] [(.int (1 : Int32))])) _
    refine XS.goto X4.here hx rfl (pc0 := 44) (pc' := 48) rfl (hb hby at_44) (by decide) (by decide) ?_
    show Steps p.tables e below (T4.setTop (mkF m 48 #[.val (.int p0), .val (.int p1), .val (.ref (w 1)), .val (.int (1 : Int32)), .val (.ref (w 2)), .unset, .unset] [(.int (1 : Int32))])) _
    refine XS.istore X4.here hx rfl (hb hby at_48) rfl (l' := #[.val (.int p0), .val (.int p1), .val (.ref (w 1)), .val (.int (1 : Int32)), .val (.ref (w 2)), .val (.int (1 : Int32)), .unset]) rfl ?_
    show Steps p.tables e below (T4.setTop (mkF m 50 #[.val (.int p0), .val (.int p1), .val (.ref (w 1)), .val (.int (1 : Int32)), .val (.ref (w 2)), .val (.int (1 : Int32)), .unset] [])) _
    refine XS.aload X4.here hx rfl (hb hby at_50) rfl rfl ?_
    show Steps p.tables e below (T4.setTop (mkF m 52 #[.val (.int p0), .val (.int p1), .val (.ref (w 1)), .val (.int (1 : Int32)), .val (.ref (w 2)), .val (.int (1 : Int32)), .unset] [(.ref (w 2))])) _
    refine st5.trans ?_
    show Steps p.tables e below (T5.setTop (mkF m 55 #[.val (.int p0), .val (.int p1), .val (.ref (w 1)), .val (.int (1 : Int32)), .val (.ref (w 2)), .val (.int (1 : Int32)), .unset] [(.ref (w 1))])) _
    refine XS.aloadN X5.here hx rfl (hb hby at_55) rfl rfl ?_
    show Steps p.tables e below (T5.setTop (mkF m 56 #[.val (.int p0), .val (.int p1), .val (.ref (w 1)), .val (.int (1 : Int32)), .val (.ref (w 2)), .val (.int (1 : Int32)), .unset] [(.ref (w 1)), (.ref (w 1))])) _
    refine Jvm.RoadKit.acmp (g := (mkF m 56 #[.val (.int p0), .val (.int p1), .val (.ref (w 1)), .val (.int (1 : Int32)), .val (.ref (w 2)), .val (.int (1 : Int32)), .unset] [(.ref (w 1)), (.ref (w 1))])) X5 hx rfl rfl rfl (pc0 := 56) (pc' := 59) (same := true) rfl (hb hby at_56) rfl (decide_eq_true rfl) (by decide) (by decide) ?_
    show Steps p.tables e below (T5.setTop (mkF m 59 #[.val (.int p0), .val (.int p1), .val (.ref (w 1)), .val (.int (1 : Int32)), .val (.ref (w 2)), .val (.int (1 : Int32)), .unset] [])) _
    refine XS.iconst X5.here hx rfl (hb hby at_59) ?_
    show Steps p.tables e below (T5.setTop (mkF m 60 #[.val (.int p0), .val (.int p1), .val (.ref (w 1)), .val (.int (1 : Int32)), .val (.ref (w 2)), .val (.int (1 : Int32)), .unset] [(.int (1 : Int32))])) _
    refine XS.goto X5.here hx rfl (pc0 := 60) (pc' := 64) rfl (hb hby at_60) (by decide) (by decide) ?_
    show Steps p.tables e below (T5.setTop (mkF m 64 #[.val (.int p0), .val (.int p1), .val (.ref (w 1)), .val (.int (1 : Int32)), .val (.ref (w 2)), .val (.int (1 : Int32)), .unset] [(.int (1 : Int32))])) _
    refine XS.istore X5.here hx rfl (hb hby at_64) rfl (l' := #[.val (.int p0), .val (.int p1), .val (.ref (w 1)), .val (.int (1 : Int32)), .val (.ref (w 2)), .val (.int (1 : Int32)), .val (.int (1 : Int32))]) rfl ?_
    show Steps p.tables e below (T5.setTop (mkF m 66 #[.val (.int p0), .val (.int p1), .val (.ref (w 1)), .val (.int (1 : Int32)), .val (.ref (w 2)), .val (.int (1 : Int32)), .val (.int (1 : Int32))] [])) _
    refine XS.iload X5.here hx rfl (hb hby at_66) rfl ?_
    show Steps p.tables e below (T5.setTop (mkF m 68 #[.val (.int p0), .val (.int p1), .val (.ref (w 1)), .val (.int (1 : Int32)), .val (.ref (w 2)), .val (.int (1 : Int32)), .val (.int (1 : Int32))] [(.int (1 : Int32))])) _
    refine XS.ifNo X5.here hx rfl (hb hby at_68) rfl ((if0 _ _).trans (feq (by decide : ¬ ((1 : Int32) = (0 : Int32)))).1) ?_
    show Steps p.tables e below (T5.setTop (mkF m 71 #[.val (.int p0), .val (.int p1), .val (.ref (w 1)), .val (.int (1 : Int32)), .val (.ref (w 2)), .val (.int (1 : Int32)), .val (.int (1 : Int32))] [])) _
    refine XS.iload X5.here hx rfl (hb hby at_71) rfl ?_
    show Steps p.tables e below (T5.setTop (mkF m 73 #[.val (.int p0), .val (.int p1), .val (.ref (w 1)), .val (.int (1 : Int32)), .val (.ref (w 2)), .val (.int (1 : Int32)), .val (.int (1 : Int32))] [(.int (1 : Int32))])) _
    refine XS.ifNo X5.here hx rfl (hb hby at_73) rfl ((if0 _ _).trans (feq (by decide : ¬ ((1 : Int32) = (0 : Int32)))).1) ?_
    show Steps p.tables e below (T5.setTop (mkF m 76 #[.val (.int p0), .val (.int p1), .val (.ref (w 1)), .val (.int (1 : Int32)), .val (.ref (w 2)), .val (.int (1 : Int32)), .val (.int (1 : Int32))] [])) _
    refine XS.iconst X5.here hx rfl (hb hby at_76) ?_
    show Steps p.tables e below (T5.setTop (mkF m 77 #[.val (.int p0), .val (.int p1), .val (.ref (w 1)), .val (.int (1 : Int32)), .val (.ref (w 2)), .val (.int (1 : Int32)), .val (.int (1 : Int32))] [(.int (1 : Int32))])) _
    refine XS.goto X5.here hx rfl (pc0 := 77) (pc' := 81) rfl (hb hby at_77) (by decide) (by decide) ?_
    show Steps p.tables e below (T5.setTop (mkF m 81 #[.val (.int p0), .val (.int p1), .val (.ref (w 1)), .val (.int (1 : Int32)), .val (.ref (w 2)), .val (.int (1 : Int32)), .val (.int (1 : Int32))] [(.int (1 : Int32))])) _
    exact retN X5 hx (t := .boolean) Bd.returns (by simp) (hb hby at_81) hr
  · show OL (some (.int (1 : Int32))) Z.heap.size _ T5.heap _
    exact ⟨rfl, N5⟩
set_option maxRecDepth 65536 in
set_option maxHeartbeats 40000000 in
theorem rm_34 (l : Launch) (Z : State) (a0 : Array Value) (hw : ∀ d ∈ tables_1, d.before a0 Z = true) (w : Nat → Addr) (kk : Nat → ClassId) (hN : Wd Z w kk) (ws : List Jvm.Cond)  (h0 : Heap) (O0 : Old Z Z.heap.size h0) :
    MetFree l (⟨"org/cartulary/repository/Condition$Operator", "holds", "(I)Z"⟩ : MethodName) (head1 (Jvm.Cond.code (⟨"org/cartulary/repository/Condition$Operator", "holds", "(I)Z"⟩ : MethodName) prog_67_method_5_code 2 (some .boolean) :: ws) ({ frames := 1, cells := 0, slots := 0, locals := 12 } : Room)) (fun a U => a = #[(.ref (w 2)), (.int (0 : Int32))] ∧ Z.Warmed39 U.vm ∧ U.heap = h0) (fun _ _ _ _ _ => True) (fun _ U o U' => ∃ v L, o = .returned v ∧ OQ (some (.int (0 : Int32))) h0 Z.heap.size v U'.heap L ∧ FrameEnd U o U' L ({ frames := 1, cells := 0, slots := 0, locals := 12 } : Room).cells ({ frames := 1, cells := 0, slots := 0, locals := 12 } : Room).slots) := by
  have hN' := hN
  obtain ⟨hS0, hE0, hS1, hE1, hS2, hE2, hS3, hE3, hS4, hE4, hS5, hE5, hF0_ordinal, hF1_ordinal, hF2_ordinal, hF3_ordinal, hF4_ordinal, hF5_ordinal⟩ := hN'
  refine MetFree.of_bodySF (plainFor_of_name pn_2) hisR ?_
  intro p e s m args below meth c s₁ Bd hml0 hP hK
  obtain ⟨rfl, hZ, hh⟩ := hP
  have hx := Bd.exec
  have hby := Bd.bytes
  have hml : c.maxLocals = 2 := hml0
  have hown : s.vm.findClass "org/cartulary/repository/Condition$Operator" = some m.cls := findClass_of_methodNamed Bd.named
  have hnm := (name_of_methodNamed Bd.named Bd.method).1
  have X0 : Stand p l e ({ frames := 1, cells := 0, slots := 0, locals := 12 } : Room) s m #[(.ref (w 2)), (.int (0 : Int32))] below meth c s₁ [] 0 0 := Stand.of_body Bd
  have e0 : s₁.heap = h0 := by rw [← hh, Bd.state]; rfl
  have N0 := Fr.nil Z.heap.size
  have pre0 : ∀ t, Steps p.tables e below (s₁.setTop (mkF m 0 #[.val (.ref (w 2)), .val (.int (0 : Int32))] [])) t → Steps p.tables e below (s₁.setTop (entryFrame m #[(.ref (w 2)), (.int (0 : Int32))] 2)) t := fun t k => castTop (ef_2 m (.ref (w 2)) rfl (.int (0 : Int32)) rfl) k
  obtain ⟨cq1, kq1, q1a, q1b, q1c⟩ := isOf hZ e0 (hE2.ext O0.2)
  obtain ⟨_, _, ⟨T1, L1, k1, n1⟩, -, X1, ⟨Lc1, hQ1, l1, y1, z1⟩, st1⟩ := X0.virtualBackUp hx (x := (⟨"org/cartulary/repository/Condition$Operator", "ordinal", "()I"⟩ : MethodName)) (y := (⟨"java/lang/Enum", "ordinal", "()I"⟩ : MethodName)) (owner := "java/lang/Enum") hown (mvT hZ (W hw 13 rfl)) (mvT hZ (W hw 14 rfl)) (mvT hZ (W hw 15 rfl)) (by decide) (mvT hZ (W hw 17 rfl)) (mvT hZ (W hw 16 rfl)) (backOf (W := 0) (rm_26 l Z a0 hw w kk hN [] h0 O0) hZ (W hw 19 rfl) (W hw 18 rfl) (by decide) (by decide)) q1a q1c (g := (mkF m 1 #[.val (.ref (w 2)), .val (.int (0 : Int32))] [(.ref (w 2))])) rfl (by rw [hml]; rfl) (Steps.refl _) (argsL := []) (rest := []) (lenOf pd_1 rfl) rfl (by show 2 * 0 + _ ≤ _; exact Nat.le_of_eq rfl) (hb hby d_prog_67_method_5_code_1) (fun _ _ => ⟨rfl, e0, (by decide : 0 + 0 ≤ _), (by decide : 0 + 0 ≤ _)⟩)
  dsimp only [Pt.U, Pt.locs, Pt.cells, Pt.slots] at X1 l1 y1 z1 st1 hQ1
  subst l1 y1 z1
  obtain ⟨rfl, N1q, e1⟩ := hQ1
  have N1 := Fr.app N0 N1q
  obtain ⟨fs, hr, hrun, hended, hW, hsame⟩ := X1.leave (v := some (.int (0 : Int32))) (fun h => by rw [Bd.returns] at h; cases h)
  refine ⟨_, _, pre0 _ ?_, hrun, hended, _, _, rfl, ?_, ⟨_, rfl⟩, hW, hsame.mono (by decide) (by decide)⟩
  · show Steps p.tables e below (s₁.setTop (mkF m 0 #[.val (.ref (w 2)), .val (.int (0 : Int32))] [])) _
    refine XS.aloadN X0.here hx rfl (hb hby d_prog_67_method_5_code_0) rfl rfl ?_
    show Steps p.tables e below (s₁.setTop (mkF m 1 #[.val (.ref (w 2)), .val (.int (0 : Int32))] [(.ref (w 2))])) _
    refine st1.trans ?_
    show Steps p.tables e below (T1.setTop (mkF m 4 #[.val (.ref (w 2)), .val (.int (0 : Int32))] [(.int (4 : Int32))])) _
    refine XS.tswIn X1.here hx rfl (pc0 := 4) (pc' := 102) (o := 98) rfl (hb hby d_prog_67_method_5_code_4) rfl (by decide) (by decide) (by decide) (by decide) ?_
    show Steps p.tables e below (T1.setTop (mkF m 102 #[.val (.ref (w 2)), .val (.int (0 : Int32))] [])) _
    refine XS.iloadN X1.here hx rfl (hb hby d_prog_67_method_5_code_102) rfl ?_
    show Steps p.tables e below (T1.setTop (mkF m 103 #[.val (.ref (w 2)), .val (.int (0 : Int32))] [(.int (0 : Int32))])) _
    refine XS.ifYes X1.here hx rfl (pc0 := 103) (pc' := 110) rfl (hb hby d_prog_67_method_5_code_103) rfl ((if0 _ _).trans (flt (by decide : ¬ ((0 : Int32) < (0 : Int32)))).2.2.2) (by decide) (by decide) ?_
    show Steps p.tables e below (T1.setTop (mkF m 110 #[.val (.ref (w 2)), .val (.int (0 : Int32))] [])) _
    refine XS.iconst X1.here hx rfl (hb hby d_prog_67_method_5_code_110) ?_
    show Steps p.tables e below (T1.setTop (mkF m 111 #[.val (.ref (w 2)), .val (.int (0 : Int32))] [(.int (0 : Int32))])) _
    refine XS.goto X1.here hx rfl (pc0 := 111) (pc' := 123) rfl (hb hby d_prog_67_method_5_code_111) (by decide) (by decide) ?_
    show Steps p.tables e below (T1.setTop (mkF m 123 #[.val (.ref (w 2)), .val (.int (0 : Int32))] [(.int (0 : Int32))])) _
    exact retN X1 hx (t := .boolean) Bd.returns (by simp) (hb hby d_prog_67_method_5_code_123) hr
  · show OQ (some (.int (0 : Int32))) h0 Z.heap.size _ T1.heap _
    rw [e1]
    exact ⟨rfl, N1, rfl⟩
set_option maxRecDepth 65536 in
set_option maxHeartbeats 40000000 in
theorem law_35 (l : Launch) (Z : State) (a0 : Array Value) (hw : ∀ d ∈ tables_1, d.before a0 Z = true) (w : Nat → Addr) (kk : Nat → ClassId) (hN : Wd Z w kk) (ws : List Jvm.Cond) (p0 : Int32) (p1 : Int32) (h0 : Heap) (O0 : Old Z Z.heap.size h0) (hp0 : ((p0 &&& (2147483647 : Int32)) % (6 : Int32)) = (2 : Int32)) (hp1 : ¬ ((0 : Int32) < p1)) (hp2 : ¬ (p1 < (0 : Int32))) :
    MetFree l x (head1 (Jvm.Cond.code x code maxLocals ret :: ws) room_1) (fun a U => a = #[(.int p0), (.int p1)] ∧ Z.Warmed39 U.vm ∧ U.heap = h0) (fun _ _ _ _ _ => True) (fun _ U o U' => ∃ v L, o = .returned v ∧ OL (some (.int (1 : Int32))) Z.heap.size v U'.heap L ∧ FrameEnd U o U' L 0 0) := by
  have hN' := hN
  obtain ⟨hS0, hE0, hS1, hE1, hS2, hE2, hS3, hE3, hS4, hE4, hS5, hE5, hF0_ordinal, hF1_ordinal, hF2_ordinal, hF3_ordinal, hF4_ordinal, hF5_ordinal⟩ := hN'
  refine MetFree.of_bodySF (plainFor_of_name pn_0) hisR ?_
  intro p e s m args below meth c s₁ Bd hml0 hP hK
  obtain ⟨rfl, hZ, hh⟩ := hP
  have hx := Bd.exec
  have hby := Bd.bytes
  have hml : c.maxLocals = 7 := hml0
  have hown : s.vm.findClass "org/cartulary/repository/OperatorSwappedPinLaw" = some m.cls := findClass_of_methodNamed Bd.named
  have hnm := (name_of_methodNamed Bd.named Bd.method).1
  have X0 : Stand p l e room_1 s m #[(.int p0), (.int p1)] below meth c s₁ [] 0 0 := Stand.of_body Bd
  have e0 : s₁.heap = h0 := by rw [← hh, Bd.state]; rfl
  have N0 := Fr.nil Z.heap.size
  have pre0 : ∀ t, Steps p.tables e below (s₁.setTop (mkF m 0 #[.val (.int p0), .val (.int p1), .unset, .unset, .unset, .unset, .unset] [])) t → Steps p.tables e below (s₁.setTop (entryFrame m #[(.int p0), (.int p1)] maxLocals)) t := fun t k => castTop (ef_3 m (.int p0) rfl (.int p1) rfl) k
  obtain ⟨_, _, ⟨T1, L1, k1, n1⟩, -, X1, ⟨Lc1, hQ1, l1, y1, z1⟩, st1⟩ := Jvm.LawKit.callS X0 hx (y := (⟨"org/cartulary/repository/OperatorSwappedPinLaw", "pick", "(I)Lorg/cartulary/repository/Condition$Operator;"⟩ : MethodName)) hown (mvT hZ (W hw 0 rfl)) (mvT hZ (W hw 1 rfl)) (mvT hZ (W hw 2 rfl)) (mvT hZ (W hw 3 rfl)) (by decide) (backOf (W := 0) (rm_23 l Z a0 hw w kk hN [] p0 h0 O0 hp0) hZ (W hw 3 rfl) (W hw 2 rfl) (by decide) (by decide)) (g := (mkF m 1 #[.val (.int p0), .val (.int p1), .unset, .unset, .unset, .unset, .unset] [(.int p0)])) rfl (by rw [hml]; rfl) (argsL := [(.int p0)]) (rest := []) (lenOf pd_0 rfl) rfl (by show 2 * 0 + _ ≤ _; exact Nat.le_of_eq rfl) (hb hby at_1) (fun _ _ => ⟨rfl, e0, (by decide : 0 + 0 ≤ _), (by decide : 0 + 0 ≤ _)⟩)
  dsimp only [Pt.U, Pt.locs, Pt.cells, Pt.slots] at X1 l1 y1 z1 st1 hQ1
  subst l1 y1 z1
  obtain ⟨rfl, N1q, e1⟩ := hQ1
  have N1 := Fr.app N0 N1q
  obtain ⟨cq2, kq2, q2a, q2b, q2c⟩ := isOf hZ e1 (hE1.ext O0.2)
  obtain ⟨_, _, ⟨T2, L2, k2, n2⟩, -, X2, ⟨Lc2, hQ2, l2, y2, z2⟩, st2⟩ := X1.virtualBack hx (y := (⟨"org/cartulary/repository/Condition$Operator", "swapped", "()Lorg/cartulary/repository/Condition$Operator;"⟩ : MethodName)) (z := (⟨"org/cartulary/repository/Condition$Operator", "swapped", "()Lorg/cartulary/repository/Condition$Operator;"⟩ : MethodName)) hown (mvT hZ (W hw 8 rfl)) (mvT hZ (W hw 9 rfl)) (notFace_of_selects (args := #[]) (mvT hZ (W hw 11 rfl))) (mvT hZ (W hw 11 rfl)) (mvT hZ (W hw 10 rfl)) (by decide) (backOf (W := 0) (rm_25 l Z a0 hw w kk hN [] h0 O0) hZ (W hw 12 rfl) (W hw 6 rfl) (by decide) (by decide)) q2a q2c (g := (mkF m 24 #[.val (.int p0), .val (.int p1), .val (.ref (w 1)), .val (.int (0 : Int32)), .unset, .unset, .unset] [(.ref (w 1))])) rfl (by rw [hml]; rfl) (Steps.refl _) (argsL := []) (rest := []) (lenOf pd_2 rfl) rfl (by show 2 * 0 + _ ≤ _; exact Nat.le_of_eq rfl) (hb hby at_24) (fun _ _ => ⟨rfl, e1, (by decide : 0 + 0 ≤ _), (by decide : 0 + 0 ≤ _)⟩)
  dsimp only [Pt.U, Pt.locs, Pt.cells, Pt.slots] at X2 l2 y2 z2 st2 hQ2
  subst l2 y2 z2
  obtain ⟨rfl, N2q, e2⟩ := hQ2
  have N2 := Fr.app N1 N2q
  obtain ⟨cq3, kq3, q3a, q3b, q3c⟩ := isOf hZ e2 (hE2.ext O0.2)
  obtain ⟨_, _, ⟨T3, L3, k3, n3⟩, -, X3, ⟨Lc3, hQ3, l3, y3, z3⟩, st3⟩ := X2.virtualBack hx (y := (⟨"org/cartulary/repository/Condition$Operator", "holds", "(I)Z"⟩ : MethodName)) (z := (⟨"org/cartulary/repository/Condition$Operator", "holds", "(I)Z"⟩ : MethodName)) hown (mvT hZ (W hw 22 rfl)) (mvT hZ (W hw 23 rfl)) (notFace_of_selects (args := #[]) (mvT hZ (W hw 25 rfl))) (mvT hZ (W hw 25 rfl)) (mvT hZ (W hw 24 rfl)) (by decide) (backOf (W := 0) (rm_34 l Z a0 hw w kk hN [] h0 O0) hZ (W hw 26 rfl) (W hw 6 rfl) (by decide) (by decide)) q3a q3c (g := (mkF m 32 #[.val (.int p0), .val (.int p1), .val (.ref (w 1)), .val (.int (0 : Int32)), .val (.ref (w 2)), .unset, .unset] [(.int (0 : Int32)), (.ref (w 2))])) rfl (by rw [hml]; rfl) (Steps.refl _) (argsL := [(.int (0 : Int32))]) (rest := []) (lenOf pd_3 rfl) rfl (by show 2 * 0 + _ ≤ _; exact Nat.le_of_eq rfl) (hb hby at_32) (fun _ _ => ⟨rfl, e2, (by decide : 0 + 0 ≤ _), (by decide : 0 + 0 ≤ _)⟩)
  dsimp only [Pt.U, Pt.locs, Pt.cells, Pt.slots] at X3 l3 y3 z3 st3 hQ3
  subst l3 y3 z3
  obtain ⟨rfl, N3q, e3⟩ := hQ3
  have N3 := Fr.app N2 N3q
  obtain ⟨cq4, kq4, q4a, q4b, q4c⟩ := isOf hZ e3 (hE1.ext O0.2)
  obtain ⟨_, _, ⟨T4, L4, k4, n4⟩, -, X4, ⟨Lc4, hQ4, l4, y4, z4⟩, st4⟩ := X3.virtualBack hx (y := (⟨"org/cartulary/repository/Condition$Operator", "holds", "(I)Z"⟩ : MethodName)) (z := (⟨"org/cartulary/repository/Condition$Operator", "holds", "(I)Z"⟩ : MethodName)) hown (mvT hZ (W hw 22 rfl)) (mvT hZ (W hw 23 rfl)) (notFace_of_selects (args := #[]) (mvT hZ (W hw 25 rfl))) (mvT hZ (W hw 25 rfl)) (mvT hZ (W hw 24 rfl)) (by decide) (backOf (W := 1) (rm_28 l Z a0 hw w kk hN [] p1 h0 O0 hp2) hZ (W hw 26 rfl) (W hw 6 rfl) (by decide) (by decide)) q4a q4c (g := (mkF m 37 #[.val (.int p0), .val (.int p1), .val (.ref (w 1)), .val (.int (0 : Int32)), .val (.ref (w 2)), .unset, .unset] [(.int p1), (.ref (w 1)), (.int (0 : Int32))])) rfl (by rw [hml]; rfl) (Steps.refl _) (argsL := [(.int p1)]) (rest := [(.int (0 : Int32))]) (lenOf pd_3 rfl) rfl (by show 2 * 0 + _ ≤ _; exact Nat.le_of_eq rfl) (hb hby at_37) (fun _ _ => ⟨rfl, e3, (by decide : 0 + 0 ≤ _), (by decide : 0 + 0 ≤ _)⟩)
  dsimp only [Pt.U, Pt.locs, Pt.cells, Pt.slots] at X4 l4 y4 z4 st4 hQ4
  subst l4 y4 z4
  obtain ⟨rfl, N4q, e4⟩ := hQ4
  have N4 := Fr.app N3 N4q
  obtain ⟨cq5, kq5, q5a, q5b, q5c⟩ := isOf hZ e4 (hE2.ext O0.2)
  obtain ⟨_, _, ⟨T5, L5, k5, n5⟩, -, X5, ⟨Lc5, hQ5, l5, y5, z5⟩, st5⟩ := X4.virtualBack hx (y := (⟨"org/cartulary/repository/Condition$Operator", "swapped", "()Lorg/cartulary/repository/Condition$Operator;"⟩ : MethodName)) (z := (⟨"org/cartulary/repository/Condition$Operator", "swapped", "()Lorg/cartulary/repository/Condition$Operator;"⟩ : MethodName)) hown (mvT hZ (W hw 8 rfl)) (mvT hZ (W hw 9 rfl)) (notFace_of_selects (args := #[]) (mvT hZ (W hw 11 rfl))) (mvT hZ (W hw 11 rfl)) (mvT hZ (W hw 10 rfl)) (by decide) (backOf (W := 0) (rm_29 l Z a0 hw w kk hN [] h0 O0) hZ (W hw 12 rfl) (W hw 6 rfl) (by decide) (by decide)) q5a q5c (g := (mkF m 52 #[.val (.int p0), .val (.int p1), .val (.ref (w 1)), .val (.int (0 : Int32)), .val (.ref (w 2)), .val (.int (1 : Int32)), .unset] [(.ref (w 2))])) rfl (by rw [hml]; rfl) (Steps.refl _) (argsL := []) (rest := []) (lenOf pd_2 rfl) rfl (by show 2 * 0 + _ ≤ _; exact Nat.le_of_eq rfl) (hb hby at_52) (fun _ _ => ⟨rfl, e4, (by decide : 0 + 0 ≤ _), (by decide : 0 + 0 ≤ _)⟩)
  dsimp only [Pt.U, Pt.locs, Pt.cells, Pt.slots] at X5 l5 y5 z5 st5 hQ5
  subst l5 y5 z5
  obtain ⟨rfl, N5q, e5⟩ := hQ5
  have N5 := Fr.app N4 N5q
  obtain ⟨fs, hr, hrun, hended, hW, hsame⟩ := X5.leave (v := some (.int (1 : Int32))) (fun h => by rw [Bd.returns] at h; cases h)
  refine ⟨_, _, pre0 _ ?_, hrun, hended, _, _, rfl, ?_, ⟨_, rfl⟩, hW, hsame.mono (by decide) (by decide)⟩
  · show Steps p.tables e below (s₁.setTop (mkF m 0 #[.val (.int p0), .val (.int p1), .unset, .unset, .unset, .unset, .unset] [])) _
    refine XS.iloadN X0.here hx rfl (hb hby at_0) rfl ?_
    show Steps p.tables e below (s₁.setTop (mkF m 1 #[.val (.int p0), .val (.int p1), .unset, .unset, .unset, .unset, .unset] [(.int p0)])) _
    refine st1 _ ?_
    show Steps p.tables e below (T1.setTop (mkF m 4 #[.val (.int p0), .val (.int p1), .unset, .unset, .unset, .unset, .unset] [(.ref (w 1))])) _
    refine XS.astoreN X1.here hx rfl (hb hby at_4) rfl rfl (l' := #[.val (.int p0), .val (.int p1), .val (.ref (w 1)), .unset, .unset, .unset, .unset]) rfl ?_
    show Steps p.tables e below (T1.setTop (mkF m 5 #[.val (.int p0), .val (.int p1), .val (.ref (w 1)), .unset, .unset, .unset, .unset] [])) _
    refine XS.iloadN X1.here hx rfl (hb hby at_5) rfl ?_
    show Steps p.tables e below (T1.setTop (mkF m 6 #[.val (.int p0), .val (.int p1), .val (.ref (w 1)), .unset, .unset, .unset, .unset] [(.int p1)])) _
    refine XS.ifYes X1.here hx rfl (pc0 := 6) (pc' := 13) rfl (hb hby at_6) rfl ((if0 _ _).trans (flt hp1).2.2.2) (by decide) (by decide) ?_
    show Steps p.tables e below (T1.setTop (mkF m 13 #[.val (.int p0), .val (.int p1), .val (.ref (w 1)), .unset, .unset, .unset, .unset] [])) _
    refine XS.iloadN X1.here hx rfl (hb hby at_13) rfl ?_
    show Steps p.tables e below (T1.setTop (mkF m 14 #[.val (.int p0), .val (.int p1), .val (.ref (w 1)), .unset, .unset, .unset, .unset] [(.int p1)])) _
    refine XS.ifYes X1.here hx rfl (pc0 := 14) (pc' := 21) rfl (hb hby at_14) rfl ((if0 _ _).trans (flt hp2).2.1) (by decide) (by decide) ?_
    show Steps p.tables e below (T1.setTop (mkF m 21 #[.val (.int p0), .val (.int p1), .val (.ref (w 1)), .unset, .unset, .unset, .unset] [])) _
    refine XS.iconst X1.here hx rfl (hb hby at_21) ?_
    show Steps p.tables e below (T1.setTop (mkF m 22 #[.val (.int p0), .val (.int p1), .val (.ref (w 1)), .unset, .unset, .unset, .unset] [(.int (0 : Int32))])) _
    refine XS.istoreN X1.here hx rfl (hb hby at_22) rfl (l' := #[.val (.int p0), .val (.int p1), .val (.ref (w 1)), .val (.int (0 : Int32)), .unset, .unset, .unset]) rfl ?_
    show Steps p.tables e below (T1.setTop (mkF m 23 #[.val (.int p0), .val (.int p1), .val (.ref (w 1)), .val (.int (0 : Int32)), .unset, .unset, .unset] [])) _
    refine XS.aloadN X1.here hx rfl (hb hby at_23) rfl rfl ?_
    show Steps p.tables e below (T1.setTop (mkF m 24 #[.val (.int p0), .val (.int p1), .val (.ref (w 1)), .val (.int (0 : Int32)), .unset, .unset, .unset] [(.ref (w 1))])) _
    refine st2.trans ?_
    show Steps p.tables e below (T2.setTop (mkF m 27 #[.val (.int p0), .val (.int p1), .val (.ref (w 1)), .val (.int (0 : Int32)), .unset, .unset, .unset] [(.ref (w 2))])) _
    refine XS.astore X2.here hx rfl (hb hby at_27) rfl rfl (l' := #[.val (.int p0), .val (.int p1), .val (.ref (w 1)), .val (.int (0 : Int32)), .val (.ref (w 2)), .unset, .unset]) rfl ?_
    show Steps p.tables e below (T2.setTop (mkF m 29 #[.val (.int p0), .val (.int p1), .val (.ref (w 1)), .val (.int (0 : Int32)), .val (.ref (w 2)), .unset, .unset] [])) _
    refine XS.aload X2.here hx rfl (hb hby at_29) rfl rfl ?_
    show Steps p.tables e below (T2.setTop (mkF m 31 #[.val (.int p0), .val (.int p1), .val (.ref (w 1)), .val (.int (0 : Int32)), .val (.ref (w 2)), .unset, .unset] [(.ref (w 2))])) _
    refine XS.iloadN X2.here hx rfl (hb hby at_31) rfl ?_
    show Steps p.tables e below (T2.setTop (mkF m 32 #[.val (.int p0), .val (.int p1), .val (.ref (w 1)), .val (.int (0 : Int32)), .val (.ref (w 2)), .unset, .unset] [(.int (0 : Int32)), (.ref (w 2))])) _
    refine st3.trans ?_
    show Steps p.tables e below (T3.setTop (mkF m 35 #[.val (.int p0), .val (.int p1), .val (.ref (w 1)), .val (.int (0 : Int32)), .val (.ref (w 2)), .unset, .unset] [(.int (0 : Int32))])) _
    refine XS.aloadN X3.here hx rfl (hb hby at_35) rfl rfl ?_
    show Steps p.tables e below (T3.setTop (mkF m 36 #[.val (.int p0), .val (.int p1), .val (.ref (w 1)), .val (.int (0 : Int32)), .val (.ref (w 2)), .unset, .unset] [(.ref (w 1)), (.int (0 : Int32))])) _
    refine XS.iloadN X3.here hx rfl (hb hby at_36) rfl ?_
    show Steps p.tables e below (T3.setTop (mkF m 37 #[.val (.int p0), .val (.int p1), .val (.ref (w 1)), .val (.int (0 : Int32)), .val (.ref (w 2)), .unset, .unset] [(.int p1), (.ref (w 1)), (.int (0 : Int32))])) _
    refine st4.trans ?_
    show Steps p.tables e below (T4.setTop (mkF m 40 #[.val (.int p0), .val (.int p1), .val (.ref (w 1)), .val (.int (0 : Int32)), .val (.ref (w 2)), .unset, .unset] [(.int (0 : Int32)), (.int (0 : Int32))])) _
    refine XS.icmpNo X4.here hx rfl (hb hby at_40) rfl (teq (by decide : (0 : Int32) = (0 : Int32))).2 ?_
    show Steps p.tables e below (T4.setTop (mkF m 43 #[.val (.int p0), .val (.int p1), .val (.ref (w 1)), .val (.int (0 : Int32)), .val (.ref (w 2)), .unset, .unset] [])) _
    refine XS.iconst X4.here hx rfl (hb hby at_43) ?_
    show Steps p.tables e below (T4.setTop (mkF m 44 #[.val (.int p0), .val (.int p1), .val (.ref (w 1)), .val (.int (0 : Int32)), .val (.ref (w 2)), .unset, .unset] [(.int (1 : Int32))])) _
    refine XS.goto X4.here hx rfl (pc0 := 44) (pc' := 48) rfl (hb hby at_44) (by decide) (by decide) ?_
    show Steps p.tables e below (T4.setTop (mkF m 48 #[.val (.int p0), .val (.int p1), .val (.ref (w 1)), .val (.int (0 : Int32)), .val (.ref (w 2)), .unset, .unset] [(.int (1 : Int32))])) _
    refine XS.istore X4.here hx rfl (hb hby at_48) rfl (l' := #[.val (.int p0), .val (.int p1), .val (.ref (w 1)), .val (.int (0 : Int32)), .val (.ref (w 2)), .val (.int (1 : Int32)), .unset]) rfl ?_
    show Steps p.tables e below (T4.setTop (mkF m 50 #[.val (.int p0), .val (.int p1), .val (.ref (w 1)), .val (.int (0 : Int32)), .val (.ref (w 2)), .val (.int (1 : Int32)), .unset] [])) _
    refine XS.aload X4.here hx rfl (hb hby at_50) rfl rfl ?_
    show Steps p.tables e below (T4.setTop (mkF m 52 #[.val (.int p0), .val (.int p1), .val (.ref (w 1)), .val (.int (0 : Int32)), .val (.ref (w 2)), .val (.int (1 : Int32)), .unset] [(.ref (w 2))])) _
    refine st5.trans ?_
    show Steps p.tables e below (T5.setTop (mkF m 55 #[.val (.int p0), .val (.int p1), .val (.ref (w 1)), .val (.int (0 : Int32)), .val (.ref (w 2)), .val (.int (1 : Int32)), .unset] [(.ref (w 1))])) _
    refine XS.aloadN X5.here hx rfl (hb hby at_55) rfl rfl ?_
    show Steps p.tables e below (T5.setTop (mkF m 56 #[.val (.int p0), .val (.int p1), .val (.ref (w 1)), .val (.int (0 : Int32)), .val (.ref (w 2)), .val (.int (1 : Int32)), .unset] [(.ref (w 1)), (.ref (w 1))])) _
    refine Jvm.RoadKit.acmp (g := (mkF m 56 #[.val (.int p0), .val (.int p1), .val (.ref (w 1)), .val (.int (0 : Int32)), .val (.ref (w 2)), .val (.int (1 : Int32)), .unset] [(.ref (w 1)), (.ref (w 1))])) X5 hx rfl rfl rfl (pc0 := 56) (pc' := 59) (same := true) rfl (hb hby at_56) rfl (decide_eq_true rfl) (by decide) (by decide) ?_
    show Steps p.tables e below (T5.setTop (mkF m 59 #[.val (.int p0), .val (.int p1), .val (.ref (w 1)), .val (.int (0 : Int32)), .val (.ref (w 2)), .val (.int (1 : Int32)), .unset] [])) _
    refine XS.iconst X5.here hx rfl (hb hby at_59) ?_
    show Steps p.tables e below (T5.setTop (mkF m 60 #[.val (.int p0), .val (.int p1), .val (.ref (w 1)), .val (.int (0 : Int32)), .val (.ref (w 2)), .val (.int (1 : Int32)), .unset] [(.int (1 : Int32))])) _
    refine XS.goto X5.here hx rfl (pc0 := 60) (pc' := 64) rfl (hb hby at_60) (by decide) (by decide) ?_
    show Steps p.tables e below (T5.setTop (mkF m 64 #[.val (.int p0), .val (.int p1), .val (.ref (w 1)), .val (.int (0 : Int32)), .val (.ref (w 2)), .val (.int (1 : Int32)), .unset] [(.int (1 : Int32))])) _
    refine XS.istore X5.here hx rfl (hb hby at_64) rfl (l' := #[.val (.int p0), .val (.int p1), .val (.ref (w 1)), .val (.int (0 : Int32)), .val (.ref (w 2)), .val (.int (1 : Int32)), .val (.int (1 : Int32))]) rfl ?_
    show Steps p.tables e below (T5.setTop (mkF m 66 #[.val (.int p0), .val (.int p1), .val (.ref (w 1)), .val (.int (0 : Int32)), .val (.ref (w 2)), .val (.int (1 : Int32)), .val (.int (1 : Int32))] [])) _
    refine XS.iload X5.here hx rfl (hb hby at_66) rfl ?_
    show Steps p.tables e below (T5.setTop (mkF m 68 #[.val (.int p0), .val (.int p1), .val (.ref (w 1)), .val (.int (0 : Int32)), .val (.ref (w 2)), .val (.int (1 : Int32)), .val (.int (1 : Int32))] [(.int (1 : Int32))])) _
    refine XS.ifNo X5.here hx rfl (hb hby at_68) rfl ((if0 _ _).trans (feq (by decide : ¬ ((1 : Int32) = (0 : Int32)))).1) ?_
    show Steps p.tables e below (T5.setTop (mkF m 71 #[.val (.int p0), .val (.int p1), .val (.ref (w 1)), .val (.int (0 : Int32)), .val (.ref (w 2)), .val (.int (1 : Int32)), .val (.int (1 : Int32))] [])) _
    refine XS.iload X5.here hx rfl (hb hby at_71) rfl ?_
    show Steps p.tables e below (T5.setTop (mkF m 73 #[.val (.int p0), .val (.int p1), .val (.ref (w 1)), .val (.int (0 : Int32)), .val (.ref (w 2)), .val (.int (1 : Int32)), .val (.int (1 : Int32))] [(.int (1 : Int32))])) _
    refine XS.ifNo X5.here hx rfl (hb hby at_73) rfl ((if0 _ _).trans (feq (by decide : ¬ ((1 : Int32) = (0 : Int32)))).1) ?_
    show Steps p.tables e below (T5.setTop (mkF m 76 #[.val (.int p0), .val (.int p1), .val (.ref (w 1)), .val (.int (0 : Int32)), .val (.ref (w 2)), .val (.int (1 : Int32)), .val (.int (1 : Int32))] [])) _
    refine XS.iconst X5.here hx rfl (hb hby at_76) ?_
    show Steps p.tables e below (T5.setTop (mkF m 77 #[.val (.int p0), .val (.int p1), .val (.ref (w 1)), .val (.int (0 : Int32)), .val (.ref (w 2)), .val (.int (1 : Int32)), .val (.int (1 : Int32))] [(.int (1 : Int32))])) _
    refine XS.goto X5.here hx rfl (pc0 := 77) (pc' := 81) rfl (hb hby at_77) (by decide) (by decide) ?_
    show Steps p.tables e below (T5.setTop (mkF m 81 #[.val (.int p0), .val (.int p1), .val (.ref (w 1)), .val (.int (0 : Int32)), .val (.ref (w 2)), .val (.int (1 : Int32)), .val (.int (1 : Int32))] [(.int (1 : Int32))])) _
    exact retN X5 hx (t := .boolean) Bd.returns (by simp) (hb hby at_81) hr
  · show OL (some (.int (1 : Int32))) Z.heap.size _ T5.heap _
    exact ⟨rfl, N5⟩
theorem d_method_2_code_34 : decode method_2_code 34 = .ok (.iload_n 1, 1) := by decide +kernel
theorem d_method_2_code_35 : decode method_2_code 35 = .ok (.iconst 3, 1) := by decide +kernel
theorem d_method_2_code_36 : decode method_2_code 36 = .ok (.if_icmp .ne 7, 3) := by decide +kernel
theorem d_method_2_code_39 : decode method_2_code 39 = .ok (.getstatic 20, 3) := by decide +kernel
theorem d_method_2_code_42 : decode method_2_code 42 = .ok (.areturn, 1) := by decide +kernel
set_option maxRecDepth 65536 in
set_option maxHeartbeats 40000000 in
theorem rm_36 (l : Launch) (Z : State) (a0 : Array Value) (hw : ∀ d ∈ tables_1, d.before a0 Z = true) (w : Nat → Addr) (kk : Nat → ClassId) (hN : Wd Z w kk) (ws : List Jvm.Cond) (p0 : Int32) (h0 : Heap) (O0 : Old Z Z.heap.size h0) (hp0 : ((p0 &&& (2147483647 : Int32)) % (6 : Int32)) = (3 : Int32)) :
    MetFree l (⟨"org/cartulary/repository/OperatorSwappedPinLaw", "pick", "(I)Lorg/cartulary/repository/Condition$Operator;"⟩ : MethodName) (head1 (Jvm.Cond.code (⟨"org/cartulary/repository/OperatorSwappedPinLaw", "pick", "(I)Lorg/cartulary/repository/Condition$Operator;"⟩ : MethodName) method_2_code 2 (some (.object "org/cartulary/repository/Condition$Operator")) :: ws) ({ frames := 0, cells := 0, slots := 0, locals := 0 } : Room)) (fun a U => a = #[(.int p0)] ∧ Z.Warmed39 U.vm ∧ U.heap = h0) (fun _ _ _ _ _ => True) (fun _ U o U' => ∃ v L, o = .returned v ∧ OQ (some (.ref (w 5))) h0 Z.heap.size v U'.heap L ∧ FrameEnd U o U' L ({ frames := 0, cells := 0, slots := 0, locals := 0 } : Room).cells ({ frames := 0, cells := 0, slots := 0, locals := 0 } : Room).slots) := by
  have hN' := hN
  obtain ⟨hS0, hE0, hS1, hE1, hS2, hE2, hS3, hE3, hS4, hE4, hS5, hE5, hF0_ordinal, hF1_ordinal, hF2_ordinal, hF3_ordinal, hF4_ordinal, hF5_ordinal⟩ := hN'
  refine MetFree.of_bodySF (plainFor_of_name pn_0) hisR ?_
  intro p e s m args below meth c s₁ Bd hml0 hP hK
  obtain ⟨rfl, hZ, hh⟩ := hP
  have hx := Bd.exec
  have hby := Bd.bytes
  have hml : c.maxLocals = 2 := hml0
  have hown : s.vm.findClass "org/cartulary/repository/OperatorSwappedPinLaw" = some m.cls := findClass_of_methodNamed Bd.named
  have hnm := (name_of_methodNamed Bd.named Bd.method).1
  have X0 : Stand p l e ({ frames := 0, cells := 0, slots := 0, locals := 0 } : Room) s m #[(.int p0)] below meth c s₁ [] 0 0 := Stand.of_body Bd
  have e0 : s₁.heap = h0 := by rw [← hh, Bd.state]; rfl
  have N0 := Fr.nil Z.heap.size
  have pre0 : ∀ t, Steps p.tables e below (s₁.setTop (mkF m 0 #[.val (.int p0), .unset] [])) t → Steps p.tables e below (s₁.setTop (entryFrame m #[(.int p0)] 2)) t := fun t k => castTop (ef_0 m (.int p0) rfl) k
  obtain ⟨T1, X1, e1, st1⟩ := getS2 X0 hx hZ hown (host := "") (Or.inl (W hw 40 rfl)) Via.refl e0 (hS5.ext O0.2) (g := (mkF m 39 #[.val (.int p0), .val (.int (3 : Int32))] [])) rfl (hb hby d_method_2_code_39)
  obtain ⟨fs, hr, hrun, hended, hW, hsame⟩ := X1.leave (v := some (.ref (w 5))) (fun h => by rw [Bd.returns] at h; cases h)
  refine ⟨_, _, pre0 _ ?_, hrun, hended, _, _, rfl, ?_, ⟨_, rfl⟩, hW, hsame.mono (by decide) (by decide)⟩
  · show Steps p.tables e below (s₁.setTop (mkF m 0 #[.val (.int p0), .unset] [])) _
    refine XS.iloadN X0.here hx rfl (hb hby d_method_2_code_0) rfl ?_
    show Steps p.tables e below (s₁.setTop (mkF m 1 #[.val (.int p0), .unset] [(.int p0)])) _
    refine X0.ldcInt hx hown (mvT hZ (W hw 4 rfl)) (g := (mkF m 1 #[.val (.int p0), .unset] [(.int p0)])) rfl (hb hby d_method_2_code_1) _ ?_
    show Steps p.tables e below (s₁.setTop (mkF m 3 #[.val (.int p0), .unset] [(.int (2147483647 : Int32)), (.int p0)])) _
    refine XS.iand X0.here hx rfl (hb hby d_method_2_code_3) rfl ?_
    show Steps p.tables e below (s₁.setTop (mkF m 4 #[.val (.int p0), .unset] [(.int (p0 &&& (2147483647 : Int32)))])) _
    refine XS.bipush X0.here hx rfl (hb hby d_method_2_code_4) ?_
    show Steps p.tables e below (s₁.setTop (mkF m 6 #[.val (.int p0), .unset] [(.int (6 : Int32)), (.int (p0 &&& (2147483647 : Int32)))])) _
    refine iremM X0 hx rfl (hb hby d_method_2_code_6) rfl (by decide : ¬ ((6 : Int32) = (0 : Int32))) ?_
    show Steps p.tables e below (s₁.setTop (mkF m 7 #[.val (.int p0), .unset] [(.int ((p0 &&& (2147483647 : Int32)) % (6 : Int32)))])) _
    rw [hp0]
    show Steps p.tables e below (s₁.setTop (mkF m 7 #[.val (.int p0), .unset] [(.int (3 : Int32))])) _
    refine XS.istoreN X0.here hx rfl (hb hby d_method_2_code_7) rfl (l' := #[.val (.int p0), .val (.int (3 : Int32))]) rfl ?_
    show Steps p.tables e below (s₁.setTop (mkF m 8 #[.val (.int p0), .val (.int (3 : Int32))] [])) _
    refine XS.iloadN X0.here hx rfl (hb hby d_method_2_code_8) rfl ?_
    show Steps p.tables e below (s₁.setTop (mkF m 9 #[.val (.int p0), .val (.int (3 : Int32))] [(.int (3 : Int32))])) _
    refine XS.ifYes X0.here hx rfl (pc0 := 9) (pc' := 16) rfl (hb hby d_method_2_code_9) rfl ((if0 _ _).trans (feq (by decide : ¬ ((3 : Int32) = (0 : Int32)))).2) (by decide) (by decide) ?_
    show Steps p.tables e below (s₁.setTop (mkF m 16 #[.val (.int p0), .val (.int (3 : Int32))] [])) _
    refine XS.iloadN X0.here hx rfl (hb hby d_method_2_code_16) rfl ?_
    show Steps p.tables e below (s₁.setTop (mkF m 17 #[.val (.int p0), .val (.int (3 : Int32))] [(.int (3 : Int32))])) _
    refine XS.iconst X0.here hx rfl (hb hby d_method_2_code_17) ?_
    show Steps p.tables e below (s₁.setTop (mkF m 18 #[.val (.int p0), .val (.int (3 : Int32))] [(.int (1 : Int32)), (.int (3 : Int32))])) _
    refine XS.icmpYes X0.here hx rfl (pc0 := 18) (pc' := 25) rfl (hb hby d_method_2_code_18) rfl (feq (by decide : ¬ ((3 : Int32) = (1 : Int32)))).2 (by decide) (by decide) ?_
    show Steps p.tables e below (s₁.setTop (mkF m 25 #[.val (.int p0), .val (.int (3 : Int32))] [])) _
    refine XS.iloadN X0.here hx rfl (hb hby d_method_2_code_25) rfl ?_
    show Steps p.tables e below (s₁.setTop (mkF m 26 #[.val (.int p0), .val (.int (3 : Int32))] [(.int (3 : Int32))])) _
    refine XS.iconst X0.here hx rfl (hb hby d_method_2_code_26) ?_
    show Steps p.tables e below (s₁.setTop (mkF m 27 #[.val (.int p0), .val (.int (3 : Int32))] [(.int (2 : Int32)), (.int (3 : Int32))])) _
    refine XS.icmpYes X0.here hx rfl (pc0 := 27) (pc' := 34) rfl (hb hby d_method_2_code_27) rfl (feq (by decide : ¬ ((3 : Int32) = (2 : Int32)))).2 (by decide) (by decide) ?_
    show Steps p.tables e below (s₁.setTop (mkF m 34 #[.val (.int p0), .val (.int (3 : Int32))] [])) _
    refine XS.iloadN X0.here hx rfl (hb hby d_method_2_code_34) rfl ?_
    show Steps p.tables e below (s₁.setTop (mkF m 35 #[.val (.int p0), .val (.int (3 : Int32))] [(.int (3 : Int32))])) _
    refine XS.iconst X0.here hx rfl (hb hby d_method_2_code_35) ?_
    show Steps p.tables e below (s₁.setTop (mkF m 36 #[.val (.int p0), .val (.int (3 : Int32))] [(.int (3 : Int32)), (.int (3 : Int32))])) _
    refine XS.icmpNo X0.here hx rfl (hb hby d_method_2_code_36) rfl (teq (by decide : (3 : Int32) = (3 : Int32))).2 ?_
    show Steps p.tables e below (s₁.setTop (mkF m 39 #[.val (.int p0), .val (.int (3 : Int32))] [])) _
    refine st1 _ ?_
    show Steps p.tables e below (T1.setTop (mkF m 42 #[.val (.int p0), .val (.int (3 : Int32))] [(.ref (w 5))])) _
    exact retOut X1 hx Bd.returns rfl (Or.inr (Or.inr (Or.inr (Or.inr ⟨rfl, rfl, rfl⟩)))) (hb hby d_method_2_code_42) hr
  · show OQ (some (.ref (w 5))) h0 Z.heap.size _ T1.heap _
    rw [e1]
    exact ⟨rfl, N0, rfl⟩
set_option maxRecDepth 65536 in
set_option maxHeartbeats 40000000 in
theorem rm_37 (l : Launch) (Z : State) (a0 : Array Value) (hw : ∀ d ∈ tables_1, d.before a0 Z = true) (w : Nat → Addr) (kk : Nat → ClassId) (hN : Wd Z w kk) (ws : List Jvm.Cond)  (h0 : Heap) (O0 : Old Z Z.heap.size h0) :
    MetFree l (⟨"java/lang/Enum", "ordinal", "()I"⟩ : MethodName) (head1 (Jvm.Cond.code (⟨"java/lang/Enum", "ordinal", "()I"⟩ : MethodName) jdk_37_method_2_code 1 (some .int) :: ws) ({ frames := 0, cells := 0, slots := 0, locals := 0 } : Room)) (fun a U => a = #[(.ref (w 5))] ∧ Z.Warmed39 U.vm ∧ U.heap = h0) (fun _ _ _ _ _ => True) (fun _ U o U' => ∃ v L, o = .returned v ∧ OQ (some (.int (3 : Int32))) h0 Z.heap.size v U'.heap L ∧ FrameEnd U o U' L ({ frames := 0, cells := 0, slots := 0, locals := 0 } : Room).cells ({ frames := 0, cells := 0, slots := 0, locals := 0 } : Room).slots) := by
  have hN' := hN
  obtain ⟨hS0, hE0, hS1, hE1, hS2, hE2, hS3, hE3, hS4, hE4, hS5, hE5, hF0_ordinal, hF1_ordinal, hF2_ordinal, hF3_ordinal, hF4_ordinal, hF5_ordinal⟩ := hN'
  refine MetFree.of_bodySF (plainFor_of_name pn_1) hisR ?_
  intro p e s m args below meth c s₁ Bd hml0 hP hK
  obtain ⟨rfl, hZ, hh⟩ := hP
  have hx := Bd.exec
  have hby := Bd.bytes
  have hml : c.maxLocals = 1 := hml0
  have hown : s.vm.findClass "java/lang/Enum" = some m.cls := findClass_of_methodNamed Bd.named
  have hnm := (name_of_methodNamed Bd.named Bd.method).1
  have X0 : Stand p l e ({ frames := 0, cells := 0, slots := 0, locals := 0 } : Room) s m #[(.ref (w 5))] below meth c s₁ [] 0 0 := Stand.of_body Bd
  have e0 : s₁.heap = h0 := by rw [← hh, Bd.state]; rfl
  have N0 := Fr.nil Z.heap.size
  have pre0 : ∀ t, Steps p.tables e below (s₁.setTop (mkF m 0 #[.val (.ref (w 5))] [])) t → Steps p.tables e below (s₁.setTop (entryFrame m #[(.ref (w 5))] 1)) t := fun t k => castTop (ef_1 m (.ref (w 5)) rfl) k
  obtain ⟨T1, X1, e1, st1⟩ := getF X0 hx hZ hown (host := "") (Or.inl (W hw 20 rfl)) Via.refl e0 (hF5_ordinal.ext O0.2) (g := (mkF m 1 #[.val (.ref (w 5))] [(.ref (w 5))])) rfl rfl (hb hby d_jdk_37_method_2_code_1)
  obtain ⟨fs, hr, hrun, hended, hW, hsame⟩ := X1.leave (v := some (.int (3 : Int32))) (fun h => by rw [Bd.returns] at h; cases h)
  refine ⟨_, _, pre0 _ ?_, hrun, hended, _, _, rfl, ?_, ⟨_, rfl⟩, hW, hsame.mono (by decide) (by decide)⟩
  · show Steps p.tables e below (s₁.setTop (mkF m 0 #[.val (.ref (w 5))] [])) _
    refine XS.aloadN X0.here hx rfl (hb hby d_jdk_37_method_2_code_0) rfl rfl ?_
    show Steps p.tables e below (s₁.setTop (mkF m 1 #[.val (.ref (w 5))] [(.ref (w 5))])) _
    refine st1 _ ?_
    show Steps p.tables e below (T1.setTop (mkF m 4 #[.val (.ref (w 5))] [(.int (3 : Int32))])) _
    exact retI X1 hx Bd.returns (hb hby d_jdk_37_method_2_code_4) hr
  · show OQ (some (.int (3 : Int32))) h0 Z.heap.size _ T1.heap _
    rw [e1]
    exact ⟨rfl, N0, rfl⟩
theorem d_prog_67_method_6_code_64 : decode prog_67_method_6_code 64 = .ok (.getstatic 19, 3) := by decide +kernel
theorem d_prog_67_method_6_code_67 : decode prog_67_method_6_code 67 = .ok (.goto 12, 3) := by decide +kernel
set_option maxRecDepth 65536 in
set_option maxHeartbeats 40000000 in
theorem rm_38 (l : Launch) (Z : State) (a0 : Array Value) (hw : ∀ d ∈ tables_1, d.before a0 Z = true) (w : Nat → Addr) (kk : Nat → ClassId) (hN : Wd Z w kk) (ws : List Jvm.Cond)  (h0 : Heap) (O0 : Old Z Z.heap.size h0) :
    MetFree l (⟨"org/cartulary/repository/Condition$Operator", "swapped", "()Lorg/cartulary/repository/Condition$Operator;"⟩ : MethodName) (head1 (Jvm.Cond.code (⟨"org/cartulary/repository/Condition$Operator", "swapped", "()Lorg/cartulary/repository/Condition$Operator;"⟩ : MethodName) prog_67_method_6_code 1 (some (.object "org/cartulary/repository/Condition$Operator")) :: ws) ({ frames := 1, cells := 0, slots := 0, locals := 12 } : Room)) (fun a U => a = #[(.ref (w 5))] ∧ Z.Warmed39 U.vm ∧ U.heap = h0) (fun _ _ _ _ _ => True) (fun _ U o U' => ∃ v L, o = .returned v ∧ OQ (some (.ref (w 4))) h0 Z.heap.size v U'.heap L ∧ FrameEnd U o U' L ({ frames := 1, cells := 0, slots := 0, locals := 12 } : Room).cells ({ frames := 1, cells := 0, slots := 0, locals := 12 } : Room).slots) := by
  have hN' := hN
  obtain ⟨hS0, hE0, hS1, hE1, hS2, hE2, hS3, hE3, hS4, hE4, hS5, hE5, hF0_ordinal, hF1_ordinal, hF2_ordinal, hF3_ordinal, hF4_ordinal, hF5_ordinal⟩ := hN'
  refine MetFree.of_bodySF (plainFor_of_name pn_2) hisR ?_
  intro p e s m args below meth c s₁ Bd hml0 hP hK
  obtain ⟨rfl, hZ, hh⟩ := hP
  have hx := Bd.exec
  have hby := Bd.bytes
  have hml : c.maxLocals = 1 := hml0
  have hown : s.vm.findClass "org/cartulary/repository/Condition$Operator" = some m.cls := findClass_of_methodNamed Bd.named
  have hnm := (name_of_methodNamed Bd.named Bd.method).1
  have X0 : Stand p l e ({ frames := 1, cells := 0, slots := 0, locals := 12 } : Room) s m #[(.ref (w 5))] below meth c s₁ [] 0 0 := Stand.of_body Bd
  have e0 : s₁.heap = h0 := by rw [← hh, Bd.state]; rfl
  have N0 := Fr.nil Z.heap.size
  have pre0 : ∀ t, Steps p.tables e below (s₁.setTop (mkF m 0 #[.val (.ref (w 5))] [])) t → Steps p.tables e below (s₁.setTop (entryFrame m #[(.ref (w 5))] 1)) t := fun t k => castTop (ef_1 m (.ref (w 5)) rfl) k
  obtain ⟨cq1, kq1, q1a, q1b, q1c⟩ := isOf hZ e0 (hE5.ext O0.2)
  obtain ⟨_, _, ⟨T1, L1, k1, n1⟩, -, X1, ⟨Lc1, hQ1, l1, y1, z1⟩, st1⟩ := X0.virtualBackUp hx (x := (⟨"org/cartulary/repository/Condition$Operator", "ordinal", "()I"⟩ : MethodName)) (y := (⟨"java/lang/Enum", "ordinal", "()I"⟩ : MethodName)) (owner := "java/lang/Enum") hown (mvT hZ (W hw 13 rfl)) (mvT hZ (W hw 14 rfl)) (mvT hZ (W hw 15 rfl)) (by decide) (mvT hZ (W hw 17 rfl)) (mvT hZ (W hw 16 rfl)) (backOf (W := 0) (rm_37 l Z a0 hw w kk hN [] h0 O0) hZ (W hw 19 rfl) (W hw 18 rfl) (by decide) (by decide)) q1a q1c (g := (mkF m 1 #[.val (.ref (w 5))] [(.ref (w 5))])) rfl (by rw [hml]; rfl) (Steps.refl _) (argsL := []) (rest := []) (lenOf pd_1 rfl) rfl (by show 2 * 0 + _ ≤ _; exact Nat.le_of_eq rfl) (hb hby d_prog_67_method_6_code_1) (fun _ _ => ⟨rfl, e0, (by decide : 0 + 0 ≤ _), (by decide : 0 + 0 ≤ _)⟩)
  dsimp only [Pt.U, Pt.locs, Pt.cells, Pt.slots] at X1 l1 y1 z1 st1 hQ1
  subst l1 y1 z1
  obtain ⟨rfl, N1q, e1⟩ := hQ1
  have N1 := Fr.app N0 N1q
  obtain ⟨T2, X2, e2, st2⟩ := getS2 X1 hx hZ hown (host := "") (Or.inl (W hw 39 rfl)) Via.refl e1 (hS4.ext O0.2) (g := (mkF m 64 #[.val (.ref (w 5))] [])) rfl (hb hby d_prog_67_method_6_code_64)
  obtain ⟨fs, hr, hrun, hended, hW, hsame⟩ := X2.leave (v := some (.ref (w 4))) (fun h => by rw [Bd.returns] at h; cases h)
  refine ⟨_, _, pre0 _ ?_, hrun, hended, _, _, rfl, ?_, ⟨_, rfl⟩, hW, hsame.mono (by decide) (by decide)⟩
  · show Steps p.tables e below (s₁.setTop (mkF m 0 #[.val (.ref (w 5))] [])) _
    refine XS.aloadN X0.here hx rfl (hb hby d_prog_67_method_6_code_0) rfl rfl ?_
    show Steps p.tables e below (s₁.setTop (mkF m 1 #[.val (.ref (w 5))] [(.ref (w 5))])) _
    refine st1.trans ?_
    show Steps p.tables e below (T1.setTop (mkF m 4 #[.val (.ref (w 5))] [(.int (3 : Int32))])) _
    refine XS.tswIn X1.here hx rfl (pc0 := 4) (pc' := 64) (o := 60) rfl (hb hby d_prog_67_method_6_code_4) rfl (by decide) (by decide) (by decide) (by decide) ?_
    show Steps p.tables e below (T1.setTop (mkF m 64 #[.val (.ref (w 5))] [])) _
    refine st2 _ ?_
    show Steps p.tables e below (T2.setTop (mkF m 67 #[.val (.ref (w 5))] [(.ref (w 4))])) _
    refine XS.goto X2.here hx rfl (pc0 := 67) (pc' := 79) rfl (hb hby d_prog_67_method_6_code_67) (by decide) (by decide) ?_
    show Steps p.tables e below (T2.setTop (mkF m 79 #[.val (.ref (w 5))] [(.ref (w 4))])) _
    exact retOut X2 hx Bd.returns rfl (Or.inr (Or.inr (Or.inr (Or.inr ⟨rfl, rfl, rfl⟩)))) (hb hby d_prog_67_method_6_code_79) hr
  · show OQ (some (.ref (w 4))) h0 Z.heap.size _ T2.heap _
    rw [e2]
    exact ⟨rfl, N1, rfl⟩
set_option maxRecDepth 65536 in
set_option maxHeartbeats 40000000 in
theorem rm_39 (l : Launch) (Z : State) (a0 : Array Value) (hw : ∀ d ∈ tables_1, d.before a0 Z = true) (w : Nat → Addr) (kk : Nat → ClassId) (hN : Wd Z w kk) (ws : List Jvm.Cond)  (h0 : Heap) (O0 : Old Z Z.heap.size h0) :
    MetFree l (⟨"java/lang/Enum", "ordinal", "()I"⟩ : MethodName) (head1 (Jvm.Cond.code (⟨"java/lang/Enum", "ordinal", "()I"⟩ : MethodName) jdk_37_method_2_code 1 (some .int) :: ws) ({ frames := 0, cells := 0, slots := 0, locals := 0 } : Room)) (fun a U => a = #[(.ref (w 4))] ∧ Z.Warmed39 U.vm ∧ U.heap = h0) (fun _ _ _ _ _ => True) (fun _ U o U' => ∃ v L, o = .returned v ∧ OQ (some (.int (5 : Int32))) h0 Z.heap.size v U'.heap L ∧ FrameEnd U o U' L ({ frames := 0, cells := 0, slots := 0, locals := 0 } : Room).cells ({ frames := 0, cells := 0, slots := 0, locals := 0 } : Room).slots) := by
  have hN' := hN
  obtain ⟨hS0, hE0, hS1, hE1, hS2, hE2, hS3, hE3, hS4, hE4, hS5, hE5, hF0_ordinal, hF1_ordinal, hF2_ordinal, hF3_ordinal, hF4_ordinal, hF5_ordinal⟩ := hN'
  refine MetFree.of_bodySF (plainFor_of_name pn_1) hisR ?_
  intro p e s m args below meth c s₁ Bd hml0 hP hK
  obtain ⟨rfl, hZ, hh⟩ := hP
  have hx := Bd.exec
  have hby := Bd.bytes
  have hml : c.maxLocals = 1 := hml0
  have hown : s.vm.findClass "java/lang/Enum" = some m.cls := findClass_of_methodNamed Bd.named
  have hnm := (name_of_methodNamed Bd.named Bd.method).1
  have X0 : Stand p l e ({ frames := 0, cells := 0, slots := 0, locals := 0 } : Room) s m #[(.ref (w 4))] below meth c s₁ [] 0 0 := Stand.of_body Bd
  have e0 : s₁.heap = h0 := by rw [← hh, Bd.state]; rfl
  have N0 := Fr.nil Z.heap.size
  have pre0 : ∀ t, Steps p.tables e below (s₁.setTop (mkF m 0 #[.val (.ref (w 4))] [])) t → Steps p.tables e below (s₁.setTop (entryFrame m #[(.ref (w 4))] 1)) t := fun t k => castTop (ef_1 m (.ref (w 4)) rfl) k
  obtain ⟨T1, X1, e1, st1⟩ := getF X0 hx hZ hown (host := "") (Or.inl (W hw 20 rfl)) Via.refl e0 (hF4_ordinal.ext O0.2) (g := (mkF m 1 #[.val (.ref (w 4))] [(.ref (w 4))])) rfl rfl (hb hby d_jdk_37_method_2_code_1)
  obtain ⟨fs, hr, hrun, hended, hW, hsame⟩ := X1.leave (v := some (.int (5 : Int32))) (fun h => by rw [Bd.returns] at h; cases h)
  refine ⟨_, _, pre0 _ ?_, hrun, hended, _, _, rfl, ?_, ⟨_, rfl⟩, hW, hsame.mono (by decide) (by decide)⟩
  · show Steps p.tables e below (s₁.setTop (mkF m 0 #[.val (.ref (w 4))] [])) _
    refine XS.aloadN X0.here hx rfl (hb hby d_jdk_37_method_2_code_0) rfl rfl ?_
    show Steps p.tables e below (s₁.setTop (mkF m 1 #[.val (.ref (w 4))] [(.ref (w 4))])) _
    refine st1 _ ?_
    show Steps p.tables e below (T1.setTop (mkF m 4 #[.val (.ref (w 4))] [(.int (5 : Int32))])) _
    exact retI X1 hx Bd.returns (hb hby d_jdk_37_method_2_code_4) hr
  · show OQ (some (.int (5 : Int32))) h0 Z.heap.size _ T1.heap _
    rw [e1]
    exact ⟨rfl, N0, rfl⟩
theorem d_prog_67_method_5_code_114 : decode prog_67_method_5_code 114 = .ok (.iload_n 1, 1) := by decide +kernel
theorem d_prog_67_method_5_code_115 : decode prog_67_method_5_code 115 = .ok (.ifCond .lt 7, 3) := by decide +kernel
theorem d_prog_67_method_5_code_122 : decode prog_67_method_5_code 122 = .ok (.iconst 0, 1) := by decide +kernel
set_option maxRecDepth 65536 in
set_option maxHeartbeats 40000000 in
theorem rm_40 (l : Launch) (Z : State) (a0 : Array Value) (hw : ∀ d ∈ tables_1, d.before a0 Z = true) (w : Nat → Addr) (kk : Nat → ClassId) (hN : Wd Z w kk) (ws : List Jvm.Cond)  (h0 : Heap) (O0 : Old Z Z.heap.size h0) :
    MetFree l (⟨"org/cartulary/repository/Condition$Operator", "holds", "(I)Z"⟩ : MethodName) (head1 (Jvm.Cond.code (⟨"org/cartulary/repository/Condition$Operator", "holds", "(I)Z"⟩ : MethodName) prog_67_method_5_code 2 (some .boolean) :: ws) ({ frames := 1, cells := 0, slots := 0, locals := 12 } : Room)) (fun a U => a = #[(.ref (w 4)), (.int (-1 : Int32))] ∧ Z.Warmed39 U.vm ∧ U.heap = h0) (fun _ _ _ _ _ => True) (fun _ U o U' => ∃ v L, o = .returned v ∧ OQ (some (.int (0 : Int32))) h0 Z.heap.size v U'.heap L ∧ FrameEnd U o U' L ({ frames := 1, cells := 0, slots := 0, locals := 12 } : Room).cells ({ frames := 1, cells := 0, slots := 0, locals := 12 } : Room).slots) := by
  have hN' := hN
  obtain ⟨hS0, hE0, hS1, hE1, hS2, hE2, hS3, hE3, hS4, hE4, hS5, hE5, hF0_ordinal, hF1_ordinal, hF2_ordinal, hF3_ordinal, hF4_ordinal, hF5_ordinal⟩ := hN'
  refine MetFree.of_bodySF (plainFor_of_name pn_2) hisR ?_
  intro p e s m args below meth c s₁ Bd hml0 hP hK
  obtain ⟨rfl, hZ, hh⟩ := hP
  have hx := Bd.exec
  have hby := Bd.bytes
  have hml : c.maxLocals = 2 := hml0
  have hown : s.vm.findClass "org/cartulary/repository/Condition$Operator" = some m.cls := findClass_of_methodNamed Bd.named
  have hnm := (name_of_methodNamed Bd.named Bd.method).1
  have X0 : Stand p l e ({ frames := 1, cells := 0, slots := 0, locals := 12 } : Room) s m #[(.ref (w 4)), (.int (-1 : Int32))] below meth c s₁ [] 0 0 := Stand.of_body Bd
  have e0 : s₁.heap = h0 := by rw [← hh, Bd.state]; rfl
  have N0 := Fr.nil Z.heap.size
  have pre0 : ∀ t, Steps p.tables e below (s₁.setTop (mkF m 0 #[.val (.ref (w 4)), .val (.int (-1 : Int32))] [])) t → Steps p.tables e below (s₁.setTop (entryFrame m #[(.ref (w 4)), (.int (-1 : Int32))] 2)) t := fun t k => castTop (ef_2 m (.ref (w 4)) rfl (.int (-1 : Int32)) rfl) k
  obtain ⟨cq1, kq1, q1a, q1b, q1c⟩ := isOf hZ e0 (hE4.ext O0.2)
  obtain ⟨_, _, ⟨T1, L1, k1, n1⟩, -, X1, ⟨Lc1, hQ1, l1, y1, z1⟩, st1⟩ := X0.virtualBackUp hx (x := (⟨"org/cartulary/repository/Condition$Operator", "ordinal", "()I"⟩ : MethodName)) (y := (⟨"java/lang/Enum", "ordinal", "()I"⟩ : MethodName)) (owner := "java/lang/Enum") hown (mvT hZ (W hw 13 rfl)) (mvT hZ (W hw 14 rfl)) (mvT hZ (W hw 15 rfl)) (by decide) (mvT hZ (W hw 17 rfl)) (mvT hZ (W hw 16 rfl)) (backOf (W := 0) (rm_39 l Z a0 hw w kk hN [] h0 O0) hZ (W hw 19 rfl) (W hw 18 rfl) (by decide) (by decide)) q1a q1c (g := (mkF m 1 #[.val (.ref (w 4)), .val (.int (-1 : Int32))] [(.ref (w 4))])) rfl (by rw [hml]; rfl) (Steps.refl _) (argsL := []) (rest := []) (lenOf pd_1 rfl) rfl (by show 2 * 0 + _ ≤ _; exact Nat.le_of_eq rfl) (hb hby d_prog_67_method_5_code_1) (fun _ _ => ⟨rfl, e0, (by decide : 0 + 0 ≤ _), (by decide : 0 + 0 ≤ _)⟩)
  dsimp only [Pt.U, Pt.locs, Pt.cells, Pt.slots] at X1 l1 y1 z1 st1 hQ1
  subst l1 y1 z1
  obtain ⟨rfl, N1q, e1⟩ := hQ1
  have N1 := Fr.app N0 N1q
  obtain ⟨fs, hr, hrun, hended, hW, hsame⟩ := X1.leave (v := some (.int (0 : Int32))) (fun h => by rw [Bd.returns] at h; cases h)
  refine ⟨_, _, pre0 _ ?_, hrun, hended, _, _, rfl, ?_, ⟨_, rfl⟩, hW, hsame.mono (by decide) (by decide)⟩
  · show Steps p.tables e below (s₁.setTop (mkF m 0 #[.val (.ref (w 4)), .val (.int (-1 : Int32))] [])) _
    refine XS.aloadN X0.here hx rfl (hb hby d_prog_67_method_5_code_0) rfl rfl ?_
    show Steps p.tables e below (s₁.setTop (mkF m 1 #[.val (.ref (w 4)), .val (.int (-1 : Int32))] [(.ref (w 4))])) _
    refine st1.trans ?_
    show Steps p.tables e below (T1.setTop (mkF m 4 #[.val (.ref (w 4)), .val (.int (-1 : Int32))] [(.int (5 : Int32))])) _
    refine XS.tswIn X1.here hx rfl (pc0 := 4) (pc' := 114) (o := 110) rfl (hb hby d_prog_67_method_5_code_4) rfl (by decide) (by decide) (by decide) (by decide) ?_
    show Steps p.tables e below (T1.setTop (mkF m 114 #[.val (.ref (w 4)), .val (.int (-1 : Int32))] [])) _
    refine XS.iloadN X1.here hx rfl (hb hby d_prog_67_method_5_code_114) rfl ?_
    show Steps p.tables e below (T1.setTop (mkF m 115 #[.val (.ref (w 4)), .val (.int (-1 : Int32))] [(.int (-1 : Int32))])) _
    refine XS.ifYes X1.here hx rfl (pc0 := 115) (pc' := 122) rfl (hb hby d_prog_67_method_5_code_115) rfl ((if0 _ _).trans (tlt (by decide : (-1 : Int32) < (0 : Int32))).1) (by decide) (by decide) ?_
    show Steps p.tables e below (T1.setTop (mkF m 122 #[.val (.ref (w 4)), .val (.int (-1 : Int32))] [])) _
    refine XS.iconst X1.here hx rfl (hb hby d_prog_67_method_5_code_122) ?_
    show Steps p.tables e below (T1.setTop (mkF m 123 #[.val (.ref (w 4)), .val (.int (-1 : Int32))] [(.int (0 : Int32))])) _
    exact retN X1 hx (t := .boolean) Bd.returns (by simp) (hb hby d_prog_67_method_5_code_123) hr
  · show OQ (some (.int (0 : Int32))) h0 Z.heap.size _ T1.heap _
    rw [e1]
    exact ⟨rfl, N1, rfl⟩
theorem d_prog_67_method_5_code_90 : decode prog_67_method_5_code 90 = .ok (.iload_n 1, 1) := by decide +kernel
theorem d_prog_67_method_5_code_91 : decode prog_67_method_5_code 91 = .ok (.ifCond .gt 7, 3) := by decide +kernel
theorem d_prog_67_method_5_code_98 : decode prog_67_method_5_code 98 = .ok (.iconst 0, 1) := by decide +kernel
theorem d_prog_67_method_5_code_99 : decode prog_67_method_5_code 99 = .ok (.goto 24, 3) := by decide +kernel
set_option maxRecDepth 65536 in
set_option maxHeartbeats 40000000 in
theorem rm_41 (l : Launch) (Z : State) (a0 : Array Value) (hw : ∀ d ∈ tables_1, d.before a0 Z = true) (w : Nat → Addr) (kk : Nat → ClassId) (hN : Wd Z w kk) (ws : List Jvm.Cond) (p1 : Int32) (h0 : Heap) (O0 : Old Z Z.heap.size h0) (hp0 : (0 : Int32) < p1) :
    MetFree l (⟨"org/cartulary/repository/Condition$Operator", "holds", "(I)Z"⟩ : MethodName) (head1 (Jvm.Cond.code (⟨"org/cartulary/repository/Condition$Operator", "holds", "(I)Z"⟩ : MethodName) prog_67_method_5_code 2 (some .boolean) :: ws) ({ frames := 1, cells := 0, slots := 0, locals := 12 } : Room)) (fun a U => a = #[(.ref (w 5)), (.int p1)] ∧ Z.Warmed39 U.vm ∧ U.heap = h0) (fun _ _ _ _ _ => True) (fun _ U o U' => ∃ v L, o = .returned v ∧ OQ (some (.int (0 : Int32))) h0 Z.heap.size v U'.heap L ∧ FrameEnd U o U' L ({ frames := 1, cells := 0, slots := 0, locals := 12 } : Room).cells ({ frames := 1, cells := 0, slots := 0, locals := 12 } : Room).slots) := by
  have hN' := hN
  obtain ⟨hS0, hE0, hS1, hE1, hS2, hE2, hS3, hE3, hS4, hE4, hS5, hE5, hF0_ordinal, hF1_ordinal, hF2_ordinal, hF3_ordinal, hF4_ordinal, hF5_ordinal⟩ := hN'
  refine MetFree.of_bodySF (plainFor_of_name pn_2) hisR ?_
  intro p e s m args below meth c s₁ Bd hml0 hP hK
  obtain ⟨rfl, hZ, hh⟩ := hP
  have hx := Bd.exec
  have hby := Bd.bytes
  have hml : c.maxLocals = 2 := hml0
  have hown : s.vm.findClass "org/cartulary/repository/Condition$Operator" = some m.cls := findClass_of_methodNamed Bd.named
  have hnm := (name_of_methodNamed Bd.named Bd.method).1
  have X0 : Stand p l e ({ frames := 1, cells := 0, slots := 0, locals := 12 } : Room) s m #[(.ref (w 5)), (.int p1)] below meth c s₁ [] 0 0 := Stand.of_body Bd
  have e0 : s₁.heap = h0 := by rw [← hh, Bd.state]; rfl
  have N0 := Fr.nil Z.heap.size
  have pre0 : ∀ t, Steps p.tables e below (s₁.setTop (mkF m 0 #[.val (.ref (w 5)), .val (.int p1)] [])) t → Steps p.tables e below (s₁.setTop (entryFrame m #[(.ref (w 5)), (.int p1)] 2)) t := fun t k => castTop (ef_2 m (.ref (w 5)) rfl (.int p1) rfl) k
  obtain ⟨cq1, kq1, q1a, q1b, q1c⟩ := isOf hZ e0 (hE5.ext O0.2)
  obtain ⟨_, _, ⟨T1, L1, k1, n1⟩, -, X1, ⟨Lc1, hQ1, l1, y1, z1⟩, st1⟩ := X0.virtualBackUp hx (x := (⟨"org/cartulary/repository/Condition$Operator", "ordinal", "()I"⟩ : MethodName)) (y := (⟨"java/lang/Enum", "ordinal", "()I"⟩ : MethodName)) (owner := "java/lang/Enum") hown (mvT hZ (W hw 13 rfl)) (mvT hZ (W hw 14 rfl)) (mvT hZ (W hw 15 rfl)) (by decide) (mvT hZ (W hw 17 rfl)) (mvT hZ (W hw 16 rfl)) (backOf (W := 0) (rm_37 l Z a0 hw w kk hN [] h0 O0) hZ (W hw 19 rfl) (W hw 18 rfl) (by decide) (by decide)) q1a q1c (g := (mkF m 1 #[.val (.ref (w 5)), .val (.int p1)] [(.ref (w 5))])) rfl (by rw [hml]; rfl) (Steps.refl _) (argsL := []) (rest := []) (lenOf pd_1 rfl) rfl (by show 2 * 0 + _ ≤ _; exact Nat.le_of_eq rfl) (hb hby d_prog_67_method_5_code_1) (fun _ _ => ⟨rfl, e0, (by decide : 0 + 0 ≤ _), (by decide : 0 + 0 ≤ _)⟩)
  dsimp only [Pt.U, Pt.locs, Pt.cells, Pt.slots] at X1 l1 y1 z1 st1 hQ1
  subst l1 y1 z1
  obtain ⟨rfl, N1q, e1⟩ := hQ1
  have N1 := Fr.app N0 N1q
  obtain ⟨fs, hr, hrun, hended, hW, hsame⟩ := X1.leave (v := some (.int (0 : Int32))) (fun h => by rw [Bd.returns] at h; cases h)
  refine ⟨_, _, pre0 _ ?_, hrun, hended, _, _, rfl, ?_, ⟨_, rfl⟩, hW, hsame.mono (by decide) (by decide)⟩
  · show Steps p.tables e below (s₁.setTop (mkF m 0 #[.val (.ref (w 5)), .val (.int p1)] [])) _
    refine XS.aloadN X0.here hx rfl (hb hby d_prog_67_method_5_code_0) rfl rfl ?_
    show Steps p.tables e below (s₁.setTop (mkF m 1 #[.val (.ref (w 5)), .val (.int p1)] [(.ref (w 5))])) _
    refine st1.trans ?_
    show Steps p.tables e below (T1.setTop (mkF m 4 #[.val (.ref (w 5)), .val (.int p1)] [(.int (3 : Int32))])) _
    refine XS.tswIn X1.here hx rfl (pc0 := 4) (pc' := 90) (o := 86) rfl (hb hby d_prog_67_method_5_code_4) rfl (by decide) (by decide) (by decide) (by decide) ?_
    show Steps p.tables e below (T1.setTop (mkF m 90 #[.val (.ref (w 5)), .val (.int p1)] [])) _
    refine XS.iloadN X1.here hx rfl (hb hby d_prog_67_method_5_code_90) rfl ?_
    show Steps p.tables e below (T1.setTop (mkF m 91 #[.val (.ref (w 5)), .val (.int p1)] [(.int p1)])) _
    refine XS.ifYes X1.here hx rfl (pc0 := 91) (pc' := 98) rfl (hb hby d_prog_67_method_5_code_91) rfl ((if0 _ _).trans (tlt hp0).2.2.1) (by decide) (by decide) ?_
    show Steps p.tables e below (T1.setTop (mkF m 98 #[.val (.ref (w 5)), .val (.int p1)] [])) _
    refine XS.iconst X1.here hx rfl (hb hby d_prog_67_method_5_code_98) ?_
    show Steps p.tables e below (T1.setTop (mkF m 99 #[.val (.ref (w 5)), .val (.int p1)] [(.int (0 : Int32))])) _
    refine XS.goto X1.here hx rfl (pc0 := 99) (pc' := 123) rfl (hb hby d_prog_67_method_5_code_99) (by decide) (by decide) ?_
    show Steps p.tables e below (T1.setTop (mkF m 123 #[.val (.ref (w 5)), .val (.int p1)] [(.int (0 : Int32))])) _
    exact retN X1 hx (t := .boolean) Bd.returns (by simp) (hb hby d_prog_67_method_5_code_123) hr
  · show OQ (some (.int (0 : Int32))) h0 Z.heap.size _ T1.heap _
    rw [e1]
    exact ⟨rfl, N1, rfl⟩
theorem d_prog_67_method_6_code_76 : decode prog_67_method_6_code 76 = .ok (.getstatic 13, 3) := by decide +kernel
set_option maxRecDepth 65536 in
set_option maxHeartbeats 40000000 in
theorem rm_42 (l : Launch) (Z : State) (a0 : Array Value) (hw : ∀ d ∈ tables_1, d.before a0 Z = true) (w : Nat → Addr) (kk : Nat → ClassId) (hN : Wd Z w kk) (ws : List Jvm.Cond)  (h0 : Heap) (O0 : Old Z Z.heap.size h0) :
    MetFree l (⟨"org/cartulary/repository/Condition$Operator", "swapped", "()Lorg/cartulary/repository/Condition$Operator;"⟩ : MethodName) (head1 (Jvm.Cond.code (⟨"org/cartulary/repository/Condition$Operator", "swapped", "()Lorg/cartulary/repository/Condition$Operator;"⟩ : MethodName) prog_67_method_6_code 1 (some (.object "org/cartulary/repository/Condition$Operator")) :: ws) ({ frames := 1, cells := 0, slots := 0, locals := 12 } : Room)) (fun a U => a = #[(.ref (w 4))] ∧ Z.Warmed39 U.vm ∧ U.heap = h0) (fun _ _ _ _ _ => True) (fun _ U o U' => ∃ v L, o = .returned v ∧ OQ (some (.ref (w 5))) h0 Z.heap.size v U'.heap L ∧ FrameEnd U o U' L ({ frames := 1, cells := 0, slots := 0, locals := 12 } : Room).cells ({ frames := 1, cells := 0, slots := 0, locals := 12 } : Room).slots) := by
  have hN' := hN
  obtain ⟨hS0, hE0, hS1, hE1, hS2, hE2, hS3, hE3, hS4, hE4, hS5, hE5, hF0_ordinal, hF1_ordinal, hF2_ordinal, hF3_ordinal, hF4_ordinal, hF5_ordinal⟩ := hN'
  refine MetFree.of_bodySF (plainFor_of_name pn_2) hisR ?_
  intro p e s m args below meth c s₁ Bd hml0 hP hK
  obtain ⟨rfl, hZ, hh⟩ := hP
  have hx := Bd.exec
  have hby := Bd.bytes
  have hml : c.maxLocals = 1 := hml0
  have hown : s.vm.findClass "org/cartulary/repository/Condition$Operator" = some m.cls := findClass_of_methodNamed Bd.named
  have hnm := (name_of_methodNamed Bd.named Bd.method).1
  have X0 : Stand p l e ({ frames := 1, cells := 0, slots := 0, locals := 12 } : Room) s m #[(.ref (w 4))] below meth c s₁ [] 0 0 := Stand.of_body Bd
  have e0 : s₁.heap = h0 := by rw [← hh, Bd.state]; rfl
  have N0 := Fr.nil Z.heap.size
  have pre0 : ∀ t, Steps p.tables e below (s₁.setTop (mkF m 0 #[.val (.ref (w 4))] [])) t → Steps p.tables e below (s₁.setTop (entryFrame m #[(.ref (w 4))] 1)) t := fun t k => castTop (ef_1 m (.ref (w 4)) rfl) k
  obtain ⟨cq1, kq1, q1a, q1b, q1c⟩ := isOf hZ e0 (hE4.ext O0.2)
  obtain ⟨_, _, ⟨T1, L1, k1, n1⟩, -, X1, ⟨Lc1, hQ1, l1, y1, z1⟩, st1⟩ := X0.virtualBackUp hx (x := (⟨"org/cartulary/repository/Condition$Operator", "ordinal", "()I"⟩ : MethodName)) (y := (⟨"java/lang/Enum", "ordinal", "()I"⟩ : MethodName)) (owner := "java/lang/Enum") hown (mvT hZ (W hw 13 rfl)) (mvT hZ (W hw 14 rfl)) (mvT hZ (W hw 15 rfl)) (by decide) (mvT hZ (W hw 17 rfl)) (mvT hZ (W hw 16 rfl)) (backOf (W := 0) (rm_39 l Z a0 hw w kk hN [] h0 O0) hZ (W hw 19 rfl) (W hw 18 rfl) (by decide) (by decide)) q1a q1c (g := (mkF m 1 #[.val (.ref (w 4))] [(.ref (w 4))])) rfl (by rw [hml]; rfl) (Steps.refl _) (argsL := []) (rest := []) (lenOf pd_1 rfl) rfl (by show 2 * 0 + _ ≤ _; exact Nat.le_of_eq rfl) (hb hby d_prog_67_method_6_code_1) (fun _ _ => ⟨rfl, e0, (by decide : 0 + 0 ≤ _), (by decide : 0 + 0 ≤ _)⟩)
  dsimp only [Pt.U, Pt.locs, Pt.cells, Pt.slots] at X1 l1 y1 z1 st1 hQ1
  subst l1 y1 z1
  obtain ⟨rfl, N1q, e1⟩ := hQ1
  have N1 := Fr.app N0 N1q
  obtain ⟨T2, X2, e2, st2⟩ := getS2 X1 hx hZ hown (host := "") (Or.inl (W hw 37 rfl)) Via.refl e1 (hS5.ext O0.2) (g := (mkF m 76 #[.val (.ref (w 4))] [])) rfl (hb hby d_prog_67_method_6_code_76)
  obtain ⟨fs, hr, hrun, hended, hW, hsame⟩ := X2.leave (v := some (.ref (w 5))) (fun h => by rw [Bd.returns] at h; cases h)
  refine ⟨_, _, pre0 _ ?_, hrun, hended, _, _, rfl, ?_, ⟨_, rfl⟩, hW, hsame.mono (by decide) (by decide)⟩
  · show Steps p.tables e below (s₁.setTop (mkF m 0 #[.val (.ref (w 4))] [])) _
    refine XS.aloadN X0.here hx rfl (hb hby d_prog_67_method_6_code_0) rfl rfl ?_
    show Steps p.tables e below (s₁.setTop (mkF m 1 #[.val (.ref (w 4))] [(.ref (w 4))])) _
    refine st1.trans ?_
    show Steps p.tables e below (T1.setTop (mkF m 4 #[.val (.ref (w 4))] [(.int (5 : Int32))])) _
    refine XS.tswIn X1.here hx rfl (pc0 := 4) (pc' := 76) (o := 72) rfl (hb hby d_prog_67_method_6_code_4) rfl (by decide) (by decide) (by decide) (by decide) ?_
    show Steps p.tables e below (T1.setTop (mkF m 76 #[.val (.ref (w 4))] [])) _
    refine st2 _ ?_
    show Steps p.tables e below (T2.setTop (mkF m 79 #[.val (.ref (w 4))] [(.ref (w 5))])) _
    exact retOut X2 hx Bd.returns rfl (Or.inr (Or.inr (Or.inr (Or.inr ⟨rfl, rfl, rfl⟩)))) (hb hby d_prog_67_method_6_code_79) hr
  · show OQ (some (.ref (w 5))) h0 Z.heap.size _ T2.heap _
    rw [e2]
    exact ⟨rfl, N1, rfl⟩
set_option maxRecDepth 65536 in
set_option maxHeartbeats 40000000 in
theorem law_43 (l : Launch) (Z : State) (a0 : Array Value) (hw : ∀ d ∈ tables_1, d.before a0 Z = true) (w : Nat → Addr) (kk : Nat → ClassId) (hN : Wd Z w kk) (ws : List Jvm.Cond) (p0 : Int32) (p1 : Int32) (h0 : Heap) (O0 : Old Z Z.heap.size h0) (hp0 : ((p0 &&& (2147483647 : Int32)) % (6 : Int32)) = (3 : Int32)) (hp1 : (0 : Int32) < p1) :
    MetFree l x (head1 (Jvm.Cond.code x code maxLocals ret :: ws) room_1) (fun a U => a = #[(.int p0), (.int p1)] ∧ Z.Warmed39 U.vm ∧ U.heap = h0) (fun _ _ _ _ _ => True) (fun _ U o U' => ∃ v L, o = .returned v ∧ OL (some (.int (1 : Int32))) Z.heap.size v U'.heap L ∧ FrameEnd U o U' L 0 0) := by
  have hN' := hN
  obtain ⟨hS0, hE0, hS1, hE1, hS2, hE2, hS3, hE3, hS4, hE4, hS5, hE5, hF0_ordinal, hF1_ordinal, hF2_ordinal, hF3_ordinal, hF4_ordinal, hF5_ordinal⟩ := hN'
  refine MetFree.of_bodySF (plainFor_of_name pn_0) hisR ?_
  intro p e s m args below meth c s₁ Bd hml0 hP hK
  obtain ⟨rfl, hZ, hh⟩ := hP
  have hx := Bd.exec
  have hby := Bd.bytes
  have hml : c.maxLocals = 7 := hml0
  have hown : s.vm.findClass "org/cartulary/repository/OperatorSwappedPinLaw" = some m.cls := findClass_of_methodNamed Bd.named
  have hnm := (name_of_methodNamed Bd.named Bd.method).1
  have X0 : Stand p l e room_1 s m #[(.int p0), (.int p1)] below meth c s₁ [] 0 0 := Stand.of_body Bd
  have e0 : s₁.heap = h0 := by rw [← hh, Bd.state]; rfl
  have N0 := Fr.nil Z.heap.size
  have pre0 : ∀ t, Steps p.tables e below (s₁.setTop (mkF m 0 #[.val (.int p0), .val (.int p1), .unset, .unset, .unset, .unset, .unset] [])) t → Steps p.tables e below (s₁.setTop (entryFrame m #[(.int p0), (.int p1)] maxLocals)) t := fun t k => castTop (ef_3 m (.int p0) rfl (.int p1) rfl) k
  obtain ⟨_, _, ⟨T1, L1, k1, n1⟩, -, X1, ⟨Lc1, hQ1, l1, y1, z1⟩, st1⟩ := Jvm.LawKit.callS X0 hx (y := (⟨"org/cartulary/repository/OperatorSwappedPinLaw", "pick", "(I)Lorg/cartulary/repository/Condition$Operator;"⟩ : MethodName)) hown (mvT hZ (W hw 0 rfl)) (mvT hZ (W hw 1 rfl)) (mvT hZ (W hw 2 rfl)) (mvT hZ (W hw 3 rfl)) (by decide) (backOf (W := 0) (rm_36 l Z a0 hw w kk hN [] p0 h0 O0 hp0) hZ (W hw 3 rfl) (W hw 2 rfl) (by decide) (by decide)) (g := (mkF m 1 #[.val (.int p0), .val (.int p1), .unset, .unset, .unset, .unset, .unset] [(.int p0)])) rfl (by rw [hml]; rfl) (argsL := [(.int p0)]) (rest := []) (lenOf pd_0 rfl) rfl (by show 2 * 0 + _ ≤ _; exact Nat.le_of_eq rfl) (hb hby at_1) (fun _ _ => ⟨rfl, e0, (by decide : 0 + 0 ≤ _), (by decide : 0 + 0 ≤ _)⟩)
  dsimp only [Pt.U, Pt.locs, Pt.cells, Pt.slots] at X1 l1 y1 z1 st1 hQ1
  subst l1 y1 z1
  obtain ⟨rfl, N1q, e1⟩ := hQ1
  have N1 := Fr.app N0 N1q
  obtain ⟨cq2, kq2, q2a, q2b, q2c⟩ := isOf hZ e1 (hE5.ext O0.2)
  obtain ⟨_, _, ⟨T2, L2, k2, n2⟩, -, X2, ⟨Lc2, hQ2, l2, y2, z2⟩, st2⟩ := X1.virtualBack hx (y := (⟨"org/cartulary/repository/Condition$Operator", "swapped", "()Lorg/cartulary/repository/Condition$Operator;"⟩ : MethodName)) (z := (⟨"org/cartulary/repository/Condition$Operator", "swapped", "()Lorg/cartulary/repository/Condition$Operator;"⟩ : MethodName)) hown (mvT hZ (W hw 8 rfl)) (mvT hZ (W hw 9 rfl)) (notFace_of_selects (args := #[]) (mvT hZ (W hw 11 rfl))) (mvT hZ (W hw 11 rfl)) (mvT hZ (W hw 10 rfl)) (by decide) (backOf (W := 0) (rm_38 l Z a0 hw w kk hN [] h0 O0) hZ (W hw 12 rfl) (W hw 6 rfl) (by decide) (by decide)) q2a q2c (g := (mkF m 24 #[.val (.int p0), .val (.int p1), .val (.ref (w 5)), .val (.int (-1 : Int32)), .unset, .unset, .unset] [(.ref (w 5))])) rfl (by rw [hml]; rfl) (Steps.refl _) (argsL := []) (rest := []) (lenOf pd_2 rfl) rfl (by show 2 * 0 + _ ≤ _; exact Nat.le_of_eq rfl) (hb hby at_24) (fun _ _ => ⟨rfl, e1, (by decide : 0 + 0 ≤ _), (by decide : 0 + 0 ≤ _)⟩)
  dsimp only [Pt.U, Pt.locs, Pt.cells, Pt.slots] at X2 l2 y2 z2 st2 hQ2
  subst l2 y2 z2
  obtain ⟨rfl, N2q, e2⟩ := hQ2
  have N2 := Fr.app N1 N2q
  obtain ⟨cq3, kq3, q3a, q3b, q3c⟩ := isOf hZ e2 (hE4.ext O0.2)
  obtain ⟨_, _, ⟨T3, L3, k3, n3⟩, -, X3, ⟨Lc3, hQ3, l3, y3, z3⟩, st3⟩ := X2.virtualBack hx (y := (⟨"org/cartulary/repository/Condition$Operator", "holds", "(I)Z"⟩ : MethodName)) (z := (⟨"org/cartulary/repository/Condition$Operator", "holds", "(I)Z"⟩ : MethodName)) hown (mvT hZ (W hw 22 rfl)) (mvT hZ (W hw 23 rfl)) (notFace_of_selects (args := #[]) (mvT hZ (W hw 25 rfl))) (mvT hZ (W hw 25 rfl)) (mvT hZ (W hw 24 rfl)) (by decide) (backOf (W := 0) (rm_40 l Z a0 hw w kk hN [] h0 O0) hZ (W hw 26 rfl) (W hw 6 rfl) (by decide) (by decide)) q3a q3c (g := (mkF m 32 #[.val (.int p0), .val (.int p1), .val (.ref (w 5)), .val (.int (-1 : Int32)), .val (.ref (w 4)), .unset, .unset] [(.int (-1 : Int32)), (.ref (w 4))])) rfl (by rw [hml]; rfl) (Steps.refl _) (argsL := [(.int (-1 : Int32))]) (rest := []) (lenOf pd_3 rfl) rfl (by show 2 * 0 + _ ≤ _; exact Nat.le_of_eq rfl) (hb hby at_32) (fun _ _ => ⟨rfl, e2, (by decide : 0 + 0 ≤ _), (by decide : 0 + 0 ≤ _)⟩)
  dsimp only [Pt.U, Pt.locs, Pt.cells, Pt.slots] at X3 l3 y3 z3 st3 hQ3
  subst l3 y3 z3
  obtain ⟨rfl, N3q, e3⟩ := hQ3
  have N3 := Fr.app N2 N3q
  obtain ⟨cq4, kq4, q4a, q4b, q4c⟩ := isOf hZ e3 (hE5.ext O0.2)
  obtain ⟨_, _, ⟨T4, L4, k4, n4⟩, -, X4, ⟨Lc4, hQ4, l4, y4, z4⟩, st4⟩ := X3.virtualBack hx (y := (⟨"org/cartulary/repository/Condition$Operator", "holds", "(I)Z"⟩ : MethodName)) (z := (⟨"org/cartulary/repository/Condition$Operator", "holds", "(I)Z"⟩ : MethodName)) hown (mvT hZ (W hw 22 rfl)) (mvT hZ (W hw 23 rfl)) (notFace_of_selects (args := #[]) (mvT hZ (W hw 25 rfl))) (mvT hZ (W hw 25 rfl)) (mvT hZ (W hw 24 rfl)) (by decide) (backOf (W := 1) (rm_41 l Z a0 hw w kk hN [] p1 h0 O0 hp1) hZ (W hw 26 rfl) (W hw 6 rfl) (by decide) (by decide)) q4a q4c (g := (mkF m 37 #[.val (.int p0), .val (.int p1), .val (.ref (w 5)), .val (.int (-1 : Int32)), .val (.ref (w 4)), .unset, .unset] [(.int p1), (.ref (w 5)), (.int (0 : Int32))])) rfl (by rw [hml]; rfl) (Steps.refl _) (argsL := [(.int p1)]) (rest := [(.int (0 : Int32))]) (lenOf pd_3 rfl) rfl (by show 2 * 0 + _ ≤ _; exact Nat.le_of_eq rfl) (hb hby at_37) (fun _ _ => ⟨rfl, e3, (by decide : 0 + 0 ≤ _), (by decide : 0 + 0 ≤ _)⟩)
  dsimp only [Pt.U, Pt.locs, Pt.cells, Pt.slots] at X4 l4 y4 z4 st4 hQ4
  subst l4 y4 z4
  obtain ⟨rfl, N4q, e4⟩ := hQ4
  have N4 := Fr.app N3 N4q
  obtain ⟨cq5, kq5, q5a, q5b, q5c⟩ := isOf hZ e4 (hE4.ext O0.2)
  obtain ⟨_, _, ⟨T5, L5, k5, n5⟩, -, X5, ⟨Lc5, hQ5, l5, y5, z5⟩, st5⟩ := X4.virtualBack hx (y := (⟨"org/cartulary/repository/Condition$Operator", "swapped", "()Lorg/cartulary/repository/Condition$Operator;"⟩ : MethodName)) (z := (⟨"org/cartulary/repository/Condition$Operator", "swapped", "()Lorg/cartulary/repository/Condition$Operator;"⟩ : MethodName)) hown (mvT hZ (W hw 8 rfl)) (mvT hZ (W hw 9 rfl)) (notFace_of_selects (args := #[]) (mvT hZ (W hw 11 rfl))) (mvT hZ (W hw 11 rfl)) (mvT hZ (W hw 10 rfl)) (by decide) (backOf (W := 0) (rm_42 l Z a0 hw w kk hN [] h0 O0) hZ (W hw 12 rfl) (W hw 6 rfl) (by decide) (by decide)) q5a q5c (g := (mkF m 52 #[.val (.int p0), .val (.int p1), .val (.ref (w 5)), .val (.int (-1 : Int32)), .val (.ref (w 4)), .val (.int (1 : Int32)), .unset] [(.ref (w 4))])) rfl (by rw [hml]; rfl) (Steps.refl _) (argsL := []) (rest := []) (lenOf pd_2 rfl) rfl (by show 2 * 0 + _ ≤ _; exact Nat.le_of_eq rfl) (hb hby at_52) (fun _ _ => ⟨rfl, e4, (by decide : 0 + 0 ≤ _), (by decide : 0 + 0 ≤ _)⟩)
  dsimp only [Pt.U, Pt.locs, Pt.cells, Pt.slots] at X5 l5 y5 z5 st5 hQ5
  subst l5 y5 z5
  obtain ⟨rfl, N5q, e5⟩ := hQ5
  have N5 := Fr.app N4 N5q
  obtain ⟨fs, hr, hrun, hended, hW, hsame⟩ := X5.leave (v := some (.int (1 : Int32))) (fun h => by rw [Bd.returns] at h; cases h)
  refine ⟨_, _, pre0 _ ?_, hrun, hended, _, _, rfl, ?_, ⟨_, rfl⟩, hW, hsame.mono (by decide) (by decide)⟩
  · show Steps p.tables e below (s₁.setTop (mkF m 0 #[.val (.int p0), .val (.int p1), .unset, .unset, .unset, .unset, .unset] [])) _
    refine XS.iloadN X0.here hx rfl (hb hby at_0) rfl ?_
    show Steps p.tables e below (s₁.setTop (mkF m 1 #[.val (.int p0), .val (.int p1), .unset, .unset, .unset, .unset, .unset] [(.int p0)])) _
    refine st1 _ ?_
    show Steps p.tables e below (T1.setTop (mkF m 4 #[.val (.int p0), .val (.int p1), .unset, .unset, .unset, .unset, .unset] [(.ref (w 5))])) _
    refine XS.astoreN X1.here hx rfl (hb hby at_4) rfl rfl (l' := #[.val (.int p0), .val (.int p1), .val (.ref (w 5)), .unset, .unset, .unset, .unset]) rfl ?_
    show Steps p.tables e below (T1.setTop (mkF m 5 #[.val (.int p0), .val (.int p1), .val (.ref (w 5)), .unset, .unset, .unset, .unset] [])) _
    refine XS.iloadN X1.here hx rfl (hb hby at_5) rfl ?_
    show Steps p.tables e below (T1.setTop (mkF m 6 #[.val (.int p0), .val (.int p1), .val (.ref (w 5)), .unset, .unset, .unset, .unset] [(.int p1)])) _
    refine XS.ifNo X1.here hx rfl (hb hby at_6) rfl ((if0 _ _).trans (tlt hp1).2.2.2) ?_
    show Steps p.tables e below (T1.setTop (mkF m 9 #[.val (.int p0), .val (.int p1), .val (.ref (w 5)), .unset, .unset, .unset, .unset] [])) _
    refine XS.iconst X1.here hx rfl (hb hby at_9) ?_
    show Steps p.tables e below (T1.setTop (mkF m 10 #[.val (.int p0), .val (.int p1), .val (.ref (w 5)), .unset, .unset, .unset, .unset] [(.int (-1 : Int32))])) _
    refine XS.goto X1.here hx rfl (pc0 := 10) (pc' := 22) rfl (hb hby at_10) (by decide) (by decide) ?_
    show Steps p.tables e below (T1.setTop (mkF m 22 #[.val (.int p0), .val (.int p1), .val (.ref (w 5)), .unset, .unset, .unset, .unset] [(.int (-1 : Int32))])) _
    refine XS.istoreN X1.here hx rfl (hb hby at_22) rfl (l' := #[.val (.int p0), .val (.int p1), .val (.ref (w 5)), .val (.int (-1 : Int32)), .unset, .unset, .unset]) rfl ?_
    show Steps p.tables e below (T1.setTop (mkF m 23 #[.val (.int p0), .val (.int p1), .val (.ref (w 5)), .val (.int (-1 : Int32)), .unset, .unset, .unset] [])) _
    refine XS.aloadN X1.here hx rfl (hb hby at_23) rfl rfl ?_
    show Steps p.tables e below (T1.setTop (mkF m 24 #[.val (.int p0), .val (.int p1), .val (.ref (w 5)), .val (.int (-1 : Int32)), .unset, .unset, .unset] [(.ref (w 5))])) _
    refine st2.trans ?_
    show Steps p.tables e below (T2.setTop (mkF m 27 #[.val (.int p0), .val (.int p1), .val (.ref (w 5)), .val (.int (-1 : Int32)), .unset, .unset, .unset] [(.ref (w 4))])) _
    refine XS.astore X2.here hx rfl (hb hby at_27) rfl rfl (l' := #[.val (.int p0), .val (.int p1), .val (.ref (w 5)), .val (.int (-1 : Int32)), .val (.ref (w 4)), .unset, .unset]) rfl ?_
    show Steps p.tables e below (T2.setTop (mkF m 29 #[.val (.int p0), .val (.int p1), .val (.ref (w 5)), .val (.int (-1 : Int32)), .val (.ref (w 4)), .unset, .unset] [])) _
    refine XS.aload X2.here hx rfl (hb hby at_29) rfl rfl ?_
    show Steps p.tables e below (T2.setTop (mkF m 31 #[.val (.int p0), .val (.int p1), .val (.ref (w 5)), .val (.int (-1 : Int32)), .val (.ref (w 4)), .unset, .unset] [(.ref (w 4))])) _
    refine XS.iloadN X2.here hx rfl (hb hby at_31) rfl ?_
    show Steps p.tables e below (T2.setTop (mkF m 32 #[.val (.int p0), .val (.int p1), .val (.ref (w 5)), .val (.int (-1 : Int32)), .val (.ref (w 4)), .unset, .unset] [(.int (-1 : Int32)), (.ref (w 4))])) _
    refine st3.trans ?_
    show Steps p.tables e below (T3.setTop (mkF m 35 #[.val (.int p0), .val (.int p1), .val (.ref (w 5)), .val (.int (-1 : Int32)), .val (.ref (w 4)), .unset, .unset] [(.int (0 : Int32))])) _
    refine XS.aloadN X3.here hx rfl (hb hby at_35) rfl rfl ?_
    show Steps p.tables e below (T3.setTop (mkF m 36 #[.val (.int p0), .val (.int p1), .val (.ref (w 5)), .val (.int (-1 : Int32)), .val (.ref (w 4)), .unset, .unset] [(.ref (w 5)), (.int (0 : Int32))])) _
    refine XS.iloadN X3.here hx rfl (hb hby at_36) rfl ?_
    show Steps p.tables e below (T3.setTop (mkF m 37 #[.val (.int p0), .val (.int p1), .val (.ref (w 5)), .val (.int (-1 : Int32)), .val (.ref (w 4)), .unset, .unset] [(.int p1), (.ref (w 5)), (.int (0 : Int32))])) _
    refine st4.trans ?_
    show Steps p.tables e below (T4.setTop (mkF m 40 #[.val (.int p0), .val (.int p1), .val (.ref (w 5)), .val (.int (-1 : Int32)), .val (.ref (w 4)), .unset, .unset] [(.int (0 : Int32)), (.int (0 : Int32))])) _
    refine XS.icmpNo X4.here hx rfl (hb hby at_40) rfl (teq (by decide : (0 : Int32) = (0 : Int32))).2 ?_
    show Steps p.tables e below (T4.setTop (mkF m 43 #[.val (.int p0), .val (.int p1), .val (.ref (w 5)), .val (.int (-1 : Int32)), .val (.ref (w 4)), .unset, .unset] [])) _
    refine XS.iconst X4.here hx rfl (hb hby at_43) ?_
    show Steps p.tables e below (T4.setTop (mkF m 44 #[.val (.int p0), .val (.int p1), .val (.ref (w 5)), .val (.int (-1 : Int32)), .val (.ref (w 4)), .unset, .unset] [(.int (1 : Int32))])) _
    refine XS.goto X4.here hx rfl (pc0 := 44) (pc' := 48) rfl (hb hby at_44) (by decide) (by decide) ?_
    show Steps p.tables e below (T4.setTop (mkF m 48 #[.val (.int p0), .val (.int p1), .val (.ref (w 5)), .val (.int (-1 : Int32)), .val (.ref (w 4)), .unset, .unset] [(.int (1 : Int32))])) _
    refine XS.istore X4.here hx rfl (hb hby at_48) rfl (l' := #[.val (.int p0), .val (.int p1), .val (.ref (w 5)), .val (.int (-1 : Int32)), .val (.ref (w 4)), .val (.int (1 : Int32)), .unset]) rfl ?_
    show Steps p.tables e below (T4.setTop (mkF m 50 #[.val (.int p0), .val (.int p1), .val (.ref (w 5)), .val (.int (-1 : Int32)), .val (.ref (w 4)), .val (.int (1 : Int32)), .unset] [])) _
    refine XS.aload X4.here hx rfl (hb hby at_50) rfl rfl ?_
    show Steps p.tables e below (T4.setTop (mkF m 52 #[.val (.int p0), .val (.int p1), .val (.ref (w 5)), .val (.int (-1 : Int32)), .val (.ref (w 4)), .val (.int (1 : Int32)), .unset] [(.ref (w 4))])) _
    refine st5.trans ?_
    show Steps p.tables e below (T5.setTop (mkF m 55 #[.val (.int p0), .val (.int p1), .val (.ref (w 5)), .val (.int (-1 : Int32)), .val (.ref (w 4)), .val (.int (1 : Int32)), .unset] [(.ref (w 5))])) _
    refine XS.aloadN X5.here hx rfl (hb hby at_55) rfl rfl ?_
    show Steps p.tables e below (T5.setTop (mkF m 56 #[.val (.int p0), .val (.int p1), .val (.ref (w 5)), .val (.int (-1 : Int32)), .val (.ref (w 4)), .val (.int (1 : Int32)), .unset] [(.ref (w 5)), (.ref (w 5))])) _
    refine Jvm.RoadKit.acmp (g := (mkF m 56 #[.val (.int p0), .val (.int p1), .val (.ref (w 5)), .val (.int (-1 : Int32)), .val (.ref (w 4)), .val (.int (1 : Int32)), .unset] [(.ref (w 5)), (.ref (w 5))])) X5 hx rfl rfl rfl (pc0 := 56) (pc' := 59) (same := true) rfl (hb hby at_56) rfl (decide_eq_true rfl) (by decide) (by decide) ?_
    show Steps p.tables e below (T5.setTop (mkF m 59 #[.val (.int p0), .val (.int p1), .val (.ref (w 5)), .val (.int (-1 : Int32)), .val (.ref (w 4)), .val (.int (1 : Int32)), .unset] [])) _
    refine XS.iconst X5.here hx rfl (hb hby at_59) ?_
    show Steps p.tables e below (T5.setTop (mkF m 60 #[.val (.int p0), .val (.int p1), .val (.ref (w 5)), .val (.int (-1 : Int32)), .val (.ref (w 4)), .val (.int (1 : Int32)), .unset] [(.int (1 : Int32))])) _
    refine XS.goto X5.here hx rfl (pc0 := 60) (pc' := 64) rfl (hb hby at_60) (by decide) (by decide) ?_
    show Steps p.tables e below (T5.setTop (mkF m 64 #[.val (.int p0), .val (.int p1), .val (.ref (w 5)), .val (.int (-1 : Int32)), .val (.ref (w 4)), .val (.int (1 : Int32)), .unset] [(.int (1 : Int32))])) _
    refine XS.istore X5.here hx rfl (hb hby at_64) rfl (l' := #[.val (.int p0), .val (.int p1), .val (.ref (w 5)), .val (.int (-1 : Int32)), .val (.ref (w 4)), .val (.int (1 : Int32)), .val (.int (1 : Int32))]) rfl ?_
    show Steps p.tables e below (T5.setTop (mkF m 66 #[.val (.int p0), .val (.int p1), .val (.ref (w 5)), .val (.int (-1 : Int32)), .val (.ref (w 4)), .val (.int (1 : Int32)), .val (.int (1 : Int32))] [])) _
    refine XS.iload X5.here hx rfl (hb hby at_66) rfl ?_
    show Steps p.tables e below (T5.setTop (mkF m 68 #[.val (.int p0), .val (.int p1), .val (.ref (w 5)), .val (.int (-1 : Int32)), .val (.ref (w 4)), .val (.int (1 : Int32)), .val (.int (1 : Int32))] [(.int (1 : Int32))])) _
    refine XS.ifNo X5.here hx rfl (hb hby at_68) rfl ((if0 _ _).trans (feq (by decide : ¬ ((1 : Int32) = (0 : Int32)))).1) ?_
    show Steps p.tables e below (T5.setTop (mkF m 71 #[.val (.int p0), .val (.int p1), .val (.ref (w 5)), .val (.int (-1 : Int32)), .val (.ref (w 4)), .val (.int (1 : Int32)), .val (.int (1 : Int32))] [])) _
    refine XS.iload X5.here hx rfl (hb hby at_71) rfl ?_
    show Steps p.tables e below (T5.setTop (mkF m 73 #[.val (.int p0), .val (.int p1), .val (.ref (w 5)), .val (.int (-1 : Int32)), .val (.ref (w 4)), .val (.int (1 : Int32)), .val (.int (1 : Int32))] [(.int (1 : Int32))])) _
    refine XS.ifNo X5.here hx rfl (hb hby at_73) rfl ((if0 _ _).trans (feq (by decide : ¬ ((1 : Int32) = (0 : Int32)))).1) ?_
    show Steps p.tables e below (T5.setTop (mkF m 76 #[.val (.int p0), .val (.int p1), .val (.ref (w 5)), .val (.int (-1 : Int32)), .val (.ref (w 4)), .val (.int (1 : Int32)), .val (.int (1 : Int32))] [])) _
    refine XS.iconst X5.here hx rfl (hb hby at_76) ?_
    show Steps p.tables e below (T5.setTop (mkF m 77 #[.val (.int p0), .val (.int p1), .val (.ref (w 5)), .val (.int (-1 : Int32)), .val (.ref (w 4)), .val (.int (1 : Int32)), .val (.int (1 : Int32))] [(.int (1 : Int32))])) _
    refine XS.goto X5.here hx rfl (pc0 := 77) (pc' := 81) rfl (hb hby at_77) (by decide) (by decide) ?_
    show Steps p.tables e below (T5.setTop (mkF m 81 #[.val (.int p0), .val (.int p1), .val (.ref (w 5)), .val (.int (-1 : Int32)), .val (.ref (w 4)), .val (.int (1 : Int32)), .val (.int (1 : Int32))] [(.int (1 : Int32))])) _
    exact retN X5 hx (t := .boolean) Bd.returns (by simp) (hb hby at_81) hr
  · show OL (some (.int (1 : Int32))) Z.heap.size _ T5.heap _
    exact ⟨rfl, N5⟩
theorem d_prog_67_method_5_code_118 : decode prog_67_method_5_code 118 = .ok (.iconst 1, 1) := by decide +kernel
theorem d_prog_67_method_5_code_119 : decode prog_67_method_5_code 119 = .ok (.goto 4, 3) := by decide +kernel
set_option maxRecDepth 65536 in
set_option maxHeartbeats 40000000 in
theorem rm_44 (l : Launch) (Z : State) (a0 : Array Value) (hw : ∀ d ∈ tables_1, d.before a0 Z = true) (w : Nat → Addr) (kk : Nat → ClassId) (hN : Wd Z w kk) (ws : List Jvm.Cond)  (h0 : Heap) (O0 : Old Z Z.heap.size h0) :
    MetFree l (⟨"org/cartulary/repository/Condition$Operator", "holds", "(I)Z"⟩ : MethodName) (head1 (Jvm.Cond.code (⟨"org/cartulary/repository/Condition$Operator", "holds", "(I)Z"⟩ : MethodName) prog_67_method_5_code 2 (some .boolean) :: ws) ({ frames := 1, cells := 0, slots := 0, locals := 12 } : Room)) (fun a U => a = #[(.ref (w 4)), (.int (1 : Int32))] ∧ Z.Warmed39 U.vm ∧ U.heap = h0) (fun _ _ _ _ _ => True) (fun _ U o U' => ∃ v L, o = .returned v ∧ OQ (some (.int (1 : Int32))) h0 Z.heap.size v U'.heap L ∧ FrameEnd U o U' L ({ frames := 1, cells := 0, slots := 0, locals := 12 } : Room).cells ({ frames := 1, cells := 0, slots := 0, locals := 12 } : Room).slots) := by
  have hN' := hN
  obtain ⟨hS0, hE0, hS1, hE1, hS2, hE2, hS3, hE3, hS4, hE4, hS5, hE5, hF0_ordinal, hF1_ordinal, hF2_ordinal, hF3_ordinal, hF4_ordinal, hF5_ordinal⟩ := hN'
  refine MetFree.of_bodySF (plainFor_of_name pn_2) hisR ?_
  intro p e s m args below meth c s₁ Bd hml0 hP hK
  obtain ⟨rfl, hZ, hh⟩ := hP
  have hx := Bd.exec
  have hby := Bd.bytes
  have hml : c.maxLocals = 2 := hml0
  have hown : s.vm.findClass "org/cartulary/repository/Condition$Operator" = some m.cls := findClass_of_methodNamed Bd.named
  have hnm := (name_of_methodNamed Bd.named Bd.method).1
  have X0 : Stand p l e ({ frames := 1, cells := 0, slots := 0, locals := 12 } : Room) s m #[(.ref (w 4)), (.int (1 : Int32))] below meth c s₁ [] 0 0 := Stand.of_body Bd
  have e0 : s₁.heap = h0 := by rw [← hh, Bd.state]; rfl
  have N0 := Fr.nil Z.heap.size
  have pre0 : ∀ t, Steps p.tables e below (s₁.setTop (mkF m 0 #[.val (.ref (w 4)), .val (.int (1 : Int32))] [])) t → Steps p.tables e below (s₁.setTop (entryFrame m #[(.ref (w 4)), (.int (1 : Int32))] 2)) t := fun t k => castTop (ef_2 m (.ref (w 4)) rfl (.int (1 : Int32)) rfl) k
  obtain ⟨cq1, kq1, q1a, q1b, q1c⟩ := isOf hZ e0 (hE4.ext O0.2)
  obtain ⟨_, _, ⟨T1, L1, k1, n1⟩, -, X1, ⟨Lc1, hQ1, l1, y1, z1⟩, st1⟩ := X0.virtualBackUp hx (x := (⟨"org/cartulary/repository/Condition$Operator", "ordinal", "()I"⟩ : MethodName)) (y := (⟨"java/lang/Enum", "ordinal", "()I"⟩ : MethodName)) (owner := "java/lang/Enum") hown (mvT hZ (W hw 13 rfl)) (mvT hZ (W hw 14 rfl)) (mvT hZ (W hw 15 rfl)) (by decide) (mvT hZ (W hw 17 rfl)) (mvT hZ (W hw 16 rfl)) (backOf (W := 0) (rm_39 l Z a0 hw w kk hN [] h0 O0) hZ (W hw 19 rfl) (W hw 18 rfl) (by decide) (by decide)) q1a q1c (g := (mkF m 1 #[.val (.ref (w 4)), .val (.int (1 : Int32))] [(.ref (w 4))])) rfl (by rw [hml]; rfl) (Steps.refl _) (argsL := []) (rest := []) (lenOf pd_1 rfl) rfl (by show 2 * 0 + _ ≤ _; exact Nat.le_of_eq rfl) (hb hby d_prog_67_method_5_code_1) (fun _ _ => ⟨rfl, e0, (by decide : 0 + 0 ≤ _), (by decide : 0 + 0 ≤ _)⟩)
  dsimp only [Pt.U, Pt.locs, Pt.cells, Pt.slots] at X1 l1 y1 z1 st1 hQ1
  subst l1 y1 z1
  obtain ⟨rfl, N1q, e1⟩ := hQ1
  have N1 := Fr.app N0 N1q
  obtain ⟨fs, hr, hrun, hended, hW, hsame⟩ := X1.leave (v := some (.int (1 : Int32))) (fun h => by rw [Bd.returns] at h; cases h)
  refine ⟨_, _, pre0 _ ?_, hrun, hended, _, _, rfl, ?_, ⟨_, rfl⟩, hW, hsame.mono (by decide) (by decide)⟩
  · show Steps p.tables e below (s₁.setTop (mkF m 0 #[.val (.ref (w 4)), .val (.int (1 : Int32))] [])) _
    refine XS.aloadN X0.here hx rfl (hb hby d_prog_67_method_5_code_0) rfl rfl ?_
    show Steps p.tables e below (s₁.setTop (mkF m 1 #[.val (.ref (w 4)), .val (.int (1 : Int32))] [(.ref (w 4))])) _
    refine st1.trans ?_
    show Steps p.tables e below (T1.setTop (mkF m 4 #[.val (.ref (w 4)), .val (.int (1 : Int32))] [(.int (5 : Int32))])) _
    refine XS.tswIn X1.here hx rfl (pc0 := 4) (pc' := 114) (o := 110) rfl (hb hby d_prog_67_method_5_code_4) rfl (by decide) (by decide) (by decide) (by decide) ?_
    show Steps p.tables e below (T1.setTop (mkF m 114 #[.val (.ref (w 4)), .val (.int (1 : Int32))] [])) _
    refine XS.iloadN X1.here hx rfl (hb hby d_prog_67_method_5_code_114) rfl ?_
    show Steps p.tables e below (T1.setTop (mkF m 115 #[.val (.ref (w 4)), .val (.int (1 : Int32))] [(.int (1 : Int32))])) _
    refine XS.ifNo X1.here hx rfl (hb hby d_prog_67_method_5_code_115) rfl ((if0 _ _).trans (flt (by decide : ¬ ((1 : Int32) < (0 : Int32)))).1) ?_
    show Steps p.tables e below (T1.setTop (mkF m 118 #[.val (.ref (w 4)), .val (.int (1 : Int32))] [])) _
    refine XS.iconst X1.here hx rfl (hb hby d_prog_67_method_5_code_118) ?_
    show Steps p.tables e below (T1.setTop (mkF m 119 #[.val (.ref (w 4)), .val (.int (1 : Int32))] [(.int (1 : Int32))])) _
    refine XS.goto X1.here hx rfl (pc0 := 119) (pc' := 123) rfl (hb hby d_prog_67_method_5_code_119) (by decide) (by decide) ?_
    show Steps p.tables e below (T1.setTop (mkF m 123 #[.val (.ref (w 4)), .val (.int (1 : Int32))] [(.int (1 : Int32))])) _
    exact retN X1 hx (t := .boolean) Bd.returns (by simp) (hb hby d_prog_67_method_5_code_123) hr
  · show OQ (some (.int (1 : Int32))) h0 Z.heap.size _ T1.heap _
    rw [e1]
    exact ⟨rfl, N1, rfl⟩
theorem d_prog_67_method_5_code_94 : decode prog_67_method_5_code 94 = .ok (.iconst 1, 1) := by decide +kernel
theorem d_prog_67_method_5_code_95 : decode prog_67_method_5_code 95 = .ok (.goto 28, 3) := by decide +kernel
set_option maxRecDepth 65536 in
set_option maxHeartbeats 40000000 in
theorem rm_45 (l : Launch) (Z : State) (a0 : Array Value) (hw : ∀ d ∈ tables_1, d.before a0 Z = true) (w : Nat → Addr) (kk : Nat → ClassId) (hN : Wd Z w kk) (ws : List Jvm.Cond) (p1 : Int32) (h0 : Heap) (O0 : Old Z Z.heap.size h0) (hp0 : ¬ ((0 : Int32) < p1)) :
    MetFree l (⟨"org/cartulary/repository/Condition$Operator", "holds", "(I)Z"⟩ : MethodName) (head1 (Jvm.Cond.code (⟨"org/cartulary/repository/Condition$Operator", "holds", "(I)Z"⟩ : MethodName) prog_67_method_5_code 2 (some .boolean) :: ws) ({ frames := 1, cells := 0, slots := 0, locals := 12 } : Room)) (fun a U => a = #[(.ref (w 5)), (.int p1)] ∧ Z.Warmed39 U.vm ∧ U.heap = h0) (fun _ _ _ _ _ => True) (fun _ U o U' => ∃ v L, o = .returned v ∧ OQ (some (.int (1 : Int32))) h0 Z.heap.size v U'.heap L ∧ FrameEnd U o U' L ({ frames := 1, cells := 0, slots := 0, locals := 12 } : Room).cells ({ frames := 1, cells := 0, slots := 0, locals := 12 } : Room).slots) := by
  have hN' := hN
  obtain ⟨hS0, hE0, hS1, hE1, hS2, hE2, hS3, hE3, hS4, hE4, hS5, hE5, hF0_ordinal, hF1_ordinal, hF2_ordinal, hF3_ordinal, hF4_ordinal, hF5_ordinal⟩ := hN'
  refine MetFree.of_bodySF (plainFor_of_name pn_2) hisR ?_
  intro p e s m args below meth c s₁ Bd hml0 hP hK
  obtain ⟨rfl, hZ, hh⟩ := hP
  have hx := Bd.exec
  have hby := Bd.bytes
  have hml : c.maxLocals = 2 := hml0
  have hown : s.vm.findClass "org/cartulary/repository/Condition$Operator" = some m.cls := findClass_of_methodNamed Bd.named
  have hnm := (name_of_methodNamed Bd.named Bd.method).1
  have X0 : Stand p l e ({ frames := 1, cells := 0, slots := 0, locals := 12 } : Room) s m #[(.ref (w 5)), (.int p1)] below meth c s₁ [] 0 0 := Stand.of_body Bd
  have e0 : s₁.heap = h0 := by rw [← hh, Bd.state]; rfl
  have N0 := Fr.nil Z.heap.size
  have pre0 : ∀ t, Steps p.tables e below (s₁.setTop (mkF m 0 #[.val (.ref (w 5)), .val (.int p1)] [])) t → Steps p.tables e below (s₁.setTop (entryFrame m #[(.ref (w 5)), (.int p1)] 2)) t := fun t k => castTop (ef_2 m (.ref (w 5)) rfl (.int p1) rfl) k
  obtain ⟨cq1, kq1, q1a, q1b, q1c⟩ := isOf hZ e0 (hE5.ext O0.2)
  obtain ⟨_, _, ⟨T1, L1, k1, n1⟩, -, X1, ⟨Lc1, hQ1, l1, y1, z1⟩, st1⟩ := X0.virtualBackUp hx (x := (⟨"org/cartulary/repository/Condition$Operator", "ordinal", "()I"⟩ : MethodName)) (y := (⟨"java/lang/Enum", "ordinal", "()I"⟩ : MethodName)) (owner := "java/lang/Enum") hown (mvT hZ (W hw 13 rfl)) (mvT hZ (W hw 14 rfl)) (mvT hZ (W hw 15 rfl)) (by decide) (mvT hZ (W hw 17 rfl)) (mvT hZ (W hw 16 rfl)) (backOf (W := 0) (rm_37 l Z a0 hw w kk hN [] h0 O0) hZ (W hw 19 rfl) (W hw 18 rfl) (by decide) (by decide)) q1a q1c (g := (mkF m 1 #[.val (.ref (w 5)), .val (.int p1)] [(.ref (w 5))])) rfl (by rw [hml]; rfl) (Steps.refl _) (argsL := []) (rest := []) (lenOf pd_1 rfl) rfl (by show 2 * 0 + _ ≤ _; exact Nat.le_of_eq rfl) (hb hby d_prog_67_method_5_code_1) (fun _ _ => ⟨rfl, e0, (by decide : 0 + 0 ≤ _), (by decide : 0 + 0 ≤ _)⟩)
  dsimp only [Pt.U, Pt.locs, Pt.cells, Pt.slots] at X1 l1 y1 z1 st1 hQ1
  subst l1 y1 z1
  obtain ⟨rfl, N1q, e1⟩ := hQ1
  have N1 := Fr.app N0 N1q
  obtain ⟨fs, hr, hrun, hended, hW, hsame⟩ := X1.leave (v := some (.int (1 : Int32))) (fun h => by rw [Bd.returns] at h; cases h)
  refine ⟨_, _, pre0 _ ?_, hrun, hended, _, _, rfl, ?_, ⟨_, rfl⟩, hW, hsame.mono (by decide) (by decide)⟩
  · show Steps p.tables e below (s₁.setTop (mkF m 0 #[.val (.ref (w 5)), .val (.int p1)] [])) _
    refine XS.aloadN X0.here hx rfl (hb hby d_prog_67_method_5_code_0) rfl rfl ?_
    show Steps p.tables e below (s₁.setTop (mkF m 1 #[.val (.ref (w 5)), .val (.int p1)] [(.ref (w 5))])) _
    refine st1.trans ?_
    show Steps p.tables e below (T1.setTop (mkF m 4 #[.val (.ref (w 5)), .val (.int p1)] [(.int (3 : Int32))])) _
    refine XS.tswIn X1.here hx rfl (pc0 := 4) (pc' := 90) (o := 86) rfl (hb hby d_prog_67_method_5_code_4) rfl (by decide) (by decide) (by decide) (by decide) ?_
    show Steps p.tables e below (T1.setTop (mkF m 90 #[.val (.ref (w 5)), .val (.int p1)] [])) _
    refine XS.iloadN X1.here hx rfl (hb hby d_prog_67_method_5_code_90) rfl ?_
    show Steps p.tables e below (T1.setTop (mkF m 91 #[.val (.ref (w 5)), .val (.int p1)] [(.int p1)])) _
    refine XS.ifNo X1.here hx rfl (hb hby d_prog_67_method_5_code_91) rfl ((if0 _ _).trans (flt hp0).2.2.1) ?_
    show Steps p.tables e below (T1.setTop (mkF m 94 #[.val (.ref (w 5)), .val (.int p1)] [])) _
    refine XS.iconst X1.here hx rfl (hb hby d_prog_67_method_5_code_94) ?_
    show Steps p.tables e below (T1.setTop (mkF m 95 #[.val (.ref (w 5)), .val (.int p1)] [(.int (1 : Int32))])) _
    refine XS.goto X1.here hx rfl (pc0 := 95) (pc' := 123) rfl (hb hby d_prog_67_method_5_code_95) (by decide) (by decide) ?_
    show Steps p.tables e below (T1.setTop (mkF m 123 #[.val (.ref (w 5)), .val (.int p1)] [(.int (1 : Int32))])) _
    exact retN X1 hx (t := .boolean) Bd.returns (by simp) (hb hby d_prog_67_method_5_code_123) hr
  · show OQ (some (.int (1 : Int32))) h0 Z.heap.size _ T1.heap _
    rw [e1]
    exact ⟨rfl, N1, rfl⟩
set_option maxRecDepth 65536 in
set_option maxHeartbeats 40000000 in
theorem law_46 (l : Launch) (Z : State) (a0 : Array Value) (hw : ∀ d ∈ tables_1, d.before a0 Z = true) (w : Nat → Addr) (kk : Nat → ClassId) (hN : Wd Z w kk) (ws : List Jvm.Cond) (p0 : Int32) (p1 : Int32) (h0 : Heap) (O0 : Old Z Z.heap.size h0) (hp0 : ((p0 &&& (2147483647 : Int32)) % (6 : Int32)) = (3 : Int32)) (hp1 : ¬ ((0 : Int32) < p1)) (hp2 : p1 < (0 : Int32)) :
    MetFree l x (head1 (Jvm.Cond.code x code maxLocals ret :: ws) room_1) (fun a U => a = #[(.int p0), (.int p1)] ∧ Z.Warmed39 U.vm ∧ U.heap = h0) (fun _ _ _ _ _ => True) (fun _ U o U' => ∃ v L, o = .returned v ∧ OL (some (.int (1 : Int32))) Z.heap.size v U'.heap L ∧ FrameEnd U o U' L 0 0) := by
  have hN' := hN
  obtain ⟨hS0, hE0, hS1, hE1, hS2, hE2, hS3, hE3, hS4, hE4, hS5, hE5, hF0_ordinal, hF1_ordinal, hF2_ordinal, hF3_ordinal, hF4_ordinal, hF5_ordinal⟩ := hN'
  refine MetFree.of_bodySF (plainFor_of_name pn_0) hisR ?_
  intro p e s m args below meth c s₁ Bd hml0 hP hK
  obtain ⟨rfl, hZ, hh⟩ := hP
  have hx := Bd.exec
  have hby := Bd.bytes
  have hml : c.maxLocals = 7 := hml0
  have hown : s.vm.findClass "org/cartulary/repository/OperatorSwappedPinLaw" = some m.cls := findClass_of_methodNamed Bd.named
  have hnm := (name_of_methodNamed Bd.named Bd.method).1
  have X0 : Stand p l e room_1 s m #[(.int p0), (.int p1)] below meth c s₁ [] 0 0 := Stand.of_body Bd
  have e0 : s₁.heap = h0 := by rw [← hh, Bd.state]; rfl
  have N0 := Fr.nil Z.heap.size
  have pre0 : ∀ t, Steps p.tables e below (s₁.setTop (mkF m 0 #[.val (.int p0), .val (.int p1), .unset, .unset, .unset, .unset, .unset] [])) t → Steps p.tables e below (s₁.setTop (entryFrame m #[(.int p0), (.int p1)] maxLocals)) t := fun t k => castTop (ef_3 m (.int p0) rfl (.int p1) rfl) k
  obtain ⟨_, _, ⟨T1, L1, k1, n1⟩, -, X1, ⟨Lc1, hQ1, l1, y1, z1⟩, st1⟩ := Jvm.LawKit.callS X0 hx (y := (⟨"org/cartulary/repository/OperatorSwappedPinLaw", "pick", "(I)Lorg/cartulary/repository/Condition$Operator;"⟩ : MethodName)) hown (mvT hZ (W hw 0 rfl)) (mvT hZ (W hw 1 rfl)) (mvT hZ (W hw 2 rfl)) (mvT hZ (W hw 3 rfl)) (by decide) (backOf (W := 0) (rm_36 l Z a0 hw w kk hN [] p0 h0 O0 hp0) hZ (W hw 3 rfl) (W hw 2 rfl) (by decide) (by decide)) (g := (mkF m 1 #[.val (.int p0), .val (.int p1), .unset, .unset, .unset, .unset, .unset] [(.int p0)])) rfl (by rw [hml]; rfl) (argsL := [(.int p0)]) (rest := []) (lenOf pd_0 rfl) rfl (by show 2 * 0 + _ ≤ _; exact Nat.le_of_eq rfl) (hb hby at_1) (fun _ _ => ⟨rfl, e0, (by decide : 0 + 0 ≤ _), (by decide : 0 + 0 ≤ _)⟩)
  dsimp only [Pt.U, Pt.locs, Pt.cells, Pt.slots] at X1 l1 y1 z1 st1 hQ1
  subst l1 y1 z1
  obtain ⟨rfl, N1q, e1⟩ := hQ1
  have N1 := Fr.app N0 N1q
  obtain ⟨cq2, kq2, q2a, q2b, q2c⟩ := isOf hZ e1 (hE5.ext O0.2)
  obtain ⟨_, _, ⟨T2, L2, k2, n2⟩, -, X2, ⟨Lc2, hQ2, l2, y2, z2⟩, st2⟩ := X1.virtualBack hx (y := (⟨"org/cartulary/repository/Condition$Operator", "swapped", "()Lorg/cartulary/repository/Condition$Operator;"⟩ : MethodName)) (z := (⟨"org/cartulary/repository/Condition$Operator", "swapped", "()Lorg/cartulary/repository/Condition$Operator;"⟩ : MethodName)) hown (mvT hZ (W hw 8 rfl)) (mvT hZ (W hw 9 rfl)) (notFace_of_selects (args := #[]) (mvT hZ (W hw 11 rfl))) (mvT hZ (W hw 11 rfl)) (mvT hZ (W hw 10 rfl)) (by decide) (backOf (W := 0) (rm_38 l Z a0 hw w kk hN [] h0 O0) hZ (W hw 12 rfl) (W hw 6 rfl) (by decide) (by decide)) q2a q2c (g := (mkF m 24 #[.val (.int p0), .val (.int p1), .val (.ref (w 5)), .val (.int (1 : Int32)), .unset, .unset, .unset] [(.ref (w 5))])) rfl (by rw [hml]; rfl) (Steps.refl _) (argsL := []) (rest := []) (lenOf pd_2 rfl) rfl (by show 2 * 0 + _ ≤ _; exact Nat.le_of_eq rfl) (hb hby at_24) (fun _ _ => ⟨rfl, e1, (by decide : 0 + 0 ≤ _), (by decide : 0 + 0 ≤ _)⟩)
  dsimp only [Pt.U, Pt.locs, Pt.cells, Pt.slots] at X2 l2 y2 z2 st2 hQ2
  subst l2 y2 z2
  obtain ⟨rfl, N2q, e2⟩ := hQ2
  have N2 := Fr.app N1 N2q
  obtain ⟨cq3, kq3, q3a, q3b, q3c⟩ := isOf hZ e2 (hE4.ext O0.2)
  obtain ⟨_, _, ⟨T3, L3, k3, n3⟩, -, X3, ⟨Lc3, hQ3, l3, y3, z3⟩, st3⟩ := X2.virtualBack hx (y := (⟨"org/cartulary/repository/Condition$Operator", "holds", "(I)Z"⟩ : MethodName)) (z := (⟨"org/cartulary/repository/Condition$Operator", "holds", "(I)Z"⟩ : MethodName)) hown (mvT hZ (W hw 22 rfl)) (mvT hZ (W hw 23 rfl)) (notFace_of_selects (args := #[]) (mvT hZ (W hw 25 rfl))) (mvT hZ (W hw 25 rfl)) (mvT hZ (W hw 24 rfl)) (by decide) (backOf (W := 0) (rm_44 l Z a0 hw w kk hN [] h0 O0) hZ (W hw 26 rfl) (W hw 6 rfl) (by decide) (by decide)) q3a q3c (g := (mkF m 32 #[.val (.int p0), .val (.int p1), .val (.ref (w 5)), .val (.int (1 : Int32)), .val (.ref (w 4)), .unset, .unset] [(.int (1 : Int32)), (.ref (w 4))])) rfl (by rw [hml]; rfl) (Steps.refl _) (argsL := [(.int (1 : Int32))]) (rest := []) (lenOf pd_3 rfl) rfl (by show 2 * 0 + _ ≤ _; exact Nat.le_of_eq rfl) (hb hby at_32) (fun _ _ => ⟨rfl, e2, (by decide : 0 + 0 ≤ _), (by decide : 0 + 0 ≤ _)⟩)
  dsimp only [Pt.U, Pt.locs, Pt.cells, Pt.slots] at X3 l3 y3 z3 st3 hQ3
  subst l3 y3 z3
  obtain ⟨rfl, N3q, e3⟩ := hQ3
  have N3 := Fr.app N2 N3q
  obtain ⟨cq4, kq4, q4a, q4b, q4c⟩ := isOf hZ e3 (hE5.ext O0.2)
  obtain ⟨_, _, ⟨T4, L4, k4, n4⟩, -, X4, ⟨Lc4, hQ4, l4, y4, z4⟩, st4⟩ := X3.virtualBack hx (y := (⟨"org/cartulary/repository/Condition$Operator", "holds", "(I)Z"⟩ : MethodName)) (z := (⟨"org/cartulary/repository/Condition$Operator", "holds", "(I)Z"⟩ : MethodName)) hown (mvT hZ (W hw 22 rfl)) (mvT hZ (W hw 23 rfl)) (notFace_of_selects (args := #[]) (mvT hZ (W hw 25 rfl))) (mvT hZ (W hw 25 rfl)) (mvT hZ (W hw 24 rfl)) (by decide) (backOf (W := 1) (rm_45 l Z a0 hw w kk hN [] p1 h0 O0 hp1) hZ (W hw 26 rfl) (W hw 6 rfl) (by decide) (by decide)) q4a q4c (g := (mkF m 37 #[.val (.int p0), .val (.int p1), .val (.ref (w 5)), .val (.int (1 : Int32)), .val (.ref (w 4)), .unset, .unset] [(.int p1), (.ref (w 5)), (.int (1 : Int32))])) rfl (by rw [hml]; rfl) (Steps.refl _) (argsL := [(.int p1)]) (rest := [(.int (1 : Int32))]) (lenOf pd_3 rfl) rfl (by show 2 * 0 + _ ≤ _; exact Nat.le_of_eq rfl) (hb hby at_37) (fun _ _ => ⟨rfl, e3, (by decide : 0 + 0 ≤ _), (by decide : 0 + 0 ≤ _)⟩)
  dsimp only [Pt.U, Pt.locs, Pt.cells, Pt.slots] at X4 l4 y4 z4 st4 hQ4
  subst l4 y4 z4
  obtain ⟨rfl, N4q, e4⟩ := hQ4
  have N4 := Fr.app N3 N4q
  obtain ⟨cq5, kq5, q5a, q5b, q5c⟩ := isOf hZ e4 (hE4.ext O0.2)
  obtain ⟨_, _, ⟨T5, L5, k5, n5⟩, -, X5, ⟨Lc5, hQ5, l5, y5, z5⟩, st5⟩ := X4.virtualBack hx (y := (⟨"org/cartulary/repository/Condition$Operator", "swapped", "()Lorg/cartulary/repository/Condition$Operator;"⟩ : MethodName)) (z := (⟨"org/cartulary/repository/Condition$Operator", "swapped", "()Lorg/cartulary/repository/Condition$Operator;"⟩ : MethodName)) hown (mvT hZ (W hw 8 rfl)) (mvT hZ (W hw 9 rfl)) (notFace_of_selects (args := #[]) (mvT hZ (W hw 11 rfl))) (mvT hZ (W hw 11 rfl)) (mvT hZ (W hw 10 rfl)) (by decide) (backOf (W := 0) (rm_42 l Z a0 hw w kk hN [] h0 O0) hZ (W hw 12 rfl) (W hw 6 rfl) (by decide) (by decide)) q5a q5c (g := (mkF m 52 #[.val (.int p0), .val (.int p1), .val (.ref (w 5)), .val (.int (1 : Int32)), .val (.ref (w 4)), .val (.int (1 : Int32)), .unset] [(.ref (w 4))])) rfl (by rw [hml]; rfl) (Steps.refl _) (argsL := []) (rest := []) (lenOf pd_2 rfl) rfl (by show 2 * 0 + _ ≤ _; exact Nat.le_of_eq rfl) (hb hby at_52) (fun _ _ => ⟨rfl, e4, (by decide : 0 + 0 ≤ _), (by decide : 0 + 0 ≤ _)⟩)
  dsimp only [Pt.U, Pt.locs, Pt.cells, Pt.slots] at X5 l5 y5 z5 st5 hQ5
  subst l5 y5 z5
  obtain ⟨rfl, N5q, e5⟩ := hQ5
  have N5 := Fr.app N4 N5q
  obtain ⟨fs, hr, hrun, hended, hW, hsame⟩ := X5.leave (v := some (.int (1 : Int32))) (fun h => by rw [Bd.returns] at h; cases h)
  refine ⟨_, _, pre0 _ ?_, hrun, hended, _, _, rfl, ?_, ⟨_, rfl⟩, hW, hsame.mono (by decide) (by decide)⟩
  · show Steps p.tables e below (s₁.setTop (mkF m 0 #[.val (.int p0), .val (.int p1), .unset, .unset, .unset, .unset, .unset] [])) _
    refine XS.iloadN X0.here hx rfl (hb hby at_0) rfl ?_
    show Steps p.tables e below (s₁.setTop (mkF m 1 #[.val (.int p0), .val (.int p1), .unset, .unset, .unset, .unset, .unset] [(.int p0)])) _
    refine st1 _ ?_
    show Steps p.tables e below (T1.setTop (mkF m 4 #[.val (.int p0), .val (.int p1), .unset, .unset, .unset, .unset, .unset] [(.ref (w 5))])) _
    refine XS.astoreN X1.here hx rfl (hb hby at_4) rfl rfl (l' := #[.val (.int p0), .val (.int p1), .val (.ref (w 5)), .unset, .unset, .unset, .unset]) rfl ?_
    show Steps p.tables e below (T1.setTop (mkF m 5 #[.val (.int p0), .val (.int p1), .val (.ref (w 5)), .unset, .unset, .unset, .unset] [])) _
    refine XS.iloadN X1.here hx rfl (hb hby at_5) rfl ?_
    show Steps p.tables e below (T1.setTop (mkF m 6 #[.val (.int p0), .val (.int p1), .val (.ref (w 5)), .unset, .unset, .unset, .unset] [(.int p1)])) _
    refine XS.ifYes X1.here hx rfl (pc0 := 6) (pc' := 13) rfl (hb hby at_6) rfl ((if0 _ _).trans (flt hp1).2.2.2) (by decide) (by decide) ?_
    show Steps p.tables e below (T1.setTop (mkF m 13 #[.val (.int p0), .val (.int p1), .val (.ref (w 5)), .unset, .unset, .unset, .unset] [])) _
    refine XS.iloadN X1.here hx rfl (hb hby at_13) rfl ?_
    show Steps p.tables e below (T1.setTop (mkF m 14 #[.val (.int p0), .val (.int p1), .val (.ref (w 5)), .unset, .unset, .unset, .unset] [(.int p1)])) _
    refine XS.ifNo X1.here hx rfl (hb hby at_14) rfl ((if0 _ _).trans (tlt hp2).2.1) ?_
    show Steps p.tables e below (T1.setTop (mkF m 17 #[.val (.int p0), .val (.int p1), .val (.ref (w 5)), .unset, .unset, .unset, .unset] [])) _
    refine XS.iconst X1.here hx rfl (hb hby at_17) ?_
    show Steps p.tables e below (T1.setTop (mkF m 18 #[.val (.int p0), .val (.int p1), .val (.ref (w 5)), .unset, .unset, .unset, .unset] [(.int (1 : Int32))])) _
    refine XS.goto X1.here hx rfl (pc0 := 18) (pc' := 22) rfl (hb hby at_18) (by decide) (by decide) ?_
    show Steps p.tables e below (T1.setTop (mkF m 22 #[.val (.int p0), .val (.int p1), .val (.ref (w 5)), .unset, .unset, .unset, .unset] [(.int (1 : Int32))])) _
    refine XS.istoreN X1.here hx rfl (hb hby at_22) rfl (l' := #[.val (.int p0), .val (.int p1), .val (.ref (w 5)), .val (.int (1 : Int32)), .unset, .unset, .unset]) rfl ?_
    show Steps p.tables e below (T1.setTop (mkF m 23 #[.val (.int p0), .val (.int p1), .val (.ref (w 5)), .val (.int (1 : Int32)), .unset, .unset, .unset] [])) _
    refine XS.aloadN X1.here hx rfl (hb hby at_23) rfl rfl ?_
    show Steps p.tables e below (T1.setTop (mkF m 24 #[.val (.int p0), .val (.int p1), .val (.ref (w 5)), .val (.int (1 : Int32)), .unset, .unset, .unset] [(.ref (w 5))])) _
    refine st2.trans ?_
    show Steps p.tables e below (T2.setTop (mkF m 27 #[.val (.int p0), .val (.int p1), .val (.ref (w 5)), .val (.int (1 : Int32)), .unset, .unset, .unset] [(.ref (w 4))])) _
    refine XS.astore X2.here hx rfl (hb hby at_27) rfl rfl (l' := #[.val (.int p0), .val (.int p1), .val (.ref (w 5)), .val (.int (1 : Int32)), .val (.ref (w 4)), .unset, .unset]) rfl ?_
    show Steps p.tables e below (T2.setTop (mkF m 29 #[.val (.int p0), .val (.int p1), .val (.ref (w 5)), .val (.int (1 : Int32)), .val (.ref (w 4)), .unset, .unset] [])) _
    refine XS.aload X2.here hx rfl (hb hby at_29) rfl rfl ?_
    show Steps p.tables e below (T2.setTop (mkF m 31 #[.val (.int p0), .val (.int p1), .val (.ref (w 5)), .val (.int (1 : Int32)), .val (.ref (w 4)), .unset, .unset] [(.ref (w 4))])) _
    refine XS.iloadN X2.here hx rfl (hb hby at_31) rfl ?_
    show Steps p.tables e below (T2.setTop (mkF m 32 #[.val (.int p0), .val (.int p1), .val (.ref (w 5)), .val (.int (1 : Int32)), .val (.ref (w 4)), .unset, .unset] [(.int (1 : Int32)), (.ref (w 4))])) _
    refine st3.trans ?_
    show Steps p.tables e below (T3.setTop (mkF m 35 #[.val (.int p0), .val (.int p1), .val (.ref (w 5)), .val (.int (1 : Int32)), .val (.ref (w 4)), .unset, .unset] [(.int (1 : Int32))])) _
    refine XS.aloadN X3.here hx rfl (hb hby at_35) rfl rfl ?_
    show Steps p.tables e below (T3.setTop (mkF m 36 #[.val (.int p0), .val (.int p1), .val (.ref (w 5)), .val (.int (1 : Int32)), .val (.ref (w 4)), .unset, .unset] [(.ref (w 5)), (.int (1 : Int32))])) _
    refine XS.iloadN X3.here hx rfl (hb hby at_36) rfl ?_
    show Steps p.tables e below (T3.setTop (mkF m 37 #[.val (.int p0), .val (.int p1), .val (.ref (w 5)), .val (.int (1 : Int32)), .val (.ref (w 4)), .unset, .unset] [(.int p1), (.ref (w 5)), (.int (1 : Int32))])) _
    refine st4.trans ?_
    show Steps p.tables e below (T4.setTop (mkF m 40 #[.val (.int p0), .val (.int p1), .val (.ref (w 5)), .val (.int (1 : Int32)), .val (.ref (w 4)), .unset, .unset] [(.int (1 : Int32)), (.int (1 : Int32))])) _
    refine XS.icmpNo X4.here hx rfl (hb hby at_40) rfl (teq (by decide : (1 : Int32) = (1 : Int32))).2 ?_
    show Steps p.tables e below (T4.setTop (mkF m 43 #[.val (.int p0), .val (.int p1), .val (.ref (w 5)), .val (.int (1 : Int32)), .val (.ref (w 4)), .unset, .unset] [])) _
    refine XS.iconst X4.here hx rfl (hb hby at_43) ?_
    show Steps p.tables e below (T4.setTop (mkF m 44 #[.val (.int p0), .val (.int p1), .val (.ref (w 5)), .val (.int (1 : Int32)), .val (.ref (w 4)), .unset, .unset] [(.int (1 : Int32))])) _
    refine XS.goto X4.here hx rfl (pc0 := 44) (pc' := 48) rfl (hb hby at_44) (by decide) (by decide) ?_
    show Steps p.tables e below (T4.setTop (mkF m 48 #[.val (.int p0), .val (.int p1), .val (.ref (w 5)), .val (.int (1 : Int32)), .val (.ref (w 4)), .unset, .unset] [(.int (1 : Int32))])) _
    refine XS.istore X4.here hx rfl (hb hby at_48) rfl (l' := #[.val (.int p0), .val (.int p1), .val (.ref (w 5)), .val (.int (1 : Int32)), .val (.ref (w 4)), .val (.int (1 : Int32)), .unset]) rfl ?_
    show Steps p.tables e below (T4.setTop (mkF m 50 #[.val (.int p0), .val (.int p1), .val (.ref (w 5)), .val (.int (1 : Int32)), .val (.ref (w 4)), .val (.int (1 : Int32)), .unset] [])) _
    refine XS.aload X4.here hx rfl (hb hby at_50) rfl rfl ?_
    show Steps p.tables e below (T4.setTop (mkF m 52 #[.val (.int p0), .val (.int p1), .val (.ref (w 5)), .val (.int (1 : Int32)), .val (.ref (w 4)), .val (.int (1 : Int32)), .unset] [(.ref (w 4))])) _
    refine st5.trans ?_
    show Steps p.tables e below (T5.setTop (mkF m 55 #[.val (.int p0), .val (.int p1), .val (.ref (w 5)), .val (.int (1 : Int32)), .val (.ref (w 4)), .val (.int (1 : Int32)), .unset] [(.ref (w 5))])) _
    refine XS.aloadN X5.here hx rfl (hb hby at_55) rfl rfl ?_
    show Steps p.tables e below (T5.setTop (mkF m 56 #[.val (.int p0), .val (.int p1), .val (.ref (w 5)), .val (.int (1 : Int32)), .val (.ref (w 4)), .val (.int (1 : Int32)), .unset] [(.ref (w 5)), (.ref (w 5))])) _
    refine Jvm.RoadKit.acmp (g := (mkF m 56 #[.val (.int p0), .val (.int p1), .val (.ref (w 5)), .val (.int (1 : Int32)), .val (.ref (w 4)), .val (.int (1 : Int32)), .unset] [(.ref (w 5)), (.ref (w 5))])) X5 hx rfl rfl rfl (pc0 := 56) (pc' := 59) (same := true) rfl (hb hby at_56) rfl (decide_eq_true rfl) (by decide) (by decide) ?_
    show Steps p.tables e below (T5.setTop (mkF m 59 #[.val (.int p0), .val (.int p1), .val (.ref (w 5)), .val (.int (1 : Int32)), .val (.ref (w 4)), .val (.int (1 : Int32)), .unset] [])) _
    refine XS.iconst X5.here hx rfl (hb hby at_59) ?_
    show Steps p.tables e below (T5.setTop (mkF m 60 #[.val (.int p0), .val (.int p1), .val (.ref (w 5)), .val (.int (1 : Int32)), .val (.ref (w 4)), .val (.int (1 : Int32)), .unset] [(.int (1 : Int32))])) _
    refine XS.goto X5.here hx rfl (pc0 := 60) (pc' := 64) rfl (hb hby at_60) (by decide) (by decide) ?_
    show Steps p.tables e below (T5.setTop (mkF m 64 #[.val (.int p0), .val (.int p1), .val (.ref (w 5)), .val (.int (1 : Int32)), .val (.ref (w 4)), .val (.int (1 : Int32)), .unset] [(.int (1 : Int32))])) _
    refine XS.istore X5.here hx rfl (hb hby at_64) rfl (l' := #[.val (.int p0), .val (.int p1), .val (.ref (w 5)), .val (.int (1 : Int32)), .val (.ref (w 4)), .val (.int (1 : Int32)), .val (.int (1 : Int32))]) rfl ?_
    show Steps p.tables e below (T5.setTop (mkF m 66 #[.val (.int p0), .val (.int p1), .val (.ref (w 5)), .val (.int (1 : Int32)), .val (.ref (w 4)), .val (.int (1 : Int32)), .val (.int (1 : Int32))] [])) _
    refine XS.iload X5.here hx rfl (hb hby at_66) rfl ?_
    show Steps p.tables e below (T5.setTop (mkF m 68 #[.val (.int p0), .val (.int p1), .val (.ref (w 5)), .val (.int (1 : Int32)), .val (.ref (w 4)), .val (.int (1 : Int32)), .val (.int (1 : Int32))] [(.int (1 : Int32))])) _
    refine XS.ifNo X5.here hx rfl (hb hby at_68) rfl ((if0 _ _).trans (feq (by decide : ¬ ((1 : Int32) = (0 : Int32)))).1) ?_
    show Steps p.tables e below (T5.setTop (mkF m 71 #[.val (.int p0), .val (.int p1), .val (.ref (w 5)), .val (.int (1 : Int32)), .val (.ref (w 4)), .val (.int (1 : Int32)), .val (.int (1 : Int32))] [])) _
    refine XS.iload X5.here hx rfl (hb hby at_71) rfl ?_
    show Steps p.tables e below (T5.setTop (mkF m 73 #[.val (.int p0), .val (.int p1), .val (.ref (w 5)), .val (.int (1 : Int32)), .val (.ref (w 4)), .val (.int (1 : Int32)), .val (.int (1 : Int32))] [(.int (1 : Int32))])) _
    refine XS.ifNo X5.here hx rfl (hb hby at_73) rfl ((if0 _ _).trans (feq (by decide : ¬ ((1 : Int32) = (0 : Int32)))).1) ?_
    show Steps p.tables e below (T5.setTop (mkF m 76 #[.val (.int p0), .val (.int p1), .val (.ref (w 5)), .val (.int (1 : Int32)), .val (.ref (w 4)), .val (.int (1 : Int32)), .val (.int (1 : Int32))] [])) _
    refine XS.iconst X5.here hx rfl (hb hby at_76) ?_
    show Steps p.tables e below (T5.setTop (mkF m 77 #[.val (.int p0), .val (.int p1), .val (.ref (w 5)), .val (.int (1 : Int32)), .val (.ref (w 4)), .val (.int (1 : Int32)), .val (.int (1 : Int32))] [(.int (1 : Int32))])) _
    refine XS.goto X5.here hx rfl (pc0 := 77) (pc' := 81) rfl (hb hby at_77) (by decide) (by decide) ?_
    show Steps p.tables e below (T5.setTop (mkF m 81 #[.val (.int p0), .val (.int p1), .val (.ref (w 5)), .val (.int (1 : Int32)), .val (.ref (w 4)), .val (.int (1 : Int32)), .val (.int (1 : Int32))] [(.int (1 : Int32))])) _
    exact retN X5 hx (t := .boolean) Bd.returns (by simp) (hb hby at_81) hr
  · show OL (some (.int (1 : Int32))) Z.heap.size _ T5.heap _
    exact ⟨rfl, N5⟩
set_option maxRecDepth 65536 in
set_option maxHeartbeats 40000000 in
theorem rm_47 (l : Launch) (Z : State) (a0 : Array Value) (hw : ∀ d ∈ tables_1, d.before a0 Z = true) (w : Nat → Addr) (kk : Nat → ClassId) (hN : Wd Z w kk) (ws : List Jvm.Cond)  (h0 : Heap) (O0 : Old Z Z.heap.size h0) :
    MetFree l (⟨"org/cartulary/repository/Condition$Operator", "holds", "(I)Z"⟩ : MethodName) (head1 (Jvm.Cond.code (⟨"org/cartulary/repository/Condition$Operator", "holds", "(I)Z"⟩ : MethodName) prog_67_method_5_code 2 (some .boolean) :: ws) ({ frames := 1, cells := 0, slots := 0, locals := 12 } : Room)) (fun a U => a = #[(.ref (w 4)), (.int (0 : Int32))] ∧ Z.Warmed39 U.vm ∧ U.heap = h0) (fun _ _ _ _ _ => True) (fun _ U o U' => ∃ v L, o = .returned v ∧ OQ (some (.int (1 : Int32))) h0 Z.heap.size v U'.heap L ∧ FrameEnd U o U' L ({ frames := 1, cells := 0, slots := 0, locals := 12 } : Room).cells ({ frames := 1, cells := 0, slots := 0, locals := 12 } : Room).slots) := by
  have hN' := hN
  obtain ⟨hS0, hE0, hS1, hE1, hS2, hE2, hS3, hE3, hS4, hE4, hS5, hE5, hF0_ordinal, hF1_ordinal, hF2_ordinal, hF3_ordinal, hF4_ordinal, hF5_ordinal⟩ := hN'
  refine MetFree.of_bodySF (plainFor_of_name pn_2) hisR ?_
  intro p e s m args below meth c s₁ Bd hml0 hP hK
  obtain ⟨rfl, hZ, hh⟩ := hP
  have hx := Bd.exec
  have hby := Bd.bytes
  have hml : c.maxLocals = 2 := hml0
  have hown : s.vm.findClass "org/cartulary/repository/Condition$Operator" = some m.cls := findClass_of_methodNamed Bd.named
  have hnm := (name_of_methodNamed Bd.named Bd.method).1
  have X0 : Stand p l e ({ frames := 1, cells := 0, slots := 0, locals := 12 } : Room) s m #[(.ref (w 4)), (.int (0 : Int32))] below meth c s₁ [] 0 0 := Stand.of_body Bd
  have e0 : s₁.heap = h0 := by rw [← hh, Bd.state]; rfl
  have N0 := Fr.nil Z.heap.size
  have pre0 : ∀ t, Steps p.tables e below (s₁.setTop (mkF m 0 #[.val (.ref (w 4)), .val (.int (0 : Int32))] [])) t → Steps p.tables e below (s₁.setTop (entryFrame m #[(.ref (w 4)), (.int (0 : Int32))] 2)) t := fun t k => castTop (ef_2 m (.ref (w 4)) rfl (.int (0 : Int32)) rfl) k
  obtain ⟨cq1, kq1, q1a, q1b, q1c⟩ := isOf hZ e0 (hE4.ext O0.2)
  obtain ⟨_, _, ⟨T1, L1, k1, n1⟩, -, X1, ⟨Lc1, hQ1, l1, y1, z1⟩, st1⟩ := X0.virtualBackUp hx (x := (⟨"org/cartulary/repository/Condition$Operator", "ordinal", "()I"⟩ : MethodName)) (y := (⟨"java/lang/Enum", "ordinal", "()I"⟩ : MethodName)) (owner := "java/lang/Enum") hown (mvT hZ (W hw 13 rfl)) (mvT hZ (W hw 14 rfl)) (mvT hZ (W hw 15 rfl)) (by decide) (mvT hZ (W hw 17 rfl)) (mvT hZ (W hw 16 rfl)) (backOf (W := 0) (rm_39 l Z a0 hw w kk hN [] h0 O0) hZ (W hw 19 rfl) (W hw 18 rfl) (by decide) (by decide)) q1a q1c (g := (mkF m 1 #[.val (.ref (w 4)), .val (.int (0 : Int32))] [(.ref (w 4))])) rfl (by rw [hml]; rfl) (Steps.refl _) (argsL := []) (rest := []) (lenOf pd_1 rfl) rfl (by show 2 * 0 + _ ≤ _; exact Nat.le_of_eq rfl) (hb hby d_prog_67_method_5_code_1) (fun _ _ => ⟨rfl, e0, (by decide : 0 + 0 ≤ _), (by decide : 0 + 0 ≤ _)⟩)
  dsimp only [Pt.U, Pt.locs, Pt.cells, Pt.slots] at X1 l1 y1 z1 st1 hQ1
  subst l1 y1 z1
  obtain ⟨rfl, N1q, e1⟩ := hQ1
  have N1 := Fr.app N0 N1q
  obtain ⟨fs, hr, hrun, hended, hW, hsame⟩ := X1.leave (v := some (.int (1 : Int32))) (fun h => by rw [Bd.returns] at h; cases h)
  refine ⟨_, _, pre0 _ ?_, hrun, hended, _, _, rfl, ?_, ⟨_, rfl⟩, hW, hsame.mono (by decide) (by decide)⟩
  · show Steps p.tables e below (s₁.setTop (mkF m 0 #[.val (.ref (w 4)), .val (.int (0 : Int32))] [])) _
    refine XS.aloadN X0.here hx rfl (hb hby d_prog_67_method_5_code_0) rfl rfl ?_
    show Steps p.tables e below (s₁.setTop (mkF m 1 #[.val (.ref (w 4)), .val (.int (0 : Int32))] [(.ref (w 4))])) _
    refine st1.trans ?_
    show Steps p.tables e below (T1.setTop (mkF m 4 #[.val (.ref (w 4)), .val (.int (0 : Int32))] [(.int (5 : Int32))])) _
    refine XS.tswIn X1.here hx rfl (pc0 := 4) (pc' := 114) (o := 110) rfl (hb hby d_prog_67_method_5_code_4) rfl (by decide) (by decide) (by decide) (by decide) ?_
    show Steps p.tables e below (T1.setTop (mkF m 114 #[.val (.ref (w 4)), .val (.int (0 : Int32))] [])) _
    refine XS.iloadN X1.here hx rfl (hb hby d_prog_67_method_5_code_114) rfl ?_
    show Steps p.tables e below (T1.setTop (mkF m 115 #[.val (.ref (w 4)), .val (.int (0 : Int32))] [(.int (0 : Int32))])) _
    refine XS.ifNo X1.here hx rfl (hb hby d_prog_67_method_5_code_115) rfl ((if0 _ _).trans (flt (by decide : ¬ ((0 : Int32) < (0 : Int32)))).1) ?_
    show Steps p.tables e below (T1.setTop (mkF m 118 #[.val (.ref (w 4)), .val (.int (0 : Int32))] [])) _
    refine XS.iconst X1.here hx rfl (hb hby d_prog_67_method_5_code_118) ?_
    show Steps p.tables e below (T1.setTop (mkF m 119 #[.val (.ref (w 4)), .val (.int (0 : Int32))] [(.int (1 : Int32))])) _
    refine XS.goto X1.here hx rfl (pc0 := 119) (pc' := 123) rfl (hb hby d_prog_67_method_5_code_119) (by decide) (by decide) ?_
    show Steps p.tables e below (T1.setTop (mkF m 123 #[.val (.ref (w 4)), .val (.int (0 : Int32))] [(.int (1 : Int32))])) _
    exact retN X1 hx (t := .boolean) Bd.returns (by simp) (hb hby d_prog_67_method_5_code_123) hr
  · show OQ (some (.int (1 : Int32))) h0 Z.heap.size _ T1.heap _
    rw [e1]
    exact ⟨rfl, N1, rfl⟩
set_option maxRecDepth 65536 in
set_option maxHeartbeats 40000000 in
theorem law_48 (l : Launch) (Z : State) (a0 : Array Value) (hw : ∀ d ∈ tables_1, d.before a0 Z = true) (w : Nat → Addr) (kk : Nat → ClassId) (hN : Wd Z w kk) (ws : List Jvm.Cond) (p0 : Int32) (p1 : Int32) (h0 : Heap) (O0 : Old Z Z.heap.size h0) (hp0 : ((p0 &&& (2147483647 : Int32)) % (6 : Int32)) = (3 : Int32)) (hp1 : ¬ ((0 : Int32) < p1)) (hp2 : ¬ (p1 < (0 : Int32))) :
    MetFree l x (head1 (Jvm.Cond.code x code maxLocals ret :: ws) room_1) (fun a U => a = #[(.int p0), (.int p1)] ∧ Z.Warmed39 U.vm ∧ U.heap = h0) (fun _ _ _ _ _ => True) (fun _ U o U' => ∃ v L, o = .returned v ∧ OL (some (.int (1 : Int32))) Z.heap.size v U'.heap L ∧ FrameEnd U o U' L 0 0) := by
  have hN' := hN
  obtain ⟨hS0, hE0, hS1, hE1, hS2, hE2, hS3, hE3, hS4, hE4, hS5, hE5, hF0_ordinal, hF1_ordinal, hF2_ordinal, hF3_ordinal, hF4_ordinal, hF5_ordinal⟩ := hN'
  refine MetFree.of_bodySF (plainFor_of_name pn_0) hisR ?_
  intro p e s m args below meth c s₁ Bd hml0 hP hK
  obtain ⟨rfl, hZ, hh⟩ := hP
  have hx := Bd.exec
  have hby := Bd.bytes
  have hml : c.maxLocals = 7 := hml0
  have hown : s.vm.findClass "org/cartulary/repository/OperatorSwappedPinLaw" = some m.cls := findClass_of_methodNamed Bd.named
  have hnm := (name_of_methodNamed Bd.named Bd.method).1
  have X0 : Stand p l e room_1 s m #[(.int p0), (.int p1)] below meth c s₁ [] 0 0 := Stand.of_body Bd
  have e0 : s₁.heap = h0 := by rw [← hh, Bd.state]; rfl
  have N0 := Fr.nil Z.heap.size
  have pre0 : ∀ t, Steps p.tables e below (s₁.setTop (mkF m 0 #[.val (.int p0), .val (.int p1), .unset, .unset, .unset, .unset, .unset] [])) t → Steps p.tables e below (s₁.setTop (entryFrame m #[(.int p0), (.int p1)] maxLocals)) t := fun t k => castTop (ef_3 m (.int p0) rfl (.int p1) rfl) k
  obtain ⟨_, _, ⟨T1, L1, k1, n1⟩, -, X1, ⟨Lc1, hQ1, l1, y1, z1⟩, st1⟩ := Jvm.LawKit.callS X0 hx (y := (⟨"org/cartulary/repository/OperatorSwappedPinLaw", "pick", "(I)Lorg/cartulary/repository/Condition$Operator;"⟩ : MethodName)) hown (mvT hZ (W hw 0 rfl)) (mvT hZ (W hw 1 rfl)) (mvT hZ (W hw 2 rfl)) (mvT hZ (W hw 3 rfl)) (by decide) (backOf (W := 0) (rm_36 l Z a0 hw w kk hN [] p0 h0 O0 hp0) hZ (W hw 3 rfl) (W hw 2 rfl) (by decide) (by decide)) (g := (mkF m 1 #[.val (.int p0), .val (.int p1), .unset, .unset, .unset, .unset, .unset] [(.int p0)])) rfl (by rw [hml]; rfl) (argsL := [(.int p0)]) (rest := []) (lenOf pd_0 rfl) rfl (by show 2 * 0 + _ ≤ _; exact Nat.le_of_eq rfl) (hb hby at_1) (fun _ _ => ⟨rfl, e0, (by decide : 0 + 0 ≤ _), (by decide : 0 + 0 ≤ _)⟩)
  dsimp only [Pt.U, Pt.locs, Pt.cells, Pt.slots] at X1 l1 y1 z1 st1 hQ1
  subst l1 y1 z1
  obtain ⟨rfl, N1q, e1⟩ := hQ1
  have N1 := Fr.app N0 N1q
  obtain ⟨cq2, kq2, q2a, q2b, q2c⟩ := isOf hZ e1 (hE5.ext O0.2)
  obtain ⟨_, _, ⟨T2, L2, k2, n2⟩, -, X2, ⟨Lc2, hQ2, l2, y2, z2⟩, st2⟩ := X1.virtualBack hx (y := (⟨"org/cartulary/repository/Condition$Operator", "swapped", "()Lorg/cartulary/repository/Condition$Operator;"⟩ : MethodName)) (z := (⟨"org/cartulary/repository/Condition$Operator", "swapped", "()Lorg/cartulary/repository/Condition$Operator;"⟩ : MethodName)) hown (mvT hZ (W hw 8 rfl)) (mvT hZ (W hw 9 rfl)) (notFace_of_selects (args := #[]) (mvT hZ (W hw 11 rfl))) (mvT hZ (W hw 11 rfl)) (mvT hZ (W hw 10 rfl)) (by decide) (backOf (W := 0) (rm_38 l Z a0 hw w kk hN [] h0 O0) hZ (W hw 12 rfl) (W hw 6 rfl) (by decide) (by decide)) q2a q2c (g := (mkF m 24 #[.val (.int p0), .val (.int p1), .val (.ref (w 5)), .val (.int (0 : Int32)), .unset, .unset, .unset] [(.ref (w 5))])) rfl (by rw [hml]; rfl) (Steps.refl _) (argsL := []) (rest := []) (lenOf pd_2 rfl) rfl (by show 2 * 0 + _ ≤ _; exact Nat.le_of_eq rfl) (hb hby at_24) (fun _ _ => ⟨rfl, e1, (by decide : 0 + 0 ≤ _), (by decide : 0 + 0 ≤ _)⟩)
  dsimp only [Pt.U, Pt.locs, Pt.cells, Pt.slots] at X2 l2 y2 z2 st2 hQ2
  subst l2 y2 z2
  obtain ⟨rfl, N2q, e2⟩ := hQ2
  have N2 := Fr.app N1 N2q
  obtain ⟨cq3, kq3, q3a, q3b, q3c⟩ := isOf hZ e2 (hE4.ext O0.2)
  obtain ⟨_, _, ⟨T3, L3, k3, n3⟩, -, X3, ⟨Lc3, hQ3, l3, y3, z3⟩, st3⟩ := X2.virtualBack hx (y := (⟨"org/cartulary/repository/Condition$Operator", "holds", "(I)Z"⟩ : MethodName)) (z := (⟨"org/cartulary/repository/Condition$Operator", "holds", "(I)Z"⟩ : MethodName)) hown (mvT hZ (W hw 22 rfl)) (mvT hZ (W hw 23 rfl)) (notFace_of_selects (args := #[]) (mvT hZ (W hw 25 rfl))) (mvT hZ (W hw 25 rfl)) (mvT hZ (W hw 24 rfl)) (by decide) (backOf (W := 0) (rm_47 l Z a0 hw w kk hN [] h0 O0) hZ (W hw 26 rfl) (W hw 6 rfl) (by decide) (by decide)) q3a q3c (g := (mkF m 32 #[.val (.int p0), .val (.int p1), .val (.ref (w 5)), .val (.int (0 : Int32)), .val (.ref (w 4)), .unset, .unset] [(.int (0 : Int32)), (.ref (w 4))])) rfl (by rw [hml]; rfl) (Steps.refl _) (argsL := [(.int (0 : Int32))]) (rest := []) (lenOf pd_3 rfl) rfl (by show 2 * 0 + _ ≤ _; exact Nat.le_of_eq rfl) (hb hby at_32) (fun _ _ => ⟨rfl, e2, (by decide : 0 + 0 ≤ _), (by decide : 0 + 0 ≤ _)⟩)
  dsimp only [Pt.U, Pt.locs, Pt.cells, Pt.slots] at X3 l3 y3 z3 st3 hQ3
  subst l3 y3 z3
  obtain ⟨rfl, N3q, e3⟩ := hQ3
  have N3 := Fr.app N2 N3q
  obtain ⟨cq4, kq4, q4a, q4b, q4c⟩ := isOf hZ e3 (hE5.ext O0.2)
  obtain ⟨_, _, ⟨T4, L4, k4, n4⟩, -, X4, ⟨Lc4, hQ4, l4, y4, z4⟩, st4⟩ := X3.virtualBack hx (y := (⟨"org/cartulary/repository/Condition$Operator", "holds", "(I)Z"⟩ : MethodName)) (z := (⟨"org/cartulary/repository/Condition$Operator", "holds", "(I)Z"⟩ : MethodName)) hown (mvT hZ (W hw 22 rfl)) (mvT hZ (W hw 23 rfl)) (notFace_of_selects (args := #[]) (mvT hZ (W hw 25 rfl))) (mvT hZ (W hw 25 rfl)) (mvT hZ (W hw 24 rfl)) (by decide) (backOf (W := 1) (rm_45 l Z a0 hw w kk hN [] p1 h0 O0 hp1) hZ (W hw 26 rfl) (W hw 6 rfl) (by decide) (by decide)) q4a q4c (g := (mkF m 37 #[.val (.int p0), .val (.int p1), .val (.ref (w 5)), .val (.int (0 : Int32)), .val (.ref (w 4)), .unset, .unset] [(.int p1), (.ref (w 5)), (.int (1 : Int32))])) rfl (by rw [hml]; rfl) (Steps.refl _) (argsL := [(.int p1)]) (rest := [(.int (1 : Int32))]) (lenOf pd_3 rfl) rfl (by show 2 * 0 + _ ≤ _; exact Nat.le_of_eq rfl) (hb hby at_37) (fun _ _ => ⟨rfl, e3, (by decide : 0 + 0 ≤ _), (by decide : 0 + 0 ≤ _)⟩)
  dsimp only [Pt.U, Pt.locs, Pt.cells, Pt.slots] at X4 l4 y4 z4 st4 hQ4
  subst l4 y4 z4
  obtain ⟨rfl, N4q, e4⟩ := hQ4
  have N4 := Fr.app N3 N4q
  obtain ⟨cq5, kq5, q5a, q5b, q5c⟩ := isOf hZ e4 (hE4.ext O0.2)
  obtain ⟨_, _, ⟨T5, L5, k5, n5⟩, -, X5, ⟨Lc5, hQ5, l5, y5, z5⟩, st5⟩ := X4.virtualBack hx (y := (⟨"org/cartulary/repository/Condition$Operator", "swapped", "()Lorg/cartulary/repository/Condition$Operator;"⟩ : MethodName)) (z := (⟨"org/cartulary/repository/Condition$Operator", "swapped", "()Lorg/cartulary/repository/Condition$Operator;"⟩ : MethodName)) hown (mvT hZ (W hw 8 rfl)) (mvT hZ (W hw 9 rfl)) (notFace_of_selects (args := #[]) (mvT hZ (W hw 11 rfl))) (mvT hZ (W hw 11 rfl)) (mvT hZ (W hw 10 rfl)) (by decide) (backOf (W := 0) (rm_42 l Z a0 hw w kk hN [] h0 O0) hZ (W hw 12 rfl) (W hw 6 rfl) (by decide) (by decide)) q5a q5c (g := (mkF m 52 #[.val (.int p0), .val (.int p1), .val (.ref (w 5)), .val (.int (0 : Int32)), .val (.ref (w 4)), .val (.int (1 : Int32)), .unset] [(.ref (w 4))])) rfl (by rw [hml]; rfl) (Steps.refl _) (argsL := []) (rest := []) (lenOf pd_2 rfl) rfl (by show 2 * 0 + _ ≤ _; exact Nat.le_of_eq rfl) (hb hby at_52) (fun _ _ => ⟨rfl, e4, (by decide : 0 + 0 ≤ _), (by decide : 0 + 0 ≤ _)⟩)
  dsimp only [Pt.U, Pt.locs, Pt.cells, Pt.slots] at X5 l5 y5 z5 st5 hQ5
  subst l5 y5 z5
  obtain ⟨rfl, N5q, e5⟩ := hQ5
  have N5 := Fr.app N4 N5q
  obtain ⟨fs, hr, hrun, hended, hW, hsame⟩ := X5.leave (v := some (.int (1 : Int32))) (fun h => by rw [Bd.returns] at h; cases h)
  refine ⟨_, _, pre0 _ ?_, hrun, hended, _, _, rfl, ?_, ⟨_, rfl⟩, hW, hsame.mono (by decide) (by decide)⟩
  · show Steps p.tables e below (s₁.setTop (mkF m 0 #[.val (.int p0), .val (.int p1), .unset, .unset, .unset, .unset, .unset] [])) _
    refine XS.iloadN X0.here hx rfl (hb hby at_0) rfl ?_
    show Steps p.tables e below (s₁.setTop (mkF m 1 #[.val (.int p0), .val (.int p1), .unset, .unset, .unset, .unset, .unset] [(.int p0)])) _
    refine st1 _ ?_
    show Steps p.tables e below (T1.setTop (mkF m 4 #[.val (.int p0), .val (.int p1), .unset, .unset, .unset, .unset, .unset] [(.ref (w 5))])) _
    refine XS.astoreN X1.here hx rfl (hb hby at_4) rfl rfl (l' := #[.val (.int p0), .val (.int p1), .val (.ref (w 5)), .unset, .unset, .unset, .unset]) rfl ?_
    show Steps p.tables e below (T1.setTop (mkF m 5 #[.val (.int p0), .val (.int p1), .val (.ref (w 5)), .unset, .unset, .unset, .unset] [])) _
    refine XS.iloadN X1.here hx rfl (hb hby at_5) rfl ?_
    show Steps p.tables e below (T1.setTop (mkF m 6 #[.val (.int p0), .val (.int p1), .val (.ref (w 5)), .unset, .unset, .unset, .unset] [(.int p1)])) _
    refine XS.ifYes X1.here hx rfl (pc0 := 6) (pc' := 13) rfl (hb hby at_6) rfl ((if0 _ _).trans (flt hp1).2.2.2) (by decide) (by decide) ?_
    show Steps p.tables e below (T1.setTop (mkF m 13 #[.val (.int p0), .val (.int p1), .val (.ref (w 5)), .unset, .unset, .unset, .unset] [])) _
    refine XS.iloadN X1.here hx rfl (hb hby at_13) rfl ?_
    show Steps p.tables e below (T1.setTop (mkF m 14 #[.val (.int p0), .val (.int p1), .val (.ref (w 5)), .unset, .unset, .unset, .unset] [(.int p1)])) _
    refine XS.ifYes X1.here hx rfl (pc0 := 14) (pc' := 21) rfl (hb hby at_14) rfl ((if0 _ _).trans (flt hp2).2.1) (by decide) (by decide) ?_
    show Steps p.tables e below (T1.setTop (mkF m 21 #[.val (.int p0), .val (.int p1), .val (.ref (w 5)), .unset, .unset, .unset, .unset] [])) _
    refine XS.iconst X1.here hx rfl (hb hby at_21) ?_
    show Steps p.tables e below (T1.setTop (mkF m 22 #[.val (.int p0), .val (.int p1), .val (.ref (w 5)), .unset, .unset, .unset, .unset] [(.int (0 : Int32))])) _
    refine XS.istoreN X1.here hx rfl (hb hby at_22) rfl (l' := #[.val (.int p0), .val (.int p1), .val (.ref (w 5)), .val (.int (0 : Int32)), .unset, .unset, .unset]) rfl ?_
    show Steps p.tables e below (T1.setTop (mkF m 23 #[.val (.int p0), .val (.int p1), .val (.ref (w 5)), .val (.int (0 : Int32)), .unset, .unset, .unset] [])) _
    refine XS.aloadN X1.here hx rfl (hb hby at_23) rfl rfl ?_
    show Steps p.tables e below (T1.setTop (mkF m 24 #[.val (.int p0), .val (.int p1), .val (.ref (w 5)), .val (.int (0 : Int32)), .unset, .unset, .unset] [(.ref (w 5))])) _
    refine st2.trans ?_
    show Steps p.tables e below (T2.setTop (mkF m 27 #[.val (.int p0), .val (.int p1), .val (.ref (w 5)), .val (.int (0 : Int32)), .unset, .unset, .unset] [(.ref (w 4))])) _
    refine XS.astore X2.here hx rfl (hb hby at_27) rfl rfl (l' := #[.val (.int p0), .val (.int p1), .val (.ref (w 5)), .val (.int (0 : Int32)), .val (.ref (w 4)), .unset, .unset]) rfl ?_
    show Steps p.tables e below (T2.setTop (mkF m 29 #[.val (.int p0), .val (.int p1), .val (.ref (w 5)), .val (.int (0 : Int32)), .val (.ref (w 4)), .unset, .unset] [])) _
    refine XS.aload X2.here hx rfl (hb hby at_29) rfl rfl ?_
    show Steps p.tables e below (T2.setTop (mkF m 31 #[.val (.int p0), .val (.int p1), .val (.ref (w 5)), .val (.int (0 : Int32)), .val (.ref (w 4)), .unset, .unset] [(.ref (w 4))])) _
    refine XS.iloadN X2.here hx rfl (hb hby at_31) rfl ?_
    show Steps p.tables e below (T2.setTop (mkF m 32 #[.val (.int p0), .val (.int p1), .val (.ref (w 5)), .val (.int (0 : Int32)), .val (.ref (w 4)), .unset, .unset] [(.int (0 : Int32)), (.ref (w 4))])) _
    refine st3.trans ?_
    show Steps p.tables e below (T3.setTop (mkF m 35 #[.val (.int p0), .val (.int p1), .val (.ref (w 5)), .val (.int (0 : Int32)), .val (.ref (w 4)), .unset, .unset] [(.int (1 : Int32))])) _
    refine XS.aloadN X3.here hx rfl (hb hby at_35) rfl rfl ?_
    show Steps p.tables e below (T3.setTop (mkF m 36 #[.val (.int p0), .val (.int p1), .val (.ref (w 5)), .val (.int (0 : Int32)), .val (.ref (w 4)), .unset, .unset] [(.ref (w 5)), (.int (1 : Int32))])) _
    refine XS.iloadN X3.here hx rfl (hb hby at_36) rfl ?_
    show Steps p.tables e below (T3.setTop (mkF m 37 #[.val (.int p0), .val (.int p1), .val (.ref (w 5)), .val (.int (0 : Int32)), .val (.ref (w 4)), .unset, .unset] [(.int p1), (.ref (w 5)), (.int (1 : Int32))])) _
    refine st4.trans ?_
    show Steps p.tables e below (T4.setTop (mkF m 40 #[.val (.int p0), .val (.int p1), .val (.ref (w 5)), .val (.int (0 : Int32)), .val (.ref (w 4)), .unset, .unset] [(.int (1 : Int32)), (.int (1 : Int32))])) _
    refine XS.icmpNo X4.here hx rfl (hb hby at_40) rfl (teq (by decide : (1 : Int32) = (1 : Int32))).2 ?_
    show Steps p.tables e below (T4.setTop (mkF m 43 #[.val (.int p0), .val (.int p1), .val (.ref (w 5)), .val (.int (0 : Int32)), .val (.ref (w 4)), .unset, .unset] [])) _
    refine XS.iconst X4.here hx rfl (hb hby at_43) ?_
    show Steps p.tables e below (T4.setTop (mkF m 44 #[.val (.int p0), .val (.int p1), .val (.ref (w 5)), .val (.int (0 : Int32)), .val (.ref (w 4)), .unset, .unset] [(.int (1 : Int32))])) _
    refine XS.goto X4.here hx rfl (pc0 := 44) (pc' := 48) rfl (hb hby at_44) (by decide) (by decide) ?_
    show Steps p.tables e below (T4.setTop (mkF m 48 #[.val (.int p0), .val (.int p1), .val (.ref (w 5)), .val (.int (0 : Int32)), .val (.ref (w 4)), .unset, .unset] [(.int (1 : Int32))])) _
    refine XS.istore X4.here hx rfl (hb hby at_48) rfl (l' := #[.val (.int p0), .val (.int p1), .val (.ref (w 5)), .val (.int (0 : Int32)), .val (.ref (w 4)), .val (.int (1 : Int32)), .unset]) rfl ?_
    show Steps p.tables e below (T4.setTop (mkF m 50 #[.val (.int p0), .val (.int p1), .val (.ref (w 5)), .val (.int (0 : Int32)), .val (.ref (w 4)), .val (.int (1 : Int32)), .unset] [])) _
    refine XS.aload X4.here hx rfl (hb hby at_50) rfl rfl ?_
    show Steps p.tables e below (T4.setTop (mkF m 52 #[.val (.int p0), .val (.int p1), .val (.ref (w 5)), .val (.int (0 : Int32)), .val (.ref (w 4)), .val (.int (1 : Int32)), .unset] [(.ref (w 4))])) _
    refine st5.trans ?_
    show Steps p.tables e below (T5.setTop (mkF m 55 #[.val (.int p0), .val (.int p1), .val (.ref (w 5)), .val (.int (0 : Int32)), .val (.ref (w 4)), .val (.int (1 : Int32)), .unset] [(.ref (w 5))])) _
    refine XS.aloadN X5.here hx rfl (hb hby at_55) rfl rfl ?_
    show Steps p.tables e below (T5.setTop (mkF m 56 #[.val (.int p0), .val (.int p1), .val (.ref (w 5)), .val (.int (0 : Int32)), .val (.ref (w 4)), .val (.int (1 : Int32)), .unset] [(.ref (w 5)), (.ref (w 5))])) _
    refine Jvm.RoadKit.acmp (g := (mkF m 56 #[.val (.int p0), .val (.int p1), .val (.ref (w 5)), .val (.int (0 : Int32)), .val (.ref (w 4)), .val (.int (1 : Int32)), .unset] [(.ref (w 5)), (.ref (w 5))])) X5 hx rfl rfl rfl (pc0 := 56) (pc' := 59) (same := true) rfl (hb hby at_56) rfl (decide_eq_true rfl) (by decide) (by decide) ?_
    show Steps p.tables e below (T5.setTop (mkF m 59 #[.val (.int p0), .val (.int p1), .val (.ref (w 5)), .val (.int (0 : Int32)), .val (.ref (w 4)), .val (.int (1 : Int32)), .unset] [])) _
    refine XS.iconst X5.here hx rfl (hb hby at_59) ?_
    show Steps p.tables e below (T5.setTop (mkF m 60 #[.val (.int p0), .val (.int p1), .val (.ref (w 5)), .val (.int (0 : Int32)), .val (.ref (w 4)), .val (.int (1 : Int32)), .unset] [(.int (1 : Int32))])) _
    refine XS.goto X5.here hx rfl (pc0 := 60) (pc' := 64) rfl (hb hby at_60) (by decide) (by decide) ?_
    show Steps p.tables e below (T5.setTop (mkF m 64 #[.val (.int p0), .val (.int p1), .val (.ref (w 5)), .val (.int (0 : Int32)), .val (.ref (w 4)), .val (.int (1 : Int32)), .unset] [(.int (1 : Int32))])) _
    refine XS.istore X5.here hx rfl (hb hby at_64) rfl (l' := #[.val (.int p0), .val (.int p1), .val (.ref (w 5)), .val (.int (0 : Int32)), .val (.ref (w 4)), .val (.int (1 : Int32)), .val (.int (1 : Int32))]) rfl ?_
    show Steps p.tables e below (T5.setTop (mkF m 66 #[.val (.int p0), .val (.int p1), .val (.ref (w 5)), .val (.int (0 : Int32)), .val (.ref (w 4)), .val (.int (1 : Int32)), .val (.int (1 : Int32))] [])) _
    refine XS.iload X5.here hx rfl (hb hby at_66) rfl ?_
    show Steps p.tables e below (T5.setTop (mkF m 68 #[.val (.int p0), .val (.int p1), .val (.ref (w 5)), .val (.int (0 : Int32)), .val (.ref (w 4)), .val (.int (1 : Int32)), .val (.int (1 : Int32))] [(.int (1 : Int32))])) _
    refine XS.ifNo X5.here hx rfl (hb hby at_68) rfl ((if0 _ _).trans (feq (by decide : ¬ ((1 : Int32) = (0 : Int32)))).1) ?_
    show Steps p.tables e below (T5.setTop (mkF m 71 #[.val (.int p0), .val (.int p1), .val (.ref (w 5)), .val (.int (0 : Int32)), .val (.ref (w 4)), .val (.int (1 : Int32)), .val (.int (1 : Int32))] [])) _
    refine XS.iload X5.here hx rfl (hb hby at_71) rfl ?_
    show Steps p.tables e below (T5.setTop (mkF m 73 #[.val (.int p0), .val (.int p1), .val (.ref (w 5)), .val (.int (0 : Int32)), .val (.ref (w 4)), .val (.int (1 : Int32)), .val (.int (1 : Int32))] [(.int (1 : Int32))])) _
    refine XS.ifNo X5.here hx rfl (hb hby at_73) rfl ((if0 _ _).trans (feq (by decide : ¬ ((1 : Int32) = (0 : Int32)))).1) ?_
    show Steps p.tables e below (T5.setTop (mkF m 76 #[.val (.int p0), .val (.int p1), .val (.ref (w 5)), .val (.int (0 : Int32)), .val (.ref (w 4)), .val (.int (1 : Int32)), .val (.int (1 : Int32))] [])) _
    refine XS.iconst X5.here hx rfl (hb hby at_76) ?_
    show Steps p.tables e below (T5.setTop (mkF m 77 #[.val (.int p0), .val (.int p1), .val (.ref (w 5)), .val (.int (0 : Int32)), .val (.ref (w 4)), .val (.int (1 : Int32)), .val (.int (1 : Int32))] [(.int (1 : Int32))])) _
    refine XS.goto X5.here hx rfl (pc0 := 77) (pc' := 81) rfl (hb hby at_77) (by decide) (by decide) ?_
    show Steps p.tables e below (T5.setTop (mkF m 81 #[.val (.int p0), .val (.int p1), .val (.ref (w 5)), .val (.int (0 : Int32)), .val (.ref (w 4)), .val (.int (1 : Int32)), .val (.int (1 : Int32))] [(.int (1 : Int32))])) _
    exact retN X5 hx (t := .boolean) Bd.returns (by simp) (hb hby at_81) hr
  · show OL (some (.int (1 : Int32))) Z.heap.size _ T5.heap _
    exact ⟨rfl, N5⟩
theorem d_method_2_code_43 : decode method_2_code 43 = .ok (.iload_n 1, 1) := by decide +kernel
theorem d_method_2_code_44 : decode method_2_code 44 = .ok (.iconst 4, 1) := by decide +kernel
theorem d_method_2_code_45 : decode method_2_code 45 = .ok (.if_icmp .ne 7, 3) := by decide +kernel
theorem d_method_2_code_48 : decode method_2_code 48 = .ok (.getstatic 23, 3) := by decide +kernel
theorem d_method_2_code_51 : decode method_2_code 51 = .ok (.areturn, 1) := by decide +kernel
set_option maxRecDepth 65536 in
set_option maxHeartbeats 40000000 in
theorem rm_49 (l : Launch) (Z : State) (a0 : Array Value) (hw : ∀ d ∈ tables_1, d.before a0 Z = true) (w : Nat → Addr) (kk : Nat → ClassId) (hN : Wd Z w kk) (ws : List Jvm.Cond) (p0 : Int32) (h0 : Heap) (O0 : Old Z Z.heap.size h0) (hp0 : ((p0 &&& (2147483647 : Int32)) % (6 : Int32)) = (4 : Int32)) :
    MetFree l (⟨"org/cartulary/repository/OperatorSwappedPinLaw", "pick", "(I)Lorg/cartulary/repository/Condition$Operator;"⟩ : MethodName) (head1 (Jvm.Cond.code (⟨"org/cartulary/repository/OperatorSwappedPinLaw", "pick", "(I)Lorg/cartulary/repository/Condition$Operator;"⟩ : MethodName) method_2_code 2 (some (.object "org/cartulary/repository/Condition$Operator")) :: ws) ({ frames := 0, cells := 0, slots := 0, locals := 0 } : Room)) (fun a U => a = #[(.int p0)] ∧ Z.Warmed39 U.vm ∧ U.heap = h0) (fun _ _ _ _ _ => True) (fun _ U o U' => ∃ v L, o = .returned v ∧ OQ (some (.ref (w 2))) h0 Z.heap.size v U'.heap L ∧ FrameEnd U o U' L ({ frames := 0, cells := 0, slots := 0, locals := 0 } : Room).cells ({ frames := 0, cells := 0, slots := 0, locals := 0 } : Room).slots) := by
  have hN' := hN
  obtain ⟨hS0, hE0, hS1, hE1, hS2, hE2, hS3, hE3, hS4, hE4, hS5, hE5, hF0_ordinal, hF1_ordinal, hF2_ordinal, hF3_ordinal, hF4_ordinal, hF5_ordinal⟩ := hN'
  refine MetFree.of_bodySF (plainFor_of_name pn_0) hisR ?_
  intro p e s m args below meth c s₁ Bd hml0 hP hK
  obtain ⟨rfl, hZ, hh⟩ := hP
  have hx := Bd.exec
  have hby := Bd.bytes
  have hml : c.maxLocals = 2 := hml0
  have hown : s.vm.findClass "org/cartulary/repository/OperatorSwappedPinLaw" = some m.cls := findClass_of_methodNamed Bd.named
  have hnm := (name_of_methodNamed Bd.named Bd.method).1
  have X0 : Stand p l e ({ frames := 0, cells := 0, slots := 0, locals := 0 } : Room) s m #[(.int p0)] below meth c s₁ [] 0 0 := Stand.of_body Bd
  have e0 : s₁.heap = h0 := by rw [← hh, Bd.state]; rfl
  have N0 := Fr.nil Z.heap.size
  have pre0 : ∀ t, Steps p.tables e below (s₁.setTop (mkF m 0 #[.val (.int p0), .unset] [])) t → Steps p.tables e below (s₁.setTop (entryFrame m #[(.int p0)] 2)) t := fun t k => castTop (ef_0 m (.int p0) rfl) k
  obtain ⟨T1, X1, e1, st1⟩ := getS2 X0 hx hZ hown (host := "") (Or.inl (W hw 32 rfl)) Via.refl e0 (hS2.ext O0.2) (g := (mkF m 48 #[.val (.int p0), .val (.int (4 : Int32))] [])) rfl (hb hby d_method_2_code_48)
  obtain ⟨fs, hr, hrun, hended, hW, hsame⟩ := X1.leave (v := some (.ref (w 2))) (fun h => by rw [Bd.returns] at h; cases h)
  refine ⟨_, _, pre0 _ ?_, hrun, hended, _, _, rfl, ?_, ⟨_, rfl⟩, hW, hsame.mono (by decide) (by decide)⟩
  · show Steps p.tables e below (s₁.setTop (mkF m 0 #[.val (.int p0), .unset] [])) _
    refine XS.iloadN X0.here hx rfl (hb hby d_method_2_code_0) rfl ?_
    show Steps p.tables e below (s₁.setTop (mkF m 1 #[.val (.int p0), .unset] [(.int p0)])) _
    refine X0.ldcInt hx hown (mvT hZ (W hw 4 rfl)) (g := (mkF m 1 #[.val (.int p0), .unset] [(.int p0)])) rfl (hb hby d_method_2_code_1) _ ?_
    show Steps p.tables e below (s₁.setTop (mkF m 3 #[.val (.int p0), .unset] [(.int (2147483647 : Int32)), (.int p0)])) _
    refine XS.iand X0.here hx rfl (hb hby d_method_2_code_3) rfl ?_
    show Steps p.tables e below (s₁.setTop (mkF m 4 #[.val (.int p0), .unset] [(.int (p0 &&& (2147483647 : Int32)))])) _
    refine XS.bipush X0.here hx rfl (hb hby d_method_2_code_4) ?_
    show Steps p.tables e below (s₁.setTop (mkF m 6 #[.val (.int p0), .unset] [(.int (6 : Int32)), (.int (p0 &&& (2147483647 : Int32)))])) _
    refine iremM X0 hx rfl (hb hby d_method_2_code_6) rfl (by decide : ¬ ((6 : Int32) = (0 : Int32))) ?_
    show Steps p.tables e below (s₁.setTop (mkF m 7 #[.val (.int p0), .unset] [(.int ((p0 &&& (2147483647 : Int32)) % (6 : Int32)))])) _
    rw [hp0]
    show Steps p.tables e below (s₁.setTop (mkF m 7 #[.val (.int p0), .unset] [(.int (4 : Int32))])) _
    refine XS.istoreN X0.here hx rfl (hb hby d_method_2_code_7) rfl (l' := #[.val (.int p0), .val (.int (4 : Int32))]) rfl ?_
    show Steps p.tables e below (s₁.setTop (mkF m 8 #[.val (.int p0), .val (.int (4 : Int32))] [])) _
    refine XS.iloadN X0.here hx rfl (hb hby d_method_2_code_8) rfl ?_
    show Steps p.tables e below (s₁.setTop (mkF m 9 #[.val (.int p0), .val (.int (4 : Int32))] [(.int (4 : Int32))])) _
    refine XS.ifYes X0.here hx rfl (pc0 := 9) (pc' := 16) rfl (hb hby d_method_2_code_9) rfl ((if0 _ _).trans (feq (by decide : ¬ ((4 : Int32) = (0 : Int32)))).2) (by decide) (by decide) ?_
    show Steps p.tables e below (s₁.setTop (mkF m 16 #[.val (.int p0), .val (.int (4 : Int32))] [])) _
    refine XS.iloadN X0.here hx rfl (hb hby d_method_2_code_16) rfl ?_
    show Steps p.tables e below (s₁.setTop (mkF m 17 #[.val (.int p0), .val (.int (4 : Int32))] [(.int (4 : Int32))])) _
    refine XS.iconst X0.here hx rfl (hb hby d_method_2_code_17) ?_
    show Steps p.tables e below (s₁.setTop (mkF m 18 #[.val (.int p0), .val (.int (4 : Int32))] [(.int (1 : Int32)), (.int (4 : Int32))])) _
    refine XS.icmpYes X0.here hx rfl (pc0 := 18) (pc' := 25) rfl (hb hby d_method_2_code_18) rfl (feq (by decide : ¬ ((4 : Int32) = (1 : Int32)))).2 (by decide) (by decide) ?_
    show Steps p.tables e below (s₁.setTop (mkF m 25 #[.val (.int p0), .val (.int (4 : Int32))] [])) _
    refine XS.iloadN X0.here hx rfl (hb hby d_method_2_code_25) rfl ?_
    show Steps p.tables e below (s₁.setTop (mkF m 26 #[.val (.int p0), .val (.int (4 : Int32))] [(.int (4 : Int32))])) _
    refine XS.iconst X0.here hx rfl (hb hby d_method_2_code_26) ?_
    show Steps p.tables e below (s₁.setTop (mkF m 27 #[.val (.int p0), .val (.int (4 : Int32))] [(.int (2 : Int32)), (.int (4 : Int32))])) _
    refine XS.icmpYes X0.here hx rfl (pc0 := 27) (pc' := 34) rfl (hb hby d_method_2_code_27) rfl (feq (by decide : ¬ ((4 : Int32) = (2 : Int32)))).2 (by decide) (by decide) ?_
    show Steps p.tables e below (s₁.setTop (mkF m 34 #[.val (.int p0), .val (.int (4 : Int32))] [])) _
    refine XS.iloadN X0.here hx rfl (hb hby d_method_2_code_34) rfl ?_
    show Steps p.tables e below (s₁.setTop (mkF m 35 #[.val (.int p0), .val (.int (4 : Int32))] [(.int (4 : Int32))])) _
    refine XS.iconst X0.here hx rfl (hb hby d_method_2_code_35) ?_
    show Steps p.tables e below (s₁.setTop (mkF m 36 #[.val (.int p0), .val (.int (4 : Int32))] [(.int (3 : Int32)), (.int (4 : Int32))])) _
    refine XS.icmpYes X0.here hx rfl (pc0 := 36) (pc' := 43) rfl (hb hby d_method_2_code_36) rfl (feq (by decide : ¬ ((4 : Int32) = (3 : Int32)))).2 (by decide) (by decide) ?_
    show Steps p.tables e below (s₁.setTop (mkF m 43 #[.val (.int p0), .val (.int (4 : Int32))] [])) _
    refine XS.iloadN X0.here hx rfl (hb hby d_method_2_code_43) rfl ?_
    show Steps p.tables e below (s₁.setTop (mkF m 44 #[.val (.int p0), .val (.int (4 : Int32))] [(.int (4 : Int32))])) _
    refine XS.iconst X0.here hx rfl (hb hby d_method_2_code_44) ?_
    show Steps p.tables e below (s₁.setTop (mkF m 45 #[.val (.int p0), .val (.int (4 : Int32))] [(.int (4 : Int32)), (.int (4 : Int32))])) _
    refine XS.icmpNo X0.here hx rfl (hb hby d_method_2_code_45) rfl (teq (by decide : (4 : Int32) = (4 : Int32))).2 ?_
    show Steps p.tables e below (s₁.setTop (mkF m 48 #[.val (.int p0), .val (.int (4 : Int32))] [])) _
    refine st1 _ ?_
    show Steps p.tables e below (T1.setTop (mkF m 51 #[.val (.int p0), .val (.int (4 : Int32))] [(.ref (w 2))])) _
    exact retOut X1 hx Bd.returns rfl (Or.inr (Or.inr (Or.inr (Or.inr ⟨rfl, rfl, rfl⟩)))) (hb hby d_method_2_code_51) hr
  · show OQ (some (.ref (w 2))) h0 Z.heap.size _ T1.heap _
    rw [e1]
    exact ⟨rfl, N0, rfl⟩
set_option maxRecDepth 65536 in
set_option maxHeartbeats 40000000 in
theorem rm_50 (l : Launch) (Z : State) (a0 : Array Value) (hw : ∀ d ∈ tables_1, d.before a0 Z = true) (w : Nat → Addr) (kk : Nat → ClassId) (hN : Wd Z w kk) (ws : List Jvm.Cond)  (h0 : Heap) (O0 : Old Z Z.heap.size h0) :
    MetFree l (⟨"org/cartulary/repository/Condition$Operator", "holds", "(I)Z"⟩ : MethodName) (head1 (Jvm.Cond.code (⟨"org/cartulary/repository/Condition$Operator", "holds", "(I)Z"⟩ : MethodName) prog_67_method_5_code 2 (some .boolean) :: ws) ({ frames := 1, cells := 0, slots := 0, locals := 12 } : Room)) (fun a U => a = #[(.ref (w 1)), (.int (-1 : Int32))] ∧ Z.Warmed39 U.vm ∧ U.heap = h0) (fun _ _ _ _ _ => True) (fun _ U o U' => ∃ v L, o = .returned v ∧ OQ (some (.int (1 : Int32))) h0 Z.heap.size v U'.heap L ∧ FrameEnd U o U' L ({ frames := 1, cells := 0, slots := 0, locals := 12 } : Room).cells ({ frames := 1, cells := 0, slots := 0, locals := 12 } : Room).slots) := by
  have hN' := hN
  obtain ⟨hS0, hE0, hS1, hE1, hS2, hE2, hS3, hE3, hS4, hE4, hS5, hE5, hF0_ordinal, hF1_ordinal, hF2_ordinal, hF3_ordinal, hF4_ordinal, hF5_ordinal⟩ := hN'
  refine MetFree.of_bodySF (plainFor_of_name pn_2) hisR ?_
  intro p e s m args below meth c s₁ Bd hml0 hP hK
  obtain ⟨rfl, hZ, hh⟩ := hP
  have hx := Bd.exec
  have hby := Bd.bytes
  have hml : c.maxLocals = 2 := hml0
  have hown : s.vm.findClass "org/cartulary/repository/Condition$Operator" = some m.cls := findClass_of_methodNamed Bd.named
  have hnm := (name_of_methodNamed Bd.named Bd.method).1
  have X0 : Stand p l e ({ frames := 1, cells := 0, slots := 0, locals := 12 } : Room) s m #[(.ref (w 1)), (.int (-1 : Int32))] below meth c s₁ [] 0 0 := Stand.of_body Bd
  have e0 : s₁.heap = h0 := by rw [← hh, Bd.state]; rfl
  have N0 := Fr.nil Z.heap.size
  have pre0 : ∀ t, Steps p.tables e below (s₁.setTop (mkF m 0 #[.val (.ref (w 1)), .val (.int (-1 : Int32))] [])) t → Steps p.tables e below (s₁.setTop (entryFrame m #[(.ref (w 1)), (.int (-1 : Int32))] 2)) t := fun t k => castTop (ef_2 m (.ref (w 1)) rfl (.int (-1 : Int32)) rfl) k
  obtain ⟨cq1, kq1, q1a, q1b, q1c⟩ := isOf hZ e0 (hE1.ext O0.2)
  obtain ⟨_, _, ⟨T1, L1, k1, n1⟩, -, X1, ⟨Lc1, hQ1, l1, y1, z1⟩, st1⟩ := X0.virtualBackUp hx (x := (⟨"org/cartulary/repository/Condition$Operator", "ordinal", "()I"⟩ : MethodName)) (y := (⟨"java/lang/Enum", "ordinal", "()I"⟩ : MethodName)) (owner := "java/lang/Enum") hown (mvT hZ (W hw 13 rfl)) (mvT hZ (W hw 14 rfl)) (mvT hZ (W hw 15 rfl)) (by decide) (mvT hZ (W hw 17 rfl)) (mvT hZ (W hw 16 rfl)) (backOf (W := 0) (rm_24 l Z a0 hw w kk hN [] h0 O0) hZ (W hw 19 rfl) (W hw 18 rfl) (by decide) (by decide)) q1a q1c (g := (mkF m 1 #[.val (.ref (w 1)), .val (.int (-1 : Int32))] [(.ref (w 1))])) rfl (by rw [hml]; rfl) (Steps.refl _) (argsL := []) (rest := []) (lenOf pd_1 rfl) rfl (by show 2 * 0 + _ ≤ _; exact Nat.le_of_eq rfl) (hb hby d_prog_67_method_5_code_1) (fun _ _ => ⟨rfl, e0, (by decide : 0 + 0 ≤ _), (by decide : 0 + 0 ≤ _)⟩)
  dsimp only [Pt.U, Pt.locs, Pt.cells, Pt.slots] at X1 l1 y1 z1 st1 hQ1
  subst l1 y1 z1
  obtain ⟨rfl, N1q, e1⟩ := hQ1
  have N1 := Fr.app N0 N1q
  obtain ⟨fs, hr, hrun, hended, hW, hsame⟩ := X1.leave (v := some (.int (1 : Int32))) (fun h => by rw [Bd.returns] at h; cases h)
  refine ⟨_, _, pre0 _ ?_, hrun, hended, _, _, rfl, ?_, ⟨_, rfl⟩, hW, hsame.mono (by decide) (by decide)⟩
  · show Steps p.tables e below (s₁.setTop (mkF m 0 #[.val (.ref (w 1)), .val (.int (-1 : Int32))] [])) _
    refine XS.aloadN X0.here hx rfl (hb hby d_prog_67_method_5_code_0) rfl rfl ?_
    show Steps p.tables e below (s₁.setTop (mkF m 1 #[.val (.ref (w 1)), .val (.int (-1 : Int32))] [(.ref (w 1))])) _
    refine st1.trans ?_
    show Steps p.tables e below (T1.setTop (mkF m 4 #[.val (.ref (w 1)), .val (.int (-1 : Int32))] [(.int (2 : Int32))])) _
    refine XS.tswIn X1.here hx rfl (pc0 := 4) (pc' := 78) (o := 74) rfl (hb hby d_prog_67_method_5_code_4) rfl (by decide) (by decide) (by decide) (by decide) ?_
    show Steps p.tables e below (T1.setTop (mkF m 78 #[.val (.ref (w 1)), .val (.int (-1 : Int32))] [])) _
    refine XS.iloadN X1.here hx rfl (hb hby d_prog_67_method_5_code_78) rfl ?_
    show Steps p.tables e below (T1.setTop (mkF m 79 #[.val (.ref (w 1)), .val (.int (-1 : Int32))] [(.int (-1 : Int32))])) _
    refine XS.ifNo X1.here hx rfl (hb hby d_prog_67_method_5_code_79) rfl ((if0 _ _).trans (tlt (by decide : (-1 : Int32) < (0 : Int32))).2.1) ?_
    show Steps p.tables e below (T1.setTop (mkF m 82 #[.val (.ref (w 1)), .val (.int (-1 : Int32))] [])) _
    refine XS.iconst X1.here hx rfl (hb hby d_prog_67_method_5_code_82) ?_
    show Steps p.tables e below (T1.setTop (mkF m 83 #[.val (.ref (w 1)), .val (.int (-1 : Int32))] [(.int (1 : Int32))])) _
    refine XS.goto X1.here hx rfl (pc0 := 83) (pc' := 123) rfl (hb hby d_prog_67_method_5_code_83) (by decide) (by decide) ?_
    show Steps p.tables e below (T1.setTop (mkF m 123 #[.val (.ref (w 1)), .val (.int (-1 : Int32))] [(.int (1 : Int32))])) _
    exact retN X1 hx (t := .boolean) Bd.returns (by simp) (hb hby d_prog_67_method_5_code_123) hr
  · show OQ (some (.int (1 : Int32))) h0 Z.heap.size _ T1.heap _
    rw [e1]
    exact ⟨rfl, N1, rfl⟩
set_option maxRecDepth 65536 in
set_option maxHeartbeats 40000000 in
theorem rm_51 (l : Launch) (Z : State) (a0 : Array Value) (hw : ∀ d ∈ tables_1, d.before a0 Z = true) (w : Nat → Addr) (kk : Nat → ClassId) (hN : Wd Z w kk) (ws : List Jvm.Cond) (p1 : Int32) (h0 : Heap) (O0 : Old Z Z.heap.size h0) (hp0 : (0 : Int32) < p1) :
    MetFree l (⟨"org/cartulary/repository/Condition$Operator", "holds", "(I)Z"⟩ : MethodName) (head1 (Jvm.Cond.code (⟨"org/cartulary/repository/Condition$Operator", "holds", "(I)Z"⟩ : MethodName) prog_67_method_5_code 2 (some .boolean) :: ws) ({ frames := 1, cells := 0, slots := 0, locals := 12 } : Room)) (fun a U => a = #[(.ref (w 2)), (.int p1)] ∧ Z.Warmed39 U.vm ∧ U.heap = h0) (fun _ _ _ _ _ => True) (fun _ U o U' => ∃ v L, o = .returned v ∧ OQ (some (.int (1 : Int32))) h0 Z.heap.size v U'.heap L ∧ FrameEnd U o U' L ({ frames := 1, cells := 0, slots := 0, locals := 12 } : Room).cells ({ frames := 1, cells := 0, slots := 0, locals := 12 } : Room).slots) := by
  have hN' := hN
  obtain ⟨hS0, hE0, hS1, hE1, hS2, hE2, hS3, hE3, hS4, hE4, hS5, hE5, hF0_ordinal, hF1_ordinal, hF2_ordinal, hF3_ordinal, hF4_ordinal, hF5_ordinal⟩ := hN'
  refine MetFree.of_bodySF (plainFor_of_name pn_2) hisR ?_
  intro p e s m args below meth c s₁ Bd hml0 hP hK
  obtain ⟨rfl, hZ, hh⟩ := hP
  have hx := Bd.exec
  have hby := Bd.bytes
  have hml : c.maxLocals = 2 := hml0
  have hown : s.vm.findClass "org/cartulary/repository/Condition$Operator" = some m.cls := findClass_of_methodNamed Bd.named
  have hnm := (name_of_methodNamed Bd.named Bd.method).1
  have X0 : Stand p l e ({ frames := 1, cells := 0, slots := 0, locals := 12 } : Room) s m #[(.ref (w 2)), (.int p1)] below meth c s₁ [] 0 0 := Stand.of_body Bd
  have e0 : s₁.heap = h0 := by rw [← hh, Bd.state]; rfl
  have N0 := Fr.nil Z.heap.size
  have pre0 : ∀ t, Steps p.tables e below (s₁.setTop (mkF m 0 #[.val (.ref (w 2)), .val (.int p1)] [])) t → Steps p.tables e below (s₁.setTop (entryFrame m #[(.ref (w 2)), (.int p1)] 2)) t := fun t k => castTop (ef_2 m (.ref (w 2)) rfl (.int p1) rfl) k
  obtain ⟨cq1, kq1, q1a, q1b, q1c⟩ := isOf hZ e0 (hE2.ext O0.2)
  obtain ⟨_, _, ⟨T1, L1, k1, n1⟩, -, X1, ⟨Lc1, hQ1, l1, y1, z1⟩, st1⟩ := X0.virtualBackUp hx (x := (⟨"org/cartulary/repository/Condition$Operator", "ordinal", "()I"⟩ : MethodName)) (y := (⟨"java/lang/Enum", "ordinal", "()I"⟩ : MethodName)) (owner := "java/lang/Enum") hown (mvT hZ (W hw 13 rfl)) (mvT hZ (W hw 14 rfl)) (mvT hZ (W hw 15 rfl)) (by decide) (mvT hZ (W hw 17 rfl)) (mvT hZ (W hw 16 rfl)) (backOf (W := 0) (rm_26 l Z a0 hw w kk hN [] h0 O0) hZ (W hw 19 rfl) (W hw 18 rfl) (by decide) (by decide)) q1a q1c (g := (mkF m 1 #[.val (.ref (w 2)), .val (.int p1)] [(.ref (w 2))])) rfl (by rw [hml]; rfl) (Steps.refl _) (argsL := []) (rest := []) (lenOf pd_1 rfl) rfl (by show 2 * 0 + _ ≤ _; exact Nat.le_of_eq rfl) (hb hby d_prog_67_method_5_code_1) (fun _ _ => ⟨rfl, e0, (by decide : 0 + 0 ≤ _), (by decide : 0 + 0 ≤ _)⟩)
  dsimp only [Pt.U, Pt.locs, Pt.cells, Pt.slots] at X1 l1 y1 z1 st1 hQ1
  subst l1 y1 z1
  obtain ⟨rfl, N1q, e1⟩ := hQ1
  have N1 := Fr.app N0 N1q
  obtain ⟨fs, hr, hrun, hended, hW, hsame⟩ := X1.leave (v := some (.int (1 : Int32))) (fun h => by rw [Bd.returns] at h; cases h)
  refine ⟨_, _, pre0 _ ?_, hrun, hended, _, _, rfl, ?_, ⟨_, rfl⟩, hW, hsame.mono (by decide) (by decide)⟩
  · show Steps p.tables e below (s₁.setTop (mkF m 0 #[.val (.ref (w 2)), .val (.int p1)] [])) _
    refine XS.aloadN X0.here hx rfl (hb hby d_prog_67_method_5_code_0) rfl rfl ?_
    show Steps p.tables e below (s₁.setTop (mkF m 1 #[.val (.ref (w 2)), .val (.int p1)] [(.ref (w 2))])) _
    refine st1.trans ?_
    show Steps p.tables e below (T1.setTop (mkF m 4 #[.val (.ref (w 2)), .val (.int p1)] [(.int (4 : Int32))])) _
    refine XS.tswIn X1.here hx rfl (pc0 := 4) (pc' := 102) (o := 98) rfl (hb hby d_prog_67_method_5_code_4) rfl (by decide) (by decide) (by decide) (by decide) ?_
    show Steps p.tables e below (T1.setTop (mkF m 102 #[.val (.ref (w 2)), .val (.int p1)] [])) _
    refine XS.iloadN X1.here hx rfl (hb hby d_prog_67_method_5_code_102) rfl ?_
    show Steps p.tables e below (T1.setTop (mkF m 103 #[.val (.ref (w 2)), .val (.int p1)] [(.int p1)])) _
    refine XS.ifNo X1.here hx rfl (hb hby d_prog_67_method_5_code_103) rfl ((if0 _ _).trans (tlt hp0).2.2.2) ?_
    show Steps p.tables e below (T1.setTop (mkF m 106 #[.val (.ref (w 2)), .val (.int p1)] [])) _
    refine XS.iconst X1.here hx rfl (hb hby d_prog_67_method_5_code_106) ?_
    show Steps p.tables e below (T1.setTop (mkF m 107 #[.val (.ref (w 2)), .val (.int p1)] [(.int (1 : Int32))])) _
    refine XS.goto X1.here hx rfl (pc0 := 107) (pc' := 123) rfl (hb hby d_prog_67_method_5_code_107) (by decide) (by decide) ?_
    show Steps p.tables e below (T1.setTop (mkF m 123 #[.val (.ref (w 2)), .val (.int p1)] [(.int (1 : Int32))])) _
    exact retN X1 hx (t := .boolean) Bd.returns (by simp) (hb hby d_prog_67_method_5_code_123) hr
  · show OQ (some (.int (1 : Int32))) h0 Z.heap.size _ T1.heap _
    rw [e1]
    exact ⟨rfl, N1, rfl⟩
set_option maxRecDepth 65536 in
set_option maxHeartbeats 40000000 in
theorem law_52 (l : Launch) (Z : State) (a0 : Array Value) (hw : ∀ d ∈ tables_1, d.before a0 Z = true) (w : Nat → Addr) (kk : Nat → ClassId) (hN : Wd Z w kk) (ws : List Jvm.Cond) (p0 : Int32) (p1 : Int32) (h0 : Heap) (O0 : Old Z Z.heap.size h0) (hp0 : ((p0 &&& (2147483647 : Int32)) % (6 : Int32)) = (4 : Int32)) (hp1 : (0 : Int32) < p1) :
    MetFree l x (head1 (Jvm.Cond.code x code maxLocals ret :: ws) room_1) (fun a U => a = #[(.int p0), (.int p1)] ∧ Z.Warmed39 U.vm ∧ U.heap = h0) (fun _ _ _ _ _ => True) (fun _ U o U' => ∃ v L, o = .returned v ∧ OL (some (.int (1 : Int32))) Z.heap.size v U'.heap L ∧ FrameEnd U o U' L 0 0) := by
  have hN' := hN
  obtain ⟨hS0, hE0, hS1, hE1, hS2, hE2, hS3, hE3, hS4, hE4, hS5, hE5, hF0_ordinal, hF1_ordinal, hF2_ordinal, hF3_ordinal, hF4_ordinal, hF5_ordinal⟩ := hN'
  refine MetFree.of_bodySF (plainFor_of_name pn_0) hisR ?_
  intro p e s m args below meth c s₁ Bd hml0 hP hK
  obtain ⟨rfl, hZ, hh⟩ := hP
  have hx := Bd.exec
  have hby := Bd.bytes
  have hml : c.maxLocals = 7 := hml0
  have hown : s.vm.findClass "org/cartulary/repository/OperatorSwappedPinLaw" = some m.cls := findClass_of_methodNamed Bd.named
  have hnm := (name_of_methodNamed Bd.named Bd.method).1
  have X0 : Stand p l e room_1 s m #[(.int p0), (.int p1)] below meth c s₁ [] 0 0 := Stand.of_body Bd
  have e0 : s₁.heap = h0 := by rw [← hh, Bd.state]; rfl
  have N0 := Fr.nil Z.heap.size
  have pre0 : ∀ t, Steps p.tables e below (s₁.setTop (mkF m 0 #[.val (.int p0), .val (.int p1), .unset, .unset, .unset, .unset, .unset] [])) t → Steps p.tables e below (s₁.setTop (entryFrame m #[(.int p0), (.int p1)] maxLocals)) t := fun t k => castTop (ef_3 m (.int p0) rfl (.int p1) rfl) k
  obtain ⟨_, _, ⟨T1, L1, k1, n1⟩, -, X1, ⟨Lc1, hQ1, l1, y1, z1⟩, st1⟩ := Jvm.LawKit.callS X0 hx (y := (⟨"org/cartulary/repository/OperatorSwappedPinLaw", "pick", "(I)Lorg/cartulary/repository/Condition$Operator;"⟩ : MethodName)) hown (mvT hZ (W hw 0 rfl)) (mvT hZ (W hw 1 rfl)) (mvT hZ (W hw 2 rfl)) (mvT hZ (W hw 3 rfl)) (by decide) (backOf (W := 0) (rm_49 l Z a0 hw w kk hN [] p0 h0 O0 hp0) hZ (W hw 3 rfl) (W hw 2 rfl) (by decide) (by decide)) (g := (mkF m 1 #[.val (.int p0), .val (.int p1), .unset, .unset, .unset, .unset, .unset] [(.int p0)])) rfl (by rw [hml]; rfl) (argsL := [(.int p0)]) (rest := []) (lenOf pd_0 rfl) rfl (by show 2 * 0 + _ ≤ _; exact Nat.le_of_eq rfl) (hb hby at_1) (fun _ _ => ⟨rfl, e0, (by decide : 0 + 0 ≤ _), (by decide : 0 + 0 ≤ _)⟩)
  dsimp only [Pt.U, Pt.locs, Pt.cells, Pt.slots] at X1 l1 y1 z1 st1 hQ1
  subst l1 y1 z1
  obtain ⟨rfl, N1q, e1⟩ := hQ1
  have N1 := Fr.app N0 N1q
  obtain ⟨cq2, kq2, q2a, q2b, q2c⟩ := isOf hZ e1 (hE2.ext O0.2)
  obtain ⟨_, _, ⟨T2, L2, k2, n2⟩, -, X2, ⟨Lc2, hQ2, l2, y2, z2⟩, st2⟩ := X1.virtualBack hx (y := (⟨"org/cartulary/repository/Condition$Operator", "swapped", "()Lorg/cartulary/repository/Condition$Operator;"⟩ : MethodName)) (z := (⟨"org/cartulary/repository/Condition$Operator", "swapped", "()Lorg/cartulary/repository/Condition$Operator;"⟩ : MethodName)) hown (mvT hZ (W hw 8 rfl)) (mvT hZ (W hw 9 rfl)) (notFace_of_selects (args := #[]) (mvT hZ (W hw 11 rfl))) (mvT hZ (W hw 11 rfl)) (mvT hZ (W hw 10 rfl)) (by decide) (backOf (W := 0) (rm_29 l Z a0 hw w kk hN [] h0 O0) hZ (W hw 12 rfl) (W hw 6 rfl) (by decide) (by decide)) q2a q2c (g := (mkF m 24 #[.val (.int p0), .val (.int p1), .val (.ref (w 2)), .val (.int (-1 : Int32)), .unset, .unset, .unset] [(.ref (w 2))])) rfl (by rw [hml]; rfl) (Steps.refl _) (argsL := []) (rest := []) (lenOf pd_2 rfl) rfl (by show 2 * 0 + _ ≤ _; exact Nat.le_of_eq rfl) (hb hby at_24) (fun _ _ => ⟨rfl, e1, (by decide : 0 + 0 ≤ _), (by decide : 0 + 0 ≤ _)⟩)
  dsimp only [Pt.U, Pt.locs, Pt.cells, Pt.slots] at X2 l2 y2 z2 st2 hQ2
  subst l2 y2 z2
  obtain ⟨rfl, N2q, e2⟩ := hQ2
  have N2 := Fr.app N1 N2q
  obtain ⟨cq3, kq3, q3a, q3b, q3c⟩ := isOf hZ e2 (hE1.ext O0.2)
  obtain ⟨_, _, ⟨T3, L3, k3, n3⟩, -, X3, ⟨Lc3, hQ3, l3, y3, z3⟩, st3⟩ := X2.virtualBack hx (y := (⟨"org/cartulary/repository/Condition$Operator", "holds", "(I)Z"⟩ : MethodName)) (z := (⟨"org/cartulary/repository/Condition$Operator", "holds", "(I)Z"⟩ : MethodName)) hown (mvT hZ (W hw 22 rfl)) (mvT hZ (W hw 23 rfl)) (notFace_of_selects (args := #[]) (mvT hZ (W hw 25 rfl))) (mvT hZ (W hw 25 rfl)) (mvT hZ (W hw 24 rfl)) (by decide) (backOf (W := 0) (rm_50 l Z a0 hw w kk hN [] h0 O0) hZ (W hw 26 rfl) (W hw 6 rfl) (by decide) (by decide)) q3a q3c (g := (mkF m 32 #[.val (.int p0), .val (.int p1), .val (.ref (w 2)), .val (.int (-1 : Int32)), .val (.ref (w 1)), .unset, .unset] [(.int (-1 : Int32)), (.ref (w 1))])) rfl (by rw [hml]; rfl) (Steps.refl _) (argsL := [(.int (-1 : Int32))]) (rest := []) (lenOf pd_3 rfl) rfl (by show 2 * 0 + _ ≤ _; exact Nat.le_of_eq rfl) (hb hby at_32) (fun _ _ => ⟨rfl, e2, (by decide : 0 + 0 ≤ _), (by decide : 0 + 0 ≤ _)⟩)
  dsimp only [Pt.U, Pt.locs, Pt.cells, Pt.slots] at X3 l3 y3 z3 st3 hQ3
  subst l3 y3 z3
  obtain ⟨rfl, N3q, e3⟩ := hQ3
  have N3 := Fr.app N2 N3q
  obtain ⟨cq4, kq4, q4a, q4b, q4c⟩ := isOf hZ e3 (hE2.ext O0.2)
  obtain ⟨_, _, ⟨T4, L4, k4, n4⟩, -, X4, ⟨Lc4, hQ4, l4, y4, z4⟩, st4⟩ := X3.virtualBack hx (y := (⟨"org/cartulary/repository/Condition$Operator", "holds", "(I)Z"⟩ : MethodName)) (z := (⟨"org/cartulary/repository/Condition$Operator", "holds", "(I)Z"⟩ : MethodName)) hown (mvT hZ (W hw 22 rfl)) (mvT hZ (W hw 23 rfl)) (notFace_of_selects (args := #[]) (mvT hZ (W hw 25 rfl))) (mvT hZ (W hw 25 rfl)) (mvT hZ (W hw 24 rfl)) (by decide) (backOf (W := 1) (rm_51 l Z a0 hw w kk hN [] p1 h0 O0 hp1) hZ (W hw 26 rfl) (W hw 6 rfl) (by decide) (by decide)) q4a q4c (g := (mkF m 37 #[.val (.int p0), .val (.int p1), .val (.ref (w 2)), .val (.int (-1 : Int32)), .val (.ref (w 1)), .unset, .unset] [(.int p1), (.ref (w 2)), (.int (1 : Int32))])) rfl (by rw [hml]; rfl) (Steps.refl _) (argsL := [(.int p1)]) (rest := [(.int (1 : Int32))]) (lenOf pd_3 rfl) rfl (by show 2 * 0 + _ ≤ _; exact Nat.le_of_eq rfl) (hb hby at_37) (fun _ _ => ⟨rfl, e3, (by decide : 0 + 0 ≤ _), (by decide : 0 + 0 ≤ _)⟩)
  dsimp only [Pt.U, Pt.locs, Pt.cells, Pt.slots] at X4 l4 y4 z4 st4 hQ4
  subst l4 y4 z4
  obtain ⟨rfl, N4q, e4⟩ := hQ4
  have N4 := Fr.app N3 N4q
  obtain ⟨cq5, kq5, q5a, q5b, q5c⟩ := isOf hZ e4 (hE1.ext O0.2)
  obtain ⟨_, _, ⟨T5, L5, k5, n5⟩, -, X5, ⟨Lc5, hQ5, l5, y5, z5⟩, st5⟩ := X4.virtualBack hx (y := (⟨"org/cartulary/repository/Condition$Operator", "swapped", "()Lorg/cartulary/repository/Condition$Operator;"⟩ : MethodName)) (z := (⟨"org/cartulary/repository/Condition$Operator", "swapped", "()Lorg/cartulary/repository/Condition$Operator;"⟩ : MethodName)) hown (mvT hZ (W hw 8 rfl)) (mvT hZ (W hw 9 rfl)) (notFace_of_selects (args := #[]) (mvT hZ (W hw 11 rfl))) (mvT hZ (W hw 11 rfl)) (mvT hZ (W hw 10 rfl)) (by decide) (backOf (W := 0) (rm_25 l Z a0 hw w kk hN [] h0 O0) hZ (W hw 12 rfl) (W hw 6 rfl) (by decide) (by decide)) q5a q5c (g := (mkF m 52 #[.val (.int p0), .val (.int p1), .val (.ref (w 2)), .val (.int (-1 : Int32)), .val (.ref (w 1)), .val (.int (1 : Int32)), .unset] [(.ref (w 1))])) rfl (by rw [hml]; rfl) (Steps.refl _) (argsL := []) (rest := []) (lenOf pd_2 rfl) rfl (by show 2 * 0 + _ ≤ _; exact Nat.le_of_eq rfl) (hb hby at_52) (fun _ _ => ⟨rfl, e4, (by decide : 0 + 0 ≤ _), (by decide : 0 + 0 ≤ _)⟩)
  dsimp only [Pt.U, Pt.locs, Pt.cells, Pt.slots] at X5 l5 y5 z5 st5 hQ5
  subst l5 y5 z5
  obtain ⟨rfl, N5q, e5⟩ := hQ5
  have N5 := Fr.app N4 N5q
  obtain ⟨fs, hr, hrun, hended, hW, hsame⟩ := X5.leave (v := some (.int (1 : Int32))) (fun h => by rw [Bd.returns] at h; cases h)
  refine ⟨_, _, pre0 _ ?_, hrun, hended, _, _, rfl, ?_, ⟨_, rfl⟩, hW, hsame.mono (by decide) (by decide)⟩
  · show Steps p.tables e below (s₁.setTop (mkF m 0 #[.val (.int p0), .val (.int p1), .unset, .unset, .unset, .unset, .unset] [])) _
    refine XS.iloadN X0.here hx rfl (hb hby at_0) rfl ?_
    show Steps p.tables e below (s₁.setTop (mkF m 1 #[.val (.int p0), .val (.int p1), .unset, .unset, .unset, .unset, .unset] [(.int p0)])) _
    refine st1 _ ?_
    show Steps p.tables e below (T1.setTop (mkF m 4 #[.val (.int p0), .val (.int p1), .unset, .unset, .unset, .unset, .unset] [(.ref (w 2))])) _
    refine XS.astoreN X1.here hx rfl (hb hby at_4) rfl rfl (l' := #[.val (.int p0), .val (.int p1), .val (.ref (w 2)), .unset, .unset, .unset, .unset]) rfl ?_
    show Steps p.tables e below (T1.setTop (mkF m 5 #[.val (.int p0), .val (.int p1), .val (.ref (w 2)), .unset, .unset, .unset, .unset] [])) _
    refine XS.iloadN X1.here hx rfl (hb hby at_5) rfl ?_
    show Steps p.tables e below (T1.setTop (mkF m 6 #[.val (.int p0), .val (.int p1), .val (.ref (w 2)), .unset, .unset, .unset, .unset] [(.int p1)])) _
    refine XS.ifNo X1.here hx rfl (hb hby at_6) rfl ((if0 _ _).trans (tlt hp1).2.2.2) ?_
    show Steps p.tables e below (T1.setTop (mkF m 9 #[.val (.int p0), .val (.int p1), .val (.ref (w 2)), .unset, .unset, .unset, .unset] [])) _
    refine XS.iconst X1.here hx rfl (hb hby at_9) ?_
    show Steps p.tables e below (T1.setTop (mkF m 10 #[.val (.int p0), .val (.int p1), .val (.ref (w 2)), .unset, .unset, .unset, .unset] [(.int (-1 : Int32))])) _
    refine XS.goto X1.here hx rfl (pc0 := 10) (pc' := 22) rfl (hb hby at_10) (by decide) (by decide) ?_
    show Steps p.tables e below (T1.setTop (mkF m 22 #[.val (.int p0), .val (.int p1), .val (.ref (w 2)), .unset, .unset, .unset, .unset] [(.int (-1 : Int32))])) _
    refine XS.istoreN X1.here hx rfl (hb hby at_22) rfl (l' := #[.val (.int p0), .val (.int p1), .val (.ref (w 2)), .val (.int (-1 : Int32)), .unset, .unset, .unset]) rfl ?_
    show Steps p.tables e below (T1.setTop (mkF m 23 #[.val (.int p0), .val (.int p1), .val (.ref (w 2)), .val (.int (-1 : Int32)), .unset, .unset, .unset] [])) _
    refine XS.aloadN X1.here hx rfl (hb hby at_23) rfl rfl ?_
    show Steps p.tables e below (T1.setTop (mkF m 24 #[.val (.int p0), .val (.int p1), .val (.ref (w 2)), .val (.int (-1 : Int32)), .unset, .unset, .unset] [(.ref (w 2))])) _
    refine st2.trans ?_
    show Steps p.tables e below (T2.setTop (mkF m 27 #[.val (.int p0), .val (.int p1), .val (.ref (w 2)), .val (.int (-1 : Int32)), .unset, .unset, .unset] [(.ref (w 1))])) _
    refine XS.astore X2.here hx rfl (hb hby at_27) rfl rfl (l' := #[.val (.int p0), .val (.int p1), .val (.ref (w 2)), .val (.int (-1 : Int32)), .val (.ref (w 1)), .unset, .unset]) rfl ?_
    show Steps p.tables e below (T2.setTop (mkF m 29 #[.val (.int p0), .val (.int p1), .val (.ref (w 2)), .val (.int (-1 : Int32)), .val (.ref (w 1)), .unset, .unset] [])) _
    refine XS.aload X2.here hx rfl (hb hby at_29) rfl rfl ?_
    show Steps p.tables e below (T2.setTop (mkF m 31 #[.val (.int p0), .val (.int p1), .val (.ref (w 2)), .val (.int (-1 : Int32)), .val (.ref (w 1)), .unset, .unset] [(.ref (w 1))])) _
    refine XS.iloadN X2.here hx rfl (hb hby at_31) rfl ?_
    show Steps p.tables e below (T2.setTop (mkF m 32 #[.val (.int p0), .val (.int p1), .val (.ref (w 2)), .val (.int (-1 : Int32)), .val (.ref (w 1)), .unset, .unset] [(.int (-1 : Int32)), (.ref (w 1))])) _
    refine st3.trans ?_
    show Steps p.tables e below (T3.setTop (mkF m 35 #[.val (.int p0), .val (.int p1), .val (.ref (w 2)), .val (.int (-1 : Int32)), .val (.ref (w 1)), .unset, .unset] [(.int (1 : Int32))])) _
    refine XS.aloadN X3.here hx rfl (hb hby at_35) rfl rfl ?_
    show Steps p.tables e below (T3.setTop (mkF m 36 #[.val (.int p0), .val (.int p1), .val (.ref (w 2)), .val (.int (-1 : Int32)), .val (.ref (w 1)), .unset, .unset] [(.ref (w 2)), (.int (1 : Int32))])) _
    refine XS.iloadN X3.here hx rfl (hb hby at_36) rfl ?_
    show Steps p.tables e below (T3.setTop (mkF m 37 #[.val (.int p0), .val (.int p1), .val (.ref (w 2)), .val (.int (-1 : Int32)), .val (.ref (w 1)), .unset, .unset] [(.int p1), (.ref (w 2)), (.int (1 : Int32))])) _
    refine st4.trans ?_
    show Steps p.tables e below (T4.setTop (mkF m 40 #[.val (.int p0), .val (.int p1), .val (.ref (w 2)), .val (.int (-1 : Int32)), .val (.ref (w 1)), .unset, .unset] [(.int (1 : Int32)), (.int (1 : Int32))])) _
    refine XS.icmpNo X4.here hx rfl (hb hby at_40) rfl (teq (by decide : (1 : Int32) = (1 : Int32))).2 ?_
    show Steps p.tables e below (T4.setTop (mkF m 43 #[.val (.int p0), .val (.int p1), .val (.ref (w 2)), .val (.int (-1 : Int32)), .val (.ref (w 1)), .unset, .unset] [])) _
    refine XS.iconst X4.here hx rfl (hb hby at_43) ?_
    show Steps p.tables e below (T4.setTop (mkF m 44 #[.val (.int p0), .val (.int p1), .val (.ref (w 2)), .val (.int (-1 : Int32)), .val (.ref (w 1)), .unset, .unset] [(.int (1 : Int32))])) _
    refine XS.goto X4.here hx rfl (pc0 := 44) (pc' := 48) rfl (hb hby at_44) (by decide) (by decide) ?_
    show Steps p.tables e below (T4.setTop (mkF m 48 #[.val (.int p0), .val (.int p1), .val (.ref (w 2)), .val (.int (-1 : Int32)), .val (.ref (w 1)), .unset, .unset] [(.int (1 : Int32))])) _
    refine XS.istore X4.here hx rfl (hb hby at_48) rfl (l' := #[.val (.int p0), .val (.int p1), .val (.ref (w 2)), .val (.int (-1 : Int32)), .val (.ref (w 1)), .val (.int (1 : Int32)), .unset]) rfl ?_
    show Steps p.tables e below (T4.setTop (mkF m 50 #[.val (.int p0), .val (.int p1), .val (.ref (w 2)), .val (.int (-1 : Int32)), .val (.ref (w 1)), .val (.int (1 : Int32)), .unset] [])) _
    refine XS.aload X4.here hx rfl (hb hby at_50) rfl rfl ?_
    show Steps p.tables e below (T4.setTop (mkF m 52 #[.val (.int p0), .val (.int p1), .val (.ref (w 2)), .val (.int (-1 : Int32)), .val (.ref (w 1)), .val (.int (1 : Int32)), .unset] [(.ref (w 1))])) _
    refine st5.trans ?_
    show Steps p.tables e below (T5.setTop (mkF m 55 #[.val (.int p0), .val (.int p1), .val (.ref (w 2)), .val (.int (-1 : Int32)), .val (.ref (w 1)), .val (.int (1 : Int32)), .unset] [(.ref (w 2))])) _
    refine XS.aloadN X5.here hx rfl (hb hby at_55) rfl rfl ?_
    show Steps p.tables e below (T5.setTop (mkF m 56 #[.val (.int p0), .val (.int p1), .val (.ref (w 2)), .val (.int (-1 : Int32)), .val (.ref (w 1)), .val (.int (1 : Int32)), .unset] [(.ref (w 2)), (.ref (w 2))])) _
    refine Jvm.RoadKit.acmp (g := (mkF m 56 #[.val (.int p0), .val (.int p1), .val (.ref (w 2)), .val (.int (-1 : Int32)), .val (.ref (w 1)), .val (.int (1 : Int32)), .unset] [(.ref (w 2)), (.ref (w 2))])) X5 hx rfl rfl rfl (pc0 := 56) (pc' := 59) (same := true) rfl (hb hby at_56) rfl (decide_eq_true rfl) (by decide) (by decide) ?_
    show Steps p.tables e below (T5.setTop (mkF m 59 #[.val (.int p0), .val (.int p1), .val (.ref (w 2)), .val (.int (-1 : Int32)), .val (.ref (w 1)), .val (.int (1 : Int32)), .unset] [])) _
    refine XS.iconst X5.here hx rfl (hb hby at_59) ?_
    show Steps p.tables e below (T5.setTop (mkF m 60 #[.val (.int p0), .val (.int p1), .val (.ref (w 2)), .val (.int (-1 : Int32)), .val (.ref (w 1)), .val (.int (1 : Int32)), .unset] [(.int (1 : Int32))])) _
    refine XS.goto X5.here hx rfl (pc0 := 60) (pc' := 64) rfl (hb hby at_60) (by decide) (by decide) ?_
    show Steps p.tables e below (T5.setTop (mkF m 64 #[.val (.int p0), .val (.int p1), .val (.ref (w 2)), .val (.int (-1 : Int32)), .val (.ref (w 1)), .val (.int (1 : Int32)), .unset] [(.int (1 : Int32))])) _
    refine XS.istore X5.here hx rfl (hb hby at_64) rfl (l' := #[.val (.int p0), .val (.int p1), .val (.ref (w 2)), .val (.int (-1 : Int32)), .val (.ref (w 1)), .val (.int (1 : Int32)), .val (.int (1 : Int32))]) rfl ?_
    show Steps p.tables e below (T5.setTop (mkF m 66 #[.val (.int p0), .val (.int p1), .val (.ref (w 2)), .val (.int (-1 : Int32)), .val (.ref (w 1)), .val (.int (1 : Int32)), .val (.int (1 : Int32))] [])) _
    refine XS.iload X5.here hx rfl (hb hby at_66) rfl ?_
    show Steps p.tables e below (T5.setTop (mkF m 68 #[.val (.int p0), .val (.int p1), .val (.ref (w 2)), .val (.int (-1 : Int32)), .val (.ref (w 1)), .val (.int (1 : Int32)), .val (.int (1 : Int32))] [(.int (1 : Int32))])) _
    refine XS.ifNo X5.here hx rfl (hb hby at_68) rfl ((if0 _ _).trans (feq (by decide : ¬ ((1 : Int32) = (0 : Int32)))).1) ?_
    show Steps p.tables e below (T5.setTop (mkF m 71 #[.val (.int p0), .val (.int p1), .val (.ref (w 2)), .val (.int (-1 : Int32)), .val (.ref (w 1)), .val (.int (1 : Int32)), .val (.int (1 : Int32))] [])) _
    refine XS.iload X5.here hx rfl (hb hby at_71) rfl ?_
    show Steps p.tables e below (T5.setTop (mkF m 73 #[.val (.int p0), .val (.int p1), .val (.ref (w 2)), .val (.int (-1 : Int32)), .val (.ref (w 1)), .val (.int (1 : Int32)), .val (.int (1 : Int32))] [(.int (1 : Int32))])) _
    refine XS.ifNo X5.here hx rfl (hb hby at_73) rfl ((if0 _ _).trans (feq (by decide : ¬ ((1 : Int32) = (0 : Int32)))).1) ?_
    show Steps p.tables e below (T5.setTop (mkF m 76 #[.val (.int p0), .val (.int p1), .val (.ref (w 2)), .val (.int (-1 : Int32)), .val (.ref (w 1)), .val (.int (1 : Int32)), .val (.int (1 : Int32))] [])) _
    refine XS.iconst X5.here hx rfl (hb hby at_76) ?_
    show Steps p.tables e below (T5.setTop (mkF m 77 #[.val (.int p0), .val (.int p1), .val (.ref (w 2)), .val (.int (-1 : Int32)), .val (.ref (w 1)), .val (.int (1 : Int32)), .val (.int (1 : Int32))] [(.int (1 : Int32))])) _
    refine XS.goto X5.here hx rfl (pc0 := 77) (pc' := 81) rfl (hb hby at_77) (by decide) (by decide) ?_
    show Steps p.tables e below (T5.setTop (mkF m 81 #[.val (.int p0), .val (.int p1), .val (.ref (w 2)), .val (.int (-1 : Int32)), .val (.ref (w 1)), .val (.int (1 : Int32)), .val (.int (1 : Int32))] [(.int (1 : Int32))])) _
    exact retN X5 hx (t := .boolean) Bd.returns (by simp) (hb hby at_81) hr
  · show OL (some (.int (1 : Int32))) Z.heap.size _ T5.heap _
    exact ⟨rfl, N5⟩
set_option maxRecDepth 65536 in
set_option maxHeartbeats 40000000 in
theorem rm_53 (l : Launch) (Z : State) (a0 : Array Value) (hw : ∀ d ∈ tables_1, d.before a0 Z = true) (w : Nat → Addr) (kk : Nat → ClassId) (hN : Wd Z w kk) (ws : List Jvm.Cond)  (h0 : Heap) (O0 : Old Z Z.heap.size h0) :
    MetFree l (⟨"org/cartulary/repository/Condition$Operator", "holds", "(I)Z"⟩ : MethodName) (head1 (Jvm.Cond.code (⟨"org/cartulary/repository/Condition$Operator", "holds", "(I)Z"⟩ : MethodName) prog_67_method_5_code 2 (some .boolean) :: ws) ({ frames := 1, cells := 0, slots := 0, locals := 12 } : Room)) (fun a U => a = #[(.ref (w 1)), (.int (1 : Int32))] ∧ Z.Warmed39 U.vm ∧ U.heap = h0) (fun _ _ _ _ _ => True) (fun _ U o U' => ∃ v L, o = .returned v ∧ OQ (some (.int (0 : Int32))) h0 Z.heap.size v U'.heap L ∧ FrameEnd U o U' L ({ frames := 1, cells := 0, slots := 0, locals := 12 } : Room).cells ({ frames := 1, cells := 0, slots := 0, locals := 12 } : Room).slots) := by
  have hN' := hN
  obtain ⟨hS0, hE0, hS1, hE1, hS2, hE2, hS3, hE3, hS4, hE4, hS5, hE5, hF0_ordinal, hF1_ordinal, hF2_ordinal, hF3_ordinal, hF4_ordinal, hF5_ordinal⟩ := hN'
  refine MetFree.of_bodySF (plainFor_of_name pn_2) hisR ?_
  intro p e s m args below meth c s₁ Bd hml0 hP hK
  obtain ⟨rfl, hZ, hh⟩ := hP
  have hx := Bd.exec
  have hby := Bd.bytes
  have hml : c.maxLocals = 2 := hml0
  have hown : s.vm.findClass "org/cartulary/repository/Condition$Operator" = some m.cls := findClass_of_methodNamed Bd.named
  have hnm := (name_of_methodNamed Bd.named Bd.method).1
  have X0 : Stand p l e ({ frames := 1, cells := 0, slots := 0, locals := 12 } : Room) s m #[(.ref (w 1)), (.int (1 : Int32))] below meth c s₁ [] 0 0 := Stand.of_body Bd
  have e0 : s₁.heap = h0 := by rw [← hh, Bd.state]; rfl
  have N0 := Fr.nil Z.heap.size
  have pre0 : ∀ t, Steps p.tables e below (s₁.setTop (mkF m 0 #[.val (.ref (w 1)), .val (.int (1 : Int32))] [])) t → Steps p.tables e below (s₁.setTop (entryFrame m #[(.ref (w 1)), (.int (1 : Int32))] 2)) t := fun t k => castTop (ef_2 m (.ref (w 1)) rfl (.int (1 : Int32)) rfl) k
  obtain ⟨cq1, kq1, q1a, q1b, q1c⟩ := isOf hZ e0 (hE1.ext O0.2)
  obtain ⟨_, _, ⟨T1, L1, k1, n1⟩, -, X1, ⟨Lc1, hQ1, l1, y1, z1⟩, st1⟩ := X0.virtualBackUp hx (x := (⟨"org/cartulary/repository/Condition$Operator", "ordinal", "()I"⟩ : MethodName)) (y := (⟨"java/lang/Enum", "ordinal", "()I"⟩ : MethodName)) (owner := "java/lang/Enum") hown (mvT hZ (W hw 13 rfl)) (mvT hZ (W hw 14 rfl)) (mvT hZ (W hw 15 rfl)) (by decide) (mvT hZ (W hw 17 rfl)) (mvT hZ (W hw 16 rfl)) (backOf (W := 0) (rm_24 l Z a0 hw w kk hN [] h0 O0) hZ (W hw 19 rfl) (W hw 18 rfl) (by decide) (by decide)) q1a q1c (g := (mkF m 1 #[.val (.ref (w 1)), .val (.int (1 : Int32))] [(.ref (w 1))])) rfl (by rw [hml]; rfl) (Steps.refl _) (argsL := []) (rest := []) (lenOf pd_1 rfl) rfl (by show 2 * 0 + _ ≤ _; exact Nat.le_of_eq rfl) (hb hby d_prog_67_method_5_code_1) (fun _ _ => ⟨rfl, e0, (by decide : 0 + 0 ≤ _), (by decide : 0 + 0 ≤ _)⟩)
  dsimp only [Pt.U, Pt.locs, Pt.cells, Pt.slots] at X1 l1 y1 z1 st1 hQ1
  subst l1 y1 z1
  obtain ⟨rfl, N1q, e1⟩ := hQ1
  have N1 := Fr.app N0 N1q
  obtain ⟨fs, hr, hrun, hended, hW, hsame⟩ := X1.leave (v := some (.int (0 : Int32))) (fun h => by rw [Bd.returns] at h; cases h)
  refine ⟨_, _, pre0 _ ?_, hrun, hended, _, _, rfl, ?_, ⟨_, rfl⟩, hW, hsame.mono (by decide) (by decide)⟩
  · show Steps p.tables e below (s₁.setTop (mkF m 0 #[.val (.ref (w 1)), .val (.int (1 : Int32))] [])) _
    refine XS.aloadN X0.here hx rfl (hb hby d_prog_67_method_5_code_0) rfl rfl ?_
    show Steps p.tables e below (s₁.setTop (mkF m 1 #[.val (.ref (w 1)), .val (.int (1 : Int32))] [(.ref (w 1))])) _
    refine st1.trans ?_
    show Steps p.tables e below (T1.setTop (mkF m 4 #[.val (.ref (w 1)), .val (.int (1 : Int32))] [(.int (2 : Int32))])) _
    refine XS.tswIn X1.here hx rfl (pc0 := 4) (pc' := 78) (o := 74) rfl (hb hby d_prog_67_method_5_code_4) rfl (by decide) (by decide) (by decide) (by decide) ?_
    show Steps p.tables e below (T1.setTop (mkF m 78 #[.val (.ref (w 1)), .val (.int (1 : Int32))] [])) _
    refine XS.iloadN X1.here hx rfl (hb hby d_prog_67_method_5_code_78) rfl ?_
    show Steps p.tables e below (T1.setTop (mkF m 79 #[.val (.ref (w 1)), .val (.int (1 : Int32))] [(.int (1 : Int32))])) _
    refine XS.ifYes X1.here hx rfl (pc0 := 79) (pc' := 86) rfl (hb hby d_prog_67_method_5_code_79) rfl ((if0 _ _).trans (flt (by decide : ¬ ((1 : Int32) < (0 : Int32)))).2.1) (by decide) (by decide) ?_
    show Steps p.tables e below (T1.setTop (mkF m 86 #[.val (.ref (w 1)), .val (.int (1 : Int32))] [])) _
    refine XS.iconst X1.here hx rfl (hb hby d_prog_67_method_5_code_86) ?_
    show Steps p.tables e below (T1.setTop (mkF m 87 #[.val (.ref (w 1)), .val (.int (1 : Int32))] [(.int (0 : Int32))])) _
    refine XS.goto X1.here hx rfl (pc0 := 87) (pc' := 123) rfl (hb hby d_prog_67_method_5_code_87) (by decide) (by decide) ?_
    show Steps p.tables e below (T1.setTop (mkF m 123 #[.val (.ref (w 1)), .val (.int (1 : Int32))] [(.int (0 : Int32))])) _
    exact retN X1 hx (t := .boolean) Bd.returns (by simp) (hb hby d_prog_67_method_5_code_123) hr
  · show OQ (some (.int (0 : Int32))) h0 Z.heap.size _ T1.heap _
    rw [e1]
    exact ⟨rfl, N1, rfl⟩
set_option maxRecDepth 65536 in
set_option maxHeartbeats 40000000 in
theorem rm_54 (l : Launch) (Z : State) (a0 : Array Value) (hw : ∀ d ∈ tables_1, d.before a0 Z = true) (w : Nat → Addr) (kk : Nat → ClassId) (hN : Wd Z w kk) (ws : List Jvm.Cond) (p1 : Int32) (h0 : Heap) (O0 : Old Z Z.heap.size h0) (hp0 : ¬ ((0 : Int32) < p1)) :
    MetFree l (⟨"org/cartulary/repository/Condition$Operator", "holds", "(I)Z"⟩ : MethodName) (head1 (Jvm.Cond.code (⟨"org/cartulary/repository/Condition$Operator", "holds", "(I)Z"⟩ : MethodName) prog_67_method_5_code 2 (some .boolean) :: ws) ({ frames := 1, cells := 0, slots := 0, locals := 12 } : Room)) (fun a U => a = #[(.ref (w 2)), (.int p1)] ∧ Z.Warmed39 U.vm ∧ U.heap = h0) (fun _ _ _ _ _ => True) (fun _ U o U' => ∃ v L, o = .returned v ∧ OQ (some (.int (0 : Int32))) h0 Z.heap.size v U'.heap L ∧ FrameEnd U o U' L ({ frames := 1, cells := 0, slots := 0, locals := 12 } : Room).cells ({ frames := 1, cells := 0, slots := 0, locals := 12 } : Room).slots) := by
  have hN' := hN
  obtain ⟨hS0, hE0, hS1, hE1, hS2, hE2, hS3, hE3, hS4, hE4, hS5, hE5, hF0_ordinal, hF1_ordinal, hF2_ordinal, hF3_ordinal, hF4_ordinal, hF5_ordinal⟩ := hN'
  refine MetFree.of_bodySF (plainFor_of_name pn_2) hisR ?_
  intro p e s m args below meth c s₁ Bd hml0 hP hK
  obtain ⟨rfl, hZ, hh⟩ := hP
  have hx := Bd.exec
  have hby := Bd.bytes
  have hml : c.maxLocals = 2 := hml0
  have hown : s.vm.findClass "org/cartulary/repository/Condition$Operator" = some m.cls := findClass_of_methodNamed Bd.named
  have hnm := (name_of_methodNamed Bd.named Bd.method).1
  have X0 : Stand p l e ({ frames := 1, cells := 0, slots := 0, locals := 12 } : Room) s m #[(.ref (w 2)), (.int p1)] below meth c s₁ [] 0 0 := Stand.of_body Bd
  have e0 : s₁.heap = h0 := by rw [← hh, Bd.state]; rfl
  have N0 := Fr.nil Z.heap.size
  have pre0 : ∀ t, Steps p.tables e below (s₁.setTop (mkF m 0 #[.val (.ref (w 2)), .val (.int p1)] [])) t → Steps p.tables e below (s₁.setTop (entryFrame m #[(.ref (w 2)), (.int p1)] 2)) t := fun t k => castTop (ef_2 m (.ref (w 2)) rfl (.int p1) rfl) k
  obtain ⟨cq1, kq1, q1a, q1b, q1c⟩ := isOf hZ e0 (hE2.ext O0.2)
  obtain ⟨_, _, ⟨T1, L1, k1, n1⟩, -, X1, ⟨Lc1, hQ1, l1, y1, z1⟩, st1⟩ := X0.virtualBackUp hx (x := (⟨"org/cartulary/repository/Condition$Operator", "ordinal", "()I"⟩ : MethodName)) (y := (⟨"java/lang/Enum", "ordinal", "()I"⟩ : MethodName)) (owner := "java/lang/Enum") hown (mvT hZ (W hw 13 rfl)) (mvT hZ (W hw 14 rfl)) (mvT hZ (W hw 15 rfl)) (by decide) (mvT hZ (W hw 17 rfl)) (mvT hZ (W hw 16 rfl)) (backOf (W := 0) (rm_26 l Z a0 hw w kk hN [] h0 O0) hZ (W hw 19 rfl) (W hw 18 rfl) (by decide) (by decide)) q1a q1c (g := (mkF m 1 #[.val (.ref (w 2)), .val (.int p1)] [(.ref (w 2))])) rfl (by rw [hml]; rfl) (Steps.refl _) (argsL := []) (rest := []) (lenOf pd_1 rfl) rfl (by show 2 * 0 + _ ≤ _; exact Nat.le_of_eq rfl) (hb hby d_prog_67_method_5_code_1) (fun _ _ => ⟨rfl, e0, (by decide : 0 + 0 ≤ _), (by decide : 0 + 0 ≤ _)⟩)
  dsimp only [Pt.U, Pt.locs, Pt.cells, Pt.slots] at X1 l1 y1 z1 st1 hQ1
  subst l1 y1 z1
  obtain ⟨rfl, N1q, e1⟩ := hQ1
  have N1 := Fr.app N0 N1q
  obtain ⟨fs, hr, hrun, hended, hW, hsame⟩ := X1.leave (v := some (.int (0 : Int32))) (fun h => by rw [Bd.returns] at h; cases h)
  refine ⟨_, _, pre0 _ ?_, hrun, hended, _, _, rfl, ?_, ⟨_, rfl⟩, hW, hsame.mono (by decide) (by decide)⟩
  · show Steps p.tables e below (s₁.setTop (mkF m 0 #[.val (.ref (w 2)), .val (.int p1)] [])) _
    refine XS.aloadN X0.here hx rfl (hb hby d_prog_67_method_5_code_0) rfl rfl ?_
    show Steps p.tables e below (s₁.setTop (mkF m 1 #[.val (.ref (w 2)), .val (.int p1)] [(.ref (w 2))])) _
    refine st1.trans ?_
    show Steps p.tables e below (T1.setTop (mkF m 4 #[.val (.ref (w 2)), .val (.int p1)] [(.int (4 : Int32))])) _
    refine XS.tswIn X1.here hx rfl (pc0 := 4) (pc' := 102) (o := 98) rfl (hb hby d_prog_67_method_5_code_4) rfl (by decide) (by decide) (by decide) (by decide) ?_
    show Steps p.tables e below (T1.setTop (mkF m 102 #[.val (.ref (w 2)), .val (.int p1)] [])) _
    refine XS.iloadN X1.here hx rfl (hb hby d_prog_67_method_5_code_102) rfl ?_
    show Steps p.tables e below (T1.setTop (mkF m 103 #[.val (.ref (w 2)), .val (.int p1)] [(.int p1)])) _
    refine XS.ifYes X1.here hx rfl (pc0 := 103) (pc' := 110) rfl (hb hby d_prog_67_method_5_code_103) rfl ((if0 _ _).trans (flt hp0).2.2.2) (by decide) (by decide) ?_
    show Steps p.tables e below (T1.setTop (mkF m 110 #[.val (.ref (w 2)), .val (.int p1)] [])) _
    refine XS.iconst X1.here hx rfl (hb hby d_prog_67_method_5_code_110) ?_
    show Steps p.tables e below (T1.setTop (mkF m 111 #[.val (.ref (w 2)), .val (.int p1)] [(.int (0 : Int32))])) _
    refine XS.goto X1.here hx rfl (pc0 := 111) (pc' := 123) rfl (hb hby d_prog_67_method_5_code_111) (by decide) (by decide) ?_
    show Steps p.tables e below (T1.setTop (mkF m 123 #[.val (.ref (w 2)), .val (.int p1)] [(.int (0 : Int32))])) _
    exact retN X1 hx (t := .boolean) Bd.returns (by simp) (hb hby d_prog_67_method_5_code_123) hr
  · show OQ (some (.int (0 : Int32))) h0 Z.heap.size _ T1.heap _
    rw [e1]
    exact ⟨rfl, N1, rfl⟩
set_option maxRecDepth 65536 in
set_option maxHeartbeats 40000000 in
theorem law_55 (l : Launch) (Z : State) (a0 : Array Value) (hw : ∀ d ∈ tables_1, d.before a0 Z = true) (w : Nat → Addr) (kk : Nat → ClassId) (hN : Wd Z w kk) (ws : List Jvm.Cond) (p0 : Int32) (p1 : Int32) (h0 : Heap) (O0 : Old Z Z.heap.size h0) (hp0 : ((p0 &&& (2147483647 : Int32)) % (6 : Int32)) = (4 : Int32)) (hp1 : ¬ ((0 : Int32) < p1)) (hp2 : p1 < (0 : Int32)) :
    MetFree l x (head1 (Jvm.Cond.code x code maxLocals ret :: ws) room_1) (fun a U => a = #[(.int p0), (.int p1)] ∧ Z.Warmed39 U.vm ∧ U.heap = h0) (fun _ _ _ _ _ => True) (fun _ U o U' => ∃ v L, o = .returned v ∧ OL (some (.int (1 : Int32))) Z.heap.size v U'.heap L ∧ FrameEnd U o U' L 0 0) := by
  have hN' := hN
  obtain ⟨hS0, hE0, hS1, hE1, hS2, hE2, hS3, hE3, hS4, hE4, hS5, hE5, hF0_ordinal, hF1_ordinal, hF2_ordinal, hF3_ordinal, hF4_ordinal, hF5_ordinal⟩ := hN'
  refine MetFree.of_bodySF (plainFor_of_name pn_0) hisR ?_
  intro p e s m args below meth c s₁ Bd hml0 hP hK
  obtain ⟨rfl, hZ, hh⟩ := hP
  have hx := Bd.exec
  have hby := Bd.bytes
  have hml : c.maxLocals = 7 := hml0
  have hown : s.vm.findClass "org/cartulary/repository/OperatorSwappedPinLaw" = some m.cls := findClass_of_methodNamed Bd.named
  have hnm := (name_of_methodNamed Bd.named Bd.method).1
  have X0 : Stand p l e room_1 s m #[(.int p0), (.int p1)] below meth c s₁ [] 0 0 := Stand.of_body Bd
  have e0 : s₁.heap = h0 := by rw [← hh, Bd.state]; rfl
  have N0 := Fr.nil Z.heap.size
  have pre0 : ∀ t, Steps p.tables e below (s₁.setTop (mkF m 0 #[.val (.int p0), .val (.int p1), .unset, .unset, .unset, .unset, .unset] [])) t → Steps p.tables e below (s₁.setTop (entryFrame m #[(.int p0), (.int p1)] maxLocals)) t := fun t k => castTop (ef_3 m (.int p0) rfl (.int p1) rfl) k
  obtain ⟨_, _, ⟨T1, L1, k1, n1⟩, -, X1, ⟨Lc1, hQ1, l1, y1, z1⟩, st1⟩ := Jvm.LawKit.callS X0 hx (y := (⟨"org/cartulary/repository/OperatorSwappedPinLaw", "pick", "(I)Lorg/cartulary/repository/Condition$Operator;"⟩ : MethodName)) hown (mvT hZ (W hw 0 rfl)) (mvT hZ (W hw 1 rfl)) (mvT hZ (W hw 2 rfl)) (mvT hZ (W hw 3 rfl)) (by decide) (backOf (W := 0) (rm_49 l Z a0 hw w kk hN [] p0 h0 O0 hp0) hZ (W hw 3 rfl) (W hw 2 rfl) (by decide) (by decide)) (g := (mkF m 1 #[.val (.int p0), .val (.int p1), .unset, .unset, .unset, .unset, .unset] [(.int p0)])) rfl (by rw [hml]; rfl) (argsL := [(.int p0)]) (rest := []) (lenOf pd_0 rfl) rfl (by show 2 * 0 + _ ≤ _; exact Nat.le_of_eq rfl) (hb hby at_1) (fun _ _ => ⟨rfl, e0, (by decide : 0 + 0 ≤ _), (by decide : 0 + 0 ≤ _)⟩)
  dsimp only [Pt.U, Pt.locs, Pt.cells, Pt.slots] at X1 l1 y1 z1 st1 hQ1
  subst l1 y1 z1
  obtain ⟨rfl, N1q, e1⟩ := hQ1
  have N1 := Fr.app N0 N1q
  obtain ⟨cq2, kq2, q2a, q2b, q2c⟩ := isOf hZ e1 (hE2.ext O0.2)
  obtain ⟨_, _, ⟨T2, L2, k2, n2⟩, -, X2, ⟨Lc2, hQ2, l2, y2, z2⟩, st2⟩ := X1.virtualBack hx (y := (⟨"org/cartulary/repository/Condition$Operator", "swapped", "()Lorg/cartulary/repository/Condition$Operator;"⟩ : MethodName)) (z := (⟨"org/cartulary/repository/Condition$Operator", "swapped", "()Lorg/cartulary/repository/Condition$Operator;"⟩ : MethodName)) hown (mvT hZ (W hw 8 rfl)) (mvT hZ (W hw 9 rfl)) (notFace_of_selects (args := #[]) (mvT hZ (W hw 11 rfl))) (mvT hZ (W hw 11 rfl)) (mvT hZ (W hw 10 rfl)) (by decide) (backOf (W := 0) (rm_29 l Z a0 hw w kk hN [] h0 O0) hZ (W hw 12 rfl) (W hw 6 rfl) (by decide) (by decide)) q2a q2c (g := (mkF m 24 #[.val (.int p0), .val (.int p1), .val (.ref (w 2)), .val (.int (1 : Int32)), .unset, .unset, .unset] [(.ref (w 2))])) rfl (by rw [hml]; rfl) (Steps.refl _) (argsL := []) (rest := []) (lenOf pd_2 rfl) rfl (by show 2 * 0 + _ ≤ _; exact Nat.le_of_eq rfl) (hb hby at_24) (fun _ _ => ⟨rfl, e1, (by decide : 0 + 0 ≤ _), (by decide : 0 + 0 ≤ _)⟩)
  dsimp only [Pt.U, Pt.locs, Pt.cells, Pt.slots] at X2 l2 y2 z2 st2 hQ2
  subst l2 y2 z2
  obtain ⟨rfl, N2q, e2⟩ := hQ2
  have N2 := Fr.app N1 N2q
  obtain ⟨cq3, kq3, q3a, q3b, q3c⟩ := isOf hZ e2 (hE1.ext O0.2)
  obtain ⟨_, _, ⟨T3, L3, k3, n3⟩, -, X3, ⟨Lc3, hQ3, l3, y3, z3⟩, st3⟩ := X2.virtualBack hx (y := (⟨"org/cartulary/repository/Condition$Operator", "holds", "(I)Z"⟩ : MethodName)) (z := (⟨"org/cartulary/repository/Condition$Operator", "holds", "(I)Z"⟩ : MethodName)) hown (mvT hZ (W hw 22 rfl)) (mvT hZ (W hw 23 rfl)) (notFace_of_selects (args := #[]) (mvT hZ (W hw 25 rfl))) (mvT hZ (W hw 25 rfl)) (mvT hZ (W hw 24 rfl)) (by decide) (backOf (W := 0) (rm_53 l Z a0 hw w kk hN [] h0 O0) hZ (W hw 26 rfl) (W hw 6 rfl) (by decide) (by decide)) q3a q3c (g := (mkF m 32 #[.val (.int p0), .val (.int p1), .val (.ref (w 2)), .val (.int (1 : Int32)), .val (.ref (w 1)), .unset, .unset] [(.int (1 : Int32)), (.ref (w 1))])) rfl (by rw [hml]; rfl) (Steps.refl _) (argsL := [(.int (1 : Int32))]) (rest := []) (lenOf pd_3 rfl) rfl (by show 2 * 0 + _ ≤ _; exact Nat.le_of_eq rfl) (hb hby at_32) (fun _ _ => ⟨rfl, e2, (by decide : 0 + 0 ≤ _), (by decide : 0 + 0 ≤ _)⟩)
  dsimp only [Pt.U, Pt.locs, Pt.cells, Pt.slots] at X3 l3 y3 z3 st3 hQ3
  subst l3 y3 z3
  obtain ⟨rfl, N3q, e3⟩ := hQ3
  have N3 := Fr.app N2 N3q
  obtain ⟨cq4, kq4, q4a, q4b, q4c⟩ := isOf hZ e3 (hE2.ext O0.2)
  obtain ⟨_, _, ⟨T4, L4, k4, n4⟩, -, X4, ⟨Lc4, hQ4, l4, y4, z4⟩, st4⟩ := X3.virtualBack hx (y := (⟨"org/cartulary/repository/Condition$Operator", "holds", "(I)Z"⟩ : MethodName)) (z := (⟨"org/cartulary/repository/Condition$Operator", "holds", "(I)Z"⟩ : MethodName)) hown (mvT hZ (W hw 22 rfl)) (mvT hZ (W hw 23 rfl)) (notFace_of_selects (args := #[]) (mvT hZ (W hw 25 rfl))) (mvT hZ (W hw 25 rfl)) (mvT hZ (W hw 24 rfl)) (by decide) (backOf (W := 1) (rm_54 l Z a0 hw w kk hN [] p1 h0 O0 hp1) hZ (W hw 26 rfl) (W hw 6 rfl) (by decide) (by decide)) q4a q4c (g := (mkF m 37 #[.val (.int p0), .val (.int p1), .val (.ref (w 2)), .val (.int (1 : Int32)), .val (.ref (w 1)), .unset, .unset] [(.int p1), (.ref (w 2)), (.int (0 : Int32))])) rfl (by rw [hml]; rfl) (Steps.refl _) (argsL := [(.int p1)]) (rest := [(.int (0 : Int32))]) (lenOf pd_3 rfl) rfl (by show 2 * 0 + _ ≤ _; exact Nat.le_of_eq rfl) (hb hby at_37) (fun _ _ => ⟨rfl, e3, (by decide : 0 + 0 ≤ _), (by decide : 0 + 0 ≤ _)⟩)
  dsimp only [Pt.U, Pt.locs, Pt.cells, Pt.slots] at X4 l4 y4 z4 st4 hQ4
  subst l4 y4 z4
  obtain ⟨rfl, N4q, e4⟩ := hQ4
  have N4 := Fr.app N3 N4q
  obtain ⟨cq5, kq5, q5a, q5b, q5c⟩ := isOf hZ e4 (hE1.ext O0.2)
  obtain ⟨_, _, ⟨T5, L5, k5, n5⟩, -, X5, ⟨Lc5, hQ5, l5, y5, z5⟩, st5⟩ := X4.virtualBack hx (y := (⟨"org/cartulary/repository/Condition$Operator", "swapped", "()Lorg/cartulary/repository/Condition$Operator;"⟩ : MethodName)) (z := (⟨"org/cartulary/repository/Condition$Operator", "swapped", "()Lorg/cartulary/repository/Condition$Operator;"⟩ : MethodName)) hown (mvT hZ (W hw 8 rfl)) (mvT hZ (W hw 9 rfl)) (notFace_of_selects (args := #[]) (mvT hZ (W hw 11 rfl))) (mvT hZ (W hw 11 rfl)) (mvT hZ (W hw 10 rfl)) (by decide) (backOf (W := 0) (rm_25 l Z a0 hw w kk hN [] h0 O0) hZ (W hw 12 rfl) (W hw 6 rfl) (by decide) (by decide)) q5a q5c (g := (mkF m 52 #[.val (.int p0), .val (.int p1), .val (.ref (w 2)), .val (.int (1 : Int32)), .val (.ref (w 1)), .val (.int (1 : Int32)), .unset] [(.ref (w 1))])) rfl (by rw [hml]; rfl) (Steps.refl _) (argsL := []) (rest := []) (lenOf pd_2 rfl) rfl (by show 2 * 0 + _ ≤ _; exact Nat.le_of_eq rfl) (hb hby at_52) (fun _ _ => ⟨rfl, e4, (by decide : 0 + 0 ≤ _), (by decide : 0 + 0 ≤ _)⟩)
  dsimp only [Pt.U, Pt.locs, Pt.cells, Pt.slots] at X5 l5 y5 z5 st5 hQ5
  subst l5 y5 z5
  obtain ⟨rfl, N5q, e5⟩ := hQ5
  have N5 := Fr.app N4 N5q
  obtain ⟨fs, hr, hrun, hended, hW, hsame⟩ := X5.leave (v := some (.int (1 : Int32))) (fun h => by rw [Bd.returns] at h; cases h)
  refine ⟨_, _, pre0 _ ?_, hrun, hended, _, _, rfl, ?_, ⟨_, rfl⟩, hW, hsame.mono (by decide) (by decide)⟩
  · show Steps p.tables e below (s₁.setTop (mkF m 0 #[.val (.int p0), .val (.int p1), .unset, .unset, .unset, .unset, .unset] [])) _
    refine XS.iloadN X0.here hx rfl (hb hby at_0) rfl ?_
    show Steps p.tables e below (s₁.setTop (mkF m 1 #[.val (.int p0), .val (.int p1), .unset, .unset, .unset, .unset, .unset] [(.int p0)])) _
    refine st1 _ ?_
    show Steps p.tables e below (T1.setTop (mkF m 4 #[.val (.int p0), .val (.int p1), .unset, .unset, .unset, .unset, .unset] [(.ref (w 2))])) _
    refine XS.astoreN X1.here hx rfl (hb hby at_4) rfl rfl (l' := #[.val (.int p0), .val (.int p1), .val (.ref (w 2)), .unset, .unset, .unset, .unset]) rfl ?_
    show Steps p.tables e below (T1.setTop (mkF m 5 #[.val (.int p0), .val (.int p1), .val (.ref (w 2)), .unset, .unset, .unset, .unset] [])) _
    refine XS.iloadN X1.here hx rfl (hb hby at_5) rfl ?_
    show Steps p.tables e below (T1.setTop (mkF m 6 #[.val (.int p0), .val (.int p1), .val (.ref (w 2)), .unset, .unset, .unset, .unset] [(.int p1)])) _
    refine XS.ifYes X1.here hx rfl (pc0 := 6) (pc' := 13) rfl (hb hby at_6) rfl ((if0 _ _).trans (flt hp1).2.2.2) (by decide) (by decide) ?_
    show Steps p.tables e below (T1.setTop (mkF m 13 #[.val (.int p0), .val (.int p1), .val (.ref (w 2)), .unset, .unset, .unset, .unset] [])) _
    refine XS.iloadN X1.here hx rfl (hb hby at_13) rfl ?_
    show Steps p.tables e below (T1.setTop (mkF m 14 #[.val (.int p0), .val (.int p1), .val (.ref (w 2)), .unset, .unset, .unset, .unset] [(.int p1)])) _
    refine XS.ifNo X1.here hx rfl (hb hby at_14) rfl ((if0 _ _).trans (tlt hp2).2.1) ?_
    show Steps p.tables e below (T1.setTop (mkF m 17 #[.val (.int p0), .val (.int p1), .val (.ref (w 2)), .unset, .unset, .unset, .unset] [])) _
    refine XS.iconst X1.here hx rfl (hb hby at_17) ?_
    show Steps p.tables e below (T1.setTop (mkF m 18 #[.val (.int p0), .val (.int p1), .val (.ref (w 2)), .unset, .unset, .unset, .unset] [(.int (1 : Int32))])) _
    refine XS.goto X1.here hx rfl (pc0 := 18) (pc' := 22) rfl (hb hby at_18) (by decide) (by decide) ?_
    show Steps p.tables e below (T1.setTop (mkF m 22 #[.val (.int p0), .val (.int p1), .val (.ref (w 2)), .unset, .unset, .unset, .unset] [(.int (1 : Int32))])) _
    refine XS.istoreN X1.here hx rfl (hb hby at_22) rfl (l' := #[.val (.int p0), .val (.int p1), .val (.ref (w 2)), .val (.int (1 : Int32)), .unset, .unset, .unset]) rfl ?_
    show Steps p.tables e below (T1.setTop (mkF m 23 #[.val (.int p0), .val (.int p1), .val (.ref (w 2)), .val (.int (1 : Int32)), .unset, .unset, .unset] [])) _
    refine XS.aloadN X1.here hx rfl (hb hby at_23) rfl rfl ?_
    show Steps p.tables e below (T1.setTop (mkF m 24 #[.val (.int p0), .val (.int p1), .val (.ref (w 2)), .val (.int (1 : Int32)), .unset, .unset, .unset] [(.ref (w 2))])) _
    refine st2.trans ?_
    show Steps p.tables e below (T2.setTop (mkF m 27 #[.val (.int p0), .val (.int p1), .val (.ref (w 2)), .val (.int (1 : Int32)), .unset, .unset, .unset] [(.ref (w 1))])) _
    refine XS.astore X2.here hx rfl (hb hby at_27) rfl rfl (l' := #[.val (.int p0), .val (.int p1), .val (.ref (w 2)), .val (.int (1 : Int32)), .val (.ref (w 1)), .unset, .unset]) rfl ?_
    show Steps p.tables e below (T2.setTop (mkF m 29 #[.val (.int p0), .val (.int p1), .val (.ref (w 2)), .val (.int (1 : Int32)), .val (.ref (w 1)), .unset, .unset] [])) _
    refine XS.aload X2.here hx rfl (hb hby at_29) rfl rfl ?_
    show Steps p.tables e below (T2.setTop (mkF m 31 #[.val (.int p0), .val (.int p1), .val (.ref (w 2)), .val (.int (1 : Int32)), .val (.ref (w 1)), .unset, .unset] [(.ref (w 1))])) _
    refine XS.iloadN X2.here hx rfl (hb hby at_31) rfl ?_
    show Steps p.tables e below (T2.setTop (mkF m 32 #[.val (.int p0), .val (.int p1), .val (.ref (w 2)), .val (.int (1 : Int32)), .val (.ref (w 1)), .unset, .unset] [(.int (1 : Int32)), (.ref (w 1))])) _
    refine st3.trans ?_
    show Steps p.tables e below (T3.setTop (mkF m 35 #[.val (.int p0), .val (.int p1), .val (.ref (w 2)), .val (.int (1 : Int32)), .val (.ref (w 1)), .unset, .unset] [(.int (0 : Int32))])) _
    refine XS.aloadN X3.here hx rfl (hb hby at_35) rfl rfl ?_
    show Steps p.tables e below (T3.setTop (mkF m 36 #[.val (.int p0), .val (.int p1), .val (.ref (w 2)), .val (.int (1 : Int32)), .val (.ref (w 1)), .unset, .unset] [(.ref (w 2)), (.int (0 : Int32))])) _
    refine XS.iloadN X3.here hx rfl (hb hby at_36) rfl ?_
    show Steps p.tables e below (T3.setTop (mkF m 37 #[.val (.int p0), .val (.int p1), .val (.ref (w 2)), .val (.int (1 : Int32)), .val (.ref (w 1)), .unset, .unset] [(.int p1), (.ref (w 2)), (.int (0 : Int32))])) _
    refine st4.trans ?_
    show Steps p.tables e below (T4.setTop (mkF m 40 #[.val (.int p0), .val (.int p1), .val (.ref (w 2)), .val (.int (1 : Int32)), .val (.ref (w 1)), .unset, .unset] [(.int (0 : Int32)), (.int (0 : Int32))])) _
    refine XS.icmpNo X4.here hx rfl (hb hby at_40) rfl (teq (by decide : (0 : Int32) = (0 : Int32))).2 ?_
    show Steps p.tables e below (T4.setTop (mkF m 43 #[.val (.int p0), .val (.int p1), .val (.ref (w 2)), .val (.int (1 : Int32)), .val (.ref (w 1)), .unset, .unset] [])) _
    refine XS.iconst X4.here hx rfl (hb hby at_43) ?_
    show Steps p.tables e below (T4.setTop (mkF m 44 #[.val (.int p0), .val (.int p1), .val (.ref (w 2)), .val (.int (1 : Int32)), .val (.ref (w 1)), .unset, .unset] [(.int (1 : Int32))])) _
    refine XS.goto X4.here hx rfl (pc0 := 44) (pc' := 48) rfl (hb hby at_44) (by decide) (by decide) ?_
    show Steps p.tables e below (T4.setTop (mkF m 48 #[.val (.int p0), .val (.int p1), .val (.ref (w 2)), .val (.int (1 : Int32)), .val (.ref (w 1)), .unset, .unset] [(.int (1 : Int32))])) _
    refine XS.istore X4.here hx rfl (hb hby at_48) rfl (l' := #[.val (.int p0), .val (.int p1), .val (.ref (w 2)), .val (.int (1 : Int32)), .val (.ref (w 1)), .val (.int (1 : Int32)), .unset]) rfl ?_
    show Steps p.tables e below (T4.setTop (mkF m 50 #[.val (.int p0), .val (.int p1), .val (.ref (w 2)), .val (.int (1 : Int32)), .val (.ref (w 1)), .val (.int (1 : Int32)), .unset] [])) _
    refine XS.aload X4.here hx rfl (hb hby at_50) rfl rfl ?_
    show Steps p.tables e below (T4.setTop (mkF m 52 #[.val (.int p0), .val (.int p1), .val (.ref (w 2)), .val (.int (1 : Int32)), .val (.ref (w 1)), .val (.int (1 : Int32)), .unset] [(.ref (w 1))])) _
    refine st5.trans ?_
    show Steps p.tables e below (T5.setTop (mkF m 55 #[.val (.int p0), .val (.int p1), .val (.ref (w 2)), .val (.int (1 : Int32)), .val (.ref (w 1)), .val (.int (1 : Int32)), .unset] [(.ref (w 2))])) _
    refine XS.aloadN X5.here hx rfl (hb hby at_55) rfl rfl ?_
    show Steps p.tables e below (T5.setTop (mkF m 56 #[.val (.int p0), .val (.int p1), .val (.ref (w 2)), .val (.int (1 : Int32)), .val (.ref (w 1)), .val (.int (1 : Int32)), .unset] [(.ref (w 2)), (.ref (w 2))])) _
    refine Jvm.RoadKit.acmp (g := (mkF m 56 #[.val (.int p0), .val (.int p1), .val (.ref (w 2)), .val (.int (1 : Int32)), .val (.ref (w 1)), .val (.int (1 : Int32)), .unset] [(.ref (w 2)), (.ref (w 2))])) X5 hx rfl rfl rfl (pc0 := 56) (pc' := 59) (same := true) rfl (hb hby at_56) rfl (decide_eq_true rfl) (by decide) (by decide) ?_
    show Steps p.tables e below (T5.setTop (mkF m 59 #[.val (.int p0), .val (.int p1), .val (.ref (w 2)), .val (.int (1 : Int32)), .val (.ref (w 1)), .val (.int (1 : Int32)), .unset] [])) _
    refine XS.iconst X5.here hx rfl (hb hby at_59) ?_
    show Steps p.tables e below (T5.setTop (mkF m 60 #[.val (.int p0), .val (.int p1), .val (.ref (w 2)), .val (.int (1 : Int32)), .val (.ref (w 1)), .val (.int (1 : Int32)), .unset] [(.int (1 : Int32))])) _
    refine XS.goto X5.here hx rfl (pc0 := 60) (pc' := 64) rfl (hb hby at_60) (by decide) (by decide) ?_
    show Steps p.tables e below (T5.setTop (mkF m 64 #[.val (.int p0), .val (.int p1), .val (.ref (w 2)), .val (.int (1 : Int32)), .val (.ref (w 1)), .val (.int (1 : Int32)), .unset] [(.int (1 : Int32))])) _
    refine XS.istore X5.here hx rfl (hb hby at_64) rfl (l' := #[.val (.int p0), .val (.int p1), .val (.ref (w 2)), .val (.int (1 : Int32)), .val (.ref (w 1)), .val (.int (1 : Int32)), .val (.int (1 : Int32))]) rfl ?_
    show Steps p.tables e below (T5.setTop (mkF m 66 #[.val (.int p0), .val (.int p1), .val (.ref (w 2)), .val (.int (1 : Int32)), .val (.ref (w 1)), .val (.int (1 : Int32)), .val (.int (1 : Int32))] [])) _
    refine XS.iload X5.here hx rfl (hb hby at_66) rfl ?_
    show Steps p.tables e below (T5.setTop (mkF m 68 #[.val (.int p0), .val (.int p1), .val (.ref (w 2)), .val (.int (1 : Int32)), .val (.ref (w 1)), .val (.int (1 : Int32)), .val (.int (1 : Int32))] [(.int (1 : Int32))])) _
    refine XS.ifNo X5.here hx rfl (hb hby at_68) rfl ((if0 _ _).trans (feq (by decide : ¬ ((1 : Int32) = (0 : Int32)))).1) ?_
    show Steps p.tables e below (T5.setTop (mkF m 71 #[.val (.int p0), .val (.int p1), .val (.ref (w 2)), .val (.int (1 : Int32)), .val (.ref (w 1)), .val (.int (1 : Int32)), .val (.int (1 : Int32))] [])) _
    refine XS.iload X5.here hx rfl (hb hby at_71) rfl ?_
    show Steps p.tables e below (T5.setTop (mkF m 73 #[.val (.int p0), .val (.int p1), .val (.ref (w 2)), .val (.int (1 : Int32)), .val (.ref (w 1)), .val (.int (1 : Int32)), .val (.int (1 : Int32))] [(.int (1 : Int32))])) _
    refine XS.ifNo X5.here hx rfl (hb hby at_73) rfl ((if0 _ _).trans (feq (by decide : ¬ ((1 : Int32) = (0 : Int32)))).1) ?_
    show Steps p.tables e below (T5.setTop (mkF m 76 #[.val (.int p0), .val (.int p1), .val (.ref (w 2)), .val (.int (1 : Int32)), .val (.ref (w 1)), .val (.int (1 : Int32)), .val (.int (1 : Int32))] [])) _
    refine XS.iconst X5.here hx rfl (hb hby at_76) ?_
    show Steps p.tables e below (T5.setTop (mkF m 77 #[.val (.int p0), .val (.int p1), .val (.ref (w 2)), .val (.int (1 : Int32)), .val (.ref (w 1)), .val (.int (1 : Int32)), .val (.int (1 : Int32))] [(.int (1 : Int32))])) _
    refine XS.goto X5.here hx rfl (pc0 := 77) (pc' := 81) rfl (hb hby at_77) (by decide) (by decide) ?_
    show Steps p.tables e below (T5.setTop (mkF m 81 #[.val (.int p0), .val (.int p1), .val (.ref (w 2)), .val (.int (1 : Int32)), .val (.ref (w 1)), .val (.int (1 : Int32)), .val (.int (1 : Int32))] [(.int (1 : Int32))])) _
    exact retN X5 hx (t := .boolean) Bd.returns (by simp) (hb hby at_81) hr
  · show OL (some (.int (1 : Int32))) Z.heap.size _ T5.heap _
    exact ⟨rfl, N5⟩
set_option maxRecDepth 65536 in
set_option maxHeartbeats 40000000 in
theorem rm_56 (l : Launch) (Z : State) (a0 : Array Value) (hw : ∀ d ∈ tables_1, d.before a0 Z = true) (w : Nat → Addr) (kk : Nat → ClassId) (hN : Wd Z w kk) (ws : List Jvm.Cond)  (h0 : Heap) (O0 : Old Z Z.heap.size h0) :
    MetFree l (⟨"org/cartulary/repository/Condition$Operator", "holds", "(I)Z"⟩ : MethodName) (head1 (Jvm.Cond.code (⟨"org/cartulary/repository/Condition$Operator", "holds", "(I)Z"⟩ : MethodName) prog_67_method_5_code 2 (some .boolean) :: ws) ({ frames := 1, cells := 0, slots := 0, locals := 12 } : Room)) (fun a U => a = #[(.ref (w 1)), (.int (0 : Int32))] ∧ Z.Warmed39 U.vm ∧ U.heap = h0) (fun _ _ _ _ _ => True) (fun _ U o U' => ∃ v L, o = .returned v ∧ OQ (some (.int (0 : Int32))) h0 Z.heap.size v U'.heap L ∧ FrameEnd U o U' L ({ frames := 1, cells := 0, slots := 0, locals := 12 } : Room).cells ({ frames := 1, cells := 0, slots := 0, locals := 12 } : Room).slots) := by
  have hN' := hN
  obtain ⟨hS0, hE0, hS1, hE1, hS2, hE2, hS3, hE3, hS4, hE4, hS5, hE5, hF0_ordinal, hF1_ordinal, hF2_ordinal, hF3_ordinal, hF4_ordinal, hF5_ordinal⟩ := hN'
  refine MetFree.of_bodySF (plainFor_of_name pn_2) hisR ?_
  intro p e s m args below meth c s₁ Bd hml0 hP hK
  obtain ⟨rfl, hZ, hh⟩ := hP
  have hx := Bd.exec
  have hby := Bd.bytes
  have hml : c.maxLocals = 2 := hml0
  have hown : s.vm.findClass "org/cartulary/repository/Condition$Operator" = some m.cls := findClass_of_methodNamed Bd.named
  have hnm := (name_of_methodNamed Bd.named Bd.method).1
  have X0 : Stand p l e ({ frames := 1, cells := 0, slots := 0, locals := 12 } : Room) s m #[(.ref (w 1)), (.int (0 : Int32))] below meth c s₁ [] 0 0 := Stand.of_body Bd
  have e0 : s₁.heap = h0 := by rw [← hh, Bd.state]; rfl
  have N0 := Fr.nil Z.heap.size
  have pre0 : ∀ t, Steps p.tables e below (s₁.setTop (mkF m 0 #[.val (.ref (w 1)), .val (.int (0 : Int32))] [])) t → Steps p.tables e below (s₁.setTop (entryFrame m #[(.ref (w 1)), (.int (0 : Int32))] 2)) t := fun t k => castTop (ef_2 m (.ref (w 1)) rfl (.int (0 : Int32)) rfl) k
  obtain ⟨cq1, kq1, q1a, q1b, q1c⟩ := isOf hZ e0 (hE1.ext O0.2)
  obtain ⟨_, _, ⟨T1, L1, k1, n1⟩, -, X1, ⟨Lc1, hQ1, l1, y1, z1⟩, st1⟩ := X0.virtualBackUp hx (x := (⟨"org/cartulary/repository/Condition$Operator", "ordinal", "()I"⟩ : MethodName)) (y := (⟨"java/lang/Enum", "ordinal", "()I"⟩ : MethodName)) (owner := "java/lang/Enum") hown (mvT hZ (W hw 13 rfl)) (mvT hZ (W hw 14 rfl)) (mvT hZ (W hw 15 rfl)) (by decide) (mvT hZ (W hw 17 rfl)) (mvT hZ (W hw 16 rfl)) (backOf (W := 0) (rm_24 l Z a0 hw w kk hN [] h0 O0) hZ (W hw 19 rfl) (W hw 18 rfl) (by decide) (by decide)) q1a q1c (g := (mkF m 1 #[.val (.ref (w 1)), .val (.int (0 : Int32))] [(.ref (w 1))])) rfl (by rw [hml]; rfl) (Steps.refl _) (argsL := []) (rest := []) (lenOf pd_1 rfl) rfl (by show 2 * 0 + _ ≤ _; exact Nat.le_of_eq rfl) (hb hby d_prog_67_method_5_code_1) (fun _ _ => ⟨rfl, e0, (by decide : 0 + 0 ≤ _), (by decide : 0 + 0 ≤ _)⟩)
  dsimp only [Pt.U, Pt.locs, Pt.cells, Pt.slots] at X1 l1 y1 z1 st1 hQ1
  subst l1 y1 z1
  obtain ⟨rfl, N1q, e1⟩ := hQ1
  have N1 := Fr.app N0 N1q
  obtain ⟨fs, hr, hrun, hended, hW, hsame⟩ := X1.leave (v := some (.int (0 : Int32))) (fun h => by rw [Bd.returns] at h; cases h)
  refine ⟨_, _, pre0 _ ?_, hrun, hended, _, _, rfl, ?_, ⟨_, rfl⟩, hW, hsame.mono (by decide) (by decide)⟩
  · show Steps p.tables e below (s₁.setTop (mkF m 0 #[.val (.ref (w 1)), .val (.int (0 : Int32))] [])) _
    refine XS.aloadN X0.here hx rfl (hb hby d_prog_67_method_5_code_0) rfl rfl ?_
    show Steps p.tables e below (s₁.setTop (mkF m 1 #[.val (.ref (w 1)), .val (.int (0 : Int32))] [(.ref (w 1))])) _
    refine st1.trans ?_
    show Steps p.tables e below (T1.setTop (mkF m 4 #[.val (.ref (w 1)), .val (.int (0 : Int32))] [(.int (2 : Int32))])) _
    refine XS.tswIn X1.here hx rfl (pc0 := 4) (pc' := 78) (o := 74) rfl (hb hby d_prog_67_method_5_code_4) rfl (by decide) (by decide) (by decide) (by decide) ?_
    show Steps p.tables e below (T1.setTop (mkF m 78 #[.val (.ref (w 1)), .val (.int (0 : Int32))] [])) _
    refine XS.iloadN X1.here hx rfl (hb hby d_prog_67_method_5_code_78) rfl ?_
    show Steps p.tables e below (T1.setTop (mkF m 79 #[.val (.ref (w 1)), .val (.int (0 : Int32))] [(.int (0 : Int32))])) _
    refine XS.ifYes X1.here hx rfl (pc0 := 79) (pc' := 86) rfl (hb hby d_prog_67_method_5_code_79) rfl ((if0 _ _).trans (flt (by decide : ¬ ((0 : Int32) < (0 : Int32)))).2.1) (by decide) (by decide) ?_
    show Steps p.tables e below (T1.setTop (mkF m 86 #[.val (.ref (w 1)), .val (.int (0 : Int32))] [])) _
    refine XS.iconst X1.here hx rfl (hb hby d_prog_67_method_5_code_86) ?_
    show Steps p.tables e below (T1.setTop (mkF m 87 #[.val (.ref (w 1)), .val (.int (0 : Int32))] [(.int (0 : Int32))])) _
    refine XS.goto X1.here hx rfl (pc0 := 87) (pc' := 123) rfl (hb hby d_prog_67_method_5_code_87) (by decide) (by decide) ?_
    show Steps p.tables e below (T1.setTop (mkF m 123 #[.val (.ref (w 1)), .val (.int (0 : Int32))] [(.int (0 : Int32))])) _
    exact retN X1 hx (t := .boolean) Bd.returns (by simp) (hb hby d_prog_67_method_5_code_123) hr
  · show OQ (some (.int (0 : Int32))) h0 Z.heap.size _ T1.heap _
    rw [e1]
    exact ⟨rfl, N1, rfl⟩
set_option maxRecDepth 65536 in
set_option maxHeartbeats 40000000 in
theorem law_57 (l : Launch) (Z : State) (a0 : Array Value) (hw : ∀ d ∈ tables_1, d.before a0 Z = true) (w : Nat → Addr) (kk : Nat → ClassId) (hN : Wd Z w kk) (ws : List Jvm.Cond) (p0 : Int32) (p1 : Int32) (h0 : Heap) (O0 : Old Z Z.heap.size h0) (hp0 : ((p0 &&& (2147483647 : Int32)) % (6 : Int32)) = (4 : Int32)) (hp1 : ¬ ((0 : Int32) < p1)) (hp2 : ¬ (p1 < (0 : Int32))) :
    MetFree l x (head1 (Jvm.Cond.code x code maxLocals ret :: ws) room_1) (fun a U => a = #[(.int p0), (.int p1)] ∧ Z.Warmed39 U.vm ∧ U.heap = h0) (fun _ _ _ _ _ => True) (fun _ U o U' => ∃ v L, o = .returned v ∧ OL (some (.int (1 : Int32))) Z.heap.size v U'.heap L ∧ FrameEnd U o U' L 0 0) := by
  have hN' := hN
  obtain ⟨hS0, hE0, hS1, hE1, hS2, hE2, hS3, hE3, hS4, hE4, hS5, hE5, hF0_ordinal, hF1_ordinal, hF2_ordinal, hF3_ordinal, hF4_ordinal, hF5_ordinal⟩ := hN'
  refine MetFree.of_bodySF (plainFor_of_name pn_0) hisR ?_
  intro p e s m args below meth c s₁ Bd hml0 hP hK
  obtain ⟨rfl, hZ, hh⟩ := hP
  have hx := Bd.exec
  have hby := Bd.bytes
  have hml : c.maxLocals = 7 := hml0
  have hown : s.vm.findClass "org/cartulary/repository/OperatorSwappedPinLaw" = some m.cls := findClass_of_methodNamed Bd.named
  have hnm := (name_of_methodNamed Bd.named Bd.method).1
  have X0 : Stand p l e room_1 s m #[(.int p0), (.int p1)] below meth c s₁ [] 0 0 := Stand.of_body Bd
  have e0 : s₁.heap = h0 := by rw [← hh, Bd.state]; rfl
  have N0 := Fr.nil Z.heap.size
  have pre0 : ∀ t, Steps p.tables e below (s₁.setTop (mkF m 0 #[.val (.int p0), .val (.int p1), .unset, .unset, .unset, .unset, .unset] [])) t → Steps p.tables e below (s₁.setTop (entryFrame m #[(.int p0), (.int p1)] maxLocals)) t := fun t k => castTop (ef_3 m (.int p0) rfl (.int p1) rfl) k
  obtain ⟨_, _, ⟨T1, L1, k1, n1⟩, -, X1, ⟨Lc1, hQ1, l1, y1, z1⟩, st1⟩ := Jvm.LawKit.callS X0 hx (y := (⟨"org/cartulary/repository/OperatorSwappedPinLaw", "pick", "(I)Lorg/cartulary/repository/Condition$Operator;"⟩ : MethodName)) hown (mvT hZ (W hw 0 rfl)) (mvT hZ (W hw 1 rfl)) (mvT hZ (W hw 2 rfl)) (mvT hZ (W hw 3 rfl)) (by decide) (backOf (W := 0) (rm_49 l Z a0 hw w kk hN [] p0 h0 O0 hp0) hZ (W hw 3 rfl) (W hw 2 rfl) (by decide) (by decide)) (g := (mkF m 1 #[.val (.int p0), .val (.int p1), .unset, .unset, .unset, .unset, .unset] [(.int p0)])) rfl (by rw [hml]; rfl) (argsL := [(.int p0)]) (rest := []) (lenOf pd_0 rfl) rfl (by show 2 * 0 + _ ≤ _; exact Nat.le_of_eq rfl) (hb hby at_1) (fun _ _ => ⟨rfl, e0, (by decide : 0 + 0 ≤ _), (by decide : 0 + 0 ≤ _)⟩)
  dsimp only [Pt.U, Pt.locs, Pt.cells, Pt.slots] at X1 l1 y1 z1 st1 hQ1
  subst l1 y1 z1
  obtain ⟨rfl, N1q, e1⟩ := hQ1
  have N1 := Fr.app N0 N1q
  obtain ⟨cq2, kq2, q2a, q2b, q2c⟩ := isOf hZ e1 (hE2.ext O0.2)
  obtain ⟨_, _, ⟨T2, L2, k2, n2⟩, -, X2, ⟨Lc2, hQ2, l2, y2, z2⟩, st2⟩ := X1.virtualBack hx (y := (⟨"org/cartulary/repository/Condition$Operator", "swapped", "()Lorg/cartulary/repository/Condition$Operator;"⟩ : MethodName)) (z := (⟨"org/cartulary/repository/Condition$Operator", "swapped", "()Lorg/cartulary/repository/Condition$Operator;"⟩ : MethodName)) hown (mvT hZ (W hw 8 rfl)) (mvT hZ (W hw 9 rfl)) (notFace_of_selects (args := #[]) (mvT hZ (W hw 11 rfl))) (mvT hZ (W hw 11 rfl)) (mvT hZ (W hw 10 rfl)) (by decide) (backOf (W := 0) (rm_29 l Z a0 hw w kk hN [] h0 O0) hZ (W hw 12 rfl) (W hw 6 rfl) (by decide) (by decide)) q2a q2c (g := (mkF m 24 #[.val (.int p0), .val (.int p1), .val (.ref (w 2)), .val (.int (0 : Int32)), .unset, .unset, .unset] [(.ref (w 2))])) rfl (by rw [hml]; rfl) (Steps.refl _) (argsL := []) (rest := []) (lenOf pd_2 rfl) rfl (by show 2 * 0 + _ ≤ _; exact Nat.le_of_eq rfl) (hb hby at_24) (fun _ _ => ⟨rfl, e1, (by decide : 0 + 0 ≤ _), (by decide : 0 + 0 ≤ _)⟩)
  dsimp only [Pt.U, Pt.locs, Pt.cells, Pt.slots] at X2 l2 y2 z2 st2 hQ2
  subst l2 y2 z2
  obtain ⟨rfl, N2q, e2⟩ := hQ2
  have N2 := Fr.app N1 N2q
  obtain ⟨cq3, kq3, q3a, q3b, q3c⟩ := isOf hZ e2 (hE1.ext O0.2)
  obtain ⟨_, _, ⟨T3, L3, k3, n3⟩, -, X3, ⟨Lc3, hQ3, l3, y3, z3⟩, st3⟩ := X2.virtualBack hx (y := (⟨"org/cartulary/repository/Condition$Operator", "holds", "(I)Z"⟩ : MethodName)) (z := (⟨"org/cartulary/repository/Condition$Operator", "holds", "(I)Z"⟩ : MethodName)) hown (mvT hZ (W hw 22 rfl)) (mvT hZ (W hw 23 rfl)) (notFace_of_selects (args := #[]) (mvT hZ (W hw 25 rfl))) (mvT hZ (W hw 25 rfl)) (mvT hZ (W hw 24 rfl)) (by decide) (backOf (W := 0) (rm_56 l Z a0 hw w kk hN [] h0 O0) hZ (W hw 26 rfl) (W hw 6 rfl) (by decide) (by decide)) q3a q3c (g := (mkF m 32 #[.val (.int p0), .val (.int p1), .val (.ref (w 2)), .val (.int (0 : Int32)), .val (.ref (w 1)), .unset, .unset] [(.int (0 : Int32)), (.ref (w 1))])) rfl (by rw [hml]; rfl) (Steps.refl _) (argsL := [(.int (0 : Int32))]) (rest := []) (lenOf pd_3 rfl) rfl (by show 2 * 0 + _ ≤ _; exact Nat.le_of_eq rfl) (hb hby at_32) (fun _ _ => ⟨rfl, e2, (by decide : 0 + 0 ≤ _), (by decide : 0 + 0 ≤ _)⟩)
  dsimp only [Pt.U, Pt.locs, Pt.cells, Pt.slots] at X3 l3 y3 z3 st3 hQ3
  subst l3 y3 z3
  obtain ⟨rfl, N3q, e3⟩ := hQ3
  have N3 := Fr.app N2 N3q
  obtain ⟨cq4, kq4, q4a, q4b, q4c⟩ := isOf hZ e3 (hE2.ext O0.2)
  obtain ⟨_, _, ⟨T4, L4, k4, n4⟩, -, X4, ⟨Lc4, hQ4, l4, y4, z4⟩, st4⟩ := X3.virtualBack hx (y := (⟨"org/cartulary/repository/Condition$Operator", "holds", "(I)Z"⟩ : MethodName)) (z := (⟨"org/cartulary/repository/Condition$Operator", "holds", "(I)Z"⟩ : MethodName)) hown (mvT hZ (W hw 22 rfl)) (mvT hZ (W hw 23 rfl)) (notFace_of_selects (args := #[]) (mvT hZ (W hw 25 rfl))) (mvT hZ (W hw 25 rfl)) (mvT hZ (W hw 24 rfl)) (by decide) (backOf (W := 1) (rm_54 l Z a0 hw w kk hN [] p1 h0 O0 hp1) hZ (W hw 26 rfl) (W hw 6 rfl) (by decide) (by decide)) q4a q4c (g := (mkF m 37 #[.val (.int p0), .val (.int p1), .val (.ref (w 2)), .val (.int (0 : Int32)), .val (.ref (w 1)), .unset, .unset] [(.int p1), (.ref (w 2)), (.int (0 : Int32))])) rfl (by rw [hml]; rfl) (Steps.refl _) (argsL := [(.int p1)]) (rest := [(.int (0 : Int32))]) (lenOf pd_3 rfl) rfl (by show 2 * 0 + _ ≤ _; exact Nat.le_of_eq rfl) (hb hby at_37) (fun _ _ => ⟨rfl, e3, (by decide : 0 + 0 ≤ _), (by decide : 0 + 0 ≤ _)⟩)
  dsimp only [Pt.U, Pt.locs, Pt.cells, Pt.slots] at X4 l4 y4 z4 st4 hQ4
  subst l4 y4 z4
  obtain ⟨rfl, N4q, e4⟩ := hQ4
  have N4 := Fr.app N3 N4q
  obtain ⟨cq5, kq5, q5a, q5b, q5c⟩ := isOf hZ e4 (hE1.ext O0.2)
  obtain ⟨_, _, ⟨T5, L5, k5, n5⟩, -, X5, ⟨Lc5, hQ5, l5, y5, z5⟩, st5⟩ := X4.virtualBack hx (y := (⟨"org/cartulary/repository/Condition$Operator", "swapped", "()Lorg/cartulary/repository/Condition$Operator;"⟩ : MethodName)) (z := (⟨"org/cartulary/repository/Condition$Operator", "swapped", "()Lorg/cartulary/repository/Condition$Operator;"⟩ : MethodName)) hown (mvT hZ (W hw 8 rfl)) (mvT hZ (W hw 9 rfl)) (notFace_of_selects (args := #[]) (mvT hZ (W hw 11 rfl))) (mvT hZ (W hw 11 rfl)) (mvT hZ (W hw 10 rfl)) (by decide) (backOf (W := 0) (rm_25 l Z a0 hw w kk hN [] h0 O0) hZ (W hw 12 rfl) (W hw 6 rfl) (by decide) (by decide)) q5a q5c (g := (mkF m 52 #[.val (.int p0), .val (.int p1), .val (.ref (w 2)), .val (.int (0 : Int32)), .val (.ref (w 1)), .val (.int (1 : Int32)), .unset] [(.ref (w 1))])) rfl (by rw [hml]; rfl) (Steps.refl _) (argsL := []) (rest := []) (lenOf pd_2 rfl) rfl (by show 2 * 0 + _ ≤ _; exact Nat.le_of_eq rfl) (hb hby at_52) (fun _ _ => ⟨rfl, e4, (by decide : 0 + 0 ≤ _), (by decide : 0 + 0 ≤ _)⟩)
  dsimp only [Pt.U, Pt.locs, Pt.cells, Pt.slots] at X5 l5 y5 z5 st5 hQ5
  subst l5 y5 z5
  obtain ⟨rfl, N5q, e5⟩ := hQ5
  have N5 := Fr.app N4 N5q
  obtain ⟨fs, hr, hrun, hended, hW, hsame⟩ := X5.leave (v := some (.int (1 : Int32))) (fun h => by rw [Bd.returns] at h; cases h)
  refine ⟨_, _, pre0 _ ?_, hrun, hended, _, _, rfl, ?_, ⟨_, rfl⟩, hW, hsame.mono (by decide) (by decide)⟩
  · show Steps p.tables e below (s₁.setTop (mkF m 0 #[.val (.int p0), .val (.int p1), .unset, .unset, .unset, .unset, .unset] [])) _
    refine XS.iloadN X0.here hx rfl (hb hby at_0) rfl ?_
    show Steps p.tables e below (s₁.setTop (mkF m 1 #[.val (.int p0), .val (.int p1), .unset, .unset, .unset, .unset, .unset] [(.int p0)])) _
    refine st1 _ ?_
    show Steps p.tables e below (T1.setTop (mkF m 4 #[.val (.int p0), .val (.int p1), .unset, .unset, .unset, .unset, .unset] [(.ref (w 2))])) _
    refine XS.astoreN X1.here hx rfl (hb hby at_4) rfl rfl (l' := #[.val (.int p0), .val (.int p1), .val (.ref (w 2)), .unset, .unset, .unset, .unset]) rfl ?_
    show Steps p.tables e below (T1.setTop (mkF m 5 #[.val (.int p0), .val (.int p1), .val (.ref (w 2)), .unset, .unset, .unset, .unset] [])) _
    refine XS.iloadN X1.here hx rfl (hb hby at_5) rfl ?_
    show Steps p.tables e below (T1.setTop (mkF m 6 #[.val (.int p0), .val (.int p1), .val (.ref (w 2)), .unset, .unset, .unset, .unset] [(.int p1)])) _
    refine XS.ifYes X1.here hx rfl (pc0 := 6) (pc' := 13) rfl (hb hby at_6) rfl ((if0 _ _).trans (flt hp1).2.2.2) (by decide) (by decide) ?_
    show Steps p.tables e below (T1.setTop (mkF m 13 #[.val (.int p0), .val (.int p1), .val (.ref (w 2)), .unset, .unset, .unset, .unset] [])) _
    refine XS.iloadN X1.here hx rfl (hb hby at_13) rfl ?_
    show Steps p.tables e below (T1.setTop (mkF m 14 #[.val (.int p0), .val (.int p1), .val (.ref (w 2)), .unset, .unset, .unset, .unset] [(.int p1)])) _
    refine XS.ifYes X1.here hx rfl (pc0 := 14) (pc' := 21) rfl (hb hby at_14) rfl ((if0 _ _).trans (flt hp2).2.1) (by decide) (by decide) ?_
    show Steps p.tables e below (T1.setTop (mkF m 21 #[.val (.int p0), .val (.int p1), .val (.ref (w 2)), .unset, .unset, .unset, .unset] [])) _
    refine XS.iconst X1.here hx rfl (hb hby at_21) ?_
    show Steps p.tables e below (T1.setTop (mkF m 22 #[.val (.int p0), .val (.int p1), .val (.ref (w 2)), .unset, .unset, .unset, .unset] [(.int (0 : Int32))])) _
    refine XS.istoreN X1.here hx rfl (hb hby at_22) rfl (l' := #[.val (.int p0), .val (.int p1), .val (.ref (w 2)), .val (.int (0 : Int32)), .unset, .unset, .unset]) rfl ?_
    show Steps p.tables e below (T1.setTop (mkF m 23 #[.val (.int p0), .val (.int p1), .val (.ref (w 2)), .val (.int (0 : Int32)), .unset, .unset, .unset] [])) _
    refine XS.aloadN X1.here hx rfl (hb hby at_23) rfl rfl ?_
    show Steps p.tables e below (T1.setTop (mkF m 24 #[.val (.int p0), .val (.int p1), .val (.ref (w 2)), .val (.int (0 : Int32)), .unset, .unset, .unset] [(.ref (w 2))])) _
    refine st2.trans ?_
    show Steps p.tables e below (T2.setTop (mkF m 27 #[.val (.int p0), .val (.int p1), .val (.ref (w 2)), .val (.int (0 : Int32)), .unset, .unset, .unset] [(.ref (w 1))])) _
    refine XS.astore X2.here hx rfl (hb hby at_27) rfl rfl (l' := #[.val (.int p0), .val (.int p1), .val (.ref (w 2)), .val (.int (0 : Int32)), .val (.ref (w 1)), .unset, .unset]) rfl ?_
    show Steps p.tables e below (T2.setTop (mkF m 29 #[.val (.int p0), .val (.int p1), .val (.ref (w 2)), .val (.int (0 : Int32)), .val (.ref (w 1)), .unset, .unset] [])) _
    refine XS.aload X2.here hx rfl (hb hby at_29) rfl rfl ?_
    show Steps p.tables e below (T2.setTop (mkF m 31 #[.val (.int p0), .val (.int p1), .val (.ref (w 2)), .val (.int (0 : Int32)), .val (.ref (w 1)), .unset, .unset] [(.ref (w 1))])) _
    refine XS.iloadN X2.here hx rfl (hb hby at_31) rfl ?_
    show Steps p.tables e below (T2.setTop (mkF m 32 #[.val (.int p0), .val (.int p1), .val (.ref (w 2)), .val (.int (0 : Int32)), .val (.ref (w 1)), .unset, .unset] [(.int (0 : Int32)), (.ref (w 1))])) _
    refine st3.trans ?_
    show Steps p.tables e below (T3.setTop (mkF m 35 #[.val (.int p0), .val (.int p1), .val (.ref (w 2)), .val (.int (0 : Int32)), .val (.ref (w 1)), .unset, .unset] [(.int (0 : Int32))])) _
    refine XS.aloadN X3.here hx rfl (hb hby at_35) rfl rfl ?_
    show Steps p.tables e below (T3.setTop (mkF m 36 #[.val (.int p0), .val (.int p1), .val (.ref (w 2)), .val (.int (0 : Int32)), .val (.ref (w 1)), .unset, .unset] [(.ref (w 2)), (.int (0 : Int32))])) _
    refine XS.iloadN X3.here hx rfl (hb hby at_36) rfl ?_
    show Steps p.tables e below (T3.setTop (mkF m 37 #[.val (.int p0), .val (.int p1), .val (.ref (w 2)), .val (.int (0 : Int32)), .val (.ref (w 1)), .unset, .unset] [(.int p1), (.ref (w 2)), (.int (0 : Int32))])) _
    refine st4.trans ?_
    show Steps p.tables e below (T4.setTop (mkF m 40 #[.val (.int p0), .val (.int p1), .val (.ref (w 2)), .val (.int (0 : Int32)), .val (.ref (w 1)), .unset, .unset] [(.int (0 : Int32)), (.int (0 : Int32))])) _
    refine XS.icmpNo X4.here hx rfl (hb hby at_40) rfl (teq (by decide : (0 : Int32) = (0 : Int32))).2 ?_
    show Steps p.tables e below (T4.setTop (mkF m 43 #[.val (.int p0), .val (.int p1), .val (.ref (w 2)), .val (.int (0 : Int32)), .val (.ref (w 1)), .unset, .unset] [])) _
    refine XS.iconst X4.here hx rfl (hb hby at_43) ?_
    show Steps p.tables e below (T4.setTop (mkF m 44 #[.val (.int p0), .val (.int p1), .val (.ref (w 2)), .val (.int (0 : Int32)), .val (.ref (w 1)), .unset, .unset] [(.int (1 : Int32))])) _
    refine XS.goto X4.here hx rfl (pc0 := 44) (pc' := 48) rfl (hb hby at_44) (by decide) (by decide) ?_
    show Steps p.tables e below (T4.setTop (mkF m 48 #[.val (.int p0), .val (.int p1), .val (.ref (w 2)), .val (.int (0 : Int32)), .val (.ref (w 1)), .unset, .unset] [(.int (1 : Int32))])) _
    refine XS.istore X4.here hx rfl (hb hby at_48) rfl (l' := #[.val (.int p0), .val (.int p1), .val (.ref (w 2)), .val (.int (0 : Int32)), .val (.ref (w 1)), .val (.int (1 : Int32)), .unset]) rfl ?_
    show Steps p.tables e below (T4.setTop (mkF m 50 #[.val (.int p0), .val (.int p1), .val (.ref (w 2)), .val (.int (0 : Int32)), .val (.ref (w 1)), .val (.int (1 : Int32)), .unset] [])) _
    refine XS.aload X4.here hx rfl (hb hby at_50) rfl rfl ?_
    show Steps p.tables e below (T4.setTop (mkF m 52 #[.val (.int p0), .val (.int p1), .val (.ref (w 2)), .val (.int (0 : Int32)), .val (.ref (w 1)), .val (.int (1 : Int32)), .unset] [(.ref (w 1))])) _
    refine st5.trans ?_
    show Steps p.tables e below (T5.setTop (mkF m 55 #[.val (.int p0), .val (.int p1), .val (.ref (w 2)), .val (.int (0 : Int32)), .val (.ref (w 1)), .val (.int (1 : Int32)), .unset] [(.ref (w 2))])) _
    refine XS.aloadN X5.here hx rfl (hb hby at_55) rfl rfl ?_
    show Steps p.tables e below (T5.setTop (mkF m 56 #[.val (.int p0), .val (.int p1), .val (.ref (w 2)), .val (.int (0 : Int32)), .val (.ref (w 1)), .val (.int (1 : Int32)), .unset] [(.ref (w 2)), (.ref (w 2))])) _
    refine Jvm.RoadKit.acmp (g := (mkF m 56 #[.val (.int p0), .val (.int p1), .val (.ref (w 2)), .val (.int (0 : Int32)), .val (.ref (w 1)), .val (.int (1 : Int32)), .unset] [(.ref (w 2)), (.ref (w 2))])) X5 hx rfl rfl rfl (pc0 := 56) (pc' := 59) (same := true) rfl (hb hby at_56) rfl (decide_eq_true rfl) (by decide) (by decide) ?_
    show Steps p.tables e below (T5.setTop (mkF m 59 #[.val (.int p0), .val (.int p1), .val (.ref (w 2)), .val (.int (0 : Int32)), .val (.ref (w 1)), .val (.int (1 : Int32)), .unset] [])) _
    refine XS.iconst X5.here hx rfl (hb hby at_59) ?_
    show Steps p.tables e below (T5.setTop (mkF m 60 #[.val (.int p0), .val (.int p1), .val (.ref (w 2)), .val (.int (0 : Int32)), .val (.ref (w 1)), .val (.int (1 : Int32)), .unset] [(.int (1 : Int32))])) _
    refine XS.goto X5.here hx rfl (pc0 := 60) (pc' := 64) rfl (hb hby at_60) (by decide) (by decide) ?_
    show Steps p.tables e below (T5.setTop (mkF m 64 #[.val (.int p0), .val (.int p1), .val (.ref (w 2)), .val (.int (0 : Int32)), .val (.ref (w 1)), .val (.int (1 : Int32)), .unset] [(.int (1 : Int32))])) _
    refine XS.istore X5.here hx rfl (hb hby at_64) rfl (l' := #[.val (.int p0), .val (.int p1), .val (.ref (w 2)), .val (.int (0 : Int32)), .val (.ref (w 1)), .val (.int (1 : Int32)), .val (.int (1 : Int32))]) rfl ?_
    show Steps p.tables e below (T5.setTop (mkF m 66 #[.val (.int p0), .val (.int p1), .val (.ref (w 2)), .val (.int (0 : Int32)), .val (.ref (w 1)), .val (.int (1 : Int32)), .val (.int (1 : Int32))] [])) _
    refine XS.iload X5.here hx rfl (hb hby at_66) rfl ?_
    show Steps p.tables e below (T5.setTop (mkF m 68 #[.val (.int p0), .val (.int p1), .val (.ref (w 2)), .val (.int (0 : Int32)), .val (.ref (w 1)), .val (.int (1 : Int32)), .val (.int (1 : Int32))] [(.int (1 : Int32))])) _
    refine XS.ifNo X5.here hx rfl (hb hby at_68) rfl ((if0 _ _).trans (feq (by decide : ¬ ((1 : Int32) = (0 : Int32)))).1) ?_
    show Steps p.tables e below (T5.setTop (mkF m 71 #[.val (.int p0), .val (.int p1), .val (.ref (w 2)), .val (.int (0 : Int32)), .val (.ref (w 1)), .val (.int (1 : Int32)), .val (.int (1 : Int32))] [])) _
    refine XS.iload X5.here hx rfl (hb hby at_71) rfl ?_
    show Steps p.tables e below (T5.setTop (mkF m 73 #[.val (.int p0), .val (.int p1), .val (.ref (w 2)), .val (.int (0 : Int32)), .val (.ref (w 1)), .val (.int (1 : Int32)), .val (.int (1 : Int32))] [(.int (1 : Int32))])) _
    refine XS.ifNo X5.here hx rfl (hb hby at_73) rfl ((if0 _ _).trans (feq (by decide : ¬ ((1 : Int32) = (0 : Int32)))).1) ?_
    show Steps p.tables e below (T5.setTop (mkF m 76 #[.val (.int p0), .val (.int p1), .val (.ref (w 2)), .val (.int (0 : Int32)), .val (.ref (w 1)), .val (.int (1 : Int32)), .val (.int (1 : Int32))] [])) _
    refine XS.iconst X5.here hx rfl (hb hby at_76) ?_
    show Steps p.tables e below (T5.setTop (mkF m 77 #[.val (.int p0), .val (.int p1), .val (.ref (w 2)), .val (.int (0 : Int32)), .val (.ref (w 1)), .val (.int (1 : Int32)), .val (.int (1 : Int32))] [(.int (1 : Int32))])) _
    refine XS.goto X5.here hx rfl (pc0 := 77) (pc' := 81) rfl (hb hby at_77) (by decide) (by decide) ?_
    show Steps p.tables e below (T5.setTop (mkF m 81 #[.val (.int p0), .val (.int p1), .val (.ref (w 2)), .val (.int (0 : Int32)), .val (.ref (w 1)), .val (.int (1 : Int32)), .val (.int (1 : Int32))] [(.int (1 : Int32))])) _
    exact retN X5 hx (t := .boolean) Bd.returns (by simp) (hb hby at_81) hr
  · show OL (some (.int (1 : Int32))) Z.heap.size _ T5.heap _
    exact ⟨rfl, N5⟩
theorem d_method_2_code_52 : decode method_2_code 52 = .ok (.getstatic 26, 3) := by decide +kernel
theorem d_method_2_code_55 : decode method_2_code 55 = .ok (.areturn, 1) := by decide +kernel
set_option maxRecDepth 65536 in
set_option maxHeartbeats 40000000 in
theorem rm_58 (l : Launch) (Z : State) (a0 : Array Value) (hw : ∀ d ∈ tables_1, d.before a0 Z = true) (w : Nat → Addr) (kk : Nat → ClassId) (hN : Wd Z w kk) (ws : List Jvm.Cond) (p0 : Int32) (h0 : Heap) (O0 : Old Z Z.heap.size h0) (hp0 : ((p0 &&& (2147483647 : Int32)) % (6 : Int32)) = (5 : Int32)) :
    MetFree l (⟨"org/cartulary/repository/OperatorSwappedPinLaw", "pick", "(I)Lorg/cartulary/repository/Condition$Operator;"⟩ : MethodName) (head1 (Jvm.Cond.code (⟨"org/cartulary/repository/OperatorSwappedPinLaw", "pick", "(I)Lorg/cartulary/repository/Condition$Operator;"⟩ : MethodName) method_2_code 2 (some (.object "org/cartulary/repository/Condition$Operator")) :: ws) ({ frames := 0, cells := 0, slots := 0, locals := 0 } : Room)) (fun a U => a = #[(.int p0)] ∧ Z.Warmed39 U.vm ∧ U.heap = h0) (fun _ _ _ _ _ => True) (fun _ U o U' => ∃ v L, o = .returned v ∧ OQ (some (.ref (w 4))) h0 Z.heap.size v U'.heap L ∧ FrameEnd U o U' L ({ frames := 0, cells := 0, slots := 0, locals := 0 } : Room).cells ({ frames := 0, cells := 0, slots := 0, locals := 0 } : Room).slots) := by
  have hN' := hN
  obtain ⟨hS0, hE0, hS1, hE1, hS2, hE2, hS3, hE3, hS4, hE4, hS5, hE5, hF0_ordinal, hF1_ordinal, hF2_ordinal, hF3_ordinal, hF4_ordinal, hF5_ordinal⟩ := hN'
  refine MetFree.of_bodySF (plainFor_of_name pn_0) hisR ?_
  intro p e s m args below meth c s₁ Bd hml0 hP hK
  obtain ⟨rfl, hZ, hh⟩ := hP
  have hx := Bd.exec
  have hby := Bd.bytes
  have hml : c.maxLocals = 2 := hml0
  have hown : s.vm.findClass "org/cartulary/repository/OperatorSwappedPinLaw" = some m.cls := findClass_of_methodNamed Bd.named
  have hnm := (name_of_methodNamed Bd.named Bd.method).1
  have X0 : Stand p l e ({ frames := 0, cells := 0, slots := 0, locals := 0 } : Room) s m #[(.int p0)] below meth c s₁ [] 0 0 := Stand.of_body Bd
  have e0 : s₁.heap = h0 := by rw [← hh, Bd.state]; rfl
  have N0 := Fr.nil Z.heap.size
  have pre0 : ∀ t, Steps p.tables e below (s₁.setTop (mkF m 0 #[.val (.int p0), .unset] [])) t → Steps p.tables e below (s₁.setTop (entryFrame m #[(.int p0)] 2)) t := fun t k => castTop (ef_0 m (.int p0) rfl) k
  obtain ⟨T1, X1, e1, st1⟩ := getS2 X0 hx hZ hown (host := "") (Or.inl (W hw 35 rfl)) Via.refl e0 (hS4.ext O0.2) (g := (mkF m 52 #[.val (.int p0), .val (.int (5 : Int32))] [])) rfl (hb hby d_method_2_code_52)
  obtain ⟨fs, hr, hrun, hended, hW, hsame⟩ := X1.leave (v := some (.ref (w 4))) (fun h => by rw [Bd.returns] at h; cases h)
  refine ⟨_, _, pre0 _ ?_, hrun, hended, _, _, rfl, ?_, ⟨_, rfl⟩, hW, hsame.mono (by decide) (by decide)⟩
  · show Steps p.tables e below (s₁.setTop (mkF m 0 #[.val (.int p0), .unset] [])) _
    refine XS.iloadN X0.here hx rfl (hb hby d_method_2_code_0) rfl ?_
    show Steps p.tables e below (s₁.setTop (mkF m 1 #[.val (.int p0), .unset] [(.int p0)])) _
    refine X0.ldcInt hx hown (mvT hZ (W hw 4 rfl)) (g := (mkF m 1 #[.val (.int p0), .unset] [(.int p0)])) rfl (hb hby d_method_2_code_1) _ ?_
    show Steps p.tables e below (s₁.setTop (mkF m 3 #[.val (.int p0), .unset] [(.int (2147483647 : Int32)), (.int p0)])) _
    refine XS.iand X0.here hx rfl (hb hby d_method_2_code_3) rfl ?_
    show Steps p.tables e below (s₁.setTop (mkF m 4 #[.val (.int p0), .unset] [(.int (p0 &&& (2147483647 : Int32)))])) _
    refine XS.bipush X0.here hx rfl (hb hby d_method_2_code_4) ?_
    show Steps p.tables e below (s₁.setTop (mkF m 6 #[.val (.int p0), .unset] [(.int (6 : Int32)), (.int (p0 &&& (2147483647 : Int32)))])) _
    refine iremM X0 hx rfl (hb hby d_method_2_code_6) rfl (by decide : ¬ ((6 : Int32) = (0 : Int32))) ?_
    show Steps p.tables e below (s₁.setTop (mkF m 7 #[.val (.int p0), .unset] [(.int ((p0 &&& (2147483647 : Int32)) % (6 : Int32)))])) _
    rw [hp0]
    show Steps p.tables e below (s₁.setTop (mkF m 7 #[.val (.int p0), .unset] [(.int (5 : Int32))])) _
    refine XS.istoreN X0.here hx rfl (hb hby d_method_2_code_7) rfl (l' := #[.val (.int p0), .val (.int (5 : Int32))]) rfl ?_
    show Steps p.tables e below (s₁.setTop (mkF m 8 #[.val (.int p0), .val (.int (5 : Int32))] [])) _
    refine XS.iloadN X0.here hx rfl (hb hby d_method_2_code_8) rfl ?_
    show Steps p.tables e below (s₁.setTop (mkF m 9 #[.val (.int p0), .val (.int (5 : Int32))] [(.int (5 : Int32))])) _
    refine XS.ifYes X0.here hx rfl (pc0 := 9) (pc' := 16) rfl (hb hby d_method_2_code_9) rfl ((if0 _ _).trans (feq (by decide : ¬ ((5 : Int32) = (0 : Int32)))).2) (by decide) (by decide) ?_
    show Steps p.tables e below (s₁.setTop (mkF m 16 #[.val (.int p0), .val (.int (5 : Int32))] [])) _
    refine XS.iloadN X0.here hx rfl (hb hby d_method_2_code_16) rfl ?_
    show Steps p.tables e below (s₁.setTop (mkF m 17 #[.val (.int p0), .val (.int (5 : Int32))] [(.int (5 : Int32))])) _
    refine XS.iconst X0.here hx rfl (hb hby d_method_2_code_17) ?_
    show Steps p.tables e below (s₁.setTop (mkF m 18 #[.val (.int p0), .val (.int (5 : Int32))] [(.int (1 : Int32)), (.int (5 : Int32))])) _
    refine XS.icmpYes X0.here hx rfl (pc0 := 18) (pc' := 25) rfl (hb hby d_method_2_code_18) rfl (feq (by decide : ¬ ((5 : Int32) = (1 : Int32)))).2 (by decide) (by decide) ?_
    show Steps p.tables e below (s₁.setTop (mkF m 25 #[.val (.int p0), .val (.int (5 : Int32))] [])) _
    refine XS.iloadN X0.here hx rfl (hb hby d_method_2_code_25) rfl ?_
    show Steps p.tables e below (s₁.setTop (mkF m 26 #[.val (.int p0), .val (.int (5 : Int32))] [(.int (5 : Int32))])) _
    refine XS.iconst X0.here hx rfl (hb hby d_method_2_code_26) ?_
    show Steps p.tables e below (s₁.setTop (mkF m 27 #[.val (.int p0), .val (.int (5 : Int32))] [(.int (2 : Int32)), (.int (5 : Int32))])) _
    refine XS.icmpYes X0.here hx rfl (pc0 := 27) (pc' := 34) rfl (hb hby d_method_2_code_27) rfl (feq (by decide : ¬ ((5 : Int32) = (2 : Int32)))).2 (by decide) (by decide) ?_
    show Steps p.tables e below (s₁.setTop (mkF m 34 #[.val (.int p0), .val (.int (5 : Int32))] [])) _
    refine XS.iloadN X0.here hx rfl (hb hby d_method_2_code_34) rfl ?_
    show Steps p.tables e below (s₁.setTop (mkF m 35 #[.val (.int p0), .val (.int (5 : Int32))] [(.int (5 : Int32))])) _
    refine XS.iconst X0.here hx rfl (hb hby d_method_2_code_35) ?_
    show Steps p.tables e below (s₁.setTop (mkF m 36 #[.val (.int p0), .val (.int (5 : Int32))] [(.int (3 : Int32)), (.int (5 : Int32))])) _
    refine XS.icmpYes X0.here hx rfl (pc0 := 36) (pc' := 43) rfl (hb hby d_method_2_code_36) rfl (feq (by decide : ¬ ((5 : Int32) = (3 : Int32)))).2 (by decide) (by decide) ?_
    show Steps p.tables e below (s₁.setTop (mkF m 43 #[.val (.int p0), .val (.int (5 : Int32))] [])) _
    refine XS.iloadN X0.here hx rfl (hb hby d_method_2_code_43) rfl ?_
    show Steps p.tables e below (s₁.setTop (mkF m 44 #[.val (.int p0), .val (.int (5 : Int32))] [(.int (5 : Int32))])) _
    refine XS.iconst X0.here hx rfl (hb hby d_method_2_code_44) ?_
    show Steps p.tables e below (s₁.setTop (mkF m 45 #[.val (.int p0), .val (.int (5 : Int32))] [(.int (4 : Int32)), (.int (5 : Int32))])) _
    refine XS.icmpYes X0.here hx rfl (pc0 := 45) (pc' := 52) rfl (hb hby d_method_2_code_45) rfl (feq (by decide : ¬ ((5 : Int32) = (4 : Int32)))).2 (by decide) (by decide) ?_
    show Steps p.tables e below (s₁.setTop (mkF m 52 #[.val (.int p0), .val (.int (5 : Int32))] [])) _
    refine st1 _ ?_
    show Steps p.tables e below (T1.setTop (mkF m 55 #[.val (.int p0), .val (.int (5 : Int32))] [(.ref (w 4))])) _
    exact retOut X1 hx Bd.returns rfl (Or.inr (Or.inr (Or.inr (Or.inr ⟨rfl, rfl, rfl⟩)))) (hb hby d_method_2_code_55) hr
  · show OQ (some (.ref (w 4))) h0 Z.heap.size _ T1.heap _
    rw [e1]
    exact ⟨rfl, N0, rfl⟩
set_option maxRecDepth 65536 in
set_option maxHeartbeats 40000000 in
theorem rm_59 (l : Launch) (Z : State) (a0 : Array Value) (hw : ∀ d ∈ tables_1, d.before a0 Z = true) (w : Nat → Addr) (kk : Nat → ClassId) (hN : Wd Z w kk) (ws : List Jvm.Cond)  (h0 : Heap) (O0 : Old Z Z.heap.size h0) :
    MetFree l (⟨"org/cartulary/repository/Condition$Operator", "holds", "(I)Z"⟩ : MethodName) (head1 (Jvm.Cond.code (⟨"org/cartulary/repository/Condition$Operator", "holds", "(I)Z"⟩ : MethodName) prog_67_method_5_code 2 (some .boolean) :: ws) ({ frames := 1, cells := 0, slots := 0, locals := 12 } : Room)) (fun a U => a = #[(.ref (w 5)), (.int (-1 : Int32))] ∧ Z.Warmed39 U.vm ∧ U.heap = h0) (fun _ _ _ _ _ => True) (fun _ U o U' => ∃ v L, o = .returned v ∧ OQ (some (.int (1 : Int32))) h0 Z.heap.size v U'.heap L ∧ FrameEnd U o U' L ({ frames := 1, cells := 0, slots := 0, locals := 12 } : Room).cells ({ frames := 1, cells := 0, slots := 0, locals := 12 } : Room).slots) := by
  have hN' := hN
  obtain ⟨hS0, hE0, hS1, hE1, hS2, hE2, hS3, hE3, hS4, hE4, hS5, hE5, hF0_ordinal, hF1_ordinal, hF2_ordinal, hF3_ordinal, hF4_ordinal, hF5_ordinal⟩ := hN'
  refine MetFree.of_bodySF (plainFor_of_name pn_2) hisR ?_
  intro p e s m args below meth c s₁ Bd hml0 hP hK
  obtain ⟨rfl, hZ, hh⟩ := hP
  have hx := Bd.exec
  have hby := Bd.bytes
  have hml : c.maxLocals = 2 := hml0
  have hown : s.vm.findClass "org/cartulary/repository/Condition$Operator" = some m.cls := findClass_of_methodNamed Bd.named
  have hnm := (name_of_methodNamed Bd.named Bd.method).1
  have X0 : Stand p l e ({ frames := 1, cells := 0, slots := 0, locals := 12 } : Room) s m #[(.ref (w 5)), (.int (-1 : Int32))] below meth c s₁ [] 0 0 := Stand.of_body Bd
  have e0 : s₁.heap = h0 := by rw [← hh, Bd.state]; rfl
  have N0 := Fr.nil Z.heap.size
  have pre0 : ∀ t, Steps p.tables e below (s₁.setTop (mkF m 0 #[.val (.ref (w 5)), .val (.int (-1 : Int32))] [])) t → Steps p.tables e below (s₁.setTop (entryFrame m #[(.ref (w 5)), (.int (-1 : Int32))] 2)) t := fun t k => castTop (ef_2 m (.ref (w 5)) rfl (.int (-1 : Int32)) rfl) k
  obtain ⟨cq1, kq1, q1a, q1b, q1c⟩ := isOf hZ e0 (hE5.ext O0.2)
  obtain ⟨_, _, ⟨T1, L1, k1, n1⟩, -, X1, ⟨Lc1, hQ1, l1, y1, z1⟩, st1⟩ := X0.virtualBackUp hx (x := (⟨"org/cartulary/repository/Condition$Operator", "ordinal", "()I"⟩ : MethodName)) (y := (⟨"java/lang/Enum", "ordinal", "()I"⟩ : MethodName)) (owner := "java/lang/Enum") hown (mvT hZ (W hw 13 rfl)) (mvT hZ (W hw 14 rfl)) (mvT hZ (W hw 15 rfl)) (by decide) (mvT hZ (W hw 17 rfl)) (mvT hZ (W hw 16 rfl)) (backOf (W := 0) (rm_37 l Z a0 hw w kk hN [] h0 O0) hZ (W hw 19 rfl) (W hw 18 rfl) (by decide) (by decide)) q1a q1c (g := (mkF m 1 #[.val (.ref (w 5)), .val (.int (-1 : Int32))] [(.ref (w 5))])) rfl (by rw [hml]; rfl) (Steps.refl _) (argsL := []) (rest := []) (lenOf pd_1 rfl) rfl (by show 2 * 0 + _ ≤ _; exact Nat.le_of_eq rfl) (hb hby d_prog_67_method_5_code_1) (fun _ _ => ⟨rfl, e0, (by decide : 0 + 0 ≤ _), (by decide : 0 + 0 ≤ _)⟩)
  dsimp only [Pt.U, Pt.locs, Pt.cells, Pt.slots] at X1 l1 y1 z1 st1 hQ1
  subst l1 y1 z1
  obtain ⟨rfl, N1q, e1⟩ := hQ1
  have N1 := Fr.app N0 N1q
  obtain ⟨fs, hr, hrun, hended, hW, hsame⟩ := X1.leave (v := some (.int (1 : Int32))) (fun h => by rw [Bd.returns] at h; cases h)
  refine ⟨_, _, pre0 _ ?_, hrun, hended, _, _, rfl, ?_, ⟨_, rfl⟩, hW, hsame.mono (by decide) (by decide)⟩
  · show Steps p.tables e below (s₁.setTop (mkF m 0 #[.val (.ref (w 5)), .val (.int (-1 : Int32))] [])) _
    refine XS.aloadN X0.here hx rfl (hb hby d_prog_67_method_5_code_0) rfl rfl ?_
    show Steps p.tables e below (s₁.setTop (mkF m 1 #[.val (.ref (w 5)), .val (.int (-1 : Int32))] [(.ref (w 5))])) _
    refine st1.trans ?_
    show Steps p.tables e below (T1.setTop (mkF m 4 #[.val (.ref (w 5)), .val (.int (-1 : Int32))] [(.int (3 : Int32))])) _
    refine XS.tswIn X1.here hx rfl (pc0 := 4) (pc' := 90) (o := 86) rfl (hb hby d_prog_67_method_5_code_4) rfl (by decide) (by decide) (by decide) (by decide) ?_
    show Steps p.tables e below (T1.setTop (mkF m 90 #[.val (.ref (w 5)), .val (.int (-1 : Int32))] [])) _
    refine XS.iloadN X1.here hx rfl (hb hby d_prog_67_method_5_code_90) rfl ?_
    show Steps p.tables e below (T1.setTop (mkF m 91 #[.val (.ref (w 5)), .val (.int (-1 : Int32))] [(.int (-1 : Int32))])) _
    refine XS.ifNo X1.here hx rfl (hb hby d_prog_67_method_5_code_91) rfl ((if0 _ _).trans (flt (by decide : ¬ ((0 : Int32) < (-1 : Int32)))).2.2.1) ?_
    show Steps p.tables e below (T1.setTop (mkF m 94 #[.val (.ref (w 5)), .val (.int (-1 : Int32))] [])) _
    refine XS.iconst X1.here hx rfl (hb hby d_prog_67_method_5_code_94) ?_
    show Steps p.tables e below (T1.setTop (mkF m 95 #[.val (.ref (w 5)), .val (.int (-1 : Int32))] [(.int (1 : Int32))])) _
    refine XS.goto X1.here hx rfl (pc0 := 95) (pc' := 123) rfl (hb hby d_prog_67_method_5_code_95) (by decide) (by decide) ?_
    show Steps p.tables e below (T1.setTop (mkF m 123 #[.val (.ref (w 5)), .val (.int (-1 : Int32))] [(.int (1 : Int32))])) _
    exact retN X1 hx (t := .boolean) Bd.returns (by simp) (hb hby d_prog_67_method_5_code_123) hr
  · show OQ (some (.int (1 : Int32))) h0 Z.heap.size _ T1.heap _
    rw [e1]
    exact ⟨rfl, N1, rfl⟩
set_option maxRecDepth 65536 in
set_option maxHeartbeats 40000000 in
theorem rm_60 (l : Launch) (Z : State) (a0 : Array Value) (hw : ∀ d ∈ tables_1, d.before a0 Z = true) (w : Nat → Addr) (kk : Nat → ClassId) (hN : Wd Z w kk) (ws : List Jvm.Cond) (p1 : Int32) (h0 : Heap) (O0 : Old Z Z.heap.size h0) (hp0 : ¬ (p1 < (0 : Int32))) :
    MetFree l (⟨"org/cartulary/repository/Condition$Operator", "holds", "(I)Z"⟩ : MethodName) (head1 (Jvm.Cond.code (⟨"org/cartulary/repository/Condition$Operator", "holds", "(I)Z"⟩ : MethodName) prog_67_method_5_code 2 (some .boolean) :: ws) ({ frames := 1, cells := 0, slots := 0, locals := 12 } : Room)) (fun a U => a = #[(.ref (w 4)), (.int p1)] ∧ Z.Warmed39 U.vm ∧ U.heap = h0) (fun _ _ _ _ _ => True) (fun _ U o U' => ∃ v L, o = .returned v ∧ OQ (some (.int (1 : Int32))) h0 Z.heap.size v U'.heap L ∧ FrameEnd U o U' L ({ frames := 1, cells := 0, slots := 0, locals := 12 } : Room).cells ({ frames := 1, cells := 0, slots := 0, locals := 12 } : Room).slots) := by
  have hN' := hN
  obtain ⟨hS0, hE0, hS1, hE1, hS2, hE2, hS3, hE3, hS4, hE4, hS5, hE5, hF0_ordinal, hF1_ordinal, hF2_ordinal, hF3_ordinal, hF4_ordinal, hF5_ordinal⟩ := hN'
  refine MetFree.of_bodySF (plainFor_of_name pn_2) hisR ?_
  intro p e s m args below meth c s₁ Bd hml0 hP hK
  obtain ⟨rfl, hZ, hh⟩ := hP
  have hx := Bd.exec
  have hby := Bd.bytes
  have hml : c.maxLocals = 2 := hml0
  have hown : s.vm.findClass "org/cartulary/repository/Condition$Operator" = some m.cls := findClass_of_methodNamed Bd.named
  have hnm := (name_of_methodNamed Bd.named Bd.method).1
  have X0 : Stand p l e ({ frames := 1, cells := 0, slots := 0, locals := 12 } : Room) s m #[(.ref (w 4)), (.int p1)] below meth c s₁ [] 0 0 := Stand.of_body Bd
  have e0 : s₁.heap = h0 := by rw [← hh, Bd.state]; rfl
  have N0 := Fr.nil Z.heap.size
  have pre0 : ∀ t, Steps p.tables e below (s₁.setTop (mkF m 0 #[.val (.ref (w 4)), .val (.int p1)] [])) t → Steps p.tables e below (s₁.setTop (entryFrame m #[(.ref (w 4)), (.int p1)] 2)) t := fun t k => castTop (ef_2 m (.ref (w 4)) rfl (.int p1) rfl) k
  obtain ⟨cq1, kq1, q1a, q1b, q1c⟩ := isOf hZ e0 (hE4.ext O0.2)
  obtain ⟨_, _, ⟨T1, L1, k1, n1⟩, -, X1, ⟨Lc1, hQ1, l1, y1, z1⟩, st1⟩ := X0.virtualBackUp hx (x := (⟨"org/cartulary/repository/Condition$Operator", "ordinal", "()I"⟩ : MethodName)) (y := (⟨"java/lang/Enum", "ordinal", "()I"⟩ : MethodName)) (owner := "java/lang/Enum") hown (mvT hZ (W hw 13 rfl)) (mvT hZ (W hw 14 rfl)) (mvT hZ (W hw 15 rfl)) (by decide) (mvT hZ (W hw 17 rfl)) (mvT hZ (W hw 16 rfl)) (backOf (W := 0) (rm_39 l Z a0 hw w kk hN [] h0 O0) hZ (W hw 19 rfl) (W hw 18 rfl) (by decide) (by decide)) q1a q1c (g := (mkF m 1 #[.val (.ref (w 4)), .val (.int p1)] [(.ref (w 4))])) rfl (by rw [hml]; rfl) (Steps.refl _) (argsL := []) (rest := []) (lenOf pd_1 rfl) rfl (by show 2 * 0 + _ ≤ _; exact Nat.le_of_eq rfl) (hb hby d_prog_67_method_5_code_1) (fun _ _ => ⟨rfl, e0, (by decide : 0 + 0 ≤ _), (by decide : 0 + 0 ≤ _)⟩)
  dsimp only [Pt.U, Pt.locs, Pt.cells, Pt.slots] at X1 l1 y1 z1 st1 hQ1
  subst l1 y1 z1
  obtain ⟨rfl, N1q, e1⟩ := hQ1
  have N1 := Fr.app N0 N1q
  obtain ⟨fs, hr, hrun, hended, hW, hsame⟩ := X1.leave (v := some (.int (1 : Int32))) (fun h => by rw [Bd.returns] at h; cases h)
  refine ⟨_, _, pre0 _ ?_, hrun, hended, _, _, rfl, ?_, ⟨_, rfl⟩, hW, hsame.mono (by decide) (by decide)⟩
  · show Steps p.tables e below (s₁.setTop (mkF m 0 #[.val (.ref (w 4)), .val (.int p1)] [])) _
    refine XS.aloadN X0.here hx rfl (hb hby d_prog_67_method_5_code_0) rfl rfl ?_
    show Steps p.tables e below (s₁.setTop (mkF m 1 #[.val (.ref (w 4)), .val (.int p1)] [(.ref (w 4))])) _
    refine st1.trans ?_
    show Steps p.tables e below (T1.setTop (mkF m 4 #[.val (.ref (w 4)), .val (.int p1)] [(.int (5 : Int32))])) _
    refine XS.tswIn X1.here hx rfl (pc0 := 4) (pc' := 114) (o := 110) rfl (hb hby d_prog_67_method_5_code_4) rfl (by decide) (by decide) (by decide) (by decide) ?_
    show Steps p.tables e below (T1.setTop (mkF m 114 #[.val (.ref (w 4)), .val (.int p1)] [])) _
    refine XS.iloadN X1.here hx rfl (hb hby d_prog_67_method_5_code_114) rfl ?_
    show Steps p.tables e below (T1.setTop (mkF m 115 #[.val (.ref (w 4)), .val (.int p1)] [(.int p1)])) _
    refine XS.ifNo X1.here hx rfl (hb hby d_prog_67_method_5_code_115) rfl ((if0 _ _).trans (flt hp0).1) ?_
    show Steps p.tables e below (T1.setTop (mkF m 118 #[.val (.ref (w 4)), .val (.int p1)] [])) _
    refine XS.iconst X1.here hx rfl (hb hby d_prog_67_method_5_code_118) ?_
    show Steps p.tables e below (T1.setTop (mkF m 119 #[.val (.ref (w 4)), .val (.int p1)] [(.int (1 : Int32))])) _
    refine XS.goto X1.here hx rfl (pc0 := 119) (pc' := 123) rfl (hb hby d_prog_67_method_5_code_119) (by decide) (by decide) ?_
    show Steps p.tables e below (T1.setTop (mkF m 123 #[.val (.ref (w 4)), .val (.int p1)] [(.int (1 : Int32))])) _
    exact retN X1 hx (t := .boolean) Bd.returns (by simp) (hb hby d_prog_67_method_5_code_123) hr
  · show OQ (some (.int (1 : Int32))) h0 Z.heap.size _ T1.heap _
    rw [e1]
    exact ⟨rfl, N1, rfl⟩
set_option maxRecDepth 65536 in
set_option maxHeartbeats 40000000 in
theorem law_61 (l : Launch) (Z : State) (a0 : Array Value) (hw : ∀ d ∈ tables_1, d.before a0 Z = true) (w : Nat → Addr) (kk : Nat → ClassId) (hN : Wd Z w kk) (ws : List Jvm.Cond) (p0 : Int32) (p1 : Int32) (h0 : Heap) (O0 : Old Z Z.heap.size h0) (hp0 : ((p0 &&& (2147483647 : Int32)) % (6 : Int32)) = (5 : Int32)) (hp1 : (0 : Int32) < p1) (hp2 : ¬ (p1 < (0 : Int32))) :
    MetFree l x (head1 (Jvm.Cond.code x code maxLocals ret :: ws) room_1) (fun a U => a = #[(.int p0), (.int p1)] ∧ Z.Warmed39 U.vm ∧ U.heap = h0) (fun _ _ _ _ _ => True) (fun _ U o U' => ∃ v L, o = .returned v ∧ OL (some (.int (1 : Int32))) Z.heap.size v U'.heap L ∧ FrameEnd U o U' L 0 0) := by
  have hN' := hN
  obtain ⟨hS0, hE0, hS1, hE1, hS2, hE2, hS3, hE3, hS4, hE4, hS5, hE5, hF0_ordinal, hF1_ordinal, hF2_ordinal, hF3_ordinal, hF4_ordinal, hF5_ordinal⟩ := hN'
  refine MetFree.of_bodySF (plainFor_of_name pn_0) hisR ?_
  intro p e s m args below meth c s₁ Bd hml0 hP hK
  obtain ⟨rfl, hZ, hh⟩ := hP
  have hx := Bd.exec
  have hby := Bd.bytes
  have hml : c.maxLocals = 7 := hml0
  have hown : s.vm.findClass "org/cartulary/repository/OperatorSwappedPinLaw" = some m.cls := findClass_of_methodNamed Bd.named
  have hnm := (name_of_methodNamed Bd.named Bd.method).1
  have X0 : Stand p l e room_1 s m #[(.int p0), (.int p1)] below meth c s₁ [] 0 0 := Stand.of_body Bd
  have e0 : s₁.heap = h0 := by rw [← hh, Bd.state]; rfl
  have N0 := Fr.nil Z.heap.size
  have pre0 : ∀ t, Steps p.tables e below (s₁.setTop (mkF m 0 #[.val (.int p0), .val (.int p1), .unset, .unset, .unset, .unset, .unset] [])) t → Steps p.tables e below (s₁.setTop (entryFrame m #[(.int p0), (.int p1)] maxLocals)) t := fun t k => castTop (ef_3 m (.int p0) rfl (.int p1) rfl) k
  obtain ⟨_, _, ⟨T1, L1, k1, n1⟩, -, X1, ⟨Lc1, hQ1, l1, y1, z1⟩, st1⟩ := Jvm.LawKit.callS X0 hx (y := (⟨"org/cartulary/repository/OperatorSwappedPinLaw", "pick", "(I)Lorg/cartulary/repository/Condition$Operator;"⟩ : MethodName)) hown (mvT hZ (W hw 0 rfl)) (mvT hZ (W hw 1 rfl)) (mvT hZ (W hw 2 rfl)) (mvT hZ (W hw 3 rfl)) (by decide) (backOf (W := 0) (rm_58 l Z a0 hw w kk hN [] p0 h0 O0 hp0) hZ (W hw 3 rfl) (W hw 2 rfl) (by decide) (by decide)) (g := (mkF m 1 #[.val (.int p0), .val (.int p1), .unset, .unset, .unset, .unset, .unset] [(.int p0)])) rfl (by rw [hml]; rfl) (argsL := [(.int p0)]) (rest := []) (lenOf pd_0 rfl) rfl (by show 2 * 0 + _ ≤ _; exact Nat.le_of_eq rfl) (hb hby at_1) (fun _ _ => ⟨rfl, e0, (by decide : 0 + 0 ≤ _), (by decide : 0 + 0 ≤ _)⟩)
  dsimp only [Pt.U, Pt.locs, Pt.cells, Pt.slots] at X1 l1 y1 z1 st1 hQ1
  subst l1 y1 z1
  obtain ⟨rfl, N1q, e1⟩ := hQ1
  have N1 := Fr.app N0 N1q
  obtain ⟨cq2, kq2, q2a, q2b, q2c⟩ := isOf hZ e1 (hE4.ext O0.2)
  obtain ⟨_, _, ⟨T2, L2, k2, n2⟩, -, X2, ⟨Lc2, hQ2, l2, y2, z2⟩, st2⟩ := X1.virtualBack hx (y := (⟨"org/cartulary/repository/Condition$Operator", "swapped", "()Lorg/cartulary/repository/Condition$Operator;"⟩ : MethodName)) (z := (⟨"org/cartulary/repository/Condition$Operator", "swapped", "()Lorg/cartulary/repository/Condition$Operator;"⟩ : MethodName)) hown (mvT hZ (W hw 8 rfl)) (mvT hZ (W hw 9 rfl)) (notFace_of_selects (args := #[]) (mvT hZ (W hw 11 rfl))) (mvT hZ (W hw 11 rfl)) (mvT hZ (W hw 10 rfl)) (by decide) (backOf (W := 0) (rm_42 l Z a0 hw w kk hN [] h0 O0) hZ (W hw 12 rfl) (W hw 6 rfl) (by decide) (by decide)) q2a q2c (g := (mkF m 24 #[.val (.int p0), .val (.int p1), .val (.ref (w 4)), .val (.int (-1 : Int32)), .unset, .unset, .unset] [(.ref (w 4))])) rfl (by rw [hml]; rfl) (Steps.refl _) (argsL := []) (rest := []) (lenOf pd_2 rfl) rfl (by show 2 * 0 + _ ≤ _; exact Nat.le_of_eq rfl) (hb hby at_24) (fun _ _ => ⟨rfl, e1, (by decide : 0 + 0 ≤ _), (by decide : 0 + 0 ≤ _)⟩)
  dsimp only [Pt.U, Pt.locs, Pt.cells, Pt.slots] at X2 l2 y2 z2 st2 hQ2
  subst l2 y2 z2
  obtain ⟨rfl, N2q, e2⟩ := hQ2
  have N2 := Fr.app N1 N2q
  obtain ⟨cq3, kq3, q3a, q3b, q3c⟩ := isOf hZ e2 (hE5.ext O0.2)
  obtain ⟨_, _, ⟨T3, L3, k3, n3⟩, -, X3, ⟨Lc3, hQ3, l3, y3, z3⟩, st3⟩ := X2.virtualBack hx (y := (⟨"org/cartulary/repository/Condition$Operator", "holds", "(I)Z"⟩ : MethodName)) (z := (⟨"org/cartulary/repository/Condition$Operator", "holds", "(I)Z"⟩ : MethodName)) hown (mvT hZ (W hw 22 rfl)) (mvT hZ (W hw 23 rfl)) (notFace_of_selects (args := #[]) (mvT hZ (W hw 25 rfl))) (mvT hZ (W hw 25 rfl)) (mvT hZ (W hw 24 rfl)) (by decide) (backOf (W := 0) (rm_59 l Z a0 hw w kk hN [] h0 O0) hZ (W hw 26 rfl) (W hw 6 rfl) (by decide) (by decide)) q3a q3c (g := (mkF m 32 #[.val (.int p0), .val (.int p1), .val (.ref (w 4)), .val (.int (-1 : Int32)), .val (.ref (w 5)), .unset, .unset] [(.int (-1 : Int32)), (.ref (w 5))])) rfl (by rw [hml]; rfl) (Steps.refl _) (argsL := [(.int (-1 : Int32))]) (rest := []) (lenOf pd_3 rfl) rfl (by show 2 * 0 + _ ≤ _; exact Nat.le_of_eq rfl) (hb hby at_32) (fun _ _ => ⟨rfl, e2, (by decide : 0 + 0 ≤ _), (by decide : 0 + 0 ≤ _)⟩)
  dsimp only [Pt.U, Pt.locs, Pt.cells, Pt.slots] at X3 l3 y3 z3 st3 hQ3
  subst l3 y3 z3
  obtain ⟨rfl, N3q, e3⟩ := hQ3
  have N3 := Fr.app N2 N3q
  obtain ⟨cq4, kq4, q4a, q4b, q4c⟩ := isOf hZ e3 (hE4.ext O0.2)
  obtain ⟨_, _, ⟨T4, L4, k4, n4⟩, -, X4, ⟨Lc4, hQ4, l4, y4, z4⟩, st4⟩ := X3.virtualBack hx (y := (⟨"org/cartulary/repository/Condition$Operator", "holds", "(I)Z"⟩ : MethodName)) (z := (⟨"org/cartulary/repository/Condition$Operator", "holds", "(I)Z"⟩ : MethodName)) hown (mvT hZ (W hw 22 rfl)) (mvT hZ (W hw 23 rfl)) (notFace_of_selects (args := #[]) (mvT hZ (W hw 25 rfl))) (mvT hZ (W hw 25 rfl)) (mvT hZ (W hw 24 rfl)) (by decide) (backOf (W := 1) (rm_60 l Z a0 hw w kk hN [] p1 h0 O0 hp2) hZ (W hw 26 rfl) (W hw 6 rfl) (by decide) (by decide)) q4a q4c (g := (mkF m 37 #[.val (.int p0), .val (.int p1), .val (.ref (w 4)), .val (.int (-1 : Int32)), .val (.ref (w 5)), .unset, .unset] [(.int p1), (.ref (w 4)), (.int (1 : Int32))])) rfl (by rw [hml]; rfl) (Steps.refl _) (argsL := [(.int p1)]) (rest := [(.int (1 : Int32))]) (lenOf pd_3 rfl) rfl (by show 2 * 0 + _ ≤ _; exact Nat.le_of_eq rfl) (hb hby at_37) (fun _ _ => ⟨rfl, e3, (by decide : 0 + 0 ≤ _), (by decide : 0 + 0 ≤ _)⟩)
  dsimp only [Pt.U, Pt.locs, Pt.cells, Pt.slots] at X4 l4 y4 z4 st4 hQ4
  subst l4 y4 z4
  obtain ⟨rfl, N4q, e4⟩ := hQ4
  have N4 := Fr.app N3 N4q
  obtain ⟨cq5, kq5, q5a, q5b, q5c⟩ := isOf hZ e4 (hE5.ext O0.2)
  obtain ⟨_, _, ⟨T5, L5, k5, n5⟩, -, X5, ⟨Lc5, hQ5, l5, y5, z5⟩, st5⟩ := X4.virtualBack hx (y := (⟨"org/cartulary/repository/Condition$Operator", "swapped", "()Lorg/cartulary/repository/Condition$Operator;"⟩ : MethodName)) (z := (⟨"org/cartulary/repository/Condition$Operator", "swapped", "()Lorg/cartulary/repository/Condition$Operator;"⟩ : MethodName)) hown (mvT hZ (W hw 8 rfl)) (mvT hZ (W hw 9 rfl)) (notFace_of_selects (args := #[]) (mvT hZ (W hw 11 rfl))) (mvT hZ (W hw 11 rfl)) (mvT hZ (W hw 10 rfl)) (by decide) (backOf (W := 0) (rm_38 l Z a0 hw w kk hN [] h0 O0) hZ (W hw 12 rfl) (W hw 6 rfl) (by decide) (by decide)) q5a q5c (g := (mkF m 52 #[.val (.int p0), .val (.int p1), .val (.ref (w 4)), .val (.int (-1 : Int32)), .val (.ref (w 5)), .val (.int (1 : Int32)), .unset] [(.ref (w 5))])) rfl (by rw [hml]; rfl) (Steps.refl _) (argsL := []) (rest := []) (lenOf pd_2 rfl) rfl (by show 2 * 0 + _ ≤ _; exact Nat.le_of_eq rfl) (hb hby at_52) (fun _ _ => ⟨rfl, e4, (by decide : 0 + 0 ≤ _), (by decide : 0 + 0 ≤ _)⟩)
  dsimp only [Pt.U, Pt.locs, Pt.cells, Pt.slots] at X5 l5 y5 z5 st5 hQ5
  subst l5 y5 z5
  obtain ⟨rfl, N5q, e5⟩ := hQ5
  have N5 := Fr.app N4 N5q
  obtain ⟨fs, hr, hrun, hended, hW, hsame⟩ := X5.leave (v := some (.int (1 : Int32))) (fun h => by rw [Bd.returns] at h; cases h)
  refine ⟨_, _, pre0 _ ?_, hrun, hended, _, _, rfl, ?_, ⟨_, rfl⟩, hW, hsame.mono (by decide) (by decide)⟩
  · show Steps p.tables e below (s₁.setTop (mkF m 0 #[.val (.int p0), .val (.int p1), .unset, .unset, .unset, .unset, .unset] [])) _
    refine XS.iloadN X0.here hx rfl (hb hby at_0) rfl ?_
    show Steps p.tables e below (s₁.setTop (mkF m 1 #[.val (.int p0), .val (.int p1), .unset, .unset, .unset, .unset, .unset] [(.int p0)])) _
    refine st1 _ ?_
    show Steps p.tables e below (T1.setTop (mkF m 4 #[.val (.int p0), .val (.int p1), .unset, .unset, .unset, .unset, .unset] [(.ref (w 4))])) _
    refine XS.astoreN X1.here hx rfl (hb hby at_4) rfl rfl (l' := #[.val (.int p0), .val (.int p1), .val (.ref (w 4)), .unset, .unset, .unset, .unset]) rfl ?_
    show Steps p.tables e below (T1.setTop (mkF m 5 #[.val (.int p0), .val (.int p1), .val (.ref (w 4)), .unset, .unset, .unset, .unset] [])) _
    refine XS.iloadN X1.here hx rfl (hb hby at_5) rfl ?_
    show Steps p.tables e below (T1.setTop (mkF m 6 #[.val (.int p0), .val (.int p1), .val (.ref (w 4)), .unset, .unset, .unset, .unset] [(.int p1)])) _
    refine XS.ifNo X1.here hx rfl (hb hby at_6) rfl ((if0 _ _).trans (tlt hp1).2.2.2) ?_
    show Steps p.tables e below (T1.setTop (mkF m 9 #[.val (.int p0), .val (.int p1), .val (.ref (w 4)), .unset, .unset, .unset, .unset] [])) _
    refine XS.iconst X1.here hx rfl (hb hby at_9) ?_
    show Steps p.tables e below (T1.setTop (mkF m 10 #[.val (.int p0), .val (.int p1), .val (.ref (w 4)), .unset, .unset, .unset, .unset] [(.int (-1 : Int32))])) _
    refine XS.goto X1.here hx rfl (pc0 := 10) (pc' := 22) rfl (hb hby at_10) (by decide) (by decide) ?_
    show Steps p.tables e below (T1.setTop (mkF m 22 #[.val (.int p0), .val (.int p1), .val (.ref (w 4)), .unset, .unset, .unset, .unset] [(.int (-1 : Int32))])) _
    refine XS.istoreN X1.here hx rfl (hb hby at_22) rfl (l' := #[.val (.int p0), .val (.int p1), .val (.ref (w 4)), .val (.int (-1 : Int32)), .unset, .unset, .unset]) rfl ?_
    show Steps p.tables e below (T1.setTop (mkF m 23 #[.val (.int p0), .val (.int p1), .val (.ref (w 4)), .val (.int (-1 : Int32)), .unset, .unset, .unset] [])) _
    refine XS.aloadN X1.here hx rfl (hb hby at_23) rfl rfl ?_
    show Steps p.tables e below (T1.setTop (mkF m 24 #[.val (.int p0), .val (.int p1), .val (.ref (w 4)), .val (.int (-1 : Int32)), .unset, .unset, .unset] [(.ref (w 4))])) _
    refine st2.trans ?_
    show Steps p.tables e below (T2.setTop (mkF m 27 #[.val (.int p0), .val (.int p1), .val (.ref (w 4)), .val (.int (-1 : Int32)), .unset, .unset, .unset] [(.ref (w 5))])) _
    refine XS.astore X2.here hx rfl (hb hby at_27) rfl rfl (l' := #[.val (.int p0), .val (.int p1), .val (.ref (w 4)), .val (.int (-1 : Int32)), .val (.ref (w 5)), .unset, .unset]) rfl ?_
    show Steps p.tables e below (T2.setTop (mkF m 29 #[.val (.int p0), .val (.int p1), .val (.ref (w 4)), .val (.int (-1 : Int32)), .val (.ref (w 5)), .unset, .unset] [])) _
    refine XS.aload X2.here hx rfl (hb hby at_29) rfl rfl ?_
    show Steps p.tables e below (T2.setTop (mkF m 31 #[.val (.int p0), .val (.int p1), .val (.ref (w 4)), .val (.int (-1 : Int32)), .val (.ref (w 5)), .unset, .unset] [(.ref (w 5))])) _
    refine XS.iloadN X2.here hx rfl (hb hby at_31) rfl ?_
    show Steps p.tables e below (T2.setTop (mkF m 32 #[.val (.int p0), .val (.int p1), .val (.ref (w 4)), .val (.int (-1 : Int32)), .val (.ref (w 5)), .unset, .unset] [(.int (-1 : Int32)), (.ref (w 5))])) _
    refine st3.trans ?_
    show Steps p.tables e below (T3.setTop (mkF m 35 #[.val (.int p0), .val (.int p1), .val (.ref (w 4)), .val (.int (-1 : Int32)), .val (.ref (w 5)), .unset, .unset] [(.int (1 : Int32))])) _
    refine XS.aloadN X3.here hx rfl (hb hby at_35) rfl rfl ?_
    show Steps p.tables e below (T3.setTop (mkF m 36 #[.val (.int p0), .val (.int p1), .val (.ref (w 4)), .val (.int (-1 : Int32)), .val (.ref (w 5)), .unset, .unset] [(.ref (w 4)), (.int (1 : Int32))])) _
    refine XS.iloadN X3.here hx rfl (hb hby at_36) rfl ?_
    show Steps p.tables e below (T3.setTop (mkF m 37 #[.val (.int p0), .val (.int p1), .val (.ref (w 4)), .val (.int (-1 : Int32)), .val (.ref (w 5)), .unset, .unset] [(.int p1), (.ref (w 4)), (.int (1 : Int32))])) _
    refine st4.trans ?_
    show Steps p.tables e below (T4.setTop (mkF m 40 #[.val (.int p0), .val (.int p1), .val (.ref (w 4)), .val (.int (-1 : Int32)), .val (.ref (w 5)), .unset, .unset] [(.int (1 : Int32)), (.int (1 : Int32))])) _
    refine XS.icmpNo X4.here hx rfl (hb hby at_40) rfl (teq (by decide : (1 : Int32) = (1 : Int32))).2 ?_
    show Steps p.tables e below (T4.setTop (mkF m 43 #[.val (.int p0), .val (.int p1), .val (.ref (w 4)), .val (.int (-1 : Int32)), .val (.ref (w 5)), .unset, .unset] [])) _
    refine XS.iconst X4.here hx rfl (hb hby at_43) ?_
    show Steps p.tables e below (T4.setTop (mkF m 44 #[.val (.int p0), .val (.int p1), .val (.ref (w 4)), .val (.int (-1 : Int32)), .val (.ref (w 5)), .unset, .unset] [(.int (1 : Int32))])) _
    refine XS.goto X4.here hx rfl (pc0 := 44) (pc' := 48) rfl (hb hby at_44) (by decide) (by decide) ?_
    show Steps p.tables e below (T4.setTop (mkF m 48 #[.val (.int p0), .val (.int p1), .val (.ref (w 4)), .val (.int (-1 : Int32)), .val (.ref (w 5)), .unset, .unset] [(.int (1 : Int32))])) _
    refine XS.istore X4.here hx rfl (hb hby at_48) rfl (l' := #[.val (.int p0), .val (.int p1), .val (.ref (w 4)), .val (.int (-1 : Int32)), .val (.ref (w 5)), .val (.int (1 : Int32)), .unset]) rfl ?_
    show Steps p.tables e below (T4.setTop (mkF m 50 #[.val (.int p0), .val (.int p1), .val (.ref (w 4)), .val (.int (-1 : Int32)), .val (.ref (w 5)), .val (.int (1 : Int32)), .unset] [])) _
    refine XS.aload X4.here hx rfl (hb hby at_50) rfl rfl ?_
    show Steps p.tables e below (T4.setTop (mkF m 52 #[.val (.int p0), .val (.int p1), .val (.ref (w 4)), .val (.int (-1 : Int32)), .val (.ref (w 5)), .val (.int (1 : Int32)), .unset] [(.ref (w 5))])) _
    refine st5.trans ?_
    show Steps p.tables e below (T5.setTop (mkF m 55 #[.val (.int p0), .val (.int p1), .val (.ref (w 4)), .val (.int (-1 : Int32)), .val (.ref (w 5)), .val (.int (1 : Int32)), .unset] [(.ref (w 4))])) _
    refine XS.aloadN X5.here hx rfl (hb hby at_55) rfl rfl ?_
    show Steps p.tables e below (T5.setTop (mkF m 56 #[.val (.int p0), .val (.int p1), .val (.ref (w 4)), .val (.int (-1 : Int32)), .val (.ref (w 5)), .val (.int (1 : Int32)), .unset] [(.ref (w 4)), (.ref (w 4))])) _
    refine Jvm.RoadKit.acmp (g := (mkF m 56 #[.val (.int p0), .val (.int p1), .val (.ref (w 4)), .val (.int (-1 : Int32)), .val (.ref (w 5)), .val (.int (1 : Int32)), .unset] [(.ref (w 4)), (.ref (w 4))])) X5 hx rfl rfl rfl (pc0 := 56) (pc' := 59) (same := true) rfl (hb hby at_56) rfl (decide_eq_true rfl) (by decide) (by decide) ?_
    show Steps p.tables e below (T5.setTop (mkF m 59 #[.val (.int p0), .val (.int p1), .val (.ref (w 4)), .val (.int (-1 : Int32)), .val (.ref (w 5)), .val (.int (1 : Int32)), .unset] [])) _
    refine XS.iconst X5.here hx rfl (hb hby at_59) ?_
    show Steps p.tables e below (T5.setTop (mkF m 60 #[.val (.int p0), .val (.int p1), .val (.ref (w 4)), .val (.int (-1 : Int32)), .val (.ref (w 5)), .val (.int (1 : Int32)), .unset] [(.int (1 : Int32))])) _
    refine XS.goto X5.here hx rfl (pc0 := 60) (pc' := 64) rfl (hb hby at_60) (by decide) (by decide) ?_
    show Steps p.tables e below (T5.setTop (mkF m 64 #[.val (.int p0), .val (.int p1), .val (.ref (w 4)), .val (.int (-1 : Int32)), .val (.ref (w 5)), .val (.int (1 : Int32)), .unset] [(.int (1 : Int32))])) _
    refine XS.istore X5.here hx rfl (hb hby at_64) rfl (l' := #[.val (.int p0), .val (.int p1), .val (.ref (w 4)), .val (.int (-1 : Int32)), .val (.ref (w 5)), .val (.int (1 : Int32)), .val (.int (1 : Int32))]) rfl ?_
    show Steps p.tables e below (T5.setTop (mkF m 66 #[.val (.int p0), .val (.int p1), .val (.ref (w 4)), .val (.int (-1 : Int32)), .val (.ref (w 5)), .val (.int (1 : Int32)), .val (.int (1 : Int32))] [])) _
    refine XS.iload X5.here hx rfl (hb hby at_66) rfl ?_
    show Steps p.tables e below (T5.setTop (mkF m 68 #[.val (.int p0), .val (.int p1), .val (.ref (w 4)), .val (.int (-1 : Int32)), .val (.ref (w 5)), .val (.int (1 : Int32)), .val (.int (1 : Int32))] [(.int (1 : Int32))])) _
    refine XS.ifNo X5.here hx rfl (hb hby at_68) rfl ((if0 _ _).trans (feq (by decide : ¬ ((1 : Int32) = (0 : Int32)))).1) ?_
    show Steps p.tables e below (T5.setTop (mkF m 71 #[.val (.int p0), .val (.int p1), .val (.ref (w 4)), .val (.int (-1 : Int32)), .val (.ref (w 5)), .val (.int (1 : Int32)), .val (.int (1 : Int32))] [])) _
    refine XS.iload X5.here hx rfl (hb hby at_71) rfl ?_
    show Steps p.tables e below (T5.setTop (mkF m 73 #[.val (.int p0), .val (.int p1), .val (.ref (w 4)), .val (.int (-1 : Int32)), .val (.ref (w 5)), .val (.int (1 : Int32)), .val (.int (1 : Int32))] [(.int (1 : Int32))])) _
    refine XS.ifNo X5.here hx rfl (hb hby at_73) rfl ((if0 _ _).trans (feq (by decide : ¬ ((1 : Int32) = (0 : Int32)))).1) ?_
    show Steps p.tables e below (T5.setTop (mkF m 76 #[.val (.int p0), .val (.int p1), .val (.ref (w 4)), .val (.int (-1 : Int32)), .val (.ref (w 5)), .val (.int (1 : Int32)), .val (.int (1 : Int32))] [])) _
    refine XS.iconst X5.here hx rfl (hb hby at_76) ?_
    show Steps p.tables e below (T5.setTop (mkF m 77 #[.val (.int p0), .val (.int p1), .val (.ref (w 4)), .val (.int (-1 : Int32)), .val (.ref (w 5)), .val (.int (1 : Int32)), .val (.int (1 : Int32))] [(.int (1 : Int32))])) _
    refine XS.goto X5.here hx rfl (pc0 := 77) (pc' := 81) rfl (hb hby at_77) (by decide) (by decide) ?_
    show Steps p.tables e below (T5.setTop (mkF m 81 #[.val (.int p0), .val (.int p1), .val (.ref (w 4)), .val (.int (-1 : Int32)), .val (.ref (w 5)), .val (.int (1 : Int32)), .val (.int (1 : Int32))] [(.int (1 : Int32))])) _
    exact retN X5 hx (t := .boolean) Bd.returns (by simp) (hb hby at_81) hr
  · show OL (some (.int (1 : Int32))) Z.heap.size _ T5.heap _
    exact ⟨rfl, N5⟩
set_option maxRecDepth 65536 in
set_option maxHeartbeats 40000000 in
theorem rm_62 (l : Launch) (Z : State) (a0 : Array Value) (hw : ∀ d ∈ tables_1, d.before a0 Z = true) (w : Nat → Addr) (kk : Nat → ClassId) (hN : Wd Z w kk) (ws : List Jvm.Cond)  (h0 : Heap) (O0 : Old Z Z.heap.size h0) :
    MetFree l (⟨"org/cartulary/repository/Condition$Operator", "holds", "(I)Z"⟩ : MethodName) (head1 (Jvm.Cond.code (⟨"org/cartulary/repository/Condition$Operator", "holds", "(I)Z"⟩ : MethodName) prog_67_method_5_code 2 (some .boolean) :: ws) ({ frames := 1, cells := 0, slots := 0, locals := 12 } : Room)) (fun a U => a = #[(.ref (w 5)), (.int (1 : Int32))] ∧ Z.Warmed39 U.vm ∧ U.heap = h0) (fun _ _ _ _ _ => True) (fun _ U o U' => ∃ v L, o = .returned v ∧ OQ (some (.int (0 : Int32))) h0 Z.heap.size v U'.heap L ∧ FrameEnd U o U' L ({ frames := 1, cells := 0, slots := 0, locals := 12 } : Room).cells ({ frames := 1, cells := 0, slots := 0, locals := 12 } : Room).slots) := by
  have hN' := hN
  obtain ⟨hS0, hE0, hS1, hE1, hS2, hE2, hS3, hE3, hS4, hE4, hS5, hE5, hF0_ordinal, hF1_ordinal, hF2_ordinal, hF3_ordinal, hF4_ordinal, hF5_ordinal⟩ := hN'
  refine MetFree.of_bodySF (plainFor_of_name pn_2) hisR ?_
  intro p e s m args below meth c s₁ Bd hml0 hP hK
  obtain ⟨rfl, hZ, hh⟩ := hP
  have hx := Bd.exec
  have hby := Bd.bytes
  have hml : c.maxLocals = 2 := hml0
  have hown : s.vm.findClass "org/cartulary/repository/Condition$Operator" = some m.cls := findClass_of_methodNamed Bd.named
  have hnm := (name_of_methodNamed Bd.named Bd.method).1
  have X0 : Stand p l e ({ frames := 1, cells := 0, slots := 0, locals := 12 } : Room) s m #[(.ref (w 5)), (.int (1 : Int32))] below meth c s₁ [] 0 0 := Stand.of_body Bd
  have e0 : s₁.heap = h0 := by rw [← hh, Bd.state]; rfl
  have N0 := Fr.nil Z.heap.size
  have pre0 : ∀ t, Steps p.tables e below (s₁.setTop (mkF m 0 #[.val (.ref (w 5)), .val (.int (1 : Int32))] [])) t → Steps p.tables e below (s₁.setTop (entryFrame m #[(.ref (w 5)), (.int (1 : Int32))] 2)) t := fun t k => castTop (ef_2 m (.ref (w 5)) rfl (.int (1 : Int32)) rfl) k
  obtain ⟨cq1, kq1, q1a, q1b, q1c⟩ := isOf hZ e0 (hE5.ext O0.2)
  obtain ⟨_, _, ⟨T1, L1, k1, n1⟩, -, X1, ⟨Lc1, hQ1, l1, y1, z1⟩, st1⟩ := X0.virtualBackUp hx (x := (⟨"org/cartulary/repository/Condition$Operator", "ordinal", "()I"⟩ : MethodName)) (y := (⟨"java/lang/Enum", "ordinal", "()I"⟩ : MethodName)) (owner := "java/lang/Enum") hown (mvT hZ (W hw 13 rfl)) (mvT hZ (W hw 14 rfl)) (mvT hZ (W hw 15 rfl)) (by decide) (mvT hZ (W hw 17 rfl)) (mvT hZ (W hw 16 rfl)) (backOf (W := 0) (rm_37 l Z a0 hw w kk hN [] h0 O0) hZ (W hw 19 rfl) (W hw 18 rfl) (by decide) (by decide)) q1a q1c (g := (mkF m 1 #[.val (.ref (w 5)), .val (.int (1 : Int32))] [(.ref (w 5))])) rfl (by rw [hml]; rfl) (Steps.refl _) (argsL := []) (rest := []) (lenOf pd_1 rfl) rfl (by show 2 * 0 + _ ≤ _; exact Nat.le_of_eq rfl) (hb hby d_prog_67_method_5_code_1) (fun _ _ => ⟨rfl, e0, (by decide : 0 + 0 ≤ _), (by decide : 0 + 0 ≤ _)⟩)
  dsimp only [Pt.U, Pt.locs, Pt.cells, Pt.slots] at X1 l1 y1 z1 st1 hQ1
  subst l1 y1 z1
  obtain ⟨rfl, N1q, e1⟩ := hQ1
  have N1 := Fr.app N0 N1q
  obtain ⟨fs, hr, hrun, hended, hW, hsame⟩ := X1.leave (v := some (.int (0 : Int32))) (fun h => by rw [Bd.returns] at h; cases h)
  refine ⟨_, _, pre0 _ ?_, hrun, hended, _, _, rfl, ?_, ⟨_, rfl⟩, hW, hsame.mono (by decide) (by decide)⟩
  · show Steps p.tables e below (s₁.setTop (mkF m 0 #[.val (.ref (w 5)), .val (.int (1 : Int32))] [])) _
    refine XS.aloadN X0.here hx rfl (hb hby d_prog_67_method_5_code_0) rfl rfl ?_
    show Steps p.tables e below (s₁.setTop (mkF m 1 #[.val (.ref (w 5)), .val (.int (1 : Int32))] [(.ref (w 5))])) _
    refine st1.trans ?_
    show Steps p.tables e below (T1.setTop (mkF m 4 #[.val (.ref (w 5)), .val (.int (1 : Int32))] [(.int (3 : Int32))])) _
    refine XS.tswIn X1.here hx rfl (pc0 := 4) (pc' := 90) (o := 86) rfl (hb hby d_prog_67_method_5_code_4) rfl (by decide) (by decide) (by decide) (by decide) ?_
    show Steps p.tables e below (T1.setTop (mkF m 90 #[.val (.ref (w 5)), .val (.int (1 : Int32))] [])) _
    refine XS.iloadN X1.here hx rfl (hb hby d_prog_67_method_5_code_90) rfl ?_
    show Steps p.tables e below (T1.setTop (mkF m 91 #[.val (.ref (w 5)), .val (.int (1 : Int32))] [(.int (1 : Int32))])) _
    refine XS.ifYes X1.here hx rfl (pc0 := 91) (pc' := 98) rfl (hb hby d_prog_67_method_5_code_91) rfl ((if0 _ _).trans (tlt (by decide : (0 : Int32) < (1 : Int32))).2.2.1) (by decide) (by decide) ?_
    show Steps p.tables e below (T1.setTop (mkF m 98 #[.val (.ref (w 5)), .val (.int (1 : Int32))] [])) _
    refine XS.iconst X1.here hx rfl (hb hby d_prog_67_method_5_code_98) ?_
    show Steps p.tables e below (T1.setTop (mkF m 99 #[.val (.ref (w 5)), .val (.int (1 : Int32))] [(.int (0 : Int32))])) _
    refine XS.goto X1.here hx rfl (pc0 := 99) (pc' := 123) rfl (hb hby d_prog_67_method_5_code_99) (by decide) (by decide) ?_
    show Steps p.tables e below (T1.setTop (mkF m 123 #[.val (.ref (w 5)), .val (.int (1 : Int32))] [(.int (0 : Int32))])) _
    exact retN X1 hx (t := .boolean) Bd.returns (by simp) (hb hby d_prog_67_method_5_code_123) hr
  · show OQ (some (.int (0 : Int32))) h0 Z.heap.size _ T1.heap _
    rw [e1]
    exact ⟨rfl, N1, rfl⟩
set_option maxRecDepth 65536 in
set_option maxHeartbeats 40000000 in
theorem rm_63 (l : Launch) (Z : State) (a0 : Array Value) (hw : ∀ d ∈ tables_1, d.before a0 Z = true) (w : Nat → Addr) (kk : Nat → ClassId) (hN : Wd Z w kk) (ws : List Jvm.Cond) (p1 : Int32) (h0 : Heap) (O0 : Old Z Z.heap.size h0) (hp0 : p1 < (0 : Int32)) :
    MetFree l (⟨"org/cartulary/repository/Condition$Operator", "holds", "(I)Z"⟩ : MethodName) (head1 (Jvm.Cond.code (⟨"org/cartulary/repository/Condition$Operator", "holds", "(I)Z"⟩ : MethodName) prog_67_method_5_code 2 (some .boolean) :: ws) ({ frames := 1, cells := 0, slots := 0, locals := 12 } : Room)) (fun a U => a = #[(.ref (w 4)), (.int p1)] ∧ Z.Warmed39 U.vm ∧ U.heap = h0) (fun _ _ _ _ _ => True) (fun _ U o U' => ∃ v L, o = .returned v ∧ OQ (some (.int (0 : Int32))) h0 Z.heap.size v U'.heap L ∧ FrameEnd U o U' L ({ frames := 1, cells := 0, slots := 0, locals := 12 } : Room).cells ({ frames := 1, cells := 0, slots := 0, locals := 12 } : Room).slots) := by
  have hN' := hN
  obtain ⟨hS0, hE0, hS1, hE1, hS2, hE2, hS3, hE3, hS4, hE4, hS5, hE5, hF0_ordinal, hF1_ordinal, hF2_ordinal, hF3_ordinal, hF4_ordinal, hF5_ordinal⟩ := hN'
  refine MetFree.of_bodySF (plainFor_of_name pn_2) hisR ?_
  intro p e s m args below meth c s₁ Bd hml0 hP hK
  obtain ⟨rfl, hZ, hh⟩ := hP
  have hx := Bd.exec
  have hby := Bd.bytes
  have hml : c.maxLocals = 2 := hml0
  have hown : s.vm.findClass "org/cartulary/repository/Condition$Operator" = some m.cls := findClass_of_methodNamed Bd.named
  have hnm := (name_of_methodNamed Bd.named Bd.method).1
  have X0 : Stand p l e ({ frames := 1, cells := 0, slots := 0, locals := 12 } : Room) s m #[(.ref (w 4)), (.int p1)] below meth c s₁ [] 0 0 := Stand.of_body Bd
  have e0 : s₁.heap = h0 := by rw [← hh, Bd.state]; rfl
  have N0 := Fr.nil Z.heap.size
  have pre0 : ∀ t, Steps p.tables e below (s₁.setTop (mkF m 0 #[.val (.ref (w 4)), .val (.int p1)] [])) t → Steps p.tables e below (s₁.setTop (entryFrame m #[(.ref (w 4)), (.int p1)] 2)) t := fun t k => castTop (ef_2 m (.ref (w 4)) rfl (.int p1) rfl) k
  obtain ⟨cq1, kq1, q1a, q1b, q1c⟩ := isOf hZ e0 (hE4.ext O0.2)
  obtain ⟨_, _, ⟨T1, L1, k1, n1⟩, -, X1, ⟨Lc1, hQ1, l1, y1, z1⟩, st1⟩ := X0.virtualBackUp hx (x := (⟨"org/cartulary/repository/Condition$Operator", "ordinal", "()I"⟩ : MethodName)) (y := (⟨"java/lang/Enum", "ordinal", "()I"⟩ : MethodName)) (owner := "java/lang/Enum") hown (mvT hZ (W hw 13 rfl)) (mvT hZ (W hw 14 rfl)) (mvT hZ (W hw 15 rfl)) (by decide) (mvT hZ (W hw 17 rfl)) (mvT hZ (W hw 16 rfl)) (backOf (W := 0) (rm_39 l Z a0 hw w kk hN [] h0 O0) hZ (W hw 19 rfl) (W hw 18 rfl) (by decide) (by decide)) q1a q1c (g := (mkF m 1 #[.val (.ref (w 4)), .val (.int p1)] [(.ref (w 4))])) rfl (by rw [hml]; rfl) (Steps.refl _) (argsL := []) (rest := []) (lenOf pd_1 rfl) rfl (by show 2 * 0 + _ ≤ _; exact Nat.le_of_eq rfl) (hb hby d_prog_67_method_5_code_1) (fun _ _ => ⟨rfl, e0, (by decide : 0 + 0 ≤ _), (by decide : 0 + 0 ≤ _)⟩)
  dsimp only [Pt.U, Pt.locs, Pt.cells, Pt.slots] at X1 l1 y1 z1 st1 hQ1
  subst l1 y1 z1
  obtain ⟨rfl, N1q, e1⟩ := hQ1
  have N1 := Fr.app N0 N1q
  obtain ⟨fs, hr, hrun, hended, hW, hsame⟩ := X1.leave (v := some (.int (0 : Int32))) (fun h => by rw [Bd.returns] at h; cases h)
  refine ⟨_, _, pre0 _ ?_, hrun, hended, _, _, rfl, ?_, ⟨_, rfl⟩, hW, hsame.mono (by decide) (by decide)⟩
  · show Steps p.tables e below (s₁.setTop (mkF m 0 #[.val (.ref (w 4)), .val (.int p1)] [])) _
    refine XS.aloadN X0.here hx rfl (hb hby d_prog_67_method_5_code_0) rfl rfl ?_
    show Steps p.tables e below (s₁.setTop (mkF m 1 #[.val (.ref (w 4)), .val (.int p1)] [(.ref (w 4))])) _
    refine st1.trans ?_
    show Steps p.tables e below (T1.setTop (mkF m 4 #[.val (.ref (w 4)), .val (.int p1)] [(.int (5 : Int32))])) _
    refine XS.tswIn X1.here hx rfl (pc0 := 4) (pc' := 114) (o := 110) rfl (hb hby d_prog_67_method_5_code_4) rfl (by decide) (by decide) (by decide) (by decide) ?_
    show Steps p.tables e below (T1.setTop (mkF m 114 #[.val (.ref (w 4)), .val (.int p1)] [])) _
    refine XS.iloadN X1.here hx rfl (hb hby d_prog_67_method_5_code_114) rfl ?_
    show Steps p.tables e below (T1.setTop (mkF m 115 #[.val (.ref (w 4)), .val (.int p1)] [(.int p1)])) _
    refine XS.ifYes X1.here hx rfl (pc0 := 115) (pc' := 122) rfl (hb hby d_prog_67_method_5_code_115) rfl ((if0 _ _).trans (tlt hp0).1) (by decide) (by decide) ?_
    show Steps p.tables e below (T1.setTop (mkF m 122 #[.val (.ref (w 4)), .val (.int p1)] [])) _
    refine XS.iconst X1.here hx rfl (hb hby d_prog_67_method_5_code_122) ?_
    show Steps p.tables e below (T1.setTop (mkF m 123 #[.val (.ref (w 4)), .val (.int p1)] [(.int (0 : Int32))])) _
    exact retN X1 hx (t := .boolean) Bd.returns (by simp) (hb hby d_prog_67_method_5_code_123) hr
  · show OQ (some (.int (0 : Int32))) h0 Z.heap.size _ T1.heap _
    rw [e1]
    exact ⟨rfl, N1, rfl⟩
set_option maxRecDepth 65536 in
set_option maxHeartbeats 40000000 in
theorem law_64 (l : Launch) (Z : State) (a0 : Array Value) (hw : ∀ d ∈ tables_1, d.before a0 Z = true) (w : Nat → Addr) (kk : Nat → ClassId) (hN : Wd Z w kk) (ws : List Jvm.Cond) (p0 : Int32) (p1 : Int32) (h0 : Heap) (O0 : Old Z Z.heap.size h0) (hp0 : ((p0 &&& (2147483647 : Int32)) % (6 : Int32)) = (5 : Int32)) (hp1 : ¬ ((0 : Int32) < p1)) (hp2 : p1 < (0 : Int32)) :
    MetFree l x (head1 (Jvm.Cond.code x code maxLocals ret :: ws) room_1) (fun a U => a = #[(.int p0), (.int p1)] ∧ Z.Warmed39 U.vm ∧ U.heap = h0) (fun _ _ _ _ _ => True) (fun _ U o U' => ∃ v L, o = .returned v ∧ OL (some (.int (1 : Int32))) Z.heap.size v U'.heap L ∧ FrameEnd U o U' L 0 0) := by
  have hN' := hN
  obtain ⟨hS0, hE0, hS1, hE1, hS2, hE2, hS3, hE3, hS4, hE4, hS5, hE5, hF0_ordinal, hF1_ordinal, hF2_ordinal, hF3_ordinal, hF4_ordinal, hF5_ordinal⟩ := hN'
  refine MetFree.of_bodySF (plainFor_of_name pn_0) hisR ?_
  intro p e s m args below meth c s₁ Bd hml0 hP hK
  obtain ⟨rfl, hZ, hh⟩ := hP
  have hx := Bd.exec
  have hby := Bd.bytes
  have hml : c.maxLocals = 7 := hml0
  have hown : s.vm.findClass "org/cartulary/repository/OperatorSwappedPinLaw" = some m.cls := findClass_of_methodNamed Bd.named
  have hnm := (name_of_methodNamed Bd.named Bd.method).1
  have X0 : Stand p l e room_1 s m #[(.int p0), (.int p1)] below meth c s₁ [] 0 0 := Stand.of_body Bd
  have e0 : s₁.heap = h0 := by rw [← hh, Bd.state]; rfl
  have N0 := Fr.nil Z.heap.size
  have pre0 : ∀ t, Steps p.tables e below (s₁.setTop (mkF m 0 #[.val (.int p0), .val (.int p1), .unset, .unset, .unset, .unset, .unset] [])) t → Steps p.tables e below (s₁.setTop (entryFrame m #[(.int p0), (.int p1)] maxLocals)) t := fun t k => castTop (ef_3 m (.int p0) rfl (.int p1) rfl) k
  obtain ⟨_, _, ⟨T1, L1, k1, n1⟩, -, X1, ⟨Lc1, hQ1, l1, y1, z1⟩, st1⟩ := Jvm.LawKit.callS X0 hx (y := (⟨"org/cartulary/repository/OperatorSwappedPinLaw", "pick", "(I)Lorg/cartulary/repository/Condition$Operator;"⟩ : MethodName)) hown (mvT hZ (W hw 0 rfl)) (mvT hZ (W hw 1 rfl)) (mvT hZ (W hw 2 rfl)) (mvT hZ (W hw 3 rfl)) (by decide) (backOf (W := 0) (rm_58 l Z a0 hw w kk hN [] p0 h0 O0 hp0) hZ (W hw 3 rfl) (W hw 2 rfl) (by decide) (by decide)) (g := (mkF m 1 #[.val (.int p0), .val (.int p1), .unset, .unset, .unset, .unset, .unset] [(.int p0)])) rfl (by rw [hml]; rfl) (argsL := [(.int p0)]) (rest := []) (lenOf pd_0 rfl) rfl (by show 2 * 0 + _ ≤ _; exact Nat.le_of_eq rfl) (hb hby at_1) (fun _ _ => ⟨rfl, e0, (by decide : 0 + 0 ≤ _), (by decide : 0 + 0 ≤ _)⟩)
  dsimp only [Pt.U, Pt.locs, Pt.cells, Pt.slots] at X1 l1 y1 z1 st1 hQ1
  subst l1 y1 z1
  obtain ⟨rfl, N1q, e1⟩ := hQ1
  have N1 := Fr.app N0 N1q
  obtain ⟨cq2, kq2, q2a, q2b, q2c⟩ := isOf hZ e1 (hE4.ext O0.2)
  obtain ⟨_, _, ⟨T2, L2, k2, n2⟩, -, X2, ⟨Lc2, hQ2, l2, y2, z2⟩, st2⟩ := X1.virtualBack hx (y := (⟨"org/cartulary/repository/Condition$Operator", "swapped", "()Lorg/cartulary/repository/Condition$Operator;"⟩ : MethodName)) (z := (⟨"org/cartulary/repository/Condition$Operator", "swapped", "()Lorg/cartulary/repository/Condition$Operator;"⟩ : MethodName)) hown (mvT hZ (W hw 8 rfl)) (mvT hZ (W hw 9 rfl)) (notFace_of_selects (args := #[]) (mvT hZ (W hw 11 rfl))) (mvT hZ (W hw 11 rfl)) (mvT hZ (W hw 10 rfl)) (by decide) (backOf (W := 0) (rm_42 l Z a0 hw w kk hN [] h0 O0) hZ (W hw 12 rfl) (W hw 6 rfl) (by decide) (by decide)) q2a q2c (g := (mkF m 24 #[.val (.int p0), .val (.int p1), .val (.ref (w 4)), .val (.int (1 : Int32)), .unset, .unset, .unset] [(.ref (w 4))])) rfl (by rw [hml]; rfl) (Steps.refl _) (argsL := []) (rest := []) (lenOf pd_2 rfl) rfl (by show 2 * 0 + _ ≤ _; exact Nat.le_of_eq rfl) (hb hby at_24) (fun _ _ => ⟨rfl, e1, (by decide : 0 + 0 ≤ _), (by decide : 0 + 0 ≤ _)⟩)
  dsimp only [Pt.U, Pt.locs, Pt.cells, Pt.slots] at X2 l2 y2 z2 st2 hQ2
  subst l2 y2 z2
  obtain ⟨rfl, N2q, e2⟩ := hQ2
  have N2 := Fr.app N1 N2q
  obtain ⟨cq3, kq3, q3a, q3b, q3c⟩ := isOf hZ e2 (hE5.ext O0.2)
  obtain ⟨_, _, ⟨T3, L3, k3, n3⟩, -, X3, ⟨Lc3, hQ3, l3, y3, z3⟩, st3⟩ := X2.virtualBack hx (y := (⟨"org/cartulary/repository/Condition$Operator", "holds", "(I)Z"⟩ : MethodName)) (z := (⟨"org/cartulary/repository/Condition$Operator", "holds", "(I)Z"⟩ : MethodName)) hown (mvT hZ (W hw 22 rfl)) (mvT hZ (W hw 23 rfl)) (notFace_of_selects (args := #[]) (mvT hZ (W hw 25 rfl))) (mvT hZ (W hw 25 rfl)) (mvT hZ (W hw 24 rfl)) (by decide) (backOf (W := 0) (rm_62 l Z a0 hw w kk hN [] h0 O0) hZ (W hw 26 rfl) (W hw 6 rfl) (by decide) (by decide)) q3a q3c (g := (mkF m 32 #[.val (.int p0), .val (.int p1), .val (.ref (w 4)), .val (.int (1 : Int32)), .val (.ref (w 5)), .unset, .unset] [(.int (1 : Int32)), (.ref (w 5))])) rfl (by rw [hml]; rfl) (Steps.refl _) (argsL := [(.int (1 : Int32))]) (rest := []) (lenOf pd_3 rfl) rfl (by show 2 * 0 + _ ≤ _; exact Nat.le_of_eq rfl) (hb hby at_32) (fun _ _ => ⟨rfl, e2, (by decide : 0 + 0 ≤ _), (by decide : 0 + 0 ≤ _)⟩)
  dsimp only [Pt.U, Pt.locs, Pt.cells, Pt.slots] at X3 l3 y3 z3 st3 hQ3
  subst l3 y3 z3
  obtain ⟨rfl, N3q, e3⟩ := hQ3
  have N3 := Fr.app N2 N3q
  obtain ⟨cq4, kq4, q4a, q4b, q4c⟩ := isOf hZ e3 (hE4.ext O0.2)
  obtain ⟨_, _, ⟨T4, L4, k4, n4⟩, -, X4, ⟨Lc4, hQ4, l4, y4, z4⟩, st4⟩ := X3.virtualBack hx (y := (⟨"org/cartulary/repository/Condition$Operator", "holds", "(I)Z"⟩ : MethodName)) (z := (⟨"org/cartulary/repository/Condition$Operator", "holds", "(I)Z"⟩ : MethodName)) hown (mvT hZ (W hw 22 rfl)) (mvT hZ (W hw 23 rfl)) (notFace_of_selects (args := #[]) (mvT hZ (W hw 25 rfl))) (mvT hZ (W hw 25 rfl)) (mvT hZ (W hw 24 rfl)) (by decide) (backOf (W := 1) (rm_63 l Z a0 hw w kk hN [] p1 h0 O0 hp2) hZ (W hw 26 rfl) (W hw 6 rfl) (by decide) (by decide)) q4a q4c (g := (mkF m 37 #[.val (.int p0), .val (.int p1), .val (.ref (w 4)), .val (.int (1 : Int32)), .val (.ref (w 5)), .unset, .unset] [(.int p1), (.ref (w 4)), (.int (0 : Int32))])) rfl (by rw [hml]; rfl) (Steps.refl _) (argsL := [(.int p1)]) (rest := [(.int (0 : Int32))]) (lenOf pd_3 rfl) rfl (by show 2 * 0 + _ ≤ _; exact Nat.le_of_eq rfl) (hb hby at_37) (fun _ _ => ⟨rfl, e3, (by decide : 0 + 0 ≤ _), (by decide : 0 + 0 ≤ _)⟩)
  dsimp only [Pt.U, Pt.locs, Pt.cells, Pt.slots] at X4 l4 y4 z4 st4 hQ4
  subst l4 y4 z4
  obtain ⟨rfl, N4q, e4⟩ := hQ4
  have N4 := Fr.app N3 N4q
  obtain ⟨cq5, kq5, q5a, q5b, q5c⟩ := isOf hZ e4 (hE5.ext O0.2)
  obtain ⟨_, _, ⟨T5, L5, k5, n5⟩, -, X5, ⟨Lc5, hQ5, l5, y5, z5⟩, st5⟩ := X4.virtualBack hx (y := (⟨"org/cartulary/repository/Condition$Operator", "swapped", "()Lorg/cartulary/repository/Condition$Operator;"⟩ : MethodName)) (z := (⟨"org/cartulary/repository/Condition$Operator", "swapped", "()Lorg/cartulary/repository/Condition$Operator;"⟩ : MethodName)) hown (mvT hZ (W hw 8 rfl)) (mvT hZ (W hw 9 rfl)) (notFace_of_selects (args := #[]) (mvT hZ (W hw 11 rfl))) (mvT hZ (W hw 11 rfl)) (mvT hZ (W hw 10 rfl)) (by decide) (backOf (W := 0) (rm_38 l Z a0 hw w kk hN [] h0 O0) hZ (W hw 12 rfl) (W hw 6 rfl) (by decide) (by decide)) q5a q5c (g := (mkF m 52 #[.val (.int p0), .val (.int p1), .val (.ref (w 4)), .val (.int (1 : Int32)), .val (.ref (w 5)), .val (.int (1 : Int32)), .unset] [(.ref (w 5))])) rfl (by rw [hml]; rfl) (Steps.refl _) (argsL := []) (rest := []) (lenOf pd_2 rfl) rfl (by show 2 * 0 + _ ≤ _; exact Nat.le_of_eq rfl) (hb hby at_52) (fun _ _ => ⟨rfl, e4, (by decide : 0 + 0 ≤ _), (by decide : 0 + 0 ≤ _)⟩)
  dsimp only [Pt.U, Pt.locs, Pt.cells, Pt.slots] at X5 l5 y5 z5 st5 hQ5
  subst l5 y5 z5
  obtain ⟨rfl, N5q, e5⟩ := hQ5
  have N5 := Fr.app N4 N5q
  obtain ⟨fs, hr, hrun, hended, hW, hsame⟩ := X5.leave (v := some (.int (1 : Int32))) (fun h => by rw [Bd.returns] at h; cases h)
  refine ⟨_, _, pre0 _ ?_, hrun, hended, _, _, rfl, ?_, ⟨_, rfl⟩, hW, hsame.mono (by decide) (by decide)⟩
  · show Steps p.tables e below (s₁.setTop (mkF m 0 #[.val (.int p0), .val (.int p1), .unset, .unset, .unset, .unset, .unset] [])) _
    refine XS.iloadN X0.here hx rfl (hb hby at_0) rfl ?_
    show Steps p.tables e below (s₁.setTop (mkF m 1 #[.val (.int p0), .val (.int p1), .unset, .unset, .unset, .unset, .unset] [(.int p0)])) _
    refine st1 _ ?_
    show Steps p.tables e below (T1.setTop (mkF m 4 #[.val (.int p0), .val (.int p1), .unset, .unset, .unset, .unset, .unset] [(.ref (w 4))])) _
    refine XS.astoreN X1.here hx rfl (hb hby at_4) rfl rfl (l' := #[.val (.int p0), .val (.int p1), .val (.ref (w 4)), .unset, .unset, .unset, .unset]) rfl ?_
    show Steps p.tables e below (T1.setTop (mkF m 5 #[.val (.int p0), .val (.int p1), .val (.ref (w 4)), .unset, .unset, .unset, .unset] [])) _
    refine XS.iloadN X1.here hx rfl (hb hby at_5) rfl ?_
    show Steps p.tables e below (T1.setTop (mkF m 6 #[.val (.int p0), .val (.int p1), .val (.ref (w 4)), .unset, .unset, .unset, .unset] [(.int p1)])) _
    refine XS.ifYes X1.here hx rfl (pc0 := 6) (pc' := 13) rfl (hb hby at_6) rfl ((if0 _ _).trans (flt hp1).2.2.2) (by decide) (by decide) ?_
    show Steps p.tables e below (T1.setTop (mkF m 13 #[.val (.int p0), .val (.int p1), .val (.ref (w 4)), .unset, .unset, .unset, .unset] [])) _
    refine XS.iloadN X1.here hx rfl (hb hby at_13) rfl ?_
    show Steps p.tables e below (T1.setTop (mkF m 14 #[.val (.int p0), .val (.int p1), .val (.ref (w 4)), .unset, .unset, .unset, .unset] [(.int p1)])) _
    refine XS.ifNo X1.here hx rfl (hb hby at_14) rfl ((if0 _ _).trans (tlt hp2).2.1) ?_
    show Steps p.tables e below (T1.setTop (mkF m 17 #[.val (.int p0), .val (.int p1), .val (.ref (w 4)), .unset, .unset, .unset, .unset] [])) _
    refine XS.iconst X1.here hx rfl (hb hby at_17) ?_
    show Steps p.tables e below (T1.setTop (mkF m 18 #[.val (.int p0), .val (.int p1), .val (.ref (w 4)), .unset, .unset, .unset, .unset] [(.int (1 : Int32))])) _
    refine XS.goto X1.here hx rfl (pc0 := 18) (pc' := 22) rfl (hb hby at_18) (by decide) (by decide) ?_
    show Steps p.tables e below (T1.setTop (mkF m 22 #[.val (.int p0), .val (.int p1), .val (.ref (w 4)), .unset, .unset, .unset, .unset] [(.int (1 : Int32))])) _
    refine XS.istoreN X1.here hx rfl (hb hby at_22) rfl (l' := #[.val (.int p0), .val (.int p1), .val (.ref (w 4)), .val (.int (1 : Int32)), .unset, .unset, .unset]) rfl ?_
    show Steps p.tables e below (T1.setTop (mkF m 23 #[.val (.int p0), .val (.int p1), .val (.ref (w 4)), .val (.int (1 : Int32)), .unset, .unset, .unset] [])) _
    refine XS.aloadN X1.here hx rfl (hb hby at_23) rfl rfl ?_
    show Steps p.tables e below (T1.setTop (mkF m 24 #[.val (.int p0), .val (.int p1), .val (.ref (w 4)), .val (.int (1 : Int32)), .unset, .unset, .unset] [(.ref (w 4))])) _
    refine st2.trans ?_
    show Steps p.tables e below (T2.setTop (mkF m 27 #[.val (.int p0), .val (.int p1), .val (.ref (w 4)), .val (.int (1 : Int32)), .unset, .unset, .unset] [(.ref (w 5))])) _
    refine XS.astore X2.here hx rfl (hb hby at_27) rfl rfl (l' := #[.val (.int p0), .val (.int p1), .val (.ref (w 4)), .val (.int (1 : Int32)), .val (.ref (w 5)), .unset, .unset]) rfl ?_
    show Steps p.tables e below (T2.setTop (mkF m 29 #[.val (.int p0), .val (.int p1), .val (.ref (w 4)), .val (.int (1 : Int32)), .val (.ref (w 5)), .unset, .unset] [])) _
    refine XS.aload X2.here hx rfl (hb hby at_29) rfl rfl ?_
    show Steps p.tables e below (T2.setTop (mkF m 31 #[.val (.int p0), .val (.int p1), .val (.ref (w 4)), .val (.int (1 : Int32)), .val (.ref (w 5)), .unset, .unset] [(.ref (w 5))])) _
    refine XS.iloadN X2.here hx rfl (hb hby at_31) rfl ?_
    show Steps p.tables e below (T2.setTop (mkF m 32 #[.val (.int p0), .val (.int p1), .val (.ref (w 4)), .val (.int (1 : Int32)), .val (.ref (w 5)), .unset, .unset] [(.int (1 : Int32)), (.ref (w 5))])) _
    refine st3.trans ?_
    show Steps p.tables e below (T3.setTop (mkF m 35 #[.val (.int p0), .val (.int p1), .val (.ref (w 4)), .val (.int (1 : Int32)), .val (.ref (w 5)), .unset, .unset] [(.int (0 : Int32))])) _
    refine XS.aloadN X3.here hx rfl (hb hby at_35) rfl rfl ?_
    show Steps p.tables e below (T3.setTop (mkF m 36 #[.val (.int p0), .val (.int p1), .val (.ref (w 4)), .val (.int (1 : Int32)), .val (.ref (w 5)), .unset, .unset] [(.ref (w 4)), (.int (0 : Int32))])) _
    refine XS.iloadN X3.here hx rfl (hb hby at_36) rfl ?_
    show Steps p.tables e below (T3.setTop (mkF m 37 #[.val (.int p0), .val (.int p1), .val (.ref (w 4)), .val (.int (1 : Int32)), .val (.ref (w 5)), .unset, .unset] [(.int p1), (.ref (w 4)), (.int (0 : Int32))])) _
    refine st4.trans ?_
    show Steps p.tables e below (T4.setTop (mkF m 40 #[.val (.int p0), .val (.int p1), .val (.ref (w 4)), .val (.int (1 : Int32)), .val (.ref (w 5)), .unset, .unset] [(.int (0 : Int32)), (.int (0 : Int32))])) _
    refine XS.icmpNo X4.here hx rfl (hb hby at_40) rfl (teq (by decide : (0 : Int32) = (0 : Int32))).2 ?_
    show Steps p.tables e below (T4.setTop (mkF m 43 #[.val (.int p0), .val (.int p1), .val (.ref (w 4)), .val (.int (1 : Int32)), .val (.ref (w 5)), .unset, .unset] [])) _
    refine XS.iconst X4.here hx rfl (hb hby at_43) ?_
    show Steps p.tables e below (T4.setTop (mkF m 44 #[.val (.int p0), .val (.int p1), .val (.ref (w 4)), .val (.int (1 : Int32)), .val (.ref (w 5)), .unset, .unset] [(.int (1 : Int32))])) _
    refine XS.goto X4.here hx rfl (pc0 := 44) (pc' := 48) rfl (hb hby at_44) (by decide) (by decide) ?_
    show Steps p.tables e below (T4.setTop (mkF m 48 #[.val (.int p0), .val (.int p1), .val (.ref (w 4)), .val (.int (1 : Int32)), .val (.ref (w 5)), .unset, .unset] [(.int (1 : Int32))])) _
    refine XS.istore X4.here hx rfl (hb hby at_48) rfl (l' := #[.val (.int p0), .val (.int p1), .val (.ref (w 4)), .val (.int (1 : Int32)), .val (.ref (w 5)), .val (.int (1 : Int32)), .unset]) rfl ?_
    show Steps p.tables e below (T4.setTop (mkF m 50 #[.val (.int p0), .val (.int p1), .val (.ref (w 4)), .val (.int (1 : Int32)), .val (.ref (w 5)), .val (.int (1 : Int32)), .unset] [])) _
    refine XS.aload X4.here hx rfl (hb hby at_50) rfl rfl ?_
    show Steps p.tables e below (T4.setTop (mkF m 52 #[.val (.int p0), .val (.int p1), .val (.ref (w 4)), .val (.int (1 : Int32)), .val (.ref (w 5)), .val (.int (1 : Int32)), .unset] [(.ref (w 5))])) _
    refine st5.trans ?_
    show Steps p.tables e below (T5.setTop (mkF m 55 #[.val (.int p0), .val (.int p1), .val (.ref (w 4)), .val (.int (1 : Int32)), .val (.ref (w 5)), .val (.int (1 : Int32)), .unset] [(.ref (w 4))])) _
    refine XS.aloadN X5.here hx rfl (hb hby at_55) rfl rfl ?_
    show Steps p.tables e below (T5.setTop (mkF m 56 #[.val (.int p0), .val (.int p1), .val (.ref (w 4)), .val (.int (1 : Int32)), .val (.ref (w 5)), .val (.int (1 : Int32)), .unset] [(.ref (w 4)), (.ref (w 4))])) _
    refine Jvm.RoadKit.acmp (g := (mkF m 56 #[.val (.int p0), .val (.int p1), .val (.ref (w 4)), .val (.int (1 : Int32)), .val (.ref (w 5)), .val (.int (1 : Int32)), .unset] [(.ref (w 4)), (.ref (w 4))])) X5 hx rfl rfl rfl (pc0 := 56) (pc' := 59) (same := true) rfl (hb hby at_56) rfl (decide_eq_true rfl) (by decide) (by decide) ?_
    show Steps p.tables e below (T5.setTop (mkF m 59 #[.val (.int p0), .val (.int p1), .val (.ref (w 4)), .val (.int (1 : Int32)), .val (.ref (w 5)), .val (.int (1 : Int32)), .unset] [])) _
    refine XS.iconst X5.here hx rfl (hb hby at_59) ?_
    show Steps p.tables e below (T5.setTop (mkF m 60 #[.val (.int p0), .val (.int p1), .val (.ref (w 4)), .val (.int (1 : Int32)), .val (.ref (w 5)), .val (.int (1 : Int32)), .unset] [(.int (1 : Int32))])) _
    refine XS.goto X5.here hx rfl (pc0 := 60) (pc' := 64) rfl (hb hby at_60) (by decide) (by decide) ?_
    show Steps p.tables e below (T5.setTop (mkF m 64 #[.val (.int p0), .val (.int p1), .val (.ref (w 4)), .val (.int (1 : Int32)), .val (.ref (w 5)), .val (.int (1 : Int32)), .unset] [(.int (1 : Int32))])) _
    refine XS.istore X5.here hx rfl (hb hby at_64) rfl (l' := #[.val (.int p0), .val (.int p1), .val (.ref (w 4)), .val (.int (1 : Int32)), .val (.ref (w 5)), .val (.int (1 : Int32)), .val (.int (1 : Int32))]) rfl ?_
    show Steps p.tables e below (T5.setTop (mkF m 66 #[.val (.int p0), .val (.int p1), .val (.ref (w 4)), .val (.int (1 : Int32)), .val (.ref (w 5)), .val (.int (1 : Int32)), .val (.int (1 : Int32))] [])) _
    refine XS.iload X5.here hx rfl (hb hby at_66) rfl ?_
    show Steps p.tables e below (T5.setTop (mkF m 68 #[.val (.int p0), .val (.int p1), .val (.ref (w 4)), .val (.int (1 : Int32)), .val (.ref (w 5)), .val (.int (1 : Int32)), .val (.int (1 : Int32))] [(.int (1 : Int32))])) _
    refine XS.ifNo X5.here hx rfl (hb hby at_68) rfl ((if0 _ _).trans (feq (by decide : ¬ ((1 : Int32) = (0 : Int32)))).1) ?_
    show Steps p.tables e below (T5.setTop (mkF m 71 #[.val (.int p0), .val (.int p1), .val (.ref (w 4)), .val (.int (1 : Int32)), .val (.ref (w 5)), .val (.int (1 : Int32)), .val (.int (1 : Int32))] [])) _
    refine XS.iload X5.here hx rfl (hb hby at_71) rfl ?_
    show Steps p.tables e below (T5.setTop (mkF m 73 #[.val (.int p0), .val (.int p1), .val (.ref (w 4)), .val (.int (1 : Int32)), .val (.ref (w 5)), .val (.int (1 : Int32)), .val (.int (1 : Int32))] [(.int (1 : Int32))])) _
    refine XS.ifNo X5.here hx rfl (hb hby at_73) rfl ((if0 _ _).trans (feq (by decide : ¬ ((1 : Int32) = (0 : Int32)))).1) ?_
    show Steps p.tables e below (T5.setTop (mkF m 76 #[.val (.int p0), .val (.int p1), .val (.ref (w 4)), .val (.int (1 : Int32)), .val (.ref (w 5)), .val (.int (1 : Int32)), .val (.int (1 : Int32))] [])) _
    refine XS.iconst X5.here hx rfl (hb hby at_76) ?_
    show Steps p.tables e below (T5.setTop (mkF m 77 #[.val (.int p0), .val (.int p1), .val (.ref (w 4)), .val (.int (1 : Int32)), .val (.ref (w 5)), .val (.int (1 : Int32)), .val (.int (1 : Int32))] [(.int (1 : Int32))])) _
    refine XS.goto X5.here hx rfl (pc0 := 77) (pc' := 81) rfl (hb hby at_77) (by decide) (by decide) ?_
    show Steps p.tables e below (T5.setTop (mkF m 81 #[.val (.int p0), .val (.int p1), .val (.ref (w 4)), .val (.int (1 : Int32)), .val (.ref (w 5)), .val (.int (1 : Int32)), .val (.int (1 : Int32))] [(.int (1 : Int32))])) _
    exact retN X5 hx (t := .boolean) Bd.returns (by simp) (hb hby at_81) hr
  · show OL (some (.int (1 : Int32))) Z.heap.size _ T5.heap _
    exact ⟨rfl, N5⟩
set_option maxRecDepth 65536 in
set_option maxHeartbeats 40000000 in
theorem rm_65 (l : Launch) (Z : State) (a0 : Array Value) (hw : ∀ d ∈ tables_1, d.before a0 Z = true) (w : Nat → Addr) (kk : Nat → ClassId) (hN : Wd Z w kk) (ws : List Jvm.Cond)  (h0 : Heap) (O0 : Old Z Z.heap.size h0) :
    MetFree l (⟨"org/cartulary/repository/Condition$Operator", "holds", "(I)Z"⟩ : MethodName) (head1 (Jvm.Cond.code (⟨"org/cartulary/repository/Condition$Operator", "holds", "(I)Z"⟩ : MethodName) prog_67_method_5_code 2 (some .boolean) :: ws) ({ frames := 1, cells := 0, slots := 0, locals := 12 } : Room)) (fun a U => a = #[(.ref (w 5)), (.int (0 : Int32))] ∧ Z.Warmed39 U.vm ∧ U.heap = h0) (fun _ _ _ _ _ => True) (fun _ U o U' => ∃ v L, o = .returned v ∧ OQ (some (.int (1 : Int32))) h0 Z.heap.size v U'.heap L ∧ FrameEnd U o U' L ({ frames := 1, cells := 0, slots := 0, locals := 12 } : Room).cells ({ frames := 1, cells := 0, slots := 0, locals := 12 } : Room).slots) := by
  have hN' := hN
  obtain ⟨hS0, hE0, hS1, hE1, hS2, hE2, hS3, hE3, hS4, hE4, hS5, hE5, hF0_ordinal, hF1_ordinal, hF2_ordinal, hF3_ordinal, hF4_ordinal, hF5_ordinal⟩ := hN'
  refine MetFree.of_bodySF (plainFor_of_name pn_2) hisR ?_
  intro p e s m args below meth c s₁ Bd hml0 hP hK
  obtain ⟨rfl, hZ, hh⟩ := hP
  have hx := Bd.exec
  have hby := Bd.bytes
  have hml : c.maxLocals = 2 := hml0
  have hown : s.vm.findClass "org/cartulary/repository/Condition$Operator" = some m.cls := findClass_of_methodNamed Bd.named
  have hnm := (name_of_methodNamed Bd.named Bd.method).1
  have X0 : Stand p l e ({ frames := 1, cells := 0, slots := 0, locals := 12 } : Room) s m #[(.ref (w 5)), (.int (0 : Int32))] below meth c s₁ [] 0 0 := Stand.of_body Bd
  have e0 : s₁.heap = h0 := by rw [← hh, Bd.state]; rfl
  have N0 := Fr.nil Z.heap.size
  have pre0 : ∀ t, Steps p.tables e below (s₁.setTop (mkF m 0 #[.val (.ref (w 5)), .val (.int (0 : Int32))] [])) t → Steps p.tables e below (s₁.setTop (entryFrame m #[(.ref (w 5)), (.int (0 : Int32))] 2)) t := fun t k => castTop (ef_2 m (.ref (w 5)) rfl (.int (0 : Int32)) rfl) k
  obtain ⟨cq1, kq1, q1a, q1b, q1c⟩ := isOf hZ e0 (hE5.ext O0.2)
  obtain ⟨_, _, ⟨T1, L1, k1, n1⟩, -, X1, ⟨Lc1, hQ1, l1, y1, z1⟩, st1⟩ := X0.virtualBackUp hx (x := (⟨"org/cartulary/repository/Condition$Operator", "ordinal", "()I"⟩ : MethodName)) (y := (⟨"java/lang/Enum", "ordinal", "()I"⟩ : MethodName)) (owner := "java/lang/Enum") hown (mvT hZ (W hw 13 rfl)) (mvT hZ (W hw 14 rfl)) (mvT hZ (W hw 15 rfl)) (by decide) (mvT hZ (W hw 17 rfl)) (mvT hZ (W hw 16 rfl)) (backOf (W := 0) (rm_37 l Z a0 hw w kk hN [] h0 O0) hZ (W hw 19 rfl) (W hw 18 rfl) (by decide) (by decide)) q1a q1c (g := (mkF m 1 #[.val (.ref (w 5)), .val (.int (0 : Int32))] [(.ref (w 5))])) rfl (by rw [hml]; rfl) (Steps.refl _) (argsL := []) (rest := []) (lenOf pd_1 rfl) rfl (by show 2 * 0 + _ ≤ _; exact Nat.le_of_eq rfl) (hb hby d_prog_67_method_5_code_1) (fun _ _ => ⟨rfl, e0, (by decide : 0 + 0 ≤ _), (by decide : 0 + 0 ≤ _)⟩)
  dsimp only [Pt.U, Pt.locs, Pt.cells, Pt.slots] at X1 l1 y1 z1 st1 hQ1
  subst l1 y1 z1
  obtain ⟨rfl, N1q, e1⟩ := hQ1
  have N1 := Fr.app N0 N1q
  obtain ⟨fs, hr, hrun, hended, hW, hsame⟩ := X1.leave (v := some (.int (1 : Int32))) (fun h => by rw [Bd.returns] at h; cases h)
  refine ⟨_, _, pre0 _ ?_, hrun, hended, _, _, rfl, ?_, ⟨_, rfl⟩, hW, hsame.mono (by decide) (by decide)⟩
  · show Steps p.tables e below (s₁.setTop (mkF m 0 #[.val (.ref (w 5)), .val (.int (0 : Int32))] [])) _
    refine XS.aloadN X0.here hx rfl (hb hby d_prog_67_method_5_code_0) rfl rfl ?_
    show Steps p.tables e below (s₁.setTop (mkF m 1 #[.val (.ref (w 5)), .val (.int (0 : Int32))] [(.ref (w 5))])) _
    refine st1.trans ?_
    show Steps p.tables e below (T1.setTop (mkF m 4 #[.val (.ref (w 5)), .val (.int (0 : Int32))] [(.int (3 : Int32))])) _
    refine XS.tswIn X1.here hx rfl (pc0 := 4) (pc' := 90) (o := 86) rfl (hb hby d_prog_67_method_5_code_4) rfl (by decide) (by decide) (by decide) (by decide) ?_
    show Steps p.tables e below (T1.setTop (mkF m 90 #[.val (.ref (w 5)), .val (.int (0 : Int32))] [])) _
    refine XS.iloadN X1.here hx rfl (hb hby d_prog_67_method_5_code_90) rfl ?_
    show Steps p.tables e below (T1.setTop (mkF m 91 #[.val (.ref (w 5)), .val (.int (0 : Int32))] [(.int (0 : Int32))])) _
    refine XS.ifNo X1.here hx rfl (hb hby d_prog_67_method_5_code_91) rfl ((if0 _ _).trans (flt (by decide : ¬ ((0 : Int32) < (0 : Int32)))).2.2.1) ?_
    show Steps p.tables e below (T1.setTop (mkF m 94 #[.val (.ref (w 5)), .val (.int (0 : Int32))] [])) _
    refine XS.iconst X1.here hx rfl (hb hby d_prog_67_method_5_code_94) ?_
    show Steps p.tables e below (T1.setTop (mkF m 95 #[.val (.ref (w 5)), .val (.int (0 : Int32))] [(.int (1 : Int32))])) _
    refine XS.goto X1.here hx rfl (pc0 := 95) (pc' := 123) rfl (hb hby d_prog_67_method_5_code_95) (by decide) (by decide) ?_
    show Steps p.tables e below (T1.setTop (mkF m 123 #[.val (.ref (w 5)), .val (.int (0 : Int32))] [(.int (1 : Int32))])) _
    exact retN X1 hx (t := .boolean) Bd.returns (by simp) (hb hby d_prog_67_method_5_code_123) hr
  · show OQ (some (.int (1 : Int32))) h0 Z.heap.size _ T1.heap _
    rw [e1]
    exact ⟨rfl, N1, rfl⟩
set_option maxRecDepth 65536 in
set_option maxHeartbeats 40000000 in
theorem law_66 (l : Launch) (Z : State) (a0 : Array Value) (hw : ∀ d ∈ tables_1, d.before a0 Z = true) (w : Nat → Addr) (kk : Nat → ClassId) (hN : Wd Z w kk) (ws : List Jvm.Cond) (p0 : Int32) (p1 : Int32) (h0 : Heap) (O0 : Old Z Z.heap.size h0) (hp0 : ((p0 &&& (2147483647 : Int32)) % (6 : Int32)) = (5 : Int32)) (hp1 : ¬ ((0 : Int32) < p1)) (hp2 : ¬ (p1 < (0 : Int32))) :
    MetFree l x (head1 (Jvm.Cond.code x code maxLocals ret :: ws) room_1) (fun a U => a = #[(.int p0), (.int p1)] ∧ Z.Warmed39 U.vm ∧ U.heap = h0) (fun _ _ _ _ _ => True) (fun _ U o U' => ∃ v L, o = .returned v ∧ OL (some (.int (1 : Int32))) Z.heap.size v U'.heap L ∧ FrameEnd U o U' L 0 0) := by
  have hN' := hN
  obtain ⟨hS0, hE0, hS1, hE1, hS2, hE2, hS3, hE3, hS4, hE4, hS5, hE5, hF0_ordinal, hF1_ordinal, hF2_ordinal, hF3_ordinal, hF4_ordinal, hF5_ordinal⟩ := hN'
  refine MetFree.of_bodySF (plainFor_of_name pn_0) hisR ?_
  intro p e s m args below meth c s₁ Bd hml0 hP hK
  obtain ⟨rfl, hZ, hh⟩ := hP
  have hx := Bd.exec
  have hby := Bd.bytes
  have hml : c.maxLocals = 7 := hml0
  have hown : s.vm.findClass "org/cartulary/repository/OperatorSwappedPinLaw" = some m.cls := findClass_of_methodNamed Bd.named
  have hnm := (name_of_methodNamed Bd.named Bd.method).1
  have X0 : Stand p l e room_1 s m #[(.int p0), (.int p1)] below meth c s₁ [] 0 0 := Stand.of_body Bd
  have e0 : s₁.heap = h0 := by rw [← hh, Bd.state]; rfl
  have N0 := Fr.nil Z.heap.size
  have pre0 : ∀ t, Steps p.tables e below (s₁.setTop (mkF m 0 #[.val (.int p0), .val (.int p1), .unset, .unset, .unset, .unset, .unset] [])) t → Steps p.tables e below (s₁.setTop (entryFrame m #[(.int p0), (.int p1)] maxLocals)) t := fun t k => castTop (ef_3 m (.int p0) rfl (.int p1) rfl) k
  obtain ⟨_, _, ⟨T1, L1, k1, n1⟩, -, X1, ⟨Lc1, hQ1, l1, y1, z1⟩, st1⟩ := Jvm.LawKit.callS X0 hx (y := (⟨"org/cartulary/repository/OperatorSwappedPinLaw", "pick", "(I)Lorg/cartulary/repository/Condition$Operator;"⟩ : MethodName)) hown (mvT hZ (W hw 0 rfl)) (mvT hZ (W hw 1 rfl)) (mvT hZ (W hw 2 rfl)) (mvT hZ (W hw 3 rfl)) (by decide) (backOf (W := 0) (rm_58 l Z a0 hw w kk hN [] p0 h0 O0 hp0) hZ (W hw 3 rfl) (W hw 2 rfl) (by decide) (by decide)) (g := (mkF m 1 #[.val (.int p0), .val (.int p1), .unset, .unset, .unset, .unset, .unset] [(.int p0)])) rfl (by rw [hml]; rfl) (argsL := [(.int p0)]) (rest := []) (lenOf pd_0 rfl) rfl (by show 2 * 0 + _ ≤ _; exact Nat.le_of_eq rfl) (hb hby at_1) (fun _ _ => ⟨rfl, e0, (by decide : 0 + 0 ≤ _), (by decide : 0 + 0 ≤ _)⟩)
  dsimp only [Pt.U, Pt.locs, Pt.cells, Pt.slots] at X1 l1 y1 z1 st1 hQ1
  subst l1 y1 z1
  obtain ⟨rfl, N1q, e1⟩ := hQ1
  have N1 := Fr.app N0 N1q
  obtain ⟨cq2, kq2, q2a, q2b, q2c⟩ := isOf hZ e1 (hE4.ext O0.2)
  obtain ⟨_, _, ⟨T2, L2, k2, n2⟩, -, X2, ⟨Lc2, hQ2, l2, y2, z2⟩, st2⟩ := X1.virtualBack hx (y := (⟨"org/cartulary/repository/Condition$Operator", "swapped", "()Lorg/cartulary/repository/Condition$Operator;"⟩ : MethodName)) (z := (⟨"org/cartulary/repository/Condition$Operator", "swapped", "()Lorg/cartulary/repository/Condition$Operator;"⟩ : MethodName)) hown (mvT hZ (W hw 8 rfl)) (mvT hZ (W hw 9 rfl)) (notFace_of_selects (args := #[]) (mvT hZ (W hw 11 rfl))) (mvT hZ (W hw 11 rfl)) (mvT hZ (W hw 10 rfl)) (by decide) (backOf (W := 0) (rm_42 l Z a0 hw w kk hN [] h0 O0) hZ (W hw 12 rfl) (W hw 6 rfl) (by decide) (by decide)) q2a q2c (g := (mkF m 24 #[.val (.int p0), .val (.int p1), .val (.ref (w 4)), .val (.int (0 : Int32)), .unset, .unset, .unset] [(.ref (w 4))])) rfl (by rw [hml]; rfl) (Steps.refl _) (argsL := []) (rest := []) (lenOf pd_2 rfl) rfl (by show 2 * 0 + _ ≤ _; exact Nat.le_of_eq rfl) (hb hby at_24) (fun _ _ => ⟨rfl, e1, (by decide : 0 + 0 ≤ _), (by decide : 0 + 0 ≤ _)⟩)
  dsimp only [Pt.U, Pt.locs, Pt.cells, Pt.slots] at X2 l2 y2 z2 st2 hQ2
  subst l2 y2 z2
  obtain ⟨rfl, N2q, e2⟩ := hQ2
  have N2 := Fr.app N1 N2q
  obtain ⟨cq3, kq3, q3a, q3b, q3c⟩ := isOf hZ e2 (hE5.ext O0.2)
  obtain ⟨_, _, ⟨T3, L3, k3, n3⟩, -, X3, ⟨Lc3, hQ3, l3, y3, z3⟩, st3⟩ := X2.virtualBack hx (y := (⟨"org/cartulary/repository/Condition$Operator", "holds", "(I)Z"⟩ : MethodName)) (z := (⟨"org/cartulary/repository/Condition$Operator", "holds", "(I)Z"⟩ : MethodName)) hown (mvT hZ (W hw 22 rfl)) (mvT hZ (W hw 23 rfl)) (notFace_of_selects (args := #[]) (mvT hZ (W hw 25 rfl))) (mvT hZ (W hw 25 rfl)) (mvT hZ (W hw 24 rfl)) (by decide) (backOf (W := 0) (rm_65 l Z a0 hw w kk hN [] h0 O0) hZ (W hw 26 rfl) (W hw 6 rfl) (by decide) (by decide)) q3a q3c (g := (mkF m 32 #[.val (.int p0), .val (.int p1), .val (.ref (w 4)), .val (.int (0 : Int32)), .val (.ref (w 5)), .unset, .unset] [(.int (0 : Int32)), (.ref (w 5))])) rfl (by rw [hml]; rfl) (Steps.refl _) (argsL := [(.int (0 : Int32))]) (rest := []) (lenOf pd_3 rfl) rfl (by show 2 * 0 + _ ≤ _; exact Nat.le_of_eq rfl) (hb hby at_32) (fun _ _ => ⟨rfl, e2, (by decide : 0 + 0 ≤ _), (by decide : 0 + 0 ≤ _)⟩)
  dsimp only [Pt.U, Pt.locs, Pt.cells, Pt.slots] at X3 l3 y3 z3 st3 hQ3
  subst l3 y3 z3
  obtain ⟨rfl, N3q, e3⟩ := hQ3
  have N3 := Fr.app N2 N3q
  obtain ⟨cq4, kq4, q4a, q4b, q4c⟩ := isOf hZ e3 (hE4.ext O0.2)
  obtain ⟨_, _, ⟨T4, L4, k4, n4⟩, -, X4, ⟨Lc4, hQ4, l4, y4, z4⟩, st4⟩ := X3.virtualBack hx (y := (⟨"org/cartulary/repository/Condition$Operator", "holds", "(I)Z"⟩ : MethodName)) (z := (⟨"org/cartulary/repository/Condition$Operator", "holds", "(I)Z"⟩ : MethodName)) hown (mvT hZ (W hw 22 rfl)) (mvT hZ (W hw 23 rfl)) (notFace_of_selects (args := #[]) (mvT hZ (W hw 25 rfl))) (mvT hZ (W hw 25 rfl)) (mvT hZ (W hw 24 rfl)) (by decide) (backOf (W := 1) (rm_60 l Z a0 hw w kk hN [] p1 h0 O0 hp2) hZ (W hw 26 rfl) (W hw 6 rfl) (by decide) (by decide)) q4a q4c (g := (mkF m 37 #[.val (.int p0), .val (.int p1), .val (.ref (w 4)), .val (.int (0 : Int32)), .val (.ref (w 5)), .unset, .unset] [(.int p1), (.ref (w 4)), (.int (1 : Int32))])) rfl (by rw [hml]; rfl) (Steps.refl _) (argsL := [(.int p1)]) (rest := [(.int (1 : Int32))]) (lenOf pd_3 rfl) rfl (by show 2 * 0 + _ ≤ _; exact Nat.le_of_eq rfl) (hb hby at_37) (fun _ _ => ⟨rfl, e3, (by decide : 0 + 0 ≤ _), (by decide : 0 + 0 ≤ _)⟩)
  dsimp only [Pt.U, Pt.locs, Pt.cells, Pt.slots] at X4 l4 y4 z4 st4 hQ4
  subst l4 y4 z4
  obtain ⟨rfl, N4q, e4⟩ := hQ4
  have N4 := Fr.app N3 N4q
  obtain ⟨cq5, kq5, q5a, q5b, q5c⟩ := isOf hZ e4 (hE5.ext O0.2)
  obtain ⟨_, _, ⟨T5, L5, k5, n5⟩, -, X5, ⟨Lc5, hQ5, l5, y5, z5⟩, st5⟩ := X4.virtualBack hx (y := (⟨"org/cartulary/repository/Condition$Operator", "swapped", "()Lorg/cartulary/repository/Condition$Operator;"⟩ : MethodName)) (z := (⟨"org/cartulary/repository/Condition$Operator", "swapped", "()Lorg/cartulary/repository/Condition$Operator;"⟩ : MethodName)) hown (mvT hZ (W hw 8 rfl)) (mvT hZ (W hw 9 rfl)) (notFace_of_selects (args := #[]) (mvT hZ (W hw 11 rfl))) (mvT hZ (W hw 11 rfl)) (mvT hZ (W hw 10 rfl)) (by decide) (backOf (W := 0) (rm_38 l Z a0 hw w kk hN [] h0 O0) hZ (W hw 12 rfl) (W hw 6 rfl) (by decide) (by decide)) q5a q5c (g := (mkF m 52 #[.val (.int p0), .val (.int p1), .val (.ref (w 4)), .val (.int (0 : Int32)), .val (.ref (w 5)), .val (.int (1 : Int32)), .unset] [(.ref (w 5))])) rfl (by rw [hml]; rfl) (Steps.refl _) (argsL := []) (rest := []) (lenOf pd_2 rfl) rfl (by show 2 * 0 + _ ≤ _; exact Nat.le_of_eq rfl) (hb hby at_52) (fun _ _ => ⟨rfl, e4, (by decide : 0 + 0 ≤ _), (by decide : 0 + 0 ≤ _)⟩)
  dsimp only [Pt.U, Pt.locs, Pt.cells, Pt.slots] at X5 l5 y5 z5 st5 hQ5
  subst l5 y5 z5
  obtain ⟨rfl, N5q, e5⟩ := hQ5
  have N5 := Fr.app N4 N5q
  obtain ⟨fs, hr, hrun, hended, hW, hsame⟩ := X5.leave (v := some (.int (1 : Int32))) (fun h => by rw [Bd.returns] at h; cases h)
  refine ⟨_, _, pre0 _ ?_, hrun, hended, _, _, rfl, ?_, ⟨_, rfl⟩, hW, hsame.mono (by decide) (by decide)⟩
  · show Steps p.tables e below (s₁.setTop (mkF m 0 #[.val (.int p0), .val (.int p1), .unset, .unset, .unset, .unset, .unset] [])) _
    refine XS.iloadN X0.here hx rfl (hb hby at_0) rfl ?_
    show Steps p.tables e below (s₁.setTop (mkF m 1 #[.val (.int p0), .val (.int p1), .unset, .unset, .unset, .unset, .unset] [(.int p0)])) _
    refine st1 _ ?_
    show Steps p.tables e below (T1.setTop (mkF m 4 #[.val (.int p0), .val (.int p1), .unset, .unset, .unset, .unset, .unset] [(.ref (w 4))])) _
    refine XS.astoreN X1.here hx rfl (hb hby at_4) rfl rfl (l' := #[.val (.int p0), .val (.int p1), .val (.ref (w 4)), .unset, .unset, .unset, .unset]) rfl ?_
    show Steps p.tables e below (T1.setTop (mkF m 5 #[.val (.int p0), .val (.int p1), .val (.ref (w 4)), .unset, .unset, .unset, .unset] [])) _
    refine XS.iloadN X1.here hx rfl (hb hby at_5) rfl ?_
    show Steps p.tables e below (T1.setTop (mkF m 6 #[.val (.int p0), .val (.int p1), .val (.ref (w 4)), .unset, .unset, .unset, .unset] [(.int p1)])) _
    refine XS.ifYes X1.here hx rfl (pc0 := 6) (pc' := 13) rfl (hb hby at_6) rfl ((if0 _ _).trans (flt hp1).2.2.2) (by decide) (by decide) ?_
    show Steps p.tables e below (T1.setTop (mkF m 13 #[.val (.int p0), .val (.int p1), .val (.ref (w 4)), .unset, .unset, .unset, .unset] [])) _
    refine XS.iloadN X1.here hx rfl (hb hby at_13) rfl ?_
    show Steps p.tables e below (T1.setTop (mkF m 14 #[.val (.int p0), .val (.int p1), .val (.ref (w 4)), .unset, .unset, .unset, .unset] [(.int p1)])) _
    refine XS.ifYes X1.here hx rfl (pc0 := 14) (pc' := 21) rfl (hb hby at_14) rfl ((if0 _ _).trans (flt hp2).2.1) (by decide) (by decide) ?_
    show Steps p.tables e below (T1.setTop (mkF m 21 #[.val (.int p0), .val (.int p1), .val (.ref (w 4)), .unset, .unset, .unset, .unset] [])) _
    refine XS.iconst X1.here hx rfl (hb hby at_21) ?_
    show Steps p.tables e below (T1.setTop (mkF m 22 #[.val (.int p0), .val (.int p1), .val (.ref (w 4)), .unset, .unset, .unset, .unset] [(.int (0 : Int32))])) _
    refine XS.istoreN X1.here hx rfl (hb hby at_22) rfl (l' := #[.val (.int p0), .val (.int p1), .val (.ref (w 4)), .val (.int (0 : Int32)), .unset, .unset, .unset]) rfl ?_
    show Steps p.tables e below (T1.setTop (mkF m 23 #[.val (.int p0), .val (.int p1), .val (.ref (w 4)), .val (.int (0 : Int32)), .unset, .unset, .unset] [])) _
    refine XS.aloadN X1.here hx rfl (hb hby at_23) rfl rfl ?_
    show Steps p.tables e below (T1.setTop (mkF m 24 #[.val (.int p0), .val (.int p1), .val (.ref (w 4)), .val (.int (0 : Int32)), .unset, .unset, .unset] [(.ref (w 4))])) _
    refine st2.trans ?_
    show Steps p.tables e below (T2.setTop (mkF m 27 #[.val (.int p0), .val (.int p1), .val (.ref (w 4)), .val (.int (0 : Int32)), .unset, .unset, .unset] [(.ref (w 5))])) _
    refine XS.astore X2.here hx rfl (hb hby at_27) rfl rfl (l' := #[.val (.int p0), .val (.int p1), .val (.ref (w 4)), .val (.int (0 : Int32)), .val (.ref (w 5)), .unset, .unset]) rfl ?_
    show Steps p.tables e below (T2.setTop (mkF m 29 #[.val (.int p0), .val (.int p1), .val (.ref (w 4)), .val (.int (0 : Int32)), .val (.ref (w 5)), .unset, .unset] [])) _
    refine XS.aload X2.here hx rfl (hb hby at_29) rfl rfl ?_
    show Steps p.tables e below (T2.setTop (mkF m 31 #[.val (.int p0), .val (.int p1), .val (.ref (w 4)), .val (.int (0 : Int32)), .val (.ref (w 5)), .unset, .unset] [(.ref (w 5))])) _
    refine XS.iloadN X2.here hx rfl (hb hby at_31) rfl ?_
    show Steps p.tables e below (T2.setTop (mkF m 32 #[.val (.int p0), .val (.int p1), .val (.ref (w 4)), .val (.int (0 : Int32)), .val (.ref (w 5)), .unset, .unset] [(.int (0 : Int32)), (.ref (w 5))])) _
    refine st3.trans ?_
    show Steps p.tables e below (T3.setTop (mkF m 35 #[.val (.int p0), .val (.int p1), .val (.ref (w 4)), .val (.int (0 : Int32)), .val (.ref (w 5)), .unset, .unset] [(.int (1 : Int32))])) _
    refine XS.aloadN X3.here hx rfl (hb hby at_35) rfl rfl ?_
    show Steps p.tables e below (T3.setTop (mkF m 36 #[.val (.int p0), .val (.int p1), .val (.ref (w 4)), .val (.int (0 : Int32)), .val (.ref (w 5)), .unset, .unset] [(.ref (w 4)), (.int (1 : Int32))])) _
    refine XS.iloadN X3.here hx rfl (hb hby at_36) rfl ?_
    show Steps p.tables e below (T3.setTop (mkF m 37 #[.val (.int p0), .val (.int p1), .val (.ref (w 4)), .val (.int (0 : Int32)), .val (.ref (w 5)), .unset, .unset] [(.int p1), (.ref (w 4)), (.int (1 : Int32))])) _
    refine st4.trans ?_
    show Steps p.tables e below (T4.setTop (mkF m 40 #[.val (.int p0), .val (.int p1), .val (.ref (w 4)), .val (.int (0 : Int32)), .val (.ref (w 5)), .unset, .unset] [(.int (1 : Int32)), (.int (1 : Int32))])) _
    refine XS.icmpNo X4.here hx rfl (hb hby at_40) rfl (teq (by decide : (1 : Int32) = (1 : Int32))).2 ?_
    show Steps p.tables e below (T4.setTop (mkF m 43 #[.val (.int p0), .val (.int p1), .val (.ref (w 4)), .val (.int (0 : Int32)), .val (.ref (w 5)), .unset, .unset] [])) _
    refine XS.iconst X4.here hx rfl (hb hby at_43) ?_
    show Steps p.tables e below (T4.setTop (mkF m 44 #[.val (.int p0), .val (.int p1), .val (.ref (w 4)), .val (.int (0 : Int32)), .val (.ref (w 5)), .unset, .unset] [(.int (1 : Int32))])) _
    refine XS.goto X4.here hx rfl (pc0 := 44) (pc' := 48) rfl (hb hby at_44) (by decide) (by decide) ?_
    show Steps p.tables e below (T4.setTop (mkF m 48 #[.val (.int p0), .val (.int p1), .val (.ref (w 4)), .val (.int (0 : Int32)), .val (.ref (w 5)), .unset, .unset] [(.int (1 : Int32))])) _
    refine XS.istore X4.here hx rfl (hb hby at_48) rfl (l' := #[.val (.int p0), .val (.int p1), .val (.ref (w 4)), .val (.int (0 : Int32)), .val (.ref (w 5)), .val (.int (1 : Int32)), .unset]) rfl ?_
    show Steps p.tables e below (T4.setTop (mkF m 50 #[.val (.int p0), .val (.int p1), .val (.ref (w 4)), .val (.int (0 : Int32)), .val (.ref (w 5)), .val (.int (1 : Int32)), .unset] [])) _
    refine XS.aload X4.here hx rfl (hb hby at_50) rfl rfl ?_
    show Steps p.tables e below (T4.setTop (mkF m 52 #[.val (.int p0), .val (.int p1), .val (.ref (w 4)), .val (.int (0 : Int32)), .val (.ref (w 5)), .val (.int (1 : Int32)), .unset] [(.ref (w 5))])) _
    refine st5.trans ?_
    show Steps p.tables e below (T5.setTop (mkF m 55 #[.val (.int p0), .val (.int p1), .val (.ref (w 4)), .val (.int (0 : Int32)), .val (.ref (w 5)), .val (.int (1 : Int32)), .unset] [(.ref (w 4))])) _
    refine XS.aloadN X5.here hx rfl (hb hby at_55) rfl rfl ?_
    show Steps p.tables e below (T5.setTop (mkF m 56 #[.val (.int p0), .val (.int p1), .val (.ref (w 4)), .val (.int (0 : Int32)), .val (.ref (w 5)), .val (.int (1 : Int32)), .unset] [(.ref (w 4)), (.ref (w 4))])) _
    refine Jvm.RoadKit.acmp (g := (mkF m 56 #[.val (.int p0), .val (.int p1), .val (.ref (w 4)), .val (.int (0 : Int32)), .val (.ref (w 5)), .val (.int (1 : Int32)), .unset] [(.ref (w 4)), (.ref (w 4))])) X5 hx rfl rfl rfl (pc0 := 56) (pc' := 59) (same := true) rfl (hb hby at_56) rfl (decide_eq_true rfl) (by decide) (by decide) ?_
    show Steps p.tables e below (T5.setTop (mkF m 59 #[.val (.int p0), .val (.int p1), .val (.ref (w 4)), .val (.int (0 : Int32)), .val (.ref (w 5)), .val (.int (1 : Int32)), .unset] [])) _
    refine XS.iconst X5.here hx rfl (hb hby at_59) ?_
    show Steps p.tables e below (T5.setTop (mkF m 60 #[.val (.int p0), .val (.int p1), .val (.ref (w 4)), .val (.int (0 : Int32)), .val (.ref (w 5)), .val (.int (1 : Int32)), .unset] [(.int (1 : Int32))])) _
    refine XS.goto X5.here hx rfl (pc0 := 60) (pc' := 64) rfl (hb hby at_60) (by decide) (by decide) ?_
    show Steps p.tables e below (T5.setTop (mkF m 64 #[.val (.int p0), .val (.int p1), .val (.ref (w 4)), .val (.int (0 : Int32)), .val (.ref (w 5)), .val (.int (1 : Int32)), .unset] [(.int (1 : Int32))])) _
    refine XS.istore X5.here hx rfl (hb hby at_64) rfl (l' := #[.val (.int p0), .val (.int p1), .val (.ref (w 4)), .val (.int (0 : Int32)), .val (.ref (w 5)), .val (.int (1 : Int32)), .val (.int (1 : Int32))]) rfl ?_
    show Steps p.tables e below (T5.setTop (mkF m 66 #[.val (.int p0), .val (.int p1), .val (.ref (w 4)), .val (.int (0 : Int32)), .val (.ref (w 5)), .val (.int (1 : Int32)), .val (.int (1 : Int32))] [])) _
    refine XS.iload X5.here hx rfl (hb hby at_66) rfl ?_
    show Steps p.tables e below (T5.setTop (mkF m 68 #[.val (.int p0), .val (.int p1), .val (.ref (w 4)), .val (.int (0 : Int32)), .val (.ref (w 5)), .val (.int (1 : Int32)), .val (.int (1 : Int32))] [(.int (1 : Int32))])) _
    refine XS.ifNo X5.here hx rfl (hb hby at_68) rfl ((if0 _ _).trans (feq (by decide : ¬ ((1 : Int32) = (0 : Int32)))).1) ?_
    show Steps p.tables e below (T5.setTop (mkF m 71 #[.val (.int p0), .val (.int p1), .val (.ref (w 4)), .val (.int (0 : Int32)), .val (.ref (w 5)), .val (.int (1 : Int32)), .val (.int (1 : Int32))] [])) _
    refine XS.iload X5.here hx rfl (hb hby at_71) rfl ?_
    show Steps p.tables e below (T5.setTop (mkF m 73 #[.val (.int p0), .val (.int p1), .val (.ref (w 4)), .val (.int (0 : Int32)), .val (.ref (w 5)), .val (.int (1 : Int32)), .val (.int (1 : Int32))] [(.int (1 : Int32))])) _
    refine XS.ifNo X5.here hx rfl (hb hby at_73) rfl ((if0 _ _).trans (feq (by decide : ¬ ((1 : Int32) = (0 : Int32)))).1) ?_
    show Steps p.tables e below (T5.setTop (mkF m 76 #[.val (.int p0), .val (.int p1), .val (.ref (w 4)), .val (.int (0 : Int32)), .val (.ref (w 5)), .val (.int (1 : Int32)), .val (.int (1 : Int32))] [])) _
    refine XS.iconst X5.here hx rfl (hb hby at_76) ?_
    show Steps p.tables e below (T5.setTop (mkF m 77 #[.val (.int p0), .val (.int p1), .val (.ref (w 4)), .val (.int (0 : Int32)), .val (.ref (w 5)), .val (.int (1 : Int32)), .val (.int (1 : Int32))] [(.int (1 : Int32))])) _
    refine XS.goto X5.here hx rfl (pc0 := 77) (pc' := 81) rfl (hb hby at_77) (by decide) (by decide) ?_
    show Steps p.tables e below (T5.setTop (mkF m 81 #[.val (.int p0), .val (.int p1), .val (.ref (w 4)), .val (.int (0 : Int32)), .val (.ref (w 5)), .val (.int (1 : Int32)), .val (.int (1 : Int32))] [(.int (1 : Int32))])) _
    exact retN X5 hx (t := .boolean) Bd.returns (by simp) (hb hby at_81) hr
  · show OL (some (.int (1 : Int32))) Z.heap.size _ T5.heap _
    exact ⟨rfl, N5⟩
set_option maxRecDepth 65536 in
set_option maxHeartbeats 40000000 in
theorem law_all (l : Launch) (Z : State) (a0 : Array Value) (hw : ∀ d ∈ tables_1, d.before a0 Z = true) (w : Nat → Addr) (kk : Nat → ClassId) (hN : Wd Z w kk) (ws : List Jvm.Cond) (p0 : Int32) (p1 : Int32) (h0 : Heap) (O0 : Old Z Z.heap.size h0) :
    MetFree l x (head1 (Jvm.Cond.code x code maxLocals ret :: ws) room_1) (fun a U => a = #[(.int p0), (.int p1)] ∧ Z.Warmed39 U.vm ∧ U.heap = h0) (fun _ _ _ _ _ => True) (fun _ U o U' => ∃ v L, o = .returned v ∧ OL (some (.int (1 : Int32))) Z.heap.size v U'.heap L ∧ FrameEnd U o U' L 0 0) := by
  rcases (own_split_0 p0) with hd0 | hd0 | hd0 | hd0 | hd0 | hd0
  · by_cases hd1 : (0 : Int32) < p1
    · have hi3_0 : ¬ (p1 = (0 : Int32)) := by have e0 : (0 : Int32).toInt = 0 := (by decide); have k0 := hd1; simp only [Int32.lt_iff_toInt_lt, ← Int32.toInt_inj] at k0 ⊢; omega
      exact law_6 l Z a0 hw w kk hN ws p0 p1 h0 O0 hd0 hd1 hi3_0
    · by_cases hd2 : p1 < (0 : Int32)
      · have hi4_0 : ¬ (p1 = (0 : Int32)) := by have e0 : (0 : Int32).toInt = 0 := (by decide); have k0 := hd1; have k1 := hd2; simp only [Int32.lt_iff_toInt_lt, ← Int32.toInt_inj] at k0 k1 ⊢; omega
        exact law_8 l Z a0 hw w kk hN ws p0 p1 h0 O0 hd0 hd1 hd2 hi4_0
      · have hi4_0 : p1 = (0 : Int32) := by have e0 : (0 : Int32).toInt = 0 := (by decide); have k0 := hd1; have k1 := hd2; simp only [Int32.lt_iff_toInt_lt, ← Int32.toInt_inj] at k0 k1 ⊢; omega
        exact law_11 l Z a0 hw w kk hN ws p0 p1 h0 O0 hd0 hd1 hd2 hi4_0
  · by_cases hd1 : (0 : Int32) < p1
    · have hi3_0 : ¬ (p1 = (0 : Int32)) := by have e0 : (0 : Int32).toInt = 0 := (by decide); have k0 := hd1; simp only [Int32.lt_iff_toInt_lt, ← Int32.toInt_inj] at k0 ⊢; omega
      exact law_17 l Z a0 hw w kk hN ws p0 p1 h0 O0 hd0 hd1 hi3_0
    · by_cases hd2 : p1 < (0 : Int32)
      · have hi4_0 : ¬ (p1 = (0 : Int32)) := by have e0 : (0 : Int32).toInt = 0 := (by decide); have k0 := hd1; have k1 := hd2; simp only [Int32.lt_iff_toInt_lt, ← Int32.toInt_inj] at k0 k1 ⊢; omega
        exact law_19 l Z a0 hw w kk hN ws p0 p1 h0 O0 hd0 hd1 hd2 hi4_0
      · have hi4_0 : p1 = (0 : Int32) := by have e0 : (0 : Int32).toInt = 0 := (by decide); have k0 := hd1; have k1 := hd2; simp only [Int32.lt_iff_toInt_lt, ← Int32.toInt_inj] at k0 k1 ⊢; omega
        exact law_22 l Z a0 hw w kk hN ws p0 p1 h0 O0 hd0 hd1 hd2 hi4_0
  · by_cases hd1 : (0 : Int32) < p1
    · have hi3_0 : ¬ (p1 < (0 : Int32)) := by have e0 : (0 : Int32).toInt = 0 := (by decide); have k0 := hd1; simp only [Int32.lt_iff_toInt_lt, ← Int32.toInt_inj] at k0 ⊢; omega
      exact law_30 l Z a0 hw w kk hN ws p0 p1 h0 O0 hd0 hd1 hi3_0
    · by_cases hd2 : p1 < (0 : Int32)
      · exact law_33 l Z a0 hw w kk hN ws p0 p1 h0 O0 hd0 hd1 hd2
      · exact law_35 l Z a0 hw w kk hN ws p0 p1 h0 O0 hd0 hd1 hd2
  · by_cases hd1 : (0 : Int32) < p1
    · exact law_43 l Z a0 hw w kk hN ws p0 p1 h0 O0 hd0 hd1
    · by_cases hd2 : p1 < (0 : Int32)
      · exact law_46 l Z a0 hw w kk hN ws p0 p1 h0 O0 hd0 hd1 hd2
      · exact law_48 l Z a0 hw w kk hN ws p0 p1 h0 O0 hd0 hd1 hd2
  · by_cases hd1 : (0 : Int32) < p1
    · exact law_52 l Z a0 hw w kk hN ws p0 p1 h0 O0 hd0 hd1
    · by_cases hd2 : p1 < (0 : Int32)
      · exact law_55 l Z a0 hw w kk hN ws p0 p1 h0 O0 hd0 hd1 hd2
      · exact law_57 l Z a0 hw w kk hN ws p0 p1 h0 O0 hd0 hd1 hd2
  · by_cases hd1 : (0 : Int32) < p1
    · have hi3_0 : ¬ (p1 < (0 : Int32)) := by have e0 : (0 : Int32).toInt = 0 := (by decide); have k0 := hd1; simp only [Int32.lt_iff_toInt_lt, ← Int32.toInt_inj] at k0 ⊢; omega
      exact law_61 l Z a0 hw w kk hN ws p0 p1 h0 O0 hd0 hd1 hi3_0
    · by_cases hd2 : p1 < (0 : Int32)
      · exact law_64 l Z a0 hw w kk hN ws p0 p1 h0 O0 hd0 hd1 hd2
      · exact law_66 l Z a0 hw w kk hN ws p0 p1 h0 O0 hd0 hd1 hd2
set_option maxRecDepth 65536 in
set_option maxHeartbeats 40000000 in
theorem comes_1 {Post : Tables → Env → Array Value → State → Outcome → State → Prop} (hpost : ∀ tb e args s v u, (limb_1_1.after args s (.returned v) u = true ∧ limb_1_2.after args s (.returned v) u = true ∧ True) → FrameEnd s (.returned v) u (Jvm.fieldLocs frame_1_writes args s ++ Jvm.arrayLocs frame_1_arrays args s ++ Jvm.staticLocs frame_1_statics s) 0 0 → Post tb e args s (.returned v) u) :
    ArmFor flags0 classFile x code maxLocals ret World_1 tables_1 room_1 Calls_1 rest_1 Pre_1 Post := by
  intro l hfl _ _ p e ha hc hk s m args below hf hA hF happ hP
  obtain ⟨hcalls, hrest, hpre⟩ := hP
  obtain ⟨-, -, -, hnamed, -, -, -, hat⟩ := (Spec.applies_iff hf).mp happ
  obtain ⟨hg, hn⟩ := and_e (Cond.before_iff.mp (show (Jvm.Cond.and given_1 narrow_1).before args s = true from hpre))
  obtain ⟨g1, g2⟩ := and_e hg
  obtain ⟨g3, g4⟩ := and_e g2
  obtain ⟨g5, g6⟩ := and_e hn
  obtain ⟨g7, g8⟩ := and_e g6
  obtain ⟨g9, g10⟩ := and_e g8
  obtain ⟨g11, g12⟩ := and_e g10
  obtain ⟨g13, g14⟩ := and_e g12
  obtain ⟨g15, g16⟩ := and_e g14
  obtain ⟨g17, g18⟩ := and_e g16
  obtain ⟨g19, g20⟩ := and_e g18
  obtain ⟨g21, g22⟩ := and_e g20
  obtain ⟨g23, g24⟩ := and_e g22
  obtain ⟨g25, g26⟩ := and_e g24
  obtain ⟨w0, w1, rfl⟩ : ∃ w0 w1 : Value, args = #[w0, w1] := by
    have hs : args.size = 2 := by simpa [Cond.value, given_1] using g1
    obtain ⟨L⟩ := args
    match L, hs with
    | [w0, w1], _ => exact ⟨w0, w1, rfl⟩
  have hw := fun d (hd : d ∈ tables_1) => atoms_spec (ws := Jvm.Cond.code x code maxLocals ret :: tables_1) hat d (List.mem_cons_of_mem _ hd)
  have hfit : Fit s := fun {y c} hc i hi => by
    obtain ⟨ha, rfl⟩ := Array.getElem?_eq_some_iff.mp hc
    have q := List.all_eq_true.mp ((Array.all_eq_true_iff_forall_mem.mp hF) _ (Array.getElem_mem ha)) i (List.mem_range.mpr hi)
    simpa [Array.getElem?_eq_getElem hi] using q
  obtain ⟨i0, ei0⟩ := is_v g3
  obtain rfl : w0 = (.int i0) := Option.some.inj ei0
  obtain ⟨i1, ei1⟩ := is_v g4
  obtain rfl : w1 = (.int i1) := Option.some.inj ei1
  obtain ⟨x0, v0⟩ := exa_v g5
  obtain ⟨x1, v1⟩ := exa_v g9
  obtain ⟨x2, v2⟩ := exa_v g13
  obtain ⟨x3, v3⟩ := exa_v g17
  obtain ⟨x4, v4⟩ := exa_v g21
  obtain ⟨x5, v5⟩ := exa_v g25
  have hN : Wd s (fun n => [x0, x1, x2, x3, x4, x5].getD n 0) (fun n => [0, 0, 0, 0, 0, 0].getD n 0) := ⟨Sta.start v0 (Or.inr ⟨(W hw 6 rfl), (W hw 7 rfl)⟩), Exa.start v0 g5, Sta.start v1 (Or.inr ⟨(W hw 6 rfl), (W hw 28 rfl)⟩), Exa.start v1 g9, Sta.start v2 (Or.inr ⟨(W hw 6 rfl), (W hw 30 rfl)⟩), Exa.start v2 g13, Sta.start v3 (Or.inr ⟨(W hw 6 rfl), (W hw 34 rfl)⟩), Exa.start v3 g17, Sta.start v4 (Or.inr ⟨(W hw 6 rfl), (W hw 36 rfl)⟩), Exa.start v4 g21, Sta.start v5 (Or.inr ⟨(W hw 6 rfl), (W hw 38 rfl)⟩), Exa.start v5 g25, Fld.start ((fld_at v0).symm.trans (own_eqv g7 (Term.int_eval _))), Fld.start ((fld_at v1).symm.trans (own_eqv g11 (Term.int_eval _))), Fld.start ((fld_at v2).symm.trans (own_eqv g15 (Term.int_eval _))), Fld.start ((fld_at v3).symm.trans (own_eqv g19 (Term.int_eval _))), Fld.start ((fld_at v4).symm.trans (own_eqv g23 (Term.int_eval _))), Fld.start ((fld_at v5).symm.trans (own_eqv g26 (Term.int_eval _)))⟩
  obtain ⟨n, o, h1, h2, h3, _, L, rfl, ⟨rfl, N⟩, hq⟩ := law_all l s _ hw _ _ hN tables_1 i0 i1 s.heap (Old.start s) p e ha hc hk s m _ below hf ((Spec.applies_iff_loose hf).mp happ).1 ⟨rfl, State.Warmed39.refl s, rfl⟩ trivial
  refine ⟨n, _, h1, h2, h3, hpost _ _ _ _ _ _ ⟨Cond.after_iff.mpr rfl, Cond.after_iff.mpr (eq_i res_at (Term.int_eval (1)) rfl), trivial⟩ ⟨hq.1, hq.2.1, (hq.2.2.sift fun y hy => Or.inr (N y hy)).mono (by decide) (by decide)⟩⟩
theorem main_1_1 : Claimed_1_1 := comes_1 fun _ _ _ _ _ _ h hF => ⟨h.1, hF⟩
theorem main_1_2 : Claimed_1_2 := comes_1 fun _ _ _ _ _ _ h hF => ⟨h.2.1, hF⟩
end Jvm.Pilot.@@N@@
namespace Jvm.Pilot.@@N@@
open Jvm Jvm.ClassFile Sem Op Lib Jvm.Free Jvm.Stand Jvm.Pilot.@@N@@.Jvm.D
/-! MADE BY PROGRAM (witnessworld.py) out of the Statement's table words and the real class files: 12 classes; the members and pool entries that the words name. The judged class is class 1, her method 2. -/
namespace start1
open Jvm.ClassFile
def u (s : String) : CpInfo := .utf8 (stringToUtf16 s)
/-- a pool by its gaps: so many unusable entries, then the entry; so many at the end -/
def gap : Nat → List CpInfo → List CpInfo
  | 0, r => r
  | n + 1, r => .unusable :: gap n r
def poolList (es : List (Nat × CpInfo)) (last : Nat) : List CpInfo := es.foldr (fun e r => gap e.1 (e.2 :: r)) (gap last [])
def pool (es : List (Nat × CpInfo)) (last : Nat) : Array CpInfo := ⟨poolList es last⟩
def fileOf (pool : Array CpInfo) (this : Nat) (attrs : Array Attribute := #[]) (ms : Array MethodInfo := #[]) (fl : Nat := 33) (sup : Nat := 0) (ifs : Array Nat := #[]) (fds : Array FieldInfo := #[]) : ClassFile where
  minorVersion := 0
  majorVersion := 65
  constantPool := pool
  accessFlags := fl
  thisClass := this
  superClass := sup
  interfaces := ifs
  fields := fds
  methods := ms
  attributes := attrs
def plain (name : String) (sup : Option ClassId) : Class where
  name := name
  kind := .ordinary
  loader := none
  accessFlags := 33
  super := sup
  interfaces := #[]
  cf := none
  fields := #[]
  methods := #[]
  instanceTypes := #[]
  staticTypes := #[]
  resolved := #[]
  callSites := []
  init := .initialized
  statics := none
  mirror := none

def pool0 : Array CpInfo := pool [(5, u "<init>"), (0, u "()V"), (1, .class_ 10), (1, u "java/lang/Object")] 113

def k0m0 : Method := { name := "<init>", desc := "()V", sig := { parameters := [], returnType := none }, accessFlags := 1, code := none }
/-- java/lang/Object -/
def k0 : Class := { plain "java/lang/Object" none with
  accessFlags := 33
  interfaces := #[]
  cf := some (fileOf pool0 8 #[] #[{ accessFlags := 1, nameIndex := 5, descriptorIndex := 6, attributes := #[] }] 33 0 #[] #[])
  fields := #[]
  methods := #[k0m0]
  instanceTypes := #[]
  staticTypes := #[]
  resolved := Array.replicate 124 none
  statics := none }

def pool1 : Array CpInfo := pool [(2, .class_ 4), (1, u "java/lang/Object"), (0, u "<init>"), (0, u "()V"), (0, .integer 2147483647), (0, .fieldref 9 10), (0, .class_ 11), (0, .nameAndType 12 13), (0, u "org/cartulary/repository/Condition$Operator"), (0, u "EQUAL"), (0, u "Lorg/cartulary/repository/Condition$Operator;"), (0, .fieldref 9 15), (0, .nameAndType 16 13), (0, u "NOT_EQUAL"), (0, .fieldref 9 18), (0, .nameAndType 19 13), (0, u "LESS"), (0, .fieldref 9 21), (0, .nameAndType 22 13), (0, u "LESS_OR_EQUAL"), (0, .fieldref 9 24), (0, .nameAndType 25 13), (0, u "GREATER"), (0, .fieldref 9 27), (0, .nameAndType 28 13), (0, u "GREATER_OR_EQUAL"), (0, .methodref 30 31), (0, .class_ 32), (0, .nameAndType 33 34), (0, u "org/cartulary/repository/OperatorSwappedPinLaw"), (0, u "pick"), (0, u "(I)Lorg/cartulary/repository/Condition$Operator;"), (0, .methodref 9 36), (0, .nameAndType 37 38), (0, u "swapped"), (0, u "()Lorg/cartulary/repository/Condition$Operator;"), (0, .methodref 9 40), (0, .nameAndType 41 42), (0, u "holds"), (0, u "(I)Z"), (3, u "law"), (0, u "(II)Z")] 6

def k1m0 : Method := { name := "<init>", desc := "()V", sig := { parameters := [], returnType := none }, accessFlags := 1, code := none }
def k1c1 : Code := { maxStack := 2, maxLocals := 2, code := method_2_code, exceptionTable := #[], attributes := #[] }
def k1m1 : Method := { name := "pick", desc := "(I)Lorg/cartulary/repository/Condition$Operator;", sig := { parameters := [.int], returnType := some (.object "org/cartulary/repository/Condition$Operator") }, accessFlags := 10, code := some k1c1 }
def k1c2 : Code := { maxStack := 3, maxLocals := 7, code := code, exceptionTable := #[], attributes := #[] }
def k1m2 : Method := { name := "law", desc := "(II)Z", sig := { parameters := [.int, .int], returnType := some .boolean }, accessFlags := 9, code := some k1c2 }
/-- org/cartulary/repository/OperatorSwappedPinLaw -/
def k1 : Class := { plain "org/cartulary/repository/OperatorSwappedPinLaw" (some 0) with
  accessFlags := 49
  interfaces := #[]
  cf := some (fileOf pool1 30 #[] #[{ accessFlags := 1, nameIndex := 5, descriptorIndex := 6, attributes := #[] }, { accessFlags := 10, nameIndex := 33, descriptorIndex := 34, attributes := #[] }, { accessFlags := 9, nameIndex := 46, descriptorIndex := 47, attributes := #[] }] 49 2 #[] #[])
  fields := #[]
  methods := #[k1m0, k1m1, k1m2]
  instanceTypes := #[]
  staticTypes := #[]
  resolved := Array.replicate 54 none
  statics := none }

def pool2 : Array CpInfo := pool [(1, .class_ 2), (0, u "java/lang/constant/Constable"), (0, .class_ 4), (0, u "java/lang/Object")] 6

/-- java/lang/constant/Constable -/
def k2 : Class := { plain "java/lang/constant/Constable" (some 0) with
  accessFlags := 1537
  interfaces := #[]
  cf := some (fileOf pool2 1 #[] #[] 1537 3 #[] #[])
  fields := #[]
  methods := #[]
  instanceTypes := #[]
  staticTypes := #[]
  resolved := Array.replicate 11 none
  statics := none }

def pool3 : Array CpInfo := pool [(1, .class_ 2), (0, u "java/lang/Comparable"), (0, .class_ 4), (0, u "java/lang/Object")] 7

/-- java/lang/Comparable -/
def k3 : Class := { plain "java/lang/Comparable" (some 0) with
  accessFlags := 1537
  interfaces := #[]
  cf := some (fileOf pool3 1 #[] #[] 1537 3 #[] #[])
  fields := #[]
  methods := #[]
  instanceTypes := #[]
  staticTypes := #[]
  resolved := Array.replicate 12 none
  statics := none }

def pool4 : Array CpInfo := pool [(1, .class_ 2), (0, u "java/io/Serializable"), (0, .class_ 4), (0, u "java/lang/Object")] 2

/-- java/io/Serializable -/
def k4 : Class := { plain "java/io/Serializable" (some 0) with
  accessFlags := 1537
  interfaces := #[]
  cf := some (fileOf pool4 1 #[] #[] 1537 3 #[] #[])
  fields := #[]
  methods := #[]
  instanceTypes := #[]
  staticTypes := #[]
  resolved := Array.replicate 7 none
  statics := none }

def pool5 : Array CpInfo := pool [(2, .class_ 4), (1, u "java/lang/Enum"), (0, u "name"), (0, u "Ljava/lang/String;"), (0, .fieldref 2 8), (0, .nameAndType 9 10), (0, u "ordinal"), (0, u "I"), (1, .class_ 14), (1, u "java/lang/Object"), (4, u "hash"), (86, .class_ 108), (1, u "java/lang/Enum$EnumDesc"), (2, .class_ 112), (0, u "java/lang/constant/Constable"), (0, .class_ 114), (0, u "java/lang/Comparable"), (0, .class_ 116), (0, u "java/io/Serializable"), (9, u "()I")] 77

def k5c0 : Code := { maxStack := 1, maxLocals := 1, code := jdk_37_method_2_code, exceptionTable := #[], attributes := #[] }
def k5m0 : Method := { name := "ordinal", desc := "()I", sig := { parameters := [], returnType := some .int }, accessFlags := 17, code := some k5c0 }
/-- java/lang/Enum -/
def k5 : Class := { plain "java/lang/Enum" (some 0) with
  accessFlags := 1057
  interfaces := #[2, 3, 4]
  cf := some (fileOf pool5 2 #[.nestMembers #[106]] #[{ accessFlags := 17, nameIndex := 9, descriptorIndex := 126, attributes := #[] }] 1057 12 #[111, 113, 115] #[{ accessFlags := 18, nameIndex := 5, descriptorIndex := 6, attributes := #[] }, { accessFlags := 18, nameIndex := 9, descriptorIndex := 10, attributes := #[] }, { accessFlags := 2, nameIndex := 19, descriptorIndex := 10, attributes := #[] }])
  fields := #[{ name := "name", type := (.object "java/lang/String"), accessFlags := 18, slot := 0, constantValue := 0 }, { name := "ordinal", type := .int, accessFlags := 18, slot := 1, constantValue := 0 }, { name := "hash", type := .int, accessFlags := 2, slot := 2, constantValue := 0 }]
  methods := #[k5m0]
  instanceTypes := #[(.object "java/lang/String"), .int, .int]
  staticTypes := #[]
  resolved := Array.replicate 204 none
  statics := none }

def pool6 : Array CpInfo := pool [(1, .class_ 2), (0, u "org/cartulary/repository/Condition$Operator"), (2, u "EQUAL"), (0, u "Lorg/cartulary/repository/Condition$Operator;"), (2, u "NOT_EQUAL"), (0, .fieldref 1 11), (0, .nameAndType 12 6), (0, u "LESS"), (0, .fieldref 1 14), (0, .nameAndType 15 6), (0, u "LESS_OR_EQUAL"), (0, .fieldref 1 17), (0, .nameAndType 18 6), (0, u "GREATER"), (0, .fieldref 1 20), (0, .nameAndType 21 6), (0, u "GREATER_OR_EQUAL"), (2, u "$VALUES"), (0, u "[Lorg/cartulary/repository/Condition$Operator;"), (6, .class_ 34), (1, u "java/lang/Enum"), (8, u "symbol"), (0, u "Ljava/lang/String;"), (0, .methodref 1 46), (0, .nameAndType 47 48), (0, u "ordinal"), (0, u "()I"), (38, u "holds"), (0, u "(I)Z"), (1, u "swapped"), (0, u "()Lorg/cartulary/repository/Condition$Operator;"), (6, .class_ 99), (0, u "org/cartulary/repository/Condition")] 2

def k6c0 : Code := { maxStack := 4, maxLocals := 2, code := prog_67_method_5_code, exceptionTable := #[], attributes := #[] }
def k6m0 : Method := { name := "holds", desc := "(I)Z", sig := { parameters := [.int], returnType := some .boolean }, accessFlags := 0, code := some k6c0 }
def k6c1 : Code := { maxStack := 4, maxLocals := 1, code := prog_67_method_6_code, exceptionTable := #[], attributes := #[] }
def k6m1 : Method := { name := "swapped", desc := "()Lorg/cartulary/repository/Condition$Operator;", sig := { parameters := [], returnType := some (.object "org/cartulary/repository/Condition$Operator") }, accessFlags := 0, code := some k6c1 }
/-- org/cartulary/repository/Condition$Operator -/
def k6 : Class := { plain "org/cartulary/repository/Condition$Operator" (some 5) with
  accessFlags := 16433
  interfaces := #[]
  cf := some (fileOf pool6 1 #[.nestHost 98] #[{ accessFlags := 0, nameIndex := 87, descriptorIndex := 88, attributes := #[] }, { accessFlags := 0, nameIndex := 90, descriptorIndex := 91, attributes := #[] }] 16433 32 #[] #[{ accessFlags := 16409, nameIndex := 5, descriptorIndex := 6, attributes := #[] }, { accessFlags := 16409, nameIndex := 9, descriptorIndex := 6, attributes := #[] }, { accessFlags := 16409, nameIndex := 12, descriptorIndex := 6, attributes := #[] }, { accessFlags := 16409, nameIndex := 15, descriptorIndex := 6, attributes := #[] }, { accessFlags := 16409, nameIndex := 18, descriptorIndex := 6, attributes := #[] }, { accessFlags := 16409, nameIndex := 21, descriptorIndex := 6, attributes := #[] }, { accessFlags := 18, nameIndex := 43, descriptorIndex := 44, attributes := #[] }, { accessFlags := 4122, nameIndex := 24, descriptorIndex := 25, attributes := #[] }])
  fields := #[{ name := "EQUAL", type := (.object "org/cartulary/repository/Condition$Operator"), accessFlags := 16409, slot := 0, constantValue := 0 }, { name := "NOT_EQUAL", type := (.object "org/cartulary/repository/Condition$Operator"), accessFlags := 16409, slot := 1, constantValue := 0 }, { name := "LESS", type := (.object "org/cartulary/repository/Condition$Operator"), accessFlags := 16409, slot := 2, constantValue := 0 }, { name := "LESS_OR_EQUAL", type := (.object "org/cartulary/repository/Condition$Operator"), accessFlags := 16409, slot := 3, constantValue := 0 }, { name := "GREATER", type := (.object "org/cartulary/repository/Condition$Operator"), accessFlags := 16409, slot := 4, constantValue := 0 }, { name := "GREATER_OR_EQUAL", type := (.object "org/cartulary/repository/Condition$Operator"), accessFlags := 16409, slot := 5, constantValue := 0 }, { name := "symbol", type := (.object "java/lang/String"), accessFlags := 18, slot := 3, constantValue := 0 }, { name := "$VALUES", type := (.array (.object "org/cartulary/repository/Condition$Operator")), accessFlags := 4122, slot := 6, constantValue := 0 }]
  methods := #[k6m0, k6m1]
  instanceTypes := #[(.object "java/lang/String"), .int, .int, (.object "java/lang/String")]
  staticTypes := #[(.object "org/cartulary/repository/Condition$Operator"), (.object "org/cartulary/repository/Condition$Operator"), (.object "org/cartulary/repository/Condition$Operator"), (.object "org/cartulary/repository/Condition$Operator"), (.object "org/cartulary/repository/Condition$Operator"), (.object "org/cartulary/repository/Condition$Operator"), (.array (.object "org/cartulary/repository/Condition$Operator"))]
  resolved := Array.replicate 102 none
  statics := some 0 }

def pool7 : Array CpInfo := pool [(1, u "java/lang/Cloneable"), (0, .class_ 1), (0, u "java/lang/Object"), (0, .class_ 3)] 3

/-- java/lang/Cloneable -/
def k7 : Class := { plain "java/lang/Cloneable" (some 0) with
  accessFlags := 1537
  interfaces := #[]
  cf := some (fileOf pool7 2 #[] #[] 1537 4 #[] #[])
  fields := #[]
  methods := #[]
  instanceTypes := #[]
  staticTypes := #[]
  resolved := Array.replicate 8 none
  statics := none }

/-- the primitive byte -/
def k8 : Class := { plain "byte" none with kind := .primitive 'B', accessFlags := 0x411 }
/-- [B -/
def k9 : Class := { plain "[B" (some 0) with kind := .array 8 .byte, interfaces := #[7, 4], accessFlags := 1041 }

/-- the primitive int -/
def k10 : Class := { plain "int" none with kind := .primitive 'I', accessFlags := 0x411 }
/-- [I -/
def k11 : Class := { plain "[I" (some 0) with kind := .array 10 .int, interfaces := #[7, 4], accessFlags := 1041 }

def heap : Heap := #[{ cls := 6, slots := #[.ref 1, .ref 4, .ref 2, .ref 6, .ref 3, .ref 5, .null], vm := .statics 6 },
  { cls := 6, slots := #[.null, .int 0, .int 0, .null], vm := .none },
  { cls := 6, slots := #[.null, .int 2, .int 0, .null], vm := .none },
  { cls := 6, slots := #[.null, .int 4, .int 0, .null], vm := .none },
  { cls := 6, slots := #[.null, .int 1, .int 0, .null], vm := .none },
  { cls := 6, slots := #[.null, .int 5, .int 0, .null], vm := .none },
  { cls := 6, slots := #[.null, .int 3, .int 0, .null], vm := .none }]
def classes : Array Class := #[k0, k1, k2, k3, k4, k5, k6, k7, k8, k9, k10, k11]
def interned : List (Array UInt16 × Addr) := []
def slotsUsed : Nat := 31
def theMethod : MethodId := ⟨1, 2⟩
def args0 : Array Value := #[.int 5, .int 5]
def aboutOver (below : List Frame) : State where
  vm := { classes := classes, interned := interned.toArray }
  heap := heap
  slotsUsed := slotsUsed
  threads := #[{ frames := .invoking theMethod args0 :: below }]
def below0 : List Frame := [.native { method := ⟨0, 0⟩, args := #[] }]
def about1 : State := aboutOver below0
def p0 : Program := .bare "" "" ""
def e0 : Env := launch0.env 0 0 0
theorem w_frames : about1.frames = Frame.invoking theMethod args0 :: below0 := rfl
set_option maxRecDepth 65536 in
theorem w_args : argsFit about1.vm theMethod args0 = true := by decide +kernel
set_option maxRecDepth 65536 in
theorem w_heap : heapFits about1 = true := by decide +kernel
set_option maxRecDepth 65536 in
theorem w_runnable : about1.curStatus? = some .runnable := by decide +kernel
set_option maxRecDepth 65536 in
theorem w_alone : about1.alone = true := by decide +kernel
set_option maxRecDepth 65536 in
theorem w_named : about1.methodNamed? x = some theMethod := by decide +kernel
set_option maxRecDepth 65536 in
theorem w_hears : about1.hears theMethod below0 = true := by decide +kernel
set_option maxRecDepth 65536 in
theorem w_ripe : about1.ripe theMethod args0 below0 = true := by decide +kernel
theorem w_running : about1.status = .running := rfl
set_option maxRecDepth 65536 in
theorem w_room : about1.hasRoom e0.platform room_1 = true :=
  launch0.hasRoom_least _ room_1 (by decide +kernel) (by decide +kernel) (by decide +kernel) (by decide +kernel) (by decide +kernel) (by decide +kernel)
theorem allAtoms_all (ts : List Jvm.Cond) (a : Array Jvm.Value) (st : Jvm.State) : (allAtoms ts).before a st = ts.all (fun c => c.before a st) := by
  induction ts with
  | nil => rfl
  | cons c t ih =>
    show (Jvm.Cond.and c (allAtoms t)).before a st = _
    rw [Jvm.Cond.before_and, ih, List.all_cons]
def words1 : List Jvm.Cond := Jvm.Cond.code x code maxLocals ret :: tables_1
/-- a 'code' word, met by the world's own term for the bytes: nothing is compared byte by byte -/
theorem code_word {y : MethodName} {bytes : ByteArray} {mx : Nat} {rt : Option FieldType} {a : Array Value} {s : State} {m : MethodId} {meth : Method} {c : Code} (h1 : s.methodNamed? y = some m) (h2 : s.vm.method? m = some meth) (h3 : meth.code = some c) (h4 : c.code = bytes)
    (h5 : (c.maxLocals == mx && c.exceptionTable.isEmpty && decide (c.maxStack ≤ mostOperands) && decide (meth.sig.returnType = rt) && !meth.locks && decide (parseMethodDescriptor y.desc = some meth.sig)) = true) : (Jvm.Cond.code y bytes mx rt).before a s = true := by
  simp only [Bool.and_eq_true, beq_iff_eq, Bool.not_eq_true', decide_eq_true_eq] at h5
  obtain ⟨⟨⟨⟨⟨g1, g2⟩, g3⟩, g4⟩, g5⟩, g6⟩ := h5
  simp [Cond.before, Cond.holds, Cond.value, h1, h2, h3, h4, g1, g2, g3, g4, g5, g6]
def isCode : Jvm.Cond → Bool
  | .code _ _ _ _ => true
  | _ => false
theorem all_split {L : List Jvm.Cond} {P : Jvm.Cond → Bool} (h1 : L.all (fun c => isCode c || P c) = true) (h2 : ∀ c ∈ L.filter isCode, P c = true) : L.all P = true := by
  refine List.all_eq_true.mpr fun c hc => ?_
  have h := List.all_eq_true.mp h1 c hc
  rcases Bool.eq_false_or_eq_true (isCode c) with hi | hi
  · exact h2 c (List.mem_filter.mpr ⟨hc, hi⟩)
  · simpa [hi] using h
set_option maxRecDepth 65536 in
theorem w_c0 : (Jvm.Cond.code x code maxLocals ret).before args0 about1 = true := code_word (m := ⟨1, 2⟩) (meth := k1m2) (c := k1c2) (by decide +kernel) rfl rfl rfl (by decide +kernel)
set_option maxRecDepth 65536 in
theorem w_c1 : (Jvm.Cond.code ({ cls := "org/cartulary/repository/OperatorSwappedPinLaw", name := "pick", desc := "(I)Lorg/cartulary/repository/Condition$Operator;" } : Jvm.MethodName) method_2_code (2 : Nat) (Option.some (Jvm.ClassFile.FieldType.object "org/cartulary/repository/Condition$Operator"))).before args0 about1 = true := code_word (m := ⟨1, 1⟩) (meth := k1m1) (c := k1c1) (by decide +kernel) rfl rfl rfl (by decide +kernel)
set_option maxRecDepth 65536 in
theorem w_c2 : (Jvm.Cond.code ({ cls := "org/cartulary/repository/Condition$Operator", name := "swapped", desc := "()Lorg/cartulary/repository/Condition$Operator;" } : Jvm.MethodName) prog_67_method_6_code (1 : Nat) (Option.some (Jvm.ClassFile.FieldType.object "org/cartulary/repository/Condition$Operator"))).before args0 about1 = true := code_word (m := ⟨6, 1⟩) (meth := k6m1) (c := k6c1) (by decide +kernel) rfl rfl rfl (by decide +kernel)
set_option maxRecDepth 65536 in
theorem w_c3 : (Jvm.Cond.code ({ cls := "java/lang/Enum", name := "ordinal", desc := "()I" } : Jvm.MethodName) jdk_37_method_2_code (1 : Nat) (Option.some Jvm.ClassFile.FieldType.int)).before args0 about1 = true := code_word (m := ⟨5, 0⟩) (meth := k5m0) (c := k5c0) (by decide +kernel) rfl rfl rfl (by decide +kernel)
set_option maxRecDepth 65536 in
theorem w_c4 : (Jvm.Cond.code ({ cls := "org/cartulary/repository/Condition$Operator", name := "holds", desc := "(I)Z" } : Jvm.MethodName) prog_67_method_5_code (2 : Nat) (Option.some Jvm.ClassFile.FieldType.boolean)).before args0 about1 = true := code_word (m := ⟨6, 0⟩) (meth := k6m0) (c := k6c0) (by decide +kernel) rfl rfl rfl (by decide +kernel)
def codes1 : List Jvm.Cond := [Jvm.Cond.code x code maxLocals ret, Jvm.Cond.code ({ cls := "org/cartulary/repository/OperatorSwappedPinLaw", name := "pick", desc := "(I)Lorg/cartulary/repository/Condition$Operator;" } : Jvm.MethodName) method_2_code (2 : Nat) (Option.some (Jvm.ClassFile.FieldType.object "org/cartulary/repository/Condition$Operator")), Jvm.Cond.code ({ cls := "org/cartulary/repository/Condition$Operator", name := "swapped", desc := "()Lorg/cartulary/repository/Condition$Operator;" } : Jvm.MethodName) prog_67_method_6_code (1 : Nat) (Option.some (Jvm.ClassFile.FieldType.object "org/cartulary/repository/Condition$Operator")), Jvm.Cond.code ({ cls := "java/lang/Enum", name := "ordinal", desc := "()I" } : Jvm.MethodName) jdk_37_method_2_code (1 : Nat) (Option.some Jvm.ClassFile.FieldType.int), Jvm.Cond.code ({ cls := "org/cartulary/repository/Condition$Operator", name := "holds", desc := "(I)Z" } : Jvm.MethodName) prog_67_method_5_code (2 : Nat) (Option.some Jvm.ClassFile.FieldType.boolean)]
set_option maxRecDepth 65536 in
theorem codes_eq : words1.filter isCode = codes1 := rfl
theorem w_codes : ∀ c ∈ words1.filter isCode, c.before args0 about1 = true := by
  rw [codes_eq]
  intro c hc
  simp only [codes1, List.mem_cons, List.not_mem_nil, or_false] at hc
  rcases hc with rfl | rfl | rfl | rfl | rfl
  · exact w_c0
  · exact w_c1
  · exact w_c2
  · exact w_c3
  · exact w_c4
set_option maxRecDepth 65536 in
theorem w_t1 : (words1.take 24).all (fun c => isCode c || c.before args0 about1) = true := by decide +kernel
set_option maxRecDepth 65536 in
theorem w_t2 : (words1.drop 24).all (fun c => isCode c || c.before args0 about1) = true := by decide +kernel
theorem w_tables : (allAtoms (Jvm.Cond.code x code maxLocals ret :: tables_1)).before args0 about1 = true := by
  rw [allAtoms_all]
  show words1.all (fun c => c.before args0 about1) = true
  refine all_split ?_ w_codes
  rw [← List.take_append_drop 24 words1, List.all_append, w_t1, w_t2]
  rfl
set_option maxRecDepth 65536 in
theorem w_case : (Jvm.Cond.and given_1 narrow_1).before args0 about1 = true := by decide +kernel
theorem w_applies : (headSpec (Jvm.Cond.code x code maxLocals ret :: tables_1) room_1).applies x e0.platform about1 = true :=
  (Spec.applies_iff w_frames).mpr ⟨w_running, w_runnable, w_alone, w_named, w_hears, w_ripe, w_room, w_tables⟩
theorem atStart : AtStart classFile x code maxLocals ret World_1 tables_1 room_1 Calls_1 rest_1 Pre_1 launch0 p0 e0 about1 theMethod args0 below0 :=
  ⟨lists_1, trivial, launch0.admits_env _ _ _, launch0.least_env, fairChoices_fair.cas, fairChoices_fair.clock, w_frames, w_args, w_heap, w_applies, trivial, trivial, w_case⟩
end start1
theorem witness_1 : WitnessClaimed_1 := ⟨start1.p0, start1.e0, start1.about1, start1.theMethod, start1.args0, start1.below0, start1.atStart⟩
end Jvm.Pilot.@@N@@
