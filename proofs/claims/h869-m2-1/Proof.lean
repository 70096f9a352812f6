import JvmDerived
import JvmDerived.Pilot.@@N@@Statement
import JvmDerived.Pilot.@@N@@Code
set_option linter.unusedVariables false
set_option linter.unusedSimpArgs false
namespace Jvm.RoadKit
open Sem ClassFile Op Lib Jvm.Stand Jvm.Free Jvm.LawKit
section New
variable {p : Program} {l : Launch} {e : Env} {R : Room} {s : State} {m : MethodId} {args : Array Value} {below : List Frame} {meth : Method} {c : Code} {T : State} {locs : List Loc} {cells slots : Nat}
theorem retI (X : Stand p l e R s m args below meth c T locs cells slots) (hx : p.tables.exec = Jvm.exec) {pc : Nat} {Ls : Array Slot} {z : Int32} {rest : List Value} (hret : meth.sig.returnType = some .int) (hd : decode c.code pc = .ok (.ireturn, 1)) {fs : List Frame}
    (hl : ∀ (f : JFrame) (acts : List Action), f.method = m → f.locked = none → f.entered = [] → (doReturn e (T.setTop f) acts (some (.int z))).1 = T.setFrames fs) : Steps p.tables e below (T.setTop (mkF m pc Ls (.int z :: rest))) (T.setFrames fs) :=
  retOut X hx hret rfl (Or.inl ⟨rfl, Or.inl rfl, z, rfl⟩) hd hl
end New
end Jvm.RoadKit
namespace Jvm.Pilot.@@N@@
open Jvm Jvm.ClassFile Sem Op Lib Jvm.Free Jvm.Stand Jvm.LawKit Jvm.RoadKit Bundle Jvm.Pilot.@@N@@.Jvm.D
theorem W {a0 : Array Value} {Z : State} (hw : ∀ d ∈ tables_1, d.before a0 Z = true) (i : Nat) {d : Jvm.Cond} (h : tables_1[i]? = some d) : d.before a0 Z = true := hw d (List.mem_of_getElem? h)
theorem own_eqv {args : Array Value} {first s : State} {o : Option Outcome} {idx : List Nat} {a b : Term} {x : Value} (h : (Cond.eq a b).value args first o s idx = some true) (hb : b.eval args first o idx s = some x) : a.eval args first o idx s = some x := by
  simp only [Cond.value, hb] at h
  cases ha : a.eval args first o idx s with
  | none => rw [ha] at h; cases h
  | some y => rw [ha] at h; cases x <;> cases y <;> simp at h <;> first | rw [h] | rfl
def OL (val : Option Value) (n0 : Nat) (v : Option Value) (h : Heap) (L : List Loc) : Prop := v = val ∧ Fr n0 L
def OQ (val : Option Value) (h0 : Heap) (n0 : Nat) (v : Option Value) (h : Heap) (L : List Loc) : Prop := v = val ∧ Fr n0 L ∧ h = h0
def Wd (Z : State) (w : Nat → Addr) (kk : Nat → ClassId) : Prop :=
  Sta Z Z.heap "com/example/netloom/netloom/net/ElementKind" "NET" "Lcom/example/netloom/netloom/net/ElementKind;" (.ref (w 0)) ∧
  Exa Z Z.heap (w 0) "com/example/netloom/netloom/net/ElementKind" ∧
  Sta Z Z.heap "com/example/netloom/netloom/net/ElementKind" "PAGE" "Lcom/example/netloom/netloom/net/ElementKind;" (.ref (w 1)) ∧
  Exa Z Z.heap (w 1) "com/example/netloom/netloom/net/ElementKind" ∧
  Sta Z Z.heap "com/example/netloom/netloom/net/ElementKind" "PLACE" "Lcom/example/netloom/netloom/net/ElementKind;" (.ref (w 2)) ∧
  Exa Z Z.heap (w 2) "com/example/netloom/netloom/net/ElementKind" ∧
  Sta Z Z.heap "com/example/netloom/netloom/net/ElementKind" "TRANSITION" "Lcom/example/netloom/netloom/net/ElementKind;" (.ref (w 3)) ∧
  Exa Z Z.heap (w 3) "com/example/netloom/netloom/net/ElementKind" ∧
  Sta Z Z.heap "com/example/netloom/netloom/net/ElementKind" "REFERENCE_PLACE" "Lcom/example/netloom/netloom/net/ElementKind;" (.ref (w 4)) ∧
  Exa Z Z.heap (w 4) "com/example/netloom/netloom/net/ElementKind" ∧
  Sta Z Z.heap "com/example/netloom/netloom/net/ElementKind" "REFERENCE_TRANSITION" "Lcom/example/netloom/netloom/net/ElementKind;" (.ref (w 5)) ∧
  Exa Z Z.heap (w 5) "com/example/netloom/netloom/net/ElementKind" ∧
  Sta Z Z.heap "com/example/netloom/netloom/net/ElementKind" "ARC" "Lcom/example/netloom/netloom/net/ElementKind;" (.ref (w 6)) ∧
  Exa Z Z.heap (w 6) "com/example/netloom/netloom/net/ElementKind" ∧
  Sta Z Z.heap "com/example/netloom/netloom/net/ElementKind" "SORT" "Lcom/example/netloom/netloom/net/ElementKind;" (.ref (w 7)) ∧
  Exa Z Z.heap (w 7) "com/example/netloom/netloom/net/ElementKind" ∧
  Sta Z Z.heap "com/example/netloom/netloom/net/ElementKind" "PARTITION" "Lcom/example/netloom/netloom/net/ElementKind;" (.ref (w 8)) ∧
  Exa Z Z.heap (w 8) "com/example/netloom/netloom/net/ElementKind" ∧
  Sta Z Z.heap "com/example/netloom/netloom/net/ElementKind" "PARTITION_ELEMENT" "Lcom/example/netloom/netloom/net/ElementKind;" (.ref (w 9)) ∧
  Exa Z Z.heap (w 9) "com/example/netloom/netloom/net/ElementKind" ∧
  Sta Z Z.heap "com/example/netloom/netloom/net/ElementKind" "OPERATOR" "Lcom/example/netloom/netloom/net/ElementKind;" (.ref (w 10)) ∧
  Exa Z Z.heap (w 10) "com/example/netloom/netloom/net/ElementKind" ∧
  Sta Z Z.heap "com/example/netloom/netloom/net/ElementKind" "VARIABLE" "Lcom/example/netloom/netloom/net/ElementKind;" (.ref (w 11)) ∧
  Exa Z Z.heap (w 11) "com/example/netloom/netloom/net/ElementKind" ∧
  Sta Z Z.heap "com/example/netloom/netloom/net/ElementKind" "CONSTANT" "Lcom/example/netloom/netloom/net/ElementKind;" (.ref (w 12)) ∧
  Exa Z Z.heap (w 12) "com/example/netloom/netloom/net/ElementKind" ∧
  Fld Z Z.heap (w 0) "java/lang/Enum" "ordinal" "I" (.int (0 : Int32)) ∧
  Fld Z Z.heap (w 2) "java/lang/Enum" "ordinal" "I" (.int (2 : Int32)) ∧
  Fld Z Z.heap (w 4) "java/lang/Enum" "ordinal" "I" (.int (4 : Int32)) ∧
  Fld Z Z.heap (w 3) "java/lang/Enum" "ordinal" "I" (.int (3 : Int32)) ∧
  Fld Z Z.heap (w 6) "java/lang/Enum" "ordinal" "I" (.int (6 : Int32)) ∧
  Fld Z Z.heap (w 5) "java/lang/Enum" "ordinal" "I" (.int (5 : Int32)) ∧
  Fld Z Z.heap (w 7) "java/lang/Enum" "ordinal" "I" (.int (7 : Int32)) ∧
  Fld Z Z.heap (w 9) "java/lang/Enum" "ordinal" "I" (.int (9 : Int32)) ∧
  Fld Z Z.heap (w 11) "java/lang/Enum" "ordinal" "I" (.int (11 : Int32)) ∧
  Fld Z Z.heap (w 1) "java/lang/Enum" "ordinal" "I" (.int (1 : Int32)) ∧
  Fld Z Z.heap (w 8) "java/lang/Enum" "ordinal" "I" (.int (8 : Int32)) ∧
  Fld Z Z.heap (w 10) "java/lang/Enum" "ordinal" "I" (.int (10 : Int32)) ∧
  Fld Z Z.heap (w 12) "java/lang/Enum" "ordinal" "I" (.int (12 : Int32))
theorem own_split_0 (x : Int32) : ((x &&& (2147483647 : Int32)) % (13 : Int32)) = (0 : Int32) ∨ ((x &&& (2147483647 : Int32)) % (13 : Int32)) = (1 : Int32) ∨ ((x &&& (2147483647 : Int32)) % (13 : Int32)) = (2 : Int32) ∨ ((x &&& (2147483647 : Int32)) % (13 : Int32)) = (3 : Int32) ∨ ((x &&& (2147483647 : Int32)) % (13 : Int32)) = (4 : Int32) ∨ ((x &&& (2147483647 : Int32)) % (13 : Int32)) = (5 : Int32) ∨ ((x &&& (2147483647 : Int32)) % (13 : Int32)) = (6 : Int32) ∨ ((x &&& (2147483647 : Int32)) % (13 : Int32)) = (7 : Int32) ∨ ((x &&& (2147483647 : Int32)) % (13 : Int32)) = (8 : Int32) ∨ ((x &&& (2147483647 : Int32)) % (13 : Int32)) = (9 : Int32) ∨ ((x &&& (2147483647 : Int32)) % (13 : Int32)) = (10 : Int32) ∨ ((x &&& (2147483647 : Int32)) % (13 : Int32)) = (11 : Int32) ∨ ((x &&& (2147483647 : Int32)) % (13 : Int32)) = (12 : Int32) := by
  have h1 := c_mask x (2147483647 : Int32) 31 (by decide) (by decide)
  have h2 := (c_irem (x &&& (2147483647 : Int32)) (13 : Int32) 13 (by decide)).1 (by omega)
  simp only [← Int32.toInt_inj, h2, (by decide : (0 : Int32).toInt = 0), (by decide : (1 : Int32).toInt = 1), (by decide : (2 : Int32).toInt = 2), (by decide : (3 : Int32).toInt = 3), (by decide : (4 : Int32).toInt = 4), (by decide : (5 : Int32).toInt = 5), (by decide : (6 : Int32).toInt = 6), (by decide : (7 : Int32).toInt = 7), (by decide : (8 : Int32).toInt = 8), (by decide : (9 : Int32).toInt = 9), (by decide : (10 : Int32).toInt = 10), (by decide : (11 : Int32).toInt = 11), (by decide : (12 : Int32).toInt = 12)]
  omega
theorem d_prog_22_method_5_code_0 : decode prog_22_method_5_code 0 = .ok (.aload_n 0, 1) := by decide +kernel
theorem d_prog_22_method_5_code_1 : decode prog_22_method_5_code 1 = .ok (.getstatic 10, 3) := by decide +kernel
theorem d_prog_22_method_5_code_4 : decode prog_22_method_5_code 4 = .ok (.if_acmp .eq 10, 3) := by decide +kernel
theorem d_prog_22_method_5_code_7 : decode prog_22_method_5_code 7 = .ok (.aload_n 0, 1) := by decide +kernel
theorem d_prog_22_method_5_code_8 : decode prog_22_method_5_code 8 = .ok (.getstatic 16, 3) := by decide +kernel
theorem d_prog_22_method_5_code_11 : decode prog_22_method_5_code 11 = .ok (.if_acmp .ne 7, 3) := by decide +kernel
theorem d_prog_22_method_5_code_18 : decode prog_22_method_5_code 18 = .ok (.iconst 0, 1) := by decide +kernel
theorem d_prog_22_method_5_code_19 : decode prog_22_method_5_code 19 = .ok (.ireturn, 1) := by decide +kernel
theorem ef_0 (m : MethodId) (x0 : Value) (h0 : x0.category = 1) : entryFrame m #[x0] 1 = mkF m 0 #[.val x0] [] := by first | (simp [entryFrame, mkF, argsToLocals, h0]; done) | rfl
theorem pn_0 : plainName "com/example/netloom/netloom/net/ElementKind" = true := by first | (simp [plainName, overriddenIn]; done) | decide +kernel
set_option maxRecDepth 65536 in
set_option maxHeartbeats 40000000 in
theorem rm_1 (l : Launch) (Z : State) (a0 : Array Value) (hw : ∀ d ∈ tables_1, d.before a0 Z = true) (w : Nat → Addr) (kk : Nat → ClassId) (hN : Wd Z w kk) (ws : List Jvm.Cond)  (h0 : Heap) (O0 : Old Z Z.heap.size h0) :
    MetFree l (⟨"com/example/netloom/netloom/net/ElementKind", "isPlace", "()Z"⟩ : MethodName) (head1 (Jvm.Cond.code (⟨"com/example/netloom/netloom/net/ElementKind", "isPlace", "()Z"⟩ : MethodName) prog_22_method_5_code 1 (some .boolean) :: ws) ({ frames := 0, cells := 0, slots := 0, locals := 0 } : Room)) (fun a U => a = #[(.ref (w 0))] ∧ Z.Warmed39 U.vm ∧ U.heap = h0) (fun _ _ _ _ _ => True) (fun _ U o U' => ∃ v L, o = .returned v ∧ OQ (some (.int (0 : Int32))) h0 Z.heap.size v U'.heap L ∧ FrameEnd U o U' L ({ frames := 0, cells := 0, slots := 0, locals := 0 } : Room).cells ({ frames := 0, cells := 0, slots := 0, locals := 0 } : Room).slots) := by
  have hN' := hN
  obtain ⟨hS0, hE0, hS1, hE1, hS2, hE2, hS3, hE3, hS4, hE4, hS5, hE5, hS6, hE6, hS7, hE7, hS8, hE8, hS9, hE9, hS10, hE10, hS11, hE11, hS12, hE12, hF0_ordinal, hF2_ordinal, hF4_ordinal, hF3_ordinal, hF6_ordinal, hF5_ordinal, hF7_ordinal, hF9_ordinal, hF11_ordinal, hF1_ordinal, hF8_ordinal, hF10_ordinal, hF12_ordinal⟩ := hN'
  refine MetFree.of_bodySF (plainFor_of_name pn_0) hisR ?_
  intro p e s m args below meth c s₁ Bd hml0 hP hK
  obtain ⟨rfl, hZ, hh⟩ := hP
  have hx := Bd.exec
  have hby := Bd.bytes
  have hml : c.maxLocals = 1 := hml0
  have hown : s.vm.findClass "com/example/netloom/netloom/net/ElementKind" = some m.cls := findClass_of_methodNamed Bd.named
  have hnm := (name_of_methodNamed Bd.named Bd.method).1
  have X0 : Stand p l e ({ frames := 0, cells := 0, slots := 0, locals := 0 } : Room) s m #[(.ref (w 0))] below meth c s₁ [] 0 0 := Stand.of_body Bd
  have e0 : s₁.heap = h0 := by rw [← hh, Bd.state]; rfl
  have N0 := Fr.nil Z.heap.size
  have pre0 : ∀ t, Steps p.tables e below (s₁.setTop (mkF m 0 #[.val (.ref (w 0))] [])) t → Steps p.tables e below (s₁.setTop (entryFrame m #[(.ref (w 0))] 1)) t := fun t k => castTop (ef_0 m (.ref (w 0)) rfl) k
  obtain ⟨T1, X1, e1, st1⟩ := getS2 X0 hx hZ hown (host := "") (Or.inl (W hw 36 rfl)) Via.refl e0 (hS2.ext O0.2) (g := (mkF m 1 #[.val (.ref (w 0))] [(.ref (w 0))])) rfl (hb hby d_prog_22_method_5_code_1)
  obtain ⟨T2, X2, e2, st2⟩ := getS2 X1 hx hZ hown (host := "") (Or.inl (W hw 37 rfl)) Via.refl e1 (hS4.ext O0.2) (g := (mkF m 8 #[.val (.ref (w 0))] [(.ref (w 0))])) rfl (hb hby d_prog_22_method_5_code_8)
  obtain ⟨fs, hr, hrun, hended, hW, hsame⟩ := X2.leave (v := some (.int (0 : Int32))) (fun h => by rw [Bd.returns] at h; cases h)
  refine ⟨_, _, pre0 _ ?_, hrun, hended, _, _, rfl, ?_, ⟨_, rfl⟩, hW, hsame.mono (by decide) (by decide)⟩
  · show Steps p.tables e below (s₁.setTop (mkF m 0 #[.val (.ref (w 0))] [])) _
    refine XS.aloadN X0.here hx rfl (hb hby d_prog_22_method_5_code_0) rfl rfl ?_
    show Steps p.tables e below (s₁.setTop (mkF m 1 #[.val (.ref (w 0))] [(.ref (w 0))])) _
    refine st1 _ ?_
    show Steps p.tables e below (T1.setTop (mkF m 4 #[.val (.ref (w 0))] [(.ref (w 2)), (.ref (w 0))])) _
    refine Jvm.RoadKit.acmp (g := (mkF m 4 #[.val (.ref (w 0))] [(.ref (w 2)), (.ref (w 0))])) X1 hx rfl rfl rfl (pc0 := 4) (pc' := 7) (same := false) rfl (hb hby d_prog_22_method_5_code_4) rfl (decide_eq_false fun q => (Fld.ne hF0_ordinal hF2_ordinal (by decide)) (Value.ref.inj q)) (by decide) (by decide) ?_
    show Steps p.tables e below (T1.setTop (mkF m 7 #[.val (.ref (w 0))] [])) _
    refine XS.aloadN X1.here hx rfl (hb hby d_prog_22_method_5_code_7) rfl rfl ?_
    show Steps p.tables e below (T1.setTop (mkF m 8 #[.val (.ref (w 0))] [(.ref (w 0))])) _
    refine st2 _ ?_
    show Steps p.tables e below (T2.setTop (mkF m 11 #[.val (.ref (w 0))] [(.ref (w 4)), (.ref (w 0))])) _
    refine Jvm.RoadKit.acmp (g := (mkF m 11 #[.val (.ref (w 0))] [(.ref (w 4)), (.ref (w 0))])) X2 hx rfl rfl rfl (pc0 := 11) (pc' := 18) (same := false) rfl (hb hby d_prog_22_method_5_code_11) rfl (decide_eq_false fun q => (Fld.ne hF0_ordinal hF4_ordinal (by decide)) (Value.ref.inj q)) (by decide) (by decide) ?_
    show Steps p.tables e below (T2.setTop (mkF m 18 #[.val (.ref (w 0))] [])) _
    refine XS.iconst X2.here hx rfl (hb hby d_prog_22_method_5_code_18) ?_
    show Steps p.tables e below (T2.setTop (mkF m 19 #[.val (.ref (w 0))] [(.int (0 : Int32))])) _
    exact retN X2 hx (t := .boolean) Bd.returns (by simp) (hb hby d_prog_22_method_5_code_19) hr
  · show OQ (some (.int (0 : Int32))) h0 Z.heap.size _ T2.heap _
    rw [e2]
    exact ⟨rfl, N0, rfl⟩
theorem pd_0 : parseMethodDescriptor "()Z" = some ⟨[], some .boolean⟩ := by decide +kernel
theorem ef_1 (m : MethodId) (x0 : Value) (h0 : x0.category = 1) : entryFrame m #[x0] maxLocals = mkF m 0 #[.val x0, .unset, .unset, .unset] [] := by first | (simp [entryFrame, mkF, argsToLocals, h0, maxLocals]; done) | rfl
theorem pn_1 : plainName "com/example/netloom/netloom/net/ElementKindIsPlacePinLaw" = true := by first | (simp [plainName, overriddenIn]; done) | decide +kernel
set_option maxRecDepth 65536 in
set_option maxHeartbeats 40000000 in
theorem law_2 (l : Launch) (Z : State) (a0 : Array Value) (hw : ∀ d ∈ tables_1, d.before a0 Z = true) (w : Nat → Addr) (kk : Nat → ClassId) (hN : Wd Z w kk) (ws : List Jvm.Cond) (p0 : Int32) (h0 : Heap) (O0 : Old Z Z.heap.size h0) (hp0 : ((p0 &&& (2147483647 : Int32)) % (13 : Int32)) = (0 : Int32)) :
    MetFree l x (head1 (Jvm.Cond.code x code maxLocals ret :: ws) room_1) (fun a U => a = #[(.int p0)] ∧ Z.Warmed39 U.vm ∧ U.heap = h0) (fun _ _ _ _ _ => True) (fun _ U o U' => ∃ v L, o = .returned v ∧ OL (some (.int (1 : Int32))) Z.heap.size v U'.heap L ∧ FrameEnd U o U' L 16 128) := by
  have hN' := hN
  obtain ⟨hS0, hE0, hS1, hE1, hS2, hE2, hS3, hE3, hS4, hE4, hS5, hE5, hS6, hE6, hS7, hE7, hS8, hE8, hS9, hE9, hS10, hE10, hS11, hE11, hS12, hE12, hF0_ordinal, hF2_ordinal, hF4_ordinal, hF3_ordinal, hF6_ordinal, hF5_ordinal, hF7_ordinal, hF9_ordinal, hF11_ordinal, hF1_ordinal, hF8_ordinal, hF10_ordinal, hF12_ordinal⟩ := hN'
  refine MetFree.of_bodySF (plainFor_of_name pn_1) hisR ?_
  intro p e s m args below meth c s₁ Bd hml0 hP hK
  obtain ⟨rfl, hZ, hh⟩ := hP
  have hx := Bd.exec
  have hby := Bd.bytes
  have hml : c.maxLocals = 4 := hml0
  have hown : s.vm.findClass "com/example/netloom/netloom/net/ElementKindIsPlacePinLaw" = some m.cls := findClass_of_methodNamed Bd.named
  have hnm := (name_of_methodNamed Bd.named Bd.method).1
  have X0 : Stand p l e room_1 s m #[(.int p0)] below meth c s₁ [] 0 0 := Stand.of_body Bd
  have e0 : s₁.heap = h0 := by rw [← hh, Bd.state]; rfl
  have N0 := Fr.nil Z.heap.size
  have pre0 : ∀ t, Steps p.tables e below (s₁.setTop (mkF m 0 #[.val (.int p0), .unset, .unset, .unset] [])) t → Steps p.tables e below (s₁.setTop (entryFrame m #[(.int p0)] maxLocals)) t := fun t k => castTop (ef_1 m (.int p0) rfl) k
  obtain ⟨T1, h1, k1, X1, e1, E1, A1, Ov1, st1⟩ := newR X0 hx hZ hown (W hw 0 rfl) (W hw 1 rfl) e0 (g := (mkF m 2 #[.val (.int p0), .unset, .unset, .unset] [(.int (13 : Int32))])) rfl (hb hby at_2) rfl (by decide) (cap := 13) (by decide) (by decide) (by decide) (by decide)
  obtain ⟨b1, g1⟩ : ∃ z, z = h0.size := ⟨_, rfl⟩
  rw [← g1] at A1 st1
  have gn_b1 : Z.heap.size ≤ b1 := Nat.le_trans O0.2.1 (Nat.le_of_eq g1.symm)
  have O1 := O0.ext E1
  have V_b1_v1 : Arv Z h1 b1 k1 (.object "com/example/netloom/netloom/net/ElementKind") (13 : Int32) [] .null := Arv.new A1 (by decide)
  obtain ⟨T2, X2, e2, st2⟩ := getS2 X1 hx hZ hown (host := "") (Or.inl (W hw 2 rfl)) Via.refl e1 (hS0.ext O1.2) (g := (mkF m 7 #[.val (.int p0), .unset, .unset, .unset] [(.int (0 : Int32)), (.ref b1), (.ref b1)])) rfl (hb hby at_7)
  have V_b1_v3 : Arv Z h1 b1 k1 (.object "com/example/netloom/netloom/net/ElementKind") (13 : Int32) [.null] .null := V_b1_v1.pad (pad_rep [] .null 1)
  obtain ⟨cl4, Ar4, q4, Sz4, Ng4, Hv4, Gv4⟩ := V_b1_v3
  have hin4 : ¬ ((0 : Int32) < 0 ∨ cl4.slots.size ≤ ((0 : Int32)).toNatClampNeg) := inb_of Sz4 ⟨by decide, by decide⟩
  obtain ⟨T5, h5, X5, e5, W5, st5⟩ := stR X2 hx hZ e2 Ar4 (j := (0 : Int32)) (v := (.ref (w 0))) hin4 rfl (Sto.ofV Ar4 q4 Ov1 (Ins.self (hE0.ext O1.2))) (g := (mkF m 10 #[.val (.int p0), .unset, .unset, .unset] [(.ref (w 0)), (.int (0 : Int32)), (.ref b1), (.ref b1)])) rfl rfl (hb hby at_10)
  have V_b1_v5 : Arv Z h5 b1 k1 (.object "com/example/netloom/netloom/net/ElementKind") (13 : Int32) [(.ref (w 0))] .null := Arv.set Ar4 q4 Sz4 Ng4 Hv4 Gv4 rfl W5 0 rfl (Nat.le_of_ble_eq_true rfl)
  have N5 := Fr.snoc X5 N0 gn_b1
  have O5 := O1.wr W5 gn_b1
  obtain ⟨T6, X6, e6, st6⟩ := getS2 X5 hx hZ hown (host := "") (Or.inl (W hw 6 rfl)) Via.refl e5 (hS1.ext O5.2) (g := (mkF m 13 #[.val (.int p0), .unset, .unset, .unset] [(.int (1 : Int32)), (.ref b1), (.ref b1)])) rfl (hb hby at_13)
  have V_b1_v7 : Arv Z h5 b1 k1 (.object "com/example/netloom/netloom/net/ElementKind") (13 : Int32) [(.ref (w 0)), .null] .null := V_b1_v5.pad (pad_rep [(.ref (w 0))] .null 1)
  obtain ⟨cl8, Ar8, q8, Sz8, Ng8, Hv8, Gv8⟩ := V_b1_v7
  have hin8 : ¬ ((1 : Int32) < 0 ∨ cl8.slots.size ≤ ((1 : Int32)).toNatClampNeg) := inb_of Sz8 ⟨by decide, by decide⟩
  obtain ⟨T9, h9, X9, e9, W9, st9⟩ := stR X6 hx hZ e6 Ar8 (j := (1 : Int32)) (v := (.ref (w 1))) hin8 rfl (Sto.ofV Ar8 q8 Ov1 (Ins.self (hE1.ext O5.2))) (g := (mkF m 16 #[.val (.int p0), .unset, .unset, .unset] [(.ref (w 1)), (.int (1 : Int32)), (.ref b1), (.ref b1)])) rfl rfl (hb hby at_16)
  have V_b1_v9 : Arv Z h9 b1 k1 (.object "com/example/netloom/netloom/net/ElementKind") (13 : Int32) [(.ref (w 0)), (.ref (w 1))] .null := Arv.set Ar8 q8 Sz8 Ng8 Hv8 Gv8 rfl W9 1 rfl (Nat.le_of_ble_eq_true rfl)
  have N9 := Fr.snoc X9 N5 gn_b1
  have O9 := O5.wr W9 gn_b1
  obtain ⟨T10, X10, e10, st10⟩ := getS2 X9 hx hZ hown (host := "") (Or.inl (W hw 8 rfl)) Via.refl e9 (hS2.ext O9.2) (g := (mkF m 19 #[.val (.int p0), .unset, .unset, .unset] [(.int (2 : Int32)), (.ref b1), (.ref b1)])) rfl (hb hby at_19)
  have V_b1_v11 : Arv Z h9 b1 k1 (.object "com/example/netloom/netloom/net/ElementKind") (13 : Int32) [(.ref (w 0)), (.ref (w 1)), .null] .null := V_b1_v9.pad (pad_rep [(.ref (w 0)), (.ref (w 1))] .null 1)
  obtain ⟨cl12, Ar12, q12, Sz12, Ng12, Hv12, Gv12⟩ := V_b1_v11
  have hin12 : ¬ ((2 : Int32) < 0 ∨ cl12.slots.size ≤ ((2 : Int32)).toNatClampNeg) := inb_of Sz12 ⟨by decide, by decide⟩
  obtain ⟨T13, h13, X13, e13, W13, st13⟩ := stR X10 hx hZ e10 Ar12 (j := (2 : Int32)) (v := (.ref (w 2))) hin12 rfl (Sto.ofV Ar12 q12 Ov1 (Ins.self (hE2.ext O9.2))) (g := (mkF m 22 #[.val (.int p0), .unset, .unset, .unset] [(.ref (w 2)), (.int (2 : Int32)), (.ref b1), (.ref b1)])) rfl rfl (hb hby at_22)
  have V_b1_v13 : Arv Z h13 b1 k1 (.object "com/example/netloom/netloom/net/ElementKind") (13 : Int32) [(.ref (w 0)), (.ref (w 1)), (.ref (w 2))] .null := Arv.set Ar12 q12 Sz12 Ng12 Hv12 Gv12 rfl W13 2 rfl (Nat.le_of_ble_eq_true rfl)
  have N13 := Fr.snoc X13 N9 gn_b1
  have O13 := O9.wr W13 gn_b1
  obtain ⟨T14, X14, e14, st14⟩ := getS2 X13 hx hZ hown (host := "") (Or.inl (W hw 10 rfl)) Via.refl e13 (hS3.ext O13.2) (g := (mkF m 25 #[.val (.int p0), .unset, .unset, .unset] [(.int (3 : Int32)), (.ref b1), (.ref b1)])) rfl (hb hby at_25)
  have V_b1_v15 : Arv Z h13 b1 k1 (.object "com/example/netloom/netloom/net/ElementKind") (13 : Int32) [(.ref (w 0)), (.ref (w 1)), (.ref (w 2)), .null] .null := V_b1_v13.pad (pad_rep [(.ref (w 0)), (.ref (w 1)), (.ref (w 2))] .null 1)
  obtain ⟨cl16, Ar16, q16, Sz16, Ng16, Hv16, Gv16⟩ := V_b1_v15
  have hin16 : ¬ ((3 : Int32) < 0 ∨ cl16.slots.size ≤ ((3 : Int32)).toNatClampNeg) := inb_of Sz16 ⟨by decide, by decide⟩
  obtain ⟨T17, h17, X17, e17, W17, st17⟩ := stR X14 hx hZ e14 Ar16 (j := (3 : Int32)) (v := (.ref (w 3))) hin16 rfl (Sto.ofV Ar16 q16 Ov1 (Ins.self (hE3.ext O13.2))) (g := (mkF m 28 #[.val (.int p0), .unset, .unset, .unset] [(.ref (w 3)), (.int (3 : Int32)), (.ref b1), (.ref b1)])) rfl rfl (hb hby at_28)
  have V_b1_v17 : Arv Z h17 b1 k1 (.object "com/example/netloom/netloom/net/ElementKind") (13 : Int32) [(.ref (w 0)), (.ref (w 1)), (.ref (w 2)), (.ref (w 3))] .null := Arv.set Ar16 q16 Sz16 Ng16 Hv16 Gv16 rfl W17 3 rfl (Nat.le_of_ble_eq_true rfl)
  have N17 := Fr.snoc X17 N13 gn_b1
  have O17 := O13.wr W17 gn_b1
  obtain ⟨T18, X18, e18, st18⟩ := getS2 X17 hx hZ hown (host := "") (Or.inl (W hw 12 rfl)) Via.refl e17 (hS4.ext O17.2) (g := (mkF m 31 #[.val (.int p0), .unset, .unset, .unset] [(.int (4 : Int32)), (.ref b1), (.ref b1)])) rfl (hb hby at_31)
  have V_b1_v19 : Arv Z h17 b1 k1 (.object "com/example/netloom/netloom/net/ElementKind") (13 : Int32) [(.ref (w 0)), (.ref (w 1)), (.ref (w 2)), (.ref (w 3)), .null] .null := V_b1_v17.pad (pad_rep [(.ref (w 0)), (.ref (w 1)), (.ref (w 2)), (.ref (w 3))] .null 1)
  obtain ⟨cl20, Ar20, q20, Sz20, Ng20, Hv20, Gv20⟩ := V_b1_v19
  have hin20 : ¬ ((4 : Int32) < 0 ∨ cl20.slots.size ≤ ((4 : Int32)).toNatClampNeg) := inb_of Sz20 ⟨by decide, by decide⟩
  obtain ⟨T21, h21, X21, e21, W21, st21⟩ := stR X18 hx hZ e18 Ar20 (j := (4 : Int32)) (v := (.ref (w 4))) hin20 rfl (Sto.ofV Ar20 q20 Ov1 (Ins.self (hE4.ext O17.2))) (g := (mkF m 34 #[.val (.int p0), .unset, .unset, .unset] [(.ref (w 4)), (.int (4 : Int32)), (.ref b1), (.ref b1)])) rfl rfl (hb hby at_34)
  have V_b1_v21 : Arv Z h21 b1 k1 (.object "com/example/netloom/netloom/net/ElementKind") (13 : Int32) [(.ref (w 0)), (.ref (w 1)), (.ref (w 2)), (.ref (w 3)), (.ref (w 4))] .null := Arv.set Ar20 q20 Sz20 Ng20 Hv20 Gv20 rfl W21 4 rfl (Nat.le_of_ble_eq_true rfl)
  have N21 := Fr.snoc X21 N17 gn_b1
  have O21 := O17.wr W21 gn_b1
  obtain ⟨T22, X22, e22, st22⟩ := getS2 X21 hx hZ hown (host := "") (Or.inl (W hw 14 rfl)) Via.refl e21 (hS5.ext O21.2) (g := (mkF m 37 #[.val (.int p0), .unset, .unset, .unset] [(.int (5 : Int32)), (.ref b1), (.ref b1)])) rfl (hb hby at_37)
  have V_b1_v23 : Arv Z h21 b1 k1 (.object "com/example/netloom/netloom/net/ElementKind") (13 : Int32) [(.ref (w 0)), (.ref (w 1)), (.ref (w 2)), (.ref (w 3)), (.ref (w 4)), .null] .null := V_b1_v21.pad (pad_rep [(.ref (w 0)), (.ref (w 1)), (.ref (w 2)), (.ref (w 3)), (.ref (w 4))] .null 1)
  obtain ⟨cl24, Ar24, q24, Sz24, Ng24, Hv24, Gv24⟩ := V_b1_v23
  have hin24 : ¬ ((5 : Int32) < 0 ∨ cl24.slots.size ≤ ((5 : Int32)).toNatClampNeg) := inb_of Sz24 ⟨by decide, by decide⟩
  obtain ⟨T25, h25, X25, e25, W25, st25⟩ := stR X22 hx hZ e22 Ar24 (j := (5 : Int32)) (v := (.ref (w 5))) hin24 rfl (Sto.ofV Ar24 q24 Ov1 (Ins.self (hE5.ext O21.2))) (g := (mkF m 40 #[.val (.int p0), .unset, .unset, .unset] [(.ref (w 5)), (.int (5 : Int32)), (.ref b1), (.ref b1)])) rfl rfl (hb hby at_40)
  have V_b1_v25 : Arv Z h25 b1 k1 (.object "com/example/netloom/netloom/net/ElementKind") (13 : Int32) [(.ref (w 0)), (.ref (w 1)), (.ref (w 2)), (.ref (w 3)), (.ref (w 4)), (.ref (w 5))] .null := Arv.set Ar24 q24 Sz24 Ng24 Hv24 Gv24 rfl W25 5 rfl (Nat.le_of_ble_eq_true rfl)
  have N25 := Fr.snoc X25 N21 gn_b1
  have O25 := O21.wr W25 gn_b1
  obtain ⟨T26, X26, e26, st26⟩ := getS2 X25 hx hZ hown (host := "") (Or.inl (W hw 16 rfl)) Via.refl e25 (hS6.ext O25.2) (g := (mkF m 44 #[.val (.int p0), .unset, .unset, .unset] [(.int (6 : Int32)), (.ref b1), (.ref b1)])) rfl (hb hby at_44)
  have V_b1_v27 : Arv Z h25 b1 k1 (.object "com/example/netloom/netloom/net/ElementKind") (13 : Int32) [(.ref (w 0)), (.ref (w 1)), (.ref (w 2)), (.ref (w 3)), (.ref (w 4)), (.ref (w 5)), .null] .null := V_b1_v25.pad (pad_rep [(.ref (w 0)), (.ref (w 1)), (.ref (w 2)), (.ref (w 3)), (.ref (w 4)), (.ref (w 5))] .null 1)
  obtain ⟨cl28, Ar28, q28, Sz28, Ng28, Hv28, Gv28⟩ := V_b1_v27
  have hin28 : ¬ ((6 : Int32) < 0 ∨ cl28.slots.size ≤ ((6 : Int32)).toNatClampNeg) := inb_of Sz28 ⟨by decide, by decide⟩
  obtain ⟨T29, h29, X29, e29, W29, st29⟩ := stR X26 hx hZ e26 Ar28 (j := (6 : Int32)) (v := (.ref (w 6))) hin28 rfl (Sto.ofV Ar28 q28 Ov1 (Ins.self (hE6.ext O25.2))) (g := (mkF m 47 #[.val (.int p0), .unset, .unset, .unset] [(.ref (w 6)), (.int (6 : Int32)), (.ref b1), (.ref b1)])) rfl rfl (hb hby at_47)
  have V_b1_v29 : Arv Z h29 b1 k1 (.object "com/example/netloom/netloom/net/ElementKind") (13 : Int32) [(.ref (w 0)), (.ref (w 1)), (.ref (w 2)), (.ref (w 3)), (.ref (w 4)), (.ref (w 5)), (.ref (w 6))] .null := Arv.set Ar28 q28 Sz28 Ng28 Hv28 Gv28 rfl W29 6 rfl (Nat.le_of_ble_eq_true rfl)
  have N29 := Fr.snoc X29 N25 gn_b1
  have O29 := O25.wr W29 gn_b1
  obtain ⟨T30, X30, e30, st30⟩ := getS2 X29 hx hZ hown (host := "") (Or.inl (W hw 18 rfl)) Via.refl e29 (hS7.ext O29.2) (g := (mkF m 51 #[.val (.int p0), .unset, .unset, .unset] [(.int (7 : Int32)), (.ref b1), (.ref b1)])) rfl (hb hby at_51)
  have V_b1_v31 : Arv Z h29 b1 k1 (.object "com/example/netloom/netloom/net/ElementKind") (13 : Int32) [(.ref (w 0)), (.ref (w 1)), (.ref (w 2)), (.ref (w 3)), (.ref (w 4)), (.ref (w 5)), (.ref (w 6)), .null] .null := V_b1_v29.pad (pad_rep [(.ref (w 0)), (.ref (w 1)), (.ref (w 2)), (.ref (w 3)), (.ref (w 4)), (.ref (w 5)), (.ref (w 6))] .null 1)
  obtain ⟨cl32, Ar32, q32, Sz32, Ng32, Hv32, Gv32⟩ := V_b1_v31
  have hin32 : ¬ ((7 : Int32) < 0 ∨ cl32.slots.size ≤ ((7 : Int32)).toNatClampNeg) := inb_of Sz32 ⟨by decide, by decide⟩
  obtain ⟨T33, h33, X33, e33, W33, st33⟩ := stR X30 hx hZ e30 Ar32 (j := (7 : Int32)) (v := (.ref (w 7))) hin32 rfl (Sto.ofV Ar32 q32 Ov1 (Ins.self (hE7.ext O29.2))) (g := (mkF m 54 #[.val (.int p0), .unset, .unset, .unset] [(.ref (w 7)), (.int (7 : Int32)), (.ref b1), (.ref b1)])) rfl rfl (hb hby at_54)
  have V_b1_v33 : Arv Z h33 b1 k1 (.object "com/example/netloom/netloom/net/ElementKind") (13 : Int32) [(.ref (w 0)), (.ref (w 1)), (.ref (w 2)), (.ref (w 3)), (.ref (w 4)), (.ref (w 5)), (.ref (w 6)), (.ref (w 7))] .null := Arv.set Ar32 q32 Sz32 Ng32 Hv32 Gv32 rfl W33 7 rfl (Nat.le_of_ble_eq_true rfl)
  have N33 := Fr.snoc X33 N29 gn_b1
  have O33 := O29.wr W33 gn_b1
  obtain ⟨T34, X34, e34, st34⟩ := getS2 X33 hx hZ hown (host := "") (Or.inl (W hw 20 rfl)) Via.refl e33 (hS8.ext O33.2) (g := (mkF m 58 #[.val (.int p0), .unset, .unset, .unset] [(.int (8 : Int32)), (.ref b1), (.ref b1)])) rfl (hb hby at_58)
  have V_b1_v35 : Arv Z h33 b1 k1 (.object "com/example/netloom/netloom/net/ElementKind") (13 : Int32) [(.ref (w 0)), (.ref (w 1)), (.ref (w 2)), (.ref (w 3)), (.ref (w 4)), (.ref (w 5)), (.ref (w 6)), (.ref (w 7)), .null] .null := V_b1_v33.pad (pad_rep [(.ref (w 0)), (.ref (w 1)), (.ref (w 2)), (.ref (w 3)), (.ref (w 4)), (.ref (w 5)), (.ref (w 6)), (.ref (w 7))] .null 1)
  obtain ⟨cl36, Ar36, q36, Sz36, Ng36, Hv36, Gv36⟩ := V_b1_v35
  have hin36 : ¬ ((8 : Int32) < 0 ∨ cl36.slots.size ≤ ((8 : Int32)).toNatClampNeg) := inb_of Sz36 ⟨by decide, by decide⟩
  obtain ⟨T37, h37, X37, e37, W37, st37⟩ := stR X34 hx hZ e34 Ar36 (j := (8 : Int32)) (v := (.ref (w 8))) hin36 rfl (Sto.ofV Ar36 q36 Ov1 (Ins.self (hE8.ext O33.2))) (g := (mkF m 61 #[.val (.int p0), .unset, .unset, .unset] [(.ref (w 8)), (.int (8 : Int32)), (.ref b1), (.ref b1)])) rfl rfl (hb hby at_61)
  have V_b1_v37 : Arv Z h37 b1 k1 (.object "com/example/netloom/netloom/net/ElementKind") (13 : Int32) [(.ref (w 0)), (.ref (w 1)), (.ref (w 2)), (.ref (w 3)), (.ref (w 4)), (.ref (w 5)), (.ref (w 6)), (.ref (w 7)), (.ref (w 8))] .null := Arv.set Ar36 q36 Sz36 Ng36 Hv36 Gv36 rfl W37 8 rfl (Nat.le_of_ble_eq_true rfl)
  have N37 := Fr.snoc X37 N33 gn_b1
  have O37 := O33.wr W37 gn_b1
  obtain ⟨T38, X38, e38, st38⟩ := getS2 X37 hx hZ hown (host := "") (Or.inl (W hw 22 rfl)) Via.refl e37 (hS9.ext O37.2) (g := (mkF m 65 #[.val (.int p0), .unset, .unset, .unset] [(.int (9 : Int32)), (.ref b1), (.ref b1)])) rfl (hb hby at_65)
  have V_b1_v39 : Arv Z h37 b1 k1 (.object "com/example/netloom/netloom/net/ElementKind") (13 : Int32) [(.ref (w 0)), (.ref (w 1)), (.ref (w 2)), (.ref (w 3)), (.ref (w 4)), (.ref (w 5)), (.ref (w 6)), (.ref (w 7)), (.ref (w 8)), .null] .null := V_b1_v37.pad (pad_rep [(.ref (w 0)), (.ref (w 1)), (.ref (w 2)), (.ref (w 3)), (.ref (w 4)), (.ref (w 5)), (.ref (w 6)), (.ref (w 7)), (.ref (w 8))] .null 1)
  obtain ⟨cl40, Ar40, q40, Sz40, Ng40, Hv40, Gv40⟩ := V_b1_v39
  have hin40 : ¬ ((9 : Int32) < 0 ∨ cl40.slots.size ≤ ((9 : Int32)).toNatClampNeg) := inb_of Sz40 ⟨by decide, by decide⟩
  obtain ⟨T41, h41, X41, e41, W41, st41⟩ := stR X38 hx hZ e38 Ar40 (j := (9 : Int32)) (v := (.ref (w 9))) hin40 rfl (Sto.ofV Ar40 q40 Ov1 (Ins.self (hE9.ext O37.2))) (g := (mkF m 68 #[.val (.int p0), .unset, .unset, .unset] [(.ref (w 9)), (.int (9 : Int32)), (.ref b1), (.ref b1)])) rfl rfl (hb hby at_68)
  have V_b1_v41 : Arv Z h41 b1 k1 (.object "com/example/netloom/netloom/net/ElementKind") (13 : Int32) [(.ref (w 0)), (.ref (w 1)), (.ref (w 2)), (.ref (w 3)), (.ref (w 4)), (.ref (w 5)), (.ref (w 6)), (.ref (w 7)), (.ref (w 8)), (.ref (w 9))] .null := Arv.set Ar40 q40 Sz40 Ng40 Hv40 Gv40 rfl W41 9 rfl (Nat.le_of_ble_eq_true rfl)
  have N41 := Fr.snoc X41 N37 gn_b1
  have O41 := O37.wr W41 gn_b1
  obtain ⟨T42, X42, e42, st42⟩ := getS2 X41 hx hZ hown (host := "") (Or.inl (W hw 24 rfl)) Via.refl e41 (hS10.ext O41.2) (g := (mkF m 72 #[.val (.int p0), .unset, .unset, .unset] [(.int (10 : Int32)), (.ref b1), (.ref b1)])) rfl (hb hby at_72)
  have V_b1_v43 : Arv Z h41 b1 k1 (.object "com/example/netloom/netloom/net/ElementKind") (13 : Int32) [(.ref (w 0)), (.ref (w 1)), (.ref (w 2)), (.ref (w 3)), (.ref (w 4)), (.ref (w 5)), (.ref (w 6)), (.ref (w 7)), (.ref (w 8)), (.ref (w 9)), .null] .null := V_b1_v41.pad (pad_rep [(.ref (w 0)), (.ref (w 1)), (.ref (w 2)), (.ref (w 3)), (.ref (w 4)), (.ref (w 5)), (.ref (w 6)), (.ref (w 7)), (.ref (w 8)), (.ref (w 9))] .null 1)
  obtain ⟨cl44, Ar44, q44, Sz44, Ng44, Hv44, Gv44⟩ := V_b1_v43
  have hin44 : ¬ ((10 : Int32) < 0 ∨ cl44.slots.size ≤ ((10 : Int32)).toNatClampNeg) := inb_of Sz44 ⟨by decide, by decide⟩
  obtain ⟨T45, h45, X45, e45, W45, st45⟩ := stR X42 hx hZ e42 Ar44 (j := (10 : Int32)) (v := (.ref (w 10))) hin44 rfl (Sto.ofV Ar44 q44 Ov1 (Ins.self (hE10.ext O41.2))) (g := (mkF m 75 #[.val (.int p0), .unset, .unset, .unset] [(.ref (w 10)), (.int (10 : Int32)), (.ref b1), (.ref b1)])) rfl rfl (hb hby at_75)
  have V_b1_v45 : Arv Z h45 b1 k1 (.object "com/example/netloom/netloom/net/ElementKind") (13 : Int32) [(.ref (w 0)), (.ref (w 1)), (.ref (w 2)), (.ref (w 3)), (.ref (w 4)), (.ref (w 5)), (.ref (w 6)), (.ref (w 7)), (.ref (w 8)), (.ref (w 9)), (.ref (w 10))] .null := Arv.set Ar44 q44 Sz44 Ng44 Hv44 Gv44 rfl W45 10 rfl (Nat.le_of_ble_eq_true rfl)
  have N45 := Fr.snoc X45 N41 gn_b1
  have O45 := O41.wr W45 gn_b1
  obtain ⟨T46, X46, e46, st46⟩ := getS2 X45 hx hZ hown (host := "") (Or.inl (W hw 26 rfl)) Via.refl e45 (hS11.ext O45.2) (g := (mkF m 79 #[.val (.int p0), .unset, .unset, .unset] [(.int (11 : Int32)), (.ref b1), (.ref b1)])) rfl (hb hby at_79)
  have V_b1_v47 : Arv Z h45 b1 k1 (.object "com/example/netloom/netloom/net/ElementKind") (13 : Int32) [(.ref (w 0)), (.ref (w 1)), (.ref (w 2)), (.ref (w 3)), (.ref (w 4)), (.ref (w 5)), (.ref (w 6)), (.ref (w 7)), (.ref (w 8)), (.ref (w 9)), (.ref (w 10)), .null] .null := V_b1_v45.pad (pad_rep [(.ref (w 0)), (.ref (w 1)), (.ref (w 2)), (.ref (w 3)), (.ref (w 4)), (.ref (w 5)), (.ref (w 6)), (.ref (w 7)), (.ref (w 8)), (.ref (w 9)), (.ref (w 10))] .null 1)
  obtain ⟨cl48, Ar48, q48, Sz48, Ng48, Hv48, Gv48⟩ := V_b1_v47
  have hin48 : ¬ ((11 : Int32) < 0 ∨ cl48.slots.size ≤ ((11 : Int32)).toNatClampNeg) := inb_of Sz48 ⟨by decide, by decide⟩
  obtain ⟨T49, h49, X49, e49, W49, st49⟩ := stR X46 hx hZ e46 Ar48 (j := (11 : Int32)) (v := (.ref (w 11))) hin48 rfl (Sto.ofV Ar48 q48 Ov1 (Ins.self (hE11.ext O45.2))) (g := (mkF m 82 #[.val (.int p0), .unset, .unset, .unset] [(.ref (w 11)), (.int (11 : Int32)), (.ref b1), (.ref b1)])) rfl rfl (hb hby at_82)
  have V_b1_v49 : Arv Z h49 b1 k1 (.object "com/example/netloom/netloom/net/ElementKind") (13 : Int32) [(.ref (w 0)), (.ref (w 1)), (.ref (w 2)), (.ref (w 3)), (.ref (w 4)), (.ref (w 5)), (.ref (w 6)), (.ref (w 7)), (.ref (w 8)), (.ref (w 9)), (.ref (w 10)), (.ref (w 11))] .null := Arv.set Ar48 q48 Sz48 Ng48 Hv48 Gv48 rfl W49 11 rfl (Nat.le_of_ble_eq_true rfl)
  have N49 := Fr.snoc X49 N45 gn_b1
  have O49 := O45.wr W49 gn_b1
  obtain ⟨T50, X50, e50, st50⟩ := getS2 X49 hx hZ hown (host := "") (Or.inl (W hw 28 rfl)) Via.refl e49 (hS12.ext O49.2) (g := (mkF m 86 #[.val (.int p0), .unset, .unset, .unset] [(.int (12 : Int32)), (.ref b1), (.ref b1)])) rfl (hb hby at_86)
  have V_b1_v51 : Arv Z h49 b1 k1 (.object "com/example/netloom/netloom/net/ElementKind") (13 : Int32) [(.ref (w 0)), (.ref (w 1)), (.ref (w 2)), (.ref (w 3)), (.ref (w 4)), (.ref (w 5)), (.ref (w 6)), (.ref (w 7)), (.ref (w 8)), (.ref (w 9)), (.ref (w 10)), (.ref (w 11)), .null] .null := V_b1_v49.pad (pad_rep [(.ref (w 0)), (.ref (w 1)), (.ref (w 2)), (.ref (w 3)), (.ref (w 4)), (.ref (w 5)), (.ref (w 6)), (.ref (w 7)), (.ref (w 8)), (.ref (w 9)), (.ref (w 10)), (.ref (w 11))] .null 1)
  obtain ⟨cl52, Ar52, q52, Sz52, Ng52, Hv52, Gv52⟩ := V_b1_v51
  have hin52 : ¬ ((12 : Int32) < 0 ∨ cl52.slots.size ≤ ((12 : Int32)).toNatClampNeg) := inb_of Sz52 ⟨by decide, by decide⟩
  obtain ⟨T53, h53, X53, e53, W53, st53⟩ := stR X50 hx hZ e50 Ar52 (j := (12 : Int32)) (v := (.ref (w 12))) hin52 rfl (Sto.ofV Ar52 q52 Ov1 (Ins.self (hE12.ext O49.2))) (g := (mkF m 89 #[.val (.int p0), .unset, .unset, .unset] [(.ref (w 12)), (.int (12 : Int32)), (.ref b1), (.ref b1)])) rfl rfl (hb hby at_89)
  have V_b1_v53 : Arv Z h53 b1 k1 (.object "com/example/netloom/netloom/net/ElementKind") (13 : Int32) [(.ref (w 0)), (.ref (w 1)), (.ref (w 2)), (.ref (w 3)), (.ref (w 4)), (.ref (w 5)), (.ref (w 6)), (.ref (w 7)), (.ref (w 8)), (.ref (w 9)), (.ref (w 10)), (.ref (w 11)), (.ref (w 12))] .null := Arv.set Ar52 q52 Sz52 Ng52 Hv52 Gv52 rfl W53 12 rfl (Nat.le_of_ble_eq_true rfl)
  have N53 := Fr.snoc X53 N49 gn_b1
  have O53 := O49.wr W53 gn_b1
  obtain ⟨cl54, Ar54, q54, Sz54, Ng54, Hv54, Gv54⟩ := V_b1_v53
  have hin54 : ¬ ((0 : Int32) < 0 ∨ cl54.slots.size ≤ ((0 : Int32)).toNatClampNeg) := inb_of Sz54 ⟨by decide, by decide⟩
  have hat54 : cl54.slots[((0 : Int32)).toNatClampNeg]? = some (.ref (w 0)) := Has.at Hv54 hin54 (by rfl)
  obtain ⟨cq55, kq55, q55a, q55b, q55c⟩ := isOf hZ e53 (hE0.ext O53.2)
  obtain ⟨_, _, ⟨T55, L55, k55, n55⟩, -, X55, ⟨Lc55, hQ55, l55, y55, z55⟩, st55⟩ := X53.virtualBack hx (y := (⟨"com/example/netloom/netloom/net/ElementKind", "isPlace", "()Z"⟩ : MethodName)) (z := (⟨"com/example/netloom/netloom/net/ElementKind", "isPlace", "()Z"⟩ : MethodName)) hown (mvT hZ (W hw 31 rfl)) (mvT hZ (W hw 32 rfl)) (notFace_of_selects (args := #[]) (mvT hZ (W hw 34 rfl))) (mvT hZ (W hw 34 rfl)) (mvT hZ (W hw 33 rfl)) (by decide) (backOf (W := 0) (rm_1 l Z a0 hw w kk hN [] h53 O53) hZ (W hw 35 rfl) (W hw 3 rfl) (by decide) (by decide)) q55a q55c (g := (mkF m 118 #[.val (.int p0), .val (.ref b1), .val (.int (0 : Int32)), .val (.int (0 : Int32))] [(.ref (w 0))])) rfl (by rw [hml]; rfl) (Steps.refl _) (argsL := []) (rest := []) (lenOf pd_0 rfl) rfl (by show 2 * 0 + _ ≤ _; exact Nat.le_of_eq rfl) (hb hby at_118) (fun _ _ => ⟨rfl, e53, (by decide : 1 + 0 ≤ _), (by decide : 13 + 0 ≤ _)⟩)
  dsimp only [Pt.U, Pt.locs, Pt.cells, Pt.slots] at X55 l55 y55 z55 st55 hQ55
  subst l55 y55 z55
  obtain ⟨rfl, N55q, e55⟩ := hQ55
  have N55 := Fr.app N53 N55q
  obtain ⟨fs, hr, hrun, hended, hW, hsame⟩ := X55.leave (v := some (.int (1 : Int32))) (fun h => by rw [Bd.returns] at h; cases h)
  refine ⟨_, _, pre0 _ ?_, hrun, hended, _, _, rfl, ?_, ⟨_, rfl⟩, hW, hsame.mono (by decide) (by decide)⟩
  · show Steps p.tables e below (s₁.setTop (mkF m 0 #[.val (.int p0), .unset, .unset, .unset] [])) _
    refine XS.bipush X0.here hx rfl (hb hby at_0) ?_
    show Steps p.tables e below (s₁.setTop (mkF m 2 #[.val (.int p0), .unset, .unset, .unset] [(.int (13 : Int32))])) _
    refine st1 _ ?_
    show Steps p.tables e below (T1.setTop (mkF m 5 #[.val (.int p0), .unset, .unset, .unset] [(.ref b1)])) _
    refine XS.dup X1.here hx rfl (hb hby at_5) rfl rfl ?_
    show Steps p.tables e below (T1.setTop (mkF m 6 #[.val (.int p0), .unset, .unset, .unset] [(.ref b1), (.ref b1)])) _
    refine XS.iconst X1.here hx rfl (hb hby at_6) ?_
    show Steps p.tables e below (T1.setTop (mkF m 7 #[.val (.int p0), .unset, .unset, .unset] [(.int (0 : Int32)), (.ref b1), (.ref b1)])) _
    refine st2 _ ?_
    show Steps p.tables e below (T2.setTop (mkF m 10 #[.val (.int p0), .unset, .unset, .unset] [(.ref (w 0)), (.int (0 : Int32)), (.ref b1), (.ref b1)])) _
    refine st5 _ ?_
    show Steps p.tables e below (T5.setTop (mkF m 11 #[.val (.int p0), .unset, .unset, .unset] [(.ref b1)])) _
    refine XS.dup X5.here hx rfl (hb hby at_11) rfl rfl ?_
    show Steps p.tables e below (T5.setTop (mkF m 12 #[.val (.int p0), .unset, .unset, .unset] [(.ref b1), (.ref b1)])) _
    refine XS.iconst X5.here hx rfl (hb hby at_12) ?_
    show Steps p.tables e below (T5.setTop (mkF m 13 #[.val (.int p0), .unset, .unset, .unset] [(.int (1 : Int32)), (.ref b1), (.ref b1)])) _
    refine st6 _ ?_
    show Steps p.tables e below (T6.setTop (mkF m 16 #[.val (.int p0), .unset, .unset, .unset] [(.ref (w 1)), (.int (1 : Int32)), (.ref b1), (.ref b1)])) _
    refine st9 _ ?_
    show Steps p.tables e below (T9.setTop (mkF m 17 #[.val (.int p0), .unset, .unset, .unset] [(.ref b1)])) _
    refine XS.dup X9.here hx rfl (hb hby at_17) rfl rfl ?_
    show Steps p.tables e below (T9.setTop (mkF m 18 #[.val (.int p0), .unset, .unset, .unset] [(.ref b1), (.ref b1)])) _
    refine XS.iconst X9.here hx rfl (hb hby at_18) ?_
    show Steps p.tables e below (T9.setTop (mkF m 19 #[.val (.int p0), .unset, .unset, .unset] [(.int (2 : Int32)), (.ref b1), (.ref b1)])) _
    refine st10 _ ?_
    show Steps p.tables e below (T10.setTop (mkF m 22 #[.val (.int p0), .unset, .unset, .unset] [(.ref (w 2)), (.int (2 : Int32)), (.ref b1), (.ref b1)])) _
    refine st13 _ ?_
    show Steps p.tables e below (T13.setTop (mkF m 23 #[.val (.int p0), .unset, .unset, .unset] [(.ref b1)])) _
    refine XS.dup X13.here hx rfl (hb hby at_23) rfl rfl ?_
    show Steps p.tables e below (T13.setTop (mkF m 24 #[.val (.int p0), .unset, .unset, .unset] [(.ref b1), (.ref b1)])) _
    refine XS.iconst X13.here hx rfl (hb hby at_24) ?_
    show Steps p.tables e below (T13.setTop (mkF m 25 #[.val (.int p0), .unset, .unset, .unset] [(.int (3 : Int32)), (.ref b1), (.ref b1)])) _
    refine st14 _ ?_
    show Steps p.tables e below (T14.setTop (mkF m 28 #[.val (.int p0), .unset, .unset, .unset] [(.ref (w 3)), (.int (3 : Int32)), (.ref b1), (.ref b1)])) _
    refine st17 _ ?_
    show Steps p.tables e below (T17.setTop (mkF m 29 #[.val (.int p0), .unset, .unset, .unset] [(.ref b1)])) _
    refine XS.dup X17.here hx rfl (hb hby at_29) rfl rfl ?_
    show Steps p.tables e below (T17.setTop (mkF m 30 #[.val (.int p0), .unset, .unset, .unset] [(.ref b1), (.ref b1)])) _
    refine XS.iconst X17.here hx rfl (hb hby at_30) ?_
    show Steps p.tables e below (T17.setTop (mkF m 31 #[.val (.int p0), .unset, .unset, .unset] [(.int (4 : Int32)), (.ref b1), (.ref b1)])) _
    refine st18 _ ?_
    show Steps p.tables e below (T18.setTop (mkF m 34 #[.val (.int p0), .unset, .unset, .unset] [(.ref (w 4)), (.int (4 : Int32)), (.ref b1), (.ref b1)])) _
    refine st21 _ ?_
    show Steps p.tables e below (T21.setTop (mkF m 35 #[.val (.int p0), .unset, .unset, .unset] [(.ref b1)])) _
    refine XS.dup X21.here hx rfl (hb hby at_35) rfl rfl ?_
    show Steps p.tables e below (T21.setTop (mkF m 36 #[.val (.int p0), .unset, .unset, .unset] [(.ref b1), (.ref b1)])) _
    refine XS.iconst X21.here hx rfl (hb hby at_36) ?_
    show Steps p.tables e below (T21.setTop (mkF m 37 #[.val (.int p0), .unset, .unset, .unset] [(.int (5 : Int32)), (.ref b1), (.ref b1)])) _
    refine st22 _ ?_
    show Steps p.tables e below (T22.setTop (mkF m 40 #[.val (.int p0), .unset, .unset, .unset] [(.ref (w 5)), (.int (5 : Int32)), (.ref b1), (.ref b1)])) _
    refine st25 _ ?_
    show Steps p.tables e below (T25.setTop (mkF m 41 #[.val (.int p0), .unset, .unset, .unset] [(.ref b1)])) _
    refine XS.dup X25.here hx rfl (hb hby at_41) rfl rfl ?_
    show Steps p.tables e below (T25.setTop (mkF m 42 #[.val (.int p0), .unset, .unset, .unset] [(.ref b1), (.ref b1)])) _
    refine XS.bipush X25.here hx rfl (hb hby at_42) ?_
    show Steps p.tables e below (T25.setTop (mkF m 44 #[.val (.int p0), .unset, .unset, .unset] [(.int (6 : Int32)), (.ref b1), (.ref b1)])) _
    refine st26 _ ?_
    show Steps p.tables e below (T26.setTop (mkF m 47 #[.val (.int p0), .unset, .unset, .unset] [(.ref (w 6)), (.int (6 : Int32)), (.ref b1), (.ref b1)])) _
    refine st29 _ ?_
    show Steps p.tables e below (T29.setTop (mkF m 48 #[.val (.int p0), .unset, .unset, .unset] [(.ref b1)])) _
    refine XS.dup X29.here hx rfl (hb hby at_48) rfl rfl ?_
    show Steps p.tables e below (T29.setTop (mkF m 49 #[.val (.int p0), .unset, .unset, .unset] [(.ref b1), (.ref b1)])) _
    refine XS.bipush X29.here hx rfl (hb hby at_49) ?_
    show Steps p.tables e below (T29.setTop (mkF m 51 #[.val (.int p0), .unset, .unset, .unset] [(.int (7 : Int32)), (.ref b1), (.ref b1)])) _
    refine st30 _ ?_
    show Steps p.tables e below (T30.setTop (mkF m 54 #[.val (.int p0), .unset, .unset, .unset] [(.ref (w 7)), (.int (7 : Int32)), (.ref b1), (.ref b1)])) _
    refine st33 _ ?_
    show Steps p.tables e below (T33.setTop (mkF m 55 #[.val (.int p0), .unset, .unset, .unset] [(.ref b1)])) _
    refine XS.dup X33.here hx rfl (hb hby at_55) rfl rfl ?_
    show Steps p.tables e below (T33.setTop (mkF m 56 #[.val (.int p0), .unset, .unset, .unset] [(.ref b1), (.ref b1)])) _
    refine XS.bipush X33.here hx rfl (hb hby at_56) ?_
    show Steps p.tables e below (T33.setTop (mkF m 58 #[.val (.int p0), .unset, .unset, .unset] [(.int (8 : Int32)), (.ref b1), (.ref b1)])) _
    refine st34 _ ?_
    show Steps p.tables e below (T34.setTop (mkF m 61 #[.val (.int p0), .unset, .unset, .unset] [(.ref (w 8)), (.int (8 : Int32)), (.ref b1), (.ref b1)])) _
    refine st37 _ ?_
    show Steps p.tables e below (T37.setTop (mkF m 62 #[.val (.int p0), .unset, .unset, .unset] [(.ref b1)])) _
    refine XS.dup X37.here hx rfl (hb hby at_62) rfl rfl ?_
    show Steps p.tables e below (T37.setTop (mkF m 63 #[.val (.int p0), .unset, .unset, .unset] [(.ref b1), (.ref b1)])) _
    refine XS.bipush X37.here hx rfl (hb hby at_63) ?_
    show Steps p.tables e below (T37.setTop (mkF m 65 #[.val (.int p0), .unset, .unset, .unset] [(.int (9 : Int32)), (.ref b1), (.ref b1)])) _
    refine st38 _ ?_
    show Steps p.tables e below (T38.setTop (mkF m 68 #[.val (.int p0), .unset, .unset, .unset] [(.ref (w 9)), (.int (9 : Int32)), (.ref b1), (.ref b1)])) _
    refine st41 _ ?_
    show Steps p.tables e below (T41.setTop (mkF m 69 #[.val (.int p0), .unset, .unset, .unset] [(.ref b1)])) _
    refine XS.dup X41.here hx rfl (hb hby at_69) rfl rfl ?_
    show Steps p.tables e below (T41.setTop (mkF m 70 #[.val (.int p0), .unset, .unset, .unset] [(.ref b1), (.ref b1)])) _
    refine XS.bipush X41.here hx rfl (hb hby at_70) ?_
    show Steps p.tables e below (T41.setTop (mkF m 72 #[.val (.int p0), .unset, .unset, .unset] [(.int (10 : Int32)), (.ref b1), (.ref b1)])) _
    refine st42 _ ?_
    show Steps p.tables e below (T42.setTop (mkF m 75 #[.val (.int p0), .unset, .unset, .unset] [(.ref (w 10)), (.int (10 : Int32)), (.ref b1), (.ref b1)])) _
    refine st45 _ ?_
    show Steps p.tables e below (T45.setTop (mkF m 76 #[.val (.int p0), .unset, .unset, .unset] [(.ref b1)])) _
    refine XS.dup X45.here hx rfl (hb hby at_76) rfl rfl ?_
    show Steps p.tables e below (T45.setTop (mkF m 77 #[.val (.int p0), .unset, .unset, .unset] [(.ref b1), (.ref b1)])) _
    refine XS.bipush X45.here hx rfl (hb hby at_77) ?_
    show Steps p.tables e below (T45.setTop (mkF m 79 #[.val (.int p0), .unset, .unset, .unset] [(.int (11 : Int32)), (.ref b1), (.ref b1)])) _
    refine st46 _ ?_
    show Steps p.tables e below (T46.setTop (mkF m 82 #[.val (.int p0), .unset, .unset, .unset] [(.ref (w 11)), (.int (11 : Int32)), (.ref b1), (.ref b1)])) _
    refine st49 _ ?_
    show Steps p.tables e below (T49.setTop (mkF m 83 #[.val (.int p0), .unset, .unset, .unset] [(.ref b1)])) _
    refine XS.dup X49.here hx rfl (hb hby at_83) rfl rfl ?_
    show Steps p.tables e below (T49.setTop (mkF m 84 #[.val (.int p0), .unset, .unset, .unset] [(.ref b1), (.ref b1)])) _
    refine XS.bipush X49.here hx rfl (hb hby at_84) ?_
    show Steps p.tables e below (T49.setTop (mkF m 86 #[.val (.int p0), .unset, .unset, .unset] [(.int (12 : Int32)), (.ref b1), (.ref b1)])) _
    refine st50 _ ?_
    show Steps p.tables e below (T50.setTop (mkF m 89 #[.val (.int p0), .unset, .unset, .unset] [(.ref (w 12)), (.int (12 : Int32)), (.ref b1), (.ref b1)])) _
    refine st53 _ ?_
    show Steps p.tables e below (T53.setTop (mkF m 90 #[.val (.int p0), .unset, .unset, .unset] [(.ref b1)])) _
    refine XS.astoreN X53.here hx rfl (hb hby at_90) rfl rfl (l' := #[.val (.int p0), .val (.ref b1), .unset, .unset]) rfl ?_
    show Steps p.tables e below (T53.setTop (mkF m 91 #[.val (.int p0), .val (.ref b1), .unset, .unset] [])) _
    refine XS.iloadN X53.here hx rfl (hb hby at_91) rfl ?_
    show Steps p.tables e below (T53.setTop (mkF m 92 #[.val (.int p0), .val (.ref b1), .unset, .unset] [(.int p0)])) _
    refine X53.ldcInt hx hown (mvT hZ (W hw 30 rfl)) (g := (mkF m 92 #[.val (.int p0), .val (.ref b1), .unset, .unset] [(.int p0)])) rfl (hb hby at_92) _ ?_
    show Steps p.tables e below (T53.setTop (mkF m 94 #[.val (.int p0), .val (.ref b1), .unset, .unset] [(.int (2147483647 : Int32)), (.int p0)])) _
    refine XS.iand X53.here hx rfl (hb hby at_94) rfl ?_
    show Steps p.tables e below (T53.setTop (mkF m 95 #[.val (.int p0), .val (.ref b1), .unset, .unset] [(.int (p0 &&& (2147483647 : Int32)))])) _
    refine XS.bipush X53.here hx rfl (hb hby at_95) ?_
    show Steps p.tables e below (T53.setTop (mkF m 97 #[.val (.int p0), .val (.ref b1), .unset, .unset] [(.int (13 : Int32)), (.int (p0 &&& (2147483647 : Int32)))])) _
    refine iremM X53 hx rfl (hb hby at_97) rfl (by decide : ¬ ((13 : Int32) = (0 : Int32))) ?_
    show Steps p.tables e below (T53.setTop (mkF m 98 #[.val (.int p0), .val (.ref b1), .unset, .unset] [(.int ((p0 &&& (2147483647 : Int32)) % (13 : Int32)))])) _
    rw [hp0]
    show Steps p.tables e below (T53.setTop (mkF m 98 #[.val (.int p0), .val (.ref b1), .unset, .unset] [(.int (0 : Int32))])) _
    refine XS.istoreN X53.here hx rfl (hb hby at_98) rfl (l' := #[.val (.int p0), .val (.ref b1), .val (.int (0 : Int32)), .unset]) rfl ?_
    show Steps p.tables e below (T53.setTop (mkF m 99 #[.val (.int p0), .val (.ref b1), .val (.int (0 : Int32)), .unset] [])) _
    refine XS.iloadN X53.here hx rfl (hb hby at_99) rfl ?_
    show Steps p.tables e below (T53.setTop (mkF m 100 #[.val (.int p0), .val (.ref b1), .val (.int (0 : Int32)), .unset] [(.int (0 : Int32))])) _
    refine XS.iconst X53.here hx rfl (hb hby at_100) ?_
    show Steps p.tables e below (T53.setTop (mkF m 101 #[.val (.int p0), .val (.ref b1), .val (.int (0 : Int32)), .unset] [(.int (2 : Int32)), (.int (0 : Int32))])) _
    refine XS.icmpNo X53.here hx rfl (hb hby at_101) rfl (feq (by decide : ¬ ((0 : Int32) = (2 : Int32)))).1 ?_
    show Steps p.tables e below (T53.setTop (mkF m 104 #[.val (.int p0), .val (.ref b1), .val (.int (0 : Int32)), .unset] [])) _
    refine XS.iloadN X53.here hx rfl (hb hby at_104) rfl ?_
    show Steps p.tables e below (T53.setTop (mkF m 105 #[.val (.int p0), .val (.ref b1), .val (.int (0 : Int32)), .unset] [(.int (0 : Int32))])) _
    refine XS.iconst X53.here hx rfl (hb hby at_105) ?_
    show Steps p.tables e below (T53.setTop (mkF m 106 #[.val (.int p0), .val (.ref b1), .val (.int (0 : Int32)), .unset] [(.int (4 : Int32)), (.int (0 : Int32))])) _
    refine XS.icmpYes X53.here hx rfl (pc0 := 106) (pc' := 113) rfl (hb hby at_106) rfl (feq (by decide : ¬ ((0 : Int32) = (4 : Int32)))).2 (by decide) (by decide) ?_
    show Steps p.tables e below (T53.setTop (mkF m 113 #[.val (.int p0), .val (.ref b1), .val (.int (0 : Int32)), .unset] [])) _
    refine XS.iconst X53.here hx rfl (hb hby at_113) ?_
    show Steps p.tables e below (T53.setTop (mkF m 114 #[.val (.int p0), .val (.ref b1), .val (.int (0 : Int32)), .unset] [(.int (0 : Int32))])) _
    refine XS.istoreN X53.here hx rfl (hb hby at_114) rfl (l' := #[.val (.int p0), .val (.ref b1), .val (.int (0 : Int32)), .val (.int (0 : Int32))]) rfl ?_
    show Steps p.tables e below (T53.setTop (mkF m 115 #[.val (.int p0), .val (.ref b1), .val (.int (0 : Int32)), .val (.int (0 : Int32))] [])) _
    refine XS.aloadN X53.here hx rfl (hb hby at_115) rfl rfl ?_
    show Steps p.tables e below (T53.setTop (mkF m 116 #[.val (.int p0), .val (.ref b1), .val (.int (0 : Int32)), .val (.int (0 : Int32))] [(.ref b1)])) _
    refine XS.iloadN X53.here hx rfl (hb hby at_116) rfl ?_
    show Steps p.tables e below (T53.setTop (mkF m 117 #[.val (.int p0), .val (.ref b1), .val (.int (0 : Int32)), .val (.int (0 : Int32))] [(.int (0 : Int32)), (.ref b1)])) _
    refine X53.aaload hx (j := (0 : Int32)) (v := (.ref (w 0))) (by rw [e53]; exact Ar54.1) (State.isArrayOf_alike hZ.alike Ar54.2.1) rfl Ar54.2.2 hin54 hat54 (g := (mkF m 117 #[.val (.int p0), .val (.ref b1), .val (.int (0 : Int32)), .val (.int (0 : Int32))] [(.int (0 : Int32)), (.ref b1)])) rfl rfl (hb hby at_117) _ ?_
    show Steps p.tables e below (T53.setTop (mkF m 118 #[.val (.int p0), .val (.ref b1), .val (.int (0 : Int32)), .val (.int (0 : Int32))] [(.ref (w 0))])) _
    refine st55.trans ?_
    show Steps p.tables e below (T55.setTop (mkF m 121 #[.val (.int p0), .val (.ref b1), .val (.int (0 : Int32)), .val (.int (0 : Int32))] [(.int (0 : Int32))])) _
    refine XS.iloadN X55.here hx rfl (hb hby at_121) rfl ?_
    show Steps p.tables e below (T55.setTop (mkF m 122 #[.val (.int p0), .val (.ref b1), .val (.int (0 : Int32)), .val (.int (0 : Int32))] [(.int (0 : Int32)), (.int (0 : Int32))])) _
    refine XS.icmpNo X55.here hx rfl (hb hby at_122) rfl (teq (by decide : (0 : Int32) = (0 : Int32))).2 ?_
    show Steps p.tables e below (T55.setTop (mkF m 125 #[.val (.int p0), .val (.ref b1), .val (.int (0 : Int32)), .val (.int (0 : Int32))] [])) _
    refine XS.iconst X55.here hx rfl (hb hby at_125) ?_
    show Steps p.tables e below (T55.setTop (mkF m 126 #[.val (.int p0), .val (.ref b1), .val (.int (0 : Int32)), .val (.int (0 : Int32))] [(.int (1 : Int32))])) _
    refine XS.goto X55.here hx rfl (pc0 := 126) (pc' := 130) rfl (hb hby at_126) (by decide) (by decide) ?_
    show Steps p.tables e below (T55.setTop (mkF m 130 #[.val (.int p0), .val (.ref b1), .val (.int (0 : Int32)), .val (.int (0 : Int32))] [(.int (1 : Int32))])) _
    exact retN X55 hx (t := .boolean) Bd.returns (by simp) (hb hby at_130) hr
  · show OL (some (.int (1 : Int32))) Z.heap.size _ T55.heap _
    exact ⟨rfl, N55⟩
set_option maxRecDepth 65536 in
set_option maxHeartbeats 40000000 in
theorem rm_3 (l : Launch) (Z : State) (a0 : Array Value) (hw : ∀ d ∈ tables_1, d.before a0 Z = true) (w : Nat → Addr) (kk : Nat → ClassId) (hN : Wd Z w kk) (ws : List Jvm.Cond)  (h0 : Heap) (O0 : Old Z Z.heap.size h0) :
    MetFree l (⟨"com/example/netloom/netloom/net/ElementKind", "isPlace", "()Z"⟩ : MethodName) (head1 (Jvm.Cond.code (⟨"com/example/netloom/netloom/net/ElementKind", "isPlace", "()Z"⟩ : MethodName) prog_22_method_5_code 1 (some .boolean) :: ws) ({ frames := 0, cells := 0, slots := 0, locals := 0 } : Room)) (fun a U => a = #[(.ref (w 1))] ∧ Z.Warmed39 U.vm ∧ U.heap = h0) (fun _ _ _ _ _ => True) (fun _ U o U' => ∃ v L, o = .returned v ∧ OQ (some (.int (0 : Int32))) h0 Z.heap.size v U'.heap L ∧ FrameEnd U o U' L ({ frames := 0, cells := 0, slots := 0, locals := 0 } : Room).cells ({ frames := 0, cells := 0, slots := 0, locals := 0 } : Room).slots) := by
  have hN' := hN
  obtain ⟨hS0, hE0, hS1, hE1, hS2, hE2, hS3, hE3, hS4, hE4, hS5, hE5, hS6, hE6, hS7, hE7, hS8, hE8, hS9, hE9, hS10, hE10, hS11, hE11, hS12, hE12, hF0_ordinal, hF2_ordinal, hF4_ordinal, hF3_ordinal, hF6_ordinal, hF5_ordinal, hF7_ordinal, hF9_ordinal, hF11_ordinal, hF1_ordinal, hF8_ordinal, hF10_ordinal, hF12_ordinal⟩ := hN'
  refine MetFree.of_bodySF (plainFor_of_name pn_0) hisR ?_
  intro p e s m args below meth c s₁ Bd hml0 hP hK
  obtain ⟨rfl, hZ, hh⟩ := hP
  have hx := Bd.exec
  have hby := Bd.bytes
  have hml : c.maxLocals = 1 := hml0
  have hown : s.vm.findClass "com/example/netloom/netloom/net/ElementKind" = some m.cls := findClass_of_methodNamed Bd.named
  have hnm := (name_of_methodNamed Bd.named Bd.method).1
  have X0 : Stand p l e ({ frames := 0, cells := 0, slots := 0, locals := 0 } : Room) s m #[(.ref (w 1))] below meth c s₁ [] 0 0 := Stand.of_body Bd
  have e0 : s₁.heap = h0 := by rw [← hh, Bd.state]; rfl
  have N0 := Fr.nil Z.heap.size
  have pre0 : ∀ t, Steps p.tables e below (s₁.setTop (mkF m 0 #[.val (.ref (w 1))] [])) t → Steps p.tables e below (s₁.setTop (entryFrame m #[(.ref (w 1))] 1)) t := fun t k => castTop (ef_0 m (.ref (w 1)) rfl) k
  obtain ⟨T1, X1, e1, st1⟩ := getS2 X0 hx hZ hown (host := "") (Or.inl (W hw 36 rfl)) Via.refl e0 (hS2.ext O0.2) (g := (mkF m 1 #[.val (.ref (w 1))] [(.ref (w 1))])) rfl (hb hby d_prog_22_method_5_code_1)
  obtain ⟨T2, X2, e2, st2⟩ := getS2 X1 hx hZ hown (host := "") (Or.inl (W hw 37 rfl)) Via.refl e1 (hS4.ext O0.2) (g := (mkF m 8 #[.val (.ref (w 1))] [(.ref (w 1))])) rfl (hb hby d_prog_22_method_5_code_8)
  obtain ⟨fs, hr, hrun, hended, hW, hsame⟩ := X2.leave (v := some (.int (0 : Int32))) (fun h => by rw [Bd.returns] at h; cases h)
  refine ⟨_, _, pre0 _ ?_, hrun, hended, _, _, rfl, ?_, ⟨_, rfl⟩, hW, hsame.mono (by decide) (by decide)⟩
  · show Steps p.tables e below (s₁.setTop (mkF m 0 #[.val (.ref (w 1))] [])) _
    refine XS.aloadN X0.here hx rfl (hb hby d_prog_22_method_5_code_0) rfl rfl ?_
    show Steps p.tables e below (s₁.setTop (mkF m 1 #[.val (.ref (w 1))] [(.ref (w 1))])) _
    refine st1 _ ?_
    show Steps p.tables e below (T1.setTop (mkF m 4 #[.val (.ref (w 1))] [(.ref (w 2)), (.ref (w 1))])) _
    refine Jvm.RoadKit.acmp (g := (mkF m 4 #[.val (.ref (w 1))] [(.ref (w 2)), (.ref (w 1))])) X1 hx rfl rfl rfl (pc0 := 4) (pc' := 7) (same := false) rfl (hb hby d_prog_22_method_5_code_4) rfl (decide_eq_false fun q => (Fld.ne hF1_ordinal hF2_ordinal (by decide)) (Value.ref.inj q)) (by decide) (by decide) ?_
    show Steps p.tables e below (T1.setTop (mkF m 7 #[.val (.ref (w 1))] [])) _
    refine XS.aloadN X1.here hx rfl (hb hby d_prog_22_method_5_code_7) rfl rfl ?_
    show Steps p.tables e below (T1.setTop (mkF m 8 #[.val (.ref (w 1))] [(.ref (w 1))])) _
    refine st2 _ ?_
    show Steps p.tables e below (T2.setTop (mkF m 11 #[.val (.ref (w 1))] [(.ref (w 4)), (.ref (w 1))])) _
    refine Jvm.RoadKit.acmp (g := (mkF m 11 #[.val (.ref (w 1))] [(.ref (w 4)), (.ref (w 1))])) X2 hx rfl rfl rfl (pc0 := 11) (pc' := 18) (same := false) rfl (hb hby d_prog_22_method_5_code_11) rfl (decide_eq_false fun q => (Fld.ne hF1_ordinal hF4_ordinal (by decide)) (Value.ref.inj q)) (by decide) (by decide) ?_
    show Steps p.tables e below (T2.setTop (mkF m 18 #[.val (.ref (w 1))] [])) _
    refine XS.iconst X2.here hx rfl (hb hby d_prog_22_method_5_code_18) ?_
    show Steps p.tables e below (T2.setTop (mkF m 19 #[.val (.ref (w 1))] [(.int (0 : Int32))])) _
    exact retN X2 hx (t := .boolean) Bd.returns (by simp) (hb hby d_prog_22_method_5_code_19) hr
  · show OQ (some (.int (0 : Int32))) h0 Z.heap.size _ T2.heap _
    rw [e2]
    exact ⟨rfl, N0, rfl⟩
set_option maxRecDepth 65536 in
set_option maxHeartbeats 40000000 in
theorem law_4 (l : Launch) (Z : State) (a0 : Array Value) (hw : ∀ d ∈ tables_1, d.before a0 Z = true) (w : Nat → Addr) (kk : Nat → ClassId) (hN : Wd Z w kk) (ws : List Jvm.Cond) (p0 : Int32) (h0 : Heap) (O0 : Old Z Z.heap.size h0) (hp0 : ((p0 &&& (2147483647 : Int32)) % (13 : Int32)) = (1 : Int32)) :
    MetFree l x (head1 (Jvm.Cond.code x code maxLocals ret :: ws) room_1) (fun a U => a = #[(.int p0)] ∧ Z.Warmed39 U.vm ∧ U.heap = h0) (fun _ _ _ _ _ => True) (fun _ U o U' => ∃ v L, o = .returned v ∧ OL (some (.int (1 : Int32))) Z.heap.size v U'.heap L ∧ FrameEnd U o U' L 16 128) := by
  have hN' := hN
  obtain ⟨hS0, hE0, hS1, hE1, hS2, hE2, hS3, hE3, hS4, hE4, hS5, hE5, hS6, hE6, hS7, hE7, hS8, hE8, hS9, hE9, hS10, hE10, hS11, hE11, hS12, hE12, hF0_ordinal, hF2_ordinal, hF4_ordinal, hF3_ordinal, hF6_ordinal, hF5_ordinal, hF7_ordinal, hF9_ordinal, hF11_ordinal, hF1_ordinal, hF8_ordinal, hF10_ordinal, hF12_ordinal⟩ := hN'
  refine MetFree.of_bodySF (plainFor_of_name pn_1) hisR ?_
  intro p e s m args below meth c s₁ Bd hml0 hP hK
  obtain ⟨rfl, hZ, hh⟩ := hP
  have hx := Bd.exec
  have hby := Bd.bytes
  have hml : c.maxLocals = 4 := hml0
  have hown : s.vm.findClass "com/example/netloom/netloom/net/ElementKindIsPlacePinLaw" = some m.cls := findClass_of_methodNamed Bd.named
  have hnm := (name_of_methodNamed Bd.named Bd.method).1
  have X0 : Stand p l e room_1 s m #[(.int p0)] below meth c s₁ [] 0 0 := Stand.of_body Bd
  have e0 : s₁.heap = h0 := by rw [← hh, Bd.state]; rfl
  have N0 := Fr.nil Z.heap.size
  have pre0 : ∀ t, Steps p.tables e below (s₁.setTop (mkF m 0 #[.val (.int p0), .unset, .unset, .unset] [])) t → Steps p.tables e below (s₁.setTop (entryFrame m #[(.int p0)] maxLocals)) t := fun t k => castTop (ef_1 m (.int p0) rfl) k
  obtain ⟨T1, h1, k1, X1, e1, E1, A1, Ov1, st1⟩ := newR X0 hx hZ hown (W hw 0 rfl) (W hw 1 rfl) e0 (g := (mkF m 2 #[.val (.int p0), .unset, .unset, .unset] [(.int (13 : Int32))])) rfl (hb hby at_2) rfl (by decide) (cap := 13) (by decide) (by decide) (by decide) (by decide)
  obtain ⟨b1, g1⟩ : ∃ z, z = h0.size := ⟨_, rfl⟩
  rw [← g1] at A1 st1
  have gn_b1 : Z.heap.size ≤ b1 := Nat.le_trans O0.2.1 (Nat.le_of_eq g1.symm)
  have O1 := O0.ext E1
  have V_b1_v1 : Arv Z h1 b1 k1 (.object "com/example/netloom/netloom/net/ElementKind") (13 : Int32) [] .null := Arv.new A1 (by decide)
  obtain ⟨T2, X2, e2, st2⟩ := getS2 X1 hx hZ hown (host := "") (Or.inl (W hw 2 rfl)) Via.refl e1 (hS0.ext O1.2) (g := (mkF m 7 #[.val (.int p0), .unset, .unset, .unset] [(.int (0 : Int32)), (.ref b1), (.ref b1)])) rfl (hb hby at_7)
  have V_b1_v3 : Arv Z h1 b1 k1 (.object "com/example/netloom/netloom/net/ElementKind") (13 : Int32) [.null] .null := V_b1_v1.pad (pad_rep [] .null 1)
  obtain ⟨cl4, Ar4, q4, Sz4, Ng4, Hv4, Gv4⟩ := V_b1_v3
  have hin4 : ¬ ((0 : Int32) < 0 ∨ cl4.slots.size ≤ ((0 : Int32)).toNatClampNeg) := inb_of Sz4 ⟨by decide, by decide⟩
  obtain ⟨T5, h5, X5, e5, W5, st5⟩ := stR X2 hx hZ e2 Ar4 (j := (0 : Int32)) (v := (.ref (w 0))) hin4 rfl (Sto.ofV Ar4 q4 Ov1 (Ins.self (hE0.ext O1.2))) (g := (mkF m 10 #[.val (.int p0), .unset, .unset, .unset] [(.ref (w 0)), (.int (0 : Int32)), (.ref b1), (.ref b1)])) rfl rfl (hb hby at_10)
  have V_b1_v5 : Arv Z h5 b1 k1 (.object "com/example/netloom/netloom/net/ElementKind") (13 : Int32) [(.ref (w 0))] .null := Arv.set Ar4 q4 Sz4 Ng4 Hv4 Gv4 rfl W5 0 rfl (Nat.le_of_ble_eq_true rfl)
  have N5 := Fr.snoc X5 N0 gn_b1
  have O5 := O1.wr W5 gn_b1
  obtain ⟨T6, X6, e6, st6⟩ := getS2 X5 hx hZ hown (host := "") (Or.inl (W hw 6 rfl)) Via.refl e5 (hS1.ext O5.2) (g := (mkF m 13 #[.val (.int p0), .unset, .unset, .unset] [(.int (1 : Int32)), (.ref b1), (.ref b1)])) rfl (hb hby at_13)
  have V_b1_v7 : Arv Z h5 b1 k1 (.object "com/example/netloom/netloom/net/ElementKind") (13 : Int32) [(.ref (w 0)), .null] .null := V_b1_v5.pad (pad_rep [(.ref (w 0))] .null 1)
  obtain ⟨cl8, Ar8, q8, Sz8, Ng8, Hv8, Gv8⟩ := V_b1_v7
  have hin8 : ¬ ((1 : Int32) < 0 ∨ cl8.slots.size ≤ ((1 : Int32)).toNatClampNeg) := inb_of Sz8 ⟨by decide, by decide⟩
  obtain ⟨T9, h9, X9, e9, W9, st9⟩ := stR X6 hx hZ e6 Ar8 (j := (1 : Int32)) (v := (.ref (w 1))) hin8 rfl (Sto.ofV Ar8 q8 Ov1 (Ins.self (hE1.ext O5.2))) (g := (mkF m 16 #[.val (.int p0), .unset, .unset, .unset] [(.ref (w 1)), (.int (1 : Int32)), (.ref b1), (.ref b1)])) rfl rfl (hb hby at_16)
  have V_b1_v9 : Arv Z h9 b1 k1 (.object "com/example/netloom/netloom/net/ElementKind") (13 : Int32) [(.ref (w 0)), (.ref (w 1))] .null := Arv.set Ar8 q8 Sz8 Ng8 Hv8 Gv8 rfl W9 1 rfl (Nat.le_of_ble_eq_true rfl)
  have N9 := Fr.snoc X9 N5 gn_b1
  have O9 := O5.wr W9 gn_b1
  obtain ⟨T10, X10, e10, st10⟩ := getS2 X9 hx hZ hown (host := "") (Or.inl (W hw 8 rfl)) Via.refl e9 (hS2.ext O9.2) (g := (mkF m 19 #[.val (.int p0), .unset, .unset, .unset] [(.int (2 : Int32)), (.ref b1), (.ref b1)])) rfl (hb hby at_19)
  have V_b1_v11 : Arv Z h9 b1 k1 (.object "com/example/netloom/netloom/net/ElementKind") (13 : Int32) [(.ref (w 0)), (.ref (w 1)), .null] .null := V_b1_v9.pad (pad_rep [(.ref (w 0)), (.ref (w 1))] .null 1)
  obtain ⟨cl12, Ar12, q12, Sz12, Ng12, Hv12, Gv12⟩ := V_b1_v11
  have hin12 : ¬ ((2 : Int32) < 0 ∨ cl12.slots.size ≤ ((2 : Int32)).toNatClampNeg) := inb_of Sz12 ⟨by decide, by decide⟩
  obtain ⟨T13, h13, X13, e13, W13, st13⟩ := stR X10 hx hZ e10 Ar12 (j := (2 : Int32)) (v := (.ref (w 2))) hin12 rfl (Sto.ofV Ar12 q12 Ov1 (Ins.self (hE2.ext O9.2))) (g := (mkF m 22 #[.val (.int p0), .unset, .unset, .unset] [(.ref (w 2)), (.int (2 : Int32)), (.ref b1), (.ref b1)])) rfl rfl (hb hby at_22)
  have V_b1_v13 : Arv Z h13 b1 k1 (.object "com/example/netloom/netloom/net/ElementKind") (13 : Int32) [(.ref (w 0)), (.ref (w 1)), (.ref (w 2))] .null := Arv.set Ar12 q12 Sz12 Ng12 Hv12 Gv12 rfl W13 2 rfl (Nat.le_of_ble_eq_true rfl)
  have N13 := Fr.snoc X13 N9 gn_b1
  have O13 := O9.wr W13 gn_b1
  obtain ⟨T14, X14, e14, st14⟩ := getS2 X13 hx hZ hown (host := "") (Or.inl (W hw 10 rfl)) Via.refl e13 (hS3.ext O13.2) (g := (mkF m 25 #[.val (.int p0), .unset, .unset, .unset] [(.int (3 : Int32)), (.ref b1), (.ref b1)])) rfl (hb hby at_25)
  have V_b1_v15 : Arv Z h13 b1 k1 (.object "com/example/netloom/netloom/net/ElementKind") (13 : Int32) [(.ref (w 0)), (.ref (w 1)), (.ref (w 2)), .null] .null := V_b1_v13.pad (pad_rep [(.ref (w 0)), (.ref (w 1)), (.ref (w 2))] .null 1)
  obtain ⟨cl16, Ar16, q16, Sz16, Ng16, Hv16, Gv16⟩ := V_b1_v15
  have hin16 : ¬ ((3 : Int32) < 0 ∨ cl16.slots.size ≤ ((3 : Int32)).toNatClampNeg) := inb_of Sz16 ⟨by decide, by decide⟩
  obtain ⟨T17, h17, X17, e17, W17, st17⟩ := stR X14 hx hZ e14 Ar16 (j := (3 : Int32)) (v := (.ref (w 3))) hin16 rfl (Sto.ofV Ar16 q16 Ov1 (Ins.self (hE3.ext O13.2))) (g := (mkF m 28 #[.val (.int p0), .unset, .unset, .unset] [(.ref (w 3)), (.int (3 : Int32)), (.ref b1), (.ref b1)])) rfl rfl (hb hby at_28)
  have V_b1_v17 : Arv Z h17 b1 k1 (.object "com/example/netloom/netloom/net/ElementKind") (13 : Int32) [(.ref (w 0)), (.ref (w 1)), (.ref (w 2)), (.ref (w 3))] .null := Arv.set Ar16 q16 Sz16 Ng16 Hv16 Gv16 rfl W17 3 rfl (Nat.le_of_ble_eq_true rfl)
  have N17 := Fr.snoc X17 N13 gn_b1
  have O17 := O13.wr W17 gn_b1
  obtain ⟨T18, X18, e18, st18⟩ := getS2 X17 hx hZ hown (host := "") (Or.inl (W hw 12 rfl)) Via.refl e17 (hS4.ext O17.2) (g := (mkF m 31 #[.val (.int p0), .unset, .unset, .unset] [(.int (4 : Int32)), (.ref b1), (.ref b1)])) rfl (hb hby at_31)
  have V_b1_v19 : Arv Z h17 b1 k1 (.object "com/example/netloom/netloom/net/ElementKind") (13 : Int32) [(.ref (w 0)), (.ref (w 1)), (.ref (w 2)), (.ref (w 3)), .null] .null := V_b1_v17.pad (pad_rep [(.ref (w 0)), (.ref (w 1)), (.ref (w 2)), (.ref (w 3))] .null 1)
  obtain ⟨cl20, Ar20, q20, Sz20, Ng20, Hv20, Gv20⟩ := V_b1_v19
  have hin20 : ¬ ((4 : Int32) < 0 ∨ cl20.slots.size ≤ ((4 : Int32)).toNatClampNeg) := inb_of Sz20 ⟨by decide, by decide⟩
  obtain ⟨T21, h21, X21, e21, W21, st21⟩ := stR X18 hx hZ e18 Ar20 (j := (4 : Int32)) (v := (.ref (w 4))) hin20 rfl (Sto.ofV Ar20 q20 Ov1 (Ins.self (hE4.ext O17.2))) (g := (mkF m 34 #[.val (.int p0), .unset, .unset, .unset] [(.ref (w 4)), (.int (4 : Int32)), (.ref b1), (.ref b1)])) rfl rfl (hb hby at_34)
  have V_b1_v21 : Arv Z h21 b1 k1 (.object "com/example/netloom/netloom/net/ElementKind") (13 : Int32) [(.ref (w 0)), (.ref (w 1)), (.ref (w 2)), (.ref (w 3)), (.ref (w 4))] .null := Arv.set Ar20 q20 Sz20 Ng20 Hv20 Gv20 rfl W21 4 rfl (Nat.le_of_ble_eq_true rfl)
  have N21 := Fr.snoc X21 N17 gn_b1
  have O21 := O17.wr W21 gn_b1
  obtain ⟨T22, X22, e22, st22⟩ := getS2 X21 hx hZ hown (host := "") (Or.inl (W hw 14 rfl)) Via.refl e21 (hS5.ext O21.2) (g := (mkF m 37 #[.val (.int p0), .unset, .unset, .unset] [(.int (5 : Int32)), (.ref b1), (.ref b1)])) rfl (hb hby at_37)
  have V_b1_v23 : Arv Z h21 b1 k1 (.object "com/example/netloom/netloom/net/ElementKind") (13 : Int32) [(.ref (w 0)), (.ref (w 1)), (.ref (w 2)), (.ref (w 3)), (.ref (w 4)), .null] .null := V_b1_v21.pad (pad_rep [(.ref (w 0)), (.ref (w 1)), (.ref (w 2)), (.ref (w 3)), (.ref (w 4))] .null 1)
  obtain ⟨cl24, Ar24, q24, Sz24, Ng24, Hv24, Gv24⟩ := V_b1_v23
  have hin24 : ¬ ((5 : Int32) < 0 ∨ cl24.slots.size ≤ ((5 : Int32)).toNatClampNeg) := inb_of Sz24 ⟨by decide, by decide⟩
  obtain ⟨T25, h25, X25, e25, W25, st25⟩ := stR X22 hx hZ e22 Ar24 (j := (5 : Int32)) (v := (.ref (w 5))) hin24 rfl (Sto.ofV Ar24 q24 Ov1 (Ins.self (hE5.ext O21.2))) (g := (mkF m 40 #[.val (.int p0), .unset, .unset, .unset] [(.ref (w 5)), (.int (5 : Int32)), (.ref b1), (.ref b1)])) rfl rfl (hb hby at_40)
  have V_b1_v25 : Arv Z h25 b1 k1 (.object "com/example/netloom/netloom/net/ElementKind") (13 : Int32) [(.ref (w 0)), (.ref (w 1)), (.ref (w 2)), (.ref (w 3)), (.ref (w 4)), (.ref (w 5))] .null := Arv.set Ar24 q24 Sz24 Ng24 Hv24 Gv24 rfl W25 5 rfl (Nat.le_of_ble_eq_true rfl)
  have N25 := Fr.snoc X25 N21 gn_b1
  have O25 := O21.wr W25 gn_b1
  obtain ⟨T26, X26, e26, st26⟩ := getS2 X25 hx hZ hown (host := "") (Or.inl (W hw 16 rfl)) Via.refl e25 (hS6.ext O25.2) (g := (mkF m 44 #[.val (.int p0), .unset, .unset, .unset] [(.int (6 : Int32)), (.ref b1), (.ref b1)])) rfl (hb hby at_44)
  have V_b1_v27 : Arv Z h25 b1 k1 (.object "com/example/netloom/netloom/net/ElementKind") (13 : Int32) [(.ref (w 0)), (.ref (w 1)), (.ref (w 2)), (.ref (w 3)), (.ref (w 4)), (.ref (w 5)), .null] .null := V_b1_v25.pad (pad_rep [(.ref (w 0)), (.ref (w 1)), (.ref (w 2)), (.ref (w 3)), (.ref (w 4)), (.ref (w 5))] .null 1)
  obtain ⟨cl28, Ar28, q28, Sz28, Ng28, Hv28, Gv28⟩ := V_b1_v27
  have hin28 : ¬ ((6 : Int32) < 0 ∨ cl28.slots.size ≤ ((6 : Int32)).toNatClampNeg) := inb_of Sz28 ⟨by decide, by decide⟩
  obtain ⟨T29, h29, X29, e29, W29, st29⟩ := stR X26 hx hZ e26 Ar28 (j := (6 : Int32)) (v := (.ref (w 6))) hin28 rfl (Sto.ofV Ar28 q28 Ov1 (Ins.self (hE6.ext O25.2))) (g := (mkF m 47 #[.val (.int p0), .unset, .unset, .unset] [(.ref (w 6)), (.int (6 : Int32)), (.ref b1), (.ref b1)])) rfl rfl (hb hby at_47)
  have V_b1_v29 : Arv Z h29 b1 k1 (.object "com/example/netloom/netloom/net/ElementKind") (13 : Int32) [(.ref (w 0)), (.ref (w 1)), (.ref (w 2)), (.ref (w 3)), (.ref (w 4)), (.ref (w 5)), (.ref (w 6))] .null := Arv.set Ar28 q28 Sz28 Ng28 Hv28 Gv28 rfl W29 6 rfl (Nat.le_of_ble_eq_true rfl)
  have N29 := Fr.snoc X29 N25 gn_b1
  have O29 := O25.wr W29 gn_b1
  obtain ⟨T30, X30, e30, st30⟩ := getS2 X29 hx hZ hown (host := "") (Or.inl (W hw 18 rfl)) Via.refl e29 (hS7.ext O29.2) (g := (mkF m 51 #[.val (.int p0), .unset, .unset, .unset] [(.int (7 : Int32)), (.ref b1), (.ref b1)])) rfl (hb hby at_51)
  have V_b1_v31 : Arv Z h29 b1 k1 (.object "com/example/netloom/netloom/net/ElementKind") (13 : Int32) [(.ref (w 0)), (.ref (w 1)), (.ref (w 2)), (.ref (w 3)), (.ref (w 4)), (.ref (w 5)), (.ref (w 6)), .null] .null := V_b1_v29.pad (pad_rep [(.ref (w 0)), (.ref (w 1)), (.ref (w 2)), (.ref (w 3)), (.ref (w 4)), (.ref (w 5)), (.ref (w 6))] .null 1)
  obtain ⟨cl32, Ar32, q32, Sz32, Ng32, Hv32, Gv32⟩ := V_b1_v31
  have hin32 : ¬ ((7 : Int32) < 0 ∨ cl32.slots.size ≤ ((7 : Int32)).toNatClampNeg) := inb_of Sz32 ⟨by decide, by decide⟩
  obtain ⟨T33, h33, X33, e33, W33, st33⟩ := stR X30 hx hZ e30 Ar32 (j := (7 : Int32)) (v := (.ref (w 7))) hin32 rfl (Sto.ofV Ar32 q32 Ov1 (Ins.self (hE7.ext O29.2))) (g := (mkF m 54 #[.val (.int p0), .unset, .unset, .unset] [(.ref (w 7)), (.int (7 : Int32)), (.ref b1), (.ref b1)])) rfl rfl (hb hby at_54)
  have V_b1_v33 : Arv Z h33 b1 k1 (.object "com/example/netloom/netloom/net/ElementKind") (13 : Int32) [(.ref (w 0)), (.ref (w 1)), (.ref (w 2)), (.ref (w 3)), (.ref (w 4)), (.ref (w 5)), (.ref (w 6)), (.ref (w 7))] .null := Arv.set Ar32 q32 Sz32 Ng32 Hv32 Gv32 rfl W33 7 rfl (Nat.le_of_ble_eq_true rfl)
  have N33 := Fr.snoc X33 N29 gn_b1
  have O33 := O29.wr W33 gn_b1
  obtain ⟨T34, X34, e34, st34⟩ := getS2 X33 hx hZ hown (host := "") (Or.inl (W hw 20 rfl)) Via.refl e33 (hS8.ext O33.2) (g := (mkF m 58 #[.val (.int p0), .unset, .unset, .unset] [(.int (8 : Int32)), (.ref b1), (.ref b1)])) rfl (hb hby at_58)
  have V_b1_v35 : Arv Z h33 b1 k1 (.object "com/example/netloom/netloom/net/ElementKind") (13 : Int32) [(.ref (w 0)), (.ref (w 1)), (.ref (w 2)), (.ref (w 3)), (.ref (w 4)), (.ref (w 5)), (.ref (w 6)), (.ref (w 7)), .null] .null := V_b1_v33.pad (pad_rep [(.ref (w 0)), (.ref (w 1)), (.ref (w 2)), (.ref (w 3)), (.ref (w 4)), (.ref (w 5)), (.ref (w 6)), (.ref (w 7))] .null 1)
  obtain ⟨cl36, Ar36, q36, Sz36, Ng36, Hv36, Gv36⟩ := V_b1_v35
  have hin36 : ¬ ((8 : Int32) < 0 ∨ cl36.slots.size ≤ ((8 : Int32)).toNatClampNeg) := inb_of Sz36 ⟨by decide, by decide⟩
  obtain ⟨T37, h37, X37, e37, W37, st37⟩ := stR X34 hx hZ e34 Ar36 (j := (8 : Int32)) (v := (.ref (w 8))) hin36 rfl (Sto.ofV Ar36 q36 Ov1 (Ins.self (hE8.ext O33.2))) (g := (mkF m 61 #[.val (.int p0), .unset, .unset, .unset] [(.ref (w 8)), (.int (8 : Int32)), (.ref b1), (.ref b1)])) rfl rfl (hb hby at_61)
  have V_b1_v37 : Arv Z h37 b1 k1 (.object "com/example/netloom/netloom/net/ElementKind") (13 : Int32) [(.ref (w 0)), (.ref (w 1)), (.ref (w 2)), (.ref (w 3)), (.ref (w 4)), (.ref (w 5)), (.ref (w 6)), (.ref (w 7)), (.ref (w 8))] .null := Arv.set Ar36 q36 Sz36 Ng36 Hv36 Gv36 rfl W37 8 rfl (Nat.le_of_ble_eq_true rfl)
  have N37 := Fr.snoc X37 N33 gn_b1
  have O37 := O33.wr W37 gn_b1
  obtain ⟨T38, X38, e38, st38⟩ := getS2 X37 hx hZ hown (host := "") (Or.inl (W hw 22 rfl)) Via.refl e37 (hS9.ext O37.2) (g := (mkF m 65 #[.val (.int p0), .unset, .unset, .unset] [(.int (9 : Int32)), (.ref b1), (.ref b1)])) rfl (hb hby at_65)
  have V_b1_v39 : Arv Z h37 b1 k1 (.object "com/example/netloom/netloom/net/ElementKind") (13 : Int32) [(.ref (w 0)), (.ref (w 1)), (.ref (w 2)), (.ref (w 3)), (.ref (w 4)), (.ref (w 5)), (.ref (w 6)), (.ref (w 7)), (.ref (w 8)), .null] .null := V_b1_v37.pad (pad_rep [(.ref (w 0)), (.ref (w 1)), (.ref (w 2)), (.ref (w 3)), (.ref (w 4)), (.ref (w 5)), (.ref (w 6)), (.ref (w 7)), (.ref (w 8))] .null 1)
  obtain ⟨cl40, Ar40, q40, Sz40, Ng40, Hv40, Gv40⟩ := V_b1_v39
  have hin40 : ¬ ((9 : Int32) < 0 ∨ cl40.slots.size ≤ ((9 : Int32)).toNatClampNeg) := inb_of Sz40 ⟨by decide, by decide⟩
  obtain ⟨T41, h41, X41, e41, W41, st41⟩ := stR X38 hx hZ e38 Ar40 (j := (9 : Int32)) (v := (.ref (w 9))) hin40 rfl (Sto.ofV Ar40 q40 Ov1 (Ins.self (hE9.ext O37.2))) (g := (mkF m 68 #[.val (.int p0), .unset, .unset, .unset] [(.ref (w 9)), (.int (9 : Int32)), (.ref b1), (.ref b1)])) rfl rfl (hb hby at_68)
  have V_b1_v41 : Arv Z h41 b1 k1 (.object "com/example/netloom/netloom/net/ElementKind") (13 : Int32) [(.ref (w 0)), (.ref (w 1)), (.ref (w 2)), (.ref (w 3)), (.ref (w 4)), (.ref (w 5)), (.ref (w 6)), (.ref (w 7)), (.ref (w 8)), (.ref (w 9))] .null := Arv.set Ar40 q40 Sz40 Ng40 Hv40 Gv40 rfl W41 9 rfl (Nat.le_of_ble_eq_true rfl)
  have N41 := Fr.snoc X41 N37 gn_b1
  have O41 := O37.wr W41 gn_b1
  obtain ⟨T42, X42, e42, st42⟩ := getS2 X41 hx hZ hown (host := "") (Or.inl (W hw 24 rfl)) Via.refl e41 (hS10.ext O41.2) (g := (mkF m 72 #[.val (.int p0), .unset, .unset, .unset] [(.int (10 : Int32)), (.ref b1), (.ref b1)])) rfl (hb hby at_72)
  have V_b1_v43 : Arv Z h41 b1 k1 (.object "com/example/netloom/netloom/net/ElementKind") (13 : Int32) [(.ref (w 0)), (.ref (w 1)), (.ref (w 2)), (.ref (w 3)), (.ref (w 4)), (.ref (w 5)), (.ref (w 6)), (.ref (w 7)), (.ref (w 8)), (.ref (w 9)), .null] .null := V_b1_v41.pad (pad_rep [(.ref (w 0)), (.ref (w 1)), (.ref (w 2)), (.ref (w 3)), (.ref (w 4)), (.ref (w 5)), (.ref (w 6)), (.ref (w 7)), (.ref (w 8)), (.ref (w 9))] .null 1)
  obtain ⟨cl44, Ar44, q44, Sz44, Ng44, Hv44, Gv44⟩ := V_b1_v43
  have hin44 : ¬ ((10 : Int32) < 0 ∨ cl44.slots.size ≤ ((10 : Int32)).toNatClampNeg) := inb_of Sz44 ⟨by decide, by decide⟩
  obtain ⟨T45, h45, X45, e45, W45, st45⟩ := stR X42 hx hZ e42 Ar44 (j := (10 : Int32)) (v := (.ref (w 10))) hin44 rfl (Sto.ofV Ar44 q44 Ov1 (Ins.self (hE10.ext O41.2))) (g := (mkF m 75 #[.val (.int p0), .unset, .unset, .unset] [(.ref (w 10)), (.int (10 : Int32)), (.ref b1), (.ref b1)])) rfl rfl (hb hby at_75)
  have V_b1_v45 : Arv Z h45 b1 k1 (.object "com/example/netloom/netloom/net/ElementKind") (13 : Int32) [(.ref (w 0)), (.ref (w 1)), (.ref (w 2)), (.ref (w 3)), (.ref (w 4)), (.ref (w 5)), (.ref (w 6)), (.ref (w 7)), (.ref (w 8)), (.ref (w 9)), (.ref (w 10))] .null := Arv.set Ar44 q44 Sz44 Ng44 Hv44 Gv44 rfl W45 10 rfl (Nat.le_of_ble_eq_true rfl)
  have N45 := Fr.snoc X45 N41 gn_b1
  have O45 := O41.wr W45 gn_b1
  obtain ⟨T46, X46, e46, st46⟩ := getS2 X45 hx hZ hown (host := "") (Or.inl (W hw 26 rfl)) Via.refl e45 (hS11.ext O45.2) (g := (mkF m 79 #[.val (.int p0), .unset, .unset, .unset] [(.int (11 : Int32)), (.ref b1), (.ref b1)])) rfl (hb hby at_79)
  have V_b1_v47 : Arv Z h45 b1 k1 (.object "com/example/netloom/netloom/net/ElementKind") (13 : Int32) [(.ref (w 0)), (.ref (w 1)), (.ref (w 2)), (.ref (w 3)), (.ref (w 4)), (.ref (w 5)), (.ref (w 6)), (.ref (w 7)), (.ref (w 8)), (.ref (w 9)), (.ref (w 10)), .null] .null := V_b1_v45.pad (pad_rep [(.ref (w 0)), (.ref (w 1)), (.ref (w 2)), (.ref (w 3)), (.ref (w 4)), (.ref (w 5)), (.ref (w 6)), (.ref (w 7)), (.ref (w 8)), (.ref (w 9)), (.ref (w 10))] .null 1)
  obtain ⟨cl48, Ar48, q48, Sz48, Ng48, Hv48, Gv48⟩ := V_b1_v47
  have hin48 : ¬ ((11 : Int32) < 0 ∨ cl48.slots.size ≤ ((11 : Int32)).toNatClampNeg) := inb_of Sz48 ⟨by decide, by decide⟩
  obtain ⟨T49, h49, X49, e49, W49, st49⟩ := stR X46 hx hZ e46 Ar48 (j := (11 : Int32)) (v := (.ref (w 11))) hin48 rfl (Sto.ofV Ar48 q48 Ov1 (Ins.self (hE11.ext O45.2))) (g := (mkF m 82 #[.val (.int p0), .unset, .unset, .unset] [(.ref (w 11)), (.int (11 : Int32)), (.ref b1), (.ref b1)])) rfl rfl (hb hby at_82)
  have V_b1_v49 : Arv Z h49 b1 k1 (.object "com/example/netloom/netloom/net/ElementKind") (13 : Int32) [(.ref (w 0)), (.ref (w 1)), (.ref (w 2)), (.ref (w 3)), (.ref (w 4)), (.ref (w 5)), (.ref (w 6)), (.ref (w 7)), (.ref (w 8)), (.ref (w 9)), (.ref (w 10)), (.ref (w 11))] .null := Arv.set Ar48 q48 Sz48 Ng48 Hv48 Gv48 rfl W49 11 rfl (Nat.le_of_ble_eq_true rfl)
  have N49 := Fr.snoc X49 N45 gn_b1
  have O49 := O45.wr W49 gn_b1
  obtain ⟨T50, X50, e50, st50⟩ := getS2 X49 hx hZ hown (host := "") (Or.inl (W hw 28 rfl)) Via.refl e49 (hS12.ext O49.2) (g := (mkF m 86 #[.val (.int p0), .unset, .unset, .unset] [(.int (12 : Int32)), (.ref b1), (.ref b1)])) rfl (hb hby at_86)
  have V_b1_v51 : Arv Z h49 b1 k1 (.object "com/example/netloom/netloom/net/ElementKind") (13 : Int32) [(.ref (w 0)), (.ref (w 1)), (.ref (w 2)), (.ref (w 3)), (.ref (w 4)), (.ref (w 5)), (.ref (w 6)), (.ref (w 7)), (.ref (w 8)), (.ref (w 9)), (.ref (w 10)), (.ref (w 11)), .null] .null := V_b1_v49.pad (pad_rep [(.ref (w 0)), (.ref (w 1)), (.ref (w 2)), (.ref (w 3)), (.ref (w 4)), (.ref (w 5)), (.ref (w 6)), (.ref (w 7)), (.ref (w 8)), (.ref (w 9)), (.ref (w 10)), (.ref (w 11))] .null 1)
  obtain ⟨cl52, Ar52, q52, Sz52, Ng52, Hv52, Gv52⟩ := V_b1_v51
  have hin52 : ¬ ((12 : Int32) < 0 ∨ cl52.slots.size ≤ ((12 : Int32)).toNatClampNeg) := inb_of Sz52 ⟨by decide, by decide⟩
  obtain ⟨T53, h53, X53, e53, W53, st53⟩ := stR X50 hx hZ e50 Ar52 (j := (12 : Int32)) (v := (.ref (w 12))) hin52 rfl (Sto.ofV Ar52 q52 Ov1 (Ins.self (hE12.ext O49.2))) (g := (mkF m 89 #[.val (.int p0), .unset, .unset, .unset] [(.ref (w 12)), (.int (12 : Int32)), (.ref b1), (.ref b1)])) rfl rfl (hb hby at_89)
  have V_b1_v53 : Arv Z h53 b1 k1 (.object "com/example/netloom/netloom/net/ElementKind") (13 : Int32) [(.ref (w 0)), (.ref (w 1)), (.ref (w 2)), (.ref (w 3)), (.ref (w 4)), (.ref (w 5)), (.ref (w 6)), (.ref (w 7)), (.ref (w 8)), (.ref (w 9)), (.ref (w 10)), (.ref (w 11)), (.ref (w 12))] .null := Arv.set Ar52 q52 Sz52 Ng52 Hv52 Gv52 rfl W53 12 rfl (Nat.le_of_ble_eq_true rfl)
  have N53 := Fr.snoc X53 N49 gn_b1
  have O53 := O49.wr W53 gn_b1
  obtain ⟨cl54, Ar54, q54, Sz54, Ng54, Hv54, Gv54⟩ := V_b1_v53
  have hin54 : ¬ ((1 : Int32) < 0 ∨ cl54.slots.size ≤ ((1 : Int32)).toNatClampNeg) := inb_of Sz54 ⟨by decide, by decide⟩
  have hat54 : cl54.slots[((1 : Int32)).toNatClampNeg]? = some (.ref (w 1)) := Has.at Hv54 hin54 (by rfl)
  obtain ⟨cq55, kq55, q55a, q55b, q55c⟩ := isOf hZ e53 (hE1.ext O53.2)
  obtain ⟨_, _, ⟨T55, L55, k55, n55⟩, -, X55, ⟨Lc55, hQ55, l55, y55, z55⟩, st55⟩ := X53.virtualBack hx (y := (⟨"com/example/netloom/netloom/net/ElementKind", "isPlace", "()Z"⟩ : MethodName)) (z := (⟨"com/example/netloom/netloom/net/ElementKind", "isPlace", "()Z"⟩ : MethodName)) hown (mvT hZ (W hw 31 rfl)) (mvT hZ (W hw 32 rfl)) (notFace_of_selects (args := #[]) (mvT hZ (W hw 34 rfl))) (mvT hZ (W hw 34 rfl)) (mvT hZ (W hw 33 rfl)) (by decide) (backOf (W := 0) (rm_3 l Z a0 hw w kk hN [] h53 O53) hZ (W hw 35 rfl) (W hw 3 rfl) (by decide) (by decide)) q55a q55c (g := (mkF m 118 #[.val (.int p0), .val (.ref b1), .val (.int (1 : Int32)), .val (.int (0 : Int32))] [(.ref (w 1))])) rfl (by rw [hml]; rfl) (Steps.refl _) (argsL := []) (rest := []) (lenOf pd_0 rfl) rfl (by show 2 * 0 + _ ≤ _; exact Nat.le_of_eq rfl) (hb hby at_118) (fun _ _ => ⟨rfl, e53, (by decide : 1 + 0 ≤ _), (by decide : 13 + 0 ≤ _)⟩)
  dsimp only [Pt.U, Pt.locs, Pt.cells, Pt.slots] at X55 l55 y55 z55 st55 hQ55
  subst l55 y55 z55
  obtain ⟨rfl, N55q, e55⟩ := hQ55
  have N55 := Fr.app N53 N55q
  obtain ⟨fs, hr, hrun, hended, hW, hsame⟩ := X55.leave (v := some (.int (1 : Int32))) (fun h => by rw [Bd.returns] at h; cases h)
  refine ⟨_, _, pre0 _ ?_, hrun, hended, _, _, rfl, ?_, ⟨_, rfl⟩, hW, hsame.mono (by decide) (by decide)⟩
  · show Steps p.tables e below (s₁.setTop (mkF m 0 #[.val (.int p0), .unset, .unset, .unset] [])) _
    refine XS.bipush X0.here hx rfl (hb hby at_0) ?_
    show Steps p.tables e below (s₁.setTop (mkF m 2 #[.val (.int p0), .unset, .unset, .unset] [(.int (13 : Int32))])) _
    refine st1 _ ?_
    show Steps p.tables e below (T1.setTop (mkF m 5 #[.val (.int p0), .unset, .unset, .unset] [(.ref b1)])) _
    refine XS.dup X1.here hx rfl (hb hby at_5) rfl rfl ?_
    show Steps p.tables e below (T1.setTop (mkF m 6 #[.val (.int p0), .unset, .unset, .unset] [(.ref b1), (.ref b1)])) _
    refine XS.iconst X1.here hx rfl (hb hby at_6) ?_
    show Steps p.tables e below (T1.setTop (mkF m 7 #[.val (.int p0), .unset, .unset, .unset] [(.int (0 : Int32)), (.ref b1), (.ref b1)])) _
    refine st2 _ ?_
    show Steps p.tables e below (T2.setTop (mkF m 10 #[.val (.int p0), .unset, .unset, .unset] [(.ref (w 0)), (.int (0 : Int32)), (.ref b1), (.ref b1)])) _
    refine st5 _ ?_
    show Steps p.tables e below (T5.setTop (mkF m 11 #[.val (.int p0), .unset, .unset, .unset] [(.ref b1)])) _
    refine XS.dup X5.here hx rfl (hb hby at_11) rfl rfl ?_
    show Steps p.tables e below (T5.setTop (mkF m 12 #[.val (.int p0), .unset, .unset, .unset] [(.ref b1), (.ref b1)])) _
    refine XS.iconst X5.here hx rfl (hb hby at_12) ?_
    show Steps p.tables e below (T5.setTop (mkF m 13 #[.val (.int p0), .unset, .unset, .unset] [(.int (1 : Int32)), (.ref b1), (.ref b1)])) _
    refine st6 _ ?_
    show Steps p.tables e below (T6.setTop (mkF m 16 #[.val (.int p0), .unset, .unset, .unset] [(.ref (w 1)), (.int (1 : Int32)), (.ref b1), (.ref b1)])) _
    refine st9 _ ?_
    show Steps p.tables e below (T9.setTop (mkF m 17 #[.val (.int p0), .unset, .unset, .unset] [(.ref b1)])) _
    refine XS.dup X9.here hx rfl (hb hby at_17) rfl rfl ?_
    show Steps p.tables e below (T9.setTop (mkF m 18 #[.val (.int p0), .unset, .unset, .unset] [(.ref b1), (.ref b1)])) _
    refine XS.iconst X9.here hx rfl (hb hby at_18) ?_
    show Steps p.tables e below (T9.setTop (mkF m 19 #[.val (.int p0), .unset, .unset, .unset] [(.int (2 : Int32)), (.ref b1), (.ref b1)])) _
    refine st10 _ ?_
    show Steps p.tables e below (T10.setTop (mkF m 22 #[.val (.int p0), .unset, .unset, .unset] [(.ref (w 2)), (.int (2 : Int32)), (.ref b1), (.ref b1)])) _
    refine st13 _ ?_
    show Steps p.tables e below (T13.setTop (mkF m 23 #[.val (.int p0), .unset, .unset, .unset] [(.ref b1)])) _
    refine XS.dup X13.here hx rfl (hb hby at_23) rfl rfl ?_
    show Steps p.tables e below (T13.setTop (mkF m 24 #[.val (.int p0), .unset, .unset, .unset] [(.ref b1), (.ref b1)])) _
    refine XS.iconst X13.here hx rfl (hb hby at_24) ?_
    show Steps p.tables e below (T13.setTop (mkF m 25 #[.val (.int p0), .unset, .unset, .unset] [(.int (3 : Int32)), (.ref b1), (.ref b1)])) _
    refine st14 _ ?_
    show Steps p.tables e below (T14.setTop (mkF m 28 #[.val (.int p0), .unset, .unset, .unset] [(.ref (w 3)), (.int (3 : Int32)), (.ref b1), (.ref b1)])) _
    refine st17 _ ?_
    show Steps p.tables e below (T17.setTop (mkF m 29 #[.val (.int p0), .unset, .unset, .unset] [(.ref b1)])) _
    refine XS.dup X17.here hx rfl (hb hby at_29) rfl rfl ?_
    show Steps p.tables e below (T17.setTop (mkF m 30 #[.val (.int p0), .unset, .unset, .unset] [(.ref b1), (.ref b1)])) _
    refine XS.iconst X17.here hx rfl (hb hby at_30) ?_
    show Steps p.tables e below (T17.setTop (mkF m 31 #[.val (.int p0), .unset, .unset, .unset] [(.int (4 : Int32)), (.ref b1), (.ref b1)])) _
    refine st18 _ ?_
    show Steps p.tables e below (T18.setTop (mkF m 34 #[.val (.int p0), .unset, .unset, .unset] [(.ref (w 4)), (.int (4 : Int32)), (.ref b1), (.ref b1)])) _
    refine st21 _ ?_
    show Steps p.tables e below (T21.setTop (mkF m 35 #[.val (.int p0), .unset, .unset, .unset] [(.ref b1)])) _
    refine XS.dup X21.here hx rfl (hb hby at_35) rfl rfl ?_
    show Steps p.tables e below (T21.setTop (mkF m 36 #[.val (.int p0), .unset, .unset, .unset] [(.ref b1), (.ref b1)])) _
    refine XS.iconst X21.here hx rfl (hb hby at_36) ?_
    show Steps p.tables e below (T21.setTop (mkF m 37 #[.val (.int p0), .unset, .unset, .unset] [(.int (5 : Int32)), (.ref b1), (.ref b1)])) _
    refine st22 _ ?_
    show Steps p.tables e below (T22.setTop (mkF m 40 #[.val (.int p0), .unset, .unset, .unset] [(.ref (w 5)), (.int (5 : Int32)), (.ref b1), (.ref b1)])) _
    refine st25 _ ?_
    show Steps p.tables e below (T25.setTop (mkF m 41 #[.val (.int p0), .unset, .unset, .unset] [(.ref b1)])) _
    refine XS.dup X25.here hx rfl (hb hby at_41) rfl rfl ?_
    show Steps p.tables e below (T25.setTop (mkF m 42 #[.val (.int p0), .unset, .unset, .unset] [(.ref b1), (.ref b1)])) _
    refine XS.bipush X25.here hx rfl (hb hby at_42) ?_
    show Steps p.tables e below (T25.setTop (mkF m 44 #[.val (.int p0), .unset, .unset, .unset] [(.int (6 : Int32)), (.ref b1), (.ref b1)])) _
    refine st26 _ ?_
    show Steps p.tables e below (T26.setTop (mkF m 47 #[.val (.int p0), .unset, .unset, .unset] [(.ref (w 6)), (.int (6 : Int32)), (.ref b1), (.ref b1)])) _
    refine st29 _ ?_
    show Steps p.tables e below (T29.setTop (mkF m 48 #[.val (.int p0), .unset, .unset, .unset] [(.ref b1)])) _
    refine XS.dup X29.here hx rfl (hb hby at_48) rfl rfl ?_
    show Steps p.tables e below (T29.setTop (mkF m 49 #[.val (.int p0), .unset, .unset, .unset] [(.ref b1), (.ref b1)])) _
    refine XS.bipush X29.here hx rfl (hb hby at_49) ?_
    show Steps p.tables e below (T29.setTop (mkF m 51 #[.val (.int p0), .unset, .unset, .unset] [(.int (7 : Int32)), (.ref b1), (.ref b1)])) _
    refine st30 _ ?_
    show Steps p.tables e below (T30.setTop (mkF m 54 #[.val (.int p0), .unset, .unset, .unset] [(.ref (w 7)), (.int (7 : Int32)), (.ref b1), (.ref b1)])) _
    refine st33 _ ?_
    show Steps p.tables e below (T33.setTop (mkF m 55 #[.val (.int p0), .unset, .unset, .unset] [(.ref b1)])) _
    refine XS.dup X33.here hx rfl (hb hby at_55) rfl rfl ?_
    show Steps p.tables e below (T33.setTop (mkF m 56 #[.val (.int p0), .unset, .unset, .unset] [(.ref b1), (.ref b1)])) _
    refine XS.bipush X33.here hx rfl (hb hby at_56) ?_
    show Steps p.tables e below (T33.setTop (mkF m 58 #[.val (.int p0), .unset, .unset, .unset] [(.int (8 : Int32)), (.ref b1), (.ref b1)])) _
    refine st34 _ ?_
    show Steps p.tables e below (T34.setTop (mkF m 61 #[.val (.int p0), .unset, .unset, .unset] [(.ref (w 8)), (.int (8 : Int32)), (.ref b1), (.ref b1)])) _
    refine st37 _ ?_
    show Steps p.tables e below (T37.setTop (mkF m 62 #[.val (.int p0), .unset, .unset, .unset] [(.ref b1)])) _
    refine XS.dup X37.here hx rfl (hb hby at_62) rfl rfl ?_
    show Steps p.tables e below (T37.setTop (mkF m 63 #[.val (.int p0), .unset, .unset, .unset] [(.ref b1), (.ref b1)])) _
    refine XS.bipush X37.here hx rfl (hb hby at_63) ?_
    show Steps p.tables e below (T37.setTop (mkF m 65 #[.val (.int p0), .unset, .unset, .unset] [(.int (9 : Int32)), (.ref b1), (.ref b1)])) _
    refine st38 _ ?_
    show Steps p.tables e below (T38.setTop (mkF m 68 #[.val (.int p0), .unset, .unset, .unset] [(.ref (w 9)), (.int (9 : Int32)), (.ref b1), (.ref b1)])) _
    refine st41 _ ?_
    show Steps p.tables e below (T41.setTop (mkF m 69 #[.val (.int p0), .unset, .unset, .unset] [(.ref b1)])) _
    refine XS.dup X41.here hx rfl (hb hby at_69) rfl rfl ?_
    show Steps p.tables e below (T41.setTop (mkF m 70 #[.val (.int p0), .unset, .unset, .unset] [(.ref b1), (.ref b1)])) _
    refine XS.bipush X41.here hx rfl (hb hby at_70) ?_
    show Steps p.tables e below (T41.setTop (mkF m 72 #[.val (.int p0), .unset, .unset, .unset] [(.int (10 : Int32)), (.ref b1), (.ref b1)])) _
    refine st42 _ ?_
    show Steps p.tables e below (T42.setTop (mkF m 75 #[.val (.int p0), .unset, .unset, .unset] [(.ref (w 10)), (.int (10 : Int32)), (.ref b1), (.ref b1)])) _
    refine st45 _ ?_
    show Steps p.tables e below (T45.setTop (mkF m 76 #[.val (.int p0), .unset, .unset, .unset] [(.ref b1)])) _
    refine XS.dup X45.here hx rfl (hb hby at_76) rfl rfl ?_
    show Steps p.tables e below (T45.setTop (mkF m 77 #[.val (.int p0), .unset, .unset, .unset] [(.ref b1), (.ref b1)])) _
    refine XS.bipush X45.here hx rfl (hb hby at_77) ?_
    show Steps p.tables e below (T45.setTop (mkF m 79 #[.val (.int p0), .unset, .unset, .unset] [(.int (11 : Int32)), (.ref b1), (.ref b1)])) _
    refine st46 _ ?_
    show Steps p.tables e below (T46.setTop (mkF m 82 #[.val (.int p0), .unset, .unset, .unset] [(.ref (w 11)), (.int (11 : Int32)), (.ref b1), (.ref b1)])) _
    refine st49 _ ?_
    show Steps p.tables e below (T49.setTop (mkF m 83 #[.val (.int p0), .unset, .unset, .unset] [(.ref b1)])) _
    refine XS.dup X49.here hx rfl (hb hby at_83) rfl rfl ?_
    show Steps p.tables e below (T49.setTop (mkF m 84 #[.val (.int p0), .unset, .unset, .unset] [(.ref b1), (.ref b1)])) _
    refine XS.bipush X49.here hx rfl (hb hby at_84) ?_
    show Steps p.tables e below (T49.setTop (mkF m 86 #[.val (.int p0), .unset, .unset, .unset] [(.int (12 : Int32)), (.ref b1), (.ref b1)])) _
    refine st50 _ ?_
    show Steps p.tables e below (T50.setTop (mkF m 89 #[.val (.int p0), .unset, .unset, .unset] [(.ref (w 12)), (.int (12 : Int32)), (.ref b1), (.ref b1)])) _
    refine st53 _ ?_
    show Steps p.tables e below (T53.setTop (mkF m 90 #[.val (.int p0), .unset, .unset, .unset] [(.ref b1)])) _
    refine XS.astoreN X53.here hx rfl (hb hby at_90) rfl rfl (l' := #[.val (.int p0), .val (.ref b1), .unset, .unset]) rfl ?_
    show Steps p.tables e below (T53.setTop (mkF m 91 #[.val (.int p0), .val (.ref b1), .unset, .unset] [])) _
    refine XS.iloadN X53.here hx rfl (hb hby at_91) rfl ?_
    show Steps p.tables e below (T53.setTop (mkF m 92 #[.val (.int p0), .val (.ref b1), .unset, .unset] [(.int p0)])) _
    refine X53.ldcInt hx hown (mvT hZ (W hw 30 rfl)) (g := (mkF m 92 #[.val (.int p0), .val (.ref b1), .unset, .unset] [(.int p0)])) rfl (hb hby at_92) _ ?_
    show Steps p.tables e below (T53.setTop (mkF m 94 #[.val (.int p0), .val (.ref b1), .unset, .unset] [(.int (2147483647 : Int32)), (.int p0)])) _
    refine XS.iand X53.here hx rfl (hb hby at_94) rfl ?_
    show Steps p.tables e below (T53.setTop (mkF m 95 #[.val (.int p0), .val (.ref b1), .unset, .unset] [(.int (p0 &&& (2147483647 : Int32)))])) _
    refine XS.bipush X53.here hx rfl (hb hby at_95) ?_
    show Steps p.tables e below (T53.setTop (mkF m 97 #[.val (.int p0), .val (.ref b1), .unset, .unset] [(.int (13 : Int32)), (.int (p0 &&& (2147483647 : Int32)))])) _
    refine iremM X53 hx rfl (hb hby at_97) rfl (by decide : ¬ ((13 : Int32) = (0 : Int32))) ?_
    show Steps p.tables e below (T53.setTop (mkF m 98 #[.val (.int p0), .val (.ref b1), .unset, .unset] [(.int ((p0 &&& (2147483647 : Int32)) % (13 : Int32)))])) _
    rw [hp0]
    show Steps p.tables e below (T53.setTop (mkF m 98 #[.val (.int p0), .val (.ref b1), .unset, .unset] [(.int (1 : Int32))])) _
    refine XS.istoreN X53.here hx rfl (hb hby at_98) rfl (l' := #[.val (.int p0), .val (.ref b1), .val (.int (1 : Int32)), .unset]) rfl ?_
    show Steps p.tables e below (T53.setTop (mkF m 99 #[.val (.int p0), .val (.ref b1), .val (.int (1 : Int32)), .unset] [])) _
    refine XS.iloadN X53.here hx rfl (hb hby at_99) rfl ?_
    show Steps p.tables e below (T53.setTop (mkF m 100 #[.val (.int p0), .val (.ref b1), .val (.int (1 : Int32)), .unset] [(.int (1 : Int32))])) _
    refine XS.iconst X53.here hx rfl (hb hby at_100) ?_
    show Steps p.tables e below (T53.setTop (mkF m 101 #[.val (.int p0), .val (.ref b1), .val (.int (1 : Int32)), .unset] [(.int (2 : Int32)), (.int (1 : Int32))])) _
    refine XS.icmpNo X53.here hx rfl (hb hby at_101) rfl (feq (by decide : ¬ ((1 : Int32) = (2 : Int32)))).1 ?_
    show Steps p.tables e below (T53.setTop (mkF m 104 #[.val (.int p0), .val (.ref b1), .val (.int (1 : Int32)), .unset] [])) _
    refine XS.iloadN X53.here hx rfl (hb hby at_104) rfl ?_
    show Steps p.tables e below (T53.setTop (mkF m 105 #[.val (.int p0), .val (.ref b1), .val (.int (1 : Int32)), .unset] [(.int (1 : Int32))])) _
    refine XS.iconst X53.here hx rfl (hb hby at_105) ?_
    show Steps p.tables e below (T53.setTop (mkF m 106 #[.val (.int p0), .val (.ref b1), .val (.int (1 : Int32)), .unset] [(.int (4 : Int32)), (.int (1 : Int32))])) _
    refine XS.icmpYes X53.here hx rfl (pc0 := 106) (pc' := 113) rfl (hb hby at_106) rfl (feq (by decide : ¬ ((1 : Int32) = (4 : Int32)))).2 (by decide) (by decide) ?_
    show Steps p.tables e below (T53.setTop (mkF m 113 #[.val (.int p0), .val (.ref b1), .val (.int (1 : Int32)), .unset] [])) _
    refine XS.iconst X53.here hx rfl (hb hby at_113) ?_
    show Steps p.tables e below (T53.setTop (mkF m 114 #[.val (.int p0), .val (.ref b1), .val (.int (1 : Int32)), .unset] [(.int (0 : Int32))])) _
    refine XS.istoreN X53.here hx rfl (hb hby at_114) rfl (l' := #[.val (.int p0), .val (.ref b1), .val (.int (1 : Int32)), .val (.int (0 : Int32))]) rfl ?_
    show Steps p.tables e below (T53.setTop (mkF m 115 #[.val (.int p0), .val (.ref b1), .val (.int (1 : Int32)), .val (.int (0 : Int32))] [])) _
    refine XS.aloadN X53.here hx rfl (hb hby at_115) rfl rfl ?_
    show Steps p.tables e below (T53.setTop (mkF m 116 #[.val (.int p0), .val (.ref b1), .val (.int (1 : Int32)), .val (.int (0 : Int32))] [(.ref b1)])) _
    refine XS.iloadN X53.here hx rfl (hb hby at_116) rfl ?_
    show Steps p.tables e below (T53.setTop (mkF m 117 #[.val (.int p0), .val (.ref b1), .val (.int (1 : Int32)), .val (.int (0 : Int32))] [(.int (1 : Int32)), (.ref b1)])) _
    refine X53.aaload hx (j := (1 : Int32)) (v := (.ref (w 1))) (by rw [e53]; exact Ar54.1) (State.isArrayOf_alike hZ.alike Ar54.2.1) rfl Ar54.2.2 hin54 hat54 (g := (mkF m 117 #[.val (.int p0), .val (.ref b1), .val (.int (1 : Int32)), .val (.int (0 : Int32))] [(.int (1 : Int32)), (.ref b1)])) rfl rfl (hb hby at_117) _ ?_
    show Steps p.tables e below (T53.setTop (mkF m 118 #[.val (.int p0), .val (.ref b1), .val (.int (1 : Int32)), .val (.int (0 : Int32))] [(.ref (w 1))])) _
    refine st55.trans ?_
    show Steps p.tables e below (T55.setTop (mkF m 121 #[.val (.int p0), .val (.ref b1), .val (.int (1 : Int32)), .val (.int (0 : Int32))] [(.int (0 : Int32))])) _
    refine XS.iloadN X55.here hx rfl (hb hby at_121) rfl ?_
    show Steps p.tables e below (T55.setTop (mkF m 122 #[.val (.int p0), .val (.ref b1), .val (.int (1 : Int32)), .val (.int (0 : Int32))] [(.int (0 : Int32)), (.int (0 : Int32))])) _
    refine XS.icmpNo X55.here hx rfl (hb hby at_122) rfl (teq (by decide : (0 : Int32) = (0 : Int32))).2 ?_
    show Steps p.tables e below (T55.setTop (mkF m 125 #[.val (.int p0), .val (.ref b1), .val (.int (1 : Int32)), .val (.int (0 : Int32))] [])) _
    refine XS.iconst X55.here hx rfl (hb hby at_125) ?_
    show Steps p.tables e below (T55.setTop (mkF m 126 #[.val (.int p0), .val (.ref b1), .val (.int (1 : Int32)), .val (.int (0 : Int32))] [(.int (1 : Int32))])) _
    refine XS.goto X55.here hx rfl (pc0 := 126) (pc' := 130) rfl (hb hby at_126) (by decide) (by decide) ?_
    show Steps p.tables e below (T55.setTop (mkF m 130 #[.val (.int p0), .val (.ref b1), .val (.int (1 : Int32)), .val (.int (0 : Int32))] [(.int (1 : Int32))])) _
    exact retN X55 hx (t := .boolean) Bd.returns (by simp) (hb hby at_130) hr
  · show OL (some (.int (1 : Int32))) Z.heap.size _ T55.heap _
    exact ⟨rfl, N55⟩
theorem d_prog_22_method_5_code_14 : decode prog_22_method_5_code 14 = .ok (.iconst 1, 1) := by decide +kernel
theorem d_prog_22_method_5_code_15 : decode prog_22_method_5_code 15 = .ok (.goto 4, 3) := by decide +kernel
set_option maxRecDepth 65536 in
set_option maxHeartbeats 40000000 in
theorem rm_5 (l : Launch) (Z : State) (a0 : Array Value) (hw : ∀ d ∈ tables_1, d.before a0 Z = true) (w : Nat → Addr) (kk : Nat → ClassId) (hN : Wd Z w kk) (ws : List Jvm.Cond)  (h0 : Heap) (O0 : Old Z Z.heap.size h0) :
    MetFree l (⟨"com/example/netloom/netloom/net/ElementKind", "isPlace", "()Z"⟩ : MethodName) (head1 (Jvm.Cond.code (⟨"com/example/netloom/netloom/net/ElementKind", "isPlace", "()Z"⟩ : MethodName) prog_22_method_5_code 1 (some .boolean) :: ws) ({ frames := 0, cells := 0, slots := 0, locals := 0 } : Room)) (fun a U => a = #[(.ref (w 2))] ∧ Z.Warmed39 U.vm ∧ U.heap = h0) (fun _ _ _ _ _ => True) (fun _ U o U' => ∃ v L, o = .returned v ∧ OQ (some (.int (1 : Int32))) h0 Z.heap.size v U'.heap L ∧ FrameEnd U o U' L ({ frames := 0, cells := 0, slots := 0, locals := 0 } : Room).cells ({ frames := 0, cells := 0, slots := 0, locals := 0 } : Room).slots) := by
  have hN' := hN
  obtain ⟨hS0, hE0, hS1, hE1, hS2, hE2, hS3, hE3, hS4, hE4, hS5, hE5, hS6, hE6, hS7, hE7, hS8, hE8, hS9, hE9, hS10, hE10, hS11, hE11, hS12, hE12, hF0_ordinal, hF2_ordinal, hF4_ordinal, hF3_ordinal, hF6_ordinal, hF5_ordinal, hF7_ordinal, hF9_ordinal, hF11_ordinal, hF1_ordinal, hF8_ordinal, hF10_ordinal, hF12_ordinal⟩ := hN'
  refine MetFree.of_bodySF (plainFor_of_name pn_0) hisR ?_
  intro p e s m args below meth c s₁ Bd hml0 hP hK
  obtain ⟨rfl, hZ, hh⟩ := hP
  have hx := Bd.exec
  have hby := Bd.bytes
  have hml : c.maxLocals = 1 := hml0
  have hown : s.vm.findClass "com/example/netloom/netloom/net/ElementKind" = some m.cls := findClass_of_methodNamed Bd.named
  have hnm := (name_of_methodNamed Bd.named Bd.method).1
  have X0 : Stand p l e ({ frames := 0, cells := 0, slots := 0, locals := 0 } : Room) s m #[(.ref (w 2))] below meth c s₁ [] 0 0 := Stand.of_body Bd
  have e0 : s₁.heap = h0 := by rw [← hh, Bd.state]; rfl
  have N0 := Fr.nil Z.heap.size
  have pre0 : ∀ t, Steps p.tables e below (s₁.setTop (mkF m 0 #[.val (.ref (w 2))] [])) t → Steps p.tables e below (s₁.setTop (entryFrame m #[(.ref (w 2))] 1)) t := fun t k => castTop (ef_0 m (.ref (w 2)) rfl) k
  obtain ⟨T1, X1, e1, st1⟩ := getS2 X0 hx hZ hown (host := "") (Or.inl (W hw 36 rfl)) Via.refl e0 (hS2.ext O0.2) (g := (mkF m 1 #[.val (.ref (w 2))] [(.ref (w 2))])) rfl (hb hby d_prog_22_method_5_code_1)
  obtain ⟨fs, hr, hrun, hended, hW, hsame⟩ := X1.leave (v := some (.int (1 : Int32))) (fun h => by rw [Bd.returns] at h; cases h)
  refine ⟨_, _, pre0 _ ?_, hrun, hended, _, _, rfl, ?_, ⟨_, rfl⟩, hW, hsame.mono (by decide) (by decide)⟩
  · show Steps p.tables e below (s₁.setTop (mkF m 0 #[.val (.ref (w 2))] [])) _
    refine XS.aloadN X0.here hx rfl (hb hby d_prog_22_method_5_code_0) rfl rfl ?_
    show Steps p.tables e below (s₁.setTop (mkF m 1 #[.val (.ref (w 2))] [(.ref (w 2))])) _
    refine st1 _ ?_
    show Steps p.tables e below (T1.setTop (mkF m 4 #[.val (.ref (w 2))] [(.ref (w 2)), (.ref (w 2))])) _
    refine Jvm.RoadKit.acmp (g := (mkF m 4 #[.val (.ref (w 2))] [(.ref (w 2)), (.ref (w 2))])) X1 hx rfl rfl rfl (pc0 := 4) (pc' := 14) (same := true) rfl (hb hby d_prog_22_method_5_code_4) rfl (decide_eq_true rfl) (by decide) (by decide) ?_
    show Steps p.tables e below (T1.setTop (mkF m 14 #[.val (.ref (w 2))] [])) _
    refine XS.iconst X1.here hx rfl (hb hby d_prog_22_method_5_code_14) ?_
    show Steps p.tables e below (T1.setTop (mkF m 15 #[.val (.ref (w 2))] [(.int (1 : Int32))])) _
    refine XS.goto X1.here hx rfl (pc0 := 15) (pc' := 19) rfl (hb hby d_prog_22_method_5_code_15) (by decide) (by decide) ?_
    show Steps p.tables e below (T1.setTop (mkF m 19 #[.val (.ref (w 2))] [(.int (1 : Int32))])) _
    exact retN X1 hx (t := .boolean) Bd.returns (by simp) (hb hby d_prog_22_method_5_code_19) hr
  · show OQ (some (.int (1 : Int32))) h0 Z.heap.size _ T1.heap _
    rw [e1]
    exact ⟨rfl, N0, rfl⟩
set_option maxRecDepth 65536 in
set_option maxHeartbeats 40000000 in
theorem law_6 (l : Launch) (Z : State) (a0 : Array Value) (hw : ∀ d ∈ tables_1, d.before a0 Z = true) (w : Nat → Addr) (kk : Nat → ClassId) (hN : Wd Z w kk) (ws : List Jvm.Cond) (p0 : Int32) (h0 : Heap) (O0 : Old Z Z.heap.size h0) (hp0 : ((p0 &&& (2147483647 : Int32)) % (13 : Int32)) = (2 : Int32)) :
    MetFree l x (head1 (Jvm.Cond.code x code maxLocals ret :: ws) room_1) (fun a U => a = #[(.int p0)] ∧ Z.Warmed39 U.vm ∧ U.heap = h0) (fun _ _ _ _ _ => True) (fun _ U o U' => ∃ v L, o = .returned v ∧ OL (some (.int (1 : Int32))) Z.heap.size v U'.heap L ∧ FrameEnd U o U' L 16 128) := by
  have hN' := hN
  obtain ⟨hS0, hE0, hS1, hE1, hS2, hE2, hS3, hE3, hS4, hE4, hS5, hE5, hS6, hE6, hS7, hE7, hS8, hE8, hS9, hE9, hS10, hE10, hS11, hE11, hS12, hE12, hF0_ordinal, hF2_ordinal, hF4_ordinal, hF3_ordinal, hF6_ordinal, hF5_ordinal, hF7_ordinal, hF9_ordinal, hF11_ordinal, hF1_ordinal, hF8_ordinal, hF10_ordinal, hF12_ordinal⟩ := hN'
  refine MetFree.of_bodySF (plainFor_of_name pn_1) hisR ?_
  intro p e s m args below meth c s₁ Bd hml0 hP hK
  obtain ⟨rfl, hZ, hh⟩ := hP
  have hx := Bd.exec
  have hby := Bd.bytes
  have hml : c.maxLocals = 4 := hml0
  have hown : s.vm.findClass "com/example/netloom/netloom/net/ElementKindIsPlacePinLaw" = some m.cls := findClass_of_methodNamed Bd.named
  have hnm := (name_of_methodNamed Bd.named Bd.method).1
  have X0 : Stand p l e room_1 s m #[(.int p0)] below meth c s₁ [] 0 0 := Stand.of_body Bd
  have e0 : s₁.heap = h0 := by rw [← hh, Bd.state]; rfl
  have N0 := Fr.nil Z.heap.size
  have pre0 : ∀ t, Steps p.tables e below (s₁.setTop (mkF m 0 #[.val (.int p0), .unset, .unset, .unset] [])) t → Steps p.tables e below (s₁.setTop (entryFrame m #[(.int p0)] maxLocals)) t := fun t k => castTop (ef_1 m (.int p0) rfl) k
  obtain ⟨T1, h1, k1, X1, e1, E1, A1, Ov1, st1⟩ := newR X0 hx hZ hown (W hw 0 rfl) (W hw 1 rfl) e0 (g := (mkF m 2 #[.val (.int p0), .unset, .unset, .unset] [(.int (13 : Int32))])) rfl (hb hby at_2) rfl (by decide) (cap := 13) (by decide) (by decide) (by decide) (by decide)
  obtain ⟨b1, g1⟩ : ∃ z, z = h0.size := ⟨_, rfl⟩
  rw [← g1] at A1 st1
  have gn_b1 : Z.heap.size ≤ b1 := Nat.le_trans O0.2.1 (Nat.le_of_eq g1.symm)
  have O1 := O0.ext E1
  have V_b1_v1 : Arv Z h1 b1 k1 (.object "com/example/netloom/netloom/net/ElementKind") (13 : Int32) [] .null := Arv.new A1 (by decide)
  obtain ⟨T2, X2, e2, st2⟩ := getS2 X1 hx hZ hown (host := "") (Or.inl (W hw 2 rfl)) Via.refl e1 (hS0.ext O1.2) (g := (mkF m 7 #[.val (.int p0), .unset, .unset, .unset] [(.int (0 : Int32)), (.ref b1), (.ref b1)])) rfl (hb hby at_7)
  have V_b1_v3 : Arv Z h1 b1 k1 (.object "com/example/netloom/netloom/net/ElementKind") (13 : Int32) [.null] .null := V_b1_v1.pad (pad_rep [] .null 1)
  obtain ⟨cl4, Ar4, q4, Sz4, Ng4, Hv4, Gv4⟩ := V_b1_v3
  have hin4 : ¬ ((0 : Int32) < 0 ∨ cl4.slots.size ≤ ((0 : Int32)).toNatClampNeg) := inb_of Sz4 ⟨by decide, by decide⟩
  obtain ⟨T5, h5, X5, e5, W5, st5⟩ := stR X2 hx hZ e2 Ar4 (j := (0 : Int32)) (v := (.ref (w 0))) hin4 rfl (Sto.ofV Ar4 q4 Ov1 (Ins.self (hE0.ext O1.2))) (g := (mkF m 10 #[.val (.int p0), .unset, .unset, .unset] [(.ref (w 0)), (.int (0 : Int32)), (.ref b1), (.ref b1)])) rfl rfl (hb hby at_10)
  have V_b1_v5 : Arv Z h5 b1 k1 (.object "com/example/netloom/netloom/net/ElementKind") (13 : Int32) [(.ref (w 0))] .null := Arv.set Ar4 q4 Sz4 Ng4 Hv4 Gv4 rfl W5 0 rfl (Nat.le_of_ble_eq_true rfl)
  have N5 := Fr.snoc X5 N0 gn_b1
  have O5 := O1.wr W5 gn_b1
  obtain ⟨T6, X6, e6, st6⟩ := getS2 X5 hx hZ hown (host := "") (Or.inl (W hw 6 rfl)) Via.refl e5 (hS1.ext O5.2) (g := (mkF m 13 #[.val (.int p0), .unset, .unset, .unset] [(.int (1 : Int32)), (.ref b1), (.ref b1)])) rfl (hb hby at_13)
  have V_b1_v7 : Arv Z h5 b1 k1 (.object "com/example/netloom/netloom/net/ElementKind") (13 : Int32) [(.ref (w 0)), .null] .null := V_b1_v5.pad (pad_rep [(.ref (w 0))] .null 1)
  obtain ⟨cl8, Ar8, q8, Sz8, Ng8, Hv8, Gv8⟩ := V_b1_v7
  have hin8 : ¬ ((1 : Int32) < 0 ∨ cl8.slots.size ≤ ((1 : Int32)).toNatClampNeg) := inb_of Sz8 ⟨by decide, by decide⟩
  obtain ⟨T9, h9, X9, e9, W9, st9⟩ := stR X6 hx hZ e6 Ar8 (j := (1 : Int32)) (v := (.ref (w 1))) hin8 rfl (Sto.ofV Ar8 q8 Ov1 (Ins.self (hE1.ext O5.2))) (g := (mkF m 16 #[.val (.int p0), .unset, .unset, .unset] [(.ref (w 1)), (.int (1 : Int32)), (.ref b1), (.ref b1)])) rfl rfl (hb hby at_16)
  have V_b1_v9 : Arv Z h9 b1 k1 (.object "com/example/netloom/netloom/net/ElementKind") (13 : Int32) [(.ref (w 0)), (.ref (w 1))] .null := Arv.set Ar8 q8 Sz8 Ng8 Hv8 Gv8 rfl W9 1 rfl (Nat.le_of_ble_eq_true rfl)
  have N9 := Fr.snoc X9 N5 gn_b1
  have O9 := O5.wr W9 gn_b1
  obtain ⟨T10, X10, e10, st10⟩ := getS2 X9 hx hZ hown (host := "") (Or.inl (W hw 8 rfl)) Via.refl e9 (hS2.ext O9.2) (g := (mkF m 19 #[.val (.int p0), .unset, .unset, .unset] [(.int (2 : Int32)), (.ref b1), (.ref b1)])) rfl (hb hby at_19)
  have V_b1_v11 : Arv Z h9 b1 k1 (.object "com/example/netloom/netloom/net/ElementKind") (13 : Int32) [(.ref (w 0)), (.ref (w 1)), .null] .null := V_b1_v9.pad (pad_rep [(.ref (w 0)), (.ref (w 1))] .null 1)
  obtain ⟨cl12, Ar12, q12, Sz12, Ng12, Hv12, Gv12⟩ := V_b1_v11
  have hin12 : ¬ ((2 : Int32) < 0 ∨ cl12.slots.size ≤ ((2 : Int32)).toNatClampNeg) := inb_of Sz12 ⟨by decide, by decide⟩
  obtain ⟨T13, h13, X13, e13, W13, st13⟩ := stR X10 hx hZ e10 Ar12 (j := (2 : Int32)) (v := (.ref (w 2))) hin12 rfl (Sto.ofV Ar12 q12 Ov1 (Ins.self (hE2.ext O9.2))) (g := (mkF m 22 #[.val (.int p0), .unset, .unset, .unset] [(.ref (w 2)), (.int (2 : Int32)), (.ref b1), (.ref b1)])) rfl rfl (hb hby at_22)
  have V_b1_v13 : Arv Z h13 b1 k1 (.object "com/example/netloom/netloom/net/ElementKind") (13 : Int32) [(.ref (w 0)), (.ref (w 1)), (.ref (w 2))] .null := Arv.set Ar12 q12 Sz12 Ng12 Hv12 Gv12 rfl W13 2 rfl (Nat.le_of_ble_eq_true rfl)
  have N13 := Fr.snoc X13 N9 gn_b1
  have O13 := O9.wr W13 gn_b1
  obtain ⟨T14, X14, e14, st14⟩ := getS2 X13 hx hZ hown (host := "") (Or.inl (W hw 10 rfl)) Via.refl e13 (hS3.ext O13.2) (g := (mkF m 25 #[.val (.int p0), .unset, .unset, .unset] [(.int (3 : Int32)), (.ref b1), (.ref b1)])) rfl (hb hby at_25)
  have V_b1_v15 : Arv Z h13 b1 k1 (.object "com/example/netloom/netloom/net/ElementKind") (13 : Int32) [(.ref (w 0)), (.ref (w 1)), (.ref (w 2)), .null] .null := V_b1_v13.pad (pad_rep [(.ref (w 0)), (.ref (w 1)), (.ref (w 2))] .null 1)
  obtain ⟨cl16, Ar16, q16, Sz16, Ng16, Hv16, Gv16⟩ := V_b1_v15
  have hin16 : ¬ ((3 : Int32) < 0 ∨ cl16.slots.size ≤ ((3 : Int32)).toNatClampNeg) := inb_of Sz16 ⟨by decide, by decide⟩
  obtain ⟨T17, h17, X17, e17, W17, st17⟩ := stR X14 hx hZ e14 Ar16 (j := (3 : Int32)) (v := (.ref (w 3))) hin16 rfl (Sto.ofV Ar16 q16 Ov1 (Ins.self (hE3.ext O13.2))) (g := (mkF m 28 #[.val (.int p0), .unset, .unset, .unset] [(.ref (w 3)), (.int (3 : Int32)), (.ref b1), (.ref b1)])) rfl rfl (hb hby at_28)
  have V_b1_v17 : Arv Z h17 b1 k1 (.object "com/example/netloom/netloom/net/ElementKind") (13 : Int32) [(.ref (w 0)), (.ref (w 1)), (.ref (w 2)), (.ref (w 3))] .null := Arv.set Ar16 q16 Sz16 Ng16 Hv16 Gv16 rfl W17 3 rfl (Nat.le_of_ble_eq_true rfl)
  have N17 := Fr.snoc X17 N13 gn_b1
  have O17 := O13.wr W17 gn_b1
  obtain ⟨T18, X18, e18, st18⟩ := getS2 X17 hx hZ hown (host := "") (Or.inl (W hw 12 rfl)) Via.refl e17 (hS4.ext O17.2) (g := (mkF m 31 #[.val (.int p0), .unset, .unset, .unset] [(.int (4 : Int32)), (.ref b1), (.ref b1)])) rfl (hb hby at_31)
  have V_b1_v19 : Arv Z h17 b1 k1 (.object "com/example/netloom/netloom/net/ElementKind") (13 : Int32) [(.ref (w 0)), (.ref (w 1)), (.ref (w 2)), (.ref (w 3)), .null] .null := V_b1_v17.pad (pad_rep [(.ref (w 0)), (.ref (w 1)), (.ref (w 2)), (.ref (w 3))] .null 1)
  obtain ⟨cl20, Ar20, q20, Sz20, Ng20, Hv20, Gv20⟩ := V_b1_v19
  have hin20 : ¬ ((4 : Int32) < 0 ∨ cl20.slots.size ≤ ((4 : Int32)).toNatClampNeg) := inb_of Sz20 ⟨by decide, by decide⟩
  obtain ⟨T21, h21, X21, e21, W21, st21⟩ := stR X18 hx hZ e18 Ar20 (j := (4 : Int32)) (v := (.ref (w 4))) hin20 rfl (Sto.ofV Ar20 q20 Ov1 (Ins.self (hE4.ext O17.2))) (g := (mkF m 34 #[.val (.int p0), .unset, .unset, .unset] [(.ref (w 4)), (.int (4 : Int32)), (.ref b1), (.ref b1)])) rfl rfl (hb hby at_34)
  have V_b1_v21 : Arv Z h21 b1 k1 (.object "com/example/netloom/netloom/net/ElementKind") (13 : Int32) [(.ref (w 0)), (.ref (w 1)), (.ref (w 2)), (.ref (w 3)), (.ref (w 4))] .null := Arv.set Ar20 q20 Sz20 Ng20 Hv20 Gv20 rfl W21 4 rfl (Nat.le_of_ble_eq_true rfl)
  have N21 := Fr.snoc X21 N17 gn_b1
  have O21 := O17.wr W21 gn_b1
  obtain ⟨T22, X22, e22, st22⟩ := getS2 X21 hx hZ hown (host := "") (Or.inl (W hw 14 rfl)) Via.refl e21 (hS5.ext O21.2) (g := (mkF m 37 #[.val (.int p0), .unset, .unset, .unset] [(.int (5 : Int32)), (.ref b1), (.ref b1)])) rfl (hb hby at_37)
  have V_b1_v23 : Arv Z h21 b1 k1 (.object "com/example/netloom/netloom/net/ElementKind") (13 : Int32) [(.ref (w 0)), (.ref (w 1)), (.ref (w 2)), (.ref (w 3)), (.ref (w 4)), .null] .null := V_b1_v21.pad (pad_rep [(.ref (w 0)), (.ref (w 1)), (.ref (w 2)), (.ref (w 3)), (.ref (w 4))] .null 1)
  obtain ⟨cl24, Ar24, q24, Sz24, Ng24, Hv24, Gv24⟩ := V_b1_v23
  have hin24 : ¬ ((5 : Int32) < 0 ∨ cl24.slots.size ≤ ((5 : Int32)).toNatClampNeg) := inb_of Sz24 ⟨by decide, by decide⟩
  obtain ⟨T25, h25, X25, e25, W25, st25⟩ := stR X22 hx hZ e22 Ar24 (j := (5 : Int32)) (v := (.ref (w 5))) hin24 rfl (Sto.ofV Ar24 q24 Ov1 (Ins.self (hE5.ext O21.2))) (g := (mkF m 40 #[.val (.int p0), .unset, .unset, .unset] [(.ref (w 5)), (.int (5 : Int32)), (.ref b1), (.ref b1)])) rfl rfl (hb hby at_40)
  have V_b1_v25 : Arv Z h25 b1 k1 (.object "com/example/netloom/netloom/net/ElementKind") (13 : Int32) [(.ref (w 0)), (.ref (w 1)), (.ref (w 2)), (.ref (w 3)), (.ref (w 4)), (.ref (w 5))] .null := Arv.set Ar24 q24 Sz24 Ng24 Hv24 Gv24 rfl W25 5 rfl (Nat.le_of_ble_eq_true rfl)
  have N25 := Fr.snoc X25 N21 gn_b1
  have O25 := O21.wr W25 gn_b1
  obtain ⟨T26, X26, e26, st26⟩ := getS2 X25 hx hZ hown (host := "") (Or.inl (W hw 16 rfl)) Via.refl e25 (hS6.ext O25.2) (g := (mkF m 44 #[.val (.int p0), .unset, .unset, .unset] [(.int (6 : Int32)), (.ref b1), (.ref b1)])) rfl (hb hby at_44)
  have V_b1_v27 : Arv Z h25 b1 k1 (.object "com/example/netloom/netloom/net/ElementKind") (13 : Int32) [(.ref (w 0)), (.ref (w 1)), (.ref (w 2)), (.ref (w 3)), (.ref (w 4)), (.ref (w 5)), .null] .null := V_b1_v25.pad (pad_rep [(.ref (w 0)), (.ref (w 1)), (.ref (w 2)), (.ref (w 3)), (.ref (w 4)), (.ref (w 5))] .null 1)
  obtain ⟨cl28, Ar28, q28, Sz28, Ng28, Hv28, Gv28⟩ := V_b1_v27
  have hin28 : ¬ ((6 : Int32) < 0 ∨ cl28.slots.size ≤ ((6 : Int32)).toNatClampNeg) := inb_of Sz28 ⟨by decide, by decide⟩
  obtain ⟨T29, h29, X29, e29, W29, st29⟩ := stR X26 hx hZ e26 Ar28 (j := (6 : Int32)) (v := (.ref (w 6))) hin28 rfl (Sto.ofV Ar28 q28 Ov1 (Ins.self (hE6.ext O25.2))) (g := (mkF m 47 #[.val (.int p0), .unset, .unset, .unset] [(.ref (w 6)), (.int (6 : Int32)), (.ref b1), (.ref b1)])) rfl rfl (hb hby at_47)
  have V_b1_v29 : Arv Z h29 b1 k1 (.object "com/example/netloom/netloom/net/ElementKind") (13 : Int32) [(.ref (w 0)), (.ref (w 1)), (.ref (w 2)), (.ref (w 3)), (.ref (w 4)), (.ref (w 5)), (.ref (w 6))] .null := Arv.set Ar28 q28 Sz28 Ng28 Hv28 Gv28 rfl W29 6 rfl (Nat.le_of_ble_eq_true rfl)
  have N29 := Fr.snoc X29 N25 gn_b1
  have O29 := O25.wr W29 gn_b1
  obtain ⟨T30, X30, e30, st30⟩ := getS2 X29 hx hZ hown (host := "") (Or.inl (W hw 18 rfl)) Via.refl e29 (hS7.ext O29.2) (g := (mkF m 51 #[.val (.int p0), .unset, .unset, .unset] [(.int (7 : Int32)), (.ref b1), (.ref b1)])) rfl (hb hby at_51)
  have V_b1_v31 : Arv Z h29 b1 k1 (.object "com/example/netloom/netloom/net/ElementKind") (13 : Int32) [(.ref (w 0)), (.ref (w 1)), (.ref (w 2)), (.ref (w 3)), (.ref (w 4)), (.ref (w 5)), (.ref (w 6)), .null] .null := V_b1_v29.pad (pad_rep [(.ref (w 0)), (.ref (w 1)), (.ref (w 2)), (.ref (w 3)), (.ref (w 4)), (.ref (w 5)), (.ref (w 6))] .null 1)
  obtain ⟨cl32, Ar32, q32, Sz32, Ng32, Hv32, Gv32⟩ := V_b1_v31
  have hin32 : ¬ ((7 : Int32) < 0 ∨ cl32.slots.size ≤ ((7 : Int32)).toNatClampNeg) := inb_of Sz32 ⟨by decide, by decide⟩
  obtain ⟨T33, h33, X33, e33, W33, st33⟩ := stR X30 hx hZ e30 Ar32 (j := (7 : Int32)) (v := (.ref (w 7))) hin32 rfl (Sto.ofV Ar32 q32 Ov1 (Ins.self (hE7.ext O29.2))) (g := (mkF m 54 #[.val (.int p0), .unset, .unset, .unset] [(.ref (w 7)), (.int (7 : Int32)), (.ref b1), (.ref b1)])) rfl rfl (hb hby at_54)
  have V_b1_v33 : Arv Z h33 b1 k1 (.object "com/example/netloom/netloom/net/ElementKind") (13 : Int32) [(.ref (w 0)), (.ref (w 1)), (.ref (w 2)), (.ref (w 3)), (.ref (w 4)), (.ref (w 5)), (.ref (w 6)), (.ref (w 7))] .null := Arv.set Ar32 q32 Sz32 Ng32 Hv32 Gv32 rfl W33 7 rfl (Nat.le_of_ble_eq_true rfl)
  have N33 := Fr.snoc X33 N29 gn_b1
  have O33 := O29.wr W33 gn_b1
  obtain ⟨T34, X34, e34, st34⟩ := getS2 X33 hx hZ hown (host := "") (Or.inl (W hw 20 rfl)) Via.refl e33 (hS8.ext O33.2) (g := (mkF m 58 #[.val (.int p0), .unset, .unset, .unset] [(.int (8 : Int32)), (.ref b1), (.ref b1)])) rfl (hb hby at_58)
  have V_b1_v35 : Arv Z h33 b1 k1 (.object "com/example/netloom/netloom/net/ElementKind") (13 : Int32) [(.ref (w 0)), (.ref (w 1)), (.ref (w 2)), (.ref (w 3)), (.ref (w 4)), (.ref (w 5)), (.ref (w 6)), (.ref (w 7)), .null] .null := V_b1_v33.pad (pad_rep [(.ref (w 0)), (.ref (w 1)), (.ref (w 2)), (.ref (w 3)), (.ref (w 4)), (.ref (w 5)), (.ref (w 6)), (.ref (w 7))] .null 1)
  obtain ⟨cl36, Ar36, q36, Sz36, Ng36, Hv36, Gv36⟩ := V_b1_v35
  have hin36 : ¬ ((8 : Int32) < 0 ∨ cl36.slots.size ≤ ((8 : Int32)).toNatClampNeg) := inb_of Sz36 ⟨by decide, by decide⟩
  obtain ⟨T37, h37, X37, e37, W37, st37⟩ := stR X34 hx hZ e34 Ar36 (j := (8 : Int32)) (v := (.ref (w 8))) hin36 rfl (Sto.ofV Ar36 q36 Ov1 (Ins.self (hE8.ext O33.2))) (g := (mkF m 61 #[.val (.int p0), .unset, .unset, .unset] [(.ref (w 8)), (.int (8 : Int32)), (.ref b1), (.ref b1)])) rfl rfl (hb hby at_61)
  have V_b1_v37 : Arv Z h37 b1 k1 (.object "com/example/netloom/netloom/net/ElementKind") (13 : Int32) [(.ref (w 0)), (.ref (w 1)), (.ref (w 2)), (.ref (w 3)), (.ref (w 4)), (.ref (w 5)), (.ref (w 6)), (.ref (w 7)), (.ref (w 8))] .null := Arv.set Ar36 q36 Sz36 Ng36 Hv36 Gv36 rfl W37 8 rfl (Nat.le_of_ble_eq_true rfl)
  have N37 := Fr.snoc X37 N33 gn_b1
  have O37 := O33.wr W37 gn_b1
  obtain ⟨T38, X38, e38, st38⟩ := getS2 X37 hx hZ hown (host := "") (Or.inl (W hw 22 rfl)) Via.refl e37 (hS9.ext O37.2) (g := (mkF m 65 #[.val (.int p0), .unset, .unset, .unset] [(.int (9 : Int32)), (.ref b1), (.ref b1)])) rfl (hb hby at_65)
  have V_b1_v39 : Arv Z h37 b1 k1 (.object "com/example/netloom/netloom/net/ElementKind") (13 : Int32) [(.ref (w 0)), (.ref (w 1)), (.ref (w 2)), (.ref (w 3)), (.ref (w 4)), (.ref (w 5)), (.ref (w 6)), (.ref (w 7)), (.ref (w 8)), .null] .null := V_b1_v37.pad (pad_rep [(.ref (w 0)), (.ref (w 1)), (.ref (w 2)), (.ref (w 3)), (.ref (w 4)), (.ref (w 5)), (.ref (w 6)), (.ref (w 7)), (.ref (w 8))] .null 1)
  obtain ⟨cl40, Ar40, q40, Sz40, Ng40, Hv40, Gv40⟩ := V_b1_v39
  have hin40 : ¬ ((9 : Int32) < 0 ∨ cl40.slots.size ≤ ((9 : Int32)).toNatClampNeg) := inb_of Sz40 ⟨by decide, by decide⟩
  obtain ⟨T41, h41, X41, e41, W41, st41⟩ := stR X38 hx hZ e38 Ar40 (j := (9 : Int32)) (v := (.ref (w 9))) hin40 rfl (Sto.ofV Ar40 q40 Ov1 (Ins.self (hE9.ext O37.2))) (g := (mkF m 68 #[.val (.int p0), .unset, .unset, .unset] [(.ref (w 9)), (.int (9 : Int32)), (.ref b1), (.ref b1)])) rfl rfl (hb hby at_68)
  have V_b1_v41 : Arv Z h41 b1 k1 (.object "com/example/netloom/netloom/net/ElementKind") (13 : Int32) [(.ref (w 0)), (.ref (w 1)), (.ref (w 2)), (.ref (w 3)), (.ref (w 4)), (.ref (w 5)), (.ref (w 6)), (.ref (w 7)), (.ref (w 8)), (.ref (w 9))] .null := Arv.set Ar40 q40 Sz40 Ng40 Hv40 Gv40 rfl W41 9 rfl (Nat.le_of_ble_eq_true rfl)
  have N41 := Fr.snoc X41 N37 gn_b1
  have O41 := O37.wr W41 gn_b1
  obtain ⟨T42, X42, e42, st42⟩ := getS2 X41 hx hZ hown (host := "") (Or.inl (W hw 24 rfl)) Via.refl e41 (hS10.ext O41.2) (g := (mkF m 72 #[.val (.int p0), .unset, .unset, .unset] [(.int (10 : Int32)), (.ref b1), (.ref b1)])) rfl (hb hby at_72)
  have V_b1_v43 : Arv Z h41 b1 k1 (.object "com/example/netloom/netloom/net/ElementKind") (13 : Int32) [(.ref (w 0)), (.ref (w 1)), (.ref (w 2)), (.ref (w 3)), (.ref (w 4)), (.ref (w 5)), (.ref (w 6)), (.ref (w 7)), (.ref (w 8)), (.ref (w 9)), .null] .null := V_b1_v41.pad (pad_rep [(.ref (w 0)), (.ref (w 1)), (.ref (w 2)), (.ref (w 3)), (.ref (w 4)), (.ref (w 5)), (.ref (w 6)), (.ref (w 7)), (.ref (w 8)), (.ref (w 9))] .null 1)
  obtain ⟨cl44, Ar44, q44, Sz44, Ng44, Hv44, Gv44⟩ := V_b1_v43
  have hin44 : ¬ ((10 : Int32) < 0 ∨ cl44.slots.size ≤ ((10 : Int32)).toNatClampNeg) := inb_of Sz44 ⟨by decide, by decide⟩
  obtain ⟨T45, h45, X45, e45, W45, st45⟩ := stR X42 hx hZ e42 Ar44 (j := (10 : Int32)) (v := (.ref (w 10))) hin44 rfl (Sto.ofV Ar44 q44 Ov1 (Ins.self (hE10.ext O41.2))) (g := (mkF m 75 #[.val (.int p0), .unset, .unset, .unset] [(.ref (w 10)), (.int (10 : Int32)), (.ref b1), (.ref b1)])) rfl rfl (hb hby at_75)
  have V_b1_v45 : Arv Z h45 b1 k1 (.object "com/example/netloom/netloom/net/ElementKind") (13 : Int32) [(.ref (w 0)), (.ref (w 1)), (.ref (w 2)), (.ref (w 3)), (.ref (w 4)), (.ref (w 5)), (.ref (w 6)), (.ref (w 7)), (.ref (w 8)), (.ref (w 9)), (.ref (w 10))] .null := Arv.set Ar44 q44 Sz44 Ng44 Hv44 Gv44 rfl W45 10 rfl (Nat.le_of_ble_eq_true rfl)
  have N45 := Fr.snoc X45 N41 gn_b1
  have O45 := O41.wr W45 gn_b1
  obtain ⟨T46, X46, e46, st46⟩ := getS2 X45 hx hZ hown (host := "") (Or.inl (W hw 26 rfl)) Via.refl e45 (hS11.ext O45.2) (g := (mkF m 79 #[.val (.int p0), .unset, .unset, .unset] [(.int (11 : Int32)), (.ref b1), (.ref b1)])) rfl (hb hby at_79)
  have V_b1_v47 : Arv Z h45 b1 k1 (.object "com/example/netloom/netloom/net/ElementKind") (13 : Int32) [(.ref (w 0)), (.ref (w 1)), (.ref (w 2)), (.ref (w 3)), (.ref (w 4)), (.ref (w 5)), (.ref (w 6)), (.ref (w 7)), (.ref (w 8)), (.ref (w 9)), (.ref (w 10)), .null] .null := V_b1_v45.pad (pad_rep [(.ref (w 0)), (.ref (w 1)), (.ref (w 2)), (.ref (w 3)), (.ref (w 4)), (.ref (w 5)), (.ref (w 6)), (.ref (w 7)), (.ref (w 8)), (.ref (w 9)), (.ref (w 10))] .null 1)
  obtain ⟨cl48, Ar48, q48, Sz48, Ng48, Hv48, Gv48⟩ := V_b1_v47
  have hin48 : ¬ ((11 : Int32) < 0 ∨ cl48.slots.size ≤ ((11 : Int32)).toNatClampNeg) := inb_of Sz48 ⟨by decide, by decide⟩
  obtain ⟨T49, h49, X49, e49, W49, st49⟩ := stR X46 hx hZ e46 Ar48 (j := (11 : Int32)) (v := (.ref (w 11))) hin48 rfl (Sto.ofV Ar48 q48 Ov1 (Ins.self (hE11.ext O45.2))) (g := (mkF m 82 #[.val (.int p0), .unset, .unset, .unset] [(.ref (w 11)), (.int (11 : Int32)), (.ref b1), (.ref b1)])) rfl rfl (hb hby at_82)
  have V_b1_v49 : Arv Z h49 b1 k1 (.object "com/example/netloom/netloom/net/ElementKind") (13 : Int32) [(.ref (w 0)), (.ref (w 1)), (.ref (w 2)), (.ref (w 3)), (.ref (w 4)), (.ref (w 5)), (.ref (w 6)), (.ref (w 7)), (.ref (w 8)), (.ref (w 9)), (.ref (w 10)), (.ref (w 11))] .null := Arv.set Ar48 q48 Sz48 Ng48 Hv48 Gv48 rfl W49 11 rfl (Nat.le_of_ble_eq_true rfl)
  have N49 := Fr.snoc X49 N45 gn_b1
  have O49 := O45.wr W49 gn_b1
  obtain ⟨T50, X50, e50, st50⟩ := getS2 X49 hx hZ hown (host := "") (Or.inl (W hw 28 rfl)) Via.refl e49 (hS12.ext O49.2) (g := (mkF m 86 #[.val (.int p0), .unset, .unset, .unset] [(.int (12 : Int32)), (.ref b1), (.ref b1)])) rfl (hb hby at_86)
  have V_b1_v51 : Arv Z h49 b1 k1 (.object "com/example/netloom/netloom/net/ElementKind") (13 : Int32) [(.ref (w 0)), (.ref (w 1)), (.ref (w 2)), (.ref (w 3)), (.ref (w 4)), (.ref (w 5)), (.ref (w 6)), (.ref (w 7)), (.ref (w 8)), (.ref (w 9)), (.ref (w 10)), (.ref (w 11)), .null] .null := V_b1_v49.pad (pad_rep [(.ref (w 0)), (.ref (w 1)), (.ref (w 2)), (.ref (w 3)), (.ref (w 4)), (.ref (w 5)), (.ref (w 6)), (.ref (w 7)), (.ref (w 8)), (.ref (w 9)), (.ref (w 10)), (.ref (w 11))] .null 1)
  obtain ⟨cl52, Ar52, q52, Sz52, Ng52, Hv52, Gv52⟩ := V_b1_v51
  have hin52 : ¬ ((12 : Int32) < 0 ∨ cl52.slots.size ≤ ((12 : Int32)).toNatClampNeg) := inb_of Sz52 ⟨by decide, by decide⟩
  obtain ⟨T53, h53, X53, e53, W53, st53⟩ := stR X50 hx hZ e50 Ar52 (j := (12 : Int32)) (v := (.ref (w 12))) hin52 rfl (Sto.ofV Ar52 q52 Ov1 (Ins.self (hE12.ext O49.2))) (g := (mkF m 89 #[.val (.int p0), .unset, .unset, .unset] [(.ref (w 12)), (.int (12 : Int32)), (.ref b1), (.ref b1)])) rfl rfl (hb hby at_89)
  have V_b1_v53 : Arv Z h53 b1 k1 (.object "com/example/netloom/netloom/net/ElementKind") (13 : Int32) [(.ref (w 0)), (.ref (w 1)), (.ref (w 2)), (.ref (w 3)), (.ref (w 4)), (.ref (w 5)), (.ref (w 6)), (.ref (w 7)), (.ref (w 8)), (.ref (w 9)), (.ref (w 10)), (.ref (w 11)), (.ref (w 12))] .null := Arv.set Ar52 q52 Sz52 Ng52 Hv52 Gv52 rfl W53 12 rfl (Nat.le_of_ble_eq_true rfl)
  have N53 := Fr.snoc X53 N49 gn_b1
  have O53 := O49.wr W53 gn_b1
  obtain ⟨cl54, Ar54, q54, Sz54, Ng54, Hv54, Gv54⟩ := V_b1_v53
  have hin54 : ¬ ((2 : Int32) < 0 ∨ cl54.slots.size ≤ ((2 : Int32)).toNatClampNeg) := inb_of Sz54 ⟨by decide, by decide⟩
  have hat54 : cl54.slots[((2 : Int32)).toNatClampNeg]? = some (.ref (w 2)) := Has.at Hv54 hin54 (by rfl)
  obtain ⟨cq55, kq55, q55a, q55b, q55c⟩ := isOf hZ e53 (hE2.ext O53.2)
  obtain ⟨_, _, ⟨T55, L55, k55, n55⟩, -, X55, ⟨Lc55, hQ55, l55, y55, z55⟩, st55⟩ := X53.virtualBack hx (y := (⟨"com/example/netloom/netloom/net/ElementKind", "isPlace", "()Z"⟩ : MethodName)) (z := (⟨"com/example/netloom/netloom/net/ElementKind", "isPlace", "()Z"⟩ : MethodName)) hown (mvT hZ (W hw 31 rfl)) (mvT hZ (W hw 32 rfl)) (notFace_of_selects (args := #[]) (mvT hZ (W hw 34 rfl))) (mvT hZ (W hw 34 rfl)) (mvT hZ (W hw 33 rfl)) (by decide) (backOf (W := 0) (rm_5 l Z a0 hw w kk hN [] h53 O53) hZ (W hw 35 rfl) (W hw 3 rfl) (by decide) (by decide)) q55a q55c (g := (mkF m 118 #[.val (.int p0), .val (.ref b1), .val (.int (2 : Int32)), .val (.int (1 : Int32))] [(.ref (w 2))])) rfl (by rw [hml]; rfl) (Steps.refl _) (argsL := []) (rest := []) (lenOf pd_0 rfl) rfl (by show 2 * 0 + _ ≤ _; exact Nat.le_of_eq rfl) (hb hby at_118) (fun _ _ => ⟨rfl, e53, (by decide : 1 + 0 ≤ _), (by decide : 13 + 0 ≤ _)⟩)
  dsimp only [Pt.U, Pt.locs, Pt.cells, Pt.slots] at X55 l55 y55 z55 st55 hQ55
  subst l55 y55 z55
  obtain ⟨rfl, N55q, e55⟩ := hQ55
  have N55 := Fr.app N53 N55q
  obtain ⟨fs, hr, hrun, hended, hW, hsame⟩ := X55.leave (v := some (.int (1 : Int32))) (fun h => by rw [Bd.returns] at h; cases h)
  refine ⟨_, _, pre0 _ ?_, hrun, hended, _, _, rfl, ?_, ⟨_, rfl⟩, hW, hsame.mono (by decide) (by decide)⟩
  · show Steps p.tables e below (s₁.setTop (mkF m 0 #[.val (.int p0), .unset, .unset, .unset] [])) _
    refine XS.bipush X0.here hx rfl (hb hby at_0) ?_
    show Steps p.tables e below (s₁.setTop (mkF m 2 #[.val (.int p0), .unset, .unset, .unset] [(.int (13 : Int32))])) _
    refine st1 _ ?_
    show Steps p.tables e below (T1.setTop (mkF m 5 #[.val (.int p0), .unset, .unset, .unset] [(.ref b1)])) _
    refine XS.dup X1.here hx rfl (hb hby at_5) rfl rfl ?_
    show Steps p.tables e below (T1.setTop (mkF m 6 #[.val (.int p0), .unset, .unset, .unset] [(.ref b1), (.ref b1)])) _
    refine XS.iconst X1.here hx rfl (hb hby at_6) ?_
    show Steps p.tables e below (T1.setTop (mkF m 7 #[.val (.int p0), .unset, .unset, .unset] [(.int (0 : Int32)), (.ref b1), (.ref b1)])) _
    refine st2 _ ?_
    show Steps p.tables e below (T2.setTop (mkF m 10 #[.val (.int p0), .unset, .unset, .unset] [(.ref (w 0)), (.int (0 : Int32)), (.ref b1), (.ref b1)])) _
    refine st5 _ ?_
    show Steps p.tables e below (T5.setTop (mkF m 11 #[.val (.int p0), .unset, .unset, .unset] [(.ref b1)])) _
    refine XS.dup X5.here hx rfl (hb hby at_11) rfl rfl ?_
    show Steps p.tables e below (T5.setTop (mkF m 12 #[.val (.int p0), .unset, .unset, .unset] [(.ref b1), (.ref b1)])) _
    refine XS.iconst X5.here hx rfl (hb hby at_12) ?_
    show Steps p.tables e below (T5.setTop (mkF m 13 #[.val (.int p0), .unset, .unset, .unset] [(.int (1 : Int32)), (.ref b1), (.ref b1)])) _
    refine st6 _ ?_
    show Steps p.tables e below (T6.setTop (mkF m 16 #[.val (.int p0), .unset, .unset, .unset] [(.ref (w 1)), (.int (1 : Int32)), (.ref b1), (.ref b1)])) _
    refine st9 _ ?_
    show Steps p.tables e below (T9.setTop (mkF m 17 #[.val (.int p0), .unset, .unset, .unset] [(.ref b1)])) _
    refine XS.dup X9.here hx rfl (hb hby at_17) rfl rfl ?_
    show Steps p.tables e below (T9.setTop (mkF m 18 #[.val (.int p0), .unset, .unset, .unset] [(.ref b1), (.ref b1)])) _
    refine XS.iconst X9.here hx rfl (hb hby at_18) ?_
    show Steps p.tables e below (T9.setTop (mkF m 19 #[.val (.int p0), .unset, .unset, .unset] [(.int (2 : Int32)), (.ref b1), (.ref b1)])) _
    refine st10 _ ?_
    show Steps p.tables e below (T10.setTop (mkF m 22 #[.val (.int p0), .unset, .unset, .unset] [(.ref (w 2)), (.int (2 : Int32)), (.ref b1), (.ref b1)])) _
    refine st13 _ ?_
    show Steps p.tables e below (T13.setTop (mkF m 23 #[.val (.int p0), .unset, .unset, .unset] [(.ref b1)])) _
    refine XS.dup X13.here hx rfl (hb hby at_23) rfl rfl ?_
    show Steps p.tables e below (T13.setTop (mkF m 24 #[.val (.int p0), .unset, .unset, .unset] [(.ref b1), (.ref b1)])) _
    refine XS.iconst X13.here hx rfl (hb hby at_24) ?_
    show Steps p.tables e below (T13.setTop (mkF m 25 #[.val (.int p0), .unset, .unset, .unset] [(.int (3 : Int32)), (.ref b1), (.ref b1)])) _
    refine st14 _ ?_
    show Steps p.tables e below (T14.setTop (mkF m 28 #[.val (.int p0), .unset, .unset, .unset] [(.ref (w 3)), (.int (3 : Int32)), (.ref b1), (.ref b1)])) _
    refine st17 _ ?_
    show Steps p.tables e below (T17.setTop (mkF m 29 #[.val (.int p0), .unset, .unset, .unset] [(.ref b1)])) _
    refine XS.dup X17.here hx rfl (hb hby at_29) rfl rfl ?_
    show Steps p.tables e below (T17.setTop (mkF m 30 #[.val (.int p0), .unset, .unset, .unset] [(.ref b1), (.ref b1)])) _
    refine XS.iconst X17.here hx rfl (hb hby at_30) ?_
    show Steps p.tables e below (T17.setTop (mkF m 31 #[.val (.int p0), .unset, .unset, .unset] [(.int (4 : Int32)), (.ref b1), (.ref b1)])) _
    refine st18 _ ?_
    show Steps p.tables e below (T18.setTop (mkF m 34 #[.val (.int p0), .unset, .unset, .unset] [(.ref (w 4)), (.int (4 : Int32)), (.ref b1), (.ref b1)])) _
    refine st21 _ ?_
    show Steps p.tables e below (T21.setTop (mkF m 35 #[.val (.int p0), .unset, .unset, .unset] [(.ref b1)])) _
    refine XS.dup X21.here hx rfl (hb hby at_35) rfl rfl ?_
    show Steps p.tables e below (T21.setTop (mkF m 36 #[.val (.int p0), .unset, .unset, .unset] [(.ref b1), (.ref b1)])) _
    refine XS.iconst X21.here hx rfl (hb hby at_36) ?_
    show Steps p.tables e below (T21.setTop (mkF m 37 #[.val (.int p0), .unset, .unset, .unset] [(.int (5 : Int32)), (.ref b1), (.ref b1)])) _
    refine st22 _ ?_
    show Steps p.tables e below (T22.setTop (mkF m 40 #[.val (.int p0), .unset, .unset, .unset] [(.ref (w 5)), (.int (5 : Int32)), (.ref b1), (.ref b1)])) _
    refine st25 _ ?_
    show Steps p.tables e below (T25.setTop (mkF m 41 #[.val (.int p0), .unset, .unset, .unset] [(.ref b1)])) _
    refine XS.dup X25.here hx rfl (hb hby at_41) rfl rfl ?_
    show Steps p.tables e below (T25.setTop (mkF m 42 #[.val (.int p0), .unset, .unset, .unset] [(.ref b1), (.ref b1)])) _
    refine XS.bipush X25.here hx rfl (hb hby at_42) ?_
    show Steps p.tables e below (T25.setTop (mkF m 44 #[.val (.int p0), .unset, .unset, .unset] [(.int (6 : Int32)), (.ref b1), (.ref b1)])) _
    refine st26 _ ?_
    show Steps p.tables e below (T26.setTop (mkF m 47 #[.val (.int p0), .unset, .unset, .unset] [(.ref (w 6)), (.int (6 : Int32)), (.ref b1), (.ref b1)])) _
    refine st29 _ ?_
    show Steps p.tables e below (T29.setTop (mkF m 48 #[.val (.int p0), .unset, .unset, .unset] [(.ref b1)])) _
    refine XS.dup X29.here hx rfl (hb hby at_48) rfl rfl ?_
    show Steps p.tables e below (T29.setTop (mkF m 49 #[.val (.int p0), .unset, .unset, .unset] [(.ref b1), (.ref b1)])) _
    refine XS.bipush X29.here hx rfl (hb hby at_49) ?_
    show Steps p.tables e below (T29.setTop (mkF m 51 #[.val (.int p0), .unset, .unset, .unset] [(.int (7 : Int32)), (.ref b1), (.ref b1)])) _
    refine st30 _ ?_
    show Steps p.tables e below (T30.setTop (mkF m 54 #[.val (.int p0), .unset, .unset, .unset] [(.ref (w 7)), (.int (7 : Int32)), (.ref b1), (.ref b1)])) _
    refine st33 _ ?_
    show Steps p.tables e below (T33.setTop (mkF m 55 #[.val (.int p0), .unset, .unset, .unset] [(.ref b1)])) _
    refine XS.dup X33.here hx rfl (hb hby at_55) rfl rfl ?_
    show Steps p.tables e below (T33.setTop (mkF m 56 #[.val (.int p0), .unset, .unset, .unset] [(.ref b1), (.ref b1)])) _
    refine XS.bipush X33.here hx rfl (hb hby at_56) ?_
    show Steps p.tables e below (T33.setTop (mkF m 58 #[.val (.int p0), .unset, .unset, .unset] [(.int (8 : Int32)), (.ref b1), (.ref b1)])) _
    refine st34 _ ?_
    show Steps p.tables e below (T34.setTop (mkF m 61 #[.val (.int p0), .unset, .unset, .unset] [(.ref (w 8)), (.int (8 : Int32)), (.ref b1), (.ref b1)])) _
    refine st37 _ ?_
    show Steps p.tables e below (T37.setTop (mkF m 62 #[.val (.int p0), .unset, .unset, .unset] [(.ref b1)])) _
    refine XS.dup X37.here hx rfl (hb hby at_62) rfl rfl ?_
    show Steps p.tables e below (T37.setTop (mkF m 63 #[.val (.int p0), .unset, .unset, .unset] [(.ref b1), (.ref b1)])) _
    refine XS.bipush X37.here hx rfl (hb hby at_63) ?_
    show Steps p.tables e below (T37.setTop (mkF m 65 #[.val (.int p0), .unset, .unset, .unset] [(.int (9 : Int32)), (.ref b1), (.ref b1)])) _
    refine st38 _ ?_
    show Steps p.tables e below (T38.setTop (mkF m 68 #[.val (.int p0), .unset, .unset, .unset] [(.ref (w 9)), (.int (9 : Int32)), (.ref b1), (.ref b1)])) _
    refine st41 _ ?_
    show Steps p.tables e below (T41.setTop (mkF m 69 #[.val (.int p0), .unset, .unset, .unset] [(.ref b1)])) _
    refine XS.dup X41.here hx rfl (hb hby at_69) rfl rfl ?_
    show Steps p.tables e below (T41.setTop (mkF m 70 #[.val (.int p0), .unset, .unset, .unset] [(.ref b1), (.ref b1)])) _
    refine XS.bipush X41.here hx rfl (hb hby at_70) ?_
    show Steps p.tables e below (T41.setTop (mkF m 72 #[.val (.int p0), .unset, .unset, .unset] [(.int (10 : Int32)), (.ref b1), (.ref b1)])) _
    refine st42 _ ?_
    show Steps p.tables e below (T42.setTop (mkF m 75 #[.val (.int p0), .unset, .unset, .unset] [(.ref (w 10)), (.int (10 : Int32)), (.ref b1), (.ref b1)])) _
    refine st45 _ ?_
    show Steps p.tables e below (T45.setTop (mkF m 76 #[.val (.int p0), .unset, .unset, .unset] [(.ref b1)])) _
    refine XS.dup X45.here hx rfl (hb hby at_76) rfl rfl ?_
    show Steps p.tables e below (T45.setTop (mkF m 77 #[.val (.int p0), .unset, .unset, .unset] [(.ref b1), (.ref b1)])) _
    refine XS.bipush X45.here hx rfl (hb hby at_77) ?_
    show Steps p.tables e below (T45.setTop (mkF m 79 #[.val (.int p0), .unset, .unset, .unset] [(.int (11 : Int32)), (.ref b1), (.ref b1)])) _
    refine st46 _ ?_
    show Steps p.tables e below (T46.setTop (mkF m 82 #[.val (.int p0), .unset, .unset, .unset] [(.ref (w 11)), (.int (11 : Int32)), (.ref b1), (.ref b1)])) _
    refine st49 _ ?_
    show Steps p.tables e below (T49.setTop (mkF m 83 #[.val (.int p0), .unset, .unset, .unset] [(.ref b1)])) _
    refine XS.dup X49.here hx rfl (hb hby at_83) rfl rfl ?_
    show Steps p.tables e below (T49.setTop (mkF m 84 #[.val (.int p0), .unset, .unset, .unset] [(.ref b1), (.ref b1)])) _
    refine XS.bipush X49.here hx rfl (hb hby at_84) ?_
    show Steps p.tables e below (T49.setTop (mkF m 86 #[.val (.int p0), .unset, .unset, .unset] [(.int (12 : Int32)), (.ref b1), (.ref b1)])) _
    refine st50 _ ?_
    show Steps p.tables e below (T50.setTop (mkF m 89 #[.val (.int p0), .unset, .unset, .unset] [(.ref (w 12)), (.int (12 : Int32)), (.ref b1), (.ref b1)])) _
    refine st53 _ ?_
    show Steps p.tables e below (T53.setTop (mkF m 90 #[.val (.int p0), .unset, .unset, .unset] [(.ref b1)])) _
    refine XS.astoreN X53.here hx rfl (hb hby at_90) rfl rfl (l' := #[.val (.int p0), .val (.ref b1), .unset, .unset]) rfl ?_
    show Steps p.tables e below (T53.setTop (mkF m 91 #[.val (.int p0), .val (.ref b1), .unset, .unset] [])) _
    refine XS.iloadN X53.here hx rfl (hb hby at_91) rfl ?_
    show Steps p.tables e below (T53.setTop (mkF m 92 #[.val (.int p0), .val (.ref b1), .unset, .unset] [(.int p0)])) _
    refine X53.ldcInt hx hown (mvT hZ (W hw 30 rfl)) (g := (mkF m 92 #[.val (.int p0), .val (.ref b1), .unset, .unset] [(.int p0)])) rfl (hb hby at_92) _ ?_
    show Steps p.tables e below (T53.setTop (mkF m 94 #[.val (.int p0), .val (.ref b1), .unset, .unset] [(.int (2147483647 : Int32)), (.int p0)])) _
    refine XS.iand X53.here hx rfl (hb hby at_94) rfl ?_
    show Steps p.tables e below (T53.setTop (mkF m 95 #[.val (.int p0), .val (.ref b1), .unset, .unset] [(.int (p0 &&& (2147483647 : Int32)))])) _
    refine XS.bipush X53.here hx rfl (hb hby at_95) ?_
    show Steps p.tables e below (T53.setTop (mkF m 97 #[.val (.int p0), .val (.ref b1), .unset, .unset] [(.int (13 : Int32)), (.int (p0 &&& (2147483647 : Int32)))])) _
    refine iremM X53 hx rfl (hb hby at_97) rfl (by decide : ¬ ((13 : Int32) = (0 : Int32))) ?_
    show Steps p.tables e below (T53.setTop (mkF m 98 #[.val (.int p0), .val (.ref b1), .unset, .unset] [(.int ((p0 &&& (2147483647 : Int32)) % (13 : Int32)))])) _
    rw [hp0]
    show Steps p.tables e below (T53.setTop (mkF m 98 #[.val (.int p0), .val (.ref b1), .unset, .unset] [(.int (2 : Int32))])) _
    refine XS.istoreN X53.here hx rfl (hb hby at_98) rfl (l' := #[.val (.int p0), .val (.ref b1), .val (.int (2 : Int32)), .unset]) rfl ?_
    show Steps p.tables e below (T53.setTop (mkF m 99 #[.val (.int p0), .val (.ref b1), .val (.int (2 : Int32)), .unset] [])) _
    refine XS.iloadN X53.here hx rfl (hb hby at_99) rfl ?_
    show Steps p.tables e below (T53.setTop (mkF m 100 #[.val (.int p0), .val (.ref b1), .val (.int (2 : Int32)), .unset] [(.int (2 : Int32))])) _
    refine XS.iconst X53.here hx rfl (hb hby at_100) ?_
    show Steps p.tables e below (T53.setTop (mkF m 101 #[.val (.int p0), .val (.ref b1), .val (.int (2 : Int32)), .unset] [(.int (2 : Int32)), (.int (2 : Int32))])) _
    refine XS.icmpYes X53.here hx rfl (pc0 := 101) (pc' := 109) rfl (hb hby at_101) rfl (teq (by decide : (2 : Int32) = (2 : Int32))).1 (by decide) (by decide) ?_
    show Steps p.tables e below (T53.setTop (mkF m 109 #[.val (.int p0), .val (.ref b1), .val (.int (2 : Int32)), .unset] [])) _
    refine XS.iconst X53.here hx rfl (hb hby at_109) ?_
    show Steps p.tables e below (T53.setTop (mkF m 110 #[.val (.int p0), .val (.ref b1), .val (.int (2 : Int32)), .unset] [(.int (1 : Int32))])) _
    refine XS.goto X53.here hx rfl (pc0 := 110) (pc' := 114) rfl (hb hby at_110) (by decide) (by decide) ?_
    show Steps p.tables e below (T53.setTop (mkF m 114 #[.val (.int p0), .val (.ref b1), .val (.int (2 : Int32)), .unset] [(.int (1 : Int32))])) _
    refine XS.istoreN X53.here hx rfl (hb hby at_114) rfl (l' := #[.val (.int p0), .val (.ref b1), .val (.int (2 : Int32)), .val (.int (1 : Int32))]) rfl ?_
    show Steps p.tables e below (T53.setTop (mkF m 115 #[.val (.int p0), .val (.ref b1), .val (.int (2 : Int32)), .val (.int (1 : Int32))] [])) _
    refine XS.aloadN X53.here hx rfl (hb hby at_115) rfl rfl ?_
    show Steps p.tables e below (T53.setTop (mkF m 116 #[.val (.int p0), .val (.ref b1), .val (.int (2 : Int32)), .val (.int (1 : Int32))] [(.ref b1)])) _
    refine XS.iloadN X53.here hx rfl (hb hby at_116) rfl ?_
    show Steps p.tables e below (T53.setTop (mkF m 117 #[.val (.int p0), .val (.ref b1), .val (.int (2 : Int32)), .val (.int (1 : Int32))] [(.int (2 : Int32)), (.ref b1)])) _
    refine X53.aaload hx (j := (2 : Int32)) (v := (.ref (w 2))) (by rw [e53]; exact Ar54.1) (State.isArrayOf_alike hZ.alike Ar54.2.1) rfl Ar54.2.2 hin54 hat54 (g := (mkF m 117 #[.val (.int p0), .val (.ref b1), .val (.int (2 : Int32)), .val (.int (1 : Int32))] [(.int (2 : Int32)), (.ref b1)])) rfl rfl (hb hby at_117) _ ?_
    show Steps p.tables e below (T53.setTop (mkF m 118 #[.val (.int p0), .val (.ref b1), .val (.int (2 : Int32)), .val (.int (1 : Int32))] [(.ref (w 2))])) _
    refine st55.trans ?_
    show Steps p.tables e below (T55.setTop (mkF m 121 #[.val (.int p0), .val (.ref b1), .val (.int (2 : Int32)), .val (.int (1 : Int32))] [(.int (1 : Int32))])) _
    refine XS.iloadN X55.here hx rfl (hb hby at_121) rfl ?_
    show Steps p.tables e below (T55.setTop (mkF m 122 #[.val (.int p0), .val (.ref b1), .val (.int (2 : Int32)), .val (.int (1 : Int32))] [(.int (1 : Int32)), (.int (1 : Int32))])) _
    refine XS.icmpNo X55.here hx rfl (hb hby at_122) rfl (teq (by decide : (1 : Int32) = (1 : Int32))).2 ?_
    show Steps p.tables e below (T55.setTop (mkF m 125 #[.val (.int p0), .val (.ref b1), .val (.int (2 : Int32)), .val (.int (1 : Int32))] [])) _
    refine XS.iconst X55.here hx rfl (hb hby at_125) ?_
    show Steps p.tables e below (T55.setTop (mkF m 126 #[.val (.int p0), .val (.ref b1), .val (.int (2 : Int32)), .val (.int (1 : Int32))] [(.int (1 : Int32))])) _
    refine XS.goto X55.here hx rfl (pc0 := 126) (pc' := 130) rfl (hb hby at_126) (by decide) (by decide) ?_
    show Steps p.tables e below (T55.setTop (mkF m 130 #[.val (.int p0), .val (.ref b1), .val (.int (2 : Int32)), .val (.int (1 : Int32))] [(.int (1 : Int32))])) _
    exact retN X55 hx (t := .boolean) Bd.returns (by simp) (hb hby at_130) hr
  · show OL (some (.int (1 : Int32))) Z.heap.size _ T55.heap _
    exact ⟨rfl, N55⟩
set_option maxRecDepth 65536 in
set_option maxHeartbeats 40000000 in
theorem rm_7 (l : Launch) (Z : State) (a0 : Array Value) (hw : ∀ d ∈ tables_1, d.before a0 Z = true) (w : Nat → Addr) (kk : Nat → ClassId) (hN : Wd Z w kk) (ws : List Jvm.Cond)  (h0 : Heap) (O0 : Old Z Z.heap.size h0) :
    MetFree l (⟨"com/example/netloom/netloom/net/ElementKind", "isPlace", "()Z"⟩ : MethodName) (head1 (Jvm.Cond.code (⟨"com/example/netloom/netloom/net/ElementKind", "isPlace", "()Z"⟩ : MethodName) prog_22_method_5_code 1 (some .boolean) :: ws) ({ frames := 0, cells := 0, slots := 0, locals := 0 } : Room)) (fun a U => a = #[(.ref (w 3))] ∧ Z.Warmed39 U.vm ∧ U.heap = h0) (fun _ _ _ _ _ => True) (fun _ U o U' => ∃ v L, o = .returned v ∧ OQ (some (.int (0 : Int32))) h0 Z.heap.size v U'.heap L ∧ FrameEnd U o U' L ({ frames := 0, cells := 0, slots := 0, locals := 0 } : Room).cells ({ frames := 0, cells := 0, slots := 0, locals := 0 } : Room).slots) := by
  have hN' := hN
  obtain ⟨hS0, hE0, hS1, hE1, hS2, hE2, hS3, hE3, hS4, hE4, hS5, hE5, hS6, hE6, hS7, hE7, hS8, hE8, hS9, hE9, hS10, hE10, hS11, hE11, hS12, hE12, hF0_ordinal, hF2_ordinal, hF4_ordinal, hF3_ordinal, hF6_ordinal, hF5_ordinal, hF7_ordinal, hF9_ordinal, hF11_ordinal, hF1_ordinal, hF8_ordinal, hF10_ordinal, hF12_ordinal⟩ := hN'
  refine MetFree.of_bodySF (plainFor_of_name pn_0) hisR ?_
  intro p e s m args below meth c s₁ Bd hml0 hP hK
  obtain ⟨rfl, hZ, hh⟩ := hP
  have hx := Bd.exec
  have hby := Bd.bytes
  have hml : c.maxLocals = 1 := hml0
  have hown : s.vm.findClass "com/example/netloom/netloom/net/ElementKind" = some m.cls := findClass_of_methodNamed Bd.named
  have hnm := (name_of_methodNamed Bd.named Bd.method).1
  have X0 : Stand p l e ({ frames := 0, cells := 0, slots := 0, locals := 0 } : Room) s m #[(.ref (w 3))] below meth c s₁ [] 0 0 := Stand.of_body Bd
  have e0 : s₁.heap = h0 := by rw [← hh, Bd.state]; rfl
  have N0 := Fr.nil Z.heap.size
  have pre0 : ∀ t, Steps p.tables e below (s₁.setTop (mkF m 0 #[.val (.ref (w 3))] [])) t → Steps p.tables e below (s₁.setTop (entryFrame m #[(.ref (w 3))] 1)) t := fun t k => castTop (ef_0 m (.ref (w 3)) rfl) k
  obtain ⟨T1, X1, e1, st1⟩ := getS2 X0 hx hZ hown (host := "") (Or.inl (W hw 36 rfl)) Via.refl e0 (hS2.ext O0.2) (g := (mkF m 1 #[.val (.ref (w 3))] [(.ref (w 3))])) rfl (hb hby d_prog_22_method_5_code_1)
  obtain ⟨T2, X2, e2, st2⟩ := getS2 X1 hx hZ hown (host := "") (Or.inl (W hw 37 rfl)) Via.refl e1 (hS4.ext O0.2) (g := (mkF m 8 #[.val (.ref (w 3))] [(.ref (w 3))])) rfl (hb hby d_prog_22_method_5_code_8)
  obtain ⟨fs, hr, hrun, hended, hW, hsame⟩ := X2.leave (v := some (.int (0 : Int32))) (fun h => by rw [Bd.returns] at h; cases h)
  refine ⟨_, _, pre0 _ ?_, hrun, hended, _, _, rfl, ?_, ⟨_, rfl⟩, hW, hsame.mono (by decide) (by decide)⟩
  · show Steps p.tables e below (s₁.setTop (mkF m 0 #[.val (.ref (w 3))] [])) _
    refine XS.aloadN X0.here hx rfl (hb hby d_prog_22_method_5_code_0) rfl rfl ?_
    show Steps p.tables e below (s₁.setTop (mkF m 1 #[.val (.ref (w 3))] [(.ref (w 3))])) _
    refine st1 _ ?_
    show Steps p.tables e below (T1.setTop (mkF m 4 #[.val (.ref (w 3))] [(.ref (w 2)), (.ref (w 3))])) _
    refine Jvm.RoadKit.acmp (g := (mkF m 4 #[.val (.ref (w 3))] [(.ref (w 2)), (.ref (w 3))])) X1 hx rfl rfl rfl (pc0 := 4) (pc' := 7) (same := false) rfl (hb hby d_prog_22_method_5_code_4) rfl (decide_eq_false fun q => (Fld.ne hF3_ordinal hF2_ordinal (by decide)) (Value.ref.inj q)) (by decide) (by decide) ?_
    show Steps p.tables e below (T1.setTop (mkF m 7 #[.val (.ref (w 3))] [])) _
    refine XS.aloadN X1.here hx rfl (hb hby d_prog_22_method_5_code_7) rfl rfl ?_
    show Steps p.tables e below (T1.setTop (mkF m 8 #[.val (.ref (w 3))] [(.ref (w 3))])) _
    refine st2 _ ?_
    show Steps p.tables e below (T2.setTop (mkF m 11 #[.val (.ref (w 3))] [(.ref (w 4)), (.ref (w 3))])) _
    refine Jvm.RoadKit.acmp (g := (mkF m 11 #[.val (.ref (w 3))] [(.ref (w 4)), (.ref (w 3))])) X2 hx rfl rfl rfl (pc0 := 11) (pc' := 18) (same := false) rfl (hb hby d_prog_22_method_5_code_11) rfl (decide_eq_false fun q => (Fld.ne hF3_ordinal hF4_ordinal (by decide)) (Value.ref.inj q)) (by decide) (by decide) ?_
    show Steps p.tables e below (T2.setTop (mkF m 18 #[.val (.ref (w 3))] [])) _
    refine XS.iconst X2.here hx rfl (hb hby d_prog_22_method_5_code_18) ?_
    show Steps p.tables e below (T2.setTop (mkF m 19 #[.val (.ref (w 3))] [(.int (0 : Int32))])) _
    exact retN X2 hx (t := .boolean) Bd.returns (by simp) (hb hby d_prog_22_method_5_code_19) hr
  · show OQ (some (.int (0 : Int32))) h0 Z.heap.size _ T2.heap _
    rw [e2]
    exact ⟨rfl, N0, rfl⟩
set_option maxRecDepth 65536 in
set_option maxHeartbeats 40000000 in
theorem law_8 (l : Launch) (Z : State) (a0 : Array Value) (hw : ∀ d ∈ tables_1, d.before a0 Z = true) (w : Nat → Addr) (kk : Nat → ClassId) (hN : Wd Z w kk) (ws : List Jvm.Cond) (p0 : Int32) (h0 : Heap) (O0 : Old Z Z.heap.size h0) (hp0 : ((p0 &&& (2147483647 : Int32)) % (13 : Int32)) = (3 : Int32)) :
    MetFree l x (head1 (Jvm.Cond.code x code maxLocals ret :: ws) room_1) (fun a U => a = #[(.int p0)] ∧ Z.Warmed39 U.vm ∧ U.heap = h0) (fun _ _ _ _ _ => True) (fun _ U o U' => ∃ v L, o = .returned v ∧ OL (some (.int (1 : Int32))) Z.heap.size v U'.heap L ∧ FrameEnd U o U' L 16 128) := by
  have hN' := hN
  obtain ⟨hS0, hE0, hS1, hE1, hS2, hE2, hS3, hE3, hS4, hE4, hS5, hE5, hS6, hE6, hS7, hE7, hS8, hE8, hS9, hE9, hS10, hE10, hS11, hE11, hS12, hE12, hF0_ordinal, hF2_ordinal, hF4_ordinal, hF3_ordinal, hF6_ordinal, hF5_ordinal, hF7_ordinal, hF9_ordinal, hF11_ordinal, hF1_ordinal, hF8_ordinal, hF10_ordinal, hF12_ordinal⟩ := hN'
  refine MetFree.of_bodySF (plainFor_of_name pn_1) hisR ?_
  intro p e s m args below meth c s₁ Bd hml0 hP hK
  obtain ⟨rfl, hZ, hh⟩ := hP
  have hx := Bd.exec
  have hby := Bd.bytes
  have hml : c.maxLocals = 4 := hml0
  have hown : s.vm.findClass "com/example/netloom/netloom/net/ElementKindIsPlacePinLaw" = some m.cls := findClass_of_methodNamed Bd.named
  have hnm := (name_of_methodNamed Bd.named Bd.method).1
  have X0 : Stand p l e room_1 s m #[(.int p0)] below meth c s₁ [] 0 0 := Stand.of_body Bd
  have e0 : s₁.heap = h0 := by rw [← hh, Bd.state]; rfl
  have N0 := Fr.nil Z.heap.size
  have pre0 : ∀ t, Steps p.tables e below (s₁.setTop (mkF m 0 #[.val (.int p0), .unset, .unset, .unset] [])) t → Steps p.tables e below (s₁.setTop (entryFrame m #[(.int p0)] maxLocals)) t := fun t k => castTop (ef_1 m (.int p0) rfl) k
  obtain ⟨T1, h1, k1, X1, e1, E1, A1, Ov1, st1⟩ := newR X0 hx hZ hown (W hw 0 rfl) (W hw 1 rfl) e0 (g := (mkF m 2 #[.val (.int p0), .unset, .unset, .unset] [(.int (13 : Int32))])) rfl (hb hby at_2) rfl (by decide) (cap := 13) (by decide) (by decide) (by decide) (by decide)
  obtain ⟨b1, g1⟩ : ∃ z, z = h0.size := ⟨_, rfl⟩
  rw [← g1] at A1 st1
  have gn_b1 : Z.heap.size ≤ b1 := Nat.le_trans O0.2.1 (Nat.le_of_eq g1.symm)
  have O1 := O0.ext E1
  have V_b1_v1 : Arv Z h1 b1 k1 (.object "com/example/netloom/netloom/net/ElementKind") (13 : Int32) [] .null := Arv.new A1 (by decide)
  obtain ⟨T2, X2, e2, st2⟩ := getS2 X1 hx hZ hown (host := "") (Or.inl (W hw 2 rfl)) Via.refl e1 (hS0.ext O1.2) (g := (mkF m 7 #[.val (.int p0), .unset, .unset, .unset] [(.int (0 : Int32)), (.ref b1), (.ref b1)])) rfl (hb hby at_7)
  have V_b1_v3 : Arv Z h1 b1 k1 (.object "com/example/netloom/netloom/net/ElementKind") (13 : Int32) [.null] .null := V_b1_v1.pad (pad_rep [] .null 1)
  obtain ⟨cl4, Ar4, q4, Sz4, Ng4, Hv4, Gv4⟩ := V_b1_v3
  have hin4 : ¬ ((0 : Int32) < 0 ∨ cl4.slots.size ≤ ((0 : Int32)).toNatClampNeg) := inb_of Sz4 ⟨by decide, by decide⟩
  obtain ⟨T5, h5, X5, e5, W5, st5⟩ := stR X2 hx hZ e2 Ar4 (j := (0 : Int32)) (v := (.ref (w 0))) hin4 rfl (Sto.ofV Ar4 q4 Ov1 (Ins.self (hE0.ext O1.2))) (g := (mkF m 10 #[.val (.int p0), .unset, .unset, .unset] [(.ref (w 0)), (.int (0 : Int32)), (.ref b1), (.ref b1)])) rfl rfl (hb hby at_10)
  have V_b1_v5 : Arv Z h5 b1 k1 (.object "com/example/netloom/netloom/net/ElementKind") (13 : Int32) [(.ref (w 0))] .null := Arv.set Ar4 q4 Sz4 Ng4 Hv4 Gv4 rfl W5 0 rfl (Nat.le_of_ble_eq_true rfl)
  have N5 := Fr.snoc X5 N0 gn_b1
  have O5 := O1.wr W5 gn_b1
  obtain ⟨T6, X6, e6, st6⟩ := getS2 X5 hx hZ hown (host := "") (Or.inl (W hw 6 rfl)) Via.refl e5 (hS1.ext O5.2) (g := (mkF m 13 #[.val (.int p0), .unset, .unset, .unset] [(.int (1 : Int32)), (.ref b1), (.ref b1)])) rfl (hb hby at_13)
  have V_b1_v7 : Arv Z h5 b1 k1 (.object "com/example/netloom/netloom/net/ElementKind") (13 : Int32) [(.ref (w 0)), .null] .null := V_b1_v5.pad (pad_rep [(.ref (w 0))] .null 1)
  obtain ⟨cl8, Ar8, q8, Sz8, Ng8, Hv8, Gv8⟩ := V_b1_v7
  have hin8 : ¬ ((1 : Int32) < 0 ∨ cl8.slots.size ≤ ((1 : Int32)).toNatClampNeg) := inb_of Sz8 ⟨by decide, by decide⟩
  obtain ⟨T9, h9, X9, e9, W9, st9⟩ := stR X6 hx hZ e6 Ar8 (j := (1 : Int32)) (v := (.ref (w 1))) hin8 rfl (Sto.ofV Ar8 q8 Ov1 (Ins.self (hE1.ext O5.2))) (g := (mkF m 16 #[.val (.int p0), .unset, .unset, .unset] [(.ref (w 1)), (.int (1 : Int32)), (.ref b1), (.ref b1)])) rfl rfl (hb hby at_16)
  have V_b1_v9 : Arv Z h9 b1 k1 (.object "com/example/netloom/netloom/net/ElementKind") (13 : Int32) [(.ref (w 0)), (.ref (w 1))] .null := Arv.set Ar8 q8 Sz8 Ng8 Hv8 Gv8 rfl W9 1 rfl (Nat.le_of_ble_eq_true rfl)
  have N9 := Fr.snoc X9 N5 gn_b1
  have O9 := O5.wr W9 gn_b1
  obtain ⟨T10, X10, e10, st10⟩ := getS2 X9 hx hZ hown (host := "") (Or.inl (W hw 8 rfl)) Via.refl e9 (hS2.ext O9.2) (g := (mkF m 19 #[.val (.int p0), .unset, .unset, .unset] [(.int (2 : Int32)), (.ref b1), (.ref b1)])) rfl (hb hby at_19)
  have V_b1_v11 : Arv Z h9 b1 k1 (.object "com/example/netloom/netloom/net/ElementKind") (13 : Int32) [(.ref (w 0)), (.ref (w 1)), .null] .null := V_b1_v9.pad (pad_rep [(.ref (w 0)), (.ref (w 1))] .null 1)
  obtain ⟨cl12, Ar12, q12, Sz12, Ng12, Hv12, Gv12⟩ := V_b1_v11
  have hin12 : ¬ ((2 : Int32) < 0 ∨ cl12.slots.size ≤ ((2 : Int32)).toNatClampNeg) := inb_of Sz12 ⟨by decide, by decide⟩
  obtain ⟨T13, h13, X13, e13, W13, st13⟩ := stR X10 hx hZ e10 Ar12 (j := (2 : Int32)) (v := (.ref (w 2))) hin12 rfl (Sto.ofV Ar12 q12 Ov1 (Ins.self (hE2.ext O9.2))) (g := (mkF m 22 #[.val (.int p0), .unset, .unset, .unset] [(.ref (w 2)), (.int (2 : Int32)), (.ref b1), (.ref b1)])) rfl rfl (hb hby at_22)
  have V_b1_v13 : Arv Z h13 b1 k1 (.object "com/example/netloom/netloom/net/ElementKind") (13 : Int32) [(.ref (w 0)), (.ref (w 1)), (.ref (w 2))] .null := Arv.set Ar12 q12 Sz12 Ng12 Hv12 Gv12 rfl W13 2 rfl (Nat.le_of_ble_eq_true rfl)
  have N13 := Fr.snoc X13 N9 gn_b1
  have O13 := O9.wr W13 gn_b1
  obtain ⟨T14, X14, e14, st14⟩ := getS2 X13 hx hZ hown (host := "") (Or.inl (W hw 10 rfl)) Via.refl e13 (hS3.ext O13.2) (g := (mkF m 25 #[.val (.int p0), .unset, .unset, .unset] [(.int (3 : Int32)), (.ref b1), (.ref b1)])) rfl (hb hby at_25)
  have V_b1_v15 : Arv Z h13 b1 k1 (.object "com/example/netloom/netloom/net/ElementKind") (13 : Int32) [(.ref (w 0)), (.ref (w 1)), (.ref (w 2)), .null] .null := V_b1_v13.pad (pad_rep [(.ref (w 0)), (.ref (w 1)), (.ref (w 2))] .null 1)
  obtain ⟨cl16, Ar16, q16, Sz16, Ng16, Hv16, Gv16⟩ := V_b1_v15
  have hin16 : ¬ ((3 : Int32) < 0 ∨ cl16.slots.size ≤ ((3 : Int32)).toNatClampNeg) := inb_of Sz16 ⟨by decide, by decide⟩
  obtain ⟨T17, h17, X17, e17, W17, st17⟩ := stR X14 hx hZ e14 Ar16 (j := (3 : Int32)) (v := (.ref (w 3))) hin16 rfl (Sto.ofV Ar16 q16 Ov1 (Ins.self (hE3.ext O13.2))) (g := (mkF m 28 #[.val (.int p0), .unset, .unset, .unset] [(.ref (w 3)), (.int (3 : Int32)), (.ref b1), (.ref b1)])) rfl rfl (hb hby at_28)
  have V_b1_v17 : Arv Z h17 b1 k1 (.object "com/example/netloom/netloom/net/ElementKind") (13 : Int32) [(.ref (w 0)), (.ref (w 1)), (.ref (w 2)), (.ref (w 3))] .null := Arv.set Ar16 q16 Sz16 Ng16 Hv16 Gv16 rfl W17 3 rfl (Nat.le_of_ble_eq_true rfl)
  have N17 := Fr.snoc X17 N13 gn_b1
  have O17 := O13.wr W17 gn_b1
  obtain ⟨T18, X18, e18, st18⟩ := getS2 X17 hx hZ hown (host := "") (Or.inl (W hw 12 rfl)) Via.refl e17 (hS4.ext O17.2) (g := (mkF m 31 #[.val (.int p0), .unset, .unset, .unset] [(.int (4 : Int32)), (.ref b1), (.ref b1)])) rfl (hb hby at_31)
  have V_b1_v19 : Arv Z h17 b1 k1 (.object "com/example/netloom/netloom/net/ElementKind") (13 : Int32) [(.ref (w 0)), (.ref (w 1)), (.ref (w 2)), (.ref (w 3)), .null] .null := V_b1_v17.pad (pad_rep [(.ref (w 0)), (.ref (w 1)), (.ref (w 2)), (.ref (w 3))] .null 1)
  obtain ⟨cl20, Ar20, q20, Sz20, Ng20, Hv20, Gv20⟩ := V_b1_v19
  have hin20 : ¬ ((4 : Int32) < 0 ∨ cl20.slots.size ≤ ((4 : Int32)).toNatClampNeg) := inb_of Sz20 ⟨by decide, by decide⟩
  obtain ⟨T21, h21, X21, e21, W21, st21⟩ := stR X18 hx hZ e18 Ar20 (j := (4 : Int32)) (v := (.ref (w 4))) hin20 rfl (Sto.ofV Ar20 q20 Ov1 (Ins.self (hE4.ext O17.2))) (g := (mkF m 34 #[.val (.int p0), .unset, .unset, .unset] [(.ref (w 4)), (.int (4 : Int32)), (.ref b1), (.ref b1)])) rfl rfl (hb hby at_34)
  have V_b1_v21 : Arv Z h21 b1 k1 (.object "com/example/netloom/netloom/net/ElementKind") (13 : Int32) [(.ref (w 0)), (.ref (w 1)), (.ref (w 2)), (.ref (w 3)), (.ref (w 4))] .null := Arv.set Ar20 q20 Sz20 Ng20 Hv20 Gv20 rfl W21 4 rfl (Nat.le_of_ble_eq_true rfl)
  have N21 := Fr.snoc X21 N17 gn_b1
  have O21 := O17.wr W21 gn_b1
  obtain ⟨T22, X22, e22, st22⟩ := getS2 X21 hx hZ hown (host := "") (Or.inl (W hw 14 rfl)) Via.refl e21 (hS5.ext O21.2) (g := (mkF m 37 #[.val (.int p0), .unset, .unset, .unset] [(.int (5 : Int32)), (.ref b1), (.ref b1)])) rfl (hb hby at_37)
  have V_b1_v23 : Arv Z h21 b1 k1 (.object "com/example/netloom/netloom/net/ElementKind") (13 : Int32) [(.ref (w 0)), (.ref (w 1)), (.ref (w 2)), (.ref (w 3)), (.ref (w 4)), .null] .null := V_b1_v21.pad (pad_rep [(.ref (w 0)), (.ref (w 1)), (.ref (w 2)), (.ref (w 3)), (.ref (w 4))] .null 1)
  obtain ⟨cl24, Ar24, q24, Sz24, Ng24, Hv24, Gv24⟩ := V_b1_v23
  have hin24 : ¬ ((5 : Int32) < 0 ∨ cl24.slots.size ≤ ((5 : Int32)).toNatClampNeg) := inb_of Sz24 ⟨by decide, by decide⟩
  obtain ⟨T25, h25, X25, e25, W25, st25⟩ := stR X22 hx hZ e22 Ar24 (j := (5 : Int32)) (v := (.ref (w 5))) hin24 rfl (Sto.ofV Ar24 q24 Ov1 (Ins.self (hE5.ext O21.2))) (g := (mkF m 40 #[.val (.int p0), .unset, .unset, .unset] [(.ref (w 5)), (.int (5 : Int32)), (.ref b1), (.ref b1)])) rfl rfl (hb hby at_40)
  have V_b1_v25 : Arv Z h25 b1 k1 (.object "com/example/netloom/netloom/net/ElementKind") (13 : Int32) [(.ref (w 0)), (.ref (w 1)), (.ref (w 2)), (.ref (w 3)), (.ref (w 4)), (.ref (w 5))] .null := Arv.set Ar24 q24 Sz24 Ng24 Hv24 Gv24 rfl W25 5 rfl (Nat.le_of_ble_eq_true rfl)
  have N25 := Fr.snoc X25 N21 gn_b1
  have O25 := O21.wr W25 gn_b1
  obtain ⟨T26, X26, e26, st26⟩ := getS2 X25 hx hZ hown (host := "") (Or.inl (W hw 16 rfl)) Via.refl e25 (hS6.ext O25.2) (g := (mkF m 44 #[.val (.int p0), .unset, .unset, .unset] [(.int (6 : Int32)), (.ref b1), (.ref b1)])) rfl (hb hby at_44)
  have V_b1_v27 : Arv Z h25 b1 k1 (.object "com/example/netloom/netloom/net/ElementKind") (13 : Int32) [(.ref (w 0)), (.ref (w 1)), (.ref (w 2)), (.ref (w 3)), (.ref (w 4)), (.ref (w 5)), .null] .null := V_b1_v25.pad (pad_rep [(.ref (w 0)), (.ref (w 1)), (.ref (w 2)), (.ref (w 3)), (.ref (w 4)), (.ref (w 5))] .null 1)
  obtain ⟨cl28, Ar28, q28, Sz28, Ng28, Hv28, Gv28⟩ := V_b1_v27
  have hin28 : ¬ ((6 : Int32) < 0 ∨ cl28.slots.size ≤ ((6 : Int32)).toNatClampNeg) := inb_of Sz28 ⟨by decide, by decide⟩
  obtain ⟨T29, h29, X29, e29, W29, st29⟩ := stR X26 hx hZ e26 Ar28 (j := (6 : Int32)) (v := (.ref (w 6))) hin28 rfl (Sto.ofV Ar28 q28 Ov1 (Ins.self (hE6.ext O25.2))) (g := (mkF m 47 #[.val (.int p0), .unset, .unset, .unset] [(.ref (w 6)), (.int (6 : Int32)), (.ref b1), (.ref b1)])) rfl rfl (hb hby at_47)
  have V_b1_v29 : Arv Z h29 b1 k1 (.object "com/example/netloom/netloom/net/ElementKind") (13 : Int32) [(.ref (w 0)), (.ref (w 1)), (.ref (w 2)), (.ref (w 3)), (.ref (w 4)), (.ref (w 5)), (.ref (w 6))] .null := Arv.set Ar28 q28 Sz28 Ng28 Hv28 Gv28 rfl W29 6 rfl (Nat.le_of_ble_eq_true rfl)
  have N29 := Fr.snoc X29 N25 gn_b1
  have O29 := O25.wr W29 gn_b1
  obtain ⟨T30, X30, e30, st30⟩ := getS2 X29 hx hZ hown (host := "") (Or.inl (W hw 18 rfl)) Via.refl e29 (hS7.ext O29.2) (g := (mkF m 51 #[.val (.int p0), .unset, .unset, .unset] [(.int (7 : Int32)), (.ref b1), (.ref b1)])) rfl (hb hby at_51)
  have V_b1_v31 : Arv Z h29 b1 k1 (.object "com/example/netloom/netloom/net/ElementKind") (13 : Int32) [(.ref (w 0)), (.ref (w 1)), (.ref (w 2)), (.ref (w 3)), (.ref (w 4)), (.ref (w 5)), (.ref (w 6)), .null] .null := V_b1_v29.pad (pad_rep [(.ref (w 0)), (.ref (w 1)), (.ref (w 2)), (.ref (w 3)), (.ref (w 4)), (.ref (w 5)), (.ref (w 6))] .null 1)
  obtain ⟨cl32, Ar32, q32, Sz32, Ng32, Hv32, Gv32⟩ := V_b1_v31
  have hin32 : ¬ ((7 : Int32) < 0 ∨ cl32.slots.size ≤ ((7 : Int32)).toNatClampNeg) := inb_of Sz32 ⟨by decide, by decide⟩
  obtain ⟨T33, h33, X33, e33, W33, st33⟩ := stR X30 hx hZ e30 Ar32 (j := (7 : Int32)) (v := (.ref (w 7))) hin32 rfl (Sto.ofV Ar32 q32 Ov1 (Ins.self (hE7.ext O29.2))) (g := (mkF m 54 #[.val (.int p0), .unset, .unset, .unset] [(.ref (w 7)), (.int (7 : Int32)), (.ref b1), (.ref b1)])) rfl rfl (hb hby at_54)
  have V_b1_v33 : Arv Z h33 b1 k1 (.object "com/example/netloom/netloom/net/ElementKind") (13 : Int32) [(.ref (w 0)), (.ref (w 1)), (.ref (w 2)), (.ref (w 3)), (.ref (w 4)), (.ref (w 5)), (.ref (w 6)), (.ref (w 7))] .null := Arv.set Ar32 q32 Sz32 Ng32 Hv32 Gv32 rfl W33 7 rfl (Nat.le_of_ble_eq_true rfl)
  have N33 := Fr.snoc X33 N29 gn_b1
  have O33 := O29.wr W33 gn_b1
  obtain ⟨T34, X34, e34, st34⟩ := getS2 X33 hx hZ hown (host := "") (Or.inl (W hw 20 rfl)) Via.refl e33 (hS8.ext O33.2) (g := (mkF m 58 #[.val (.int p0), .unset, .unset, .unset] [(.int (8 : Int32)), (.ref b1), (.ref b1)])) rfl (hb hby at_58)
  have V_b1_v35 : Arv Z h33 b1 k1 (.object "com/example/netloom/netloom/net/ElementKind") (13 : Int32) [(.ref (w 0)), (.ref (w 1)), (.ref (w 2)), (.ref (w 3)), (.ref (w 4)), (.ref (w 5)), (.ref (w 6)), (.ref (w 7)), .null] .null := V_b1_v33.pad (pad_rep [(.ref (w 0)), (.ref (w 1)), (.ref (w 2)), (.ref (w 3)), (.ref (w 4)), (.ref (w 5)), (.ref (w 6)), (.ref (w 7))] .null 1)
  obtain ⟨cl36, Ar36, q36, Sz36, Ng36, Hv36, Gv36⟩ := V_b1_v35
  have hin36 : ¬ ((8 : Int32) < 0 ∨ cl36.slots.size ≤ ((8 : Int32)).toNatClampNeg) := inb_of Sz36 ⟨by decide, by decide⟩
  obtain ⟨T37, h37, X37, e37, W37, st37⟩ := stR X34 hx hZ e34 Ar36 (j := (8 : Int32)) (v := (.ref (w 8))) hin36 rfl (Sto.ofV Ar36 q36 Ov1 (Ins.self (hE8.ext O33.2))) (g := (mkF m 61 #[.val (.int p0), .unset, .unset, .unset] [(.ref (w 8)), (.int (8 : Int32)), (.ref b1), (.ref b1)])) rfl rfl (hb hby at_61)
  have V_b1_v37 : Arv Z h37 b1 k1 (.object "com/example/netloom/netloom/net/ElementKind") (13 : Int32) [(.ref (w 0)), (.ref (w 1)), (.ref (w 2)), (.ref (w 3)), (.ref (w 4)), (.ref (w 5)), (.ref (w 6)), (.ref (w 7)), (.ref (w 8))] .null := Arv.set Ar36 q36 Sz36 Ng36 Hv36 Gv36 rfl W37 8 rfl (Nat.le_of_ble_eq_true rfl)
  have N37 := Fr.snoc X37 N33 gn_b1
  have O37 := O33.wr W37 gn_b1
  obtain ⟨T38, X38, e38, st38⟩ := getS2 X37 hx hZ hown (host := "") (Or.inl (W hw 22 rfl)) Via.refl e37 (hS9.ext O37.2) (g := (mkF m 65 #[.val (.int p0), .unset, .unset, .unset] [(.int (9 : Int32)), (.ref b1), (.ref b1)])) rfl (hb hby at_65)
  have V_b1_v39 : Arv Z h37 b1 k1 (.object "com/example/netloom/netloom/net/ElementKind") (13 : Int32) [(.ref (w 0)), (.ref (w 1)), (.ref (w 2)), (.ref (w 3)), (.ref (w 4)), (.ref (w 5)), (.ref (w 6)), (.ref (w 7)), (.ref (w 8)), .null] .null := V_b1_v37.pad (pad_rep [(.ref (w 0)), (.ref (w 1)), (.ref (w 2)), (.ref (w 3)), (.ref (w 4)), (.ref (w 5)), (.ref (w 6)), (.ref (w 7)), (.ref (w 8))] .null 1)
  obtain ⟨cl40, Ar40, q40, Sz40, Ng40, Hv40, Gv40⟩ := V_b1_v39
  have hin40 : ¬ ((9 : Int32) < 0 ∨ cl40.slots.size ≤ ((9 : Int32)).toNatClampNeg) := inb_of Sz40 ⟨by decide, by decide⟩
  obtain ⟨T41, h41, X41, e41, W41, st41⟩ := stR X38 hx hZ e38 Ar40 (j := (9 : Int32)) (v := (.ref (w 9))) hin40 rfl (Sto.ofV Ar40 q40 Ov1 (Ins.self (hE9.ext O37.2))) (g := (mkF m 68 #[.val (.int p0), .unset, .unset, .unset] [(.ref (w 9)), (.int (9 : Int32)), (.ref b1), (.ref b1)])) rfl rfl (hb hby at_68)
  have V_b1_v41 : Arv Z h41 b1 k1 (.object "com/example/netloom/netloom/net/ElementKind") (13 : Int32) [(.ref (w 0)), (.ref (w 1)), (.ref (w 2)), (.ref (w 3)), (.ref (w 4)), (.ref (w 5)), (.ref (w 6)), (.ref (w 7)), (.ref (w 8)), (.ref (w 9))] .null := Arv.set Ar40 q40 Sz40 Ng40 Hv40 Gv40 rfl W41 9 rfl (Nat.le_of_ble_eq_true rfl)
  have N41 := Fr.snoc X41 N37 gn_b1
  have O41 := O37.wr W41 gn_b1
  obtain ⟨T42, X42, e42, st42⟩ := getS2 X41 hx hZ hown (host := "") (Or.inl (W hw 24 rfl)) Via.refl e41 (hS10.ext O41.2) (g := (mkF m 72 #[.val (.int p0), .unset, .unset, .unset] [(.int (10 : Int32)), (.ref b1), (.ref b1)])) rfl (hb hby at_72)
  have V_b1_v43 : Arv Z h41 b1 k1 (.object "com/example/netloom/netloom/net/ElementKind") (13 : Int32) [(.ref (w 0)), (.ref (w 1)), (.ref (w 2)), (.ref (w 3)), (.ref (w 4)), (.ref (w 5)), (.ref (w 6)), (.ref (w 7)), (.ref (w 8)), (.ref (w 9)), .null] .null := V_b1_v41.pad (pad_rep [(.ref (w 0)), (.ref (w 1)), (.ref (w 2)), (.ref (w 3)), (.ref (w 4)), (.ref (w 5)), (.ref (w 6)), (.ref (w 7)), (.ref (w 8)), (.ref (w 9))] .null 1)
  obtain ⟨cl44, Ar44, q44, Sz44, Ng44, Hv44, Gv44⟩ := V_b1_v43
  have hin44 : ¬ ((10 : Int32) < 0 ∨ cl44.slots.size ≤ ((10 : Int32)).toNatClampNeg) := inb_of Sz44 ⟨by decide, by decide⟩
  obtain ⟨T45, h45, X45, e45, W45, st45⟩ := stR X42 hx hZ e42 Ar44 (j := (10 : Int32)) (v := (.ref (w 10))) hin44 rfl (Sto.ofV Ar44 q44 Ov1 (Ins.self (hE10.ext O41.2))) (g := (mkF m 75 #[.val (.int p0), .unset, .unset, .unset] [(.ref (w 10)), (.int (10 : Int32)), (.ref b1), (.ref b1)])) rfl rfl (hb hby at_75)
  have V_b1_v45 : Arv Z h45 b1 k1 (.object "com/example/netloom/netloom/net/ElementKind") (13 : Int32) [(.ref (w 0)), (.ref (w 1)), (.ref (w 2)), (.ref (w 3)), (.ref (w 4)), (.ref (w 5)), (.ref (w 6)), (.ref (w 7)), (.ref (w 8)), (.ref (w 9)), (.ref (w 10))] .null := Arv.set Ar44 q44 Sz44 Ng44 Hv44 Gv44 rfl W45 10 rfl (Nat.le_of_ble_eq_true rfl)
  have N45 := Fr.snoc X45 N41 gn_b1
  have O45 := O41.wr W45 gn_b1
  obtain ⟨T46, X46, e46, st46⟩ := getS2 X45 hx hZ hown (host := "") (Or.inl (W hw 26 rfl)) Via.refl e45 (hS11.ext O45.2) (g := (mkF m 79 #[.val (.int p0), .unset, .unset, .unset] [(.int (11 : Int32)), (.ref b1), (.ref b1)])) rfl (hb hby at_79)
  have V_b1_v47 : Arv Z h45 b1 k1 (.object "com/example/netloom/netloom/net/ElementKind") (13 : Int32) [(.ref (w 0)), (.ref (w 1)), (.ref (w 2)), (.ref (w 3)), (.ref (w 4)), (.ref (w 5)), (.ref (w 6)), (.ref (w 7)), (.ref (w 8)), (.ref (w 9)), (.ref (w 10)), .null] .null := V_b1_v45.pad (pad_rep [(.ref (w 0)), (.ref (w 1)), (.ref (w 2)), (.ref (w 3)), (.ref (w 4)), (.ref (w 5)), (.ref (w 6)), (.ref (w 7)), (.ref (w 8)), (.ref (w 9)), (.ref (w 10))] .null 1)
  obtain ⟨cl48, Ar48, q48, Sz48, Ng48, Hv48, Gv48⟩ := V_b1_v47
  have hin48 : ¬ ((11 : Int32) < 0 ∨ cl48.slots.size ≤ ((11 : Int32)).toNatClampNeg) := inb_of Sz48 ⟨by decide, by decide⟩
  obtain ⟨T49, h49, X49, e49, W49, st49⟩ := stR X46 hx hZ e46 Ar48 (j := (11 : Int32)) (v := (.ref (w 11))) hin48 rfl (Sto.ofV Ar48 q48 Ov1 (Ins.self (hE11.ext O45.2))) (g := (mkF m 82 #[.val (.int p0), .unset, .unset, .unset] [(.ref (w 11)), (.int (11 : Int32)), (.ref b1), (.ref b1)])) rfl rfl (hb hby at_82)
  have V_b1_v49 : Arv Z h49 b1 k1 (.object "com/example/netloom/netloom/net/ElementKind") (13 : Int32) [(.ref (w 0)), (.ref (w 1)), (.ref (w 2)), (.ref (w 3)), (.ref (w 4)), (.ref (w 5)), (.ref (w 6)), (.ref (w 7)), (.ref (w 8)), (.ref (w 9)), (.ref (w 10)), (.ref (w 11))] .null := Arv.set Ar48 q48 Sz48 Ng48 Hv48 Gv48 rfl W49 11 rfl (Nat.le_of_ble_eq_true rfl)
  have N49 := Fr.snoc X49 N45 gn_b1
  have O49 := O45.wr W49 gn_b1
  obtain ⟨T50, X50, e50, st50⟩ := getS2 X49 hx hZ hown (host := "") (Or.inl (W hw 28 rfl)) Via.refl e49 (hS12.ext O49.2) (g := (mkF m 86 #[.val (.int p0), .unset, .unset, .unset] [(.int (12 : Int32)), (.ref b1), (.ref b1)])) rfl (hb hby at_86)
  have V_b1_v51 : Arv Z h49 b1 k1 (.object "com/example/netloom/netloom/net/ElementKind") (13 : Int32) [(.ref (w 0)), (.ref (w 1)), (.ref (w 2)), (.ref (w 3)), (.ref (w 4)), (.ref (w 5)), (.ref (w 6)), (.ref (w 7)), (.ref (w 8)), (.ref (w 9)), (.ref (w 10)), (.ref (w 11)), .null] .null := V_b1_v49.pad (pad_rep [(.ref (w 0)), (.ref (w 1)), (.ref (w 2)), (.ref (w 3)), (.ref (w 4)), (.ref (w 5)), (.ref (w 6)), (.ref (w 7)), (.ref (w 8)), (.ref (w 9)), (.ref (w 10)), (.ref (w 11))] .null 1)
  obtain ⟨cl52, Ar52, q52, Sz52, Ng52, Hv52, Gv52⟩ := V_b1_v51
  have hin52 : ¬ ((12 : Int32) < 0 ∨ cl52.slots.size ≤ ((12 : Int32)).toNatClampNeg) := inb_of Sz52 ⟨by decide, by decide⟩
  obtain ⟨T53, h53, X53, e53, W53, st53⟩ := stR X50 hx hZ e50 Ar52 (j := (12 : Int32)) (v := (.ref (w 12))) hin52 rfl (Sto.ofV Ar52 q52 Ov1 (Ins.self (hE12.ext O49.2))) (g := (mkF m 89 #[.val (.int p0), .unset, .unset, .unset] [(.ref (w 12)), (.int (12 : Int32)), (.ref b1), (.ref b1)])) rfl rfl (hb hby at_89)
  have V_b1_v53 : Arv Z h53 b1 k1 (.object "com/example/netloom/netloom/net/ElementKind") (13 : Int32) [(.ref (w 0)), (.ref (w 1)), (.ref (w 2)), (.ref (w 3)), (.ref (w 4)), (.ref (w 5)), (.ref (w 6)), (.ref (w 7)), (.ref (w 8)), (.ref (w 9)), (.ref (w 10)), (.ref (w 11)), (.ref (w 12))] .null := Arv.set Ar52 q52 Sz52 Ng52 Hv52 Gv52 rfl W53 12 rfl (Nat.le_of_ble_eq_true rfl)
  have N53 := Fr.snoc X53 N49 gn_b1
  have O53 := O49.wr W53 gn_b1
  obtain ⟨cl54, Ar54, q54, Sz54, Ng54, Hv54, Gv54⟩ := V_b1_v53
  have hin54 : ¬ ((3 : Int32) < 0 ∨ cl54.slots.size ≤ ((3 : Int32)).toNatClampNeg) := inb_of Sz54 ⟨by decide, by decide⟩
  have hat54 : cl54.slots[((3 : Int32)).toNatClampNeg]? = some (.ref (w 3)) := Has.at Hv54 hin54 (by rfl)
  obtain ⟨cq55, kq55, q55a, q55b, q55c⟩ := isOf hZ e53 (hE3.ext O53.2)
  obtain ⟨_, _, ⟨T55, L55, k55, n55⟩, -, X55, ⟨Lc55, hQ55, l55, y55, z55⟩, st55⟩ := X53.virtualBack hx (y := (⟨"com/example/netloom/netloom/net/ElementKind", "isPlace", "()Z"⟩ : MethodName)) (z := (⟨"com/example/netloom/netloom/net/ElementKind", "isPlace", "()Z"⟩ : MethodName)) hown (mvT hZ (W hw 31 rfl)) (mvT hZ (W hw 32 rfl)) (notFace_of_selects (args := #[]) (mvT hZ (W hw 34 rfl))) (mvT hZ (W hw 34 rfl)) (mvT hZ (W hw 33 rfl)) (by decide) (backOf (W := 0) (rm_7 l Z a0 hw w kk hN [] h53 O53) hZ (W hw 35 rfl) (W hw 3 rfl) (by decide) (by decide)) q55a q55c (g := (mkF m 118 #[.val (.int p0), .val (.ref b1), .val (.int (3 : Int32)), .val (.int (0 : Int32))] [(.ref (w 3))])) rfl (by rw [hml]; rfl) (Steps.refl _) (argsL := []) (rest := []) (lenOf pd_0 rfl) rfl (by show 2 * 0 + _ ≤ _; exact Nat.le_of_eq rfl) (hb hby at_118) (fun _ _ => ⟨rfl, e53, (by decide : 1 + 0 ≤ _), (by decide : 13 + 0 ≤ _)⟩)
  dsimp only [Pt.U, Pt.locs, Pt.cells, Pt.slots] at X55 l55 y55 z55 st55 hQ55
  subst l55 y55 z55
  obtain ⟨rfl, N55q, e55⟩ := hQ55
  have N55 := Fr.app N53 N55q
  obtain ⟨fs, hr, hrun, hended, hW, hsame⟩ := X55.leave (v := some (.int (1 : Int32))) (fun h => by rw [Bd.returns] at h; cases h)
  refine ⟨_, _, pre0 _ ?_, hrun, hended, _, _, rfl, ?_, ⟨_, rfl⟩, hW, hsame.mono (by decide) (by decide)⟩
  · show Steps p.tables e below (s₁.setTop (mkF m 0 #[.val (.int p0), .unset, .unset, .unset] [])) _
    refine XS.bipush X0.here hx rfl (hb hby at_0) ?_
    show Steps p.tables e below (s₁.setTop (mkF m 2 #[.val (.int p0), .unset, .unset, .unset] [(.int (13 : Int32))])) _
    refine st1 _ ?_
    show Steps p.tables e below (T1.setTop (mkF m 5 #[.val (.int p0), .unset, .unset, .unset] [(.ref b1)])) _
    refine XS.dup X1.here hx rfl (hb hby at_5) rfl rfl ?_
    show Steps p.tables e below (T1.setTop (mkF m 6 #[.val (.int p0), .unset, .unset, .unset] [(.ref b1), (.ref b1)])) _
    refine XS.iconst X1.here hx rfl (hb hby at_6) ?_
    show Steps p.tables e below (T1.setTop (mkF m 7 #[.val (.int p0), .unset, .unset, .unset] [(.int (0 : Int32)), (.ref b1), (.ref b1)])) _
    refine st2 _ ?_
    show Steps p.tables e below (T2.setTop (mkF m 10 #[.val (.int p0), .unset, .unset, .unset] [(.ref (w 0)), (.int (0 : Int32)), (.ref b1), (.ref b1)])) _
    refine st5 _ ?_
    show Steps p.tables e below (T5.setTop (mkF m 11 #[.val (.int p0), .unset, .unset, .unset] [(.ref b1)])) _
    refine XS.dup X5.here hx rfl (hb hby at_11) rfl rfl ?_
    show Steps p.tables e below (T5.setTop (mkF m 12 #[.val (.int p0), .unset, .unset, .unset] [(.ref b1), (.ref b1)])) _
    refine XS.iconst X5.here hx rfl (hb hby at_12) ?_
    show Steps p.tables e below (T5.setTop (mkF m 13 #[.val (.int p0), .unset, .unset, .unset] [(.int (1 : Int32)), (.ref b1), (.ref b1)])) _
    refine st6 _ ?_
    show Steps p.tables e below (T6.setTop (mkF m 16 #[.val (.int p0), .unset, .unset, .unset] [(.ref (w 1)), (.int (1 : Int32)), (.ref b1), (.ref b1)])) _
    refine st9 _ ?_
    show Steps p.tables e below (T9.setTop (mkF m 17 #[.val (.int p0), .unset, .unset, .unset] [(.ref b1)])) _
    refine XS.dup X9.here hx rfl (hb hby at_17) rfl rfl ?_
    show Steps p.tables e below (T9.setTop (mkF m 18 #[.val (.int p0), .unset, .unset, .unset] [(.ref b1), (.ref b1)])) _
    refine XS.iconst X9.here hx rfl (hb hby at_18) ?_
    show Steps p.tables e below (T9.setTop (mkF m 19 #[.val (.int p0), .unset, .unset, .unset] [(.int (2 : Int32)), (.ref b1), (.ref b1)])) _
    refine st10 _ ?_
    show Steps p.tables e below (T10.setTop (mkF m 22 #[.val (.int p0), .unset, .unset, .unset] [(.ref (w 2)), (.int (2 : Int32)), (.ref b1), (.ref b1)])) _
    refine st13 _ ?_
    show Steps p.tables e below (T13.setTop (mkF m 23 #[.val (.int p0), .unset, .unset, .unset] [(.ref b1)])) _
    refine XS.dup X13.here hx rfl (hb hby at_23) rfl rfl ?_
    show Steps p.tables e below (T13.setTop (mkF m 24 #[.val (.int p0), .unset, .unset, .unset] [(.ref b1), (.ref b1)])) _
    refine XS.iconst X13.here hx rfl (hb hby at_24) ?_
    show Steps p.tables e below (T13.setTop (mkF m 25 #[.val (.int p0), .unset, .unset, .unset] [(.int (3 : Int32)), (.ref b1), (.ref b1)])) _
    refine st14 _ ?_
    show Steps p.tables e below (T14.setTop (mkF m 28 #[.val (.int p0), .unset, .unset, .unset] [(.ref (w 3)), (.int (3 : Int32)), (.ref b1), (.ref b1)])) _
    refine st17 _ ?_
    show Steps p.tables e below (T17.setTop (mkF m 29 #[.val (.int p0), .unset, .unset, .unset] [(.ref b1)])) _
    refine XS.dup X17.here hx rfl (hb hby at_29) rfl rfl ?_
    show Steps p.tables e below (T17.setTop (mkF m 30 #[.val (.int p0), .unset, .unset, .unset] [(.ref b1), (.ref b1)])) _
    refine XS.iconst X17.here hx rfl (hb hby at_30) ?_
    show Steps p.tables e below (T17.setTop (mkF m 31 #[.val (.int p0), .unset, .unset, .unset] [(.int (4 : Int32)), (.ref b1), (.ref b1)])) _
    refine st18 _ ?_
    show Steps p.tables e below (T18.setTop (mkF m 34 #[.val (.int p0), .unset, .unset, .unset] [(.ref (w 4)), (.int (4 : Int32)), (.ref b1), (.ref b1)])) _
    refine st21 _ ?_
    show Steps p.tables e below (T21.setTop (mkF m 35 #[.val (.int p0), .unset, .unset, .unset] [(.ref b1)])) _
    refine XS.dup X21.here hx rfl (hb hby at_35) rfl rfl ?_
    show Steps p.tables e below (T21.setTop (mkF m 36 #[.val (.int p0), .unset, .unset, .unset] [(.ref b1), (.ref b1)])) _
    refine XS.iconst X21.here hx rfl (hb hby at_36) ?_
    show Steps p.tables e below (T21.setTop (mkF m 37 #[.val (.int p0), .unset, .unset, .unset] [(.int (5 : Int32)), (.ref b1), (.ref b1)])) _
    refine st22 _ ?_
    show Steps p.tables e below (T22.setTop (mkF m 40 #[.val (.int p0), .unset, .unset, .unset] [(.ref (w 5)), (.int (5 : Int32)), (.ref b1), (.ref b1)])) _
    refine st25 _ ?_
    show Steps p.tables e below (T25.setTop (mkF m 41 #[.val (.int p0), .unset, .unset, .unset] [(.ref b1)])) _
    refine XS.dup X25.here hx rfl (hb hby at_41) rfl rfl ?_
    show Steps p.tables e below (T25.setTop (mkF m 42 #[.val (.int p0), .unset, .unset, .unset] [(.ref b1), (.ref b1)])) _
    refine XS.bipush X25.here hx rfl (hb hby at_42) ?_
    show Steps p.tables e below (T25.setTop (mkF m 44 #[.val (.int p0), .unset, .unset, .unset] [(.int (6 : Int32)), (.ref b1), (.ref b1)])) _
    refine st26 _ ?_
    show Steps p.tables e below (T26.setTop (mkF m 47 #[.val (.int p0), .unset, .unset, .unset] [(.ref (w 6)), (.int (6 : Int32)), (.ref b1), (.ref b1)])) _
    refine st29 _ ?_
    show Steps p.tables e below (T29.setTop (mkF m 48 #[.val (.int p0), .unset, .unset, .unset] [(.ref b1)])) _
    refine XS.dup X29.here hx rfl (hb hby at_48) rfl rfl ?_
    show Steps p.tables e below (T29.setTop (mkF m 49 #[.val (.int p0), .unset, .unset, .unset] [(.ref b1), (.ref b1)])) _
    refine XS.bipush X29.here hx rfl (hb hby at_49) ?_
    show Steps p.tables e below (T29.setTop (mkF m 51 #[.val (.int p0), .unset, .unset, .unset] [(.int (7 : Int32)), (.ref b1), (.ref b1)])) _
    refine st30 _ ?_
    show Steps p.tables e below (T30.setTop (mkF m 54 #[.val (.int p0), .unset, .unset, .unset] [(.ref (w 7)), (.int (7 : Int32)), (.ref b1), (.ref b1)])) _
    refine st33 _ ?_
    show Steps p.tables e below (T33.setTop (mkF m 55 #[.val (.int p0), .unset, .unset, .unset] [(.ref b1)])) _
    refine XS.dup X33.here hx rfl (hb hby at_55) rfl rfl ?_
    show Steps p.tables e below (T33.setTop (mkF m 56 #[.val (.int p0), .unset, .unset, .unset] [(.ref b1), (.ref b1)])) _
    refine XS.bipush X33.here hx rfl (hb hby at_56) ?_
    show Steps p.tables e below (T33.setTop (mkF m 58 #[.val (.int p0), .unset, .unset, .unset] [(.int (8 : Int32)), (.ref b1), (.ref b1)])) _
    refine st34 _ ?_
    show Steps p.tables e below (T34.setTop (mkF m 61 #[.val (.int p0), .unset, .unset, .unset] [(.ref (w 8)), (.int (8 : Int32)), (.ref b1), (.ref b1)])) _
    refine st37 _ ?_
    show Steps p.tables e below (T37.setTop (mkF m 62 #[.val (.int p0), .unset, .unset, .unset] [(.ref b1)])) _
    refine XS.dup X37.here hx rfl (hb hby at_62) rfl rfl ?_
    show Steps p.tables e below (T37.setTop (mkF m 63 #[.val (.int p0), .unset, .unset, .unset] [(.ref b1), (.ref b1)])) _
    refine XS.bipush X37.here hx rfl (hb hby at_63) ?_
    show Steps p.tables e below (T37.setTop (mkF m 65 #[.val (.int p0), .unset, .unset, .unset] [(.int (9 : Int32)), (.ref b1), (.ref b1)])) _
    refine st38 _ ?_
    show Steps p.tables e below (T38.setTop (mkF m 68 #[.val (.int p0), .unset, .unset, .unset] [(.ref (w 9)), (.int (9 : Int32)), (.ref b1), (.ref b1)])) _
    refine st41 _ ?_
    show Steps p.tables e below (T41.setTop (mkF m 69 #[.val (.int p0), .unset, .unset, .unset] [(.ref b1)])) _
    refine XS.dup X41.here hx rfl (hb hby at_69) rfl rfl ?_
    show Steps p.tables e below (T41.setTop (mkF m 70 #[.val (.int p0), .unset, .unset, .unset] [(.ref b1), (.ref b1)])) _
    refine XS.bipush X41.here hx rfl (hb hby at_70) ?_
    show Steps p.tables e below (T41.setTop (mkF m 72 #[.val (.int p0), .unset, .unset, .unset] [(.int (10 : Int32)), (.ref b1), (.ref b1)])) _
    refine st42 _ ?_
    show Steps p.tables e below (T42.setTop (mkF m 75 #[.val (.int p0), .unset, .unset, .unset] [(.ref (w 10)), (.int (10 : Int32)), (.ref b1), (.ref b1)])) _
    refine st45 _ ?_
    show Steps p.tables e below (T45.setTop (mkF m 76 #[.val (.int p0), .unset, .unset, .unset] [(.ref b1)])) _
    refine XS.dup X45.here hx rfl (hb hby at_76) rfl rfl ?_
    show Steps p.tables e below (T45.setTop (mkF m 77 #[.val (.int p0), .unset, .unset, .unset] [(.ref b1), (.ref b1)])) _
    refine XS.bipush X45.here hx rfl (hb hby at_77) ?_
    show Steps p.tables e below (T45.setTop (mkF m 79 #[.val (.int p0), .unset, .unset, .unset] [(.int (11 : Int32)), (.ref b1), (.ref b1)])) _
    refine st46 _ ?_
    show Steps p.tables e below (T46.setTop (mkF m 82 #[.val (.int p0), .unset, .unset, .unset] [(.ref (w 11)), (.int (11 : Int32)), (.ref b1), (.ref b1)])) _
    refine st49 _ ?_
    show Steps p.tables e below (T49.setTop (mkF m 83 #[.val (.int p0), .unset, .unset, .unset] [(.ref b1)])) _
    refine XS.dup X49.here hx rfl (hb hby at_83) rfl rfl ?_
    show Steps p.tables e below (T49.setTop (mkF m 84 #[.val (.int p0), .unset, .unset, .unset] [(.ref b1), (.ref b1)])) _
    refine XS.bipush X49.here hx rfl (hb hby at_84) ?_
    show Steps p.tables e below (T49.setTop (mkF m 86 #[.val (.int p0), .unset, .unset, .unset] [(.int (12 : Int32)), (.ref b1), (.ref b1)])) _
    refine st50 _ ?_
    show Steps p.tables e below (T50.setTop (mkF m 89 #[.val (.int p0), .unset, .unset, .unset] [(.ref (w 12)), (.int (12 : Int32)), (.ref b1), (.ref b1)])) _
    refine st53 _ ?_
    show Steps p.tables e below (T53.setTop (mkF m 90 #[.val (.int p0), .unset, .unset, .unset] [(.ref b1)])) _
    refine XS.astoreN X53.here hx rfl (hb hby at_90) rfl rfl (l' := #[.val (.int p0), .val (.ref b1), .unset, .unset]) rfl ?_
    show Steps p.tables e below (T53.setTop (mkF m 91 #[.val (.int p0), .val (.ref b1), .unset, .unset] [])) _
    refine XS.iloadN X53.here hx rfl (hb hby at_91) rfl ?_
    show Steps p.tables e below (T53.setTop (mkF m 92 #[.val (.int p0), .val (.ref b1), .unset, .unset] [(.int p0)])) _
    refine X53.ldcInt hx hown (mvT hZ (W hw 30 rfl)) (g := (mkF m 92 #[.val (.int p0), .val (.ref b1), .unset, .unset] [(.int p0)])) rfl (hb hby at_92) _ ?_
    show Steps p.tables e below (T53.setTop (mkF m 94 #[.val (.int p0), .val (.ref b1), .unset, .unset] [(.int (2147483647 : Int32)), (.int p0)])) _
    refine XS.iand X53.here hx rfl (hb hby at_94) rfl ?_
    show Steps p.tables e below (T53.setTop (mkF m 95 #[.val (.int p0), .val (.ref b1), .unset, .unset] [(.int (p0 &&& (2147483647 : Int32)))])) _
    refine XS.bipush X53.here hx rfl (hb hby at_95) ?_
    show Steps p.tables e below (T53.setTop (mkF m 97 #[.val (.int p0), .val (.ref b1), .unset, .unset] [(.int (13 : Int32)), (.int (p0 &&& (2147483647 : Int32)))])) _
    refine iremM X53 hx rfl (hb hby at_97) rfl (by decide : ¬ ((13 : Int32) = (0 : Int32))) ?_
    show Steps p.tables e below (T53.setTop (mkF m 98 #[.val (.int p0), .val (.ref b1), .unset, .unset] [(.int ((p0 &&& (2147483647 : Int32)) % (13 : Int32)))])) _
    rw [hp0]
    show Steps p.tables e below (T53.setTop (mkF m 98 #[.val (.int p0), .val (.ref b1), .unset, .unset] [(.int (3 : Int32))])) _
    refine XS.istoreN X53.here hx rfl (hb hby at_98) rfl (l' := #[.val (.int p0), .val (.ref b1), .val (.int (3 : Int32)), .unset]) rfl ?_
    show Steps p.tables e below (T53.setTop (mkF m 99 #[.val (.int p0), .val (.ref b1), .val (.int (3 : Int32)), .unset] [])) _
    refine XS.iloadN X53.here hx rfl (hb hby at_99) rfl ?_
    show Steps p.tables e below (T53.setTop (mkF m 100 #[.val (.int p0), .val (.ref b1), .val (.int (3 : Int32)), .unset] [(.int (3 : Int32))])) _
    refine XS.iconst X53.here hx rfl (hb hby at_100) ?_
    show Steps p.tables e below (T53.setTop (mkF m 101 #[.val (.int p0), .val (.ref b1), .val (.int (3 : Int32)), .unset] [(.int (2 : Int32)), (.int (3 : Int32))])) _
    refine XS.icmpNo X53.here hx rfl (hb hby at_101) rfl (feq (by decide : ¬ ((3 : Int32) = (2 : Int32)))).1 ?_
    show Steps p.tables e below (T53.setTop (mkF m 104 #[.val (.int p0), .val (.ref b1), .val (.int (3 : Int32)), .unset] [])) _
    refine XS.iloadN X53.here hx rfl (hb hby at_104) rfl ?_
    show Steps p.tables e below (T53.setTop (mkF m 105 #[.val (.int p0), .val (.ref b1), .val (.int (3 : Int32)), .unset] [(.int (3 : Int32))])) _
    refine XS.iconst X53.here hx rfl (hb hby at_105) ?_
    show Steps p.tables e below (T53.setTop (mkF m 106 #[.val (.int p0), .val (.ref b1), .val (.int (3 : Int32)), .unset] [(.int (4 : Int32)), (.int (3 : Int32))])) _
    refine XS.icmpYes X53.here hx rfl (pc0 := 106) (pc' := 113) rfl (hb hby at_106) rfl (feq (by decide : ¬ ((3 : Int32) = (4 : Int32)))).2 (by decide) (by decide) ?_
    show Steps p.tables e below (T53.setTop (mkF m 113 #[.val (.int p0), .val (.ref b1), .val (.int (3 : Int32)), .unset] [])) _
    refine XS.iconst X53.here hx rfl (hb hby at_113) ?_
    show Steps p.tables e below (T53.setTop (mkF m 114 #[.val (.int p0), .val (.ref b1), .val (.int (3 : Int32)), .unset] [(.int (0 : Int32))])) _
    refine XS.istoreN X53.here hx rfl (hb hby at_114) rfl (l' := #[.val (.int p0), .val (.ref b1), .val (.int (3 : Int32)), .val (.int (0 : Int32))]) rfl ?_
    show Steps p.tables e below (T53.setTop (mkF m 115 #[.val (.int p0), .val (.ref b1), .val (.int (3 : Int32)), .val (.int (0 : Int32))] [])) _
    refine XS.aloadN X53.here hx rfl (hb hby at_115) rfl rfl ?_
    show Steps p.tables e below (T53.setTop (mkF m 116 #[.val (.int p0), .val (.ref b1), .val (.int (3 : Int32)), .val (.int (0 : Int32))] [(.ref b1)])) _
    refine XS.iloadN X53.here hx rfl (hb hby at_116) rfl ?_
    show Steps p.tables e below (T53.setTop (mkF m 117 #[.val (.int p0), .val (.ref b1), .val (.int (3 : Int32)), .val (.int (0 : Int32))] [(.int (3 : Int32)), (.ref b1)])) _
    refine X53.aaload hx (j := (3 : Int32)) (v := (.ref (w 3))) (by rw [e53]; exact Ar54.1) (State.isArrayOf_alike hZ.alike Ar54.2.1) rfl Ar54.2.2 hin54 hat54 (g := (mkF m 117 #[.val (.int p0), .val (.ref b1), .val (.int (3 : Int32)), .val (.int (0 : Int32))] [(.int (3 : Int32)), (.ref b1)])) rfl rfl (hb hby at_117) _ ?_
    show Steps p.tables e below (T53.setTop (mkF m 118 #[.val (.int p0), .val (.ref b1), .val (.int (3 : Int32)), .val (.int (0 : Int32))] [(.ref (w 3))])) _
    refine st55.trans ?_
    show Steps p.tables e below (T55.setTop (mkF m 121 #[.val (.int p0), .val (.ref b1), .val (.int (3 : Int32)), .val (.int (0 : Int32))] [(.int (0 : Int32))])) _
    refine XS.iloadN X55.here hx rfl (hb hby at_121) rfl ?_
    show Steps p.tables e below (T55.setTop (mkF m 122 #[.val (.int p0), .val (.ref b1), .val (.int (3 : Int32)), .val (.int (0 : Int32))] [(.int (0 : Int32)), (.int (0 : Int32))])) _
    refine XS.icmpNo X55.here hx rfl (hb hby at_122) rfl (teq (by decide : (0 : Int32) = (0 : Int32))).2 ?_
    show Steps p.tables e below (T55.setTop (mkF m 125 #[.val (.int p0), .val (.ref b1), .val (.int (3 : Int32)), .val (.int (0 : Int32))] [])) _
    refine XS.iconst X55.here hx rfl (hb hby at_125) ?_
    show Steps p.tables e below (T55.setTop (mkF m 126 #[.val (.int p0), .val (.ref b1), .val (.int (3 : Int32)), .val (.int (0 : Int32))] [(.int (1 : Int32))])) _
    refine XS.goto X55.here hx rfl (pc0 := 126) (pc' := 130) rfl (hb hby at_126) (by decide) (by decide) ?_
    show Steps p.tables e below (T55.setTop (mkF m 130 #[.val (.int p0), .val (.ref b1), .val (.int (3 : Int32)), .val (.int (0 : Int32))] [(.int (1 : Int32))])) _
    exact retN X55 hx (t := .boolean) Bd.returns (by simp) (hb hby at_130) hr
  · show OL (some (.int (1 : Int32))) Z.heap.size _ T55.heap _
    exact ⟨rfl, N55⟩
set_option maxRecDepth 65536 in
set_option maxHeartbeats 40000000 in
theorem rm_9 (l : Launch) (Z : State) (a0 : Array Value) (hw : ∀ d ∈ tables_1, d.before a0 Z = true) (w : Nat → Addr) (kk : Nat → ClassId) (hN : Wd Z w kk) (ws : List Jvm.Cond)  (h0 : Heap) (O0 : Old Z Z.heap.size h0) :
    MetFree l (⟨"com/example/netloom/netloom/net/ElementKind", "isPlace", "()Z"⟩ : MethodName) (head1 (Jvm.Cond.code (⟨"com/example/netloom/netloom/net/ElementKind", "isPlace", "()Z"⟩ : MethodName) prog_22_method_5_code 1 (some .boolean) :: ws) ({ frames := 0, cells := 0, slots := 0, locals := 0 } : Room)) (fun a U => a = #[(.ref (w 4))] ∧ Z.Warmed39 U.vm ∧ U.heap = h0) (fun _ _ _ _ _ => True) (fun _ U o U' => ∃ v L, o = .returned v ∧ OQ (some (.int (1 : Int32))) h0 Z.heap.size v U'.heap L ∧ FrameEnd U o U' L ({ frames := 0, cells := 0, slots := 0, locals := 0 } : Room).cells ({ frames := 0, cells := 0, slots := 0, locals := 0 } : Room).slots) := by
  have hN' := hN
  obtain ⟨hS0, hE0, hS1, hE1, hS2, hE2, hS3, hE3, hS4, hE4, hS5, hE5, hS6, hE6, hS7, hE7, hS8, hE8, hS9, hE9, hS10, hE10, hS11, hE11, hS12, hE12, hF0_ordinal, hF2_ordinal, hF4_ordinal, hF3_ordinal, hF6_ordinal, hF5_ordinal, hF7_ordinal, hF9_ordinal, hF11_ordinal, hF1_ordinal, hF8_ordinal, hF10_ordinal, hF12_ordinal⟩ := hN'
  refine MetFree.of_bodySF (plainFor_of_name pn_0) hisR ?_
  intro p e s m args below meth c s₁ Bd hml0 hP hK
  obtain ⟨rfl, hZ, hh⟩ := hP
  have hx := Bd.exec
  have hby := Bd.bytes
  have hml : c.maxLocals = 1 := hml0
  have hown : s.vm.findClass "com/example/netloom/netloom/net/ElementKind" = some m.cls := findClass_of_methodNamed Bd.named
  have hnm := (name_of_methodNamed Bd.named Bd.method).1
  have X0 : Stand p l e ({ frames := 0, cells := 0, slots := 0, locals := 0 } : Room) s m #[(.ref (w 4))] below meth c s₁ [] 0 0 := Stand.of_body Bd
  have e0 : s₁.heap = h0 := by rw [← hh, Bd.state]; rfl
  have N0 := Fr.nil Z.heap.size
  have pre0 : ∀ t, Steps p.tables e below (s₁.setTop (mkF m 0 #[.val (.ref (w 4))] [])) t → Steps p.tables e below (s₁.setTop (entryFrame m #[(.ref (w 4))] 1)) t := fun t k => castTop (ef_0 m (.ref (w 4)) rfl) k
  obtain ⟨T1, X1, e1, st1⟩ := getS2 X0 hx hZ hown (host := "") (Or.inl (W hw 36 rfl)) Via.refl e0 (hS2.ext O0.2) (g := (mkF m 1 #[.val (.ref (w 4))] [(.ref (w 4))])) rfl (hb hby d_prog_22_method_5_code_1)
  obtain ⟨T2, X2, e2, st2⟩ := getS2 X1 hx hZ hown (host := "") (Or.inl (W hw 37 rfl)) Via.refl e1 (hS4.ext O0.2) (g := (mkF m 8 #[.val (.ref (w 4))] [(.ref (w 4))])) rfl (hb hby d_prog_22_method_5_code_8)
  obtain ⟨fs, hr, hrun, hended, hW, hsame⟩ := X2.leave (v := some (.int (1 : Int32))) (fun h => by rw [Bd.returns] at h; cases h)
  refine ⟨_, _, pre0 _ ?_, hrun, hended, _, _, rfl, ?_, ⟨_, rfl⟩, hW, hsame.mono (by decide) (by decide)⟩
  · show Steps p.tables e below (s₁.setTop (mkF m 0 #[.val (.ref (w 4))] [])) _
    refine XS.aloadN X0.here hx rfl (hb hby d_prog_22_method_5_code_0) rfl rfl ?_
    show Steps p.tables e below (s₁.setTop (mkF m 1 #[.val (.ref (w 4))] [(.ref (w 4))])) _
    refine st1 _ ?_
    show Steps p.tables e below (T1.setTop (mkF m 4 #[.val (.ref (w 4))] [(.ref (w 2)), (.ref (w 4))])) _
    refine Jvm.RoadKit.acmp (g := (mkF m 4 #[.val (.ref (w 4))] [(.ref (w 2)), (.ref (w 4))])) X1 hx rfl rfl rfl (pc0 := 4) (pc' := 7) (same := false) rfl (hb hby d_prog_22_method_5_code_4) rfl (decide_eq_false fun q => (Fld.ne hF4_ordinal hF2_ordinal (by decide)) (Value.ref.inj q)) (by decide) (by decide) ?_
    show Steps p.tables e below (T1.setTop (mkF m 7 #[.val (.ref (w 4))] [])) _
    refine XS.aloadN X1.here hx rfl (hb hby d_prog_22_method_5_code_7) rfl rfl ?_
    show Steps p.tables e below (T1.setTop (mkF m 8 #[.val (.ref (w 4))] [(.ref (w 4))])) _
    refine st2 _ ?_
    show Steps p.tables e below (T2.setTop (mkF m 11 #[.val (.ref (w 4))] [(.ref (w 4)), (.ref (w 4))])) _
    refine Jvm.RoadKit.acmp (g := (mkF m 11 #[.val (.ref (w 4))] [(.ref (w 4)), (.ref (w 4))])) X2 hx rfl rfl rfl (pc0 := 11) (pc' := 14) (same := true) rfl (hb hby d_prog_22_method_5_code_11) rfl (decide_eq_true rfl) (by decide) (by decide) ?_
    show Steps p.tables e below (T2.setTop (mkF m 14 #[.val (.ref (w 4))] [])) _
    refine XS.iconst X2.here hx rfl (hb hby d_prog_22_method_5_code_14) ?_
    show Steps p.tables e below (T2.setTop (mkF m 15 #[.val (.ref (w 4))] [(.int (1 : Int32))])) _
    refine XS.goto X2.here hx rfl (pc0 := 15) (pc' := 19) rfl (hb hby d_prog_22_method_5_code_15) (by decide) (by decide) ?_
    show Steps p.tables e below (T2.setTop (mkF m 19 #[.val (.ref (w 4))] [(.int (1 : Int32))])) _
    exact retN X2 hx (t := .boolean) Bd.returns (by simp) (hb hby d_prog_22_method_5_code_19) hr
  · show OQ (some (.int (1 : Int32))) h0 Z.heap.size _ T2.heap _
    rw [e2]
    exact ⟨rfl, N0, rfl⟩
set_option maxRecDepth 65536 in
set_option maxHeartbeats 40000000 in
theorem law_10 (l : Launch) (Z : State) (a0 : Array Value) (hw : ∀ d ∈ tables_1, d.before a0 Z = true) (w : Nat → Addr) (kk : Nat → ClassId) (hN : Wd Z w kk) (ws : List Jvm.Cond) (p0 : Int32) (h0 : Heap) (O0 : Old Z Z.heap.size h0) (hp0 : ((p0 &&& (2147483647 : Int32)) % (13 : Int32)) = (4 : Int32)) :
    MetFree l x (head1 (Jvm.Cond.code x code maxLocals ret :: ws) room_1) (fun a U => a = #[(.int p0)] ∧ Z.Warmed39 U.vm ∧ U.heap = h0) (fun _ _ _ _ _ => True) (fun _ U o U' => ∃ v L, o = .returned v ∧ OL (some (.int (1 : Int32))) Z.heap.size v U'.heap L ∧ FrameEnd U o U' L 16 128) := by
  have hN' := hN
  obtain ⟨hS0, hE0, hS1, hE1, hS2, hE2, hS3, hE3, hS4, hE4, hS5, hE5, hS6, hE6, hS7, hE7, hS8, hE8, hS9, hE9, hS10, hE10, hS11, hE11, hS12, hE12, hF0_ordinal, hF2_ordinal, hF4_ordinal, hF3_ordinal, hF6_ordinal, hF5_ordinal, hF7_ordinal, hF9_ordinal, hF11_ordinal, hF1_ordinal, hF8_ordinal, hF10_ordinal, hF12_ordinal⟩ := hN'
  refine MetFree.of_bodySF (plainFor_of_name pn_1) hisR ?_
  intro p e s m args below meth c s₁ Bd hml0 hP hK
  obtain ⟨rfl, hZ, hh⟩ := hP
  have hx := Bd.exec
  have hby := Bd.bytes
  have hml : c.maxLocals = 4 := hml0
  have hown : s.vm.findClass "com/example/netloom/netloom/net/ElementKindIsPlacePinLaw" = some m.cls := findClass_of_methodNamed Bd.named
  have hnm := (name_of_methodNamed Bd.named Bd.method).1
  have X0 : Stand p l e room_1 s m #[(.int p0)] below meth c s₁ [] 0 0 := Stand.of_body Bd
  have e0 : s₁.heap = h0 := by rw [← hh, Bd.state]; rfl
  have N0 := Fr.nil Z.heap.size
  have pre0 : ∀ t, Steps p.tables e below (s₁.setTop (mkF m 0 #[.val (.int p0), .unset, .unset, .unset] [])) t → Steps p.tables e below (s₁.setTop (entryFrame m #[(.int p0)] maxLocals)) t := fun t k => castTop (ef_1 m (.int p0) rfl) k
  obtain ⟨T1, h1, k1, X1, e1, E1, A1, Ov1, st1⟩ := newR X0 hx hZ hown (W hw 0 rfl) (W hw 1 rfl) e0 (g := (mkF m 2 #[.val (.int p0), .unset, .unset, .unset] [(.int (13 : Int32))])) rfl (hb hby at_2) rfl (by decide) (cap := 13) (by decide) (by decide) (by decide) (by decide)
  obtain ⟨b1, g1⟩ : ∃ z, z = h0.size := ⟨_, rfl⟩
  rw [← g1] at A1 st1
  have gn_b1 : Z.heap.size ≤ b1 := Nat.le_trans O0.2.1 (Nat.le_of_eq g1.symm)
  have O1 := O0.ext E1
  have V_b1_v1 : Arv Z h1 b1 k1 (.object "com/example/netloom/netloom/net/ElementKind") (13 : Int32) [] .null := Arv.new A1 (by decide)
  obtain ⟨T2, X2, e2, st2⟩ := getS2 X1 hx hZ hown (host := "") (Or.inl (W hw 2 rfl)) Via.refl e1 (hS0.ext O1.2) (g := (mkF m 7 #[.val (.int p0), .unset, .unset, .unset] [(.int (0 : Int32)), (.ref b1), (.ref b1)])) rfl (hb hby at_7)
  have V_b1_v3 : Arv Z h1 b1 k1 (.object "com/example/netloom/netloom/net/ElementKind") (13 : Int32) [.null] .null := V_b1_v1.pad (pad_rep [] .null 1)
  obtain ⟨cl4, Ar4, q4, Sz4, Ng4, Hv4, Gv4⟩ := V_b1_v3
  have hin4 : ¬ ((0 : Int32) < 0 ∨ cl4.slots.size ≤ ((0 : Int32)).toNatClampNeg) := inb_of Sz4 ⟨by decide, by decide⟩
  obtain ⟨T5, h5, X5, e5, W5, st5⟩ := stR X2 hx hZ e2 Ar4 (j := (0 : Int32)) (v := (.ref (w 0))) hin4 rfl (Sto.ofV Ar4 q4 Ov1 (Ins.self (hE0.ext O1.2))) (g := (mkF m 10 #[.val (.int p0), .unset, .unset, .unset] [(.ref (w 0)), (.int (0 : Int32)), (.ref b1), (.ref b1)])) rfl rfl (hb hby at_10)
  have V_b1_v5 : Arv Z h5 b1 k1 (.object "com/example/netloom/netloom/net/ElementKind") (13 : Int32) [(.ref (w 0))] .null := Arv.set Ar4 q4 Sz4 Ng4 Hv4 Gv4 rfl W5 0 rfl (Nat.le_of_ble_eq_true rfl)
  have N5 := Fr.snoc X5 N0 gn_b1
  have O5 := O1.wr W5 gn_b1
  obtain ⟨T6, X6, e6, st6⟩ := getS2 X5 hx hZ hown (host := "") (Or.inl (W hw 6 rfl)) Via.refl e5 (hS1.ext O5.2) (g := (mkF m 13 #[.val (.int p0), .unset, .unset, .unset] [(.int (1 : Int32)), (.ref b1), (.ref b1)])) rfl (hb hby at_13)
  have V_b1_v7 : Arv Z h5 b1 k1 (.object "com/example/netloom/netloom/net/ElementKind") (13 : Int32) [(.ref (w 0)), .null] .null := V_b1_v5.pad (pad_rep [(.ref (w 0))] .null 1)
  obtain ⟨cl8, Ar8, q8, Sz8, Ng8, Hv8, Gv8⟩ := V_b1_v7
  have hin8 : ¬ ((1 : Int32) < 0 ∨ cl8.slots.size ≤ ((1 : Int32)).toNatClampNeg) := inb_of Sz8 ⟨by decide, by decide⟩
  obtain ⟨T9, h9, X9, e9, W9, st9⟩ := stR X6 hx hZ e6 Ar8 (j := (1 : Int32)) (v := (.ref (w 1))) hin8 rfl (Sto.ofV Ar8 q8 Ov1 (Ins.self (hE1.ext O5.2))) (g := (mkF m 16 #[.val (.int p0), .unset, .unset, .unset] [(.ref (w 1)), (.int (1 : Int32)), (.ref b1), (.ref b1)])) rfl rfl (hb hby at_16)
  have V_b1_v9 : Arv Z h9 b1 k1 (.object "com/example/netloom/netloom/net/ElementKind") (13 : Int32) [(.ref (w 0)), (.ref (w 1))] .null := Arv.set Ar8 q8 Sz8 Ng8 Hv8 Gv8 rfl W9 1 rfl (Nat.le_of_ble_eq_true rfl)
  have N9 := Fr.snoc X9 N5 gn_b1
  have O9 := O5.wr W9 gn_b1
  obtain ⟨T10, X10, e10, st10⟩ := getS2 X9 hx hZ hown (host := "") (Or.inl (W hw 8 rfl)) Via.refl e9 (hS2.ext O9.2) (g := (mkF m 19 #[.val (.int p0), .unset, .unset, .unset] [(.int (2 : Int32)), (.ref b1), (.ref b1)])) rfl (hb hby at_19)
  have V_b1_v11 : Arv Z h9 b1 k1 (.object "com/example/netloom/netloom/net/ElementKind") (13 : Int32) [(.ref (w 0)), (.ref (w 1)), .null] .null := V_b1_v9.pad (pad_rep [(.ref (w 0)), (.ref (w 1))] .null 1)
  obtain ⟨cl12, Ar12, q12, Sz12, Ng12, Hv12, Gv12⟩ := V_b1_v11
  have hin12 : ¬ ((2 : Int32) < 0 ∨ cl12.slots.size ≤ ((2 : Int32)).toNatClampNeg) := inb_of Sz12 ⟨by decide, by decide⟩
  obtain ⟨T13, h13, X13, e13, W13, st13⟩ := stR X10 hx hZ e10 Ar12 (j := (2 : Int32)) (v := (.ref (w 2))) hin12 rfl (Sto.ofV Ar12 q12 Ov1 (Ins.self (hE2.ext O9.2))) (g := (mkF m 22 #[.val (.int p0), .unset, .unset, .unset] [(.ref (w 2)), (.int (2 : Int32)), (.ref b1), (.ref b1)])) rfl rfl (hb hby at_22)
  have V_b1_v13 : Arv Z h13 b1 k1 (.object "com/example/netloom/netloom/net/ElementKind") (13 : Int32) [(.ref (w 0)), (.ref (w 1)), (.ref (w 2))] .null := Arv.set Ar12 q12 Sz12 Ng12 Hv12 Gv12 rfl W13 2 rfl (Nat.le_of_ble_eq_true rfl)
  have N13 := Fr.snoc X13 N9 gn_b1
  have O13 := O9.wr W13 gn_b1
  obtain ⟨T14, X14, e14, st14⟩ := getS2 X13 hx hZ hown (host := "") (Or.inl (W hw 10 rfl)) Via.refl e13 (hS3.ext O13.2) (g := (mkF m 25 #[.val (.int p0), .unset, .unset, .unset] [(.int (3 : Int32)), (.ref b1), (.ref b1)])) rfl (hb hby at_25)
  have V_b1_v15 : Arv Z h13 b1 k1 (.object "com/example/netloom/netloom/net/ElementKind") (13 : Int32) [(.ref (w 0)), (.ref (w 1)), (.ref (w 2)), .null] .null := V_b1_v13.pad (pad_rep [(.ref (w 0)), (.ref (w 1)), (.ref (w 2))] .null 1)
  obtain ⟨cl16, Ar16, q16, Sz16, Ng16, Hv16, Gv16⟩ := V_b1_v15
  have hin16 : ¬ ((3 : Int32) < 0 ∨ cl16.slots.size ≤ ((3 : Int32)).toNatClampNeg) := inb_of Sz16 ⟨by decide, by decide⟩
  obtain ⟨T17, h17, X17, e17, W17, st17⟩ := stR X14 hx hZ e14 Ar16 (j := (3 : Int32)) (v := (.ref (w 3))) hin16 rfl (Sto.ofV Ar16 q16 Ov1 (Ins.self (hE3.ext O13.2))) (g := (mkF m 28 #[.val (.int p0), .unset, .unset, .unset] [(.ref (w 3)), (.int (3 : Int32)), (.ref b1), (.ref b1)])) rfl rfl (hb hby at_28)
  have V_b1_v17 : Arv Z h17 b1 k1 (.object "com/example/netloom/netloom/net/ElementKind") (13 : Int32) [(.ref (w 0)), (.ref (w 1)), (.ref (w 2)), (.ref (w 3))] .null := Arv.set Ar16 q16 Sz16 Ng16 Hv16 Gv16 rfl W17 3 rfl (Nat.le_of_ble_eq_true rfl)
  have N17 := Fr.snoc X17 N13 gn_b1
  have O17 := O13.wr W17 gn_b1
  obtain ⟨T18, X18, e18, st18⟩ := getS2 X17 hx hZ hown (host := "") (Or.inl (W hw 12 rfl)) Via.refl e17 (hS4.ext O17.2) (g := (mkF m 31 #[.val (.int p0), .unset, .unset, .unset] [(.int (4 : Int32)), (.ref b1), (.ref b1)])) rfl (hb hby at_31)
  have V_b1_v19 : Arv Z h17 b1 k1 (.object "com/example/netloom/netloom/net/ElementKind") (13 : Int32) [(.ref (w 0)), (.ref (w 1)), (.ref (w 2)), (.ref (w 3)), .null] .null := V_b1_v17.pad (pad_rep [(.ref (w 0)), (.ref (w 1)), (.ref (w 2)), (.ref (w 3))] .null 1)
  obtain ⟨cl20, Ar20, q20, Sz20, Ng20, Hv20, Gv20⟩ := V_b1_v19
  have hin20 : ¬ ((4 : Int32) < 0 ∨ cl20.slots.size ≤ ((4 : Int32)).toNatClampNeg) := inb_of Sz20 ⟨by decide, by decide⟩
  obtain ⟨T21, h21, X21, e21, W21, st21⟩ := stR X18 hx hZ e18 Ar20 (j := (4 : Int32)) (v := (.ref (w 4))) hin20 rfl (Sto.ofV Ar20 q20 Ov1 (Ins.self (hE4.ext O17.2))) (g := (mkF m 34 #[.val (.int p0), .unset, .unset, .unset] [(.ref (w 4)), (.int (4 : Int32)), (.ref b1), (.ref b1)])) rfl rfl (hb hby at_34)
  have V_b1_v21 : Arv Z h21 b1 k1 (.object "com/example/netloom/netloom/net/ElementKind") (13 : Int32) [(.ref (w 0)), (.ref (w 1)), (.ref (w 2)), (.ref (w 3)), (.ref (w 4))] .null := Arv.set Ar20 q20 Sz20 Ng20 Hv20 Gv20 rfl W21 4 rfl (Nat.le_of_ble_eq_true rfl)
  have N21 := Fr.snoc X21 N17 gn_b1
  have O21 := O17.wr W21 gn_b1
  obtain ⟨T22, X22, e22, st22⟩ := getS2 X21 hx hZ hown (host := "") (Or.inl (W hw 14 rfl)) Via.refl e21 (hS5.ext O21.2) (g := (mkF m 37 #[.val (.int p0), .unset, .unset, .unset] [(.int (5 : Int32)), (.ref b1), (.ref b1)])) rfl (hb hby at_37)
  have V_b1_v23 : Arv Z h21 b1 k1 (.object "com/example/netloom/netloom/net/ElementKind") (13 : Int32) [(.ref (w 0)), (.ref (w 1)), (.ref (w 2)), (.ref (w 3)), (.ref (w 4)), .null] .null := V_b1_v21.pad (pad_rep [(.ref (w 0)), (.ref (w 1)), (.ref (w 2)), (.ref (w 3)), (.ref (w 4))] .null 1)
  obtain ⟨cl24, Ar24, q24, Sz24, Ng24, Hv24, Gv24⟩ := V_b1_v23
  have hin24 : ¬ ((5 : Int32) < 0 ∨ cl24.slots.size ≤ ((5 : Int32)).toNatClampNeg) := inb_of Sz24 ⟨by decide, by decide⟩
  obtain ⟨T25, h25, X25, e25, W25, st25⟩ := stR X22 hx hZ e22 Ar24 (j := (5 : Int32)) (v := (.ref (w 5))) hin24 rfl (Sto.ofV Ar24 q24 Ov1 (Ins.self (hE5.ext O21.2))) (g := (mkF m 40 #[.val (.int p0), .unset, .unset, .unset] [(.ref (w 5)), (.int (5 : Int32)), (.ref b1), (.ref b1)])) rfl rfl (hb hby at_40)
  have V_b1_v25 : Arv Z h25 b1 k1 (.object "com/example/netloom/netloom/net/ElementKind") (13 : Int32) [(.ref (w 0)), (.ref (w 1)), (.ref (w 2)), (.ref (w 3)), (.ref (w 4)), (.ref (w 5))] .null := Arv.set Ar24 q24 Sz24 Ng24 Hv24 Gv24 rfl W25 5 rfl (Nat.le_of_ble_eq_true rfl)
  have N25 := Fr.snoc X25 N21 gn_b1
  have O25 := O21.wr W25 gn_b1
  obtain ⟨T26, X26, e26, st26⟩ := getS2 X25 hx hZ hown (host := "") (Or.inl (W hw 16 rfl)) Via.refl e25 (hS6.ext O25.2) (g := (mkF m 44 #[.val (.int p0), .unset, .unset, .unset] [(.int (6 : Int32)), (.ref b1), (.ref b1)])) rfl (hb hby at_44)
  have V_b1_v27 : Arv Z h25 b1 k1 (.object "com/example/netloom/netloom/net/ElementKind") (13 : Int32) [(.ref (w 0)), (.ref (w 1)), (.ref (w 2)), (.ref (w 3)), (.ref (w 4)), (.ref (w 5)), .null] .null := V_b1_v25.pad (pad_rep [(.ref (w 0)), (.ref (w 1)), (.ref (w 2)), (.ref (w 3)), (.ref (w 4)), (.ref (w 5))] .null 1)
  obtain ⟨cl28, Ar28, q28, Sz28, Ng28, Hv28, Gv28⟩ := V_b1_v27
  have hin28 : ¬ ((6 : Int32) < 0 ∨ cl28.slots.size ≤ ((6 : Int32)).toNatClampNeg) := inb_of Sz28 ⟨by decide, by decide⟩
  obtain ⟨T29, h29, X29, e29, W29, st29⟩ := stR X26 hx hZ e26 Ar28 (j := (6 : Int32)) (v := (.ref (w 6))) hin28 rfl (Sto.ofV Ar28 q28 Ov1 (Ins.self (hE6.ext O25.2))) (g := (mkF m 47 #[.val (.int p0), .unset, .unset, .unset] [(.ref (w 6)), (.int (6 : Int32)), (.ref b1), (.ref b1)])) rfl rfl (hb hby at_47)
  have V_b1_v29 : Arv Z h29 b1 k1 (.object "com/example/netloom/netloom/net/ElementKind") (13 : Int32) [(.ref (w 0)), (.ref (w 1)), (.ref (w 2)), (.ref (w 3)), (.ref (w 4)), (.ref (w 5)), (.ref (w 6))] .null := Arv.set Ar28 q28 Sz28 Ng28 Hv28 Gv28 rfl W29 6 rfl (Nat.le_of_ble_eq_true rfl)
  have N29 := Fr.snoc X29 N25 gn_b1
  have O29 := O25.wr W29 gn_b1
  obtain ⟨T30, X30, e30, st30⟩ := getS2 X29 hx hZ hown (host := "") (Or.inl (W hw 18 rfl)) Via.refl e29 (hS7.ext O29.2) (g := (mkF m 51 #[.val (.int p0), .unset, .unset, .unset] [(.int (7 : Int32)), (.ref b1), (.ref b1)])) rfl (hb hby at_51)
  have V_b1_v31 : Arv Z h29 b1 k1 (.object "com/example/netloom/netloom/net/ElementKind") (13 : Int32) [(.ref (w 0)), (.ref (w 1)), (.ref (w 2)), (.ref (w 3)), (.ref (w 4)), (.ref (w 5)), (.ref (w 6)), .null] .null := V_b1_v29.pad (pad_rep [(.ref (w 0)), (.ref (w 1)), (.ref (w 2)), (.ref (w 3)), (.ref (w 4)), (.ref (w 5)), (.ref (w 6))] .null 1)
  obtain ⟨cl32, Ar32, q32, Sz32, Ng32, Hv32, Gv32⟩ := V_b1_v31
  have hin32 : ¬ ((7 : Int32) < 0 ∨ cl32.slots.size ≤ ((7 : Int32)).toNatClampNeg) := inb_of Sz32 ⟨by decide, by decide⟩
  obtain ⟨T33, h33, X33, e33, W33, st33⟩ := stR X30 hx hZ e30 Ar32 (j := (7 : Int32)) (v := (.ref (w 7))) hin32 rfl (Sto.ofV Ar32 q32 Ov1 (Ins.self (hE7.ext O29.2))) (g := (mkF m 54 #[.val (.int p0), .unset, .unset, .unset] [(.ref (w 7)), (.int (7 : Int32)), (.ref b1), (.ref b1)])) rfl rfl (hb hby at_54)
  have V_b1_v33 : Arv Z h33 b1 k1 (.object "com/example/netloom/netloom/net/ElementKind") (13 : Int32) [(.ref (w 0)), (.ref (w 1)), (.ref (w 2)), (.ref (w 3)), (.ref (w 4)), (.ref (w 5)), (.ref (w 6)), (.ref (w 7))] .null := Arv.set Ar32 q32 Sz32 Ng32 Hv32 Gv32 rfl W33 7 rfl (Nat.le_of_ble_eq_true rfl)
  have N33 := Fr.snoc X33 N29 gn_b1
  have O33 := O29.wr W33 gn_b1
  obtain ⟨T34, X34, e34, st34⟩ := getS2 X33 hx hZ hown (host := "") (Or.inl (W hw 20 rfl)) Via.refl e33 (hS8.ext O33.2) (g := (mkF m 58 #[.val (.int p0), .unset, .unset, .unset] [(.int (8 : Int32)), (.ref b1), (.ref b1)])) rfl (hb hby at_58)
  have V_b1_v35 : Arv Z h33 b1 k1 (.object "com/example/netloom/netloom/net/ElementKind") (13 : Int32) [(.ref (w 0)), (.ref (w 1)), (.ref (w 2)), (.ref (w 3)), (.ref (w 4)), (.ref (w 5)), (.ref (w 6)), (.ref (w 7)), .null] .null := V_b1_v33.pad (pad_rep [(.ref (w 0)), (.ref (w 1)), (.ref (w 2)), (.ref (w 3)), (.ref (w 4)), (.ref (w 5)), (.ref (w 6)), (.ref (w 7))] .null 1)
  obtain ⟨cl36, Ar36, q36, Sz36, Ng36, Hv36, Gv36⟩ := V_b1_v35
  have hin36 : ¬ ((8 : Int32) < 0 ∨ cl36.slots.size ≤ ((8 : Int32)).toNatClampNeg) := inb_of Sz36 ⟨by decide, by decide⟩
  obtain ⟨T37, h37, X37, e37, W37, st37⟩ := stR X34 hx hZ e34 Ar36 (j := (8 : Int32)) (v := (.ref (w 8))) hin36 rfl (Sto.ofV Ar36 q36 Ov1 (Ins.self (hE8.ext O33.2))) (g := (mkF m 61 #[.val (.int p0), .unset, .unset, .unset] [(.ref (w 8)), (.int (8 : Int32)), (.ref b1), (.ref b1)])) rfl rfl (hb hby at_61)
  have V_b1_v37 : Arv Z h37 b1 k1 (.object "com/example/netloom/netloom/net/ElementKind") (13 : Int32) [(.ref (w 0)), (.ref (w 1)), (.ref (w 2)), (.ref (w 3)), (.ref (w 4)), (.ref (w 5)), (.ref (w 6)), (.ref (w 7)), (.ref (w 8))] .null := Arv.set Ar36 q36 Sz36 Ng36 Hv36 Gv36 rfl W37 8 rfl (Nat.le_of_ble_eq_true rfl)
  have N37 := Fr.snoc X37 N33 gn_b1
  have O37 := O33.wr W37 gn_b1
  obtain ⟨T38, X38, e38, st38⟩ := getS2 X37 hx hZ hown (host := "") (Or.inl (W hw 22 rfl)) Via.refl e37 (hS9.ext O37.2) (g := (mkF m 65 #[.val (.int p0), .unset, .unset, .unset] [(.int (9 : Int32)), (.ref b1), (.ref b1)])) rfl (hb hby at_65)
  have V_b1_v39 : Arv Z h37 b1 k1 (.object "com/example/netloom/netloom/net/ElementKind") (13 : Int32) [(.ref (w 0)), (.ref (w 1)), (.ref (w 2)), (.ref (w 3)), (.ref (w 4)), (.ref (w 5)), (.ref (w 6)), (.ref (w 7)), (.ref (w 8)), .null] .null := V_b1_v37.pad (pad_rep [(.ref (w 0)), (.ref (w 1)), (.ref (w 2)), (.ref (w 3)), (.ref (w 4)), (.ref (w 5)), (.ref (w 6)), (.ref (w 7)), (.ref (w 8))] .null 1)
  obtain ⟨cl40, Ar40, q40, Sz40, Ng40, Hv40, Gv40⟩ := V_b1_v39
  have hin40 : ¬ ((9 : Int32) < 0 ∨ cl40.slots.size ≤ ((9 : Int32)).toNatClampNeg) := inb_of Sz40 ⟨by decide, by decide⟩
  obtain ⟨T41, h41, X41, e41, W41, st41⟩ := stR X38 hx hZ e38 Ar40 (j := (9 : Int32)) (v := (.ref (w 9))) hin40 rfl (Sto.ofV Ar40 q40 Ov1 (Ins.self (hE9.ext O37.2))) (g := (mkF m 68 #[.val (.int p0), .unset, .unset, .unset] [(.ref (w 9)), (.int (9 : Int32)), (.ref b1), (.ref b1)])) rfl rfl (hb hby at_68)
  have V_b1_v41 : Arv Z h41 b1 k1 (.object "com/example/netloom/netloom/net/ElementKind") (13 : Int32) [(.ref (w 0)), (.ref (w 1)), (.ref (w 2)), (.ref (w 3)), (.ref (w 4)), (.ref (w 5)), (.ref (w 6)), (.ref (w 7)), (.ref (w 8)), (.ref (w 9))] .null := Arv.set Ar40 q40 Sz40 Ng40 Hv40 Gv40 rfl W41 9 rfl (Nat.le_of_ble_eq_true rfl)
  have N41 := Fr.snoc X41 N37 gn_b1
  have O41 := O37.wr W41 gn_b1
  obtain ⟨T42, X42, e42, st42⟩ := getS2 X41 hx hZ hown (host := "") (Or.inl (W hw 24 rfl)) Via.refl e41 (hS10.ext O41.2) (g := (mkF m 72 #[.val (.int p0), .unset, .unset, .unset] [(.int (10 : Int32)), (.ref b1), (.ref b1)])) rfl (hb hby at_72)
  have V_b1_v43 : Arv Z h41 b1 k1 (.object "com/example/netloom/netloom/net/ElementKind") (13 : Int32) [(.ref (w 0)), (.ref (w 1)), (.ref (w 2)), (.ref (w 3)), (.ref (w 4)), (.ref (w 5)), (.ref (w 6)), (.ref (w 7)), (.ref (w 8)), (.ref (w 9)), .null] .null := V_b1_v41.pad (pad_rep [(.ref (w 0)), (.ref (w 1)), (.ref (w 2)), (.ref (w 3)), (.ref (w 4)), (.ref (w 5)), (.ref (w 6)), (.ref (w 7)), (.ref (w 8)), (.ref (w 9))] .null 1)
  obtain ⟨cl44, Ar44, q44, Sz44, Ng44, Hv44, Gv44⟩ := V_b1_v43
  have hin44 : ¬ ((10 : Int32) < 0 ∨ cl44.slots.size ≤ ((10 : Int32)).toNatClampNeg) := inb_of Sz44 ⟨by decide, by decide⟩
  obtain ⟨T45, h45, X45, e45, W45, st45⟩ := stR X42 hx hZ e42 Ar44 (j := (10 : Int32)) (v := (.ref (w 10))) hin44 rfl (Sto.ofV Ar44 q44 Ov1 (Ins.self (hE10.ext O41.2))) (g := (mkF m 75 #[.val (.int p0), .unset, .unset, .unset] [(.ref (w 10)), (.int (10 : Int32)), (.ref b1), (.ref b1)])) rfl rfl (hb hby at_75)
  have V_b1_v45 : Arv Z h45 b1 k1 (.object "com/example/netloom/netloom/net/ElementKind") (13 : Int32) [(.ref (w 0)), (.ref (w 1)), (.ref (w 2)), (.ref (w 3)), (.ref (w 4)), (.ref (w 5)), (.ref (w 6)), (.ref (w 7)), (.ref (w 8)), (.ref (w 9)), (.ref (w 10))] .null := Arv.set Ar44 q44 Sz44 Ng44 Hv44 Gv44 rfl W45 10 rfl (Nat.le_of_ble_eq_true rfl)
  have N45 := Fr.snoc X45 N41 gn_b1
  have O45 := O41.wr W45 gn_b1
  obtain ⟨T46, X46, e46, st46⟩ := getS2 X45 hx hZ hown (host := "") (Or.inl (W hw 26 rfl)) Via.refl e45 (hS11.ext O45.2) (g := (mkF m 79 #[.val (.int p0), .unset, .unset, .unset] [(.int (11 : Int32)), (.ref b1), (.ref b1)])) rfl (hb hby at_79)
  have V_b1_v47 : Arv Z h45 b1 k1 (.object "com/example/netloom/netloom/net/ElementKind") (13 : Int32) [(.ref (w 0)), (.ref (w 1)), (.ref (w 2)), (.ref (w 3)), (.ref (w 4)), (.ref (w 5)), (.ref (w 6)), (.ref (w 7)), (.ref (w 8)), (.ref (w 9)), (.ref (w 10)), .null] .null := V_b1_v45.pad (pad_rep [(.ref (w 0)), (.ref (w 1)), (.ref (w 2)), (.ref (w 3)), (.ref (w 4)), (.ref (w 5)), (.ref (w 6)), (.ref (w 7)), (.ref (w 8)), (.ref (w 9)), (.ref (w 10))] .null 1)
  obtain ⟨cl48, Ar48, q48, Sz48, Ng48, Hv48, Gv48⟩ := V_b1_v47
  have hin48 : ¬ ((11 : Int32) < 0 ∨ cl48.slots.size ≤ ((11 : Int32)).toNatClampNeg) := inb_of Sz48 ⟨by decide, by decide⟩
  obtain ⟨T49, h49, X49, e49, W49, st49⟩ := stR X46 hx hZ e46 Ar48 (j := (11 : Int32)) (v := (.ref (w 11))) hin48 rfl (Sto.ofV Ar48 q48 Ov1 (Ins.self (hE11.ext O45.2))) (g := (mkF m 82 #[.val (.int p0), .unset, .unset, .unset] [(.ref (w 11)), (.int (11 : Int32)), (.ref b1), (.ref b1)])) rfl rfl (hb hby at_82)
  have V_b1_v49 : Arv Z h49 b1 k1 (.object "com/example/netloom/netloom/net/ElementKind") (13 : Int32) [(.ref (w 0)), (.ref (w 1)), (.ref (w 2)), (.ref (w 3)), (.ref (w 4)), (.ref (w 5)), (.ref (w 6)), (.ref (w 7)), (.ref (w 8)), (.ref (w 9)), (.ref (w 10)), (.ref (w 11))] .null := Arv.set Ar48 q48 Sz48 Ng48 Hv48 Gv48 rfl W49 11 rfl (Nat.le_of_ble_eq_true rfl)
  have N49 := Fr.snoc X49 N45 gn_b1
  have O49 := O45.wr W49 gn_b1
  obtain ⟨T50, X50, e50, st50⟩ := getS2 X49 hx hZ hown (host := "") (Or.inl (W hw 28 rfl)) Via.refl e49 (hS12.ext O49.2) (g := (mkF m 86 #[.val (.int p0), .unset, .unset, .unset] [(.int (12 : Int32)), (.ref b1), (.ref b1)])) rfl (hb hby at_86)
  have V_b1_v51 : Arv Z h49 b1 k1 (.object "com/example/netloom/netloom/net/ElementKind") (13 : Int32) [(.ref (w 0)), (.ref (w 1)), (.ref (w 2)), (.ref (w 3)), (.ref (w 4)), (.ref (w 5)), (.ref (w 6)), (.ref (w 7)), (.ref (w 8)), (.ref (w 9)), (.ref (w 10)), (.ref (w 11)), .null] .null := V_b1_v49.pad (pad_rep [(.ref (w 0)), (.ref (w 1)), (.ref (w 2)), (.ref (w 3)), (.ref (w 4)), (.ref (w 5)), (.ref (w 6)), (.ref (w 7)), (.ref (w 8)), (.ref (w 9)), (.ref (w 10)), (.ref (w 11))] .null 1)
  obtain ⟨cl52, Ar52, q52, Sz52, Ng52, Hv52, Gv52⟩ := V_b1_v51
  have hin52 : ¬ ((12 : Int32) < 0 ∨ cl52.slots.size ≤ ((12 : Int32)).toNatClampNeg) := inb_of Sz52 ⟨by decide, by decide⟩
  obtain ⟨T53, h53, X53, e53, W53, st53⟩ := stR X50 hx hZ e50 Ar52 (j := (12 : Int32)) (v := (.ref (w 12))) hin52 rfl (Sto.ofV Ar52 q52 Ov1 (Ins.self (hE12.ext O49.2))) (g := (mkF m 89 #[.val (.int p0), .unset, .unset, .unset] [(.ref (w 12)), (.int (12 : Int32)), (.ref b1), (.ref b1)])) rfl rfl (hb hby at_89)
  have V_b1_v53 : Arv Z h53 b1 k1 (.object "com/example/netloom/netloom/net/ElementKind") (13 : Int32) [(.ref (w 0)), (.ref (w 1)), (.ref (w 2)), (.ref (w 3)), (.ref (w 4)), (.ref (w 5)), (.ref (w 6)), (.ref (w 7)), (.ref (w 8)), (.ref (w 9)), (.ref (w 10)), (.ref (w 11)), (.ref (w 12))] .null := Arv.set Ar52 q52 Sz52 Ng52 Hv52 Gv52 rfl W53 12 rfl (Nat.le_of_ble_eq_true rfl)
  have N53 := Fr.snoc X53 N49 gn_b1
  have O53 := O49.wr W53 gn_b1
  obtain ⟨cl54, Ar54, q54, Sz54, Ng54, Hv54, Gv54⟩ := V_b1_v53
  have hin54 : ¬ ((4 : Int32) < 0 ∨ cl54.slots.size ≤ ((4 : Int32)).toNatClampNeg) := inb_of Sz54 ⟨by decide, by decide⟩
  have hat54 : cl54.slots[((4 : Int32)).toNatClampNeg]? = some (.ref (w 4)) := Has.at Hv54 hin54 (by rfl)
  obtain ⟨cq55, kq55, q55a, q55b, q55c⟩ := isOf hZ e53 (hE4.ext O53.2)
  obtain ⟨_, _, ⟨T55, L55, k55, n55⟩, -, X55, ⟨Lc55, hQ55, l55, y55, z55⟩, st55⟩ := X53.virtualBack hx (y := (⟨"com/example/netloom/netloom/net/ElementKind", "isPlace", "()Z"⟩ : MethodName)) (z := (⟨"com/example/netloom/netloom/net/ElementKind", "isPlace", "()Z"⟩ : MethodName)) hown (mvT hZ (W hw 31 rfl)) (mvT hZ (W hw 32 rfl)) (notFace_of_selects (args := #[]) (mvT hZ (W hw 34 rfl))) (mvT hZ (W hw 34 rfl)) (mvT hZ (W hw 33 rfl)) (by decide) (backOf (W := 0) (rm_9 l Z a0 hw w kk hN [] h53 O53) hZ (W hw 35 rfl) (W hw 3 rfl) (by decide) (by decide)) q55a q55c (g := (mkF m 118 #[.val (.int p0), .val (.ref b1), .val (.int (4 : Int32)), .val (.int (1 : Int32))] [(.ref (w 4))])) rfl (by rw [hml]; rfl) (Steps.refl _) (argsL := []) (rest := []) (lenOf pd_0 rfl) rfl (by show 2 * 0 + _ ≤ _; exact Nat.le_of_eq rfl) (hb hby at_118) (fun _ _ => ⟨rfl, e53, (by decide : 1 + 0 ≤ _), (by decide : 13 + 0 ≤ _)⟩)
  dsimp only [Pt.U, Pt.locs, Pt.cells, Pt.slots] at X55 l55 y55 z55 st55 hQ55
  subst l55 y55 z55
  obtain ⟨rfl, N55q, e55⟩ := hQ55
  have N55 := Fr.app N53 N55q
  obtain ⟨fs, hr, hrun, hended, hW, hsame⟩ := X55.leave (v := some (.int (1 : Int32))) (fun h => by rw [Bd.returns] at h; cases h)
  refine ⟨_, _, pre0 _ ?_, hrun, hended, _, _, rfl, ?_, ⟨_, rfl⟩, hW, hsame.mono (by decide) (by decide)⟩
  · show Steps p.tables e below (s₁.setTop (mkF m 0 #[.val (.int p0), .unset, .unset, .unset] [])) _
    refine XS.bipush X0.here hx rfl (hb hby at_0) ?_
    show Steps p.tables e below (s₁.setTop (mkF m 2 #[.val (.int p0), .unset, .unset, .unset] [(.int (13 : Int32))])) _
    refine st1 _ ?_
    show Steps p.tables e below (T1.setTop (mkF m 5 #[.val (.int p0), .unset, .unset, .unset] [(.ref b1)])) _
    refine XS.dup X1.here hx rfl (hb hby at_5) rfl rfl ?_
    show Steps p.tables e below (T1.setTop (mkF m 6 #[.val (.int p0), .unset, .unset, .unset] [(.ref b1), (.ref b1)])) _
    refine XS.iconst X1.here hx rfl (hb hby at_6) ?_
    show Steps p.tables e below (T1.setTop (mkF m 7 #[.val (.int p0), .unset, .unset, .unset] [(.int (0 : Int32)), (.ref b1), (.ref b1)])) _
    refine st2 _ ?_
    show Steps p.tables e below (T2.setTop (mkF m 10 #[.val (.int p0), .unset, .unset, .unset] [(.ref (w 0)), (.int (0 : Int32)), (.ref b1), (.ref b1)])) _
    refine st5 _ ?_
    show Steps p.tables e below (T5.setTop (mkF m 11 #[.val (.int p0), .unset, .unset, .unset] [(.ref b1)])) _
    refine XS.dup X5.here hx rfl (hb hby at_11) rfl rfl ?_
    show Steps p.tables e below (T5.setTop (mkF m 12 #[.val (.int p0), .unset, .unset, .unset] [(.ref b1), (.ref b1)])) _
    refine XS.iconst X5.here hx rfl (hb hby at_12) ?_
    show Steps p.tables e below (T5.setTop (mkF m 13 #[.val (.int p0), .unset, .unset, .unset] [(.int (1 : Int32)), (.ref b1), (.ref b1)])) _
    refine st6 _ ?_
    show Steps p.tables e below (T6.setTop (mkF m 16 #[.val (.int p0), .unset, .unset, .unset] [(.ref (w 1)), (.int (1 : Int32)), (.ref b1), (.ref b1)])) _
    refine st9 _ ?_
    show Steps p.tables e below (T9.setTop (mkF m 17 #[.val (.int p0), .unset, .unset, .unset] [(.ref b1)])) _
    refine XS.dup X9.here hx rfl (hb hby at_17) rfl rfl ?_
    show Steps p.tables e below (T9.setTop (mkF m 18 #[.val (.int p0), .unset, .unset, .unset] [(.ref b1), (.ref b1)])) _
    refine XS.iconst X9.here hx rfl (hb hby at_18) ?_
    show Steps p.tables e below (T9.setTop (mkF m 19 #[.val (.int p0), .unset, .unset, .unset] [(.int (2 : Int32)), (.ref b1), (.ref b1)])) _
    refine st10 _ ?_
    show Steps p.tables e below (T10.setTop (mkF m 22 #[.val (.int p0), .unset, .unset, .unset] [(.ref (w 2)), (.int (2 : Int32)), (.ref b1), (.ref b1)])) _
    refine st13 _ ?_
    show Steps p.tables e below (T13.setTop (mkF m 23 #[.val (.int p0), .unset, .unset, .unset] [(.ref b1)])) _
    refine XS.dup X13.here hx rfl (hb hby at_23) rfl rfl ?_
    show Steps p.tables e below (T13.setTop (mkF m 24 #[.val (.int p0), .unset, .unset, .unset] [(.ref b1), (.ref b1)])) _
    refine XS.iconst X13.here hx rfl (hb hby at_24) ?_
    show Steps p.tables e below (T13.setTop (mkF m 25 #[.val (.int p0), .unset, .unset, .unset] [(.int (3 : Int32)), (.ref b1), (.ref b1)])) _
    refine st14 _ ?_
    show Steps p.tables e below (T14.setTop (mkF m 28 #[.val (.int p0), .unset, .unset, .unset] [(.ref (w 3)), (.int (3 : Int32)), (.ref b1), (.ref b1)])) _
    refine st17 _ ?_
    show Steps p.tables e below (T17.setTop (mkF m 29 #[.val (.int p0), .unset, .unset, .unset] [(.ref b1)])) _
    refine XS.dup X17.here hx rfl (hb hby at_29) rfl rfl ?_
    show Steps p.tables e below (T17.setTop (mkF m 30 #[.val (.int p0), .unset, .unset, .unset] [(.ref b1), (.ref b1)])) _
    refine XS.iconst X17.here hx rfl (hb hby at_30) ?_
    show Steps p.tables e below (T17.setTop (mkF m 31 #[.val (.int p0), .unset, .unset, .unset] [(.int (4 : Int32)), (.ref b1), (.ref b1)])) _
    refine st18 _ ?_
    show Steps p.tables e below (T18.setTop (mkF m 34 #[.val (.int p0), .unset, .unset, .unset] [(.ref (w 4)), (.int (4 : Int32)), (.ref b1), (.ref b1)])) _
    refine st21 _ ?_
    show Steps p.tables e below (T21.setTop (mkF m 35 #[.val (.int p0), .unset, .unset, .unset] [(.ref b1)])) _
    refine XS.dup X21.here hx rfl (hb hby at_35) rfl rfl ?_
    show Steps p.tables e below (T21.setTop (mkF m 36 #[.val (.int p0), .unset, .unset, .unset] [(.ref b1), (.ref b1)])) _
    refine XS.iconst X21.here hx rfl (hb hby at_36) ?_
    show Steps p.tables e below (T21.setTop (mkF m 37 #[.val (.int p0), .unset, .unset, .unset] [(.int (5 : Int32)), (.ref b1), (.ref b1)])) _
    refine st22 _ ?_
    show Steps p.tables e below (T22.setTop (mkF m 40 #[.val (.int p0), .unset, .unset, .unset] [(.ref (w 5)), (.int (5 : Int32)), (.ref b1), (.ref b1)])) _
    refine st25 _ ?_
    show Steps p.tables e below (T25.setTop (mkF m 41 #[.val (.int p0), .unset, .unset, .unset] [(.ref b1)])) _
    refine XS.dup X25.here hx rfl (hb hby at_41) rfl rfl ?_
    show Steps p.tables e below (T25.setTop (mkF m 42 #[.val (.int p0), .unset, .unset, .unset] [(.ref b1), (.ref b1)])) _
    refine XS.bipush X25.here hx rfl (hb hby at_42) ?_
    show Steps p.tables e below (T25.setTop (mkF m 44 #[.val (.int p0), .unset, .unset, .unset] [(.int (6 : Int32)), (.ref b1), (.ref b1)])) _
    refine st26 _ ?_
    show Steps p.tables e below (T26.setTop (mkF m 47 #[.val (.int p0), .unset, .unset, .unset] [(.ref (w 6)), (.int (6 : Int32)), (.ref b1), (.ref b1)])) _
    refine st29 _ ?_
    show Steps p.tables e below (T29.setTop (mkF m 48 #[.val (.int p0), .unset, .unset, .unset] [(.ref b1)])) _
    refine XS.dup X29.here hx rfl (hb hby at_48) rfl rfl ?_
    show Steps p.tables e below (T29.setTop (mkF m 49 #[.val (.int p0), .unset, .unset, .unset] [(.ref b1), (.ref b1)])) _
    refine XS.bipush X29.here hx rfl (hb hby at_49) ?_
    show Steps p.tables e below (T29.setTop (mkF m 51 #[.val (.int p0), .unset, .unset, .unset] [(.int (7 : Int32)), (.ref b1), (.ref b1)])) _
    refine st30 _ ?_
    show Steps p.tables e below (T30.setTop (mkF m 54 #[.val (.int p0), .unset, .unset, .unset] [(.ref (w 7)), (.int (7 : Int32)), (.ref b1), (.ref b1)])) _
    refine st33 _ ?_
    show Steps p.tables e below (T33.setTop (mkF m 55 #[.val (.int p0), .unset, .unset, .unset] [(.ref b1)])) _
    refine XS.dup X33.here hx rfl (hb hby at_55) rfl rfl ?_
    show Steps p.tables e below (T33.setTop (mkF m 56 #[.val (.int p0), .unset, .unset, .unset] [(.ref b1), (.ref b1)])) _
    refine XS.bipush X33.here hx rfl (hb hby at_56) ?_
    show Steps p.tables e below (T33.setTop (mkF m 58 #[.val (.int p0), .unset, .unset, .unset] [(.int (8 : Int32)), (.ref b1), (.ref b1)])) _
    refine st34 _ ?_
    show Steps p.tables e below (T34.setTop (mkF m 61 #[.val (.int p0), .unset, .unset, .unset] [(.ref (w 8)), (.int (8 : Int32)), (.ref b1), (.ref b1)])) _
    refine st37 _ ?_
    show Steps p.tables e below (T37.setTop (mkF m 62 #[.val (.int p0), .unset, .unset, .unset] [(.ref b1)])) _
    refine XS.dup X37.here hx rfl (hb hby at_62) rfl rfl ?_
    show Steps p.tables e below (T37.setTop (mkF m 63 #[.val (.int p0), .unset, .unset, .unset] [(.ref b1), (.ref b1)])) _
    refine XS.bipush X37.here hx rfl (hb hby at_63) ?_
    show Steps p.tables e below (T37.setTop (mkF m 65 #[.val (.int p0), .unset, .unset, .unset] [(.int (9 : Int32)), (.ref b1), (.ref b1)])) _
    refine st38 _ ?_
    show Steps p.tables e below (T38.setTop (mkF m 68 #[.val (.int p0), .unset, .unset, .unset] [(.ref (w 9)), (.int (9 : Int32)), (.ref b1), (.ref b1)])) _
    refine st41 _ ?_
    show Steps p.tables e below (T41.setTop (mkF m 69 #[.val (.int p0), .unset, .unset, .unset] [(.ref b1)])) _
    refine XS.dup X41.here hx rfl (hb hby at_69) rfl rfl ?_
    show Steps p.tables e below (T41.setTop (mkF m 70 #[.val (.int p0), .unset, .unset, .unset] [(.ref b1), (.ref b1)])) _
    refine XS.bipush X41.here hx rfl (hb hby at_70) ?_
    show Steps p.tables e below (T41.setTop (mkF m 72 #[.val (.int p0), .unset, .unset, .unset] [(.int (10 : Int32)), (.ref b1), (.ref b1)])) _
    refine st42 _ ?_
    show Steps p.tables e below (T42.setTop (mkF m 75 #[.val (.int p0), .unset, .unset, .unset] [(.ref (w 10)), (.int (10 : Int32)), (.ref b1), (.ref b1)])) _
    refine st45 _ ?_
    show Steps p.tables e below (T45.setTop (mkF m 76 #[.val (.int p0), .unset, .unset, .unset] [(.ref b1)])) _
    refine XS.dup X45.here hx rfl (hb hby at_76) rfl rfl ?_
    show Steps p.tables e below (T45.setTop (mkF m 77 #[.val (.int p0), .unset, .unset, .unset] [(.ref b1), (.ref b1)])) _
    refine XS.bipush X45.here hx rfl (hb hby at_77) ?_
    show Steps p.tables e below (T45.setTop (mkF m 79 #[.val (.int p0), .unset, .unset, .unset] [(.int (11 : Int32)), (.ref b1), (.ref b1)])) _
    refine st46 _ ?_
    show Steps p.tables e below (T46.setTop (mkF m 82 #[.val (.int p0), .unset, .unset, .unset] [(.ref (w 11)), (.int (11 : Int32)), (.ref b1), (.ref b1)])) _
    refine st49 _ ?_
    show Steps p.tables e below (T49.setTop (mkF m 83 #[.val (.int p0), .unset, .unset, .unset] [(.ref b1)])) _
    refine XS.dup X49.here hx rfl (hb hby at_83) rfl rfl ?_
    show Steps p.tables e below (T49.setTop (mkF m 84 #[.val (.int p0), .unset, .unset, .unset] [(.ref b1), (.ref b1)])) _
    refine XS.bipush X49.here hx rfl (hb hby at_84) ?_
    show Steps p.tables e below (T49.setTop (mkF m 86 #[.val (.int p0), .unset, .unset, .unset] [(.int (12 : Int32)), (.ref b1), (.ref b1)])) _
    refine st50 _ ?_
    show Steps p.tables e below (T50.setTop (mkF m 89 #[.val (.int p0), .unset, .unset, .unset] [(.ref (w 12)), (.int (12 : Int32)), (.ref b1), (.ref b1)])) _
    refine st53 _ ?_
    show Steps p.tables e below (T53.setTop (mkF m 90 #[.val (.int p0), .unset, .unset, .unset] [(.ref b1)])) _
    refine XS.astoreN X53.here hx rfl (hb hby at_90) rfl rfl (l' := #[.val (.int p0), .val (.ref b1), .unset, .unset]) rfl ?_
    show Steps p.tables e below (T53.setTop (mkF m 91 #[.val (.int p0), .val (.ref b1), .unset, .unset] [])) _
    refine XS.iloadN X53.here hx rfl (hb hby at_91) rfl ?_
    show Steps p.tables e below (T53.setTop (mkF m 92 #[.val (.int p0), .val (.ref b1), .unset, .unset] [(.int p0)])) _
    refine X53.ldcInt hx hown (mvT hZ (W hw 30 rfl)) (g := (mkF m 92 #[.val (.int p0), .val (.ref b1), .unset, .unset] [(.int p0)])) rfl (hb hby at_92) _ ?_
    show Steps p.tables e below (T53.setTop (mkF m 94 #[.val (.int p0), .val (.ref b1), .unset, .unset] [(.int (2147483647 : Int32)), (.int p0)])) _
    refine XS.iand X53.here hx rfl (hb hby at_94) rfl ?_
    show Steps p.tables e below (T53.setTop (mkF m 95 #[.val (.int p0), .val (.ref b1), .unset, .unset] [(.int (p0 &&& (2147483647 : Int32)))])) _
    refine XS.bipush X53.here hx rfl (hb hby at_95) ?_
    show Steps p.tables e below (T53.setTop (mkF m 97 #[.val (.int p0), .val (.ref b1), .unset, .unset] [(.int (13 : Int32)), (.int (p0 &&& (2147483647 : Int32)))])) _
    refine iremM X53 hx rfl (hb hby at_97) rfl (by decide : ¬ ((13 : Int32) = (0 : Int32))) ?_
    show Steps p.tables e below (T53.setTop (mkF m 98 #[.val (.int p0), .val (.ref b1), .unset, .unset] [(.int ((p0 &&& (2147483647 : Int32)) % (13 : Int32)))])) _
    rw [hp0]
    show Steps p.tables e below (T53.setTop (mkF m 98 #[.val (.int p0), .val (.ref b1), .unset, .unset] [(.int (4 : Int32))])) _
    refine XS.istoreN X53.here hx rfl (hb hby at_98) rfl (l' := #[.val (.int p0), .val (.ref b1), .val (.int (4 : Int32)), .unset]) rfl ?_
    show Steps p.tables e below (T53.setTop (mkF m 99 #[.val (.int p0), .val (.ref b1), .val (.int (4 : Int32)), .unset] [])) _
    refine XS.iloadN X53.here hx rfl (hb hby at_99) rfl ?_
    show Steps p.tables e below (T53.setTop (mkF m 100 #[.val (.int p0), .val (.ref b1), .val (.int (4 : Int32)), .unset] [(.int (4 : Int32))])) _
    refine XS.iconst X53.here hx rfl (hb hby at_100) ?_
    show Steps p.tables e below (T53.setTop (mkF m 101 #[.val (.int p0), .val (.ref b1), .val (.int (4 : Int32)), .unset] [(.int (2 : Int32)), (.int (4 : Int32))])) _
    refine XS.icmpNo X53.here hx rfl (hb hby at_101) rfl (feq (by decide : ¬ ((4 : Int32) = (2 : Int32)))).1 ?_
    show Steps p.tables e below (T53.setTop (mkF m 104 #[.val (.int p0), .val (.ref b1), .val (.int (4 : Int32)), .unset] [])) _
    refine XS.iloadN X53.here hx rfl (hb hby at_104) rfl ?_
    show Steps p.tables e below (T53.setTop (mkF m 105 #[.val (.int p0), .val (.ref b1), .val (.int (4 : Int32)), .unset] [(.int (4 : Int32))])) _
    refine XS.iconst X53.here hx rfl (hb hby at_105) ?_
    show Steps p.tables e below (T53.setTop (mkF m 106 #[.val (.int p0), .val (.ref b1), .val (.int (4 : Int32)), .unset] [(.int (4 : Int32)), (.int (4 : Int32))])) _
    refine XS.icmpNo X53.here hx rfl (hb hby at_106) rfl (teq (by decide : (4 : Int32) = (4 : Int32))).2 ?_
    show Steps p.tables e below (T53.setTop (mkF m 109 #[.val (.int p0), .val (.ref b1), .val (.int (4 : Int32)), .unset] [])) _
    refine XS.iconst X53.here hx rfl (hb hby at_109) ?_
    show Steps p.tables e below (T53.setTop (mkF m 110 #[.val (.int p0), .val (.ref b1), .val (.int (4 : Int32)), .unset] [(.int (1 : Int32))])) _
    refine XS.goto X53.here hx rfl (pc0 := 110) (pc' := 114) rfl (hb hby at_110) (by decide) (by decide) ?_
    show Steps p.tables e below (T53.setTop (mkF m 114 #[.val (.int p0), .val (.ref b1), .val (.int (4 : Int32)), .unset] [(.int (1 : Int32))])) _
    refine XS.istoreN X53.here hx rfl (hb hby at_114) rfl (l' := #[.val (.int p0), .val (.ref b1), .val (.int (4 : Int32)), .val (.int (1 : Int32))]) rfl ?_
    show Steps p.tables e below (T53.setTop (mkF m 115 #[.val (.int p0), .val (.ref b1), .val (.int (4 : Int32)), .val (.int (1 : Int32))] [])) _
    refine XS.aloadN X53.here hx rfl (hb hby at_115) rfl rfl ?_
    show Steps p.tables e below (T53.setTop (mkF m 116 #[.val (.int p0), .val (.ref b1), .val (.int (4 : Int32)), .val (.int (1 : Int32))] [(.ref b1)])) _
    refine XS.iloadN X53.here hx rfl (hb hby at_116) rfl ?_
    show Steps p.tables e below (T53.setTop (mkF m 117 #[.val (.int p0), .val (.ref b1), .val (.int (4 : Int32)), .val (.int (1 : Int32))] [(.int (4 : Int32)), (.ref b1)])) _
    refine X53.aaload hx (j := (4 : Int32)) (v := (.ref (w 4))) (by rw [e53]; exact Ar54.1) (State.isArrayOf_alike hZ.alike Ar54.2.1) rfl Ar54.2.2 hin54 hat54 (g := (mkF m 117 #[.val (.int p0), .val (.ref b1), .val (.int (4 : Int32)), .val (.int (1 : Int32))] [(.int (4 : Int32)), (.ref b1)])) rfl rfl (hb hby at_117) _ ?_
    show Steps p.tables e below (T53.setTop (mkF m 118 #[.val (.int p0), .val (.ref b1), .val (.int (4 : Int32)), .val (.int (1 : Int32))] [(.ref (w 4))])) _
    refine st55.trans ?_
    show Steps p.tables e below (T55.setTop (mkF m 121 #[.val (.int p0), .val (.ref b1), .val (.int (4 : Int32)), .val (.int (1 : Int32))] [(.int (1 : Int32))])) _
    refine XS.iloadN X55.here hx rfl (hb hby at_121) rfl ?_
    show Steps p.tables e below (T55.setTop (mkF m 122 #[.val (.int p0), .val (.ref b1), .val (.int (4 : Int32)), .val (.int (1 : Int32))] [(.int (1 : Int32)), (.int (1 : Int32))])) _
    refine XS.icmpNo X55.here hx rfl (hb hby at_122) rfl (teq (by decide : (1 : Int32) = (1 : Int32))).2 ?_
    show Steps p.tables e below (T55.setTop (mkF m 125 #[.val (.int p0), .val (.ref b1), .val (.int (4 : Int32)), .val (.int (1 : Int32))] [])) _
    refine XS.iconst X55.here hx rfl (hb hby at_125) ?_
    show Steps p.tables e below (T55.setTop (mkF m 126 #[.val (.int p0), .val (.ref b1), .val (.int (4 : Int32)), .val (.int (1 : Int32))] [(.int (1 : Int32))])) _
    refine XS.goto X55.here hx rfl (pc0 := 126) (pc' := 130) rfl (hb hby at_126) (by decide) (by decide) ?_
    show Steps p.tables e below (T55.setTop (mkF m 130 #[.val (.int p0), .val (.ref b1), .val (.int (4 : Int32)), .val (.int (1 : Int32))] [(.int (1 : Int32))])) _
    exact retN X55 hx (t := .boolean) Bd.returns (by simp) (hb hby at_130) hr
  · show OL (some (.int (1 : Int32))) Z.heap.size _ T55.heap _
    exact ⟨rfl, N55⟩
set_option maxRecDepth 65536 in
set_option maxHeartbeats 40000000 in
theorem rm_11 (l : Launch) (Z : State) (a0 : Array Value) (hw : ∀ d ∈ tables_1, d.before a0 Z = true) (w : Nat → Addr) (kk : Nat → ClassId) (hN : Wd Z w kk) (ws : List Jvm.Cond)  (h0 : Heap) (O0 : Old Z Z.heap.size h0) :
    MetFree l (⟨"com/example/netloom/netloom/net/ElementKind", "isPlace", "()Z"⟩ : MethodName) (head1 (Jvm.Cond.code (⟨"com/example/netloom/netloom/net/ElementKind", "isPlace", "()Z"⟩ : MethodName) prog_22_method_5_code 1 (some .boolean) :: ws) ({ frames := 0, cells := 0, slots := 0, locals := 0 } : Room)) (fun a U => a = #[(.ref (w 5))] ∧ Z.Warmed39 U.vm ∧ U.heap = h0) (fun _ _ _ _ _ => True) (fun _ U o U' => ∃ v L, o = .returned v ∧ OQ (some (.int (0 : Int32))) h0 Z.heap.size v U'.heap L ∧ FrameEnd U o U' L ({ frames := 0, cells := 0, slots := 0, locals := 0 } : Room).cells ({ frames := 0, cells := 0, slots := 0, locals := 0 } : Room).slots) := by
  have hN' := hN
  obtain ⟨hS0, hE0, hS1, hE1, hS2, hE2, hS3, hE3, hS4, hE4, hS5, hE5, hS6, hE6, hS7, hE7, hS8, hE8, hS9, hE9, hS10, hE10, hS11, hE11, hS12, hE12, hF0_ordinal, hF2_ordinal, hF4_ordinal, hF3_ordinal, hF6_ordinal, hF5_ordinal, hF7_ordinal, hF9_ordinal, hF11_ordinal, hF1_ordinal, hF8_ordinal, hF10_ordinal, hF12_ordinal⟩ := hN'
  refine MetFree.of_bodySF (plainFor_of_name pn_0) hisR ?_
  intro p e s m args below meth c s₁ Bd hml0 hP hK
  obtain ⟨rfl, hZ, hh⟩ := hP
  have hx := Bd.exec
  have hby := Bd.bytes
  have hml : c.maxLocals = 1 := hml0
  have hown : s.vm.findClass "com/example/netloom/netloom/net/ElementKind" = some m.cls := findClass_of_methodNamed Bd.named
  have hnm := (name_of_methodNamed Bd.named Bd.method).1
  have X0 : Stand p l e ({ frames := 0, cells := 0, slots := 0, locals := 0 } : Room) s m #[(.ref (w 5))] below meth c s₁ [] 0 0 := Stand.of_body Bd
  have e0 : s₁.heap = h0 := by rw [← hh, Bd.state]; rfl
  have N0 := Fr.nil Z.heap.size
  have pre0 : ∀ t, Steps p.tables e below (s₁.setTop (mkF m 0 #[.val (.ref (w 5))] [])) t → Steps p.tables e below (s₁.setTop (entryFrame m #[(.ref (w 5))] 1)) t := fun t k => castTop (ef_0 m (.ref (w 5)) rfl) k
  obtain ⟨T1, X1, e1, st1⟩ := getS2 X0 hx hZ hown (host := "") (Or.inl (W hw 36 rfl)) Via.refl e0 (hS2.ext O0.2) (g := (mkF m 1 #[.val (.ref (w 5))] [(.ref (w 5))])) rfl (hb hby d_prog_22_method_5_code_1)
  obtain ⟨T2, X2, e2, st2⟩ := getS2 X1 hx hZ hown (host := "") (Or.inl (W hw 37 rfl)) Via.refl e1 (hS4.ext O0.2) (g := (mkF m 8 #[.val (.ref (w 5))] [(.ref (w 5))])) rfl (hb hby d_prog_22_method_5_code_8)
  obtain ⟨fs, hr, hrun, hended, hW, hsame⟩ := X2.leave (v := some (.int (0 : Int32))) (fun h => by rw [Bd.returns] at h; cases h)
  refine ⟨_, _, pre0 _ ?_, hrun, hended, _, _, rfl, ?_, ⟨_, rfl⟩, hW, hsame.mono (by decide) (by decide)⟩
  · show Steps p.tables e below (s₁.setTop (mkF m 0 #[.val (.ref (w 5))] [])) _
    refine XS.aloadN X0.here hx rfl (hb hby d_prog_22_method_5_code_0) rfl rfl ?_
    show Steps p.tables e below (s₁.setTop (mkF m 1 #[.val (.ref (w 5))] [(.ref (w 5))])) _
    refine st1 _ ?_
    show Steps p.tables e below (T1.setTop (mkF m 4 #[.val (.ref (w 5))] [(.ref (w 2)), (.ref (w 5))])) _
    refine Jvm.RoadKit.acmp (g := (mkF m 4 #[.val (.ref (w 5))] [(.ref (w 2)), (.ref (w 5))])) X1 hx rfl rfl rfl (pc0 := 4) (pc' := 7) (same := false) rfl (hb hby d_prog_22_method_5_code_4) rfl (decide_eq_false fun q => (Fld.ne hF5_ordinal hF2_ordinal (by decide)) (Value.ref.inj q)) (by decide) (by decide) ?_
    show Steps p.tables e below (T1.setTop (mkF m 7 #[.val (.ref (w 5))] [])) _
    refine XS.aloadN X1.here hx rfl (hb hby d_prog_22_method_5_code_7) rfl rfl ?_
    show Steps p.tables e below (T1.setTop (mkF m 8 #[.val (.ref (w 5))] [(.ref (w 5))])) _
    refine st2 _ ?_
    show Steps p.tables e below (T2.setTop (mkF m 11 #[.val (.ref (w 5))] [(.ref (w 4)), (.ref (w 5))])) _
    refine Jvm.RoadKit.acmp (g := (mkF m 11 #[.val (.ref (w 5))] [(.ref (w 4)), (.ref (w 5))])) X2 hx rfl rfl rfl (pc0 := 11) (pc' := 18) (same := false) rfl (hb hby d_prog_22_method_5_code_11) rfl (decide_eq_false fun q => (Fld.ne hF5_ordinal hF4_ordinal (by decide)) (Value.ref.inj q)) (by decide) (by decide) ?_
    show Steps p.tables e below (T2.setTop (mkF m 18 #[.val (.ref (w 5))] [])) _
    refine XS.iconst X2.here hx rfl (hb hby d_prog_22_method_5_code_18) ?_
    show Steps p.tables e below (T2.setTop (mkF m 19 #[.val (.ref (w 5))] [(.int (0 : Int32))])) _
    exact retN X2 hx (t := .boolean) Bd.returns (by simp) (hb hby d_prog_22_method_5_code_19) hr
  · show OQ (some (.int (0 : Int32))) h0 Z.heap.size _ T2.heap _
    rw [e2]
    exact ⟨rfl, N0, rfl⟩
set_option maxRecDepth 65536 in
set_option maxHeartbeats 40000000 in
theorem law_12 (l : Launch) (Z : State) (a0 : Array Value) (hw : ∀ d ∈ tables_1, d.before a0 Z = true) (w : Nat → Addr) (kk : Nat → ClassId) (hN : Wd Z w kk) (ws : List Jvm.Cond) (p0 : Int32) (h0 : Heap) (O0 : Old Z Z.heap.size h0) (hp0 : ((p0 &&& (2147483647 : Int32)) % (13 : Int32)) = (5 : Int32)) :
    MetFree l x (head1 (Jvm.Cond.code x code maxLocals ret :: ws) room_1) (fun a U => a = #[(.int p0)] ∧ Z.Warmed39 U.vm ∧ U.heap = h0) (fun _ _ _ _ _ => True) (fun _ U o U' => ∃ v L, o = .returned v ∧ OL (some (.int (1 : Int32))) Z.heap.size v U'.heap L ∧ FrameEnd U o U' L 16 128) := by
  have hN' := hN
  obtain ⟨hS0, hE0, hS1, hE1, hS2, hE2, hS3, hE3, hS4, hE4, hS5, hE5, hS6, hE6, hS7, hE7, hS8, hE8, hS9, hE9, hS10, hE10, hS11, hE11, hS12, hE12, hF0_ordinal, hF2_ordinal, hF4_ordinal, hF3_ordinal, hF6_ordinal, hF5_ordinal, hF7_ordinal, hF9_ordinal, hF11_ordinal, hF1_ordinal, hF8_ordinal, hF10_ordinal, hF12_ordinal⟩ := hN'
  refine MetFree.of_bodySF (plainFor_of_name pn_1) hisR ?_
  intro p e s m args below meth c s₁ Bd hml0 hP hK
  obtain ⟨rfl, hZ, hh⟩ := hP
  have hx := Bd.exec
  have hby := Bd.bytes
  have hml : c.maxLocals = 4 := hml0
  have hown : s.vm.findClass "com/example/netloom/netloom/net/ElementKindIsPlacePinLaw" = some m.cls := findClass_of_methodNamed Bd.named
  have hnm := (name_of_methodNamed Bd.named Bd.method).1
  have X0 : Stand p l e room_1 s m #[(.int p0)] below meth c s₁ [] 0 0 := Stand.of_body Bd
  have e0 : s₁.heap = h0 := by rw [← hh, Bd.state]; rfl
  have N0 := Fr.nil Z.heap.size
  have pre0 : ∀ t, Steps p.tables e below (s₁.setTop (mkF m 0 #[.val (.int p0), .unset, .unset, .unset] [])) t → Steps p.tables e below (s₁.setTop (entryFrame m #[(.int p0)] maxLocals)) t := fun t k => castTop (ef_1 m (.int p0) rfl) k
  obtain ⟨T1, h1, k1, X1, e1, E1, A1, Ov1, st1⟩ := newR X0 hx hZ hown (W hw 0 rfl) (W hw 1 rfl) e0 (g := (mkF m 2 #[.val (.int p0), .unset, .unset, .unset] [(.int (13 : Int32))])) rfl (hb hby at_2) rfl (by decide) (cap := 13) (by decide) (by decide) (by decide) (by decide)
  obtain ⟨b1, g1⟩ : ∃ z, z = h0.size := ⟨_, rfl⟩
  rw [← g1] at A1 st1
  have gn_b1 : Z.heap.size ≤ b1 := Nat.le_trans O0.2.1 (Nat.le_of_eq g1.symm)
  have O1 := O0.ext E1
  have V_b1_v1 : Arv Z h1 b1 k1 (.object "com/example/netloom/netloom/net/ElementKind") (13 : Int32) [] .null := Arv.new A1 (by decide)
  obtain ⟨T2, X2, e2, st2⟩ := getS2 X1 hx hZ hown (host := "") (Or.inl (W hw 2 rfl)) Via.refl e1 (hS0.ext O1.2) (g := (mkF m 7 #[.val (.int p0), .unset, .unset, .unset] [(.int (0 : Int32)), (.ref b1), (.ref b1)])) rfl (hb hby at_7)
  have V_b1_v3 : Arv Z h1 b1 k1 (.object "com/example/netloom/netloom/net/ElementKind") (13 : Int32) [.null] .null := V_b1_v1.pad (pad_rep [] .null 1)
  obtain ⟨cl4, Ar4, q4, Sz4, Ng4, Hv4, Gv4⟩ := V_b1_v3
  have hin4 : ¬ ((0 : Int32) < 0 ∨ cl4.slots.size ≤ ((0 : Int32)).toNatClampNeg) := inb_of Sz4 ⟨by decide, by decide⟩
  obtain ⟨T5, h5, X5, e5, W5, st5⟩ := stR X2 hx hZ e2 Ar4 (j := (0 : Int32)) (v := (.ref (w 0))) hin4 rfl (Sto.ofV Ar4 q4 Ov1 (Ins.self (hE0.ext O1.2))) (g := (mkF m 10 #[.val (.int p0), .unset, .unset, .unset] [(.ref (w 0)), (.int (0 : Int32)), (.ref b1), (.ref b1)])) rfl rfl (hb hby at_10)
  have V_b1_v5 : Arv Z h5 b1 k1 (.object "com/example/netloom/netloom/net/ElementKind") (13 : Int32) [(.ref (w 0))] .null := Arv.set Ar4 q4 Sz4 Ng4 Hv4 Gv4 rfl W5 0 rfl (Nat.le_of_ble_eq_true rfl)
  have N5 := Fr.snoc X5 N0 gn_b1
  have O5 := O1.wr W5 gn_b1
  obtain ⟨T6, X6, e6, st6⟩ := getS2 X5 hx hZ hown (host := "") (Or.inl (W hw 6 rfl)) Via.refl e5 (hS1.ext O5.2) (g := (mkF m 13 #[.val (.int p0), .unset, .unset, .unset] [(.int (1 : Int32)), (.ref b1), (.ref b1)])) rfl (hb hby at_13)
  have V_b1_v7 : Arv Z h5 b1 k1 (.object "com/example/netloom/netloom/net/ElementKind") (13 : Int32) [(.ref (w 0)), .null] .null := V_b1_v5.pad (pad_rep [(.ref (w 0))] .null 1)
  obtain ⟨cl8, Ar8, q8, Sz8, Ng8, Hv8, Gv8⟩ := V_b1_v7
  have hin8 : ¬ ((1 : Int32) < 0 ∨ cl8.slots.size ≤ ((1 : Int32)).toNatClampNeg) := inb_of Sz8 ⟨by decide, by decide⟩
  obtain ⟨T9, h9, X9, e9, W9, st9⟩ := stR X6 hx hZ e6 Ar8 (j := (1 : Int32)) (v := (.ref (w 1))) hin8 rfl (Sto.ofV Ar8 q8 Ov1 (Ins.self (hE1.ext O5.2))) (g := (mkF m 16 #[.val (.int p0), .unset, .unset, .unset] [(.ref (w 1)), (.int (1 : Int32)), (.ref b1), (.ref b1)])) rfl rfl (hb hby at_16)
  have V_b1_v9 : Arv Z h9 b1 k1 (.object "com/example/netloom/netloom/net/ElementKind") (13 : Int32) [(.ref (w 0)), (.ref (w 1))] .null := Arv.set Ar8 q8 Sz8 Ng8 Hv8 Gv8 rfl W9 1 rfl (Nat.le_of_ble_eq_true rfl)
  have N9 := Fr.snoc X9 N5 gn_b1
  have O9 := O5.wr W9 gn_b1
  obtain ⟨T10, X10, e10, st10⟩ := getS2 X9 hx hZ hown (host := "") (Or.inl (W hw 8 rfl)) Via.refl e9 (hS2.ext O9.2) (g := (mkF m 19 #[.val (.int p0), .unset, .unset, .unset] [(.int (2 : Int32)), (.ref b1), (.ref b1)])) rfl (hb hby at_19)
  have V_b1_v11 : Arv Z h9 b1 k1 (.object "com/example/netloom/netloom/net/ElementKind") (13 : Int32) [(.ref (w 0)), (.ref (w 1)), .null] .null := V_b1_v9.pad (pad_rep [(.ref (w 0)), (.ref (w 1))] .null 1)
  obtain ⟨cl12, Ar12, q12, Sz12, Ng12, Hv12, Gv12⟩ := V_b1_v11
  have hin12 : ¬ ((2 : Int32) < 0 ∨ cl12.slots.size ≤ ((2 : Int32)).toNatClampNeg) := inb_of Sz12 ⟨by decide, by decide⟩
  obtain ⟨T13, h13, X13, e13, W13, st13⟩ := stR X10 hx hZ e10 Ar12 (j := (2 : Int32)) (v := (.ref (w 2))) hin12 rfl (Sto.ofV Ar12 q12 Ov1 (Ins.self (hE2.ext O9.2))) (g := (mkF m 22 #[.val (.int p0), .unset, .unset, .unset] [(.ref (w 2)), (.int (2 : Int32)), (.ref b1), (.ref b1)])) rfl rfl (hb hby at_22)
  have V_b1_v13 : Arv Z h13 b1 k1 (.object "com/example/netloom/netloom/net/ElementKind") (13 : Int32) [(.ref (w 0)), (.ref (w 1)), (.ref (w 2))] .null := Arv.set Ar12 q12 Sz12 Ng12 Hv12 Gv12 rfl W13 2 rfl (Nat.le_of_ble_eq_true rfl)
  have N13 := Fr.snoc X13 N9 gn_b1
  have O13 := O9.wr W13 gn_b1
  obtain ⟨T14, X14, e14, st14⟩ := getS2 X13 hx hZ hown (host := "") (Or.inl (W hw 10 rfl)) Via.refl e13 (hS3.ext O13.2) (g := (mkF m 25 #[.val (.int p0), .unset, .unset, .unset] [(.int (3 : Int32)), (.ref b1), (.ref b1)])) rfl (hb hby at_25)
  have V_b1_v15 : Arv Z h13 b1 k1 (.object "com/example/netloom/netloom/net/ElementKind") (13 : Int32) [(.ref (w 0)), (.ref (w 1)), (.ref (w 2)), .null] .null := V_b1_v13.pad (pad_rep [(.ref (w 0)), (.ref (w 1)), (.ref (w 2))] .null 1)
  obtain ⟨cl16, Ar16, q16, Sz16, Ng16, Hv16, Gv16⟩ := V_b1_v15
  have hin16 : ¬ ((3 : Int32) < 0 ∨ cl16.slots.size ≤ ((3 : Int32)).toNatClampNeg) := inb_of Sz16 ⟨by decide, by decide⟩
  obtain ⟨T17, h17, X17, e17, W17, st17⟩ := stR X14 hx hZ e14 Ar16 (j := (3 : Int32)) (v := (.ref (w 3))) hin16 rfl (Sto.ofV Ar16 q16 Ov1 (Ins.self (hE3.ext O13.2))) (g := (mkF m 28 #[.val (.int p0), .unset, .unset, .unset] [(.ref (w 3)), (.int (3 : Int32)), (.ref b1), (.ref b1)])) rfl rfl (hb hby at_28)
  have V_b1_v17 : Arv Z h17 b1 k1 (.object "com/example/netloom/netloom/net/ElementKind") (13 : Int32) [(.ref (w 0)), (.ref (w 1)), (.ref (w 2)), (.ref (w 3))] .null := Arv.set Ar16 q16 Sz16 Ng16 Hv16 Gv16 rfl W17 3 rfl (Nat.le_of_ble_eq_true rfl)
  have N17 := Fr.snoc X17 N13 gn_b1
  have O17 := O13.wr W17 gn_b1
  obtain ⟨T18, X18, e18, st18⟩ := getS2 X17 hx hZ hown (host := "") (Or.inl (W hw 12 rfl)) Via.refl e17 (hS4.ext O17.2) (g := (mkF m 31 #[.val (.int p0), .unset, .unset, .unset] [(.int (4 : Int32)), (.ref b1), (.ref b1)])) rfl (hb hby at_31)
  have V_b1_v19 : Arv Z h17 b1 k1 (.object "com/example/netloom/netloom/net/ElementKind") (13 : Int32) [(.ref (w 0)), (.ref (w 1)), (.ref (w 2)), (.ref (w 3)), .null] .null := V_b1_v17.pad (pad_rep [(.ref (w 0)), (.ref (w 1)), (.ref (w 2)), (.ref (w 3))] .null 1)
  obtain ⟨cl20, Ar20, q20, Sz20, Ng20, Hv20, Gv20⟩ := V_b1_v19
  have hin20 : ¬ ((4 : Int32) < 0 ∨ cl20.slots.size ≤ ((4 : Int32)).toNatClampNeg) := inb_of Sz20 ⟨by decide, by decide⟩
  obtain ⟨T21, h21, X21, e21, W21, st21⟩ := stR X18 hx hZ e18 Ar20 (j := (4 : Int32)) (v := (.ref (w 4))) hin20 rfl (Sto.ofV Ar20 q20 Ov1 (Ins.self (hE4.ext O17.2))) (g := (mkF m 34 #[.val (.int p0), .unset, .unset, .unset] [(.ref (w 4)), (.int (4 : Int32)), (.ref b1), (.ref b1)])) rfl rfl (hb hby at_34)
  have V_b1_v21 : Arv Z h21 b1 k1 (.object "com/example/netloom/netloom/net/ElementKind") (13 : Int32) [(.ref (w 0)), (.ref (w 1)), (.ref (w 2)), (.ref (w 3)), (.ref (w 4))] .null := Arv.set Ar20 q20 Sz20 Ng20 Hv20 Gv20 rfl W21 4 rfl (Nat.le_of_ble_eq_true rfl)
  have N21 := Fr.snoc X21 N17 gn_b1
  have O21 := O17.wr W21 gn_b1
  obtain ⟨T22, X22, e22, st22⟩ := getS2 X21 hx hZ hown (host := "") (Or.inl (W hw 14 rfl)) Via.refl e21 (hS5.ext O21.2) (g := (mkF m 37 #[.val (.int p0), .unset, .unset, .unset] [(.int (5 : Int32)), (.ref b1), (.ref b1)])) rfl (hb hby at_37)
  have V_b1_v23 : Arv Z h21 b1 k1 (.object "com/example/netloom/netloom/net/ElementKind") (13 : Int32) [(.ref (w 0)), (.ref (w 1)), (.ref (w 2)), (.ref (w 3)), (.ref (w 4)), .null] .null := V_b1_v21.pad (pad_rep [(.ref (w 0)), (.ref (w 1)), (.ref (w 2)), (.ref (w 3)), (.ref (w 4))] .null 1)
  obtain ⟨cl24, Ar24, q24, Sz24, Ng24, Hv24, Gv24⟩ := V_b1_v23
  have hin24 : ¬ ((5 : Int32) < 0 ∨ cl24.slots.size ≤ ((5 : Int32)).toNatClampNeg) := inb_of Sz24 ⟨by decide, by decide⟩
  obtain ⟨T25, h25, X25, e25, W25, st25⟩ := stR X22 hx hZ e22 Ar24 (j := (5 : Int32)) (v := (.ref (w 5))) hin24 rfl (Sto.ofV Ar24 q24 Ov1 (Ins.self (hE5.ext O21.2))) (g := (mkF m 40 #[.val (.int p0), .unset, .unset, .unset] [(.ref (w 5)), (.int (5 : Int32)), (.ref b1), (.ref b1)])) rfl rfl (hb hby at_40)
  have V_b1_v25 : Arv Z h25 b1 k1 (.object "com/example/netloom/netloom/net/ElementKind") (13 : Int32) [(.ref (w 0)), (.ref (w 1)), (.ref (w 2)), (.ref (w 3)), (.ref (w 4)), (.ref (w 5))] .null := Arv.set Ar24 q24 Sz24 Ng24 Hv24 Gv24 rfl W25 5 rfl (Nat.le_of_ble_eq_true rfl)
  have N25 := Fr.snoc X25 N21 gn_b1
  have O25 := O21.wr W25 gn_b1
  obtain ⟨T26, X26, e26, st26⟩ := getS2 X25 hx hZ hown (host := "") (Or.inl (W hw 16 rfl)) Via.refl e25 (hS6.ext O25.2) (g := (mkF m 44 #[.val (.int p0), .unset, .unset, .unset] [(.int (6 : Int32)), (.ref b1), (.ref b1)])) rfl (hb hby at_44)
  have V_b1_v27 : Arv Z h25 b1 k1 (.object "com/example/netloom/netloom/net/ElementKind") (13 : Int32) [(.ref (w 0)), (.ref (w 1)), (.ref (w 2)), (.ref (w 3)), (.ref (w 4)), (.ref (w 5)), .null] .null := V_b1_v25.pad (pad_rep [(.ref (w 0)), (.ref (w 1)), (.ref (w 2)), (.ref (w 3)), (.ref (w 4)), (.ref (w 5))] .null 1)
  obtain ⟨cl28, Ar28, q28, Sz28, Ng28, Hv28, Gv28⟩ := V_b1_v27
  have hin28 : ¬ ((6 : Int32) < 0 ∨ cl28.slots.size ≤ ((6 : Int32)).toNatClampNeg) := inb_of Sz28 ⟨by decide, by decide⟩
  obtain ⟨T29, h29, X29, e29, W29, st29⟩ := stR X26 hx hZ e26 Ar28 (j := (6 : Int32)) (v := (.ref (w 6))) hin28 rfl (Sto.ofV Ar28 q28 Ov1 (Ins.self (hE6.ext O25.2))) (g := (mkF m 47 #[.val (.int p0), .unset, .unset, .unset] [(.ref (w 6)), (.int (6 : Int32)), (.ref b1), (.ref b1)])) rfl rfl (hb hby at_47)
  have V_b1_v29 : Arv Z h29 b1 k1 (.object "com/example/netloom/netloom/net/ElementKind") (13 : Int32) [(.ref (w 0)), (.ref (w 1)), (.ref (w 2)), (.ref (w 3)), (.ref (w 4)), (.ref (w 5)), (.ref (w 6))] .null := Arv.set Ar28 q28 Sz28 Ng28 Hv28 Gv28 rfl W29 6 rfl (Nat.le_of_ble_eq_true rfl)
  have N29 := Fr.snoc X29 N25 gn_b1
  have O29 := O25.wr W29 gn_b1
  obtain ⟨T30, X30, e30, st30⟩ := getS2 X29 hx hZ hown (host := "") (Or.inl (W hw 18 rfl)) Via.refl e29 (hS7.ext O29.2) (g := (mkF m 51 #[.val (.int p0), .unset, .unset, .unset] [(.int (7 : Int32)), (.ref b1), (.ref b1)])) rfl (hb hby at_51)
  have V_b1_v31 : Arv Z h29 b1 k1 (.object "com/example/netloom/netloom/net/ElementKind") (13 : Int32) [(.ref (w 0)), (.ref (w 1)), (.ref (w 2)), (.ref (w 3)), (.ref (w 4)), (.ref (w 5)), (.ref (w 6)), .null] .null := V_b1_v29.pad (pad_rep [(.ref (w 0)), (.ref (w 1)), (.ref (w 2)), (.ref (w 3)), (.ref (w 4)), (.ref (w 5)), (.ref (w 6))] .null 1)
  obtain ⟨cl32, Ar32, q32, Sz32, Ng32, Hv32, Gv32⟩ := V_b1_v31
  have hin32 : ¬ ((7 : Int32) < 0 ∨ cl32.slots.size ≤ ((7 : Int32)).toNatClampNeg) := inb_of Sz32 ⟨by decide, by decide⟩
  obtain ⟨T33, h33, X33, e33, W33, st33⟩ := stR X30 hx hZ e30 Ar32 (j := (7 : Int32)) (v := (.ref (w 7))) hin32 rfl (Sto.ofV Ar32 q32 Ov1 (Ins.self (hE7.ext O29.2))) (g := (mkF m 54 #[.val (.int p0), .unset, .unset, .unset] [(.ref (w 7)), (.int (7 : Int32)), (.ref b1), (.ref b1)])) rfl rfl (hb hby at_54)
  have V_b1_v33 : Arv Z h33 b1 k1 (.object "com/example/netloom/netloom/net/ElementKind") (13 : Int32) [(.ref (w 0)), (.ref (w 1)), (.ref (w 2)), (.ref (w 3)), (.ref (w 4)), (.ref (w 5)), (.ref (w 6)), (.ref (w 7))] .null := Arv.set Ar32 q32 Sz32 Ng32 Hv32 Gv32 rfl W33 7 rfl (Nat.le_of_ble_eq_true rfl)
  have N33 := Fr.snoc X33 N29 gn_b1
  have O33 := O29.wr W33 gn_b1
  obtain ⟨T34, X34, e34, st34⟩ := getS2 X33 hx hZ hown (host := "") (Or.inl (W hw 20 rfl)) Via.refl e33 (hS8.ext O33.2) (g := (mkF m 58 #[.val (.int p0), .unset, .unset, .unset] [(.int (8 : Int32)), (.ref b1), (.ref b1)])) rfl (hb hby at_58)
  have V_b1_v35 : Arv Z h33 b1 k1 (.object "com/example/netloom/netloom/net/ElementKind") (13 : Int32) [(.ref (w 0)), (.ref (w 1)), (.ref (w 2)), (.ref (w 3)), (.ref (w 4)), (.ref (w 5)), (.ref (w 6)), (.ref (w 7)), .null] .null := V_b1_v33.pad (pad_rep [(.ref (w 0)), (.ref (w 1)), (.ref (w 2)), (.ref (w 3)), (.ref (w 4)), (.ref (w 5)), (.ref (w 6)), (.ref (w 7))] .null 1)
  obtain ⟨cl36, Ar36, q36, Sz36, Ng36, Hv36, Gv36⟩ := V_b1_v35
  have hin36 : ¬ ((8 : Int32) < 0 ∨ cl36.slots.size ≤ ((8 : Int32)).toNatClampNeg) := inb_of Sz36 ⟨by decide, by decide⟩
  obtain ⟨T37, h37, X37, e37, W37, st37⟩ := stR X34 hx hZ e34 Ar36 (j := (8 : Int32)) (v := (.ref (w 8))) hin36 rfl (Sto.ofV Ar36 q36 Ov1 (Ins.self (hE8.ext O33.2))) (g := (mkF m 61 #[.val (.int p0), .unset, .unset, .unset] [(.ref (w 8)), (.int (8 : Int32)), (.ref b1), (.ref b1)])) rfl rfl (hb hby at_61)
  have V_b1_v37 : Arv Z h37 b1 k1 (.object "com/example/netloom/netloom/net/ElementKind") (13 : Int32) [(.ref (w 0)), (.ref (w 1)), (.ref (w 2)), (.ref (w 3)), (.ref (w 4)), (.ref (w 5)), (.ref (w 6)), (.ref (w 7)), (.ref (w 8))] .null := Arv.set Ar36 q36 Sz36 Ng36 Hv36 Gv36 rfl W37 8 rfl (Nat.le_of_ble_eq_true rfl)
  have N37 := Fr.snoc X37 N33 gn_b1
  have O37 := O33.wr W37 gn_b1
  obtain ⟨T38, X38, e38, st38⟩ := getS2 X37 hx hZ hown (host := "") (Or.inl (W hw 22 rfl)) Via.refl e37 (hS9.ext O37.2) (g := (mkF m 65 #[.val (.int p0), .unset, .unset, .unset] [(.int (9 : Int32)), (.ref b1), (.ref b1)])) rfl (hb hby at_65)
  have V_b1_v39 : Arv Z h37 b1 k1 (.object "com/example/netloom/netloom/net/ElementKind") (13 : Int32) [(.ref (w 0)), (.ref (w 1)), (.ref (w 2)), (.ref (w 3)), (.ref (w 4)), (.ref (w 5)), (.ref (w 6)), (.ref (w 7)), (.ref (w 8)), .null] .null := V_b1_v37.pad (pad_rep [(.ref (w 0)), (.ref (w 1)), (.ref (w 2)), (.ref (w 3)), (.ref (w 4)), (.ref (w 5)), (.ref (w 6)), (.ref (w 7)), (.ref (w 8))] .null 1)
  obtain ⟨cl40, Ar40, q40, Sz40, Ng40, Hv40, Gv40⟩ := V_b1_v39
  have hin40 : ¬ ((9 : Int32) < 0 ∨ cl40.slots.size ≤ ((9 : Int32)).toNatClampNeg) := inb_of Sz40 ⟨by decide, by decide⟩
  obtain ⟨T41, h41, X41, e41, W41, st41⟩ := stR X38 hx hZ e38 Ar40 (j := (9 : Int32)) (v := (.ref (w 9))) hin40 rfl (Sto.ofV Ar40 q40 Ov1 (Ins.self (hE9.ext O37.2))) (g := (mkF m 68 #[.val (.int p0), .unset, .unset, .unset] [(.ref (w 9)), (.int (9 : Int32)), (.ref b1), (.ref b1)])) rfl rfl (hb hby at_68)
  have V_b1_v41 : Arv Z h41 b1 k1 (.object "com/example/netloom/netloom/net/ElementKind") (13 : Int32) [(.ref (w 0)), (.ref (w 1)), (.ref (w 2)), (.ref (w 3)), (.ref (w 4)), (.ref (w 5)), (.ref (w 6)), (.ref (w 7)), (.ref (w 8)), (.ref (w 9))] .null := Arv.set Ar40 q40 Sz40 Ng40 Hv40 Gv40 rfl W41 9 rfl (Nat.le_of_ble_eq_true rfl)
  have N41 := Fr.snoc X41 N37 gn_b1
  have O41 := O37.wr W41 gn_b1
  obtain ⟨T42, X42, e42, st42⟩ := getS2 X41 hx hZ hown (host := "") (Or.inl (W hw 24 rfl)) Via.refl e41 (hS10.ext O41.2) (g := (mkF m 72 #[.val (.int p0), .unset, .unset, .unset] [(.int (10 : Int32)), (.ref b1), (.ref b1)])) rfl (hb hby at_72)
  have V_b1_v43 : Arv Z h41 b1 k1 (.object "com/example/netloom/netloom/net/ElementKind") (13 : Int32) [(.ref (w 0)), (.ref (w 1)), (.ref (w 2)), (.ref (w 3)), (.ref (w 4)), (.ref (w 5)), (.ref (w 6)), (.ref (w 7)), (.ref (w 8)), (.ref (w 9)), .null] .null := V_b1_v41.pad (pad_rep [(.ref (w 0)), (.ref (w 1)), (.ref (w 2)), (.ref (w 3)), (.ref (w 4)), (.ref (w 5)), (.ref (w 6)), (.ref (w 7)), (.ref (w 8)), (.ref (w 9))] .null 1)
  obtain ⟨cl44, Ar44, q44, Sz44, Ng44, Hv44, Gv44⟩ := V_b1_v43
  have hin44 : ¬ ((10 : Int32) < 0 ∨ cl44.slots.size ≤ ((10 : Int32)).toNatClampNeg) := inb_of Sz44 ⟨by decide, by decide⟩
  obtain ⟨T45, h45, X45, e45, W45, st45⟩ := stR X42 hx hZ e42 Ar44 (j := (10 : Int32)) (v := (.ref (w 10))) hin44 rfl (Sto.ofV Ar44 q44 Ov1 (Ins.self (hE10.ext O41.2))) (g := (mkF m 75 #[.val (.int p0), .unset, .unset, .unset] [(.ref (w 10)), (.int (10 : Int32)), (.ref b1), (.ref b1)])) rfl rfl (hb hby at_75)
  have V_b1_v45 : Arv Z h45 b1 k1 (.object "com/example/netloom/netloom/net/ElementKind") (13 : Int32) [(.ref (w 0)), (.ref (w 1)), (.ref (w 2)), (.ref (w 3)), (.ref (w 4)), (.ref (w 5)), (.ref (w 6)), (.ref (w 7)), (.ref (w 8)), (.ref (w 9)), (.ref (w 10))] .null := Arv.set Ar44 q44 Sz44 Ng44 Hv44 Gv44 rfl W45 10 rfl (Nat.le_of_ble_eq_true rfl)
  have N45 := Fr.snoc X45 N41 gn_b1
  have O45 := O41.wr W45 gn_b1
  obtain ⟨T46, X46, e46, st46⟩ := getS2 X45 hx hZ hown (host := "") (Or.inl (W hw 26 rfl)) Via.refl e45 (hS11.ext O45.2) (g := (mkF m 79 #[.val (.int p0), .unset, .unset, .unset] [(.int (11 : Int32)), (.ref b1), (.ref b1)])) rfl (hb hby at_79)
  have V_b1_v47 : Arv Z h45 b1 k1 (.object "com/example/netloom/netloom/net/ElementKind") (13 : Int32) [(.ref (w 0)), (.ref (w 1)), (.ref (w 2)), (.ref (w 3)), (.ref (w 4)), (.ref (w 5)), (.ref (w 6)), (.ref (w 7)), (.ref (w 8)), (.ref (w 9)), (.ref (w 10)), .null] .null := V_b1_v45.pad (pad_rep [(.ref (w 0)), (.ref (w 1)), (.ref (w 2)), (.ref (w 3)), (.ref (w 4)), (.ref (w 5)), (.ref (w 6)), (.ref (w 7)), (.ref (w 8)), (.ref (w 9)), (.ref (w 10))] .null 1)
  obtain ⟨cl48, Ar48, q48, Sz48, Ng48, Hv48, Gv48⟩ := V_b1_v47
  have hin48 : ¬ ((11 : Int32) < 0 ∨ cl48.slots.size ≤ ((11 : Int32)).toNatClampNeg) := inb_of Sz48 ⟨by decide, by decide⟩
  obtain ⟨T49, h49, X49, e49, W49, st49⟩ := stR X46 hx hZ e46 Ar48 (j := (11 : Int32)) (v := (.ref (w 11))) hin48 rfl (Sto.ofV Ar48 q48 Ov1 (Ins.self (hE11.ext O45.2))) (g := (mkF m 82 #[.val (.int p0), .unset, .unset, .unset] [(.ref (w 11)), (.int (11 : Int32)), (.ref b1), (.ref b1)])) rfl rfl (hb hby at_82)
  have V_b1_v49 : Arv Z h49 b1 k1 (.object "com/example/netloom/netloom/net/ElementKind") (13 : Int32) [(.ref (w 0)), (.ref (w 1)), (.ref (w 2)), (.ref (w 3)), (.ref (w 4)), (.ref (w 5)), (.ref (w 6)), (.ref (w 7)), (.ref (w 8)), (.ref (w 9)), (.ref (w 10)), (.ref (w 11))] .null := Arv.set Ar48 q48 Sz48 Ng48 Hv48 Gv48 rfl W49 11 rfl (Nat.le_of_ble_eq_true rfl)
  have N49 := Fr.snoc X49 N45 gn_b1
  have O49 := O45.wr W49 gn_b1
  obtain ⟨T50, X50, e50, st50⟩ := getS2 X49 hx hZ hown (host := "") (Or.inl (W hw 28 rfl)) Via.refl e49 (hS12.ext O49.2) (g := (mkF m 86 #[.val (.int p0), .unset, .unset, .unset] [(.int (12 : Int32)), (.ref b1), (.ref b1)])) rfl (hb hby at_86)
  have V_b1_v51 : Arv Z h49 b1 k1 (.object "com/example/netloom/netloom/net/ElementKind") (13 : Int32) [(.ref (w 0)), (.ref (w 1)), (.ref (w 2)), (.ref (w 3)), (.ref (w 4)), (.ref (w 5)), (.ref (w 6)), (.ref (w 7)), (.ref (w 8)), (.ref (w 9)), (.ref (w 10)), (.ref (w 11)), .null] .null := V_b1_v49.pad (pad_rep [(.ref (w 0)), (.ref (w 1)), (.ref (w 2)), (.ref (w 3)), (.ref (w 4)), (.ref (w 5)), (.ref (w 6)), (.ref (w 7)), (.ref (w 8)), (.ref (w 9)), (.ref (w 10)), (.ref (w 11))] .null 1)
  obtain ⟨cl52, Ar52, q52, Sz52, Ng52, Hv52, Gv52⟩ := V_b1_v51
  have hin52 : ¬ ((12 : Int32) < 0 ∨ cl52.slots.size ≤ ((12 : Int32)).toNatClampNeg) := inb_of Sz52 ⟨by decide, by decide⟩
  obtain ⟨T53, h53, X53, e53, W53, st53⟩ := stR X50 hx hZ e50 Ar52 (j := (12 : Int32)) (v := (.ref (w 12))) hin52 rfl (Sto.ofV Ar52 q52 Ov1 (Ins.self (hE12.ext O49.2))) (g := (mkF m 89 #[.val (.int p0), .unset, .unset, .unset] [(.ref (w 12)), (.int (12 : Int32)), (.ref b1), (.ref b1)])) rfl rfl (hb hby at_89)
  have V_b1_v53 : Arv Z h53 b1 k1 (.object "com/example/netloom/netloom/net/ElementKind") (13 : Int32) [(.ref (w 0)), (.ref (w 1)), (.ref (w 2)), (.ref (w 3)), (.ref (w 4)), (.ref (w 5)), (.ref (w 6)), (.ref (w 7)), (.ref (w 8)), (.ref (w 9)), (.ref (w 10)), (.ref (w 11)), (.ref (w 12))] .null := Arv.set Ar52 q52 Sz52 Ng52 Hv52 Gv52 rfl W53 12 rfl (Nat.le_of_ble_eq_true rfl)
  have N53 := Fr.snoc X53 N49 gn_b1
  have O53 := O49.wr W53 gn_b1
  obtain ⟨cl54, Ar54, q54, Sz54, Ng54, Hv54, Gv54⟩ := V_b1_v53
  have hin54 : ¬ ((5 : Int32) < 0 ∨ cl54.slots.size ≤ ((5 : Int32)).toNatClampNeg) := inb_of Sz54 ⟨by decide, by decide⟩
  have hat54 : cl54.slots[((5 : Int32)).toNatClampNeg]? = some (.ref (w 5)) := Has.at Hv54 hin54 (by rfl)
  obtain ⟨cq55, kq55, q55a, q55b, q55c⟩ := isOf hZ e53 (hE5.ext O53.2)
  obtain ⟨_, _, ⟨T55, L55, k55, n55⟩, -, X55, ⟨Lc55, hQ55, l55, y55, z55⟩, st55⟩ := X53.virtualBack hx (y := (⟨"com/example/netloom/netloom/net/ElementKind", "isPlace", "()Z"⟩ : MethodName)) (z := (⟨"com/example/netloom/netloom/net/ElementKind", "isPlace", "()Z"⟩ : MethodName)) hown (mvT hZ (W hw 31 rfl)) (mvT hZ (W hw 32 rfl)) (notFace_of_selects (args := #[]) (mvT hZ (W hw 34 rfl))) (mvT hZ (W hw 34 rfl)) (mvT hZ (W hw 33 rfl)) (by decide) (backOf (W := 0) (rm_11 l Z a0 hw w kk hN [] h53 O53) hZ (W hw 35 rfl) (W hw 3 rfl) (by decide) (by decide)) q55a q55c (g := (mkF m 118 #[.val (.int p0), .val (.ref b1), .val (.int (5 : Int32)), .val (.int (0 : Int32))] [(.ref (w 5))])) rfl (by rw [hml]; rfl) (Steps.refl _) (argsL := []) (rest := []) (lenOf pd_0 rfl) rfl (by show 2 * 0 + _ ≤ _; exact Nat.le_of_eq rfl) (hb hby at_118) (fun _ _ => ⟨rfl, e53, (by decide : 1 + 0 ≤ _), (by decide : 13 + 0 ≤ _)⟩)
  dsimp only [Pt.U, Pt.locs, Pt.cells, Pt.slots] at X55 l55 y55 z55 st55 hQ55
  subst l55 y55 z55
  obtain ⟨rfl, N55q, e55⟩ := hQ55
  have N55 := Fr.app N53 N55q
  obtain ⟨fs, hr, hrun, hended, hW, hsame⟩ := X55.leave (v := some (.int (1 : Int32))) (fun h => by rw [Bd.returns] at h; cases h)
  refine ⟨_, _, pre0 _ ?_, hrun, hended, _, _, rfl, ?_, ⟨_, rfl⟩, hW, hsame.mono (by decide) (by decide)⟩
  · show Steps p.tables e below (s₁.setTop (mkF m 0 #[.val (.int p0), .unset, .unset, .unset] [])) _
    refine XS.bipush X0.here hx rfl (hb hby at_0) ?_
    show Steps p.tables e below (s₁.setTop (mkF m 2 #[.val (.int p0), .unset, .unset, .unset] [(.int (13 : Int32))])) _
    refine st1 _ ?_
    show Steps p.tables e below (T1.setTop (mkF m 5 #[.val (.int p0), .unset, .unset, .unset] [(.ref b1)])) _
    refine XS.dup X1.here hx rfl (hb hby at_5) rfl rfl ?_
    show Steps p.tables e below (T1.setTop (mkF m 6 #[.val (.int p0), .unset, .unset, .unset] [(.ref b1), (.ref b1)])) _
    refine XS.iconst X1.here hx rfl (hb hby at_6) ?_
    show Steps p.tables e below (T1.setTop (mkF m 7 #[.val (.int p0), .unset, .unset, .unset] [(.int (0 : Int32)), (.ref b1), (.ref b1)])) _
    refine st2 _ ?_
    show Steps p.tables e below (T2.setTop (mkF m 10 #[.val (.int p0), .unset, .unset, .unset] [(.ref (w 0)), (.int (0 : Int32)), (.ref b1), (.ref b1)])) _
    refine st5 _ ?_
    show Steps p.tables e below (T5.setTop (mkF m 11 #[.val (.int p0), .unset, .unset, .unset] [(.ref b1)])) _
    refine XS.dup X5.here hx rfl (hb hby at_11) rfl rfl ?_
    show Steps p.tables e below (T5.setTop (mkF m 12 #[.val (.int p0), .unset, .unset, .unset] [(.ref b1), (.ref b1)])) _
    refine XS.iconst X5.here hx rfl (hb hby at_12) ?_
    show Steps p.tables e below (T5.setTop (mkF m 13 #[.val (.int p0), .unset, .unset, .unset] [(.int (1 : Int32)), (.ref b1), (.ref b1)])) _
    refine st6 _ ?_
    show Steps p.tables e below (T6.setTop (mkF m 16 #[.val (.int p0), .unset, .unset, .unset] [(.ref (w 1)), (.int (1 : Int32)), (.ref b1), (.ref b1)])) _
    refine st9 _ ?_
    show Steps p.tables e below (T9.setTop (mkF m 17 #[.val (.int p0), .unset, .unset, .unset] [(.ref b1)])) _
    refine XS.dup X9.here hx rfl (hb hby at_17) rfl rfl ?_
    show Steps p.tables e below (T9.setTop (mkF m 18 #[.val (.int p0), .unset, .unset, .unset] [(.ref b1), (.ref b1)])) _
    refine XS.iconst X9.here hx rfl (hb hby at_18) ?_
    show Steps p.tables e below (T9.setTop (mkF m 19 #[.val (.int p0), .unset, .unset, .unset] [(.int (2 : Int32)), (.ref b1), (.ref b1)])) _
    refine st10 _ ?_
    show Steps p.tables e below (T10.setTop (mkF m 22 #[.val (.int p0), .unset, .unset, .unset] [(.ref (w 2)), (.int (2 : Int32)), (.ref b1), (.ref b1)])) _
    refine st13 _ ?_
    show Steps p.tables e below (T13.setTop (mkF m 23 #[.val (.int p0), .unset, .unset, .unset] [(.ref b1)])) _
    refine XS.dup X13.here hx rfl (hb hby at_23) rfl rfl ?_
    show Steps p.tables e below (T13.setTop (mkF m 24 #[.val (.int p0), .unset, .unset, .unset] [(.ref b1), (.ref b1)])) _
    refine XS.iconst X13.here hx rfl (hb hby at_24) ?_
    show Steps p.tables e below (T13.setTop (mkF m 25 #[.val (.int p0), .unset, .unset, .unset] [(.int (3 : Int32)), (.ref b1), (.ref b1)])) _
    refine st14 _ ?_
    show Steps p.tables e below (T14.setTop (mkF m 28 #[.val (.int p0), .unset, .unset, .unset] [(.ref (w 3)), (.int (3 : Int32)), (.ref b1), (.ref b1)])) _
    refine st17 _ ?_
    show Steps p.tables e below (T17.setTop (mkF m 29 #[.val (.int p0), .unset, .unset, .unset] [(.ref b1)])) _
    refine XS.dup X17.here hx rfl (hb hby at_29) rfl rfl ?_
    show Steps p.tables e below (T17.setTop (mkF m 30 #[.val (.int p0), .unset, .unset, .unset] [(.ref b1), (.ref b1)])) _
    refine XS.iconst X17.here hx rfl (hb hby at_30) ?_
    show Steps p.tables e below (T17.setTop (mkF m 31 #[.val (.int p0), .unset, .unset, .unset] [(.int (4 : Int32)), (.ref b1), (.ref b1)])) _
    refine st18 _ ?_
    show Steps p.tables e below (T18.setTop (mkF m 34 #[.val (.int p0), .unset, .unset, .unset] [(.ref (w 4)), (.int (4 : Int32)), (.ref b1), (.ref b1)])) _
    refine st21 _ ?_
    show Steps p.tables e below (T21.setTop (mkF m 35 #[.val (.int p0), .unset, .unset, .unset] [(.ref b1)])) _
    refine XS.dup X21.here hx rfl (hb hby at_35) rfl rfl ?_
    show Steps p.tables e below (T21.setTop (mkF m 36 #[.val (.int p0), .unset, .unset, .unset] [(.ref b1), (.ref b1)])) _
    refine XS.iconst X21.here hx rfl (hb hby at_36) ?_
    show Steps p.tables e below (T21.setTop (mkF m 37 #[.val (.int p0), .unset, .unset, .unset] [(.int (5 : Int32)), (.ref b1), (.ref b1)])) _
    refine st22 _ ?_
    show Steps p.tables e below (T22.setTop (mkF m 40 #[.val (.int p0), .unset, .unset, .unset] [(.ref (w 5)), (.int (5 : Int32)), (.ref b1), (.ref b1)])) _
    refine st25 _ ?_
    show Steps p.tables e below (T25.setTop (mkF m 41 #[.val (.int p0), .unset, .unset, .unset] [(.ref b1)])) _
    refine XS.dup X25.here hx rfl (hb hby at_41) rfl rfl ?_
    show Steps p.tables e below (T25.setTop (mkF m 42 #[.val (.int p0), .unset, .unset, .unset] [(.ref b1), (.ref b1)])) _
    refine XS.bipush X25.here hx rfl (hb hby at_42) ?_
    show Steps p.tables e below (T25.setTop (mkF m 44 #[.val (.int p0), .unset, .unset, .unset] [(.int (6 : Int32)), (.ref b1), (.ref b1)])) _
    refine st26 _ ?_
    show Steps p.tables e below (T26.setTop (mkF m 47 #[.val (.int p0), .unset, .unset, .unset] [(.ref (w 6)), (.int (6 : Int32)), (.ref b1), (.ref b1)])) _
    refine st29 _ ?_
    show Steps p.tables e below (T29.setTop (mkF m 48 #[.val (.int p0), .unset, .unset, .unset] [(.ref b1)])) _
    refine XS.dup X29.here hx rfl (hb hby at_48) rfl rfl ?_
    show Steps p.tables e below (T29.setTop (mkF m 49 #[.val (.int p0), .unset, .unset, .unset] [(.ref b1), (.ref b1)])) _
    refine XS.bipush X29.here hx rfl (hb hby at_49) ?_
    show Steps p.tables e below (T29.setTop (mkF m 51 #[.val (.int p0), .unset, .unset, .unset] [(.int (7 : Int32)), (.ref b1), (.ref b1)])) _
    refine st30 _ ?_
    show Steps p.tables e below (T30.setTop (mkF m 54 #[.val (.int p0), .unset, .unset, .unset] [(.ref (w 7)), (.int (7 : Int32)), (.ref b1), (.ref b1)])) _
    refine st33 _ ?_
    show Steps p.tables e below (T33.setTop (mkF m 55 #[.val (.int p0), .unset, .unset, .unset] [(.ref b1)])) _
    refine XS.dup X33.here hx rfl (hb hby at_55) rfl rfl ?_
    show Steps p.tables e below (T33.setTop (mkF m 56 #[.val (.int p0), .unset, .unset, .unset] [(.ref b1), (.ref b1)])) _
    refine XS.bipush X33.here hx rfl (hb hby at_56) ?_
    show Steps p.tables e below (T33.setTop (mkF m 58 #[.val (.int p0), .unset, .unset, .unset] [(.int (8 : Int32)), (.ref b1), (.ref b1)])) _
    refine st34 _ ?_
    show Steps p.tables e below (T34.setTop (mkF m 61 #[.val (.int p0), .unset, .unset, .unset] [(.ref (w 8)), (.int (8 : Int32)), (.ref b1), (.ref b1)])) _
    refine st37 _ ?_
    show Steps p.tables e below (T37.setTop (mkF m 62 #[.val (.int p0), .unset, .unset, .unset] [(.ref b1)])) _
    refine XS.dup X37.here hx rfl (hb hby at_62) rfl rfl ?_
    show Steps p.tables e below (T37.setTop (mkF m 63 #[.val (.int p0), .unset, .unset, .unset] [(.ref b1), (.ref b1)])) _
    refine XS.bipush X37.here hx rfl (hb hby at_63) ?_
    show Steps p.tables e below (T37.setTop (mkF m 65 #[.val (.int p0), .unset, .unset, .unset] [(.int (9 : Int32)), (.ref b1), (.ref b1)])) _
    refine st38 _ ?_
    show Steps p.tables e below (T38.setTop (mkF m 68 #[.val (.int p0), .unset, .unset, .unset] [(.ref (w 9)), (.int (9 : Int32)), (.ref b1), (.ref b1)])) _
    refine st41 _ ?_
    show Steps p.tables e below (T41.setTop (mkF m 69 #[.val (.int p0), .unset, .unset, .unset] [(.ref b1)])) _
    refine XS.dup X41.here hx rfl (hb hby at_69) rfl rfl ?_
    show Steps p.tables e below (T41.setTop (mkF m 70 #[.val (.int p0), .unset, .unset, .unset] [(.ref b1), (.ref b1)])) _
    refine XS.bipush X41.here hx rfl (hb hby at_70) ?_
    show Steps p.tables e below (T41.setTop (mkF m 72 #[.val (.int p0), .unset, .unset, .unset] [(.int (10 : Int32)), (.ref b1), (.ref b1)])) _
    refine st42 _ ?_
    show Steps p.tables e below (T42.setTop (mkF m 75 #[.val (.int p0), .unset, .unset, .unset] [(.ref (w 10)), (.int (10 : Int32)), (.ref b1), (.ref b1)])) _
    refine st45 _ ?_
    show Steps p.tables e below (T45.setTop (mkF m 76 #[.val (.int p0), .unset, .unset, .unset] [(.ref b1)])) _
    refine XS.dup X45.here hx rfl (hb hby at_76) rfl rfl ?_
    show Steps p.tables e below (T45.setTop (mkF m 77 #[.val (.int p0), .unset, .unset, .unset] [(.ref b1), (.ref b1)])) _
    refine XS.bipush X45.here hx rfl (hb hby at_77) ?_
    show Steps p.tables e below (T45.setTop (mkF m 79 #[.val (.int p0), .unset, .unset, .unset] [(.int (11 : Int32)), (.ref b1), (.ref b1)])) _
    refine st46 _ ?_
    show Steps p.tables e below (T46.setTop (mkF m 82 #[.val (.int p0), .unset, .unset, .unset] [(.ref (w 11)), (.int (11 : Int32)), (.ref b1), (.ref b1)])) _
    refine st49 _ ?_
    show Steps p.tables e below (T49.setTop (mkF m 83 #[.val (.int p0), .unset, .unset, .unset] [(.ref b1)])) _
    refine XS.dup X49.here hx rfl (hb hby at_83) rfl rfl ?_
    show Steps p.tables e below (T49.setTop (mkF m 84 #[.val (.int p0), .unset, .unset, .unset] [(.ref b1), (.ref b1)])) _
    refine XS.bipush X49.here hx rfl (hb hby at_84) ?_
    show Steps p.tables e below (T49.setTop (mkF m 86 #[.val (.int p0), .unset, .unset, .unset] [(.int (12 : Int32)), (.ref b1), (.ref b1)])) _
    refine st50 _ ?_
    show Steps p.tables e below (T50.setTop (mkF m 89 #[.val (.int p0), .unset, .unset, .unset] [(.ref (w 12)), (.int (12 : Int32)), (.ref b1), (.ref b1)])) _
    refine st53 _ ?_
    show Steps p.tables e below (T53.setTop (mkF m 90 #[.val (.int p0), .unset, .unset, .unset] [(.ref b1)])) _
    refine XS.astoreN X53.here hx rfl (hb hby at_90) rfl rfl (l' := #[.val (.int p0), .val (.ref b1), .unset, .unset]) rfl ?_
    show Steps p.tables e below (T53.setTop (mkF m 91 #[.val (.int p0), .val (.ref b1), .unset, .unset] [])) _
    refine XS.iloadN X53.here hx rfl (hb hby at_91) rfl ?_
    show Steps p.tables e below (T53.setTop (mkF m 92 #[.val (.int p0), .val (.ref b1), .unset, .unset] [(.int p0)])) _
    refine X53.ldcInt hx hown (mvT hZ (W hw 30 rfl)) (g := (mkF m 92 #[.val (.int p0), .val (.ref b1), .unset, .unset] [(.int p0)])) rfl (hb hby at_92) _ ?_
    show Steps p.tables e below (T53.setTop (mkF m 94 #[.val (.int p0), .val (.ref b1), .unset, .unset] [(.int (2147483647 : Int32)), (.int p0)])) _
    refine XS.iand X53.here hx rfl (hb hby at_94) rfl ?_
    show Steps p.tables e below (T53.setTop (mkF m 95 #[.val (.int p0), .val (.ref b1), .unset, .unset] [(.int (p0 &&& (2147483647 : Int32)))])) _
    refine XS.bipush X53.here hx rfl (hb hby at_95) ?_
    show Steps p.tables e below (T53.setTop (mkF m 97 #[.val (.int p0), .val (.ref b1), .unset, .unset] [(.int (13 : Int32)), (.int (p0 &&& (2147483647 : Int32)))])) _
    refine iremM X53 hx rfl (hb hby at_97) rfl (by decide : ¬ ((13 : Int32) = (0 : Int32))) ?_
    show Steps p.tables e below (T53.setTop (mkF m 98 #[.val (.int p0), .val (.ref b1), .unset, .unset] [(.int ((p0 &&& (2147483647 : Int32)) % (13 : Int32)))])) _
    rw [hp0]
    show Steps p.tables e below (T53.setTop (mkF m 98 #[.val (.int p0), .val (.ref b1), .unset, .unset] [(.int (5 : Int32))])) _
    refine XS.istoreN X53.here hx rfl (hb hby at_98) rfl (l' := #[.val (.int p0), .val (.ref b1), .val (.int (5 : Int32)), .unset]) rfl ?_
    show Steps p.tables e below (T53.setTop (mkF m 99 #[.val (.int p0), .val (.ref b1), .val (.int (5 : Int32)), .unset] [])) _
    refine XS.iloadN X53.here hx rfl (hb hby at_99) rfl ?_
    show Steps p.tables e below (T53.setTop (mkF m 100 #[.val (.int p0), .val (.ref b1), .val (.int (5 : Int32)), .unset] [(.int (5 : Int32))])) _
    refine XS.iconst X53.here hx rfl (hb hby at_100) ?_
    show Steps p.tables e below (T53.setTop (mkF m 101 #[.val (.int p0), .val (.ref b1), .val (.int (5 : Int32)), .unset] [(.int (2 : Int32)), (.int (5 : Int32))])) _
    refine XS.icmpNo X53.here hx rfl (hb hby at_101) rfl (feq (by decide : ¬ ((5 : Int32) = (2 : Int32)))).1 ?_
    show Steps p.tables e below (T53.setTop (mkF m 104 #[.val (.int p0), .val (.ref b1), .val (.int (5 : Int32)), .unset] [])) _
    refine XS.iloadN X53.here hx rfl (hb hby at_104) rfl ?_
    show Steps p.tables e below (T53.setTop (mkF m 105 #[.val (.int p0), .val (.ref b1), .val (.int (5 : Int32)), .unset] [(.int (5 : Int32))])) _
    refine XS.iconst X53.here hx rfl (hb hby at_105) ?_
    show Steps p.tables e below (T53.setTop (mkF m 106 #[.val (.int p0), .val (.ref b1), .val (.int (5 : Int32)), .unset] [(.int (4 : Int32)), (.int (5 : Int32))])) _
    refine XS.icmpYes X53.here hx rfl (pc0 := 106) (pc' := 113) rfl (hb hby at_106) rfl (feq (by decide : ¬ ((5 : Int32) = (4 : Int32)))).2 (by decide) (by decide) ?_
    show Steps p.tables e below (T53.setTop (mkF m 113 #[.val (.int p0), .val (.ref b1), .val (.int (5 : Int32)), .unset] [])) _
    refine XS.iconst X53.here hx rfl (hb hby at_113) ?_
    show Steps p.tables e below (T53.setTop (mkF m 114 #[.val (.int p0), .val (.ref b1), .val (.int (5 : Int32)), .unset] [(.int (0 : Int32))])) _
    refine XS.istoreN X53.here hx rfl (hb hby at_114) rfl (l' := #[.val (.int p0), .val (.ref b1), .val (.int (5 : Int32)), .val (.int (0 : Int32))]) rfl ?_
    show Steps p.tables e below (T53.setTop (mkF m 115 #[.val (.int p0), .val (.ref b1), .val (.int (5 : Int32)), .val (.int (0 : Int32))] [])) _
    refine XS.aloadN X53.here hx rfl (hb hby at_115) rfl rfl ?_
    show Steps p.tables e below (T53.setTop (mkF m 116 #[.val (.int p0), .val (.ref b1), .val (.int (5 : Int32)), .val (.int (0 : Int32))] [(.ref b1)])) _
    refine XS.iloadN X53.here hx rfl (hb hby at_116) rfl ?_
    show Steps p.tables e below (T53.setTop (mkF m 117 #[.val (.int p0), .val (.ref b1), .val (.int (5 : Int32)), .val (.int (0 : Int32))] [(.int (5 : Int32)), (.ref b1)])) _
    refine X53.aaload hx (j := (5 : Int32)) (v := (.ref (w 5))) (by rw [e53]; exact Ar54.1) (State.isArrayOf_alike hZ.alike Ar54.2.1) rfl Ar54.2.2 hin54 hat54 (g := (mkF m 117 #[.val (.int p0), .val (.ref b1), .val (.int (5 : Int32)), .val (.int (0 : Int32))] [(.int (5 : Int32)), (.ref b1)])) rfl rfl (hb hby at_117) _ ?_
    show Steps p.tables e below (T53.setTop (mkF m 118 #[.val (.int p0), .val (.ref b1), .val (.int (5 : Int32)), .val (.int (0 : Int32))] [(.ref (w 5))])) _
    refine st55.trans ?_
    show Steps p.tables e below (T55.setTop (mkF m 121 #[.val (.int p0), .val (.ref b1), .val (.int (5 : Int32)), .val (.int (0 : Int32))] [(.int (0 : Int32))])) _
    refine XS.iloadN X55.here hx rfl (hb hby at_121) rfl ?_
    show Steps p.tables e below (T55.setTop (mkF m 122 #[.val (.int p0), .val (.ref b1), .val (.int (5 : Int32)), .val (.int (0 : Int32))] [(.int (0 : Int32)), (.int (0 : Int32))])) _
    refine XS.icmpNo X55.here hx rfl (hb hby at_122) rfl (teq (by decide : (0 : Int32) = (0 : Int32))).2 ?_
    show Steps p.tables e below (T55.setTop (mkF m 125 #[.val (.int p0), .val (.ref b1), .val (.int (5 : Int32)), .val (.int (0 : Int32))] [])) _
    refine XS.iconst X55.here hx rfl (hb hby at_125) ?_
    show Steps p.tables e below (T55.setTop (mkF m 126 #[.val (.int p0), .val (.ref b1), .val (.int (5 : Int32)), .val (.int (0 : Int32))] [(.int (1 : Int32))])) _
    refine XS.goto X55.here hx rfl (pc0 := 126) (pc' := 130) rfl (hb hby at_126) (by decide) (by decide) ?_
    show Steps p.tables e below (T55.setTop (mkF m 130 #[.val (.int p0), .val (.ref b1), .val (.int (5 : Int32)), .val (.int (0 : Int32))] [(.int (1 : Int32))])) _
    exact retN X55 hx (t := .boolean) Bd.returns (by simp) (hb hby at_130) hr
  · show OL (some (.int (1 : Int32))) Z.heap.size _ T55.heap _
    exact ⟨rfl, N55⟩
set_option maxRecDepth 65536 in
set_option maxHeartbeats 40000000 in
theorem rm_13 (l : Launch) (Z : State) (a0 : Array Value) (hw : ∀ d ∈ tables_1, d.before a0 Z = true) (w : Nat → Addr) (kk : Nat → ClassId) (hN : Wd Z w kk) (ws : List Jvm.Cond)  (h0 : Heap) (O0 : Old Z Z.heap.size h0) :
    MetFree l (⟨"com/example/netloom/netloom/net/ElementKind", "isPlace", "()Z"⟩ : MethodName) (head1 (Jvm.Cond.code (⟨"com/example/netloom/netloom/net/ElementKind", "isPlace", "()Z"⟩ : MethodName) prog_22_method_5_code 1 (some .boolean) :: ws) ({ frames := 0, cells := 0, slots := 0, locals := 0 } : Room)) (fun a U => a = #[(.ref (w 6))] ∧ Z.Warmed39 U.vm ∧ U.heap = h0) (fun _ _ _ _ _ => True) (fun _ U o U' => ∃ v L, o = .returned v ∧ OQ (some (.int (0 : Int32))) h0 Z.heap.size v U'.heap L ∧ FrameEnd U o U' L ({ frames := 0, cells := 0, slots := 0, locals := 0 } : Room).cells ({ frames := 0, cells := 0, slots := 0, locals := 0 } : Room).slots) := by
  have hN' := hN
  obtain ⟨hS0, hE0, hS1, hE1, hS2, hE2, hS3, hE3, hS4, hE4, hS5, hE5, hS6, hE6, hS7, hE7, hS8, hE8, hS9, hE9, hS10, hE10, hS11, hE11, hS12, hE12, hF0_ordinal, hF2_ordinal, hF4_ordinal, hF3_ordinal, hF6_ordinal, hF5_ordinal, hF7_ordinal, hF9_ordinal, hF11_ordinal, hF1_ordinal, hF8_ordinal, hF10_ordinal, hF12_ordinal⟩ := hN'
  refine MetFree.of_bodySF (plainFor_of_name pn_0) hisR ?_
  intro p e s m args below meth c s₁ Bd hml0 hP hK
  obtain ⟨rfl, hZ, hh⟩ := hP
  have hx := Bd.exec
  have hby := Bd.bytes
  have hml : c.maxLocals = 1 := hml0
  have hown : s.vm.findClass "com/example/netloom/netloom/net/ElementKind" = some m.cls := findClass_of_methodNamed Bd.named
  have hnm := (name_of_methodNamed Bd.named Bd.method).1
  have X0 : Stand p l e ({ frames := 0, cells := 0, slots := 0, locals := 0 } : Room) s m #[(.ref (w 6))] below meth c s₁ [] 0 0 := Stand.of_body Bd
  have e0 : s₁.heap = h0 := by rw [← hh, Bd.state]; rfl
  have N0 := Fr.nil Z.heap.size
  have pre0 : ∀ t, Steps p.tables e below (s₁.setTop (mkF m 0 #[.val (.ref (w 6))] [])) t → Steps p.tables e below (s₁.setTop (entryFrame m #[(.ref (w 6))] 1)) t := fun t k => castTop (ef_0 m (.ref (w 6)) rfl) k
  obtain ⟨T1, X1, e1, st1⟩ := getS2 X0 hx hZ hown (host := "") (Or.inl (W hw 36 rfl)) Via.refl e0 (hS2.ext O0.2) (g := (mkF m 1 #[.val (.ref (w 6))] [(.ref (w 6))])) rfl (hb hby d_prog_22_method_5_code_1)
  obtain ⟨T2, X2, e2, st2⟩ := getS2 X1 hx hZ hown (host := "") (Or.inl (W hw 37 rfl)) Via.refl e1 (hS4.ext O0.2) (g := (mkF m 8 #[.val (.ref (w 6))] [(.ref (w 6))])) rfl (hb hby d_prog_22_method_5_code_8)
  obtain ⟨fs, hr, hrun, hended, hW, hsame⟩ := X2.leave (v := some (.int (0 : Int32))) (fun h => by rw [Bd.returns] at h; cases h)
  refine ⟨_, _, pre0 _ ?_, hrun, hended, _, _, rfl, ?_, ⟨_, rfl⟩, hW, hsame.mono (by decide) (by decide)⟩
  · show Steps p.tables e below (s₁.setTop (mkF m 0 #[.val (.ref (w 6))] [])) _
    refine XS.aloadN X0.here hx rfl (hb hby d_prog_22_method_5_code_0) rfl rfl ?_
    show Steps p.tables e below (s₁.setTop (mkF m 1 #[.val (.ref (w 6))] [(.ref (w 6))])) _
    refine st1 _ ?_
    show Steps p.tables e below (T1.setTop (mkF m 4 #[.val (.ref (w 6))] [(.ref (w 2)), (.ref (w 6))])) _
    refine Jvm.RoadKit.acmp (g := (mkF m 4 #[.val (.ref (w 6))] [(.ref (w 2)), (.ref (w 6))])) X1 hx rfl rfl rfl (pc0 := 4) (pc' := 7) (same := false) rfl (hb hby d_prog_22_method_5_code_4) rfl (decide_eq_false fun q => (Fld.ne hF6_ordinal hF2_ordinal (by decide)) (Value.ref.inj q)) (by decide) (by decide) ?_
    show Steps p.tables e below (T1.setTop (mkF m 7 #[.val (.ref (w 6))] [])) _
    refine XS.aloadN X1.here hx rfl (hb hby d_prog_22_method_5_code_7) rfl rfl ?_
    show Steps p.tables e below (T1.setTop (mkF m 8 #[.val (.ref (w 6))] [(.ref (w 6))])) _
    refine st2 _ ?_
    show Steps p.tables e below (T2.setTop (mkF m 11 #[.val (.ref (w 6))] [(.ref (w 4)), (.ref (w 6))])) _
    refine Jvm.RoadKit.acmp (g := (mkF m 11 #[.val (.ref (w 6))] [(.ref (w 4)), (.ref (w 6))])) X2 hx rfl rfl rfl (pc0 := 11) (pc' := 18) (same := false) rfl (hb hby d_prog_22_method_5_code_11) rfl (decide_eq_false fun q => (Fld.ne hF6_ordinal hF4_ordinal (by decide)) (Value.ref.inj q)) (by decide) (by decide) ?_
    show Steps p.tables e below (T2.setTop (mkF m 18 #[.val (.ref (w 6))] [])) _
    refine XS.iconst X2.here hx rfl (hb hby d_prog_22_method_5_code_18) ?_
    show Steps p.tables e below (T2.setTop (mkF m 19 #[.val (.ref (w 6))] [(.int (0 : Int32))])) _
    exact retN X2 hx (t := .boolean) Bd.returns (by simp) (hb hby d_prog_22_method_5_code_19) hr
  · show OQ (some (.int (0 : Int32))) h0 Z.heap.size _ T2.heap _
    rw [e2]
    exact ⟨rfl, N0, rfl⟩
set_option maxRecDepth 65536 in
set_option maxHeartbeats 40000000 in
theorem law_14 (l : Launch) (Z : State) (a0 : Array Value) (hw : ∀ d ∈ tables_1, d.before a0 Z = true) (w : Nat → Addr) (kk : Nat → ClassId) (hN : Wd Z w kk) (ws : List Jvm.Cond) (p0 : Int32) (h0 : Heap) (O0 : Old Z Z.heap.size h0) (hp0 : ((p0 &&& (2147483647 : Int32)) % (13 : Int32)) = (6 : Int32)) :
    MetFree l x (head1 (Jvm.Cond.code x code maxLocals ret :: ws) room_1) (fun a U => a = #[(.int p0)] ∧ Z.Warmed39 U.vm ∧ U.heap = h0) (fun _ _ _ _ _ => True) (fun _ U o U' => ∃ v L, o = .returned v ∧ OL (some (.int (1 : Int32))) Z.heap.size v U'.heap L ∧ FrameEnd U o U' L 16 128) := by
  have hN' := hN
  obtain ⟨hS0, hE0, hS1, hE1, hS2, hE2, hS3, hE3, hS4, hE4, hS5, hE5, hS6, hE6, hS7, hE7, hS8, hE8, hS9, hE9, hS10, hE10, hS11, hE11, hS12, hE12, hF0_ordinal, hF2_ordinal, hF4_ordinal, hF3_ordinal, hF6_ordinal, hF5_ordinal, hF7_ordinal, hF9_ordinal, hF11_ordinal, hF1_ordinal, hF8_ordinal, hF10_ordinal, hF12_ordinal⟩ := hN'
  refine MetFree.of_bodySF (plainFor_of_name pn_1) hisR ?_
  intro p e s m args below meth c s₁ Bd hml0 hP hK
  obtain ⟨rfl, hZ, hh⟩ := hP
  have hx := Bd.exec
  have hby := Bd.bytes
  have hml : c.maxLocals = 4 := hml0
  have hown : s.vm.findClass "com/example/netloom/netloom/net/ElementKindIsPlacePinLaw" = some m.cls := findClass_of_methodNamed Bd.named
  have hnm := (name_of_methodNamed Bd.named Bd.method).1
  have X0 : Stand p l e room_1 s m #[(.int p0)] below meth c s₁ [] 0 0 := Stand.of_body Bd
  have e0 : s₁.heap = h0 := by rw [← hh, Bd.state]; rfl
  have N0 := Fr.nil Z.heap.size
  have pre0 : ∀ t, Steps p.tables e below (s₁.setTop (mkF m 0 #[.val (.int p0), .unset, .unset, .unset] [])) t → Steps p.tables e below (s₁.setTop (entryFrame m #[(.int p0)] maxLocals)) t := fun t k => castTop (ef_1 m (.int p0) rfl) k
  obtain ⟨T1, h1, k1, X1, e1, E1, A1, Ov1, st1⟩ := newR X0 hx hZ hown (W hw 0 rfl) (W hw 1 rfl) e0 (g := (mkF m 2 #[.val (.int p0), .unset, .unset, .unset] [(.int (13 : Int32))])) rfl (hb hby at_2) rfl (by decide) (cap := 13) (by decide) (by decide) (by decide) (by decide)
  obtain ⟨b1, g1⟩ : ∃ z, z = h0.size := ⟨_, rfl⟩
  rw [← g1] at A1 st1
  have gn_b1 : Z.heap.size ≤ b1 := Nat.le_trans O0.2.1 (Nat.le_of_eq g1.symm)
  have O1 := O0.ext E1
  have V_b1_v1 : Arv Z h1 b1 k1 (.object "com/example/netloom/netloom/net/ElementKind") (13 : Int32) [] .null := Arv.new A1 (by decide)
  obtain ⟨T2, X2, e2, st2⟩ := getS2 X1 hx hZ hown (host := "") (Or.inl (W hw 2 rfl)) Via.refl e1 (hS0.ext O1.2) (g := (mkF m 7 #[.val (.int p0), .unset, .unset, .unset] [(.int (0 : Int32)), (.ref b1), (.ref b1)])) rfl (hb hby at_7)
  have V_b1_v3 : Arv Z h1 b1 k1 (.object "com/example/netloom/netloom/net/ElementKind") (13 : Int32) [.null] .null := V_b1_v1.pad (pad_rep [] .null 1)
  obtain ⟨cl4, Ar4, q4, Sz4, Ng4, Hv4, Gv4⟩ := V_b1_v3
  have hin4 : ¬ ((0 : Int32) < 0 ∨ cl4.slots.size ≤ ((0 : Int32)).toNatClampNeg) := inb_of Sz4 ⟨by decide, by decide⟩
  obtain ⟨T5, h5, X5, e5, W5, st5⟩ := stR X2 hx hZ e2 Ar4 (j := (0 : Int32)) (v := (.ref (w 0))) hin4 rfl (Sto.ofV Ar4 q4 Ov1 (Ins.self (hE0.ext O1.2))) (g := (mkF m 10 #[.val (.int p0), .unset, .unset, .unset] [(.ref (w 0)), (.int (0 : Int32)), (.ref b1), (.ref b1)])) rfl rfl (hb hby at_10)
  have V_b1_v5 : Arv Z h5 b1 k1 (.object "com/example/netloom/netloom/net/ElementKind") (13 : Int32) [(.ref (w 0))] .null := Arv.set Ar4 q4 Sz4 Ng4 Hv4 Gv4 rfl W5 0 rfl (Nat.le_of_ble_eq_true rfl)
  have N5 := Fr.snoc X5 N0 gn_b1
  have O5 := O1.wr W5 gn_b1
  obtain ⟨T6, X6, e6, st6⟩ := getS2 X5 hx hZ hown (host := "") (Or.inl (W hw 6 rfl)) Via.refl e5 (hS1.ext O5.2) (g := (mkF m 13 #[.val (.int p0), .unset, .unset, .unset] [(.int (1 : Int32)), (.ref b1), (.ref b1)])) rfl (hb hby at_13)
  have V_b1_v7 : Arv Z h5 b1 k1 (.object "com/example/netloom/netloom/net/ElementKind") (13 : Int32) [(.ref (w 0)), .null] .null := V_b1_v5.pad (pad_rep [(.ref (w 0))] .null 1)
  obtain ⟨cl8, Ar8, q8, Sz8, Ng8, Hv8, Gv8⟩ := V_b1_v7
  have hin8 : ¬ ((1 : Int32) < 0 ∨ cl8.slots.size ≤ ((1 : Int32)).toNatClampNeg) := inb_of Sz8 ⟨by decide, by decide⟩
  obtain ⟨T9, h9, X9, e9, W9, st9⟩ := stR X6 hx hZ e6 Ar8 (j := (1 : Int32)) (v := (.ref (w 1))) hin8 rfl (Sto.ofV Ar8 q8 Ov1 (Ins.self (hE1.ext O5.2))) (g := (mkF m 16 #[.val (.int p0), .unset, .unset, .unset] [(.ref (w 1)), (.int (1 : Int32)), (.ref b1), (.ref b1)])) rfl rfl (hb hby at_16)
  have V_b1_v9 : Arv Z h9 b1 k1 (.object "com/example/netloom/netloom/net/ElementKind") (13 : Int32) [(.ref (w 0)), (.ref (w 1))] .null := Arv.set Ar8 q8 Sz8 Ng8 Hv8 Gv8 rfl W9 1 rfl (Nat.le_of_ble_eq_true rfl)
  have N9 := Fr.snoc X9 N5 gn_b1
  have O9 := O5.wr W9 gn_b1
  obtain ⟨T10, X10, e10, st10⟩ := getS2 X9 hx hZ hown (host := "") (Or.inl (W hw 8 rfl)) Via.refl e9 (hS2.ext O9.2) (g := (mkF m 19 #[.val (.int p0), .unset, .unset, .unset] [(.int (2 : Int32)), (.ref b1), (.ref b1)])) rfl (hb hby at_19)
  have V_b1_v11 : Arv Z h9 b1 k1 (.object "com/example/netloom/netloom/net/ElementKind") (13 : Int32) [(.ref (w 0)), (.ref (w 1)), .null] .null := V_b1_v9.pad (pad_rep [(.ref (w 0)), (.ref (w 1))] .null 1)
  obtain ⟨cl12, Ar12, q12, Sz12, Ng12, Hv12, Gv12⟩ := V_b1_v11
  have hin12 : ¬ ((2 : Int32) < 0 ∨ cl12.slots.size ≤ ((2 : Int32)).toNatClampNeg) := inb_of Sz12 ⟨by decide, by decide⟩
  obtain ⟨T13, h13, X13, e13, W13, st13⟩ := stR X10 hx hZ e10 Ar12 (j := (2 : Int32)) (v := (.ref (w 2))) hin12 rfl (Sto.ofV Ar12 q12 Ov1 (Ins.self (hE2.ext O9.2))) (g := (mkF m 22 #[.val (.int p0), .unset, .unset, .unset] [(.ref (w 2)), (.int (2 : Int32)), (.ref b1), (.ref b1)])) rfl rfl (hb hby at_22)
  have V_b1_v13 : Arv Z h13 b1 k1 (.object "com/example/netloom/netloom/net/ElementKind") (13 : Int32) [(.ref (w 0)), (.ref (w 1)), (.ref (w 2))] .null := Arv.set Ar12 q12 Sz12 Ng12 Hv12 Gv12 rfl W13 2 rfl (Nat.le_of_ble_eq_true rfl)
  have N13 := Fr.snoc X13 N9 gn_b1
  have O13 := O9.wr W13 gn_b1
  obtain ⟨T14, X14, e14, st14⟩ := getS2 X13 hx hZ hown (host := "") (Or.inl (W hw 10 rfl)) Via.refl e13 (hS3.ext O13.2) (g := (mkF m 25 #[.val (.int p0), .unset, .unset, .unset] [(.int (3 : Int32)), (.ref b1), (.ref b1)])) rfl (hb hby at_25)
  have V_b1_v15 : Arv Z h13 b1 k1 (.object "com/example/netloom/netloom/net/ElementKind") (13 : Int32) [(.ref (w 0)), (.ref (w 1)), (.ref (w 2)), .null] .null := V_b1_v13.pad (pad_rep [(.ref (w 0)), (.ref (w 1)), (.ref (w 2))] .null 1)
  obtain ⟨cl16, Ar16, q16, Sz16, Ng16, Hv16, Gv16⟩ := V_b1_v15
  have hin16 : ¬ ((3 : Int32) < 0 ∨ cl16.slots.size ≤ ((3 : Int32)).toNatClampNeg) := inb_of Sz16 ⟨by decide, by decide⟩
  obtain ⟨T17, h17, X17, e17, W17, st17⟩ := stR X14 hx hZ e14 Ar16 (j := (3 : Int32)) (v := (.ref (w 3))) hin16 rfl (Sto.ofV Ar16 q16 Ov1 (Ins.self (hE3.ext O13.2))) (g := (mkF m 28 #[.val (.int p0), .unset, .unset, .unset] [(.ref (w 3)), (.int (3 : Int32)), (.ref b1), (.ref b1)])) rfl rfl (hb hby at_28)
  have V_b1_v17 : Arv Z h17 b1 k1 (.object "com/example/netloom/netloom/net/ElementKind") (13 : Int32) [(.ref (w 0)), (.ref (w 1)), (.ref (w 2)), (.ref (w 3))] .null := Arv.set Ar16 q16 Sz16 Ng16 Hv16 Gv16 rfl W17 3 rfl (Nat.le_of_ble_eq_true rfl)
  have N17 := Fr.snoc X17 N13 gn_b1
  have O17 := O13.wr W17 gn_b1
  obtain ⟨T18, X18, e18, st18⟩ := getS2 X17 hx hZ hown (host := "") (Or.inl (W hw 12 rfl)) Via.refl e17 (hS4.ext O17.2) (g := (mkF m 31 #[.val (.int p0), .unset, .unset, .unset] [(.int (4 : Int32)), (.ref b1), (.ref b1)])) rfl (hb hby at_31)
  have V_b1_v19 : Arv Z h17 b1 k1 (.object "com/example/netloom/netloom/net/ElementKind") (13 : Int32) [(.ref (w 0)), (.ref (w 1)), (.ref (w 2)), (.ref (w 3)), .null] .null := V_b1_v17.pad (pad_rep [(.ref (w 0)), (.ref (w 1)), (.ref (w 2)), (.ref (w 3))] .null 1)
  obtain ⟨cl20, Ar20, q20, Sz20, Ng20, Hv20, Gv20⟩ := V_b1_v19
  have hin20 : ¬ ((4 : Int32) < 0 ∨ cl20.slots.size ≤ ((4 : Int32)).toNatClampNeg) := inb_of Sz20 ⟨by decide, by decide⟩
  obtain ⟨T21, h21, X21, e21, W21, st21⟩ := stR X18 hx hZ e18 Ar20 (j := (4 : Int32)) (v := (.ref (w 4))) hin20 rfl (Sto.ofV Ar20 q20 Ov1 (Ins.self (hE4.ext O17.2))) (g := (mkF m 34 #[.val (.int p0), .unset, .unset, .unset] [(.ref (w 4)), (.int (4 : Int32)), (.ref b1), (.ref b1)])) rfl rfl (hb hby at_34)
  have V_b1_v21 : Arv Z h21 b1 k1 (.object "com/example/netloom/netloom/net/ElementKind") (13 : Int32) [(.ref (w 0)), (.ref (w 1)), (.ref (w 2)), (.ref (w 3)), (.ref (w 4))] .null := Arv.set Ar20 q20 Sz20 Ng20 Hv20 Gv20 rfl W21 4 rfl (Nat.le_of_ble_eq_true rfl)
  have N21 := Fr.snoc X21 N17 gn_b1
  have O21 := O17.wr W21 gn_b1
  obtain ⟨T22, X22, e22, st22⟩ := getS2 X21 hx hZ hown (host := "") (Or.inl (W hw 14 rfl)) Via.refl e21 (hS5.ext O21.2) (g := (mkF m 37 #[.val (.int p0), .unset, .unset, .unset] [(.int (5 : Int32)), (.ref b1), (.ref b1)])) rfl (hb hby at_37)
  have V_b1_v23 : Arv Z h21 b1 k1 (.object "com/example/netloom/netloom/net/ElementKind") (13 : Int32) [(.ref (w 0)), (.ref (w 1)), (.ref (w 2)), (.ref (w 3)), (.ref (w 4)), .null] .null := V_b1_v21.pad (pad_rep [(.ref (w 0)), (.ref (w 1)), (.ref (w 2)), (.ref (w 3)), (.ref (w 4))] .null 1)
  obtain ⟨cl24, Ar24, q24, Sz24, Ng24, Hv24, Gv24⟩ := V_b1_v23
  have hin24 : ¬ ((5 : Int32) < 0 ∨ cl24.slots.size ≤ ((5 : Int32)).toNatClampNeg) := inb_of Sz24 ⟨by decide, by decide⟩
  obtain ⟨T25, h25, X25, e25, W25, st25⟩ := stR X22 hx hZ e22 Ar24 (j := (5 : Int32)) (v := (.ref (w 5))) hin24 rfl (Sto.ofV Ar24 q24 Ov1 (Ins.self (hE5.ext O21.2))) (g := (mkF m 40 #[.val (.int p0), .unset, .unset, .unset] [(.ref (w 5)), (.int (5 : Int32)), (.ref b1), (.ref b1)])) rfl rfl (hb hby at_40)
  have V_b1_v25 : Arv Z h25 b1 k1 (.object "com/example/netloom/netloom/net/ElementKind") (13 : Int32) [(.ref (w 0)), (.ref (w 1)), (.ref (w 2)), (.ref (w 3)), (.ref (w 4)), (.ref (w 5))] .null := Arv.set Ar24 q24 Sz24 Ng24 Hv24 Gv24 rfl W25 5 rfl (Nat.le_of_ble_eq_true rfl)
  have N25 := Fr.snoc X25 N21 gn_b1
  have O25 := O21.wr W25 gn_b1
  obtain ⟨T26, X26, e26, st26⟩ := getS2 X25 hx hZ hown (host := "") (Or.inl (W hw 16 rfl)) Via.refl e25 (hS6.ext O25.2) (g := (mkF m 44 #[.val (.int p0), .unset, .unset, .unset] [(.int (6 : Int32)), (.ref b1), (.ref b1)])) rfl (hb hby at_44)
  have V_b1_v27 : Arv Z h25 b1 k1 (.object "com/example/netloom/netloom/net/ElementKind") (13 : Int32) [(.ref (w 0)), (.ref (w 1)), (.ref (w 2)), (.ref (w 3)), (.ref (w 4)), (.ref (w 5)), .null] .null := V_b1_v25.pad (pad_rep [(.ref (w 0)), (.ref (w 1)), (.ref (w 2)), (.ref (w 3)), (.ref (w 4)), (.ref (w 5))] .null 1)
  obtain ⟨cl28, Ar28, q28, Sz28, Ng28, Hv28, Gv28⟩ := V_b1_v27
  have hin28 : ¬ ((6 : Int32) < 0 ∨ cl28.slots.size ≤ ((6 : Int32)).toNatClampNeg) := inb_of Sz28 ⟨by decide, by decide⟩
  obtain ⟨T29, h29, X29, e29, W29, st29⟩ := stR X26 hx hZ e26 Ar28 (j := (6 : Int32)) (v := (.ref (w 6))) hin28 rfl (Sto.ofV Ar28 q28 Ov1 (Ins.self (hE6.ext O25.2))) (g := (mkF m 47 #[.val (.int p0), .unset, .unset, .unset] [(.ref (w 6)), (.int (6 : Int32)), (.ref b1), (.ref b1)])) rfl rfl (hb hby at_47)
  have V_b1_v29 : Arv Z h29 b1 k1 (.object "com/example/netloom/netloom/net/ElementKind") (13 : Int32) [(.ref (w 0)), (.ref (w 1)), (.ref (w 2)), (.ref (w 3)), (.ref (w 4)), (.ref (w 5)), (.ref (w 6))] .null := Arv.set Ar28 q28 Sz28 Ng28 Hv28 Gv28 rfl W29 6 rfl (Nat.le_of_ble_eq_true rfl)
  have N29 := Fr.snoc X29 N25 gn_b1
  have O29 := O25.wr W29 gn_b1
  obtain ⟨T30, X30, e30, st30⟩ := getS2 X29 hx hZ hown (host := "") (Or.inl (W hw 18 rfl)) Via.refl e29 (hS7.ext O29.2) (g := (mkF m 51 #[.val (.int p0), .unset, .unset, .unset] [(.int (7 : Int32)), (.ref b1), (.ref b1)])) rfl (hb hby at_51)
  have V_b1_v31 : Arv Z h29 b1 k1 (.object "com/example/netloom/netloom/net/ElementKind") (13 : Int32) [(.ref (w 0)), (.ref (w 1)), (.ref (w 2)), (.ref (w 3)), (.ref (w 4)), (.ref (w 5)), (.ref (w 6)), .null] .null := V_b1_v29.pad (pad_rep [(.ref (w 0)), (.ref (w 1)), (.ref (w 2)), (.ref (w 3)), (.ref (w 4)), (.ref (w 5)), (.ref (w 6))] .null 1)
  obtain ⟨cl32, Ar32, q32, Sz32, Ng32, Hv32, Gv32⟩ := V_b1_v31
  have hin32 : ¬ ((7 : Int32) < 0 ∨ cl32.slots.size ≤ ((7 : Int32)).toNatClampNeg) := inb_of Sz32 ⟨by decide, by decide⟩
  obtain ⟨T33, h33, X33, e33, W33, st33⟩ := stR X30 hx hZ e30 Ar32 (j := (7 : Int32)) (v := (.ref (w 7))) hin32 rfl (Sto.ofV Ar32 q32 Ov1 (Ins.self (hE7.ext O29.2))) (g := (mkF m 54 #[.val (.int p0), .unset, .unset, .unset] [(.ref (w 7)), (.int (7 : Int32)), (.ref b1), (.ref b1)])) rfl rfl (hb hby at_54)
  have V_b1_v33 : Arv Z h33 b1 k1 (.object "com/example/netloom/netloom/net/ElementKind") (13 : Int32) [(.ref (w 0)), (.ref (w 1)), (.ref (w 2)), (.ref (w 3)), (.ref (w 4)), (.ref (w 5)), (.ref (w 6)), (.ref (w 7))] .null := Arv.set Ar32 q32 Sz32 Ng32 Hv32 Gv32 rfl W33 7 rfl (Nat.le_of_ble_eq_true rfl)
  have N33 := Fr.snoc X33 N29 gn_b1
  have O33 := O29.wr W33 gn_b1
  obtain ⟨T34, X34, e34, st34⟩ := getS2 X33 hx hZ hown (host := "") (Or.inl (W hw 20 rfl)) Via.refl e33 (hS8.ext O33.2) (g := (mkF m 58 #[.val (.int p0), .unset, .unset, .unset] [(.int (8 : Int32)), (.ref b1), (.ref b1)])) rfl (hb hby at_58)
  have V_b1_v35 : Arv Z h33 b1 k1 (.object "com/example/netloom/netloom/net/ElementKind") (13 : Int32) [(.ref (w 0)), (.ref (w 1)), (.ref (w 2)), (.ref (w 3)), (.ref (w 4)), (.ref (w 5)), (.ref (w 6)), (.ref (w 7)), .null] .null := V_b1_v33.pad (pad_rep [(.ref (w 0)), (.ref (w 1)), (.ref (w 2)), (.ref (w 3)), (.ref (w 4)), (.ref (w 5)), (.ref (w 6)), (.ref (w 7))] .null 1)
  obtain ⟨cl36, Ar36, q36, Sz36, Ng36, Hv36, Gv36⟩ := V_b1_v35
  have hin36 : ¬ ((8 : Int32) < 0 ∨ cl36.slots.size ≤ ((8 : Int32)).toNatClampNeg) := inb_of Sz36 ⟨by decide, by decide⟩
  obtain ⟨T37, h37, X37, e37, W37, st37⟩ := stR X34 hx hZ e34 Ar36 (j := (8 : Int32)) (v := (.ref (w 8))) hin36 rfl (Sto.ofV Ar36 q36 Ov1 (Ins.self (hE8.ext O33.2))) (g := (mkF m 61 #[.val (.int p0), .unset, .unset, .unset] [(.ref (w 8)), (.int (8 : Int32)), (.ref b1), (.ref b1)])) rfl rfl (hb hby at_61)
  have V_b1_v37 : Arv Z h37 b1 k1 (.object "com/example/netloom/netloom/net/ElementKind") (13 : Int32) [(.ref (w 0)), (.ref (w 1)), (.ref (w 2)), (.ref (w 3)), (.ref (w 4)), (.ref (w 5)), (.ref (w 6)), (.ref (w 7)), (.ref (w 8))] .null := Arv.set Ar36 q36 Sz36 Ng36 Hv36 Gv36 rfl W37 8 rfl (Nat.le_of_ble_eq_true rfl)
  have N37 := Fr.snoc X37 N33 gn_b1
  have O37 := O33.wr W37 gn_b1
  obtain ⟨T38, X38, e38, st38⟩ := getS2 X37 hx hZ hown (host := "") (Or.inl (W hw 22 rfl)) Via.refl e37 (hS9.ext O37.2) (g := (mkF m 65 #[.val (.int p0), .unset, .unset, .unset] [(.int (9 : Int32)), (.ref b1), (.ref b1)])) rfl (hb hby at_65)
  have V_b1_v39 : Arv Z h37 b1 k1 (.object "com/example/netloom/netloom/net/ElementKind") (13 : Int32) [(.ref (w 0)), (.ref (w 1)), (.ref (w 2)), (.ref (w 3)), (.ref (w 4)), (.ref (w 5)), (.ref (w 6)), (.ref (w 7)), (.ref (w 8)), .null] .null := V_b1_v37.pad (pad_rep [(.ref (w 0)), (.ref (w 1)), (.ref (w 2)), (.ref (w 3)), (.ref (w 4)), (.ref (w 5)), (.ref (w 6)), (.ref (w 7)), (.ref (w 8))] .null 1)
  obtain ⟨cl40, Ar40, q40, Sz40, Ng40, Hv40, Gv40⟩ := V_b1_v39
  have hin40 : ¬ ((9 : Int32) < 0 ∨ cl40.slots.size ≤ ((9 : Int32)).toNatClampNeg) := inb_of Sz40 ⟨by decide, by decide⟩
  obtain ⟨T41, h41, X41, e41, W41, st41⟩ := stR X38 hx hZ e38 Ar40 (j := (9 : Int32)) (v := (.ref (w 9))) hin40 rfl (Sto.ofV Ar40 q40 Ov1 (Ins.self (hE9.ext O37.2))) (g := (mkF m 68 #[.val (.int p0), .unset, .unset, .unset] [(.ref (w 9)), (.int (9 : Int32)), (.ref b1), (.ref b1)])) rfl rfl (hb hby at_68)
  have V_b1_v41 : Arv Z h41 b1 k1 (.object "com/example/netloom/netloom/net/ElementKind") (13 : Int32) [(.ref (w 0)), (.ref (w 1)), (.ref (w 2)), (.ref (w 3)), (.ref (w 4)), (.ref (w 5)), (.ref (w 6)), (.ref (w 7)), (.ref (w 8)), (.ref (w 9))] .null := Arv.set Ar40 q40 Sz40 Ng40 Hv40 Gv40 rfl W41 9 rfl (Nat.le_of_ble_eq_true rfl)
  have N41 := Fr.snoc X41 N37 gn_b1
  have O41 := O37.wr W41 gn_b1
  obtain ⟨T42, X42, e42, st42⟩ := getS2 X41 hx hZ hown (host := "") (Or.inl (W hw 24 rfl)) Via.refl e41 (hS10.ext O41.2) (g := (mkF m 72 #[.val (.int p0), .unset, .unset, .unset] [(.int (10 : Int32)), (.ref b1), (.ref b1)])) rfl (hb hby at_72)
  have V_b1_v43 : Arv Z h41 b1 k1 (.object "com/example/netloom/netloom/net/ElementKind") (13 : Int32) [(.ref (w 0)), (.ref (w 1)), (.ref (w 2)), (.ref (w 3)), (.ref (w 4)), (.ref (w 5)), (.ref (w 6)), (.ref (w 7)), (.ref (w 8)), (.ref (w 9)), .null] .null := V_b1_v41.pad (pad_rep [(.ref (w 0)), (.ref (w 1)), (.ref (w 2)), (.ref (w 3)), (.ref (w 4)), (.ref (w 5)), (.ref (w 6)), (.ref (w 7)), (.ref (w 8)), (.ref (w 9))] .null 1)
  obtain ⟨cl44, Ar44, q44, Sz44, Ng44, Hv44, Gv44⟩ := V_b1_v43
  have hin44 : ¬ ((10 : Int32) < 0 ∨ cl44.slots.size ≤ ((10 : Int32)).toNatClampNeg) := inb_of Sz44 ⟨by decide, by decide⟩
  obtain ⟨T45, h45, X45, e45, W45, st45⟩ := stR X42 hx hZ e42 Ar44 (j := (10 : Int32)) (v := (.ref (w 10))) hin44 rfl (Sto.ofV Ar44 q44 Ov1 (Ins.self (hE10.ext O41.2))) (g := (mkF m 75 #[.val (.int p0), .unset, .unset, .unset] [(.ref (w 10)), (.int (10 : Int32)), (.ref b1), (.ref b1)])) rfl rfl (hb hby at_75)
  have V_b1_v45 : Arv Z h45 b1 k1 (.object "com/example/netloom/netloom/net/ElementKind") (13 : Int32) [(.ref (w 0)), (.ref (w 1)), (.ref (w 2)), (.ref (w 3)), (.ref (w 4)), (.ref (w 5)), (.ref (w 6)), (.ref (w 7)), (.ref (w 8)), (.ref (w 9)), (.ref (w 10))] .null := Arv.set Ar44 q44 Sz44 Ng44 Hv44 Gv44 rfl W45 10 rfl (Nat.le_of_ble_eq_true rfl)
  have N45 := Fr.snoc X45 N41 gn_b1
  have O45 := O41.wr W45 gn_b1
  obtain ⟨T46, X46, e46, st46⟩ := getS2 X45 hx hZ hown (host := "") (Or.inl (W hw 26 rfl)) Via.refl e45 (hS11.ext O45.2) (g := (mkF m 79 #[.val (.int p0), .unset, .unset, .unset] [(.int (11 : Int32)), (.ref b1), (.ref b1)])) rfl (hb hby at_79)
  have V_b1_v47 : Arv Z h45 b1 k1 (.object "com/example/netloom/netloom/net/ElementKind") (13 : Int32) [(.ref (w 0)), (.ref (w 1)), (.ref (w 2)), (.ref (w 3)), (.ref (w 4)), (.ref (w 5)), (.ref (w 6)), (.ref (w 7)), (.ref (w 8)), (.ref (w 9)), (.ref (w 10)), .null] .null := V_b1_v45.pad (pad_rep [(.ref (w 0)), (.ref (w 1)), (.ref (w 2)), (.ref (w 3)), (.ref (w 4)), (.ref (w 5)), (.ref (w 6)), (.ref (w 7)), (.ref (w 8)), (.ref (w 9)), (.ref (w 10))] .null 1)
  obtain ⟨cl48, Ar48, q48, Sz48, Ng48, Hv48, Gv48⟩ := V_b1_v47
  have hin48 : ¬ ((11 : Int32) < 0 ∨ cl48.slots.size ≤ ((11 : Int32)).toNatClampNeg) := inb_of Sz48 ⟨by decide, by decide⟩
  obtain ⟨T49, h49, X49, e49, W49, st49⟩ := stR X46 hx hZ e46 Ar48 (j := (11 : Int32)) (v := (.ref (w 11))) hin48 rfl (Sto.ofV Ar48 q48 Ov1 (Ins.self (hE11.ext O45.2))) (g := (mkF m 82 #[.val (.int p0), .unset, .unset, .unset] [(.ref (w 11)), (.int (11 : Int32)), (.ref b1), (.ref b1)])) rfl rfl (hb hby at_82)
  have V_b1_v49 : Arv Z h49 b1 k1 (.object "com/example/netloom/netloom/net/ElementKind") (13 : Int32) [(.ref (w 0)), (.ref (w 1)), (.ref (w 2)), (.ref (w 3)), (.ref (w 4)), (.ref (w 5)), (.ref (w 6)), (.ref (w 7)), (.ref (w 8)), (.ref (w 9)), (.ref (w 10)), (.ref (w 11))] .null := Arv.set Ar48 q48 Sz48 Ng48 Hv48 Gv48 rfl W49 11 rfl (Nat.le_of_ble_eq_true rfl)
  have N49 := Fr.snoc X49 N45 gn_b1
  have O49 := O45.wr W49 gn_b1
  obtain ⟨T50, X50, e50, st50⟩ := getS2 X49 hx hZ hown (host := "") (Or.inl (W hw 28 rfl)) Via.refl e49 (hS12.ext O49.2) (g := (mkF m 86 #[.val (.int p0), .unset, .unset, .unset] [(.int (12 : Int32)), (.ref b1), (.ref b1)])) rfl (hb hby at_86)
  have V_b1_v51 : Arv Z h49 b1 k1 (.object "com/example/netloom/netloom/net/ElementKind") (13 : Int32) [(.ref (w 0)), (.ref (w 1)), (.ref (w 2)), (.ref (w 3)), (.ref (w 4)), (.ref (w 5)), (.ref (w 6)), (.ref (w 7)), (.ref (w 8)), (.ref (w 9)), (.ref (w 10)), (.ref (w 11)), .null] .null := V_b1_v49.pad (pad_rep [(.ref (w 0)), (.ref (w 1)), (.ref (w 2)), (.ref (w 3)), (.ref (w 4)), (.ref (w 5)), (.ref (w 6)), (.ref (w 7)), (.ref (w 8)), (.ref (w 9)), (.ref (w 10)), (.ref (w 11))] .null 1)
  obtain ⟨cl52, Ar52, q52, Sz52, Ng52, Hv52, Gv52⟩ := V_b1_v51
  have hin52 : ¬ ((12 : Int32) < 0 ∨ cl52.slots.size ≤ ((12 : Int32)).toNatClampNeg) := inb_of Sz52 ⟨by decide, by decide⟩
  obtain ⟨T53, h53, X53, e53, W53, st53⟩ := stR X50 hx hZ e50 Ar52 (j := (12 : Int32)) (v := (.ref (w 12))) hin52 rfl (Sto.ofV Ar52 q52 Ov1 (Ins.self (hE12.ext O49.2))) (g := (mkF m 89 #[.val (.int p0), .unset, .unset, .unset] [(.ref (w 12)), (.int (12 : Int32)), (.ref b1), (.ref b1)])) rfl rfl (hb hby at_89)
  have V_b1_v53 : Arv Z h53 b1 k1 (.object "com/example/netloom/netloom/net/ElementKind") (13 : Int32) [(.ref (w 0)), (.ref (w 1)), (.ref (w 2)), (.ref (w 3)), (.ref (w 4)), (.ref (w 5)), (.ref (w 6)), (.ref (w 7)), (.ref (w 8)), (.ref (w 9)), (.ref (w 10)), (.ref (w 11)), (.ref (w 12))] .null := Arv.set Ar52 q52 Sz52 Ng52 Hv52 Gv52 rfl W53 12 rfl (Nat.le_of_ble_eq_true rfl)
  have N53 := Fr.snoc X53 N49 gn_b1
  have O53 := O49.wr W53 gn_b1
  obtain ⟨cl54, Ar54, q54, Sz54, Ng54, Hv54, Gv54⟩ := V_b1_v53
  have hin54 : ¬ ((6 : Int32) < 0 ∨ cl54.slots.size ≤ ((6 : Int32)).toNatClampNeg) := inb_of Sz54 ⟨by decide, by decide⟩
  have hat54 : cl54.slots[((6 : Int32)).toNatClampNeg]? = some (.ref (w 6)) := Has.at Hv54 hin54 (by rfl)
  obtain ⟨cq55, kq55, q55a, q55b, q55c⟩ := isOf hZ e53 (hE6.ext O53.2)
  obtain ⟨_, _, ⟨T55, L55, k55, n55⟩, -, X55, ⟨Lc55, hQ55, l55, y55, z55⟩, st55⟩ := X53.virtualBack hx (y := (⟨"com/example/netloom/netloom/net/ElementKind", "isPlace", "()Z"⟩ : MethodName)) (z := (⟨"com/example/netloom/netloom/net/ElementKind", "isPlace", "()Z"⟩ : MethodName)) hown (mvT hZ (W hw 31 rfl)) (mvT hZ (W hw 32 rfl)) (notFace_of_selects (args := #[]) (mvT hZ (W hw 34 rfl))) (mvT hZ (W hw 34 rfl)) (mvT hZ (W hw 33 rfl)) (by decide) (backOf (W := 0) (rm_13 l Z a0 hw w kk hN [] h53 O53) hZ (W hw 35 rfl) (W hw 3 rfl) (by decide) (by decide)) q55a q55c (g := (mkF m 118 #[.val (.int p0), .val (.ref b1), .val (.int (6 : Int32)), .val (.int (0 : Int32))] [(.ref (w 6))])) rfl (by rw [hml]; rfl) (Steps.refl _) (argsL := []) (rest := []) (lenOf pd_0 rfl) rfl (by show 2 * 0 + _ ≤ _; exact Nat.le_of_eq rfl) (hb hby at_118) (fun _ _ => ⟨rfl, e53, (by decide : 1 + 0 ≤ _), (by decide : 13 + 0 ≤ _)⟩)
  dsimp only [Pt.U, Pt.locs, Pt.cells, Pt.slots] at X55 l55 y55 z55 st55 hQ55
  subst l55 y55 z55
  obtain ⟨rfl, N55q, e55⟩ := hQ55
  have N55 := Fr.app N53 N55q
  obtain ⟨fs, hr, hrun, hended, hW, hsame⟩ := X55.leave (v := some (.int (1 : Int32))) (fun h => by rw [Bd.returns] at h; cases h)
  refine ⟨_, _, pre0 _ ?_, hrun, hended, _, _, rfl, ?_, ⟨_, rfl⟩, hW, hsame.mono (by decide) (by decide)⟩
  · show Steps p.tables e below (s₁.setTop (mkF m 0 #[.val (.int p0), .unset, .unset, .unset] [])) _
    refine XS.bipush X0.here hx rfl (hb hby at_0) ?_
    show Steps p.tables e below (s₁.setTop (mkF m 2 #[.val (.int p0), .unset, .unset, .unset] [(.int (13 : Int32))])) _
    refine st1 _ ?_
    show Steps p.tables e below (T1.setTop (mkF m 5 #[.val (.int p0), .unset, .unset, .unset] [(.ref b1)])) _
    refine XS.dup X1.here hx rfl (hb hby at_5) rfl rfl ?_
    show Steps p.tables e below (T1.setTop (mkF m 6 #[.val (.int p0), .unset, .unset, .unset] [(.ref b1), (.ref b1)])) _
    refine XS.iconst X1.here hx rfl (hb hby at_6) ?_
    show Steps p.tables e below (T1.setTop (mkF m 7 #[.val (.int p0), .unset, .unset, .unset] [(.int (0 : Int32)), (.ref b1), (.ref b1)])) _
    refine st2 _ ?_
    show Steps p.tables e below (T2.setTop (mkF m 10 #[.val (.int p0), .unset, .unset, .unset] [(.ref (w 0)), (.int (0 : Int32)), (.ref b1), (.ref b1)])) _
    refine st5 _ ?_
    show Steps p.tables e below (T5.setTop (mkF m 11 #[.val (.int p0), .unset, .unset, .unset] [(.ref b1)])) _
    refine XS.dup X5.here hx rfl (hb hby at_11) rfl rfl ?_
    show Steps p.tables e below (T5.setTop (mkF m 12 #[.val (.int p0), .unset, .unset, .unset] [(.ref b1), (.ref b1)])) _
    refine XS.iconst X5.here hx rfl (hb hby at_12) ?_
    show Steps p.tables e below (T5.setTop (mkF m 13 #[.val (.int p0), .unset, .unset, .unset] [(.int (1 : Int32)), (.ref b1), (.ref b1)])) _
    refine st6 _ ?_
    show Steps p.tables e below (T6.setTop (mkF m 16 #[.val (.int p0), .unset, .unset, .unset] [(.ref (w 1)), (.int (1 : Int32)), (.ref b1), (.ref b1)])) _
    refine st9 _ ?_
    show Steps p.tables e below (T9.setTop (mkF m 17 #[.val (.int p0), .unset, .unset, .unset] [(.ref b1)])) _
    refine XS.dup X9.here hx rfl (hb hby at_17) rfl rfl ?_
    show Steps p.tables e below (T9.setTop (mkF m 18 #[.val (.int p0), .unset, .unset, .unset] [(.ref b1), (.ref b1)])) _
    refine XS.iconst X9.here hx rfl (hb hby at_18) ?_
    show Steps p.tables e below (T9.setTop (mkF m 19 #[.val (.int p0), .unset, .unset, .unset] [(.int (2 : Int32)), (.ref b1), (.ref b1)])) _
    refine st10 _ ?_
    show Steps p.tables e below (T10.setTop (mkF m 22 #[.val (.int p0), .unset, .unset, .unset] [(.ref (w 2)), (.int (2 : Int32)), (.ref b1), (.ref b1)])) _
    refine st13 _ ?_
    show Steps p.tables e below (T13.setTop (mkF m 23 #[.val (.int p0), .unset, .unset, .unset] [(.ref b1)])) _
    refine XS.dup X13.here hx rfl (hb hby at_23) rfl rfl ?_
    show Steps p.tables e below (T13.setTop (mkF m 24 #[.val (.int p0), .unset, .unset, .unset] [(.ref b1), (.ref b1)])) _
    refine XS.iconst X13.here hx rfl (hb hby at_24) ?_
    show Steps p.tables e below (T13.setTop (mkF m 25 #[.val (.int p0), .unset, .unset, .unset] [(.int (3 : Int32)), (.ref b1), (.ref b1)])) _
    refine st14 _ ?_
    show Steps p.tables e below (T14.setTop (mkF m 28 #[.val (.int p0), .unset, .unset, .unset] [(.ref (w 3)), (.int (3 : Int32)), (.ref b1), (.ref b1)])) _
    refine st17 _ ?_
    show Steps p.tables e below (T17.setTop (mkF m 29 #[.val (.int p0), .unset, .unset, .unset] [(.ref b1)])) _
    refine XS.dup X17.here hx rfl (hb hby at_29) rfl rfl ?_
    show Steps p.tables e below (T17.setTop (mkF m 30 #[.val (.int p0), .unset, .unset, .unset] [(.ref b1), (.ref b1)])) _
    refine XS.iconst X17.here hx rfl (hb hby at_30) ?_
    show Steps p.tables e below (T17.setTop (mkF m 31 #[.val (.int p0), .unset, .unset, .unset] [(.int (4 : Int32)), (.ref b1), (.ref b1)])) _
    refine st18 _ ?_
    show Steps p.tables e below (T18.setTop (mkF m 34 #[.val (.int p0), .unset, .unset, .unset] [(.ref (w 4)), (.int (4 : Int32)), (.ref b1), (.ref b1)])) _
    refine st21 _ ?_
    show Steps p.tables e below (T21.setTop (mkF m 35 #[.val (.int p0), .unset, .unset, .unset] [(.ref b1)])) _
    refine XS.dup X21.here hx rfl (hb hby at_35) rfl rfl ?_
    show Steps p.tables e below (T21.setTop (mkF m 36 #[.val (.int p0), .unset, .unset, .unset] [(.ref b1), (.ref b1)])) _
    refine XS.iconst X21.here hx rfl (hb hby at_36) ?_
    show Steps p.tables e below (T21.setTop (mkF m 37 #[.val (.int p0), .unset, .unset, .unset] [(.int (5 : Int32)), (.ref b1), (.ref b1)])) _
    refine st22 _ ?_
    show Steps p.tables e below (T22.setTop (mkF m 40 #[.val (.int p0), .unset, .unset, .unset] [(.ref (w 5)), (.int (5 : Int32)), (.ref b1), (.ref b1)])) _
    refine st25 _ ?_
    show Steps p.tables e below (T25.setTop (mkF m 41 #[.val (.int p0), .unset, .unset, .unset] [(.ref b1)])) _
    refine XS.dup X25.here hx rfl (hb hby at_41) rfl rfl ?_
    show Steps p.tables e below (T25.setTop (mkF m 42 #[.val (.int p0), .unset, .unset, .unset] [(.ref b1), (.ref b1)])) _
    refine XS.bipush X25.here hx rfl (hb hby at_42) ?_
    show Steps p.tables e below (T25.setTop (mkF m 44 #[.val (.int p0), .unset, .unset, .unset] [(.int (6 : Int32)), (.ref b1), (.ref b1)])) _
    refine st26 _ ?_
    show Steps p.tables e below (T26.setTop (mkF m 47 #[.val (.int p0), .unset, .unset, .unset] [(.ref (w 6)), (.int (6 : Int32)), (.ref b1), (.ref b1)])) _
    refine st29 _ ?_
    show Steps p.tables e below (T29.setTop (mkF m 48 #[.val (.int p0), .unset, .unset, .unset] [(.ref b1)])) _
    refine XS.dup X29.here hx rfl (hb hby at_48) rfl rfl ?_
    show Steps p.tables e below (T29.setTop (mkF m 49 #[.val (.int p0), .unset, .unset, .unset] [(.ref b1), (.ref b1)])) _
    refine XS.bipush X29.here hx rfl (hb hby at_49) ?_
    show Steps p.tables e below (T29.setTop (mkF m 51 #[.val (.int p0), .unset, .unset, .unset] [(.int (7 : Int32)), (.ref b1), (.ref b1)])) _
    refine st30 _ ?_
    show Steps p.tables e below (T30.setTop (mkF m 54 #[.val (.int p0), .unset, .unset, .unset] [(.ref (w 7)), (.int (7 : Int32)), (.ref b1), (.ref b1)])) _
    refine st33 _ ?_
    show Steps p.tables e below (T33.setTop (mkF m 55 #[.val (.int p0), .unset, .unset, .unset] [(.ref b1)])) _
    refine XS.dup X33.here hx rfl (hb hby at_55) rfl rfl ?_
    show Steps p.tables e below (T33.setTop (mkF m 56 #[.val (.int p0), .unset, .unset, .unset] [(.ref b1), (.ref b1)])) _
    refine XS.bipush X33.here hx rfl (hb hby at_56) ?_
    show Steps p.tables e below (T33.setTop (mkF m 58 #[.val (.int p0), .unset, .unset, .unset] [(.int (8 : Int32)), (.ref b1), (.ref b1)])) _
    refine st34 _ ?_
    show Steps p.tables e below (T34.setTop (mkF m 61 #[.val (.int p0), .unset, .unset, .unset] [(.ref (w 8)), (.int (8 : Int32)), (.ref b1), (.ref b1)])) _
    refine st37 _ ?_
    show Steps p.tables e below (T37.setTop (mkF m 62 #[.val (.int p0), .unset, .unset, .unset] [(.ref b1)])) _
    refine XS.dup X37.here hx rfl (hb hby at_62) rfl rfl ?_
    show Steps p.tables e below (T37.setTop (mkF m 63 #[.val (.int p0), .unset, .unset, .unset] [(.ref b1), (.ref b1)])) _
    refine XS.bipush X37.here hx rfl (hb hby at_63) ?_
    show Steps p.tables e below (T37.setTop (mkF m 65 #[.val (.int p0), .unset, .unset, .unset] [(.int (9 : Int32)), (.ref b1), (.ref b1)])) _
    refine st38 _ ?_
    show Steps p.tables e below (T38.setTop (mkF m 68 #[.val (.int p0), .unset, .unset, .unset] [(.ref (w 9)), (.int (9 : Int32)), (.ref b1), (.ref b1)])) _
    refine st41 _ ?_
    show Steps p.tables e below (T41.setTop (mkF m 69 #[.val (.int p0), .unset, .unset, .unset] [(.ref b1)])) _
    refine XS.dup X41.here hx rfl (hb hby at_69) rfl rfl ?_
    show Steps p.tables e below (T41.setTop (mkF m 70 #[.val (.int p0), .unset, .unset, .unset] [(.ref b1), (.ref b1)])) _
    refine XS.bipush X41.here hx rfl (hb hby at_70) ?_
    show Steps p.tables e below (T41.setTop (mkF m 72 #[.val (.int p0), .unset, .unset, .unset] [(.int (10 : Int32)), (.ref b1), (.ref b1)])) _
    refine st42 _ ?_
    show Steps p.tables e below (T42.setTop (mkF m 75 #[.val (.int p0), .unset, .unset, .unset] [(.ref (w 10)), (.int (10 : Int32)), (.ref b1), (.ref b1)])) _
    refine st45 _ ?_
    show Steps p.tables e below (T45.setTop (mkF m 76 #[.val (.int p0), .unset, .unset, .unset] [(.ref b1)])) _
    refine XS.dup X45.here hx rfl (hb hby at_76) rfl rfl ?_
    show Steps p.tables e below (T45.setTop (mkF m 77 #[.val (.int p0), .unset, .unset, .unset] [(.ref b1), (.ref b1)])) _
    refine XS.bipush X45.here hx rfl (hb hby at_77) ?_
    show Steps p.tables e below (T45.setTop (mkF m 79 #[.val (.int p0), .unset, .unset, .unset] [(.int (11 : Int32)), (.ref b1), (.ref b1)])) _
    refine st46 _ ?_
    show Steps p.tables e below (T46.setTop (mkF m 82 #[.val (.int p0), .unset, .unset, .unset] [(.ref (w 11)), (.int (11 : Int32)), (.ref b1), (.ref b1)])) _
    refine st49 _ ?_
    show Steps p.tables e below (T49.setTop (mkF m 83 #[.val (.int p0), .unset, .unset, .unset] [(.ref b1)])) _
    refine XS.dup X49.here hx rfl (hb hby at_83) rfl rfl ?_
    show Steps p.tables e below (T49.setTop (mkF m 84 #[.val (.int p0), .unset, .unset, .unset] [(.ref b1), (.ref b1)])) _
    refine XS.bipush X49.here hx rfl (hb hby at_84) ?_
    show Steps p.tables e below (T49.setTop (mkF m 86 #[.val (.int p0), .unset, .unset, .unset] [(.int (12 : Int32)), (.ref b1), (.ref b1)])) _
    refine st50 _ ?_
    show Steps p.tables e below (T50.setTop (mkF m 89 #[.val (.int p0), .unset, .unset, .unset] [(.ref (w 12)), (.int (12 : Int32)), (.ref b1), (.ref b1)])) _
    refine st53 _ ?_
    show Steps p.tables e below (T53.setTop (mkF m 90 #[.val (.int p0), .unset, .unset, .unset] [(.ref b1)])) _
    refine XS.astoreN X53.here hx rfl (hb hby at_90) rfl rfl (l' := #[.val (.int p0), .val (.ref b1), .unset, .unset]) rfl ?_
    show Steps p.tables e below (T53.setTop (mkF m 91 #[.val (.int p0), .val (.ref b1), .unset, .unset] [])) _
    refine XS.iloadN X53.here hx rfl (hb hby at_91) rfl ?_
    show Steps p.tables e below (T53.setTop (mkF m 92 #[.val (.int p0), .val (.ref b1), .unset, .unset] [(.int p0)])) _
    refine X53.ldcInt hx hown (mvT hZ (W hw 30 rfl)) (g := (mkF m 92 #[.val (.int p0), .val (.ref b1), .unset, .unset] [(.int p0)])) rfl (hb hby at_92) _ ?_
    show Steps p.tables e below (T53.setTop (mkF m 94 #[.val (.int p0), .val (.ref b1), .unset, .unset] [(.int (2147483647 : Int32)), (.int p0)])) _
    refine XS.iand X53.here hx rfl (hb hby at_94) rfl ?_
    show Steps p.tables e below (T53.setTop (mkF m 95 #[.val (.int p0), .val (.ref b1), .unset, .unset] [(.int (p0 &&& (2147483647 : Int32)))])) _
    refine XS.bipush X53.here hx rfl (hb hby at_95) ?_
    show Steps p.tables e below (T53.setTop (mkF m 97 #[.val (.int p0), .val (.ref b1), .unset, .unset] [(.int (13 : Int32)), (.int (p0 &&& (2147483647 : Int32)))])) _
    refine iremM X53 hx rfl (hb hby at_97) rfl (by decide : ¬ ((13 : Int32) = (0 : Int32))) ?_
    show Steps p.tables e below (T53.setTop (mkF m 98 #[.val (.int p0), .val (.ref b1), .unset, .unset] [(.int ((p0 &&& (2147483647 : Int32)) % (13 : Int32)))])) _
    rw [hp0]
    show Steps p.tables e below (T53.setTop (mkF m 98 #[.val (.int p0), .val (.ref b1), .unset, .unset] [(.int (6 : Int32))])) _
    refine XS.istoreN X53.here hx rfl (hb hby at_98) rfl (l' := #[.val (.int p0), .val (.ref b1), .val (.int (6 : Int32)), .unset]) rfl ?_
    show Steps p.tables e below (T53.setTop (mkF m 99 #[.val (.int p0), .val (.ref b1), .val (.int (6 : Int32)), .unset] [])) _
    refine XS.iloadN X53.here hx rfl (hb hby at_99) rfl ?_
    show Steps p.tables e below (T53.setTop (mkF m 100 #[.val (.int p0), .val (.ref b1), .val (.int (6 : Int32)), .unset] [(.int (6 : Int32))])) _
    refine XS.iconst X53.here hx rfl (hb hby at_100) ?_
    show Steps p.tables e below (T53.setTop (mkF m 101 #[.val (.int p0), .val (.ref b1), .val (.int (6 : Int32)), .unset] [(.int (2 : Int32)), (.int (6 : Int32))])) _
    refine XS.icmpNo X53.here hx rfl (hb hby at_101) rfl (feq (by decide : ¬ ((6 : Int32) = (2 : Int32)))).1 ?_
    show Steps p.tables e below (T53.setTop (mkF m 104 #[.val (.int p0), .val (.ref b1), .val (.int (6 : Int32)), .unset] [])) _
    refine XS.iloadN X53.here hx rfl (hb hby at_104) rfl ?_
    show Steps p.tables e below (T53.setTop (mkF m 105 #[.val (.int p0), .val (.ref b1), .val (.int (6 : Int32)), .unset] [(.int (6 : Int32))])) _
    refine XS.iconst X53.here hx rfl (hb hby at_105) ?_
    show Steps p.tables e below (T53.setTop (mkF m 106 #[.val (.int p0), .val (.ref b1), .val (.int (6 : Int32)), .unset] [(.int (4 : Int32)), (.int (6 : Int32))])) _
    refine XS.icmpYes X53.here hx rfl (pc0 := 106) (pc' := 113) rfl (hb hby at_106) rfl (feq (by decide : ¬ ((6 : Int32) = (4 : Int32)))).2 (by decide) (by decide) ?_
    show Steps p.tables e below (T53.setTop (mkF m 113 #[.val (.int p0), .val (.ref b1), .val (.int (6 : Int32)), .unset] [])) _
    refine XS.iconst X53.here hx rfl (hb hby at_113) ?_
    show Steps p.tables e below (T53.setTop (mkF m 114 #[.val (.int p0), .val (.ref b1), .val (.int (6 : Int32)), .unset] [(.int (0 : Int32))])) _
    refine XS.istoreN X53.here hx rfl (hb hby at_114) rfl (l' := #[.val (.int p0), .val (.ref b1), .val (.int (6 : Int32)), .val (.int (0 : Int32))]) rfl ?_
    show Steps p.tables e below (T53.setTop (mkF m 115 #[.val (.int p0), .val (.ref b1), .val (.int (6 : Int32)), .val (.int (0 : Int32))] [])) _
    refine XS.aloadN X53.here hx rfl (hb hby at_115) rfl rfl ?_
    show Steps p.tables e below (T53.setTop (mkF m 116 #[.val (.int p0), .val (.ref b1), .val (.int (6 : Int32)), .val (.int (0 : Int32))] [(.ref b1)])) _
    refine XS.iloadN X53.here hx rfl (hb hby at_116) rfl ?_
    show Steps p.tables e below (T53.setTop (mkF m 117 #[.val (.int p0), .val (.ref b1), .val (.int (6 : Int32)), .val (.int (0 : Int32))] [(.int (6 : Int32)), (.ref b1)])) _
    refine X53.aaload hx (j := (6 : Int32)) (v := (.ref (w 6))) (by rw [e53]; exact Ar54.1) (State.isArrayOf_alike hZ.alike Ar54.2.1) rfl Ar54.2.2 hin54 hat54 (g := (mkF m 117 #[.val (.int p0), .val (.ref b1), .val (.int (6 : Int32)), .val (.int (0 : Int32))] [(.int (6 : Int32)), (.ref b1)])) rfl rfl (hb hby at_117) _ ?_
    show Steps p.tables e below (T53.setTop (mkF m 118 #[.val (.int p0), .val (.ref b1), .val (.int (6 : Int32)), .val (.int (0 : Int32))] [(.ref (w 6))])) _
    refine st55.trans ?_
    show Steps p.tables e below (T55.setTop (mkF m 121 #[.val (.int p0), .val (.ref b1), .val (.int (6 : Int32)), .val (.int (0 : Int32))] [(.int (0 : Int32))])) _
    refine XS.iloadN X55.here hx rfl (hb hby at_121) rfl ?_
    show Steps p.tables e below (T55.setTop (mkF m 122 #[.val (.int p0), .val (.ref b1), .val (.int (6 : Int32)), .val (.int (0 : Int32))] [(.int (0 : Int32)), (.int (0 : Int32))])) _
    refine XS.icmpNo X55.here hx rfl (hb hby at_122) rfl (teq (by decide : (0 : Int32) = (0 : Int32))).2 ?_
    show Steps p.tables e below (T55.setTop (mkF m 125 #[.val (.int p0), .val (.ref b1), .val (.int (6 : Int32)), .val (.int (0 : Int32))] [])) _
    refine XS.iconst X55.here hx rfl (hb hby at_125) ?_
    show Steps p.tables e below (T55.setTop (mkF m 126 #[.val (.int p0), .val (.ref b1), .val (.int (6 : Int32)), .val (.int (0 : Int32))] [(.int (1 : Int32))])) _
    refine XS.goto X55.here hx rfl (pc0 := 126) (pc' := 130) rfl (hb hby at_126) (by decide) (by decide) ?_
    show Steps p.tables e below (T55.setTop (mkF m 130 #[.val (.int p0), .val (.ref b1), .val (.int (6 : Int32)), .val (.int (0 : Int32))] [(.int (1 : Int32))])) _
    exact retN X55 hx (t := .boolean) Bd.returns (by simp) (hb hby at_130) hr
  · show OL (some (.int (1 : Int32))) Z.heap.size _ T55.heap _
    exact ⟨rfl, N55⟩
set_option maxRecDepth 65536 in
set_option maxHeartbeats 40000000 in
theorem rm_15 (l : Launch) (Z : State) (a0 : Array Value) (hw : ∀ d ∈ tables_1, d.before a0 Z = true) (w : Nat → Addr) (kk : Nat → ClassId) (hN : Wd Z w kk) (ws : List Jvm.Cond)  (h0 : Heap) (O0 : Old Z Z.heap.size h0) :
    MetFree l (⟨"com/example/netloom/netloom/net/ElementKind", "isPlace", "()Z"⟩ : MethodName) (head1 (Jvm.Cond.code (⟨"com/example/netloom/netloom/net/ElementKind", "isPlace", "()Z"⟩ : MethodName) prog_22_method_5_code 1 (some .boolean) :: ws) ({ frames := 0, cells := 0, slots := 0, locals := 0 } : Room)) (fun a U => a = #[(.ref (w 7))] ∧ Z.Warmed39 U.vm ∧ U.heap = h0) (fun _ _ _ _ _ => True) (fun _ U o U' => ∃ v L, o = .returned v ∧ OQ (some (.int (0 : Int32))) h0 Z.heap.size v U'.heap L ∧ FrameEnd U o U' L ({ frames := 0, cells := 0, slots := 0, locals := 0 } : Room).cells ({ frames := 0, cells := 0, slots := 0, locals := 0 } : Room).slots) := by
  have hN' := hN
  obtain ⟨hS0, hE0, hS1, hE1, hS2, hE2, hS3, hE3, hS4, hE4, hS5, hE5, hS6, hE6, hS7, hE7, hS8, hE8, hS9, hE9, hS10, hE10, hS11, hE11, hS12, hE12, hF0_ordinal, hF2_ordinal, hF4_ordinal, hF3_ordinal, hF6_ordinal, hF5_ordinal, hF7_ordinal, hF9_ordinal, hF11_ordinal, hF1_ordinal, hF8_ordinal, hF10_ordinal, hF12_ordinal⟩ := hN'
  refine MetFree.of_bodySF (plainFor_of_name pn_0) hisR ?_
  intro p e s m args below meth c s₁ Bd hml0 hP hK
  obtain ⟨rfl, hZ, hh⟩ := hP
  have hx := Bd.exec
  have hby := Bd.bytes
  have hml : c.maxLocals = 1 := hml0
  have hown : s.vm.findClass "com/example/netloom/netloom/net/ElementKind" = some m.cls := findClass_of_methodNamed Bd.named
  have hnm := (name_of_methodNamed Bd.named Bd.method).1
  have X0 : Stand p l e ({ frames := 0, cells := 0, slots := 0, locals := 0 } : Room) s m #[(.ref (w 7))] below meth c s₁ [] 0 0 := Stand.of_body Bd
  have e0 : s₁.heap = h0 := by rw [← hh, Bd.state]; rfl
  have N0 := Fr.nil Z.heap.size
  have pre0 : ∀ t, Steps p.tables e below (s₁.setTop (mkF m 0 #[.val (.ref (w 7))] [])) t → Steps p.tables e below (s₁.setTop (entryFrame m #[(.ref (w 7))] 1)) t := fun t k => castTop (ef_0 m (.ref (w 7)) rfl) k
  obtain ⟨T1, X1, e1, st1⟩ := getS2 X0 hx hZ hown (host := "") (Or.inl (W hw 36 rfl)) Via.refl e0 (hS2.ext O0.2) (g := (mkF m 1 #[.val (.ref (w 7))] [(.ref (w 7))])) rfl (hb hby d_prog_22_method_5_code_1)
  obtain ⟨T2, X2, e2, st2⟩ := getS2 X1 hx hZ hown (host := "") (Or.inl (W hw 37 rfl)) Via.refl e1 (hS4.ext O0.2) (g := (mkF m 8 #[.val (.ref (w 7))] [(.ref (w 7))])) rfl (hb hby d_prog_22_method_5_code_8)
  obtain ⟨fs, hr, hrun, hended, hW, hsame⟩ := X2.leave (v := some (.int (0 : Int32))) (fun h => by rw [Bd.returns] at h; cases h)
  refine ⟨_, _, pre0 _ ?_, hrun, hended, _, _, rfl, ?_, ⟨_, rfl⟩, hW, hsame.mono (by decide) (by decide)⟩
  · show Steps p.tables e below (s₁.setTop (mkF m 0 #[.val (.ref (w 7))] [])) _
    refine XS.aloadN X0.here hx rfl (hb hby d_prog_22_method_5_code_0) rfl rfl ?_
    show Steps p.tables e below (s₁.setTop (mkF m 1 #[.val (.ref (w 7))] [(.ref (w 7))])) _
    refine st1 _ ?_
    show Steps p.tables e below (T1.setTop (mkF m 4 #[.val (.ref (w 7))] [(.ref (w 2)), (.ref (w 7))])) _
    refine Jvm.RoadKit.acmp (g := (mkF m 4 #[.val (.ref (w 7))] [(.ref (w 2)), (.ref (w 7))])) X1 hx rfl rfl rfl (pc0 := 4) (pc' := 7) (same := false) rfl (hb hby d_prog_22_method_5_code_4) rfl (decide_eq_false fun q => (Fld.ne hF7_ordinal hF2_ordinal (by decide)) (Value.ref.inj q)) (by decide) (by decide) ?_
    show Steps p.tables e below (T1.setTop (mkF m 7 #[.val (.ref (w 7))] [])) _
    refine XS.aloadN X1.here hx rfl (hb hby d_prog_22_method_5_code_7) rfl rfl ?_
    show Steps p.tables e below (T1.setTop (mkF m 8 #[.val (.ref (w 7))] [(.ref (w 7))])) _
    refine st2 _ ?_
    show Steps p.tables e below (T2.setTop (mkF m 11 #[.val (.ref (w 7))] [(.ref (w 4)), (.ref (w 7))])) _
    refine Jvm.RoadKit.acmp (g := (mkF m 11 #[.val (.ref (w 7))] [(.ref (w 4)), (.ref (w 7))])) X2 hx rfl rfl rfl (pc0 := 11) (pc' := 18) (same := false) rfl (hb hby d_prog_22_method_5_code_11) rfl (decide_eq_false fun q => (Fld.ne hF7_ordinal hF4_ordinal (by decide)) (Value.ref.inj q)) (by decide) (by decide) ?_
    show Steps p.tables e below (T2.setTop (mkF m 18 #[.val (.ref (w 7))] [])) _
    refine XS.iconst X2.here hx rfl (hb hby d_prog_22_method_5_code_18) ?_
    show Steps p.tables e below (T2.setTop (mkF m 19 #[.val (.ref (w 7))] [(.int (0 : Int32))])) _
    exact retN X2 hx (t := .boolean) Bd.returns (by simp) (hb hby d_prog_22_method_5_code_19) hr
  · show OQ (some (.int (0 : Int32))) h0 Z.heap.size _ T2.heap _
    rw [e2]
    exact ⟨rfl, N0, rfl⟩
set_option maxRecDepth 65536 in
set_option maxHeartbeats 40000000 in
theorem law_16 (l : Launch) (Z : State) (a0 : Array Value) (hw : ∀ d ∈ tables_1, d.before a0 Z = true) (w : Nat → Addr) (kk : Nat → ClassId) (hN : Wd Z w kk) (ws : List Jvm.Cond) (p0 : Int32) (h0 : Heap) (O0 : Old Z Z.heap.size h0) (hp0 : ((p0 &&& (2147483647 : Int32)) % (13 : Int32)) = (7 : Int32)) :
    MetFree l x (head1 (Jvm.Cond.code x code maxLocals ret :: ws) room_1) (fun a U => a = #[(.int p0)] ∧ Z.Warmed39 U.vm ∧ U.heap = h0) (fun _ _ _ _ _ => True) (fun _ U o U' => ∃ v L, o = .returned v ∧ OL (some (.int (1 : Int32))) Z.heap.size v U'.heap L ∧ FrameEnd U o U' L 16 128) := by
  have hN' := hN
  obtain ⟨hS0, hE0, hS1, hE1, hS2, hE2, hS3, hE3, hS4, hE4, hS5, hE5, hS6, hE6, hS7, hE7, hS8, hE8, hS9, hE9, hS10, hE10, hS11, hE11, hS12, hE12, hF0_ordinal, hF2_ordinal, hF4_ordinal, hF3_ordinal, hF6_ordinal, hF5_ordinal, hF7_ordinal, hF9_ordinal, hF11_ordinal, hF1_ordinal, hF8_ordinal, hF10_ordinal, hF12_ordinal⟩ := hN'
  refine MetFree.of_bodySF (plainFor_of_name pn_1) hisR ?_
  intro p e s m args below meth c s₁ Bd hml0 hP hK
  obtain ⟨rfl, hZ, hh⟩ := hP
  have hx := Bd.exec
  have hby := Bd.bytes
  have hml : c.maxLocals = 4 := hml0
  have hown : s.vm.findClass "com/example/netloom/netloom/net/ElementKindIsPlacePinLaw" = some m.cls := findClass_of_methodNamed Bd.named
  have hnm := (name_of_methodNamed Bd.named Bd.method).1
  have X0 : Stand p l e room_1 s m #[(.int p0)] below meth c s₁ [] 0 0 := Stand.of_body Bd
  have e0 : s₁.heap = h0 := by rw [← hh, Bd.state]; rfl
  have N0 := Fr.nil Z.heap.size
  have pre0 : ∀ t, Steps p.tables e below (s₁.setTop (mkF m 0 #[.val (.int p0), .unset, .unset, .unset] [])) t → Steps p.tables e below (s₁.setTop (entryFrame m #[(.int p0)] maxLocals)) t := fun t k => castTop (ef_1 m (.int p0) rfl) k
  obtain ⟨T1, h1, k1, X1, e1, E1, A1, Ov1, st1⟩ := newR X0 hx hZ hown (W hw 0 rfl) (W hw 1 rfl) e0 (g := (mkF m 2 #[.val (.int p0), .unset, .unset, .unset] [(.int (13 : Int32))])) rfl (hb hby at_2) rfl (by decide) (cap := 13) (by decide) (by decide) (by decide) (by decide)
  obtain ⟨b1, g1⟩ : ∃ z, z = h0.size := ⟨_, rfl⟩
  rw [← g1] at A1 st1
  have gn_b1 : Z.heap.size ≤ b1 := Nat.le_trans O0.2.1 (Nat.le_of_eq g1.symm)
  have O1 := O0.ext E1
  have V_b1_v1 : Arv Z h1 b1 k1 (.object "com/example/netloom/netloom/net/ElementKind") (13 : Int32) [] .null := Arv.new A1 (by decide)
  obtain ⟨T2, X2, e2, st2⟩ := getS2 X1 hx hZ hown (host := "") (Or.inl (W hw 2 rfl)) Via.refl e1 (hS0.ext O1.2) (g := (mkF m 7 #[.val (.int p0), .unset, .unset, .unset] [(.int (0 : Int32)), (.ref b1), (.ref b1)])) rfl (hb hby at_7)
  have V_b1_v3 : Arv Z h1 b1 k1 (.object "com/example/netloom/netloom/net/ElementKind") (13 : Int32) [.null] .null := V_b1_v1.pad (pad_rep [] .null 1)
  obtain ⟨cl4, Ar4, q4, Sz4, Ng4, Hv4, Gv4⟩ := V_b1_v3
  have hin4 : ¬ ((0 : Int32) < 0 ∨ cl4.slots.size ≤ ((0 : Int32)).toNatClampNeg) := inb_of Sz4 ⟨by decide, by decide⟩
  obtain ⟨T5, h5, X5, e5, W5, st5⟩ := stR X2 hx hZ e2 Ar4 (j := (0 : Int32)) (v := (.ref (w 0))) hin4 rfl (Sto.ofV Ar4 q4 Ov1 (Ins.self (hE0.ext O1.2))) (g := (mkF m 10 #[.val (.int p0), .unset, .unset, .unset] [(.ref (w 0)), (.int (0 : Int32)), (.ref b1), (.ref b1)])) rfl rfl (hb hby at_10)
  have V_b1_v5 : Arv Z h5 b1 k1 (.object "com/example/netloom/netloom/net/ElementKind") (13 : Int32) [(.ref (w 0))] .null := Arv.set Ar4 q4 Sz4 Ng4 Hv4 Gv4 rfl W5 0 rfl (Nat.le_of_ble_eq_true rfl)
  have N5 := Fr.snoc X5 N0 gn_b1
  have O5 := O1.wr W5 gn_b1
  obtain ⟨T6, X6, e6, st6⟩ := getS2 X5 hx hZ hown (host := "") (Or.inl (W hw 6 rfl)) Via.refl e5 (hS1.ext O5.2) (g := (mkF m 13 #[.val (.int p0), .unset, .unset, .unset] [(.int (1 : Int32)), (.ref b1), (.ref b1)])) rfl (hb hby at_13)
  have V_b1_v7 : Arv Z h5 b1 k1 (.object "com/example/netloom/netloom/net/ElementKind") (13 : Int32) [(.ref (w 0)), .null] .null := V_b1_v5.pad (pad_rep [(.ref (w 0))] .null 1)
  obtain ⟨cl8, Ar8, q8, Sz8, Ng8, Hv8, Gv8⟩ := V_b1_v7
  have hin8 : ¬ ((1 : Int32) < 0 ∨ cl8.slots.size ≤ ((1 : Int32)).toNatClampNeg) := inb_of Sz8 ⟨by decide, by decide⟩
  obtain ⟨T9, h9, X9, e9, W9, st9⟩ := stR X6 hx hZ e6 Ar8 (j := (1 : Int32)) (v := (.ref (w 1))) hin8 rfl (Sto.ofV Ar8 q8 Ov1 (Ins.self (hE1.ext O5.2))) (g := (mkF m 16 #[.val (.int p0), .unset, .unset, .unset] [(.ref (w 1)), (.int (1 : Int32)), (.ref b1), (.ref b1)])) rfl rfl (hb hby at_16)
  have V_b1_v9 : Arv Z h9 b1 k1 (.object "com/example/netloom/netloom/net/ElementKind") (13 : Int32) [(.ref (w 0)), (.ref (w 1))] .null := Arv.set Ar8 q8 Sz8 Ng8 Hv8 Gv8 rfl W9 1 rfl (Nat.le_of_ble_eq_true rfl)
  have N9 := Fr.snoc X9 N5 gn_b1
  have O9 := O5.wr W9 gn_b1
  obtain ⟨T10, X10, e10, st10⟩ := getS2 X9 hx hZ hown (host := "") (Or.inl (W hw 8 rfl)) Via.refl e9 (hS2.ext O9.2) (g := (mkF m 19 #[.val (.int p0), .unset, .unset, .unset] [(.int (2 : Int32)), (.ref b1), (.ref b1)])) rfl (hb hby at_19)
  have V_b1_v11 : Arv Z h9 b1 k1 (.object "com/example/netloom/netloom/net/ElementKind") (13 : Int32) [(.ref (w 0)), (.ref (w 1)), .null] .null := V_b1_v9.pad (pad_rep [(.ref (w 0)), (.ref (w 1))] .null 1)
  obtain ⟨cl12, Ar12, q12, Sz12, Ng12, Hv12, Gv12⟩ := V_b1_v11
  have hin12 : ¬ ((2 : Int32) < 0 ∨ cl12.slots.size ≤ ((2 : Int32)).toNatClampNeg) := inb_of Sz12 ⟨by decide, by decide⟩
  obtain ⟨T13, h13, X13, e13, W13, st13⟩ := stR X10 hx hZ e10 Ar12 (j := (2 : Int32)) (v := (.ref (w 2))) hin12 rfl (Sto.ofV Ar12 q12 Ov1 (Ins.self (hE2.ext O9.2))) (g := (mkF m 22 #[.val (.int p0), .unset, .unset, .unset] [(.ref (w 2)), (.int (2 : Int32)), (.ref b1), (.ref b1)])) rfl rfl (hb hby at_22)
  have V_b1_v13 : Arv Z h13 b1 k1 (.object "com/example/netloom/netloom/net/ElementKind") (13 : Int32) [(.ref (w 0)), (.ref (w 1)), (.ref (w 2))] .null := Arv.set Ar12 q12 Sz12 Ng12 Hv12 Gv12 rfl W13 2 rfl (Nat.le_of_ble_eq_true rfl)
  have N13 := Fr.snoc X13 N9 gn_b1
  have O13 := O9.wr W13 gn_b1
  obtain ⟨T14, X14, e14, st14⟩ := getS2 X13 hx hZ hown (host := "") (Or.inl (W hw 10 rfl)) Via.refl e13 (hS3.ext O13.2) (g := (mkF m 25 #[.val (.int p0), .unset, .unset, .unset] [(.int (3 : Int32)), (.ref b1), (.ref b1)])) rfl (hb hby at_25)
  have V_b1_v15 : Arv Z h13 b1 k1 (.object "com/example/netloom/netloom/net/ElementKind") (13 : Int32) [(.ref (w 0)), (.ref (w 1)), (.ref (w 2)), .null] .null := V_b1_v13.pad (pad_rep [(.ref (w 0)), (.ref (w 1)), (.ref (w 2))] .null 1)
  obtain ⟨cl16, Ar16, q16, Sz16, Ng16, Hv16, Gv16⟩ := V_b1_v15
  have hin16 : ¬ ((3 : Int32) < 0 ∨ cl16.slots.size ≤ ((3 : Int32)).toNatClampNeg) := inb_of Sz16 ⟨by decide, by decide⟩
  obtain ⟨T17, h17, X17, e17, W17, st17⟩ := stR X14 hx hZ e14 Ar16 (j := (3 : Int32)) (v := (.ref (w 3))) hin16 rfl (Sto.ofV Ar16 q16 Ov1 (Ins.self (hE3.ext O13.2))) (g := (mkF m 28 #[.val (.int p0), .unset, .unset, .unset] [(.ref (w 3)), (.int (3 : Int32)), (.ref b1), (.ref b1)])) rfl rfl (hb hby at_28)
  have V_b1_v17 : Arv Z h17 b1 k1 (.object "com/example/netloom/netloom/net/ElementKind") (13 : Int32) [(.ref (w 0)), (.ref (w 1)), (.ref (w 2)), (.ref (w 3))] .null := Arv.set Ar16 q16 Sz16 Ng16 Hv16 Gv16 rfl W17 3 rfl (Nat.le_of_ble_eq_true rfl)
  have N17 := Fr.snoc X17 N13 gn_b1
  have O17 := O13.wr W17 gn_b1
  obtain ⟨T18, X18, e18, st18⟩ := getS2 X17 hx hZ hown (host := "") (Or.inl (W hw 12 rfl)) Via.refl e17 (hS4.ext O17.2) (g := (mkF m 31 #[.val (.int p0), .unset, .unset, .unset] [(.int (4 : Int32)), (.ref b1), (.ref b1)])) rfl (hb hby at_31)
  have V_b1_v19 : Arv Z h17 b1 k1 (.object "com/example/netloom/netloom/net/ElementKind") (13 : Int32) [(.ref (w 0)), (.ref (w 1)), (.ref (w 2)), (.ref (w 3)), .null] .null := V_b1_v17.pad (pad_rep [(.ref (w 0)), (.ref (w 1)), (.ref (w 2)), (.ref (w 3))] .null 1)
  obtain ⟨cl20, Ar20, q20, Sz20, Ng20, Hv20, Gv20⟩ := V_b1_v19
  have hin20 : ¬ ((4 : Int32) < 0 ∨ cl20.slots.size ≤ ((4 : Int32)).toNatClampNeg) := inb_of Sz20 ⟨by decide, by decide⟩
  obtain ⟨T21, h21, X21, e21, W21, st21⟩ := stR X18 hx hZ e18 Ar20 (j := (4 : Int32)) (v := (.ref (w 4))) hin20 rfl (Sto.ofV Ar20 q20 Ov1 (Ins.self (hE4.ext O17.2))) (g := (mkF m 34 #[.val (.int p0), .unset, .unset, .unset] [(.ref (w 4)), (.int (4 : Int32)), (.ref b1), (.ref b1)])) rfl rfl (hb hby at_34)
  have V_b1_v21 : Arv Z h21 b1 k1 (.object "com/example/netloom/netloom/net/ElementKind") (13 : Int32) [(.ref (w 0)), (.ref (w 1)), (.ref (w 2)), (.ref (w 3)), (.ref (w 4))] .null := Arv.set Ar20 q20 Sz20 Ng20 Hv20 Gv20 rfl W21 4 rfl (Nat.le_of_ble_eq_true rfl)
  have N21 := Fr.snoc X21 N17 gn_b1
  have O21 := O17.wr W21 gn_b1
  obtain ⟨T22, X22, e22, st22⟩ := getS2 X21 hx hZ hown (host := "") (Or.inl (W hw 14 rfl)) Via.refl e21 (hS5.ext O21.2) (g := (mkF m 37 #[.val (.int p0), .unset, .unset, .unset] [(.int (5 : Int32)), (.ref b1), (.ref b1)])) rfl (hb hby at_37)
  have V_b1_v23 : Arv Z h21 b1 k1 (.object "com/example/netloom/netloom/net/ElementKind") (13 : Int32) [(.ref (w 0)), (.ref (w 1)), (.ref (w 2)), (.ref (w 3)), (.ref (w 4)), .null] .null := V_b1_v21.pad (pad_rep [(.ref (w 0)), (.ref (w 1)), (.ref (w 2)), (.ref (w 3)), (.ref (w 4))] .null 1)
  obtain ⟨cl24, Ar24, q24, Sz24, Ng24, Hv24, Gv24⟩ := V_b1_v23
  have hin24 : ¬ ((5 : Int32) < 0 ∨ cl24.slots.size ≤ ((5 : Int32)).toNatClampNeg) := inb_of Sz24 ⟨by decide, by decide⟩
  obtain ⟨T25, h25, X25, e25, W25, st25⟩ := stR X22 hx hZ e22 Ar24 (j := (5 : Int32)) (v := (.ref (w 5))) hin24 rfl (Sto.ofV Ar24 q24 Ov1 (Ins.self (hE5.ext O21.2))) (g := (mkF m 40 #[.val (.int p0), .unset, .unset, .unset] [(.ref (w 5)), (.int (5 : Int32)), (.ref b1), (.ref b1)])) rfl rfl (hb hby at_40)
  have V_b1_v25 : Arv Z h25 b1 k1 (.object "com/example/netloom/netloom/net/ElementKind") (13 : Int32) [(.ref (w 0)), (.ref (w 1)), (.ref (w 2)), (.ref (w 3)), (.ref (w 4)), (.ref (w 5))] .null := Arv.set Ar24 q24 Sz24 Ng24 Hv24 Gv24 rfl W25 5 rfl (Nat.le_of_ble_eq_true rfl)
  have N25 := Fr.snoc X25 N21 gn_b1
  have O25 := O21.wr W25 gn_b1
  obtain ⟨T26, X26, e26, st26⟩ := getS2 X25 hx hZ hown (host := "") (Or.inl (W hw 16 rfl)) Via.refl e25 (hS6.ext O25.2) (g := (mkF m 44 #[.val (.int p0), .unset, .unset, .unset] [(.int (6 : Int32)), (.ref b1), (.ref b1)])) rfl (hb hby at_44)
  have V_b1_v27 : Arv Z h25 b1 k1 (.object "com/example/netloom/netloom/net/ElementKind") (13 : Int32) [(.ref (w 0)), (.ref (w 1)), (.ref (w 2)), (.ref (w 3)), (.ref (w 4)), (.ref (w 5)), .null] .null := V_b1_v25.pad (pad_rep [(.ref (w 0)), (.ref (w 1)), (.ref (w 2)), (.ref (w 3)), (.ref (w 4)), (.ref (w 5))] .null 1)
  obtain ⟨cl28, Ar28, q28, Sz28, Ng28, Hv28, Gv28⟩ := V_b1_v27
  have hin28 : ¬ ((6 : Int32) < 0 ∨ cl28.slots.size ≤ ((6 : Int32)).toNatClampNeg) := inb_of Sz28 ⟨by decide, by decide⟩
  obtain ⟨T29, h29, X29, e29, W29, st29⟩ := stR X26 hx hZ e26 Ar28 (j := (6 : Int32)) (v := (.ref (w 6))) hin28 rfl (Sto.ofV Ar28 q28 Ov1 (Ins.self (hE6.ext O25.2))) (g := (mkF m 47 #[.val (.int p0), .unset, .unset, .unset] [(.ref (w 6)), (.int (6 : Int32)), (.ref b1), (.ref b1)])) rfl rfl (hb hby at_47)
  have V_b1_v29 : Arv Z h29 b1 k1 (.object "com/example/netloom/netloom/net/ElementKind") (13 : Int32) [(.ref (w 0)), (.ref (w 1)), (.ref (w 2)), (.ref (w 3)), (.ref (w 4)), (.ref (w 5)), (.ref (w 6))] .null := Arv.set Ar28 q28 Sz28 Ng28 Hv28 Gv28 rfl W29 6 rfl (Nat.le_of_ble_eq_true rfl)
  have N29 := Fr.snoc X29 N25 gn_b1
  have O29 := O25.wr W29 gn_b1
  obtain ⟨T30, X30, e30, st30⟩ := getS2 X29 hx hZ hown (host := "") (Or.inl (W hw 18 rfl)) Via.refl e29 (hS7.ext O29.2) (g := (mkF m 51 #[.val (.int p0), .unset, .unset, .unset] [(.int (7 : Int32)), (.ref b1), (.ref b1)])) rfl (hb hby at_51)
  have V_b1_v31 : Arv Z h29 b1 k1 (.object "com/example/netloom/netloom/net/ElementKind") (13 : Int32) [(.ref (w 0)), (.ref (w 1)), (.ref (w 2)), (.ref (w 3)), (.ref (w 4)), (.ref (w 5)), (.ref (w 6)), .null] .null := V_b1_v29.pad (pad_rep [(.ref (w 0)), (.ref (w 1)), (.ref (w 2)), (.ref (w 3)), (.ref (w 4)), (.ref (w 5)), (.ref (w 6))] .null 1)
  obtain ⟨cl32, Ar32, q32, Sz32, Ng32, Hv32, Gv32⟩ := V_b1_v31
  have hin32 : ¬ ((7 : Int32) < 0 ∨ cl32.slots.size ≤ ((7 : Int32)).toNatClampNeg) := inb_of Sz32 ⟨by decide, by decide⟩
  obtain ⟨T33, h33, X33, e33, W33, st33⟩ := stR X30 hx hZ e30 Ar32 (j := (7 : Int32)) (v := (.ref (w 7))) hin32 rfl (Sto.ofV Ar32 q32 Ov1 (Ins.self (hE7.ext O29.2))) (g := (mkF m 54 #[.val (.int p0), .unset, .unset, .unset] [(.ref (w 7)), (.int (7 : Int32)), (.ref b1), (.ref b1)])) rfl rfl (hb hby at_54)
  have V_b1_v33 : Arv Z h33 b1 k1 (.object "com/example/netloom/netloom/net/ElementKind") (13 : Int32) [(.ref (w 0)), (.ref (w 1)), (.ref (w 2)), (.ref (w 3)), (.ref (w 4)), (.ref (w 5)), (.ref (w 6)), (.ref (w 7))] .null := Arv.set Ar32 q32 Sz32 Ng32 Hv32 Gv32 rfl W33 7 rfl (Nat.le_of_ble_eq_true rfl)
  have N33 := Fr.snoc X33 N29 gn_b1
  have O33 := O29.wr W33 gn_b1
  obtain ⟨T34, X34, e34, st34⟩ := getS2 X33 hx hZ hown (host := "") (Or.inl (W hw 20 rfl)) Via.refl e33 (hS8.ext O33.2) (g := (mkF m 58 #[.val (.int p0), .unset, .unset, .unset] [(.int (8 : Int32)), (.ref b1), (.ref b1)])) rfl (hb hby at_58)
  have V_b1_v35 : Arv Z h33 b1 k1 (.object "com/example/netloom/netloom/net/ElementKind") (13 : Int32) [(.ref (w 0)), (.ref (w 1)), (.ref (w 2)), (.ref (w 3)), (.ref (w 4)), (.ref (w 5)), (.ref (w 6)), (.ref (w 7)), .null] .null := V_b1_v33.pad (pad_rep [(.ref (w 0)), (.ref (w 1)), (.ref (w 2)), (.ref (w 3)), (.ref (w 4)), (.ref (w 5)), (.ref (w 6)), (.ref (w 7))] .null 1)
  obtain ⟨cl36, Ar36, q36, Sz36, Ng36, Hv36, Gv36⟩ := V_b1_v35
  have hin36 : ¬ ((8 : Int32) < 0 ∨ cl36.slots.size ≤ ((8 : Int32)).toNatClampNeg) := inb_of Sz36 ⟨by decide, by decide⟩
  obtain ⟨T37, h37, X37, e37, W37, st37⟩ := stR X34 hx hZ e34 Ar36 (j := (8 : Int32)) (v := (.ref (w 8))) hin36 rfl (Sto.ofV Ar36 q36 Ov1 (Ins.self (hE8.ext O33.2))) (g := (mkF m 61 #[.val (.int p0), .unset, .unset, .unset] [(.ref (w 8)), (.int (8 : Int32)), (.ref b1), (.ref b1)])) rfl rfl (hb hby at_61)
  have V_b1_v37 : Arv Z h37 b1 k1 (.object "com/example/netloom/netloom/net/ElementKind") (13 : Int32) [(.ref (w 0)), (.ref (w 1)), (.ref (w 2)), (.ref (w 3)), (.ref (w 4)), (.ref (w 5)), (.ref (w 6)), (.ref (w 7)), (.ref (w 8))] .null := Arv.set Ar36 q36 Sz36 Ng36 Hv36 Gv36 rfl W37 8 rfl (Nat.le_of_ble_eq_true rfl)
  have N37 := Fr.snoc X37 N33 gn_b1
  have O37 := O33.wr W37 gn_b1
  obtain ⟨T38, X38, e38, st38⟩ := getS2 X37 hx hZ hown (host := "") (Or.inl (W hw 22 rfl)) Via.refl e37 (hS9.ext O37.2) (g := (mkF m 65 #[.val (.int p0), .unset, .unset, .unset] [(.int (9 : Int32)), (.ref b1), (.ref b1)])) rfl (hb hby at_65)
  have V_b1_v39 : Arv Z h37 b1 k1 (.object "com/example/netloom/netloom/net/ElementKind") (13 : Int32) [(.ref (w 0)), (.ref (w 1)), (.ref (w 2)), (.ref (w 3)), (.ref (w 4)), (.ref (w 5)), (.ref (w 6)), (.ref (w 7)), (.ref (w 8)), .null] .null := V_b1_v37.pad (pad_rep [(.ref (w 0)), (.ref (w 1)), (.ref (w 2)), (.ref (w 3)), (.ref (w 4)), (.ref (w 5)), (.ref (w 6)), (.ref (w 7)), (.ref (w 8))] .null 1)
  obtain ⟨cl40, Ar40, q40, Sz40, Ng40, Hv40, Gv40⟩ := V_b1_v39
  have hin40 : ¬ ((9 : Int32) < 0 ∨ cl40.slots.size ≤ ((9 : Int32)).toNatClampNeg) := inb_of Sz40 ⟨by decide, by decide⟩
  obtain ⟨T41, h41, X41, e41, W41, st41⟩ := stR X38 hx hZ e38 Ar40 (j := (9 : Int32)) (v := (.ref (w 9))) hin40 rfl (Sto.ofV Ar40 q40 Ov1 (Ins.self (hE9.ext O37.2))) (g := (mkF m 68 #[.val (.int p0), .unset, .unset, .unset] [(.ref (w 9)), (.int (9 : Int32)), (.ref b1), (.ref b1)])) rfl rfl (hb hby at_68)
  have V_b1_v41 : Arv Z h41 b1 k1 (.object "com/example/netloom/netloom/net/ElementKind") (13 : Int32) [(.ref (w 0)), (.ref (w 1)), (.ref (w 2)), (.ref (w 3)), (.ref (w 4)), (.ref (w 5)), (.ref (w 6)), (.ref (w 7)), (.ref (w 8)), (.ref (w 9))] .null := Arv.set Ar40 q40 Sz40 Ng40 Hv40 Gv40 rfl W41 9 rfl (Nat.le_of_ble_eq_true rfl)
  have N41 := Fr.snoc X41 N37 gn_b1
  have O41 := O37.wr W41 gn_b1
  obtain ⟨T42, X42, e42, st42⟩ := getS2 X41 hx hZ hown (host := "") (Or.inl (W hw 24 rfl)) Via.refl e41 (hS10.ext O41.2) (g := (mkF m 72 #[.val (.int p0), .unset, .unset, .unset] [(.int (10 : Int32)), (.ref b1), (.ref b1)])) rfl (hb hby at_72)
  have V_b1_v43 : Arv Z h41 b1 k1 (.object "com/example/netloom/netloom/net/ElementKind") (13 : Int32) [(.ref (w 0)), (.ref (w 1)), (.ref (w 2)), (.ref (w 3)), (.ref (w 4)), (.ref (w 5)), (.ref (w 6)), (.ref (w 7)), (.ref (w 8)), (.ref (w 9)), .null] .null := V_b1_v41.pad (pad_rep [(.ref (w 0)), (.ref (w 1)), (.ref (w 2)), (.ref (w 3)), (.ref (w 4)), (.ref (w 5)), (.ref (w 6)), (.ref (w 7)), (.ref (w 8)), (.ref (w 9))] .null 1)
  obtain ⟨cl44, Ar44, q44, Sz44, Ng44, Hv44, Gv44⟩ := V_b1_v43
  have hin44 : ¬ ((10 : Int32) < 0 ∨ cl44.slots.size ≤ ((10 : Int32)).toNatClampNeg) := inb_of Sz44 ⟨by decide, by decide⟩
  obtain ⟨T45, h45, X45, e45, W45, st45⟩ := stR X42 hx hZ e42 Ar44 (j := (10 : Int32)) (v := (.ref (w 10))) hin44 rfl (Sto.ofV Ar44 q44 Ov1 (Ins.self (hE10.ext O41.2))) (g := (mkF m 75 #[.val (.int p0), .unset, .unset, .unset] [(.ref (w 10)), (.int (10 : Int32)), (.ref b1), (.ref b1)])) rfl rfl (hb hby at_75)
  have V_b1_v45 : Arv Z h45 b1 k1 (.object "com/example/netloom/netloom/net/ElementKind") (13 : Int32) [(.ref (w 0)), (.ref (w 1)), (.ref (w 2)), (.ref (w 3)), (.ref (w 4)), (.ref (w 5)), (.ref (w 6)), (.ref (w 7)), (.ref (w 8)), (.ref (w 9)), (.ref (w 10))] .null := Arv.set Ar44 q44 Sz44 Ng44 Hv44 Gv44 rfl W45 10 rfl (Nat.le_of_ble_eq_true rfl)
  have N45 := Fr.snoc X45 N41 gn_b1
  have O45 := O41.wr W45 gn_b1
  obtain ⟨T46, X46, e46, st46⟩ := getS2 X45 hx hZ hown (host := "") (Or.inl (W hw 26 rfl)) Via.refl e45 (hS11.ext O45.2) (g := (mkF m 79 #[.val (.int p0), .unset, .unset, .unset] [(.int (11 : Int32)), (.ref b1), (.ref b1)])) rfl (hb hby at_79)
  have V_b1_v47 : Arv Z h45 b1 k1 (.object "com/example/netloom/netloom/net/ElementKind") (13 : Int32) [(.ref (w 0)), (.ref (w 1)), (.ref (w 2)), (.ref (w 3)), (.ref (w 4)), (.ref (w 5)), (.ref (w 6)), (.ref (w 7)), (.ref (w 8)), (.ref (w 9)), (.ref (w 10)), .null] .null := V_b1_v45.pad (pad_rep [(.ref (w 0)), (.ref (w 1)), (.ref (w 2)), (.ref (w 3)), (.ref (w 4)), (.ref (w 5)), (.ref (w 6)), (.ref (w 7)), (.ref (w 8)), (.ref (w 9)), (.ref (w 10))] .null 1)
  obtain ⟨cl48, Ar48, q48, Sz48, Ng48, Hv48, Gv48⟩ := V_b1_v47
  have hin48 : ¬ ((11 : Int32) < 0 ∨ cl48.slots.size ≤ ((11 : Int32)).toNatClampNeg) := inb_of Sz48 ⟨by decide, by decide⟩
  obtain ⟨T49, h49, X49, e49, W49, st49⟩ := stR X46 hx hZ e46 Ar48 (j := (11 : Int32)) (v := (.ref (w 11))) hin48 rfl (Sto.ofV Ar48 q48 Ov1 (Ins.self (hE11.ext O45.2))) (g := (mkF m 82 #[.val (.int p0), .unset, .unset, .unset] [(.ref (w 11)), (.int (11 : Int32)), (.ref b1), (.ref b1)])) rfl rfl (hb hby at_82)
  have V_b1_v49 : Arv Z h49 b1 k1 (.object "com/example/netloom/netloom/net/ElementKind") (13 : Int32) [(.ref (w 0)), (.ref (w 1)), (.ref (w 2)), (.ref (w 3)), (.ref (w 4)), (.ref (w 5)), (.ref (w 6)), (.ref (w 7)), (.ref (w 8)), (.ref (w 9)), (.ref (w 10)), (.ref (w 11))] .null := Arv.set Ar48 q48 Sz48 Ng48 Hv48 Gv48 rfl W49 11 rfl (Nat.le_of_ble_eq_true rfl)
  have N49 := Fr.snoc X49 N45 gn_b1
  have O49 := O45.wr W49 gn_b1
  obtain ⟨T50, X50, e50, st50⟩ := getS2 X49 hx hZ hown (host := "") (Or.inl (W hw 28 rfl)) Via.refl e49 (hS12.ext O49.2) (g := (mkF m 86 #[.val (.int p0), .unset, .unset, .unset] [(.int (12 : Int32)), (.ref b1), (.ref b1)])) rfl (hb hby at_86)
  have V_b1_v51 : Arv Z h49 b1 k1 (.object "com/example/netloom/netloom/net/ElementKind") (13 : Int32) [(.ref (w 0)), (.ref (w 1)), (.ref (w 2)), (.ref (w 3)), (.ref (w 4)), (.ref (w 5)), (.ref (w 6)), (.ref (w 7)), (.ref (w 8)), (.ref (w 9)), (.ref (w 10)), (.ref (w 11)), .null] .null := V_b1_v49.pad (pad_rep [(.ref (w 0)), (.ref (w 1)), (.ref (w 2)), (.ref (w 3)), (.ref (w 4)), (.ref (w 5)), (.ref (w 6)), (.ref (w 7)), (.ref (w 8)), (.ref (w 9)), (.ref (w 10)), (.ref (w 11))] .null 1)
  obtain ⟨cl52, Ar52, q52, Sz52, Ng52, Hv52, Gv52⟩ := V_b1_v51
  have hin52 : ¬ ((12 : Int32) < 0 ∨ cl52.slots.size ≤ ((12 : Int32)).toNatClampNeg) := inb_of Sz52 ⟨by decide, by decide⟩
  obtain ⟨T53, h53, X53, e53, W53, st53⟩ := stR X50 hx hZ e50 Ar52 (j := (12 : Int32)) (v := (.ref (w 12))) hin52 rfl (Sto.ofV Ar52 q52 Ov1 (Ins.self (hE12.ext O49.2))) (g := (mkF m 89 #[.val (.int p0), .unset, .unset, .unset] [(.ref (w 12)), (.int (12 : Int32)), (.ref b1), (.ref b1)])) rfl rfl (hb hby at_89)
  have V_b1_v53 : Arv Z h53 b1 k1 (.object "com/example/netloom/netloom/net/ElementKind") (13 : Int32) [(.ref (w 0)), (.ref (w 1)), (.ref (w 2)), (.ref (w 3)), (.ref (w 4)), (.ref (w 5)), (.ref (w 6)), (.ref (w 7)), (.ref (w 8)), (.ref (w 9)), (.ref (w 10)), (.ref (w 11)), (.ref (w 12))] .null := Arv.set Ar52 q52 Sz52 Ng52 Hv52 Gv52 rfl W53 12 rfl (Nat.le_of_ble_eq_true rfl)
  have N53 := Fr.snoc X53 N49 gn_b1
  have O53 := O49.wr W53 gn_b1
  obtain ⟨cl54, Ar54, q54, Sz54, Ng54, Hv54, Gv54⟩ := V_b1_v53
  have hin54 : ¬ ((7 : Int32) < 0 ∨ cl54.slots.size ≤ ((7 : Int32)).toNatClampNeg) := inb_of Sz54 ⟨by decide, by decide⟩
  have hat54 : cl54.slots[((7 : Int32)).toNatClampNeg]? = some (.ref (w 7)) := Has.at Hv54 hin54 (by rfl)
  obtain ⟨cq55, kq55, q55a, q55b, q55c⟩ := isOf hZ e53 (hE7.ext O53.2)
  obtain ⟨_, _, ⟨T55, L55, k55, n55⟩, -, X55, ⟨Lc55, hQ55, l55, y55, z55⟩, st55⟩ := X53.virtualBack hx (y := (⟨"com/example/netloom/netloom/net/ElementKind", "isPlace", "()Z"⟩ : MethodName)) (z := (⟨"com/example/netloom/netloom/net/ElementKind", "isPlace", "()Z"⟩ : MethodName)) hown (mvT hZ (W hw 31 rfl)) (mvT hZ (W hw 32 rfl)) (notFace_of_selects (args := #[]) (mvT hZ (W hw 34 rfl))) (mvT hZ (W hw 34 rfl)) (mvT hZ (W hw 33 rfl)) (by decide) (backOf (W := 0) (rm_15 l Z a0 hw w kk hN [] h53 O53) hZ (W hw 35 rfl) (W hw 3 rfl) (by decide) (by decide)) q55a q55c (g := (mkF m 118 #[.val (.int p0), .val (.ref b1), .val (.int (7 : Int32)), .val (.int (0 : Int32))] [(.ref (w 7))])) rfl (by rw [hml]; rfl) (Steps.refl _) (argsL := []) (rest := []) (lenOf pd_0 rfl) rfl (by show 2 * 0 + _ ≤ _; exact Nat.le_of_eq rfl) (hb hby at_118) (fun _ _ => ⟨rfl, e53, (by decide : 1 + 0 ≤ _), (by decide : 13 + 0 ≤ _)⟩)
  dsimp only [Pt.U, Pt.locs, Pt.cells, Pt.slots] at X55 l55 y55 z55 st55 hQ55
  subst l55 y55 z55
  obtain ⟨rfl, N55q, e55⟩ := hQ55
  have N55 := Fr.app N53 N55q
  obtain ⟨fs, hr, hrun, hended, hW, hsame⟩ := X55.leave (v := some (.int (1 : Int32))) (fun h => by rw [Bd.returns] at h; cases h)
  refine ⟨_, _, pre0 _ ?_, hrun, hended, _, _, rfl, ?_, ⟨_, rfl⟩, hW, hsame.mono (by decide) (by decide)⟩
  · show Steps p.tables e below (s₁.setTop (mkF m 0 #[.val (.int p0), .unset, .unset, .unset] [])) _
    refine XS.bipush X0.here hx rfl (hb hby at_0) ?_
    show Steps p.tables e below (s₁.setTop (mkF m 2 #[.val (.int p0), .unset, .unset, .unset] [(.int (13 : Int32))])) _
    refine st1 _ ?_
    show Steps p.tables e below (T1.setTop (mkF m 5 #[.val (.int p0), .unset, .unset, .unset] [(.ref b1)])) _
    refine XS.dup X1.here hx rfl (hb hby at_5) rfl rfl ?_
    show Steps p.tables e below (T1.setTop (mkF m 6 #[.val (.int p0), .unset, .unset, .unset] [(.ref b1), (.ref b1)])) _
    refine XS.iconst X1.here hx rfl (hb hby at_6) ?_
    show Steps p.tables e below (T1.setTop (mkF m 7 #[.val (.int p0), .unset, .unset, .unset] [(.int (0 : Int32)), (.ref b1), (.ref b1)])) _
    refine st2 _ ?_
    show Steps p.tables e below (T2.setTop (mkF m 10 #[.val (.int p0), .unset, .unset, .unset] [(.ref (w 0)), (.int (0 : Int32)), (.ref b1), (.ref b1)])) _
    refine st5 _ ?_
    show Steps p.tables e below (T5.setTop (mkF m 11 #[.val (.int p0), .unset, .unset, .unset] [(.ref b1)])) _
    refine XS.dup X5.here hx rfl (hb hby at_11) rfl rfl ?_
    show Steps p.tables e below (T5.setTop (mkF m 12 #[.val (.int p0), .unset, .unset, .unset] [(.ref b1), (.ref b1)])) _
    refine XS.iconst X5.here hx rfl (hb hby at_12) ?_
    show Steps p.tables e below (T5.setTop (mkF m 13 #[.val (.int p0), .unset, .unset, .unset] [(.int (1 : Int32)), (.ref b1), (.ref b1)])) _
    refine st6 _ ?_
    show Steps p.tables e below (T6.setTop (mkF m 16 #[.val (.int p0), .unset, .unset, .unset] [(.ref (w 1)), (.int (1 : Int32)), (.ref b1), (.ref b1)])) _
    refine st9 _ ?_
    show Steps p.tables e below (T9.setTop (mkF m 17 #[.val (.int p0), .unset, .unset, .unset] [(.ref b1)])) _
    refine XS.dup X9.here hx rfl (hb hby at_17) rfl rfl ?_
    show Steps p.tables e below (T9.setTop (mkF m 18 #[.val (.int p0), .unset, .unset, .unset] [(.ref b1), (.ref b1)])) _
    refine XS.iconst X9.here hx rfl (hb hby at_18) ?_
    show Steps p.tables e below (T9.setTop (mkF m 19 #[.val (.int p0), .unset, .unset, .unset] [(.int (2 : Int32)), (.ref b1), (.ref b1)])) _
    refine st10 _ ?_
    show Steps p.tables e below (T10.setTop (mkF m 22 #[.val (.int p0), .unset, .unset, .unset] [(.ref (w 2)), (.int (2 : Int32)), (.ref b1), (.ref b1)])) _
    refine st13 _ ?_
    show Steps p.tables e below (T13.setTop (mkF m 23 #[.val (.int p0), .unset, .unset, .unset] [(.ref b1)])) _
    refine XS.dup X13.here hx rfl (hb hby at_23) rfl rfl ?_
    show Steps p.tables e below (T13.setTop (mkF m 24 #[.val (.int p0), .unset, .unset, .unset] [(.ref b1), (.ref b1)])) _
    refine XS.iconst X13.here hx rfl (hb hby at_24) ?_
    show Steps p.tables e below (T13.setTop (mkF m 25 #[.val (.int p0), .unset, .unset, .unset] [(.int (3 : Int32)), (.ref b1), (.ref b1)])) _
    refine st14 _ ?_
    show Steps p.tables e below (T14.setTop (mkF m 28 #[.val (.int p0), .unset, .unset, .unset] [(.ref (w 3)), (.int (3 : Int32)), (.ref b1), (.ref b1)])) _
    refine st17 _ ?_
    show Steps p.tables e below (T17.setTop (mkF m 29 #[.val (.int p0), .unset, .unset, .unset] [(.ref b1)])) _
    refine XS.dup X17.here hx rfl (hb hby at_29) rfl rfl ?_
    show Steps p.tables e below (T17.setTop (mkF m 30 #[.val (.int p0), .unset, .unset, .unset] [(.ref b1), (.ref b1)])) _
    refine XS.iconst X17.here hx rfl (hb hby at_30) ?_
    show Steps p.tables e below (T17.setTop (mkF m 31 #[.val (.int p0), .unset, .unset, .unset] [(.int (4 : Int32)), (.ref b1), (.ref b1)])) _
    refine st18 _ ?_
    show Steps p.tables e below (T18.setTop (mkF m 34 #[.val (.int p0), .unset, .unset, .unset] [(.ref (w 4)), (.int (4 : Int32)), (.ref b1), (.ref b1)])) _
    refine st21 _ ?_
    show Steps p.tables e below (T21.setTop (mkF m 35 #[.val (.int p0), .unset, .unset, .unset] [(.ref b1)])) _
    refine XS.dup X21.here hx rfl (hb hby at_35) rfl rfl ?_
    show Steps p.tables e below (T21.setTop (mkF m 36 #[.val (.int p0), .unset, .unset, .unset] [(.ref b1), (.ref b1)])) _
    refine XS.iconst X21.here hx rfl (hb hby at_36) ?_
    show Steps p.tables e below (T21.setTop (mkF m 37 #[.val (.int p0), .unset, .unset, .unset] [(.int (5 : Int32)), (.ref b1), (.ref b1)])) _
    refine st22 _ ?_
    show Steps p.tables e below (T22.setTop (mkF m 40 #[.val (.int p0), .unset, .unset, .unset] [(.ref (w 5)), (.int (5 : Int32)), (.ref b1), (.ref b1)])) _
    refine st25 _ ?_
    show Steps p.tables e below (T25.setTop (mkF m 41 #[.val (.int p0), .unset, .unset, .unset] [(.ref b1)])) _
    refine XS.dup X25.here hx rfl (hb hby at_41) rfl rfl ?_
    show Steps p.tables e below (T25.setTop (mkF m 42 #[.val (.int p0), .unset, .unset, .unset] [(.ref b1), (.ref b1)])) _
    refine XS.bipush X25.here hx rfl (hb hby at_42) ?_
    show Steps p.tables e below (T25.setTop (mkF m 44 #[.val (.int p0), .unset, .unset, .unset] [(.int (6 : Int32)), (.ref b1), (.ref b1)])) _
    refine st26 _ ?_
    show Steps p.tables e below (T26.setTop (mkF m 47 #[.val (.int p0), .unset, .unset, .unset] [(.ref (w 6)), (.int (6 : Int32)), (.ref b1), (.ref b1)])) _
    refine st29 _ ?_
    show Steps p.tables e below (T29.setTop (mkF m 48 #[.val (.int p0), .unset, .unset, .unset] [(.ref b1)])) _
    refine XS.dup X29.here hx rfl (hb hby at_48) rfl rfl ?_
    show Steps p.tables e below (T29.setTop (mkF m 49 #[.val (.int p0), .unset, .unset, .unset] [(.ref b1), (.ref b1)])) _
    refine XS.bipush X29.here hx rfl (hb hby at_49) ?_
    show Steps p.tables e below (T29.setTop (mkF m 51 #[.val (.int p0), .unset, .unset, .unset] [(.int (7 : Int32)), (.ref b1), (.ref b1)])) _
    refine st30 _ ?_
    show Steps p.tables e below (T30.setTop (mkF m 54 #[.val (.int p0), .unset, .unset, .unset] [(.ref (w 7)), (.int (7 : Int32)), (.ref b1), (.ref b1)])) _
    refine st33 _ ?_
    show Steps p.tables e below (T33.setTop (mkF m 55 #[.val (.int p0), .unset, .unset, .unset] [(.ref b1)])) _
    refine XS.dup X33.here hx rfl (hb hby at_55) rfl rfl ?_
    show Steps p.tables e below (T33.setTop (mkF m 56 #[.val (.int p0), .unset, .unset, .unset] [(.ref b1), (.ref b1)])) _
    refine XS.bipush X33.here hx rfl (hb hby at_56) ?_
    show Steps p.tables e below (T33.setTop (mkF m 58 #[.val (.int p0), .unset, .unset, .unset] [(.int (8 : Int32)), (.ref b1), (.ref b1)])) _
    refine st34 _ ?_
    show Steps p.tables e below (T34.setTop (mkF m 61 #[.val (.int p0), .unset, .unset, .unset] [(.ref (w 8)), (.int (8 : Int32)), (.ref b1), (.ref b1)])) _
    refine st37 _ ?_
    show Steps p.tables e below (T37.setTop (mkF m 62 #[.val (.int p0), .unset, .unset, .unset] [(.ref b1)])) _
    refine XS.dup X37.here hx rfl (hb hby at_62) rfl rfl ?_
    show Steps p.tables e below (T37.setTop (mkF m 63 #[.val (.int p0), .unset, .unset, .unset] [(.ref b1), (.ref b1)])) _
    refine XS.bipush X37.here hx rfl (hb hby at_63) ?_
    show Steps p.tables e below (T37.setTop (mkF m 65 #[.val (.int p0), .unset, .unset, .unset] [(.int (9 : Int32)), (.ref b1), (.ref b1)])) _
    refine st38 _ ?_
    show Steps p.tables e below (T38.setTop (mkF m 68 #[.val (.int p0), .unset, .unset, .unset] [(.ref (w 9)), (.int (9 : Int32)), (.ref b1), (.ref b1)])) _
    refine st41 _ ?_
    show Steps p.tables e below (T41.setTop (mkF m 69 #[.val (.int p0), .unset, .unset, .unset] [(.ref b1)])) _
    refine XS.dup X41.here hx rfl (hb hby at_69) rfl rfl ?_
    show Steps p.tables e below (T41.setTop (mkF m 70 #[.val (.int p0), .unset, .unset, .unset] [(.ref b1), (.ref b1)])) _
    refine XS.bipush X41.here hx rfl (hb hby at_70) ?_
    show Steps p.tables e below (T41.setTop (mkF m 72 #[.val (.int p0), .unset, .unset, .unset] [(.int (10 : Int32)), (.ref b1), (.ref b1)])) _
    refine st42 _ ?_
    show Steps p.tables e below (T42.setTop (mkF m 75 #[.val (.int p0), .unset, .unset, .unset] [(.ref (w 10)), (.int (10 : Int32)), (.ref b1), (.ref b1)])) _
    refine st45 _ ?_
    show Steps p.tables e below (T45.setTop (mkF m 76 #[.val (.int p0), .unset, .unset, .unset] [(.ref b1)])) _
    refine XS.dup X45.here hx rfl (hb hby at_76) rfl rfl ?_
    show Steps p.tables e below (T45.setTop (mkF m 77 #[.val (.int p0), .unset, .unset, .unset] [(.ref b1), (.ref b1)])) _
    refine XS.bipush X45.here hx rfl (hb hby at_77) ?_
    show Steps p.tables e below (T45.setTop (mkF m 79 #[.val (.int p0), .unset, .unset, .unset] [(.int (11 : Int32)), (.ref b1), (.ref b1)])) _
    refine st46 _ ?_
    show Steps p.tables e below (T46.setTop (mkF m 82 #[.val (.int p0), .unset, .unset, .unset] [(.ref (w 11)), (.int (11 : Int32)), (.ref b1), (.ref b1)])) _
    refine st49 _ ?_
    show Steps p.tables e below (T49.setTop (mkF m 83 #[.val (.int p0), .unset, .unset, .unset] [(.ref b1)])) _
    refine XS.dup X49.here hx rfl (hb hby at_83) rfl rfl ?_
    show Steps p.tables e below (T49.setTop (mkF m 84 #[.val (.int p0), .unset, .unset, .unset] [(.ref b1), (.ref b1)])) _
    refine XS.bipush X49.here hx rfl (hb hby at_84) ?_
    show Steps p.tables e below (T49.setTop (mkF m 86 #[.val (.int p0), .unset, .unset, .unset] [(.int (12 : Int32)), (.ref b1), (.ref b1)])) _
    refine st50 _ ?_
    show Steps p.tables e below (T50.setTop (mkF m 89 #[.val (.int p0), .unset, .unset, .unset] [(.ref (w 12)), (.int (12 : Int32)), (.ref b1), (.ref b1)])) _
    refine st53 _ ?_
    show Steps p.tables e below (T53.setTop (mkF m 90 #[.val (.int p0), .unset, .unset, .unset] [(.ref b1)])) _
    refine XS.astoreN X53.here hx rfl (hb hby at_90) rfl rfl (l' := #[.val (.int p0), .val (.ref b1), .unset, .unset]) rfl ?_
    show Steps p.tables e below (T53.setTop (mkF m 91 #[.val (.int p0), .val (.ref b1), .unset, .unset] [])) _
    refine XS.iloadN X53.here hx rfl (hb hby at_91) rfl ?_
    show Steps p.tables e below (T53.setTop (mkF m 92 #[.val (.int p0), .val (.ref b1), .unset, .unset] [(.int p0)])) _
    refine X53.ldcInt hx hown (mvT hZ (W hw 30 rfl)) (g := (mkF m 92 #[.val (.int p0), .val (.ref b1), .unset, .unset] [(.int p0)])) rfl (hb hby at_92) _ ?_
    show Steps p.tables e below (T53.setTop (mkF m 94 #[.val (.int p0), .val (.ref b1), .unset, .unset] [(.int (2147483647 : Int32)), (.int p0)])) _
    refine XS.iand X53.here hx rfl (hb hby at_94) rfl ?_
    show Steps p.tables e below (T53.setTop (mkF m 95 #[.val (.int p0), .val (.ref b1), .unset, .unset] [(.int (p0 &&& (2147483647 : Int32)))])) _
    refine XS.bipush X53.here hx rfl (hb hby at_95) ?_
    show Steps p.tables e below (T53.setTop (mkF m 97 #[.val (.int p0), .val (.ref b1), .unset, .unset] [(.int (13 : Int32)), (.int (p0 &&& (2147483647 : Int32)))])) _
    refine iremM X53 hx rfl (hb hby at_97) rfl (by decide : ¬ ((13 : Int32) = (0 : Int32))) ?_
    show Steps p.tables e below (T53.setTop (mkF m 98 #[.val (.int p0), .val (.ref b1), .unset, .unset] [(.int ((p0 &&& (2147483647 : Int32)) % (13 : Int32)))])) _
    rw [hp0]
    show Steps p.tables e below (T53.setTop (mkF m 98 #[.val (.int p0), .val (.ref b1), .unset, .unset] [(.int (7 : Int32))])) _
    refine XS.istoreN X53.here hx rfl (hb hby at_98) rfl (l' := #[.val (.int p0), .val (.ref b1), .val (.int (7 : Int32)), .unset]) rfl ?_
    show Steps p.tables e below (T53.setTop (mkF m 99 #[.val (.int p0), .val (.ref b1), .val (.int (7 : Int32)), .unset] [])) _
    refine XS.iloadN X53.here hx rfl (hb hby at_99) rfl ?_
    show Steps p.tables e below (T53.setTop (mkF m 100 #[.val (.int p0), .val (.ref b1), .val (.int (7 : Int32)), .unset] [(.int (7 : Int32))])) _
    refine XS.iconst X53.here hx rfl (hb hby at_100) ?_
    show Steps p.tables e below (T53.setTop (mkF m 101 #[.val (.int p0), .val (.ref b1), .val (.int (7 : Int32)), .unset] [(.int (2 : Int32)), (.int (7 : Int32))])) _
    refine XS.icmpNo X53.here hx rfl (hb hby at_101) rfl (feq (by decide : ¬ ((7 : Int32) = (2 : Int32)))).1 ?_
    show Steps p.tables e below (T53.setTop (mkF m 104 #[.val (.int p0), .val (.ref b1), .val (.int (7 : Int32)), .unset] [])) _
    refine XS.iloadN X53.here hx rfl (hb hby at_104) rfl ?_
    show Steps p.tables e below (T53.setTop (mkF m 105 #[.val (.int p0), .val (.ref b1), .val (.int (7 : Int32)), .unset] [(.int (7 : Int32))])) _
    refine XS.iconst X53.here hx rfl (hb hby at_105) ?_
    show Steps p.tables e below (T53.setTop (mkF m 106 #[.val (.int p0), .val (.ref b1), .val (.int (7 : Int32)), .unset] [(.int (4 : Int32)), (.int (7 : Int32))])) _
    refine XS.icmpYes X53.here hx rfl (pc0 := 106) (pc' := 113) rfl (hb hby at_106) rfl (feq (by decide : ¬ ((7 : Int32) = (4 : Int32)))).2 (by decide) (by decide) ?_
    show Steps p.tables e below (T53.setTop (mkF m 113 #[.val (.int p0), .val (.ref b1), .val (.int (7 : Int32)), .unset] [])) _
    refine XS.iconst X53.here hx rfl (hb hby at_113) ?_
    show Steps p.tables e below (T53.setTop (mkF m 114 #[.val (.int p0), .val (.ref b1), .val (.int (7 : Int32)), .unset] [(.int (0 : Int32))])) _
    refine XS.istoreN X53.here hx rfl (hb hby at_114) rfl (l' := #[.val (.int p0), .val (.ref b1), .val (.int (7 : Int32)), .val (.int (0 : Int32))]) rfl ?_
    show Steps p.tables e below (T53.setTop (mkF m 115 #[.val (.int p0), .val (.ref b1), .val (.int (7 : Int32)), .val (.int (0 : Int32))] [])) _
    refine XS.aloadN X53.here hx rfl (hb hby at_115) rfl rfl ?_
    show Steps p.tables e below (T53.setTop (mkF m 116 #[.val (.int p0), .val (.ref b1), .val (.int (7 : Int32)), .val (.int (0 : Int32))] [(.ref b1)])) _
    refine XS.iloadN X53.here hx rfl (hb hby at_116) rfl ?_
    show Steps p.tables e below (T53.setTop (mkF m 117 #[.val (.int p0), .val (.ref b1), .val (.int (7 : Int32)), .val (.int (0 : Int32))] [(.int (7 : Int32)), (.ref b1)])) _
    refine X53.aaload hx (j := (7 : Int32)) (v := (.ref (w 7))) (by rw [e53]; exact Ar54.1) (State.isArrayOf_alike hZ.alike Ar54.2.1) rfl Ar54.2.2 hin54 hat54 (g := (mkF m 117 #[.val (.int p0), .val (.ref b1), .val (.int (7 : Int32)), .val (.int (0 : Int32))] [(.int (7 : Int32)), (.ref b1)])) rfl rfl (hb hby at_117) _ ?_
    show Steps p.tables e below (T53.setTop (mkF m 118 #[.val (.int p0), .val (.ref b1), .val (.int (7 : Int32)), .val (.int (0 : Int32))] [(.ref (w 7))])) _
    refine st55.trans ?_
    show Steps p.tables e below (T55.setTop (mkF m 121 #[.val (.int p0), .val (.ref b1), .val (.int (7 : Int32)), .val (.int (0 : Int32))] [(.int (0 : Int32))])) _
    refine XS.iloadN X55.here hx rfl (hb hby at_121) rfl ?_
    show Steps p.tables e below (T55.setTop (mkF m 122 #[.val (.int p0), .val (.ref b1), .val (.int (7 : Int32)), .val (.int (0 : Int32))] [(.int (0 : Int32)), (.int (0 : Int32))])) _
    refine XS.icmpNo X55.here hx rfl (hb hby at_122) rfl (teq (by decide : (0 : Int32) = (0 : Int32))).2 ?_
    show Steps p.tables e below (T55.setTop (mkF m 125 #[.val (.int p0), .val (.ref b1), .val (.int (7 : Int32)), .val (.int (0 : Int32))] [])) _
    refine XS.iconst X55.here hx rfl (hb hby at_125) ?_
    show Steps p.tables e below (T55.setTop (mkF m 126 #[.val (.int p0), .val (.ref b1), .val (.int (7 : Int32)), .val (.int (0 : Int32))] [(.int (1 : Int32))])) _
    refine XS.goto X55.here hx rfl (pc0 := 126) (pc' := 130) rfl (hb hby at_126) (by decide) (by decide) ?_
    show Steps p.tables e below (T55.setTop (mkF m 130 #[.val (.int p0), .val (.ref b1), .val (.int (7 : Int32)), .val (.int (0 : Int32))] [(.int (1 : Int32))])) _
    exact retN X55 hx (t := .boolean) Bd.returns (by simp) (hb hby at_130) hr
  · show OL (some (.int (1 : Int32))) Z.heap.size _ T55.heap _
    exact ⟨rfl, N55⟩
set_option maxRecDepth 65536 in
set_option maxHeartbeats 40000000 in
theorem rm_17 (l : Launch) (Z : State) (a0 : Array Value) (hw : ∀ d ∈ tables_1, d.before a0 Z = true) (w : Nat → Addr) (kk : Nat → ClassId) (hN : Wd Z w kk) (ws : List Jvm.Cond)  (h0 : Heap) (O0 : Old Z Z.heap.size h0) :
    MetFree l (⟨"com/example/netloom/netloom/net/ElementKind", "isPlace", "()Z"⟩ : MethodName) (head1 (Jvm.Cond.code (⟨"com/example/netloom/netloom/net/ElementKind", "isPlace", "()Z"⟩ : MethodName) prog_22_method_5_code 1 (some .boolean) :: ws) ({ frames := 0, cells := 0, slots := 0, locals := 0 } : Room)) (fun a U => a = #[(.ref (w 8))] ∧ Z.Warmed39 U.vm ∧ U.heap = h0) (fun _ _ _ _ _ => True) (fun _ U o U' => ∃ v L, o = .returned v ∧ OQ (some (.int (0 : Int32))) h0 Z.heap.size v U'.heap L ∧ FrameEnd U o U' L ({ frames := 0, cells := 0, slots := 0, locals := 0 } : Room).cells ({ frames := 0, cells := 0, slots := 0, locals := 0 } : Room).slots) := by
  have hN' := hN
  obtain ⟨hS0, hE0, hS1, hE1, hS2, hE2, hS3, hE3, hS4, hE4, hS5, hE5, hS6, hE6, hS7, hE7, hS8, hE8, hS9, hE9, hS10, hE10, hS11, hE11, hS12, hE12, hF0_ordinal, hF2_ordinal, hF4_ordinal, hF3_ordinal, hF6_ordinal, hF5_ordinal, hF7_ordinal, hF9_ordinal, hF11_ordinal, hF1_ordinal, hF8_ordinal, hF10_ordinal, hF12_ordinal⟩ := hN'
  refine MetFree.of_bodySF (plainFor_of_name pn_0) hisR ?_
  intro p e s m args below meth c s₁ Bd hml0 hP hK
  obtain ⟨rfl, hZ, hh⟩ := hP
  have hx := Bd.exec
  have hby := Bd.bytes
  have hml : c.maxLocals = 1 := hml0
  have hown : s.vm.findClass "com/example/netloom/netloom/net/ElementKind" = some m.cls := findClass_of_methodNamed Bd.named
  have hnm := (name_of_methodNamed Bd.named Bd.method).1
  have X0 : Stand p l e ({ frames := 0, cells := 0, slots := 0, locals := 0 } : Room) s m #[(.ref (w 8))] below meth c s₁ [] 0 0 := Stand.of_body Bd
  have e0 : s₁.heap = h0 := by rw [← hh, Bd.state]; rfl
  have N0 := Fr.nil Z.heap.size
  have pre0 : ∀ t, Steps p.tables e below (s₁.setTop (mkF m 0 #[.val (.ref (w 8))] [])) t → Steps p.tables e below (s₁.setTop (entryFrame m #[(.ref (w 8))] 1)) t := fun t k => castTop (ef_0 m (.ref (w 8)) rfl) k
  obtain ⟨T1, X1, e1, st1⟩ := getS2 X0 hx hZ hown (host := "") (Or.inl (W hw 36 rfl)) Via.refl e0 (hS2.ext O0.2) (g := (mkF m 1 #[.val (.ref (w 8))] [(.ref (w 8))])) rfl (hb hby d_prog_22_method_5_code_1)
  obtain ⟨T2, X2, e2, st2⟩ := getS2 X1 hx hZ hown (host := "") (Or.inl (W hw 37 rfl)) Via.refl e1 (hS4.ext O0.2) (g := (mkF m 8 #[.val (.ref (w 8))] [(.ref (w 8))])) rfl (hb hby d_prog_22_method_5_code_8)
  obtain ⟨fs, hr, hrun, hended, hW, hsame⟩ := X2.leave (v := some (.int (0 : Int32))) (fun h => by rw [Bd.returns] at h; cases h)
  refine ⟨_, _, pre0 _ ?_, hrun, hended, _, _, rfl, ?_, ⟨_, rfl⟩, hW, hsame.mono (by decide) (by decide)⟩
  · show Steps p.tables e below (s₁.setTop (mkF m 0 #[.val (.ref (w 8))] [])) _
    refine XS.aloadN X0.here hx rfl (hb hby d_prog_22_method_5_code_0) rfl rfl ?_
    show Steps p.tables e below (s₁.setTop (mkF m 1 #[.val (.ref (w 8))] [(.ref (w 8))])) _
    refine st1 _ ?_
    show Steps p.tables e below (T1.setTop (mkF m 4 #[.val (.ref (w 8))] [(.ref (w 2)), (.ref (w 8))])) _
    refine Jvm.RoadKit.acmp (g := (mkF m 4 #[.val (.ref (w 8))] [(.ref (w 2)), (.ref (w 8))])) X1 hx rfl rfl rfl (pc0 := 4) (pc' := 7) (same := false) rfl (hb hby d_prog_22_method_5_code_4) rfl (decide_eq_false fun q => (Fld.ne hF8_ordinal hF2_ordinal (by decide)) (Value.ref.inj q)) (by decide) (by decide) ?_
    show Steps p.tables e below (T1.setTop (mkF m 7 #[.val (.ref (w 8))] [])) _
    refine XS.aloadN X1.here hx rfl (hb hby d_prog_22_method_5_code_7) rfl rfl ?_
    show Steps p.tables e below (T1.setTop (mkF m 8 #[.val (.ref (w 8))] [(.ref (w 8))])) _
    refine st2 _ ?_
    show Steps p.tables e below (T2.setTop (mkF m 11 #[.val (.ref (w 8))] [(.ref (w 4)), (.ref (w 8))])) _
    refine Jvm.RoadKit.acmp (g := (mkF m 11 #[.val (.ref (w 8))] [(.ref (w 4)), (.ref (w 8))])) X2 hx rfl rfl rfl (pc0 := 11) (pc' := 18) (same := false) rfl (hb hby d_prog_22_method_5_code_11) rfl (decide_eq_false fun q => (Fld.ne hF8_ordinal hF4_ordinal (by decide)) (Value.ref.inj q)) (by decide) (by decide) ?_
    show Steps p.tables e below (T2.setTop (mkF m 18 #[.val (.ref (w 8))] [])) _
    refine XS.iconst X2.here hx rfl (hb hby d_prog_22_method_5_code_18) ?_
    show Steps p.tables e below (T2.setTop (mkF m 19 #[.val (.ref (w 8))] [(.int (0 : Int32))])) _
    exact retN X2 hx (t := .boolean) Bd.returns (by simp) (hb hby d_prog_22_method_5_code_19) hr
  · show OQ (some (.int (0 : Int32))) h0 Z.heap.size _ T2.heap _
    rw [e2]
    exact ⟨rfl, N0, rfl⟩
set_option maxRecDepth 65536 in
set_option maxHeartbeats 40000000 in
theorem law_18 (l : Launch) (Z : State) (a0 : Array Value) (hw : ∀ d ∈ tables_1, d.before a0 Z = true) (w : Nat → Addr) (kk : Nat → ClassId) (hN : Wd Z w kk) (ws : List Jvm.Cond) (p0 : Int32) (h0 : Heap) (O0 : Old Z Z.heap.size h0) (hp0 : ((p0 &&& (2147483647 : Int32)) % (13 : Int32)) = (8 : Int32)) :
    MetFree l x (head1 (Jvm.Cond.code x code maxLocals ret :: ws) room_1) (fun a U => a = #[(.int p0)] ∧ Z.Warmed39 U.vm ∧ U.heap = h0) (fun _ _ _ _ _ => True) (fun _ U o U' => ∃ v L, o = .returned v ∧ OL (some (.int (1 : Int32))) Z.heap.size v U'.heap L ∧ FrameEnd U o U' L 16 128) := by
  have hN' := hN
  obtain ⟨hS0, hE0, hS1, hE1, hS2, hE2, hS3, hE3, hS4, hE4, hS5, hE5, hS6, hE6, hS7, hE7, hS8, hE8, hS9, hE9, hS10, hE10, hS11, hE11, hS12, hE12, hF0_ordinal, hF2_ordinal, hF4_ordinal, hF3_ordinal, hF6_ordinal, hF5_ordinal, hF7_ordinal, hF9_ordinal, hF11_ordinal, hF1_ordinal, hF8_ordinal, hF10_ordinal, hF12_ordinal⟩ := hN'
  refine MetFree.of_bodySF (plainFor_of_name pn_1) hisR ?_
  intro p e s m args below meth c s₁ Bd hml0 hP hK
  obtain ⟨rfl, hZ, hh⟩ := hP
  have hx := Bd.exec
  have hby := Bd.bytes
  have hml : c.maxLocals = 4 := hml0
  have hown : s.vm.findClass "com/example/netloom/netloom/net/ElementKindIsPlacePinLaw" = some m.cls := findClass_of_methodNamed Bd.named
  have hnm := (name_of_methodNamed Bd.named Bd.method).1
  have X0 : Stand p l e room_1 s m #[(.int p0)] below meth c s₁ [] 0 0 := Stand.of_body Bd
  have e0 : s₁.heap = h0 := by rw [← hh, Bd.state]; rfl
  have N0 := Fr.nil Z.heap.size
  have pre0 : ∀ t, Steps p.tables e below (s₁.setTop (mkF m 0 #[.val (.int p0), .unset, .unset, .unset] [])) t → Steps p.tables e below (s₁.setTop (entryFrame m #[(.int p0)] maxLocals)) t := fun t k => castTop (ef_1 m (.int p0) rfl) k
  obtain ⟨T1, h1, k1, X1, e1, E1, A1, Ov1, st1⟩ := newR X0 hx hZ hown (W hw 0 rfl) (W hw 1 rfl) e0 (g := (mkF m 2 #[.val (.int p0), .unset, .unset, .unset] [(.int (13 : Int32))])) rfl (hb hby at_2) rfl (by decide) (cap := 13) (by decide) (by decide) (by decide) (by decide)
  obtain ⟨b1, g1⟩ : ∃ z, z = h0.size := ⟨_, rfl⟩
  rw [← g1] at A1 st1
  have gn_b1 : Z.heap.size ≤ b1 := Nat.le_trans O0.2.1 (Nat.le_of_eq g1.symm)
  have O1 := O0.ext E1
  have V_b1_v1 : Arv Z h1 b1 k1 (.object "com/example/netloom/netloom/net/ElementKind") (13 : Int32) [] .null := Arv.new A1 (by decide)
  obtain ⟨T2, X2, e2, st2⟩ := getS2 X1 hx hZ hown (host := "") (Or.inl (W hw 2 rfl)) Via.refl e1 (hS0.ext O1.2) (g := (mkF m 7 #[.val (.int p0), .unset, .unset, .unset] [(.int (0 : Int32)), (.ref b1), (.ref b1)])) rfl (hb hby at_7)
  have V_b1_v3 : Arv Z h1 b1 k1 (.object "com/example/netloom/netloom/net/ElementKind") (13 : Int32) [.null] .null := V_b1_v1.pad (pad_rep [] .null 1)
  obtain ⟨cl4, Ar4, q4, Sz4, Ng4, Hv4, Gv4⟩ := V_b1_v3
  have hin4 : ¬ ((0 : Int32) < 0 ∨ cl4.slots.size ≤ ((0 : Int32)).toNatClampNeg) := inb_of Sz4 ⟨by decide, by decide⟩
  obtain ⟨T5, h5, X5, e5, W5, st5⟩ := stR X2 hx hZ e2 Ar4 (j := (0 : Int32)) (v := (.ref (w 0))) hin4 rfl (Sto.ofV Ar4 q4 Ov1 (Ins.self (hE0.ext O1.2))) (g := (mkF m 10 #[.val (.int p0), .unset, .unset, .unset] [(.ref (w 0)), (.int (0 : Int32)), (.ref b1), (.ref b1)])) rfl rfl (hb hby at_10)
  have V_b1_v5 : Arv Z h5 b1 k1 (.object "com/example/netloom/netloom/net/ElementKind") (13 : Int32) [(.ref (w 0))] .null := Arv.set Ar4 q4 Sz4 Ng4 Hv4 Gv4 rfl W5 0 rfl (Nat.le_of_ble_eq_true rfl)
  have N5 := Fr.snoc X5 N0 gn_b1
  have O5 := O1.wr W5 gn_b1
  obtain ⟨T6, X6, e6, st6⟩ := getS2 X5 hx hZ hown (host := "") (Or.inl (W hw 6 rfl)) Via.refl e5 (hS1.ext O5.2) (g := (mkF m 13 #[.val (.int p0), .unset, .unset, .unset] [(.int (1 : Int32)), (.ref b1), (.ref b1)])) rfl (hb hby at_13)
  have V_b1_v7 : Arv Z h5 b1 k1 (.object "com/example/netloom/netloom/net/ElementKind") (13 : Int32) [(.ref (w 0)), .null] .null := V_b1_v5.pad (pad_rep [(.ref (w 0))] .null 1)
  obtain ⟨cl8, Ar8, q8, Sz8, Ng8, Hv8, Gv8⟩ := V_b1_v7
  have hin8 : ¬ ((1 : Int32) < 0 ∨ cl8.slots.size ≤ ((1 : Int32)).toNatClampNeg) := inb_of Sz8 ⟨by decide, by decide⟩
  obtain ⟨T9, h9, X9, e9, W9, st9⟩ := stR X6 hx hZ e6 Ar8 (j := (1 : Int32)) (v := (.ref (w 1))) hin8 rfl (Sto.ofV Ar8 q8 Ov1 (Ins.self (hE1.ext O5.2))) (g := (mkF m 16 #[.val (.int p0), .unset, .unset, .unset] [(.ref (w 1)), (.int (1 : Int32)), (.ref b1), (.ref b1)])) rfl rfl (hb hby at_16)
  have V_b1_v9 : Arv Z h9 b1 k1 (.object "com/example/netloom/netloom/net/ElementKind") (13 : Int32) [(.ref (w 0)), (.ref (w 1))] .null := Arv.set Ar8 q8 Sz8 Ng8 Hv8 Gv8 rfl W9 1 rfl (Nat.le_of_ble_eq_true rfl)
  have N9 := Fr.snoc X9 N5 gn_b1
  have O9 := O5.wr W9 gn_b1
  obtain ⟨T10, X10, e10, st10⟩ := getS2 X9 hx hZ hown (host := "") (Or.inl (W hw 8 rfl)) Via.refl e9 (hS2.ext O9.2) (g := (mkF m 19 #[.val (.int p0), .unset, .unset, .unset] [(.int (2 : Int32)), (.ref b1), (.ref b1)])) rfl (hb hby at_19)
  have V_b1_v11 : Arv Z h9 b1 k1 (.object "com/example/netloom/netloom/net/ElementKind") (13 : Int32) [(.ref (w 0)), (.ref (w 1)), .null] .null := V_b1_v9.pad (pad_rep [(.ref (w 0)), (.ref (w 1))] .null 1)
  obtain ⟨cl12, Ar12, q12, Sz12, Ng12, Hv12, Gv12⟩ := V_b1_v11
  have hin12 : ¬ ((2 : Int32) < 0 ∨ cl12.slots.size ≤ ((2 : Int32)).toNatClampNeg) := inb_of Sz12 ⟨by decide, by decide⟩
  obtain ⟨T13, h13, X13, e13, W13, st13⟩ := stR X10 hx hZ e10 Ar12 (j := (2 : Int32)) (v := (.ref (w 2))) hin12 rfl (Sto.ofV Ar12 q12 Ov1 (Ins.self (hE2.ext O9.2))) (g := (mkF m 22 #[.val (.int p0), .unset, .unset, .unset] [(.ref (w 2)), (.int (2 : Int32)), (.ref b1), (.ref b1)])) rfl rfl (hb hby at_22)
  have V_b1_v13 : Arv Z h13 b1 k1 (.object "com/example/netloom/netloom/net/ElementKind") (13 : Int32) [(.ref (w 0)), (.ref (w 1)), (.ref (w 2))] .null := Arv.set Ar12 q12 Sz12 Ng12 Hv12 Gv12 rfl W13 2 rfl (Nat.le_of_ble_eq_true rfl)
  have N13 := Fr.snoc X13 N9 gn_b1
  have O13 := O9.wr W13 gn_b1
  obtain ⟨T14, X14, e14, st14⟩ := getS2 X13 hx hZ hown (host := "") (Or.inl (W hw 10 rfl)) Via.refl e13 (hS3.ext O13.2) (g := (mkF m 25 #[.val (.int p0), .unset, .unset, .unset] [(.int (3 : Int32)), (.ref b1), (.ref b1)])) rfl (hb hby at_25)
  have V_b1_v15 : Arv Z h13 b1 k1 (.object "com/example/netloom/netloom/net/ElementKind") (13 : Int32) [(.ref (w 0)), (.ref (w 1)), (.ref (w 2)), .null] .null := V_b1_v13.pad (pad_rep [(.ref (w 0)), (.ref (w 1)), (.ref (w 2))] .null 1)
  obtain ⟨cl16, Ar16, q16, Sz16, Ng16, Hv16, Gv16⟩ := V_b1_v15
  have hin16 : ¬ ((3 : Int32) < 0 ∨ cl16.slots.size ≤ ((3 : Int32)).toNatClampNeg) := inb_of Sz16 ⟨by decide, by decide⟩
  obtain ⟨T17, h17, X17, e17, W17, st17⟩ := stR X14 hx hZ e14 Ar16 (j := (3 : Int32)) (v := (.ref (w 3))) hin16 rfl (Sto.ofV Ar16 q16 Ov1 (Ins.self (hE3.ext O13.2))) (g := (mkF m 28 #[.val (.int p0), .unset, .unset, .unset] [(.ref (w 3)), (.int (3 : Int32)), (.ref b1), (.ref b1)])) rfl rfl (hb hby at_28)
  have V_b1_v17 : Arv Z h17 b1 k1 (.object "com/example/netloom/netloom/net/ElementKind") (13 : Int32) [(.ref (w 0)), (.ref (w 1)), (.ref (w 2)), (.ref (w 3))] .null := Arv.set Ar16 q16 Sz16 Ng16 Hv16 Gv16 rfl W17 3 rfl (Nat.le_of_ble_eq_true rfl)
  have N17 := Fr.snoc X17 N13 gn_b1
  have O17 := O13.wr W17 gn_b1
  obtain ⟨T18, X18, e18, st18⟩ := getS2 X17 hx hZ hown (host := "") (Or.inl (W hw 12 rfl)) Via.refl e17 (hS4.ext O17.2) (g := (mkF m 31 #[.val (.int p0), .unset, .unset, .unset] [(.int (4 : Int32)), (.ref b1), (.ref b1)])) rfl (hb hby at_31)
  have V_b1_v19 : Arv Z h17 b1 k1 (.object "com/example/netloom/netloom/net/ElementKind") (13 : Int32) [(.ref (w 0)), (.ref (w 1)), (.ref (w 2)), (.ref (w 3)), .null] .null := V_b1_v17.pad (pad_rep [(.ref (w 0)), (.ref (w 1)), (.ref (w 2)), (.ref (w 3))] .null 1)
  obtain ⟨cl20, Ar20, q20, Sz20, Ng20, Hv20, Gv20⟩ := V_b1_v19
  have hin20 : ¬ ((4 : Int32) < 0 ∨ cl20.slots.size ≤ ((4 : Int32)).toNatClampNeg) := inb_of Sz20 ⟨by decide, by decide⟩
  obtain ⟨T21, h21, X21, e21, W21, st21⟩ := stR X18 hx hZ e18 Ar20 (j := (4 : Int32)) (v := (.ref (w 4))) hin20 rfl (Sto.ofV Ar20 q20 Ov1 (Ins.self (hE4.ext O17.2))) (g := (mkF m 34 #[.val (.int p0), .unset, .unset, .unset] [(.ref (w 4)), (.int (4 : Int32)), (.ref b1), (.ref b1)])) rfl rfl (hb hby at_34)
  have V_b1_v21 : Arv Z h21 b1 k1 (.object "com/example/netloom/netloom/net/ElementKind") (13 : Int32) [(.ref (w 0)), (.ref (w 1)), (.ref (w 2)), (.ref (w 3)), (.ref (w 4))] .null := Arv.set Ar20 q20 Sz20 Ng20 Hv20 Gv20 rfl W21 4 rfl (Nat.le_of_ble_eq_true rfl)
  have N21 := Fr.snoc X21 N17 gn_b1
  have O21 := O17.wr W21 gn_b1
  obtain ⟨T22, X22, e22, st22⟩ := getS2 X21 hx hZ hown (host := "") (Or.inl (W hw 14 rfl)) Via.refl e21 (hS5.ext O21.2) (g := (mkF m 37 #[.val (.int p0), .unset, .unset, .unset] [(.int (5 : Int32)), (.ref b1), (.ref b1)])) rfl (hb hby at_37)
  have V_b1_v23 : Arv Z h21 b1 k1 (.object "com/example/netloom/netloom/net/ElementKind") (13 : Int32) [(.ref (w 0)), (.ref (w 1)), (.ref (w 2)), (.ref (w 3)), (.ref (w 4)), .null] .null := V_b1_v21.pad (pad_rep [(.ref (w 0)), (.ref (w 1)), (.ref (w 2)), (.ref (w 3)), (.ref (w 4))] .null 1)
  obtain ⟨cl24, Ar24, q24, Sz24, Ng24, Hv24, Gv24⟩ := V_b1_v23
  have hin24 : ¬ ((5 : Int32) < 0 ∨ cl24.slots.size ≤ ((5 : Int32)).toNatClampNeg) := inb_of Sz24 ⟨by decide, by decide⟩
  obtain ⟨T25, h25, X25, e25, W25, st25⟩ := stR X22 hx hZ e22 Ar24 (j := (5 : Int32)) (v := (.ref (w 5))) hin24 rfl (Sto.ofV Ar24 q24 Ov1 (Ins.self (hE5.ext O21.2))) (g := (mkF m 40 #[.val (.int p0), .unset, .unset, .unset] [(.ref (w 5)), (.int (5 : Int32)), (.ref b1), (.ref b1)])) rfl rfl (hb hby at_40)
  have V_b1_v25 : Arv Z h25 b1 k1 (.object "com/example/netloom/netloom/net/ElementKind") (13 : Int32) [(.ref (w 0)), (.ref (w 1)), (.ref (w 2)), (.ref (w 3)), (.ref (w 4)), (.ref (w 5))] .null := Arv.set Ar24 q24 Sz24 Ng24 Hv24 Gv24 rfl W25 5 rfl (Nat.le_of_ble_eq_true rfl)
  have N25 := Fr.snoc X25 N21 gn_b1
  have O25 := O21.wr W25 gn_b1
  obtain ⟨T26, X26, e26, st26⟩ := getS2 X25 hx hZ hown (host := "") (Or.inl (W hw 16 rfl)) Via.refl e25 (hS6.ext O25.2) (g := (mkF m 44 #[.val (.int p0), .unset, .unset, .unset] [(.int (6 : Int32)), (.ref b1), (.ref b1)])) rfl (hb hby at_44)
  have V_b1_v27 : Arv Z h25 b1 k1 (.object "com/example/netloom/netloom/net/ElementKind") (13 : Int32) [(.ref (w 0)), (.ref (w 1)), (.ref (w 2)), (.ref (w 3)), (.ref (w 4)), (.ref (w 5)), .null] .null := V_b1_v25.pad (pad_rep [(.ref (w 0)), (.ref (w 1)), (.ref (w 2)), (.ref (w 3)), (.ref (w 4)), (.ref (w 5))] .null 1)
  obtain ⟨cl28, Ar28, q28, Sz28, Ng28, Hv28, Gv28⟩ := V_b1_v27
  have hin28 : ¬ ((6 : Int32) < 0 ∨ cl28.slots.size ≤ ((6 : Int32)).toNatClampNeg) := inb_of Sz28 ⟨by decide, by decide⟩
  obtain ⟨T29, h29, X29, e29, W29, st29⟩ := stR X26 hx hZ e26 Ar28 (j := (6 : Int32)) (v := (.ref (w 6))) hin28 rfl (Sto.ofV Ar28 q28 Ov1 (Ins.self (hE6.ext O25.2))) (g := (mkF m 47 #[.val (.int p0), .unset, .unset, .unset] [(.ref (w 6)), (.int (6 : Int32)), (.ref b1), (.ref b1)])) rfl rfl (hb hby at_47)
  have V_b1_v29 : Arv Z h29 b1 k1 (.object "com/example/netloom/netloom/net/ElementKind") (13 : Int32) [(.ref (w 0)), (.ref (w 1)), (.ref (w 2)), (.ref (w 3)), (.ref (w 4)), (.ref (w 5)), (.ref (w 6))] .null := Arv.set Ar28 q28 Sz28 Ng28 Hv28 Gv28 rfl W29 6 rfl (Nat.le_of_ble_eq_true rfl)
  have N29 := Fr.snoc X29 N25 gn_b1
  have O29 := O25.wr W29 gn_b1
  obtain ⟨T30, X30, e30, st30⟩ := getS2 X29 hx hZ hown (host := "") (Or.inl (W hw 18 rfl)) Via.refl e29 (hS7.ext O29.2) (g := (mkF m 51 #[.val (.int p0), .unset, .unset, .unset] [(.int (7 : Int32)), (.ref b1), (.ref b1)])) rfl (hb hby at_51)
  have V_b1_v31 : Arv Z h29 b1 k1 (.object "com/example/netloom/netloom/net/ElementKind") (13 : Int32) [(.ref (w 0)), (.ref (w 1)), (.ref (w 2)), (.ref (w 3)), (.ref (w 4)), (.ref (w 5)), (.ref (w 6)), .null] .null := V_b1_v29.pad (pad_rep [(.ref (w 0)), (.ref (w 1)), (.ref (w 2)), (.ref (w 3)), (.ref (w 4)), (.ref (w 5)), (.ref (w 6))] .null 1)
  obtain ⟨cl32, Ar32, q32, Sz32, Ng32, Hv32, Gv32⟩ := V_b1_v31
  have hin32 : ¬ ((7 : Int32) < 0 ∨ cl32.slots.size ≤ ((7 : Int32)).toNatClampNeg) := inb_of Sz32 ⟨by decide, by decide⟩
  obtain ⟨T33, h33, X33, e33, W33, st33⟩ := stR X30 hx hZ e30 Ar32 (j := (7 : Int32)) (v := (.ref (w 7))) hin32 rfl (Sto.ofV Ar32 q32 Ov1 (Ins.self (hE7.ext O29.2))) (g := (mkF m 54 #[.val (.int p0), .unset, .unset, .unset] [(.ref (w 7)), (.int (7 : Int32)), (.ref b1), (.ref b1)])) rfl rfl (hb hby at_54)
  have V_b1_v33 : Arv Z h33 b1 k1 (.object "com/example/netloom/netloom/net/ElementKind") (13 : Int32) [(.ref (w 0)), (.ref (w 1)), (.ref (w 2)), (.ref (w 3)), (.ref (w 4)), (.ref (w 5)), (.ref (w 6)), (.ref (w 7))] .null := Arv.set Ar32 q32 Sz32 Ng32 Hv32 Gv32 rfl W33 7 rfl (Nat.le_of_ble_eq_true rfl)
  have N33 := Fr.snoc X33 N29 gn_b1
  have O33 := O29.wr W33 gn_b1
  obtain ⟨T34, X34, e34, st34⟩ := getS2 X33 hx hZ hown (host := "") (Or.inl (W hw 20 rfl)) Via.refl e33 (hS8.ext O33.2) (g := (mkF m 58 #[.val (.int p0), .unset, .unset, .unset] [(.int (8 : Int32)), (.ref b1), (.ref b1)])) rfl (hb hby at_58)
  have V_b1_v35 : Arv Z h33 b1 k1 (.object "com/example/netloom/netloom/net/ElementKind") (13 : Int32) [(.ref (w 0)), (.ref (w 1)), (.ref (w 2)), (.ref (w 3)), (.ref (w 4)), (.ref (w 5)), (.ref (w 6)), (.ref (w 7)), .null] .null := V_b1_v33.pad (pad_rep [(.ref (w 0)), (.ref (w 1)), (.ref (w 2)), (.ref (w 3)), (.ref (w 4)), (.ref (w 5)), (.ref (w 6)), (.ref (w 7))] .null 1)
  obtain ⟨cl36, Ar36, q36, Sz36, Ng36, Hv36, Gv36⟩ := V_b1_v35
  have hin36 : ¬ ((8 : Int32) < 0 ∨ cl36.slots.size ≤ ((8 : Int32)).toNatClampNeg) := inb_of Sz36 ⟨by decide, by decide⟩
  obtain ⟨T37, h37, X37, e37, W37, st37⟩ := stR X34 hx hZ e34 Ar36 (j := (8 : Int32)) (v := (.ref (w 8))) hin36 rfl (Sto.ofV Ar36 q36 Ov1 (Ins.self (hE8.ext O33.2))) (g := (mkF m 61 #[.val (.int p0), .unset, .unset, .unset] [(.ref (w 8)), (.int (8 : Int32)), (.ref b1), (.ref b1)])) rfl rfl (hb hby at_61)
  have V_b1_v37 : Arv Z h37 b1 k1 (.object "com/example/netloom/netloom/net/ElementKind") (13 : Int32) [(.ref (w 0)), (.ref (w 1)), (.ref (w 2)), (.ref (w 3)), (.ref (w 4)), (.ref (w 5)), (.ref (w 6)), (.ref (w 7)), (.ref (w 8))] .null := Arv.set Ar36 q36 Sz36 Ng36 Hv36 Gv36 rfl W37 8 rfl (Nat.le_of_ble_eq_true rfl)
  have N37 := Fr.snoc X37 N33 gn_b1
  have O37 := O33.wr W37 gn_b1
  obtain ⟨T38, X38, e38, st38⟩ := getS2 X37 hx hZ hown (host := "") (Or.inl (W hw 22 rfl)) Via.refl e37 (hS9.ext O37.2) (g := (mkF m 65 #[.val (.int p0), .unset, .unset, .unset] [(.int (9 : Int32)), (.ref b1), (.ref b1)])) rfl (hb hby at_65)
  have V_b1_v39 : Arv Z h37 b1 k1 (.object "com/example/netloom/netloom/net/ElementKind") (13 : Int32) [(.ref (w 0)), (.ref (w 1)), (.ref (w 2)), (.ref (w 3)), (.ref (w 4)), (.ref (w 5)), (.ref (w 6)), (.ref (w 7)), (.ref (w 8)), .null] .null := V_b1_v37.pad (pad_rep [(.ref (w 0)), (.ref (w 1)), (.ref (w 2)), (.ref (w 3)), (.ref (w 4)), (.ref (w 5)), (.ref (w 6)), (.ref (w 7)), (.ref (w 8))] .null 1)
  obtain ⟨cl40, Ar40, q40, Sz40, Ng40, Hv40, Gv40⟩ := V_b1_v39
  have hin40 : ¬ ((9 : Int32) < 0 ∨ cl40.slots.size ≤ ((9 : Int32)).toNatClampNeg) := inb_of Sz40 ⟨by decide, by decide⟩
  obtain ⟨T41, h41, X41, e41, W41, st41⟩ := stR X38 hx hZ e38 Ar40 (j := (9 : Int32)) (v := (.ref (w 9))) hin40 rfl (Sto.ofV Ar40 q40 Ov1 (Ins.self (hE9.ext O37.2))) (g := (mkF m 68 #[.val (.int p0), .unset, .unset, .unset] [(.ref (w 9)), (.int (9 : Int32)), (.ref b1), (.ref b1)])) rfl rfl (hb hby at_68)
  have V_b1_v41 : Arv Z h41 b1 k1 (.object "com/example/netloom/netloom/net/ElementKind") (13 : Int32) [(.ref (w 0)), (.ref (w 1)), (.ref (w 2)), (.ref (w 3)), (.ref (w 4)), (.ref (w 5)), (.ref (w 6)), (.ref (w 7)), (.ref (w 8)), (.ref (w 9))] .null := Arv.set Ar40 q40 Sz40 Ng40 Hv40 Gv40 rfl W41 9 rfl (Nat.le_of_ble_eq_true rfl)
  have N41 := Fr.snoc X41 N37 gn_b1
  have O41 := O37.wr W41 gn_b1
  obtain ⟨T42, X42, e42, st42⟩ := getS2 X41 hx hZ hown (host := "") (Or.inl (W hw 24 rfl)) Via.refl e41 (hS10.ext O41.2) (g := (mkF m 72 #[.val (.int p0), .unset, .unset, .unset] [(.int (10 : Int32)), (.ref b1), (.ref b1)])) rfl (hb hby at_72)
  have V_b1_v43 : Arv Z h41 b1 k1 (.object "com/example/netloom/netloom/net/ElementKind") (13 : Int32) [(.ref (w 0)), (.ref (w 1)), (.ref (w 2)), (.ref (w 3)), (.ref (w 4)), (.ref (w 5)), (.ref (w 6)), (.ref (w 7)), (.ref (w 8)), (.ref (w 9)), .null] .null := V_b1_v41.pad (pad_rep [(.ref (w 0)), (.ref (w 1)), (.ref (w 2)), (.ref (w 3)), (.ref (w 4)), (.ref (w 5)), (.ref (w 6)), (.ref (w 7)), (.ref (w 8)), (.ref (w 9))] .null 1)
  obtain ⟨cl44, Ar44, q44, Sz44, Ng44, Hv44, Gv44⟩ := V_b1_v43
  have hin44 : ¬ ((10 : Int32) < 0 ∨ cl44.slots.size ≤ ((10 : Int32)).toNatClampNeg) := inb_of Sz44 ⟨by decide, by decide⟩
  obtain ⟨T45, h45, X45, e45, W45, st45⟩ := stR X42 hx hZ e42 Ar44 (j := (10 : Int32)) (v := (.ref (w 10))) hin44 rfl (Sto.ofV Ar44 q44 Ov1 (Ins.self (hE10.ext O41.2))) (g := (mkF m 75 #[.val (.int p0), .unset, .unset, .unset] [(.ref (w 10)), (.int (10 : Int32)), (.ref b1), (.ref b1)])) rfl rfl (hb hby at_75)
  have V_b1_v45 : Arv Z h45 b1 k1 (.object "com/example/netloom/netloom/net/ElementKind") (13 : Int32) [(.ref (w 0)), (.ref (w 1)), (.ref (w 2)), (.ref (w 3)), (.ref (w 4)), (.ref (w 5)), (.ref (w 6)), (.ref (w 7)), (.ref (w 8)), (.ref (w 9)), (.ref (w 10))] .null := Arv.set Ar44 q44 Sz44 Ng44 Hv44 Gv44 rfl W45 10 rfl (Nat.le_of_ble_eq_true rfl)
  have N45 := Fr.snoc X45 N41 gn_b1
  have O45 := O41.wr W45 gn_b1
  obtain ⟨T46, X46, e46, st46⟩ := getS2 X45 hx hZ hown (host := "") (Or.inl (W hw 26 rfl)) Via.refl e45 (hS11.ext O45.2) (g := (mkF m 79 #[.val (.int p0), .unset, .unset, .unset] [(.int (11 : Int32)), (.ref b1), (.ref b1)])) rfl (hb hby at_79)
  have V_b1_v47 : Arv Z h45 b1 k1 (.object "com/example/netloom/netloom/net/ElementKind") (13 : Int32) [(.ref (w 0)), (.ref (w 1)), (.ref (w 2)), (.ref (w 3)), (.ref (w 4)), (.ref (w 5)), (.ref (w 6)), (.ref (w 7)), (.ref (w 8)), (.ref (w 9)), (.ref (w 10)), .null] .null := V_b1_v45.pad (pad_rep [(.ref (w 0)), (.ref (w 1)), (.ref (w 2)), (.ref (w 3)), (.ref (w 4)), (.ref (w 5)), (.ref (w 6)), (.ref (w 7)), (.ref (w 8)), (.ref (w 9)), (.ref (w 10))] .null 1)
  obtain ⟨cl48, Ar48, q48, Sz48, Ng48, Hv48, Gv48⟩ := V_b1_v47
  have hin48 : ¬ ((11 : Int32) < 0 ∨ cl48.slots.size ≤ ((11 : Int32)).toNatClampNeg) := inb_of Sz48 ⟨by decide, by decide⟩
  obtain ⟨T49, h49, X49, e49, W49, st49⟩ := stR X46 hx hZ e46 Ar48 (j := (11 : Int32)) (v := (.ref (w 11))) hin48 rfl (Sto.ofV Ar48 q48 Ov1 (Ins.self (hE11.ext O45.2))) (g := (mkF m 82 #[.val (.int p0), .unset, .unset, .unset] [(.ref (w 11)), (.int (11 : Int32)), (.ref b1), (.ref b1)])) rfl rfl (hb hby at_82)
  have V_b1_v49 : Arv Z h49 b1 k1 (.object "com/example/netloom/netloom/net/ElementKind") (13 : Int32) [(.ref (w 0)), (.ref (w 1)), (.ref (w 2)), (.ref (w 3)), (.ref (w 4)), (.ref (w 5)), (.ref (w 6)), (.ref (w 7)), (.ref (w 8)), (.ref (w 9)), (.ref (w 10)), (.ref (w 11))] .null := Arv.set Ar48 q48 Sz48 Ng48 Hv48 Gv48 rfl W49 11 rfl (Nat.le_of_ble_eq_true rfl)
  have N49 := Fr.snoc X49 N45 gn_b1
  have O49 := O45.wr W49 gn_b1
  obtain ⟨T50, X50, e50, st50⟩ := getS2 X49 hx hZ hown (host := "") (Or.inl (W hw 28 rfl)) Via.refl e49 (hS12.ext O49.2) (g := (mkF m 86 #[.val (.int p0), .unset, .unset, .unset] [(.int (12 : Int32)), (.ref b1), (.ref b1)])) rfl (hb hby at_86)
  have V_b1_v51 : Arv Z h49 b1 k1 (.object "com/example/netloom/netloom/net/ElementKind") (13 : Int32) [(.ref (w 0)), (.ref (w 1)), (.ref (w 2)), (.ref (w 3)), (.ref (w 4)), (.ref (w 5)), (.ref (w 6)), (.ref (w 7)), (.ref (w 8)), (.ref (w 9)), (.ref (w 10)), (.ref (w 11)), .null] .null := V_b1_v49.pad (pad_rep [(.ref (w 0)), (.ref (w 1)), (.ref (w 2)), (.ref (w 3)), (.ref (w 4)), (.ref (w 5)), (.ref (w 6)), (.ref (w 7)), (.ref (w 8)), (.ref (w 9)), (.ref (w 10)), (.ref (w 11))] .null 1)
  obtain ⟨cl52, Ar52, q52, Sz52, Ng52, Hv52, Gv52⟩ := V_b1_v51
  have hin52 : ¬ ((12 : Int32) < 0 ∨ cl52.slots.size ≤ ((12 : Int32)).toNatClampNeg) := inb_of Sz52 ⟨by decide, by decide⟩
  obtain ⟨T53, h53, X53, e53, W53, st53⟩ := stR X50 hx hZ e50 Ar52 (j := (12 : Int32)) (v := (.ref (w 12))) hin52 rfl (Sto.ofV Ar52 q52 Ov1 (Ins.self (hE12.ext O49.2))) (g := (mkF m 89 #[.val (.int p0), .unset, .unset, .unset] [(.ref (w 12)), (.int (12 : Int32)), (.ref b1), (.ref b1)])) rfl rfl (hb hby at_89)
  have V_b1_v53 : Arv Z h53 b1 k1 (.object "com/example/netloom/netloom/net/ElementKind") (13 : Int32) [(.ref (w 0)), (.ref (w 1)), (.ref (w 2)), (.ref (w 3)), (.ref (w 4)), (.ref (w 5)), (.ref (w 6)), (.ref (w 7)), (.ref (w 8)), (.ref (w 9)), (.ref (w 10)), (.ref (w 11)), (.ref (w 12))] .null := Arv.set Ar52 q52 Sz52 Ng52 Hv52 Gv52 rfl W53 12 rfl (Nat.le_of_ble_eq_true rfl)
  have N53 := Fr.snoc X53 N49 gn_b1
  have O53 := O49.wr W53 gn_b1
  obtain ⟨cl54, Ar54, q54, Sz54, Ng54, Hv54, Gv54⟩ := V_b1_v53
  have hin54 : ¬ ((8 : Int32) < 0 ∨ cl54.slots.size ≤ ((8 : Int32)).toNatClampNeg) := inb_of Sz54 ⟨by decide, by decide⟩
  have hat54 : cl54.slots[((8 : Int32)).toNatClampNeg]? = some (.ref (w 8)) := Has.at Hv54 hin54 (by rfl)
  obtain ⟨cq55, kq55, q55a, q55b, q55c⟩ := isOf hZ e53 (hE8.ext O53.2)
  obtain ⟨_, _, ⟨T55, L55, k55, n55⟩, -, X55, ⟨Lc55, hQ55, l55, y55, z55⟩, st55⟩ := X53.virtualBack hx (y := (⟨"com/example/netloom/netloom/net/ElementKind", "isPlace", "()Z"⟩ : MethodName)) (z := (⟨"com/example/netloom/netloom/net/ElementKind", "isPlace", "()Z"⟩ : MethodName)) hown (mvT hZ (W hw 31 rfl)) (mvT hZ (W hw 32 rfl)) (notFace_of_selects (args := #[]) (mvT hZ (W hw 34 rfl))) (mvT hZ (W hw 34 rfl)) (mvT hZ (W hw 33 rfl)) (by decide) (backOf (W := 0) (rm_17 l Z a0 hw w kk hN [] h53 O53) hZ (W hw 35 rfl) (W hw 3 rfl) (by decide) (by decide)) q55a q55c (g := (mkF m 118 #[.val (.int p0), .val (.ref b1), .val (.int (8 : Int32)), .val (.int (0 : Int32))] [(.ref (w 8))])) rfl (by rw [hml]; rfl) (Steps.refl _) (argsL := []) (rest := []) (lenOf pd_0 rfl) rfl (by show 2 * 0 + _ ≤ _; exact Nat.le_of_eq rfl) (hb hby at_118) (fun _ _ => ⟨rfl, e53, (by decide : 1 + 0 ≤ _), (by decide : 13 + 0 ≤ _)⟩)
  dsimp only [Pt.U, Pt.locs, Pt.cells, Pt.slots] at X55 l55 y55 z55 st55 hQ55
  subst l55 y55 z55
  obtain ⟨rfl, N55q, e55⟩ := hQ55
  have N55 := Fr.app N53 N55q
  obtain ⟨fs, hr, hrun, hended, hW, hsame⟩ := X55.leave (v := some (.int (1 : Int32))) (fun h => by rw [Bd.returns] at h; cases h)
  refine ⟨_, _, pre0 _ ?_, hrun, hended, _, _, rfl, ?_, ⟨_, rfl⟩, hW, hsame.mono (by decide) (by decide)⟩
  · show Steps p.tables e below (s₁.setTop (mkF m 0 #[.val (.int p0), .unset, .unset, .unset] [])) _
    refine XS.bipush X0.here hx rfl (hb hby at_0) ?_
    show Steps p.tables e below (s₁.setTop (mkF m 2 #[.val (.int p0), .unset, .unset, .unset] [(.int (13 : Int32))])) _
    refine st1 _ ?_
    show Steps p.tables e below (T1.setTop (mkF m 5 #[.val (.int p0), .unset, .unset, .unset] [(.ref b1)])) _
    refine XS.dup X1.here hx rfl (hb hby at_5) rfl rfl ?_
    show Steps p.tables e below (T1.setTop (mkF m 6 #[.val (.int p0), .unset, .unset, .unset] [(.ref b1), (.ref b1)])) _
    refine XS.iconst X1.here hx rfl (hb hby at_6) ?_
    show Steps p.tables e below (T1.setTop (mkF m 7 #[.val (.int p0), .unset, .unset, .unset] [(.int (0 : Int32)), (.ref b1), (.ref b1)])) _
    refine st2 _ ?_
    show Steps p.tables e below (T2.setTop (mkF m 10 #[.val (.int p0), .unset, .unset, .unset] [(.ref (w 0)), (.int (0 : Int32)), (.ref b1), (.ref b1)])) _
    refine st5 _ ?_
    show Steps p.tables e below (T5.setTop (mkF m 11 #[.val (.int p0), .unset, .unset, .unset] [(.ref b1)])) _
    refine XS.dup X5.here hx rfl (hb hby at_11) rfl rfl ?_
    show Steps p.tables e below (T5.setTop (mkF m 12 #[.val (.int p0), .unset, .unset, .unset] [(.ref b1), (.ref b1)])) _
    refine XS.iconst X5.here hx rfl (hb hby at_12) ?_
    show Steps p.tables e below (T5.setTop (mkF m 13 #[.val (.int p0), .unset, .unset, .unset] [(.int (1 : Int32)), (.ref b1), (.ref b1)])) _
    refine st6 _ ?_
    show Steps p.tables e below (T6.setTop (mkF m 16 #[.val (.int p0), .unset, .unset, .unset] [(.ref (w 1)), (.int (1 : Int32)), (.ref b1), (.ref b1)])) _
    refine st9 _ ?_
    show Steps p.tables e below (T9.setTop (mkF m 17 #[.val (.int p0), .unset, .unset, .unset] [(.ref b1)])) _
    refine XS.dup X9.here hx rfl (hb hby at_17) rfl rfl ?_
    show Steps p.tables e below (T9.setTop (mkF m 18 #[.val (.int p0), .unset, .unset, .unset] [(.ref b1), (.ref b1)])) _
    refine XS.iconst X9.here hx rfl (hb hby at_18) ?_
    show Steps p.tables e below (T9.setTop (mkF m 19 #[.val (.int p0), .unset, .unset, .unset] [(.int (2 : Int32)), (.ref b1), (.ref b1)])) _
    refine st10 _ ?_
    show Steps p.tables e below (T10.setTop (mkF m 22 #[.val (.int p0), .unset, .unset, .unset] [(.ref (w 2)), (.int (2 : Int32)), (.ref b1), (.ref b1)])) _
    refine st13 _ ?_
    show Steps p.tables e below (T13.setTop (mkF m 23 #[.val (.int p0), .unset, .unset, .unset] [(.ref b1)])) _
    refine XS.dup X13.here hx rfl (hb hby at_23) rfl rfl ?_
    show Steps p.tables e below (T13.setTop (mkF m 24 #[.val (.int p0), .unset, .unset, .unset] [(.ref b1), (.ref b1)])) _
    refine XS.iconst X13.here hx rfl (hb hby at_24) ?_
    show Steps p.tables e below (T13.setTop (mkF m 25 #[.val (.int p0), .unset, .unset, .unset] [(.int (3 : Int32)), (.ref b1), (.ref b1)])) _
    refine st14 _ ?_
    show Steps p.tables e below (T14.setTop (mkF m 28 #[.val (.int p0), .unset, .unset, .unset] [(.ref (w 3)), (.int (3 : Int32)), (.ref b1), (.ref b1)])) _
    refine st17 _ ?_
    show Steps p.tables e below (T17.setTop (mkF m 29 #[.val (.int p0), .unset, .unset, .unset] [(.ref b1)])) _
    refine XS.dup X17.here hx rfl (hb hby at_29) rfl rfl ?_
    show Steps p.tables e below (T17.setTop (mkF m 30 #[.val (.int p0), .unset, .unset, .unset] [(.ref b1), (.ref b1)])) _
    refine XS.iconst X17.here hx rfl (hb hby at_30) ?_
    show Steps p.tables e below (T17.setTop (mkF m 31 #[.val (.int p0), .unset, .unset, .unset] [(.int (4 : Int32)), (.ref b1), (.ref b1)])) _
    refine st18 _ ?_
    show Steps p.tables e below (T18.setTop (mkF m 34 #[.val (.int p0), .unset, .unset, .unset] [(.ref (w 4)), (.int (4 : Int32)), (.ref b1), (.ref b1)])) _
    refine st21 _ ?_
    show Steps p.tables e below (T21.setTop (mkF m 35 #[.val (.int p0), .unset, .unset, .unset] [(.ref b1)])) _
    refine XS.dup X21.here hx rfl (hb hby at_35) rfl rfl ?_
    show Steps p.tables e below (T21.setTop (mkF m 36 #[.val (.int p0), .unset, .unset, .unset] [(.ref b1), (.ref b1)])) _
    refine XS.iconst X21.here hx rfl (hb hby at_36) ?_
    show Steps p.tables e below (T21.setTop (mkF m 37 #[.val (.int p0), .unset, .unset, .unset] [(.int (5 : Int32)), (.ref b1), (.ref b1)])) _
    refine st22 _ ?_
    show Steps p.tables e below (T22.setTop (mkF m 40 #[.val (.int p0), .unset, .unset, .unset] [(.ref (w 5)), (.int (5 : Int32)), (.ref b1), (.ref b1)])) _
    refine st25 _ ?_
    show Steps p.tables e below (T25.setTop (mkF m 41 #[.val (.int p0), .unset, .unset, .unset] [(.ref b1)])) _
    refine XS.dup X25.here hx rfl (hb hby at_41) rfl rfl ?_
    show Steps p.tables e below (T25.setTop (mkF m 42 #[.val (.int p0), .unset, .unset, .unset] [(.ref b1), (.ref b1)])) _
    refine XS.bipush X25.here hx rfl (hb hby at_42) ?_
    show Steps p.tables e below (T25.setTop (mkF m 44 #[.val (.int p0), .unset, .unset, .unset] [(.int (6 : Int32)), (.ref b1), (.ref b1)])) _
    refine st26 _ ?_
    show Steps p.tables e below (T26.setTop (mkF m 47 #[.val (.int p0), .unset, .unset, .unset] [(.ref (w 6)), (.int (6 : Int32)), (.ref b1), (.ref b1)])) _
    refine st29 _ ?_
    show Steps p.tables e below (T29.setTop (mkF m 48 #[.val (.int p0), .unset, .unset, .unset] [(.ref b1)])) _
    refine XS.dup X29.here hx rfl (hb hby at_48) rfl rfl ?_
    show Steps p.tables e below (T29.setTop (mkF m 49 #[.val (.int p0), .unset, .unset, .unset] [(.ref b1), (.ref b1)])) _
    refine XS.bipush X29.here hx rfl (hb hby at_49) ?_
    show Steps p.tables e below (T29.setTop (mkF m 51 #[.val (.int p0), .unset, .unset, .unset] [(.int (7 : Int32)), (.ref b1), (.ref b1)])) _
    refine st30 _ ?_
    show Steps p.tables e below (T30.setTop (mkF m 54 #[.val (.int p0), .unset, .unset, .unset] [(.ref (w 7)), (.int (7 : Int32)), (.ref b1), (.ref b1)])) _
    refine st33 _ ?_
    show Steps p.tables e below (T33.setTop (mkF m 55 #[.val (.int p0), .unset, .unset, .unset] [(.ref b1)])) _
    refine XS.dup X33.here hx rfl (hb hby at_55) rfl rfl ?_
    show Steps p.tables e below (T33.setTop (mkF m 56 #[.val (.int p0), .unset, .unset, .unset] [(.ref b1), (.ref b1)])) _
    refine XS.bipush X33.here hx rfl (hb hby at_56) ?_
    show Steps p.tables e below (T33.setTop (mkF m 58 #[.val (.int p0), .unset, .unset, .unset] [(.int (8 : Int32)), (.ref b1), (.ref b1)])) _
    refine st34 _ ?_
    show Steps p.tables e below (T34.setTop (mkF m 61 #[.val (.int p0), .unset, .unset, .unset] [(.ref (w 8)), (.int (8 : Int32)), (.ref b1), (.ref b1)])) _
    refine st37 _ ?_
    show Steps p.tables e below (T37.setTop (mkF m 62 #[.val (.int p0), .unset, .unset, .unset] [(.ref b1)])) _
    refine XS.dup X37.here hx rfl (hb hby at_62) rfl rfl ?_
    show Steps p.tables e below (T37.setTop (mkF m 63 #[.val (.int p0), .unset, .unset, .unset] [(.ref b1), (.ref b1)])) _
    refine XS.bipush X37.here hx rfl (hb hby at_63) ?_
    show Steps p.tables e below (T37.setTop (mkF m 65 #[.val (.int p0), .unset, .unset, .unset] [(.int (9 : Int32)), (.ref b1), (.ref b1)])) _
    refine st38 _ ?_
    show Steps p.tables e below (T38.setTop (mkF m 68 #[.val (.int p0), .unset, .unset, .unset] [(.ref (w 9)), (.int (9 : Int32)), (.ref b1), (.ref b1)])) _
    refine st41 _ ?_
    show Steps p.tables e below (T41.setTop (mkF m 69 #[.val (.int p0), .unset, .unset, .unset] [(.ref b1)])) _
    refine XS.dup X41.here hx rfl (hb hby at_69) rfl rfl ?_
    show Steps p.tables e below (T41.setTop (mkF m 70 #[.val (.int p0), .unset, .unset, .unset] [(.ref b1), (.ref b1)])) _
    refine XS.bipush X41.here hx rfl (hb hby at_70) ?_
    show Steps p.tables e below (T41.setTop (mkF m 72 #[.val (.int p0), .unset, .unset, .unset] [(.int (10 : Int32)), (.ref b1), (.ref b1)])) _
    refine st42 _ ?_
    show Steps p.tables e below (T42.setTop (mkF m 75 #[.val (.int p0), .unset, .unset, .unset] [(.ref (w 10)), (.int (10 : Int32)), (.ref b1), (.ref b1)])) _
    refine st45 _ ?_
    show Steps p.tables e below (T45.setTop (mkF m 76 #[.val (.int p0), .unset, .unset, .unset] [(.ref b1)])) _
    refine XS.dup X45.here hx rfl (hb hby at_76) rfl rfl ?_
    show Steps p.tables e below (T45.setTop (mkF m 77 #[.val (.int p0), .unset, .unset, .unset] [(.ref b1), (.ref b1)])) _
    refine XS.bipush X45.here hx rfl (hb hby at_77) ?_
    show Steps p.tables e below (T45.setTop (mkF m 79 #[.val (.int p0), .unset, .unset, .unset] [(.int (11 : Int32)), (.ref b1), (.ref b1)])) _
    refine st46 _ ?_
    show Steps p.tables e below (T46.setTop (mkF m 82 #[.val (.int p0), .unset, .unset, .unset] [(.ref (w 11)), (.int (11 : Int32)), (.ref b1), (.ref b1)])) _
    refine st49 _ ?_
    show Steps p.tables e below (T49.setTop (mkF m 83 #[.val (.int p0), .unset, .unset, .unset] [(.ref b1)])) _
    refine XS.dup X49.here hx rfl (hb hby at_83) rfl rfl ?_
    show Steps p.tables e below (T49.setTop (mkF m 84 #[.val (.int p0), .unset, .unset, .unset] [(.ref b1), (.ref b1)])) _
    refine XS.bipush X49.here hx rfl (hb hby at_84) ?_
    show Steps p.tables e below (T49.setTop (mkF m 86 #[.val (.int p0), .unset, .unset, .unset] [(.int (12 : Int32)), (.ref b1), (.ref b1)])) _
    refine st50 _ ?_
    show Steps p.tables e below (T50.setTop (mkF m 89 #[.val (.int p0), .unset, .unset, .unset] [(.ref (w 12)), (.int (12 : Int32)), (.ref b1), (.ref b1)])) _
    refine st53 _ ?_
    show Steps p.tables e below (T53.setTop (mkF m 90 #[.val (.int p0), .unset, .unset, .unset] [(.ref b1)])) _
    refine XS.astoreN X53.here hx rfl (hb hby at_90) rfl rfl (l' := #[.val (.int p0), .val (.ref b1), .unset, .unset]) rfl ?_
    show Steps p.tables e below (T53.setTop (mkF m 91 #[.val (.int p0), .val (.ref b1), .unset, .unset] [])) _
    refine XS.iloadN X53.here hx rfl (hb hby at_91) rfl ?_
    show Steps p.tables e below (T53.setTop (mkF m 92 #[.val (.int p0), .val (.ref b1), .unset, .unset] [(.int p0)])) _
    refine X53.ldcInt hx hown (mvT hZ (W hw 30 rfl)) (g := (mkF m 92 #[.val (.int p0), .val (.ref b1), .unset, .unset] [(.int p0)])) rfl (hb hby at_92) _ ?_
    show Steps p.tables e below (T53.setTop (mkF m 94 #[.val (.int p0), .val (.ref b1), .unset, .unset] [(.int (2147483647 : Int32)), (.int p0)])) _
    refine XS.iand X53.here hx rfl (hb hby at_94) rfl ?_
    show Steps p.tables e below (T53.setTop (mkF m 95 #[.val (.int p0), .val (.ref b1), .unset, .unset] [(.int (p0 &&& (2147483647 : Int32)))])) _
    refine XS.bipush X53.here hx rfl (hb hby at_95) ?_
    show Steps p.tables e below (T53.setTop (mkF m 97 #[.val (.int p0), .val (.ref b1), .unset, .unset] [(.int (13 : Int32)), (.int (p0 &&& (2147483647 : Int32)))])) _
    refine iremM X53 hx rfl (hb hby at_97) rfl (by decide : ¬ ((13 : Int32) = (0 : Int32))) ?_
    show Steps p.tables e below (T53.setTop (mkF m 98 #[.val (.int p0), .val (.ref b1), .unset, .unset] [(.int ((p0 &&& (2147483647 : Int32)) % (13 : Int32)))])) _
    rw [hp0]
    show Steps p.tables e below (T53.setTop (mkF m 98 #[.val (.int p0), .val (.ref b1), .unset, .unset] [(.int (8 : Int32))])) _
    refine XS.istoreN X53.here hx rfl (hb hby at_98) rfl (l' := #[.val (.int p0), .val (.ref b1), .val (.int (8 : Int32)), .unset]) rfl ?_
    show Steps p.tables e below (T53.setTop (mkF m 99 #[.val (.int p0), .val (.ref b1), .val (.int (8 : Int32)), .unset] [])) _
    refine XS.iloadN X53.here hx rfl (hb hby at_99) rfl ?_
    show Steps p.tables e below (T53.setTop (mkF m 100 #[.val (.int p0), .val (.ref b1), .val (.int (8 : Int32)), .unset] [(.int (8 : Int32))])) _
    refine XS.iconst X53.here hx rfl (hb hby at_100) ?_
    show Steps p.tables e below (T53.setTop (mkF m 101 #[.val (.int p0), .val (.ref b1), .val (.int (8 : Int32)), .unset] [(.int (2 : Int32)), (.int (8 : Int32))])) _
    refine XS.icmpNo X53.here hx rfl (hb hby at_101) rfl (feq (by decide : ¬ ((8 : Int32) = (2 : Int32)))).1 ?_
    show Steps p.tables e below (T53.setTop (mkF m 104 #[.val (.int p0), .val (.ref b1), .val (.int (8 : Int32)), .unset] [])) _
    refine XS.iloadN X53.here hx rfl (hb hby at_104) rfl ?_
    show Steps p.tables e below (T53.setTop (mkF m 105 #[.val (.int p0), .val (.ref b1), .val (.int (8 : Int32)), .unset] [(.int (8 : Int32))])) _
    refine XS.iconst X53.here hx rfl (hb hby at_105) ?_
    show Steps p.tables e below (T53.setTop (mkF m 106 #[.val (.int p0), .val (.ref b1), .val (.int (8 : Int32)), .unset] [(.int (4 : Int32)), (.int (8 : Int32))])) _
    refine XS.icmpYes X53.here hx rfl (pc0 := 106) (pc' := 113) rfl (hb hby at_106) rfl (feq (by decide : ¬ ((8 : Int32) = (4 : Int32)))).2 (by decide) (by decide) ?_
    show Steps p.tables e below (T53.setTop (mkF m 113 #[.val (.int p0), .val (.ref b1), .val (.int (8 : Int32)), .unset] [])) _
    refine XS.iconst X53.here hx rfl (hb hby at_113) ?_
    show Steps p.tables e below (T53.setTop (mkF m 114 #[.val (.int p0), .val (.ref b1), .val (.int (8 : Int32)), .unset] [(.int (0 : Int32))])) _
    refine XS.istoreN X53.here hx rfl (hb hby at_114) rfl (l' := #[.val (.int p0), .val (.ref b1), .val (.int (8 : Int32)), .val (.int (0 : Int32))]) rfl ?_
    show Steps p.tables e below (T53.setTop (mkF m 115 #[.val (.int p0), .val (.ref b1), .val (.int (8 : Int32)), .val (.int (0 : Int32))] [])) _
    refine XS.aloadN X53.here hx rfl (hb hby at_115) rfl rfl ?_
    show Steps p.tables e below (T53.setTop (mkF m 116 #[.val (.int p0), .val (.ref b1), .val (.int (8 : Int32)), .val (.int (0 : Int32))] [(.ref b1)])) _
    refine XS.iloadN X53.here hx rfl (hb hby at_116) rfl ?_
    show Steps p.tables e below (T53.setTop (mkF m 117 #[.val (.int p0), .val (.ref b1), .val (.int (8 : Int32)), .val (.int (0 : Int32))] [(.int (8 : Int32)), (.ref b1)])) _
    refine X53.aaload hx (j := (8 : Int32)) (v := (.ref (w 8))) (by rw [e53]; exact Ar54.1) (State.isArrayOf_alike hZ.alike Ar54.2.1) rfl Ar54.2.2 hin54 hat54 (g := (mkF m 117 #[.val (.int p0), .val (.ref b1), .val (.int (8 : Int32)), .val (.int (0 : Int32))] [(.int (8 : Int32)), (.ref b1)])) rfl rfl (hb hby at_117) _ ?_
    show Steps p.tables e below (T53.setTop (mkF m 118 #[.val (.int p0), .val (.ref b1), .val (.int (8 : Int32)), .val (.int (0 : Int32))] [(.ref (w 8))])) _
    refine st55.trans ?_
    show Steps p.tables e below (T55.setTop (mkF m 121 #[.val (.int p0), .val (.ref b1), .val (.int (8 : Int32)), .val (.int (0 : Int32))] [(.int (0 : Int32))])) _
    refine XS.iloadN X55.here hx rfl (hb hby at_121) rfl ?_
    show Steps p.tables e below (T55.setTop (mkF m 122 #[.val (.int p0), .val (.ref b1), .val (.int (8 : Int32)), .val (.int (0 : Int32))] [(.int (0 : Int32)), (.int (0 : Int32))])) _
    refine XS.icmpNo X55.here hx rfl (hb hby at_122) rfl (teq (by decide : (0 : Int32) = (0 : Int32))).2 ?_
    show Steps p.tables e below (T55.setTop (mkF m 125 #[.val (.int p0), .val (.ref b1), .val (.int (8 : Int32)), .val (.int (0 : Int32))] [])) _
    refine XS.iconst X55.here hx rfl (hb hby at_125) ?_
    show Steps p.tables e below (T55.setTop (mkF m 126 #[.val (.int p0), .val (.ref b1), .val (.int (8 : Int32)), .val (.int (0 : Int32))] [(.int (1 : Int32))])) _
    refine XS.goto X55.here hx rfl (pc0 := 126) (pc' := 130) rfl (hb hby at_126) (by decide) (by decide) ?_
    show Steps p.tables e below (T55.setTop (mkF m 130 #[.val (.int p0), .val (.ref b1), .val (.int (8 : Int32)), .val (.int (0 : Int32))] [(.int (1 : Int32))])) _
    exact retN X55 hx (t := .boolean) Bd.returns (by simp) (hb hby at_130) hr
  · show OL (some (.int (1 : Int32))) Z.heap.size _ T55.heap _
    exact ⟨rfl, N55⟩
set_option maxRecDepth 65536 in
set_option maxHeartbeats 40000000 in
theorem rm_19 (l : Launch) (Z : State) (a0 : Array Value) (hw : ∀ d ∈ tables_1, d.before a0 Z = true) (w : Nat → Addr) (kk : Nat → ClassId) (hN : Wd Z w kk) (ws : List Jvm.Cond)  (h0 : Heap) (O0 : Old Z Z.heap.size h0) :
    MetFree l (⟨"com/example/netloom/netloom/net/ElementKind", "isPlace", "()Z"⟩ : MethodName) (head1 (Jvm.Cond.code (⟨"com/example/netloom/netloom/net/ElementKind", "isPlace", "()Z"⟩ : MethodName) prog_22_method_5_code 1 (some .boolean) :: ws) ({ frames := 0, cells := 0, slots := 0, locals := 0 } : Room)) (fun a U => a = #[(.ref (w 9))] ∧ Z.Warmed39 U.vm ∧ U.heap = h0) (fun _ _ _ _ _ => True) (fun _ U o U' => ∃ v L, o = .returned v ∧ OQ (some (.int (0 : Int32))) h0 Z.heap.size v U'.heap L ∧ FrameEnd U o U' L ({ frames := 0, cells := 0, slots := 0, locals := 0 } : Room).cells ({ frames := 0, cells := 0, slots := 0, locals := 0 } : Room).slots) := by
  have hN' := hN
  obtain ⟨hS0, hE0, hS1, hE1, hS2, hE2, hS3, hE3, hS4, hE4, hS5, hE5, hS6, hE6, hS7, hE7, hS8, hE8, hS9, hE9, hS10, hE10, hS11, hE11, hS12, hE12, hF0_ordinal, hF2_ordinal, hF4_ordinal, hF3_ordinal, hF6_ordinal, hF5_ordinal, hF7_ordinal, hF9_ordinal, hF11_ordinal, hF1_ordinal, hF8_ordinal, hF10_ordinal, hF12_ordinal⟩ := hN'
  refine MetFree.of_bodySF (plainFor_of_name pn_0) hisR ?_
  intro p e s m args below meth c s₁ Bd hml0 hP hK
  obtain ⟨rfl, hZ, hh⟩ := hP
  have hx := Bd.exec
  have hby := Bd.bytes
  have hml : c.maxLocals = 1 := hml0
  have hown : s.vm.findClass "com/example/netloom/netloom/net/ElementKind" = some m.cls := findClass_of_methodNamed Bd.named
  have hnm := (name_of_methodNamed Bd.named Bd.method).1
  have X0 : Stand p l e ({ frames := 0, cells := 0, slots := 0, locals := 0 } : Room) s m #[(.ref (w 9))] below meth c s₁ [] 0 0 := Stand.of_body Bd
  have e0 : s₁.heap = h0 := by rw [← hh, Bd.state]; rfl
  have N0 := Fr.nil Z.heap.size
  have pre0 : ∀ t, Steps p.tables e below (s₁.setTop (mkF m 0 #[.val (.ref (w 9))] [])) t → Steps p.tables e below (s₁.setTop (entryFrame m #[(.ref (w 9))] 1)) t := fun t k => castTop (ef_0 m (.ref (w 9)) rfl) k
  obtain ⟨T1, X1, e1, st1⟩ := getS2 X0 hx hZ hown (host := "") (Or.inl (W hw 36 rfl)) Via.refl e0 (hS2.ext O0.2) (g := (mkF m 1 #[.val (.ref (w 9))] [(.ref (w 9))])) rfl (hb hby d_prog_22_method_5_code_1)
  obtain ⟨T2, X2, e2, st2⟩ := getS2 X1 hx hZ hown (host := "") (Or.inl (W hw 37 rfl)) Via.refl e1 (hS4.ext O0.2) (g := (mkF m 8 #[.val (.ref (w 9))] [(.ref (w 9))])) rfl (hb hby d_prog_22_method_5_code_8)
  obtain ⟨fs, hr, hrun, hended, hW, hsame⟩ := X2.leave (v := some (.int (0 : Int32))) (fun h => by rw [Bd.returns] at h; cases h)
  refine ⟨_, _, pre0 _ ?_, hrun, hended, _, _, rfl, ?_, ⟨_, rfl⟩, hW, hsame.mono (by decide) (by decide)⟩
  · show Steps p.tables e below (s₁.setTop (mkF m 0 #[.val (.ref (w 9))] [])) _
    refine XS.aloadN X0.here hx rfl (hb hby d_prog_22_method_5_code_0) rfl rfl ?_
    show Steps p.tables e below (s₁.setTop (mkF m 1 #[.val (.ref (w 9))] [(.ref (w 9))])) _
    refine st1 _ ?_
    show Steps p.tables e below (T1.setTop (mkF m 4 #[.val (.ref (w 9))] [(.ref (w 2)), (.ref (w 9))])) _
    refine Jvm.RoadKit.acmp (g := (mkF m 4 #[.val (.ref (w 9))] [(.ref (w 2)), (.ref (w 9))])) X1 hx rfl rfl rfl (pc0 := 4) (pc' := 7) (same := false) rfl (hb hby d_prog_22_method_5_code_4) rfl (decide_eq_false fun q => (Fld.ne hF9_ordinal hF2_ordinal (by decide)) (Value.ref.inj q)) (by decide) (by decide) ?_
    show Steps p.tables e below (T1.setTop (mkF m 7 #[.val (.ref (w 9))] [])) _
    refine XS.aloadN X1.here hx rfl (hb hby d_prog_22_method_5_code_7) rfl rfl ?_
    show Steps p.tables e below (T1.setTop (mkF m 8 #[.val (.ref (w 9))] [(.ref (w 9))])) _
    refine st2 _ ?_
    show Steps p.tables e below (T2.setTop (mkF m 11 #[.val (.ref (w 9))] [(.ref (w 4)), (.ref (w 9))])) _
    refine Jvm.RoadKit.acmp (g := (mkF m 11 #[.val (.ref (w 9))] [(.ref (w 4)), (.ref (w 9))])) X2 hx rfl rfl rfl (pc0 := 11) (pc' := 18) (same := false) rfl (hb hby d_prog_22_method_5_code_11) rfl (decide_eq_false fun q => (Fld.ne hF9_ordinal hF4_ordinal (by decide)) (Value.ref.inj q)) (by decide) (by decide) ?_
    show Steps p.tables e below (T2.setTop (mkF m 18 #[.val (.ref (w 9))] [])) _
    refine XS.iconst X2.here hx rfl (hb hby d_prog_22_method_5_code_18) ?_
    show Steps p.tables e below (T2.setTop (mkF m 19 #[.val (.ref (w 9))] [(.int (0 : Int32))])) _
    exact retN X2 hx (t := .boolean) Bd.returns (by simp) (hb hby d_prog_22_method_5_code_19) hr
  · show OQ (some (.int (0 : Int32))) h0 Z.heap.size _ T2.heap _
    rw [e2]
    exact ⟨rfl, N0, rfl⟩
set_option maxRecDepth 65536 in
set_option maxHeartbeats 40000000 in
theorem law_20 (l : Launch) (Z : State) (a0 : Array Value) (hw : ∀ d ∈ tables_1, d.before a0 Z = true) (w : Nat → Addr) (kk : Nat → ClassId) (hN : Wd Z w kk) (ws : List Jvm.Cond) (p0 : Int32) (h0 : Heap) (O0 : Old Z Z.heap.size h0) (hp0 : ((p0 &&& (2147483647 : Int32)) % (13 : Int32)) = (9 : Int32)) :
    MetFree l x (head1 (Jvm.Cond.code x code maxLocals ret :: ws) room_1) (fun a U => a = #[(.int p0)] ∧ Z.Warmed39 U.vm ∧ U.heap = h0) (fun _ _ _ _ _ => True) (fun _ U o U' => ∃ v L, o = .returned v ∧ OL (some (.int (1 : Int32))) Z.heap.size v U'.heap L ∧ FrameEnd U o U' L 16 128) := by
  have hN' := hN
  obtain ⟨hS0, hE0, hS1, hE1, hS2, hE2, hS3, hE3, hS4, hE4, hS5, hE5, hS6, hE6, hS7, hE7, hS8, hE8, hS9, hE9, hS10, hE10, hS11, hE11, hS12, hE12, hF0_ordinal, hF2_ordinal, hF4_ordinal, hF3_ordinal, hF6_ordinal, hF5_ordinal, hF7_ordinal, hF9_ordinal, hF11_ordinal, hF1_ordinal, hF8_ordinal, hF10_ordinal, hF12_ordinal⟩ := hN'
  refine MetFree.of_bodySF (plainFor_of_name pn_1) hisR ?_
  intro p e s m args below meth c s₁ Bd hml0 hP hK
  obtain ⟨rfl, hZ, hh⟩ := hP
  have hx := Bd.exec
  have hby := Bd.bytes
  have hml : c.maxLocals = 4 := hml0
  have hown : s.vm.findClass "com/example/netloom/netloom/net/ElementKindIsPlacePinLaw" = some m.cls := findClass_of_methodNamed Bd.named
  have hnm := (name_of_methodNamed Bd.named Bd.method).1
  have X0 : Stand p l e room_1 s m #[(.int p0)] below meth c s₁ [] 0 0 := Stand.of_body Bd
  have e0 : s₁.heap = h0 := by rw [← hh, Bd.state]; rfl
  have N0 := Fr.nil Z.heap.size
  have pre0 : ∀ t, Steps p.tables e below (s₁.setTop (mkF m 0 #[.val (.int p0), .unset, .unset, .unset] [])) t → Steps p.tables e below (s₁.setTop (entryFrame m #[(.int p0)] maxLocals)) t := fun t k => castTop (ef_1 m (.int p0) rfl) k
  obtain ⟨T1, h1, k1, X1, e1, E1, A1, Ov1, st1⟩ := newR X0 hx hZ hown (W hw 0 rfl) (W hw 1 rfl) e0 (g := (mkF m 2 #[.val (.int p0), .unset, .unset, .unset] [(.int (13 : Int32))])) rfl (hb hby at_2) rfl (by decide) (cap := 13) (by decide) (by decide) (by decide) (by decide)
  obtain ⟨b1, g1⟩ : ∃ z, z = h0.size := ⟨_, rfl⟩
  rw [← g1] at A1 st1
  have gn_b1 : Z.heap.size ≤ b1 := Nat.le_trans O0.2.1 (Nat.le_of_eq g1.symm)
  have O1 := O0.ext E1
  have V_b1_v1 : Arv Z h1 b1 k1 (.object "com/example/netloom/netloom/net/ElementKind") (13 : Int32) [] .null := Arv.new A1 (by decide)
  obtain ⟨T2, X2, e2, st2⟩ := getS2 X1 hx hZ hown (host := "") (Or.inl (W hw 2 rfl)) Via.refl e1 (hS0.ext O1.2) (g := (mkF m 7 #[.val (.int p0), .unset, .unset, .unset] [(.int (0 : Int32)), (.ref b1), (.ref b1)])) rfl (hb hby at_7)
  have V_b1_v3 : Arv Z h1 b1 k1 (.object "com/example/netloom/netloom/net/ElementKind") (13 : Int32) [.null] .null := V_b1_v1.pad (pad_rep [] .null 1)
  obtain ⟨cl4, Ar4, q4, Sz4, Ng4, Hv4, Gv4⟩ := V_b1_v3
  have hin4 : ¬ ((0 : Int32) < 0 ∨ cl4.slots.size ≤ ((0 : Int32)).toNatClampNeg) := inb_of Sz4 ⟨by decide, by decide⟩
  obtain ⟨T5, h5, X5, e5, W5, st5⟩ := stR X2 hx hZ e2 Ar4 (j := (0 : Int32)) (v := (.ref (w 0))) hin4 rfl (Sto.ofV Ar4 q4 Ov1 (Ins.self (hE0.ext O1.2))) (g := (mkF m 10 #[.val (.int p0), .unset, .unset, .unset] [(.ref (w 0)), (.int (0 : Int32)), (.ref b1), (.ref b1)])) rfl rfl (hb hby at_10)
  have V_b1_v5 : Arv Z h5 b1 k1 (.object "com/example/netloom/netloom/net/ElementKind") (13 : Int32) [(.ref (w 0))] .null := Arv.set Ar4 q4 Sz4 Ng4 Hv4 Gv4 rfl W5 0 rfl (Nat.le_of_ble_eq_true rfl)
  have N5 := Fr.snoc X5 N0 gn_b1
  have O5 := O1.wr W5 gn_b1
  obtain ⟨T6, X6, e6, st6⟩ := getS2 X5 hx hZ hown (host := "") (Or.inl (W hw 6 rfl)) Via.refl e5 (hS1.ext O5.2) (g := (mkF m 13 #[.val (.int p0), .unset, .unset, .unset] [(.int (1 : Int32)), (.ref b1), (.ref b1)])) rfl (hb hby at_13)
  have V_b1_v7 : Arv Z h5 b1 k1 (.object "com/example/netloom/netloom/net/ElementKind") (13 : Int32) [(.ref (w 0)), .null] .null := V_b1_v5.pad (pad_rep [(.ref (w 0))] .null 1)
  obtain ⟨cl8, Ar8, q8, Sz8, Ng8, Hv8, Gv8⟩ := V_b1_v7
  have hin8 : ¬ ((1 : Int32) < 0 ∨ cl8.slots.size ≤ ((1 : Int32)).toNatClampNeg) := inb_of Sz8 ⟨by decide, by decide⟩
  obtain ⟨T9, h9, X9, e9, W9, st9⟩ := stR X6 hx hZ e6 Ar8 (j := (1 : Int32)) (v := (.ref (w 1))) hin8 rfl (Sto.ofV Ar8 q8 Ov1 (Ins.self (hE1.ext O5.2))) (g := (mkF m 16 #[.val (.int p0), .unset, .unset, .unset] [(.ref (w 1)), (.int (1 : Int32)), (.ref b1), (.ref b1)])) rfl rfl (hb hby at_16)
  have V_b1_v9 : Arv Z h9 b1 k1 (.object "com/example/netloom/netloom/net/ElementKind") (13 : Int32) [(.ref (w 0)), (.ref (w 1))] .null := Arv.set Ar8 q8 Sz8 Ng8 Hv8 Gv8 rfl W9 1 rfl (Nat.le_of_ble_eq_true rfl)
  have N9 := Fr.snoc X9 N5 gn_b1
  have O9 := O5.wr W9 gn_b1
  obtain ⟨T10, X10, e10, st10⟩ := getS2 X9 hx hZ hown (host := "") (Or.inl (W hw 8 rfl)) Via.refl e9 (hS2.ext O9.2) (g := (mkF m 19 #[.val (.int p0), .unset, .unset, .unset] [(.int (2 : Int32)), (.ref b1), (.ref b1)])) rfl (hb hby at_19)
  have V_b1_v11 : Arv Z h9 b1 k1 (.object "com/example/netloom/netloom/net/ElementKind") (13 : Int32) [(.ref (w 0)), (.ref (w 1)), .null] .null := V_b1_v9.pad (pad_rep [(.ref (w 0)), (.ref (w 1))] .null 1)
  obtain ⟨cl12, Ar12, q12, Sz12, Ng12, Hv12, Gv12⟩ := V_b1_v11
  have hin12 : ¬ ((2 : Int32) < 0 ∨ cl12.slots.size ≤ ((2 : Int32)).toNatClampNeg) := inb_of Sz12 ⟨by decide, by decide⟩
  obtain ⟨T13, h13, X13, e13, W13, st13⟩ := stR X10 hx hZ e10 Ar12 (j := (2 : Int32)) (v := (.ref (w 2))) hin12 rfl (Sto.ofV Ar12 q12 Ov1 (Ins.self (hE2.ext O9.2))) (g := (mkF m 22 #[.val (.int p0), .unset, .unset, .unset] [(.ref (w 2)), (.int (2 : Int32)), (.ref b1), (.ref b1)])) rfl rfl (hb hby at_22)
  have V_b1_v13 : Arv Z h13 b1 k1 (.object "com/example/netloom/netloom/net/ElementKind") (13 : Int32) [(.ref (w 0)), (.ref (w 1)), (.ref (w 2))] .null := Arv.set Ar12 q12 Sz12 Ng12 Hv12 Gv12 rfl W13 2 rfl (Nat.le_of_ble_eq_true rfl)
  have N13 := Fr.snoc X13 N9 gn_b1
  have O13 := O9.wr W13 gn_b1
  obtain ⟨T14, X14, e14, st14⟩ := getS2 X13 hx hZ hown (host := "") (Or.inl (W hw 10 rfl)) Via.refl e13 (hS3.ext O13.2) (g := (mkF m 25 #[.val (.int p0), .unset, .unset, .unset] [(.int (3 : Int32)), (.ref b1), (.ref b1)])) rfl (hb hby at_25)
  have V_b1_v15 : Arv Z h13 b1 k1 (.object "com/example/netloom/netloom/net/ElementKind") (13 : Int32) [(.ref (w 0)), (.ref (w 1)), (.ref (w 2)), .null] .null := V_b1_v13.pad (pad_rep [(.ref (w 0)), (.ref (w 1)), (.ref (w 2))] .null 1)
  obtain ⟨cl16, Ar16, q16, Sz16, Ng16, Hv16, Gv16⟩ := V_b1_v15
  have hin16 : ¬ ((3 : Int32) < 0 ∨ cl16.slots.size ≤ ((3 : Int32)).toNatClampNeg) := inb_of Sz16 ⟨by decide, by decide⟩
  obtain ⟨T17, h17, X17, e17, W17, st17⟩ := stR X14 hx hZ e14 Ar16 (j := (3 : Int32)) (v := (.ref (w 3))) hin16 rfl (Sto.ofV Ar16 q16 Ov1 (Ins.self (hE3.ext O13.2))) (g := (mkF m 28 #[.val (.int p0), .unset, .unset, .unset] [(.ref (w 3)), (.int (3 : Int32)), (.ref b1), (.ref b1)])) rfl rfl (hb hby at_28)
  have V_b1_v17 : Arv Z h17 b1 k1 (.object "com/example/netloom/netloom/net/ElementKind") (13 : Int32) [(.ref (w 0)), (.ref (w 1)), (.ref (w 2)), (.ref (w 3))] .null := Arv.set Ar16 q16 Sz16 Ng16 Hv16 Gv16 rfl W17 3 rfl (Nat.le_of_ble_eq_true rfl)
  have N17 := Fr.snoc X17 N13 gn_b1
  have O17 := O13.wr W17 gn_b1
  obtain ⟨T18, X18, e18, st18⟩ := getS2 X17 hx hZ hown (host := "") (Or.inl (W hw 12 rfl)) Via.refl e17 (hS4.ext O17.2) (g := (mkF m 31 #[.val (.int p0), .unset, .unset, .unset] [(.int (4 : Int32)), (.ref b1), (.ref b1)])) rfl (hb hby at_31)
  have V_b1_v19 : Arv Z h17 b1 k1 (.object "com/example/netloom/netloom/net/ElementKind") (13 : Int32) [(.ref (w 0)), (.ref (w 1)), (.ref (w 2)), (.ref (w 3)), .null] .null := V_b1_v17.pad (pad_rep [(.ref (w 0)), (.ref (w 1)), (.ref (w 2)), (.ref (w 3))] .null 1)
  obtain ⟨cl20, Ar20, q20, Sz20, Ng20, Hv20, Gv20⟩ := V_b1_v19
  have hin20 : ¬ ((4 : Int32) < 0 ∨ cl20.slots.size ≤ ((4 : Int32)).toNatClampNeg) := inb_of Sz20 ⟨by decide, by decide⟩
  obtain ⟨T21, h21, X21, e21, W21, st21⟩ := stR X18 hx hZ e18 Ar20 (j := (4 : Int32)) (v := (.ref (w 4))) hin20 rfl (Sto.ofV Ar20 q20 Ov1 (Ins.self (hE4.ext O17.2))) (g := (mkF m 34 #[.val (.int p0), .unset, .unset, .unset] [(.ref (w 4)), (.int (4 : Int32)), (.ref b1), (.ref b1)])) rfl rfl (hb hby at_34)
  have V_b1_v21 : Arv Z h21 b1 k1 (.object "com/example/netloom/netloom/net/ElementKind") (13 : Int32) [(.ref (w 0)), (.ref (w 1)), (.ref (w 2)), (.ref (w 3)), (.ref (w 4))] .null := Arv.set Ar20 q20 Sz20 Ng20 Hv20 Gv20 rfl W21 4 rfl (Nat.le_of_ble_eq_true rfl)
  have N21 := Fr.snoc X21 N17 gn_b1
  have O21 := O17.wr W21 gn_b1
  obtain ⟨T22, X22, e22, st22⟩ := getS2 X21 hx hZ hown (host := "") (Or.inl (W hw 14 rfl)) Via.refl e21 (hS5.ext O21.2) (g := (mkF m 37 #[.val (.int p0), .unset, .unset, .unset] [(.int (5 : Int32)), (.ref b1), (.ref b1)])) rfl (hb hby at_37)
  have V_b1_v23 : Arv Z h21 b1 k1 (.object "com/example/netloom/netloom/net/ElementKind") (13 : Int32) [(.ref (w 0)), (.ref (w 1)), (.ref (w 2)), (.ref (w 3)), (.ref (w 4)), .null] .null := V_b1_v21.pad (pad_rep [(.ref (w 0)), (.ref (w 1)), (.ref (w 2)), (.ref (w 3)), (.ref (w 4))] .null 1)
  obtain ⟨cl24, Ar24, q24, Sz24, Ng24, Hv24, Gv24⟩ := V_b1_v23
  have hin24 : ¬ ((5 : Int32) < 0 ∨ cl24.slots.size ≤ ((5 : Int32)).toNatClampNeg) := inb_of Sz24 ⟨by decide, by decide⟩
  obtain ⟨T25, h25, X25, e25, W25, st25⟩ := stR X22 hx hZ e22 Ar24 (j := (5 : Int32)) (v := (.ref (w 5))) hin24 rfl (Sto.ofV Ar24 q24 Ov1 (Ins.self (hE5.ext O21.2))) (g := (mkF m 40 #[.val (.int p0), .unset, .unset, .unset] [(.ref (w 5)), (.int (5 : Int32)), (.ref b1), (.ref b1)])) rfl rfl (hb hby at_40)
  have V_b1_v25 : Arv Z h25 b1 k1 (.object "com/example/netloom/netloom/net/ElementKind") (13 : Int32) [(.ref (w 0)), (.ref (w 1)), (.ref (w 2)), (.ref (w 3)), (.ref (w 4)), (.ref (w 5))] .null := Arv.set Ar24 q24 Sz24 Ng24 Hv24 Gv24 rfl W25 5 rfl (Nat.le_of_ble_eq_true rfl)
  have N25 := Fr.snoc X25 N21 gn_b1
  have O25 := O21.wr W25 gn_b1
  obtain ⟨T26, X26, e26, st26⟩ := getS2 X25 hx hZ hown (host := "") (Or.inl (W hw 16 rfl)) Via.refl e25 (hS6.ext O25.2) (g := (mkF m 44 #[.val (.int p0), .unset, .unset, .unset] [(.int (6 : Int32)), (.ref b1), (.ref b1)])) rfl (hb hby at_44)
  have V_b1_v27 : Arv Z h25 b1 k1 (.object "com/example/netloom/netloom/net/ElementKind") (13 : Int32) [(.ref (w 0)), (.ref (w 1)), (.ref (w 2)), (.ref (w 3)), (.ref (w 4)), (.ref (w 5)), .null] .null := V_b1_v25.pad (pad_rep [(.ref (w 0)), (.ref (w 1)), (.ref (w 2)), (.ref (w 3)), (.ref (w 4)), (.ref (w 5))] .null 1)
  obtain ⟨cl28, Ar28, q28, Sz28, Ng28, Hv28, Gv28⟩ := V_b1_v27
  have hin28 : ¬ ((6 : Int32) < 0 ∨ cl28.slots.size ≤ ((6 : Int32)).toNatClampNeg) := inb_of Sz28 ⟨by decide, by decide⟩
  obtain ⟨T29, h29, X29, e29, W29, st29⟩ := stR X26 hx hZ e26 Ar28 (j := (6 : Int32)) (v := (.ref (w 6))) hin28 rfl (Sto.ofV Ar28 q28 Ov1 (Ins.self (hE6.ext O25.2))) (g := (mkF m 47 #[.val (.int p0), .unset, .unset, .unset] [(.ref (w 6)), (.int (6 : Int32)), (.ref b1), (.ref b1)])) rfl rfl (hb hby at_47)
  have V_b1_v29 : Arv Z h29 b1 k1 (.object "com/example/netloom/netloom/net/ElementKind") (13 : Int32) [(.ref (w 0)), (.ref (w 1)), (.ref (w 2)), (.ref (w 3)), (.ref (w 4)), (.ref (w 5)), (.ref (w 6))] .null := Arv.set Ar28 q28 Sz28 Ng28 Hv28 Gv28 rfl W29 6 rfl (Nat.le_of_ble_eq_true rfl)
  have N29 := Fr.snoc X29 N25 gn_b1
  have O29 := O25.wr W29 gn_b1
  obtain ⟨T30, X30, e30, st30⟩ := getS2 X29 hx hZ hown (host := "") (Or.inl (W hw 18 rfl)) Via.refl e29 (hS7.ext O29.2) (g := (mkF m 51 #[.val (.int p0), .unset, .unset, .unset] [(.int (7 : Int32)), (.ref b1), (.ref b1)])) rfl (hb hby at_51)
  have V_b1_v31 : Arv Z h29 b1 k1 (.object "com/example/netloom/netloom/net/ElementKind") (13 : Int32) [(.ref (w 0)), (.ref (w 1)), (.ref (w 2)), (.ref (w 3)), (.ref (w 4)), (.ref (w 5)), (.ref (w 6)), .null] .null := V_b1_v29.pad (pad_rep [(.ref (w 0)), (.ref (w 1)), (.ref (w 2)), (.ref (w 3)), (.ref (w 4)), (.ref (w 5)), (.ref (w 6))] .null 1)
  obtain ⟨cl32, Ar32, q32, Sz32, Ng32, Hv32, Gv32⟩ := V_b1_v31
  have hin32 : ¬ ((7 : Int32) < 0 ∨ cl32.slots.size ≤ ((7 : Int32)).toNatClampNeg) := inb_of Sz32 ⟨by decide, by decide⟩
  obtain ⟨T33, h33, X33, e33, W33, st33⟩ := stR X30 hx hZ e30 Ar32 (j := (7 : Int32)) (v := (.ref (w 7))) hin32 rfl (Sto.ofV Ar32 q32 Ov1 (Ins.self (hE7.ext O29.2))) (g := (mkF m 54 #[.val (.int p0), .unset, .unset, .unset] [(.ref (w 7)), (.int (7 : Int32)), (.ref b1), (.ref b1)])) rfl rfl (hb hby at_54)
  have V_b1_v33 : Arv Z h33 b1 k1 (.object "com/example/netloom/netloom/net/ElementKind") (13 : Int32) [(.ref (w 0)), (.ref (w 1)), (.ref (w 2)), (.ref (w 3)), (.ref (w 4)), (.ref (w 5)), (.ref (w 6)), (.ref (w 7))] .null := Arv.set Ar32 q32 Sz32 Ng32 Hv32 Gv32 rfl W33 7 rfl (Nat.le_of_ble_eq_true rfl)
  have N33 := Fr.snoc X33 N29 gn_b1
  have O33 := O29.wr W33 gn_b1
  obtain ⟨T34, X34, e34, st34⟩ := getS2 X33 hx hZ hown (host := "") (Or.inl (W hw 20 rfl)) Via.refl e33 (hS8.ext O33.2) (g := (mkF m 58 #[.val (.int p0), .unset, .unset, .unset] [(.int (8 : Int32)), (.ref b1), (.ref b1)])) rfl (hb hby at_58)
  have V_b1_v35 : Arv Z h33 b1 k1 (.object "com/example/netloom/netloom/net/ElementKind") (13 : Int32) [(.ref (w 0)), (.ref (w 1)), (.ref (w 2)), (.ref (w 3)), (.ref (w 4)), (.ref (w 5)), (.ref (w 6)), (.ref (w 7)), .null] .null := V_b1_v33.pad (pad_rep [(.ref (w 0)), (.ref (w 1)), (.ref (w 2)), (.ref (w 3)), (.ref (w 4)), (.ref (w 5)), (.ref (w 6)), (.ref (w 7))] .null 1)
  obtain ⟨cl36, Ar36, q36, Sz36, Ng36, Hv36, Gv36⟩ := V_b1_v35
  have hin36 : ¬ ((8 : Int32) < 0 ∨ cl36.slots.size ≤ ((8 : Int32)).toNatClampNeg) := inb_of Sz36 ⟨by decide, by decide⟩
  obtain ⟨T37, h37, X37, e37, W37, st37⟩ := stR X34 hx hZ e34 Ar36 (j := (8 : Int32)) (v := (.ref (w 8))) hin36 rfl (Sto.ofV Ar36 q36 Ov1 (Ins.self (hE8.ext O33.2))) (g := (mkF m 61 #[.val (.int p0), .unset, .unset, .unset] [(.ref (w 8)), (.int (8 : Int32)), (.ref b1), (.ref b1)])) rfl rfl (hb hby at_61)
  have V_b1_v37 : Arv Z h37 b1 k1 (.object "com/example/netloom/netloom/net/ElementKind") (13 : Int32) [(.ref (w 0)), (.ref (w 1)), (.ref (w 2)), (.ref (w 3)), (.ref (w 4)), (.ref (w 5)), (.ref (w 6)), (.ref (w 7)), (.ref (w 8))] .null := Arv.set Ar36 q36 Sz36 Ng36 Hv36 Gv36 rfl W37 8 rfl (Nat.le_of_ble_eq_true rfl)
  have N37 := Fr.snoc X37 N33 gn_b1
  have O37 := O33.wr W37 gn_b1
  obtain ⟨T38, X38, e38, st38⟩ := getS2 X37 hx hZ hown (host := "") (Or.inl (W hw 22 rfl)) Via.refl e37 (hS9.ext O37.2) (g := (mkF m 65 #[.val (.int p0), .unset, .unset, .unset] [(.int (9 : Int32)), (.ref b1), (.ref b1)])) rfl (hb hby at_65)
  have V_b1_v39 : Arv Z h37 b1 k1 (.object "com/example/netloom/netloom/net/ElementKind") (13 : Int32) [(.ref (w 0)), (.ref (w 1)), (.ref (w 2)), (.ref (w 3)), (.ref (w 4)), (.ref (w 5)), (.ref (w 6)), (.ref (w 7)), (.ref (w 8)), .null] .null := V_b1_v37.pad (pad_rep [(.ref (w 0)), (.ref (w 1)), (.ref (w 2)), (.ref (w 3)), (.ref (w 4)), (.ref (w 5)), (.ref (w 6)), (.ref (w 7)), (.ref (w 8))] .null 1)
  obtain ⟨cl40, Ar40, q40, Sz40, Ng40, Hv40, Gv40⟩ := V_b1_v39
  have hin40 : ¬ ((9 : Int32) < 0 ∨ cl40.slots.size ≤ ((9 : Int32)).toNatClampNeg) := inb_of Sz40 ⟨by decide, by decide⟩
  obtain ⟨T41, h41, X41, e41, W41, st41⟩ := stR X38 hx hZ e38 Ar40 (j := (9 : Int32)) (v := (.ref (w 9))) hin40 rfl (Sto.ofV Ar40 q40 Ov1 (Ins.self (hE9.ext O37.2))) (g := (mkF m 68 #[.val (.int p0), .unset, .unset, .unset] [(.ref (w 9)), (.int (9 : Int32)), (.ref b1), (.ref b1)])) rfl rfl (hb hby at_68)
  have V_b1_v41 : Arv Z h41 b1 k1 (.object "com/example/netloom/netloom/net/ElementKind") (13 : Int32) [(.ref (w 0)), (.ref (w 1)), (.ref (w 2)), (.ref (w 3)), (.ref (w 4)), (.ref (w 5)), (.ref (w 6)), (.ref (w 7)), (.ref (w 8)), (.ref (w 9))] .null := Arv.set Ar40 q40 Sz40 Ng40 Hv40 Gv40 rfl W41 9 rfl (Nat.le_of_ble_eq_true rfl)
  have N41 := Fr.snoc X41 N37 gn_b1
  have O41 := O37.wr W41 gn_b1
  obtain ⟨T42, X42, e42, st42⟩ := getS2 X41 hx hZ hown (host := "") (Or.inl (W hw 24 rfl)) Via.refl e41 (hS10.ext O41.2) (g := (mkF m 72 #[.val (.int p0), .unset, .unset, .unset] [(.int (10 : Int32)), (.ref b1), (.ref b1)])) rfl (hb hby at_72)
  have V_b1_v43 : Arv Z h41 b1 k1 (.object "com/example/netloom/netloom/net/ElementKind") (13 : Int32) [(.ref (w 0)), (.ref (w 1)), (.ref (w 2)), (.ref (w 3)), (.ref (w 4)), (.ref (w 5)), (.ref (w 6)), (.ref (w 7)), (.ref (w 8)), (.ref (w 9)), .null] .null := V_b1_v41.pad (pad_rep [(.ref (w 0)), (.ref (w 1)), (.ref (w 2)), (.ref (w 3)), (.ref (w 4)), (.ref (w 5)), (.ref (w 6)), (.ref (w 7)), (.ref (w 8)), (.ref (w 9))] .null 1)
  obtain ⟨cl44, Ar44, q44, Sz44, Ng44, Hv44, Gv44⟩ := V_b1_v43
  have hin44 : ¬ ((10 : Int32) < 0 ∨ cl44.slots.size ≤ ((10 : Int32)).toNatClampNeg) := inb_of Sz44 ⟨by decide, by decide⟩
  obtain ⟨T45, h45, X45, e45, W45, st45⟩ := stR X42 hx hZ e42 Ar44 (j := (10 : Int32)) (v := (.ref (w 10))) hin44 rfl (Sto.ofV Ar44 q44 Ov1 (Ins.self (hE10.ext O41.2))) (g := (mkF m 75 #[.val (.int p0), .unset, .unset, .unset] [(.ref (w 10)), (.int (10 : Int32)), (.ref b1), (.ref b1)])) rfl rfl (hb hby at_75)
  have V_b1_v45 : Arv Z h45 b1 k1 (.object "com/example/netloom/netloom/net/ElementKind") (13 : Int32) [(.ref (w 0)), (.ref (w 1)), (.ref (w 2)), (.ref (w 3)), (.ref (w 4)), (.ref (w 5)), (.ref (w 6)), (.ref (w 7)), (.ref (w 8)), (.ref (w 9)), (.ref (w 10))] .null := Arv.set Ar44 q44 Sz44 Ng44 Hv44 Gv44 rfl W45 10 rfl (Nat.le_of_ble_eq_true rfl)
  have N45 := Fr.snoc X45 N41 gn_b1
  have O45 := O41.wr W45 gn_b1
  obtain ⟨T46, X46, e46, st46⟩ := getS2 X45 hx hZ hown (host := "") (Or.inl (W hw 26 rfl)) Via.refl e45 (hS11.ext O45.2) (g := (mkF m 79 #[.val (.int p0), .unset, .unset, .unset] [(.int (11 : Int32)), (.ref b1), (.ref b1)])) rfl (hb hby at_79)
  have V_b1_v47 : Arv Z h45 b1 k1 (.object "com/example/netloom/netloom/net/ElementKind") (13 : Int32) [(.ref (w 0)), (.ref (w 1)), (.ref (w 2)), (.ref (w 3)), (.ref (w 4)), (.ref (w 5)), (.ref (w 6)), (.ref (w 7)), (.ref (w 8)), (.ref (w 9)), (.ref (w 10)), .null] .null := V_b1_v45.pad (pad_rep [(.ref (w 0)), (.ref (w 1)), (.ref (w 2)), (.ref (w 3)), (.ref (w 4)), (.ref (w 5)), (.ref (w 6)), (.ref (w 7)), (.ref (w 8)), (.ref (w 9)), (.ref (w 10))] .null 1)
  obtain ⟨cl48, Ar48, q48, Sz48, Ng48, Hv48, Gv48⟩ := V_b1_v47
  have hin48 : ¬ ((11 : Int32) < 0 ∨ cl48.slots.size ≤ ((11 : Int32)).toNatClampNeg) := inb_of Sz48 ⟨by decide, by decide⟩
  obtain ⟨T49, h49, X49, e49, W49, st49⟩ := stR X46 hx hZ e46 Ar48 (j := (11 : Int32)) (v := (.ref (w 11))) hin48 rfl (Sto.ofV Ar48 q48 Ov1 (Ins.self (hE11.ext O45.2))) (g := (mkF m 82 #[.val (.int p0), .unset, .unset, .unset] [(.ref (w 11)), (.int (11 : Int32)), (.ref b1), (.ref b1)])) rfl rfl (hb hby at_82)
  have V_b1_v49 : Arv Z h49 b1 k1 (.object "com/example/netloom/netloom/net/ElementKind") (13 : Int32) [(.ref (w 0)), (.ref (w 1)), (.ref (w 2)), (.ref (w 3)), (.ref (w 4)), (.ref (w 5)), (.ref (w 6)), (.ref (w 7)), (.ref (w 8)), (.ref (w 9)), (.ref (w 10)), (.ref (w 11))] .null := Arv.set Ar48 q48 Sz48 Ng48 Hv48 Gv48 rfl W49 11 rfl (Nat.le_of_ble_eq_true rfl)
  have N49 := Fr.snoc X49 N45 gn_b1
  have O49 := O45.wr W49 gn_b1
  obtain ⟨T50, X50, e50, st50⟩ := getS2 X49 hx hZ hown (host := "") (Or.inl (W hw 28 rfl)) Via.refl e49 (hS12.ext O49.2) (g := (mkF m 86 #[.val (.int p0), .unset, .unset, .unset] [(.int (12 : Int32)), (.ref b1), (.ref b1)])) rfl (hb hby at_86)
  have V_b1_v51 : Arv Z h49 b1 k1 (.object "com/example/netloom/netloom/net/ElementKind") (13 : Int32) [(.ref (w 0)), (.ref (w 1)), (.ref (w 2)), (.ref (w 3)), (.ref (w 4)), (.ref (w 5)), (.ref (w 6)), (.ref (w 7)), (.ref (w 8)), (.ref (w 9)), (.ref (w 10)), (.ref (w 11)), .null] .null := V_b1_v49.pad (pad_rep [(.ref (w 0)), (.ref (w 1)), (.ref (w 2)), (.ref (w 3)), (.ref (w 4)), (.ref (w 5)), (.ref (w 6)), (.ref (w 7)), (.ref (w 8)), (.ref (w 9)), (.ref (w 10)), (.ref (w 11))] .null 1)
  obtain ⟨cl52, Ar52, q52, Sz52, Ng52, Hv52, Gv52⟩ := V_b1_v51
  have hin52 : ¬ ((12 : Int32) < 0 ∨ cl52.slots.size ≤ ((12 : Int32)).toNatClampNeg) := inb_of Sz52 ⟨by decide, by decide⟩
  obtain ⟨T53, h53, X53, e53, W53, st53⟩ := stR X50 hx hZ e50 Ar52 (j := (12 : Int32)) (v := (.ref (w 12))) hin52 rfl (Sto.ofV Ar52 q52 Ov1 (Ins.self (hE12.ext O49.2))) (g := (mkF m 89 #[.val (.int p0), .unset, .unset, .unset] [(.ref (w 12)), (.int (12 : Int32)), (.ref b1), (.ref b1)])) rfl rfl (hb hby at_89)
  have V_b1_v53 : Arv Z h53 b1 k1 (.object "com/example/netloom/netloom/net/ElementKind") (13 : Int32) [(.ref (w 0)), (.ref (w 1)), (.ref (w 2)), (.ref (w 3)), (.ref (w 4)), (.ref (w 5)), (.ref (w 6)), (.ref (w 7)), (.ref (w 8)), (.ref (w 9)), (.ref (w 10)), (.ref (w 11)), (.ref (w 12))] .null := Arv.set Ar52 q52 Sz52 Ng52 Hv52 Gv52 rfl W53 12 rfl (Nat.le_of_ble_eq_true rfl)
  have N53 := Fr.snoc X53 N49 gn_b1
  have O53 := O49.wr W53 gn_b1
  obtain ⟨cl54, Ar54, q54, Sz54, Ng54, Hv54, Gv54⟩ := V_b1_v53
  have hin54 : ¬ ((9 : Int32) < 0 ∨ cl54.slots.size ≤ ((9 : Int32)).toNatClampNeg) := inb_of Sz54 ⟨by decide, by decide⟩
  have hat54 : cl54.slots[((9 : Int32)).toNatClampNeg]? = some (.ref (w 9)) := Has.at Hv54 hin54 (by rfl)
  obtain ⟨cq55, kq55, q55a, q55b, q55c⟩ := isOf hZ e53 (hE9.ext O53.2)
  obtain ⟨_, _, ⟨T55, L55, k55, n55⟩, -, X55, ⟨Lc55, hQ55, l55, y55, z55⟩, st55⟩ := X53.virtualBack hx (y := (⟨"com/example/netloom/netloom/net/ElementKind", "isPlace", "()Z"⟩ : MethodName)) (z := (⟨"com/example/netloom/netloom/net/ElementKind", "isPlace", "()Z"⟩ : MethodName)) hown (mvT hZ (W hw 31 rfl)) (mvT hZ (W hw 32 rfl)) (notFace_of_selects (args := #[]) (mvT hZ (W hw 34 rfl))) (mvT hZ (W hw 34 rfl)) (mvT hZ (W hw 33 rfl)) (by decide) (backOf (W := 0) (rm_19 l Z a0 hw w kk hN [] h53 O53) hZ (W hw 35 rfl) (W hw 3 rfl) (by decide) (by decide)) q55a q55c (g := (mkF m 118 #[.val (.int p0), .val (.ref b1), .val (.int (9 : Int32)), .val (.int (0 : Int32))] [(.ref (w 9))])) rfl (by rw [hml]; rfl) (Steps.refl _) (argsL := []) (rest := []) (lenOf pd_0 rfl) rfl (by show 2 * 0 + _ ≤ _; exact Nat.le_of_eq rfl) (hb hby at_118) (fun _ _ => ⟨rfl, e53, (by decide : 1 + 0 ≤ _), (by decide : 13 + 0 ≤ _)⟩)
  dsimp only [Pt.U, Pt.locs, Pt.cells, Pt.slots] at X55 l55 y55 z55 st55 hQ55
  subst l55 y55 z55
  obtain ⟨rfl, N55q, e55⟩ := hQ55
  have N55 := Fr.app N53 N55q
  obtain ⟨fs, hr, hrun, hended, hW, hsame⟩ := X55.leave (v := some (.int (1 : Int32))) (fun h => by rw [Bd.returns] at h; cases h)
  refine ⟨_, _, pre0 _ ?_, hrun, hended, _, _, rfl, ?_, ⟨_, rfl⟩, hW, hsame.mono (by decide) (by decide)⟩
  · show Steps p.tables e below (s₁.setTop (mkF m 0 #[.val (.int p0), .unset, .unset, .unset] [])) _
    refine XS.bipush X0.here hx rfl (hb hby at_0) ?_
    show Steps p.tables e below (s₁.setTop (mkF m 2 #[.val (.int p0), .unset, .unset, .unset] [(.int (13 : Int32))])) _
    refine st1 _ ?_
    show Steps p.tables e below (T1.setTop (mkF m 5 #[.val (.int p0), .unset, .unset, .unset] [(.ref b1)])) _
    refine XS.dup X1.here hx rfl (hb hby at_5) rfl rfl ?_
    show Steps p.tables e below (T1.setTop (mkF m 6 #[.val (.int p0), .unset, .unset, .unset] [(.ref b1), (.ref b1)])) _
    refine XS.iconst X1.here hx rfl (hb hby at_6) ?_
    show Steps p.tables e below (T1.setTop (mkF m 7 #[.val (.int p0), .unset, .unset, .unset] [(.int (0 : Int32)), (.ref b1), (.ref b1)])) _
    refine st2 _ ?_
    show Steps p.tables e below (T2.setTop (mkF m 10 #[.val (.int p0), .unset, .unset, .unset] [(.ref (w 0)), (.int (0 : Int32)), (.ref b1), (.ref b1)])) _
    refine st5 _ ?_
    show Steps p.tables e below (T5.setTop (mkF m 11 #[.val (.int p0), .unset, .unset, .unset] [(.ref b1)])) _
    refine XS.dup X5.here hx rfl (hb hby at_11) rfl rfl ?_
    show Steps p.tables e below (T5.setTop (mkF m 12 #[.val (.int p0), .unset, .unset, .unset] [(.ref b1), (.ref b1)])) _
    refine XS.iconst X5.here hx rfl (hb hby at_12) ?_
    show Steps p.tables e below (T5.setTop (mkF m 13 #[.val (.int p0), .unset, .unset, .unset] [(.int (1 : Int32)), (.ref b1), (.ref b1)])) _
    refine st6 _ ?_
    show Steps p.tables e below (T6.setTop (mkF m 16 #[.val (.int p0), .unset, .unset, .unset] [(.ref (w 1)), (.int (1 : Int32)), (.ref b1), (.ref b1)])) _
    refine st9 _ ?_
    show Steps p.tables e below (T9.setTop (mkF m 17 #[.val (.int p0), .unset, .unset, .unset] [(.ref b1)])) _
    refine XS.dup X9.here hx rfl (hb hby at_17) rfl rfl ?_
    show Steps p.tables e below (T9.setTop (mkF m 18 #[.val (.int p0), .unset, .unset, .unset] [(.ref b1), (.ref b1)])) _
    refine XS.iconst X9.here hx rfl (hb hby at_18) ?_
    show Steps p.tables e below (T9.setTop (mkF m 19 #[.val (.int p0), .unset, .unset, .unset] [(.int (2 : Int32)), (.ref b1), (.ref b1)])) _
    refine st10 _ ?_
    show Steps p.tables e below (T10.setTop (mkF m 22 #[.val (.int p0), .unset, .unset, .unset] [(.ref (w 2)), (.int (2 : Int32)), (.ref b1), (.ref b1)])) _
    refine st13 _ ?_
    show Steps p.tables e below (T13.setTop (mkF m 23 #[.val (.int p0), .unset, .unset, .unset] [(.ref b1)])) _
    refine XS.dup X13.here hx rfl (hb hby at_23) rfl rfl ?_
    show Steps p.tables e below (T13.setTop (mkF m 24 #[.val (.int p0), .unset, .unset, .unset] [(.ref b1), (.ref b1)])) _
    refine XS.iconst X13.here hx rfl (hb hby at_24) ?_
    show Steps p.tables e below (T13.setTop (mkF m 25 #[.val (.int p0), .unset, .unset, .unset] [(.int (3 : Int32)), (.ref b1), (.ref b1)])) _
    refine st14 _ ?_
    show Steps p.tables e below (T14.setTop (mkF m 28 #[.val (.int p0), .unset, .unset, .unset] [(.ref (w 3)), (.int (3 : Int32)), (.ref b1), (.ref b1)])) _
    refine st17 _ ?_
    show Steps p.tables e below (T17.setTop (mkF m 29 #[.val (.int p0), .unset, .unset, .unset] [(.ref b1)])) _
    refine XS.dup X17.here hx rfl (hb hby at_29) rfl rfl ?_
    show Steps p.tables e below (T17.setTop (mkF m 30 #[.val (.int p0), .unset, .unset, .unset] [(.ref b1), (.ref b1)])) _
    refine XS.iconst X17.here hx rfl (hb hby at_30) ?_
    show Steps p.tables e below (T17.setTop (mkF m 31 #[.val (.int p0), .unset, .unset, .unset] [(.int (4 : Int32)), (.ref b1), (.ref b1)])) _
    refine st18 _ ?_
    show Steps p.tables e below (T18.setTop (mkF m 34 #[.val (.int p0), .unset, .unset, .unset] [(.ref (w 4)), (.int (4 : Int32)), (.ref b1), (.ref b1)])) _
    refine st21 _ ?_
    show Steps p.tables e below (T21.setTop (mkF m 35 #[.val (.int p0), .unset, .unset, .unset] [(.ref b1)])) _
    refine XS.dup X21.here hx rfl (hb hby at_35) rfl rfl ?_
    show Steps p.tables e below (T21.setTop (mkF m 36 #[.val (.int p0), .unset, .unset, .unset] [(.ref b1), (.ref b1)])) _
    refine XS.iconst X21.here hx rfl (hb hby at_36) ?_
    show Steps p.tables e below (T21.setTop (mkF m 37 #[.val (.int p0), .unset, .unset, .unset] [(.int (5 : Int32)), (.ref b1), (.ref b1)])) _
    refine st22 _ ?_
    show Steps p.tables e below (T22.setTop (mkF m 40 #[.val (.int p0), .unset, .unset, .unset] [(.ref (w 5)), (.int (5 : Int32)), (.ref b1), (.ref b1)])) _
    refine st25 _ ?_
    show Steps p.tables e below (T25.setTop (mkF m 41 #[.val (.int p0), .unset, .unset, .unset] [(.ref b1)])) _
    refine XS.dup X25.here hx rfl (hb hby at_41) rfl rfl ?_
    show Steps p.tables e below (T25.setTop (mkF m 42 #[.val (.int p0), .unset, .unset, .unset] [(.ref b1), (.ref b1)])) _
    refine XS.bipush X25.here hx rfl (hb hby at_42) ?_
    show Steps p.tables e below (T25.setTop (mkF m 44 #[.val (.int p0), .unset, .unset, .unset] [(.int (6 : Int32)), (.ref b1), (.ref b1)])) _
    refine st26 _ ?_
    show Steps p.tables e below (T26.setTop (mkF m 47 #[.val (.int p0), .unset, .unset, .unset] [(.ref (w 6)), (.int (6 : Int32)), (.ref b1), (.ref b1)])) _
    refine st29 _ ?_
    show Steps p.tables e below (T29.setTop (mkF m 48 #[.val (.int p0), .unset, .unset, .unset] [(.ref b1)])) _
    refine XS.dup X29.here hx rfl (hb hby at_48) rfl rfl ?_
    show Steps p.tables e below (T29.setTop (mkF m 49 #[.val (.int p0), .unset, .unset, .unset] [(.ref b1), (.ref b1)])) _
    refine XS.bipush X29.here hx rfl (hb hby at_49) ?_
    show Steps p.tables e below (T29.setTop (mkF m 51 #[.val (.int p0), .unset, .unset, .unset] [(.int (7 : Int32)), (.ref b1), (.ref b1)])) _
    refine st30 _ ?_
    show Steps p.tables e below (T30.setTop (mkF m 54 #[.val (.int p0), .unset, .unset, .unset] [(.ref (w 7)), (.int (7 : Int32)), (.ref b1), (.ref b1)])) _
    refine st33 _ ?_
    show Steps p.tables e below (T33.setTop (mkF m 55 #[.val (.int p0), .unset, .unset, .unset] [(.ref b1)])) _
    refine XS.dup X33.here hx rfl (hb hby at_55) rfl rfl ?_
    show Steps p.tables e below (T33.setTop (mkF m 56 #[.val (.int p0), .unset, .unset, .unset] [(.ref b1), (.ref b1)])) _
    refine XS.bipush X33.here hx rfl (hb hby at_56) ?_
    show Steps p.tables e below (T33.setTop (mkF m 58 #[.val (.int p0), .unset, .unset, .unset] [(.int (8 : Int32)), (.ref b1), (.ref b1)])) _
    refine st34 _ ?_
    show Steps p.tables e below (T34.setTop (mkF m 61 #[.val (.int p0), .unset, .unset, .unset] [(.ref (w 8)), (.int (8 : Int32)), (.ref b1), (.ref b1)])) _
    refine st37 _ ?_
    show Steps p.tables e below (T37.setTop (mkF m 62 #[.val (.int p0), .unset, .unset, .unset] [(.ref b1)])) _
    refine XS.dup X37.here hx rfl (hb hby at_62) rfl rfl ?_
    show Steps p.tables e below (T37.setTop (mkF m 63 #[.val (.int p0), .unset, .unset, .unset] [(.ref b1), (.ref b1)])) _
    refine XS.bipush X37.here hx rfl (hb hby at_63) ?_
    show Steps p.tables e below (T37.setTop (mkF m 65 #[.val (.int p0), .unset, .unset, .unset] [(.int (9 : Int32)), (.ref b1), (.ref b1)])) _
    refine st38 _ ?_
    show Steps p.tables e below (T38.setTop (mkF m 68 #[.val (.int p0), .unset, .unset, .unset] [(.ref (w 9)), (.int (9 : Int32)), (.ref b1), (.ref b1)])) _
    refine st41 _ ?_
    show Steps p.tables e below (T41.setTop (mkF m 69 #[.val (.int p0), .unset, .unset, .unset] [(.ref b1)])) _
    refine XS.dup X41.here hx rfl (hb hby at_69) rfl rfl ?_
    show Steps p.tables e below (T41.setTop (mkF m 70 #[.val (.int p0), .unset, .unset, .unset] [(.ref b1), (.ref b1)])) _
    refine XS.bipush X41.here hx rfl (hb hby at_70) ?_
    show Steps p.tables e below (T41.setTop (mkF m 72 #[.val (.int p0), .unset, .unset, .unset] [(.int (10 : Int32)), (.ref b1), (.ref b1)])) _
    refine st42 _ ?_
    show Steps p.tables e below (T42.setTop (mkF m 75 #[.val (.int p0), .unset, .unset, .unset] [(.ref (w 10)), (.int (10 : Int32)), (.ref b1), (.ref b1)])) _
    refine st45 _ ?_
    show Steps p.tables e below (T45.setTop (mkF m 76 #[.val (.int p0), .unset, .unset, .unset] [(.ref b1)])) _
    refine XS.dup X45.here hx rfl (hb hby at_76) rfl rfl ?_
    show Steps p.tables e below (T45.setTop (mkF m 77 #[.val (.int p0), .unset, .unset, .unset] [(.ref b1), (.ref b1)])) _
    refine XS.bipush X45.here hx rfl (hb hby at_77) ?_
    show Steps p.tables e below (T45.setTop (mkF m 79 #[.val (.int p0), .unset, .unset, .unset] [(.int (11 : Int32)), (.ref b1), (.ref b1)])) _
    refine st46 _ ?_
    show Steps p.tables e below (T46.setTop (mkF m 82 #[.val (.int p0), .unset, .unset, .unset] [(.ref (w 11)), (.int (11 : Int32)), (.ref b1), (.ref b1)])) _
    refine st49 _ ?_
    show Steps p.tables e below (T49.setTop (mkF m 83 #[.val (.int p0), .unset, .unset, .unset] [(.ref b1)])) _
    refine XS.dup X49.here hx rfl (hb hby at_83) rfl rfl ?_
    show Steps p.tables e below (T49.setTop (mkF m 84 #[.val (.int p0), .unset, .unset, .unset] [(.ref b1), (.ref b1)])) _
    refine XS.bipush X49.here hx rfl (hb hby at_84) ?_
    show Steps p.tables e below (T49.setTop (mkF m 86 #[.val (.int p0), .unset, .unset, .unset] [(.int (12 : Int32)), (.ref b1), (.ref b1)])) _
    refine st50 _ ?_
    show Steps p.tables e below (T50.setTop (mkF m 89 #[.val (.int p0), .unset, .unset, .unset] [(.ref (w 12)), (.int (12 : Int32)), (.ref b1), (.ref b1)])) _
    refine st53 _ ?_
    show Steps p.tables e below (T53.setTop (mkF m 90 #[.val (.int p0), .unset, .unset, .unset] [(.ref b1)])) _
    refine XS.astoreN X53.here hx rfl (hb hby at_90) rfl rfl (l' := #[.val (.int p0), .val (.ref b1), .unset, .unset]) rfl ?_
    show Steps p.tables e below (T53.setTop (mkF m 91 #[.val (.int p0), .val (.ref b1), .unset, .unset] [])) _
    refine XS.iloadN X53.here hx rfl (hb hby at_91) rfl ?_
    show Steps p.tables e below (T53.setTop (mkF m 92 #[.val (.int p0), .val (.ref b1), .unset, .unset] [(.int p0)])) _
    refine X53.ldcInt hx hown (mvT hZ (W hw 30 rfl)) (g := (mkF m 92 #[.val (.int p0), .val (.ref b1), .unset, .unset] [(.int p0)])) rfl (hb hby at_92) _ ?_
    show Steps p.tables e below (T53.setTop (mkF m 94 #[.val (.int p0), .val (.ref b1), .unset, .unset] [(.int (2147483647 : Int32)), (.int p0)])) _
    refine XS.iand X53.here hx rfl (hb hby at_94) rfl ?_
    show Steps p.tables e below (T53.setTop (mkF m 95 #[.val (.int p0), .val (.ref b1), .unset, .unset] [(.int (p0 &&& (2147483647 : Int32)))])) _
    refine XS.bipush X53.here hx rfl (hb hby at_95) ?_
    show Steps p.tables e below (T53.setTop (mkF m 97 #[.val (.int p0), .val (.ref b1), .unset, .unset] [(.int (13 : Int32)), (.int (p0 &&& (2147483647 : Int32)))])) _
    refine iremM X53 hx rfl (hb hby at_97) rfl (by decide : ¬ ((13 : Int32) = (0 : Int32))) ?_
    show Steps p.tables e below (T53.setTop (mkF m 98 #[.val (.int p0), .val (.ref b1), .unset, .unset] [(.int ((p0 &&& (2147483647 : Int32)) % (13 : Int32)))])) _
    rw [hp0]
    show Steps p.tables e below (T53.setTop (mkF m 98 #[.val (.int p0), .val (.ref b1), .unset, .unset] [(.int (9 : Int32))])) _
    refine XS.istoreN X53.here hx rfl (hb hby at_98) rfl (l' := #[.val (.int p0), .val (.ref b1), .val (.int (9 : Int32)), .unset]) rfl ?_
    show Steps p.tables e below (T53.setTop (mkF m 99 #[.val (.int p0), .val (.ref b1), .val (.int (9 : Int32)), .unset] [])) _
    refine XS.iloadN X53.here hx rfl (hb hby at_99) rfl ?_
    show Steps p.tables e below (T53.setTop (mkF m 100 #[.val (.int p0), .val (.ref b1), .val (.int (9 : Int32)), .unset] [(.int (9 : Int32))])) _
    refine XS.iconst X53.here hx rfl (hb hby at_100) ?_
    show Steps p.tables e below (T53.setTop (mkF m 101 #[.val (.int p0), .val (.ref b1), .val (.int (9 : Int32)), .unset] [(.int (2 : Int32)), (.int (9 : Int32))])) _
    refine XS.icmpNo X53.here hx rfl (hb hby at_101) rfl (feq (by decide : ¬ ((9 : Int32) = (2 : Int32)))).1 ?_
    show Steps p.tables e below (T53.setTop (mkF m 104 #[.val (.int p0), .val (.ref b1), .val (.int (9 : Int32)), .unset] [])) _
    refine XS.iloadN X53.here hx rfl (hb hby at_104) rfl ?_
    show Steps p.tables e below (T53.setTop (mkF m 105 #[.val (.int p0), .val (.ref b1), .val (.int (9 : Int32)), .unset] [(.int (9 : Int32))])) _
    refine XS.iconst X53.here hx rfl (hb hby at_105) ?_
    show Steps p.tables e below (T53.setTop (mkF m 106 #[.val (.int p0), .val (.ref b1), .val (.int (9 : Int32)), .unset] [(.int (4 : Int32)), (.int (9 : Int32))])) _
    refine XS.icmpYes X53.here hx rfl (pc0 := 106) (pc' := 113) rfl (hb hby at_106) rfl (feq (by decide : ¬ ((9 : Int32) = (4 : Int32)))).2 (by decide) (by decide) ?_
    show Steps p.tables e below (T53.setTop (mkF m 113 #[.val (.int p0), .val (.ref b1), .val (.int (9 : Int32)), .unset] [])) _
    refine XS.iconst X53.here hx rfl (hb hby at_113) ?_
    show Steps p.tables e below (T53.setTop (mkF m 114 #[.val (.int p0), .val (.ref b1), .val (.int (9 : Int32)), .unset] [(.int (0 : Int32))])) _
    refine XS.istoreN X53.here hx rfl (hb hby at_114) rfl (l' := #[.val (.int p0), .val (.ref b1), .val (.int (9 : Int32)), .val (.int (0 : Int32))]) rfl ?_
    show Steps p.tables e below (T53.setTop (mkF m 115 #[.val (.int p0), .val (.ref b1), .val (.int (9 : Int32)), .val (.int (0 : Int32))] [])) _
    refine XS.aloadN X53.here hx rfl (hb hby at_115) rfl rfl ?_
    show Steps p.tables e below (T53.setTop (mkF m 116 #[.val (.int p0), .val (.ref b1), .val (.int (9 : Int32)), .val (.int (0 : Int32))] [(.ref b1)])) _
    refine XS.iloadN X53.here hx rfl (hb hby at_116) rfl ?_
    show Steps p.tables e below (T53.setTop (mkF m 117 #[.val (.int p0), .val (.ref b1), .val (.int (9 : Int32)), .val (.int (0 : Int32))] [(.int (9 : Int32)), (.ref b1)])) _
    refine X53.aaload hx (j := (9 : Int32)) (v := (.ref (w 9))) (by rw [e53]; exact Ar54.1) (State.isArrayOf_alike hZ.alike Ar54.2.1) rfl Ar54.2.2 hin54 hat54 (g := (mkF m 117 #[.val (.int p0), .val (.ref b1), .val (.int (9 : Int32)), .val (.int (0 : Int32))] [(.int (9 : Int32)), (.ref b1)])) rfl rfl (hb hby at_117) _ ?_
    show Steps p.tables e below (T53.setTop (mkF m 118 #[.val (.int p0), .val (.ref b1), .val (.int (9 : Int32)), .val (.int (0 : Int32))] [(.ref (w 9))])) _
    refine st55.trans ?_
    show Steps p.tables e below (T55.setTop (mkF m 121 #[.val (.int p0), .val (.ref b1), .val (.int (9 : Int32)), .val (.int (0 : Int32))] [(.int (0 : Int32))])) _
    refine XS.iloadN X55.here hx rfl (hb hby at_121) rfl ?_
    show Steps p.tables e below (T55.setTop (mkF m 122 #[.val (.int p0), .val (.ref b1), .val (.int (9 : Int32)), .val (.int (0 : Int32))] [(.int (0 : Int32)), (.int (0 : Int32))])) _
    refine XS.icmpNo X55.here hx rfl (hb hby at_122) rfl (teq (by decide : (0 : Int32) = (0 : Int32))).2 ?_
    show Steps p.tables e below (T55.setTop (mkF m 125 #[.val (.int p0), .val (.ref b1), .val (.int (9 : Int32)), .val (.int (0 : Int32))] [])) _
    refine XS.iconst X55.here hx rfl (hb hby at_125) ?_
    show Steps p.tables e below (T55.setTop (mkF m 126 #[.val (.int p0), .val (.ref b1), .val (.int (9 : Int32)), .val (.int (0 : Int32))] [(.int (1 : Int32))])) _
    refine XS.goto X55.here hx rfl (pc0 := 126) (pc' := 130) rfl (hb hby at_126) (by decide) (by decide) ?_
    show Steps p.tables e below (T55.setTop (mkF m 130 #[.val (.int p0), .val (.ref b1), .val (.int (9 : Int32)), .val (.int (0 : Int32))] [(.int (1 : Int32))])) _
    exact retN X55 hx (t := .boolean) Bd.returns (by simp) (hb hby at_130) hr
  · show OL (some (.int (1 : Int32))) Z.heap.size _ T55.heap _
    exact ⟨rfl, N55⟩
set_option maxRecDepth 65536 in
set_option maxHeartbeats 40000000 in
theorem rm_21 (l : Launch) (Z : State) (a0 : Array Value) (hw : ∀ d ∈ tables_1, d.before a0 Z = true) (w : Nat → Addr) (kk : Nat → ClassId) (hN : Wd Z w kk) (ws : List Jvm.Cond)  (h0 : Heap) (O0 : Old Z Z.heap.size h0) :
    MetFree l (⟨"com/example/netloom/netloom/net/ElementKind", "isPlace", "()Z"⟩ : MethodName) (head1 (Jvm.Cond.code (⟨"com/example/netloom/netloom/net/ElementKind", "isPlace", "()Z"⟩ : MethodName) prog_22_method_5_code 1 (some .boolean) :: ws) ({ frames := 0, cells := 0, slots := 0, locals := 0 } : Room)) (fun a U => a = #[(.ref (w 10))] ∧ Z.Warmed39 U.vm ∧ U.heap = h0) (fun _ _ _ _ _ => True) (fun _ U o U' => ∃ v L, o = .returned v ∧ OQ (some (.int (0 : Int32))) h0 Z.heap.size v U'.heap L ∧ FrameEnd U o U' L ({ frames := 0, cells := 0, slots := 0, locals := 0 } : Room).cells ({ frames := 0, cells := 0, slots := 0, locals := 0 } : Room).slots) := by
  have hN' := hN
  obtain ⟨hS0, hE0, hS1, hE1, hS2, hE2, hS3, hE3, hS4, hE4, hS5, hE5, hS6, hE6, hS7, hE7, hS8, hE8, hS9, hE9, hS10, hE10, hS11, hE11, hS12, hE12, hF0_ordinal, hF2_ordinal, hF4_ordinal, hF3_ordinal, hF6_ordinal, hF5_ordinal, hF7_ordinal, hF9_ordinal, hF11_ordinal, hF1_ordinal, hF8_ordinal, hF10_ordinal, hF12_ordinal⟩ := hN'
  refine MetFree.of_bodySF (plainFor_of_name pn_0) hisR ?_
  intro p e s m args below meth c s₁ Bd hml0 hP hK
  obtain ⟨rfl, hZ, hh⟩ := hP
  have hx := Bd.exec
  have hby := Bd.bytes
  have hml : c.maxLocals = 1 := hml0
  have hown : s.vm.findClass "com/example/netloom/netloom/net/ElementKind" = some m.cls := findClass_of_methodNamed Bd.named
  have hnm := (name_of_methodNamed Bd.named Bd.method).1
  have X0 : Stand p l e ({ frames := 0, cells := 0, slots := 0, locals := 0 } : Room) s m #[(.ref (w 10))] below meth c s₁ [] 0 0 := Stand.of_body Bd
  have e0 : s₁.heap = h0 := by rw [← hh, Bd.state]; rfl
  have N0 := Fr.nil Z.heap.size
  have pre0 : ∀ t, Steps p.tables e below (s₁.setTop (mkF m 0 #[.val (.ref (w 10))] [])) t → Steps p.tables e below (s₁.setTop (entryFrame m #[(.ref (w 10))] 1)) t := fun t k => castTop (ef_0 m (.ref (w 10)) rfl) k
  obtain ⟨T1, X1, e1, st1⟩ := getS2 X0 hx hZ hown (host := "") (Or.inl (W hw 36 rfl)) Via.refl e0 (hS2.ext O0.2) (g := (mkF m 1 #[.val (.ref (w 10))] [(.ref (w 10))])) rfl (hb hby d_prog_22_method_5_code_1)
  obtain ⟨T2, X2, e2, st2⟩ := getS2 X1 hx hZ hown (host := "") (Or.inl (W hw 37 rfl)) Via.refl e1 (hS4.ext O0.2) (g := (mkF m 8 #[.val (.ref (w 10))] [(.ref (w 10))])) rfl (hb hby d_prog_22_method_5_code_8)
  obtain ⟨fs, hr, hrun, hended, hW, hsame⟩ := X2.leave (v := some (.int (0 : Int32))) (fun h => by rw [Bd.returns] at h; cases h)
  refine ⟨_, _, pre0 _ ?_, hrun, hended, _, _, rfl, ?_, ⟨_, rfl⟩, hW, hsame.mono (by decide) (by decide)⟩
  · show Steps p.tables e below (s₁.setTop (mkF m 0 #[.val (.ref (w 10))] [])) _
    refine XS.aloadN X0.here hx rfl (hb hby d_prog_22_method_5_code_0) rfl rfl ?_
    show Steps p.tables e below (s₁.setTop (mkF m 1 #[.val (.ref (w 10))] [(.ref (w 10))])) _
    refine st1 _ ?_
    show Steps p.tables e below (T1.setTop (mkF m 4 #[.val (.ref (w 10))] [(.ref (w 2)), (.ref (w 10))])) _
    refine Jvm.RoadKit.acmp (g := (mkF m 4 #[.val (.ref (w 10))] [(.ref (w 2)), (.ref (w 10))])) X1 hx rfl rfl rfl (pc0 := 4) (pc' := 7) (same := false) rfl (hb hby d_prog_22_method_5_code_4) rfl (decide_eq_false fun q => (Fld.ne hF10_ordinal hF2_ordinal (by decide)) (Value.ref.inj q)) (by decide) (by decide) ?_
    show Steps p.tables e below (T1.setTop (mkF m 7 #[.val (.ref (w 10))] [])) _
    refine XS.aloadN X1.here hx rfl (hb hby d_prog_22_method_5_code_7) rfl rfl ?_
    show Steps p.tables e below (T1.setTop (mkF m 8 #[.val (.ref (w 10))] [(.ref (w 10))])) _
    refine st2 _ ?_
    show Steps p.tables e below (T2.setTop (mkF m 11 #[.val (.ref (w 10))] [(.ref (w 4)), (.ref (w 10))])) _
    refine Jvm.RoadKit.acmp (g := (mkF m 11 #[.val (.ref (w 10))] [(.ref (w 4)), (.ref (w 10))])) X2 hx rfl rfl rfl (pc0 := 11) (pc' := 18) (same := false) rfl (hb hby d_prog_22_method_5_code_11) rfl (decide_eq_false fun q => (Fld.ne hF10_ordinal hF4_ordinal (by decide)) (Value.ref.inj q)) (by decide) (by decide) ?_
    show Steps p.tables e below (T2.setTop (mkF m 18 #[.val (.ref (w 10))] [])) _
    refine XS.iconst X2.here hx rfl (hb hby d_prog_22_method_5_code_18) ?_
    show Steps p.tables e below (T2.setTop (mkF m 19 #[.val (.ref (w 10))] [(.int (0 : Int32))])) _
    exact retN X2 hx (t := .boolean) Bd.returns (by simp) (hb hby d_prog_22_method_5_code_19) hr
  · show OQ (some (.int (0 : Int32))) h0 Z.heap.size _ T2.heap _
    rw [e2]
    exact ⟨rfl, N0, rfl⟩
set_option maxRecDepth 65536 in
set_option maxHeartbeats 40000000 in
theorem law_22 (l : Launch) (Z : State) (a0 : Array Value) (hw : ∀ d ∈ tables_1, d.before a0 Z = true) (w : Nat → Addr) (kk : Nat → ClassId) (hN : Wd Z w kk) (ws : List Jvm.Cond) (p0 : Int32) (h0 : Heap) (O0 : Old Z Z.heap.size h0) (hp0 : ((p0 &&& (2147483647 : Int32)) % (13 : Int32)) = (10 : Int32)) :
    MetFree l x (head1 (Jvm.Cond.code x code maxLocals ret :: ws) room_1) (fun a U => a = #[(.int p0)] ∧ Z.Warmed39 U.vm ∧ U.heap = h0) (fun _ _ _ _ _ => True) (fun _ U o U' => ∃ v L, o = .returned v ∧ OL (some (.int (1 : Int32))) Z.heap.size v U'.heap L ∧ FrameEnd U o U' L 16 128) := by
  have hN' := hN
  obtain ⟨hS0, hE0, hS1, hE1, hS2, hE2, hS3, hE3, hS4, hE4, hS5, hE5, hS6, hE6, hS7, hE7, hS8, hE8, hS9, hE9, hS10, hE10, hS11, hE11, hS12, hE12, hF0_ordinal, hF2_ordinal, hF4_ordinal, hF3_ordinal, hF6_ordinal, hF5_ordinal, hF7_ordinal, hF9_ordinal, hF11_ordinal, hF1_ordinal, hF8_ordinal, hF10_ordinal, hF12_ordinal⟩ := hN'
  refine MetFree.of_bodySF (plainFor_of_name pn_1) hisR ?_
  intro p e s m args below meth c s₁ Bd hml0 hP hK
  obtain ⟨rfl, hZ, hh⟩ := hP
  have hx := Bd.exec
  have hby := Bd.bytes
  have hml : c.maxLocals = 4 := hml0
  have hown : s.vm.findClass "com/example/netloom/netloom/net/ElementKindIsPlacePinLaw" = some m.cls := findClass_of_methodNamed Bd.named
  have hnm := (name_of_methodNamed Bd.named Bd.method).1
  have X0 : Stand p l e room_1 s m #[(.int p0)] below meth c s₁ [] 0 0 := Stand.of_body Bd
  have e0 : s₁.heap = h0 := by rw [← hh, Bd.state]; rfl
  have N0 := Fr.nil Z.heap.size
  have pre0 : ∀ t, Steps p.tables e below (s₁.setTop (mkF m 0 #[.val (.int p0), .unset, .unset, .unset] [])) t → Steps p.tables e below (s₁.setTop (entryFrame m #[(.int p0)] maxLocals)) t := fun t k => castTop (ef_1 m (.int p0) rfl) k
  obtain ⟨T1, h1, k1, X1, e1, E1, A1, Ov1, st1⟩ := newR X0 hx hZ hown (W hw 0 rfl) (W hw 1 rfl) e0 (g := (mkF m 2 #[.val (.int p0), .unset, .unset, .unset] [(.int (13 : Int32))])) rfl (hb hby at_2) rfl (by decide) (cap := 13) (by decide) (by decide) (by decide) (by decide)
  obtain ⟨b1, g1⟩ : ∃ z, z = h0.size := ⟨_, rfl⟩
  rw [← g1] at A1 st1
  have gn_b1 : Z.heap.size ≤ b1 := Nat.le_trans O0.2.1 (Nat.le_of_eq g1.symm)
  have O1 := O0.ext E1
  have V_b1_v1 : Arv Z h1 b1 k1 (.object "com/example/netloom/netloom/net/ElementKind") (13 : Int32) [] .null := Arv.new A1 (by decide)
  obtain ⟨T2, X2, e2, st2⟩ := getS2 X1 hx hZ hown (host := "") (Or.inl (W hw 2 rfl)) Via.refl e1 (hS0.ext O1.2) (g := (mkF m 7 #[.val (.int p0), .unset, .unset, .unset] [(.int (0 : Int32)), (.ref b1), (.ref b1)])) rfl (hb hby at_7)
  have V_b1_v3 : Arv Z h1 b1 k1 (.object "com/example/netloom/netloom/net/ElementKind") (13 : Int32) [.null] .null := V_b1_v1.pad (pad_rep [] .null 1)
  obtain ⟨cl4, Ar4, q4, Sz4, Ng4, Hv4, Gv4⟩ := V_b1_v3
  have hin4 : ¬ ((0 : Int32) < 0 ∨ cl4.slots.size ≤ ((0 : Int32)).toNatClampNeg) := inb_of Sz4 ⟨by decide, by decide⟩
  obtain ⟨T5, h5, X5, e5, W5, st5⟩ := stR X2 hx hZ e2 Ar4 (j := (0 : Int32)) (v := (.ref (w 0))) hin4 rfl (Sto.ofV Ar4 q4 Ov1 (Ins.self (hE0.ext O1.2))) (g := (mkF m 10 #[.val (.int p0), .unset, .unset, .unset] [(.ref (w 0)), (.int (0 : Int32)), (.ref b1), (.ref b1)])) rfl rfl (hb hby at_10)
  have V_b1_v5 : Arv Z h5 b1 k1 (.object "com/example/netloom/netloom/net/ElementKind") (13 : Int32) [(.ref (w 0))] .null := Arv.set Ar4 q4 Sz4 Ng4 Hv4 Gv4 rfl W5 0 rfl (Nat.le_of_ble_eq_true rfl)
  have N5 := Fr.snoc X5 N0 gn_b1
  have O5 := O1.wr W5 gn_b1
  obtain ⟨T6, X6, e6, st6⟩ := getS2 X5 hx hZ hown (host := "") (Or.inl (W hw 6 rfl)) Via.refl e5 (hS1.ext O5.2) (g := (mkF m 13 #[.val (.int p0), .unset, .unset, .unset] [(.int (1 : Int32)), (.ref b1), (.ref b1)])) rfl (hb hby at_13)
  have V_b1_v7 : Arv Z h5 b1 k1 (.object "com/example/netloom/netloom/net/ElementKind") (13 : Int32) [(.ref (w 0)), .null] .null := V_b1_v5.pad (pad_rep [(.ref (w 0))] .null 1)
  obtain ⟨cl8, Ar8, q8, Sz8, Ng8, Hv8, Gv8⟩ := V_b1_v7
  have hin8 : ¬ ((1 : Int32) < 0 ∨ cl8.slots.size ≤ ((1 : Int32)).toNatClampNeg) := inb_of Sz8 ⟨by decide, by decide⟩
  obtain ⟨T9, h9, X9, e9, W9, st9⟩ := stR X6 hx hZ e6 Ar8 (j := (1 : Int32)) (v := (.ref (w 1))) hin8 rfl (Sto.ofV Ar8 q8 Ov1 (Ins.self (hE1.ext O5.2))) (g := (mkF m 16 #[.val (.int p0), .unset, .unset, .unset] [(.ref (w 1)), (.int (1 : Int32)), (.ref b1), (.ref b1)])) rfl rfl (hb hby at_16)
  have V_b1_v9 : Arv Z h9 b1 k1 (.object "com/example/netloom/netloom/net/ElementKind") (13 : Int32) [(.ref (w 0)), (.ref (w 1))] .null := Arv.set Ar8 q8 Sz8 Ng8 Hv8 Gv8 rfl W9 1 rfl (Nat.le_of_ble_eq_true rfl)
  have N9 := Fr.snoc X9 N5 gn_b1
  have O9 := O5.wr W9 gn_b1
  obtain ⟨T10, X10, e10, st10⟩ := getS2 X9 hx hZ hown (host := "") (Or.inl (W hw 8 rfl)) Via.refl e9 (hS2.ext O9.2) (g := (mkF m 19 #[.val (.int p0), .unset, .unset, .unset] [(.int (2 : Int32)), (.ref b1), (.ref b1)])) rfl (hb hby at_19)
  have V_b1_v11 : Arv Z h9 b1 k1 (.object "com/example/netloom/netloom/net/ElementKind") (13 : Int32) [(.ref (w 0)), (.ref (w 1)), .null] .null := V_b1_v9.pad (pad_rep [(.ref (w 0)), (.ref (w 1))] .null 1)
  obtain ⟨cl12, Ar12, q12, Sz12, Ng12, Hv12, Gv12⟩ := V_b1_v11
  have hin12 : ¬ ((2 : Int32) < 0 ∨ cl12.slots.size ≤ ((2 : Int32)).toNatClampNeg) := inb_of Sz12 ⟨by decide, by decide⟩
  obtain ⟨T13, h13, X13, e13, W13, st13⟩ := stR X10 hx hZ e10 Ar12 (j := (2 : Int32)) (v := (.ref (w 2))) hin12 rfl (Sto.ofV Ar12 q12 Ov1 (Ins.self (hE2.ext O9.2))) (g := (mkF m 22 #[.val (.int p0), .unset, .unset, .unset] [(.ref (w 2)), (.int (2 : Int32)), (.ref b1), (.ref b1)])) rfl rfl (hb hby at_22)
  have V_b1_v13 : Arv Z h13 b1 k1 (.object "com/example/netloom/netloom/net/ElementKind") (13 : Int32) [(.ref (w 0)), (.ref (w 1)), (.ref (w 2))] .null := Arv.set Ar12 q12 Sz12 Ng12 Hv12 Gv12 rfl W13 2 rfl (Nat.le_of_ble_eq_true rfl)
  have N13 := Fr.snoc X13 N9 gn_b1
  have O13 := O9.wr W13 gn_b1
  obtain ⟨T14, X14, e14, st14⟩ := getS2 X13 hx hZ hown (host := "") (Or.inl (W hw 10 rfl)) Via.refl e13 (hS3.ext O13.2) (g := (mkF m 25 #[.val (.int p0), .unset, .unset, .unset] [(.int (3 : Int32)), (.ref b1), (.ref b1)])) rfl (hb hby at_25)
  have V_b1_v15 : Arv Z h13 b1 k1 (.object "com/example/netloom/netloom/net/ElementKind") (13 : Int32) [(.ref (w 0)), (.ref (w 1)), (.ref (w 2)), .null] .null := V_b1_v13.pad (pad_rep [(.ref (w 0)), (.ref (w 1)), (.ref (w 2))] .null 1)
  obtain ⟨cl16, Ar16, q16, Sz16, Ng16, Hv16, Gv16⟩ := V_b1_v15
  have hin16 : ¬ ((3 : Int32) < 0 ∨ cl16.slots.size ≤ ((3 : Int32)).toNatClampNeg) := inb_of Sz16 ⟨by decide, by decide⟩
  obtain ⟨T17, h17, X17, e17, W17, st17⟩ := stR X14 hx hZ e14 Ar16 (j := (3 : Int32)) (v := (.ref (w 3))) hin16 rfl (Sto.ofV Ar16 q16 Ov1 (Ins.self (hE3.ext O13.2))) (g := (mkF m 28 #[.val (.int p0), .unset, .unset, .unset] [(.ref (w 3)), (.int (3 : Int32)), (.ref b1), (.ref b1)])) rfl rfl (hb hby at_28)
  have V_b1_v17 : Arv Z h17 b1 k1 (.object "com/example/netloom/netloom/net/ElementKind") (13 : Int32) [(.ref (w 0)), (.ref (w 1)), (.ref (w 2)), (.ref (w 3))] .null := Arv.set Ar16 q16 Sz16 Ng16 Hv16 Gv16 rfl W17 3 rfl (Nat.le_of_ble_eq_true rfl)
  have N17 := Fr.snoc X17 N13 gn_b1
  have O17 := O13.wr W17 gn_b1
  obtain ⟨T18, X18, e18, st18⟩ := getS2 X17 hx hZ hown (host := "") (Or.inl (W hw 12 rfl)) Via.refl e17 (hS4.ext O17.2) (g := (mkF m 31 #[.val (.int p0), .unset, .unset, .unset] [(.int (4 : Int32)), (.ref b1), (.ref b1)])) rfl (hb hby at_31)
  have V_b1_v19 : Arv Z h17 b1 k1 (.object "com/example/netloom/netloom/net/ElementKind") (13 : Int32) [(.ref (w 0)), (.ref (w 1)), (.ref (w 2)), (.ref (w 3)), .null] .null := V_b1_v17.pad (pad_rep [(.ref (w 0)), (.ref (w 1)), (.ref (w 2)), (.ref (w 3))] .null 1)
  obtain ⟨cl20, Ar20, q20, Sz20, Ng20, Hv20, Gv20⟩ := V_b1_v19
  have hin20 : ¬ ((4 : Int32) < 0 ∨ cl20.slots.size ≤ ((4 : Int32)).toNatClampNeg) := inb_of Sz20 ⟨by decide, by decide⟩
  obtain ⟨T21, h21, X21, e21, W21, st21⟩ := stR X18 hx hZ e18 Ar20 (j := (4 : Int32)) (v := (.ref (w 4))) hin20 rfl (Sto.ofV Ar20 q20 Ov1 (Ins.self (hE4.ext O17.2))) (g := (mkF m 34 #[.val (.int p0), .unset, .unset, .unset] [(.ref (w 4)), (.int (4 : Int32)), (.ref b1), (.ref b1)])) rfl rfl (hb hby at_34)
  have V_b1_v21 : Arv Z h21 b1 k1 (.object "com/example/netloom/netloom/net/ElementKind") (13 : Int32) [(.ref (w 0)), (.ref (w 1)), (.ref (w 2)), (.ref (w 3)), (.ref (w 4))] .null := Arv.set Ar20 q20 Sz20 Ng20 Hv20 Gv20 rfl W21 4 rfl (Nat.le_of_ble_eq_true rfl)
  have N21 := Fr.snoc X21 N17 gn_b1
  have O21 := O17.wr W21 gn_b1
  obtain ⟨T22, X22, e22, st22⟩ := getS2 X21 hx hZ hown (host := "") (Or.inl (W hw 14 rfl)) Via.refl e21 (hS5.ext O21.2) (g := (mkF m 37 #[.val (.int p0), .unset, .unset, .unset] [(.int (5 : Int32)), (.ref b1), (.ref b1)])) rfl (hb hby at_37)
  have V_b1_v23 : Arv Z h21 b1 k1 (.object "com/example/netloom/netloom/net/ElementKind") (13 : Int32) [(.ref (w 0)), (.ref (w 1)), (.ref (w 2)), (.ref (w 3)), (.ref (w 4)), .null] .null := V_b1_v21.pad (pad_rep [(.ref (w 0)), (.ref (w 1)), (.ref (w 2)), (.ref (w 3)), (.ref (w 4))] .null 1)
  obtain ⟨cl24, Ar24, q24, Sz24, Ng24, Hv24, Gv24⟩ := V_b1_v23
  have hin24 : ¬ ((5 : Int32) < 0 ∨ cl24.slots.size ≤ ((5 : Int32)).toNatClampNeg) := inb_of Sz24 ⟨by decide, by decide⟩
  obtain ⟨T25, h25, X25, e25, W25, st25⟩ := stR X22 hx hZ e22 Ar24 (j := (5 : Int32)) (v := (.ref (w 5))) hin24 rfl (Sto.ofV Ar24 q24 Ov1 (Ins.self (hE5.ext O21.2))) (g := (mkF m 40 #[.val (.int p0), .unset, .unset, .unset] [(.ref (w 5)), (.int (5 : Int32)), (.ref b1), (.ref b1)])) rfl rfl (hb hby at_40)
  have V_b1_v25 : Arv Z h25 b1 k1 (.object "com/example/netloom/netloom/net/ElementKind") (13 : Int32) [(.ref (w 0)), (.ref (w 1)), (.ref (w 2)), (.ref (w 3)), (.ref (w 4)), (.ref (w 5))] .null := Arv.set Ar24 q24 Sz24 Ng24 Hv24 Gv24 rfl W25 5 rfl (Nat.le_of_ble_eq_true rfl)
  have N25 := Fr.snoc X25 N21 gn_b1
  have O25 := O21.wr W25 gn_b1
  obtain ⟨T26, X26, e26, st26⟩ := getS2 X25 hx hZ hown (host := "") (Or.inl (W hw 16 rfl)) Via.refl e25 (hS6.ext O25.2) (g := (mkF m 44 #[.val (.int p0), .unset, .unset, .unset] [(.int (6 : Int32)), (.ref b1), (.ref b1)])) rfl (hb hby at_44)
  have V_b1_v27 : Arv Z h25 b1 k1 (.object "com/example/netloom/netloom/net/ElementKind") (13 : Int32) [(.ref (w 0)), (.ref (w 1)), (.ref (w 2)), (.ref (w 3)), (.ref (w 4)), (.ref (w 5)), .null] .null := V_b1_v25.pad (pad_rep [(.ref (w 0)), (.ref (w 1)), (.ref (w 2)), (.ref (w 3)), (.ref (w 4)), (.ref (w 5))] .null 1)
  obtain ⟨cl28, Ar28, q28, Sz28, Ng28, Hv28, Gv28⟩ := V_b1_v27
  have hin28 : ¬ ((6 : Int32) < 0 ∨ cl28.slots.size ≤ ((6 : Int32)).toNatClampNeg) := inb_of Sz28 ⟨by decide, by decide⟩
  obtain ⟨T29, h29, X29, e29, W29, st29⟩ := stR X26 hx hZ e26 Ar28 (j := (6 : Int32)) (v := (.ref (w 6))) hin28 rfl (Sto.ofV Ar28 q28 Ov1 (Ins.self (hE6.ext O25.2))) (g := (mkF m 47 #[.val (.int p0), .unset, .unset, .unset] [(.ref (w 6)), (.int (6 : Int32)), (.ref b1), (.ref b1)])) rfl rfl (hb hby at_47)
  have V_b1_v29 : Arv Z h29 b1 k1 (.object "com/example/netloom/netloom/net/ElementKind") (13 : Int32) [(.ref (w 0)), (.ref (w 1)), (.ref (w 2)), (.ref (w 3)), (.ref (w 4)), (.ref (w 5)), (.ref (w 6))] .null := Arv.set Ar28 q28 Sz28 Ng28 Hv28 Gv28 rfl W29 6 rfl (Nat.le_of_ble_eq_true rfl)
  have N29 := Fr.snoc X29 N25 gn_b1
  have O29 := O25.wr W29 gn_b1
  obtain ⟨T30, X30, e30, st30⟩ := getS2 X29 hx hZ hown (host := "") (Or.inl (W hw 18 rfl)) Via.refl e29 (hS7.ext O29.2) (g := (mkF m 51 #[.val (.int p0), .unset, .unset, .unset] [(.int (7 : Int32)), (.ref b1), (.ref b1)])) rfl (hb hby at_51)
  have V_b1_v31 : Arv Z h29 b1 k1 (.object "com/example/netloom/netloom/net/ElementKind") (13 : Int32) [(.ref (w 0)), (.ref (w 1)), (.ref (w 2)), (.ref (w 3)), (.ref (w 4)), (.ref (w 5)), (.ref (w 6)), .null] .null := V_b1_v29.pad (pad_rep [(.ref (w 0)), (.ref (w 1)), (.ref (w 2)), (.ref (w 3)), (.ref (w 4)), (.ref (w 5)), (.ref (w 6))] .null 1)
  obtain ⟨cl32, Ar32, q32, Sz32, Ng32, Hv32, Gv32⟩ := V_b1_v31
  have hin32 : ¬ ((7 : Int32) < 0 ∨ cl32.slots.size ≤ ((7 : Int32)).toNatClampNeg) := inb_of Sz32 ⟨by decide, by decide⟩
  obtain ⟨T33, h33, X33, e33, W33, st33⟩ := stR X30 hx hZ e30 Ar32 (j := (7 : Int32)) (v := (.ref (w 7))) hin32 rfl (Sto.ofV Ar32 q32 Ov1 (Ins.self (hE7.ext O29.2))) (g := (mkF m 54 #[.val (.int p0), .unset, .unset, .unset] [(.ref (w 7)), (.int (7 : Int32)), (.ref b1), (.ref b1)])) rfl rfl (hb hby at_54)
  have V_b1_v33 : Arv Z h33 b1 k1 (.object "com/example/netloom/netloom/net/ElementKind") (13 : Int32) [(.ref (w 0)), (.ref (w 1)), (.ref (w 2)), (.ref (w 3)), (.ref (w 4)), (.ref (w 5)), (.ref (w 6)), (.ref (w 7))] .null := Arv.set Ar32 q32 Sz32 Ng32 Hv32 Gv32 rfl W33 7 rfl (Nat.le_of_ble_eq_true rfl)
  have N33 := Fr.snoc X33 N29 gn_b1
  have O33 := O29.wr W33 gn_b1
  obtain ⟨T34, X34, e34, st34⟩ := getS2 X33 hx hZ hown (host := "") (Or.inl (W hw 20 rfl)) Via.refl e33 (hS8.ext O33.2) (g := (mkF m 58 #[.val (.int p0), .unset, .unset, .unset] [(.int (8 : Int32)), (.ref b1), (.ref b1)])) rfl (hb hby at_58)
  have V_b1_v35 : Arv Z h33 b1 k1 (.object "com/example/netloom/netloom/net/ElementKind") (13 : Int32) [(.ref (w 0)), (.ref (w 1)), (.ref (w 2)), (.ref (w 3)), (.ref (w 4)), (.ref (w 5)), (.ref (w 6)), (.ref (w 7)), .null] .null := V_b1_v33.pad (pad_rep [(.ref (w 0)), (.ref (w 1)), (.ref (w 2)), (.ref (w 3)), (.ref (w 4)), (.ref (w 5)), (.ref (w 6)), (.ref (w 7))] .null 1)
  obtain ⟨cl36, Ar36, q36, Sz36, Ng36, Hv36, Gv36⟩ := V_b1_v35
  have hin36 : ¬ ((8 : Int32) < 0 ∨ cl36.slots.size ≤ ((8 : Int32)).toNatClampNeg) := inb_of Sz36 ⟨by decide, by decide⟩
  obtain ⟨T37, h37, X37, e37, W37, st37⟩ := stR X34 hx hZ e34 Ar36 (j := (8 : Int32)) (v := (.ref (w 8))) hin36 rfl (Sto.ofV Ar36 q36 Ov1 (Ins.self (hE8.ext O33.2))) (g := (mkF m 61 #[.val (.int p0), .unset, .unset, .unset] [(.ref (w 8)), (.int (8 : Int32)), (.ref b1), (.ref b1)])) rfl rfl (hb hby at_61)
  have V_b1_v37 : Arv Z h37 b1 k1 (.object "com/example/netloom/netloom/net/ElementKind") (13 : Int32) [(.ref (w 0)), (.ref (w 1)), (.ref (w 2)), (.ref (w 3)), (.ref (w 4)), (.ref (w 5)), (.ref (w 6)), (.ref (w 7)), (.ref (w 8))] .null := Arv.set Ar36 q36 Sz36 Ng36 Hv36 Gv36 rfl W37 8 rfl (Nat.le_of_ble_eq_true rfl)
  have N37 := Fr.snoc X37 N33 gn_b1
  have O37 := O33.wr W37 gn_b1
  obtain ⟨T38, X38, e38, st38⟩ := getS2 X37 hx hZ hown (host := "") (Or.inl (W hw 22 rfl)) Via.refl e37 (hS9.ext O37.2) (g := (mkF m 65 #[.val (.int p0), .unset, .unset, .unset] [(.int (9 : Int32)), (.ref b1), (.ref b1)])) rfl (hb hby at_65)
  have V_b1_v39 : Arv Z h37 b1 k1 (.object "com/example/netloom/netloom/net/ElementKind") (13 : Int32) [(.ref (w 0)), (.ref (w 1)), (.ref (w 2)), (.ref (w 3)), (.ref (w 4)), (.ref (w 5)), (.ref (w 6)), (.ref (w 7)), (.ref (w 8)), .null] .null := V_b1_v37.pad (pad_rep [(.ref (w 0)), (.ref (w 1)), (.ref (w 2)), (.ref (w 3)), (.ref (w 4)), (.ref (w 5)), (.ref (w 6)), (.ref (w 7)), (.ref (w 8))] .null 1)
  obtain ⟨cl40, Ar40, q40, Sz40, Ng40, Hv40, Gv40⟩ := V_b1_v39
  have hin40 : ¬ ((9 : Int32) < 0 ∨ cl40.slots.size ≤ ((9 : Int32)).toNatClampNeg) := inb_of Sz40 ⟨by decide, by decide⟩
  obtain ⟨T41, h41, X41, e41, W41, st41⟩ := stR X38 hx hZ e38 Ar40 (j := (9 : Int32)) (v := (.ref (w 9))) hin40 rfl (Sto.ofV Ar40 q40 Ov1 (Ins.self (hE9.ext O37.2))) (g := (mkF m 68 #[.val (.int p0), .unset, .unset, .unset] [(.ref (w 9)), (.int (9 : Int32)), (.ref b1), (.ref b1)])) rfl rfl (hb hby at_68)
  have V_b1_v41 : Arv Z h41 b1 k1 (.object "com/example/netloom/netloom/net/ElementKind") (13 : Int32) [(.ref (w 0)), (.ref (w 1)), (.ref (w 2)), (.ref (w 3)), (.ref (w 4)), (.ref (w 5)), (.ref (w 6)), (.ref (w 7)), (.ref (w 8)), (.ref (w 9))] .null := Arv.set Ar40 q40 Sz40 Ng40 Hv40 Gv40 rfl W41 9 rfl (Nat.le_of_ble_eq_true rfl)
  have N41 := Fr.snoc X41 N37 gn_b1
  have O41 := O37.wr W41 gn_b1
  obtain ⟨T42, X42, e42, st42⟩ := getS2 X41 hx hZ hown (host := "") (Or.inl (W hw 24 rfl)) Via.refl e41 (hS10.ext O41.2) (g := (mkF m 72 #[.val (.int p0), .unset, .unset, .unset] [(.int (10 : Int32)), (.ref b1), (.ref b1)])) rfl (hb hby at_72)
  have V_b1_v43 : Arv Z h41 b1 k1 (.object "com/example/netloom/netloom/net/ElementKind") (13 : Int32) [(.ref (w 0)), (.ref (w 1)), (.ref (w 2)), (.ref (w 3)), (.ref (w 4)), (.ref (w 5)), (.ref (w 6)), (.ref (w 7)), (.ref (w 8)), (.ref (w 9)), .null] .null := V_b1_v41.pad (pad_rep [(.ref (w 0)), (.ref (w 1)), (.ref (w 2)), (.ref (w 3)), (.ref (w 4)), (.ref (w 5)), (.ref (w 6)), (.ref (w 7)), (.ref (w 8)), (.ref (w 9))] .null 1)
  obtain ⟨cl44, Ar44, q44, Sz44, Ng44, Hv44, Gv44⟩ := V_b1_v43
  have hin44 : ¬ ((10 : Int32) < 0 ∨ cl44.slots.size ≤ ((10 : Int32)).toNatClampNeg) := inb_of Sz44 ⟨by decide, by decide⟩
  obtain ⟨T45, h45, X45, e45, W45, st45⟩ := stR X42 hx hZ e42 Ar44 (j := (10 : Int32)) (v := (.ref (w 10))) hin44 rfl (Sto.ofV Ar44 q44 Ov1 (Ins.self (hE10.ext O41.2))) (g := (mkF m 75 #[.val (.int p0), .unset, .unset, .unset] [(.ref (w 10)), (.int (10 : Int32)), (.ref b1), (.ref b1)])) rfl rfl (hb hby at_75)
  have V_b1_v45 : Arv Z h45 b1 k1 (.object "com/example/netloom/netloom/net/ElementKind") (13 : Int32) [(.ref (w 0)), (.ref (w 1)), (.ref (w 2)), (.ref (w 3)), (.ref (w 4)), (.ref (w 5)), (.ref (w 6)), (.ref (w 7)), (.ref (w 8)), (.ref (w 9)), (.ref (w 10))] .null := Arv.set Ar44 q44 Sz44 Ng44 Hv44 Gv44 rfl W45 10 rfl (Nat.le_of_ble_eq_true rfl)
  have N45 := Fr.snoc X45 N41 gn_b1
  have O45 := O41.wr W45 gn_b1
  obtain ⟨T46, X46, e46, st46⟩ := getS2 X45 hx hZ hown (host := "") (Or.inl (W hw 26 rfl)) Via.refl e45 (hS11.ext O45.2) (g := (mkF m 79 #[.val (.int p0), .unset, .unset, .unset] [(.int (11 : Int32)), (.ref b1), (.ref b1)])) rfl (hb hby at_79)
  have V_b1_v47 : Arv Z h45 b1 k1 (.object "com/example/netloom/netloom/net/ElementKind") (13 : Int32) [(.ref (w 0)), (.ref (w 1)), (.ref (w 2)), (.ref (w 3)), (.ref (w 4)), (.ref (w 5)), (.ref (w 6)), (.ref (w 7)), (.ref (w 8)), (.ref (w 9)), (.ref (w 10)), .null] .null := V_b1_v45.pad (pad_rep [(.ref (w 0)), (.ref (w 1)), (.ref (w 2)), (.ref (w 3)), (.ref (w 4)), (.ref (w 5)), (.ref (w 6)), (.ref (w 7)), (.ref (w 8)), (.ref (w 9)), (.ref (w 10))] .null 1)
  obtain ⟨cl48, Ar48, q48, Sz48, Ng48, Hv48, Gv48⟩ := V_b1_v47
  have hin48 : ¬ ((11 : Int32) < 0 ∨ cl48.slots.size ≤ ((11 : Int32)).toNatClampNeg) := inb_of Sz48 ⟨by decide, by decide⟩
  obtain ⟨T49, h49, X49, e49, W49, st49⟩ := stR X46 hx hZ e46 Ar48 (j := (11 : Int32)) (v := (.ref (w 11))) hin48 rfl (Sto.ofV Ar48 q48 Ov1 (Ins.self (hE11.ext O45.2))) (g := (mkF m 82 #[.val (.int p0), .unset, .unset, .unset] [(.ref (w 11)), (.int (11 : Int32)), (.ref b1), (.ref b1)])) rfl rfl (hb hby at_82)
  have V_b1_v49 : Arv Z h49 b1 k1 (.object "com/example/netloom/netloom/net/ElementKind") (13 : Int32) [(.ref (w 0)), (.ref (w 1)), (.ref (w 2)), (.ref (w 3)), (.ref (w 4)), (.ref (w 5)), (.ref (w 6)), (.ref (w 7)), (.ref (w 8)), (.ref (w 9)), (.ref (w 10)), (.ref (w 11))] .null := Arv.set Ar48 q48 Sz48 Ng48 Hv48 Gv48 rfl W49 11 rfl (Nat.le_of_ble_eq_true rfl)
  have N49 := Fr.snoc X49 N45 gn_b1
  have O49 := O45.wr W49 gn_b1
  obtain ⟨T50, X50, e50, st50⟩ := getS2 X49 hx hZ hown (host := "") (Or.inl (W hw 28 rfl)) Via.refl e49 (hS12.ext O49.2) (g := (mkF m 86 #[.val (.int p0), .unset, .unset, .unset] [(.int (12 : Int32)), (.ref b1), (.ref b1)])) rfl (hb hby at_86)
  have V_b1_v51 : Arv Z h49 b1 k1 (.object "com/example/netloom/netloom/net/ElementKind") (13 : Int32) [(.ref (w 0)), (.ref (w 1)), (.ref (w 2)), (.ref (w 3)), (.ref (w 4)), (.ref (w 5)), (.ref (w 6)), (.ref (w 7)), (.ref (w 8)), (.ref (w 9)), (.ref (w 10)), (.ref (w 11)), .null] .null := V_b1_v49.pad (pad_rep [(.ref (w 0)), (.ref (w 1)), (.ref (w 2)), (.ref (w 3)), (.ref (w 4)), (.ref (w 5)), (.ref (w 6)), (.ref (w 7)), (.ref (w 8)), (.ref (w 9)), (.ref (w 10)), (.ref (w 11))] .null 1)
  obtain ⟨cl52, Ar52, q52, Sz52, Ng52, Hv52, Gv52⟩ := V_b1_v51
  have hin52 : ¬ ((12 : Int32) < 0 ∨ cl52.slots.size ≤ ((12 : Int32)).toNatClampNeg) := inb_of Sz52 ⟨by decide, by decide⟩
  obtain ⟨T53, h53, X53, e53, W53, st53⟩ := stR X50 hx hZ e50 Ar52 (j := (12 : Int32)) (v := (.ref (w 12))) hin52 rfl (Sto.ofV Ar52 q52 Ov1 (Ins.self (hE12.ext O49.2))) (g := (mkF m 89 #[.val (.int p0), .unset, .unset, .unset] [(.ref (w 12)), (.int (12 : Int32)), (.ref b1), (.ref b1)])) rfl rfl (hb hby at_89)
  have V_b1_v53 : Arv Z h53 b1 k1 (.object "com/example/netloom/netloom/net/ElementKind") (13 : Int32) [(.ref (w 0)), (.ref (w 1)), (.ref (w 2)), (.ref (w 3)), (.ref (w 4)), (.ref (w 5)), (.ref (w 6)), (.ref (w 7)), (.ref (w 8)), (.ref (w 9)), (.ref (w 10)), (.ref (w 11)), (.ref (w 12))] .null := Arv.set Ar52 q52 Sz52 Ng52 Hv52 Gv52 rfl W53 12 rfl (Nat.le_of_ble_eq_true rfl)
  have N53 := Fr.snoc X53 N49 gn_b1
  have O53 := O49.wr W53 gn_b1
  obtain ⟨cl54, Ar54, q54, Sz54, Ng54, Hv54, Gv54⟩ := V_b1_v53
  have hin54 : ¬ ((10 : Int32) < 0 ∨ cl54.slots.size ≤ ((10 : Int32)).toNatClampNeg) := inb_of Sz54 ⟨by decide, by decide⟩
  have hat54 : cl54.slots[((10 : Int32)).toNatClampNeg]? = some (.ref (w 10)) := Has.at Hv54 hin54 (by rfl)
  obtain ⟨cq55, kq55, q55a, q55b, q55c⟩ := isOf hZ e53 (hE10.ext O53.2)
  obtain ⟨_, _, ⟨T55, L55, k55, n55⟩, -, X55, ⟨Lc55, hQ55, l55, y55, z55⟩, st55⟩ := X53.virtualBack hx (y := (⟨"com/example/netloom/netloom/net/ElementKind", "isPlace", "()Z"⟩ : MethodName)) (z := (⟨"com/example/netloom/netloom/net/ElementKind", "isPlace", "()Z"⟩ : MethodName)) hown (mvT hZ (W hw 31 rfl)) (mvT hZ (W hw 32 rfl)) (notFace_of_selects (args := #[]) (mvT hZ (W hw 34 rfl))) (mvT hZ (W hw 34 rfl)) (mvT hZ (W hw 33 rfl)) (by decide) (backOf (W := 0) (rm_21 l Z a0 hw w kk hN [] h53 O53) hZ (W hw 35 rfl) (W hw 3 rfl) (by decide) (by decide)) q55a q55c (g := (mkF m 118 #[.val (.int p0), .val (.ref b1), .val (.int (10 : Int32)), .val (.int (0 : Int32))] [(.ref (w 10))])) rfl (by rw [hml]; rfl) (Steps.refl _) (argsL := []) (rest := []) (lenOf pd_0 rfl) rfl (by show 2 * 0 + _ ≤ _; exact Nat.le_of_eq rfl) (hb hby at_118) (fun _ _ => ⟨rfl, e53, (by decide : 1 + 0 ≤ _), (by decide : 13 + 0 ≤ _)⟩)
  dsimp only [Pt.U, Pt.locs, Pt.cells, Pt.slots] at X55 l55 y55 z55 st55 hQ55
  subst l55 y55 z55
  obtain ⟨rfl, N55q, e55⟩ := hQ55
  have N55 := Fr.app N53 N55q
  obtain ⟨fs, hr, hrun, hended, hW, hsame⟩ := X55.leave (v := some (.int (1 : Int32))) (fun h => by rw [Bd.returns] at h; cases h)
  refine ⟨_, _, pre0 _ ?_, hrun, hended, _, _, rfl, ?_, ⟨_, rfl⟩, hW, hsame.mono (by decide) (by decide)⟩
  · show Steps p.tables e below (s₁.setTop (mkF m 0 #[.val (.int p0), .unset, .unset, .unset] [])) _
    refine XS.bipush X0.here hx rfl (hb hby at_0) ?_
    show Steps p.tables e below (s₁.setTop (mkF m 2 #[.val (.int p0), .unset, .unset, .unset] [(.int (13 : Int32))])) _
    refine st1 _ ?_
    show Steps p.tables e below (T1.setTop (mkF m 5 #[.val (.int p0), .unset, .unset, .unset] [(.ref b1)])) _
    refine XS.dup X1.here hx rfl (hb hby at_5) rfl rfl ?_
    show Steps p.tables e below (T1.setTop (mkF m 6 #[.val (.int p0), .unset, .unset, .unset] [(.ref b1), (.ref b1)])) _
    refine XS.iconst X1.here hx rfl (hb hby at_6) ?_
    show Steps p.tables e below (T1.setTop (mkF m 7 #[.val (.int p0), .unset, .unset, .unset] [(.int (0 : Int32)), (.ref b1), (.ref b1)])) _
    refine st2 _ ?_
    show Steps p.tables e below (T2.setTop (mkF m 10 #[.val (.int p0), .unset, .unset, .unset] [(.ref (w 0)), (.int (0 : Int32)), (.ref b1), (.ref b1)])) _
    refine st5 _ ?_
    show Steps p.tables e below (T5.setTop (mkF m 11 #[.val (.int p0), .unset, .unset, .unset] [(.ref b1)])) _
    refine XS.dup X5.here hx rfl (hb hby at_11) rfl rfl ?_
    show Steps p.tables e below (T5.setTop (mkF m 12 #[.val (.int p0), .unset, .unset, .unset] [(.ref b1), (.ref b1)])) _
    refine XS.iconst X5.here hx rfl (hb hby at_12) ?_
    show Steps p.tables e below (T5.setTop (mkF m 13 #[.val (.int p0), .unset, .unset, .unset] [(.int (1 : Int32)), (.ref b1), (.ref b1)])) _
    refine st6 _ ?_
    show Steps p.tables e below (T6.setTop (mkF m 16 #[.val (.int p0), .unset, .unset, .unset] [(.ref (w 1)), (.int (1 : Int32)), (.ref b1), (.ref b1)])) _
    refine st9 _ ?_
    show Steps p.tables e below (T9.setTop (mkF m 17 #[.val (.int p0), .unset, .unset, .unset] [(.ref b1)])) _
    refine XS.dup X9.here hx rfl (hb hby at_17) rfl rfl ?_
    show Steps p.tables e below (T9.setTop (mkF m 18 #[.val (.int p0), .unset, .unset, .unset] [(.ref b1), (.ref b1)])) _
    refine XS.iconst X9.here hx rfl (hb hby at_18) ?_
    show Steps p.tables e below (T9.setTop (mkF m 19 #[.val (.int p0), .unset, .unset, .unset] [(.int (2 : Int32)), (.ref b1), (.ref b1)])) _
    refine st10 _ ?_
    show Steps p.tables e below (T10.setTop (mkF m 22 #[.val (.int p0), .unset, .unset, .unset] [(.ref (w 2)), (.int (2 : Int32)), (.ref b1), (.ref b1)])) _
    refine st13 _ ?_
    show Steps p.tables e below (T13.setTop (mkF m 23 #[.val (.int p0), .unset, .unset, .unset] [(.ref b1)])) _
    refine XS.dup X13.here hx rfl (hb hby at_23) rfl rfl ?_
    show Steps p.tables e below (T13.setTop (mkF m 24 #[.val (.int p0), .unset, .unset, .unset] [(.ref b1), (.ref b1)])) _
    refine XS.iconst X13.here hx rfl (hb hby at_24) ?_
    show Steps p.tables e below (T13.setTop (mkF m 25 #[.val (.int p0), .unset, .unset, .unset] [(.int (3 : Int32)), (.ref b1), (.ref b1)])) _
    refine st14 _ ?_
    show Steps p.tables e below (T14.setTop (mkF m 28 #[.val (.int p0), .unset, .unset, .unset] [(.ref (w 3)), (.int (3 : Int32)), (.ref b1), (.ref b1)])) _
    refine st17 _ ?_
    show Steps p.tables e below (T17.setTop (mkF m 29 #[.val (.int p0), .unset, .unset, .unset] [(.ref b1)])) _
    refine XS.dup X17.here hx rfl (hb hby at_29) rfl rfl ?_
    show Steps p.tables e below (T17.setTop (mkF m 30 #[.val (.int p0), .unset, .unset, .unset] [(.ref b1), (.ref b1)])) _
    refine XS.iconst X17.here hx rfl (hb hby at_30) ?_
    show Steps p.tables e below (T17.setTop (mkF m 31 #[.val (.int p0), .unset, .unset, .unset] [(.int (4 : Int32)), (.ref b1), (.ref b1)])) _
    refine st18 _ ?_
    show Steps p.tables e below (T18.setTop (mkF m 34 #[.val (.int p0), .unset, .unset, .unset] [(.ref (w 4)), (.int (4 : Int32)), (.ref b1), (.ref b1)])) _
    refine st21 _ ?_
    show Steps p.tables e below (T21.setTop (mkF m 35 #[.val (.int p0), .unset, .unset, .unset] [(.ref b1)])) _
    refine XS.dup X21.here hx rfl (hb hby at_35) rfl rfl ?_
    show Steps p.tables e below (T21.setTop (mkF m 36 #[.val (.int p0), .unset, .unset, .unset] [(.ref b1), (.ref b1)])) _
    refine XS.iconst X21.here hx rfl (hb hby at_36) ?_
    show Steps p.tables e below (T21.setTop (mkF m 37 #[.val (.int p0), .unset, .unset, .unset] [(.int (5 : Int32)), (.ref b1), (.ref b1)])) _
    refine st22 _ ?_
    show Steps p.tables e below (T22.setTop (mkF m 40 #[.val (.int p0), .unset, .unset, .unset] [(.ref (w 5)), (.int (5 : Int32)), (.ref b1), (.ref b1)])) _
    refine st25 _ ?_
    show Steps p.tables e below (T25.setTop (mkF m 41 #[.val (.int p0), .unset, .unset, .unset] [(.ref b1)])) _
    refine XS.dup X25.here hx rfl (hb hby at_41) rfl rfl ?_
    show Steps p.tables e below (T25.setTop (mkF m 42 #[.val (.int p0), .unset, .unset, .unset] [(.ref b1), (.ref b1)])) _
    refine XS.bipush X25.here hx rfl (hb hby at_42) ?_
    show Steps p.tables e below (T25.setTop (mkF m 44 #[.val (.int p0), .unset, .unset, .unset] [(.int (6 : Int32)), (.ref b1), (.ref b1)])) _
    refine st26 _ ?_
    show Steps p.tables e below (T26.setTop (mkF m 47 #[.val (.int p0), .unset, .unset, .unset] [(.ref (w 6)), (.int (6 : Int32)), (.ref b1), (.ref b1)])) _
    refine st29 _ ?_
    show Steps p.tables e below (T29.setTop (mkF m 48 #[.val (.int p0), .unset, .unset, .unset] [(.ref b1)])) _
    refine XS.dup X29.here hx rfl (hb hby at_48) rfl rfl ?_
    show Steps p.tables e below (T29.setTop (mkF m 49 #[.val (.int p0), .unset, .unset, .unset] [(.ref b1), (.ref b1)])) _
    refine XS.bipush X29.here hx rfl (hb hby at_49) ?_
    show Steps p.tables e below (T29.setTop (mkF m 51 #[.val (.int p0), .unset, .unset, .unset] [(.int (7 : Int32)), (.ref b1), (.ref b1)])) _
    refine st30 _ ?_
    show Steps p.tables e below (T30.setTop (mkF m 54 #[.val (.int p0), .unset, .unset, .unset] [(.ref (w 7)), (.int (7 : Int32)), (.ref b1), (.ref b1)])) _
    refine st33 _ ?_
    show Steps p.tables e below (T33.setTop (mkF m 55 #[.val (.int p0), .unset, .unset, .unset] [(.ref b1)])) _
    refine XS.dup X33.here hx rfl (hb hby at_55) rfl rfl ?_
    show Steps p.tables e below (T33.setTop (mkF m 56 #[.val (.int p0), .unset, .unset, .unset] [(.ref b1), (.ref b1)])) _
    refine XS.bipush X33.here hx rfl (hb hby at_56) ?_
    show Steps p.tables e below (T33.setTop (mkF m 58 #[.val (.int p0), .unset, .unset, .unset] [(.int (8 : Int32)), (.ref b1), (.ref b1)])) _
    refine st34 _ ?_
    show Steps p.tables e below (T34.setTop (mkF m 61 #[.val (.int p0), .unset, .unset, .unset] [(.ref (w 8)), (.int (8 : Int32)), (.ref b1), (.ref b1)])) _
    refine st37 _ ?_
    show Steps p.tables e below (T37.setTop (mkF m 62 #[.val (.int p0), .unset, .unset, .unset] [(.ref b1)])) _
    refine XS.dup X37.here hx rfl (hb hby at_62) rfl rfl ?_
    show Steps p.tables e below (T37.setTop (mkF m 63 #[.val (.int p0), .unset, .unset, .unset] [(.ref b1), (.ref b1)])) _
    refine XS.bipush X37.here hx rfl (hb hby at_63) ?_
    show Steps p.tables e below (T37.setTop (mkF m 65 #[.val (.int p0), .unset, .unset, .unset] [(.int (9 : Int32)), (.ref b1), (.ref b1)])) _
    refine st38 _ ?_
    show Steps p.tables e below (T38.setTop (mkF m 68 #[.val (.int p0), .unset, .unset, .unset] [(.ref (w 9)), (.int (9 : Int32)), (.ref b1), (.ref b1)])) _
    refine st41 _ ?_
    show Steps p.tables e below (T41.setTop (mkF m 69 #[.val (.int p0), .unset, .unset, .unset] [(.ref b1)])) _
    refine XS.dup X41.here hx rfl (hb hby at_69) rfl rfl ?_
    show Steps p.tables e below (T41.setTop (mkF m 70 #[.val (.int p0), .unset, .unset, .unset] [(.ref b1), (.ref b1)])) _
    refine XS.bipush X41.here hx rfl (hb hby at_70) ?_
    show Steps p.tables e below (T41.setTop (mkF m 72 #[.val (.int p0), .unset, .unset, .unset] [(.int (10 : Int32)), (.ref b1), (.ref b1)])) _
    refine st42 _ ?_
    show Steps p.tables e below (T42.setTop (mkF m 75 #[.val (.int p0), .unset, .unset, .unset] [(.ref (w 10)), (.int (10 : Int32)), (.ref b1), (.ref b1)])) _
    refine st45 _ ?_
    show Steps p.tables e below (T45.setTop (mkF m 76 #[.val (.int p0), .unset, .unset, .unset] [(.ref b1)])) _
    refine XS.dup X45.here hx rfl (hb hby at_76) rfl rfl ?_
    show Steps p.tables e below (T45.setTop (mkF m 77 #[.val (.int p0), .unset, .unset, .unset] [(.ref b1), (.ref b1)])) _
    refine XS.bipush X45.here hx rfl (hb hby at_77) ?_
    show Steps p.tables e below (T45.setTop (mkF m 79 #[.val (.int p0), .unset, .unset, .unset] [(.int (11 : Int32)), (.ref b1), (.ref b1)])) _
    refine st46 _ ?_
    show Steps p.tables e below (T46.setTop (mkF m 82 #[.val (.int p0), .unset, .unset, .unset] [(.ref (w 11)), (.int (11 : Int32)), (.ref b1), (.ref b1)])) _
    refine st49 _ ?_
    show Steps p.tables e below (T49.setTop (mkF m 83 #[.val (.int p0), .unset, .unset, .unset] [(.ref b1)])) _
    refine XS.dup X49.here hx rfl (hb hby at_83) rfl rfl ?_
    show Steps p.tables e below (T49.setTop (mkF m 84 #[.val (.int p0), .unset, .unset, .unset] [(.ref b1), (.ref b1)])) _
    refine XS.bipush X49.here hx rfl (hb hby at_84) ?_
    show Steps p.tables e below (T49.setTop (mkF m 86 #[.val (.int p0), .unset, .unset, .unset] [(.int (12 : Int32)), (.ref b1), (.ref b1)])) _
    refine st50 _ ?_
    show Steps p.tables e below (T50.setTop (mkF m 89 #[.val (.int p0), .unset, .unset, .unset] [(.ref (w 12)), (.int (12 : Int32)), (.ref b1), (.ref b1)])) _
    refine st53 _ ?_
    show Steps p.tables e below (T53.setTop (mkF m 90 #[.val (.int p0), .unset, .unset, .unset] [(.ref b1)])) _
    refine XS.astoreN X53.here hx rfl (hb hby at_90) rfl rfl (l' := #[.val (.int p0), .val (.ref b1), .unset, .unset]) rfl ?_
    show Steps p.tables e below (T53.setTop (mkF m 91 #[.val (.int p0), .val (.ref b1), .unset, .unset] [])) _
    refine XS.iloadN X53.here hx rfl (hb hby at_91) rfl ?_
    show Steps p.tables e below (T53.setTop (mkF m 92 #[.val (.int p0), .val (.ref b1), .unset, .unset] [(.int p0)])) _
    refine X53.ldcInt hx hown (mvT hZ (W hw 30 rfl)) (g := (mkF m 92 #[.val (.int p0), .val (.ref b1), .unset, .unset] [(.int p0)])) rfl (hb hby at_92) _ ?_
    show Steps p.tables e below (T53.setTop (mkF m 94 #[.val (.int p0), .val (.ref b1), .unset, .unset] [(.int (2147483647 : Int32)), (.int p0)])) _
    refine XS.iand X53.here hx rfl (hb hby at_94) rfl ?_
    show Steps p.tables e below (T53.setTop (mkF m 95 #[.val (.int p0), .val (.ref b1), .unset, .unset] [(.int (p0 &&& (2147483647 : Int32)))])) _
    refine XS.bipush X53.here hx rfl (hb hby at_95) ?_
    show Steps p.tables e below (T53.setTop (mkF m 97 #[.val (.int p0), .val (.ref b1), .unset, .unset] [(.int (13 : Int32)), (.int (p0 &&& (2147483647 : Int32)))])) _
    refine iremM X53 hx rfl (hb hby at_97) rfl (by decide : ¬ ((13 : Int32) = (0 : Int32))) ?_
    show Steps p.tables e below (T53.setTop (mkF m 98 #[.val (.int p0), .val (.ref b1), .unset, .unset] [(.int ((p0 &&& (2147483647 : Int32)) % (13 : Int32)))])) _
    rw [hp0]
    show Steps p.tables e below (T53.setTop (mkF m 98 #[.val (.int p0), .val (.ref b1), .unset, .unset] [(.int (10 : Int32))])) _
    refine XS.istoreN X53.here hx rfl (hb hby at_98) rfl (l' := #[.val (.int p0), .val (.ref b1), .val (.int (10 : Int32)), .unset]) rfl ?_
    show Steps p.tables e below (T53.setTop (mkF m 99 #[.val (.int p0), .val (.ref b1), .val (.int (10 : Int32)), .unset] [])) _
    refine XS.iloadN X53.here hx rfl (hb hby at_99) rfl ?_
    show Steps p.tables e below (T53.setTop (mkF m 100 #[.val (.int p0), .val (.ref b1), .val (.int (10 : Int32)), .unset] [(.int (10 : Int32))])) _
    refine XS.iconst X53.here hx rfl (hb hby at_100) ?_
    show Steps p.tables e below (T53.setTop (mkF m 101 #[.val (.int p0), .val (.ref b1), .val (.int (10 : Int32)), .unset] [(.int (2 : Int32)), (.int (10 : Int32))])) _
    refine XS.icmpNo X53.here hx rfl (hb hby at_101) rfl (feq (by decide : ¬ ((10 : Int32) = (2 : Int32)))).1 ?_
    show Steps p.tables e below (T53.setTop (mkF m 104 #[.val (.int p0), .val (.ref b1), .val (.int (10 : Int32)), .unset] [])) _
    refine XS.iloadN X53.here hx rfl (hb hby at_104) rfl ?_
    show Steps p.tables e below (T53.setTop (mkF m 105 #[.val (.int p0), .val (.ref b1), .val (.int (10 : Int32)), .unset] [(.int (10 : Int32))])) _
    refine XS.iconst X53.here hx rfl (hb hby at_105) ?_
    show Steps p.tables e below (T53.setTop (mkF m 106 #[.val (.int p0), .val (.ref b1), .val (.int (10 : Int32)), .unset] [(.int (4 : Int32)), (.int (10 : Int32))])) _
    refine XS.icmpYes X53.here hx rfl (pc0 := 106) (pc' := 113) rfl (hb hby at_106) rfl (feq (by decide : ¬ ((10 : Int32) = (4 : Int32)))).2 (by decide) (by decide) ?_
    show Steps p.tables e below (T53.setTop (mkF m 113 #[.val (.int p0), .val (.ref b1), .val (.int (10 : Int32)), .unset] [])) _
    refine XS.iconst X53.here hx rfl (hb hby at_113) ?_
    show Steps p.tables e below (T53.setTop (mkF m 114 #[.val (.int p0), .val (.ref b1), .val (.int (10 : Int32)), .unset] [(.int (0 : Int32))])) _
    refine XS.istoreN X53.here hx rfl (hb hby at_114) rfl (l' := #[.val (.int p0), .val (.ref b1), .val (.int (10 : Int32)), .val (.int (0 : Int32))]) rfl ?_
    show Steps p.tables e below (T53.setTop (mkF m 115 #[.val (.int p0), .val (.ref b1), .val (.int (10 : Int32)), .val (.int (0 : Int32))] [])) _
    refine XS.aloadN X53.here hx rfl (hb hby at_115) rfl rfl ?_
    show Steps p.tables e below (T53.setTop (mkF m 116 #[.val (.int p0), .val (.ref b1), .val (.int (10 : Int32)), .val (.int (0 : Int32))] [(.ref b1)])) _
    refine XS.iloadN X53.here hx rfl (hb hby at_116) rfl ?_
    show Steps p.tables e below (T53.setTop (mkF m 117 #[.val (.int p0), .val (.ref b1), .val (.int (10 : Int32)), .val (.int (0 : Int32))] [(.int (10 : Int32)), (.ref b1)])) _
    refine X53.aaload hx (j := (10 : Int32)) (v := (.ref (w 10))) (by rw [e53]; exact Ar54.1) (State.isArrayOf_alike hZ.alike Ar54.2.1) rfl Ar54.2.2 hin54 hat54 (g := (mkF m 117 #[.val (.int p0), .val (.ref b1), .val (.int (10 : Int32)), .val (.int (0 : Int32))] [(.int (10 : Int32)), (.ref b1)])) rfl rfl (hb hby at_117) _ ?_
    show Steps p.tables e below (T53.setTop (mkF m 118 #[.val (.int p0), .val (.ref b1), .val (.int (10 : Int32)), .val (.int (0 : Int32))] [(.ref (w 10))])) _
    refine st55.trans ?_
    show Steps p.tables e below (T55.setTop (mkF m 121 #[.val (.int p0), .val (.ref b1), .val (.int (10 : Int32)), .val (.int (0 : Int32))] [(.int (0 : Int32))])) _
    refine XS.iloadN X55.here hx rfl (hb hby at_121) rfl ?_
    show Steps p.tables e below (T55.setTop (mkF m 122 #[.val (.int p0), .val (.ref b1), .val (.int (10 : Int32)), .val (.int (0 : Int32))] [(.int (0 : Int32)), (.int (0 : Int32))])) _
    refine XS.icmpNo X55.here hx rfl (hb hby at_122) rfl (teq (by decide : (0 : Int32) = (0 : Int32))).2 ?_
    show Steps p.tables e below (T55.setTop (mkF m 125 #[.val (.int p0), .val (.ref b1), .val (.int (10 : Int32)), .val (.int (0 : Int32))] [])) _
    refine XS.iconst X55.here hx rfl (hb hby at_125) ?_
    show Steps p.tables e below (T55.setTop (mkF m 126 #[.val (.int p0), .val (.ref b1), .val (.int (10 : Int32)), .val (.int (0 : Int32))] [(.int (1 : Int32))])) _
    refine XS.goto X55.here hx rfl (pc0 := 126) (pc' := 130) rfl (hb hby at_126) (by decide) (by decide) ?_
    show Steps p.tables e below (T55.setTop (mkF m 130 #[.val (.int p0), .val (.ref b1), .val (.int (10 : Int32)), .val (.int (0 : Int32))] [(.int (1 : Int32))])) _
    exact retN X55 hx (t := .boolean) Bd.returns (by simp) (hb hby at_130) hr
  · show OL (some (.int (1 : Int32))) Z.heap.size _ T55.heap _
    exact ⟨rfl, N55⟩
set_option maxRecDepth 65536 in
set_option maxHeartbeats 40000000 in
theorem rm_23 (l : Launch) (Z : State) (a0 : Array Value) (hw : ∀ d ∈ tables_1, d.before a0 Z = true) (w : Nat → Addr) (kk : Nat → ClassId) (hN : Wd Z w kk) (ws : List Jvm.Cond)  (h0 : Heap) (O0 : Old Z Z.heap.size h0) :
    MetFree l (⟨"com/example/netloom/netloom/net/ElementKind", "isPlace", "()Z"⟩ : MethodName) (head1 (Jvm.Cond.code (⟨"com/example/netloom/netloom/net/ElementKind", "isPlace", "()Z"⟩ : MethodName) prog_22_method_5_code 1 (some .boolean) :: ws) ({ frames := 0, cells := 0, slots := 0, locals := 0 } : Room)) (fun a U => a = #[(.ref (w 11))] ∧ Z.Warmed39 U.vm ∧ U.heap = h0) (fun _ _ _ _ _ => True) (fun _ U o U' => ∃ v L, o = .returned v ∧ OQ (some (.int (0 : Int32))) h0 Z.heap.size v U'.heap L ∧ FrameEnd U o U' L ({ frames := 0, cells := 0, slots := 0, locals := 0 } : Room).cells ({ frames := 0, cells := 0, slots := 0, locals := 0 } : Room).slots) := by
  have hN' := hN
  obtain ⟨hS0, hE0, hS1, hE1, hS2, hE2, hS3, hE3, hS4, hE4, hS5, hE5, hS6, hE6, hS7, hE7, hS8, hE8, hS9, hE9, hS10, hE10, hS11, hE11, hS12, hE12, hF0_ordinal, hF2_ordinal, hF4_ordinal, hF3_ordinal, hF6_ordinal, hF5_ordinal, hF7_ordinal, hF9_ordinal, hF11_ordinal, hF1_ordinal, hF8_ordinal, hF10_ordinal, hF12_ordinal⟩ := hN'
  refine MetFree.of_bodySF (plainFor_of_name pn_0) hisR ?_
  intro p e s m args below meth c s₁ Bd hml0 hP hK
  obtain ⟨rfl, hZ, hh⟩ := hP
  have hx := Bd.exec
  have hby := Bd.bytes
  have hml : c.maxLocals = 1 := hml0
  have hown : s.vm.findClass "com/example/netloom/netloom/net/ElementKind" = some m.cls := findClass_of_methodNamed Bd.named
  have hnm := (name_of_methodNamed Bd.named Bd.method).1
  have X0 : Stand p l e ({ frames := 0, cells := 0, slots := 0, locals := 0 } : Room) s m #[(.ref (w 11))] below meth c s₁ [] 0 0 := Stand.of_body Bd
  have e0 : s₁.heap = h0 := by rw [← hh, Bd.state]; rfl
  have N0 := Fr.nil Z.heap.size
  have pre0 : ∀ t, Steps p.tables e below (s₁.setTop (mkF m 0 #[.val (.ref (w 11))] [])) t → Steps p.tables e below (s₁.setTop (entryFrame m #[(.ref (w 11))] 1)) t := fun t k => castTop (ef_0 m (.ref (w 11)) rfl) k
  obtain ⟨T1, X1, e1, st1⟩ := getS2 X0 hx hZ hown (host := "") (Or.inl (W hw 36 rfl)) Via.refl e0 (hS2.ext O0.2) (g := (mkF m 1 #[.val (.ref (w 11))] [(.ref (w 11))])) rfl (hb hby d_prog_22_method_5_code_1)
  obtain ⟨T2, X2, e2, st2⟩ := getS2 X1 hx hZ hown (host := "") (Or.inl (W hw 37 rfl)) Via.refl e1 (hS4.ext O0.2) (g := (mkF m 8 #[.val (.ref (w 11))] [(.ref (w 11))])) rfl (hb hby d_prog_22_method_5_code_8)
  obtain ⟨fs, hr, hrun, hended, hW, hsame⟩ := X2.leave (v := some (.int (0 : Int32))) (fun h => by rw [Bd.returns] at h; cases h)
  refine ⟨_, _, pre0 _ ?_, hrun, hended, _, _, rfl, ?_, ⟨_, rfl⟩, hW, hsame.mono (by decide) (by decide)⟩
  · show Steps p.tables e below (s₁.setTop (mkF m 0 #[.val (.ref (w 11))] [])) _
    refine XS.aloadN X0.here hx rfl (hb hby d_prog_22_method_5_code_0) rfl rfl ?_
    show Steps p.tables e below (s₁.setTop (mkF m 1 #[.val (.ref (w 11))] [(.ref (w 11))])) _
    refine st1 _ ?_
    show Steps p.tables e below (T1.setTop (mkF m 4 #[.val (.ref (w 11))] [(.ref (w 2)), (.ref (w 11))])) _
    refine Jvm.RoadKit.acmp (g := (mkF m 4 #[.val (.ref (w 11))] [(.ref (w 2)), (.ref (w 11))])) X1 hx rfl rfl rfl (pc0 := 4) (pc' := 7) (same := false) rfl (hb hby d_prog_22_method_5_code_4) rfl (decide_eq_false fun q => (Fld.ne hF11_ordinal hF2_ordinal (by decide)) (Value.ref.inj q)) (by decide) (by decide) ?_
    show Steps p.tables e below (T1.setTop (mkF m 7 #[.val (.ref (w 11))] [])) _
    refine XS.aloadN X1.here hx rfl (hb hby d_prog_22_method_5_code_7) rfl rfl ?_
    show Steps p.tables e below (T1.setTop (mkF m 8 #[.val (.ref (w 11))] [(.ref (w 11))])) _
    refine st2 _ ?_
    show Steps p.tables e below (T2.setTop (mkF m 11 #[.val (.ref (w 11))] [(.ref (w 4)), (.ref (w 11))])) _
    refine Jvm.RoadKit.acmp (g := (mkF m 11 #[.val (.ref (w 11))] [(.ref (w 4)), (.ref (w 11))])) X2 hx rfl rfl rfl (pc0 := 11) (pc' := 18) (same := false) rfl (hb hby d_prog_22_method_5_code_11) rfl (decide_eq_false fun q => (Fld.ne hF11_ordinal hF4_ordinal (by decide)) (Value.ref.inj q)) (by decide) (by decide) ?_
    show Steps p.tables e below (T2.setTop (mkF m 18 #[.val (.ref (w 11))] [])) _
    refine XS.iconst X2.here hx rfl (hb hby d_prog_22_method_5_code_18) ?_
    show Steps p.tables e below (T2.setTop (mkF m 19 #[.val (.ref (w 11))] [(.int (0 : Int32))])) _
    exact retN X2 hx (t := .boolean) Bd.returns (by simp) (hb hby d_prog_22_method_5_code_19) hr
  · show OQ (some (.int (0 : Int32))) h0 Z.heap.size _ T2.heap _
    rw [e2]
    exact ⟨rfl, N0, rfl⟩
set_option maxRecDepth 65536 in
set_option maxHeartbeats 40000000 in
theorem law_24 (l : Launch) (Z : State) (a0 : Array Value) (hw : ∀ d ∈ tables_1, d.before a0 Z = true) (w : Nat → Addr) (kk : Nat → ClassId) (hN : Wd Z w kk) (ws : List Jvm.Cond) (p0 : Int32) (h0 : Heap) (O0 : Old Z Z.heap.size h0) (hp0 : ((p0 &&& (2147483647 : Int32)) % (13 : Int32)) = (11 : Int32)) :
    MetFree l x (head1 (Jvm.Cond.code x code maxLocals ret :: ws) room_1) (fun a U => a = #[(.int p0)] ∧ Z.Warmed39 U.vm ∧ U.heap = h0) (fun _ _ _ _ _ => True) (fun _ U o U' => ∃ v L, o = .returned v ∧ OL (some (.int (1 : Int32))) Z.heap.size v U'.heap L ∧ FrameEnd U o U' L 16 128) := by
  have hN' := hN
  obtain ⟨hS0, hE0, hS1, hE1, hS2, hE2, hS3, hE3, hS4, hE4, hS5, hE5, hS6, hE6, hS7, hE7, hS8, hE8, hS9, hE9, hS10, hE10, hS11, hE11, hS12, hE12, hF0_ordinal, hF2_ordinal, hF4_ordinal, hF3_ordinal, hF6_ordinal, hF5_ordinal, hF7_ordinal, hF9_ordinal, hF11_ordinal, hF1_ordinal, hF8_ordinal, hF10_ordinal, hF12_ordinal⟩ := hN'
  refine MetFree.of_bodySF (plainFor_of_name pn_1) hisR ?_
  intro p e s m args below meth c s₁ Bd hml0 hP hK
  obtain ⟨rfl, hZ, hh⟩ := hP
  have hx := Bd.exec
  have hby := Bd.bytes
  have hml : c.maxLocals = 4 := hml0
  have hown : s.vm.findClass "com/example/netloom/netloom/net/ElementKindIsPlacePinLaw" = some m.cls := findClass_of_methodNamed Bd.named
  have hnm := (name_of_methodNamed Bd.named Bd.method).1
  have X0 : Stand p l e room_1 s m #[(.int p0)] below meth c s₁ [] 0 0 := Stand.of_body Bd
  have e0 : s₁.heap = h0 := by rw [← hh, Bd.state]; rfl
  have N0 := Fr.nil Z.heap.size
  have pre0 : ∀ t, Steps p.tables e below (s₁.setTop (mkF m 0 #[.val (.int p0), .unset, .unset, .unset] [])) t → Steps p.tables e below (s₁.setTop (entryFrame m #[(.int p0)] maxLocals)) t := fun t k => castTop (ef_1 m (.int p0) rfl) k
  obtain ⟨T1, h1, k1, X1, e1, E1, A1, Ov1, st1⟩ := newR X0 hx hZ hown (W hw 0 rfl) (W hw 1 rfl) e0 (g := (mkF m 2 #[.val (.int p0), .unset, .unset, .unset] [(.int (13 : Int32))])) rfl (hb hby at_2) rfl (by decide) (cap := 13) (by decide) (by decide) (by decide) (by decide)
  obtain ⟨b1, g1⟩ : ∃ z, z = h0.size := ⟨_, rfl⟩
  rw [← g1] at A1 st1
  have gn_b1 : Z.heap.size ≤ b1 := Nat.le_trans O0.2.1 (Nat.le_of_eq g1.symm)
  have O1 := O0.ext E1
  have V_b1_v1 : Arv Z h1 b1 k1 (.object "com/example/netloom/netloom/net/ElementKind") (13 : Int32) [] .null := Arv.new A1 (by decide)
  obtain ⟨T2, X2, e2, st2⟩ := getS2 X1 hx hZ hown (host := "") (Or.inl (W hw 2 rfl)) Via.refl e1 (hS0.ext O1.2) (g := (mkF m 7 #[.val (.int p0), .unset, .unset, .unset] [(.int (0 : Int32)), (.ref b1), (.ref b1)])) rfl (hb hby at_7)
  have V_b1_v3 : Arv Z h1 b1 k1 (.object "com/example/netloom/netloom/net/ElementKind") (13 : Int32) [.null] .null := V_b1_v1.pad (pad_rep [] .null 1)
  obtain ⟨cl4, Ar4, q4, Sz4, Ng4, Hv4, Gv4⟩ := V_b1_v3
  have hin4 : ¬ ((0 : Int32) < 0 ∨ cl4.slots.size ≤ ((0 : Int32)).toNatClampNeg) := inb_of Sz4 ⟨by decide, by decide⟩
  obtain ⟨T5, h5, X5, e5, W5, st5⟩ := stR X2 hx hZ e2 Ar4 (j := (0 : Int32)) (v := (.ref (w 0))) hin4 rfl (Sto.ofV Ar4 q4 Ov1 (Ins.self (hE0.ext O1.2))) (g := (mkF m 10 #[.val (.int p0), .unset, .unset, .unset] [(.ref (w 0)), (.int (0 : Int32)), (.ref b1), (.ref b1)])) rfl rfl (hb hby at_10)
  have V_b1_v5 : Arv Z h5 b1 k1 (.object "com/example/netloom/netloom/net/ElementKind") (13 : Int32) [(.ref (w 0))] .null := Arv.set Ar4 q4 Sz4 Ng4 Hv4 Gv4 rfl W5 0 rfl (Nat.le_of_ble_eq_true rfl)
  have N5 := Fr.snoc X5 N0 gn_b1
  have O5 := O1.wr W5 gn_b1
  obtain ⟨T6, X6, e6, st6⟩ := getS2 X5 hx hZ hown (host := "") (Or.inl (W hw 6 rfl)) Via.refl e5 (hS1.ext O5.2) (g := (mkF m 13 #[.val (.int p0), .unset, .unset, .unset] [(.int (1 : Int32)), (.ref b1), (.ref b1)])) rfl (hb hby at_13)
  have V_b1_v7 : Arv Z h5 b1 k1 (.object "com/example/netloom/netloom/net/ElementKind") (13 : Int32) [(.ref (w 0)), .null] .null := V_b1_v5.pad (pad_rep [(.ref (w 0))] .null 1)
  obtain ⟨cl8, Ar8, q8, Sz8, Ng8, Hv8, Gv8⟩ := V_b1_v7
  have hin8 : ¬ ((1 : Int32) < 0 ∨ cl8.slots.size ≤ ((1 : Int32)).toNatClampNeg) := inb_of Sz8 ⟨by decide, by decide⟩
  obtain ⟨T9, h9, X9, e9, W9, st9⟩ := stR X6 hx hZ e6 Ar8 (j := (1 : Int32)) (v := (.ref (w 1))) hin8 rfl (Sto.ofV Ar8 q8 Ov1 (Ins.self (hE1.ext O5.2))) (g := (mkF m 16 #[.val (.int p0), .unset, .unset, .unset] [(.ref (w 1)), (.int (1 : Int32)), (.ref b1), (.ref b1)])) rfl rfl (hb hby at_16)
  have V_b1_v9 : Arv Z h9 b1 k1 (.object "com/example/netloom/netloom/net/ElementKind") (13 : Int32) [(.ref (w 0)), (.ref (w 1))] .null := Arv.set Ar8 q8 Sz8 Ng8 Hv8 Gv8 rfl W9 1 rfl (Nat.le_of_ble_eq_true rfl)
  have N9 := Fr.snoc X9 N5 gn_b1
  have O9 := O5.wr W9 gn_b1
  obtain ⟨T10, X10, e10, st10⟩ := getS2 X9 hx hZ hown (host := "") (Or.inl (W hw 8 rfl)) Via.refl e9 (hS2.ext O9.2) (g := (mkF m 19 #[.val (.int p0), .unset, .unset, .unset] [(.int (2 : Int32)), (.ref b1), (.ref b1)])) rfl (hb hby at_19)
  have V_b1_v11 : Arv Z h9 b1 k1 (.object "com/example/netloom/netloom/net/ElementKind") (13 : Int32) [(.ref (w 0)), (.ref (w 1)), .null] .null := V_b1_v9.pad (pad_rep [(.ref (w 0)), (.ref (w 1))] .null 1)
  obtain ⟨cl12, Ar12, q12, Sz12, Ng12, Hv12, Gv12⟩ := V_b1_v11
  have hin12 : ¬ ((2 : Int32) < 0 ∨ cl12.slots.size ≤ ((2 : Int32)).toNatClampNeg) := inb_of Sz12 ⟨by decide, by decide⟩
  obtain ⟨T13, h13, X13, e13, W13, st13⟩ := stR X10 hx hZ e10 Ar12 (j := (2 : Int32)) (v := (.ref (w 2))) hin12 rfl (Sto.ofV Ar12 q12 Ov1 (Ins.self (hE2.ext O9.2))) (g := (mkF m 22 #[.val (.int p0), .unset, .unset, .unset] [(.ref (w 2)), (.int (2 : Int32)), (.ref b1), (.ref b1)])) rfl rfl (hb hby at_22)
  have V_b1_v13 : Arv Z h13 b1 k1 (.object "com/example/netloom/netloom/net/ElementKind") (13 : Int32) [(.ref (w 0)), (.ref (w 1)), (.ref (w 2))] .null := Arv.set Ar12 q12 Sz12 Ng12 Hv12 Gv12 rfl W13 2 rfl (Nat.le_of_ble_eq_true rfl)
  have N13 := Fr.snoc X13 N9 gn_b1
  have O13 := O9.wr W13 gn_b1
  obtain ⟨T14, X14, e14, st14⟩ := getS2 X13 hx hZ hown (host := "") (Or.inl (W hw 10 rfl)) Via.refl e13 (hS3.ext O13.2) (g := (mkF m 25 #[.val (.int p0), .unset, .unset, .unset] [(.int (3 : Int32)), (.ref b1), (.ref b1)])) rfl (hb hby at_25)
  have V_b1_v15 : Arv Z h13 b1 k1 (.object "com/example/netloom/netloom/net/ElementKind") (13 : Int32) [(.ref (w 0)), (.ref (w 1)), (.ref (w 2)), .null] .null := V_b1_v13.pad (pad_rep [(.ref (w 0)), (.ref (w 1)), (.ref (w 2))] .null 1)
  obtain ⟨cl16, Ar16, q16, Sz16, Ng16, Hv16, Gv16⟩ := V_b1_v15
  have hin16 : ¬ ((3 : Int32) < 0 ∨ cl16.slots.size ≤ ((3 : Int32)).toNatClampNeg) := inb_of Sz16 ⟨by decide, by decide⟩
  obtain ⟨T17, h17, X17, e17, W17, st17⟩ := stR X14 hx hZ e14 Ar16 (j := (3 : Int32)) (v := (.ref (w 3))) hin16 rfl (Sto.ofV Ar16 q16 Ov1 (Ins.self (hE3.ext O13.2))) (g := (mkF m 28 #[.val (.int p0), .unset, .unset, .unset] [(.ref (w 3)), (.int (3 : Int32)), (.ref b1), (.ref b1)])) rfl rfl (hb hby at_28)
  have V_b1_v17 : Arv Z h17 b1 k1 (.object "com/example/netloom/netloom/net/ElementKind") (13 : Int32) [(.ref (w 0)), (.ref (w 1)), (.ref (w 2)), (.ref (w 3))] .null := Arv.set Ar16 q16 Sz16 Ng16 Hv16 Gv16 rfl W17 3 rfl (Nat.le_of_ble_eq_true rfl)
  have N17 := Fr.snoc X17 N13 gn_b1
  have O17 := O13.wr W17 gn_b1
  obtain ⟨T18, X18, e18, st18⟩ := getS2 X17 hx hZ hown (host := "") (Or.inl (W hw 12 rfl)) Via.refl e17 (hS4.ext O17.2) (g := (mkF m 31 #[.val (.int p0), .unset, .unset, .unset] [(.int (4 : Int32)), (.ref b1), (.ref b1)])) rfl (hb hby at_31)
  have V_b1_v19 : Arv Z h17 b1 k1 (.object "com/example/netloom/netloom/net/ElementKind") (13 : Int32) [(.ref (w 0)), (.ref (w 1)), (.ref (w 2)), (.ref (w 3)), .null] .null := V_b1_v17.pad (pad_rep [(.ref (w 0)), (.ref (w 1)), (.ref (w 2)), (.ref (w 3))] .null 1)
  obtain ⟨cl20, Ar20, q20, Sz20, Ng20, Hv20, Gv20⟩ := V_b1_v19
  have hin20 : ¬ ((4 : Int32) < 0 ∨ cl20.slots.size ≤ ((4 : Int32)).toNatClampNeg) := inb_of Sz20 ⟨by decide, by decide⟩
  obtain ⟨T21, h21, X21, e21, W21, st21⟩ := stR X18 hx hZ e18 Ar20 (j := (4 : Int32)) (v := (.ref (w 4))) hin20 rfl (Sto.ofV Ar20 q20 Ov1 (Ins.self (hE4.ext O17.2))) (g := (mkF m 34 #[.val (.int p0), .unset, .unset, .unset] [(.ref (w 4)), (.int (4 : Int32)), (.ref b1), (.ref b1)])) rfl rfl (hb hby at_34)
  have V_b1_v21 : Arv Z h21 b1 k1 (.object "com/example/netloom/netloom/net/ElementKind") (13 : Int32) [(.ref (w 0)), (.ref (w 1)), (.ref (w 2)), (.ref (w 3)), (.ref (w 4))] .null := Arv.set Ar20 q20 Sz20 Ng20 Hv20 Gv20 rfl W21 4 rfl (Nat.le_of_ble_eq_true rfl)
  have N21 := Fr.snoc X21 N17 gn_b1
  have O21 := O17.wr W21 gn_b1
  obtain ⟨T22, X22, e22, st22⟩ := getS2 X21 hx hZ hown (host := "") (Or.inl (W hw 14 rfl)) Via.refl e21 (hS5.ext O21.2) (g := (mkF m 37 #[.val (.int p0), .unset, .unset, .unset] [(.int (5 : Int32)), (.ref b1), (.ref b1)])) rfl (hb hby at_37)
  have V_b1_v23 : Arv Z h21 b1 k1 (.object "com/example/netloom/netloom/net/ElementKind") (13 : Int32) [(.ref (w 0)), (.ref (w 1)), (.ref (w 2)), (.ref (w 3)), (.ref (w 4)), .null] .null := V_b1_v21.pad (pad_rep [(.ref (w 0)), (.ref (w 1)), (.ref (w 2)), (.ref (w 3)), (.ref (w 4))] .null 1)
  obtain ⟨cl24, Ar24, q24, Sz24, Ng24, Hv24, Gv24⟩ := V_b1_v23
  have hin24 : ¬ ((5 : Int32) < 0 ∨ cl24.slots.size ≤ ((5 : Int32)).toNatClampNeg) := inb_of Sz24 ⟨by decide, by decide⟩
  obtain ⟨T25, h25, X25, e25, W25, st25⟩ := stR X22 hx hZ e22 Ar24 (j := (5 : Int32)) (v := (.ref (w 5))) hin24 rfl (Sto.ofV Ar24 q24 Ov1 (Ins.self (hE5.ext O21.2))) (g := (mkF m 40 #[.val (.int p0), .unset, .unset, .unset] [(.ref (w 5)), (.int (5 : Int32)), (.ref b1), (.ref b1)])) rfl rfl (hb hby at_40)
  have V_b1_v25 : Arv Z h25 b1 k1 (.object "com/example/netloom/netloom/net/ElementKind") (13 : Int32) [(.ref (w 0)), (.ref (w 1)), (.ref (w 2)), (.ref (w 3)), (.ref (w 4)), (.ref (w 5))] .null := Arv.set Ar24 q24 Sz24 Ng24 Hv24 Gv24 rfl W25 5 rfl (Nat.le_of_ble_eq_true rfl)
  have N25 := Fr.snoc X25 N21 gn_b1
  have O25 := O21.wr W25 gn_b1
  obtain ⟨T26, X26, e26, st26⟩ := getS2 X25 hx hZ hown (host := "") (Or.inl (W hw 16 rfl)) Via.refl e25 (hS6.ext O25.2) (g := (mkF m 44 #[.val (.int p0), .unset, .unset, .unset] [(.int (6 : Int32)), (.ref b1), (.ref b1)])) rfl (hb hby at_44)
  have V_b1_v27 : Arv Z h25 b1 k1 (.object "com/example/netloom/netloom/net/ElementKind") (13 : Int32) [(.ref (w 0)), (.ref (w 1)), (.ref (w 2)), (.ref (w 3)), (.ref (w 4)), (.ref (w 5)), .null] .null := V_b1_v25.pad (pad_rep [(.ref (w 0)), (.ref (w 1)), (.ref (w 2)), (.ref (w 3)), (.ref (w 4)), (.ref (w 5))] .null 1)
  obtain ⟨cl28, Ar28, q28, Sz28, Ng28, Hv28, Gv28⟩ := V_b1_v27
  have hin28 : ¬ ((6 : Int32) < 0 ∨ cl28.slots.size ≤ ((6 : Int32)).toNatClampNeg) := inb_of Sz28 ⟨by decide, by decide⟩
  obtain ⟨T29, h29, X29, e29, W29, st29⟩ := stR X26 hx hZ e26 Ar28 (j := (6 : Int32)) (v := (.ref (w 6))) hin28 rfl (Sto.ofV Ar28 q28 Ov1 (Ins.self (hE6.ext O25.2))) (g := (mkF m 47 #[.val (.int p0), .unset, .unset, .unset] [(.ref (w 6)), (.int (6 : Int32)), (.ref b1), (.ref b1)])) rfl rfl (hb hby at_47)
  have V_b1_v29 : Arv Z h29 b1 k1 (.object "com/example/netloom/netloom/net/ElementKind") (13 : Int32) [(.ref (w 0)), (.ref (w 1)), (.ref (w 2)), (.ref (w 3)), (.ref (w 4)), (.ref (w 5)), (.ref (w 6))] .null := Arv.set Ar28 q28 Sz28 Ng28 Hv28 Gv28 rfl W29 6 rfl (Nat.le_of_ble_eq_true rfl)
  have N29 := Fr.snoc X29 N25 gn_b1
  have O29 := O25.wr W29 gn_b1
  obtain ⟨T30, X30, e30, st30⟩ := getS2 X29 hx hZ hown (host := "") (Or.inl (W hw 18 rfl)) Via.refl e29 (hS7.ext O29.2) (g := (mkF m 51 #[.val (.int p0), .unset, .unset, .unset] [(.int (7 : Int32)), (.ref b1), (.ref b1)])) rfl (hb hby at_51)
  have V_b1_v31 : Arv Z h29 b1 k1 (.object "com/example/netloom/netloom/net/ElementKind") (13 : Int32) [(.ref (w 0)), (.ref (w 1)), (.ref (w 2)), (.ref (w 3)), (.ref (w 4)), (.ref (w 5)), (.ref (w 6)), .null] .null := V_b1_v29.pad (pad_rep [(.ref (w 0)), (.ref (w 1)), (.ref (w 2)), (.ref (w 3)), (.ref (w 4)), (.ref (w 5)), (.ref (w 6))] .null 1)
  obtain ⟨cl32, Ar32, q32, Sz32, Ng32, Hv32, Gv32⟩ := V_b1_v31
  have hin32 : ¬ ((7 : Int32) < 0 ∨ cl32.slots.size ≤ ((7 : Int32)).toNatClampNeg) := inb_of Sz32 ⟨by decide, by decide⟩
  obtain ⟨T33, h33, X33, e33, W33, st33⟩ := stR X30 hx hZ e30 Ar32 (j := (7 : Int32)) (v := (.ref (w 7))) hin32 rfl (Sto.ofV Ar32 q32 Ov1 (Ins.self (hE7.ext O29.2))) (g := (mkF m 54 #[.val (.int p0), .unset, .unset, .unset] [(.ref (w 7)), (.int (7 : Int32)), (.ref b1), (.ref b1)])) rfl rfl (hb hby at_54)
  have V_b1_v33 : Arv Z h33 b1 k1 (.object "com/example/netloom/netloom/net/ElementKind") (13 : Int32) [(.ref (w 0)), (.ref (w 1)), (.ref (w 2)), (.ref (w 3)), (.ref (w 4)), (.ref (w 5)), (.ref (w 6)), (.ref (w 7))] .null := Arv.set Ar32 q32 Sz32 Ng32 Hv32 Gv32 rfl W33 7 rfl (Nat.le_of_ble_eq_true rfl)
  have N33 := Fr.snoc X33 N29 gn_b1
  have O33 := O29.wr W33 gn_b1
  obtain ⟨T34, X34, e34, st34⟩ := getS2 X33 hx hZ hown (host := "") (Or.inl (W hw 20 rfl)) Via.refl e33 (hS8.ext O33.2) (g := (mkF m 58 #[.val (.int p0), .unset, .unset, .unset] [(.int (8 : Int32)), (.ref b1), (.ref b1)])) rfl (hb hby at_58)
  have V_b1_v35 : Arv Z h33 b1 k1 (.object "com/example/netloom/netloom/net/ElementKind") (13 : Int32) [(.ref (w 0)), (.ref (w 1)), (.ref (w 2)), (.ref (w 3)), (.ref (w 4)), (.ref (w 5)), (.ref (w 6)), (.ref (w 7)), .null] .null := V_b1_v33.pad (pad_rep [(.ref (w 0)), (.ref (w 1)), (.ref (w 2)), (.ref (w 3)), (.ref (w 4)), (.ref (w 5)), (.ref (w 6)), (.ref (w 7))] .null 1)
  obtain ⟨cl36, Ar36, q36, Sz36, Ng36, Hv36, Gv36⟩ := V_b1_v35
  have hin36 : ¬ ((8 : Int32) < 0 ∨ cl36.slots.size ≤ ((8 : Int32)).toNatClampNeg) := inb_of Sz36 ⟨by decide, by decide⟩
  obtain ⟨T37, h37, X37, e37, W37, st37⟩ := stR X34 hx hZ e34 Ar36 (j := (8 : Int32)) (v := (.ref (w 8))) hin36 rfl (Sto.ofV Ar36 q36 Ov1 (Ins.self (hE8.ext O33.2))) (g := (mkF m 61 #[.val (.int p0), .unset, .unset, .unset] [(.ref (w 8)), (.int (8 : Int32)), (.ref b1), (.ref b1)])) rfl rfl (hb hby at_61)
  have V_b1_v37 : Arv Z h37 b1 k1 (.object "com/example/netloom/netloom/net/ElementKind") (13 : Int32) [(.ref (w 0)), (.ref (w 1)), (.ref (w 2)), (.ref (w 3)), (.ref (w 4)), (.ref (w 5)), (.ref (w 6)), (.ref (w 7)), (.ref (w 8))] .null := Arv.set Ar36 q36 Sz36 Ng36 Hv36 Gv36 rfl W37 8 rfl (Nat.le_of_ble_eq_true rfl)
  have N37 := Fr.snoc X37 N33 gn_b1
  have O37 := O33.wr W37 gn_b1
  obtain ⟨T38, X38, e38, st38⟩ := getS2 X37 hx hZ hown (host := "") (Or.inl (W hw 22 rfl)) Via.refl e37 (hS9.ext O37.2) (g := (mkF m 65 #[.val (.int p0), .unset, .unset, .unset] [(.int (9 : Int32)), (.ref b1), (.ref b1)])) rfl (hb hby at_65)
  have V_b1_v39 : Arv Z h37 b1 k1 (.object "com/example/netloom/netloom/net/ElementKind") (13 : Int32) [(.ref (w 0)), (.ref (w 1)), (.ref (w 2)), (.ref (w 3)), (.ref (w 4)), (.ref (w 5)), (.ref (w 6)), (.ref (w 7)), (.ref (w 8)), .null] .null := V_b1_v37.pad (pad_rep [(.ref (w 0)), (.ref (w 1)), (.ref (w 2)), (.ref (w 3)), (.ref (w 4)), (.ref (w 5)), (.ref (w 6)), (.ref (w 7)), (.ref (w 8))] .null 1)
  obtain ⟨cl40, Ar40, q40, Sz40, Ng40, Hv40, Gv40⟩ := V_b1_v39
  have hin40 : ¬ ((9 : Int32) < 0 ∨ cl40.slots.size ≤ ((9 : Int32)).toNatClampNeg) := inb_of Sz40 ⟨by decide, by decide⟩
  obtain ⟨T41, h41, X41, e41, W41, st41⟩ := stR X38 hx hZ e38 Ar40 (j := (9 : Int32)) (v := (.ref (w 9))) hin40 rfl (Sto.ofV Ar40 q40 Ov1 (Ins.self (hE9.ext O37.2))) (g := (mkF m 68 #[.val (.int p0), .unset, .unset, .unset] [(.ref (w 9)), (.int (9 : Int32)), (.ref b1), (.ref b1)])) rfl rfl (hb hby at_68)
  have V_b1_v41 : Arv Z h41 b1 k1 (.object "com/example/netloom/netloom/net/ElementKind") (13 : Int32) [(.ref (w 0)), (.ref (w 1)), (.ref (w 2)), (.ref (w 3)), (.ref (w 4)), (.ref (w 5)), (.ref (w 6)), (.ref (w 7)), (.ref (w 8)), (.ref (w 9))] .null := Arv.set Ar40 q40 Sz40 Ng40 Hv40 Gv40 rfl W41 9 rfl (Nat.le_of_ble_eq_true rfl)
  have N41 := Fr.snoc X41 N37 gn_b1
  have O41 := O37.wr W41 gn_b1
  obtain ⟨T42, X42, e42, st42⟩ := getS2 X41 hx hZ hown (host := "") (Or.inl (W hw 24 rfl)) Via.refl e41 (hS10.ext O41.2) (g := (mkF m 72 #[.val (.int p0), .unset, .unset, .unset] [(.int (10 : Int32)), (.ref b1), (.ref b1)])) rfl (hb hby at_72)
  have V_b1_v43 : Arv Z h41 b1 k1 (.object "com/example/netloom/netloom/net/ElementKind") (13 : Int32) [(.ref (w 0)), (.ref (w 1)), (.ref (w 2)), (.ref (w 3)), (.ref (w 4)), (.ref (w 5)), (.ref (w 6)), (.ref (w 7)), (.ref (w 8)), (.ref (w 9)), .null] .null := V_b1_v41.pad (pad_rep [(.ref (w 0)), (.ref (w 1)), (.ref (w 2)), (.ref (w 3)), (.ref (w 4)), (.ref (w 5)), (.ref (w 6)), (.ref (w 7)), (.ref (w 8)), (.ref (w 9))] .null 1)
  obtain ⟨cl44, Ar44, q44, Sz44, Ng44, Hv44, Gv44⟩ := V_b1_v43
  have hin44 : ¬ ((10 : Int32) < 0 ∨ cl44.slots.size ≤ ((10 : Int32)).toNatClampNeg) := inb_of Sz44 ⟨by decide, by decide⟩
  obtain ⟨T45, h45, X45, e45, W45, st45⟩ := stR X42 hx hZ e42 Ar44 (j := (10 : Int32)) (v := (.ref (w 10))) hin44 rfl (Sto.ofV Ar44 q44 Ov1 (Ins.self (hE10.ext O41.2))) (g := (mkF m 75 #[.val (.int p0), .unset, .unset, .unset] [(.ref (w 10)), (.int (10 : Int32)), (.ref b1), (.ref b1)])) rfl rfl (hb hby at_75)
  have V_b1_v45 : Arv Z h45 b1 k1 (.object "com/example/netloom/netloom/net/ElementKind") (13 : Int32) [(.ref (w 0)), (.ref (w 1)), (.ref (w 2)), (.ref (w 3)), (.ref (w 4)), (.ref (w 5)), (.ref (w 6)), (.ref (w 7)), (.ref (w 8)), (.ref (w 9)), (.ref (w 10))] .null := Arv.set Ar44 q44 Sz44 Ng44 Hv44 Gv44 rfl W45 10 rfl (Nat.le_of_ble_eq_true rfl)
  have N45 := Fr.snoc X45 N41 gn_b1
  have O45 := O41.wr W45 gn_b1
  obtain ⟨T46, X46, e46, st46⟩ := getS2 X45 hx hZ hown (host := "") (Or.inl (W hw 26 rfl)) Via.refl e45 (hS11.ext O45.2) (g := (mkF m 79 #[.val (.int p0), .unset, .unset, .unset] [(.int (11 : Int32)), (.ref b1), (.ref b1)])) rfl (hb hby at_79)
  have V_b1_v47 : Arv Z h45 b1 k1 (.object "com/example/netloom/netloom/net/ElementKind") (13 : Int32) [(.ref (w 0)), (.ref (w 1)), (.ref (w 2)), (.ref (w 3)), (.ref (w 4)), (.ref (w 5)), (.ref (w 6)), (.ref (w 7)), (.ref (w 8)), (.ref (w 9)), (.ref (w 10)), .null] .null := V_b1_v45.pad (pad_rep [(.ref (w 0)), (.ref (w 1)), (.ref (w 2)), (.ref (w 3)), (.ref (w 4)), (.ref (w 5)), (.ref (w 6)), (.ref (w 7)), (.ref (w 8)), (.ref (w 9)), (.ref (w 10))] .null 1)
  obtain ⟨cl48, Ar48, q48, Sz48, Ng48, Hv48, Gv48⟩ := V_b1_v47
  have hin48 : ¬ ((11 : Int32) < 0 ∨ cl48.slots.size ≤ ((11 : Int32)).toNatClampNeg) := inb_of Sz48 ⟨by decide, by decide⟩
  obtain ⟨T49, h49, X49, e49, W49, st49⟩ := stR X46 hx hZ e46 Ar48 (j := (11 : Int32)) (v := (.ref (w 11))) hin48 rfl (Sto.ofV Ar48 q48 Ov1 (Ins.self (hE11.ext O45.2))) (g := (mkF m 82 #[.val (.int p0), .unset, .unset, .unset] [(.ref (w 11)), (.int (11 : Int32)), (.ref b1), (.ref b1)])) rfl rfl (hb hby at_82)
  have V_b1_v49 : Arv Z h49 b1 k1 (.object "com/example/netloom/netloom/net/ElementKind") (13 : Int32) [(.ref (w 0)), (.ref (w 1)), (.ref (w 2)), (.ref (w 3)), (.ref (w 4)), (.ref (w 5)), (.ref (w 6)), (.ref (w 7)), (.ref (w 8)), (.ref (w 9)), (.ref (w 10)), (.ref (w 11))] .null := Arv.set Ar48 q48 Sz48 Ng48 Hv48 Gv48 rfl W49 11 rfl (Nat.le_of_ble_eq_true rfl)
  have N49 := Fr.snoc X49 N45 gn_b1
  have O49 := O45.wr W49 gn_b1
  obtain ⟨T50, X50, e50, st50⟩ := getS2 X49 hx hZ hown (host := "") (Or.inl (W hw 28 rfl)) Via.refl e49 (hS12.ext O49.2) (g := (mkF m 86 #[.val (.int p0), .unset, .unset, .unset] [(.int (12 : Int32)), (.ref b1), (.ref b1)])) rfl (hb hby at_86)
  have V_b1_v51 : Arv Z h49 b1 k1 (.object "com/example/netloom/netloom/net/ElementKind") (13 : Int32) [(.ref (w 0)), (.ref (w 1)), (.ref (w 2)), (.ref (w 3)), (.ref (w 4)), (.ref (w 5)), (.ref (w 6)), (.ref (w 7)), (.ref (w 8)), (.ref (w 9)), (.ref (w 10)), (.ref (w 11)), .null] .null := V_b1_v49.pad (pad_rep [(.ref (w 0)), (.ref (w 1)), (.ref (w 2)), (.ref (w 3)), (.ref (w 4)), (.ref (w 5)), (.ref (w 6)), (.ref (w 7)), (.ref (w 8)), (.ref (w 9)), (.ref (w 10)), (.ref (w 11))] .null 1)
  obtain ⟨cl52, Ar52, q52, Sz52, Ng52, Hv52, Gv52⟩ := V_b1_v51
  have hin52 : ¬ ((12 : Int32) < 0 ∨ cl52.slots.size ≤ ((12 : Int32)).toNatClampNeg) := inb_of Sz52 ⟨by decide, by decide⟩
  obtain ⟨T53, h53, X53, e53, W53, st53⟩ := stR X50 hx hZ e50 Ar52 (j := (12 : Int32)) (v := (.ref (w 12))) hin52 rfl (Sto.ofV Ar52 q52 Ov1 (Ins.self (hE12.ext O49.2))) (g := (mkF m 89 #[.val (.int p0), .unset, .unset, .unset] [(.ref (w 12)), (.int (12 : Int32)), (.ref b1), (.ref b1)])) rfl rfl (hb hby at_89)
  have V_b1_v53 : Arv Z h53 b1 k1 (.object "com/example/netloom/netloom/net/ElementKind") (13 : Int32) [(.ref (w 0)), (.ref (w 1)), (.ref (w 2)), (.ref (w 3)), (.ref (w 4)), (.ref (w 5)), (.ref (w 6)), (.ref (w 7)), (.ref (w 8)), (.ref (w 9)), (.ref (w 10)), (.ref (w 11)), (.ref (w 12))] .null := Arv.set Ar52 q52 Sz52 Ng52 Hv52 Gv52 rfl W53 12 rfl (Nat.le_of_ble_eq_true rfl)
  have N53 := Fr.snoc X53 N49 gn_b1
  have O53 := O49.wr W53 gn_b1
  obtain ⟨cl54, Ar54, q54, Sz54, Ng54, Hv54, Gv54⟩ := V_b1_v53
  have hin54 : ¬ ((11 : Int32) < 0 ∨ cl54.slots.size ≤ ((11 : Int32)).toNatClampNeg) := inb_of Sz54 ⟨by decide, by decide⟩
  have hat54 : cl54.slots[((11 : Int32)).toNatClampNeg]? = some (.ref (w 11)) := Has.at Hv54 hin54 (by rfl)
  obtain ⟨cq55, kq55, q55a, q55b, q55c⟩ := isOf hZ e53 (hE11.ext O53.2)
  obtain ⟨_, _, ⟨T55, L55, k55, n55⟩, -, X55, ⟨Lc55, hQ55, l55, y55, z55⟩, st55⟩ := X53.virtualBack hx (y := (⟨"com/example/netloom/netloom/net/ElementKind", "isPlace", "()Z"⟩ : MethodName)) (z := (⟨"com/example/netloom/netloom/net/ElementKind", "isPlace", "()Z"⟩ : MethodName)) hown (mvT hZ (W hw 31 rfl)) (mvT hZ (W hw 32 rfl)) (notFace_of_selects (args := #[]) (mvT hZ (W hw 34 rfl))) (mvT hZ (W hw 34 rfl)) (mvT hZ (W hw 33 rfl)) (by decide) (backOf (W := 0) (rm_23 l Z a0 hw w kk hN [] h53 O53) hZ (W hw 35 rfl) (W hw 3 rfl) (by decide) (by decide)) q55a q55c (g := (mkF m 118 #[.val (.int p0), .val (.ref b1), .val (.int (11 : Int32)), .val (.int (0 : Int32))] [(.ref (w 11))])) rfl (by rw [hml]; rfl) (Steps.refl _) (argsL := []) (rest := []) (lenOf pd_0 rfl) rfl (by show 2 * 0 + _ ≤ _; exact Nat.le_of_eq rfl) (hb hby at_118) (fun _ _ => ⟨rfl, e53, (by decide : 1 + 0 ≤ _), (by decide : 13 + 0 ≤ _)⟩)
  dsimp only [Pt.U, Pt.locs, Pt.cells, Pt.slots] at X55 l55 y55 z55 st55 hQ55
  subst l55 y55 z55
  obtain ⟨rfl, N55q, e55⟩ := hQ55
  have N55 := Fr.app N53 N55q
  obtain ⟨fs, hr, hrun, hended, hW, hsame⟩ := X55.leave (v := some (.int (1 : Int32))) (fun h => by rw [Bd.returns] at h; cases h)
  refine ⟨_, _, pre0 _ ?_, hrun, hended, _, _, rfl, ?_, ⟨_, rfl⟩, hW, hsame.mono (by decide) (by decide)⟩
  · show Steps p.tables e below (s₁.setTop (mkF m 0 #[.val (.int p0), .unset, .unset, .unset] [])) _
    refine XS.bipush X0.here hx rfl (hb hby at_0) ?_
    show Steps p.tables e below (s₁.setTop (mkF m 2 #[.val (.int p0), .unset, .unset, .unset] [(.int (13 : Int32))])) _
    refine st1 _ ?_
    show Steps p.tables e below (T1.setTop (mkF m 5 #[.val (.int p0), .unset, .unset, .unset] [(.ref b1)])) _
    refine XS.dup X1.here hx rfl (hb hby at_5) rfl rfl ?_
    show Steps p.tables e below (T1.setTop (mkF m 6 #[.val (.int p0), .unset, .unset, .unset] [(.ref b1), (.ref b1)])) _
    refine XS.iconst X1.here hx rfl (hb hby at_6) ?_
    show Steps p.tables e below (T1.setTop (mkF m 7 #[.val (.int p0), .unset, .unset, .unset] [(.int (0 : Int32)), (.ref b1), (.ref b1)])) _
    refine st2 _ ?_
    show Steps p.tables e below (T2.setTop (mkF m 10 #[.val (.int p0), .unset, .unset, .unset] [(.ref (w 0)), (.int (0 : Int32)), (.ref b1), (.ref b1)])) _
    refine st5 _ ?_
    show Steps p.tables e below (T5.setTop (mkF m 11 #[.val (.int p0), .unset, .unset, .unset] [(.ref b1)])) _
    refine XS.dup X5.here hx rfl (hb hby at_11) rfl rfl ?_
    show Steps p.tables e below (T5.setTop (mkF m 12 #[.val (.int p0), .unset, .unset, .unset] [(.ref b1), (.ref b1)])) _
    refine XS.iconst X5.here hx rfl (hb hby at_12) ?_
    show Steps p.tables e below (T5.setTop (mkF m 13 #[.val (.int p0), .unset, .unset, .unset] [(.int (1 : Int32)), (.ref b1), (.ref b1)])) _
    refine st6 _ ?_
    show Steps p.tables e below (T6.setTop (mkF m 16 #[.val (.int p0), .unset, .unset, .unset] [(.ref (w 1)), (.int (1 : Int32)), (.ref b1), (.ref b1)])) _
    refine st9 _ ?_
    show Steps p.tables e below (T9.setTop (mkF m 17 #[.val (.int p0), .unset, .unset, .unset] [(.ref b1)])) _
    refine XS.dup X9.here hx rfl (hb hby at_17) rfl rfl ?_
    show Steps p.tables e below (T9.setTop (mkF m 18 #[.val (.int p0), .unset, .unset, .unset] [(.ref b1), (.ref b1)])) _
    refine XS.iconst X9.here hx rfl (hb hby at_18) ?_
    show Steps p.tables e below (T9.setTop (mkF m 19 #[.val (.int p0), .unset, .unset, .unset] [(.int (2 : Int32)), (.ref b1), (.ref b1)])) _
    refine st10 _ ?_
    show Steps p.tables e below (T10.setTop (mkF m 22 #[.val (.int p0), .unset, .unset, .unset] [(.ref (w 2)), (.int (2 : Int32)), (.ref b1), (.ref b1)])) _
    refine st13 _ ?_
    show Steps p.tables e below (T13.setTop (mkF m 23 #[.val (.int p0), .unset, .unset, .unset] [(.ref b1)])) _
    refine XS.dup X13.here hx rfl (hb hby at_23) rfl rfl ?_
    show Steps p.tables e below (T13.setTop (mkF m 24 #[.val (.int p0), .unset, .unset, .unset] [(.ref b1), (.ref b1)])) _
    refine XS.iconst X13.here hx rfl (hb hby at_24) ?_
    show Steps p.tables e below (T13.setTop (mkF m 25 #[.val (.int p0), .unset, .unset, .unset] [(.int (3 : Int32)), (.ref b1), (.ref b1)])) _
    refine st14 _ ?_
    show Steps p.tables e below (T14.setTop (mkF m 28 #[.val (.int p0), .unset, .unset, .unset] [(.ref (w 3)), (.int (3 : Int32)), (.ref b1), (.ref b1)])) _
    refine st17 _ ?_
    show Steps p.tables e below (T17.setTop (mkF m 29 #[.val (.int p0), .unset, .unset, .unset] [(.ref b1)])) _
    refine XS.dup X17.here hx rfl (hb hby at_29) rfl rfl ?_
    show Steps p.tables e below (T17.setTop (mkF m 30 #[.val (.int p0), .unset, .unset, .unset] [(.ref b1), (.ref b1)])) _
    refine XS.iconst X17.here hx rfl (hb hby at_30) ?_
    show Steps p.tables e below (T17.setTop (mkF m 31 #[.val (.int p0), .unset, .unset, .unset] [(.int (4 : Int32)), (.ref b1), (.ref b1)])) _
    refine st18 _ ?_
    show Steps p.tables e below (T18.setTop (mkF m 34 #[.val (.int p0), .unset, .unset, .unset] [(.ref (w 4)), (.int (4 : Int32)), (.ref b1), (.ref b1)])) _
    refine st21 _ ?_
    show Steps p.tables e below (T21.setTop (mkF m 35 #[.val (.int p0), .unset, .unset, .unset] [(.ref b1)])) _
    refine XS.dup X21.here hx rfl (hb hby at_35) rfl rfl ?_
    show Steps p.tables e below (T21.setTop (mkF m 36 #[.val (.int p0), .unset, .unset, .unset] [(.ref b1), (.ref b1)])) _
    refine XS.iconst X21.here hx rfl (hb hby at_36) ?_
    show Steps p.tables e below (T21.setTop (mkF m 37 #[.val (.int p0), .unset, .unset, .unset] [(.int (5 : Int32)), (.ref b1), (.ref b1)])) _
    refine st22 _ ?_
    show Steps p.tables e below (T22.setTop (mkF m 40 #[.val (.int p0), .unset, .unset, .unset] [(.ref (w 5)), (.int (5 : Int32)), (.ref b1), (.ref b1)])) _
    refine st25 _ ?_
    show Steps p.tables e below (T25.setTop (mkF m 41 #[.val (.int p0), .unset, .unset, .unset] [(.ref b1)])) _
    refine XS.dup X25.here hx rfl (hb hby at_41) rfl rfl ?_
    show Steps p.tables e below (T25.setTop (mkF m 42 #[.val (.int p0), .unset, .unset, .unset] [(.ref b1), (.ref b1)])) _
    refine XS.bipush X25.here hx rfl (hb hby at_42) ?_
    show Steps p.tables e below (T25.setTop (mkF m 44 #[.val (.int p0), .unset, .unset, .unset] [(.int (6 : Int32)), (.ref b1), (.ref b1)])) _
    refine st26 _ ?_
    show Steps p.tables e below (T26.setTop (mkF m 47 #[.val (.int p0), .unset, .unset, .unset] [(.ref (w 6)), (.int (6 : Int32)), (.ref b1), (.ref b1)])) _
    refine st29 _ ?_
    show Steps p.tables e below (T29.setTop (mkF m 48 #[.val (.int p0), .unset, .unset, .unset] [(.ref b1)])) _
    refine XS.dup X29.here hx rfl (hb hby at_48) rfl rfl ?_
    show Steps p.tables e below (T29.setTop (mkF m 49 #[.val (.int p0), .unset, .unset, .unset] [(.ref b1), (.ref b1)])) _
    refine XS.bipush X29.here hx rfl (hb hby at_49) ?_
    show Steps p.tables e below (T29.setTop (mkF m 51 #[.val (.int p0), .unset, .unset, .unset] [(.int (7 : Int32)), (.ref b1), (.ref b1)])) _
    refine st30 _ ?_
    show Steps p.tables e below (T30.setTop (mkF m 54 #[.val (.int p0), .unset, .unset, .unset] [(.ref (w 7)), (.int (7 : Int32)), (.ref b1), (.ref b1)])) _
    refine st33 _ ?_
    show Steps p.tables e below (T33.setTop (mkF m 55 #[.val (.int p0), .unset, .unset, .unset] [(.ref b1)])) _
    refine XS.dup X33.here hx rfl (hb hby at_55) rfl rfl ?_
    show Steps p.tables e below (T33.setTop (mkF m 56 #[.val (.int p0), .unset, .unset, .unset] [(.ref b1), (.ref b1)])) _
    refine XS.bipush X33.here hx rfl (hb hby at_56) ?_
    show Steps p.tables e below (T33.setTop (mkF m 58 #[.val (.int p0), .unset, .unset, .unset] [(.int (8 : Int32)), (.ref b1), (.ref b1)])) _
    refine st34 _ ?_
    show Steps p.tables e below (T34.setTop (mkF m 61 #[.val (.int p0), .unset, .unset, .unset] [(.ref (w 8)), (.int (8 : Int32)), (.ref b1), (.ref b1)])) _
    refine st37 _ ?_
    show Steps p.tables e below (T37.setTop (mkF m 62 #[.val (.int p0), .unset, .unset, .unset] [(.ref b1)])) _
    refine XS.dup X37.here hx rfl (hb hby at_62) rfl rfl ?_
    show Steps p.tables e below (T37.setTop (mkF m 63 #[.val (.int p0), .unset, .unset, .unset] [(.ref b1), (.ref b1)])) _
    refine XS.bipush X37.here hx rfl (hb hby at_63) ?_
    show Steps p.tables e below (T37.setTop (mkF m 65 #[.val (.int p0), .unset, .unset, .unset] [(.int (9 : Int32)), (.ref b1), (.ref b1)])) _
    refine st38 _ ?_
    show Steps p.tables e below (T38.setTop (mkF m 68 #[.val (.int p0), .unset, .unset, .unset] [(.ref (w 9)), (.int (9 : Int32)), (.ref b1), (.ref b1)])) _
    refine st41 _ ?_
    show Steps p.tables e below (T41.setTop (mkF m 69 #[.val (.int p0), .unset, .unset, .unset] [(.ref b1)])) _
    refine XS.dup X41.here hx rfl (hb hby at_69) rfl rfl ?_
    show Steps p.tables e below (T41.setTop (mkF m 70 #[.val (.int p0), .unset, .unset, .unset] [(.ref b1), (.ref b1)])) _
    refine XS.bipush X41.here hx rfl (hb hby at_70) ?_
    show Steps p.tables e below (T41.setTop (mkF m 72 #[.val (.int p0), .unset, .unset, .unset] [(.int (10 : Int32)), (.ref b1), (.ref b1)])) _
    refine st42 _ ?_
    show Steps p.tables e below (T42.setTop (mkF m 75 #[.val (.int p0), .unset, .unset, .unset] [(.ref (w 10)), (.int (10 : Int32)), (.ref b1), (.ref b1)])) _
    refine st45 _ ?_
    show Steps p.tables e below (T45.setTop (mkF m 76 #[.val (.int p0), .unset, .unset, .unset] [(.ref b1)])) _
    refine XS.dup X45.here hx rfl (hb hby at_76) rfl rfl ?_
    show Steps p.tables e below (T45.setTop (mkF m 77 #[.val (.int p0), .unset, .unset, .unset] [(.ref b1), (.ref b1)])) _
    refine XS.bipush X45.here hx rfl (hb hby at_77) ?_
    show Steps p.tables e below (T45.setTop (mkF m 79 #[.val (.int p0), .unset, .unset, .unset] [(.int (11 : Int32)), (.ref b1), (.ref b1)])) _
    refine st46 _ ?_
    show Steps p.tables e below (T46.setTop (mkF m 82 #[.val (.int p0), .unset, .unset, .unset] [(.ref (w 11)), (.int (11 : Int32)), (.ref b1), (.ref b1)])) _
    refine st49 _ ?_
    show Steps p.tables e below (T49.setTop (mkF m 83 #[.val (.int p0), .unset, .unset, .unset] [(.ref b1)])) _
    refine XS.dup X49.here hx rfl (hb hby at_83) rfl rfl ?_
    show Steps p.tables e below (T49.setTop (mkF m 84 #[.val (.int p0), .unset, .unset, .unset] [(.ref b1), (.ref b1)])) _
    refine XS.bipush X49.here hx rfl (hb hby at_84) ?_
    show Steps p.tables e below (T49.setTop (mkF m 86 #[.val (.int p0), .unset, .unset, .unset] [(.int (12 : Int32)), (.ref b1), (.ref b1)])) _
    refine st50 _ ?_
    show Steps p.tables e below (T50.setTop (mkF m 89 #[.val (.int p0), .unset, .unset, .unset] [(.ref (w 12)), (.int (12 : Int32)), (.ref b1), (.ref b1)])) _
    refine st53 _ ?_
    show Steps p.tables e below (T53.setTop (mkF m 90 #[.val (.int p0), .unset, .unset, .unset] [(.ref b1)])) _
    refine XS.astoreN X53.here hx rfl (hb hby at_90) rfl rfl (l' := #[.val (.int p0), .val (.ref b1), .unset, .unset]) rfl ?_
    show Steps p.tables e below (T53.setTop (mkF m 91 #[.val (.int p0), .val (.ref b1), .unset, .unset] [])) _
    refine XS.iloadN X53.here hx rfl (hb hby at_91) rfl ?_
    show Steps p.tables e below (T53.setTop (mkF m 92 #[.val (.int p0), .val (.ref b1), .unset, .unset] [(.int p0)])) _
    refine X53.ldcInt hx hown (mvT hZ (W hw 30 rfl)) (g := (mkF m 92 #[.val (.int p0), .val (.ref b1), .unset, .unset] [(.int p0)])) rfl (hb hby at_92) _ ?_
    show Steps p.tables e below (T53.setTop (mkF m 94 #[.val (.int p0), .val (.ref b1), .unset, .unset] [(.int (2147483647 : Int32)), (.int p0)])) _
    refine XS.iand X53.here hx rfl (hb hby at_94) rfl ?_
    show Steps p.tables e below (T53.setTop (mkF m 95 #[.val (.int p0), .val (.ref b1), .unset, .unset] [(.int (p0 &&& (2147483647 : Int32)))])) _
    refine XS.bipush X53.here hx rfl (hb hby at_95) ?_
    show Steps p.tables e below (T53.setTop (mkF m 97 #[.val (.int p0), .val (.ref b1), .unset, .unset] [(.int (13 : Int32)), (.int (p0 &&& (2147483647 : Int32)))])) _
    refine iremM X53 hx rfl (hb hby at_97) rfl (by decide : ¬ ((13 : Int32) = (0 : Int32))) ?_
    show Steps p.tables e below (T53.setTop (mkF m 98 #[.val (.int p0), .val (.ref b1), .unset, .unset] [(.int ((p0 &&& (2147483647 : Int32)) % (13 : Int32)))])) _
    rw [hp0]
    show Steps p.tables e below (T53.setTop (mkF m 98 #[.val (.int p0), .val (.ref b1), .unset, .unset] [(.int (11 : Int32))])) _
    refine XS.istoreN X53.here hx rfl (hb hby at_98) rfl (l' := #[.val (.int p0), .val (.ref b1), .val (.int (11 : Int32)), .unset]) rfl ?_
    show Steps p.tables e below (T53.setTop (mkF m 99 #[.val (.int p0), .val (.ref b1), .val (.int (11 : Int32)), .unset] [])) _
    refine XS.iloadN X53.here hx rfl (hb hby at_99) rfl ?_
    show Steps p.tables e below (T53.setTop (mkF m 100 #[.val (.int p0), .val (.ref b1), .val (.int (11 : Int32)), .unset] [(.int (11 : Int32))])) _
    refine XS.iconst X53.here hx rfl (hb hby at_100) ?_
    show Steps p.tables e below (T53.setTop (mkF m 101 #[.val (.int p0), .val (.ref b1), .val (.int (11 : Int32)), .unset] [(.int (2 : Int32)), (.int (11 : Int32))])) _
    refine XS.icmpNo X53.here hx rfl (hb hby at_101) rfl (feq (by decide : ¬ ((11 : Int32) = (2 : Int32)))).1 ?_
    show Steps p.tables e below (T53.setTop (mkF m 104 #[.val (.int p0), .val (.ref b1), .val (.int (11 : Int32)), .unset] [])) _
    refine XS.iloadN X53.here hx rfl (hb hby at_104) rfl ?_
    show Steps p.tables e below (T53.setTop (mkF m 105 #[.val (.int p0), .val (.ref b1), .val (.int (11 : Int32)), .unset] [(.int (11 : Int32))])) _
    refine XS.iconst X53.here hx rfl (hb hby at_105) ?_
    show Steps p.tables e below (T53.setTop (mkF m 106 #[.val (.int p0), .val (.ref b1), .val (.int (11 : Int32)), .unset] [(.int (4 : Int32)), (.int (11 : Int32))])) _
    refine XS.icmpYes X53.here hx rfl (pc0 := 106) (pc' := 113) rfl (hb hby at_106) rfl (feq (by decide : ¬ ((11 : Int32) = (4 : Int32)))).2 (by decide) (by decide) ?_
    show Steps p.tables e below (T53.setTop (mkF m 113 #[.val (.int p0), .val (.ref b1), .val (.int (11 : Int32)), .unset] [])) _
    refine XS.iconst X53.here hx rfl (hb hby at_113) ?_
    show Steps p.tables e below (T53.setTop (mkF m 114 #[.val (.int p0), .val (.ref b1), .val (.int (11 : Int32)), .unset] [(.int (0 : Int32))])) _
    refine XS.istoreN X53.here hx rfl (hb hby at_114) rfl (l' := #[.val (.int p0), .val (.ref b1), .val (.int (11 : Int32)), .val (.int (0 : Int32))]) rfl ?_
    show Steps p.tables e below (T53.setTop (mkF m 115 #[.val (.int p0), .val (.ref b1), .val (.int (11 : Int32)), .val (.int (0 : Int32))] [])) _
    refine XS.aloadN X53.here hx rfl (hb hby at_115) rfl rfl ?_
    show Steps p.tables e below (T53.setTop (mkF m 116 #[.val (.int p0), .val (.ref b1), .val (.int (11 : Int32)), .val (.int (0 : Int32))] [(.ref b1)])) _
    refine XS.iloadN X53.here hx rfl (hb hby at_116) rfl ?_
    show Steps p.tables e below (T53.setTop (mkF m 117 #[.val (.int p0), .val (.ref b1), .val (.int (11 : Int32)), .val (.int (0 : Int32))] [(.int (11 : Int32)), (.ref b1)])) _
    refine X53.aaload hx (j := (11 : Int32)) (v := (.ref (w 11))) (by rw [e53]; exact Ar54.1) (State.isArrayOf_alike hZ.alike Ar54.2.1) rfl Ar54.2.2 hin54 hat54 (g := (mkF m 117 #[.val (.int p0), .val (.ref b1), .val (.int (11 : Int32)), .val (.int (0 : Int32))] [(.int (11 : Int32)), (.ref b1)])) rfl rfl (hb hby at_117) _ ?_
    show Steps p.tables e below (T53.setTop (mkF m 118 #[.val (.int p0), .val (.ref b1), .val (.int (11 : Int32)), .val (.int (0 : Int32))] [(.ref (w 11))])) _
    refine st55.trans ?_
    show Steps p.tables e below (T55.setTop (mkF m 121 #[.val (.int p0), .val (.ref b1), .val (.int (11 : Int32)), .val (.int (0 : Int32))] [(.int (0 : Int32))])) _
    refine XS.iloadN X55.here hx rfl (hb hby at_121) rfl ?_
    show Steps p.tables e below (T55.setTop (mkF m 122 #[.val (.int p0), .val (.ref b1), .val (.int (11 : Int32)), .val (.int (0 : Int32))] [(.int (0 : Int32)), (.int (0 : Int32))])) _
    refine XS.icmpNo X55.here hx rfl (hb hby at_122) rfl (teq (by decide : (0 : Int32) = (0 : Int32))).2 ?_
    show Steps p.tables e below (T55.setTop (mkF m 125 #[.val (.int p0), .val (.ref b1), .val (.int (11 : Int32)), .val (.int (0 : Int32))] [])) _
    refine XS.iconst X55.here hx rfl (hb hby at_125) ?_
    show Steps p.tables e below (T55.setTop (mkF m 126 #[.val (.int p0), .val (.ref b1), .val (.int (11 : Int32)), .val (.int (0 : Int32))] [(.int (1 : Int32))])) _
    refine XS.goto X55.here hx rfl (pc0 := 126) (pc' := 130) rfl (hb hby at_126) (by decide) (by decide) ?_
    show Steps p.tables e below (T55.setTop (mkF m 130 #[.val (.int p0), .val (.ref b1), .val (.int (11 : Int32)), .val (.int (0 : Int32))] [(.int (1 : Int32))])) _
    exact retN X55 hx (t := .boolean) Bd.returns (by simp) (hb hby at_130) hr
  · show OL (some (.int (1 : Int32))) Z.heap.size _ T55.heap _
    exact ⟨rfl, N55⟩
set_option maxRecDepth 65536 in
set_option maxHeartbeats 40000000 in
theorem rm_25 (l : Launch) (Z : State) (a0 : Array Value) (hw : ∀ d ∈ tables_1, d.before a0 Z = true) (w : Nat → Addr) (kk : Nat → ClassId) (hN : Wd Z w kk) (ws : List Jvm.Cond)  (h0 : Heap) (O0 : Old Z Z.heap.size h0) :
    MetFree l (⟨"com/example/netloom/netloom/net/ElementKind", "isPlace", "()Z"⟩ : MethodName) (head1 (Jvm.Cond.code (⟨"com/example/netloom/netloom/net/ElementKind", "isPlace", "()Z"⟩ : MethodName) prog_22_method_5_code 1 (some .boolean) :: ws) ({ frames := 0, cells := 0, slots := 0, locals := 0 } : Room)) (fun a U => a = #[(.ref (w 12))] ∧ Z.Warmed39 U.vm ∧ U.heap = h0) (fun _ _ _ _ _ => True) (fun _ U o U' => ∃ v L, o = .returned v ∧ OQ (some (.int (0 : Int32))) h0 Z.heap.size v U'.heap L ∧ FrameEnd U o U' L ({ frames := 0, cells := 0, slots := 0, locals := 0 } : Room).cells ({ frames := 0, cells := 0, slots := 0, locals := 0 } : Room).slots) := by
  have hN' := hN
  obtain ⟨hS0, hE0, hS1, hE1, hS2, hE2, hS3, hE3, hS4, hE4, hS5, hE5, hS6, hE6, hS7, hE7, hS8, hE8, hS9, hE9, hS10, hE10, hS11, hE11, hS12, hE12, hF0_ordinal, hF2_ordinal, hF4_ordinal, hF3_ordinal, hF6_ordinal, hF5_ordinal, hF7_ordinal, hF9_ordinal, hF11_ordinal, hF1_ordinal, hF8_ordinal, hF10_ordinal, hF12_ordinal⟩ := hN'
  refine MetFree.of_bodySF (plainFor_of_name pn_0) hisR ?_
  intro p e s m args below meth c s₁ Bd hml0 hP hK
  obtain ⟨rfl, hZ, hh⟩ := hP
  have hx := Bd.exec
  have hby := Bd.bytes
  have hml : c.maxLocals = 1 := hml0
  have hown : s.vm.findClass "com/example/netloom/netloom/net/ElementKind" = some m.cls := findClass_of_methodNamed Bd.named
  have hnm := (name_of_methodNamed Bd.named Bd.method).1
  have X0 : Stand p l e ({ frames := 0, cells := 0, slots := 0, locals := 0 } : Room) s m #[(.ref (w 12))] below meth c s₁ [] 0 0 := Stand.of_body Bd
  have e0 : s₁.heap = h0 := by rw [← hh, Bd.state]; rfl
  have N0 := Fr.nil Z.heap.size
  have pre0 : ∀ t, Steps p.tables e below (s₁.setTop (mkF m 0 #[.val (.ref (w 12))] [])) t → Steps p.tables e below (s₁.setTop (entryFrame m #[(.ref (w 12))] 1)) t := fun t k => castTop (ef_0 m (.ref (w 12)) rfl) k
  obtain ⟨T1, X1, e1, st1⟩ := getS2 X0 hx hZ hown (host := "") (Or.inl (W hw 36 rfl)) Via.refl e0 (hS2.ext O0.2) (g := (mkF m 1 #[.val (.ref (w 12))] [(.ref (w 12))])) rfl (hb hby d_prog_22_method_5_code_1)
  obtain ⟨T2, X2, e2, st2⟩ := getS2 X1 hx hZ hown (host := "") (Or.inl (W hw 37 rfl)) Via.refl e1 (hS4.ext O0.2) (g := (mkF m 8 #[.val (.ref (w 12))] [(.ref (w 12))])) rfl (hb hby d_prog_22_method_5_code_8)
  obtain ⟨fs, hr, hrun, hended, hW, hsame⟩ := X2.leave (v := some (.int (0 : Int32))) (fun h => by rw [Bd.returns] at h; cases h)
  refine ⟨_, _, pre0 _ ?_, hrun, hended, _, _, rfl, ?_, ⟨_, rfl⟩, hW, hsame.mono (by decide) (by decide)⟩
  · show Steps p.tables e below (s₁.setTop (mkF m 0 #[.val (.ref (w 12))] [])) _
    refine XS.aloadN X0.here hx rfl (hb hby d_prog_22_method_5_code_0) rfl rfl ?_
    show Steps p.tables e below (s₁.setTop (mkF m 1 #[.val (.ref (w 12))] [(.ref (w 12))])) _
    refine st1 _ ?_
    show Steps p.tables e below (T1.setTop (mkF m 4 #[.val (.ref (w 12))] [(.ref (w 2)), (.ref (w 12))])) _
    refine Jvm.RoadKit.acmp (g := (mkF m 4 #[.val (.ref (w 12))] [(.ref (w 2)), (.ref (w 12))])) X1 hx rfl rfl rfl (pc0 := 4) (pc' := 7) (same := false) rfl (hb hby d_prog_22_method_5_code_4) rfl (decide_eq_false fun q => (Fld.ne hF12_ordinal hF2_ordinal (by decide)) (Value.ref.inj q)) (by decide) (by decide) ?_
    show Steps p.tables e below (T1.setTop (mkF m 7 #[.val (.ref (w 12))] [])) _
    refine XS.aloadN X1.here hx rfl (hb hby d_prog_22_method_5_code_7) rfl rfl ?_
    show Steps p.tables e below (T1.setTop (mkF m 8 #[.val (.ref (w 12))] [(.ref (w 12))])) _
    refine st2 _ ?_
    show Steps p.tables e below (T2.setTop (mkF m 11 #[.val (.ref (w 12))] [(.ref (w 4)), (.ref (w 12))])) _
    refine Jvm.RoadKit.acmp (g := (mkF m 11 #[.val (.ref (w 12))] [(.ref (w 4)), (.ref (w 12))])) X2 hx rfl rfl rfl (pc0 := 11) (pc' := 18) (same := false) rfl (hb hby d_prog_22_method_5_code_11) rfl (decide_eq_false fun q => (Fld.ne hF12_ordinal hF4_ordinal (by decide)) (Value.ref.inj q)) (by decide) (by decide) ?_
    show Steps p.tables e below (T2.setTop (mkF m 18 #[.val (.ref (w 12))] [])) _
    refine XS.iconst X2.here hx rfl (hb hby d_prog_22_method_5_code_18) ?_
    show Steps p.tables e below (T2.setTop (mkF m 19 #[.val (.ref (w 12))] [(.int (0 : Int32))])) _
    exact retN X2 hx (t := .boolean) Bd.returns (by simp) (hb hby d_prog_22_method_5_code_19) hr
  · show OQ (some (.int (0 : Int32))) h0 Z.heap.size _ T2.heap _
    rw [e2]
    exact ⟨rfl, N0, rfl⟩
set_option maxRecDepth 65536 in
set_option maxHeartbeats 40000000 in
theorem law_26 (l : Launch) (Z : State) (a0 : Array Value) (hw : ∀ d ∈ tables_1, d.before a0 Z = true) (w : Nat → Addr) (kk : Nat → ClassId) (hN : Wd Z w kk) (ws : List Jvm.Cond) (p0 : Int32) (h0 : Heap) (O0 : Old Z Z.heap.size h0) (hp0 : ((p0 &&& (2147483647 : Int32)) % (13 : Int32)) = (12 : Int32)) :
    MetFree l x (head1 (Jvm.Cond.code x code maxLocals ret :: ws) room_1) (fun a U => a = #[(.int p0)] ∧ Z.Warmed39 U.vm ∧ U.heap = h0) (fun _ _ _ _ _ => True) (fun _ U o U' => ∃ v L, o = .returned v ∧ OL (some (.int (1 : Int32))) Z.heap.size v U'.heap L ∧ FrameEnd U o U' L 16 128) := by
  have hN' := hN
  obtain ⟨hS0, hE0, hS1, hE1, hS2, hE2, hS3, hE3, hS4, hE4, hS5, hE5, hS6, hE6, hS7, hE7, hS8, hE8, hS9, hE9, hS10, hE10, hS11, hE11, hS12, hE12, hF0_ordinal, hF2_ordinal, hF4_ordinal, hF3_ordinal, hF6_ordinal, hF5_ordinal, hF7_ordinal, hF9_ordinal, hF11_ordinal, hF1_ordinal, hF8_ordinal, hF10_ordinal, hF12_ordinal⟩ := hN'
  refine MetFree.of_bodySF (plainFor_of_name pn_1) hisR ?_
  intro p e s m args below meth c s₁ Bd hml0 hP hK
  obtain ⟨rfl, hZ, hh⟩ := hP
  have hx := Bd.exec
  have hby := Bd.bytes
  have hml : c.maxLocals = 4 := hml0
  have hown : s.vm.findClass "com/example/netloom/netloom/net/ElementKindIsPlacePinLaw" = some m.cls := findClass_of_methodNamed Bd.named
  have hnm := (name_of_methodNamed Bd.named Bd.method).1
  have X0 : Stand p l e room_1 s m #[(.int p0)] below meth c s₁ [] 0 0 := Stand.of_body Bd
  have e0 : s₁.heap = h0 := by rw [← hh, Bd.state]; rfl
  have N0 := Fr.nil Z.heap.size
  have pre0 : ∀ t, Steps p.tables e below (s₁.setTop (mkF m 0 #[.val (.int p0), .unset, .unset, .unset] [])) t → Steps p.tables e below (s₁.setTop (entryFrame m #[(.int p0)] maxLocals)) t := fun t k => castTop (ef_1 m (.int p0) rfl) k
  obtain ⟨T1, h1, k1, X1, e1, E1, A1, Ov1, st1⟩ := newR X0 hx hZ hown (W hw 0 rfl) (W hw 1 rfl) e0 (g := (mkF m 2 #[.val (.int p0), .unset, .unset, .unset] [(.int (13 : Int32))])) rfl (hb hby at_2) rfl (by decide) (cap := 13) (by decide) (by decide) (by decide) (by decide)
  obtain ⟨b1, g1⟩ : ∃ z, z = h0.size := ⟨_, rfl⟩
  rw [← g1] at A1 st1
  have gn_b1 : Z.heap.size ≤ b1 := Nat.le_trans O0.2.1 (Nat.le_of_eq g1.symm)
  have O1 := O0.ext E1
  have V_b1_v1 : Arv Z h1 b1 k1 (.object "com/example/netloom/netloom/net/ElementKind") (13 : Int32) [] .null := Arv.new A1 (by decide)
  obtain ⟨T2, X2, e2, st2⟩ := getS2 X1 hx hZ hown (host := "") (Or.inl (W hw 2 rfl)) Via.refl e1 (hS0.ext O1.2) (g := (mkF m 7 #[.val (.int p0), .unset, .unset, .unset] [(.int (0 : Int32)), (.ref b1), (.ref b1)])) rfl (hb hby at_7)
  have V_b1_v3 : Arv Z h1 b1 k1 (.object "com/example/netloom/netloom/net/ElementKind") (13 : Int32) [.null] .null := V_b1_v1.pad (pad_rep [] .null 1)
  obtain ⟨cl4, Ar4, q4, Sz4, Ng4, Hv4, Gv4⟩ := V_b1_v3
  have hin4 : ¬ ((0 : Int32) < 0 ∨ cl4.slots.size ≤ ((0 : Int32)).toNatClampNeg) := inb_of Sz4 ⟨by decide, by decide⟩
  obtain ⟨T5, h5, X5, e5, W5, st5⟩ := stR X2 hx hZ e2 Ar4 (j := (0 : Int32)) (v := (.ref (w 0))) hin4 rfl (Sto.ofV Ar4 q4 Ov1 (Ins.self (hE0.ext O1.2))) (g := (mkF m 10 #[.val (.int p0), .unset, .unset, .unset] [(.ref (w 0)), (.int (0 : Int32)), (.ref b1), (.ref b1)])) rfl rfl (hb hby at_10)
  have V_b1_v5 : Arv Z h5 b1 k1 (.object "com/example/netloom/netloom/net/ElementKind") (13 : Int32) [(.ref (w 0))] .null := Arv.set Ar4 q4 Sz4 Ng4 Hv4 Gv4 rfl W5 0 rfl (Nat.le_of_ble_eq_true rfl)
  have N5 := Fr.snoc X5 N0 gn_b1
  have O5 := O1.wr W5 gn_b1
  obtain ⟨T6, X6, e6, st6⟩ := getS2 X5 hx hZ hown (host := "") (Or.inl (W hw 6 rfl)) Via.refl e5 (hS1.ext O5.2) (g := (mkF m 13 #[.val (.int p0), .unset, .unset, .unset] [(.int (1 : Int32)), (.ref b1), (.ref b1)])) rfl (hb hby at_13)
  have V_b1_v7 : Arv Z h5 b1 k1 (.object "com/example/netloom/netloom/net/ElementKind") (13 : Int32) [(.ref (w 0)), .null] .null := V_b1_v5.pad (pad_rep [(.ref (w 0))] .null 1)
  obtain ⟨cl8, Ar8, q8, Sz8, Ng8, Hv8, Gv8⟩ := V_b1_v7
  have hin8 : ¬ ((1 : Int32) < 0 ∨ cl8.slots.size ≤ ((1 : Int32)).toNatClampNeg) := inb_of Sz8 ⟨by decide, by decide⟩
  obtain ⟨T9, h9, X9, e9, W9, st9⟩ := stR X6 hx hZ e6 Ar8 (j := (1 : Int32)) (v := (.ref (w 1))) hin8 rfl (Sto.ofV Ar8 q8 Ov1 (Ins.self (hE1.ext O5.2))) (g := (mkF m 16 #[.val (.int p0), .unset, .unset, .unset] [(.ref (w 1)), (.int (1 : Int32)), (.ref b1), (.ref b1)])) rfl rfl (hb hby at_16)
  have V_b1_v9 : Arv Z h9 b1 k1 (.object "com/example/netloom/netloom/net/ElementKind") (13 : Int32) [(.ref (w 0)), (.ref (w 1))] .null := Arv.set Ar8 q8 Sz8 Ng8 Hv8 Gv8 rfl W9 1 rfl (Nat.le_of_ble_eq_true rfl)
  have N9 := Fr.snoc X9 N5 gn_b1
  have O9 := O5.wr W9 gn_b1
  obtain ⟨T10, X10, e10, st10⟩ := getS2 X9 hx hZ hown (host := "") (Or.inl (W hw 8 rfl)) Via.refl e9 (hS2.ext O9.2) (g := (mkF m 19 #[.val (.int p0), .unset, .unset, .unset] [(.int (2 : Int32)), (.ref b1), (.ref b1)])) rfl (hb hby at_19)
  have V_b1_v11 : Arv Z h9 b1 k1 (.object "com/example/netloom/netloom/net/ElementKind") (13 : Int32) [(.ref (w 0)), (.ref (w 1)), .null] .null := V_b1_v9.pad (pad_rep [(.ref (w 0)), (.ref (w 1))] .null 1)
  obtain ⟨cl12, Ar12, q12, Sz12, Ng12, Hv12, Gv12⟩ := V_b1_v11
  have hin12 : ¬ ((2 : Int32) < 0 ∨ cl12.slots.size ≤ ((2 : Int32)).toNatClampNeg) := inb_of Sz12 ⟨by decide, by decide⟩
  obtain ⟨T13, h13, X13, e13, W13, st13⟩ := stR X10 hx hZ e10 Ar12 (j := (2 : Int32)) (v := (.ref (w 2))) hin12 rfl (Sto.ofV Ar12 q12 Ov1 (Ins.self (hE2.ext O9.2))) (g := (mkF m 22 #[.val (.int p0), .unset, .unset, .unset] [(.ref (w 2)), (.int (2 : Int32)), (.ref b1), (.ref b1)])) rfl rfl (hb hby at_22)
  have V_b1_v13 : Arv Z h13 b1 k1 (.object "com/example/netloom/netloom/net/ElementKind") (13 : Int32) [(.ref (w 0)), (.ref (w 1)), (.ref (w 2))] .null := Arv.set Ar12 q12 Sz12 Ng12 Hv12 Gv12 rfl W13 2 rfl (Nat.le_of_ble_eq_true rfl)
  have N13 := Fr.snoc X13 N9 gn_b1
  have O13 := O9.wr W13 gn_b1
  obtain ⟨T14, X14, e14, st14⟩ := getS2 X13 hx hZ hown (host := "") (Or.inl (W hw 10 rfl)) Via.refl e13 (hS3.ext O13.2) (g := (mkF m 25 #[.val (.int p0), .unset, .unset, .unset] [(.int (3 : Int32)), (.ref b1), (.ref b1)])) rfl (hb hby at_25)
  have V_b1_v15 : Arv Z h13 b1 k1 (.object "com/example/netloom/netloom/net/ElementKind") (13 : Int32) [(.ref (w 0)), (.ref (w 1)), (.ref (w 2)), .null] .null := V_b1_v13.pad (pad_rep [(.ref (w 0)), (.ref (w 1)), (.ref (w 2))] .null 1)
  obtain ⟨cl16, Ar16, q16, Sz16, Ng16, Hv16, Gv16⟩ := V_b1_v15
  have hin16 : ¬ ((3 : Int32) < 0 ∨ cl16.slots.size ≤ ((3 : Int32)).toNatClampNeg) := inb_of Sz16 ⟨by decide, by decide⟩
  obtain ⟨T17, h17, X17, e17, W17, st17⟩ := stR X14 hx hZ e14 Ar16 (j := (3 : Int32)) (v := (.ref (w 3))) hin16 rfl (Sto.ofV Ar16 q16 Ov1 (Ins.self (hE3.ext O13.2))) (g := (mkF m 28 #[.val (.int p0), .unset, .unset, .unset] [(.ref (w 3)), (.int (3 : Int32)), (.ref b1), (.ref b1)])) rfl rfl (hb hby at_28)
  have V_b1_v17 : Arv Z h17 b1 k1 (.object "com/example/netloom/netloom/net/ElementKind") (13 : Int32) [(.ref (w 0)), (.ref (w 1)), (.ref (w 2)), (.ref (w 3))] .null := Arv.set Ar16 q16 Sz16 Ng16 Hv16 Gv16 rfl W17 3 rfl (Nat.le_of_ble_eq_true rfl)
  have N17 := Fr.snoc X17 N13 gn_b1
  have O17 := O13.wr W17 gn_b1
  obtain ⟨T18, X18, e18, st18⟩ := getS2 X17 hx hZ hown (host := "") (Or.inl (W hw 12 rfl)) Via.refl e17 (hS4.ext O17.2) (g := (mkF m 31 #[.val (.int p0), .unset, .unset, .unset] [(.int (4 : Int32)), (.ref b1), (.ref b1)])) rfl (hb hby at_31)
  have V_b1_v19 : Arv Z h17 b1 k1 (.object "com/example/netloom/netloom/net/ElementKind") (13 : Int32) [(.ref (w 0)), (.ref (w 1)), (.ref (w 2)), (.ref (w 3)), .null] .null := V_b1_v17.pad (pad_rep [(.ref (w 0)), (.ref (w 1)), (.ref (w 2)), (.ref (w 3))] .null 1)
  obtain ⟨cl20, Ar20, q20, Sz20, Ng20, Hv20, Gv20⟩ := V_b1_v19
  have hin20 : ¬ ((4 : Int32) < 0 ∨ cl20.slots.size ≤ ((4 : Int32)).toNatClampNeg) := inb_of Sz20 ⟨by decide, by decide⟩
  obtain ⟨T21, h21, X21, e21, W21, st21⟩ := stR X18 hx hZ e18 Ar20 (j := (4 : Int32)) (v := (.ref (w 4))) hin20 rfl (Sto.ofV Ar20 q20 Ov1 (Ins.self (hE4.ext O17.2))) (g := (mkF m 34 #[.val (.int p0), .unset, .unset, .unset] [(.ref (w 4)), (.int (4 : Int32)), (.ref b1), (.ref b1)])) rfl rfl (hb hby at_34)
  have V_b1_v21 : Arv Z h21 b1 k1 (.object "com/example/netloom/netloom/net/ElementKind") (13 : Int32) [(.ref (w 0)), (.ref (w 1)), (.ref (w 2)), (.ref (w 3)), (.ref (w 4))] .null := Arv.set Ar20 q20 Sz20 Ng20 Hv20 Gv20 rfl W21 4 rfl (Nat.le_of_ble_eq_true rfl)
  have N21 := Fr.snoc X21 N17 gn_b1
  have O21 := O17.wr W21 gn_b1
  obtain ⟨T22, X22, e22, st22⟩ := getS2 X21 hx hZ hown (host := "") (Or.inl (W hw 14 rfl)) Via.refl e21 (hS5.ext O21.2) (g := (mkF m 37 #[.val (.int p0), .unset, .unset, .unset] [(.int (5 : Int32)), (.ref b1), (.ref b1)])) rfl (hb hby at_37)
  have V_b1_v23 : Arv Z h21 b1 k1 (.object "com/example/netloom/netloom/net/ElementKind") (13 : Int32) [(.ref (w 0)), (.ref (w 1)), (.ref (w 2)), (.ref (w 3)), (.ref (w 4)), .null] .null := V_b1_v21.pad (pad_rep [(.ref (w 0)), (.ref (w 1)), (.ref (w 2)), (.ref (w 3)), (.ref (w 4))] .null 1)
  obtain ⟨cl24, Ar24, q24, Sz24, Ng24, Hv24, Gv24⟩ := V_b1_v23
  have hin24 : ¬ ((5 : Int32) < 0 ∨ cl24.slots.size ≤ ((5 : Int32)).toNatClampNeg) := inb_of Sz24 ⟨by decide, by decide⟩
  obtain ⟨T25, h25, X25, e25, W25, st25⟩ := stR X22 hx hZ e22 Ar24 (j := (5 : Int32)) (v := (.ref (w 5))) hin24 rfl (Sto.ofV Ar24 q24 Ov1 (Ins.self (hE5.ext O21.2))) (g := (mkF m 40 #[.val (.int p0), .unset, .unset, .unset] [(.ref (w 5)), (.int (5 : Int32)), (.ref b1), (.ref b1)])) rfl rfl (hb hby at_40)
  have V_b1_v25 : Arv Z h25 b1 k1 (.object "com/example/netloom/netloom/net/ElementKind") (13 : Int32) [(.ref (w 0)), (.ref (w 1)), (.ref (w 2)), (.ref (w 3)), (.ref (w 4)), (.ref (w 5))] .null := Arv.set Ar24 q24 Sz24 Ng24 Hv24 Gv24 rfl W25 5 rfl (Nat.le_of_ble_eq_true rfl)
  have N25 := Fr.snoc X25 N21 gn_b1
  have O25 := O21.wr W25 gn_b1
  obtain ⟨T26, X26, e26, st26⟩ := getS2 X25 hx hZ hown (host := "") (Or.inl (W hw 16 rfl)) Via.refl e25 (hS6.ext O25.2) (g := (mkF m 44 #[.val (.int p0), .unset, .unset, .unset] [(.int (6 : Int32)), (.ref b1), (.ref b1)])) rfl (hb hby at_44)
  have V_b1_v27 : Arv Z h25 b1 k1 (.object "com/example/netloom/netloom/net/ElementKind") (13 : Int32) [(.ref (w 0)), (.ref (w 1)), (.ref (w 2)), (.ref (w 3)), (.ref (w 4)), (.ref (w 5)), .null] .null := V_b1_v25.pad (pad_rep [(.ref (w 0)), (.ref (w 1)), (.ref (w 2)), (.ref (w 3)), (.ref (w 4)), (.ref (w 5))] .null 1)
  obtain ⟨cl28, Ar28, q28, Sz28, Ng28, Hv28, Gv28⟩ := V_b1_v27
  have hin28 : ¬ ((6 : Int32) < 0 ∨ cl28.slots.size ≤ ((6 : Int32)).toNatClampNeg) := inb_of Sz28 ⟨by decide, by decide⟩
  obtain ⟨T29, h29, X29, e29, W29, st29⟩ := stR X26 hx hZ e26 Ar28 (j := (6 : Int32)) (v := (.ref (w 6))) hin28 rfl (Sto.ofV Ar28 q28 Ov1 (Ins.self (hE6.ext O25.2))) (g := (mkF m 47 #[.val (.int p0), .unset, .unset, .unset] [(.ref (w 6)), (.int (6 : Int32)), (.ref b1), (.ref b1)])) rfl rfl (hb hby at_47)
  have V_b1_v29 : Arv Z h29 b1 k1 (.object "com/example/netloom/netloom/net/ElementKind") (13 : Int32) [(.ref (w 0)), (.ref (w 1)), (.ref (w 2)), (.ref (w 3)), (.ref (w 4)), (.ref (w 5)), (.ref (w 6))] .null := Arv.set Ar28 q28 Sz28 Ng28 Hv28 Gv28 rfl W29 6 rfl (Nat.le_of_ble_eq_true rfl)
  have N29 := Fr.snoc X29 N25 gn_b1
  have O29 := O25.wr W29 gn_b1
  obtain ⟨T30, X30, e30, st30⟩ := getS2 X29 hx hZ hown (host := "") (Or.inl (W hw 18 rfl)) Via.refl e29 (hS7.ext O29.2) (g := (mkF m 51 #[.val (.int p0), .unset, .unset, .unset] [(.int (7 : Int32)), (.ref b1), (.ref b1)])) rfl (hb hby at_51)
  have V_b1_v31 : Arv Z h29 b1 k1 (.object "com/example/netloom/netloom/net/ElementKind") (13 : Int32) [(.ref (w 0)), (.ref (w 1)), (.ref (w 2)), (.ref (w 3)), (.ref (w 4)), (.ref (w 5)), (.ref (w 6)), .null] .null := V_b1_v29.pad (pad_rep [(.ref (w 0)), (.ref (w 1)), (.ref (w 2)), (.ref (w 3)), (.ref (w 4)), (.ref (w 5)), (.ref (w 6))] .null 1)
  obtain ⟨cl32, Ar32, q32, Sz32, Ng32, Hv32, Gv32⟩ := V_b1_v31
  have hin32 : ¬ ((7 : Int32) < 0 ∨ cl32.slots.size ≤ ((7 : Int32)).toNatClampNeg) := inb_of Sz32 ⟨by decide, by decide⟩
  obtain ⟨T33, h33, X33, e33, W33, st33⟩ := stR X30 hx hZ e30 Ar32 (j := (7 : Int32)) (v := (.ref (w 7))) hin32 rfl (Sto.ofV Ar32 q32 Ov1 (Ins.self (hE7.ext O29.2))) (g := (mkF m 54 #[.val (.int p0), .unset, .unset, .unset] [(.ref (w 7)), (.int (7 : Int32)), (.ref b1), (.ref b1)])) rfl rfl (hb hby at_54)
  have V_b1_v33 : Arv Z h33 b1 k1 (.object "com/example/netloom/netloom/net/ElementKind") (13 : Int32) [(.ref (w 0)), (.ref (w 1)), (.ref (w 2)), (.ref (w 3)), (.ref (w 4)), (.ref (w 5)), (.ref (w 6)), (.ref (w 7))] .null := Arv.set Ar32 q32 Sz32 Ng32 Hv32 Gv32 rfl W33 7 rfl (Nat.le_of_ble_eq_true rfl)
  have N33 := Fr.snoc X33 N29 gn_b1
  have O33 := O29.wr W33 gn_b1
  obtain ⟨T34, X34, e34, st34⟩ := getS2 X33 hx hZ hown (host := "") (Or.inl (W hw 20 rfl)) Via.refl e33 (hS8.ext O33.2) (g := (mkF m 58 #[.val (.int p0), .unset, .unset, .unset] [(.int (8 : Int32)), (.ref b1), (.ref b1)])) rfl (hb hby at_58)
  have V_b1_v35 : Arv Z h33 b1 k1 (.object "com/example/netloom/netloom/net/ElementKind") (13 : Int32) [(.ref (w 0)), (.ref (w 1)), (.ref (w 2)), (.ref (w 3)), (.ref (w 4)), (.ref (w 5)), (.ref (w 6)), (.ref (w 7)), .null] .null := V_b1_v33.pad (pad_rep [(.ref (w 0)), (.ref (w 1)), (.ref (w 2)), (.ref (w 3)), (.ref (w 4)), (.ref (w 5)), (.ref (w 6)), (.ref (w 7))] .null 1)
  obtain ⟨cl36, Ar36, q36, Sz36, Ng36, Hv36, Gv36⟩ := V_b1_v35
  have hin36 : ¬ ((8 : Int32) < 0 ∨ cl36.slots.size ≤ ((8 : Int32)).toNatClampNeg) := inb_of Sz36 ⟨by decide, by decide⟩
  obtain ⟨T37, h37, X37, e37, W37, st37⟩ := stR X34 hx hZ e34 Ar36 (j := (8 : Int32)) (v := (.ref (w 8))) hin36 rfl (Sto.ofV Ar36 q36 Ov1 (Ins.self (hE8.ext O33.2))) (g := (mkF m 61 #[.val (.int p0), .unset, .unset, .unset] [(.ref (w 8)), (.int (8 : Int32)), (.ref b1), (.ref b1)])) rfl rfl (hb hby at_61)
  have V_b1_v37 : Arv Z h37 b1 k1 (.object "com/example/netloom/netloom/net/ElementKind") (13 : Int32) [(.ref (w 0)), (.ref (w 1)), (.ref (w 2)), (.ref (w 3)), (.ref (w 4)), (.ref (w 5)), (.ref (w 6)), (.ref (w 7)), (.ref (w 8))] .null := Arv.set Ar36 q36 Sz36 Ng36 Hv36 Gv36 rfl W37 8 rfl (Nat.le_of_ble_eq_true rfl)
  have N37 := Fr.snoc X37 N33 gn_b1
  have O37 := O33.wr W37 gn_b1
  obtain ⟨T38, X38, e38, st38⟩ := getS2 X37 hx hZ hown (host := "") (Or.inl (W hw 22 rfl)) Via.refl e37 (hS9.ext O37.2) (g := (mkF m 65 #[.val (.int p0), .unset, .unset, .unset] [(.int (9 : Int32)), (.ref b1), (.ref b1)])) rfl (hb hby at_65)
  have V_b1_v39 : Arv Z h37 b1 k1 (.object "com/example/netloom/netloom/net/ElementKind") (13 : Int32) [(.ref (w 0)), (.ref (w 1)), (.ref (w 2)), (.ref (w 3)), (.ref (w 4)), (.ref (w 5)), (.ref (w 6)), (.ref (w 7)), (.ref (w 8)), .null] .null := V_b1_v37.pad (pad_rep [(.ref (w 0)), (.ref (w 1)), (.ref (w 2)), (.ref (w 3)), (.ref (w 4)), (.ref (w 5)), (.ref (w 6)), (.ref (w 7)), (.ref (w 8))] .null 1)
  obtain ⟨cl40, Ar40, q40, Sz40, Ng40, Hv40, Gv40⟩ := V_b1_v39
  have hin40 : ¬ ((9 : Int32) < 0 ∨ cl40.slots.size ≤ ((9 : Int32)).toNatClampNeg) := inb_of Sz40 ⟨by decide, by decide⟩
  obtain ⟨T41, h41, X41, e41, W41, st41⟩ := stR X38 hx hZ e38 Ar40 (j := (9 : Int32)) (v := (.ref (w 9))) hin40 rfl (Sto.ofV Ar40 q40 Ov1 (Ins.self (hE9.ext O37.2))) (g := (mkF m 68 #[.val (.int p0), .unset, .unset, .unset] [(.ref (w 9)), (.int (9 : Int32)), (.ref b1), (.ref b1)])) rfl rfl (hb hby at_68)
  have V_b1_v41 : Arv Z h41 b1 k1 (.object "com/example/netloom/netloom/net/ElementKind") (13 : Int32) [(.ref (w 0)), (.ref (w 1)), (.ref (w 2)), (.ref (w 3)), (.ref (w 4)), (.ref (w 5)), (.ref (w 6)), (.ref (w 7)), (.ref (w 8)), (.ref (w 9))] .null := Arv.set Ar40 q40 Sz40 Ng40 Hv40 Gv40 rfl W41 9 rfl (Nat.le_of_ble_eq_true rfl)
  have N41 := Fr.snoc X41 N37 gn_b1
  have O41 := O37.wr W41 gn_b1
  obtain ⟨T42, X42, e42, st42⟩ := getS2 X41 hx hZ hown (host := "") (Or.inl (W hw 24 rfl)) Via.refl e41 (hS10.ext O41.2) (g := (mkF m 72 #[.val (.int p0), .unset, .unset, .unset] [(.int (10 : Int32)), (.ref b1), (.ref b1)])) rfl (hb hby at_72)
  have V_b1_v43 : Arv Z h41 b1 k1 (.object "com/example/netloom/netloom/net/ElementKind") (13 : Int32) [(.ref (w 0)), (.ref (w 1)), (.ref (w 2)), (.ref (w 3)), (.ref (w 4)), (.ref (w 5)), (.ref (w 6)), (.ref (w 7)), (.ref (w 8)), (.ref (w 9)), .null] .null := V_b1_v41.pad (pad_rep [(.ref (w 0)), (.ref (w 1)), (.ref (w 2)), (.ref (w 3)), (.ref (w 4)), (.ref (w 5)), (.ref (w 6)), (.ref (w 7)), (.ref (w 8)), (.ref (w 9))] .null 1)
  obtain ⟨cl44, Ar44, q44, Sz44, Ng44, Hv44, Gv44⟩ := V_b1_v43
  have hin44 : ¬ ((10 : Int32) < 0 ∨ cl44.slots.size ≤ ((10 : Int32)).toNatClampNeg) := inb_of Sz44 ⟨by decide, by decide⟩
  obtain ⟨T45, h45, X45, e45, W45, st45⟩ := stR X42 hx hZ e42 Ar44 (j := (10 : Int32)) (v := (.ref (w 10))) hin44 rfl (Sto.ofV Ar44 q44 Ov1 (Ins.self (hE10.ext O41.2))) (g := (mkF m 75 #[.val (.int p0), .unset, .unset, .unset] [(.ref (w 10)), (.int (10 : Int32)), (.ref b1), (.ref b1)])) rfl rfl (hb hby at_75)
  have V_b1_v45 : Arv Z h45 b1 k1 (.object "com/example/netloom/netloom/net/ElementKind") (13 : Int32) [(.ref (w 0)), (.ref (w 1)), (.ref (w 2)), (.ref (w 3)), (.ref (w 4)), (.ref (w 5)), (.ref (w 6)), (.ref (w 7)), (.ref (w 8)), (.ref (w 9)), (.ref (w 10))] .null := Arv.set Ar44 q44 Sz44 Ng44 Hv44 Gv44 rfl W45 10 rfl (Nat.le_of_ble_eq_true rfl)
  have N45 := Fr.snoc X45 N41 gn_b1
  have O45 := O41.wr W45 gn_b1
  obtain ⟨T46, X46, e46, st46⟩ := getS2 X45 hx hZ hown (host := "") (Or.inl (W hw 26 rfl)) Via.refl e45 (hS11.ext O45.2) (g := (mkF m 79 #[.val (.int p0), .unset, .unset, .unset] [(.int (11 : Int32)), (.ref b1), (.ref b1)])) rfl (hb hby at_79)
  have V_b1_v47 : Arv Z h45 b1 k1 (.object "com/example/netloom/netloom/net/ElementKind") (13 : Int32) [(.ref (w 0)), (.ref (w 1)), (.ref (w 2)), (.ref (w 3)), (.ref (w 4)), (.ref (w 5)), (.ref (w 6)), (.ref (w 7)), (.ref (w 8)), (.ref (w 9)), (.ref (w 10)), .null] .null := V_b1_v45.pad (pad_rep [(.ref (w 0)), (.ref (w 1)), (.ref (w 2)), (.ref (w 3)), (.ref (w 4)), (.ref (w 5)), (.ref (w 6)), (.ref (w 7)), (.ref (w 8)), (.ref (w 9)), (.ref (w 10))] .null 1)
  obtain ⟨cl48, Ar48, q48, Sz48, Ng48, Hv48, Gv48⟩ := V_b1_v47
  have hin48 : ¬ ((11 : Int32) < 0 ∨ cl48.slots.size ≤ ((11 : Int32)).toNatClampNeg) := inb_of Sz48 ⟨by decide, by decide⟩
  obtain ⟨T49, h49, X49, e49, W49, st49⟩ := stR X46 hx hZ e46 Ar48 (j := (11 : Int32)) (v := (.ref (w 11))) hin48 rfl (Sto.ofV Ar48 q48 Ov1 (Ins.self (hE11.ext O45.2))) (g := (mkF m 82 #[.val (.int p0), .unset, .unset, .unset] [(.ref (w 11)), (.int (11 : Int32)), (.ref b1), (.ref b1)])) rfl rfl (hb hby at_82)
  have V_b1_v49 : Arv Z h49 b1 k1 (.object "com/example/netloom/netloom/net/ElementKind") (13 : Int32) [(.ref (w 0)), (.ref (w 1)), (.ref (w 2)), (.ref (w 3)), (.ref (w 4)), (.ref (w 5)), (.ref (w 6)), (.ref (w 7)), (.ref (w 8)), (.ref (w 9)), (.ref (w 10)), (.ref (w 11))] .null := Arv.set Ar48 q48 Sz48 Ng48 Hv48 Gv48 rfl W49 11 rfl (Nat.le_of_ble_eq_true rfl)
  have N49 := Fr.snoc X49 N45 gn_b1
  have O49 := O45.wr W49 gn_b1
  obtain ⟨T50, X50, e50, st50⟩ := getS2 X49 hx hZ hown (host := "") (Or.inl (W hw 28 rfl)) Via.refl e49 (hS12.ext O49.2) (g := (mkF m 86 #[.val (.int p0), .unset, .unset, .unset] [(.int (12 : Int32)), (.ref b1), (.ref b1)])) rfl (hb hby at_86)
  have V_b1_v51 : Arv Z h49 b1 k1 (.object "com/example/netloom/netloom/net/ElementKind") (13 : Int32) [(.ref (w 0)), (.ref (w 1)), (.ref (w 2)), (.ref (w 3)), (.ref (w 4)), (.ref (w 5)), (.ref (w 6)), (.ref (w 7)), (.ref (w 8)), (.ref (w 9)), (.ref (w 10)), (.ref (w 11)), .null] .null := V_b1_v49.pad (pad_rep [(.ref (w 0)), (.ref (w 1)), (.ref (w 2)), (.ref (w 3)), (.ref (w 4)), (.ref (w 5)), (.ref (w 6)), (.ref (w 7)), (.ref (w 8)), (.ref (w 9)), (.ref (w 10)), (.ref (w 11))] .null 1)
  obtain ⟨cl52, Ar52, q52, Sz52, Ng52, Hv52, Gv52⟩ := V_b1_v51
  have hin52 : ¬ ((12 : Int32) < 0 ∨ cl52.slots.size ≤ ((12 : Int32)).toNatClampNeg) := inb_of Sz52 ⟨by decide, by decide⟩
  obtain ⟨T53, h53, X53, e53, W53, st53⟩ := stR X50 hx hZ e50 Ar52 (j := (12 : Int32)) (v := (.ref (w 12))) hin52 rfl (Sto.ofV Ar52 q52 Ov1 (Ins.self (hE12.ext O49.2))) (g := (mkF m 89 #[.val (.int p0), .unset, .unset, .unset] [(.ref (w 12)), (.int (12 : Int32)), (.ref b1), (.ref b1)])) rfl rfl (hb hby at_89)
  have V_b1_v53 : Arv Z h53 b1 k1 (.object "com/example/netloom/netloom/net/ElementKind") (13 : Int32) [(.ref (w 0)), (.ref (w 1)), (.ref (w 2)), (.ref (w 3)), (.ref (w 4)), (.ref (w 5)), (.ref (w 6)), (.ref (w 7)), (.ref (w 8)), (.ref (w 9)), (.ref (w 10)), (.ref (w 11)), (.ref (w 12))] .null := Arv.set Ar52 q52 Sz52 Ng52 Hv52 Gv52 rfl W53 12 rfl (Nat.le_of_ble_eq_true rfl)
  have N53 := Fr.snoc X53 N49 gn_b1
  have O53 := O49.wr W53 gn_b1
  obtain ⟨cl54, Ar54, q54, Sz54, Ng54, Hv54, Gv54⟩ := V_b1_v53
  have hin54 : ¬ ((12 : Int32) < 0 ∨ cl54.slots.size ≤ ((12 : Int32)).toNatClampNeg) := inb_of Sz54 ⟨by decide, by decide⟩
  have hat54 : cl54.slots[((12 : Int32)).toNatClampNeg]? = some (.ref (w 12)) := Has.at Hv54 hin54 (by rfl)
  obtain ⟨cq55, kq55, q55a, q55b, q55c⟩ := isOf hZ e53 (hE12.ext O53.2)
  obtain ⟨_, _, ⟨T55, L55, k55, n55⟩, -, X55, ⟨Lc55, hQ55, l55, y55, z55⟩, st55⟩ := X53.virtualBack hx (y := (⟨"com/example/netloom/netloom/net/ElementKind", "isPlace", "()Z"⟩ : MethodName)) (z := (⟨"com/example/netloom/netloom/net/ElementKind", "isPlace", "()Z"⟩ : MethodName)) hown (mvT hZ (W hw 31 rfl)) (mvT hZ (W hw 32 rfl)) (notFace_of_selects (args := #[]) (mvT hZ (W hw 34 rfl))) (mvT hZ (W hw 34 rfl)) (mvT hZ (W hw 33 rfl)) (by decide) (backOf (W := 0) (rm_25 l Z a0 hw w kk hN [] h53 O53) hZ (W hw 35 rfl) (W hw 3 rfl) (by decide) (by decide)) q55a q55c (g := (mkF m 118 #[.val (.int p0), .val (.ref b1), .val (.int (12 : Int32)), .val (.int (0 : Int32))] [(.ref (w 12))])) rfl (by rw [hml]; rfl) (Steps.refl _) (argsL := []) (rest := []) (lenOf pd_0 rfl) rfl (by show 2 * 0 + _ ≤ _; exact Nat.le_of_eq rfl) (hb hby at_118) (fun _ _ => ⟨rfl, e53, (by decide : 1 + 0 ≤ _), (by decide : 13 + 0 ≤ _)⟩)
  dsimp only [Pt.U, Pt.locs, Pt.cells, Pt.slots] at X55 l55 y55 z55 st55 hQ55
  subst l55 y55 z55
  obtain ⟨rfl, N55q, e55⟩ := hQ55
  have N55 := Fr.app N53 N55q
  obtain ⟨fs, hr, hrun, hended, hW, hsame⟩ := X55.leave (v := some (.int (1 : Int32))) (fun h => by rw [Bd.returns] at h; cases h)
  refine ⟨_, _, pre0 _ ?_, hrun, hended, _, _, rfl, ?_, ⟨_, rfl⟩, hW, hsame.mono (by decide) (by decide)⟩
  · show Steps p.tables e below (s₁.setTop (mkF m 0 #[.val (.int p0), .unset, .unset, .unset] [])) _
    refine XS.bipush X0.here hx rfl (hb hby at_0) ?_
    show Steps p.tables e below (s₁.setTop (mkF m 2 #[.val (.int p0), .unset, .unset, .unset] [(.int (13 : Int32))])) _
    refine st1 _ ?_
    show Steps p.tables e below (T1.setTop (mkF m 5 #[.val (.int p0), .unset, .unset, .unset] [(.ref b1)])) _
    refine XS.dup X1.here hx rfl (hb hby at_5) rfl rfl ?_
    show Steps p.tables e below (T1.setTop (mkF m 6 #[.val (.int p0), .unset, .unset, .unset] [(.ref b1), (.ref b1)])) _
    refine XS.iconst X1.here hx rfl (hb hby at_6) ?_
    show Steps p.tables e below (T1.setTop (mkF m 7 #[.val (.int p0), .unset, .unset, .unset] [(.int (0 : Int32)), (.ref b1), (.ref b1)])) _
    refine st2 _ ?_
    show Steps p.tables e below (T2.setTop (mkF m 10 #[.val (.int p0), .unset, .unset, .unset] [(.ref (w 0)), (.int (0 : Int32)), (.ref b1), (.ref b1)])) _
    refine st5 _ ?_
    show Steps p.tables e below (T5.setTop (mkF m 11 #[.val (.int p0), .unset, .unset, .unset] [(.ref b1)])) _
    refine XS.dup X5.here hx rfl (hb hby at_11) rfl rfl ?_
    show Steps p.tables e below (T5.setTop (mkF m 12 #[.val (.int p0), .unset, .unset, .unset] [(.ref b1), (.ref b1)])) _
    refine XS.iconst X5.here hx rfl (hb hby at_12) ?_
    show Steps p.tables e below (T5.setTop (mkF m 13 #[.val (.int p0), .unset, .unset, .unset] [(.int (1 : Int32)), (.ref b1), (.ref b1)])) _
    refine st6 _ ?_
    show Steps p.tables e below (T6.setTop (mkF m 16 #[.val (.int p0), .unset, .unset, .unset] [(.ref (w 1)), (.int (1 : Int32)), (.ref b1), (.ref b1)])) _
    refine st9 _ ?_
    show Steps p.tables e below (T9.setTop (mkF m 17 #[.val (.int p0), .unset, .unset, .unset] [(.ref b1)])) _
    refine XS.dup X9.here hx rfl (hb hby at_17) rfl rfl ?_
    show Steps p.tables e below (T9.setTop (mkF m 18 #[.val (.int p0), .unset, .unset, .unset] [(.ref b1), (.ref b1)])) _
    refine XS.iconst X9.here hx rfl (hb hby at_18) ?_
    show Steps p.tables e below (T9.setTop (mkF m 19 #[.val (.int p0), .unset, .unset, .unset] [(.int (2 : Int32)), (.ref b1), (.ref b1)])) _
    refine st10 _ ?_
    show Steps p.tables e below (T10.setTop (mkF m 22 #[.val (.int p0), .unset, .unset, .unset] [(.ref (w 2)), (.int (2 : Int32)), (.ref b1), (.ref b1)])) _
    refine st13 _ ?_
    show Steps p.tables e below (T13.setTop (mkF m 23 #[.val (.int p0), .unset, .unset, .unset] [(.ref b1)])) _
    refine XS.dup X13.here hx rfl (hb hby at_23) rfl rfl ?_
    show Steps p.tables e below (T13.setTop (mkF m 24 #[.val (.int p0), .unset, .unset, .unset] [(.ref b1), (.ref b1)])) _
    refine XS.iconst X13.here hx rfl (hb hby at_24) ?_
    show Steps p.tables e below (T13.setTop (mkF m 25 #[.val (.int p0), .unset, .unset, .unset] [(.int (3 : Int32)), (.ref b1), (.ref b1)])) _
    refine st14 _ ?_
    show Steps p.tables e below (T14.setTop (mkF m 28 #[.val (.int p0), .unset, .unset, .unset] [(.ref (w 3)), (.int (3 : Int32)), (.ref b1), (.ref b1)])) _
    refine st17 _ ?_
    show Steps p.tables e below (T17.setTop (mkF m 29 #[.val (.int p0), .unset, .unset, .unset] [(.ref b1)])) _
    refine XS.dup X17.here hx rfl (hb hby at_29) rfl rfl ?_
    show Steps p.tables e below (T17.setTop (mkF m 30 #[.val (.int p0), .unset, .unset, .unset] [(.ref b1), (.ref b1)])) _
    refine XS.iconst X17.here hx rfl (hb hby at_30) ?_
    show Steps p.tables e below (T17.setTop (mkF m 31 #[.val (.int p0), .unset, .unset, .unset] [(.int (4 : Int32)), (.ref b1), (.ref b1)])) _
    refine st18 _ ?_
    show Steps p.tables e below (T18.setTop (mkF m 34 #[.val (.int p0), .unset, .unset, .unset] [(.ref (w 4)), (.int (4 : Int32)), (.ref b1), (.ref b1)])) _
    refine st21 _ ?_
    show Steps p.tables e below (T21.setTop (mkF m 35 #[.val (.int p0), .unset, .unset, .unset] [(.ref b1)])) _
    refine XS.dup X21.here hx rfl (hb hby at_35) rfl rfl ?_
    show Steps p.tables e below (T21.setTop (mkF m 36 #[.val (.int p0), .unset, .unset, .unset] [(.ref b1), (.ref b1)])) _
    refine XS.iconst X21.here hx rfl (hb hby at_36) ?_
    show Steps p.tables e below (T21.setTop (mkF m 37 #[.val (.int p0), .unset, .unset, .unset] [(.int (5 : Int32)), (.ref b1), (.ref b1)])) _
    refine st22 _ ?_
    show Steps p.tables e below (T22.setTop (mkF m 40 #[.val (.int p0), .unset, .unset, .unset] [(.ref (w 5)), (.int (5 : Int32)), (.ref b1), (.ref b1)])) _
    refine st25 _ ?_
    show Steps p.tables e below (T25.setTop (mkF m 41 #[.val (.int p0), .unset, .unset, .unset] [(.ref b1)])) _
    refine XS.dup X25.here hx rfl (hb hby at_41) rfl rfl ?_
    show Steps p.tables e below (T25.setTop (mkF m 42 #[.val (.int p0), .unset, .unset, .unset] [(.ref b1), (.ref b1)])) _
    refine XS.bipush X25.here hx rfl (hb hby at_42) ?_
    show Steps p.tables e below (T25.setTop (mkF m 44 #[.val (.int p0), .unset, .unset, .unset] [(.int (6 : Int32)), (.ref b1), (.ref b1)])) _
    refine st26 _ ?_
    show Steps p.tables e below (T26.setTop (mkF m 47 #[.val (.int p0), .unset, .unset, .unset] [(.ref (w 6)), (.int (6 : Int32)), (.ref b1), (.ref b1)])) _
    refine st29 _ ?_
    show Steps p.tables e below (T29.setTop (mkF m 48 #[.val (.int p0), .unset, .unset, .unset] [(.ref b1)])) _
    refine XS.dup X29.here hx rfl (hb hby at_48) rfl rfl ?_
    show Steps p.tables e below (T29.setTop (mkF m 49 #[.val (.int p0), .unset, .unset, .unset] [(.ref b1), (.ref b1)])) _
    refine XS.bipush X29.here hx rfl (hb hby at_49) ?_
    show Steps p.tables e below (T29.setTop (mkF m 51 #[.val (.int p0), .unset, .unset, .unset] [(.int (7 : Int32)), (.ref b1), (.ref b1)])) _
    refine st30 _ ?_
    show Steps p.tables e below (T30.setTop (mkF m 54 #[.val (.int p0), .unset, .unset, .unset] [(.ref (w 7)), (.int (7 : Int32)), (.ref b1), (.ref b1)])) _
    refine st33 _ ?_
    show Steps p.tables e below (T33.setTop (mkF m 55 #[.val (.int p0), .unset, .unset, .unset] [(.ref b1)])) _
    refine XS.dup X33.here hx rfl (hb hby at_55) rfl rfl ?_
    show Steps p.tables e below (T33.setTop (mkF m 56 #[.val (.int p0), .unset, .unset, .unset] [(.ref b1), (.ref b1)])) _
    refine XS.bipush X33.here hx rfl (hb hby at_56) ?_
    show Steps p.tables e below (T33.setTop (mkF m 58 #[.val (.int p0), .unset, .unset, .unset] [(.int (8 : Int32)), (.ref b1), (.ref b1)])) _
    refine st34 _ ?_
    show Steps p.tables e below (T34.setTop (mkF m 61 #[.val (.int p0), .unset, .unset, .unset] [(.ref (w 8)), (.int (8 : Int32)), (.ref b1), (.ref b1)])) _
    refine st37 _ ?_
    show Steps p.tables e below (T37.setTop (mkF m 62 #[.val (.int p0), .unset, .unset, .unset] [(.ref b1)])) _
    refine XS.dup X37.here hx rfl (hb hby at_62) rfl rfl ?_
    show Steps p.tables e below (T37.setTop (mkF m 63 #[.val (.int p0), .unset, .unset, .unset] [(.ref b1), (.ref b1)])) _
    refine XS.bipush X37.here hx rfl (hb hby at_63) ?_
    show Steps p.tables e below (T37.setTop (mkF m 65 #[.val (.int p0), .unset, .unset, .unset] [(.int (9 : Int32)), (.ref b1), (.ref b1)])) _
    refine st38 _ ?_
    show Steps p.tables e below (T38.setTop (mkF m 68 #[.val (.int p0), .unset, .unset, .unset] [(.ref (w 9)), (.int (9 : Int32)), (.ref b1), (.ref b1)])) _
    refine st41 _ ?_
    show Steps p.tables e below (T41.setTop (mkF m 69 #[.val (.int p0), .unset, .unset, .unset] [(.ref b1)])) _
    refine XS.dup X41.here hx rfl (hb hby at_69) rfl rfl ?_
    show Steps p.tables e below (T41.setTop (mkF m 70 #[.val (.int p0), .unset, .unset, .unset] [(.ref b1), (.ref b1)])) _
    refine XS.bipush X41.here hx rfl (hb hby at_70) ?_
    show Steps p.tables e below (T41.setTop (mkF m 72 #[.val (.int p0), .unset, .unset, .unset] [(.int (10 : Int32)), (.ref b1), (.ref b1)])) _
    refine st42 _ ?_
    show Steps p.tables e below (T42.setTop (mkF m 75 #[.val (.int p0), .unset, .unset, .unset] [(.ref (w 10)), (.int (10 : Int32)), (.ref b1), (.ref b1)])) _
    refine st45 _ ?_
    show Steps p.tables e below (T45.setTop (mkF m 76 #[.val (.int p0), .unset, .unset, .unset] [(.ref b1)])) _
    refine XS.dup X45.here hx rfl (hb hby at_76) rfl rfl ?_
    show Steps p.tables e below (T45.setTop (mkF m 77 #[.val (.int p0), .unset, .unset, .unset] [(.ref b1), (.ref b1)])) _
    refine XS.bipush X45.here hx rfl (hb hby at_77) ?_
    show Steps p.tables e below (T45.setTop (mkF m 79 #[.val (.int p0), .unset, .unset, .unset] [(.int (11 : Int32)), (.ref b1), (.ref b1)])) _
    refine st46 _ ?_
    show Steps p.tables e below (T46.setTop (mkF m 82 #[.val (.int p0), .unset, .unset, .unset] [(.ref (w 11)), (.int (11 : Int32)), (.ref b1), (.ref b1)])) _
    refine st49 _ ?_
    show Steps p.tables e below (T49.setTop (mkF m 83 #[.val (.int p0), .unset, .unset, .unset] [(.ref b1)])) _
    refine XS.dup X49.here hx rfl (hb hby at_83) rfl rfl ?_
    show Steps p.tables e below (T49.setTop (mkF m 84 #[.val (.int p0), .unset, .unset, .unset] [(.ref b1), (.ref b1)])) _
    refine XS.bipush X49.here hx rfl (hb hby at_84) ?_
    show Steps p.tables e below (T49.setTop (mkF m 86 #[.val (.int p0), .unset, .unset, .unset] [(.int (12 : Int32)), (.ref b1), (.ref b1)])) _
    refine st50 _ ?_
    show Steps p.tables e below (T50.setTop (mkF m 89 #[.val (.int p0), .unset, .unset, .unset] [(.ref (w 12)), (.int (12 : Int32)), (.ref b1), (.ref b1)])) _
    refine st53 _ ?_
    show Steps p.tables e below (T53.setTop (mkF m 90 #[.val (.int p0), .unset, .unset, .unset] [(.ref b1)])) _
    refine XS.astoreN X53.here hx rfl (hb hby at_90) rfl rfl (l' := #[.val (.int p0), .val (.ref b1), .unset, .unset]) rfl ?_
    show Steps p.tables e below (T53.setTop (mkF m 91 #[.val (.int p0), .val (.ref b1), .unset, .unset] [])) _
    refine XS.iloadN X53.here hx rfl (hb hby at_91) rfl ?_
    show Steps p.tables e below (T53.setTop (mkF m 92 #[.val (.int p0), .val (.ref b1), .unset, .unset] [(.int p0)])) _
    refine X53.ldcInt hx hown (mvT hZ (W hw 30 rfl)) (g := (mkF m 92 #[.val (.int p0), .val (.ref b1), .unset, .unset] [(.int p0)])) rfl (hb hby at_92) _ ?_
    show Steps p.tables e below (T53.setTop (mkF m 94 #[.val (.int p0), .val (.ref b1), .unset, .unset] [(.int (2147483647 : Int32)), (.int p0)])) _
    refine XS.iand X53.here hx rfl (hb hby at_94) rfl ?_
    show Steps p.tables e below (T53.setTop (mkF m 95 #[.val (.int p0), .val (.ref b1), .unset, .unset] [(.int (p0 &&& (2147483647 : Int32)))])) _
    refine XS.bipush X53.here hx rfl (hb hby at_95) ?_
    show Steps p.tables e below (T53.setTop (mkF m 97 #[.val (.int p0), .val (.ref b1), .unset, .unset] [(.int (13 : Int32)), (.int (p0 &&& (2147483647 : Int32)))])) _
    refine iremM X53 hx rfl (hb hby at_97) rfl (by decide : ¬ ((13 : Int32) = (0 : Int32))) ?_
    show Steps p.tables e below (T53.setTop (mkF m 98 #[.val (.int p0), .val (.ref b1), .unset, .unset] [(.int ((p0 &&& (2147483647 : Int32)) % (13 : Int32)))])) _
    rw [hp0]
    show Steps p.tables e below (T53.setTop (mkF m 98 #[.val (.int p0), .val (.ref b1), .unset, .unset] [(.int (12 : Int32))])) _
    refine XS.istoreN X53.here hx rfl (hb hby at_98) rfl (l' := #[.val (.int p0), .val (.ref b1), .val (.int (12 : Int32)), .unset]) rfl ?_
    show Steps p.tables e below (T53.setTop (mkF m 99 #[.val (.int p0), .val (.ref b1), .val (.int (12 : Int32)), .unset] [])) _
    refine XS.iloadN X53.here hx rfl (hb hby at_99) rfl ?_
    show Steps p.tables e below (T53.setTop (mkF m 100 #[.val (.int p0), .val (.ref b1), .val (.int (12 : Int32)), .unset] [(.int (12 : Int32))])) _
    refine XS.iconst X53.here hx rfl (hb hby at_100) ?_
    show Steps p.tables e below (T53.setTop (mkF m 101 #[.val (.int p0), .val (.ref b1), .val (.int (12 : Int32)), .unset] [(.int (2 : Int32)), (.int (12 : Int32))])) _
    refine XS.icmpNo X53.here hx rfl (hb hby at_101) rfl (feq (by decide : ¬ ((12 : Int32) = (2 : Int32)))).1 ?_
    show Steps p.tables e below (T53.setTop (mkF m 104 #[.val (.int p0), .val (.ref b1), .val (.int (12 : Int32)), .unset] [])) _
    refine XS.iloadN X53.here hx rfl (hb hby at_104) rfl ?_
    show Steps p.tables e below (T53.setTop (mkF m 105 #[.val (.int p0), .val (.ref b1), .val (.int (12 : Int32)), .unset] [(.int (12 : Int32))])) _
    refine XS.iconst X53.here hx rfl (hb hby at_105) ?_
    show Steps p.tables e below (T53.setTop (mkF m 106 #[.val (.int p0), .val (.ref b1), .val (.int (12 : Int32)), .unset] [(.int (4 : Int32)), (.int (12 : Int32))])) _
    refine XS.icmpYes X53.here hx rfl (pc0 := 106) (pc' := 113) rfl (hb hby at_106) rfl (feq (by decide : ¬ ((12 : Int32) = (4 : Int32)))).2 (by decide) (by decide) ?_
    show Steps p.tables e below (T53.setTop (mkF m 113 #[.val (.int p0), .val (.ref b1), .val (.int (12 : Int32)), .unset] [])) _
    refine XS.iconst X53.here hx rfl (hb hby at_113) ?_
    show Steps p.tables e below (T53.setTop (mkF m 114 #[.val (.int p0), .val (.ref b1), .val (.int (12 : Int32)), .unset] [(.int (0 : Int32))])) _
    refine XS.istoreN X53.here hx rfl (hb hby at_114) rfl (l' := #[.val (.int p0), .val (.ref b1), .val (.int (12 : Int32)), .val (.int (0 : Int32))]) rfl ?_
    show Steps p.tables e below (T53.setTop (mkF m 115 #[.val (.int p0), .val (.ref b1), .val (.int (12 : Int32)), .val (.int (0 : Int32))] [])) _
    refine XS.aloadN X53.here hx rfl (hb hby at_115) rfl rfl ?_
    show Steps p.tables e below (T53.setTop (mkF m 116 #[.val (.int p0), .val (.ref b1), .val (.int (12 : Int32)), .val (.int (0 : Int32))] [(.ref b1)])) _
    refine XS.iloadN X53.here hx rfl (hb hby at_116) rfl ?_
    show Steps p.tables e below (T53.setTop (mkF m 117 #[.val (.int p0), .val (.ref b1), .val (.int (12 : Int32)), .val (.int (0 : Int32))] [(.int (12 : Int32)), (.ref b1)])) _
    refine X53.aaload hx (j := (12 : Int32)) (v := (.ref (w 12))) (by rw [e53]; exact Ar54.1) (State.isArrayOf_alike hZ.alike Ar54.2.1) rfl Ar54.2.2 hin54 hat54 (g := (mkF m 117 #[.val (.int p0), .val (.ref b1), .val (.int (12 : Int32)), .val (.int (0 : Int32))] [(.int (12 : Int32)), (.ref b1)])) rfl rfl (hb hby at_117) _ ?_
    show Steps p.tables e below (T53.setTop (mkF m 118 #[.val (.int p0), .val (.ref b1), .val (.int (12 : Int32)), .val (.int (0 : Int32))] [(.ref (w 12))])) _
    refine st55.trans ?_
    show Steps p.tables e below (T55.setTop (mkF m 121 #[.val (.int p0), .val (.ref b1), .val (.int (12 : Int32)), .val (.int (0 : Int32))] [(.int (0 : Int32))])) _
    refine XS.iloadN X55.here hx rfl (hb hby at_121) rfl ?_
    show Steps p.tables e below (T55.setTop (mkF m 122 #[.val (.int p0), .val (.ref b1), .val (.int (12 : Int32)), .val (.int (0 : Int32))] [(.int (0 : Int32)), (.int (0 : Int32))])) _
    refine XS.icmpNo X55.here hx rfl (hb hby at_122) rfl (teq (by decide : (0 : Int32) = (0 : Int32))).2 ?_
    show Steps p.tables e below (T55.setTop (mkF m 125 #[.val (.int p0), .val (.ref b1), .val (.int (12 : Int32)), .val (.int (0 : Int32))] [])) _
    refine XS.iconst X55.here hx rfl (hb hby at_125) ?_
    show Steps p.tables e below (T55.setTop (mkF m 126 #[.val (.int p0), .val (.ref b1), .val (.int (12 : Int32)), .val (.int (0 : Int32))] [(.int (1 : Int32))])) _
    refine XS.goto X55.here hx rfl (pc0 := 126) (pc' := 130) rfl (hb hby at_126) (by decide) (by decide) ?_
    show Steps p.tables e below (T55.setTop (mkF m 130 #[.val (.int p0), .val (.ref b1), .val (.int (12 : Int32)), .val (.int (0 : Int32))] [(.int (1 : Int32))])) _
    exact retN X55 hx (t := .boolean) Bd.returns (by simp) (hb hby at_130) hr
  · show OL (some (.int (1 : Int32))) Z.heap.size _ T55.heap _
    exact ⟨rfl, N55⟩
set_option maxRecDepth 65536 in
set_option maxHeartbeats 40000000 in
theorem law_all (l : Launch) (Z : State) (a0 : Array Value) (hw : ∀ d ∈ tables_1, d.before a0 Z = true) (w : Nat → Addr) (kk : Nat → ClassId) (hN : Wd Z w kk) (ws : List Jvm.Cond) (p0 : Int32) (h0 : Heap) (O0 : Old Z Z.heap.size h0) :
    MetFree l x (head1 (Jvm.Cond.code x code maxLocals ret :: ws) room_1) (fun a U => a = #[(.int p0)] ∧ Z.Warmed39 U.vm ∧ U.heap = h0) (fun _ _ _ _ _ => True) (fun _ U o U' => ∃ v L, o = .returned v ∧ OL (some (.int (1 : Int32))) Z.heap.size v U'.heap L ∧ FrameEnd U o U' L 16 128) := by
  rcases (own_split_0 p0) with hd0 | hd0 | hd0 | hd0 | hd0 | hd0 | hd0 | hd0 | hd0 | hd0 | hd0 | hd0 | hd0
  · exact law_2 l Z a0 hw w kk hN ws p0 h0 O0 hd0
  · exact law_4 l Z a0 hw w kk hN ws p0 h0 O0 hd0
  · exact law_6 l Z a0 hw w kk hN ws p0 h0 O0 hd0
  · exact law_8 l Z a0 hw w kk hN ws p0 h0 O0 hd0
  · exact law_10 l Z a0 hw w kk hN ws p0 h0 O0 hd0
  · exact law_12 l Z a0 hw w kk hN ws p0 h0 O0 hd0
  · exact law_14 l Z a0 hw w kk hN ws p0 h0 O0 hd0
  · exact law_16 l Z a0 hw w kk hN ws p0 h0 O0 hd0
  · exact law_18 l Z a0 hw w kk hN ws p0 h0 O0 hd0
  · exact law_20 l Z a0 hw w kk hN ws p0 h0 O0 hd0
  · exact law_22 l Z a0 hw w kk hN ws p0 h0 O0 hd0
  · exact law_24 l Z a0 hw w kk hN ws p0 h0 O0 hd0
  · exact law_26 l Z a0 hw w kk hN ws p0 h0 O0 hd0
set_option maxRecDepth 65536 in
set_option maxHeartbeats 40000000 in
theorem comes_1 {Post : Tables → Env → Array Value → State → Outcome → State → Prop} (hpost : ∀ tb e args s v u, (limb_1_1.after args s (.returned v) u = true ∧ limb_1_2.after args s (.returned v) u = true ∧ True) → FrameEnd s (.returned v) u (Jvm.fieldLocs frame_1_writes args s ++ Jvm.arrayLocs frame_1_arrays args s ++ Jvm.staticLocs frame_1_statics s) 16 128 → Post tb e args s (.returned v) u) :
    ArmFor flags0 classFile x code maxLocals ret World_1 tables_1 room_1 Calls_1 rest_1 Pre_1 Post := by
  intro l hfl _ _ p e ha hc hk s m args below hf hA hF happ hP
  obtain ⟨hcalls, hrest, hpre⟩ := hP
  obtain ⟨-, -, -, hnamed, -, -, -, hat⟩ := (Spec.applies_iff hf).mp happ
  obtain ⟨hg, hn⟩ := and_e (Cond.before_iff.mp (show (Jvm.Cond.and given_1 narrow_1).before args s = true from hpre))
  obtain ⟨g1, g2⟩ := and_e hg
  obtain ⟨g3, g4⟩ := and_e hn
  obtain ⟨g5, g6⟩ := and_e g4
  obtain ⟨g7, g8⟩ := and_e g6
  obtain ⟨g9, g10⟩ := and_e g8
  obtain ⟨g11, g12⟩ := and_e g10
  obtain ⟨g13, g14⟩ := and_e g12
  obtain ⟨g15, g16⟩ := and_e g14
  obtain ⟨g17, g18⟩ := and_e g16
  obtain ⟨g19, g20⟩ := and_e g18
  obtain ⟨g21, g22⟩ := and_e g20
  obtain ⟨g23, g24⟩ := and_e g22
  obtain ⟨g25, g26⟩ := and_e g24
  obtain ⟨g27, g28⟩ := and_e g26
  obtain ⟨g29, g30⟩ := and_e g28
  obtain ⟨g31, g32⟩ := and_e g30
  obtain ⟨g33, g34⟩ := and_e g32
  obtain ⟨g35, g36⟩ := and_e g34
  obtain ⟨g37, g38⟩ := and_e g36
  obtain ⟨g39, g40⟩ := and_e g38
  obtain ⟨g41, g42⟩ := and_e g40
  obtain ⟨g43, g44⟩ := and_e g42
  obtain ⟨g45, g46⟩ := and_e g44
  obtain ⟨g47, g48⟩ := and_e g46
  obtain ⟨g49, g50⟩ := and_e g48
  obtain ⟨g51, g52⟩ := and_e g50
  obtain ⟨w0, rfl⟩ : ∃ w0 : Value, args = #[w0] := by
    have hs : args.size = 1 := by simpa [Cond.value, given_1] using g1
    obtain ⟨L⟩ := args
    match L, hs with
    | [w0], _ => exact ⟨w0, rfl⟩
  have hw := fun d (hd : d ∈ tables_1) => atoms_spec (ws := Jvm.Cond.code x code maxLocals ret :: tables_1) hat d (List.mem_cons_of_mem _ hd)
  have hfit : Fit s := fun {y c} hc i hi => by
    obtain ⟨ha, rfl⟩ := Array.getElem?_eq_some_iff.mp hc
    have q := List.all_eq_true.mp ((Array.all_eq_true_iff_forall_mem.mp hF) _ (Array.getElem_mem ha)) i (List.mem_range.mpr hi)
    simpa [Array.getElem?_eq_getElem hi] using q
  obtain ⟨i0, ei0⟩ := is_v g2
  obtain rfl : w0 = (.int i0) := Option.some.inj ei0
  obtain ⟨x0, v0⟩ := exa_v g3
  obtain ⟨x1, v1⟩ := exa_v g5
  obtain ⟨x2, v2⟩ := exa_v g7
  obtain ⟨x3, v3⟩ := exa_v g9
  obtain ⟨x4, v4⟩ := exa_v g11
  obtain ⟨x5, v5⟩ := exa_v g13
  obtain ⟨x6, v6⟩ := exa_v g15
  obtain ⟨x7, v7⟩ := exa_v g17
  obtain ⟨x8, v8⟩ := exa_v g19
  obtain ⟨x9, v9⟩ := exa_v g21
  obtain ⟨x10, v10⟩ := exa_v g23
  obtain ⟨x11, v11⟩ := exa_v g25
  obtain ⟨x12, v12⟩ := exa_v g27
  have hN : Wd s (fun n => [x0, x1, x2, x3, x4, x5, x6, x7, x8, x9, x10, x11, x12].getD n 0) (fun n => [0, 0, 0, 0, 0, 0, 0, 0, 0, 0, 0, 0, 0].getD n 0) := ⟨Sta.start v0 (Or.inr ⟨(W hw 3 rfl), (W hw 4 rfl)⟩), Exa.start v0 g3, Sta.start v1 (Or.inr ⟨(W hw 3 rfl), (W hw 7 rfl)⟩), Exa.start v1 g5, Sta.start v2 (Or.inr ⟨(W hw 3 rfl), (W hw 9 rfl)⟩), Exa.start v2 g7, Sta.start v3 (Or.inr ⟨(W hw 3 rfl), (W hw 11 rfl)⟩), Exa.start v3 g9, Sta.start v4 (Or.inr ⟨(W hw 3 rfl), (W hw 13 rfl)⟩), Exa.start v4 g11, Sta.start v5 (Or.inr ⟨(W hw 3 rfl), (W hw 15 rfl)⟩), Exa.start v5 g13, Sta.start v6 (Or.inr ⟨(W hw 3 rfl), (W hw 17 rfl)⟩), Exa.start v6 g15, Sta.start v7 (Or.inr ⟨(W hw 3 rfl), (W hw 19 rfl)⟩), Exa.start v7 g17, Sta.start v8 (Or.inr ⟨(W hw 3 rfl), (W hw 21 rfl)⟩), Exa.start v8 g19, Sta.start v9 (Or.inr ⟨(W hw 3 rfl), (W hw 23 rfl)⟩), Exa.start v9 g21, Sta.start v10 (Or.inr ⟨(W hw 3 rfl), (W hw 25 rfl)⟩), Exa.start v10 g23, Sta.start v11 (Or.inr ⟨(W hw 3 rfl), (W hw 27 rfl)⟩), Exa.start v11 g25, Sta.start v12 (Or.inr ⟨(W hw 3 rfl), (W hw 29 rfl)⟩), Exa.start v12 g27, Fld.start ((fld_at v0).symm.trans (own_eqv g29 (Term.int_eval _))), Fld.start ((fld_at v2).symm.trans (own_eqv g31 (Term.int_eval _))), Fld.start ((fld_at v4).symm.trans (own_eqv g33 (Term.int_eval _))), Fld.start ((fld_at v3).symm.trans (own_eqv g35 (Term.int_eval _))), Fld.start ((fld_at v6).symm.trans (own_eqv g37 (Term.int_eval _))), Fld.start ((fld_at v5).symm.trans (own_eqv g39 (Term.int_eval _))), Fld.start ((fld_at v7).symm.trans (own_eqv g41 (Term.int_eval _))), Fld.start ((fld_at v9).symm.trans (own_eqv g43 (Term.int_eval _))), Fld.start ((fld_at v11).symm.trans (own_eqv g45 (Term.int_eval _))), Fld.start ((fld_at v1).symm.trans (own_eqv g47 (Term.int_eval _))), Fld.start ((fld_at v8).symm.trans (own_eqv g49 (Term.int_eval _))), Fld.start ((fld_at v10).symm.trans (own_eqv g51 (Term.int_eval _))), Fld.start ((fld_at v12).symm.trans (own_eqv g52 (Term.int_eval _)))⟩
  obtain ⟨n, o, h1, h2, h3, _, L, rfl, ⟨rfl, N⟩, hq⟩ := law_all l s _ hw _ _ hN tables_1 i0 s.heap (Old.start s) p e ha hc hk s m _ below hf ((Spec.applies_iff_loose hf).mp happ).1 ⟨rfl, State.Warmed39.refl s, rfl⟩ trivial
  refine ⟨n, _, h1, h2, h3, hpost _ _ _ _ _ _ ⟨Cond.after_iff.mpr rfl, Cond.after_iff.mpr (eq_i res_at (Term.int_eval (1)) rfl), trivial⟩ ⟨hq.1, hq.2.1, (hq.2.2.sift fun y hy => Or.inr (N y hy)).mono (by decide) (by decide)⟩⟩
theorem main_1_1 : Claimed_1_1 := comes_1 fun _ _ _ _ _ _ h hF => ⟨h.1, hF⟩
theorem main_1_2 : Claimed_1_2 := comes_1 fun _ _ _ _ _ _ h hF => ⟨h.2.1, hF⟩
end Jvm.Pilot.@@N@@
namespace Jvm.Pilot.@@N@@
open Jvm Jvm.ClassFile Sem Op Lib Jvm.Free Jvm.Stand Jvm.Pilot.@@N@@.Jvm.D
/-! MADE BY PROGRAM (witnessworld.py) out of the Statement's table words and the real class files: 13 classes; the members and pool entries that the words name. The judged class is class 1, her method 1. -/
namespace start1
open Jvm.ClassFile
def u (s : String) : CpInfo := .utf8 (stringToUtf16 s)
/-- a pool by its gaps: so many unusable entries, then the entry; so many at the end -/
def gap : Nat → List CpInfo → List CpInfo
  | 0, r => r
  | n + 1, r => .unusable :: gap n r
def poolList (es : List (Nat × CpInfo)) (last : Nat) : List CpInfo := es.foldr (fun e r => gap e.1 (e.2 :: r)) (gap last [])
def pool (es : List (Nat × CpInfo)) (last : Nat) : Array CpInfo := ⟨poolList es last⟩
def fileOf (pool : Array CpInfo) (this : Nat) (attrs : Array Attribute := #[]) (ms : Array MethodInfo := #[]) (fl : Nat := 33) (sup : Nat := 0) (ifs : Array Nat := #[]) (fds : Array FieldInfo := #[]) : ClassFile where
  minorVersion := 0
  majorVersion := 65
  constantPool := pool
  accessFlags := fl
  thisClass := this
  superClass := sup
  interfaces := ifs
  fields := fds
  methods := ms
  attributes := attrs
def plain (name : String) (sup : Option ClassId) : Class where
  name := name
  kind := .ordinary
  loader := none
  accessFlags := 33
  super := sup
  interfaces := #[]
  cf := none
  fields := #[]
  methods := #[]
  instanceTypes := #[]
  staticTypes := #[]
  resolved := #[]
  callSites := []
  init := .initialized
  statics := none
  mirror := none

def pool0 : Array CpInfo := pool [(5, u "<init>"), (0, u "()V"), (1, .class_ 10), (1, u "java/lang/Object")] 113

def k0m0 : Method := { name := "<init>", desc := "()V", sig := { parameters := [], returnType := none }, accessFlags := 1, code := none }
/-- java/lang/Object -/
def k0 : Class := { plain "java/lang/Object" none with
  accessFlags := 33
  interfaces := #[]
  cf := some (fileOf pool0 8 #[] #[{ accessFlags := 1, nameIndex := 5, descriptorIndex := 6, attributes := #[] }] 33 0 #[] #[])
  fields := #[]
  methods := #[k0m0]
  instanceTypes := #[]
  staticTypes := #[]
  resolved := Array.replicate 124 none
  statics := none }

def pool1 : Array CpInfo := pool [(2, .class_ 4), (1, u "java/lang/Object"), (0, u "<init>"), (0, u "()V"), (0, .class_ 8), (0, u "com/example/netloom/netloom/net/ElementKind"), (0, .fieldref 7 10), (0, .nameAndType 11 12), (0, u "NET"), (0, u "Lcom/example/netloom/netloom/net/ElementKind;"), (0, .fieldref 7 14), (0, .nameAndType 15 12), (0, u "PAGE"), (0, .fieldref 7 17), (0, .nameAndType 18 12), (0, u "PLACE"), (0, .fieldref 7 20), (0, .nameAndType 21 12), (0, u "TRANSITION"), (0, .fieldref 7 23), (0, .nameAndType 24 12), (0, u "REFERENCE_PLACE"), (0, .fieldref 7 26), (0, .nameAndType 27 12), (0, u "REFERENCE_TRANSITION"), (0, .fieldref 7 29), (0, .nameAndType 30 12), (0, u "ARC"), (0, .fieldref 7 32), (0, .nameAndType 33 12), (0, u "SORT"), (0, .fieldref 7 35), (0, .nameAndType 36 12), (0, u "PARTITION"), (0, .fieldref 7 38), (0, .nameAndType 39 12), (0, u "PARTITION_ELEMENT"), (0, .fieldref 7 41), (0, .nameAndType 42 12), (0, u "OPERATOR"), (0, .fieldref 7 44), (0, .nameAndType 45 12), (0, u "VARIABLE"), (0, .fieldref 7 47), (0, .nameAndType 48 12), (0, u "CONSTANT"), (0, .integer 2147483647), (0, .methodref 7 51), (0, .nameAndType 52 53), (0, u "isPlace"), (0, u "()Z"), (0, .class_ 55), (0, u "com/example/netloom/netloom/net/ElementKindIsPlacePinLaw"), (2, u "law"), (0, u "(I)Z")] 5

def k1m0 : Method := { name := "<init>", desc := "()V", sig := { parameters := [], returnType := none }, accessFlags := 2, code := none }
def k1c1 : Code := { maxStack := 4, maxLocals := 4, code := code, exceptionTable := #[], attributes := #[] }
def k1m1 : Method := { name := "law", desc := "(I)Z", sig := { parameters := [.int], returnType := some .boolean }, accessFlags := 9, code := some k1c1 }
/-- com/example/netloom/netloom/net/ElementKindIsPlacePinLaw -/
def k1 : Class := { plain "com/example/netloom/netloom/net/ElementKindIsPlacePinLaw" (some 0) with
  accessFlags := 49
  interfaces := #[]
  cf := some (fileOf pool1 54 #[] #[{ accessFlags := 2, nameIndex := 5, descriptorIndex := 6, attributes := #[] }, { accessFlags := 9, nameIndex := 58, descriptorIndex := 59, attributes := #[] }] 49 2 #[] #[])
  fields := #[]
  methods := #[k1m0, k1m1]
  instanceTypes := #[]
  staticTypes := #[]
  resolved := Array.replicate 65 none
  statics := none }

def pool2 : Array CpInfo := pool [(1, .class_ 2), (0, u "java/lang/constant/Constable"), (0, .class_ 4), (0, u "java/lang/Object")] 6

/-- java/lang/constant/Constable -/
def k2 : Class := { plain "java/lang/constant/Constable" (some 0) with
  accessFlags := 1537
  interfaces := #[]
  cf := some (fileOf pool2 1 #[] #[] 1537 3 #[] #[])
  fields := #[]
  methods := #[]
  instanceTypes := #[]
  staticTypes := #[]
  resolved := Array.replicate 11 none
  statics := none }

def pool3 : Array CpInfo := pool [(1, .class_ 2), (0, u "java/lang/Comparable"), (0, .class_ 4), (0, u "java/lang/Object")] 7

/-- java/lang/Comparable -/
def k3 : Class := { plain "java/lang/Comparable" (some 0) with
  accessFlags := 1537
  interfaces := #[]
  cf := some (fileOf pool3 1 #[] #[] 1537 3 #[] #[])
  fields := #[]
  methods := #[]
  instanceTypes := #[]
  staticTypes := #[]
  resolved := Array.replicate 12 none
  statics := none }

def pool4 : Array CpInfo := pool [(1, .class_ 2), (0, u "java/io/Serializable"), (0, .class_ 4), (0, u "java/lang/Object")] 2

/-- java/io/Serializable -/
def k4 : Class := { plain "java/io/Serializable" (some 0) with
  accessFlags := 1537
  interfaces := #[]
  cf := some (fileOf pool4 1 #[] #[] 1537 3 #[] #[])
  fields := #[]
  methods := #[]
  instanceTypes := #[]
  staticTypes := #[]
  resolved := Array.replicate 7 none
  statics := none }

def pool5 : Array CpInfo := pool [(2, .class_ 4), (1, u "java/lang/Enum"), (0, u "name"), (0, u "Ljava/lang/String;"), (2, u "ordinal"), (0, u "I"), (1, .class_ 14), (1, u "java/lang/Object"), (4, u "hash"), (86, .class_ 108), (1, u "java/lang/Enum$EnumDesc"), (2, .class_ 112), (0, u "java/lang/constant/Constable"), (0, .class_ 114), (0, u "java/lang/Comparable"), (0, .class_ 116), (0, u "java/io/Serializable")] 87

/-- java/lang/Enum -/
def k5 : Class := { plain "java/lang/Enum" (some 0) with
  accessFlags := 1057
  interfaces := #[2, 3, 4]
  cf := some (fileOf pool5 2 #[.nestMembers #[106]] #[] 1057 12 #[111, 113, 115] #[{ accessFlags := 18, nameIndex := 5, descriptorIndex := 6, attributes := #[] }, { accessFlags := 18, nameIndex := 9, descriptorIndex := 10, attributes := #[] }, { accessFlags := 2, nameIndex := 19, descriptorIndex := 10, attributes := #[] }])
  fields := #[{ name := "name", type := (.object "java/lang/String"), accessFlags := 18, slot := 0, constantValue := 0 }, { name := "ordinal", type := .int, accessFlags := 18, slot := 1, constantValue := 0 }, { name := "hash", type := .int, accessFlags := 2, slot := 2, constantValue := 0 }]
  methods := #[]
  instanceTypes := #[(.object "java/lang/String"), .int, .int]
  staticTypes := #[]
  resolved := Array.replicate 204 none
  statics := none }

def pool6 : Array CpInfo := pool [(1, .class_ 2), (0, u "com/example/netloom/netloom/net/ElementKind"), (2, u "NET"), (0, u "Lcom/example/netloom/netloom/net/ElementKind;"), (2, u "PAGE"), (0, .fieldref 1 11), (0, .nameAndType 12 6), (0, u "PLACE"), (2, u "TRANSITION"), (0, .fieldref 1 17), (0, .nameAndType 18 6), (0, u "REFERENCE_PLACE"), (2, u "REFERENCE_TRANSITION"), (2, u "ARC"), (2, u "SORT"), (2, u "PARTITION"), (2, u "PARTITION_ELEMENT"), (2, u "OPERATOR"), (2, u "VARIABLE"), (2, u "CONSTANT"), (2, u "$VALUES"), (0, u "[Lcom/example/netloom/netloom/net/ElementKind;"), (6, .class_ 55), (1, u "java/lang/Enum"), (8, u "word"), (0, u "Ljava/lang/String;"), (54, u "isPlace"), (0, u "()Z")] 6

def k6c0 : Code := { maxStack := 2, maxLocals := 1, code := prog_22_method_5_code, exceptionTable := #[], attributes := #[] }
def k6m0 : Method := { name := "isPlace", desc := "()Z", sig := { parameters := [], returnType := some .boolean }, accessFlags := 1, code := some k6c0 }
/-- com/example/netloom/netloom/net/ElementKind -/
def k6 : Class := { plain "com/example/netloom/netloom/net/ElementKind" (some 5) with
  accessFlags := 16433
  interfaces := #[]
  cf := some (fileOf pool6 1 #[] #[{ accessFlags := 1, nameIndex := 120, descriptorIndex := 121, attributes := #[] }] 16433 53 #[] #[{ accessFlags := 16409, nameIndex := 5, descriptorIndex := 6, attributes := #[] }, { accessFlags := 16409, nameIndex := 9, descriptorIndex := 6, attributes := #[] }, { accessFlags := 16409, nameIndex := 12, descriptorIndex := 6, attributes := #[] }, { accessFlags := 16409, nameIndex := 15, descriptorIndex := 6, attributes := #[] }, { accessFlags := 16409, nameIndex := 18, descriptorIndex := 6, attributes := #[] }, { accessFlags := 16409, nameIndex := 21, descriptorIndex := 6, attributes := #[] }, { accessFlags := 16409, nameIndex := 24, descriptorIndex := 6, attributes := #[] }, { accessFlags := 16409, nameIndex := 27, descriptorIndex := 6, attributes := #[] }, { accessFlags := 16409, nameIndex := 30, descriptorIndex := 6, attributes := #[] }, { accessFlags := 16409, nameIndex := 33, descriptorIndex := 6, attributes := #[] }, { accessFlags := 16409, nameIndex := 36, descriptorIndex := 6, attributes := #[] }, { accessFlags := 16409, nameIndex := 39, descriptorIndex := 6, attributes := #[] }, { accessFlags := 16409, nameIndex := 42, descriptorIndex := 6, attributes := #[] }, { accessFlags := 18, nameIndex := 64, descriptorIndex := 65, attributes := #[] }, { accessFlags := 4122, nameIndex := 45, descriptorIndex := 46, attributes := #[] }])
  fields := #[{ name := "NET", type := (.object "com/example/netloom/netloom/net/ElementKind"), accessFlags := 16409, slot := 0, constantValue := 0 }, { name := "PAGE", type := (.object "com/example/netloom/netloom/net/ElementKind"), accessFlags := 16409, slot := 1, constantValue := 0 }, { name := "PLACE", type := (.object "com/example/netloom/netloom/net/ElementKind"), accessFlags := 16409, slot := 2, constantValue := 0 }, { name := "TRANSITION", type := (.object "com/example/netloom/netloom/net/ElementKind"), accessFlags := 16409, slot := 3, constantValue := 0 }, { name := "REFERENCE_PLACE", type := (.object "com/example/netloom/netloom/net/ElementKind"), accessFlags := 16409, slot := 4, constantValue := 0 }, { name := "REFERENCE_TRANSITION", type := (.object "com/example/netloom/netloom/net/ElementKind"), accessFlags := 16409, slot := 5, constantValue := 0 }, { name := "ARC", type := (.object "com/example/netloom/netloom/net/ElementKind"), accessFlags := 16409, slot := 6, constantValue := 0 }, { name := "SORT", type := (.object "com/example/netloom/netloom/net/ElementKind"), accessFlags := 16409, slot := 7, constantValue := 0 }, { name := "PARTITION", type := (.object "com/example/netloom/netloom/net/ElementKind"), accessFlags := 16409, slot := 8, constantValue := 0 }, { name := "PARTITION_ELEMENT", type := (.object "com/example/netloom/netloom/net/ElementKind"), accessFlags := 16409, slot := 9, constantValue := 0 }, { name := "OPERATOR", type := (.object "com/example/netloom/netloom/net/ElementKind"), accessFlags := 16409, slot := 10, constantValue := 0 }, { name := "VARIABLE", type := (.object "com/example/netloom/netloom/net/ElementKind"), accessFlags := 16409, slot := 11, constantValue := 0 }, { name := "CONSTANT", type := (.object "com/example/netloom/netloom/net/ElementKind"), accessFlags := 16409, slot := 12, constantValue := 0 }, { name := "word", type := (.object "java/lang/String"), accessFlags := 18, slot := 3, constantValue := 0 }, { name := "$VALUES", type := (.array (.object "com/example/netloom/netloom/net/ElementKind")), accessFlags := 4122, slot := 13, constantValue := 0 }]
  methods := #[k6m0]
  instanceTypes := #[(.object "java/lang/String"), .int, .int, (.object "java/lang/String")]
  staticTypes := #[(.object "com/example/netloom/netloom/net/ElementKind"), (.object "com/example/netloom/netloom/net/ElementKind"), (.object "com/example/netloom/netloom/net/ElementKind"), (.object "com/example/netloom/netloom/net/ElementKind"), (.object "com/example/netloom/netloom/net/ElementKind"), (.object "com/example/netloom/netloom/net/ElementKind"), (.object "com/example/netloom/netloom/net/ElementKind"), (.object "com/example/netloom/netloom/net/ElementKind"), (.object "com/example/netloom/netloom/net/ElementKind"), (.object "com/example/netloom/netloom/net/ElementKind"), (.object "com/example/netloom/netloom/net/ElementKind"), (.object "com/example/netloom/netloom/net/ElementKind"), (.object "com/example/netloom/netloom/net/ElementKind"), (.array (.object "com/example/netloom/netloom/net/ElementKind"))]
  resolved := Array.replicate 128 none
  statics := some 0 }

def pool7 : Array CpInfo := pool [(1, u "java/lang/Cloneable"), (0, .class_ 1), (0, u "java/lang/Object"), (0, .class_ 3)] 3

/-- java/lang/Cloneable -/
def k7 : Class := { plain "java/lang/Cloneable" (some 0) with
  accessFlags := 1537
  interfaces := #[]
  cf := some (fileOf pool7 2 #[] #[] 1537 4 #[] #[])
  fields := #[]
  methods := #[]
  instanceTypes := #[]
  staticTypes := #[]
  resolved := Array.replicate 8 none
  statics := none }

/-- the primitive byte -/
def k8 : Class := { plain "byte" none with kind := .primitive 'B', accessFlags := 0x411 }
/-- [B -/
def k9 : Class := { plain "[B" (some 0) with kind := .array 8 .byte, interfaces := #[7, 4], accessFlags := 1041 }

/-- the primitive int -/
def k10 : Class := { plain "int" none with kind := .primitive 'I', accessFlags := 0x411 }
/-- [I -/
def k11 : Class := { plain "[I" (some 0) with kind := .array 10 .int, interfaces := #[7, 4], accessFlags := 1041 }

/-- [Lcom/example/netloom/netloom/net/ElementKind; -/
def k12 : Class := { plain "[Lcom/example/netloom/netloom/net/ElementKind;" (some 0) with kind := .array 6 (.object "com/example/netloom/netloom/net/ElementKind"), interfaces := #[7, 4], accessFlags := 1041 }

def heap : Heap := #[{ cls := 6, slots := #[.ref 1, .ref 2, .ref 3, .ref 4, .ref 5, .ref 6, .ref 7, .ref 8, .ref 9, .ref 10, .ref 11, .ref 12, .ref 13, .null], vm := .statics 6 },
  { cls := 6, slots := #[.null, .int 0, .int 0, .null], vm := .none },
  { cls := 6, slots := #[.null, .int 1, .int 0, .null], vm := .none },
  { cls := 6, slots := #[.null, .int 2, .int 0, .null], vm := .none },
  { cls := 6, slots := #[.null, .int 3, .int 0, .null], vm := .none },
  { cls := 6, slots := #[.null, .int 4, .int 0, .null], vm := .none },
  { cls := 6, slots := #[.null, .int 5, .int 0, .null], vm := .none },
  { cls := 6, slots := #[.null, .int 6, .int 0, .null], vm := .none },
  { cls := 6, slots := #[.null, .int 7, .int 0, .null], vm := .none },
  { cls := 6, slots := #[.null, .int 8, .int 0, .null], vm := .none },
  { cls := 6, slots := #[.null, .int 9, .int 0, .null], vm := .none },
  { cls := 6, slots := #[.null, .int 10, .int 0, .null], vm := .none },
  { cls := 6, slots := #[.null, .int 11, .int 0, .null], vm := .none },
  { cls := 6, slots := #[.null, .int 12, .int 0, .null], vm := .none }]
def classes : Array Class := #[k0, k1, k2, k3, k4, k5, k6, k7, k8, k9, k10, k11, k12]
def interned : List (Array UInt16 × Addr) := []
def slotsUsed : Nat := 66
def theMethod : MethodId := ⟨1, 1⟩
def args0 : Array Value := #[.int 5]
def aboutOver (below : List Frame) : State where
  vm := { classes := classes, interned := interned.toArray }
  heap := heap
  slotsUsed := slotsUsed
  threads := #[{ frames := .invoking theMethod args0 :: below }]
def below0 : List Frame := [.native { method := ⟨0, 0⟩, args := #[] }]
def about1 : State := aboutOver below0
def p0 : Program := .bare "" "" ""
def e0 : Env := launch0.env 0 0 0
theorem w_frames : about1.frames = Frame.invoking theMethod args0 :: below0 := rfl
set_option maxRecDepth 65536 in
theorem w_args : argsFit about1.vm theMethod args0 = true := by decide +kernel
set_option maxRecDepth 65536 in
theorem w_heap : heapFits about1 = true := by decide +kernel
set_option maxRecDepth 65536 in
theorem w_runnable : about1.curStatus? = some .runnable := by decide +kernel
set_option maxRecDepth 65536 in
theorem w_alone : about1.alone = true := by decide +kernel
set_option maxRecDepth 65536 in
theorem w_named : about1.methodNamed? x = some theMethod := by decide +kernel
set_option maxRecDepth 65536 in
theorem w_hears : about1.hears theMethod below0 = true := by decide +kernel
set_option maxRecDepth 65536 in
theorem w_ripe : about1.ripe theMethod args0 below0 = true := by decide +kernel
theorem w_running : about1.status = .running := rfl
set_option maxRecDepth 65536 in
theorem w_room : about1.hasRoom e0.platform room_1 = true :=
  launch0.hasRoom_least _ room_1 (by decide +kernel) (by decide +kernel) (by decide +kernel) (by decide +kernel) (by decide +kernel) (by decide +kernel)
theorem allAtoms_all (ts : List Jvm.Cond) (a : Array Jvm.Value) (st : Jvm.State) : (allAtoms ts).before a st = ts.all (fun c => c.before a st) := by
  induction ts with
  | nil => rfl
  | cons c t ih =>
    show (Jvm.Cond.and c (allAtoms t)).before a st = _
    rw [Jvm.Cond.before_and, ih, List.all_cons]
def words1 : List Jvm.Cond := Jvm.Cond.code x code maxLocals ret :: tables_1
/-- a 'code' word, met by the world's own term for the bytes: nothing is compared byte by byte -/
theorem code_word {y : MethodName} {bytes : ByteArray} {mx : Nat} {rt : Option FieldType} {a : Array Value} {s : State} {m : MethodId} {meth : Method} {c : Code} (h1 : s.methodNamed? y = some m) (h2 : s.vm.method? m = some meth) (h3 : meth.code = some c) (h4 : c.code = bytes)
    (h5 : (c.maxLocals == mx && c.exceptionTable.isEmpty && decide (c.maxStack ≤ mostOperands) && decide (meth.sig.returnType = rt) && !meth.locks && decide (parseMethodDescriptor y.desc = some meth.sig)) = true) : (Jvm.Cond.code y bytes mx rt).before a s = true := by
  simp only [Bool.and_eq_true, beq_iff_eq, Bool.not_eq_true', decide_eq_true_eq] at h5
  obtain ⟨⟨⟨⟨⟨g1, g2⟩, g3⟩, g4⟩, g5⟩, g6⟩ := h5
  simp [Cond.before, Cond.holds, Cond.value, h1, h2, h3, h4, g1, g2, g3, g4, g5, g6]
def isCode : Jvm.Cond → Bool
  | .code _ _ _ _ => true
  | _ => false
theorem all_split {L : List Jvm.Cond} {P : Jvm.Cond → Bool} (h1 : L.all (fun c => isCode c || P c) = true) (h2 : ∀ c ∈ L.filter isCode, P c = true) : L.all P = true := by
  refine List.all_eq_true.mpr fun c hc => ?_
  have h := List.all_eq_true.mp h1 c hc
  rcases Bool.eq_false_or_eq_true (isCode c) with hi | hi
  · exact h2 c (List.mem_filter.mpr ⟨hc, hi⟩)
  · simpa [hi] using h
set_option maxRecDepth 65536 in
theorem w_c0 : (Jvm.Cond.code x code maxLocals ret).before args0 about1 = true := code_word (m := ⟨1, 1⟩) (meth := k1m1) (c := k1c1) (by decide +kernel) rfl rfl rfl (by decide +kernel)
set_option maxRecDepth 65536 in
theorem w_c1 : (Jvm.Cond.code ({ cls := "com/example/netloom/netloom/net/ElementKind", name := "isPlace", desc := "()Z" } : Jvm.MethodName) prog_22_method_5_code (1 : Nat) (Option.some Jvm.ClassFile.FieldType.boolean)).before args0 about1 = true := code_word (m := ⟨6, 0⟩) (meth := k6m0) (c := k6c0) (by decide +kernel) rfl rfl rfl (by decide +kernel)
def codes1 : List Jvm.Cond := [Jvm.Cond.code x code maxLocals ret, Jvm.Cond.code ({ cls := "com/example/netloom/netloom/net/ElementKind", name := "isPlace", desc := "()Z" } : Jvm.MethodName) prog_22_method_5_code (1 : Nat) (Option.some Jvm.ClassFile.FieldType.boolean)]
set_option maxRecDepth 65536 in
theorem codes_eq : words1.filter isCode = codes1 := rfl
theorem w_codes : ∀ c ∈ words1.filter isCode, c.before args0 about1 = true := by
  rw [codes_eq]
  intro c hc
  simp only [codes1, List.mem_cons, List.not_mem_nil, or_false] at hc
  rcases hc with rfl | rfl
  · exact w_c0
  · exact w_c1
set_option maxRecDepth 65536 in
theorem w_t1 : (words1.take 24).all (fun c => isCode c || c.before args0 about1) = true := by decide +kernel
set_option maxRecDepth 65536 in
theorem w_t2 : (words1.drop 24).all (fun c => isCode c || c.before args0 about1) = true := by decide +kernel
theorem w_tables : (allAtoms (Jvm.Cond.code x code maxLocals ret :: tables_1)).before args0 about1 = true := by
  rw [allAtoms_all]
  show words1.all (fun c => c.before args0 about1) = true
  refine all_split ?_ w_codes
  rw [← List.take_append_drop 24 words1, List.all_append, w_t1, w_t2]
  rfl
set_option maxRecDepth 65536 in
theorem w_case : (Jvm.Cond.and given_1 narrow_1).before args0 about1 = true := by decide +kernel
theorem w_applies : (headSpec (Jvm.Cond.code x code maxLocals ret :: tables_1) room_1).applies x e0.platform about1 = true :=
  (Spec.applies_iff w_frames).mpr ⟨w_running, w_runnable, w_alone, w_named, w_hears, w_ripe, w_room, w_tables⟩
theorem atStart : AtStart classFile x code maxLocals ret World_1 tables_1 room_1 Calls_1 rest_1 Pre_1 launch0 p0 e0 about1 theMethod args0 below0 :=
  ⟨lists_1, trivial, launch0.admits_env _ _ _, launch0.least_env, fairChoices_fair.cas, fairChoices_fair.clock, w_frames, w_args, w_heap, w_applies, trivial, trivial, w_case⟩
end start1
theorem witness_1 : WitnessClaimed_1 := ⟨start1.p0, start1.e0, start1.about1, start1.theMethod, start1.args0, start1.below0, start1.atStart⟩
end Jvm.Pilot.@@N@@
