import JvmDerived
import JvmDerived.Pilot.@@N@@Statement
import JvmDerived.Pilot.@@N@@Code
set_option linter.unusedVariables false
set_option linter.unusedSimpArgs false
namespace Jvm.RoadKit
open Sem ClassFile Op Lib Jvm.Stand Jvm.Free Jvm.LawKit
section New
variable {p : Program} {l : Launch} {e : Env} {R : Room} {s : State} {m : MethodId} {args : Array Value} {below : List Frame} {meth : Method} {c : Code} {T : State} {locs : List Loc} {cells slots : Nat}
theorem retI (X : Stand p l e R s m args below meth c T locs cells slots) (hx : p.tables.exec = Jvm.exec) {pc : Nat} {Ls : Array Slot} {z : Int32} {rest : List Value} (hret : meth.sig.returnType = some .int) (hd : decode c.code pc = .ok (.ireturn, 1)) {fs : List Frame}
    (hl : ∀ (f : JFrame) (acts : List Action), f.method = m → f.locked = none → f.entered = [] → (doReturn e (T.setTop f) acts (some (.int z))).1 = T.setFrames fs) : Steps p.tables e below (T.setTop (mkF m pc Ls (.int z :: rest))) (T.setFrames fs) :=
  retOut X hx hret rfl (Or.inl ⟨rfl, Or.inl rfl, z, rfl⟩) hd hl
end New
end Jvm.RoadKit
namespace Jvm.Pilot.@@N@@
open Jvm Jvm.ClassFile Sem Op Lib Jvm.Free Jvm.Stand Jvm.LawKit Jvm.RoadKit Bundle Jvm.Pilot.@@N@@.Jvm.D
theorem W {a0 : Array Value} {Z : State} (hw : ∀ d ∈ tables_1, d.before a0 Z = true) (i : Nat) {d : Jvm.Cond} (h : tables_1[i]? = some d) : d.before a0 Z = true := hw d (List.mem_of_getElem? h)
theorem own_eqv {args : Array Value} {first s : State} {o : Option Outcome} {idx : List Nat} {a b : Term} {x : Value} (h : (Cond.eq a b).value args first o s idx = some true) (hb : b.eval args first o idx s = some x) : a.eval args first o idx s = some x := by
  simp only [Cond.value, hb] at h
  cases ha : a.eval args first o idx s with
  | none => rw [ha] at h; cases h
  | some y => rw [ha] at h; cases x <;> cases y <;> simp at h <;> first | rw [h] | rfl
theorem own_cat {v : Value} (h : v.isRef = true) : v.category = 1 := by rcases ref_cases h with rfl | ⟨a, rfl⟩ <;> rfl
def OL (val : Option Value) (n0 : Nat) (v : Option Value) (h : Heap) (L : List Loc) : Prop := v = val ∧ Fr n0 L
def OQ (val : Option Value) (h0 : Heap) (n0 : Nat) (v : Option Value) (h : Heap) (L : List Loc) : Prop := v = val ∧ Fr n0 L ∧ h = h0
theorem own_nz {args : Array Value} {s : State} {t : Term} {c : Int32} (ev : t.eval args s none [] s = some (.int c)) (h : (Cond.not (Cond.eq t (.int (0 : Int32)))).value args s none s [] = some true) : ¬ (c = (0 : Int32)) := fun q => by
  have h1 := not_v h
  have h2 : (Cond.eq t (.int (0 : Int32))).value args s none s [] = some true := eq_i ev (Term.int_eval _) (by rw [q])
  rw [h2] at h1
  cases h1
theorem own_byte (x : Int32) : ¬ ((255 : Int32) < ((x &&& (255 : Int32)).toUInt32.toUInt16.toUInt32.toInt32)) := by
  have h1 := c_mask x (255 : Int32) 8 (by decide) (by decide)
  have h2 := c_i2c (x &&& (255 : Int32))
  have e : (255 : Int32).toInt = 255 := by decide
  rw [Int32.lt_iff_toInt_lt]
  omega
def Wd (Z : State) (w : Nat → Addr) (kk : Nat → ClassId) (iw : Nat → Int32) (vw : Nat → Value) : Prop :=
  Sta Z Z.heap "com/example/netloom/netloom/xml/XmlGraphics$Form" "ANNOTATION" "Lcom/example/netloom/netloom/xml/XmlGraphics$Form;" (.ref (w 0)) ∧
  Exa Z Z.heap (w 0) "com/example/netloom/netloom/xml/XmlGraphics$Form" ∧
  Sta Z Z.heap "com/example/netloom/netloom/xml/XmlGraphics$Form" "EDGE" "Lcom/example/netloom/netloom/xml/XmlGraphics$Form;" (.ref (w 1)) ∧
  Exa Z Z.heap (w 1) "com/example/netloom/netloom/xml/XmlGraphics$Form" ∧
  Sta Z Z.heap "com/example/netloom/netloom/xml/XmlGraphics$Form" "NODE" "Lcom/example/netloom/netloom/xml/XmlGraphics$Form;" (.ref (w 2)) ∧
  Exa Z Z.heap (w 2) "com/example/netloom/netloom/xml/XmlGraphics$Form" ∧
  Sta Z Z.heap "java/lang/String" "COMPACT_STRINGS" "Z" (.int (iw 0)) ∧
  ¬ ((iw 0) = (0 : Int32)) ∧
  Sta Z Z.heap "jdk/internal/util/Preconditions" "SIOOBE_FORMATTER" "Ljava/util/function/BiFunction;" (vw 0) ∧
  (vw 0).isRef = true
theorem own_split_0 (x : Int32) : (x &&& (3 : Int32)) = (0 : Int32) ∨ (x &&& (3 : Int32)) = (1 : Int32) ∨ (x &&& (3 : Int32)) = (2 : Int32) ∨ (x &&& (3 : Int32)) = (3 : Int32) := by
  have h1 := c_mask x (3 : Int32) 2 (by decide) (by decide)
  simp only [← Int32.toInt_inj, h1, (by decide : (0 : Int32).toInt = 0), (by decide : (1 : Int32).toInt = 1), (by decide : (2 : Int32).toInt = 2), (by decide : (3 : Int32).toInt = 3)]
  omega
theorem d_method_3_code_0 : decode method_3_code 0 = .ok (.iload_n 0, 1) := by decide +kernel
theorem d_method_3_code_1 : decode method_3_code 1 = .ok (.ifCond .ne 5, 3) := by decide +kernel
theorem d_method_3_code_4 : decode method_3_code 4 = .ok (.aconst_null, 1) := by decide +kernel
theorem d_method_3_code_5 : decode method_3_code 5 = .ok (.areturn, 1) := by decide +kernel
theorem ef_0 (m : MethodId) (x0 : Value) (h0 : x0.category = 1) : entryFrame m #[x0] 1 = mkF m 0 #[.val x0] [] := by first | (simp [entryFrame, mkF, argsToLocals, h0]; done) | rfl
theorem pn_0 : plainName "com/example/netloom/netloom/xml/OpenAnnotationsCarriesGraphicsPinLaw" = true := by first | (simp [plainName, overriddenIn]; done) | decide +kernel
set_option maxRecDepth 65536 in
set_option maxHeartbeats 40000000 in
theorem rm_1 (l : Launch) (Z : State) (a0 : Array Value) (hw : ∀ d ∈ tables_1, d.before a0 Z = true) (w : Nat → Addr) (kk : Nat → ClassId) (iw : Nat → Int32) (vw : Nat → Value) (hN : Wd Z w kk iw vw) (ws : List Jvm.Cond)  (h0 : Heap) (O0 : Old Z Z.heap.size h0) :
    MetFree l (⟨"com/example/netloom/netloom/xml/OpenAnnotationsCarriesGraphicsPinLaw", "pick", "(I)Lcom/example/netloom/netloom/xml/XmlGraphics$Form;"⟩ : MethodName) (head1 (Jvm.Cond.code (⟨"com/example/netloom/netloom/xml/OpenAnnotationsCarriesGraphicsPinLaw", "pick", "(I)Lcom/example/netloom/netloom/xml/XmlGraphics$Form;"⟩ : MethodName) method_3_code 1 (some (.object "com/example/netloom/netloom/xml/XmlGraphics$Form")) :: ws) ({ frames := 0, cells := 0, slots := 0, locals := 0 } : Room)) (fun a U => a = #[(.int (0 : Int32))] ∧ Z.Warmed39 U.vm ∧ U.heap = h0) (fun _ _ _ _ _ => True) (fun _ U o U' => ∃ v L, o = .returned v ∧ OQ (some .null) h0 Z.heap.size v U'.heap L ∧ FrameEnd U o U' L ({ frames := 0, cells := 0, slots := 0, locals := 0 } : Room).cells ({ frames := 0, cells := 0, slots := 0, locals := 0 } : Room).slots) := by
  have hN' := hN
  obtain ⟨hS0, hE0, hS1, hE1, hS2, hE2, hI0, hJ0, hR0, hRr0⟩ := hN'
  refine MetFree.of_bodySF (plainFor_of_name pn_0) hisR ?_
  intro p e s m args below meth c s₁ Bd hml0 hP hK
  obtain ⟨rfl, hZ, hh⟩ := hP
  have hx := Bd.exec
  have hby := Bd.bytes
  have hml : c.maxLocals = 1 := hml0
  have hown : s.vm.findClass "com/example/netloom/netloom/xml/OpenAnnotationsCarriesGraphicsPinLaw" = some m.cls := findClass_of_methodNamed Bd.named
  have hnm := (name_of_methodNamed Bd.named Bd.method).1
  have X0 : Stand p l e ({ frames := 0, cells := 0, slots := 0, locals := 0 } : Room) s m #[(.int (0 : Int32))] below meth c s₁ [] 0 0 := Stand.of_body Bd
  have e0 : s₁.heap = h0 := by rw [← hh, Bd.state]; rfl
  have N0 := Fr.nil Z.heap.size
  have pre0 : ∀ t, Steps p.tables e below (s₁.setTop (mkF m 0 #[.val (.int (0 : Int32))] [])) t → Steps p.tables e below (s₁.setTop (entryFrame m #[(.int (0 : Int32))] 1)) t := fun t k => castTop (ef_0 m (.int (0 : Int32)) rfl) k
  obtain ⟨fs, hr, hrun, hended, hW, hsame⟩ := X0.leave (v := some .null) (fun h => by rw [Bd.returns] at h; cases h)
  refine ⟨_, _, pre0 _ ?_, hrun, hended, _, _, rfl, ?_, ⟨_, rfl⟩, hW, hsame.mono (by decide) (by decide)⟩
  · show Steps p.tables e below (s₁.setTop (mkF m 0 #[.val (.int (0 : Int32))] [])) _
    refine XS.iloadN X0.here hx rfl (hb hby d_method_3_code_0) rfl ?_
    show Steps p.tables e below (s₁.setTop (mkF m 1 #[.val (.int (0 : Int32))] [(.int (0 : Int32))])) _
    refine XS.ifNo X0.here hx rfl (hb hby d_method_3_code_1) rfl ((if0 _ _).trans (teq (by decide : (0 : Int32) = (0 : Int32))).2) ?_
    show Steps p.tables e below (s₁.setTop (mkF m 4 #[.val (.int (0 : Int32))] [])) _
    refine XS.aconstNull X0.here hx rfl (hb hby d_method_3_code_4) ?_
    show Steps p.tables e below (s₁.setTop (mkF m 5 #[.val (.int (0 : Int32))] [.null])) _
    exact retOut X0 hx Bd.returns rfl (Or.inr (Or.inr (Or.inr (Or.inr ⟨rfl, rfl, rfl⟩)))) (hb hby d_method_3_code_5) hr
  · show OQ (some .null) h0 Z.heap.size _ s₁.heap _
    rw [e0]
    exact ⟨rfl, N0, rfl⟩
theorem pd_0 : parseMethodDescriptor "(I)Lcom/example/netloom/netloom/xml/XmlGraphics$Form;" = some ⟨[.int], some (.object "com/example/netloom/netloom/xml/XmlGraphics$Form")⟩ := by decide +kernel
theorem d_jdk_42_method_139_code_0 : decode jdk_42_method_139_code 0 = .ok (.getstatic 38, 3) := by decide +kernel
theorem d_jdk_42_method_139_code_3 : decode jdk_42_method_139_code 3 = .ok (.ifCond .eq 23, 3) := by decide +kernel
theorem d_jdk_42_method_139_code_6 : decode jdk_42_method_139_code 6 = .ok (.iload_n 0, 1) := by decide +kernel
theorem d_jdk_42_method_139_code_7 : decode jdk_42_method_139_code 7 = .ok (.invokestatic 1015, 3) := by decide +kernel
theorem d_jdk_43_method_3_code_0 : decode jdk_43_method_3_code 0 = .ok (.iload_n 0, 1) := by decide +kernel
theorem d_jdk_43_method_3_code_1 : decode jdk_43_method_3_code 1 = .ok (.sipush 255, 3) := by decide +kernel
theorem d_jdk_43_method_3_code_4 : decode jdk_43_method_3_code 4 = .ok (.if_icmp .gt 7, 3) := by decide +kernel
theorem d_jdk_43_method_3_code_7 : decode jdk_43_method_3_code 7 = .ok (.iconst 1, 1) := by decide +kernel
theorem d_jdk_43_method_3_code_8 : decode jdk_43_method_3_code 8 = .ok (.goto 4, 3) := by decide +kernel
theorem d_jdk_43_method_3_code_12 : decode jdk_43_method_3_code 12 = .ok (.ireturn, 1) := by decide +kernel
theorem pn_1 : plainName "java/lang/StringLatin1" = true := by first | (simp [plainName, overriddenIn]; done) | decide +kernel
set_option maxRecDepth 65536 in
set_option maxHeartbeats 40000000 in
theorem rm_2 (l : Launch) (Z : State) (a0 : Array Value) (hw : ∀ d ∈ tables_1, d.before a0 Z = true) (w : Nat → Addr) (kk : Nat → ClassId) (iw : Nat → Int32) (vw : Nat → Value) (hN : Wd Z w kk iw vw) (ws : List Jvm.Cond) (p0 : Int32) (h0 : Heap) (O0 : Old Z Z.heap.size h0) (hp0 : ¬ ((255 : Int32) < p0)) :
    MetFree l (⟨"java/lang/StringLatin1", "canEncode", "(C)Z"⟩ : MethodName) (head1 (Jvm.Cond.code (⟨"java/lang/StringLatin1", "canEncode", "(C)Z"⟩ : MethodName) jdk_43_method_3_code 1 (some .boolean) :: ws) ({ frames := 0, cells := 0, slots := 0, locals := 0 } : Room)) (fun a U => a = #[(.int p0)] ∧ Z.Warmed39 U.vm ∧ U.heap = h0) (fun _ _ _ _ _ => True) (fun _ U o U' => ∃ v L, o = .returned v ∧ OQ (some (.int (1 : Int32))) h0 Z.heap.size v U'.heap L ∧ FrameEnd U o U' L ({ frames := 0, cells := 0, slots := 0, locals := 0 } : Room).cells ({ frames := 0, cells := 0, slots := 0, locals := 0 } : Room).slots) := by
  have hN' := hN
  obtain ⟨hS0, hE0, hS1, hE1, hS2, hE2, hI0, hJ0, hR0, hRr0⟩ := hN'
  refine MetFree.of_bodySF (plainFor_of_name pn_1) hisR ?_
  intro p e s m args below meth c s₁ Bd hml0 hP hK
  obtain ⟨rfl, hZ, hh⟩ := hP
  have hx := Bd.exec
  have hby := Bd.bytes
  have hml : c.maxLocals = 1 := hml0
  have hown : s.vm.findClass "java/lang/StringLatin1" = some m.cls := findClass_of_methodNamed Bd.named
  have hnm := (name_of_methodNamed Bd.named Bd.method).1
  have X0 : Stand p l e ({ frames := 0, cells := 0, slots := 0, locals := 0 } : Room) s m #[(.int p0)] below meth c s₁ [] 0 0 := Stand.of_body Bd
  have e0 : s₁.heap = h0 := by rw [← hh, Bd.state]; rfl
  have N0 := Fr.nil Z.heap.size
  have pre0 : ∀ t, Steps p.tables e below (s₁.setTop (mkF m 0 #[.val (.int p0)] [])) t → Steps p.tables e below (s₁.setTop (entryFrame m #[(.int p0)] 1)) t := fun t k => castTop (ef_0 m (.int p0) rfl) k
  obtain ⟨fs, hr, hrun, hended, hW, hsame⟩ := X0.leave (v := some (.int (1 : Int32))) (fun h => by rw [Bd.returns] at h; cases h)
  refine ⟨_, _, pre0 _ ?_, hrun, hended, _, _, rfl, ?_, ⟨_, rfl⟩, hW, hsame.mono (by decide) (by decide)⟩
  · show Steps p.tables e below (s₁.setTop (mkF m 0 #[.val (.int p0)] [])) _
    refine XS.iloadN X0.here hx rfl (hb hby d_jdk_43_method_3_code_0) rfl ?_
    show Steps p.tables e below (s₁.setTop (mkF m 1 #[.val (.int p0)] [(.int p0)])) _
    refine XS.sipush X0.here hx rfl (hb hby d_jdk_43_method_3_code_1) ?_
    show Steps p.tables e below (s₁.setTop (mkF m 4 #[.val (.int p0)] [(.int (255 : Int32)), (.int p0)])) _
    refine XS.icmpNo X0.here hx rfl (hb hby d_jdk_43_method_3_code_4) rfl (flt hp0).2.2.1 ?_
    show Steps p.tables e below (s₁.setTop (mkF m 7 #[.val (.int p0)] [])) _
    refine XS.iconst X0.here hx rfl (hb hby d_jdk_43_method_3_code_7) ?_
    show Steps p.tables e below (s₁.setTop (mkF m 8 #[.val (.int p0)] [(.int (1 : Int32))])) _
    refine XS.goto X0.here hx rfl (pc0 := 8) (pc' := 12) rfl (hb hby d_jdk_43_method_3_code_8) (by decide) (by decide) ?_
    show Steps p.tables e below (s₁.setTop (mkF m 12 #[.val (.int p0)] [(.int (1 : Int32))])) _
    exact retN X0 hx (t := .boolean) Bd.returns (by simp) (hb hby d_jdk_43_method_3_code_12) hr
  · show OQ (some (.int (1 : Int32))) h0 Z.heap.size _ s₁.heap _
    rw [e0]
    exact ⟨rfl, N0, rfl⟩
theorem pd_1 : parseMethodDescriptor "(C)Z" = some ⟨[.char], some .boolean⟩ := by decide +kernel
theorem d_jdk_42_method_139_code_10 : decode jdk_42_method_139_code 10 = .ok (.ifCond .eq 16, 3) := by decide +kernel
theorem d_jdk_42_method_139_code_13 : decode jdk_42_method_139_code 13 = .ok (.new 10, 3) := by decide +kernel
theorem d_jdk_42_method_139_code_16 : decode jdk_42_method_139_code 16 = .ok (.dup, 1) := by decide +kernel
theorem d_jdk_42_method_139_code_17 : decode jdk_42_method_139_code 17 = .ok (.iload_n 0, 1) := by decide +kernel
theorem d_jdk_42_method_139_code_18 : decode jdk_42_method_139_code 18 = .ok (.invokestatic 1018, 3) := by decide +kernel
theorem d_jdk_43_method_46_code_0 : decode jdk_43_method_46_code 0 = .ok (.iconst 1, 1) := by decide +kernel
theorem d_jdk_43_method_46_code_1 : decode jdk_43_method_46_code 1 = .ok (.newarray .byte, 2) := by decide +kernel
theorem d_jdk_43_method_46_code_3 : decode jdk_43_method_46_code 3 = .ok (.dup, 1) := by decide +kernel
theorem d_jdk_43_method_46_code_4 : decode jdk_43_method_46_code 4 = .ok (.iconst 0, 1) := by decide +kernel
theorem d_jdk_43_method_46_code_5 : decode jdk_43_method_46_code 5 = .ok (.iload_n 0, 1) := by decide +kernel
theorem d_jdk_43_method_46_code_6 : decode jdk_43_method_46_code 6 = .ok (.i2b, 1) := by decide +kernel
theorem d_jdk_43_method_46_code_7 : decode jdk_43_method_46_code 7 = .ok (.bastore, 1) := by decide +kernel
theorem d_jdk_43_method_46_code_8 : decode jdk_43_method_46_code 8 = .ok (.areturn, 1) := by decide +kernel
def Qd_0 (Z : State) (w : Nat → Addr) (kk : Nat → ClassId) (iw : Nat → Int32) (vw : Nat → Value) (p0 : Int32) (h0 : Heap) (n0 : Nat) (v : Option Value) (h : Heap) (L : List Loc) : Prop := ∃ (c1 : Addr) (kc1 : ClassId), v = some (.ref c1) ∧ Fr n0 L ∧ Keep h0 h [] ∧ h0.size ≤ c1 ∧ Arv Z h c1 kc1 .byte (1 : Int32) [(.int ((p0.toInt8.toInt32).toInt8.toInt32))] (.int (0 : Int32))
set_option maxRecDepth 65536 in
set_option maxHeartbeats 40000000 in
theorem rm_3 (l : Launch) (Z : State) (a0 : Array Value) (hw : ∀ d ∈ tables_1, d.before a0 Z = true) (w : Nat → Addr) (kk : Nat → ClassId) (iw : Nat → Int32) (vw : Nat → Value) (hN : Wd Z w kk iw vw) (ws : List Jvm.Cond) (p0 : Int32) (h0 : Heap) (O0 : Old Z Z.heap.size h0) :
    MetFree l (⟨"java/lang/StringLatin1", "toBytes", "(C)[B"⟩ : MethodName) (head1 (Jvm.Cond.code (⟨"java/lang/StringLatin1", "toBytes", "(C)[B"⟩ : MethodName) jdk_43_method_46_code 1 (some (.array .byte)) :: ws) ({ frames := 0, cells := 1, slots := 1, locals := 0 } : Room)) (fun a U => a = #[(.int p0)] ∧ Z.Warmed39 U.vm ∧ U.heap = h0) (fun _ _ _ _ _ => True) (fun _ U o U' => ∃ v L, o = .returned v ∧ Qd_0 Z w kk iw vw p0 h0 Z.heap.size v U'.heap L ∧ FrameEnd U o U' L ({ frames := 0, cells := 1, slots := 1, locals := 0 } : Room).cells ({ frames := 0, cells := 1, slots := 1, locals := 0 } : Room).slots) := by
  have hN' := hN
  obtain ⟨hS0, hE0, hS1, hE1, hS2, hE2, hI0, hJ0, hR0, hRr0⟩ := hN'
  refine MetFree.of_bodySF (plainFor_of_name pn_1) hisR ?_
  intro p e s m args below meth c s₁ Bd hml0 hP hK
  obtain ⟨rfl, hZ, hh⟩ := hP
  have hx := Bd.exec
  have hby := Bd.bytes
  have hml : c.maxLocals = 1 := hml0
  have hown : s.vm.findClass "java/lang/StringLatin1" = some m.cls := findClass_of_methodNamed Bd.named
  have hnm := (name_of_methodNamed Bd.named Bd.method).1
  have X0 : Stand p l e ({ frames := 0, cells := 1, slots := 1, locals := 0 } : Room) s m #[(.int p0)] below meth c s₁ [] 0 0 := Stand.of_body Bd
  have e0 : s₁.heap = h0 := by rw [← hh, Bd.state]; rfl
  have N0 := Fr.nil Z.heap.size
  have pre0 : ∀ t, Steps p.tables e below (s₁.setTop (mkF m 0 #[.val (.int p0)] [])) t → Steps p.tables e below (s₁.setTop (entryFrame m #[(.int p0)] 1)) t := fun t k => castTop (ef_0 m (.int p0) rfl) k
  have K0 : Keep h0 h0 [] := Keep.refl _ _
  obtain ⟨T1, h1, k1, X1, e1, E1, A1, st1⟩ := newP X0 hx hZ (W hw 21 rfl) e0 (g := (mkF m 1 #[.val (.int p0)] [(.int (1 : Int32))])) rfl (hb hby d_jdk_43_method_46_code_1) rfl (by decide) (cap := 1) (by decide) (by decide) (by decide) (by decide)
  obtain ⟨b1, g1⟩ : ∃ z, z = h0.size := ⟨_, rfl⟩
  rw [← g1] at A1 st1
  have gn_b1 : Z.heap.size ≤ b1 := Nat.le_trans O0.2.1 (Nat.le_of_eq g1.symm)
  have sz_b1 : h0.size ≤ b1 := Nat.le_trans K0.1 (Nat.le_of_eq g1.symm)
  have O1 := O0.ext E1
  have K1 := K0.ext E1
  have V_b1_v1 : Arv Z h1 b1 k1 .byte (1 : Int32) [] (.int (0 : Int32)) := Arv.new A1 (by decide)
  have V_b1_v2 : Arv Z h1 b1 k1 .byte (1 : Int32) [(.int (0 : Int32))] (.int (0 : Int32)) := V_b1_v1.pad (pad_rep [] (.int (0 : Int32)) 1)
  obtain ⟨cl3, Ar3, q3, Sz3, Ng3, Hv3, Gv3⟩ := V_b1_v2
  have hin3 : ¬ ((0 : Int32) < 0 ∨ cl3.slots.size ≤ ((0 : Int32)).toNatClampNeg) := inb_of Sz3 ⟨by decide, by decide⟩
  obtain ⟨T4, h4, X4, e4, W4, st4⟩ := stB X1 hx hZ e1 Ar3 (j := (0 : Int32)) hin3 (g := (mkF m 7 #[.val (.int p0)] [(.int (p0.toInt8.toInt32)), (.int (0 : Int32)), (.ref b1), (.ref b1)])) rfl rfl (hb hby d_jdk_43_method_46_code_7)
  have V_b1_v4 : Arv Z h4 b1 k1 .byte (1 : Int32) [(.int ((p0.toInt8.toInt32).toInt8.toInt32))] (.int (0 : Int32)) := Arv.set Ar3 q3 Sz3 Ng3 Hv3 Gv3 (fits_nar_byte _) W4 0 rfl (Nat.le_of_ble_eq_true rfl)
  have N4 := Fr.snoc X4 N0 gn_b1
  have O4 := O1.wr W4 gn_b1
  have K4 : Keep h0 h4 [] := K1.wr W4 (Or.inr sz_b1)
  obtain ⟨fs, hr, hrun, hended, hW, hsame⟩ := X4.leave (v := some (.ref b1)) (fun h => by rw [Bd.returns] at h; cases h)
  refine ⟨_, _, pre0 _ ?_, hrun, hended, _, _, rfl, ?_, ⟨_, rfl⟩, hW, hsame.mono (by decide) (by decide)⟩
  · show Steps p.tables e below (s₁.setTop (mkF m 0 #[.val (.int p0)] [])) _
    refine XS.iconst X0.here hx rfl (hb hby d_jdk_43_method_46_code_0) ?_
    show Steps p.tables e below (s₁.setTop (mkF m 1 #[.val (.int p0)] [(.int (1 : Int32))])) _
    refine st1 _ ?_
    show Steps p.tables e below (T1.setTop (mkF m 3 #[.val (.int p0)] [(.ref b1)])) _
    refine XS.dup X1.here hx rfl (hb hby d_jdk_43_method_46_code_3) rfl rfl ?_
    show Steps p.tables e below (T1.setTop (mkF m 4 #[.val (.int p0)] [(.ref b1), (.ref b1)])) _
    refine XS.iconst X1.here hx rfl (hb hby d_jdk_43_method_46_code_4) ?_
    show Steps p.tables e below (T1.setTop (mkF m 5 #[.val (.int p0)] [(.int (0 : Int32)), (.ref b1), (.ref b1)])) _
    refine XS.iloadN X1.here hx rfl (hb hby d_jdk_43_method_46_code_5) rfl ?_
    show Steps p.tables e below (T1.setTop (mkF m 6 #[.val (.int p0)] [(.int p0), (.int (0 : Int32)), (.ref b1), (.ref b1)])) _
    refine XS.i2b X1.here hx rfl (hb hby d_jdk_43_method_46_code_6) rfl ?_
    show Steps p.tables e below (T1.setTop (mkF m 7 #[.val (.int p0)] [(.int (p0.toInt8.toInt32)), (.int (0 : Int32)), (.ref b1), (.ref b1)])) _
    refine st4 _ ?_
    show Steps p.tables e below (T4.setTop (mkF m 8 #[.val (.int p0)] [(.ref b1)])) _
    exact retOut X4 hx Bd.returns rfl (Or.inr (Or.inr (Or.inr (Or.inr ⟨rfl, rfl, rfl⟩)))) (hb hby d_jdk_43_method_46_code_8) hr
  · show Qd_0 Z w kk iw vw p0 h0 Z.heap.size _ T4.heap _
    rw [e4]
    exact ⟨b1, k1, rfl, N4, K4, sz_b1, V_b1_v4⟩
theorem pd_2 : parseMethodDescriptor "(C)[B" = some ⟨[.char], some (.array .byte)⟩ := by decide +kernel
theorem d_jdk_42_method_139_code_21 : decode jdk_42_method_139_code 21 = .ok (.iconst 0, 1) := by decide +kernel
theorem d_jdk_42_method_139_code_22 : decode jdk_42_method_139_code 22 = .ok (.invokespecial 209, 3) := by decide +kernel
theorem d_jdk_42_method_151_code_0 : decode jdk_42_method_151_code 0 = .ok (.aload_n 0, 1) := by decide +kernel
theorem d_jdk_42_method_151_code_1 : decode jdk_42_method_151_code 1 = .ok (.invokespecial 1, 3) := by decide +kernel
theorem d_jdk_42_method_151_code_4 : decode jdk_42_method_151_code 4 = .ok (.aload_n 0, 1) := by decide +kernel
theorem d_jdk_42_method_151_code_5 : decode jdk_42_method_151_code 5 = .ok (.aload_n 1, 1) := by decide +kernel
theorem d_jdk_42_method_151_code_6 : decode jdk_42_method_151_code 6 = .ok (.putfield 9, 3) := by decide +kernel
theorem sn_0 {a0 : Array Value} {Z : State} (hw : ∀ d ∈ tables_1, d.before a0 Z = true) : Jvm.RoadKit.slotOf Z "java/lang/String" "coder" "B" ≠ Jvm.RoadKit.slotOf Z "java/lang/String" "value" "[B" := slot_ne (Or.inr (W hw 32 rfl)) (Or.inr (W hw 30 rfl)) (by decide) (t := .byte) (t' := (.array .byte)) (by decide) (by decide)
theorem d_jdk_42_method_151_code_9 : decode jdk_42_method_151_code 9 = .ok (.aload_n 0, 1) := by decide +kernel
theorem d_jdk_42_method_151_code_10 : decode jdk_42_method_151_code 10 = .ok (.iload_n 2, 1) := by decide +kernel
theorem d_jdk_42_method_151_code_11 : decode jdk_42_method_151_code 11 = .ok (.putfield 15, 3) := by decide +kernel
theorem sn_1 {a0 : Array Value} {Z : State} (hw : ∀ d ∈ tables_1, d.before a0 Z = true) : Jvm.RoadKit.slotOf Z "java/lang/String" "value" "[B" ≠ Jvm.RoadKit.slotOf Z "java/lang/String" "coder" "B" := slot_ne (Or.inr (W hw 30 rfl)) (Or.inr (W hw 32 rfl)) (by decide) (t := (.array .byte)) (t' := .byte) (by decide) (by decide)
theorem d_jdk_42_method_151_code_14 : decode jdk_42_method_151_code 14 = .ok (.return_, 1) := by decide +kernel
theorem ef_1 (m : MethodId) (x0 : Value) (h0 : x0.category = 1) (x1 : Value) (h1 : x1.category = 1) (x2 : Value) (h2 : x2.category = 1) : entryFrame m #[x0, x1, x2] 3 = mkF m 0 #[.val x0, .val x1, .val x2] [] := by first | (simp [entryFrame, mkF, argsToLocals, h0, h1, h2]; done) | rfl
def Qd_1 (Z : State) (w : Nat → Addr) (kk : Nat → ClassId) (iw : Nat → Int32) (vw : Nat → Value) (o1 : Addr) (o2 : Addr) (t0 : Int32) (kc_o2 : ClassId) (h0 : Heap) (n0 : Nat) (v : Option Value) (h : Heap) (L : List Loc) : Prop := v = none ∧ Fr n0 L ∧ Keep h0 h [o1] ∧ Exa Z h o1 "java/lang/String" ∧ Fld Z h o1 "java/lang/String" "value" "[B" (.ref o2) ∧ Fld Z h o1 "java/lang/String" "coder" "B" (.int (0 : Int32))
theorem pn_2 : plainName "java/lang/String" = true := by first | (simp [plainName, overriddenIn]; done) | decide +kernel
set_option maxRecDepth 65536 in
set_option maxHeartbeats 40000000 in
theorem rm_4 (l : Launch) (Z : State) (a0 : Array Value) (hw : ∀ d ∈ tables_1, d.before a0 Z = true) (w : Nat → Addr) (kk : Nat → ClassId) (iw : Nat → Int32) (vw : Nat → Value) (hN : Wd Z w kk iw vw) (ws : List Jvm.Cond) (o1 : Addr) (o2 : Addr) (t0 : Int32) (kc_o2 : ClassId) (h0 : Heap) (O0 : Old Z Z.heap.size h0) (gn_o1 : Z.heap.size ≤ o1) (lt_o1 : o1 < h0.size) (gn_o2 : Z.heap.size ≤ o2) (lt_o2 : o2 < h0.size) (E_o1 : Exa Z h0 o1 "java/lang/String") (F_o1_value : Fld Z h0 o1 "java/lang/String" "value" "[B" .null) (F_o1_coder : Fld Z h0 o1 "java/lang/String" "coder" "B" (.int (0 : Int32))) (V_o2 : Arv Z h0 o2 kc_o2 .byte (1 : Int32) [(.int t0)] (.int (0 : Int32))) (ne_o1_o2 : o1 ≠ o2) :
    MetFree l (⟨"java/lang/String", "<init>", "([BB)V"⟩ : MethodName) (head1 (Jvm.Cond.code (⟨"java/lang/String", "<init>", "([BB)V"⟩ : MethodName) jdk_42_method_151_code 3 none :: ws) ({ frames := 1, cells := 0, slots := 0, locals := 12 } : Room)) (fun a U => a = #[(.ref o1), (.ref o2), (.int (0 : Int32))] ∧ Z.Warmed39 U.vm ∧ U.heap = h0) (fun _ _ _ _ _ => True) (fun _ U o U' => ∃ v L, o = .returned v ∧ Qd_1 Z w kk iw vw o1 o2 t0 kc_o2 h0 Z.heap.size v U'.heap L ∧ FrameEnd U o U' L ({ frames := 1, cells := 0, slots := 0, locals := 12 } : Room).cells ({ frames := 1, cells := 0, slots := 0, locals := 12 } : Room).slots) := by
  have hN' := hN
  obtain ⟨hS0, hE0, hS1, hE1, hS2, hE2, hI0, hJ0, hR0, hRr0⟩ := hN'
  refine MetFree.of_bodySF (plainFor_of_name pn_2) hisR ?_
  intro p e s m args below meth c s₁ Bd hml0 hP hK
  obtain ⟨rfl, hZ, hh⟩ := hP
  have hx := Bd.exec
  have hby := Bd.bytes
  have hml : c.maxLocals = 3 := hml0
  have hown : s.vm.findClass "java/lang/String" = some m.cls := findClass_of_methodNamed Bd.named
  have hnm := (name_of_methodNamed Bd.named Bd.method).1
  have X0 : Stand p l e ({ frames := 1, cells := 0, slots := 0, locals := 12 } : Room) s m #[(.ref o1), (.ref o2), (.int (0 : Int32))] below meth c s₁ [] 0 0 := Stand.of_body Bd
  have e0 : s₁.heap = h0 := by rw [← hh, Bd.state]; rfl
  have N0 := Fr.nil Z.heap.size
  have pre0 : ∀ t, Steps p.tables e below (s₁.setTop (mkF m 0 #[.val (.ref o1), .val (.ref o2), .val (.int (0 : Int32))] [])) t → Steps p.tables e below (s₁.setTop (entryFrame m #[(.ref o1), (.ref o2), (.int (0 : Int32))] 3)) t := fun t k => castTop (ef_1 m (.ref o1) rfl (.ref o2) rfl (.int (0 : Int32)) rfl) k
  have K0 : Keep h0 h0 [o1] := Keep.refl _ _
  obtain ⟨T1, X1, e1, st1⟩ := initO X0 hx hZ hown (W hw 26 rfl) (W hw 27 rfl) (W hw 28 rfl) e0 (g := (mkF m 1 #[.val (.ref o1), .val (.ref o2), .val (.int (0 : Int32))] [(.ref o1)])) rfl (by rw [hml]; rfl) rfl (hb hby d_jdk_42_method_151_code_1) (by decide) (W := 0) (by show 2 * 0 + _ ≤ _; exact Nat.le_of_eq rfl) (by decide)
  obtain ⟨T2, h2, X2, e2, W2, st2⟩ := putF X1 hx hZ hown (host := "") (Or.inl (W hw 29 rfl)) Via.refl e1 F_o1_value E_o1 (Or.inr ⟨(W hw 30 rfl), rfl, hnm⟩) (W hw 17 rfl) (ty := (.array .byte)) (by decide) rfl rfl (g := (mkF m 6 #[.val (.ref o1), .val (.ref o2), .val (.int (0 : Int32))] [(.ref o2), (.ref o1)])) rfl rfl (hb hby d_jdk_42_method_151_code_6)
  have F_o1_value_v2 := F_o1_value.same W2
  have N2 := Fr.snoc X2 N0 gn_o1
  have E_o1_v2 := E_o1.wr W2
  have F_o1_coder_v2 := F_o1_coder.other W2 (Or.inr (sn_0 hw))
  have V_o2_v2 := V_o2.other W2 (Ne.symm ne_o1_o2)
  have O2 := O0.wr W2 gn_o1
  have K2 : Keep h0 h2 [o1] := K0.wr W2 (Or.inl (List.mem_of_getElem? (i := 0) rfl))
  obtain ⟨T3, h3, X3, e3, W3, st3⟩ := putFN X2 hx hZ hown (W hw 31 rfl) Via.refl e2 F_o1_coder_v2 E_o1_v2 (Or.inr ⟨(W hw 32 rfl), rfl, hnm⟩) (W hw 17 rfl) (ty := .byte) (v' := (.int (0 : Int32))) (by decide) rfl rfl (g := (mkF m 11 #[.val (.ref o1), .val (.ref o2), .val (.int (0 : Int32))] [(.int (0 : Int32)), (.ref o1)])) rfl rfl (hb hby d_jdk_42_method_151_code_11)
  have F_o1_coder_v3 := F_o1_coder_v2.same W3
  have N3 := Fr.snoc X3 N2 gn_o1
  have E_o1_v3 := E_o1_v2.wr W3
  have F_o1_value_v3 := F_o1_value_v2.other W3 (Or.inr (sn_1 hw))
  have V_o2_v3 := V_o2_v2.other W3 (Ne.symm ne_o1_o2)
  have O3 := O2.wr W3 gn_o1
  have K3 : Keep h0 h3 [o1] := K2.wr W3 (Or.inl (List.mem_of_getElem? (i := 0) rfl))
  obtain ⟨fs, hr, hrun, hended, hW, hsame⟩ := X3.leave (v := none) (fun _ => rfl)
  refine ⟨_, _, pre0 _ ?_, hrun, hended, _, _, rfl, ?_, ⟨_, rfl⟩, hW, hsame.mono (by decide) (by decide)⟩
  · show Steps p.tables e below (s₁.setTop (mkF m 0 #[.val (.ref o1), .val (.ref o2), .val (.int (0 : Int32))] [])) _
    refine XS.aloadN X0.here hx rfl (hb hby d_jdk_42_method_151_code_0) rfl rfl ?_
    show Steps p.tables e below (s₁.setTop (mkF m 1 #[.val (.ref o1), .val (.ref o2), .val (.int (0 : Int32))] [(.ref o1)])) _
    refine st1 _ ?_
    show Steps p.tables e below (T1.setTop (mkF m 4 #[.val (.ref o1), .val (.ref o2), .val (.int (0 : Int32))] [])) _
    refine XS.aloadN X1.here hx rfl (hb hby d_jdk_42_method_151_code_4) rfl rfl ?_
    show Steps p.tables e below (T1.setTop (mkF m 5 #[.val (.ref o1), .val (.ref o2), .val (.int (0 : Int32))] [(.ref o1)])) _
    refine XS.aloadN X1.here hx rfl (hb hby d_jdk_42_method_151_code_5) rfl rfl ?_
    show Steps p.tables e below (T1.setTop (mkF m 6 #[.val (.ref o1), .val (.ref o2), .val (.int (0 : Int32))] [(.ref o2), (.ref o1)])) _
    refine st2 _ ?_
    show Steps p.tables e below (T2.setTop (mkF m 9 #[.val (.ref o1), .val (.ref o2), .val (.int (0 : Int32))] [])) _
    refine XS.aloadN X2.here hx rfl (hb hby d_jdk_42_method_151_code_9) rfl rfl ?_
    show Steps p.tables e below (T2.setTop (mkF m 10 #[.val (.ref o1), .val (.ref o2), .val (.int (0 : Int32))] [(.ref o1)])) _
    refine XS.iloadN X2.here hx rfl (hb hby d_jdk_42_method_151_code_10) rfl ?_
    show Steps p.tables e below (T2.setTop (mkF m 11 #[.val (.ref o1), .val (.ref o2), .val (.int (0 : Int32))] [(.int (0 : Int32)), (.ref o1)])) _
    refine st3 _ ?_
    show Steps p.tables e below (T3.setTop (mkF m 14 #[.val (.ref o1), .val (.ref o2), .val (.int (0 : Int32))] [])) _
    exact X3.returnOut hx Bd.returns (hb hby d_jdk_42_method_151_code_14) hr
  · show Qd_1 Z w kk iw vw o1 o2 t0 kc_o2 h0 Z.heap.size _ T3.heap _
    rw [e3]
    exact ⟨rfl, N3, K3, E_o1_v3, F_o1_value_v3, F_o1_coder_v3⟩
theorem pd_3 : parseMethodDescriptor "([BB)V" = some ⟨[(.array .byte), .byte], none⟩ := by decide +kernel
theorem d_jdk_42_method_139_code_25 : decode jdk_42_method_139_code 25 = .ok (.areturn, 1) := by decide +kernel
def Qd_2 (Z : State) (w : Nat → Addr) (kk : Nat → ClassId) (iw : Nat → Int32) (vw : Nat → Value) (p0 : Int32) (h0 : Heap) (n0 : Nat) (v : Option Value) (h : Heap) (L : List Loc) : Prop := ∃ (c1 : Addr) (c2 : Addr) (kc1 : ClassId), v = some (.ref c1) ∧ Fr n0 L ∧ Keep h0 h [] ∧ h0.size ≤ c1 ∧ h0.size ≤ c2 ∧ c1 ≠ c2 ∧ Exa Z h c1 "java/lang/String" ∧ Fld Z h c1 "java/lang/String" "value" "[B" (.ref c2) ∧ Fld Z h c1 "java/lang/String" "coder" "B" (.int (0 : Int32)) ∧ Arv Z h c2 kc1 .byte (1 : Int32) [(.int ((p0.toInt8.toInt32).toInt8.toInt32))] (.int (0 : Int32))
set_option maxRecDepth 65536 in
set_option maxHeartbeats 40000000 in
theorem rm_5 (l : Launch) (Z : State) (a0 : Array Value) (hw : ∀ d ∈ tables_1, d.before a0 Z = true) (w : Nat → Addr) (kk : Nat → ClassId) (iw : Nat → Int32) (vw : Nat → Value) (hN : Wd Z w kk iw vw) (ws : List Jvm.Cond) (p0 : Int32) (h0 : Heap) (O0 : Old Z Z.heap.size h0) (hp0 : ¬ ((255 : Int32) < p0)) :
    MetFree l (⟨"java/lang/String", "valueOf", "(C)Ljava/lang/String;"⟩ : MethodName) (head1 (Jvm.Cond.code (⟨"java/lang/String", "valueOf", "(C)Ljava/lang/String;"⟩ : MethodName) jdk_42_method_139_code 1 (some (.object "java/lang/String")) :: ws) ({ frames := 2, cells := 2, slots := 5, locals := 27 } : Room)) (fun a U => a = #[(.int p0)] ∧ Z.Warmed39 U.vm ∧ U.heap = h0) (fun _ _ _ _ _ => True) (fun _ U o U' => ∃ v L, o = .returned v ∧ Qd_2 Z w kk iw vw p0 h0 Z.heap.size v U'.heap L ∧ FrameEnd U o U' L ({ frames := 2, cells := 2, slots := 5, locals := 27 } : Room).cells ({ frames := 2, cells := 2, slots := 5, locals := 27 } : Room).slots) := by
  have hN' := hN
  obtain ⟨hS0, hE0, hS1, hE1, hS2, hE2, hI0, hJ0, hR0, hRr0⟩ := hN'
  refine MetFree.of_bodySF (plainFor_of_name pn_2) hisR ?_
  intro p e s m args below meth c s₁ Bd hml0 hP hK
  obtain ⟨rfl, hZ, hh⟩ := hP
  have hx := Bd.exec
  have hby := Bd.bytes
  have hml : c.maxLocals = 1 := hml0
  have hown : s.vm.findClass "java/lang/String" = some m.cls := findClass_of_methodNamed Bd.named
  have hnm := (name_of_methodNamed Bd.named Bd.method).1
  have X0 : Stand p l e ({ frames := 2, cells := 2, slots := 5, locals := 27 } : Room) s m #[(.int p0)] below meth c s₁ [] 0 0 := Stand.of_body Bd
  have e0 : s₁.heap = h0 := by rw [← hh, Bd.state]; rfl
  have N0 := Fr.nil Z.heap.size
  have pre0 : ∀ t, Steps p.tables e below (s₁.setTop (mkF m 0 #[.val (.int p0)] [])) t → Steps p.tables e below (s₁.setTop (entryFrame m #[(.int p0)] 1)) t := fun t k => castTop (ef_0 m (.int p0) rfl) k
  have K0 : Keep h0 h0 [] := Keep.refl _ _
  obtain ⟨T1, X1, e1, st1⟩ := getS2 X0 hx hZ hown (host := "") (Or.inl (W hw 11 rfl)) Via.refl e0 (hI0.ext O0.2) (g := (mkF m 0 #[.val (.int p0)] [])) rfl (hb hby d_jdk_42_method_139_code_0)
  obtain ⟨_, _, ⟨T2, L2, k2, n2⟩, -, X2, ⟨Lc2, hQ2, l2, y2, z2⟩, st2⟩ := Jvm.LawKit.callS X1 hx (y := (⟨"java/lang/StringLatin1", "canEncode", "(C)Z"⟩ : MethodName)) hown (mvT hZ (W hw 12 rfl)) (mvT hZ (W hw 13 rfl)) (mvT hZ (W hw 14 rfl)) (mvT hZ (W hw 15 rfl)) (by decide) (backOf (W := 0) (rm_2 l Z a0 hw w kk iw vw hN [] p0 h0 O0 hp0) hZ (W hw 15 rfl) (W hw 14 rfl) (by decide) (by decide)) (g := (mkF m 7 #[.val (.int p0)] [(.int p0)])) rfl (by rw [hml]; rfl) (argsL := [(.int p0)]) (rest := []) (lenOf pd_1 rfl) rfl (by show 2 * 0 + _ ≤ _; exact Nat.le_of_eq rfl) (hb hby d_jdk_42_method_139_code_7) (fun _ _ => ⟨rfl, e1, (by decide : 0 + 0 ≤ _), (by decide : 0 + 0 ≤ _)⟩)
  dsimp only [Pt.U, Pt.locs, Pt.cells, Pt.slots] at X2 l2 y2 z2 st2 hQ2
  subst l2 y2 z2
  obtain ⟨rfl, N2q, e2⟩ := hQ2
  have N2 := Fr.app N0 N2q
  obtain ⟨T3, h3, X3, e3, E3, A3, D3, -, st3⟩ := newO X2 hx hZ hown (W hw 16 rfl) (W hw 17 rfl) (W hw 9 rfl) e2 (g := (mkF m 13 #[.val (.int p0)] [])) rfl (hb hby d_jdk_42_method_139_code_13) (by decide) (by decide)
  obtain ⟨b3, g3⟩ : ∃ z, z = h0.size := ⟨_, rfl⟩
  rw [← g3] at A3 st3 D3
  have gn_b3 : Z.heap.size ≤ b3 := Nat.le_trans O0.2.1 (Nat.le_of_eq g3.symm)
  have sz_b3 : h0.size ≤ b3 := Nat.le_trans K0.1 (Nat.le_of_eq g3.symm)
  have O3 := O0.ext E3
  have K3 := K0.ext E3
  have E_b3_v3 := A3
  have F_b3_value_v3 : Fld Z h3 b3 "java/lang/String" "value" "[B" .null := D3 (Or.inr (W hw 30 rfl)) (ty := (.array .byte)) (by decide)
  have F_b3_coder_v3 : Fld Z h3 b3 "java/lang/String" "coder" "B" (.int (0 : Int32)) := D3 (Or.inr (W hw 32 rfl)) (ty := .byte) (by decide)
  obtain ⟨_, _, ⟨T4, L4, k4, n4⟩, -, X4, ⟨Lc4, hQ4, l4, y4, z4⟩, st4⟩ := Jvm.LawKit.callS X3 hx (y := (⟨"java/lang/StringLatin1", "toBytes", "(C)[B"⟩ : MethodName)) hown (mvT hZ (W hw 18 rfl)) (mvT hZ (W hw 19 rfl)) (mvT hZ (W hw 14 rfl)) (mvT hZ (W hw 20 rfl)) (by decide) (backOf (W := 2) (rm_3 l Z a0 hw w kk iw vw hN [] p0 h3 O3) hZ (W hw 20 rfl) (W hw 14 rfl) (by decide) (by decide)) (g := (mkF m 18 #[.val (.int p0)] [(.int p0), (.ref b3), (.ref b3)])) rfl (by rw [hml]; rfl) (argsL := [(.int p0)]) (rest := [(.ref b3), (.ref b3)]) (lenOf pd_2 rfl) rfl (by show 2 * 0 + _ ≤ _; exact Nat.le_of_eq rfl) (hb hby d_jdk_42_method_139_code_18) (fun _ _ => ⟨rfl, e3, (by decide : 1 + 1 ≤ _), (by decide : 4 + 1 ≤ _)⟩)
  dsimp only [Pt.U, Pt.locs, Pt.cells, Pt.slots] at X4 l4 y4 z4 st4 hQ4
  subst l4 y4 z4
  obtain ⟨b4_0, kb4_0, rfl, N4q, Kq4, tk4_0, tk4_1⟩ := hQ4
  have N4 := Fr.app N2 N4q
  have gn_b4_0 : Z.heap.size ≤ b4_0 := Nat.le_trans O3.2.1 tk4_0
  have sz_b4_0 : h0.size ≤ b4_0 := Nat.le_trans K3.1 tk4_0
  have ne_b3_b4_0 : b3 ≠ b4_0 := Nat.ne_of_lt (Nat.lt_of_lt_of_le E_b3_v3.lt tk4_0)
  have E_b3_v4 := E_b3_v3.keep Kq4
  have F_b3_value_v4 := F_b3_value_v3.keep Kq4 nin0
  have F_b3_coder_v4 := F_b3_coder_v3.keep Kq4 nin0
  have O4 := O3.keep Kq4 all0
  have K4 : Keep h0 T4.heap [] := K3.trans Kq4 all0
  obtain ⟨_, _, ⟨T5, L5, k5, n5⟩, -, X5, ⟨Lc5, hQ5, l5, y5, z5⟩, st5⟩ := X4.specialBack hx (y := (⟨"java/lang/String", "<init>", "([BB)V"⟩ : MethodName)) rfl hown (mvT hZ (W hw 22 rfl)) (mvT hZ (W hw 23 rfl)) (mvT hZ (W hw 25 rfl)) (by decide) (backOf (W := 1) (rm_4 l Z a0 hw w kk iw vw hN [] b3 b4_0 ((p0.toInt8.toInt32).toInt8.toInt32) kb4_0 T4.heap O4 gn_b3 E_b3_v4.lt gn_b4_0 tk4_1.lt E_b3_v4 F_b3_value_v4 F_b3_coder_v4 tk4_1 ne_b3_b4_0) hZ (W hw 25 rfl) (W hw 9 rfl) (by decide) (by decide)) (g := (mkF m 22 #[.val (.int p0)] [(.int (0 : Int32)), (.ref b4_0), (.ref b3), (.ref b3)])) rfl (by rw [hml]; rfl) (Steps.refl _) (a := b3) (argsL := [(.ref b4_0), (.int (0 : Int32))]) (rest := [(.ref b3)]) (lenOf pd_3 rfl) rfl (by show 2 * 0 + _ ≤ _; exact Nat.le_of_eq rfl) (hb hby d_jdk_42_method_139_code_22) (fun _ _ => ⟨rfl, rfl, (by decide : 2 + 0 ≤ _), (by decide : 5 + 0 ≤ _)⟩)
  dsimp only [Pt.U, Pt.locs, Pt.cells, Pt.slots] at X5 l5 y5 z5 st5 hQ5
  subst l5 y5 z5
  obtain ⟨rfl, N5q, Kq5, tk5_0, tk5_1, tk5_2⟩ := hQ5
  have N5 := Fr.app N4 N5q
  have E_b3_v5 := E_b3_v4.keep Kq5
  have tk4_1_v5 := tk4_1.keep Kq5 (ninS (Ne.symm ne_b3_b4_0) nin0)
  have O5 := O4.keep Kq5 (allS gn_b3 all0)
  have K5 : Keep h0 T5.heap [] := K4.trans Kq5 (allS (Or.inr sz_b3) all0)
  obtain ⟨fs, hr, hrun, hended, hW, hsame⟩ := X5.leave (v := some (.ref b3)) (fun h => by rw [Bd.returns] at h; cases h)
  refine ⟨_, _, pre0 _ ?_, hrun, hended, _, _, rfl, ?_, ⟨_, rfl⟩, hW, hsame.mono (by decide) (by decide)⟩
  · show Steps p.tables e below (s₁.setTop (mkF m 0 #[.val (.int p0)] [])) _
    refine st1 _ ?_
    show Steps p.tables e below (T1.setTop (mkF m 3 #[.val (.int p0)] [(.int (iw 0))])) _
    refine XS.ifNo X1.here hx rfl (hb hby d_jdk_42_method_139_code_3) rfl ((if0 _ _).trans (feq hJ0).1) ?_
    show Steps p.tables e below (T1.setTop (mkF m 6 #[.val (.int p0)] [])) _
    refine XS.iloadN X1.here hx rfl (hb hby d_jdk_42_method_139_code_6) rfl ?_
    show Steps p.tables e below (T1.setTop (mkF m 7 #[.val (.int p0)] [(.int p0)])) _
    refine st2 _ ?_
    show Steps p.tables e below (T2.setTop (mkF m 10 #[.val (.int p0)] [(.int (1 : Int32))])) _
    refine XS.ifNo X2.here hx rfl (hb hby d_jdk_42_method_139_code_10) rfl ((if0 _ _).trans (feq (by decide : ¬ ((1 : Int32) = (0 : Int32)))).1) ?_
    show Steps p.tables e below (T2.setTop (mkF m 13 #[.val (.int p0)] [])) _
    refine st3 _ ?_
    show Steps p.tables e below (T3.setTop (mkF m 16 #[.val (.int p0)] [(.ref b3)])) _
    refine XS.dup X3.here hx rfl (hb hby d_jdk_42_method_139_code_16) rfl rfl ?_
    show Steps p.tables e below (T3.setTop (mkF m 17 #[.val (.int p0)] [(.ref b3), (.ref b3)])) _
    refine XS.iloadN X3.here hx rfl (hb hby d_jdk_42_method_139_code_17) rfl ?_
    show Steps p.tables e below (T3.setTop (mkF m 18 #[.val (.int p0)] [(.int p0), (.ref b3), (.ref b3)])) _
    refine st4 _ ?_
    show Steps p.tables e below (T4.setTop (mkF m 21 #[.val (.int p0)] [(.ref b4_0), (.ref b3), (.ref b3)])) _
    refine XS.iconst X4.here hx rfl (hb hby d_jdk_42_method_139_code_21) ?_
    show Steps p.tables e below (T4.setTop (mkF m 22 #[.val (.int p0)] [(.int (0 : Int32)), (.ref b4_0), (.ref b3), (.ref b3)])) _
    refine st5.trans ?_
    show Steps p.tables e below (T5.setTop (mkF m 25 #[.val (.int p0)] [(.ref b3)])) _
    exact retOut X5 hx Bd.returns rfl (Or.inr (Or.inr (Or.inr (Or.inr ⟨rfl, rfl, rfl⟩)))) (hb hby d_jdk_42_method_139_code_25) hr
  · show Qd_2 Z w kk iw vw p0 h0 Z.heap.size _ T5.heap _
    exact ⟨b3, b4_0, kb4_0, rfl, N5, K5, sz_b3, sz_b4_0, ne_b3_b4_0, tk5_0, tk5_1, tk5_2, tk4_1_v5⟩
theorem pd_4 : parseMethodDescriptor "(C)Ljava/lang/String;" = some ⟨[.char], some (.object "java/lang/String")⟩ := by decide +kernel
theorem d_prog_77_method_1_code_0 : decode prog_77_method_1_code 0 = .ok (.aload_n 0, 1) := by decide +kernel
theorem d_prog_77_method_1_code_1 : decode prog_77_method_1_code 1 = .ok (.invokespecial 3, 3) := by decide +kernel
theorem d_prog_77_method_1_code_4 : decode prog_77_method_1_code 4 = .ok (.aload_n 0, 1) := by decide +kernel
theorem d_prog_77_method_1_code_5 : decode prog_77_method_1_code 5 = .ok (.aload_n 1, 1) := by decide +kernel
theorem d_prog_77_method_1_code_6 : decode prog_77_method_1_code 6 = .ok (.putfield 9, 3) := by decide +kernel
theorem sn_2 {a0 : Array Value} {Z : State} (hw : ∀ d ∈ tables_1, d.before a0 Z = true) : Jvm.RoadKit.slotOf Z "com/example/netloom/netloom/xml/NetReader$OpenAnnotations" "form" "Lcom/example/netloom/netloom/xml/XmlGraphics$Form;" ≠ Jvm.RoadKit.slotOf Z "com/example/netloom/netloom/xml/NetReader$OpenAnnotations" "owner" "Ljava/lang/String;" := slot_ne (Or.inr (W hw 43 rfl)) (Or.inr (W hw 41 rfl)) (by decide) (t := (.object "com/example/netloom/netloom/xml/XmlGraphics$Form")) (t' := (.object "java/lang/String")) (by decide) (by decide)
theorem sn_3 {a0 : Array Value} {Z : State} (hw : ∀ d ∈ tables_1, d.before a0 Z = true) : Jvm.RoadKit.slotOf Z "com/example/netloom/netloom/xml/NetReader$OpenAnnotations" "carries" "Ljava/util/Set;" ≠ Jvm.RoadKit.slotOf Z "com/example/netloom/netloom/xml/NetReader$OpenAnnotations" "owner" "Ljava/lang/String;" := slot_ne (Or.inr (W hw 45 rfl)) (Or.inr (W hw 41 rfl)) (by decide) (t := (.object "java/util/Set")) (t' := (.object "java/lang/String")) (by decide) (by decide)
theorem sn_4 {a0 : Array Value} {Z : State} (hw : ∀ d ∈ tables_1, d.before a0 Z = true) : Jvm.RoadKit.slotOf Z "com/example/netloom/netloom/xml/NetReader$OpenAnnotations" "graphicsCarried" "Z" ≠ Jvm.RoadKit.slotOf Z "com/example/netloom/netloom/xml/NetReader$OpenAnnotations" "owner" "Ljava/lang/String;" := slot_ne (Or.inl (W hw 52 rfl)) (Or.inr (W hw 41 rfl)) (by decide) (t := .boolean) (t' := (.object "java/lang/String")) (by decide) (by decide)
theorem sn_5 {a0 : Array Value} {Z : State} (hw : ∀ d ∈ tables_1, d.before a0 Z = true) : Jvm.RoadKit.slotOf Z "com/example/netloom/netloom/xml/NetReader$OpenAnnotations" "graphics" "Lcom/example/netloom/netloom/net/Graphics;" ≠ Jvm.RoadKit.slotOf Z "com/example/netloom/netloom/xml/NetReader$OpenAnnotations" "owner" "Ljava/lang/String;" := slot_ne (Or.inl (W hw 59 rfl)) (Or.inr (W hw 41 rfl)) (by decide) (t := (.object "com/example/netloom/netloom/net/Graphics")) (t' := (.object "java/lang/String")) (by decide) (by decide)
theorem d_prog_77_method_1_code_9 : decode prog_77_method_1_code 9 = .ok (.aload_n 0, 1) := by decide +kernel
theorem d_prog_77_method_1_code_10 : decode prog_77_method_1_code 10 = .ok (.aload_n 2, 1) := by decide +kernel
theorem d_prog_77_method_1_code_11 : decode prog_77_method_1_code 11 = .ok (.putfield 15, 3) := by decide +kernel
theorem sn_6 {a0 : Array Value} {Z : State} (hw : ∀ d ∈ tables_1, d.before a0 Z = true) : Jvm.RoadKit.slotOf Z "com/example/netloom/netloom/xml/NetReader$OpenAnnotations" "owner" "Ljava/lang/String;" ≠ Jvm.RoadKit.slotOf Z "com/example/netloom/netloom/xml/NetReader$OpenAnnotations" "form" "Lcom/example/netloom/netloom/xml/XmlGraphics$Form;" := slot_ne (Or.inr (W hw 41 rfl)) (Or.inr (W hw 43 rfl)) (by decide) (t := (.object "java/lang/String")) (t' := (.object "com/example/netloom/netloom/xml/XmlGraphics$Form")) (by decide) (by decide)
theorem sn_7 {a0 : Array Value} {Z : State} (hw : ∀ d ∈ tables_1, d.before a0 Z = true) : Jvm.RoadKit.slotOf Z "com/example/netloom/netloom/xml/NetReader$OpenAnnotations" "carries" "Ljava/util/Set;" ≠ Jvm.RoadKit.slotOf Z "com/example/netloom/netloom/xml/NetReader$OpenAnnotations" "form" "Lcom/example/netloom/netloom/xml/XmlGraphics$Form;" := slot_ne (Or.inr (W hw 45 rfl)) (Or.inr (W hw 43 rfl)) (by decide) (t := (.object "java/util/Set")) (t' := (.object "com/example/netloom/netloom/xml/XmlGraphics$Form")) (by decide) (by decide)
theorem sn_8 {a0 : Array Value} {Z : State} (hw : ∀ d ∈ tables_1, d.before a0 Z = true) : Jvm.RoadKit.slotOf Z "com/example/netloom/netloom/xml/NetReader$OpenAnnotations" "graphicsCarried" "Z" ≠ Jvm.RoadKit.slotOf Z "com/example/netloom/netloom/xml/NetReader$OpenAnnotations" "form" "Lcom/example/netloom/netloom/xml/XmlGraphics$Form;" := slot_ne (Or.inl (W hw 52 rfl)) (Or.inr (W hw 43 rfl)) (by decide) (t := .boolean) (t' := (.object "com/example/netloom/netloom/xml/XmlGraphics$Form")) (by decide) (by decide)
theorem sn_9 {a0 : Array Value} {Z : State} (hw : ∀ d ∈ tables_1, d.before a0 Z = true) : Jvm.RoadKit.slotOf Z "com/example/netloom/netloom/xml/NetReader$OpenAnnotations" "graphics" "Lcom/example/netloom/netloom/net/Graphics;" ≠ Jvm.RoadKit.slotOf Z "com/example/netloom/netloom/xml/NetReader$OpenAnnotations" "form" "Lcom/example/netloom/netloom/xml/XmlGraphics$Form;" := slot_ne (Or.inl (W hw 59 rfl)) (Or.inr (W hw 43 rfl)) (by decide) (t := (.object "com/example/netloom/netloom/net/Graphics")) (t' := (.object "com/example/netloom/netloom/xml/XmlGraphics$Form")) (by decide) (by decide)
theorem d_prog_77_method_1_code_14 : decode prog_77_method_1_code 14 = .ok (.aload_n 0, 1) := by decide +kernel
theorem d_prog_77_method_1_code_15 : decode prog_77_method_1_code 15 = .ok (.aload_n 3, 1) := by decide +kernel
theorem d_prog_77_method_1_code_16 : decode prog_77_method_1_code 16 = .ok (.putfield 19, 3) := by decide +kernel
theorem sn_10 {a0 : Array Value} {Z : State} (hw : ∀ d ∈ tables_1, d.before a0 Z = true) : Jvm.RoadKit.slotOf Z "com/example/netloom/netloom/xml/NetReader$OpenAnnotations" "owner" "Ljava/lang/String;" ≠ Jvm.RoadKit.slotOf Z "com/example/netloom/netloom/xml/NetReader$OpenAnnotations" "carries" "Ljava/util/Set;" := slot_ne (Or.inr (W hw 41 rfl)) (Or.inr (W hw 45 rfl)) (by decide) (t := (.object "java/lang/String")) (t' := (.object "java/util/Set")) (by decide) (by decide)
theorem sn_11 {a0 : Array Value} {Z : State} (hw : ∀ d ∈ tables_1, d.before a0 Z = true) : Jvm.RoadKit.slotOf Z "com/example/netloom/netloom/xml/NetReader$OpenAnnotations" "form" "Lcom/example/netloom/netloom/xml/XmlGraphics$Form;" ≠ Jvm.RoadKit.slotOf Z "com/example/netloom/netloom/xml/NetReader$OpenAnnotations" "carries" "Ljava/util/Set;" := slot_ne (Or.inr (W hw 43 rfl)) (Or.inr (W hw 45 rfl)) (by decide) (t := (.object "com/example/netloom/netloom/xml/XmlGraphics$Form")) (t' := (.object "java/util/Set")) (by decide) (by decide)
theorem sn_12 {a0 : Array Value} {Z : State} (hw : ∀ d ∈ tables_1, d.before a0 Z = true) : Jvm.RoadKit.slotOf Z "com/example/netloom/netloom/xml/NetReader$OpenAnnotations" "graphicsCarried" "Z" ≠ Jvm.RoadKit.slotOf Z "com/example/netloom/netloom/xml/NetReader$OpenAnnotations" "carries" "Ljava/util/Set;" := slot_ne (Or.inl (W hw 52 rfl)) (Or.inr (W hw 45 rfl)) (by decide) (t := .boolean) (t' := (.object "java/util/Set")) (by decide) (by decide)
theorem sn_13 {a0 : Array Value} {Z : State} (hw : ∀ d ∈ tables_1, d.before a0 Z = true) : Jvm.RoadKit.slotOf Z "com/example/netloom/netloom/xml/NetReader$OpenAnnotations" "graphics" "Lcom/example/netloom/netloom/net/Graphics;" ≠ Jvm.RoadKit.slotOf Z "com/example/netloom/netloom/xml/NetReader$OpenAnnotations" "carries" "Ljava/util/Set;" := slot_ne (Or.inl (W hw 59 rfl)) (Or.inr (W hw 45 rfl)) (by decide) (t := (.object "com/example/netloom/netloom/net/Graphics")) (t' := (.object "java/util/Set")) (by decide) (by decide)
theorem d_prog_77_method_1_code_19 : decode prog_77_method_1_code 19 = .ok (.return_, 1) := by decide +kernel
theorem ef_2 (m : MethodId) (x0 : Value) (h0 : x0.category = 1) (x1 : Value) (h1 : x1.category = 1) (x2 : Value) (h2 : x2.category = 1) (x3 : Value) (h3 : x3.category = 1) : entryFrame m #[x0, x1, x2, x3] 4 = mkF m 0 #[.val x0, .val x1, .val x2, .val x3] [] := by first | (simp [entryFrame, mkF, argsToLocals, h0, h1, h2, h3]; done) | rfl
def Qd_3 (Z : State) (w : Nat → Addr) (kk : Nat → ClassId) (iw : Nat → Int32) (vw : Nat → Value) (o1 : Addr) (o2 : Addr) (o3 : Addr) (t0 : Int32) (kc_o3 : ClassId) (h0 : Heap) (n0 : Nat) (v : Option Value) (h : Heap) (L : List Loc) : Prop := v = none ∧ Fr n0 L ∧ Keep h0 h [o1] ∧ Exa Z h o1 "com/example/netloom/netloom/xml/NetReader$OpenAnnotations" ∧ Fld Z h o1 "com/example/netloom/netloom/xml/NetReader$OpenAnnotations" "owner" "Ljava/lang/String;" (.ref o2) ∧ Fld Z h o1 "com/example/netloom/netloom/xml/NetReader$OpenAnnotations" "form" "Lcom/example/netloom/netloom/xml/XmlGraphics$Form;" .null ∧ Fld Z h o1 "com/example/netloom/netloom/xml/NetReader$OpenAnnotations" "carries" "Ljava/util/Set;" .null ∧ Fld Z h o1 "com/example/netloom/netloom/xml/NetReader$OpenAnnotations" "graphicsCarried" "Z" (.int (0 : Int32)) ∧ Fld Z h o1 "com/example/netloom/netloom/xml/NetReader$OpenAnnotations" "graphics" "Lcom/example/netloom/netloom/net/Graphics;" .null
theorem pn_3 : plainName "com/example/netloom/netloom/xml/NetReader$OpenAnnotations" = true := by first | (simp [plainName, overriddenIn]; done) | decide +kernel
set_option maxRecDepth 65536 in
set_option maxHeartbeats 40000000 in
theorem rm_6 (l : Launch) (Z : State) (a0 : Array Value) (hw : ∀ d ∈ tables_1, d.before a0 Z = true) (w : Nat → Addr) (kk : Nat → ClassId) (iw : Nat → Int32) (vw : Nat → Value) (hN : Wd Z w kk iw vw) (ws : List Jvm.Cond) (o1 : Addr) (o2 : Addr) (o3 : Addr) (t0 : Int32) (kc_o3 : ClassId) (h0 : Heap) (O0 : Old Z Z.heap.size h0) (gn_o1 : Z.heap.size ≤ o1) (lt_o1 : o1 < h0.size) (gn_o2 : Z.heap.size ≤ o2) (lt_o2 : o2 < h0.size) (E_o1 : Exa Z h0 o1 "com/example/netloom/netloom/xml/NetReader$OpenAnnotations") (F_o1_owner : Fld Z h0 o1 "com/example/netloom/netloom/xml/NetReader$OpenAnnotations" "owner" "Ljava/lang/String;" .null) (F_o1_form : Fld Z h0 o1 "com/example/netloom/netloom/xml/NetReader$OpenAnnotations" "form" "Lcom/example/netloom/netloom/xml/XmlGraphics$Form;" .null) (F_o1_carries : Fld Z h0 o1 "com/example/netloom/netloom/xml/NetReader$OpenAnnotations" "carries" "Ljava/util/Set;" .null) (F_o1_graphicsCarried : Fld Z h0 o1 "com/example/netloom/netloom/xml/NetReader$OpenAnnotations" "graphicsCarried" "Z" (.int (0 : Int32))) (F_o1_graphics : Fld Z h0 o1 "com/example/netloom/netloom/xml/NetReader$OpenAnnotations" "graphics" "Lcom/example/netloom/netloom/net/Graphics;" .null) (E_o2 : Exa Z h0 o2 "java/lang/String") (gn_o3 : Z.heap.size ≤ o3) (lt_o3 : o3 < h0.size) (F_o2_value : Fld Z h0 o2 "java/lang/String" "value" "[B" (.ref o3)) (F_o2_coder : Fld Z h0 o2 "java/lang/String" "coder" "B" (.int (0 : Int32))) (V_o3 : Arv Z h0 o3 kc_o3 .byte (1 : Int32) [(.int t0)] (.int (0 : Int32))) (ne_o1_o2 : o1 ≠ o2) (ne_o1_o3 : o1 ≠ o3) (ne_o2_o3 : o2 ≠ o3) :
    MetFree l (⟨"com/example/netloom/netloom/xml/NetReader$OpenAnnotations", "<init>", "(Ljava/lang/String;Lcom/example/netloom/netloom/xml/XmlGraphics$Form;Ljava/util/Set;)V"⟩ : MethodName) (head1 (Jvm.Cond.code (⟨"com/example/netloom/netloom/xml/NetReader$OpenAnnotations", "<init>", "(Ljava/lang/String;Lcom/example/netloom/netloom/xml/XmlGraphics$Form;Ljava/util/Set;)V"⟩ : MethodName) prog_77_method_1_code 4 none :: ws) ({ frames := 1, cells := 0, slots := 0, locals := 12 } : Room)) (fun a U => a = #[(.ref o1), (.ref o2), .null, .null] ∧ Z.Warmed39 U.vm ∧ U.heap = h0) (fun _ _ _ _ _ => True) (fun _ U o U' => ∃ v L, o = .returned v ∧ Qd_3 Z w kk iw vw o1 o2 o3 t0 kc_o3 h0 Z.heap.size v U'.heap L ∧ FrameEnd U o U' L ({ frames := 1, cells := 0, slots := 0, locals := 12 } : Room).cells ({ frames := 1, cells := 0, slots := 0, locals := 12 } : Room).slots) := by
  have hN' := hN
  obtain ⟨hS0, hE0, hS1, hE1, hS2, hE2, hI0, hJ0, hR0, hRr0⟩ := hN'
  refine MetFree.of_bodySF (plainFor_of_name pn_3) hisR ?_
  intro p e s m args below meth c s₁ Bd hml0 hP hK
  obtain ⟨rfl, hZ, hh⟩ := hP
  have hx := Bd.exec
  have hby := Bd.bytes
  have hml : c.maxLocals = 4 := hml0
  have hown : s.vm.findClass "com/example/netloom/netloom/xml/NetReader$OpenAnnotations" = some m.cls := findClass_of_methodNamed Bd.named
  have hnm := (name_of_methodNamed Bd.named Bd.method).1
  have X0 : Stand p l e ({ frames := 1, cells := 0, slots := 0, locals := 12 } : Room) s m #[(.ref o1), (.ref o2), .null, .null] below meth c s₁ [] 0 0 := Stand.of_body Bd
  have e0 : s₁.heap = h0 := by rw [← hh, Bd.state]; rfl
  have N0 := Fr.nil Z.heap.size
  have pre0 : ∀ t, Steps p.tables e below (s₁.setTop (mkF m 0 #[.val (.ref o1), .val (.ref o2), .val .null, .val .null] [])) t → Steps p.tables e below (s₁.setTop (entryFrame m #[(.ref o1), (.ref o2), .null, .null] 4)) t := fun t k => castTop (ef_2 m (.ref o1) rfl (.ref o2) rfl .null rfl .null rfl) k
  have K0 : Keep h0 h0 [o1] := Keep.refl _ _
  obtain ⟨T1, X1, e1, st1⟩ := initO X0 hx hZ hown (W hw 39 rfl) (W hw 27 rfl) (W hw 28 rfl) e0 (g := (mkF m 1 #[.val (.ref o1), .val (.ref o2), .val .null, .val .null] [(.ref o1)])) rfl (by rw [hml]; rfl) rfl (hb hby d_prog_77_method_1_code_1) (by decide) (W := 0) (by show 2 * 0 + _ ≤ _; exact Nat.le_of_eq rfl) (by decide)
  obtain ⟨T2, h2, X2, e2, W2, st2⟩ := putF X1 hx hZ hown (host := "") (Or.inl (W hw 40 rfl)) Via.refl e1 F_o1_owner E_o1 (Or.inr ⟨(W hw 41 rfl), rfl, hnm⟩) (W hw 34 rfl) (ty := (.object "java/lang/String")) (by decide) rfl rfl (g := (mkF m 6 #[.val (.ref o1), .val (.ref o2), .val .null, .val .null] [(.ref o2), (.ref o1)])) rfl rfl (hb hby d_prog_77_method_1_code_6)
  have F_o1_owner_v2 := F_o1_owner.same W2
  have N2 := Fr.snoc X2 N0 gn_o1
  have E_o1_v2 := E_o1.wr W2
  have F_o1_form_v2 := F_o1_form.other W2 (Or.inr (sn_2 hw))
  have F_o1_carries_v2 := F_o1_carries.other W2 (Or.inr (sn_3 hw))
  have F_o1_graphicsCarried_v2 := F_o1_graphicsCarried.other W2 (Or.inr (sn_4 hw))
  have F_o1_graphics_v2 := F_o1_graphics.other W2 (Or.inr (sn_5 hw))
  have E_o2_v2 := E_o2.wr W2
  have F_o2_value_v2 := F_o2_value.other W2 (Or.inl (Ne.symm ne_o1_o2))
  have F_o2_coder_v2 := F_o2_coder.other W2 (Or.inl (Ne.symm ne_o1_o2))
  have V_o3_v2 := V_o3.other W2 (Ne.symm ne_o1_o3)
  have O2 := O0.wr W2 gn_o1
  have K2 : Keep h0 h2 [o1] := K0.wr W2 (Or.inl (List.mem_of_getElem? (i := 0) rfl))
  obtain ⟨T3, h3, X3, e3, W3, st3⟩ := putF X2 hx hZ hown (host := "") (Or.inl (W hw 42 rfl)) Via.refl e2 F_o1_form_v2 E_o1_v2 (Or.inr ⟨(W hw 43 rfl), rfl, hnm⟩) (W hw 34 rfl) (ty := (.object "com/example/netloom/netloom/xml/XmlGraphics$Form")) (by decide) rfl rfl (g := (mkF m 11 #[.val (.ref o1), .val (.ref o2), .val .null, .val .null] [.null, (.ref o1)])) rfl rfl (hb hby d_prog_77_method_1_code_11)
  have F_o1_form_v3 := F_o1_form_v2.same W3
  have N3 := Fr.snoc X3 N2 gn_o1
  have E_o1_v3 := E_o1_v2.wr W3
  have F_o1_owner_v3 := F_o1_owner_v2.other W3 (Or.inr (sn_6 hw))
  have F_o1_carries_v3 := F_o1_carries_v2.other W3 (Or.inr (sn_7 hw))
  have F_o1_graphicsCarried_v3 := F_o1_graphicsCarried_v2.other W3 (Or.inr (sn_8 hw))
  have F_o1_graphics_v3 := F_o1_graphics_v2.other W3 (Or.inr (sn_9 hw))
  have E_o2_v3 := E_o2_v2.wr W3
  have F_o2_value_v3 := F_o2_value_v2.other W3 (Or.inl (Ne.symm ne_o1_o2))
  have F_o2_coder_v3 := F_o2_coder_v2.other W3 (Or.inl (Ne.symm ne_o1_o2))
  have V_o3_v3 := V_o3_v2.other W3 (Ne.symm ne_o1_o3)
  have O3 := O2.wr W3 gn_o1
  have K3 : Keep h0 h3 [o1] := K2.wr W3 (Or.inl (List.mem_of_getElem? (i := 0) rfl))
  obtain ⟨T4, h4, X4, e4, W4, st4⟩ := putF X3 hx hZ hown (host := "") (Or.inl (W hw 44 rfl)) Via.refl e3 F_o1_carries_v3 E_o1_v3 (Or.inr ⟨(W hw 45 rfl), rfl, hnm⟩) (W hw 34 rfl) (ty := (.object "java/util/Set")) (by decide) rfl rfl (g := (mkF m 16 #[.val (.ref o1), .val (.ref o2), .val .null, .val .null] [.null, (.ref o1)])) rfl rfl (hb hby d_prog_77_method_1_code_16)
  have F_o1_carries_v4 := F_o1_carries_v3.same W4
  have N4 := Fr.snoc X4 N3 gn_o1
  have E_o1_v4 := E_o1_v3.wr W4
  have F_o1_owner_v4 := F_o1_owner_v3.other W4 (Or.inr (sn_10 hw))
  have F_o1_form_v4 := F_o1_form_v3.other W4 (Or.inr (sn_11 hw))
  have F_o1_graphicsCarried_v4 := F_o1_graphicsCarried_v3.other W4 (Or.inr (sn_12 hw))
  have F_o1_graphics_v4 := F_o1_graphics_v3.other W4 (Or.inr (sn_13 hw))
  have E_o2_v4 := E_o2_v3.wr W4
  have F_o2_value_v4 := F_o2_value_v3.other W4 (Or.inl (Ne.symm ne_o1_o2))
  have F_o2_coder_v4 := F_o2_coder_v3.other W4 (Or.inl (Ne.symm ne_o1_o2))
  have V_o3_v4 := V_o3_v3.other W4 (Ne.symm ne_o1_o3)
  have O4 := O3.wr W4 gn_o1
  have K4 : Keep h0 h4 [o1] := K3.wr W4 (Or.inl (List.mem_of_getElem? (i := 0) rfl))
  obtain ⟨fs, hr, hrun, hended, hW, hsame⟩ := X4.leave (v := none) (fun _ => rfl)
  refine ⟨_, _, pre0 _ ?_, hrun, hended, _, _, rfl, ?_, ⟨_, rfl⟩, hW, hsame.mono (by decide) (by decide)⟩
  · show Steps p.tables e below (s₁.setTop (mkF m 0 #[.val (.ref o1), .val (.ref o2), .val .null, .val .null] [])) _
    refine XS.aloadN X0.here hx rfl (hb hby d_prog_77_method_1_code_0) rfl rfl ?_
    show Steps p.tables e below (s₁.setTop (mkF m 1 #[.val (.ref o1), .val (.ref o2), .val .null, .val .null] [(.ref o1)])) _
    refine st1 _ ?_
    show Steps p.tables e below (T1.setTop (mkF m 4 #[.val (.ref o1), .val (.ref o2), .val .null, .val .null] [])) _
    refine XS.aloadN X1.here hx rfl (hb hby d_prog_77_method_1_code_4) rfl rfl ?_
    show Steps p.tables e below (T1.setTop (mkF m 5 #[.val (.ref o1), .val (.ref o2), .val .null, .val .null] [(.ref o1)])) _
    refine XS.aloadN X1.here hx rfl (hb hby d_prog_77_method_1_code_5) rfl rfl ?_
    show Steps p.tables e below (T1.setTop (mkF m 6 #[.val (.ref o1), .val (.ref o2), .val .null, .val .null] [(.ref o2), (.ref o1)])) _
    refine st2 _ ?_
    show Steps p.tables e below (T2.setTop (mkF m 9 #[.val (.ref o1), .val (.ref o2), .val .null, .val .null] [])) _
    refine XS.aloadN X2.here hx rfl (hb hby d_prog_77_method_1_code_9) rfl rfl ?_
    show Steps p.tables e below (T2.setTop (mkF m 10 #[.val (.ref o1), .val (.ref o2), .val .null, .val .null] [(.ref o1)])) _
    refine XS.aloadN X2.here hx rfl (hb hby d_prog_77_method_1_code_10) rfl rfl ?_
    show Steps p.tables e below (T2.setTop (mkF m 11 #[.val (.ref o1), .val (.ref o2), .val .null, .val .null] [.null, (.ref o1)])) _
    refine st3 _ ?_
    show Steps p.tables e below (T3.setTop (mkF m 14 #[.val (.ref o1), .val (.ref o2), .val .null, .val .null] [])) _
    refine XS.aloadN X3.here hx rfl (hb hby d_prog_77_method_1_code_14) rfl rfl ?_
    show Steps p.tables e below (T3.setTop (mkF m 15 #[.val (.ref o1), .val (.ref o2), .val .null, .val .null] [(.ref o1)])) _
    refine XS.aloadN X3.here hx rfl (hb hby d_prog_77_method_1_code_15) rfl rfl ?_
    show Steps p.tables e below (T3.setTop (mkF m 16 #[.val (.ref o1), .val (.ref o2), .val .null, .val .null] [.null, (.ref o1)])) _
    refine st4 _ ?_
    show Steps p.tables e below (T4.setTop (mkF m 19 #[.val (.ref o1), .val (.ref o2), .val .null, .val .null] [])) _
    exact X4.returnOut hx Bd.returns (hb hby d_prog_77_method_1_code_19) hr
  · show Qd_3 Z w kk iw vw o1 o2 o3 t0 kc_o3 h0 Z.heap.size _ T4.heap _
    rw [e4]
    exact ⟨rfl, N4, K4, E_o1_v4, F_o1_owner_v4, F_o1_form_v4, F_o1_carries_v4, F_o1_graphicsCarried_v4, F_o1_graphics_v4⟩
theorem pd_5 : parseMethodDescriptor "(Ljava/lang/String;Lcom/example/netloom/netloom/xml/XmlGraphics$Form;Ljava/util/Set;)V" = some ⟨[(.object "java/lang/String"), (.object "com/example/netloom/netloom/xml/XmlGraphics$Form"), (.object "java/util/Set")], none⟩ := by decide +kernel
theorem d_prog_77_method_3_code_0 : decode prog_77_method_3_code 0 = .ok (.aload_n 0, 1) := by decide +kernel
theorem d_prog_77_method_3_code_1 : decode prog_77_method_3_code 1 = .ok (.getfield 23, 3) := by decide +kernel
theorem d_prog_77_method_3_code_4 : decode prog_77_method_3_code 4 = .ok (.ifCond .eq 21, 3) := by decide +kernel
theorem d_prog_77_method_3_code_25 : decode prog_77_method_3_code 25 = .ok (.iconst 0, 1) := by decide +kernel
theorem d_prog_77_method_3_code_26 : decode prog_77_method_3_code 26 = .ok (.ireturn, 1) := by decide +kernel
theorem ef_3 (m : MethodId) (x0 : Value) (h0 : x0.category = 1) : entryFrame m #[x0] 1 = mkF m 0 #[.val x0] [] := by first | (simp [entryFrame, mkF, argsToLocals, h0]; done) | rfl
set_option maxRecDepth 65536 in
set_option maxHeartbeats 40000000 in
theorem rm_7 (l : Launch) (Z : State) (a0 : Array Value) (hw : ∀ d ∈ tables_1, d.before a0 Z = true) (w : Nat → Addr) (kk : Nat → ClassId) (iw : Nat → Int32) (vw : Nat → Value) (hN : Wd Z w kk iw vw) (ws : List Jvm.Cond) (o1 : Addr) (o2 : Addr) (o3 : Addr) (t0 : Int32) (kc_o3 : ClassId) (h0 : Heap) (O0 : Old Z Z.heap.size h0) (gn_o1 : Z.heap.size ≤ o1) (lt_o1 : o1 < h0.size) (E_o1 : Exa Z h0 o1 "com/example/netloom/netloom/xml/NetReader$OpenAnnotations") (gn_o2 : Z.heap.size ≤ o2) (lt_o2 : o2 < h0.size) (F_o1_owner : Fld Z h0 o1 "com/example/netloom/netloom/xml/NetReader$OpenAnnotations" "owner" "Ljava/lang/String;" (.ref o2)) (F_o1_form : Fld Z h0 o1 "com/example/netloom/netloom/xml/NetReader$OpenAnnotations" "form" "Lcom/example/netloom/netloom/xml/XmlGraphics$Form;" .null) (F_o1_carries : Fld Z h0 o1 "com/example/netloom/netloom/xml/NetReader$OpenAnnotations" "carries" "Ljava/util/Set;" .null) (F_o1_graphicsCarried : Fld Z h0 o1 "com/example/netloom/netloom/xml/NetReader$OpenAnnotations" "graphicsCarried" "Z" (.int (0 : Int32))) (F_o1_graphics : Fld Z h0 o1 "com/example/netloom/netloom/xml/NetReader$OpenAnnotations" "graphics" "Lcom/example/netloom/netloom/net/Graphics;" .null) (E_o2 : Exa Z h0 o2 "java/lang/String") (gn_o3 : Z.heap.size ≤ o3) (lt_o3 : o3 < h0.size) (F_o2_value : Fld Z h0 o2 "java/lang/String" "value" "[B" (.ref o3)) (F_o2_coder : Fld Z h0 o2 "java/lang/String" "coder" "B" (.int (0 : Int32))) (V_o3 : Arv Z h0 o3 kc_o3 .byte (1 : Int32) [(.int t0)] (.int (0 : Int32))) (ne_o1_o2 : o1 ≠ o2) (ne_o1_o3 : o1 ≠ o3) (ne_o2_o3 : o2 ≠ o3) :
    MetFree l (⟨"com/example/netloom/netloom/xml/NetReader$OpenAnnotations", "carriesGraphics", "()Z"⟩ : MethodName) (head1 (Jvm.Cond.code (⟨"com/example/netloom/netloom/xml/NetReader$OpenAnnotations", "carriesGraphics", "()Z"⟩ : MethodName) prog_77_method_3_code 1 (some .boolean) :: ws) ({ frames := 0, cells := 0, slots := 0, locals := 0 } : Room)) (fun a U => a = #[(.ref o1)] ∧ Z.Warmed39 U.vm ∧ U.heap = h0) (fun _ _ _ _ _ => True) (fun _ U o U' => ∃ v L, o = .returned v ∧ OQ (some (.int (0 : Int32))) h0 Z.heap.size v U'.heap L ∧ FrameEnd U o U' L ({ frames := 0, cells := 0, slots := 0, locals := 0 } : Room).cells ({ frames := 0, cells := 0, slots := 0, locals := 0 } : Room).slots) := by
  have hN' := hN
  obtain ⟨hS0, hE0, hS1, hE1, hS2, hE2, hI0, hJ0, hR0, hRr0⟩ := hN'
  refine MetFree.of_bodySF (plainFor_of_name pn_3) hisR ?_
  intro p e s m args below meth c s₁ Bd hml0 hP hK
  obtain ⟨rfl, hZ, hh⟩ := hP
  have hx := Bd.exec
  have hby := Bd.bytes
  have hml : c.maxLocals = 1 := hml0
  have hown : s.vm.findClass "com/example/netloom/netloom/xml/NetReader$OpenAnnotations" = some m.cls := findClass_of_methodNamed Bd.named
  have hnm := (name_of_methodNamed Bd.named Bd.method).1
  have X0 : Stand p l e ({ frames := 0, cells := 0, slots := 0, locals := 0 } : Room) s m #[(.ref o1)] below meth c s₁ [] 0 0 := Stand.of_body Bd
  have e0 : s₁.heap = h0 := by rw [← hh, Bd.state]; rfl
  have N0 := Fr.nil Z.heap.size
  have pre0 : ∀ t, Steps p.tables e below (s₁.setTop (mkF m 0 #[.val (.ref o1)] [])) t → Steps p.tables e below (s₁.setTop (entryFrame m #[(.ref o1)] 1)) t := fun t k => castTop (ef_3 m (.ref o1) rfl) k
  obtain ⟨T1, X1, e1, st1⟩ := getF X0 hx hZ hown (host := "") (Or.inl (W hw 51 rfl)) Via.refl e0 F_o1_graphicsCarried (g := (mkF m 1 #[.val (.ref o1)] [(.ref o1)])) rfl rfl (hb hby d_prog_77_method_3_code_1)
  obtain ⟨fs, hr, hrun, hended, hW, hsame⟩ := X1.leave (v := some (.int (0 : Int32))) (fun h => by rw [Bd.returns] at h; cases h)
  refine ⟨_, _, pre0 _ ?_, hrun, hended, _, _, rfl, ?_, ⟨_, rfl⟩, hW, hsame.mono (by decide) (by decide)⟩
  · show Steps p.tables e below (s₁.setTop (mkF m 0 #[.val (.ref o1)] [])) _
    refine XS.aloadN X0.here hx rfl (hb hby d_prog_77_method_3_code_0) rfl rfl ?_
    show Steps p.tables e below (s₁.setTop (mkF m 1 #[.val (.ref o1)] [(.ref o1)])) _
    refine st1 _ ?_
    show Steps p.tables e below (T1.setTop (mkF m 4 #[.val (.ref o1)] [(.int (0 : Int32))])) _
    refine XS.ifYes X1.here hx rfl (pc0 := 4) (pc' := 25) rfl (hb hby d_prog_77_method_3_code_4) rfl ((if0 _ _).trans (teq (by decide : (0 : Int32) = (0 : Int32))).1) (by decide) (by decide) ?_
    show Steps p.tables e below (T1.setTop (mkF m 25 #[.val (.ref o1)] [])) _
    refine XS.iconst X1.here hx rfl (hb hby d_prog_77_method_3_code_25) ?_
    show Steps p.tables e below (T1.setTop (mkF m 26 #[.val (.ref o1)] [(.int (0 : Int32))])) _
    exact retN X1 hx (t := .boolean) Bd.returns (by simp) (hb hby d_prog_77_method_3_code_26) hr
  · show OQ (some (.int (0 : Int32))) h0 Z.heap.size _ T1.heap _
    rw [e1]
    exact ⟨rfl, N0, rfl⟩
theorem pd_6 : parseMethodDescriptor "()Z" = some ⟨[], some .boolean⟩ := by decide +kernel
theorem own_split_1 (x : Int32) : (x &&& (1 : Int32)) = (0 : Int32) ∨ (x &&& (1 : Int32)) = (1 : Int32) := by
  have h1 := c_mask x (1 : Int32) 1 (by decide) (by decide)
  simp only [← Int32.toInt_inj, h1, (by decide : (0 : Int32).toInt = 0), (by decide : (1 : Int32).toInt = 1)]
  omega
theorem ef_4 (m : MethodId) (x0 : Value) (h0 : x0.category = 1) (x1 : Value) (h1 : x1.category = 1) (x2 : Value) (h2 : x2.category = 1) : entryFrame m #[x0, x1, x2] maxLocals = mkF m 0 #[.val x0, .val x1, .val x2, .unset, .unset, .unset, .unset, .unset, .unset, .unset, .unset, .unset] [] := by first | (simp [entryFrame, mkF, argsToLocals, h0, h1, h2, maxLocals]; done) | rfl
set_option maxRecDepth 65536 in
set_option maxHeartbeats 40000000 in
theorem law_8 (l : Launch) (Z : State) (a0 : Array Value) (hw : ∀ d ∈ tables_1, d.before a0 Z = true) (w : Nat → Addr) (kk : Nat → ClassId) (iw : Nat → Int32) (vw : Nat → Value) (hN : Wd Z w kk iw vw) (ws : List Jvm.Cond) (p0 : Int32) (p1 : Int32) (p2 : Int32) (h0 : Heap) (O0 : Old Z Z.heap.size h0) (hp0 : (p1 &&& (3 : Int32)) = (0 : Int32)) (hp1 : ¬ ((255 : Int32) < ((p2 &&& (255 : Int32)).toUInt32.toUInt16.toUInt32.toInt32))) (hp2 : (p0 &&& (1 : Int32)) = (0 : Int32)) (hp3 : (p0 &&& (2 : Int32)) = (0 : Int32)) :
    MetFree l x (head1 (Jvm.Cond.code x code maxLocals ret :: ws) room_1) (fun a U => a = #[(.int p0), (.int p1), (.int p2)] ∧ Z.Warmed39 U.vm ∧ U.heap = h0) (fun _ _ _ _ _ => True) (fun _ U o U' => ∃ v L, o = .returned v ∧ OL (some (.int (1 : Int32))) Z.heap.size v U'.heap L ∧ FrameEnd U o U' L 16 128) := by
  have hN' := hN
  obtain ⟨hS0, hE0, hS1, hE1, hS2, hE2, hI0, hJ0, hR0, hRr0⟩ := hN'
  refine MetFree.of_bodySF (plainFor_of_name pn_0) hisR ?_
  intro p e s m args below meth c s₁ Bd hml0 hP hK
  obtain ⟨rfl, hZ, hh⟩ := hP
  have hx := Bd.exec
  have hby := Bd.bytes
  have hml : c.maxLocals = 12 := hml0
  have hown : s.vm.findClass "com/example/netloom/netloom/xml/OpenAnnotationsCarriesGraphicsPinLaw" = some m.cls := findClass_of_methodNamed Bd.named
  have hnm := (name_of_methodNamed Bd.named Bd.method).1
  have X0 : Stand p l e room_1 s m #[(.int p0), (.int p1), (.int p2)] below meth c s₁ [] 0 0 := Stand.of_body Bd
  have e0 : s₁.heap = h0 := by rw [← hh, Bd.state]; rfl
  have N0 := Fr.nil Z.heap.size
  have pre0 : ∀ t, Steps p.tables e below (s₁.setTop (mkF m 0 #[.val (.int p0), .val (.int p1), .val (.int p2), .unset, .unset, .unset, .unset, .unset, .unset, .unset, .unset, .unset] [])) t → Steps p.tables e below (s₁.setTop (entryFrame m #[(.int p0), (.int p1), (.int p2)] maxLocals)) t := fun t k => castTop (ef_4 m (.int p0) rfl (.int p1) rfl (.int p2) rfl) k
  obtain ⟨_, _, ⟨T1, L1, k1, n1⟩, -, X1, ⟨Lc1, hQ1, l1, y1, z1⟩, st1⟩ := Jvm.LawKit.callS X0 hx (y := (⟨"com/example/netloom/netloom/xml/OpenAnnotationsCarriesGraphicsPinLaw", "pick", "(I)Lcom/example/netloom/netloom/xml/XmlGraphics$Form;"⟩ : MethodName)) hown (mvT hZ (W hw 0 rfl)) (mvT hZ (W hw 1 rfl)) (mvT hZ (W hw 2 rfl)) (mvT hZ (W hw 3 rfl)) (by decide) (backOf (W := 0) (rm_1 l Z a0 hw w kk iw vw hN [] h0 O0) hZ (W hw 3 rfl) (W hw 2 rfl) (by decide) (by decide)) (g := (mkF m 3 #[.val (.int p0), .val (.int p1), .val (.int p2), .unset, .unset, .unset, .unset, .unset, .unset, .unset, .unset, .unset] [(.int (0 : Int32))])) rfl (by rw [hml]; rfl) (argsL := [(.int (0 : Int32))]) (rest := []) (lenOf pd_0 rfl) rfl (by show 2 * 0 + _ ≤ _; exact Nat.le_of_eq rfl) (hb hby at_3) (fun _ _ => ⟨rfl, e0, (by decide : 0 + 0 ≤ _), (by decide : 0 + 0 ≤ _)⟩)
  dsimp only [Pt.U, Pt.locs, Pt.cells, Pt.slots] at X1 l1 y1 z1 st1 hQ1
  subst l1 y1 z1
  obtain ⟨rfl, N1q, e1⟩ := hQ1
  have N1 := Fr.app N0 N1q
  obtain ⟨_, _, ⟨T2, L2, k2, n2⟩, -, X2, ⟨Lc2, hQ2, l2, y2, z2⟩, st2⟩ := Jvm.LawKit.callS X1 hx (y := (⟨"java/lang/String", "valueOf", "(C)Ljava/lang/String;"⟩ : MethodName)) hown (mvT hZ (W hw 7 rfl)) (mvT hZ (W hw 8 rfl)) (mvT hZ (W hw 9 rfl)) (mvT hZ (W hw 10 rfl)) (by decide) (backOf (W := 0) (rm_5 l Z a0 hw w kk iw vw hN [] ((p2 &&& (255 : Int32)).toUInt32.toUInt16.toUInt32.toInt32) h0 O0 hp1) hZ (W hw 10 rfl) (W hw 9 rfl) (by decide) (by decide)) (g := (mkF m 13 #[.val (.int p0), .val (.int p1), .val (.int p2), .val .null, .unset, .unset, .unset, .unset, .unset, .unset, .unset, .unset] [(.int ((p2 &&& (255 : Int32)).toUInt32.toUInt16.toUInt32.toInt32))])) rfl (by rw [hml]; rfl) (argsL := [(.int ((p2 &&& (255 : Int32)).toUInt32.toUInt16.toUInt32.toInt32))]) (rest := []) (lenOf pd_4 rfl) rfl (by show 2 * 0 + _ ≤ _; exact Nat.le_of_eq rfl) (hb hby at_13) (fun _ _ => ⟨rfl, e1, (by decide : 0 + 2 ≤ _), (by decide : 0 + 5 ≤ _)⟩)
  dsimp only [Pt.U, Pt.locs, Pt.cells, Pt.slots] at X2 l2 y2 z2 st2 hQ2
  subst l2 y2 z2
  obtain ⟨b2_0, b2_1, kb2_0, rfl, N2q, Kq2, tk2_0, tk2_1, tk2_2, tk2_3, tk2_4, tk2_5, tk2_6⟩ := hQ2
  have N2 := Fr.app N1 N2q
  have gn_b2_0 : Z.heap.size ≤ b2_0 := Nat.le_trans O0.2.1 tk2_0
  have gn_b2_1 : Z.heap.size ≤ b2_1 := Nat.le_trans O0.2.1 tk2_1
  have O2 := O0.keep Kq2 all0
  obtain ⟨T3, h3, X3, e3, E3, A3, D3, -, st3⟩ := newO X2 hx hZ hown (W hw 33 rfl) (W hw 34 rfl) (W hw 35 rfl) rfl (g := (mkF m 18 #[.val (.int p0), .val (.int p1), .val (.int p2), .val .null, .val (.ref b2_0), .unset, .unset, .unset, .unset, .unset, .unset, .unset] [])) rfl (hb hby at_18) (by decide) (by decide)
  obtain ⟨b3, g3⟩ : ∃ z, z = T2.heap.size := ⟨_, rfl⟩
  rw [← g3] at A3 st3 D3
  have gn_b3 : Z.heap.size ≤ b3 := Nat.le_trans O2.2.1 (Nat.le_of_eq g3.symm)
  have ne_b2_1_b3 : b2_1 ≠ b3 := Nat.ne_of_lt (Nat.lt_of_lt_of_le tk2_6.lt (Nat.le_of_eq g3.symm))
  have ne_b2_0_b3 : b2_0 ≠ b3 := Nat.ne_of_lt (Nat.lt_of_lt_of_le tk2_3.lt (Nat.le_of_eq g3.symm))
  have tk2_3_v3 := tk2_3.ext E3
  have tk2_4_v3 := tk2_4.ext E3
  have tk2_5_v3 := tk2_5.ext E3
  have tk2_6_v3 := tk2_6.ext E3
  have O3 := O2.ext E3
  have E_b3_v3 := A3
  have F_b3_owner_v3 : Fld Z h3 b3 "com/example/netloom/netloom/xml/NetReader$OpenAnnotations" "owner" "Ljava/lang/String;" .null := D3 (Or.inr (W hw 41 rfl)) (ty := (.object "java/lang/String")) (by decide)
  have F_b3_form_v3 : Fld Z h3 b3 "com/example/netloom/netloom/xml/NetReader$OpenAnnotations" "form" "Lcom/example/netloom/netloom/xml/XmlGraphics$Form;" .null := D3 (Or.inr (W hw 43 rfl)) (ty := (.object "com/example/netloom/netloom/xml/XmlGraphics$Form")) (by decide)
  have F_b3_carries_v3 : Fld Z h3 b3 "com/example/netloom/netloom/xml/NetReader$OpenAnnotations" "carries" "Ljava/util/Set;" .null := D3 (Or.inr (W hw 45 rfl)) (ty := (.object "java/util/Set")) (by decide)
  have F_b3_graphicsCarried_v3 : Fld Z h3 b3 "com/example/netloom/netloom/xml/NetReader$OpenAnnotations" "graphicsCarried" "Z" (.int (0 : Int32)) := D3 (Or.inl (W hw 52 rfl)) (ty := .boolean) (by decide)
  have F_b3_graphics_v3 : Fld Z h3 b3 "com/example/netloom/netloom/xml/NetReader$OpenAnnotations" "graphics" "Lcom/example/netloom/netloom/net/Graphics;" .null := D3 (Or.inl (W hw 59 rfl)) (ty := (.object "com/example/netloom/netloom/net/Graphics")) (by decide)
  obtain ⟨_, _, ⟨T4, L4, k4, n4⟩, -, X4, ⟨Lc4, hQ4, l4, y4, z4⟩, st4⟩ := X3.specialBack hx (y := (⟨"com/example/netloom/netloom/xml/NetReader$OpenAnnotations", "<init>", "(Ljava/lang/String;Lcom/example/netloom/netloom/xml/XmlGraphics$Form;Ljava/util/Set;)V"⟩ : MethodName)) rfl hown (mvT hZ (W hw 36 rfl)) (mvT hZ (W hw 37 rfl)) (mvT hZ (W hw 38 rfl)) (by decide) (backOf (W := 1) (rm_6 l Z a0 hw w kk iw vw hN [] b3 b2_0 b2_1 ((((p2 &&& (255 : Int32)).toUInt32.toUInt16.toUInt32.toInt32).toInt8.toInt32).toInt8.toInt32) kb2_0 h3 O3 gn_b3 E_b3_v3.lt gn_b2_0 tk2_3_v3.lt E_b3_v3 F_b3_owner_v3 F_b3_form_v3 F_b3_carries_v3 F_b3_graphicsCarried_v3 F_b3_graphics_v3 tk2_3_v3 gn_b2_1 tk2_6_v3.lt tk2_4_v3 tk2_5_v3 tk2_6_v3 (Ne.symm ne_b2_0_b3) (Ne.symm ne_b2_1_b3) tk2_2) hZ (W hw 38 rfl) (W hw 35 rfl) (by decide) (by decide)) (g := (mkF m 26 #[.val (.int p0), .val (.int p1), .val (.int p2), .val .null, .val (.ref b2_0), .unset, .unset, .unset, .unset, .unset, .unset, .unset] [.null, .null, (.ref b2_0), (.ref b3), (.ref b3)])) rfl (by rw [hml]; rfl) (Steps.refl _) (a := b3) (argsL := [(.ref b2_0), .null, .null]) (rest := [(.ref b3)]) (lenOf pd_5 rfl) rfl (by show 2 * 0 + _ ≤ _; exact Nat.le_of_eq rfl) (hb hby at_26) (fun _ _ => ⟨rfl, e3, (by decide : 3 + 0 ≤ _), (by decide : 16 + 0 ≤ _)⟩)
  dsimp only [Pt.U, Pt.locs, Pt.cells, Pt.slots] at X4 l4 y4 z4 st4 hQ4
  subst l4 y4 z4
  obtain ⟨rfl, N4q, Kq4, tk4_0, tk4_1, tk4_2, tk4_3, tk4_4, tk4_5⟩ := hQ4
  have N4 := Fr.app N2 N4q
  have tk2_3_v4 := tk2_3_v3.keep Kq4
  have tk2_4_v4 := tk2_4_v3.keep Kq4 (ninS ne_b2_0_b3 nin0)
  have tk2_5_v4 := tk2_5_v3.keep Kq4 (ninS ne_b2_0_b3 nin0)
  have tk2_6_v4 := tk2_6_v3.keep Kq4 (ninS ne_b2_1_b3 nin0)
  have E_b3_v4 := E_b3_v3.keep Kq4
  have O4 := O3.keep Kq4 (allS gn_b3 all0)
  obtain ⟨cq5, kq5, q5a, q5b, q5c⟩ := isOf hZ rfl tk4_0
  obtain ⟨_, _, ⟨T5, L5, k5, n5⟩, -, X5, ⟨Lc5, hQ5, l5, y5, z5⟩, st5⟩ := X4.virtualBack hx (y := (⟨"com/example/netloom/netloom/xml/NetReader$OpenAnnotations", "carriesGraphics", "()Z"⟩ : MethodName)) (z := (⟨"com/example/netloom/netloom/xml/NetReader$OpenAnnotations", "carriesGraphics", "()Z"⟩ : MethodName)) hown (mvT hZ (W hw 46 rfl)) (mvT hZ (W hw 47 rfl)) (notFace_of_selects (args := #[]) (mvT hZ (W hw 49 rfl))) (mvT hZ (W hw 49 rfl)) (mvT hZ (W hw 48 rfl)) (by decide) (backOf (W := 0) (rm_7 l Z a0 hw w kk iw vw hN [] b3 b2_0 b2_1 ((((p2 &&& (255 : Int32)).toUInt32.toUInt16.toUInt32.toInt32).toInt8.toInt32).toInt8.toInt32) kb2_0 T4.heap O4 gn_b3 tk4_0.lt tk4_0 gn_b2_0 tk2_3_v4.lt tk4_1 tk4_2 tk4_3 tk4_4 tk4_5 tk2_3_v4 gn_b2_1 tk2_6_v4.lt tk2_4_v4 tk2_5_v4 tk2_6_v4 (Ne.symm ne_b2_0_b3) (Ne.symm ne_b2_1_b3) tk2_2) hZ (W hw 50 rfl) (W hw 35 rfl) (by decide) (by decide)) q5a q5c (g := (mkF m 33 #[.val (.int p0), .val (.int p1), .val (.int p2), .val .null, .val (.ref b2_0), .val (.ref b3), .unset, .unset, .unset, .unset, .unset, .unset] [(.ref b3)])) rfl (by rw [hml]; rfl) (Steps.refl _) (argsL := []) (rest := []) (lenOf pd_6 rfl) rfl (by show 2 * 0 + _ ≤ _; exact Nat.le_of_eq rfl) (hb hby at_33) (fun _ _ => ⟨rfl, rfl, (by decide : 3 + 0 ≤ _), (by decide : 16 + 0 ≤ _)⟩)
  dsimp only [Pt.U, Pt.locs, Pt.cells, Pt.slots] at X5 l5 y5 z5 st5 hQ5
  subst l5 y5 z5
  obtain ⟨rfl, N5q, e5⟩ := hQ5
  have N5 := Fr.app N4 N5q
  obtain ⟨cq6, kq6, q6a, q6b, q6c⟩ := isOf hZ e5 tk4_0
  obtain ⟨_, _, ⟨T6, L6, k6, n6⟩, -, X6, ⟨Lc6, hQ6, l6, y6, z6⟩, st6⟩ := X5.virtualBack hx (y := (⟨"com/example/netloom/netloom/xml/NetReader$OpenAnnotations", "carriesGraphics", "()Z"⟩ : MethodName)) (z := (⟨"com/example/netloom/netloom/xml/NetReader$OpenAnnotations", "carriesGraphics", "()Z"⟩ : MethodName)) hown (mvT hZ (W hw 46 rfl)) (mvT hZ (W hw 47 rfl)) (notFace_of_selects (args := #[]) (mvT hZ (W hw 49 rfl))) (mvT hZ (W hw 49 rfl)) (mvT hZ (W hw 48 rfl)) (by decide) (backOf (W := 0) (rm_7 l Z a0 hw w kk iw vw hN [] b3 b2_0 b2_1 ((((p2 &&& (255 : Int32)).toUInt32.toUInt16.toUInt32.toInt32).toInt8.toInt32).toInt8.toInt32) kb2_0 T4.heap O4 gn_b3 tk4_0.lt tk4_0 gn_b2_0 tk2_3_v4.lt tk4_1 tk4_2 tk4_3 tk4_4 tk4_5 tk2_3_v4 gn_b2_1 tk2_6_v4.lt tk2_4_v4 tk2_5_v4 tk2_6_v4 (Ne.symm ne_b2_0_b3) (Ne.symm ne_b2_1_b3) tk2_2) hZ (W hw 50 rfl) (W hw 35 rfl) (by decide) (by decide)) q6a q6c (g := (mkF m 86 #[.val (.int p0), .val (.int p1), .val (.int p2), .val .null, .val (.ref b2_0), .val (.ref b3), .val (.int (0 : Int32)), .val (.int (0 : Int32)), .val (.int (0 : Int32)), .unset, .unset, .unset] [(.ref b3)])) rfl (by rw [hml]; rfl) (Steps.refl _) (argsL := []) (rest := []) (lenOf pd_6 rfl) rfl (by show 2 * 0 + _ ≤ _; exact Nat.le_of_eq rfl) (hb hby at_86) (fun _ _ => ⟨rfl, e5, (by decide : 3 + 0 ≤ _), (by decide : 16 + 0 ≤ _)⟩)
  dsimp only [Pt.U, Pt.locs, Pt.cells, Pt.slots] at X6 l6 y6 z6 st6 hQ6
  subst l6 y6 z6
  obtain ⟨rfl, N6q, e6⟩ := hQ6
  have N6 := Fr.app N5 N6q
  obtain ⟨cq7, kq7, q7a, q7b, q7c⟩ := isOf hZ e6 tk4_0
  obtain ⟨_, _, ⟨T7, L7, k7, n7⟩, -, X7, ⟨Lc7, hQ7, l7, y7, z7⟩, st7⟩ := X6.virtualBack hx (y := (⟨"com/example/netloom/netloom/xml/NetReader$OpenAnnotations", "carriesGraphics", "()Z"⟩ : MethodName)) (z := (⟨"com/example/netloom/netloom/xml/NetReader$OpenAnnotations", "carriesGraphics", "()Z"⟩ : MethodName)) hown (mvT hZ (W hw 46 rfl)) (mvT hZ (W hw 47 rfl)) (notFace_of_selects (args := #[]) (mvT hZ (W hw 49 rfl))) (mvT hZ (W hw 49 rfl)) (mvT hZ (W hw 48 rfl)) (by decide) (backOf (W := 0) (rm_7 l Z a0 hw w kk iw vw hN [] b3 b2_0 b2_1 ((((p2 &&& (255 : Int32)).toUInt32.toUInt16.toUInt32.toInt32).toInt8.toInt32).toInt8.toInt32) kb2_0 T4.heap O4 gn_b3 tk4_0.lt tk4_0 gn_b2_0 tk2_3_v4.lt tk4_1 tk4_2 tk4_3 tk4_4 tk4_5 tk2_3_v4 gn_b2_1 tk2_6_v4.lt tk2_4_v4 tk2_5_v4 tk2_6_v4 (Ne.symm ne_b2_0_b3) (Ne.symm ne_b2_1_b3) tk2_2) hZ (W hw 50 rfl) (W hw 35 rfl) (by decide) (by decide)) q7a q7c (g := (mkF m 93 #[.val (.int p0), .val (.int p1), .val (.int p2), .val .null, .val (.ref b2_0), .val (.ref b3), .val (.int (0 : Int32)), .val (.int (0 : Int32)), .val (.int (0 : Int32)), .val (.int (0 : Int32)), .unset, .unset] [(.ref b3)])) rfl (by rw [hml]; rfl) (Steps.refl _) (argsL := []) (rest := []) (lenOf pd_6 rfl) rfl (by show 2 * 0 + _ ≤ _; exact Nat.le_of_eq rfl) (hb hby at_93) (fun _ _ => ⟨rfl, e6, (by decide : 3 + 0 ≤ _), (by decide : 16 + 0 ≤ _)⟩)
  dsimp only [Pt.U, Pt.locs, Pt.cells, Pt.slots] at X7 l7 y7 z7 st7 hQ7
  subst l7 y7 z7
  obtain ⟨rfl, N7q, e7⟩ := hQ7
  have N7 := Fr.app N6 N7q
  obtain ⟨fs, hr, hrun, hended, hW, hsame⟩ := X7.leave (v := some (.int (1 : Int32))) (fun h => by rw [Bd.returns] at h; cases h)
  refine ⟨_, _, pre0 _ ?_, hrun, hended, _, _, rfl, ?_, ⟨_, rfl⟩, hW, hsame.mono (by decide) (by decide)⟩
  · show Steps p.tables e below (s₁.setTop (mkF m 0 #[.val (.int p0), .val (.int p1), .val (.int p2), .unset, .unset, .unset, .unset, .unset, .unset, .unset, .unset, .unset] [])) _
    refine XS.iloadN X0.here hx rfl (hb hby at_0) rfl ?_
    show Steps p.tables e below (s₁.setTop (mkF m 1 #[.val (.int p0), .val (.int p1), .val (.int p2), .unset, .unset, .unset, .unset, .unset, .unset, .unset, .unset, .unset] [(.int p1)])) _
    refine XS.iconst X0.here hx rfl (hb hby at_1) ?_
    show Steps p.tables e below (s₁.setTop (mkF m 2 #[.val (.int p0), .val (.int p1), .val (.int p2), .unset, .unset, .unset, .unset, .unset, .unset, .unset, .unset, .unset] [(.int (3 : Int32)), (.int p1)])) _
    refine XS.iand X0.here hx rfl (hb hby at_2) rfl ?_
    show Steps p.tables e below (s₁.setTop (mkF m 3 #[.val (.int p0), .val (.int p1), .val (.int p2), .unset, .unset, .unset, .unset, .unset, .unset, .unset, .unset, .unset] [(.int (p1 &&& (3 : Int32)))])) _
    rw [hp0]
    show Steps p.tables e below (s₁.setTop (mkF m 3 #[.val (.int p0), .val (.int p1), .val (.int p2), .unset, .unset, .unset, .unset, .unset, .unset, .unset, .unset, .unset] [(.int (0 : Int32))])) _
    refine st1 _ ?_
    show Steps p.tables e below (T1.setTop (mkF m 6 #[.val (.int p0), .val (.int p1), .val (.int p2), .unset, .unset, .unset, .unset, .unset, .unset, .unset, .unset, .unset] [.null])) _
    refine XS.astoreN X1.here hx rfl (hb hby at_6) rfl rfl (l' := #[.val (.int p0), .val (.int p1), .val (.int p2), .val .null, .unset, .unset, .unset, .unset, .unset, .unset, .unset, .unset]) rfl ?_
    show Steps p.tables e below (T1.setTop (mkF m 7 #[.val (.int p0), .val (.int p1), .val (.int p2), .val .null, .unset, .unset, .unset, .unset, .unset, .unset, .unset, .unset] [])) _
    refine XS.iloadN X1.here hx rfl (hb hby at_7) rfl ?_
    show Steps p.tables e below (T1.setTop (mkF m 8 #[.val (.int p0), .val (.int p1), .val (.int p2), .val .null, .unset, .unset, .unset, .unset, .unset, .unset, .unset, .unset] [(.int p2)])) _
    refine XS.sipush X1.here hx rfl (hb hby at_8) ?_
    show Steps p.tables e below (T1.setTop (mkF m 11 #[.val (.int p0), .val (.int p1), .val (.int p2), .val .null, .unset, .unset, .unset, .unset, .unset, .unset, .unset, .unset] [(.int (255 : Int32)), (.int p2)])) _
    refine XS.iand X1.here hx rfl (hb hby at_11) rfl ?_
    show Steps p.tables e below (T1.setTop (mkF m 12 #[.val (.int p0), .val (.int p1), .val (.int p2), .val .null, .unset, .unset, .unset, .unset, .unset, .unset, .unset, .unset] [(.int (p2 &&& (255 : Int32)))])) _
    refine XS.i2c X1.here hx rfl (hb hby at_12) rfl ?_
    show Steps p.tables e below (T1.setTop (mkF m 13 #[.val (.int p0), .val (.int p1), .val (.int p2), .val .null, .unset, .unset, .unset, .unset, .unset, .unset, .unset, .unset] [(.int ((p2 &&& (255 : Int32)).toUInt32.toUInt16.toUInt32.toInt32))])) _
    refine st2 _ ?_
    show Steps p.tables e below (T2.setTop (mkF m 16 #[.val (.int p0), .val (.int p1), .val (.int p2), .val .null, .unset, .unset, .unset, .unset, .unset, .unset, .unset, .unset] [(.ref b2_0)])) _
    refine XS.astore X2.here hx rfl (hb hby at_16) rfl rfl (l' := #[.val (.int p0), .val (.int p1), .val (.int p2), .val .null, .val (.ref b2_0), .unset, .unset, .unset, .unset, .unset, .unset, .unset]) rfl ?_
    show Steps p.tables e below (T2.setTop (mkF m 18 #[.val (.int p0), .val (.int p1), .val (.int p2), .val .null, .val (.ref b2_0), .unset, .unset, .unset, .unset, .unset, .unset, .unset] [])) _
    refine st3 _ ?_
    show Steps p.tables e below (T3.setTop (mkF m 21 #[.val (.int p0), .val (.int p1), .val (.int p2), .val .null, .val (.ref b2_0), .unset, .unset, .unset, .unset, .unset, .unset, .unset] [(.ref b3)])) _
    refine XS.dup X3.here hx rfl (hb hby at_21) rfl rfl ?_
    show Steps p.tables e below (T3.setTop (mkF m 22 #[.val (.int p0), .val (.int p1), .val (.int p2), .val .null, .val (.ref b2_0), .unset, .unset, .unset, .unset, .unset, .unset, .unset] [(.ref b3), (.ref b3)])) _
    refine XS.aload X3.here hx rfl (hb hby at_22) rfl rfl ?_
    show Steps p.tables e below (T3.setTop (mkF m 24 #[.val (.int p0), .val (.int p1), .val (.int p2), .val .null, .val (.ref b2_0), .unset, .unset, .unset, .unset, .unset, .unset, .unset] [(.ref b2_0), (.ref b3), (.ref b3)])) _
    refine XS.aloadN X3.here hx rfl (hb hby at_24) rfl rfl ?_
    show Steps p.tables e below (T3.setTop (mkF m 25 #[.val (.int p0), .val (.int p1), .val (.int p2), .val .null, .val (.ref b2_0), .unset, .unset, .unset, .unset, .unset, .unset, .unset] [.null, (.ref b2_0), (.ref b3), (.ref b3)])) _
    refine XS.aconstNull X3.here hx rfl (hb hby at_25) ?_
    show Steps p.tables e below (T3.setTop (mkF m 26 #[.val (.int p0), .val (.int p1), .val (.int p2), .val .null, .val (.ref b2_0), .unset, .unset, .unset, .unset, .unset, .unset, .unset] [.null, .null, (.ref b2_0), (.ref b3), (.ref b3)])) _
    refine st4.trans ?_
    show Steps p.tables e below (T4.setTop (mkF m 29 #[.val (.int p0), .val (.int p1), .val (.int p2), .val .null, .val (.ref b2_0), .unset, .unset, .unset, .unset, .unset, .unset, .unset] [(.ref b3)])) _
    refine XS.astore X4.here hx rfl (hb hby at_29) rfl rfl (l' := #[.val (.int p0), .val (.int p1), .val (.int p2), .val .null, .val (.ref b2_0), .val (.ref b3), .unset, .unset, .unset, .unset, .unset, .unset]) rfl ?_
    show Steps p.tables e below (T4.setTop (mkF m 31 #[.val (.int p0), .val (.int p1), .val (.int p2), .val .null, .val (.ref b2_0), .val (.ref b3), .unset, .unset, .unset, .unset, .unset, .unset] [])) _
    refine XS.aload X4.here hx rfl (hb hby at_31) rfl rfl ?_
    show Steps p.tables e below (T4.setTop (mkF m 33 #[.val (.int p0), .val (.int p1), .val (.int p2), .val .null, .val (.ref b2_0), .val (.ref b3), .unset, .unset, .unset, .unset, .unset, .unset] [(.ref b3)])) _
    refine st5.trans ?_
    show Steps p.tables e below (T5.setTop (mkF m 36 #[.val (.int p0), .val (.int p1), .val (.int p2), .val .null, .val (.ref b2_0), .val (.ref b3), .unset, .unset, .unset, .unset, .unset, .unset] [(.int (0 : Int32))])) _
    refine XS.istore X5.here hx rfl (hb hby at_36) rfl (l' := #[.val (.int p0), .val (.int p1), .val (.int p2), .val .null, .val (.ref b2_0), .val (.ref b3), .val (.int (0 : Int32)), .unset, .unset, .unset, .unset, .unset]) rfl ?_
    show Steps p.tables e below (T5.setTop (mkF m 38 #[.val (.int p0), .val (.int p1), .val (.int p2), .val .null, .val (.ref b2_0), .val (.ref b3), .val (.int (0 : Int32)), .unset, .unset, .unset, .unset, .unset] [])) _
    refine XS.iloadN X5.here hx rfl (hb hby at_38) rfl ?_
    show Steps p.tables e below (T5.setTop (mkF m 39 #[.val (.int p0), .val (.int p1), .val (.int p2), .val .null, .val (.ref b2_0), .val (.ref b3), .val (.int (0 : Int32)), .unset, .unset, .unset, .unset, .unset] [(.int p0)])) _
    refine XS.iconst X5.here hx rfl (hb hby at_39) ?_
    show Steps p.tables e below (T5.setTop (mkF m 40 #[.val (.int p0), .val (.int p1), .val (.int p2), .val .null, .val (.ref b2_0), .val (.ref b3), .val (.int (0 : Int32)), .unset, .unset, .unset, .unset, .unset] [(.int (1 : Int32)), (.int p0)])) _
    refine XS.iand X5.here hx rfl (hb hby at_40) rfl ?_
    show Steps p.tables e below (T5.setTop (mkF m 41 #[.val (.int p0), .val (.int p1), .val (.int p2), .val .null, .val (.ref b2_0), .val (.ref b3), .val (.int (0 : Int32)), .unset, .unset, .unset, .unset, .unset] [(.int (p0 &&& (1 : Int32)))])) _
    rw [hp2]
    show Steps p.tables e below (T5.setTop (mkF m 41 #[.val (.int p0), .val (.int p1), .val (.int p2), .val .null, .val (.ref b2_0), .val (.ref b3), .val (.int (0 : Int32)), .unset, .unset, .unset, .unset, .unset] [(.int (0 : Int32))])) _
    refine XS.ifYes X5.here hx rfl (pc0 := 41) (pc' := 48) rfl (hb hby at_41) rfl ((if0 _ _).trans (teq (by decide : (0 : Int32) = (0 : Int32))).1) (by decide) (by decide) ?_
    show Steps p.tables e below (T5.setTop (mkF m 48 #[.val (.int p0), .val (.int p1), .val (.int p2), .val .null, .val (.ref b2_0), .val (.ref b3), .val (.int (0 : Int32)), .unset, .unset, .unset, .unset, .unset] [])) _
    refine XS.iconst X5.here hx rfl (hb hby at_48) ?_
    show Steps p.tables e below (T5.setTop (mkF m 49 #[.val (.int p0), .val (.int p1), .val (.int p2), .val .null, .val (.ref b2_0), .val (.ref b3), .val (.int (0 : Int32)), .unset, .unset, .unset, .unset, .unset] [(.int (0 : Int32))])) _
    refine XS.istore X5.here hx rfl (hb hby at_49) rfl (l' := #[.val (.int p0), .val (.int p1), .val (.int p2), .val .null, .val (.ref b2_0), .val (.ref b3), .val (.int (0 : Int32)), .val (.int (0 : Int32)), .unset, .unset, .unset, .unset]) rfl ?_
    show Steps p.tables e below (T5.setTop (mkF m 51 #[.val (.int p0), .val (.int p1), .val (.int p2), .val .null, .val (.ref b2_0), .val (.ref b3), .val (.int (0 : Int32)), .val (.int (0 : Int32)), .unset, .unset, .unset, .unset] [])) _
    refine XS.iloadN X5.here hx rfl (hb hby at_51) rfl ?_
    show Steps p.tables e below (T5.setTop (mkF m 52 #[.val (.int p0), .val (.int p1), .val (.int p2), .val .null, .val (.ref b2_0), .val (.ref b3), .val (.int (0 : Int32)), .val (.int (0 : Int32)), .unset, .unset, .unset, .unset] [(.int p0)])) _
    refine XS.iconst X5.here hx rfl (hb hby at_52) ?_
    show Steps p.tables e below (T5.setTop (mkF m 53 #[.val (.int p0), .val (.int p1), .val (.int p2), .val .null, .val (.ref b2_0), .val (.ref b3), .val (.int (0 : Int32)), .val (.int (0 : Int32)), .unset, .unset, .unset, .unset] [(.int (2 : Int32)), (.int p0)])) _
    refine XS.iand X5.here hx rfl (hb hby at_53) rfl ?_
    show Steps p.tables e below (T5.setTop (mkF m 54 #[.val (.int p0), .val (.int p1), .val (.int p2), .val .null, .val (.ref b2_0), .val (.ref b3), .val (.int (0 : Int32)), .val (.int (0 : Int32)), .unset, .unset, .unset, .unset] [(.int (p0 &&& (2 : Int32)))])) _
    refine XS.ifYes X5.here hx rfl (pc0 := 54) (pc' := 61) rfl (hb hby at_54) rfl ((if0 _ _).trans (teq hp3).1) (by decide) (by decide) ?_
    show Steps p.tables e below (T5.setTop (mkF m 61 #[.val (.int p0), .val (.int p1), .val (.int p2), .val .null, .val (.ref b2_0), .val (.ref b3), .val (.int (0 : Int32)), .val (.int (0 : Int32)), .unset, .unset, .unset, .unset] [])) _
    refine XS.iconst X5.here hx rfl (hb hby at_61) ?_
    show Steps p.tables e below (T5.setTop (mkF m 62 #[.val (.int p0), .val (.int p1), .val (.int p2), .val .null, .val (.ref b2_0), .val (.ref b3), .val (.int (0 : Int32)), .val (.int (0 : Int32)), .unset, .unset, .unset, .unset] [(.int (0 : Int32))])) _
    refine XS.istore X5.here hx rfl (hb hby at_62) rfl (l' := #[.val (.int p0), .val (.int p1), .val (.int p2), .val .null, .val (.ref b2_0), .val (.ref b3), .val (.int (0 : Int32)), .val (.int (0 : Int32)), .val (.int (0 : Int32)), .unset, .unset, .unset]) rfl ?_
    show Steps p.tables e below (T5.setTop (mkF m 64 #[.val (.int p0), .val (.int p1), .val (.int p2), .val .null, .val (.ref b2_0), .val (.ref b3), .val (.int (0 : Int32)), .val (.int (0 : Int32)), .val (.int (0 : Int32)), .unset, .unset, .unset] [])) _
    refine XS.iload X5.here hx rfl (hb hby at_64) rfl ?_
    show Steps p.tables e below (T5.setTop (mkF m 66 #[.val (.int p0), .val (.int p1), .val (.int p2), .val .null, .val (.ref b2_0), .val (.ref b3), .val (.int (0 : Int32)), .val (.int (0 : Int32)), .val (.int (0 : Int32)), .unset, .unset, .unset] [(.int (0 : Int32))])) _
    refine XS.ifYes X5.here hx rfl (pc0 := 66) (pc' := 84) rfl (hb hby at_66) rfl ((if0 _ _).trans (teq (by decide : (0 : Int32) = (0 : Int32))).1) (by decide) (by decide) ?_
    show Steps p.tables e below (T5.setTop (mkF m 84 #[.val (.int p0), .val (.int p1), .val (.int p2), .val .null, .val (.ref b2_0), .val (.ref b3), .val (.int (0 : Int32)), .val (.int (0 : Int32)), .val (.int (0 : Int32)), .unset, .unset, .unset] [])) _
    refine XS.aload X5.here hx rfl (hb hby at_84) rfl rfl ?_
    show Steps p.tables e below (T5.setTop (mkF m 86 #[.val (.int p0), .val (.int p1), .val (.int p2), .val .null, .val (.ref b2_0), .val (.ref b3), .val (.int (0 : Int32)), .val (.int (0 : Int32)), .val (.int (0 : Int32)), .unset, .unset, .unset] [(.ref b3)])) _
    refine st6.trans ?_
    show Steps p.tables e below (T6.setTop (mkF m 89 #[.val (.int p0), .val (.int p1), .val (.int p2), .val .null, .val (.ref b2_0), .val (.ref b3), .val (.int (0 : Int32)), .val (.int (0 : Int32)), .val (.int (0 : Int32)), .unset, .unset, .unset] [(.int (0 : Int32))])) _
    refine XS.istore X6.here hx rfl (hb hby at_89) rfl (l' := #[.val (.int p0), .val (.int p1), .val (.int p2), .val .null, .val (.ref b2_0), .val (.ref b3), .val (.int (0 : Int32)), .val (.int (0 : Int32)), .val (.int (0 : Int32)), .val (.int (0 : Int32)), .unset, .unset]) rfl ?_
    show Steps p.tables e below (T6.setTop (mkF m 91 #[.val (.int p0), .val (.int p1), .val (.int p2), .val .null, .val (.ref b2_0), .val (.ref b3), .val (.int (0 : Int32)), .val (.int (0 : Int32)), .val (.int (0 : Int32)), .val (.int (0 : Int32)), .unset, .unset] [])) _
    refine XS.aload X6.here hx rfl (hb hby at_91) rfl rfl ?_
    show Steps p.tables e below (T6.setTop (mkF m 93 #[.val (.int p0), .val (.int p1), .val (.int p2), .val .null, .val (.ref b2_0), .val (.ref b3), .val (.int (0 : Int32)), .val (.int (0 : Int32)), .val (.int (0 : Int32)), .val (.int (0 : Int32)), .unset, .unset] [(.ref b3)])) _
    refine st7.trans ?_
    show Steps p.tables e below (T7.setTop (mkF m 96 #[.val (.int p0), .val (.int p1), .val (.int p2), .val .null, .val (.ref b2_0), .val (.ref b3), .val (.int (0 : Int32)), .val (.int (0 : Int32)), .val (.int (0 : Int32)), .val (.int (0 : Int32)), .unset, .unset] [(.int (0 : Int32))])) _
    refine XS.istore X7.here hx rfl (hb hby at_96) rfl (l' := #[.val (.int p0), .val (.int p1), .val (.int p2), .val .null, .val (.ref b2_0), .val (.ref b3), .val (.int (0 : Int32)), .val (.int (0 : Int32)), .val (.int (0 : Int32)), .val (.int (0 : Int32)), .val (.int (0 : Int32)), .unset]) rfl ?_
    show Steps p.tables e below (T7.setTop (mkF m 98 #[.val (.int p0), .val (.int p1), .val (.int p2), .val .null, .val (.ref b2_0), .val (.ref b3), .val (.int (0 : Int32)), .val (.int (0 : Int32)), .val (.int (0 : Int32)), .val (.int (0 : Int32)), .val (.int (0 : Int32)), .unset] [])) _
    refine XS.iload X7.here hx rfl (hb hby at_98) rfl ?_
    show Steps p.tables e below (T7.setTop (mkF m 100 #[.val (.int p0), .val (.int p1), .val (.int p2), .val .null, .val (.ref b2_0), .val (.ref b3), .val (.int (0 : Int32)), .val (.int (0 : Int32)), .val (.int (0 : Int32)), .val (.int (0 : Int32)), .val (.int (0 : Int32)), .unset] [(.int (0 : Int32))])) _
    refine XS.ifYes X7.here hx rfl (pc0 := 100) (pc' := 111) rfl (hb hby at_100) rfl ((if0 _ _).trans (teq (by decide : (0 : Int32) = (0 : Int32))).1) (by decide) (by decide) ?_
    show Steps p.tables e below (T7.setTop (mkF m 111 #[.val (.int p0), .val (.int p1), .val (.int p2), .val .null, .val (.ref b2_0), .val (.ref b3), .val (.int (0 : Int32)), .val (.int (0 : Int32)), .val (.int (0 : Int32)), .val (.int (0 : Int32)), .val (.int (0 : Int32)), .unset] [])) _
    refine XS.iconst X7.here hx rfl (hb hby at_111) ?_
    show Steps p.tables e below (T7.setTop (mkF m 112 #[.val (.int p0), .val (.int p1), .val (.int p2), .val .null, .val (.ref b2_0), .val (.ref b3), .val (.int (0 : Int32)), .val (.int (0 : Int32)), .val (.int (0 : Int32)), .val (.int (0 : Int32)), .val (.int (0 : Int32)), .unset] [(.int (0 : Int32))])) _
    refine XS.istore X7.here hx rfl (hb hby at_112) rfl (l' := #[.val (.int p0), .val (.int p1), .val (.int p2), .val .null, .val (.ref b2_0), .val (.ref b3), .val (.int (0 : Int32)), .val (.int (0 : Int32)), .val (.int (0 : Int32)), .val (.int (0 : Int32)), .val (.int (0 : Int32)), .val (.int (0 : Int32))]) rfl ?_
    show Steps p.tables e below (T7.setTop (mkF m 114 #[.val (.int p0), .val (.int p1), .val (.int p2), .val .null, .val (.ref b2_0), .val (.ref b3), .val (.int (0 : Int32)), .val (.int (0 : Int32)), .val (.int (0 : Int32)), .val (.int (0 : Int32)), .val (.int (0 : Int32)), .val (.int (0 : Int32))] [])) _
    refine XS.iload X7.here hx rfl (hb hby at_114) rfl ?_
    show Steps p.tables e below (T7.setTop (mkF m 116 #[.val (.int p0), .val (.int p1), .val (.int p2), .val .null, .val (.ref b2_0), .val (.ref b3), .val (.int (0 : Int32)), .val (.int (0 : Int32)), .val (.int (0 : Int32)), .val (.int (0 : Int32)), .val (.int (0 : Int32)), .val (.int (0 : Int32))] [(.int (0 : Int32))])) _
    refine XS.ifNo X7.here hx rfl (hb hby at_116) rfl ((if0 _ _).trans (teq (by decide : (0 : Int32) = (0 : Int32))).2) ?_
    show Steps p.tables e below (T7.setTop (mkF m 119 #[.val (.int p0), .val (.int p1), .val (.int p2), .val .null, .val (.ref b2_0), .val (.ref b3), .val (.int (0 : Int32)), .val (.int (0 : Int32)), .val (.int (0 : Int32)), .val (.int (0 : Int32)), .val (.int (0 : Int32)), .val (.int (0 : Int32))] [])) _
    refine XS.iload X7.here hx rfl (hb hby at_119) rfl ?_
    show Steps p.tables e below (T7.setTop (mkF m 121 #[.val (.int p0), .val (.int p1), .val (.int p2), .val .null, .val (.ref b2_0), .val (.ref b3), .val (.int (0 : Int32)), .val (.int (0 : Int32)), .val (.int (0 : Int32)), .val (.int (0 : Int32)), .val (.int (0 : Int32)), .val (.int (0 : Int32))] [(.int (0 : Int32))])) _
    refine XS.iload X7.here hx rfl (hb hby at_121) rfl ?_
    show Steps p.tables e below (T7.setTop (mkF m 123 #[.val (.int p0), .val (.int p1), .val (.int p2), .val .null, .val (.ref b2_0), .val (.ref b3), .val (.int (0 : Int32)), .val (.int (0 : Int32)), .val (.int (0 : Int32)), .val (.int (0 : Int32)), .val (.int (0 : Int32)), .val (.int (0 : Int32))] [(.int (0 : Int32)), (.int (0 : Int32))])) _
    refine XS.icmpNo X7.here hx rfl (hb hby at_123) rfl (teq (by decide : (0 : Int32) = (0 : Int32))).2 ?_
    show Steps p.tables e below (T7.setTop (mkF m 126 #[.val (.int p0), .val (.int p1), .val (.int p2), .val .null, .val (.ref b2_0), .val (.ref b3), .val (.int (0 : Int32)), .val (.int (0 : Int32)), .val (.int (0 : Int32)), .val (.int (0 : Int32)), .val (.int (0 : Int32)), .val (.int (0 : Int32))] [])) _
    refine XS.iload X7.here hx rfl (hb hby at_126) rfl ?_
    show Steps p.tables e below (T7.setTop (mkF m 128 #[.val (.int p0), .val (.int p1), .val (.int p2), .val .null, .val (.ref b2_0), .val (.ref b3), .val (.int (0 : Int32)), .val (.int (0 : Int32)), .val (.int (0 : Int32)), .val (.int (0 : Int32)), .val (.int (0 : Int32)), .val (.int (0 : Int32))] [(.int (0 : Int32))])) _
    refine XS.iload X7.here hx rfl (hb hby at_128) rfl ?_
    show Steps p.tables e below (T7.setTop (mkF m 130 #[.val (.int p0), .val (.int p1), .val (.int p2), .val .null, .val (.ref b2_0), .val (.ref b3), .val (.int (0 : Int32)), .val (.int (0 : Int32)), .val (.int (0 : Int32)), .val (.int (0 : Int32)), .val (.int (0 : Int32)), .val (.int (0 : Int32))] [(.int (0 : Int32)), (.int (0 : Int32))])) _
    refine XS.icmpNo X7.here hx rfl (hb hby at_130) rfl (teq (by decide : (0 : Int32) = (0 : Int32))).2 ?_
    show Steps p.tables e below (T7.setTop (mkF m 133 #[.val (.int p0), .val (.int p1), .val (.int p2), .val .null, .val (.ref b2_0), .val (.ref b3), .val (.int (0 : Int32)), .val (.int (0 : Int32)), .val (.int (0 : Int32)), .val (.int (0 : Int32)), .val (.int (0 : Int32)), .val (.int (0 : Int32))] [])) _
    refine XS.iconst X7.here hx rfl (hb hby at_133) ?_
    show Steps p.tables e below (T7.setTop (mkF m 134 #[.val (.int p0), .val (.int p1), .val (.int p2), .val .null, .val (.ref b2_0), .val (.ref b3), .val (.int (0 : Int32)), .val (.int (0 : Int32)), .val (.int (0 : Int32)), .val (.int (0 : Int32)), .val (.int (0 : Int32)), .val (.int (0 : Int32))] [(.int (1 : Int32))])) _
    refine XS.goto X7.here hx rfl (pc0 := 134) (pc' := 138) rfl (hb hby at_134) (by decide) (by decide) ?_
    show Steps p.tables e below (T7.setTop (mkF m 138 #[.val (.int p0), .val (.int p1), .val (.int p2), .val .null, .val (.ref b2_0), .val (.ref b3), .val (.int (0 : Int32)), .val (.int (0 : Int32)), .val (.int (0 : Int32)), .val (.int (0 : Int32)), .val (.int (0 : Int32)), .val (.int (0 : Int32))] [(.int (1 : Int32))])) _
    exact retN X7 hx (t := .boolean) Bd.returns (by simp) (hb hby at_138) hr
  · show OL (some (.int (1 : Int32))) Z.heap.size _ T7.heap _
    exact ⟨rfl, N7⟩
set_option maxRecDepth 65536 in
set_option maxHeartbeats 40000000 in
theorem law_9 (l : Launch) (Z : State) (a0 : Array Value) (hw : ∀ d ∈ tables_1, d.before a0 Z = true) (w : Nat → Addr) (kk : Nat → ClassId) (iw : Nat → Int32) (vw : Nat → Value) (hN : Wd Z w kk iw vw) (ws : List Jvm.Cond) (p0 : Int32) (p1 : Int32) (p2 : Int32) (h0 : Heap) (O0 : Old Z Z.heap.size h0) (hp0 : (p1 &&& (3 : Int32)) = (0 : Int32)) (hp1 : ¬ ((255 : Int32) < ((p2 &&& (255 : Int32)).toUInt32.toUInt16.toUInt32.toInt32))) (hp2 : (p0 &&& (1 : Int32)) = (0 : Int32)) (hp3 : ¬ ((p0 &&& (2 : Int32)) = (0 : Int32))) :
    MetFree l x (head1 (Jvm.Cond.code x code maxLocals ret :: ws) room_1) (fun a U => a = #[(.int p0), (.int p1), (.int p2)] ∧ Z.Warmed39 U.vm ∧ U.heap = h0) (fun _ _ _ _ _ => True) (fun _ U o U' => ∃ v L, o = .returned v ∧ OL (some (.int (1 : Int32))) Z.heap.size v U'.heap L ∧ FrameEnd U o U' L 16 128) := by
  have hN' := hN
  obtain ⟨hS0, hE0, hS1, hE1, hS2, hE2, hI0, hJ0, hR0, hRr0⟩ := hN'
  refine MetFree.of_bodySF (plainFor_of_name pn_0) hisR ?_
  intro p e s m args below meth c s₁ Bd hml0 hP hK
  obtain ⟨rfl, hZ, hh⟩ := hP
  have hx := Bd.exec
  have hby := Bd.bytes
  have hml : c.maxLocals = 12 := hml0
  have hown : s.vm.findClass "com/example/netloom/netloom/xml/OpenAnnotationsCarriesGraphicsPinLaw" = some m.cls := findClass_of_methodNamed Bd.named
  have hnm := (name_of_methodNamed Bd.named Bd.method).1
  have X0 : Stand p l e room_1 s m #[(.int p0), (.int p1), (.int p2)] below meth c s₁ [] 0 0 := Stand.of_body Bd
  have e0 : s₁.heap = h0 := by rw [← hh, Bd.state]; rfl
  have N0 := Fr.nil Z.heap.size
  have pre0 : ∀ t, Steps p.tables e below (s₁.setTop (mkF m 0 #[.val (.int p0), .val (.int p1), .val (.int p2), .unset, .unset, .unset, .unset, .unset, .unset, .unset, .unset, .unset] [])) t → Steps p.tables e below (s₁.setTop (entryFrame m #[(.int p0), (.int p1), (.int p2)] maxLocals)) t := fun t k => castTop (ef_4 m (.int p0) rfl (.int p1) rfl (.int p2) rfl) k
  obtain ⟨_, _, ⟨T1, L1, k1, n1⟩, -, X1, ⟨Lc1, hQ1, l1, y1, z1⟩, st1⟩ := Jvm.LawKit.callS X0 hx (y := (⟨"com/example/netloom/netloom/xml/OpenAnnotationsCarriesGraphicsPinLaw", "pick", "(I)Lcom/example/netloom/netloom/xml/XmlGraphics$Form;"⟩ : MethodName)) hown (mvT hZ (W hw 0 rfl)) (mvT hZ (W hw 1 rfl)) (mvT hZ (W hw 2 rfl)) (mvT hZ (W hw 3 rfl)) (by decide) (backOf (W := 0) (rm_1 l Z a0 hw w kk iw vw hN [] h0 O0) hZ (W hw 3 rfl) (W hw 2 rfl) (by decide) (by decide)) (g := (mkF m 3 #[.val (.int p0), .val (.int p1), .val (.int p2), .unset, .unset, .unset, .unset, .unset, .unset, .unset, .unset, .unset] [(.int (0 : Int32))])) rfl (by rw [hml]; rfl) (argsL := [(.int (0 : Int32))]) (rest := []) (lenOf pd_0 rfl) rfl (by show 2 * 0 + _ ≤ _; exact Nat.le_of_eq rfl) (hb hby at_3) (fun _ _ => ⟨rfl, e0, (by decide : 0 + 0 ≤ _), (by decide : 0 + 0 ≤ _)⟩)
  dsimp only [Pt.U, Pt.locs, Pt.cells, Pt.slots] at X1 l1 y1 z1 st1 hQ1
  subst l1 y1 z1
  obtain ⟨rfl, N1q, e1⟩ := hQ1
  have N1 := Fr.app N0 N1q
  obtain ⟨_, _, ⟨T2, L2, k2, n2⟩, -, X2, ⟨Lc2, hQ2, l2, y2, z2⟩, st2⟩ := Jvm.LawKit.callS X1 hx (y := (⟨"java/lang/String", "valueOf", "(C)Ljava/lang/String;"⟩ : MethodName)) hown (mvT hZ (W hw 7 rfl)) (mvT hZ (W hw 8 rfl)) (mvT hZ (W hw 9 rfl)) (mvT hZ (W hw 10 rfl)) (by decide) (backOf (W := 0) (rm_5 l Z a0 hw w kk iw vw hN [] ((p2 &&& (255 : Int32)).toUInt32.toUInt16.toUInt32.toInt32) h0 O0 hp1) hZ (W hw 10 rfl) (W hw 9 rfl) (by decide) (by decide)) (g := (mkF m 13 #[.val (.int p0), .val (.int p1), .val (.int p2), .val .null, .unset, .unset, .unset, .unset, .unset, .unset, .unset, .unset] [(.int ((p2 &&& (255 : Int32)).toUInt32.toUInt16.toUInt32.toInt32))])) rfl (by rw [hml]; rfl) (argsL := [(.int ((p2 &&& (255 : Int32)).toUInt32.toUInt16.toUInt32.toInt32))]) (rest := []) (lenOf pd_4 rfl) rfl (by show 2 * 0 + _ ≤ _; exact Nat.le_of_eq rfl) (hb hby at_13) (fun _ _ => ⟨rfl, e1, (by decide : 0 + 2 ≤ _), (by decide : 0 + 5 ≤ _)⟩)
  dsimp only [Pt.U, Pt.locs, Pt.cells, Pt.slots] at X2 l2 y2 z2 st2 hQ2
  subst l2 y2 z2
  obtain ⟨b2_0, b2_1, kb2_0, rfl, N2q, Kq2, tk2_0, tk2_1, tk2_2, tk2_3, tk2_4, tk2_5, tk2_6⟩ := hQ2
  have N2 := Fr.app N1 N2q
  have gn_b2_0 : Z.heap.size ≤ b2_0 := Nat.le_trans O0.2.1 tk2_0
  have gn_b2_1 : Z.heap.size ≤ b2_1 := Nat.le_trans O0.2.1 tk2_1
  have O2 := O0.keep Kq2 all0
  obtain ⟨T3, h3, X3, e3, E3, A3, D3, -, st3⟩ := newO X2 hx hZ hown (W hw 33 rfl) (W hw 34 rfl) (W hw 35 rfl) rfl (g := (mkF m 18 #[.val (.int p0), .val (.int p1), .val (.int p2), .val .null, .val (.ref b2_0), .unset, .unset, .unset, .unset, .unset, .unset, .unset] [])) rfl (hb hby at_18) (by decide) (by decide)
  obtain ⟨b3, g3⟩ : ∃ z, z = T2.heap.size := ⟨_, rfl⟩
  rw [← g3] at A3 st3 D3
  have gn_b3 : Z.heap.size ≤ b3 := Nat.le_trans O2.2.1 (Nat.le_of_eq g3.symm)
  have ne_b2_1_b3 : b2_1 ≠ b3 := Nat.ne_of_lt (Nat.lt_of_lt_of_le tk2_6.lt (Nat.le_of_eq g3.symm))
  have ne_b2_0_b3 : b2_0 ≠ b3 := Nat.ne_of_lt (Nat.lt_of_lt_of_le tk2_3.lt (Nat.le_of_eq g3.symm))
  have tk2_3_v3 := tk2_3.ext E3
  have tk2_4_v3 := tk2_4.ext E3
  have tk2_5_v3 := tk2_5.ext E3
  have tk2_6_v3 := tk2_6.ext E3
  have O3 := O2.ext E3
  have E_b3_v3 := A3
  have F_b3_owner_v3 : Fld Z h3 b3 "com/example/netloom/netloom/xml/NetReader$OpenAnnotations" "owner" "Ljava/lang/String;" .null := D3 (Or.inr (W hw 41 rfl)) (ty := (.object "java/lang/String")) (by decide)
  have F_b3_form_v3 : Fld Z h3 b3 "com/example/netloom/netloom/xml/NetReader$OpenAnnotations" "form" "Lcom/example/netloom/netloom/xml/XmlGraphics$Form;" .null := D3 (Or.inr (W hw 43 rfl)) (ty := (.object "com/example/netloom/netloom/xml/XmlGraphics$Form")) (by decide)
  have F_b3_carries_v3 : Fld Z h3 b3 "com/example/netloom/netloom/xml/NetReader$OpenAnnotations" "carries" "Ljava/util/Set;" .null := D3 (Or.inr (W hw 45 rfl)) (ty := (.object "java/util/Set")) (by decide)
  have F_b3_graphicsCarried_v3 : Fld Z h3 b3 "com/example/netloom/netloom/xml/NetReader$OpenAnnotations" "graphicsCarried" "Z" (.int (0 : Int32)) := D3 (Or.inl (W hw 52 rfl)) (ty := .boolean) (by decide)
  have F_b3_graphics_v3 : Fld Z h3 b3 "com/example/netloom/netloom/xml/NetReader$OpenAnnotations" "graphics" "Lcom/example/netloom/netloom/net/Graphics;" .null := D3 (Or.inl (W hw 59 rfl)) (ty := (.object "com/example/netloom/netloom/net/Graphics")) (by decide)
  obtain ⟨_, _, ⟨T4, L4, k4, n4⟩, -, X4, ⟨Lc4, hQ4, l4, y4, z4⟩, st4⟩ := X3.specialBack hx (y := (⟨"com/example/netloom/netloom/xml/NetReader$OpenAnnotations", "<init>", "(Ljava/lang/String;Lcom/example/netloom/netloom/xml/XmlGraphics$Form;Ljava/util/Set;)V"⟩ : MethodName)) rfl hown (mvT hZ (W hw 36 rfl)) (mvT hZ (W hw 37 rfl)) (mvT hZ (W hw 38 rfl)) (by decide) (backOf (W := 1) (rm_6 l Z a0 hw w kk iw vw hN [] b3 b2_0 b2_1 ((((p2 &&& (255 : Int32)).toUInt32.toUInt16.toUInt32.toInt32).toInt8.toInt32).toInt8.toInt32) kb2_0 h3 O3 gn_b3 E_b3_v3.lt gn_b2_0 tk2_3_v3.lt E_b3_v3 F_b3_owner_v3 F_b3_form_v3 F_b3_carries_v3 F_b3_graphicsCarried_v3 F_b3_graphics_v3 tk2_3_v3 gn_b2_1 tk2_6_v3.lt tk2_4_v3 tk2_5_v3 tk2_6_v3 (Ne.symm ne_b2_0_b3) (Ne.symm ne_b2_1_b3) tk2_2) hZ (W hw 38 rfl) (W hw 35 rfl) (by decide) (by decide)) (g := (mkF m 26 #[.val (.int p0), .val (.int p1), .val (.int p2), .val .null, .val (.ref b2_0), .unset, .unset, .unset, .unset, .unset, .unset, .unset] [.null, .null, (.ref b2_0), (.ref b3), (.ref b3)])) rfl (by rw [hml]; rfl) (Steps.refl _) (a := b3) (argsL := [(.ref b2_0), .null, .null]) (rest := [(.ref b3)]) (lenOf pd_5 rfl) rfl (by show 2 * 0 + _ ≤ _; exact Nat.le_of_eq rfl) (hb hby at_26) (fun _ _ => ⟨rfl, e3, (by decide : 3 + 0 ≤ _), (by decide : 16 + 0 ≤ _)⟩)
  dsimp only [Pt.U, Pt.locs, Pt.cells, Pt.slots] at X4 l4 y4 z4 st4 hQ4
  subst l4 y4 z4
  obtain ⟨rfl, N4q, Kq4, tk4_0, tk4_1, tk4_2, tk4_3, tk4_4, tk4_5⟩ := hQ4
  have N4 := Fr.app N2 N4q
  have tk2_3_v4 := tk2_3_v3.keep Kq4
  have tk2_4_v4 := tk2_4_v3.keep Kq4 (ninS ne_b2_0_b3 nin0)
  have tk2_5_v4 := tk2_5_v3.keep Kq4 (ninS ne_b2_0_b3 nin0)
  have tk2_6_v4 := tk2_6_v3.keep Kq4 (ninS ne_b2_1_b3 nin0)
  have E_b3_v4 := E_b3_v3.keep Kq4
  have O4 := O3.keep Kq4 (allS gn_b3 all0)
  obtain ⟨cq5, kq5, q5a, q5b, q5c⟩ := isOf hZ rfl tk4_0
  obtain ⟨_, _, ⟨T5, L5, k5, n5⟩, -, X5, ⟨Lc5, hQ5, l5, y5, z5⟩, st5⟩ := X4.virtualBack hx (y := (⟨"com/example/netloom/netloom/xml/NetReader$OpenAnnotations", "carriesGraphics", "()Z"⟩ : MethodName)) (z := (⟨"com/example/netloom/netloom/xml/NetReader$OpenAnnotations", "carriesGraphics", "()Z"⟩ : MethodName)) hown (mvT hZ (W hw 46 rfl)) (mvT hZ (W hw 47 rfl)) (notFace_of_selects (args := #[]) (mvT hZ (W hw 49 rfl))) (mvT hZ (W hw 49 rfl)) (mvT hZ (W hw 48 rfl)) (by decide) (backOf (W := 0) (rm_7 l Z a0 hw w kk iw vw hN [] b3 b2_0 b2_1 ((((p2 &&& (255 : Int32)).toUInt32.toUInt16.toUInt32.toInt32).toInt8.toInt32).toInt8.toInt32) kb2_0 T4.heap O4 gn_b3 tk4_0.lt tk4_0 gn_b2_0 tk2_3_v4.lt tk4_1 tk4_2 tk4_3 tk4_4 tk4_5 tk2_3_v4 gn_b2_1 tk2_6_v4.lt tk2_4_v4 tk2_5_v4 tk2_6_v4 (Ne.symm ne_b2_0_b3) (Ne.symm ne_b2_1_b3) tk2_2) hZ (W hw 50 rfl) (W hw 35 rfl) (by decide) (by decide)) q5a q5c (g := (mkF m 33 #[.val (.int p0), .val (.int p1), .val (.int p2), .val .null, .val (.ref b2_0), .val (.ref b3), .unset, .unset, .unset, .unset, .unset, .unset] [(.ref b3)])) rfl (by rw [hml]; rfl) (Steps.refl _) (argsL := []) (rest := []) (lenOf pd_6 rfl) rfl (by show 2 * 0 + _ ≤ _; exact Nat.le_of_eq rfl) (hb hby at_33) (fun _ _ => ⟨rfl, rfl, (by decide : 3 + 0 ≤ _), (by decide : 16 + 0 ≤ _)⟩)
  dsimp only [Pt.U, Pt.locs, Pt.cells, Pt.slots] at X5 l5 y5 z5 st5 hQ5
  subst l5 y5 z5
  obtain ⟨rfl, N5q, e5⟩ := hQ5
  have N5 := Fr.app N4 N5q
  obtain ⟨cq6, kq6, q6a, q6b, q6c⟩ := isOf hZ e5 tk4_0
  obtain ⟨_, _, ⟨T6, L6, k6, n6⟩, -, X6, ⟨Lc6, hQ6, l6, y6, z6⟩, st6⟩ := X5.virtualBack hx (y := (⟨"com/example/netloom/netloom/xml/NetReader$OpenAnnotations", "carriesGraphics", "()Z"⟩ : MethodName)) (z := (⟨"com/example/netloom/netloom/xml/NetReader$OpenAnnotations", "carriesGraphics", "()Z"⟩ : MethodName)) hown (mvT hZ (W hw 46 rfl)) (mvT hZ (W hw 47 rfl)) (notFace_of_selects (args := #[]) (mvT hZ (W hw 49 rfl))) (mvT hZ (W hw 49 rfl)) (mvT hZ (W hw 48 rfl)) (by decide) (backOf (W := 0) (rm_7 l Z a0 hw w kk iw vw hN [] b3 b2_0 b2_1 ((((p2 &&& (255 : Int32)).toUInt32.toUInt16.toUInt32.toInt32).toInt8.toInt32).toInt8.toInt32) kb2_0 T4.heap O4 gn_b3 tk4_0.lt tk4_0 gn_b2_0 tk2_3_v4.lt tk4_1 tk4_2 tk4_3 tk4_4 tk4_5 tk2_3_v4 gn_b2_1 tk2_6_v4.lt tk2_4_v4 tk2_5_v4 tk2_6_v4 (Ne.symm ne_b2_0_b3) (Ne.symm ne_b2_1_b3) tk2_2) hZ (W hw 50 rfl) (W hw 35 rfl) (by decide) (by decide)) q6a q6c (g := (mkF m 86 #[.val (.int p0), .val (.int p1), .val (.int p2), .val .null, .val (.ref b2_0), .val (.ref b3), .val (.int (0 : Int32)), .val (.int (0 : Int32)), .val (.int (1 : Int32)), .unset, .unset, .unset] [(.ref b3)])) rfl (by rw [hml]; rfl) (Steps.refl _) (argsL := []) (rest := []) (lenOf pd_6 rfl) rfl (by show 2 * 0 + _ ≤ _; exact Nat.le_of_eq rfl) (hb hby at_86) (fun _ _ => ⟨rfl, e5, (by decide : 3 + 0 ≤ _), (by decide : 16 + 0 ≤ _)⟩)
  dsimp only [Pt.U, Pt.locs, Pt.cells, Pt.slots] at X6 l6 y6 z6 st6 hQ6
  subst l6 y6 z6
  obtain ⟨rfl, N6q, e6⟩ := hQ6
  have N6 := Fr.app N5 N6q
  obtain ⟨cq7, kq7, q7a, q7b, q7c⟩ := isOf hZ e6 tk4_0
  obtain ⟨_, _, ⟨T7, L7, k7, n7⟩, -, X7, ⟨Lc7, hQ7, l7, y7, z7⟩, st7⟩ := X6.virtualBack hx (y := (⟨"com/example/netloom/netloom/xml/NetReader$OpenAnnotations", "carriesGraphics", "()Z"⟩ : MethodName)) (z := (⟨"com/example/netloom/netloom/xml/NetReader$OpenAnnotations", "carriesGraphics", "()Z"⟩ : MethodName)) hown (mvT hZ (W hw 46 rfl)) (mvT hZ (W hw 47 rfl)) (notFace_of_selects (args := #[]) (mvT hZ (W hw 49 rfl))) (mvT hZ (W hw 49 rfl)) (mvT hZ (W hw 48 rfl)) (by decide) (backOf (W := 0) (rm_7 l Z a0 hw w kk iw vw hN [] b3 b2_0 b2_1 ((((p2 &&& (255 : Int32)).toUInt32.toUInt16.toUInt32.toInt32).toInt8.toInt32).toInt8.toInt32) kb2_0 T4.heap O4 gn_b3 tk4_0.lt tk4_0 gn_b2_0 tk2_3_v4.lt tk4_1 tk4_2 tk4_3 tk4_4 tk4_5 tk2_3_v4 gn_b2_1 tk2_6_v4.lt tk2_4_v4 tk2_5_v4 tk2_6_v4 (Ne.symm ne_b2_0_b3) (Ne.symm ne_b2_1_b3) tk2_2) hZ (W hw 50 rfl) (W hw 35 rfl) (by decide) (by decide)) q7a q7c (g := (mkF m 93 #[.val (.int p0), .val (.int p1), .val (.int p2), .val .null, .val (.ref b2_0), .val (.ref b3), .val (.int (0 : Int32)), .val (.int (0 : Int32)), .val (.int (1 : Int32)), .val (.int (0 : Int32)), .unset, .unset] [(.ref b3)])) rfl (by rw [hml]; rfl) (Steps.refl _) (argsL := []) (rest := []) (lenOf pd_6 rfl) rfl (by show 2 * 0 + _ ≤ _; exact Nat.le_of_eq rfl) (hb hby at_93) (fun _ _ => ⟨rfl, e6, (by decide : 3 + 0 ≤ _), (by decide : 16 + 0 ≤ _)⟩)
  dsimp only [Pt.U, Pt.locs, Pt.cells, Pt.slots] at X7 l7 y7 z7 st7 hQ7
  subst l7 y7 z7
  obtain ⟨rfl, N7q, e7⟩ := hQ7
  have N7 := Fr.app N6 N7q
  obtain ⟨fs, hr, hrun, hended, hW, hsame⟩ := X7.leave (v := some (.int (1 : Int32))) (fun h => by rw [Bd.returns] at h; cases h)
  refine ⟨_, _, pre0 _ ?_, hrun, hended, _, _, rfl, ?_, ⟨_, rfl⟩, hW, hsame.mono (by decide) (by decide)⟩
  · show Steps p.tables e below (s₁.setTop (mkF m 0 #[.val (.int p0), .val (.int p1), .val (.int p2), .unset, .unset, .unset, .unset, .unset, .unset, .unset, .unset, .unset] [])) _
    refine XS.iloadN X0.here hx rfl (hb hby at_0) rfl ?_
    show Steps p.tables e below (s₁.setTop (mkF m 1 #[.val (.int p0), .val (.int p1), .val (.int p2), .unset, .unset, .unset, .unset, .unset, .unset, .unset, .unset, .unset] [(.int p1)])) _
    refine XS.iconst X0.here hx rfl (hb hby at_1) ?_
    show Steps p.tables e below (s₁.setTop (mkF m 2 #[.val (.int p0), .val (.int p1), .val (.int p2), .unset, .unset, .unset, .unset, .unset, .unset, .unset, .unset, .unset] [(.int (3 : Int32)), (.int p1)])) _
    refine XS.iand X0.here hx rfl (hb hby at_2) rfl ?_
    show Steps p.tables e below (s₁.setTop (mkF m 3 #[.val (.int p0), .val (.int p1), .val (.int p2), .unset, .unset, .unset, .unset, .unset, .unset, .unset, .unset, .unset] [(.int (p1 &&& (3 : Int32)))])) _
    rw [hp0]
    show Steps p.tables e below (s₁.setTop (mkF m 3 #[.val (.int p0), .val (.int p1), .val (.int p2), .unset, .unset, .unset, .unset, .unset, .unset, .unset, .unset, .unset] [(.int (0 : Int32))])) _
    refine st1 _ ?_
    show Steps p.tables e below (T1.setTop (mkF m 6 #[.val (.int p0), .val (.int p1), .val (.int p2), .unset, .unset, .unset, .unset, .unset, .unset, .unset, .unset, .unset] [.null])) _
    refine XS.astoreN X1.here hx rfl (hb hby at_6) rfl rfl (l' := #[.val (.int p0), .val (.int p1), .val (.int p2), .val .null, .unset, .unset, .unset, .unset, .unset, .unset, .unset, .unset]) rfl ?_
    show Steps p.tables e below (T1.setTop (mkF m 7 #[.val (.int p0), .val (.int p1), .val (.int p2), .val .null, .unset, .unset, .unset, .unset, .unset, .unset, .unset, .unset] [])) _
    refine XS.iloadN X1.here hx rfl (hb hby at_7) rfl ?_
    show Steps p.tables e below (T1.setTop (mkF m 8 #[.val (.int p0), .val (.int p1), .val (.int p2), .val .null, .unset, .unset, .unset, .unset, .unset, .unset, .unset, .unset] [(.int p2)])) _
    refine XS.sipush X1.here hx rfl (hb hby at_8) ?_
    show Steps p.tables e below (T1.setTop (mkF m 11 #[.val (.int p0), .val (.int p1), .val (.int p2), .val .null, .unset, .unset, .unset, .unset, .unset, .unset, .unset, .unset] [(.int (255 : Int32)), (.int p2)])) _
    refine XS.iand X1.here hx rfl (hb hby at_11) rfl ?_
    show Steps p.tables e below (T1.setTop (mkF m 12 #[.val (.int p0), .val (.int p1), .val (.int p2), .val .null, .unset, .unset, .unset, .unset, .unset, .unset, .unset, .unset] [(.int (p2 &&& (255 : Int32)))])) _
    refine XS.i2c X1.here hx rfl (hb hby at_12) rfl ?_
    show Steps p.tables e below (T1.setTop (mkF m 13 #[.val (.int p0), .val (.int p1), .val (.int p2), .val .null, .unset, .unset, .unset, .unset, .unset, .unset, .unset, .unset] [(.int ((p2 &&& (255 : Int32)).toUInt32.toUInt16.toUInt32.toInt32))])) _
    refine st2 _ ?_
    show Steps p.tables e below (T2.setTop (mkF m 16 #[.val (.int p0), .val (.int p1), .val (.int p2), .val .null, .unset, .unset, .unset, .unset, .unset, .unset, .unset, .unset] [(.ref b2_0)])) _
    refine XS.astore X2.here hx rfl (hb hby at_16) rfl rfl (l' := #[.val (.int p0), .val (.int p1), .val (.int p2), .val .null, .val (.ref b2_0), .unset, .unset, .unset, .unset, .unset, .unset, .unset]) rfl ?_
    show Steps p.tables e below (T2.setTop (mkF m 18 #[.val (.int p0), .val (.int p1), .val (.int p2), .val .null, .val (.ref b2_0), .unset, .unset, .unset, .unset, .unset, .unset, .unset] [])) _
    refine st3 _ ?_
    show Steps p.tables e below (T3.setTop (mkF m 21 #[.val (.int p0), .val (.int p1), .val (.int p2), .val .null, .val (.ref b2_0), .unset, .unset, .unset, .unset, .unset, .unset, .unset] [(.ref b3)])) _
    refine XS.dup X3.here hx rfl (hb hby at_21) rfl rfl ?_
    show Steps p.tables e below (T3.setTop (mkF m 22 #[.val (.int p0), .val (.int p1), .val (.int p2), .val .null, .val (.ref b2_0), .unset, .unset, .unset, .unset, .unset, .unset, .unset] [(.ref b3), (.ref b3)])) _
    refine XS.aload X3.here hx rfl (hb hby at_22) rfl rfl ?_
    show Steps p.tables e below (T3.setTop (mkF m 24 #[.val (.int p0), .val (.int p1), .val (.int p2), .val .null, .val (.ref b2_0), .unset, .unset, .unset, .unset, .unset, .unset, .unset] [(.ref b2_0), (.ref b3), (.ref b3)])) _
    refine XS.aloadN X3.here hx rfl (hb hby at_24) rfl rfl ?_
    show Steps p.tables e below (T3.setTop (mkF m 25 #[.val (.int p0), .val (.int p1), .val (.int p2), .val .null, .val (.ref b2_0), .unset, .unset, .unset, .unset, .unset, .unset, .unset] [.null, (.ref b2_0), (.ref b3), (.ref b3)])) _
    refine XS.aconstNull X3.here hx rfl (hb hby at_25) ?_
    show Steps p.tables e below (T3.setTop (mkF m 26 #[.val (.int p0), .val (.int p1), .val (.int p2), .val .null, .val (.ref b2_0), .unset, .unset, .unset, .unset, .unset, .unset, .unset] [.null, .null, (.ref b2_0), (.ref b3), (.ref b3)])) _
    refine st4.trans ?_
    show Steps p.tables e below (T4.setTop (mkF m 29 #[.val (.int p0), .val (.int p1), .val (.int p2), .val .null, .val (.ref b2_0), .unset, .unset, .unset, .unset, .unset, .unset, .unset] [(.ref b3)])) _
    refine XS.astore X4.here hx rfl (hb hby at_29) rfl rfl (l' := #[.val (.int p0), .val (.int p1), .val (.int p2), .val .null, .val (.ref b2_0), .val (.ref b3), .unset, .unset, .unset, .unset, .unset, .unset]) rfl ?_
    show Steps p.tables e below (T4.setTop (mkF m 31 #[.val (.int p0), .val (.int p1), .val (.int p2), .val .null, .val (.ref b2_0), .val (.ref b3), .unset, .unset, .unset, .unset, .unset, .unset] [])) _
    refine XS.aload X4.here hx rfl (hb hby at_31) rfl rfl ?_
    show Steps p.tables e below (T4.setTop (mkF m 33 #[.val (.int p0), .val (.int p1), .val (.int p2), .val .null, .val (.ref b2_0), .val (.ref b3), .unset, .unset, .unset, .unset, .unset, .unset] [(.ref b3)])) _
    refine st5.trans ?_
    show Steps p.tables e below (T5.setTop (mkF m 36 #[.val (.int p0), .val (.int p1), .val (.int p2), .val .null, .val (.ref b2_0), .val (.ref b3), .unset, .unset, .unset, .unset, .unset, .unset] [(.int (0 : Int32))])) _
    refine XS.istore X5.here hx rfl (hb hby at_36) rfl (l' := #[.val (.int p0), .val (.int p1), .val (.int p2), .val .null, .val (.ref b2_0), .val (.ref b3), .val (.int (0 : Int32)), .unset, .unset, .unset, .unset, .unset]) rfl ?_
    show Steps p.tables e below (T5.setTop (mkF m 38 #[.val (.int p0), .val (.int p1), .val (.int p2), .val .null, .val (.ref b2_0), .val (.ref b3), .val (.int (0 : Int32)), .unset, .unset, .unset, .unset, .unset] [])) _
    refine XS.iloadN X5.here hx rfl (hb hby at_38) rfl ?_
    show Steps p.tables e below (T5.setTop (mkF m 39 #[.val (.int p0), .val (.int p1), .val (.int p2), .val .null, .val (.ref b2_0), .val (.ref b3), .val (.int (0 : Int32)), .unset, .unset, .unset, .unset, .unset] [(.int p0)])) _
    refine XS.iconst X5.here hx rfl (hb hby at_39) ?_
    show Steps p.tables e below (T5.setTop (mkF m 40 #[.val (.int p0), .val (.int p1), .val (.int p2), .val .null, .val (.ref b2_0), .val (.ref b3), .val (.int (0 : Int32)), .unset, .unset, .unset, .unset, .unset] [(.int (1 : Int32)), (.int p0)])) _
    refine XS.iand X5.here hx rfl (hb hby at_40) rfl ?_
    show Steps p.tables e below (T5.setTop (mkF m 41 #[.val (.int p0), .val (.int p1), .val (.int p2), .val .null, .val (.ref b2_0), .val (.ref b3), .val (.int (0 : Int32)), .unset, .unset, .unset, .unset, .unset] [(.int (p0 &&& (1 : Int32)))])) _
    rw [hp2]
    show Steps p.tables e below (T5.setTop (mkF m 41 #[.val (.int p0), .val (.int p1), .val (.int p2), .val .null, .val (.ref b2_0), .val (.ref b3), .val (.int (0 : Int32)), .unset, .unset, .unset, .unset, .unset] [(.int (0 : Int32))])) _
    refine XS.ifYes X5.here hx rfl (pc0 := 41) (pc' := 48) rfl (hb hby at_41) rfl ((if0 _ _).trans (teq (by decide : (0 : Int32) = (0 : Int32))).1) (by decide) (by decide) ?_
    show Steps p.tables e below (T5.setTop (mkF m 48 #[.val (.int p0), .val (.int p1), .val (.int p2), .val .null, .val (.ref b2_0), .val (.ref b3), .val (.int (0 : Int32)), .unset, .unset, .unset, .unset, .unset] [])) _
    refine XS.iconst X5.here hx rfl (hb hby at_48) ?_
    show Steps p.tables e below (T5.setTop (mkF m 49 #[.val (.int p0), .val (.int p1), .val (.int p2), .val .null, .val (.ref b2_0), .val (.ref b3), .val (.int (0 : Int32)), .unset, .unset, .unset, .unset, .unset] [(.int (0 : Int32))])) _
    refine XS.istore X5.here hx rfl (hb hby at_49) rfl (l' := #[.val (.int p0), .val (.int p1), .val (.int p2), .val .null, .val (.ref b2_0), .val (.ref b3), .val (.int (0 : Int32)), .val (.int (0 : Int32)), .unset, .unset, .unset, .unset]) rfl ?_
    show Steps p.tables e below (T5.setTop (mkF m 51 #[.val (.int p0), .val (.int p1), .val (.int p2), .val .null, .val (.ref b2_0), .val (.ref b3), .val (.int (0 : Int32)), .val (.int (0 : Int32)), .unset, .unset, .unset, .unset] [])) _
    refine XS.iloadN X5.here hx rfl (hb hby at_51) rfl ?_
    show Steps p.tables e below (T5.setTop (mkF m 52 #[.val (.int p0), .val (.int p1), .val (.int p2), .val .null, .val (.ref b2_0), .val (.ref b3), .val (.int (0 : Int32)), .val (.int (0 : Int32)), .unset, .unset, .unset, .unset] [(.int p0)])) _
    refine XS.iconst X5.here hx rfl (hb hby at_52) ?_
    show Steps p.tables e below (T5.setTop (mkF m 53 #[.val (.int p0), .val (.int p1), .val (.int p2), .val .null, .val (.ref b2_0), .val (.ref b3), .val (.int (0 : Int32)), .val (.int (0 : Int32)), .unset, .unset, .unset, .unset] [(.int (2 : Int32)), (.int p0)])) _
    refine XS.iand X5.here hx rfl (hb hby at_53) rfl ?_
    show Steps p.tables e below (T5.setTop (mkF m 54 #[.val (.int p0), .val (.int p1), .val (.int p2), .val .null, .val (.ref b2_0), .val (.ref b3), .val (.int (0 : Int32)), .val (.int (0 : Int32)), .unset, .unset, .unset, .unset] [(.int (p0 &&& (2 : Int32)))])) _
    refine XS.ifNo X5.here hx rfl (hb hby at_54) rfl ((if0 _ _).trans (feq hp3).1) ?_
    show Steps p.tables e below (T5.setTop (mkF m 57 #[.val (.int p0), .val (.int p1), .val (.int p2), .val .null, .val (.ref b2_0), .val (.ref b3), .val (.int (0 : Int32)), .val (.int (0 : Int32)), .unset, .unset, .unset, .unset] [])) _
    refine XS.iconst X5.here hx rfl (hb hby at_57) ?_
    show Steps p.tables e below (T5.setTop (mkF m 58 #[.val (.int p0), .val (.int p1), .val (.int p2), .val .null, .val (.ref b2_0), .val (.ref b3), .val (.int (0 : Int32)), .val (.int (0 : Int32)), .unset, .unset, .unset, .unset] [(.int (1 : Int32))])) _
    refine XS.goto X5.here hx rfl (pc0 := 58) (pc' := 62) rfl (hb hby at_58) (by decide) (by decide) ?_
    show Steps p.tables e below (T5.setTop (mkF m 62 #[.val (.int p0), .val (.int p1), .val (.int p2), .val .null, .val (.ref b2_0), .val (.ref b3), .val (.int (0 : Int32)), .val (.int (0 : Int32)), .unset, .unset, .unset, .unset] [(.int (1 : Int32))])) _
    refine XS.istore X5.here hx rfl (hb hby at_62) rfl (l' := #[.val (.int p0), .val (.int p1), .val (.int p2), .val .null, .val (.ref b2_0), .val (.ref b3), .val (.int (0 : Int32)), .val (.int (0 : Int32)), .val (.int (1 : Int32)), .unset, .unset, .unset]) rfl ?_
    show Steps p.tables e below (T5.setTop (mkF m 64 #[.val (.int p0), .val (.int p1), .val (.int p2), .val .null, .val (.ref b2_0), .val (.ref b3), .val (.int (0 : Int32)), .val (.int (0 : Int32)), .val (.int (1 : Int32)), .unset, .unset, .unset] [])) _
    refine XS.iload X5.here hx rfl (hb hby at_64) rfl ?_
    show Steps p.tables e below (T5.setTop (mkF m 66 #[.val (.int p0), .val (.int p1), .val (.int p2), .val .null, .val (.ref b2_0), .val (.ref b3), .val (.int (0 : Int32)), .val (.int (0 : Int32)), .val (.int (1 : Int32)), .unset, .unset, .unset] [(.int (0 : Int32))])) _
    refine XS.ifYes X5.here hx rfl (pc0 := 66) (pc' := 84) rfl (hb hby at_66) rfl ((if0 _ _).trans (teq (by decide : (0 : Int32) = (0 : Int32))).1) (by decide) (by decide) ?_
    show Steps p.tables e below (T5.setTop (mkF m 84 #[.val (.int p0), .val (.int p1), .val (.int p2), .val .null, .val (.ref b2_0), .val (.ref b3), .val (.int (0 : Int32)), .val (.int (0 : Int32)), .val (.int (1 : Int32)), .unset, .unset, .unset] [])) _
    refine XS.aload X5.here hx rfl (hb hby at_84) rfl rfl ?_
    show Steps p.tables e below (T5.setTop (mkF m 86 #[.val (.int p0), .val (.int p1), .val (.int p2), .val .null, .val (.ref b2_0), .val (.ref b3), .val (.int (0 : Int32)), .val (.int (0 : Int32)), .val (.int (1 : Int32)), .unset, .unset, .unset] [(.ref b3)])) _
    refine st6.trans ?_
    show Steps p.tables e below (T6.setTop (mkF m 89 #[.val (.int p0), .val (.int p1), .val (.int p2), .val .null, .val (.ref b2_0), .val (.ref b3), .val (.int (0 : Int32)), .val (.int (0 : Int32)), .val (.int (1 : Int32)), .unset, .unset, .unset] [(.int (0 : Int32))])) _
    refine XS.istore X6.here hx rfl (hb hby at_89) rfl (l' := #[.val (.int p0), .val (.int p1), .val (.int p2), .val .null, .val (.ref b2_0), .val (.ref b3), .val (.int (0 : Int32)), .val (.int (0 : Int32)), .val (.int (1 : Int32)), .val (.int (0 : Int32)), .unset, .unset]) rfl ?_
    show Steps p.tables e below (T6.setTop (mkF m 91 #[.val (.int p0), .val (.int p1), .val (.int p2), .val .null, .val (.ref b2_0), .val (.ref b3), .val (.int (0 : Int32)), .val (.int (0 : Int32)), .val (.int (1 : Int32)), .val (.int (0 : Int32)), .unset, .unset] [])) _
    refine XS.aload X6.here hx rfl (hb hby at_91) rfl rfl ?_
    show Steps p.tables e below (T6.setTop (mkF m 93 #[.val (.int p0), .val (.int p1), .val (.int p2), .val .null, .val (.ref b2_0), .val (.ref b3), .val (.int (0 : Int32)), .val (.int (0 : Int32)), .val (.int (1 : Int32)), .val (.int (0 : Int32)), .unset, .unset] [(.ref b3)])) _
    refine st7.trans ?_
    show Steps p.tables e below (T7.setTop (mkF m 96 #[.val (.int p0), .val (.int p1), .val (.int p2), .val .null, .val (.ref b2_0), .val (.ref b3), .val (.int (0 : Int32)), .val (.int (0 : Int32)), .val (.int (1 : Int32)), .val (.int (0 : Int32)), .unset, .unset] [(.int (0 : Int32))])) _
    refine XS.istore X7.here hx rfl (hb hby at_96) rfl (l' := #[.val (.int p0), .val (.int p1), .val (.int p2), .val .null, .val (.ref b2_0), .val (.ref b3), .val (.int (0 : Int32)), .val (.int (0 : Int32)), .val (.int (1 : Int32)), .val (.int (0 : Int32)), .val (.int (0 : Int32)), .unset]) rfl ?_
    show Steps p.tables e below (T7.setTop (mkF m 98 #[.val (.int p0), .val (.int p1), .val (.int p2), .val .null, .val (.ref b2_0), .val (.ref b3), .val (.int (0 : Int32)), .val (.int (0 : Int32)), .val (.int (1 : Int32)), .val (.int (0 : Int32)), .val (.int (0 : Int32)), .unset] [])) _
    refine XS.iload X7.here hx rfl (hb hby at_98) rfl ?_
    show Steps p.tables e below (T7.setTop (mkF m 100 #[.val (.int p0), .val (.int p1), .val (.int p2), .val .null, .val (.ref b2_0), .val (.ref b3), .val (.int (0 : Int32)), .val (.int (0 : Int32)), .val (.int (1 : Int32)), .val (.int (0 : Int32)), .val (.int (0 : Int32)), .unset] [(.int (0 : Int32))])) _
    refine XS.ifYes X7.here hx rfl (pc0 := 100) (pc' := 111) rfl (hb hby at_100) rfl ((if0 _ _).trans (teq (by decide : (0 : Int32) = (0 : Int32))).1) (by decide) (by decide) ?_
    show Steps p.tables e below (T7.setTop (mkF m 111 #[.val (.int p0), .val (.int p1), .val (.int p2), .val .null, .val (.ref b2_0), .val (.ref b3), .val (.int (0 : Int32)), .val (.int (0 : Int32)), .val (.int (1 : Int32)), .val (.int (0 : Int32)), .val (.int (0 : Int32)), .unset] [])) _
    refine XS.iconst X7.here hx rfl (hb hby at_111) ?_
    show Steps p.tables e below (T7.setTop (mkF m 112 #[.val (.int p0), .val (.int p1), .val (.int p2), .val .null, .val (.ref b2_0), .val (.ref b3), .val (.int (0 : Int32)), .val (.int (0 : Int32)), .val (.int (1 : Int32)), .val (.int (0 : Int32)), .val (.int (0 : Int32)), .unset] [(.int (0 : Int32))])) _
    refine XS.istore X7.here hx rfl (hb hby at_112) rfl (l' := #[.val (.int p0), .val (.int p1), .val (.int p2), .val .null, .val (.ref b2_0), .val (.ref b3), .val (.int (0 : Int32)), .val (.int (0 : Int32)), .val (.int (1 : Int32)), .val (.int (0 : Int32)), .val (.int (0 : Int32)), .val (.int (0 : Int32))]) rfl ?_
    show Steps p.tables e below (T7.setTop (mkF m 114 #[.val (.int p0), .val (.int p1), .val (.int p2), .val .null, .val (.ref b2_0), .val (.ref b3), .val (.int (0 : Int32)), .val (.int (0 : Int32)), .val (.int (1 : Int32)), .val (.int (0 : Int32)), .val (.int (0 : Int32)), .val (.int (0 : Int32))] [])) _
    refine XS.iload X7.here hx rfl (hb hby at_114) rfl ?_
    show Steps p.tables e below (T7.setTop (mkF m 116 #[.val (.int p0), .val (.int p1), .val (.int p2), .val .null, .val (.ref b2_0), .val (.ref b3), .val (.int (0 : Int32)), .val (.int (0 : Int32)), .val (.int (1 : Int32)), .val (.int (0 : Int32)), .val (.int (0 : Int32)), .val (.int (0 : Int32))] [(.int (0 : Int32))])) _
    refine XS.ifNo X7.here hx rfl (hb hby at_116) rfl ((if0 _ _).trans (teq (by decide : (0 : Int32) = (0 : Int32))).2) ?_
    show Steps p.tables e below (T7.setTop (mkF m 119 #[.val (.int p0), .val (.int p1), .val (.int p2), .val .null, .val (.ref b2_0), .val (.ref b3), .val (.int (0 : Int32)), .val (.int (0 : Int32)), .val (.int (1 : Int32)), .val (.int (0 : Int32)), .val (.int (0 : Int32)), .val (.int (0 : Int32))] [])) _
    refine XS.iload X7.here hx rfl (hb hby at_119) rfl ?_
    show Steps p.tables e below (T7.setTop (mkF m 121 #[.val (.int p0), .val (.int p1), .val (.int p2), .val .null, .val (.ref b2_0), .val (.ref b3), .val (.int (0 : Int32)), .val (.int (0 : Int32)), .val (.int (1 : Int32)), .val (.int (0 : Int32)), .val (.int (0 : Int32)), .val (.int (0 : Int32))] [(.int (0 : Int32))])) _
    refine XS.iload X7.here hx rfl (hb hby at_121) rfl ?_
    show Steps p.tables e below (T7.setTop (mkF m 123 #[.val (.int p0), .val (.int p1), .val (.int p2), .val .null, .val (.ref b2_0), .val (.ref b3), .val (.int (0 : Int32)), .val (.int (0 : Int32)), .val (.int (1 : Int32)), .val (.int (0 : Int32)), .val (.int (0 : Int32)), .val (.int (0 : Int32))] [(.int (0 : Int32)), (.int (0 : Int32))])) _
    refine XS.icmpNo X7.here hx rfl (hb hby at_123) rfl (teq (by decide : (0 : Int32) = (0 : Int32))).2 ?_
    show Steps p.tables e below (T7.setTop (mkF m 126 #[.val (.int p0), .val (.int p1), .val (.int p2), .val .null, .val (.ref b2_0), .val (.ref b3), .val (.int (0 : Int32)), .val (.int (0 : Int32)), .val (.int (1 : Int32)), .val (.int (0 : Int32)), .val (.int (0 : Int32)), .val (.int (0 : Int32))] [])) _
    refine XS.iload X7.here hx rfl (hb hby at_126) rfl ?_
    show Steps p.tables e below (T7.setTop (mkF m 128 #[.val (.int p0), .val (.int p1), .val (.int p2), .val .null, .val (.ref b2_0), .val (.ref b3), .val (.int (0 : Int32)), .val (.int (0 : Int32)), .val (.int (1 : Int32)), .val (.int (0 : Int32)), .val (.int (0 : Int32)), .val (.int (0 : Int32))] [(.int (0 : Int32))])) _
    refine XS.iload X7.here hx rfl (hb hby at_128) rfl ?_
    show Steps p.tables e below (T7.setTop (mkF m 130 #[.val (.int p0), .val (.int p1), .val (.int p2), .val .null, .val (.ref b2_0), .val (.ref b3), .val (.int (0 : Int32)), .val (.int (0 : Int32)), .val (.int (1 : Int32)), .val (.int (0 : Int32)), .val (.int (0 : Int32)), .val (.int (0 : Int32))] [(.int (0 : Int32)), (.int (0 : Int32))])) _
    refine XS.icmpNo X7.here hx rfl (hb hby at_130) rfl (teq (by decide : (0 : Int32) = (0 : Int32))).2 ?_
    show Steps p.tables e below (T7.setTop (mkF m 133 #[.val (.int p0), .val (.int p1), .val (.int p2), .val .null, .val (.ref b2_0), .val (.ref b3), .val (.int (0 : Int32)), .val (.int (0 : Int32)), .val (.int (1 : Int32)), .val (.int (0 : Int32)), .val (.int (0 : Int32)), .val (.int (0 : Int32))] [])) _
    refine XS.iconst X7.here hx rfl (hb hby at_133) ?_
    show Steps p.tables e below (T7.setTop (mkF m 134 #[.val (.int p0), .val (.int p1), .val (.int p2), .val .null, .val (.ref b2_0), .val (.ref b3), .val (.int (0 : Int32)), .val (.int (0 : Int32)), .val (.int (1 : Int32)), .val (.int (0 : Int32)), .val (.int (0 : Int32)), .val (.int (0 : Int32))] [(.int (1 : Int32))])) _
    refine XS.goto X7.here hx rfl (pc0 := 134) (pc' := 138) rfl (hb hby at_134) (by decide) (by decide) ?_
    show Steps p.tables e below (T7.setTop (mkF m 138 #[.val (.int p0), .val (.int p1), .val (.int p2), .val .null, .val (.ref b2_0), .val (.ref b3), .val (.int (0 : Int32)), .val (.int (0 : Int32)), .val (.int (1 : Int32)), .val (.int (0 : Int32)), .val (.int (0 : Int32)), .val (.int (0 : Int32))] [(.int (1 : Int32))])) _
    exact retN X7 hx (t := .boolean) Bd.returns (by simp) (hb hby at_138) hr
  · show OL (some (.int (1 : Int32))) Z.heap.size _ T7.heap _
    exact ⟨rfl, N7⟩
theorem d_prog_77_method_2_code_0 : decode prog_77_method_2_code 0 = .ok (.aload_n 0, 1) := by decide +kernel
theorem d_prog_77_method_2_code_1 : decode prog_77_method_2_code 1 = .ok (.iconst 1, 1) := by decide +kernel
theorem d_prog_77_method_2_code_2 : decode prog_77_method_2_code 2 = .ok (.putfield 23, 3) := by decide +kernel
theorem sn_14 {a0 : Array Value} {Z : State} (hw : ∀ d ∈ tables_1, d.before a0 Z = true) : Jvm.RoadKit.slotOf Z "com/example/netloom/netloom/xml/NetReader$OpenAnnotations" "owner" "Ljava/lang/String;" ≠ Jvm.RoadKit.slotOf Z "com/example/netloom/netloom/xml/NetReader$OpenAnnotations" "graphicsCarried" "Z" := slot_ne (Or.inr (W hw 41 rfl)) (Or.inl (W hw 52 rfl)) (by decide) (t := (.object "java/lang/String")) (t' := .boolean) (by decide) (by decide)
theorem sn_15 {a0 : Array Value} {Z : State} (hw : ∀ d ∈ tables_1, d.before a0 Z = true) : Jvm.RoadKit.slotOf Z "com/example/netloom/netloom/xml/NetReader$OpenAnnotations" "form" "Lcom/example/netloom/netloom/xml/XmlGraphics$Form;" ≠ Jvm.RoadKit.slotOf Z "com/example/netloom/netloom/xml/NetReader$OpenAnnotations" "graphicsCarried" "Z" := slot_ne (Or.inr (W hw 43 rfl)) (Or.inl (W hw 52 rfl)) (by decide) (t := (.object "com/example/netloom/netloom/xml/XmlGraphics$Form")) (t' := .boolean) (by decide) (by decide)
theorem sn_16 {a0 : Array Value} {Z : State} (hw : ∀ d ∈ tables_1, d.before a0 Z = true) : Jvm.RoadKit.slotOf Z "com/example/netloom/netloom/xml/NetReader$OpenAnnotations" "carries" "Ljava/util/Set;" ≠ Jvm.RoadKit.slotOf Z "com/example/netloom/netloom/xml/NetReader$OpenAnnotations" "graphicsCarried" "Z" := slot_ne (Or.inr (W hw 45 rfl)) (Or.inl (W hw 52 rfl)) (by decide) (t := (.object "java/util/Set")) (t' := .boolean) (by decide) (by decide)
theorem sn_17 {a0 : Array Value} {Z : State} (hw : ∀ d ∈ tables_1, d.before a0 Z = true) : Jvm.RoadKit.slotOf Z "com/example/netloom/netloom/xml/NetReader$OpenAnnotations" "graphics" "Lcom/example/netloom/netloom/net/Graphics;" ≠ Jvm.RoadKit.slotOf Z "com/example/netloom/netloom/xml/NetReader$OpenAnnotations" "graphicsCarried" "Z" := slot_ne (Or.inl (W hw 59 rfl)) (Or.inl (W hw 52 rfl)) (by decide) (t := (.object "com/example/netloom/netloom/net/Graphics")) (t' := .boolean) (by decide) (by decide)
theorem d_prog_77_method_2_code_5 : decode prog_77_method_2_code 5 = .ok (.return_, 1) := by decide +kernel
def Qd_4 (Z : State) (w : Nat → Addr) (kk : Nat → ClassId) (iw : Nat → Int32) (vw : Nat → Value) (o1 : Addr) (o2 : Addr) (o3 : Addr) (t0 : Int32) (kc_o3 : ClassId) (h0 : Heap) (n0 : Nat) (v : Option Value) (h : Heap) (L : List Loc) : Prop := v = none ∧ Fr n0 L ∧ Keep h0 h [o1] ∧ Exa Z h o1 "com/example/netloom/netloom/xml/NetReader$OpenAnnotations" ∧ Fld Z h o1 "com/example/netloom/netloom/xml/NetReader$OpenAnnotations" "owner" "Ljava/lang/String;" (.ref o2) ∧ Fld Z h o1 "com/example/netloom/netloom/xml/NetReader$OpenAnnotations" "form" "Lcom/example/netloom/netloom/xml/XmlGraphics$Form;" .null ∧ Fld Z h o1 "com/example/netloom/netloom/xml/NetReader$OpenAnnotations" "carries" "Ljava/util/Set;" .null ∧ Fld Z h o1 "com/example/netloom/netloom/xml/NetReader$OpenAnnotations" "graphicsCarried" "Z" (.int (1 : Int32)) ∧ Fld Z h o1 "com/example/netloom/netloom/xml/NetReader$OpenAnnotations" "graphics" "Lcom/example/netloom/netloom/net/Graphics;" .null
set_option maxRecDepth 65536 in
set_option maxHeartbeats 40000000 in
theorem rm_10 (l : Launch) (Z : State) (a0 : Array Value) (hw : ∀ d ∈ tables_1, d.before a0 Z = true) (w : Nat → Addr) (kk : Nat → ClassId) (iw : Nat → Int32) (vw : Nat → Value) (hN : Wd Z w kk iw vw) (ws : List Jvm.Cond) (o1 : Addr) (o2 : Addr) (o3 : Addr) (t0 : Int32) (kc_o3 : ClassId) (h0 : Heap) (O0 : Old Z Z.heap.size h0) (gn_o1 : Z.heap.size ≤ o1) (lt_o1 : o1 < h0.size) (E_o1 : Exa Z h0 o1 "com/example/netloom/netloom/xml/NetReader$OpenAnnotations") (gn_o2 : Z.heap.size ≤ o2) (lt_o2 : o2 < h0.size) (F_o1_owner : Fld Z h0 o1 "com/example/netloom/netloom/xml/NetReader$OpenAnnotations" "owner" "Ljava/lang/String;" (.ref o2)) (F_o1_form : Fld Z h0 o1 "com/example/netloom/netloom/xml/NetReader$OpenAnnotations" "form" "Lcom/example/netloom/netloom/xml/XmlGraphics$Form;" .null) (F_o1_carries : Fld Z h0 o1 "com/example/netloom/netloom/xml/NetReader$OpenAnnotations" "carries" "Ljava/util/Set;" .null) (F_o1_graphicsCarried : Fld Z h0 o1 "com/example/netloom/netloom/xml/NetReader$OpenAnnotations" "graphicsCarried" "Z" (.int (0 : Int32))) (F_o1_graphics : Fld Z h0 o1 "com/example/netloom/netloom/xml/NetReader$OpenAnnotations" "graphics" "Lcom/example/netloom/netloom/net/Graphics;" .null) (E_o2 : Exa Z h0 o2 "java/lang/String") (gn_o3 : Z.heap.size ≤ o3) (lt_o3 : o3 < h0.size) (F_o2_value : Fld Z h0 o2 "java/lang/String" "value" "[B" (.ref o3)) (F_o2_coder : Fld Z h0 o2 "java/lang/String" "coder" "B" (.int (0 : Int32))) (V_o3 : Arv Z h0 o3 kc_o3 .byte (1 : Int32) [(.int t0)] (.int (0 : Int32))) (ne_o1_o2 : o1 ≠ o2) (ne_o1_o3 : o1 ≠ o3) (ne_o2_o3 : o2 ≠ o3) :
    MetFree l (⟨"com/example/netloom/netloom/xml/NetReader$OpenAnnotations", "carryGraphics", "()V"⟩ : MethodName) (head1 (Jvm.Cond.code (⟨"com/example/netloom/netloom/xml/NetReader$OpenAnnotations", "carryGraphics", "()V"⟩ : MethodName) prog_77_method_2_code 1 none :: ws) ({ frames := 0, cells := 0, slots := 0, locals := 0 } : Room)) (fun a U => a = #[(.ref o1)] ∧ Z.Warmed39 U.vm ∧ U.heap = h0) (fun _ _ _ _ _ => True) (fun _ U o U' => ∃ v L, o = .returned v ∧ Qd_4 Z w kk iw vw o1 o2 o3 t0 kc_o3 h0 Z.heap.size v U'.heap L ∧ FrameEnd U o U' L ({ frames := 0, cells := 0, slots := 0, locals := 0 } : Room).cells ({ frames := 0, cells := 0, slots := 0, locals := 0 } : Room).slots) := by
  have hN' := hN
  obtain ⟨hS0, hE0, hS1, hE1, hS2, hE2, hI0, hJ0, hR0, hRr0⟩ := hN'
  refine MetFree.of_bodySF (plainFor_of_name pn_3) hisR ?_
  intro p e s m args below meth c s₁ Bd hml0 hP hK
  obtain ⟨rfl, hZ, hh⟩ := hP
  have hx := Bd.exec
  have hby := Bd.bytes
  have hml : c.maxLocals = 1 := hml0
  have hown : s.vm.findClass "com/example/netloom/netloom/xml/NetReader$OpenAnnotations" = some m.cls := findClass_of_methodNamed Bd.named
  have hnm := (name_of_methodNamed Bd.named Bd.method).1
  have X0 : Stand p l e ({ frames := 0, cells := 0, slots := 0, locals := 0 } : Room) s m #[(.ref o1)] below meth c s₁ [] 0 0 := Stand.of_body Bd
  have e0 : s₁.heap = h0 := by rw [← hh, Bd.state]; rfl
  have N0 := Fr.nil Z.heap.size
  have pre0 : ∀ t, Steps p.tables e below (s₁.setTop (mkF m 0 #[.val (.ref o1)] [])) t → Steps p.tables e below (s₁.setTop (entryFrame m #[(.ref o1)] 1)) t := fun t k => castTop (ef_3 m (.ref o1) rfl) k
  have K0 : Keep h0 h0 [o1] := Keep.refl _ _
  obtain ⟨T1, h1, X1, e1, W1, st1⟩ := putFN X0 hx hZ hown (W hw 51 rfl) Via.refl e0 F_o1_graphicsCarried E_o1 (Or.inl (W hw 52 rfl)) (W hw 34 rfl) (ty := .boolean) (v' := (.int (1 : Int32))) (by decide) rfl rfl (g := (mkF m 2 #[.val (.ref o1)] [(.int (1 : Int32)), (.ref o1)])) rfl rfl (hb hby d_prog_77_method_2_code_2)
  have F_o1_graphicsCarried_v1 := F_o1_graphicsCarried.same W1
  have N1 := Fr.snoc X1 N0 gn_o1
  have E_o1_v1 := E_o1.wr W1
  have F_o1_owner_v1 := F_o1_owner.other W1 (Or.inr (sn_14 hw))
  have F_o1_form_v1 := F_o1_form.other W1 (Or.inr (sn_15 hw))
  have F_o1_carries_v1 := F_o1_carries.other W1 (Or.inr (sn_16 hw))
  have F_o1_graphics_v1 := F_o1_graphics.other W1 (Or.inr (sn_17 hw))
  have E_o2_v1 := E_o2.wr W1
  have F_o2_value_v1 := F_o2_value.other W1 (Or.inl (Ne.symm ne_o1_o2))
  have F_o2_coder_v1 := F_o2_coder.other W1 (Or.inl (Ne.symm ne_o1_o2))
  have V_o3_v1 := V_o3.other W1 (Ne.symm ne_o1_o3)
  have O1 := O0.wr W1 gn_o1
  have K1 : Keep h0 h1 [o1] := K0.wr W1 (Or.inl (List.mem_of_getElem? (i := 0) rfl))
  obtain ⟨fs, hr, hrun, hended, hW, hsame⟩ := X1.leave (v := none) (fun _ => rfl)
  refine ⟨_, _, pre0 _ ?_, hrun, hended, _, _, rfl, ?_, ⟨_, rfl⟩, hW, hsame.mono (by decide) (by decide)⟩
  · show Steps p.tables e below (s₁.setTop (mkF m 0 #[.val (.ref o1)] [])) _
    refine XS.aloadN X0.here hx rfl (hb hby d_prog_77_method_2_code_0) rfl rfl ?_
    show Steps p.tables e below (s₁.setTop (mkF m 1 #[.val (.ref o1)] [(.ref o1)])) _
    refine XS.iconst X0.here hx rfl (hb hby d_prog_77_method_2_code_1) ?_
    show Steps p.tables e below (s₁.setTop (mkF m 2 #[.val (.ref o1)] [(.int (1 : Int32)), (.ref o1)])) _
    refine st1 _ ?_
    show Steps p.tables e below (T1.setTop (mkF m 5 #[.val (.ref o1)] [])) _
    exact X1.returnOut hx Bd.returns (hb hby d_prog_77_method_2_code_5) hr
  · show Qd_4 Z w kk iw vw o1 o2 o3 t0 kc_o3 h0 Z.heap.size _ T1.heap _
    rw [e1]
    exact ⟨rfl, N1, K1, E_o1_v1, F_o1_owner_v1, F_o1_form_v1, F_o1_carries_v1, F_o1_graphicsCarried_v1, F_o1_graphics_v1⟩
theorem pd_7 : parseMethodDescriptor "()V" = some ⟨[], none⟩ := by decide +kernel
theorem d_prog_77_method_3_code_7 : decode prog_77_method_3_code 7 = .ok (.aload_n 0, 1) := by decide +kernel
theorem d_prog_77_method_3_code_8 : decode prog_77_method_3_code 8 = .ok (.getfield 15, 3) := by decide +kernel
theorem d_prog_77_method_3_code_11 : decode prog_77_method_3_code 11 = .ok (.ifnonnull 14, 3) := by decide +kernel
theorem d_prog_77_method_3_code_14 : decode prog_77_method_3_code 14 = .ok (.aload_n 0, 1) := by decide +kernel
theorem d_prog_77_method_3_code_15 : decode prog_77_method_3_code 15 = .ok (.getfield 27, 3) := by decide +kernel
theorem d_prog_77_method_3_code_18 : decode prog_77_method_3_code 18 = .ok (.ifnonnull 7, 3) := by decide +kernel
theorem d_prog_77_method_3_code_21 : decode prog_77_method_3_code 21 = .ok (.iconst 1, 1) := by decide +kernel
theorem d_prog_77_method_3_code_22 : decode prog_77_method_3_code 22 = .ok (.goto 4, 3) := by decide +kernel
set_option maxRecDepth 65536 in
set_option maxHeartbeats 40000000 in
theorem rm_11 (l : Launch) (Z : State) (a0 : Array Value) (hw : ∀ d ∈ tables_1, d.before a0 Z = true) (w : Nat → Addr) (kk : Nat → ClassId) (iw : Nat → Int32) (vw : Nat → Value) (hN : Wd Z w kk iw vw) (ws : List Jvm.Cond) (o1 : Addr) (o2 : Addr) (o3 : Addr) (t0 : Int32) (kc_o3 : ClassId) (h0 : Heap) (O0 : Old Z Z.heap.size h0) (gn_o1 : Z.heap.size ≤ o1) (lt_o1 : o1 < h0.size) (E_o1 : Exa Z h0 o1 "com/example/netloom/netloom/xml/NetReader$OpenAnnotations") (gn_o2 : Z.heap.size ≤ o2) (lt_o2 : o2 < h0.size) (F_o1_owner : Fld Z h0 o1 "com/example/netloom/netloom/xml/NetReader$OpenAnnotations" "owner" "Ljava/lang/String;" (.ref o2)) (F_o1_form : Fld Z h0 o1 "com/example/netloom/netloom/xml/NetReader$OpenAnnotations" "form" "Lcom/example/netloom/netloom/xml/XmlGraphics$Form;" .null) (F_o1_carries : Fld Z h0 o1 "com/example/netloom/netloom/xml/NetReader$OpenAnnotations" "carries" "Ljava/util/Set;" .null) (F_o1_graphicsCarried : Fld Z h0 o1 "com/example/netloom/netloom/xml/NetReader$OpenAnnotations" "graphicsCarried" "Z" (.int (1 : Int32))) (F_o1_graphics : Fld Z h0 o1 "com/example/netloom/netloom/xml/NetReader$OpenAnnotations" "graphics" "Lcom/example/netloom/netloom/net/Graphics;" .null) (E_o2 : Exa Z h0 o2 "java/lang/String") (gn_o3 : Z.heap.size ≤ o3) (lt_o3 : o3 < h0.size) (F_o2_value : Fld Z h0 o2 "java/lang/String" "value" "[B" (.ref o3)) (F_o2_coder : Fld Z h0 o2 "java/lang/String" "coder" "B" (.int (0 : Int32))) (V_o3 : Arv Z h0 o3 kc_o3 .byte (1 : Int32) [(.int t0)] (.int (0 : Int32))) (ne_o1_o2 : o1 ≠ o2) (ne_o1_o3 : o1 ≠ o3) (ne_o2_o3 : o2 ≠ o3) :
    MetFree l (⟨"com/example/netloom/netloom/xml/NetReader$OpenAnnotations", "carriesGraphics", "()Z"⟩ : MethodName) (head1 (Jvm.Cond.code (⟨"com/example/netloom/netloom/xml/NetReader$OpenAnnotations", "carriesGraphics", "()Z"⟩ : MethodName) prog_77_method_3_code 1 (some .boolean) :: ws) ({ frames := 0, cells := 0, slots := 0, locals := 0 } : Room)) (fun a U => a = #[(.ref o1)] ∧ Z.Warmed39 U.vm ∧ U.heap = h0) (fun _ _ _ _ _ => True) (fun _ U o U' => ∃ v L, o = .returned v ∧ OQ (some (.int (1 : Int32))) h0 Z.heap.size v U'.heap L ∧ FrameEnd U o U' L ({ frames := 0, cells := 0, slots := 0, locals := 0 } : Room).cells ({ frames := 0, cells := 0, slots := 0, locals := 0 } : Room).slots) := by
  have hN' := hN
  obtain ⟨hS0, hE0, hS1, hE1, hS2, hE2, hI0, hJ0, hR0, hRr0⟩ := hN'
  refine MetFree.of_bodySF (plainFor_of_name pn_3) hisR ?_
  intro p e s m args below meth c s₁ Bd hml0 hP hK
  obtain ⟨rfl, hZ, hh⟩ := hP
  have hx := Bd.exec
  have hby := Bd.bytes
  have hml : c.maxLocals = 1 := hml0
  have hown : s.vm.findClass "com/example/netloom/netloom/xml/NetReader$OpenAnnotations" = some m.cls := findClass_of_methodNamed Bd.named
  have hnm := (name_of_methodNamed Bd.named Bd.method).1
  have X0 : Stand p l e ({ frames := 0, cells := 0, slots := 0, locals := 0 } : Room) s m #[(.ref o1)] below meth c s₁ [] 0 0 := Stand.of_body Bd
  have e0 : s₁.heap = h0 := by rw [← hh, Bd.state]; rfl
  have N0 := Fr.nil Z.heap.size
  have pre0 : ∀ t, Steps p.tables e below (s₁.setTop (mkF m 0 #[.val (.ref o1)] [])) t → Steps p.tables e below (s₁.setTop (entryFrame m #[(.ref o1)] 1)) t := fun t k => castTop (ef_3 m (.ref o1) rfl) k
  obtain ⟨T1, X1, e1, st1⟩ := getF X0 hx hZ hown (host := "") (Or.inl (W hw 51 rfl)) Via.refl e0 F_o1_graphicsCarried (g := (mkF m 1 #[.val (.ref o1)] [(.ref o1)])) rfl rfl (hb hby d_prog_77_method_3_code_1)
  obtain ⟨T2, X2, e2, st2⟩ := getF X1 hx hZ hown (host := "") (Or.inl (W hw 42 rfl)) Via.refl e1 F_o1_form (g := (mkF m 8 #[.val (.ref o1)] [(.ref o1)])) rfl rfl (hb hby d_prog_77_method_3_code_8)
  obtain ⟨T3, X3, e3, st3⟩ := getF X2 hx hZ hown (host := "") (Or.inl (W hw 58 rfl)) Via.refl e2 F_o1_graphics (g := (mkF m 15 #[.val (.ref o1)] [(.ref o1)])) rfl rfl (hb hby d_prog_77_method_3_code_15)
  obtain ⟨fs, hr, hrun, hended, hW, hsame⟩ := X3.leave (v := some (.int (1 : Int32))) (fun h => by rw [Bd.returns] at h; cases h)
  refine ⟨_, _, pre0 _ ?_, hrun, hended, _, _, rfl, ?_, ⟨_, rfl⟩, hW, hsame.mono (by decide) (by decide)⟩
  · show Steps p.tables e below (s₁.setTop (mkF m 0 #[.val (.ref o1)] [])) _
    refine XS.aloadN X0.here hx rfl (hb hby d_prog_77_method_3_code_0) rfl rfl ?_
    show Steps p.tables e below (s₁.setTop (mkF m 1 #[.val (.ref o1)] [(.ref o1)])) _
    refine st1 _ ?_
    show Steps p.tables e below (T1.setTop (mkF m 4 #[.val (.ref o1)] [(.int (1 : Int32))])) _
    refine XS.ifNo X1.here hx rfl (hb hby d_prog_77_method_3_code_4) rfl ((if0 _ _).trans (feq (by decide : ¬ ((1 : Int32) = (0 : Int32)))).1) ?_
    show Steps p.tables e below (T1.setTop (mkF m 7 #[.val (.ref o1)] [])) _
    refine XS.aloadN X1.here hx rfl (hb hby d_prog_77_method_3_code_7) rfl rfl ?_
    show Steps p.tables e below (T1.setTop (mkF m 8 #[.val (.ref o1)] [(.ref o1)])) _
    refine st2 _ ?_
    show Steps p.tables e below (T2.setTop (mkF m 11 #[.val (.ref o1)] [.null])) _
    refine XS.ifnonnullNo X2.here hx rfl (hb hby d_prog_77_method_3_code_11) rfl ?_
    show Steps p.tables e below (T2.setTop (mkF m 14 #[.val (.ref o1)] [])) _
    refine XS.aloadN X2.here hx rfl (hb hby d_prog_77_method_3_code_14) rfl rfl ?_
    show Steps p.tables e below (T2.setTop (mkF m 15 #[.val (.ref o1)] [(.ref o1)])) _
    refine st3 _ ?_
    show Steps p.tables e below (T3.setTop (mkF m 18 #[.val (.ref o1)] [.null])) _
    refine XS.ifnonnullNo X3.here hx rfl (hb hby d_prog_77_method_3_code_18) rfl ?_
    show Steps p.tables e below (T3.setTop (mkF m 21 #[.val (.ref o1)] [])) _
    refine XS.iconst X3.here hx rfl (hb hby d_prog_77_method_3_code_21) ?_
    show Steps p.tables e below (T3.setTop (mkF m 22 #[.val (.ref o1)] [(.int (1 : Int32))])) _
    refine XS.goto X3.here hx rfl (pc0 := 22) (pc' := 26) rfl (hb hby d_prog_77_method_3_code_22) (by decide) (by decide) ?_
    show Steps p.tables e below (T3.setTop (mkF m 26 #[.val (.ref o1)] [(.int (1 : Int32))])) _
    exact retN X3 hx (t := .boolean) Bd.returns (by simp) (hb hby d_prog_77_method_3_code_26) hr
  · show OQ (some (.int (1 : Int32))) h0 Z.heap.size _ T3.heap _
    rw [e3]
    exact ⟨rfl, N0, rfl⟩
set_option maxRecDepth 65536 in
set_option maxHeartbeats 40000000 in
theorem law_12 (l : Launch) (Z : State) (a0 : Array Value) (hw : ∀ d ∈ tables_1, d.before a0 Z = true) (w : Nat → Addr) (kk : Nat → ClassId) (iw : Nat → Int32) (vw : Nat → Value) (hN : Wd Z w kk iw vw) (ws : List Jvm.Cond) (p0 : Int32) (p1 : Int32) (p2 : Int32) (h0 : Heap) (O0 : Old Z Z.heap.size h0) (hp0 : (p1 &&& (3 : Int32)) = (0 : Int32)) (hp1 : ¬ ((255 : Int32) < ((p2 &&& (255 : Int32)).toUInt32.toUInt16.toUInt32.toInt32))) (hp2 : (p0 &&& (1 : Int32)) = (1 : Int32)) (hp3 : (p0 &&& (2 : Int32)) = (0 : Int32)) :
    MetFree l x (head1 (Jvm.Cond.code x code maxLocals ret :: ws) room_1) (fun a U => a = #[(.int p0), (.int p1), (.int p2)] ∧ Z.Warmed39 U.vm ∧ U.heap = h0) (fun _ _ _ _ _ => True) (fun _ U o U' => ∃ v L, o = .returned v ∧ OL (some (.int (1 : Int32))) Z.heap.size v U'.heap L ∧ FrameEnd U o U' L 16 128) := by
  have hN' := hN
  obtain ⟨hS0, hE0, hS1, hE1, hS2, hE2, hI0, hJ0, hR0, hRr0⟩ := hN'
  refine MetFree.of_bodySF (plainFor_of_name pn_0) hisR ?_
  intro p e s m args below meth c s₁ Bd hml0 hP hK
  obtain ⟨rfl, hZ, hh⟩ := hP
  have hx := Bd.exec
  have hby := Bd.bytes
  have hml : c.maxLocals = 12 := hml0
  have hown : s.vm.findClass "com/example/netloom/netloom/xml/OpenAnnotationsCarriesGraphicsPinLaw" = some m.cls := findClass_of_methodNamed Bd.named
  have hnm := (name_of_methodNamed Bd.named Bd.method).1
  have X0 : Stand p l e room_1 s m #[(.int p0), (.int p1), (.int p2)] below meth c s₁ [] 0 0 := Stand.of_body Bd
  have e0 : s₁.heap = h0 := by rw [← hh, Bd.state]; rfl
  have N0 := Fr.nil Z.heap.size
  have pre0 : ∀ t, Steps p.tables e below (s₁.setTop (mkF m 0 #[.val (.int p0), .val (.int p1), .val (.int p2), .unset, .unset, .unset, .unset, .unset, .unset, .unset, .unset, .unset] [])) t → Steps p.tables e below (s₁.setTop (entryFrame m #[(.int p0), (.int p1), (.int p2)] maxLocals)) t := fun t k => castTop (ef_4 m (.int p0) rfl (.int p1) rfl (.int p2) rfl) k
  obtain ⟨_, _, ⟨T1, L1, k1, n1⟩, -, X1, ⟨Lc1, hQ1, l1, y1, z1⟩, st1⟩ := Jvm.LawKit.callS X0 hx (y := (⟨"com/example/netloom/netloom/xml/OpenAnnotationsCarriesGraphicsPinLaw", "pick", "(I)Lcom/example/netloom/netloom/xml/XmlGraphics$Form;"⟩ : MethodName)) hown (mvT hZ (W hw 0 rfl)) (mvT hZ (W hw 1 rfl)) (mvT hZ (W hw 2 rfl)) (mvT hZ (W hw 3 rfl)) (by decide) (backOf (W := 0) (rm_1 l Z a0 hw w kk iw vw hN [] h0 O0) hZ (W hw 3 rfl) (W hw 2 rfl) (by decide) (by decide)) (g := (mkF m 3 #[.val (.int p0), .val (.int p1), .val (.int p2), .unset, .unset, .unset, .unset, .unset, .unset, .unset, .unset, .unset] [(.int (0 : Int32))])) rfl (by rw [hml]; rfl) (argsL := [(.int (0 : Int32))]) (rest := []) (lenOf pd_0 rfl) rfl (by show 2 * 0 + _ ≤ _; exact Nat.le_of_eq rfl) (hb hby at_3) (fun _ _ => ⟨rfl, e0, (by decide : 0 + 0 ≤ _), (by decide : 0 + 0 ≤ _)⟩)
  dsimp only [Pt.U, Pt.locs, Pt.cells, Pt.slots] at X1 l1 y1 z1 st1 hQ1
  subst l1 y1 z1
  obtain ⟨rfl, N1q, e1⟩ := hQ1
  have N1 := Fr.app N0 N1q
  obtain ⟨_, _, ⟨T2, L2, k2, n2⟩, -, X2, ⟨Lc2, hQ2, l2, y2, z2⟩, st2⟩ := Jvm.LawKit.callS X1 hx (y := (⟨"java/lang/String", "valueOf", "(C)Ljava/lang/String;"⟩ : MethodName)) hown (mvT hZ (W hw 7 rfl)) (mvT hZ (W hw 8 rfl)) (mvT hZ (W hw 9 rfl)) (mvT hZ (W hw 10 rfl)) (by decide) (backOf (W := 0) (rm_5 l Z a0 hw w kk iw vw hN [] ((p2 &&& (255 : Int32)).toUInt32.toUInt16.toUInt32.toInt32) h0 O0 hp1) hZ (W hw 10 rfl) (W hw 9 rfl) (by decide) (by decide)) (g := (mkF m 13 #[.val (.int p0), .val (.int p1), .val (.int p2), .val .null, .unset, .unset, .unset, .unset, .unset, .unset, .unset, .unset] [(.int ((p2 &&& (255 : Int32)).toUInt32.toUInt16.toUInt32.toInt32))])) rfl (by rw [hml]; rfl) (argsL := [(.int ((p2 &&& (255 : Int32)).toUInt32.toUInt16.toUInt32.toInt32))]) (rest := []) (lenOf pd_4 rfl) rfl (by show 2 * 0 + _ ≤ _; exact Nat.le_of_eq rfl) (hb hby at_13) (fun _ _ => ⟨rfl, e1, (by decide : 0 + 2 ≤ _), (by decide : 0 + 5 ≤ _)⟩)
  dsimp only [Pt.U, Pt.locs, Pt.cells, Pt.slots] at X2 l2 y2 z2 st2 hQ2
  subst l2 y2 z2
  obtain ⟨b2_0, b2_1, kb2_0, rfl, N2q, Kq2, tk2_0, tk2_1, tk2_2, tk2_3, tk2_4, tk2_5, tk2_6⟩ := hQ2
  have N2 := Fr.app N1 N2q
  have gn_b2_0 : Z.heap.size ≤ b2_0 := Nat.le_trans O0.2.1 tk2_0
  have gn_b2_1 : Z.heap.size ≤ b2_1 := Nat.le_trans O0.2.1 tk2_1
  have O2 := O0.keep Kq2 all0
  obtain ⟨T3, h3, X3, e3, E3, A3, D3, -, st3⟩ := newO X2 hx hZ hown (W hw 33 rfl) (W hw 34 rfl) (W hw 35 rfl) rfl (g := (mkF m 18 #[.val (.int p0), .val (.int p1), .val (.int p2), .val .null, .val (.ref b2_0), .unset, .unset, .unset, .unset, .unset, .unset, .unset] [])) rfl (hb hby at_18) (by decide) (by decide)
  obtain ⟨b3, g3⟩ : ∃ z, z = T2.heap.size := ⟨_, rfl⟩
  rw [← g3] at A3 st3 D3
  have gn_b3 : Z.heap.size ≤ b3 := Nat.le_trans O2.2.1 (Nat.le_of_eq g3.symm)
  have ne_b2_1_b3 : b2_1 ≠ b3 := Nat.ne_of_lt (Nat.lt_of_lt_of_le tk2_6.lt (Nat.le_of_eq g3.symm))
  have ne_b2_0_b3 : b2_0 ≠ b3 := Nat.ne_of_lt (Nat.lt_of_lt_of_le tk2_3.lt (Nat.le_of_eq g3.symm))
  have tk2_3_v3 := tk2_3.ext E3
  have tk2_4_v3 := tk2_4.ext E3
  have tk2_5_v3 := tk2_5.ext E3
  have tk2_6_v3 := tk2_6.ext E3
  have O3 := O2.ext E3
  have E_b3_v3 := A3
  have F_b3_owner_v3 : Fld Z h3 b3 "com/example/netloom/netloom/xml/NetReader$OpenAnnotations" "owner" "Ljava/lang/String;" .null := D3 (Or.inr (W hw 41 rfl)) (ty := (.object "java/lang/String")) (by decide)
  have F_b3_form_v3 : Fld Z h3 b3 "com/example/netloom/netloom/xml/NetReader$OpenAnnotations" "form" "Lcom/example/netloom/netloom/xml/XmlGraphics$Form;" .null := D3 (Or.inr (W hw 43 rfl)) (ty := (.object "com/example/netloom/netloom/xml/XmlGraphics$Form")) (by decide)
  have F_b3_carries_v3 : Fld Z h3 b3 "com/example/netloom/netloom/xml/NetReader$OpenAnnotations" "carries" "Ljava/util/Set;" .null := D3 (Or.inr (W hw 45 rfl)) (ty := (.object "java/util/Set")) (by decide)
  have F_b3_graphicsCarried_v3 : Fld Z h3 b3 "com/example/netloom/netloom/xml/NetReader$OpenAnnotations" "graphicsCarried" "Z" (.int (0 : Int32)) := D3 (Or.inl (W hw 52 rfl)) (ty := .boolean) (by decide)
  have F_b3_graphics_v3 : Fld Z h3 b3 "com/example/netloom/netloom/xml/NetReader$OpenAnnotations" "graphics" "Lcom/example/netloom/netloom/net/Graphics;" .null := D3 (Or.inl (W hw 59 rfl)) (ty := (.object "com/example/netloom/netloom/net/Graphics")) (by decide)
  obtain ⟨_, _, ⟨T4, L4, k4, n4⟩, -, X4, ⟨Lc4, hQ4, l4, y4, z4⟩, st4⟩ := X3.specialBack hx (y := (⟨"com/example/netloom/netloom/xml/NetReader$OpenAnnotations", "<init>", "(Ljava/lang/String;Lcom/example/netloom/netloom/xml/XmlGraphics$Form;Ljava/util/Set;)V"⟩ : MethodName)) rfl hown (mvT hZ (W hw 36 rfl)) (mvT hZ (W hw 37 rfl)) (mvT hZ (W hw 38 rfl)) (by decide) (backOf (W := 1) (rm_6 l Z a0 hw w kk iw vw hN [] b3 b2_0 b2_1 ((((p2 &&& (255 : Int32)).toUInt32.toUInt16.toUInt32.toInt32).toInt8.toInt32).toInt8.toInt32) kb2_0 h3 O3 gn_b3 E_b3_v3.lt gn_b2_0 tk2_3_v3.lt E_b3_v3 F_b3_owner_v3 F_b3_form_v3 F_b3_carries_v3 F_b3_graphicsCarried_v3 F_b3_graphics_v3 tk2_3_v3 gn_b2_1 tk2_6_v3.lt tk2_4_v3 tk2_5_v3 tk2_6_v3 (Ne.symm ne_b2_0_b3) (Ne.symm ne_b2_1_b3) tk2_2) hZ (W hw 38 rfl) (W hw 35 rfl) (by decide) (by decide)) (g := (mkF m 26 #[.val (.int p0), .val (.int p1), .val (.int p2), .val .null, .val (.ref b2_0), .unset, .unset, .unset, .unset, .unset, .unset, .unset] [.null, .null, (.ref b2_0), (.ref b3), (.ref b3)])) rfl (by rw [hml]; rfl) (Steps.refl _) (a := b3) (argsL := [(.ref b2_0), .null, .null]) (rest := [(.ref b3)]) (lenOf pd_5 rfl) rfl (by show 2 * 0 + _ ≤ _; exact Nat.le_of_eq rfl) (hb hby at_26) (fun _ _ => ⟨rfl, e3, (by decide : 3 + 0 ≤ _), (by decide : 16 + 0 ≤ _)⟩)
  dsimp only [Pt.U, Pt.locs, Pt.cells, Pt.slots] at X4 l4 y4 z4 st4 hQ4
  subst l4 y4 z4
  obtain ⟨rfl, N4q, Kq4, tk4_0, tk4_1, tk4_2, tk4_3, tk4_4, tk4_5⟩ := hQ4
  have N4 := Fr.app N2 N4q
  have tk2_3_v4 := tk2_3_v3.keep Kq4
  have tk2_4_v4 := tk2_4_v3.keep Kq4 (ninS ne_b2_0_b3 nin0)
  have tk2_5_v4 := tk2_5_v3.keep Kq4 (ninS ne_b2_0_b3 nin0)
  have tk2_6_v4 := tk2_6_v3.keep Kq4 (ninS ne_b2_1_b3 nin0)
  have E_b3_v4 := E_b3_v3.keep Kq4
  have O4 := O3.keep Kq4 (allS gn_b3 all0)
  obtain ⟨cq5, kq5, q5a, q5b, q5c⟩ := isOf hZ rfl tk4_0
  obtain ⟨_, _, ⟨T5, L5, k5, n5⟩, -, X5, ⟨Lc5, hQ5, l5, y5, z5⟩, st5⟩ := X4.virtualBack hx (y := (⟨"com/example/netloom/netloom/xml/NetReader$OpenAnnotations", "carriesGraphics", "()Z"⟩ : MethodName)) (z := (⟨"com/example/netloom/netloom/xml/NetReader$OpenAnnotations", "carriesGraphics", "()Z"⟩ : MethodName)) hown (mvT hZ (W hw 46 rfl)) (mvT hZ (W hw 47 rfl)) (notFace_of_selects (args := #[]) (mvT hZ (W hw 49 rfl))) (mvT hZ (W hw 49 rfl)) (mvT hZ (W hw 48 rfl)) (by decide) (backOf (W := 0) (rm_7 l Z a0 hw w kk iw vw hN [] b3 b2_0 b2_1 ((((p2 &&& (255 : Int32)).toUInt32.toUInt16.toUInt32.toInt32).toInt8.toInt32).toInt8.toInt32) kb2_0 T4.heap O4 gn_b3 tk4_0.lt tk4_0 gn_b2_0 tk2_3_v4.lt tk4_1 tk4_2 tk4_3 tk4_4 tk4_5 tk2_3_v4 gn_b2_1 tk2_6_v4.lt tk2_4_v4 tk2_5_v4 tk2_6_v4 (Ne.symm ne_b2_0_b3) (Ne.symm ne_b2_1_b3) tk2_2) hZ (W hw 50 rfl) (W hw 35 rfl) (by decide) (by decide)) q5a q5c (g := (mkF m 33 #[.val (.int p0), .val (.int p1), .val (.int p2), .val .null, .val (.ref b2_0), .val (.ref b3), .unset, .unset, .unset, .unset, .unset, .unset] [(.ref b3)])) rfl (by rw [hml]; rfl) (Steps.refl _) (argsL := []) (rest := []) (lenOf pd_6 rfl) rfl (by show 2 * 0 + _ ≤ _; exact Nat.le_of_eq rfl) (hb hby at_33) (fun _ _ => ⟨rfl, rfl, (by decide : 3 + 0 ≤ _), (by decide : 16 + 0 ≤ _)⟩)
  dsimp only [Pt.U, Pt.locs, Pt.cells, Pt.slots] at X5 l5 y5 z5 st5 hQ5
  subst l5 y5 z5
  obtain ⟨rfl, N5q, e5⟩ := hQ5
  have N5 := Fr.app N4 N5q
  obtain ⟨cq6, kq6, q6a, q6b, q6c⟩ := isOf hZ e5 tk4_0
  obtain ⟨_, _, ⟨T6, L6, k6, n6⟩, -, X6, ⟨Lc6, hQ6, l6, y6, z6⟩, st6⟩ := X5.virtualBack hx (y := (⟨"com/example/netloom/netloom/xml/NetReader$OpenAnnotations", "carryGraphics", "()V"⟩ : MethodName)) (z := (⟨"com/example/netloom/netloom/xml/NetReader$OpenAnnotations", "carryGraphics", "()V"⟩ : MethodName)) hown (mvT hZ (W hw 53 rfl)) (mvT hZ (W hw 54 rfl)) (notFace_of_selects (args := #[]) (mvT hZ (W hw 56 rfl))) (mvT hZ (W hw 56 rfl)) (mvT hZ (W hw 55 rfl)) (by decide) (backOf (W := 0) (rm_10 l Z a0 hw w kk iw vw hN [] b3 b2_0 b2_1 ((((p2 &&& (255 : Int32)).toUInt32.toUInt16.toUInt32.toInt32).toInt8.toInt32).toInt8.toInt32) kb2_0 T4.heap O4 gn_b3 tk4_0.lt tk4_0 gn_b2_0 tk2_3_v4.lt tk4_1 tk4_2 tk4_3 tk4_4 tk4_5 tk2_3_v4 gn_b2_1 tk2_6_v4.lt tk2_4_v4 tk2_5_v4 tk2_6_v4 (Ne.symm ne_b2_0_b3) (Ne.symm ne_b2_1_b3) tk2_2) hZ (W hw 57 rfl) (W hw 35 rfl) (by decide) (by decide)) q6a q6c (g := (mkF m 71 #[.val (.int p0), .val (.int p1), .val (.int p2), .val .null, .val (.ref b2_0), .val (.ref b3), .val (.int (0 : Int32)), .val (.int (1 : Int32)), .val (.int (0 : Int32)), .unset, .unset, .unset] [(.ref b3)])) rfl (by rw [hml]; rfl) (Steps.refl _) (argsL := []) (rest := []) (lenOf pd_7 rfl) rfl (by show 2 * 0 + _ ≤ _; exact Nat.le_of_eq rfl) (hb hby at_71) (fun _ _ => ⟨rfl, e5, (by decide : 3 + 0 ≤ _), (by decide : 16 + 0 ≤ _)⟩)
  dsimp only [Pt.U, Pt.locs, Pt.cells, Pt.slots] at X6 l6 y6 z6 st6 hQ6
  subst l6 y6 z6
  obtain ⟨rfl, N6q, Kq6, tk6_0, tk6_1, tk6_2, tk6_3, tk6_4, tk6_5⟩ := hQ6
  have N6 := Fr.app N5 N6q
  have tk2_3_v6 := tk2_3_v4.keep Kq6
  have tk2_4_v6 := tk2_4_v4.keep Kq6 (ninS ne_b2_0_b3 nin0)
  have tk2_5_v6 := tk2_5_v4.keep Kq6 (ninS ne_b2_0_b3 nin0)
  have tk2_6_v6 := tk2_6_v4.keep Kq6 (ninS ne_b2_1_b3 nin0)
  have tk4_0_v6 := tk4_0.keep Kq6
  have O6 := O4.keep Kq6 (allS gn_b3 all0)
  obtain ⟨cq7, kq7, q7a, q7b, q7c⟩ := isOf hZ rfl tk6_0
  obtain ⟨_, _, ⟨T7, L7, k7, n7⟩, -, X7, ⟨Lc7, hQ7, l7, y7, z7⟩, st7⟩ := X6.virtualBack hx (y := (⟨"com/example/netloom/netloom/xml/NetReader$OpenAnnotations", "carriesGraphics", "()Z"⟩ : MethodName)) (z := (⟨"com/example/netloom/netloom/xml/NetReader$OpenAnnotations", "carriesGraphics", "()Z"⟩ : MethodName)) hown (mvT hZ (W hw 46 rfl)) (mvT hZ (W hw 47 rfl)) (notFace_of_selects (args := #[]) (mvT hZ (W hw 49 rfl))) (mvT hZ (W hw 49 rfl)) (mvT hZ (W hw 48 rfl)) (by decide) (backOf (W := 0) (rm_11 l Z a0 hw w kk iw vw hN [] b3 b2_0 b2_1 ((((p2 &&& (255 : Int32)).toUInt32.toUInt16.toUInt32.toInt32).toInt8.toInt32).toInt8.toInt32) kb2_0 T6.heap O6 gn_b3 tk6_0.lt tk6_0 gn_b2_0 tk2_3_v6.lt tk6_1 tk6_2 tk6_3 tk6_4 tk6_5 tk2_3_v6 gn_b2_1 tk2_6_v6.lt tk2_4_v6 tk2_5_v6 tk2_6_v6 (Ne.symm ne_b2_0_b3) (Ne.symm ne_b2_1_b3) tk2_2) hZ (W hw 50 rfl) (W hw 35 rfl) (by decide) (by decide)) q7a q7c (g := (mkF m 86 #[.val (.int p0), .val (.int p1), .val (.int p2), .val .null, .val (.ref b2_0), .val (.ref b3), .val (.int (0 : Int32)), .val (.int (1 : Int32)), .val (.int (0 : Int32)), .unset, .unset, .unset] [(.ref b3)])) rfl (by rw [hml]; rfl) (Steps.refl _) (argsL := []) (rest := []) (lenOf pd_6 rfl) rfl (by show 2 * 0 + _ ≤ _; exact Nat.le_of_eq rfl) (hb hby at_86) (fun _ _ => ⟨rfl, rfl, (by decide : 3 + 0 ≤ _), (by decide : 16 + 0 ≤ _)⟩)
  dsimp only [Pt.U, Pt.locs, Pt.cells, Pt.slots] at X7 l7 y7 z7 st7 hQ7
  subst l7 y7 z7
  obtain ⟨rfl, N7q, e7⟩ := hQ7
  have N7 := Fr.app N6 N7q
  obtain ⟨cq8, kq8, q8a, q8b, q8c⟩ := isOf hZ e7 tk6_0
  obtain ⟨_, _, ⟨T8, L8, k8, n8⟩, -, X8, ⟨Lc8, hQ8, l8, y8, z8⟩, st8⟩ := X7.virtualBack hx (y := (⟨"com/example/netloom/netloom/xml/NetReader$OpenAnnotations", "carriesGraphics", "()Z"⟩ : MethodName)) (z := (⟨"com/example/netloom/netloom/xml/NetReader$OpenAnnotations", "carriesGraphics", "()Z"⟩ : MethodName)) hown (mvT hZ (W hw 46 rfl)) (mvT hZ (W hw 47 rfl)) (notFace_of_selects (args := #[]) (mvT hZ (W hw 49 rfl))) (mvT hZ (W hw 49 rfl)) (mvT hZ (W hw 48 rfl)) (by decide) (backOf (W := 0) (rm_11 l Z a0 hw w kk iw vw hN [] b3 b2_0 b2_1 ((((p2 &&& (255 : Int32)).toUInt32.toUInt16.toUInt32.toInt32).toInt8.toInt32).toInt8.toInt32) kb2_0 T6.heap O6 gn_b3 tk6_0.lt tk6_0 gn_b2_0 tk2_3_v6.lt tk6_1 tk6_2 tk6_3 tk6_4 tk6_5 tk2_3_v6 gn_b2_1 tk2_6_v6.lt tk2_4_v6 tk2_5_v6 tk2_6_v6 (Ne.symm ne_b2_0_b3) (Ne.symm ne_b2_1_b3) tk2_2) hZ (W hw 50 rfl) (W hw 35 rfl) (by decide) (by decide)) q8a q8c (g := (mkF m 93 #[.val (.int p0), .val (.int p1), .val (.int p2), .val .null, .val (.ref b2_0), .val (.ref b3), .val (.int (0 : Int32)), .val (.int (1 : Int32)), .val (.int (0 : Int32)), .val (.int (1 : Int32)), .unset, .unset] [(.ref b3)])) rfl (by rw [hml]; rfl) (Steps.refl _) (argsL := []) (rest := []) (lenOf pd_6 rfl) rfl (by show 2 * 0 + _ ≤ _; exact Nat.le_of_eq rfl) (hb hby at_93) (fun _ _ => ⟨rfl, e7, (by decide : 3 + 0 ≤ _), (by decide : 16 + 0 ≤ _)⟩)
  dsimp only [Pt.U, Pt.locs, Pt.cells, Pt.slots] at X8 l8 y8 z8 st8 hQ8
  subst l8 y8 z8
  obtain ⟨rfl, N8q, e8⟩ := hQ8
  have N8 := Fr.app N7 N8q
  obtain ⟨fs, hr, hrun, hended, hW, hsame⟩ := X8.leave (v := some (.int (1 : Int32))) (fun h => by rw [Bd.returns] at h; cases h)
  refine ⟨_, _, pre0 _ ?_, hrun, hended, _, _, rfl, ?_, ⟨_, rfl⟩, hW, hsame.mono (by decide) (by decide)⟩
  · show Steps p.tables e below (s₁.setTop (mkF m 0 #[.val (.int p0), .val (.int p1), .val (.int p2), .unset, .unset, .unset, .unset, .unset, .unset, .unset, .unset, .unset] [])) _
    refine XS.iloadN X0.here hx rfl (hb hby at_0) rfl ?_
    show Steps p.tables e below (s₁.setTop (mkF m 1 #[.val (.int p0), .val (.int p1), .val (.int p2), .unset, .unset, .unset, .unset, .unset, .unset, .unset, .unset, .unset] [(.int p1)])) _
    refine XS.iconst X0.here hx rfl (hb hby at_1) ?_
    show Steps p.tables e below (s₁.setTop (mkF m 2 #[.val (.int p0), .val (.int p1), .val (.int p2), .unset, .unset, .unset, .unset, .unset, .unset, .unset, .unset, .unset] [(.int (3 : Int32)), (.int p1)])) _
    refine XS.iand X0.here hx rfl (hb hby at_2) rfl ?_
    show Steps p.tables e below (s₁.setTop (mkF m 3 #[.val (.int p0), .val (.int p1), .val (.int p2), .unset, .unset, .unset, .unset, .unset, .unset, .unset, .unset, .unset] [(.int (p1 &&& (3 : Int32)))])) _
    rw [hp0]
    show Steps p.tables e below (s₁.setTop (mkF m 3 #[.val (.int p0), .val (.int p1), .val (.int p2), .unset, .unset, .unset, .unset, .unset, .unset, .unset, .unset, .unset] [(.int (0 : Int32))])) _
    refine st1 _ ?_
    show Steps p.tables e below (T1.setTop (mkF m 6 #[.val (.int p0), .val (.int p1), .val (.int p2), .unset, .unset, .unset, .unset, .unset, .unset, .unset, .unset, .unset] [.null])) _
    refine XS.astoreN X1.here hx rfl (hb hby at_6) rfl rfl (l' := #[.val (.int p0), .val (.int p1), .val (.int p2), .val .null, .unset, .unset, .unset, .unset, .unset, .unset, .unset, .unset]) rfl ?_
    show Steps p.tables e below (T1.setTop (mkF m 7 #[.val (.int p0), .val (.int p1), .val (.int p2), .val .null, .unset, .unset, .unset, .unset, .unset, .unset, .unset, .unset] [])) _
    refine XS.iloadN X1.here hx rfl (hb hby at_7) rfl ?_
    show Steps p.tables e below (T1.setTop (mkF m 8 #[.val (.int p0), .val (.int p1), .val (.int p2), .val .null, .unset, .unset, .unset, .unset, .unset, .unset, .unset, .unset] [(.int p2)])) _
    refine XS.sipush X1.here hx rfl (hb hby at_8) ?_
    show Steps p.tables e below (T1.setTop (mkF m 11 #[.val (.int p0), .val (.int p1), .val (.int p2), .val .null, .unset, .unset, .unset, .unset, .unset, .unset, .unset, .unset] [(.int (255 : Int32)), (.int p2)])) _
    refine XS.iand X1.here hx rfl (hb hby at_11) rfl ?_
    show Steps p.tables e below (T1.setTop (mkF m 12 #[.val (.int p0), .val (.int p1), .val (.int p2), .val .null, .unset, .unset, .unset, .unset, .unset, .unset, .unset, .unset] [(.int (p2 &&& (255 : Int32)))])) _
    refine XS.i2c X1.here hx rfl (hb hby at_12) rfl ?_
    show Steps p.tables e below (T1.setTop (mkF m 13 #[.val (.int p0), .val (.int p1), .val (.int p2), .val .null, .unset, .unset, .unset, .unset, .unset, .unset, .unset, .unset] [(.int ((p2 &&& (255 : Int32)).toUInt32.toUInt16.toUInt32.toInt32))])) _
    refine st2 _ ?_
    show Steps p.tables e below (T2.setTop (mkF m 16 #[.val (.int p0), .val (.int p1), .val (.int p2), .val .null, .unset, .unset, .unset, .unset, .unset, .unset, .unset, .unset] [(.ref b2_0)])) _
    refine XS.astore X2.here hx rfl (hb hby at_16) rfl rfl (l' := #[.val (.int p0), .val (.int p1), .val (.int p2), .val .null, .val (.ref b2_0), .unset, .unset, .unset, .unset, .unset, .unset, .unset]) rfl ?_
    show Steps p.tables e below (T2.setTop (mkF m 18 #[.val (.int p0), .val (.int p1), .val (.int p2), .val .null, .val (.ref b2_0), .unset, .unset, .unset, .unset, .unset, .unset, .unset] [])) _
    refine st3 _ ?_
    show Steps p.tables e below (T3.setTop (mkF m 21 #[.val (.int p0), .val (.int p1), .val (.int p2), .val .null, .val (.ref b2_0), .unset, .unset, .unset, .unset, .unset, .unset, .unset] [(.ref b3)])) _
    refine XS.dup X3.here hx rfl (hb hby at_21) rfl rfl ?_
    show Steps p.tables e below (T3.setTop (mkF m 22 #[.val (.int p0), .val (.int p1), .val (.int p2), .val .null, .val (.ref b2_0), .unset, .unset, .unset, .unset, .unset, .unset, .unset] [(.ref b3), (.ref b3)])) _
    refine XS.aload X3.here hx rfl (hb hby at_22) rfl rfl ?_
    show Steps p.tables e below (T3.setTop (mkF m 24 #[.val (.int p0), .val (.int p1), .val (.int p2), .val .null, .val (.ref b2_0), .unset, .unset, .unset, .unset, .unset, .unset, .unset] [(.ref b2_0), (.ref b3), (.ref b3)])) _
    refine XS.aloadN X3.here hx rfl (hb hby at_24) rfl rfl ?_
    show Steps p.tables e below (T3.setTop (mkF m 25 #[.val (.int p0), .val (.int p1), .val (.int p2), .val .null, .val (.ref b2_0), .unset, .unset, .unset, .unset, .unset, .unset, .unset] [.null, (.ref b2_0), (.ref b3), (.ref b3)])) _
    refine XS.aconstNull X3.here hx rfl (hb hby at_25) ?_
    show Steps p.tables e below (T3.setTop (mkF m 26 #[.val (.int p0), .val (.int p1), .val (.int p2), .val .null, .val (.ref b2_0), .unset, .unset, .unset, .unset, .unset, .unset, .unset] [.null, .null, (.ref b2_0), (.ref b3), (.ref b3)])) _
    refine st4.trans ?_
    show Steps p.tables e below (T4.setTop (mkF m 29 #[.val (.int p0), .val (.int p1), .val (.int p2), .val .null, .val (.ref b2_0), .unset, .unset, .unset, .unset, .unset, .unset, .unset] [(.ref b3)])) _
    refine XS.astore X4.here hx rfl (hb hby at_29) rfl rfl (l' := #[.val (.int p0), .val (.int p1), .val (.int p2), .val .null, .val (.ref b2_0), .val (.ref b3), .unset, .unset, .unset, .unset, .unset, .unset]) rfl ?_
    show Steps p.tables e below (T4.setTop (mkF m 31 #[.val (.int p0), .val (.int p1), .val (.int p2), .val .null, .val (.ref b2_0), .val (.ref b3), .unset, .unset, .unset, .unset, .unset, .unset] [])) _
    refine XS.aload X4.here hx rfl (hb hby at_31) rfl rfl ?_
    show Steps p.tables e below (T4.setTop (mkF m 33 #[.val (.int p0), .val (.int p1), .val (.int p2), .val .null, .val (.ref b2_0), .val (.ref b3), .unset, .unset, .unset, .unset, .unset, .unset] [(.ref b3)])) _
    refine st5.trans ?_
    show Steps p.tables e below (T5.setTop (mkF m 36 #[.val (.int p0), .val (.int p1), .val (.int p2), .val .null, .val (.ref b2_0), .val (.ref b3), .unset, .unset, .unset, .unset, .unset, .unset] [(.int (0 : Int32))])) _
    refine XS.istore X5.here hx rfl (hb hby at_36) rfl (l' := #[.val (.int p0), .val (.int p1), .val (.int p2), .val .null, .val (.ref b2_0), .val (.ref b3), .val (.int (0 : Int32)), .unset, .unset, .unset, .unset, .unset]) rfl ?_
    show Steps p.tables e below (T5.setTop (mkF m 38 #[.val (.int p0), .val (.int p1), .val (.int p2), .val .null, .val (.ref b2_0), .val (.ref b3), .val (.int (0 : Int32)), .unset, .unset, .unset, .unset, .unset] [])) _
    refine XS.iloadN X5.here hx rfl (hb hby at_38) rfl ?_
    show Steps p.tables e below (T5.setTop (mkF m 39 #[.val (.int p0), .val (.int p1), .val (.int p2), .val .null, .val (.ref b2_0), .val (.ref b3), .val (.int (0 : Int32)), .unset, .unset, .unset, .unset, .unset] [(.int p0)])) _
    refine XS.iconst X5.here hx rfl (hb hby at_39) ?_
    show Steps p.tables e below (T5.setTop (mkF m 40 #[.val (.int p0), .val (.int p1), .val (.int p2), .val .null, .val (.ref b2_0), .val (.ref b3), .val (.int (0 : Int32)), .unset, .unset, .unset, .unset, .unset] [(.int (1 : Int32)), (.int p0)])) _
    refine XS.iand X5.here hx rfl (hb hby at_40) rfl ?_
    show Steps p.tables e below (T5.setTop (mkF m 41 #[.val (.int p0), .val (.int p1), .val (.int p2), .val .null, .val (.ref b2_0), .val (.ref b3), .val (.int (0 : Int32)), .unset, .unset, .unset, .unset, .unset] [(.int (p0 &&& (1 : Int32)))])) _
    rw [hp2]
    show Steps p.tables e below (T5.setTop (mkF m 41 #[.val (.int p0), .val (.int p1), .val (.int p2), .val .null, .val (.ref b2_0), .val (.ref b3), .val (.int (0 : Int32)), .unset, .unset, .unset, .unset, .unset] [(.int (1 : Int32))])) _
    refine XS.ifNo X5.here hx rfl (hb hby at_41) rfl ((if0 _ _).trans (feq (by decide : ¬ ((1 : Int32) = (0 : Int32)))).1) ?_
    show Steps p.tables e below (T5.setTop (mkF m 44 #[.val (.int p0), .val (.int p1), .val (.int p2), .val .null, .val (.ref b2_0), .val (.ref b3), .val (.int (0 : Int32)), .unset, .unset, .unset, .unset, .unset] [])) _
    refine XS.iconst X5.here hx rfl (hb hby at_44) ?_
    show Steps p.tables e below (T5.setTop (mkF m 45 #[.val (.int p0), .val (.int p1), .val (.int p2), .val .null, .val (.ref b2_0), .val (.ref b3), .val (.int (0 : Int32)), .unset, .unset, .unset, .unset, .unset] [(.int (1 : Int32))])) _
    refine XS.goto X5.here hx rfl (pc0 := 45) (pc' := 49) rfl (hb hby at_45) (by decide) (by decide) ?_
    show Steps p.tables e below (T5.setTop (mkF m 49 #[.val (.int p0), .val (.int p1), .val (.int p2), .val .null, .val (.ref b2_0), .val (.ref b3), .val (.int (0 : Int32)), .unset, .unset, .unset, .unset, .unset] [(.int (1 : Int32))])) _
    refine XS.istore X5.here hx rfl (hb hby at_49) rfl (l' := #[.val (.int p0), .val (.int p1), .val (.int p2), .val .null, .val (.ref b2_0), .val (.ref b3), .val (.int (0 : Int32)), .val (.int (1 : Int32)), .unset, .unset, .unset, .unset]) rfl ?_
    show Steps p.tables e below (T5.setTop (mkF m 51 #[.val (.int p0), .val (.int p1), .val (.int p2), .val .null, .val (.ref b2_0), .val (.ref b3), .val (.int (0 : Int32)), .val (.int (1 : Int32)), .unset, .unset, .unset, .unset] [])) _
    refine XS.iloadN X5.here hx rfl (hb hby at_51) rfl ?_
    show Steps p.tables e below (T5.setTop (mkF m 52 #[.val (.int p0), .val (.int p1), .val (.int p2), .val .null, .val (.ref b2_0), .val (.ref b3), .val (.int (0 : Int32)), .val (.int (1 : Int32)), .unset, .unset, .unset, .unset] [(.int p0)])) _
    refine XS.iconst X5.here hx rfl (hb hby at_52) ?_
    show Steps p.tables e below (T5.setTop (mkF m 53 #[.val (.int p0), .val (.int p1), .val (.int p2), .val .null, .val (.ref b2_0), .val (.ref b3), .val (.int (0 : Int32)), .val (.int (1 : Int32)), .unset, .unset, .unset, .unset] [(.int (2 : Int32)), (.int p0)])) _
    refine XS.iand X5.here hx rfl (hb hby at_53) rfl ?_
    show Steps p.tables e below (T5.setTop (mkF m 54 #[.val (.int p0), .val (.int p1), .val (.int p2), .val .null, .val (.ref b2_0), .val (.ref b3), .val (.int (0 : Int32)), .val (.int (1 : Int32)), .unset, .unset, .unset, .unset] [(.int (p0 &&& (2 : Int32)))])) _
    refine XS.ifYes X5.here hx rfl (pc0 := 54) (pc' := 61) rfl (hb hby at_54) rfl ((if0 _ _).trans (teq hp3).1) (by decide) (by decide) ?_
    show Steps p.tables e below (T5.setTop (mkF m 61 #[.val (.int p0), .val (.int p1), .val (.int p2), .val .null, .val (.ref b2_0), .val (.ref b3), .val (.int (0 : Int32)), .val (.int (1 : Int32)), .unset, .unset, .unset, .unset] [])) _
    refine XS.iconst X5.here hx rfl (hb hby at_61) ?_
    show Steps p.tables e below (T5.setTop (mkF m 62 #[.val (.int p0), .val (.int p1), .val (.int p2), .val .null, .val (.ref b2_0), .val (.ref b3), .val (.int (0 : Int32)), .val (.int (1 : Int32)), .unset, .unset, .unset, .unset] [(.int (0 : Int32))])) _
    refine XS.istore X5.here hx rfl (hb hby at_62) rfl (l' := #[.val (.int p0), .val (.int p1), .val (.int p2), .val .null, .val (.ref b2_0), .val (.ref b3), .val (.int (0 : Int32)), .val (.int (1 : Int32)), .val (.int (0 : Int32)), .unset, .unset, .unset]) rfl ?_
    show Steps p.tables e below (T5.setTop (mkF m 64 #[.val (.int p0), .val (.int p1), .val (.int p2), .val .null, .val (.ref b2_0), .val (.ref b3), .val (.int (0 : Int32)), .val (.int (1 : Int32)), .val (.int (0 : Int32)), .unset, .unset, .unset] [])) _
    refine XS.iload X5.here hx rfl (hb hby at_64) rfl ?_
    show Steps p.tables e below (T5.setTop (mkF m 66 #[.val (.int p0), .val (.int p1), .val (.int p2), .val .null, .val (.ref b2_0), .val (.ref b3), .val (.int (0 : Int32)), .val (.int (1 : Int32)), .val (.int (0 : Int32)), .unset, .unset, .unset] [(.int (1 : Int32))])) _
    refine XS.ifNo X5.here hx rfl (hb hby at_66) rfl ((if0 _ _).trans (feq (by decide : ¬ ((1 : Int32) = (0 : Int32)))).1) ?_
    show Steps p.tables e below (T5.setTop (mkF m 69 #[.val (.int p0), .val (.int p1), .val (.int p2), .val .null, .val (.ref b2_0), .val (.ref b3), .val (.int (0 : Int32)), .val (.int (1 : Int32)), .val (.int (0 : Int32)), .unset, .unset, .unset] [])) _
    refine XS.aload X5.here hx rfl (hb hby at_69) rfl rfl ?_
    show Steps p.tables e below (T5.setTop (mkF m 71 #[.val (.int p0), .val (.int p1), .val (.int p2), .val .null, .val (.ref b2_0), .val (.ref b3), .val (.int (0 : Int32)), .val (.int (1 : Int32)), .val (.int (0 : Int32)), .unset, .unset, .unset] [(.ref b3)])) _
    refine st6.trans ?_
    show Steps p.tables e below (T6.setTop (mkF m 74 #[.val (.int p0), .val (.int p1), .val (.int p2), .val .null, .val (.ref b2_0), .val (.ref b3), .val (.int (0 : Int32)), .val (.int (1 : Int32)), .val (.int (0 : Int32)), .unset, .unset, .unset] [])) _
    refine XS.iload X6.here hx rfl (hb hby at_74) rfl ?_
    show Steps p.tables e below (T6.setTop (mkF m 76 #[.val (.int p0), .val (.int p1), .val (.int p2), .val .null, .val (.ref b2_0), .val (.ref b3), .val (.int (0 : Int32)), .val (.int (1 : Int32)), .val (.int (0 : Int32)), .unset, .unset, .unset] [(.int (0 : Int32))])) _
    refine XS.ifYes X6.here hx rfl (pc0 := 76) (pc' := 84) rfl (hb hby at_76) rfl ((if0 _ _).trans (teq (by decide : (0 : Int32) = (0 : Int32))).1) (by decide) (by decide) ?_
    show Steps p.tables e below (T6.setTop (mkF m 84 #[.val (.int p0), .val (.int p1), .val (.int p2), .val .null, .val (.ref b2_0), .val (.ref b3), .val (.int (0 : Int32)), .val (.int (1 : Int32)), .val (.int (0 : Int32)), .unset, .unset, .unset] [])) _
    refine XS.aload X6.here hx rfl (hb hby at_84) rfl rfl ?_
    show Steps p.tables e below (T6.setTop (mkF m 86 #[.val (.int p0), .val (.int p1), .val (.int p2), .val .null, .val (.ref b2_0), .val (.ref b3), .val (.int (0 : Int32)), .val (.int (1 : Int32)), .val (.int (0 : Int32)), .unset, .unset, .unset] [(.ref b3)])) _
    refine st7.trans ?_
    show Steps p.tables e below (T7.setTop (mkF m 89 #[.val (.int p0), .val (.int p1), .val (.int p2), .val .null, .val (.ref b2_0), .val (.ref b3), .val (.int (0 : Int32)), .val (.int (1 : Int32)), .val (.int (0 : Int32)), .unset, .unset, .unset] [(.int (1 : Int32))])) _
    refine XS.istore X7.here hx rfl (hb hby at_89) rfl (l' := #[.val (.int p0), .val (.int p1), .val (.int p2), .val .null, .val (.ref b2_0), .val (.ref b3), .val (.int (0 : Int32)), .val (.int (1 : Int32)), .val (.int (0 : Int32)), .val (.int (1 : Int32)), .unset, .unset]) rfl ?_
    show Steps p.tables e below (T7.setTop (mkF m 91 #[.val (.int p0), .val (.int p1), .val (.int p2), .val .null, .val (.ref b2_0), .val (.ref b3), .val (.int (0 : Int32)), .val (.int (1 : Int32)), .val (.int (0 : Int32)), .val (.int (1 : Int32)), .unset, .unset] [])) _
    refine XS.aload X7.here hx rfl (hb hby at_91) rfl rfl ?_
    show Steps p.tables e below (T7.setTop (mkF m 93 #[.val (.int p0), .val (.int p1), .val (.int p2), .val .null, .val (.ref b2_0), .val (.ref b3), .val (.int (0 : Int32)), .val (.int (1 : Int32)), .val (.int (0 : Int32)), .val (.int (1 : Int32)), .unset, .unset] [(.ref b3)])) _
    refine st8.trans ?_
    show Steps p.tables e below (T8.setTop (mkF m 96 #[.val (.int p0), .val (.int p1), .val (.int p2), .val .null, .val (.ref b2_0), .val (.ref b3), .val (.int (0 : Int32)), .val (.int (1 : Int32)), .val (.int (0 : Int32)), .val (.int (1 : Int32)), .unset, .unset] [(.int (1 : Int32))])) _
    refine XS.istore X8.here hx rfl (hb hby at_96) rfl (l' := #[.val (.int p0), .val (.int p1), .val (.int p2), .val .null, .val (.ref b2_0), .val (.ref b3), .val (.int (0 : Int32)), .val (.int (1 : Int32)), .val (.int (0 : Int32)), .val (.int (1 : Int32)), .val (.int (1 : Int32)), .unset]) rfl ?_
    show Steps p.tables e below (T8.setTop (mkF m 98 #[.val (.int p0), .val (.int p1), .val (.int p2), .val .null, .val (.ref b2_0), .val (.ref b3), .val (.int (0 : Int32)), .val (.int (1 : Int32)), .val (.int (0 : Int32)), .val (.int (1 : Int32)), .val (.int (1 : Int32)), .unset] [])) _
    refine XS.iload X8.here hx rfl (hb hby at_98) rfl ?_
    show Steps p.tables e below (T8.setTop (mkF m 100 #[.val (.int p0), .val (.int p1), .val (.int p2), .val .null, .val (.ref b2_0), .val (.ref b3), .val (.int (0 : Int32)), .val (.int (1 : Int32)), .val (.int (0 : Int32)), .val (.int (1 : Int32)), .val (.int (1 : Int32)), .unset] [(.int (1 : Int32))])) _
    refine XS.ifNo X8.here hx rfl (hb hby at_100) rfl ((if0 _ _).trans (feq (by decide : ¬ ((1 : Int32) = (0 : Int32)))).1) ?_
    show Steps p.tables e below (T8.setTop (mkF m 103 #[.val (.int p0), .val (.int p1), .val (.int p2), .val .null, .val (.ref b2_0), .val (.ref b3), .val (.int (0 : Int32)), .val (.int (1 : Int32)), .val (.int (0 : Int32)), .val (.int (1 : Int32)), .val (.int (1 : Int32)), .unset] [])) _
    refine XS.aloadN X8.here hx rfl (hb hby at_103) rfl rfl ?_
    show Steps p.tables e below (T8.setTop (mkF m 104 #[.val (.int p0), .val (.int p1), .val (.int p2), .val .null, .val (.ref b2_0), .val (.ref b3), .val (.int (0 : Int32)), .val (.int (1 : Int32)), .val (.int (0 : Int32)), .val (.int (1 : Int32)), .val (.int (1 : Int32)), .unset] [.null])) _
    refine XS.ifnonnullNo X8.here hx rfl (hb hby at_104) rfl ?_
    show Steps p.tables e below (T8.setTop (mkF m 107 #[.val (.int p0), .val (.int p1), .val (.int p2), .val .null, .val (.ref b2_0), .val (.ref b3), .val (.int (0 : Int32)), .val (.int (1 : Int32)), .val (.int (0 : Int32)), .val (.int (1 : Int32)), .val (.int (1 : Int32)), .unset] [])) _
    refine XS.iconst X8.here hx rfl (hb hby at_107) ?_
    show Steps p.tables e below (T8.setTop (mkF m 108 #[.val (.int p0), .val (.int p1), .val (.int p2), .val .null, .val (.ref b2_0), .val (.ref b3), .val (.int (0 : Int32)), .val (.int (1 : Int32)), .val (.int (0 : Int32)), .val (.int (1 : Int32)), .val (.int (1 : Int32)), .unset] [(.int (1 : Int32))])) _
    refine XS.goto X8.here hx rfl (pc0 := 108) (pc' := 112) rfl (hb hby at_108) (by decide) (by decide) ?_
    show Steps p.tables e below (T8.setTop (mkF m 112 #[.val (.int p0), .val (.int p1), .val (.int p2), .val .null, .val (.ref b2_0), .val (.ref b3), .val (.int (0 : Int32)), .val (.int (1 : Int32)), .val (.int (0 : Int32)), .val (.int (1 : Int32)), .val (.int (1 : Int32)), .unset] [(.int (1 : Int32))])) _
    refine XS.istore X8.here hx rfl (hb hby at_112) rfl (l' := #[.val (.int p0), .val (.int p1), .val (.int p2), .val .null, .val (.ref b2_0), .val (.ref b3), .val (.int (0 : Int32)), .val (.int (1 : Int32)), .val (.int (0 : Int32)), .val (.int (1 : Int32)), .val (.int (1 : Int32)), .val (.int (1 : Int32))]) rfl ?_
    show Steps p.tables e below (T8.setTop (mkF m 114 #[.val (.int p0), .val (.int p1), .val (.int p2), .val .null, .val (.ref b2_0), .val (.ref b3), .val (.int (0 : Int32)), .val (.int (1 : Int32)), .val (.int (0 : Int32)), .val (.int (1 : Int32)), .val (.int (1 : Int32)), .val (.int (1 : Int32))] [])) _
    refine XS.iload X8.here hx rfl (hb hby at_114) rfl ?_
    show Steps p.tables e below (T8.setTop (mkF m 116 #[.val (.int p0), .val (.int p1), .val (.int p2), .val .null, .val (.ref b2_0), .val (.ref b3), .val (.int (0 : Int32)), .val (.int (1 : Int32)), .val (.int (0 : Int32)), .val (.int (1 : Int32)), .val (.int (1 : Int32)), .val (.int (1 : Int32))] [(.int (0 : Int32))])) _
    refine XS.ifNo X8.here hx rfl (hb hby at_116) rfl ((if0 _ _).trans (teq (by decide : (0 : Int32) = (0 : Int32))).2) ?_
    show Steps p.tables e below (T8.setTop (mkF m 119 #[.val (.int p0), .val (.int p1), .val (.int p2), .val .null, .val (.ref b2_0), .val (.ref b3), .val (.int (0 : Int32)), .val (.int (1 : Int32)), .val (.int (0 : Int32)), .val (.int (1 : Int32)), .val (.int (1 : Int32)), .val (.int (1 : Int32))] [])) _
    refine XS.iload X8.here hx rfl (hb hby at_119) rfl ?_
    show Steps p.tables e below (T8.setTop (mkF m 121 #[.val (.int p0), .val (.int p1), .val (.int p2), .val .null, .val (.ref b2_0), .val (.ref b3), .val (.int (0 : Int32)), .val (.int (1 : Int32)), .val (.int (0 : Int32)), .val (.int (1 : Int32)), .val (.int (1 : Int32)), .val (.int (1 : Int32))] [(.int (1 : Int32))])) _
    refine XS.iload X8.here hx rfl (hb hby at_121) rfl ?_
    show Steps p.tables e below (T8.setTop (mkF m 123 #[.val (.int p0), .val (.int p1), .val (.int p2), .val .null, .val (.ref b2_0), .val (.ref b3), .val (.int (0 : Int32)), .val (.int (1 : Int32)), .val (.int (0 : Int32)), .val (.int (1 : Int32)), .val (.int (1 : Int32)), .val (.int (1 : Int32))] [(.int (1 : Int32)), (.int (1 : Int32))])) _
    refine XS.icmpNo X8.here hx rfl (hb hby at_123) rfl (teq (by decide : (1 : Int32) = (1 : Int32))).2 ?_
    show Steps p.tables e below (T8.setTop (mkF m 126 #[.val (.int p0), .val (.int p1), .val (.int p2), .val .null, .val (.ref b2_0), .val (.ref b3), .val (.int (0 : Int32)), .val (.int (1 : Int32)), .val (.int (0 : Int32)), .val (.int (1 : Int32)), .val (.int (1 : Int32)), .val (.int (1 : Int32))] [])) _
    refine XS.iload X8.here hx rfl (hb hby at_126) rfl ?_
    show Steps p.tables e below (T8.setTop (mkF m 128 #[.val (.int p0), .val (.int p1), .val (.int p2), .val .null, .val (.ref b2_0), .val (.ref b3), .val (.int (0 : Int32)), .val (.int (1 : Int32)), .val (.int (0 : Int32)), .val (.int (1 : Int32)), .val (.int (1 : Int32)), .val (.int (1 : Int32))] [(.int (1 : Int32))])) _
    refine XS.iload X8.here hx rfl (hb hby at_128) rfl ?_
    show Steps p.tables e below (T8.setTop (mkF m 130 #[.val (.int p0), .val (.int p1), .val (.int p2), .val .null, .val (.ref b2_0), .val (.ref b3), .val (.int (0 : Int32)), .val (.int (1 : Int32)), .val (.int (0 : Int32)), .val (.int (1 : Int32)), .val (.int (1 : Int32)), .val (.int (1 : Int32))] [(.int (1 : Int32)), (.int (1 : Int32))])) _
    refine XS.icmpNo X8.here hx rfl (hb hby at_130) rfl (teq (by decide : (1 : Int32) = (1 : Int32))).2 ?_
    show Steps p.tables e below (T8.setTop (mkF m 133 #[.val (.int p0), .val (.int p1), .val (.int p2), .val .null, .val (.ref b2_0), .val (.ref b3), .val (.int (0 : Int32)), .val (.int (1 : Int32)), .val (.int (0 : Int32)), .val (.int (1 : Int32)), .val (.int (1 : Int32)), .val (.int (1 : Int32))] [])) _
    refine XS.iconst X8.here hx rfl (hb hby at_133) ?_
    show Steps p.tables e below (T8.setTop (mkF m 134 #[.val (.int p0), .val (.int p1), .val (.int p2), .val .null, .val (.ref b2_0), .val (.ref b3), .val (.int (0 : Int32)), .val (.int (1 : Int32)), .val (.int (0 : Int32)), .val (.int (1 : Int32)), .val (.int (1 : Int32)), .val (.int (1 : Int32))] [(.int (1 : Int32))])) _
    refine XS.goto X8.here hx rfl (pc0 := 134) (pc' := 138) rfl (hb hby at_134) (by decide) (by decide) ?_
    show Steps p.tables e below (T8.setTop (mkF m 138 #[.val (.int p0), .val (.int p1), .val (.int p2), .val .null, .val (.ref b2_0), .val (.ref b3), .val (.int (0 : Int32)), .val (.int (1 : Int32)), .val (.int (0 : Int32)), .val (.int (1 : Int32)), .val (.int (1 : Int32)), .val (.int (1 : Int32))] [(.int (1 : Int32))])) _
    exact retN X8 hx (t := .boolean) Bd.returns (by simp) (hb hby at_138) hr
  · show OL (some (.int (1 : Int32))) Z.heap.size _ T8.heap _
    exact ⟨rfl, N8⟩
set_option maxRecDepth 65536 in
set_option maxHeartbeats 40000000 in
theorem rm_13 (l : Launch) (Z : State) (a0 : Array Value) (hw : ∀ d ∈ tables_1, d.before a0 Z = true) (w : Nat → Addr) (kk : Nat → ClassId) (iw : Nat → Int32) (vw : Nat → Value) (hN : Wd Z w kk iw vw) (ws : List Jvm.Cond) (o1 : Addr) (o2 : Addr) (o3 : Addr) (t0 : Int32) (kc_o3 : ClassId) (h0 : Heap) (O0 : Old Z Z.heap.size h0) (gn_o1 : Z.heap.size ≤ o1) (lt_o1 : o1 < h0.size) (E_o1 : Exa Z h0 o1 "com/example/netloom/netloom/xml/NetReader$OpenAnnotations") (gn_o2 : Z.heap.size ≤ o2) (lt_o2 : o2 < h0.size) (F_o1_owner : Fld Z h0 o1 "com/example/netloom/netloom/xml/NetReader$OpenAnnotations" "owner" "Ljava/lang/String;" (.ref o2)) (F_o1_form : Fld Z h0 o1 "com/example/netloom/netloom/xml/NetReader$OpenAnnotations" "form" "Lcom/example/netloom/netloom/xml/XmlGraphics$Form;" .null) (F_o1_carries : Fld Z h0 o1 "com/example/netloom/netloom/xml/NetReader$OpenAnnotations" "carries" "Ljava/util/Set;" .null) (F_o1_graphicsCarried : Fld Z h0 o1 "com/example/netloom/netloom/xml/NetReader$OpenAnnotations" "graphicsCarried" "Z" (.int (1 : Int32))) (F_o1_graphics : Fld Z h0 o1 "com/example/netloom/netloom/xml/NetReader$OpenAnnotations" "graphics" "Lcom/example/netloom/netloom/net/Graphics;" .null) (E_o2 : Exa Z h0 o2 "java/lang/String") (gn_o3 : Z.heap.size ≤ o3) (lt_o3 : o3 < h0.size) (F_o2_value : Fld Z h0 o2 "java/lang/String" "value" "[B" (.ref o3)) (F_o2_coder : Fld Z h0 o2 "java/lang/String" "coder" "B" (.int (0 : Int32))) (V_o3 : Arv Z h0 o3 kc_o3 .byte (1 : Int32) [(.int t0)] (.int (0 : Int32))) (ne_o1_o2 : o1 ≠ o2) (ne_o1_o3 : o1 ≠ o3) (ne_o2_o3 : o2 ≠ o3) :
    MetFree l (⟨"com/example/netloom/netloom/xml/NetReader$OpenAnnotations", "carryGraphics", "()V"⟩ : MethodName) (head1 (Jvm.Cond.code (⟨"com/example/netloom/netloom/xml/NetReader$OpenAnnotations", "carryGraphics", "()V"⟩ : MethodName) prog_77_method_2_code 1 none :: ws) ({ frames := 0, cells := 0, slots := 0, locals := 0 } : Room)) (fun a U => a = #[(.ref o1)] ∧ Z.Warmed39 U.vm ∧ U.heap = h0) (fun _ _ _ _ _ => True) (fun _ U o U' => ∃ v L, o = .returned v ∧ Qd_4 Z w kk iw vw o1 o2 o3 t0 kc_o3 h0 Z.heap.size v U'.heap L ∧ FrameEnd U o U' L ({ frames := 0, cells := 0, slots := 0, locals := 0 } : Room).cells ({ frames := 0, cells := 0, slots := 0, locals := 0 } : Room).slots) := by
  have hN' := hN
  obtain ⟨hS0, hE0, hS1, hE1, hS2, hE2, hI0, hJ0, hR0, hRr0⟩ := hN'
  refine MetFree.of_bodySF (plainFor_of_name pn_3) hisR ?_
  intro p e s m args below meth c s₁ Bd hml0 hP hK
  obtain ⟨rfl, hZ, hh⟩ := hP
  have hx := Bd.exec
  have hby := Bd.bytes
  have hml : c.maxLocals = 1 := hml0
  have hown : s.vm.findClass "com/example/netloom/netloom/xml/NetReader$OpenAnnotations" = some m.cls := findClass_of_methodNamed Bd.named
  have hnm := (name_of_methodNamed Bd.named Bd.method).1
  have X0 : Stand p l e ({ frames := 0, cells := 0, slots := 0, locals := 0 } : Room) s m #[(.ref o1)] below meth c s₁ [] 0 0 := Stand.of_body Bd
  have e0 : s₁.heap = h0 := by rw [← hh, Bd.state]; rfl
  have N0 := Fr.nil Z.heap.size
  have pre0 : ∀ t, Steps p.tables e below (s₁.setTop (mkF m 0 #[.val (.ref o1)] [])) t → Steps p.tables e below (s₁.setTop (entryFrame m #[(.ref o1)] 1)) t := fun t k => castTop (ef_3 m (.ref o1) rfl) k
  have K0 : Keep h0 h0 [o1] := Keep.refl _ _
  obtain ⟨T1, h1, X1, e1, W1, st1⟩ := putFN X0 hx hZ hown (W hw 51 rfl) Via.refl e0 F_o1_graphicsCarried E_o1 (Or.inl (W hw 52 rfl)) (W hw 34 rfl) (ty := .boolean) (v' := (.int (1 : Int32))) (by decide) rfl rfl (g := (mkF m 2 #[.val (.ref o1)] [(.int (1 : Int32)), (.ref o1)])) rfl rfl (hb hby d_prog_77_method_2_code_2)
  have F_o1_graphicsCarried_v1 := F_o1_graphicsCarried.same W1
  have N1 := Fr.snoc X1 N0 gn_o1
  have E_o1_v1 := E_o1.wr W1
  have F_o1_owner_v1 := F_o1_owner.other W1 (Or.inr (sn_14 hw))
  have F_o1_form_v1 := F_o1_form.other W1 (Or.inr (sn_15 hw))
  have F_o1_carries_v1 := F_o1_carries.other W1 (Or.inr (sn_16 hw))
  have F_o1_graphics_v1 := F_o1_graphics.other W1 (Or.inr (sn_17 hw))
  have E_o2_v1 := E_o2.wr W1
  have F_o2_value_v1 := F_o2_value.other W1 (Or.inl (Ne.symm ne_o1_o2))
  have F_o2_coder_v1 := F_o2_coder.other W1 (Or.inl (Ne.symm ne_o1_o2))
  have V_o3_v1 := V_o3.other W1 (Ne.symm ne_o1_o3)
  have O1 := O0.wr W1 gn_o1
  have K1 : Keep h0 h1 [o1] := K0.wr W1 (Or.inl (List.mem_of_getElem? (i := 0) rfl))
  obtain ⟨fs, hr, hrun, hended, hW, hsame⟩ := X1.leave (v := none) (fun _ => rfl)
  refine ⟨_, _, pre0 _ ?_, hrun, hended, _, _, rfl, ?_, ⟨_, rfl⟩, hW, hsame.mono (by decide) (by decide)⟩
  · show Steps p.tables e below (s₁.setTop (mkF m 0 #[.val (.ref o1)] [])) _
    refine XS.aloadN X0.here hx rfl (hb hby d_prog_77_method_2_code_0) rfl rfl ?_
    show Steps p.tables e below (s₁.setTop (mkF m 1 #[.val (.ref o1)] [(.ref o1)])) _
    refine XS.iconst X0.here hx rfl (hb hby d_prog_77_method_2_code_1) ?_
    show Steps p.tables e below (s₁.setTop (mkF m 2 #[.val (.ref o1)] [(.int (1 : Int32)), (.ref o1)])) _
    refine st1 _ ?_
    show Steps p.tables e below (T1.setTop (mkF m 5 #[.val (.ref o1)] [])) _
    exact X1.returnOut hx Bd.returns (hb hby d_prog_77_method_2_code_5) hr
  · show Qd_4 Z w kk iw vw o1 o2 o3 t0 kc_o3 h0 Z.heap.size _ T1.heap _
    rw [e1]
    exact ⟨rfl, N1, K1, E_o1_v1, F_o1_owner_v1, F_o1_form_v1, F_o1_carries_v1, F_o1_graphicsCarried_v1, F_o1_graphics_v1⟩
set_option maxRecDepth 65536 in
set_option maxHeartbeats 40000000 in
theorem law_14 (l : Launch) (Z : State) (a0 : Array Value) (hw : ∀ d ∈ tables_1, d.before a0 Z = true) (w : Nat → Addr) (kk : Nat → ClassId) (iw : Nat → Int32) (vw : Nat → Value) (hN : Wd Z w kk iw vw) (ws : List Jvm.Cond) (p0 : Int32) (p1 : Int32) (p2 : Int32) (h0 : Heap) (O0 : Old Z Z.heap.size h0) (hp0 : (p1 &&& (3 : Int32)) = (0 : Int32)) (hp1 : ¬ ((255 : Int32) < ((p2 &&& (255 : Int32)).toUInt32.toUInt16.toUInt32.toInt32))) (hp2 : (p0 &&& (1 : Int32)) = (1 : Int32)) (hp3 : ¬ ((p0 &&& (2 : Int32)) = (0 : Int32))) :
    MetFree l x (head1 (Jvm.Cond.code x code maxLocals ret :: ws) room_1) (fun a U => a = #[(.int p0), (.int p1), (.int p2)] ∧ Z.Warmed39 U.vm ∧ U.heap = h0) (fun _ _ _ _ _ => True) (fun _ U o U' => ∃ v L, o = .returned v ∧ OL (some (.int (1 : Int32))) Z.heap.size v U'.heap L ∧ FrameEnd U o U' L 16 128) := by
  have hN' := hN
  obtain ⟨hS0, hE0, hS1, hE1, hS2, hE2, hI0, hJ0, hR0, hRr0⟩ := hN'
  refine MetFree.of_bodySF (plainFor_of_name pn_0) hisR ?_
  intro p e s m args below meth c s₁ Bd hml0 hP hK
  obtain ⟨rfl, hZ, hh⟩ := hP
  have hx := Bd.exec
  have hby := Bd.bytes
  have hml : c.maxLocals = 12 := hml0
  have hown : s.vm.findClass "com/example/netloom/netloom/xml/OpenAnnotationsCarriesGraphicsPinLaw" = some m.cls := findClass_of_methodNamed Bd.named
  have hnm := (name_of_methodNamed Bd.named Bd.method).1
  have X0 : Stand p l e room_1 s m #[(.int p0), (.int p1), (.int p2)] below meth c s₁ [] 0 0 := Stand.of_body Bd
  have e0 : s₁.heap = h0 := by rw [← hh, Bd.state]; rfl
  have N0 := Fr.nil Z.heap.size
  have pre0 : ∀ t, Steps p.tables e below (s₁.setTop (mkF m 0 #[.val (.int p0), .val (.int p1), .val (.int p2), .unset, .unset, .unset, .unset, .unset, .unset, .unset, .unset, .unset] [])) t → Steps p.tables e below (s₁.setTop (entryFrame m #[(.int p0), (.int p1), (.int p2)] maxLocals)) t := fun t k => castTop (ef_4 m (.int p0) rfl (.int p1) rfl (.int p2) rfl) k
  obtain ⟨_, _, ⟨T1, L1, k1, n1⟩, -, X1, ⟨Lc1, hQ1, l1, y1, z1⟩, st1⟩ := Jvm.LawKit.callS X0 hx (y := (⟨"com/example/netloom/netloom/xml/OpenAnnotationsCarriesGraphicsPinLaw", "pick", "(I)Lcom/example/netloom/netloom/xml/XmlGraphics$Form;"⟩ : MethodName)) hown (mvT hZ (W hw 0 rfl)) (mvT hZ (W hw 1 rfl)) (mvT hZ (W hw 2 rfl)) (mvT hZ (W hw 3 rfl)) (by decide) (backOf (W := 0) (rm_1 l Z a0 hw w kk iw vw hN [] h0 O0) hZ (W hw 3 rfl) (W hw 2 rfl) (by decide) (by decide)) (g := (mkF m 3 #[.val (.int p0), .val (.int p1), .val (.int p2), .unset, .unset, .unset, .unset, .unset, .unset, .unset, .unset, .unset] [(.int (0 : Int32))])) rfl (by rw [hml]; rfl) (argsL := [(.int (0 : Int32))]) (rest := []) (lenOf pd_0 rfl) rfl (by show 2 * 0 + _ ≤ _; exact Nat.le_of_eq rfl) (hb hby at_3) (fun _ _ => ⟨rfl, e0, (by decide : 0 + 0 ≤ _), (by decide : 0 + 0 ≤ _)⟩)
  dsimp only [Pt.U, Pt.locs, Pt.cells, Pt.slots] at X1 l1 y1 z1 st1 hQ1
  subst l1 y1 z1
  obtain ⟨rfl, N1q, e1⟩ := hQ1
  have N1 := Fr.app N0 N1q
  obtain ⟨_, _, ⟨T2, L2, k2, n2⟩, -, X2, ⟨Lc2, hQ2, l2, y2, z2⟩, st2⟩ := Jvm.LawKit.callS X1 hx (y := (⟨"java/lang/String", "valueOf", "(C)Ljava/lang/String;"⟩ : MethodName)) hown (mvT hZ (W hw 7 rfl)) (mvT hZ (W hw 8 rfl)) (mvT hZ (W hw 9 rfl)) (mvT hZ (W hw 10 rfl)) (by decide) (backOf (W := 0) (rm_5 l Z a0 hw w kk iw vw hN [] ((p2 &&& (255 : Int32)).toUInt32.toUInt16.toUInt32.toInt32) h0 O0 hp1) hZ (W hw 10 rfl) (W hw 9 rfl) (by decide) (by decide)) (g := (mkF m 13 #[.val (.int p0), .val (.int p1), .val (.int p2), .val .null, .unset, .unset, .unset, .unset, .unset, .unset, .unset, .unset] [(.int ((p2 &&& (255 : Int32)).toUInt32.toUInt16.toUInt32.toInt32))])) rfl (by rw [hml]; rfl) (argsL := [(.int ((p2 &&& (255 : Int32)).toUInt32.toUInt16.toUInt32.toInt32))]) (rest := []) (lenOf pd_4 rfl) rfl (by show 2 * 0 + _ ≤ _; exact Nat.le_of_eq rfl) (hb hby at_13) (fun _ _ => ⟨rfl, e1, (by decide : 0 + 2 ≤ _), (by decide : 0 + 5 ≤ _)⟩)
  dsimp only [Pt.U, Pt.locs, Pt.cells, Pt.slots] at X2 l2 y2 z2 st2 hQ2
  subst l2 y2 z2
  obtain ⟨b2_0, b2_1, kb2_0, rfl, N2q, Kq2, tk2_0, tk2_1, tk2_2, tk2_3, tk2_4, tk2_5, tk2_6⟩ := hQ2
  have N2 := Fr.app N1 N2q
  have gn_b2_0 : Z.heap.size ≤ b2_0 := Nat.le_trans O0.2.1 tk2_0
  have gn_b2_1 : Z.heap.size ≤ b2_1 := Nat.le_trans O0.2.1 tk2_1
  have O2 := O0.keep Kq2 all0
  obtain ⟨T3, h3, X3, e3, E3, A3, D3, -, st3⟩ := newO X2 hx hZ hown (W hw 33 rfl) (W hw 34 rfl) (W hw 35 rfl) rfl (g := (mkF m 18 #[.val (.int p0), .val (.int p1), .val (.int p2), .val .null, .val (.ref b2_0), .unset, .unset, .unset, .unset, .unset, .unset, .unset] [])) rfl (hb hby at_18) (by decide) (by decide)
  obtain ⟨b3, g3⟩ : ∃ z, z = T2.heap.size := ⟨_, rfl⟩
  rw [← g3] at A3 st3 D3
  have gn_b3 : Z.heap.size ≤ b3 := Nat.le_trans O2.2.1 (Nat.le_of_eq g3.symm)
  have ne_b2_1_b3 : b2_1 ≠ b3 := Nat.ne_of_lt (Nat.lt_of_lt_of_le tk2_6.lt (Nat.le_of_eq g3.symm))
  have ne_b2_0_b3 : b2_0 ≠ b3 := Nat.ne_of_lt (Nat.lt_of_lt_of_le tk2_3.lt (Nat.le_of_eq g3.symm))
  have tk2_3_v3 := tk2_3.ext E3
  have tk2_4_v3 := tk2_4.ext E3
  have tk2_5_v3 := tk2_5.ext E3
  have tk2_6_v3 := tk2_6.ext E3
  have O3 := O2.ext E3
  have E_b3_v3 := A3
  have F_b3_owner_v3 : Fld Z h3 b3 "com/example/netloom/netloom/xml/NetReader$OpenAnnotations" "owner" "Ljava/lang/String;" .null := D3 (Or.inr (W hw 41 rfl)) (ty := (.object "java/lang/String")) (by decide)
  have F_b3_form_v3 : Fld Z h3 b3 "com/example/netloom/netloom/xml/NetReader$OpenAnnotations" "form" "Lcom/example/netloom/netloom/xml/XmlGraphics$Form;" .null := D3 (Or.inr (W hw 43 rfl)) (ty := (.object "com/example/netloom/netloom/xml/XmlGraphics$Form")) (by decide)
  have F_b3_carries_v3 : Fld Z h3 b3 "com/example/netloom/netloom/xml/NetReader$OpenAnnotations" "carries" "Ljava/util/Set;" .null := D3 (Or.inr (W hw 45 rfl)) (ty := (.object "java/util/Set")) (by decide)
  have F_b3_graphicsCarried_v3 : Fld Z h3 b3 "com/example/netloom/netloom/xml/NetReader$OpenAnnotations" "graphicsCarried" "Z" (.int (0 : Int32)) := D3 (Or.inl (W hw 52 rfl)) (ty := .boolean) (by decide)
  have F_b3_graphics_v3 : Fld Z h3 b3 "com/example/netloom/netloom/xml/NetReader$OpenAnnotations" "graphics" "Lcom/example/netloom/netloom/net/Graphics;" .null := D3 (Or.inl (W hw 59 rfl)) (ty := (.object "com/example/netloom/netloom/net/Graphics")) (by decide)
  obtain ⟨_, _, ⟨T4, L4, k4, n4⟩, -, X4, ⟨Lc4, hQ4, l4, y4, z4⟩, st4⟩ := X3.specialBack hx (y := (⟨"com/example/netloom/netloom/xml/NetReader$OpenAnnotations", "<init>", "(Ljava/lang/String;Lcom/example/netloom/netloom/xml/XmlGraphics$Form;Ljava/util/Set;)V"⟩ : MethodName)) rfl hown (mvT hZ (W hw 36 rfl)) (mvT hZ (W hw 37 rfl)) (mvT hZ (W hw 38 rfl)) (by decide) (backOf (W := 1) (rm_6 l Z a0 hw w kk iw vw hN [] b3 b2_0 b2_1 ((((p2 &&& (255 : Int32)).toUInt32.toUInt16.toUInt32.toInt32).toInt8.toInt32).toInt8.toInt32) kb2_0 h3 O3 gn_b3 E_b3_v3.lt gn_b2_0 tk2_3_v3.lt E_b3_v3 F_b3_owner_v3 F_b3_form_v3 F_b3_carries_v3 F_b3_graphicsCarried_v3 F_b3_graphics_v3 tk2_3_v3 gn_b2_1 tk2_6_v3.lt tk2_4_v3 tk2_5_v3 tk2_6_v3 (Ne.symm ne_b2_0_b3) (Ne.symm ne_b2_1_b3) tk2_2) hZ (W hw 38 rfl) (W hw 35 rfl) (by decide) (by decide)) (g := (mkF m 26 #[.val (.int p0), .val (.int p1), .val (.int p2), .val .null, .val (.ref b2_0), .unset, .unset, .unset, .unset, .unset, .unset, .unset] [.null, .null, (.ref b2_0), (.ref b3), (.ref b3)])) rfl (by rw [hml]; rfl) (Steps.refl _) (a := b3) (argsL := [(.ref b2_0), .null, .null]) (rest := [(.ref b3)]) (lenOf pd_5 rfl) rfl (by show 2 * 0 + _ ≤ _; exact Nat.le_of_eq rfl) (hb hby at_26) (fun _ _ => ⟨rfl, e3, (by decide : 3 + 0 ≤ _), (by decide : 16 + 0 ≤ _)⟩)
  dsimp only [Pt.U, Pt.locs, Pt.cells, Pt.slots] at X4 l4 y4 z4 st4 hQ4
  subst l4 y4 z4
  obtain ⟨rfl, N4q, Kq4, tk4_0, tk4_1, tk4_2, tk4_3, tk4_4, tk4_5⟩ := hQ4
  have N4 := Fr.app N2 N4q
  have tk2_3_v4 := tk2_3_v3.keep Kq4
  have tk2_4_v4 := tk2_4_v3.keep Kq4 (ninS ne_b2_0_b3 nin0)
  have tk2_5_v4 := tk2_5_v3.keep Kq4 (ninS ne_b2_0_b3 nin0)
  have tk2_6_v4 := tk2_6_v3.keep Kq4 (ninS ne_b2_1_b3 nin0)
  have E_b3_v4 := E_b3_v3.keep Kq4
  have O4 := O3.keep Kq4 (allS gn_b3 all0)
  obtain ⟨cq5, kq5, q5a, q5b, q5c⟩ := isOf hZ rfl tk4_0
  obtain ⟨_, _, ⟨T5, L5, k5, n5⟩, -, X5, ⟨Lc5, hQ5, l5, y5, z5⟩, st5⟩ := X4.virtualBack hx (y := (⟨"com/example/netloom/netloom/xml/NetReader$OpenAnnotations", "carriesGraphics", "()Z"⟩ : MethodName)) (z := (⟨"com/example/netloom/netloom/xml/NetReader$OpenAnnotations", "carriesGraphics", "()Z"⟩ : MethodName)) hown (mvT hZ (W hw 46 rfl)) (mvT hZ (W hw 47 rfl)) (notFace_of_selects (args := #[]) (mvT hZ (W hw 49 rfl))) (mvT hZ (W hw 49 rfl)) (mvT hZ (W hw 48 rfl)) (by decide) (backOf (W := 0) (rm_7 l Z a0 hw w kk iw vw hN [] b3 b2_0 b2_1 ((((p2 &&& (255 : Int32)).toUInt32.toUInt16.toUInt32.toInt32).toInt8.toInt32).toInt8.toInt32) kb2_0 T4.heap O4 gn_b3 tk4_0.lt tk4_0 gn_b2_0 tk2_3_v4.lt tk4_1 tk4_2 tk4_3 tk4_4 tk4_5 tk2_3_v4 gn_b2_1 tk2_6_v4.lt tk2_4_v4 tk2_5_v4 tk2_6_v4 (Ne.symm ne_b2_0_b3) (Ne.symm ne_b2_1_b3) tk2_2) hZ (W hw 50 rfl) (W hw 35 rfl) (by decide) (by decide)) q5a q5c (g := (mkF m 33 #[.val (.int p0), .val (.int p1), .val (.int p2), .val .null, .val (.ref b2_0), .val (.ref b3), .unset, .unset, .unset, .unset, .unset, .unset] [(.ref b3)])) rfl (by rw [hml]; rfl) (Steps.refl _) (argsL := []) (rest := []) (lenOf pd_6 rfl) rfl (by show 2 * 0 + _ ≤ _; exact Nat.le_of_eq rfl) (hb hby at_33) (fun _ _ => ⟨rfl, rfl, (by decide : 3 + 0 ≤ _), (by decide : 16 + 0 ≤ _)⟩)
  dsimp only [Pt.U, Pt.locs, Pt.cells, Pt.slots] at X5 l5 y5 z5 st5 hQ5
  subst l5 y5 z5
  obtain ⟨rfl, N5q, e5⟩ := hQ5
  have N5 := Fr.app N4 N5q
  obtain ⟨cq6, kq6, q6a, q6b, q6c⟩ := isOf hZ e5 tk4_0
  obtain ⟨_, _, ⟨T6, L6, k6, n6⟩, -, X6, ⟨Lc6, hQ6, l6, y6, z6⟩, st6⟩ := X5.virtualBack hx (y := (⟨"com/example/netloom/netloom/xml/NetReader$OpenAnnotations", "carryGraphics", "()V"⟩ : MethodName)) (z := (⟨"com/example/netloom/netloom/xml/NetReader$OpenAnnotations", "carryGraphics", "()V"⟩ : MethodName)) hown (mvT hZ (W hw 53 rfl)) (mvT hZ (W hw 54 rfl)) (notFace_of_selects (args := #[]) (mvT hZ (W hw 56 rfl))) (mvT hZ (W hw 56 rfl)) (mvT hZ (W hw 55 rfl)) (by decide) (backOf (W := 0) (rm_10 l Z a0 hw w kk iw vw hN [] b3 b2_0 b2_1 ((((p2 &&& (255 : Int32)).toUInt32.toUInt16.toUInt32.toInt32).toInt8.toInt32).toInt8.toInt32) kb2_0 T4.heap O4 gn_b3 tk4_0.lt tk4_0 gn_b2_0 tk2_3_v4.lt tk4_1 tk4_2 tk4_3 tk4_4 tk4_5 tk2_3_v4 gn_b2_1 tk2_6_v4.lt tk2_4_v4 tk2_5_v4 tk2_6_v4 (Ne.symm ne_b2_0_b3) (Ne.symm ne_b2_1_b3) tk2_2) hZ (W hw 57 rfl) (W hw 35 rfl) (by decide) (by decide)) q6a q6c (g := (mkF m 71 #[.val (.int p0), .val (.int p1), .val (.int p2), .val .null, .val (.ref b2_0), .val (.ref b3), .val (.int (0 : Int32)), .val (.int (1 : Int32)), .val (.int (1 : Int32)), .unset, .unset, .unset] [(.ref b3)])) rfl (by rw [hml]; rfl) (Steps.refl _) (argsL := []) (rest := []) (lenOf pd_7 rfl) rfl (by show 2 * 0 + _ ≤ _; exact Nat.le_of_eq rfl) (hb hby at_71) (fun _ _ => ⟨rfl, e5, (by decide : 3 + 0 ≤ _), (by decide : 16 + 0 ≤ _)⟩)
  dsimp only [Pt.U, Pt.locs, Pt.cells, Pt.slots] at X6 l6 y6 z6 st6 hQ6
  subst l6 y6 z6
  obtain ⟨rfl, N6q, Kq6, tk6_0, tk6_1, tk6_2, tk6_3, tk6_4, tk6_5⟩ := hQ6
  have N6 := Fr.app N5 N6q
  have tk2_3_v6 := tk2_3_v4.keep Kq6
  have tk2_4_v6 := tk2_4_v4.keep Kq6 (ninS ne_b2_0_b3 nin0)
  have tk2_5_v6 := tk2_5_v4.keep Kq6 (ninS ne_b2_0_b3 nin0)
  have tk2_6_v6 := tk2_6_v4.keep Kq6 (ninS ne_b2_1_b3 nin0)
  have tk4_0_v6 := tk4_0.keep Kq6
  have O6 := O4.keep Kq6 (allS gn_b3 all0)
  obtain ⟨cq7, kq7, q7a, q7b, q7c⟩ := isOf hZ rfl tk6_0
  obtain ⟨_, _, ⟨T7, L7, k7, n7⟩, -, X7, ⟨Lc7, hQ7, l7, y7, z7⟩, st7⟩ := X6.virtualBack hx (y := (⟨"com/example/netloom/netloom/xml/NetReader$OpenAnnotations", "carryGraphics", "()V"⟩ : MethodName)) (z := (⟨"com/example/netloom/netloom/xml/NetReader$OpenAnnotations", "carryGraphics", "()V"⟩ : MethodName)) hown (mvT hZ (W hw 53 rfl)) (mvT hZ (W hw 54 rfl)) (notFace_of_selects (args := #[]) (mvT hZ (W hw 56 rfl))) (mvT hZ (W hw 56 rfl)) (mvT hZ (W hw 55 rfl)) (by decide) (backOf (W := 0) (rm_13 l Z a0 hw w kk iw vw hN [] b3 b2_0 b2_1 ((((p2 &&& (255 : Int32)).toUInt32.toUInt16.toUInt32.toInt32).toInt8.toInt32).toInt8.toInt32) kb2_0 T6.heap O6 gn_b3 tk6_0.lt tk6_0 gn_b2_0 tk2_3_v6.lt tk6_1 tk6_2 tk6_3 tk6_4 tk6_5 tk2_3_v6 gn_b2_1 tk2_6_v6.lt tk2_4_v6 tk2_5_v6 tk2_6_v6 (Ne.symm ne_b2_0_b3) (Ne.symm ne_b2_1_b3) tk2_2) hZ (W hw 57 rfl) (W hw 35 rfl) (by decide) (by decide)) q7a q7c (g := (mkF m 81 #[.val (.int p0), .val (.int p1), .val (.int p2), .val .null, .val (.ref b2_0), .val (.ref b3), .val (.int (0 : Int32)), .val (.int (1 : Int32)), .val (.int (1 : Int32)), .unset, .unset, .unset] [(.ref b3)])) rfl (by rw [hml]; rfl) (Steps.refl _) (argsL := []) (rest := []) (lenOf pd_7 rfl) rfl (by show 2 * 0 + _ ≤ _; exact Nat.le_of_eq rfl) (hb hby at_81) (fun _ _ => ⟨rfl, rfl, (by decide : 3 + 0 ≤ _), (by decide : 16 + 0 ≤ _)⟩)
  dsimp only [Pt.U, Pt.locs, Pt.cells, Pt.slots] at X7 l7 y7 z7 st7 hQ7
  subst l7 y7 z7
  obtain ⟨rfl, N7q, Kq7, tk7_0, tk7_1, tk7_2, tk7_3, tk7_4, tk7_5⟩ := hQ7
  have N7 := Fr.app N6 N7q
  have tk2_3_v7 := tk2_3_v6.keep Kq7
  have tk2_4_v7 := tk2_4_v6.keep Kq7 (ninS ne_b2_0_b3 nin0)
  have tk2_5_v7 := tk2_5_v6.keep Kq7 (ninS ne_b2_0_b3 nin0)
  have tk2_6_v7 := tk2_6_v6.keep Kq7 (ninS ne_b2_1_b3 nin0)
  have tk6_0_v7 := tk6_0.keep Kq7
  have O7 := O6.keep Kq7 (allS gn_b3 all0)
  obtain ⟨cq8, kq8, q8a, q8b, q8c⟩ := isOf hZ rfl tk7_0
  obtain ⟨_, _, ⟨T8, L8, k8, n8⟩, -, X8, ⟨Lc8, hQ8, l8, y8, z8⟩, st8⟩ := X7.virtualBack hx (y := (⟨"com/example/netloom/netloom/xml/NetReader$OpenAnnotations", "carriesGraphics", "()Z"⟩ : MethodName)) (z := (⟨"com/example/netloom/netloom/xml/NetReader$OpenAnnotations", "carriesGraphics", "()Z"⟩ : MethodName)) hown (mvT hZ (W hw 46 rfl)) (mvT hZ (W hw 47 rfl)) (notFace_of_selects (args := #[]) (mvT hZ (W hw 49 rfl))) (mvT hZ (W hw 49 rfl)) (mvT hZ (W hw 48 rfl)) (by decide) (backOf (W := 0) (rm_11 l Z a0 hw w kk iw vw hN [] b3 b2_0 b2_1 ((((p2 &&& (255 : Int32)).toUInt32.toUInt16.toUInt32.toInt32).toInt8.toInt32).toInt8.toInt32) kb2_0 T7.heap O7 gn_b3 tk7_0.lt tk7_0 gn_b2_0 tk2_3_v7.lt tk7_1 tk7_2 tk7_3 tk7_4 tk7_5 tk2_3_v7 gn_b2_1 tk2_6_v7.lt tk2_4_v7 tk2_5_v7 tk2_6_v7 (Ne.symm ne_b2_0_b3) (Ne.symm ne_b2_1_b3) tk2_2) hZ (W hw 50 rfl) (W hw 35 rfl) (by decide) (by decide)) q8a q8c (g := (mkF m 86 #[.val (.int p0), .val (.int p1), .val (.int p2), .val .null, .val (.ref b2_0), .val (.ref b3), .val (.int (0 : Int32)), .val (.int (1 : Int32)), .val (.int (1 : Int32)), .unset, .unset, .unset] [(.ref b3)])) rfl (by rw [hml]; rfl) (Steps.refl _) (argsL := []) (rest := []) (lenOf pd_6 rfl) rfl (by show 2 * 0 + _ ≤ _; exact Nat.le_of_eq rfl) (hb hby at_86) (fun _ _ => ⟨rfl, rfl, (by decide : 3 + 0 ≤ _), (by decide : 16 + 0 ≤ _)⟩)
  dsimp only [Pt.U, Pt.locs, Pt.cells, Pt.slots] at X8 l8 y8 z8 st8 hQ8
  subst l8 y8 z8
  obtain ⟨rfl, N8q, e8⟩ := hQ8
  have N8 := Fr.app N7 N8q
  obtain ⟨cq9, kq9, q9a, q9b, q9c⟩ := isOf hZ e8 tk7_0
  obtain ⟨_, _, ⟨T9, L9, k9, n9⟩, -, X9, ⟨Lc9, hQ9, l9, y9, z9⟩, st9⟩ := X8.virtualBack hx (y := (⟨"com/example/netloom/netloom/xml/NetReader$OpenAnnotations", "carriesGraphics", "()Z"⟩ : MethodName)) (z := (⟨"com/example/netloom/netloom/xml/NetReader$OpenAnnotations", "carriesGraphics", "()Z"⟩ : MethodName)) hown (mvT hZ (W hw 46 rfl)) (mvT hZ (W hw 47 rfl)) (notFace_of_selects (args := #[]) (mvT hZ (W hw 49 rfl))) (mvT hZ (W hw 49 rfl)) (mvT hZ (W hw 48 rfl)) (by decide) (backOf (W := 0) (rm_11 l Z a0 hw w kk iw vw hN [] b3 b2_0 b2_1 ((((p2 &&& (255 : Int32)).toUInt32.toUInt16.toUInt32.toInt32).toInt8.toInt32).toInt8.toInt32) kb2_0 T7.heap O7 gn_b3 tk7_0.lt tk7_0 gn_b2_0 tk2_3_v7.lt tk7_1 tk7_2 tk7_3 tk7_4 tk7_5 tk2_3_v7 gn_b2_1 tk2_6_v7.lt tk2_4_v7 tk2_5_v7 tk2_6_v7 (Ne.symm ne_b2_0_b3) (Ne.symm ne_b2_1_b3) tk2_2) hZ (W hw 50 rfl) (W hw 35 rfl) (by decide) (by decide)) q9a q9c (g := (mkF m 93 #[.val (.int p0), .val (.int p1), .val (.int p2), .val .null, .val (.ref b2_0), .val (.ref b3), .val (.int (0 : Int32)), .val (.int (1 : Int32)), .val (.int (1 : Int32)), .val (.int (1 : Int32)), .unset, .unset] [(.ref b3)])) rfl (by rw [hml]; rfl) (Steps.refl _) (argsL := []) (rest := []) (lenOf pd_6 rfl) rfl (by show 2 * 0 + _ ≤ _; exact Nat.le_of_eq rfl) (hb hby at_93) (fun _ _ => ⟨rfl, e8, (by decide : 3 + 0 ≤ _), (by decide : 16 + 0 ≤ _)⟩)
  dsimp only [Pt.U, Pt.locs, Pt.cells, Pt.slots] at X9 l9 y9 z9 st9 hQ9
  subst l9 y9 z9
  obtain ⟨rfl, N9q, e9⟩ := hQ9
  have N9 := Fr.app N8 N9q
  obtain ⟨fs, hr, hrun, hended, hW, hsame⟩ := X9.leave (v := some (.int (1 : Int32))) (fun h => by rw [Bd.returns] at h; cases h)
  refine ⟨_, _, pre0 _ ?_, hrun, hended, _, _, rfl, ?_, ⟨_, rfl⟩, hW, hsame.mono (by decide) (by decide)⟩
  · show Steps p.tables e below (s₁.setTop (mkF m 0 #[.val (.int p0), .val (.int p1), .val (.int p2), .unset, .unset, .unset, .unset, .unset, .unset, .unset, .unset, .unset] [])) _
    refine XS.iloadN X0.here hx rfl (hb hby at_0) rfl ?_
    show Steps p.tables e below (s₁.setTop (mkF m 1 #[.val (.int p0), .val (.int p1), .val (.int p2), .unset, .unset, .unset, .unset, .unset, .unset, .unset, .unset, .unset] [(.int p1)])) _
    refine XS.iconst X0.here hx rfl (hb hby at_1) ?_
    show Steps p.tables e below (s₁.setTop (mkF m 2 #[.val (.int p0), .val (.int p1), .val (.int p2), .unset, .unset, .unset, .unset, .unset, .unset, .unset, .unset, .unset] [(.int (3 : Int32)), (.int p1)])) _
    refine XS.iand X0.here hx rfl (hb hby at_2) rfl ?_
    show Steps p.tables e below (s₁.setTop (mkF m 3 #[.val (.int p0), .val (.int p1), .val (.int p2), .unset, .unset, .unset, .unset, .unset, .unset, .unset, .unset, .unset] [(.int (p1 &&& (3 : Int32)))])) _
    rw [hp0]
    show Steps p.tables e below (s₁.setTop (mkF m 3 #[.val (.int p0), .val (.int p1), .val (.int p2), .unset, .unset, .unset, .unset, .unset, .unset, .unset, .unset, .unset] [(.int (0 : Int32))])) _
    refine st1 _ ?_
    show Steps p.tables e below (T1.setTop (mkF m 6 #[.val (.int p0), .val (.int p1), .val (.int p2), .unset, .unset, .unset, .unset, .unset, .unset, .unset, .unset, .unset] [.null])) _
    refine XS.astoreN X1.here hx rfl (hb hby at_6) rfl rfl (l' := #[.val (.int p0), .val (.int p1), .val (.int p2), .val .null, .unset, .unset, .unset, .unset, .unset, .unset, .unset, .unset]) rfl ?_
    show Steps p.tables e below (T1.setTop (mkF m 7 #[.val (.int p0), .val (.int p1), .val (.int p2), .val .null, .unset, .unset, .unset, .unset, .unset, .unset, .unset, .unset] [])) _
    refine XS.iloadN X1.here hx rfl (hb hby at_7) rfl ?_
    show Steps p.tables e below (T1.setTop (mkF m 8 #[.val (.int p0), .val (.int p1), .val (.int p2), .val .null, .unset, .unset, .unset, .unset, .unset, .unset, .unset, .unset] [(.int p2)])) _
    refine XS.sipush X1.here hx rfl (hb hby at_8) ?_
    show Steps p.tables e below (T1.setTop (mkF m 11 #[.val (.int p0), .val (.int p1), .val (.int p2), .val .null, .unset, .unset, .unset, .unset, .unset, .unset, .unset, .unset] [(.int (255 : Int32)), (.int p2)])) _
    refine XS.iand X1.here hx rfl (hb hby at_11) rfl ?_
    show Steps p.tables e below (T1.setTop (mkF m 12 #[.val (.int p0), .val (.int p1), .val (.int p2), .val .null, .unset, .unset, .unset, .unset, .unset, .unset, .unset, .unset] [(.int (p2 &&& (255 : Int32)))])) _
    refine XS.i2c X1.here hx rfl (hb hby at_12) rfl ?_
    show Steps p.tables e below (T1.setTop (mkF m 13 #[.val (.int p0), .val (.int p1), .val (.int p2), .val .null, .unset, .unset, .unset, .unset, .unset, .unset, .unset, .unset] [(.int ((p2 &&& (255 : Int32)).toUInt32.toUInt16.toUInt32.toInt32))])) _
    refine st2 _ ?_
    show Steps p.tables e below (T2.setTop (mkF m 16 #[.val (.int p0), .val (.int p1), .val (.int p2), .val .null, .unset, .unset, .unset, .unset, .unset, .unset, .unset, .unset] [(.ref b2_0)])) _
    refine XS.astore X2.here hx rfl (hb hby at_16) rfl rfl (l' := #[.val (.int p0), .val (.int p1), .val (.int p2), .val .null, .val (.ref b2_0), .unset, .unset, .unset, .unset, .unset, .unset, .unset]) rfl ?_
    show Steps p.tables e below (T2.setTop (mkF m 18 #[.val (.int p0), .val (.int p1), .val (.int p2), .val .null, .val (.ref b2_0), .unset, .unset, .unset, .unset, .unset, .unset, .unset] [])) _
    refine st3 _ ?_
    show Steps p.tables e below (T3.setTop (mkF m 21 #[.val (.int p0), .val (.int p1), .val (.int p2), .val .null, .val (.ref b2_0), .unset, .unset, .unset, .unset, .unset, .unset, .unset] [(.ref b3)])) _
    refine XS.dup X3.here hx rfl (hb hby at_21) rfl rfl ?_
    show Steps p.tables e below (T3.setTop (mkF m 22 #[.val (.int p0), .val (.int p1), .val (.int p2), .val .null, .val (.ref b2_0), .unset, .unset, .unset, .unset, .unset, .unset, .unset] [(.ref b3), (.ref b3)])) _
    refine XS.aload X3.here hx rfl (hb hby at_22) rfl rfl ?_
    show Steps p.tables e below (T3.setTop (mkF m 24 #[.val (.int p0), .val (.int p1), .val (.int p2), .val .null, .val (.ref b2_0), .unset, .unset, .unset, .unset, .unset, .unset, .unset] [(.ref b2_0), (.ref b3), (.ref b3)])) _
    refine XS.aloadN X3.here hx rfl (hb hby at_24) rfl rfl ?_
    show Steps p.tables e below (T3.setTop (mkF m 25 #[.val (.int p0), .val (.int p1), .val (.int p2), .val .null, .val (.ref b2_0), .unset, .unset, .unset, .unset, .unset, .unset, .unset] [.null, (.ref b2_0), (.ref b3), (.ref b3)])) _
    refine XS.aconstNull X3.here hx rfl (hb hby at_25) ?_
    show Steps p.tables e below (T3.setTop (mkF m 26 #[.val (.int p0), .val (.int p1), .val (.int p2), .val .null, .val (.ref b2_0), .unset, .unset, .unset, .unset, .unset, .unset, .unset] [.null, .null, (.ref b2_0), (.ref b3), (.ref b3)])) _
    refine st4.trans ?_
    show Steps p.tables e below (T4.setTop (mkF m 29 #[.val (.int p0), .val (.int p1), .val (.int p2), .val .null, .val (.ref b2_0), .unset, .unset, .unset, .unset, .unset, .unset, .unset] [(.ref b3)])) _
    refine XS.astore X4.here hx rfl (hb hby at_29) rfl rfl (l' := #[.val (.int p0), .val (.int p1), .val (.int p2), .val .null, .val (.ref b2_0), .val (.ref b3), .unset, .unset, .unset, .unset, .unset, .unset]) rfl ?_
    show Steps p.tables e below (T4.setTop (mkF m 31 #[.val (.int p0), .val (.int p1), .val (.int p2), .val .null, .val (.ref b2_0), .val (.ref b3), .unset, .unset, .unset, .unset, .unset, .unset] [])) _
    refine XS.aload X4.here hx rfl (hb hby at_31) rfl rfl ?_
    show Steps p.tables e below (T4.setTop (mkF m 33 #[.val (.int p0), .val (.int p1), .val (.int p2), .val .null, .val (.ref b2_0), .val (.ref b3), .unset, .unset, .unset, .unset, .unset, .unset] [(.ref b3)])) _
    refine st5.trans ?_
    show Steps p.tables e below (T5.setTop (mkF m 36 #[.val (.int p0), .val (.int p1), .val (.int p2), .val .null, .val (.ref b2_0), .val (.ref b3), .unset, .unset, .unset, .unset, .unset, .unset] [(.int (0 : Int32))])) _
    refine XS.istore X5.here hx rfl (hb hby at_36) rfl (l' := #[.val (.int p0), .val (.int p1), .val (.int p2), .val .null, .val (.ref b2_0), .val (.ref b3), .val (.int (0 : Int32)), .unset, .unset, .unset, .unset, .unset]) rfl ?_
    show Steps p.tables e below (T5.setTop (mkF m 38 #[.val (.int p0), .val (.int p1), .val (.int p2), .val .null, .val (.ref b2_0), .val (.ref b3), .val (.int (0 : Int32)), .unset, .unset, .unset, .unset, .unset] [])) _
    refine XS.iloadN X5.here hx rfl (hb hby at_38) rfl ?_
    show Steps p.tables e below (T5.setTop (mkF m 39 #[.val (.int p0), .val (.int p1), .val (.int p2), .val .null, .val (.ref b2_0), .val (.ref b3), .val (.int (0 : Int32)), .unset, .unset, .unset, .unset, .unset] [(.int p0)])) _
    refine XS.iconst X5.here hx rfl (hb hby at_39) ?_
    show Steps p.tables e below (T5.setTop (mkF m 40 #[.val (.int p0), .val (.int p1), .val (.int p2), .val .null, .val (.ref b2_0), .val (.ref b3), .val (.int (0 : Int32)), .unset, .unset, .unset, .unset, .unset] [(.int (1 : Int32)), (.int p0)])) _
    refine XS.iand X5.here hx rfl (hb hby at_40) rfl ?_
    show Steps p.tables e below (T5.setTop (mkF m 41 #[.val (.int p0), .val (.int p1), .val (.int p2), .val .null, .val (.ref b2_0), .val (.ref b3), .val (.int (0 : Int32)), .unset, .unset, .unset, .unset, .unset] [(.int (p0 &&& (1 : Int32)))])) _
    rw [hp2]
    show Steps p.tables e below (T5.setTop (mkF m 41 #[.val (.int p0), .val (.int p1), .val (.int p2), .val .null, .val (.ref b2_0), .val (.ref b3), .val (.int (0 : Int32)), .unset, .unset, .unset, .unset, .unset] [(.int (1 : Int32))])) _
    refine XS.ifNo X5.here hx rfl (hb hby at_41) rfl ((if0 _ _).trans (feq (by decide : ¬ ((1 : Int32) = (0 : Int32)))).1) ?_
    show Steps p.tables e below (T5.setTop (mkF m 44 #[.val (.int p0), .val (.int p1), .val (.int p2), .val .null, .val (.ref b2_0), .val (.ref b3), .val (.int (0 : Int32)), .unset, .unset, .unset, .unset, .unset] [])) _
    refine XS.iconst X5.here hx rfl (hb hby at_44) ?_
    show Steps p.tables e below (T5.setTop (mkF m 45 #[.val (.int p0), .val (.int p1), .val (.int p2), .val .null, .val (.ref b2_0), .val (.ref b3), .val (.int (0 : Int32)), .unset, .unset, .unset, .unset, .unset] [(.int (1 : Int32))])) _
    refine XS.goto X5.here hx rfl (pc0 := 45) (pc' := 49) rfl (hb hby at_45) (by decide) (by decide) ?_
    show Steps p.tables e below (T5.setTop (mkF m 49 #[.val (.int p0), .val (.int p1), .val (.int p2), .val .null, .val (.ref b2_0), .val (.ref b3), .val (.int (0 : Int32)), .unset, .unset, .unset, .unset, .unset] [(.int (1 : Int32))])) _
    refine XS.istore X5.here hx rfl (hb hby at_49) rfl (l' := #[.val (.int p0), .val (.int p1), .val (.int p2), .val .null, .val (.ref b2_0), .val (.ref b3), .val (.int (0 : Int32)), .val (.int (1 : Int32)), .unset, .unset, .unset, .unset]) rfl ?_
    show Steps p.tables e below (T5.setTop (mkF m 51 #[.val (.int p0), .val (.int p1), .val (.int p2), .val .null, .val (.ref b2_0), .val (.ref b3), .val (.int (0 : Int32)), .val (.int (1 : Int32)), .unset, .unset, .unset, .unset] [])) _
    refine XS.iloadN X5.here hx rfl (hb hby at_51) rfl ?_
    show Steps p.tables e below (T5.setTop (mkF m 52 #[.val (.int p0), .val (.int p1), .val (.int p2), .val .null, .val (.ref b2_0), .val (.ref b3), .val (.int (0 : Int32)), .val (.int (1 : Int32)), .unset, .unset, .unset, .unset] [(.int p0)])) _
    refine XS.iconst X5.here hx rfl (hb hby at_52) ?_
    show Steps p.tables e below (T5.setTop (mkF m 53 #[.val (.int p0), .val (.int p1), .val (.int p2), .val .null, .val (.ref b2_0), .val (.ref b3), .val (.int (0 : Int32)), .val (.int (1 : Int32)), .unset, .unset, .unset, .unset] [(.int (2 : Int32)), (.int p0)])) _
    refine XS.iand X5.here hx rfl (hb hby at_53) rfl ?_
    show Steps p.tables e below (T5.setTop (mkF m 54 #[.val (.int p0), .val (.int p1), .val (.int p2), .val .null, .val (.ref b2_0), .val (.ref b3), .val (.int (0 : Int32)), .val (.int (1 : Int32)), .unset, .unset, .unset, .unset] [(.int (p0 &&& (2 : Int32)))])) _
    refine XS.ifNo X5.here hx rfl (hb hby at_54) rfl ((if0 _ _).trans (feq hp3).1) ?_
    show Steps p.tables e below (T5.setTop (mkF m 57 #[.val (.int p0), .val (.int p1), .val (.int p2), .val .null, .val (.ref b2_0), .val (.ref b3), .val (.int (0 : Int32)), .val (.int (1 : Int32)), .unset, .unset, .unset, .unset] [])) _
    refine XS.iconst X5.here hx rfl (hb hby at_57) ?_
    show Steps p.tables e below (T5.setTop (mkF m 58 #[.val (.int p0), .val (.int p1), .val (.int p2), .val .null, .val (.ref b2_0), .val (.ref b3), .val (.int (0 : Int32)), .val (.int (1 : Int32)), .unset, .unset, .unset, .unset] [(.int (1 : Int32))])) _
    refine XS.goto X5.here hx rfl (pc0 := 58) (pc' := 62) rfl (hb hby at_58) (by decide) (by decide) ?_
    show Steps p.tables e below (T5.setTop (mkF m 62 #[.val (.int p0), .val (.int p1), .val (.int p2), .val .null, .val (.ref b2_0), .val (.ref b3), .val (.int (0 : Int32)), .val (.int (1 : Int32)), .unset, .unset, .unset, .unset] [(.int (1 : Int32))])) _
    refine XS.istore X5.here hx rfl (hb hby at_62) rfl (l' := #[.val (.int p0), .val (.int p1), .val (.int p2), .val .null, .val (.ref b2_0), .val (.ref b3), .val (.int (0 : Int32)), .val (.int (1 : Int32)), .val (.int (1 : Int32)), .unset, .unset, .unset]) rfl ?_
    show Steps p.tables e below (T5.setTop (mkF m 64 #[.val (.int p0), .val (.int p1), .val (.int p2), .val .null, .val (.ref b2_0), .val (.ref b3), .val (.int (0 : Int32)), .val (.int (1 : Int32)), .val (.int (1 : Int32)), .unset, .unset, .unset] [])) _
    refine XS.iload X5.here hx rfl (hb hby at_64) rfl ?_
    show Steps p.tables e below (T5.setTop (mkF m 66 #[.val (.int p0), .val (.int p1), .val (.int p2), .val .null, .val (.ref b2_0), .val (.ref b3), .val (.int (0 : Int32)), .val (.int (1 : Int32)), .val (.int (1 : Int32)), .unset, .unset, .unset] [(.int (1 : Int32))])) _
    refine XS.ifNo X5.here hx rfl (hb hby at_66) rfl ((if0 _ _).trans (feq (by decide : ¬ ((1 : Int32) = (0 : Int32)))).1) ?_
    show Steps p.tables e below (T5.setTop (mkF m 69 #[.val (.int p0), .val (.int p1), .val (.int p2), .val .null, .val (.ref b2_0), .val (.ref b3), .val (.int (0 : Int32)), .val (.int (1 : Int32)), .val (.int (1 : Int32)), .unset, .unset, .unset] [])) _
    refine XS.aload X5.here hx rfl (hb hby at_69) rfl rfl ?_
    show Steps p.tables e below (T5.setTop (mkF m 71 #[.val (.int p0), .val (.int p1), .val (.int p2), .val .null, .val (.ref b2_0), .val (.ref b3), .val (.int (0 : Int32)), .val (.int (1 : Int32)), .val (.int (1 : Int32)), .unset, .unset, .unset] [(.ref b3)])) _
    refine st6.trans ?_
    show Steps p.tables e below (T6.setTop (mkF m 74 #[.val (.int p0), .val (.int p1), .val (.int p2), .val .null, .val (.ref b2_0), .val (.ref b3), .val (.int (0 : Int32)), .val (.int (1 : Int32)), .val (.int (1 : Int32)), .unset, .unset, .unset] [])) _
    refine XS.iload X6.here hx rfl (hb hby at_74) rfl ?_
    show Steps p.tables e below (T6.setTop (mkF m 76 #[.val (.int p0), .val (.int p1), .val (.int p2), .val .null, .val (.ref b2_0), .val (.ref b3), .val (.int (0 : Int32)), .val (.int (1 : Int32)), .val (.int (1 : Int32)), .unset, .unset, .unset] [(.int (1 : Int32))])) _
    refine XS.ifNo X6.here hx rfl (hb hby at_76) rfl ((if0 _ _).trans (feq (by decide : ¬ ((1 : Int32) = (0 : Int32)))).1) ?_
    show Steps p.tables e below (T6.setTop (mkF m 79 #[.val (.int p0), .val (.int p1), .val (.int p2), .val .null, .val (.ref b2_0), .val (.ref b3), .val (.int (0 : Int32)), .val (.int (1 : Int32)), .val (.int (1 : Int32)), .unset, .unset, .unset] [])) _
    refine XS.aload X6.here hx rfl (hb hby at_79) rfl rfl ?_
    show Steps p.tables e below (T6.setTop (mkF m 81 #[.val (.int p0), .val (.int p1), .val (.int p2), .val .null, .val (.ref b2_0), .val (.ref b3), .val (.int (0 : Int32)), .val (.int (1 : Int32)), .val (.int (1 : Int32)), .unset, .unset, .unset] [(.ref b3)])) _
    refine st7.trans ?_
    show Steps p.tables e below (T7.setTop (mkF m 84 #[.val (.int p0), .val (.int p1), .val (.int p2), .val .null, .val (.ref b2_0), .val (.ref b3), .val (.int (0 : Int32)), .val (.int (1 : Int32)), .val (.int (1 : Int32)), .unset, .unset, .unset] [])) _
    refine XS.aload X7.here hx rfl (hb hby at_84) rfl rfl ?_
    show Steps p.tables e below (T7.setTop (mkF m 86 #[.val (.int p0), .val (.int p1), .val (.int p2), .val .null, .val (.ref b2_0), .val (.ref b3), .val (.int (0 : Int32)), .val (.int (1 : Int32)), .val (.int (1 : Int32)), .unset, .unset, .unset] [(.ref b3)])) _
    refine st8.trans ?_
    show Steps p.tables e below (T8.setTop (mkF m 89 #[.val (.int p0), .val (.int p1), .val (.int p2), .val .null, .val (.ref b2_0), .val (.ref b3), .val (.int (0 : Int32)), .val (.int (1 : Int32)), .val (.int (1 : Int32)), .unset, .unset, .unset] [(.int (1 : Int32))])) _
    refine XS.istore X8.here hx rfl (hb hby at_89) rfl (l' := #[.val (.int p0), .val (.int p1), .val (.int p2), .val .null, .val (.ref b2_0), .val (.ref b3), .val (.int (0 : Int32)), .val (.int (1 : Int32)), .val (.int (1 : Int32)), .val (.int (1 : Int32)), .unset, .unset]) rfl ?_
    show Steps p.tables e below (T8.setTop (mkF m 91 #[.val (.int p0), .val (.int p1), .val (.int p2), .val .null, .val (.ref b2_0), .val (.ref b3), .val (.int (0 : Int32)), .val (.int (1 : Int32)), .val (.int (1 : Int32)), .val (.int (1 : Int32)), .unset, .unset] [])) _
    refine XS.aload X8.here hx rfl (hb hby at_91) rfl rfl ?_
    show Steps p.tables e below (T8.setTop (mkF m 93 #[.val (.int p0), .val (.int p1), .val (.int p2), .val .null, .val (.ref b2_0), .val (.ref b3), .val (.int (0 : Int32)), .val (.int (1 : Int32)), .val (.int (1 : Int32)), .val (.int (1 : Int32)), .unset, .unset] [(.ref b3)])) _
    refine st9.trans ?_
    show Steps p.tables e below (T9.setTop (mkF m 96 #[.val (.int p0), .val (.int p1), .val (.int p2), .val .null, .val (.ref b2_0), .val (.ref b3), .val (.int (0 : Int32)), .val (.int (1 : Int32)), .val (.int (1 : Int32)), .val (.int (1 : Int32)), .unset, .unset] [(.int (1 : Int32))])) _
    refine XS.istore X9.here hx rfl (hb hby at_96) rfl (l' := #[.val (.int p0), .val (.int p1), .val (.int p2), .val .null, .val (.ref b2_0), .val (.ref b3), .val (.int (0 : Int32)), .val (.int (1 : Int32)), .val (.int (1 : Int32)), .val (.int (1 : Int32)), .val (.int (1 : Int32)), .unset]) rfl ?_
    show Steps p.tables e below (T9.setTop (mkF m 98 #[.val (.int p0), .val (.int p1), .val (.int p2), .val .null, .val (.ref b2_0), .val (.ref b3), .val (.int (0 : Int32)), .val (.int (1 : Int32)), .val (.int (1 : Int32)), .val (.int (1 : Int32)), .val (.int (1 : Int32)), .unset] [])) _
    refine XS.iload X9.here hx rfl (hb hby at_98) rfl ?_
    show Steps p.tables e below (T9.setTop (mkF m 100 #[.val (.int p0), .val (.int p1), .val (.int p2), .val .null, .val (.ref b2_0), .val (.ref b3), .val (.int (0 : Int32)), .val (.int (1 : Int32)), .val (.int (1 : Int32)), .val (.int (1 : Int32)), .val (.int (1 : Int32)), .unset] [(.int (1 : Int32))])) _
    refine XS.ifNo X9.here hx rfl (hb hby at_100) rfl ((if0 _ _).trans (feq (by decide : ¬ ((1 : Int32) = (0 : Int32)))).1) ?_
    show Steps p.tables e below (T9.setTop (mkF m 103 #[.val (.int p0), .val (.int p1), .val (.int p2), .val .null, .val (.ref b2_0), .val (.ref b3), .val (.int (0 : Int32)), .val (.int (1 : Int32)), .val (.int (1 : Int32)), .val (.int (1 : Int32)), .val (.int (1 : Int32)), .unset] [])) _
    refine XS.aloadN X9.here hx rfl (hb hby at_103) rfl rfl ?_
    show Steps p.tables e below (T9.setTop (mkF m 104 #[.val (.int p0), .val (.int p1), .val (.int p2), .val .null, .val (.ref b2_0), .val (.ref b3), .val (.int (0 : Int32)), .val (.int (1 : Int32)), .val (.int (1 : Int32)), .val (.int (1 : Int32)), .val (.int (1 : Int32)), .unset] [.null])) _
    refine XS.ifnonnullNo X9.here hx rfl (hb hby at_104) rfl ?_
    show Steps p.tables e below (T9.setTop (mkF m 107 #[.val (.int p0), .val (.int p1), .val (.int p2), .val .null, .val (.ref b2_0), .val (.ref b3), .val (.int (0 : Int32)), .val (.int (1 : Int32)), .val (.int (1 : Int32)), .val (.int (1 : Int32)), .val (.int (1 : Int32)), .unset] [])) _
    refine XS.iconst X9.here hx rfl (hb hby at_107) ?_
    show Steps p.tables e below (T9.setTop (mkF m 108 #[.val (.int p0), .val (.int p1), .val (.int p2), .val .null, .val (.ref b2_0), .val (.ref b3), .val (.int (0 : Int32)), .val (.int (1 : Int32)), .val (.int (1 : Int32)), .val (.int (1 : Int32)), .val (.int (1 : Int32)), .unset] [(.int (1 : Int32))])) _
    refine XS.goto X9.here hx rfl (pc0 := 108) (pc' := 112) rfl (hb hby at_108) (by decide) (by decide) ?_
    show Steps p.tables e below (T9.setTop (mkF m 112 #[.val (.int p0), .val (.int p1), .val (.int p2), .val .null, .val (.ref b2_0), .val (.ref b3), .val (.int (0 : Int32)), .val (.int (1 : Int32)), .val (.int (1 : Int32)), .val (.int (1 : Int32)), .val (.int (1 : Int32)), .unset] [(.int (1 : Int32))])) _
    refine XS.istore X9.here hx rfl (hb hby at_112) rfl (l' := #[.val (.int p0), .val (.int p1), .val (.int p2), .val .null, .val (.ref b2_0), .val (.ref b3), .val (.int (0 : Int32)), .val (.int (1 : Int32)), .val (.int (1 : Int32)), .val (.int (1 : Int32)), .val (.int (1 : Int32)), .val (.int (1 : Int32))]) rfl ?_
    show Steps p.tables e below (T9.setTop (mkF m 114 #[.val (.int p0), .val (.int p1), .val (.int p2), .val .null, .val (.ref b2_0), .val (.ref b3), .val (.int (0 : Int32)), .val (.int (1 : Int32)), .val (.int (1 : Int32)), .val (.int (1 : Int32)), .val (.int (1 : Int32)), .val (.int (1 : Int32))] [])) _
    refine XS.iload X9.here hx rfl (hb hby at_114) rfl ?_
    show Steps p.tables e below (T9.setTop (mkF m 116 #[.val (.int p0), .val (.int p1), .val (.int p2), .val .null, .val (.ref b2_0), .val (.ref b3), .val (.int (0 : Int32)), .val (.int (1 : Int32)), .val (.int (1 : Int32)), .val (.int (1 : Int32)), .val (.int (1 : Int32)), .val (.int (1 : Int32))] [(.int (0 : Int32))])) _
    refine XS.ifNo X9.here hx rfl (hb hby at_116) rfl ((if0 _ _).trans (teq (by decide : (0 : Int32) = (0 : Int32))).2) ?_
    show Steps p.tables e below (T9.setTop (mkF m 119 #[.val (.int p0), .val (.int p1), .val (.int p2), .val .null, .val (.ref b2_0), .val (.ref b3), .val (.int (0 : Int32)), .val (.int (1 : Int32)), .val (.int (1 : Int32)), .val (.int (1 : Int32)), .val (.int (1 : Int32)), .val (.int (1 : Int32))] [])) _
    refine XS.iload X9.here hx rfl (hb hby at_119) rfl ?_
    show Steps p.tables e below (T9.setTop (mkF m 121 #[.val (.int p0), .val (.int p1), .val (.int p2), .val .null, .val (.ref b2_0), .val (.ref b3), .val (.int (0 : Int32)), .val (.int (1 : Int32)), .val (.int (1 : Int32)), .val (.int (1 : Int32)), .val (.int (1 : Int32)), .val (.int (1 : Int32))] [(.int (1 : Int32))])) _
    refine XS.iload X9.here hx rfl (hb hby at_121) rfl ?_
    show Steps p.tables e below (T9.setTop (mkF m 123 #[.val (.int p0), .val (.int p1), .val (.int p2), .val .null, .val (.ref b2_0), .val (.ref b3), .val (.int (0 : Int32)), .val (.int (1 : Int32)), .val (.int (1 : Int32)), .val (.int (1 : Int32)), .val (.int (1 : Int32)), .val (.int (1 : Int32))] [(.int (1 : Int32)), (.int (1 : Int32))])) _
    refine XS.icmpNo X9.here hx rfl (hb hby at_123) rfl (teq (by decide : (1 : Int32) = (1 : Int32))).2 ?_
    show Steps p.tables e below (T9.setTop (mkF m 126 #[.val (.int p0), .val (.int p1), .val (.int p2), .val .null, .val (.ref b2_0), .val (.ref b3), .val (.int (0 : Int32)), .val (.int (1 : Int32)), .val (.int (1 : Int32)), .val (.int (1 : Int32)), .val (.int (1 : Int32)), .val (.int (1 : Int32))] [])) _
    refine XS.iload X9.here hx rfl (hb hby at_126) rfl ?_
    show Steps p.tables e below (T9.setTop (mkF m 128 #[.val (.int p0), .val (.int p1), .val (.int p2), .val .null, .val (.ref b2_0), .val (.ref b3), .val (.int (0 : Int32)), .val (.int (1 : Int32)), .val (.int (1 : Int32)), .val (.int (1 : Int32)), .val (.int (1 : Int32)), .val (.int (1 : Int32))] [(.int (1 : Int32))])) _
    refine XS.iload X9.here hx rfl (hb hby at_128) rfl ?_
    show Steps p.tables e below (T9.setTop (mkF m 130 #[.val (.int p0), .val (.int p1), .val (.int p2), .val .null, .val (.ref b2_0), .val (.ref b3), .val (.int (0 : Int32)), .val (.int (1 : Int32)), .val (.int (1 : Int32)), .val (.int (1 : Int32)), .val (.int (1 : Int32)), .val (.int (1 : Int32))] [(.int (1 : Int32)), (.int (1 : Int32))])) _
    refine XS.icmpNo X9.here hx rfl (hb hby at_130) rfl (teq (by decide : (1 : Int32) = (1 : Int32))).2 ?_
    show Steps p.tables e below (T9.setTop (mkF m 133 #[.val (.int p0), .val (.int p1), .val (.int p2), .val .null, .val (.ref b2_0), .val (.ref b3), .val (.int (0 : Int32)), .val (.int (1 : Int32)), .val (.int (1 : Int32)), .val (.int (1 : Int32)), .val (.int (1 : Int32)), .val (.int (1 : Int32))] [])) _
    refine XS.iconst X9.here hx rfl (hb hby at_133) ?_
    show Steps p.tables e below (T9.setTop (mkF m 134 #[.val (.int p0), .val (.int p1), .val (.int p2), .val .null, .val (.ref b2_0), .val (.ref b3), .val (.int (0 : Int32)), .val (.int (1 : Int32)), .val (.int (1 : Int32)), .val (.int (1 : Int32)), .val (.int (1 : Int32)), .val (.int (1 : Int32))] [(.int (1 : Int32))])) _
    refine XS.goto X9.here hx rfl (pc0 := 134) (pc' := 138) rfl (hb hby at_134) (by decide) (by decide) ?_
    show Steps p.tables e below (T9.setTop (mkF m 138 #[.val (.int p0), .val (.int p1), .val (.int p2), .val .null, .val (.ref b2_0), .val (.ref b3), .val (.int (0 : Int32)), .val (.int (1 : Int32)), .val (.int (1 : Int32)), .val (.int (1 : Int32)), .val (.int (1 : Int32)), .val (.int (1 : Int32))] [(.int (1 : Int32))])) _
    exact retN X9 hx (t := .boolean) Bd.returns (by simp) (hb hby at_138) hr
  · show OL (some (.int (1 : Int32))) Z.heap.size _ T9.heap _
    exact ⟨rfl, N9⟩
theorem d_method_3_code_6 : decode method_3_code 6 = .ok (.iload_n 0, 1) := by decide +kernel
theorem d_method_3_code_7 : decode method_3_code 7 = .ok (.iconst 1, 1) := by decide +kernel
theorem d_method_3_code_8 : decode method_3_code 8 = .ok (.if_icmp .ne 7, 3) := by decide +kernel
theorem d_method_3_code_11 : decode method_3_code 11 = .ok (.getstatic 31, 3) := by decide +kernel
theorem d_method_3_code_14 : decode method_3_code 14 = .ok (.areturn, 1) := by decide +kernel
set_option maxRecDepth 65536 in
set_option maxHeartbeats 40000000 in
theorem rm_15 (l : Launch) (Z : State) (a0 : Array Value) (hw : ∀ d ∈ tables_1, d.before a0 Z = true) (w : Nat → Addr) (kk : Nat → ClassId) (iw : Nat → Int32) (vw : Nat → Value) (hN : Wd Z w kk iw vw) (ws : List Jvm.Cond)  (h0 : Heap) (O0 : Old Z Z.heap.size h0) :
    MetFree l (⟨"com/example/netloom/netloom/xml/OpenAnnotationsCarriesGraphicsPinLaw", "pick", "(I)Lcom/example/netloom/netloom/xml/XmlGraphics$Form;"⟩ : MethodName) (head1 (Jvm.Cond.code (⟨"com/example/netloom/netloom/xml/OpenAnnotationsCarriesGraphicsPinLaw", "pick", "(I)Lcom/example/netloom/netloom/xml/XmlGraphics$Form;"⟩ : MethodName) method_3_code 1 (some (.object "com/example/netloom/netloom/xml/XmlGraphics$Form")) :: ws) ({ frames := 0, cells := 0, slots := 0, locals := 0 } : Room)) (fun a U => a = #[(.int (1 : Int32))] ∧ Z.Warmed39 U.vm ∧ U.heap = h0) (fun _ _ _ _ _ => True) (fun _ U o U' => ∃ v L, o = .returned v ∧ OQ (some (.ref (w 2))) h0 Z.heap.size v U'.heap L ∧ FrameEnd U o U' L ({ frames := 0, cells := 0, slots := 0, locals := 0 } : Room).cells ({ frames := 0, cells := 0, slots := 0, locals := 0 } : Room).slots) := by
  have hN' := hN
  obtain ⟨hS0, hE0, hS1, hE1, hS2, hE2, hI0, hJ0, hR0, hRr0⟩ := hN'
  refine MetFree.of_bodySF (plainFor_of_name pn_0) hisR ?_
  intro p e s m args below meth c s₁ Bd hml0 hP hK
  obtain ⟨rfl, hZ, hh⟩ := hP
  have hx := Bd.exec
  have hby := Bd.bytes
  have hml : c.maxLocals = 1 := hml0
  have hown : s.vm.findClass "com/example/netloom/netloom/xml/OpenAnnotationsCarriesGraphicsPinLaw" = some m.cls := findClass_of_methodNamed Bd.named
  have hnm := (name_of_methodNamed Bd.named Bd.method).1
  have X0 : Stand p l e ({ frames := 0, cells := 0, slots := 0, locals := 0 } : Room) s m #[(.int (1 : Int32))] below meth c s₁ [] 0 0 := Stand.of_body Bd
  have e0 : s₁.heap = h0 := by rw [← hh, Bd.state]; rfl
  have N0 := Fr.nil Z.heap.size
  have pre0 : ∀ t, Steps p.tables e below (s₁.setTop (mkF m 0 #[.val (.int (1 : Int32))] [])) t → Steps p.tables e below (s₁.setTop (entryFrame m #[(.int (1 : Int32))] 1)) t := fun t k => castTop (ef_0 m (.int (1 : Int32)) rfl) k
  obtain ⟨T1, X1, e1, st1⟩ := getS2 X0 hx hZ hown (host := "") (Or.inl (W hw 62 rfl)) Via.refl e0 (hS2.ext O0.2) (g := (mkF m 11 #[.val (.int (1 : Int32))] [])) rfl (hb hby d_method_3_code_11)
  obtain ⟨fs, hr, hrun, hended, hW, hsame⟩ := X1.leave (v := some (.ref (w 2))) (fun h => by rw [Bd.returns] at h; cases h)
  refine ⟨_, _, pre0 _ ?_, hrun, hended, _, _, rfl, ?_, ⟨_, rfl⟩, hW, hsame.mono (by decide) (by decide)⟩
  · show Steps p.tables e below (s₁.setTop (mkF m 0 #[.val (.int (1 : Int32))] [])) _
    refine XS.iloadN X0.here hx rfl (hb hby d_method_3_code_0) rfl ?_
    show Steps p.tables e below (s₁.setTop (mkF m 1 #[.val (.int (1 : Int32))] [(.int (1 : Int32))])) _
    refine XS.ifYes X0.here hx rfl (pc0 := 1) (pc' := 6) rfl (hb hby d_method_3_code_1) rfl ((if0 _ _).trans (feq (by decide : ¬ ((1 : Int32) = (0 : Int32)))).2) (by decide) (by decide) ?_
    show Steps p.tables e below (s₁.setTop (mkF m 6 #[.val (.int (1 : Int32))] [])) _
    refine XS.iloadN X0.here hx rfl (hb hby d_method_3_code_6) rfl ?_
    show Steps p.tables e below (s₁.setTop (mkF m 7 #[.val (.int (1 : Int32))] [(.int (1 : Int32))])) _
    refine XS.iconst X0.here hx rfl (hb hby d_method_3_code_7) ?_
    show Steps p.tables e below (s₁.setTop (mkF m 8 #[.val (.int (1 : Int32))] [(.int (1 : Int32)), (.int (1 : Int32))])) _
    refine XS.icmpNo X0.here hx rfl (hb hby d_method_3_code_8) rfl (teq (by decide : (1 : Int32) = (1 : Int32))).2 ?_
    show Steps p.tables e below (s₁.setTop (mkF m 11 #[.val (.int (1 : Int32))] [])) _
    refine st1 _ ?_
    show Steps p.tables e below (T1.setTop (mkF m 14 #[.val (.int (1 : Int32))] [(.ref (w 2))])) _
    exact retOut X1 hx Bd.returns rfl (Or.inr (Or.inr (Or.inr (Or.inr ⟨rfl, rfl, rfl⟩)))) (hb hby d_method_3_code_14) hr
  · show OQ (some (.ref (w 2))) h0 Z.heap.size _ T1.heap _
    rw [e1]
    exact ⟨rfl, N0, rfl⟩
def Qd_5 (Z : State) (w : Nat → Addr) (kk : Nat → ClassId) (iw : Nat → Int32) (vw : Nat → Value) (o1 : Addr) (o2 : Addr) (o3 : Addr) (t0 : Int32) (kc_o3 : ClassId) (h0 : Heap) (n0 : Nat) (v : Option Value) (h : Heap) (L : List Loc) : Prop := v = none ∧ Fr n0 L ∧ Keep h0 h [o1] ∧ Exa Z h o1 "com/example/netloom/netloom/xml/NetReader$OpenAnnotations" ∧ Fld Z h o1 "com/example/netloom/netloom/xml/NetReader$OpenAnnotations" "owner" "Ljava/lang/String;" (.ref o2) ∧ Fld Z h o1 "com/example/netloom/netloom/xml/NetReader$OpenAnnotations" "form" "Lcom/example/netloom/netloom/xml/XmlGraphics$Form;" (.ref (w 2)) ∧ Fld Z h o1 "com/example/netloom/netloom/xml/NetReader$OpenAnnotations" "carries" "Ljava/util/Set;" .null ∧ Fld Z h o1 "com/example/netloom/netloom/xml/NetReader$OpenAnnotations" "graphicsCarried" "Z" (.int (0 : Int32)) ∧ Fld Z h o1 "com/example/netloom/netloom/xml/NetReader$OpenAnnotations" "graphics" "Lcom/example/netloom/netloom/net/Graphics;" .null
set_option maxRecDepth 65536 in
set_option maxHeartbeats 40000000 in
theorem rm_16 (l : Launch) (Z : State) (a0 : Array Value) (hw : ∀ d ∈ tables_1, d.before a0 Z = true) (w : Nat → Addr) (kk : Nat → ClassId) (iw : Nat → Int32) (vw : Nat → Value) (hN : Wd Z w kk iw vw) (ws : List Jvm.Cond) (o1 : Addr) (o2 : Addr) (o3 : Addr) (t0 : Int32) (kc_o3 : ClassId) (h0 : Heap) (O0 : Old Z Z.heap.size h0) (gn_o1 : Z.heap.size ≤ o1) (lt_o1 : o1 < h0.size) (gn_o2 : Z.heap.size ≤ o2) (lt_o2 : o2 < h0.size) (E_o1 : Exa Z h0 o1 "com/example/netloom/netloom/xml/NetReader$OpenAnnotations") (F_o1_owner : Fld Z h0 o1 "com/example/netloom/netloom/xml/NetReader$OpenAnnotations" "owner" "Ljava/lang/String;" .null) (F_o1_form : Fld Z h0 o1 "com/example/netloom/netloom/xml/NetReader$OpenAnnotations" "form" "Lcom/example/netloom/netloom/xml/XmlGraphics$Form;" .null) (F_o1_carries : Fld Z h0 o1 "com/example/netloom/netloom/xml/NetReader$OpenAnnotations" "carries" "Ljava/util/Set;" .null) (F_o1_graphicsCarried : Fld Z h0 o1 "com/example/netloom/netloom/xml/NetReader$OpenAnnotations" "graphicsCarried" "Z" (.int (0 : Int32))) (F_o1_graphics : Fld Z h0 o1 "com/example/netloom/netloom/xml/NetReader$OpenAnnotations" "graphics" "Lcom/example/netloom/netloom/net/Graphics;" .null) (E_o2 : Exa Z h0 o2 "java/lang/String") (gn_o3 : Z.heap.size ≤ o3) (lt_o3 : o3 < h0.size) (F_o2_value : Fld Z h0 o2 "java/lang/String" "value" "[B" (.ref o3)) (F_o2_coder : Fld Z h0 o2 "java/lang/String" "coder" "B" (.int (0 : Int32))) (V_o3 : Arv Z h0 o3 kc_o3 .byte (1 : Int32) [(.int t0)] (.int (0 : Int32))) (ne_o1_o2 : o1 ≠ o2) (ne_o1_o3 : o1 ≠ o3) (ne_o2_o3 : o2 ≠ o3) :
    MetFree l (⟨"com/example/netloom/netloom/xml/NetReader$OpenAnnotations", "<init>", "(Ljava/lang/String;Lcom/example/netloom/netloom/xml/XmlGraphics$Form;Ljava/util/Set;)V"⟩ : MethodName) (head1 (Jvm.Cond.code (⟨"com/example/netloom/netloom/xml/NetReader$OpenAnnotations", "<init>", "(Ljava/lang/String;Lcom/example/netloom/netloom/xml/XmlGraphics$Form;Ljava/util/Set;)V"⟩ : MethodName) prog_77_method_1_code 4 none :: ws) ({ frames := 1, cells := 0, slots := 0, locals := 12 } : Room)) (fun a U => a = #[(.ref o1), (.ref o2), (.ref (w 2)), .null] ∧ Z.Warmed39 U.vm ∧ U.heap = h0) (fun _ _ _ _ _ => True) (fun _ U o U' => ∃ v L, o = .returned v ∧ Qd_5 Z w kk iw vw o1 o2 o3 t0 kc_o3 h0 Z.heap.size v U'.heap L ∧ FrameEnd U o U' L ({ frames := 1, cells := 0, slots := 0, locals := 12 } : Room).cells ({ frames := 1, cells := 0, slots := 0, locals := 12 } : Room).slots) := by
  have hN' := hN
  obtain ⟨hS0, hE0, hS1, hE1, hS2, hE2, hI0, hJ0, hR0, hRr0⟩ := hN'
  refine MetFree.of_bodySF (plainFor_of_name pn_3) hisR ?_
  intro p e s m args below meth c s₁ Bd hml0 hP hK
  obtain ⟨rfl, hZ, hh⟩ := hP
  have hx := Bd.exec
  have hby := Bd.bytes
  have hml : c.maxLocals = 4 := hml0
  have hown : s.vm.findClass "com/example/netloom/netloom/xml/NetReader$OpenAnnotations" = some m.cls := findClass_of_methodNamed Bd.named
  have hnm := (name_of_methodNamed Bd.named Bd.method).1
  have X0 : Stand p l e ({ frames := 1, cells := 0, slots := 0, locals := 12 } : Room) s m #[(.ref o1), (.ref o2), (.ref (w 2)), .null] below meth c s₁ [] 0 0 := Stand.of_body Bd
  have e0 : s₁.heap = h0 := by rw [← hh, Bd.state]; rfl
  have N0 := Fr.nil Z.heap.size
  have pre0 : ∀ t, Steps p.tables e below (s₁.setTop (mkF m 0 #[.val (.ref o1), .val (.ref o2), .val (.ref (w 2)), .val .null] [])) t → Steps p.tables e below (s₁.setTop (entryFrame m #[(.ref o1), (.ref o2), (.ref (w 2)), .null] 4)) t := fun t k => castTop (ef_2 m (.ref o1) rfl (.ref o2) rfl (.ref (w 2)) rfl .null rfl) k
  have K0 : Keep h0 h0 [o1] := Keep.refl _ _
  obtain ⟨T1, X1, e1, st1⟩ := initO X0 hx hZ hown (W hw 39 rfl) (W hw 27 rfl) (W hw 28 rfl) e0 (g := (mkF m 1 #[.val (.ref o1), .val (.ref o2), .val (.ref (w 2)), .val .null] [(.ref o1)])) rfl (by rw [hml]; rfl) rfl (hb hby d_prog_77_method_1_code_1) (by decide) (W := 0) (by show 2 * 0 + _ ≤ _; exact Nat.le_of_eq rfl) (by decide)
  obtain ⟨T2, h2, X2, e2, W2, st2⟩ := putF X1 hx hZ hown (host := "") (Or.inl (W hw 40 rfl)) Via.refl e1 F_o1_owner E_o1 (Or.inr ⟨(W hw 41 rfl), rfl, hnm⟩) (W hw 34 rfl) (ty := (.object "java/lang/String")) (by decide) rfl rfl (g := (mkF m 6 #[.val (.ref o1), .val (.ref o2), .val (.ref (w 2)), .val .null] [(.ref o2), (.ref o1)])) rfl rfl (hb hby d_prog_77_method_1_code_6)
  have F_o1_owner_v2 := F_o1_owner.same W2
  have N2 := Fr.snoc X2 N0 gn_o1
  have E_o1_v2 := E_o1.wr W2
  have F_o1_form_v2 := F_o1_form.other W2 (Or.inr (sn_2 hw))
  have F_o1_carries_v2 := F_o1_carries.other W2 (Or.inr (sn_3 hw))
  have F_o1_graphicsCarried_v2 := F_o1_graphicsCarried.other W2 (Or.inr (sn_4 hw))
  have F_o1_graphics_v2 := F_o1_graphics.other W2 (Or.inr (sn_5 hw))
  have E_o2_v2 := E_o2.wr W2
  have F_o2_value_v2 := F_o2_value.other W2 (Or.inl (Ne.symm ne_o1_o2))
  have F_o2_coder_v2 := F_o2_coder.other W2 (Or.inl (Ne.symm ne_o1_o2))
  have V_o3_v2 := V_o3.other W2 (Ne.symm ne_o1_o3)
  have O2 := O0.wr W2 gn_o1
  have K2 : Keep h0 h2 [o1] := K0.wr W2 (Or.inl (List.mem_of_getElem? (i := 0) rfl))
  obtain ⟨T3, h3, X3, e3, W3, st3⟩ := putF X2 hx hZ hown (host := "") (Or.inl (W hw 42 rfl)) Via.refl e2 F_o1_form_v2 E_o1_v2 (Or.inr ⟨(W hw 43 rfl), rfl, hnm⟩) (W hw 34 rfl) (ty := (.object "com/example/netloom/netloom/xml/XmlGraphics$Form")) (by decide) rfl rfl (g := (mkF m 11 #[.val (.ref o1), .val (.ref o2), .val (.ref (w 2)), .val .null] [(.ref (w 2)), (.ref o1)])) rfl rfl (hb hby d_prog_77_method_1_code_11)
  have F_o1_form_v3 := F_o1_form_v2.same W3
  have N3 := Fr.snoc X3 N2 gn_o1
  have E_o1_v3 := E_o1_v2.wr W3
  have F_o1_owner_v3 := F_o1_owner_v2.other W3 (Or.inr (sn_6 hw))
  have F_o1_carries_v3 := F_o1_carries_v2.other W3 (Or.inr (sn_7 hw))
  have F_o1_graphicsCarried_v3 := F_o1_graphicsCarried_v2.other W3 (Or.inr (sn_8 hw))
  have F_o1_graphics_v3 := F_o1_graphics_v2.other W3 (Or.inr (sn_9 hw))
  have E_o2_v3 := E_o2_v2.wr W3
  have F_o2_value_v3 := F_o2_value_v2.other W3 (Or.inl (Ne.symm ne_o1_o2))
  have F_o2_coder_v3 := F_o2_coder_v2.other W3 (Or.inl (Ne.symm ne_o1_o2))
  have V_o3_v3 := V_o3_v2.other W3 (Ne.symm ne_o1_o3)
  have O3 := O2.wr W3 gn_o1
  have K3 : Keep h0 h3 [o1] := K2.wr W3 (Or.inl (List.mem_of_getElem? (i := 0) rfl))
  obtain ⟨T4, h4, X4, e4, W4, st4⟩ := putF X3 hx hZ hown (host := "") (Or.inl (W hw 44 rfl)) Via.refl e3 F_o1_carries_v3 E_o1_v3 (Or.inr ⟨(W hw 45 rfl), rfl, hnm⟩) (W hw 34 rfl) (ty := (.object "java/util/Set")) (by decide) rfl rfl (g := (mkF m 16 #[.val (.ref o1), .val (.ref o2), .val (.ref (w 2)), .val .null] [.null, (.ref o1)])) rfl rfl (hb hby d_prog_77_method_1_code_16)
  have F_o1_carries_v4 := F_o1_carries_v3.same W4
  have N4 := Fr.snoc X4 N3 gn_o1
  have E_o1_v4 := E_o1_v3.wr W4
  have F_o1_owner_v4 := F_o1_owner_v3.other W4 (Or.inr (sn_10 hw))
  have F_o1_form_v4 := F_o1_form_v3.other W4 (Or.inr (sn_11 hw))
  have F_o1_graphicsCarried_v4 := F_o1_graphicsCarried_v3.other W4 (Or.inr (sn_12 hw))
  have F_o1_graphics_v4 := F_o1_graphics_v3.other W4 (Or.inr (sn_13 hw))
  have E_o2_v4 := E_o2_v3.wr W4
  have F_o2_value_v4 := F_o2_value_v3.other W4 (Or.inl (Ne.symm ne_o1_o2))
  have F_o2_coder_v4 := F_o2_coder_v3.other W4 (Or.inl (Ne.symm ne_o1_o2))
  have V_o3_v4 := V_o3_v3.other W4 (Ne.symm ne_o1_o3)
  have O4 := O3.wr W4 gn_o1
  have K4 : Keep h0 h4 [o1] := K3.wr W4 (Or.inl (List.mem_of_getElem? (i := 0) rfl))
  obtain ⟨fs, hr, hrun, hended, hW, hsame⟩ := X4.leave (v := none) (fun _ => rfl)
  refine ⟨_, _, pre0 _ ?_, hrun, hended, _, _, rfl, ?_, ⟨_, rfl⟩, hW, hsame.mono (by decide) (by decide)⟩
  · show Steps p.tables e below (s₁.setTop (mkF m 0 #[.val (.ref o1), .val (.ref o2), .val (.ref (w 2)), .val .null] [])) _
    refine XS.aloadN X0.here hx rfl (hb hby d_prog_77_method_1_code_0) rfl rfl ?_
    show Steps p.tables e below (s₁.setTop (mkF m 1 #[.val (.ref o1), .val (.ref o2), .val (.ref (w 2)), .val .null] [(.ref o1)])) _
    refine st1 _ ?_
    show Steps p.tables e below (T1.setTop (mkF m 4 #[.val (.ref o1), .val (.ref o2), .val (.ref (w 2)), .val .null] [])) _
    refine XS.aloadN X1.here hx rfl (hb hby d_prog_77_method_1_code_4) rfl rfl ?_
    show Steps p.tables e below (T1.setTop (mkF m 5 #[.val (.ref o1), .val (.ref o2), .val (.ref (w 2)), .val .null] [(.ref o1)])) _
    refine XS.aloadN X1.here hx rfl (hb hby d_prog_77_method_1_code_5) rfl rfl ?_
    show Steps p.tables e below (T1.setTop (mkF m 6 #[.val (.ref o1), .val (.ref o2), .val (.ref (w 2)), .val .null] [(.ref o2), (.ref o1)])) _
    refine st2 _ ?_
    show Steps p.tables e below (T2.setTop (mkF m 9 #[.val (.ref o1), .val (.ref o2), .val (.ref (w 2)), .val .null] [])) _
    refine XS.aloadN X2.here hx rfl (hb hby d_prog_77_method_1_code_9) rfl rfl ?_
    show Steps p.tables e below (T2.setTop (mkF m 10 #[.val (.ref o1), .val (.ref o2), .val (.ref (w 2)), .val .null] [(.ref o1)])) _
    refine XS.aloadN X2.here hx rfl (hb hby d_prog_77_method_1_code_10) rfl rfl ?_
    show Steps p.tables e below (T2.setTop (mkF m 11 #[.val (.ref o1), .val (.ref o2), .val (.ref (w 2)), .val .null] [(.ref (w 2)), (.ref o1)])) _
    refine st3 _ ?_
    show Steps p.tables e below (T3.setTop (mkF m 14 #[.val (.ref o1), .val (.ref o2), .val (.ref (w 2)), .val .null] [])) _
    refine XS.aloadN X3.here hx rfl (hb hby d_prog_77_method_1_code_14) rfl rfl ?_
    show Steps p.tables e below (T3.setTop (mkF m 15 #[.val (.ref o1), .val (.ref o2), .val (.ref (w 2)), .val .null] [(.ref o1)])) _
    refine XS.aloadN X3.here hx rfl (hb hby d_prog_77_method_1_code_15) rfl rfl ?_
    show Steps p.tables e below (T3.setTop (mkF m 16 #[.val (.ref o1), .val (.ref o2), .val (.ref (w 2)), .val .null] [.null, (.ref o1)])) _
    refine st4 _ ?_
    show Steps p.tables e below (T4.setTop (mkF m 19 #[.val (.ref o1), .val (.ref o2), .val (.ref (w 2)), .val .null] [])) _
    exact X4.returnOut hx Bd.returns (hb hby d_prog_77_method_1_code_19) hr
  · show Qd_5 Z w kk iw vw o1 o2 o3 t0 kc_o3 h0 Z.heap.size _ T4.heap _
    rw [e4]
    exact ⟨rfl, N4, K4, E_o1_v4, F_o1_owner_v4, F_o1_form_v4, F_o1_carries_v4, F_o1_graphicsCarried_v4, F_o1_graphics_v4⟩
set_option maxRecDepth 65536 in
set_option maxHeartbeats 40000000 in
theorem rm_17 (l : Launch) (Z : State) (a0 : Array Value) (hw : ∀ d ∈ tables_1, d.before a0 Z = true) (w : Nat → Addr) (kk : Nat → ClassId) (iw : Nat → Int32) (vw : Nat → Value) (hN : Wd Z w kk iw vw) (ws : List Jvm.Cond) (o1 : Addr) (o2 : Addr) (o3 : Addr) (t0 : Int32) (kc_o3 : ClassId) (h0 : Heap) (O0 : Old Z Z.heap.size h0) (gn_o1 : Z.heap.size ≤ o1) (lt_o1 : o1 < h0.size) (E_o1 : Exa Z h0 o1 "com/example/netloom/netloom/xml/NetReader$OpenAnnotations") (gn_o2 : Z.heap.size ≤ o2) (lt_o2 : o2 < h0.size) (F_o1_owner : Fld Z h0 o1 "com/example/netloom/netloom/xml/NetReader$OpenAnnotations" "owner" "Ljava/lang/String;" (.ref o2)) (F_o1_form : Fld Z h0 o1 "com/example/netloom/netloom/xml/NetReader$OpenAnnotations" "form" "Lcom/example/netloom/netloom/xml/XmlGraphics$Form;" (.ref (w 2))) (F_o1_carries : Fld Z h0 o1 "com/example/netloom/netloom/xml/NetReader$OpenAnnotations" "carries" "Ljava/util/Set;" .null) (F_o1_graphicsCarried : Fld Z h0 o1 "com/example/netloom/netloom/xml/NetReader$OpenAnnotations" "graphicsCarried" "Z" (.int (0 : Int32))) (F_o1_graphics : Fld Z h0 o1 "com/example/netloom/netloom/xml/NetReader$OpenAnnotations" "graphics" "Lcom/example/netloom/netloom/net/Graphics;" .null) (E_o2 : Exa Z h0 o2 "java/lang/String") (gn_o3 : Z.heap.size ≤ o3) (lt_o3 : o3 < h0.size) (F_o2_value : Fld Z h0 o2 "java/lang/String" "value" "[B" (.ref o3)) (F_o2_coder : Fld Z h0 o2 "java/lang/String" "coder" "B" (.int (0 : Int32))) (V_o3 : Arv Z h0 o3 kc_o3 .byte (1 : Int32) [(.int t0)] (.int (0 : Int32))) (ne_o1_o2 : o1 ≠ o2) (ne_o1_o3 : o1 ≠ o3) (ne_o2_o3 : o2 ≠ o3) :
    MetFree l (⟨"com/example/netloom/netloom/xml/NetReader$OpenAnnotations", "carriesGraphics", "()Z"⟩ : MethodName) (head1 (Jvm.Cond.code (⟨"com/example/netloom/netloom/xml/NetReader$OpenAnnotations", "carriesGraphics", "()Z"⟩ : MethodName) prog_77_method_3_code 1 (some .boolean) :: ws) ({ frames := 0, cells := 0, slots := 0, locals := 0 } : Room)) (fun a U => a = #[(.ref o1)] ∧ Z.Warmed39 U.vm ∧ U.heap = h0) (fun _ _ _ _ _ => True) (fun _ U o U' => ∃ v L, o = .returned v ∧ OQ (some (.int (0 : Int32))) h0 Z.heap.size v U'.heap L ∧ FrameEnd U o U' L ({ frames := 0, cells := 0, slots := 0, locals := 0 } : Room).cells ({ frames := 0, cells := 0, slots := 0, locals := 0 } : Room).slots) := by
  have hN' := hN
  obtain ⟨hS0, hE0, hS1, hE1, hS2, hE2, hI0, hJ0, hR0, hRr0⟩ := hN'
  refine MetFree.of_bodySF (plainFor_of_name pn_3) hisR ?_
  intro p e s m args below meth c s₁ Bd hml0 hP hK
  obtain ⟨rfl, hZ, hh⟩ := hP
  have hx := Bd.exec
  have hby := Bd.bytes
  have hml : c.maxLocals = 1 := hml0
  have hown : s.vm.findClass "com/example/netloom/netloom/xml/NetReader$OpenAnnotations" = some m.cls := findClass_of_methodNamed Bd.named
  have hnm := (name_of_methodNamed Bd.named Bd.method).1
  have X0 : Stand p l e ({ frames := 0, cells := 0, slots := 0, locals := 0 } : Room) s m #[(.ref o1)] below meth c s₁ [] 0 0 := Stand.of_body Bd
  have e0 : s₁.heap = h0 := by rw [← hh, Bd.state]; rfl
  have N0 := Fr.nil Z.heap.size
  have pre0 : ∀ t, Steps p.tables e below (s₁.setTop (mkF m 0 #[.val (.ref o1)] [])) t → Steps p.tables e below (s₁.setTop (entryFrame m #[(.ref o1)] 1)) t := fun t k => castTop (ef_3 m (.ref o1) rfl) k
  obtain ⟨T1, X1, e1, st1⟩ := getF X0 hx hZ hown (host := "") (Or.inl (W hw 51 rfl)) Via.refl e0 F_o1_graphicsCarried (g := (mkF m 1 #[.val (.ref o1)] [(.ref o1)])) rfl rfl (hb hby d_prog_77_method_3_code_1)
  obtain ⟨fs, hr, hrun, hended, hW, hsame⟩ := X1.leave (v := some (.int (0 : Int32))) (fun h => by rw [Bd.returns] at h; cases h)
  refine ⟨_, _, pre0 _ ?_, hrun, hended, _, _, rfl, ?_, ⟨_, rfl⟩, hW, hsame.mono (by decide) (by decide)⟩
  · show Steps p.tables e below (s₁.setTop (mkF m 0 #[.val (.ref o1)] [])) _
    refine XS.aloadN X0.here hx rfl (hb hby d_prog_77_method_3_code_0) rfl rfl ?_
    show Steps p.tables e below (s₁.setTop (mkF m 1 #[.val (.ref o1)] [(.ref o1)])) _
    refine st1 _ ?_
    show Steps p.tables e below (T1.setTop (mkF m 4 #[.val (.ref o1)] [(.int (0 : Int32))])) _
    refine XS.ifYes X1.here hx rfl (pc0 := 4) (pc' := 25) rfl (hb hby d_prog_77_method_3_code_4) rfl ((if0 _ _).trans (teq (by decide : (0 : Int32) = (0 : Int32))).1) (by decide) (by decide) ?_
    show Steps p.tables e below (T1.setTop (mkF m 25 #[.val (.ref o1)] [])) _
    refine XS.iconst X1.here hx rfl (hb hby d_prog_77_method_3_code_25) ?_
    show Steps p.tables e below (T1.setTop (mkF m 26 #[.val (.ref o1)] [(.int (0 : Int32))])) _
    exact retN X1 hx (t := .boolean) Bd.returns (by simp) (hb hby d_prog_77_method_3_code_26) hr
  · show OQ (some (.int (0 : Int32))) h0 Z.heap.size _ T1.heap _
    rw [e1]
    exact ⟨rfl, N0, rfl⟩
set_option maxRecDepth 65536 in
set_option maxHeartbeats 40000000 in
theorem law_18 (l : Launch) (Z : State) (a0 : Array Value) (hw : ∀ d ∈ tables_1, d.before a0 Z = true) (w : Nat → Addr) (kk : Nat → ClassId) (iw : Nat → Int32) (vw : Nat → Value) (hN : Wd Z w kk iw vw) (ws : List Jvm.Cond) (p0 : Int32) (p1 : Int32) (p2 : Int32) (h0 : Heap) (O0 : Old Z Z.heap.size h0) (hp0 : (p1 &&& (3 : Int32)) = (1 : Int32)) (hp1 : ¬ ((255 : Int32) < ((p2 &&& (255 : Int32)).toUInt32.toUInt16.toUInt32.toInt32))) (hp2 : (p0 &&& (1 : Int32)) = (0 : Int32)) (hp3 : (p0 &&& (2 : Int32)) = (0 : Int32)) :
    MetFree l x (head1 (Jvm.Cond.code x code maxLocals ret :: ws) room_1) (fun a U => a = #[(.int p0), (.int p1), (.int p2)] ∧ Z.Warmed39 U.vm ∧ U.heap = h0) (fun _ _ _ _ _ => True) (fun _ U o U' => ∃ v L, o = .returned v ∧ OL (some (.int (1 : Int32))) Z.heap.size v U'.heap L ∧ FrameEnd U o U' L 16 128) := by
  have hN' := hN
  obtain ⟨hS0, hE0, hS1, hE1, hS2, hE2, hI0, hJ0, hR0, hRr0⟩ := hN'
  refine MetFree.of_bodySF (plainFor_of_name pn_0) hisR ?_
  intro p e s m args below meth c s₁ Bd hml0 hP hK
  obtain ⟨rfl, hZ, hh⟩ := hP
  have hx := Bd.exec
  have hby := Bd.bytes
  have hml : c.maxLocals = 12 := hml0
  have hown : s.vm.findClass "com/example/netloom/netloom/xml/OpenAnnotationsCarriesGraphicsPinLaw" = some m.cls := findClass_of_methodNamed Bd.named
  have hnm := (name_of_methodNamed Bd.named Bd.method).1
  have X0 : Stand p l e room_1 s m #[(.int p0), (.int p1), (.int p2)] below meth c s₁ [] 0 0 := Stand.of_body Bd
  have e0 : s₁.heap = h0 := by rw [← hh, Bd.state]; rfl
  have N0 := Fr.nil Z.heap.size
  have pre0 : ∀ t, Steps p.tables e below (s₁.setTop (mkF m 0 #[.val (.int p0), .val (.int p1), .val (.int p2), .unset, .unset, .unset, .unset, .unset, .unset, .unset, .unset, .unset] [])) t → Steps p.tables e below (s₁.setTop (entryFrame m #[(.int p0), (.int p1), (.int p2)] maxLocals)) t := fun t k => castTop (ef_4 m (.int p0) rfl (.int p1) rfl (.int p2) rfl) k
  obtain ⟨_, _, ⟨T1, L1, k1, n1⟩, -, X1, ⟨Lc1, hQ1, l1, y1, z1⟩, st1⟩ := Jvm.LawKit.callS X0 hx (y := (⟨"com/example/netloom/netloom/xml/OpenAnnotationsCarriesGraphicsPinLaw", "pick", "(I)Lcom/example/netloom/netloom/xml/XmlGraphics$Form;"⟩ : MethodName)) hown (mvT hZ (W hw 0 rfl)) (mvT hZ (W hw 1 rfl)) (mvT hZ (W hw 2 rfl)) (mvT hZ (W hw 3 rfl)) (by decide) (backOf (W := 0) (rm_15 l Z a0 hw w kk iw vw hN [] h0 O0) hZ (W hw 3 rfl) (W hw 2 rfl) (by decide) (by decide)) (g := (mkF m 3 #[.val (.int p0), .val (.int p1), .val (.int p2), .unset, .unset, .unset, .unset, .unset, .unset, .unset, .unset, .unset] [(.int (1 : Int32))])) rfl (by rw [hml]; rfl) (argsL := [(.int (1 : Int32))]) (rest := []) (lenOf pd_0 rfl) rfl (by show 2 * 0 + _ ≤ _; exact Nat.le_of_eq rfl) (hb hby at_3) (fun _ _ => ⟨rfl, e0, (by decide : 0 + 0 ≤ _), (by decide : 0 + 0 ≤ _)⟩)
  dsimp only [Pt.U, Pt.locs, Pt.cells, Pt.slots] at X1 l1 y1 z1 st1 hQ1
  subst l1 y1 z1
  obtain ⟨rfl, N1q, e1⟩ := hQ1
  have N1 := Fr.app N0 N1q
  obtain ⟨_, _, ⟨T2, L2, k2, n2⟩, -, X2, ⟨Lc2, hQ2, l2, y2, z2⟩, st2⟩ := Jvm.LawKit.callS X1 hx (y := (⟨"java/lang/String", "valueOf", "(C)Ljava/lang/String;"⟩ : MethodName)) hown (mvT hZ (W hw 7 rfl)) (mvT hZ (W hw 8 rfl)) (mvT hZ (W hw 9 rfl)) (mvT hZ (W hw 10 rfl)) (by decide) (backOf (W := 0) (rm_5 l Z a0 hw w kk iw vw hN [] ((p2 &&& (255 : Int32)).toUInt32.toUInt16.toUInt32.toInt32) h0 O0 hp1) hZ (W hw 10 rfl) (W hw 9 rfl) (by decide) (by decide)) (g := (mkF m 13 #[.val (.int p0), .val (.int p1), .val (.int p2), .val (.ref (w 2)), .unset, .unset, .unset, .unset, .unset, .unset, .unset, .unset] [(.int ((p2 &&& (255 : Int32)).toUInt32.toUInt16.toUInt32.toInt32))])) rfl (by rw [hml]; rfl) (argsL := [(.int ((p2 &&& (255 : Int32)).toUInt32.toUInt16.toUInt32.toInt32))]) (rest := []) (lenOf pd_4 rfl) rfl (by show 2 * 0 + _ ≤ _; exact Nat.le_of_eq rfl) (hb hby at_13) (fun _ _ => ⟨rfl, e1, (by decide : 0 + 2 ≤ _), (by decide : 0 + 5 ≤ _)⟩)
  dsimp only [Pt.U, Pt.locs, Pt.cells, Pt.slots] at X2 l2 y2 z2 st2 hQ2
  subst l2 y2 z2
  obtain ⟨b2_0, b2_1, kb2_0, rfl, N2q, Kq2, tk2_0, tk2_1, tk2_2, tk2_3, tk2_4, tk2_5, tk2_6⟩ := hQ2
  have N2 := Fr.app N1 N2q
  have gn_b2_0 : Z.heap.size ≤ b2_0 := Nat.le_trans O0.2.1 tk2_0
  have gn_b2_1 : Z.heap.size ≤ b2_1 := Nat.le_trans O0.2.1 tk2_1
  have O2 := O0.keep Kq2 all0
  obtain ⟨T3, h3, X3, e3, E3, A3, D3, -, st3⟩ := newO X2 hx hZ hown (W hw 33 rfl) (W hw 34 rfl) (W hw 35 rfl) rfl (g := (mkF m 18 #[.val (.int p0), .val (.int p1), .val (.int p2), .val (.ref (w 2)), .val (.ref b2_0), .unset, .unset, .unset, .unset, .unset, .unset, .unset] [])) rfl (hb hby at_18) (by decide) (by decide)
  obtain ⟨b3, g3⟩ : ∃ z, z = T2.heap.size := ⟨_, rfl⟩
  rw [← g3] at A3 st3 D3
  have gn_b3 : Z.heap.size ≤ b3 := Nat.le_trans O2.2.1 (Nat.le_of_eq g3.symm)
  have ne_b2_1_b3 : b2_1 ≠ b3 := Nat.ne_of_lt (Nat.lt_of_lt_of_le tk2_6.lt (Nat.le_of_eq g3.symm))
  have ne_b2_0_b3 : b2_0 ≠ b3 := Nat.ne_of_lt (Nat.lt_of_lt_of_le tk2_3.lt (Nat.le_of_eq g3.symm))
  have tk2_3_v3 := tk2_3.ext E3
  have tk2_4_v3 := tk2_4.ext E3
  have tk2_5_v3 := tk2_5.ext E3
  have tk2_6_v3 := tk2_6.ext E3
  have O3 := O2.ext E3
  have E_b3_v3 := A3
  have F_b3_owner_v3 : Fld Z h3 b3 "com/example/netloom/netloom/xml/NetReader$OpenAnnotations" "owner" "Ljava/lang/String;" .null := D3 (Or.inr (W hw 41 rfl)) (ty := (.object "java/lang/String")) (by decide)
  have F_b3_form_v3 : Fld Z h3 b3 "com/example/netloom/netloom/xml/NetReader$OpenAnnotations" "form" "Lcom/example/netloom/netloom/xml/XmlGraphics$Form;" .null := D3 (Or.inr (W hw 43 rfl)) (ty := (.object "com/example/netloom/netloom/xml/XmlGraphics$Form")) (by decide)
  have F_b3_carries_v3 : Fld Z h3 b3 "com/example/netloom/netloom/xml/NetReader$OpenAnnotations" "carries" "Ljava/util/Set;" .null := D3 (Or.inr (W hw 45 rfl)) (ty := (.object "java/util/Set")) (by decide)
  have F_b3_graphicsCarried_v3 : Fld Z h3 b3 "com/example/netloom/netloom/xml/NetReader$OpenAnnotations" "graphicsCarried" "Z" (.int (0 : Int32)) := D3 (Or.inl (W hw 52 rfl)) (ty := .boolean) (by decide)
  have F_b3_graphics_v3 : Fld Z h3 b3 "com/example/netloom/netloom/xml/NetReader$OpenAnnotations" "graphics" "Lcom/example/netloom/netloom/net/Graphics;" .null := D3 (Or.inl (W hw 59 rfl)) (ty := (.object "com/example/netloom/netloom/net/Graphics")) (by decide)
  obtain ⟨_, _, ⟨T4, L4, k4, n4⟩, -, X4, ⟨Lc4, hQ4, l4, y4, z4⟩, st4⟩ := X3.specialBack hx (y := (⟨"com/example/netloom/netloom/xml/NetReader$OpenAnnotations", "<init>", "(Ljava/lang/String;Lcom/example/netloom/netloom/xml/XmlGraphics$Form;Ljava/util/Set;)V"⟩ : MethodName)) rfl hown (mvT hZ (W hw 36 rfl)) (mvT hZ (W hw 37 rfl)) (mvT hZ (W hw 38 rfl)) (by decide) (backOf (W := 1) (rm_16 l Z a0 hw w kk iw vw hN [] b3 b2_0 b2_1 ((((p2 &&& (255 : Int32)).toUInt32.toUInt16.toUInt32.toInt32).toInt8.toInt32).toInt8.toInt32) kb2_0 h3 O3 gn_b3 E_b3_v3.lt gn_b2_0 tk2_3_v3.lt E_b3_v3 F_b3_owner_v3 F_b3_form_v3 F_b3_carries_v3 F_b3_graphicsCarried_v3 F_b3_graphics_v3 tk2_3_v3 gn_b2_1 tk2_6_v3.lt tk2_4_v3 tk2_5_v3 tk2_6_v3 (Ne.symm ne_b2_0_b3) (Ne.symm ne_b2_1_b3) tk2_2) hZ (W hw 38 rfl) (W hw 35 rfl) (by decide) (by decide)) (g := (mkF m 26 #[.val (.int p0), .val (.int p1), .val (.int p2), .val (.ref (w 2)), .val (.ref b2_0), .unset, .unset, .unset, .unset, .unset, .unset, .unset] [.null, (.ref (w 2)), (.ref b2_0), (.ref b3), (.ref b3)])) rfl (by rw [hml]; rfl) (Steps.refl _) (a := b3) (argsL := [(.ref b2_0), (.ref (w 2)), .null]) (rest := [(.ref b3)]) (lenOf pd_5 rfl) rfl (by show 2 * 0 + _ ≤ _; exact Nat.le_of_eq rfl) (hb hby at_26) (fun _ _ => ⟨rfl, e3, (by decide : 3 + 0 ≤ _), (by decide : 16 + 0 ≤ _)⟩)
  dsimp only [Pt.U, Pt.locs, Pt.cells, Pt.slots] at X4 l4 y4 z4 st4 hQ4
  subst l4 y4 z4
  obtain ⟨rfl, N4q, Kq4, tk4_0, tk4_1, tk4_2, tk4_3, tk4_4, tk4_5⟩ := hQ4
  have N4 := Fr.app N2 N4q
  have tk2_3_v4 := tk2_3_v3.keep Kq4
  have tk2_4_v4 := tk2_4_v3.keep Kq4 (ninS ne_b2_0_b3 nin0)
  have tk2_5_v4 := tk2_5_v3.keep Kq4 (ninS ne_b2_0_b3 nin0)
  have tk2_6_v4 := tk2_6_v3.keep Kq4 (ninS ne_b2_1_b3 nin0)
  have E_b3_v4 := E_b3_v3.keep Kq4
  have O4 := O3.keep Kq4 (allS gn_b3 all0)
  obtain ⟨cq5, kq5, q5a, q5b, q5c⟩ := isOf hZ rfl tk4_0
  obtain ⟨_, _, ⟨T5, L5, k5, n5⟩, -, X5, ⟨Lc5, hQ5, l5, y5, z5⟩, st5⟩ := X4.virtualBack hx (y := (⟨"com/example/netloom/netloom/xml/NetReader$OpenAnnotations", "carriesGraphics", "()Z"⟩ : MethodName)) (z := (⟨"com/example/netloom/netloom/xml/NetReader$OpenAnnotations", "carriesGraphics", "()Z"⟩ : MethodName)) hown (mvT hZ (W hw 46 rfl)) (mvT hZ (W hw 47 rfl)) (notFace_of_selects (args := #[]) (mvT hZ (W hw 49 rfl))) (mvT hZ (W hw 49 rfl)) (mvT hZ (W hw 48 rfl)) (by decide) (backOf (W := 0) (rm_17 l Z a0 hw w kk iw vw hN [] b3 b2_0 b2_1 ((((p2 &&& (255 : Int32)).toUInt32.toUInt16.toUInt32.toInt32).toInt8.toInt32).toInt8.toInt32) kb2_0 T4.heap O4 gn_b3 tk4_0.lt tk4_0 gn_b2_0 tk2_3_v4.lt tk4_1 tk4_2 tk4_3 tk4_4 tk4_5 tk2_3_v4 gn_b2_1 tk2_6_v4.lt tk2_4_v4 tk2_5_v4 tk2_6_v4 (Ne.symm ne_b2_0_b3) (Ne.symm ne_b2_1_b3) tk2_2) hZ (W hw 50 rfl) (W hw 35 rfl) (by decide) (by decide)) q5a q5c (g := (mkF m 33 #[.val (.int p0), .val (.int p1), .val (.int p2), .val (.ref (w 2)), .val (.ref b2_0), .val (.ref b3), .unset, .unset, .unset, .unset, .unset, .unset] [(.ref b3)])) rfl (by rw [hml]; rfl) (Steps.refl _) (argsL := []) (rest := []) (lenOf pd_6 rfl) rfl (by show 2 * 0 + _ ≤ _; exact Nat.le_of_eq rfl) (hb hby at_33) (fun _ _ => ⟨rfl, rfl, (by decide : 3 + 0 ≤ _), (by decide : 16 + 0 ≤ _)⟩)
  dsimp only [Pt.U, Pt.locs, Pt.cells, Pt.slots] at X5 l5 y5 z5 st5 hQ5
  subst l5 y5 z5
  obtain ⟨rfl, N5q, e5⟩ := hQ5
  have N5 := Fr.app N4 N5q
  obtain ⟨cq6, kq6, q6a, q6b, q6c⟩ := isOf hZ e5 tk4_0
  obtain ⟨_, _, ⟨T6, L6, k6, n6⟩, -, X6, ⟨Lc6, hQ6, l6, y6, z6⟩, st6⟩ := X5.virtualBack hx (y := (⟨"com/example/netloom/netloom/xml/NetReader$OpenAnnotations", "carriesGraphics", "()Z"⟩ : MethodName)) (z := (⟨"com/example/netloom/netloom/xml/NetReader$OpenAnnotations", "carriesGraphics", "()Z"⟩ : MethodName)) hown (mvT hZ (W hw 46 rfl)) (mvT hZ (W hw 47 rfl)) (notFace_of_selects (args := #[]) (mvT hZ (W hw 49 rfl))) (mvT hZ (W hw 49 rfl)) (mvT hZ (W hw 48 rfl)) (by decide) (backOf (W := 0) (rm_17 l Z a0 hw w kk iw vw hN [] b3 b2_0 b2_1 ((((p2 &&& (255 : Int32)).toUInt32.toUInt16.toUInt32.toInt32).toInt8.toInt32).toInt8.toInt32) kb2_0 T4.heap O4 gn_b3 tk4_0.lt tk4_0 gn_b2_0 tk2_3_v4.lt tk4_1 tk4_2 tk4_3 tk4_4 tk4_5 tk2_3_v4 gn_b2_1 tk2_6_v4.lt tk2_4_v4 tk2_5_v4 tk2_6_v4 (Ne.symm ne_b2_0_b3) (Ne.symm ne_b2_1_b3) tk2_2) hZ (W hw 50 rfl) (W hw 35 rfl) (by decide) (by decide)) q6a q6c (g := (mkF m 86 #[.val (.int p0), .val (.int p1), .val (.int p2), .val (.ref (w 2)), .val (.ref b2_0), .val (.ref b3), .val (.int (0 : Int32)), .val (.int (0 : Int32)), .val (.int (0 : Int32)), .unset, .unset, .unset] [(.ref b3)])) rfl (by rw [hml]; rfl) (Steps.refl _) (argsL := []) (rest := []) (lenOf pd_6 rfl) rfl (by show 2 * 0 + _ ≤ _; exact Nat.le_of_eq rfl) (hb hby at_86) (fun _ _ => ⟨rfl, e5, (by decide : 3 + 0 ≤ _), (by decide : 16 + 0 ≤ _)⟩)
  dsimp only [Pt.U, Pt.locs, Pt.cells, Pt.slots] at X6 l6 y6 z6 st6 hQ6
  subst l6 y6 z6
  obtain ⟨rfl, N6q, e6⟩ := hQ6
  have N6 := Fr.app N5 N6q
  obtain ⟨cq7, kq7, q7a, q7b, q7c⟩ := isOf hZ e6 tk4_0
  obtain ⟨_, _, ⟨T7, L7, k7, n7⟩, -, X7, ⟨Lc7, hQ7, l7, y7, z7⟩, st7⟩ := X6.virtualBack hx (y := (⟨"com/example/netloom/netloom/xml/NetReader$OpenAnnotations", "carriesGraphics", "()Z"⟩ : MethodName)) (z := (⟨"com/example/netloom/netloom/xml/NetReader$OpenAnnotations", "carriesGraphics", "()Z"⟩ : MethodName)) hown (mvT hZ (W hw 46 rfl)) (mvT hZ (W hw 47 rfl)) (notFace_of_selects (args := #[]) (mvT hZ (W hw 49 rfl))) (mvT hZ (W hw 49 rfl)) (mvT hZ (W hw 48 rfl)) (by decide) (backOf (W := 0) (rm_17 l Z a0 hw w kk iw vw hN [] b3 b2_0 b2_1 ((((p2 &&& (255 : Int32)).toUInt32.toUInt16.toUInt32.toInt32).toInt8.toInt32).toInt8.toInt32) kb2_0 T4.heap O4 gn_b3 tk4_0.lt tk4_0 gn_b2_0 tk2_3_v4.lt tk4_1 tk4_2 tk4_3 tk4_4 tk4_5 tk2_3_v4 gn_b2_1 tk2_6_v4.lt tk2_4_v4 tk2_5_v4 tk2_6_v4 (Ne.symm ne_b2_0_b3) (Ne.symm ne_b2_1_b3) tk2_2) hZ (W hw 50 rfl) (W hw 35 rfl) (by decide) (by decide)) q7a q7c (g := (mkF m 93 #[.val (.int p0), .val (.int p1), .val (.int p2), .val (.ref (w 2)), .val (.ref b2_0), .val (.ref b3), .val (.int (0 : Int32)), .val (.int (0 : Int32)), .val (.int (0 : Int32)), .val (.int (0 : Int32)), .unset, .unset] [(.ref b3)])) rfl (by rw [hml]; rfl) (Steps.refl _) (argsL := []) (rest := []) (lenOf pd_6 rfl) rfl (by show 2 * 0 + _ ≤ _; exact Nat.le_of_eq rfl) (hb hby at_93) (fun _ _ => ⟨rfl, e6, (by decide : 3 + 0 ≤ _), (by decide : 16 + 0 ≤ _)⟩)
  dsimp only [Pt.U, Pt.locs, Pt.cells, Pt.slots] at X7 l7 y7 z7 st7 hQ7
  subst l7 y7 z7
  obtain ⟨rfl, N7q, e7⟩ := hQ7
  have N7 := Fr.app N6 N7q
  obtain ⟨fs, hr, hrun, hended, hW, hsame⟩ := X7.leave (v := some (.int (1 : Int32))) (fun h => by rw [Bd.returns] at h; cases h)
  refine ⟨_, _, pre0 _ ?_, hrun, hended, _, _, rfl, ?_, ⟨_, rfl⟩, hW, hsame.mono (by decide) (by decide)⟩
  · show Steps p.tables e below (s₁.setTop (mkF m 0 #[.val (.int p0), .val (.int p1), .val (.int p2), .unset, .unset, .unset, .unset, .unset, .unset, .unset, .unset, .unset] [])) _
    refine XS.iloadN X0.here hx rfl (hb hby at_0) rfl ?_
    show Steps p.tables e below (s₁.setTop (mkF m 1 #[.val (.int p0), .val (.int p1), .val (.int p2), .unset, .unset, .unset, .unset, .unset, .unset, .unset, .unset, .unset] [(.int p1)])) _
    refine XS.iconst X0.here hx rfl (hb hby at_1) ?_
    show Steps p.tables e below (s₁.setTop (mkF m 2 #[.val (.int p0), .val (.int p1), .val (.int p2), .unset, .unset, .unset, .unset, .unset, .unset, .unset, .unset, .unset] [(.int (3 : Int32)), (.int p1)])) _
    refine XS.iand X0.here hx rfl (hb hby at_2) rfl ?_
    show Steps p.tables e below (s₁.setTop (mkF m 3 #[.val (.int p0), .val (.int p1), .val (.int p2), .unset, .unset, .unset, .unset, .unset, .unset, .unset, .unset, .unset] [(.int (p1 &&& (3 : Int32)))])) _
    rw [hp0]
    show Steps p.tables e below (s₁.setTop (mkF m 3 #[.val (.int p0), .val (.int p1), .val (.int p2), .unset, .unset, .unset, .unset, .unset, .unset, .unset, .unset, .unset] [(.int (1 : Int32))])) _
    refine st1 _ ?_
    show Steps p.tables e below (T1.setTop (mkF m 6 #[.val (.int p0), .val (.int p1), .val (.int p2), .unset, .unset, .unset, .unset, .unset, .unset, .unset, .unset, .unset] [(.ref (w 2))])) _
    refine XS.astoreN X1.here hx rfl (hb hby at_6) rfl rfl (l' := #[.val (.int p0), .val (.int p1), .val (.int p2), .val (.ref (w 2)), .unset, .unset, .unset, .unset, .unset, .unset, .unset, .unset]) rfl ?_
    show Steps p.tables e below (T1.setTop (mkF m 7 #[.val (.int p0), .val (.int p1), .val (.int p2), .val (.ref (w 2)), .unset, .unset, .unset, .unset, .unset, .unset, .unset, .unset] [])) _
    refine XS.iloadN X1.here hx rfl (hb hby at_7) rfl ?_
    show Steps p.tables e below (T1.setTop (mkF m 8 #[.val (.int p0), .val (.int p1), .val (.int p2), .val (.ref (w 2)), .unset, .unset, .unset, .unset, .unset, .unset, .unset, .unset] [(.int p2)])) _
    refine XS.sipush X1.here hx rfl (hb hby at_8) ?_
    show Steps p.tables e below (T1.setTop (mkF m 11 #[.val (.int p0), .val (.int p1), .val (.int p2), .val (.ref (w 2)), .unset, .unset, .unset, .unset, .unset, .unset, .unset, .unset] [(.int (255 : Int32)), (.int p2)])) _
    refine XS.iand X1.here hx rfl (hb hby at_11) rfl ?_
    show Steps p.tables e below (T1.setTop (mkF m 12 #[.val (.int p0), .val (.int p1), .val (.int p2), .val (.ref (w 2)), .unset, .unset, .unset, .unset, .unset, .unset, .unset, .unset] [(.int (p2 &&& (255 : Int32)))])) _
    refine XS.i2c X1.here hx rfl (hb hby at_12) rfl ?_
    show Steps p.tables e below (T1.setTop (mkF m 13 #[.val (.int p0), .val (.int p1), .val (.int p2), .val (.ref (w 2)), .unset, .unset, .unset, .unset, .unset, .unset, .unset, .unset] [(.int ((p2 &&& (255 : Int32)).toUInt32.toUInt16.toUInt32.toInt32))])) _
    refine st2 _ ?_
    show Steps p.tables e below (T2.setTop (mkF m 16 #[.val (.int p0), .val (.int p1), .val (.int p2), .val (.ref (w 2)), .unset, .unset, .unset, .unset, .unset, .unset, .unset, .unset] [(.ref b2_0)])) _
    refine XS.astore X2.here hx rfl (hb hby at_16) rfl rfl (l' := #[.val (.int p0), .val (.int p1), .val (.int p2), .val (.ref (w 2)), .val (.ref b2_0), .unset, .unset, .unset, .unset, .unset, .unset, .unset]) rfl ?_
    show Steps p.tables e below (T2.setTop (mkF m 18 #[.val (.int p0), .val (.int p1), .val (.int p2), .val (.ref (w 2)), .val (.ref b2_0), .unset, .unset, .unset, .unset, .unset, .unset, .unset] [])) _
    refine st3 _ ?_
    show Steps p.tables e below (T3.setTop (mkF m 21 #[.val (.int p0), .val (.int p1), .val (.int p2), .val (.ref (w 2)), .val (.ref b2_0), .unset, .unset, .unset, .unset, .unset, .unset, .unset] [(.ref b3)])) _
    refine XS.dup X3.here hx rfl (hb hby at_21) rfl rfl ?_
    show Steps p.tables e below (T3.setTop (mkF m 22 #[.val (.int p0), .val (.int p1), .val (.int p2), .val (.ref (w 2)), .val (.ref b2_0), .unset, .unset, .unset, .unset, .unset, .unset, .unset] [(.ref b3), (.ref b3)])) _
    refine XS.aload X3.here hx rfl (hb hby at_22) rfl rfl ?_
    show Steps p.tables e below (T3.setTop (mkF m 24 #[.val (.int p0), .val (.int p1), .val (.int p2), .val (.ref (w 2)), .val (.ref b2_0), .unset, .unset, .unset, .unset, .unset, .unset, .unset] [(.ref b2_0), (.ref b3), (.ref b3)])) _
    refine XS.aloadN X3.here hx rfl (hb hby at_24) rfl rfl ?_
    show Steps p.tables e below (T3.setTop (mkF m 25 #[.val (.int p0), .val (.int p1), .val (.int p2), .val (.ref (w 2)), .val (.ref b2_0), .unset, .unset, .unset, .unset, .unset, .unset, .unset] [(.ref (w 2)), (.ref b2_0), (.ref b3), (.ref b3)])) _
    refine XS.aconstNull X3.here hx rfl (hb hby at_25) ?_
    show Steps p.tables e below (T3.setTop (mkF m 26 #[.val (.int p0), .val (.int p1), .val (.int p2), .val (.ref (w 2)), .val (.ref b2_0), .unset, .unset, .unset, .unset, .unset, .unset, .unset] [.null, (.ref (w 2)), (.ref b2_0), (.ref b3), (.ref b3)])) _
    refine st4.trans ?_
    show Steps p.tables e below (T4.setTop (mkF m 29 #[.val (.int p0), .val (.int p1), .val (.int p2), .val (.ref (w 2)), .val (.ref b2_0), .unset, .unset, .unset, .unset, .unset, .unset, .unset] [(.ref b3)])) _
    refine XS.astore X4.here hx rfl (hb hby at_29) rfl rfl (l' := #[.val (.int p0), .val (.int p1), .val (.int p2), .val (.ref (w 2)), .val (.ref b2_0), .val (.ref b3), .unset, .unset, .unset, .unset, .unset, .unset]) rfl ?_
    show Steps p.tables e below (T4.setTop (mkF m 31 #[.val (.int p0), .val (.int p1), .val (.int p2), .val (.ref (w 2)), .val (.ref b2_0), .val (.ref b3), .unset, .unset, .unset, .unset, .unset, .unset] [])) _
    refine XS.aload X4.here hx rfl (hb hby at_31) rfl rfl ?_
    show Steps p.tables e below (T4.setTop (mkF m 33 #[.val (.int p0), .val (.int p1), .val (.int p2), .val (.ref (w 2)), .val (.ref b2_0), .val (.ref b3), .unset, .unset, .unset, .unset, .unset, .unset] [(.ref b3)])) _
    refine st5.trans ?_
    show Steps p.tables e below (T5.setTop (mkF m 36 #[.val (.int p0), .val (.int p1), .val (.int p2), .val (.ref (w 2)), .val (.ref b2_0), .val (.ref b3), .unset, .unset, .unset, .unset, .unset, .unset] [(.int (0 : Int32))])) _
    refine XS.istore X5.here hx rfl (hb hby at_36) rfl (l' := #[.val (.int p0), .val (.int p1), .val (.int p2), .val (.ref (w 2)), .val (.ref b2_0), .val (.ref b3), .val (.int (0 : Int32)), .unset, .unset, .unset, .unset, .unset]) rfl ?_
    show Steps p.tables e below (T5.setTop (mkF m 38 #[.val (.int p0), .val (.int p1), .val (.int p2), .val (.ref (w 2)), .val (.ref b2_0), .val (.ref b3), .val (.int (0 : Int32)), .unset, .unset, .unset, .unset, .unset] [])) _
    refine XS.iloadN X5.here hx rfl (hb hby at_38) rfl ?_
    show Steps p.tables e below (T5.setTop (mkF m 39 #[.val (.int p0), .val (.int p1), .val (.int p2), .val (.ref (w 2)), .val (.ref b2_0), .val (.ref b3), .val (.int (0 : Int32)), .unset, .unset, .unset, .unset, .unset] [(.int p0)])) _
    refine XS.iconst X5.here hx rfl (hb hby at_39) ?_
    show Steps p.tables e below (T5.setTop (mkF m 40 #[.val (.int p0), .val (.int p1), .val (.int p2), .val (.ref (w 2)), .val (.ref b2_0), .val (.ref b3), .val (.int (0 : Int32)), .unset, .unset, .unset, .unset, .unset] [(.int (1 : Int32)), (.int p0)])) _
    refine XS.iand X5.here hx rfl (hb hby at_40) rfl ?_
    show Steps p.tables e below (T5.setTop (mkF m 41 #[.val (.int p0), .val (.int p1), .val (.int p2), .val (.ref (w 2)), .val (.ref b2_0), .val (.ref b3), .val (.int (0 : Int32)), .unset, .unset, .unset, .unset, .unset] [(.int (p0 &&& (1 : Int32)))])) _
    rw [hp2]
    show Steps p.tables e below (T5.setTop (mkF m 41 #[.val (.int p0), .val (.int p1), .val (.int p2), .val (.ref (w 2)), .val (.ref b2_0), .val (.ref b3), .val (.int (0 : Int32)), .unset, .unset, .unset, .unset, .unset] [(.int (0 : Int32))])) _
    refine XS.ifYes X5.here hx rfl (pc0 := 41) (pc' := 48) rfl (hb hby at_41) rfl ((if0 _ _).trans (teq (by decide : (0 : Int32) = (0 : Int32))).1) (by decide) (by decide) ?_
    show Steps p.tables e below (T5.setTop (mkF m 48 #[.val (.int p0), .val (.int p1), .val (.int p2), .val (.ref (w 2)), .val (.ref b2_0), .val (.ref b3), .val (.int (0 : Int32)), .unset, .unset, .unset, .unset, .unset] [])) _
    refine XS.iconst X5.here hx rfl (hb hby at_48) ?_
    show Steps p.tables e below (T5.setTop (mkF m 49 #[.val (.int p0), .val (.int p1), .val (.int p2), .val (.ref (w 2)), .val (.ref b2_0), .val (.ref b3), .val (.int (0 : Int32)), .unset, .unset, .unset, .unset, .unset] [(.int (0 : Int32))])) _
    refine XS.istore X5.here hx rfl (hb hby at_49) rfl (l' := #[.val (.int p0), .val (.int p1), .val (.int p2), .val (.ref (w 2)), .val (.ref b2_0), .val (.ref b3), .val (.int (0 : Int32)), .val (.int (0 : Int32)), .unset, .unset, .unset, .unset]) rfl ?_
    show Steps p.tables e below (T5.setTop (mkF m 51 #[.val (.int p0), .val (.int p1), .val (.int p2), .val (.ref (w 2)), .val (.ref b2_0), .val (.ref b3), .val (.int (0 : Int32)), .val (.int (0 : Int32)), .unset, .unset, .unset, .unset] [])) _
    refine XS.iloadN X5.here hx rfl (hb hby at_51) rfl ?_
    show Steps p.tables e below (T5.setTop (mkF m 52 #[.val (.int p0), .val (.int p1), .val (.int p2), .val (.ref (w 2)), .val (.ref b2_0), .val (.ref b3), .val (.int (0 : Int32)), .val (.int (0 : Int32)), .unset, .unset, .unset, .unset] [(.int p0)])) _
    refine XS.iconst X5.here hx rfl (hb hby at_52) ?_
    show Steps p.tables e below (T5.setTop (mkF m 53 #[.val (.int p0), .val (.int p1), .val (.int p2), .val (.ref (w 2)), .val (.ref b2_0), .val (.ref b3), .val (.int (0 : Int32)), .val (.int (0 : Int32)), .unset, .unset, .unset, .unset] [(.int (2 : Int32)), (.int p0)])) _
    refine XS.iand X5.here hx rfl (hb hby at_53) rfl ?_
    show Steps p.tables e below (T5.setTop (mkF m 54 #[.val (.int p0), .val (.int p1), .val (.int p2), .val (.ref (w 2)), .val (.ref b2_0), .val (.ref b3), .val (.int (0 : Int32)), .val (.int (0 : Int32)), .unset, .unset, .unset, .unset] [(.int (p0 &&& (2 : Int32)))])) _
    refine XS.ifYes X5.here hx rfl (pc0 := 54) (pc' := 61) rfl (hb hby at_54) rfl ((if0 _ _).trans (teq hp3).1) (by decide) (by decide) ?_
    show Steps p.tables e below (T5.setTop (mkF m 61 #[.val (.int p0), .val (.int p1), .val (.int p2), .val (.ref (w 2)), .val (.ref b2_0), .val (.ref b3), .val (.int (0 : Int32)), .val (.int (0 : Int32)), .unset, .unset, .unset, .unset] [])) _
    refine XS.iconst X5.here hx rfl (hb hby at_61) ?_
    show Steps p.tables e below (T5.setTop (mkF m 62 #[.val (.int p0), .val (.int p1), .val (.int p2), .val (.ref (w 2)), .val (.ref b2_0), .val (.ref b3), .val (.int (0 : Int32)), .val (.int (0 : Int32)), .unset, .unset, .unset, .unset] [(.int (0 : Int32))])) _
    refine XS.istore X5.here hx rfl (hb hby at_62) rfl (l' := #[.val (.int p0), .val (.int p1), .val (.int p2), .val (.ref (w 2)), .val (.ref b2_0), .val (.ref b3), .val (.int (0 : Int32)), .val (.int (0 : Int32)), .val (.int (0 : Int32)), .unset, .unset, .unset]) rfl ?_
    show Steps p.tables e below (T5.setTop (mkF m 64 #[.val (.int p0), .val (.int p1), .val (.int p2), .val (.ref (w 2)), .val (.ref b2_0), .val (.ref b3), .val (.int (0 : Int32)), .val (.int (0 : Int32)), .val (.int (0 : Int32)), .unset, .unset, .unset] [])) _
    refine XS.iload X5.here hx rfl (hb hby at_64) rfl ?_
    show Steps p.tables e below (T5.setTop (mkF m 66 #[.val (.int p0), .val (.int p1), .val (.int p2), .val (.ref (w 2)), .val (.ref b2_0), .val (.ref b3), .val (.int (0 : Int32)), .val (.int (0 : Int32)), .val (.int (0 : Int32)), .unset, .unset, .unset] [(.int (0 : Int32))])) _
    refine XS.ifYes X5.here hx rfl (pc0 := 66) (pc' := 84) rfl (hb hby at_66) rfl ((if0 _ _).trans (teq (by decide : (0 : Int32) = (0 : Int32))).1) (by decide) (by decide) ?_
    show Steps p.tables e below (T5.setTop (mkF m 84 #[.val (.int p0), .val (.int p1), .val (.int p2), .val (.ref (w 2)), .val (.ref b2_0), .val (.ref b3), .val (.int (0 : Int32)), .val (.int (0 : Int32)), .val (.int (0 : Int32)), .unset, .unset, .unset] [])) _
    refine XS.aload X5.here hx rfl (hb hby at_84) rfl rfl ?_
    show Steps p.tables e below (T5.setTop (mkF m 86 #[.val (.int p0), .val (.int p1), .val (.int p2), .val (.ref (w 2)), .val (.ref b2_0), .val (.ref b3), .val (.int (0 : Int32)), .val (.int (0 : Int32)), .val (.int (0 : Int32)), .unset, .unset, .unset] [(.ref b3)])) _
    refine st6.trans ?_
    show Steps p.tables e below (T6.setTop (mkF m 89 #[.val (.int p0), .val (.int p1), .val (.int p2), .val (.ref (w 2)), .val (.ref b2_0), .val (.ref b3), .val (.int (0 : Int32)), .val (.int (0 : Int32)), .val (.int (0 : Int32)), .unset, .unset, .unset] [(.int (0 : Int32))])) _
    refine XS.istore X6.here hx rfl (hb hby at_89) rfl (l' := #[.val (.int p0), .val (.int p1), .val (.int p2), .val (.ref (w 2)), .val (.ref b2_0), .val (.ref b3), .val (.int (0 : Int32)), .val (.int (0 : Int32)), .val (.int (0 : Int32)), .val (.int (0 : Int32)), .unset, .unset]) rfl ?_
    show Steps p.tables e below (T6.setTop (mkF m 91 #[.val (.int p0), .val (.int p1), .val (.int p2), .val (.ref (w 2)), .val (.ref b2_0), .val (.ref b3), .val (.int (0 : Int32)), .val (.int (0 : Int32)), .val (.int (0 : Int32)), .val (.int (0 : Int32)), .unset, .unset] [])) _
    refine XS.aload X6.here hx rfl (hb hby at_91) rfl rfl ?_
    show Steps p.tables e below (T6.setTop (mkF m 93 #[.val (.int p0), .val (.int p1), .val (.int p2), .val (.ref (w 2)), .val (.ref b2_0), .val (.ref b3), .val (.int (0 : Int32)), .val (.int (0 : Int32)), .val (.int (0 : Int32)), .val (.int (0 : Int32)), .unset, .unset] [(.ref b3)])) _
    refine st7.trans ?_
    show Steps p.tables e below (T7.setTop (mkF m 96 #[.val (.int p0), .val (.int p1), .val (.int p2), .val (.ref (w 2)), .val (.ref b2_0), .val (.ref b3), .val (.int (0 : Int32)), .val (.int (0 : Int32)), .val (.int (0 : Int32)), .val (.int (0 : Int32)), .unset, .unset] [(.int (0 : Int32))])) _
    refine XS.istore X7.here hx rfl (hb hby at_96) rfl (l' := #[.val (.int p0), .val (.int p1), .val (.int p2), .val (.ref (w 2)), .val (.ref b2_0), .val (.ref b3), .val (.int (0 : Int32)), .val (.int (0 : Int32)), .val (.int (0 : Int32)), .val (.int (0 : Int32)), .val (.int (0 : Int32)), .unset]) rfl ?_
    show Steps p.tables e below (T7.setTop (mkF m 98 #[.val (.int p0), .val (.int p1), .val (.int p2), .val (.ref (w 2)), .val (.ref b2_0), .val (.ref b3), .val (.int (0 : Int32)), .val (.int (0 : Int32)), .val (.int (0 : Int32)), .val (.int (0 : Int32)), .val (.int (0 : Int32)), .unset] [])) _
    refine XS.iload X7.here hx rfl (hb hby at_98) rfl ?_
    show Steps p.tables e below (T7.setTop (mkF m 100 #[.val (.int p0), .val (.int p1), .val (.int p2), .val (.ref (w 2)), .val (.ref b2_0), .val (.ref b3), .val (.int (0 : Int32)), .val (.int (0 : Int32)), .val (.int (0 : Int32)), .val (.int (0 : Int32)), .val (.int (0 : Int32)), .unset] [(.int (0 : Int32))])) _
    refine XS.ifYes X7.here hx rfl (pc0 := 100) (pc' := 111) rfl (hb hby at_100) rfl ((if0 _ _).trans (teq (by decide : (0 : Int32) = (0 : Int32))).1) (by decide) (by decide) ?_
    show Steps p.tables e below (T7.setTop (mkF m 111 #[.val (.int p0), .val (.int p1), .val (.int p2), .val (.ref (w 2)), .val (.ref b2_0), .val (.ref b3), .val (.int (0 : Int32)), .val (.int (0 : Int32)), .val (.int (0 : Int32)), .val (.int (0 : Int32)), .val (.int (0 : Int32)), .unset] [])) _
    refine XS.iconst X7.here hx rfl (hb hby at_111) ?_
    show Steps p.tables e below (T7.setTop (mkF m 112 #[.val (.int p0), .val (.int p1), .val (.int p2), .val (.ref (w 2)), .val (.ref b2_0), .val (.ref b3), .val (.int (0 : Int32)), .val (.int (0 : Int32)), .val (.int (0 : Int32)), .val (.int (0 : Int32)), .val (.int (0 : Int32)), .unset] [(.int (0 : Int32))])) _
    refine XS.istore X7.here hx rfl (hb hby at_112) rfl (l' := #[.val (.int p0), .val (.int p1), .val (.int p2), .val (.ref (w 2)), .val (.ref b2_0), .val (.ref b3), .val (.int (0 : Int32)), .val (.int (0 : Int32)), .val (.int (0 : Int32)), .val (.int (0 : Int32)), .val (.int (0 : Int32)), .val (.int (0 : Int32))]) rfl ?_
    show Steps p.tables e below (T7.setTop (mkF m 114 #[.val (.int p0), .val (.int p1), .val (.int p2), .val (.ref (w 2)), .val (.ref b2_0), .val (.ref b3), .val (.int (0 : Int32)), .val (.int (0 : Int32)), .val (.int (0 : Int32)), .val (.int (0 : Int32)), .val (.int (0 : Int32)), .val (.int (0 : Int32))] [])) _
    refine XS.iload X7.here hx rfl (hb hby at_114) rfl ?_
    show Steps p.tables e below (T7.setTop (mkF m 116 #[.val (.int p0), .val (.int p1), .val (.int p2), .val (.ref (w 2)), .val (.ref b2_0), .val (.ref b3), .val (.int (0 : Int32)), .val (.int (0 : Int32)), .val (.int (0 : Int32)), .val (.int (0 : Int32)), .val (.int (0 : Int32)), .val (.int (0 : Int32))] [(.int (0 : Int32))])) _
    refine XS.ifNo X7.here hx rfl (hb hby at_116) rfl ((if0 _ _).trans (teq (by decide : (0 : Int32) = (0 : Int32))).2) ?_
    show Steps p.tables e below (T7.setTop (mkF m 119 #[.val (.int p0), .val (.int p1), .val (.int p2), .val (.ref (w 2)), .val (.ref b2_0), .val (.ref b3), .val (.int (0 : Int32)), .val (.int (0 : Int32)), .val (.int (0 : Int32)), .val (.int (0 : Int32)), .val (.int (0 : Int32)), .val (.int (0 : Int32))] [])) _
    refine XS.iload X7.here hx rfl (hb hby at_119) rfl ?_
    show Steps p.tables e below (T7.setTop (mkF m 121 #[.val (.int p0), .val (.int p1), .val (.int p2), .val (.ref (w 2)), .val (.ref b2_0), .val (.ref b3), .val (.int (0 : Int32)), .val (.int (0 : Int32)), .val (.int (0 : Int32)), .val (.int (0 : Int32)), .val (.int (0 : Int32)), .val (.int (0 : Int32))] [(.int (0 : Int32))])) _
    refine XS.iload X7.here hx rfl (hb hby at_121) rfl ?_
    show Steps p.tables e below (T7.setTop (mkF m 123 #[.val (.int p0), .val (.int p1), .val (.int p2), .val (.ref (w 2)), .val (.ref b2_0), .val (.ref b3), .val (.int (0 : Int32)), .val (.int (0 : Int32)), .val (.int (0 : Int32)), .val (.int (0 : Int32)), .val (.int (0 : Int32)), .val (.int (0 : Int32))] [(.int (0 : Int32)), (.int (0 : Int32))])) _
    refine XS.icmpNo X7.here hx rfl (hb hby at_123) rfl (teq (by decide : (0 : Int32) = (0 : Int32))).2 ?_
    show Steps p.tables e below (T7.setTop (mkF m 126 #[.val (.int p0), .val (.int p1), .val (.int p2), .val (.ref (w 2)), .val (.ref b2_0), .val (.ref b3), .val (.int (0 : Int32)), .val (.int (0 : Int32)), .val (.int (0 : Int32)), .val (.int (0 : Int32)), .val (.int (0 : Int32)), .val (.int (0 : Int32))] [])) _
    refine XS.iload X7.here hx rfl (hb hby at_126) rfl ?_
    show Steps p.tables e below (T7.setTop (mkF m 128 #[.val (.int p0), .val (.int p1), .val (.int p2), .val (.ref (w 2)), .val (.ref b2_0), .val (.ref b3), .val (.int (0 : Int32)), .val (.int (0 : Int32)), .val (.int (0 : Int32)), .val (.int (0 : Int32)), .val (.int (0 : Int32)), .val (.int (0 : Int32))] [(.int (0 : Int32))])) _
    refine XS.iload X7.here hx rfl (hb hby at_128) rfl ?_
    show Steps p.tables e below (T7.setTop (mkF m 130 #[.val (.int p0), .val (.int p1), .val (.int p2), .val (.ref (w 2)), .val (.ref b2_0), .val (.ref b3), .val (.int (0 : Int32)), .val (.int (0 : Int32)), .val (.int (0 : Int32)), .val (.int (0 : Int32)), .val (.int (0 : Int32)), .val (.int (0 : Int32))] [(.int (0 : Int32)), (.int (0 : Int32))])) _
    refine XS.icmpNo X7.here hx rfl (hb hby at_130) rfl (teq (by decide : (0 : Int32) = (0 : Int32))).2 ?_
    show Steps p.tables e below (T7.setTop (mkF m 133 #[.val (.int p0), .val (.int p1), .val (.int p2), .val (.ref (w 2)), .val (.ref b2_0), .val (.ref b3), .val (.int (0 : Int32)), .val (.int (0 : Int32)), .val (.int (0 : Int32)), .val (.int (0 : Int32)), .val (.int (0 : Int32)), .val (.int (0 : Int32))] [])) _
    refine XS.iconst X7.here hx rfl (hb hby at_133) ?_
    show Steps p.tables e below (T7.setTop (mkF m 134 #[.val (.int p0), .val (.int p1), .val (.int p2), .val (.ref (w 2)), .val (.ref b2_0), .val (.ref b3), .val (.int (0 : Int32)), .val (.int (0 : Int32)), .val (.int (0 : Int32)), .val (.int (0 : Int32)), .val (.int (0 : Int32)), .val (.int (0 : Int32))] [(.int (1 : Int32))])) _
    refine XS.goto X7.here hx rfl (pc0 := 134) (pc' := 138) rfl (hb hby at_134) (by decide) (by decide) ?_
    show Steps p.tables e below (T7.setTop (mkF m 138 #[.val (.int p0), .val (.int p1), .val (.int p2), .val (.ref (w 2)), .val (.ref b2_0), .val (.ref b3), .val (.int (0 : Int32)), .val (.int (0 : Int32)), .val (.int (0 : Int32)), .val (.int (0 : Int32)), .val (.int (0 : Int32)), .val (.int (0 : Int32))] [(.int (1 : Int32))])) _
    exact retN X7 hx (t := .boolean) Bd.returns (by simp) (hb hby at_138) hr
  · show OL (some (.int (1 : Int32))) Z.heap.size _ T7.heap _
    exact ⟨rfl, N7⟩
set_option maxRecDepth 65536 in
set_option maxHeartbeats 40000000 in
theorem law_19 (l : Launch) (Z : State) (a0 : Array Value) (hw : ∀ d ∈ tables_1, d.before a0 Z = true) (w : Nat → Addr) (kk : Nat → ClassId) (iw : Nat → Int32) (vw : Nat → Value) (hN : Wd Z w kk iw vw) (ws : List Jvm.Cond) (p0 : Int32) (p1 : Int32) (p2 : Int32) (h0 : Heap) (O0 : Old Z Z.heap.size h0) (hp0 : (p1 &&& (3 : Int32)) = (1 : Int32)) (hp1 : ¬ ((255 : Int32) < ((p2 &&& (255 : Int32)).toUInt32.toUInt16.toUInt32.toInt32))) (hp2 : (p0 &&& (1 : Int32)) = (0 : Int32)) (hp3 : ¬ ((p0 &&& (2 : Int32)) = (0 : Int32))) :
    MetFree l x (head1 (Jvm.Cond.code x code maxLocals ret :: ws) room_1) (fun a U => a = #[(.int p0), (.int p1), (.int p2)] ∧ Z.Warmed39 U.vm ∧ U.heap = h0) (fun _ _ _ _ _ => True) (fun _ U o U' => ∃ v L, o = .returned v ∧ OL (some (.int (1 : Int32))) Z.heap.size v U'.heap L ∧ FrameEnd U o U' L 16 128) := by
  have hN' := hN
  obtain ⟨hS0, hE0, hS1, hE1, hS2, hE2, hI0, hJ0, hR0, hRr0⟩ := hN'
  refine MetFree.of_bodySF (plainFor_of_name pn_0) hisR ?_
  intro p e s m args below meth c s₁ Bd hml0 hP hK
  obtain ⟨rfl, hZ, hh⟩ := hP
  have hx := Bd.exec
  have hby := Bd.bytes
  have hml : c.maxLocals = 12 := hml0
  have hown : s.vm.findClass "com/example/netloom/netloom/xml/OpenAnnotationsCarriesGraphicsPinLaw" = some m.cls := findClass_of_methodNamed Bd.named
  have hnm := (name_of_methodNamed Bd.named Bd.method).1
  have X0 : Stand p l e room_1 s m #[(.int p0), (.int p1), (.int p2)] below meth c s₁ [] 0 0 := Stand.of_body Bd
  have e0 : s₁.heap = h0 := by rw [← hh, Bd.state]; rfl
  have N0 := Fr.nil Z.heap.size
  have pre0 : ∀ t, Steps p.tables e below (s₁.setTop (mkF m 0 #[.val (.int p0), .val (.int p1), .val (.int p2), .unset, .unset, .unset, .unset, .unset, .unset, .unset, .unset, .unset] [])) t → Steps p.tables e below (s₁.setTop (entryFrame m #[(.int p0), (.int p1), (.int p2)] maxLocals)) t := fun t k => castTop (ef_4 m (.int p0) rfl (.int p1) rfl (.int p2) rfl) k
  obtain ⟨_, _, ⟨T1, L1, k1, n1⟩, -, X1, ⟨Lc1, hQ1, l1, y1, z1⟩, st1⟩ := Jvm.LawKit.callS X0 hx (y := (⟨"com/example/netloom/netloom/xml/OpenAnnotationsCarriesGraphicsPinLaw", "pick", "(I)Lcom/example/netloom/netloom/xml/XmlGraphics$Form;"⟩ : MethodName)) hown (mvT hZ (W hw 0 rfl)) (mvT hZ (W hw 1 rfl)) (mvT hZ (W hw 2 rfl)) (mvT hZ (W hw 3 rfl)) (by decide) (backOf (W := 0) (rm_15 l Z a0 hw w kk iw vw hN [] h0 O0) hZ (W hw 3 rfl) (W hw 2 rfl) (by decide) (by decide)) (g := (mkF m 3 #[.val (.int p0), .val (.int p1), .val (.int p2), .unset, .unset, .unset, .unset, .unset, .unset, .unset, .unset, .unset] [(.int (1 : Int32))])) rfl (by rw [hml]; rfl) (argsL := [(.int (1 : Int32))]) (rest := []) (lenOf pd_0 rfl) rfl (by show 2 * 0 + _ ≤ _; exact Nat.le_of_eq rfl) (hb hby at_3) (fun _ _ => ⟨rfl, e0, (by decide : 0 + 0 ≤ _), (by decide : 0 + 0 ≤ _)⟩)
  dsimp only [Pt.U, Pt.locs, Pt.cells, Pt.slots] at X1 l1 y1 z1 st1 hQ1
  subst l1 y1 z1
  obtain ⟨rfl, N1q, e1⟩ := hQ1
  have N1 := Fr.app N0 N1q
  obtain ⟨_, _, ⟨T2, L2, k2, n2⟩, -, X2, ⟨Lc2, hQ2, l2, y2, z2⟩, st2⟩ := Jvm.LawKit.callS X1 hx (y := (⟨"java/lang/String", "valueOf", "(C)Ljava/lang/String;"⟩ : MethodName)) hown (mvT hZ (W hw 7 rfl)) (mvT hZ (W hw 8 rfl)) (mvT hZ (W hw 9 rfl)) (mvT hZ (W hw 10 rfl)) (by decide) (backOf (W := 0) (rm_5 l Z a0 hw w kk iw vw hN [] ((p2 &&& (255 : Int32)).toUInt32.toUInt16.toUInt32.toInt32) h0 O0 hp1) hZ (W hw 10 rfl) (W hw 9 rfl) (by decide) (by decide)) (g := (mkF m 13 #[.val (.int p0), .val (.int p1), .val (.int p2), .val (.ref (w 2)), .unset, .unset, .unset, .unset, .unset, .unset, .unset, .unset] [(.int ((p2 &&& (255 : Int32)).toUInt32.toUInt16.toUInt32.toInt32))])) rfl (by rw [hml]; rfl) (argsL := [(.int ((p2 &&& (255 : Int32)).toUInt32.toUInt16.toUInt32.toInt32))]) (rest := []) (lenOf pd_4 rfl) rfl (by show 2 * 0 + _ ≤ _; exact Nat.le_of_eq rfl) (hb hby at_13) (fun _ _ => ⟨rfl, e1, (by decide : 0 + 2 ≤ _), (by decide : 0 + 5 ≤ _)⟩)
  dsimp only [Pt.U, Pt.locs, Pt.cells, Pt.slots] at X2 l2 y2 z2 st2 hQ2
  subst l2 y2 z2
  obtain ⟨b2_0, b2_1, kb2_0, rfl, N2q, Kq2, tk2_0, tk2_1, tk2_2, tk2_3, tk2_4, tk2_5, tk2_6⟩ := hQ2
  have N2 := Fr.app N1 N2q
  have gn_b2_0 : Z.heap.size ≤ b2_0 := Nat.le_trans O0.2.1 tk2_0
  have gn_b2_1 : Z.heap.size ≤ b2_1 := Nat.le_trans O0.2.1 tk2_1
  have O2 := O0.keep Kq2 all0
  obtain ⟨T3, h3, X3, e3, E3, A3, D3, -, st3⟩ := newO X2 hx hZ hown (W hw 33 rfl) (W hw 34 rfl) (W hw 35 rfl) rfl (g := (mkF m 18 #[.val (.int p0), .val (.int p1), .val (.int p2), .val (.ref (w 2)), .val (.ref b2_0), .unset, .unset, .unset, .unset, .unset, .unset, .unset] [])) rfl (hb hby at_18) (by decide) (by decide)
  obtain ⟨b3, g3⟩ : ∃ z, z = T2.heap.size := ⟨_, rfl⟩
  rw [← g3] at A3 st3 D3
  have gn_b3 : Z.heap.size ≤ b3 := Nat.le_trans O2.2.1 (Nat.le_of_eq g3.symm)
  have ne_b2_1_b3 : b2_1 ≠ b3 := Nat.ne_of_lt (Nat.lt_of_lt_of_le tk2_6.lt (Nat.le_of_eq g3.symm))
  have ne_b2_0_b3 : b2_0 ≠ b3 := Nat.ne_of_lt (Nat.lt_of_lt_of_le tk2_3.lt (Nat.le_of_eq g3.symm))
  have tk2_3_v3 := tk2_3.ext E3
  have tk2_4_v3 := tk2_4.ext E3
  have tk2_5_v3 := tk2_5.ext E3
  have tk2_6_v3 := tk2_6.ext E3
  have O3 := O2.ext E3
  have E_b3_v3 := A3
  have F_b3_owner_v3 : Fld Z h3 b3 "com/example/netloom/netloom/xml/NetReader$OpenAnnotations" "owner" "Ljava/lang/String;" .null := D3 (Or.inr (W hw 41 rfl)) (ty := (.object "java/lang/String")) (by decide)
  have F_b3_form_v3 : Fld Z h3 b3 "com/example/netloom/netloom/xml/NetReader$OpenAnnotations" "form" "Lcom/example/netloom/netloom/xml/XmlGraphics$Form;" .null := D3 (Or.inr (W hw 43 rfl)) (ty := (.object "com/example/netloom/netloom/xml/XmlGraphics$Form")) (by decide)
  have F_b3_carries_v3 : Fld Z h3 b3 "com/example/netloom/netloom/xml/NetReader$OpenAnnotations" "carries" "Ljava/util/Set;" .null := D3 (Or.inr (W hw 45 rfl)) (ty := (.object "java/util/Set")) (by decide)
  have F_b3_graphicsCarried_v3 : Fld Z h3 b3 "com/example/netloom/netloom/xml/NetReader$OpenAnnotations" "graphicsCarried" "Z" (.int (0 : Int32)) := D3 (Or.inl (W hw 52 rfl)) (ty := .boolean) (by decide)
  have F_b3_graphics_v3 : Fld Z h3 b3 "com/example/netloom/netloom/xml/NetReader$OpenAnnotations" "graphics" "Lcom/example/netloom/netloom/net/Graphics;" .null := D3 (Or.inl (W hw 59 rfl)) (ty := (.object "com/example/netloom/netloom/net/Graphics")) (by decide)
  obtain ⟨_, _, ⟨T4, L4, k4, n4⟩, -, X4, ⟨Lc4, hQ4, l4, y4, z4⟩, st4⟩ := X3.specialBack hx (y := (⟨"com/example/netloom/netloom/xml/NetReader$OpenAnnotations", "<init>", "(Ljava/lang/String;Lcom/example/netloom/netloom/xml/XmlGraphics$Form;Ljava/util/Set;)V"⟩ : MethodName)) rfl hown (mvT hZ (W hw 36 rfl)) (mvT hZ (W hw 37 rfl)) (mvT hZ (W hw 38 rfl)) (by decide) (backOf (W := 1) (rm_16 l Z a0 hw w kk iw vw hN [] b3 b2_0 b2_1 ((((p2 &&& (255 : Int32)).toUInt32.toUInt16.toUInt32.toInt32).toInt8.toInt32).toInt8.toInt32) kb2_0 h3 O3 gn_b3 E_b3_v3.lt gn_b2_0 tk2_3_v3.lt E_b3_v3 F_b3_owner_v3 F_b3_form_v3 F_b3_carries_v3 F_b3_graphicsCarried_v3 F_b3_graphics_v3 tk2_3_v3 gn_b2_1 tk2_6_v3.lt tk2_4_v3 tk2_5_v3 tk2_6_v3 (Ne.symm ne_b2_0_b3) (Ne.symm ne_b2_1_b3) tk2_2) hZ (W hw 38 rfl) (W hw 35 rfl) (by decide) (by decide)) (g := (mkF m 26 #[.val (.int p0), .val (.int p1), .val (.int p2), .val (.ref (w 2)), .val (.ref b2_0), .unset, .unset, .unset, .unset, .unset, .unset, .unset] [.null, (.ref (w 2)), (.ref b2_0), (.ref b3), (.ref b3)])) rfl (by rw [hml]; rfl) (Steps.refl _) (a := b3) (argsL := [(.ref b2_0), (.ref (w 2)), .null]) (rest := [(.ref b3)]) (lenOf pd_5 rfl) rfl (by show 2 * 0 + _ ≤ _; exact Nat.le_of_eq rfl) (hb hby at_26) (fun _ _ => ⟨rfl, e3, (by decide : 3 + 0 ≤ _), (by decide : 16 + 0 ≤ _)⟩)
  dsimp only [Pt.U, Pt.locs, Pt.cells, Pt.slots] at X4 l4 y4 z4 st4 hQ4
  subst l4 y4 z4
  obtain ⟨rfl, N4q, Kq4, tk4_0, tk4_1, tk4_2, tk4_3, tk4_4, tk4_5⟩ := hQ4
  have N4 := Fr.app N2 N4q
  have tk2_3_v4 := tk2_3_v3.keep Kq4
  have tk2_4_v4 := tk2_4_v3.keep Kq4 (ninS ne_b2_0_b3 nin0)
  have tk2_5_v4 := tk2_5_v3.keep Kq4 (ninS ne_b2_0_b3 nin0)
  have tk2_6_v4 := tk2_6_v3.keep Kq4 (ninS ne_b2_1_b3 nin0)
  have E_b3_v4 := E_b3_v3.keep Kq4
  have O4 := O3.keep Kq4 (allS gn_b3 all0)
  obtain ⟨cq5, kq5, q5a, q5b, q5c⟩ := isOf hZ rfl tk4_0
  obtain ⟨_, _, ⟨T5, L5, k5, n5⟩, -, X5, ⟨Lc5, hQ5, l5, y5, z5⟩, st5⟩ := X4.virtualBack hx (y := (⟨"com/example/netloom/netloom/xml/NetReader$OpenAnnotations", "carriesGraphics", "()Z"⟩ : MethodName)) (z := (⟨"com/example/netloom/netloom/xml/NetReader$OpenAnnotations", "carriesGraphics", "()Z"⟩ : MethodName)) hown (mvT hZ (W hw 46 rfl)) (mvT hZ (W hw 47 rfl)) (notFace_of_selects (args := #[]) (mvT hZ (W hw 49 rfl))) (mvT hZ (W hw 49 rfl)) (mvT hZ (W hw 48 rfl)) (by decide) (backOf (W := 0) (rm_17 l Z a0 hw w kk iw vw hN [] b3 b2_0 b2_1 ((((p2 &&& (255 : Int32)).toUInt32.toUInt16.toUInt32.toInt32).toInt8.toInt32).toInt8.toInt32) kb2_0 T4.heap O4 gn_b3 tk4_0.lt tk4_0 gn_b2_0 tk2_3_v4.lt tk4_1 tk4_2 tk4_3 tk4_4 tk4_5 tk2_3_v4 gn_b2_1 tk2_6_v4.lt tk2_4_v4 tk2_5_v4 tk2_6_v4 (Ne.symm ne_b2_0_b3) (Ne.symm ne_b2_1_b3) tk2_2) hZ (W hw 50 rfl) (W hw 35 rfl) (by decide) (by decide)) q5a q5c (g := (mkF m 33 #[.val (.int p0), .val (.int p1), .val (.int p2), .val (.ref (w 2)), .val (.ref b2_0), .val (.ref b3), .unset, .unset, .unset, .unset, .unset, .unset] [(.ref b3)])) rfl (by rw [hml]; rfl) (Steps.refl _) (argsL := []) (rest := []) (lenOf pd_6 rfl) rfl (by show 2 * 0 + _ ≤ _; exact Nat.le_of_eq rfl) (hb hby at_33) (fun _ _ => ⟨rfl, rfl, (by decide : 3 + 0 ≤ _), (by decide : 16 + 0 ≤ _)⟩)
  dsimp only [Pt.U, Pt.locs, Pt.cells, Pt.slots] at X5 l5 y5 z5 st5 hQ5
  subst l5 y5 z5
  obtain ⟨rfl, N5q, e5⟩ := hQ5
  have N5 := Fr.app N4 N5q
  obtain ⟨cq6, kq6, q6a, q6b, q6c⟩ := isOf hZ e5 tk4_0
  obtain ⟨_, _, ⟨T6, L6, k6, n6⟩, -, X6, ⟨Lc6, hQ6, l6, y6, z6⟩, st6⟩ := X5.virtualBack hx (y := (⟨"com/example/netloom/netloom/xml/NetReader$OpenAnnotations", "carriesGraphics", "()Z"⟩ : MethodName)) (z := (⟨"com/example/netloom/netloom/xml/NetReader$OpenAnnotations", "carriesGraphics", "()Z"⟩ : MethodName)) hown (mvT hZ (W hw 46 rfl)) (mvT hZ (W hw 47 rfl)) (notFace_of_selects (args := #[]) (mvT hZ (W hw 49 rfl))) (mvT hZ (W hw 49 rfl)) (mvT hZ (W hw 48 rfl)) (by decide) (backOf (W := 0) (rm_17 l Z a0 hw w kk iw vw hN [] b3 b2_0 b2_1 ((((p2 &&& (255 : Int32)).toUInt32.toUInt16.toUInt32.toInt32).toInt8.toInt32).toInt8.toInt32) kb2_0 T4.heap O4 gn_b3 tk4_0.lt tk4_0 gn_b2_0 tk2_3_v4.lt tk4_1 tk4_2 tk4_3 tk4_4 tk4_5 tk2_3_v4 gn_b2_1 tk2_6_v4.lt tk2_4_v4 tk2_5_v4 tk2_6_v4 (Ne.symm ne_b2_0_b3) (Ne.symm ne_b2_1_b3) tk2_2) hZ (W hw 50 rfl) (W hw 35 rfl) (by decide) (by decide)) q6a q6c (g := (mkF m 86 #[.val (.int p0), .val (.int p1), .val (.int p2), .val (.ref (w 2)), .val (.ref b2_0), .val (.ref b3), .val (.int (0 : Int32)), .val (.int (0 : Int32)), .val (.int (1 : Int32)), .unset, .unset, .unset] [(.ref b3)])) rfl (by rw [hml]; rfl) (Steps.refl _) (argsL := []) (rest := []) (lenOf pd_6 rfl) rfl (by show 2 * 0 + _ ≤ _; exact Nat.le_of_eq rfl) (hb hby at_86) (fun _ _ => ⟨rfl, e5, (by decide : 3 + 0 ≤ _), (by decide : 16 + 0 ≤ _)⟩)
  dsimp only [Pt.U, Pt.locs, Pt.cells, Pt.slots] at X6 l6 y6 z6 st6 hQ6
  subst l6 y6 z6
  obtain ⟨rfl, N6q, e6⟩ := hQ6
  have N6 := Fr.app N5 N6q
  obtain ⟨cq7, kq7, q7a, q7b, q7c⟩ := isOf hZ e6 tk4_0
  obtain ⟨_, _, ⟨T7, L7, k7, n7⟩, -, X7, ⟨Lc7, hQ7, l7, y7, z7⟩, st7⟩ := X6.virtualBack hx (y := (⟨"com/example/netloom/netloom/xml/NetReader$OpenAnnotations", "carriesGraphics", "()Z"⟩ : MethodName)) (z := (⟨"com/example/netloom/netloom/xml/NetReader$OpenAnnotations", "carriesGraphics", "()Z"⟩ : MethodName)) hown (mvT hZ (W hw 46 rfl)) (mvT hZ (W hw 47 rfl)) (notFace_of_selects (args := #[]) (mvT hZ (W hw 49 rfl))) (mvT hZ (W hw 49 rfl)) (mvT hZ (W hw 48 rfl)) (by decide) (backOf (W := 0) (rm_17 l Z a0 hw w kk iw vw hN [] b3 b2_0 b2_1 ((((p2 &&& (255 : Int32)).toUInt32.toUInt16.toUInt32.toInt32).toInt8.toInt32).toInt8.toInt32) kb2_0 T4.heap O4 gn_b3 tk4_0.lt tk4_0 gn_b2_0 tk2_3_v4.lt tk4_1 tk4_2 tk4_3 tk4_4 tk4_5 tk2_3_v4 gn_b2_1 tk2_6_v4.lt tk2_4_v4 tk2_5_v4 tk2_6_v4 (Ne.symm ne_b2_0_b3) (Ne.symm ne_b2_1_b3) tk2_2) hZ (W hw 50 rfl) (W hw 35 rfl) (by decide) (by decide)) q7a q7c (g := (mkF m 93 #[.val (.int p0), .val (.int p1), .val (.int p2), .val (.ref (w 2)), .val (.ref b2_0), .val (.ref b3), .val (.int (0 : Int32)), .val (.int (0 : Int32)), .val (.int (1 : Int32)), .val (.int (0 : Int32)), .unset, .unset] [(.ref b3)])) rfl (by rw [hml]; rfl) (Steps.refl _) (argsL := []) (rest := []) (lenOf pd_6 rfl) rfl (by show 2 * 0 + _ ≤ _; exact Nat.le_of_eq rfl) (hb hby at_93) (fun _ _ => ⟨rfl, e6, (by decide : 3 + 0 ≤ _), (by decide : 16 + 0 ≤ _)⟩)
  dsimp only [Pt.U, Pt.locs, Pt.cells, Pt.slots] at X7 l7 y7 z7 st7 hQ7
  subst l7 y7 z7
  obtain ⟨rfl, N7q, e7⟩ := hQ7
  have N7 := Fr.app N6 N7q
  obtain ⟨fs, hr, hrun, hended, hW, hsame⟩ := X7.leave (v := some (.int (1 : Int32))) (fun h => by rw [Bd.returns] at h; cases h)
  refine ⟨_, _, pre0 _ ?_, hrun, hended, _, _, rfl, ?_, ⟨_, rfl⟩, hW, hsame.mono (by decide) (by decide)⟩
  · show Steps p.tables e below (s₁.setTop (mkF m 0 #[.val (.int p0), .val (.int p1), .val (.int p2), .unset, .unset, .unset, .unset, .unset, .unset, .unset, .unset, .unset] [])) _
    refine XS.iloadN X0.here hx rfl (hb hby at_0) rfl ?_
    show Steps p.tables e below (s₁.setTop (mkF m 1 #[.val (.int p0), .val (.int p1), .val (.int p2), .unset, .unset, .unset, .unset, .unset, .unset, .unset, .unset, .unset] [(.int p1)])) _
    refine XS.iconst X0.here hx rfl (hb hby at_1) ?_
    show Steps p.tables e below (s₁.setTop (mkF m 2 #[.val (.int p0), .val (.int p1), .val (.int p2), .unset, .unset, .unset, .unset, .unset, .unset, .unset, .unset, .unset] [(.int (3 : Int32)), (.int p1)])) _
    refine XS.iand X0.here hx rfl (hb hby at_2) rfl ?_
    show Steps p.tables e below (s₁.setTop (mkF m 3 #[.val (.int p0), .val (.int p1), .val (.int p2), .unset, .unset, .unset, .unset, .unset, .unset, .unset, .unset, .unset] [(.int (p1 &&& (3 : Int32)))])) _
    rw [hp0]
    show Steps p.tables e below (s₁.setTop (mkF m 3 #[.val (.int p0), .val (.int p1), .val (.int p2), .unset, .unset, .unset, .unset, .unset, .unset, .unset, .unset, .unset] [(.int (1 : Int32))])) _
    refine st1 _ ?_
    show Steps p.tables e below (T1.setTop (mkF m 6 #[.val (.int p0), .val (.int p1), .val (.int p2), .unset, .unset, .unset, .unset, .unset, .unset, .unset, .unset, .unset] [(.ref (w 2))])) _
    refine XS.astoreN X1.here hx rfl (hb hby at_6) rfl rfl (l' := #[.val (.int p0), .val (.int p1), .val (.int p2), .val (.ref (w 2)), .unset, .unset, .unset, .unset, .unset, .unset, .unset, .unset]) rfl ?_
    show Steps p.tables e below (T1.setTop (mkF m 7 #[.val (.int p0), .val (.int p1), .val (.int p2), .val (.ref (w 2)), .unset, .unset, .unset, .unset, .unset, .unset, .unset, .unset] [])) _
    refine XS.iloadN X1.here hx rfl (hb hby at_7) rfl ?_
    show Steps p.tables e below (T1.setTop (mkF m 8 #[.val (.int p0), .val (.int p1), .val (.int p2), .val (.ref (w 2)), .unset, .unset, .unset, .unset, .unset, .unset, .unset, .unset] [(.int p2)])) _
    refine XS.sipush X1.here hx rfl (hb hby at_8) ?_
    show Steps p.tables e below (T1.setTop (mkF m 11 #[.val (.int p0), .val (.int p1), .val (.int p2), .val (.ref (w 2)), .unset, .unset, .unset, .unset, .unset, .unset, .unset, .unset] [(.int (255 : Int32)), (.int p2)])) _
    refine XS.iand X1.here hx rfl (hb hby at_11) rfl ?_
    show Steps p.tables e below (T1.setTop (mkF m 12 #[.val (.int p0), .val (.int p1), .val (.int p2), .val (.ref (w 2)), .unset, .unset, .unset, .unset, .unset, .unset, .unset, .unset] [(.int (p2 &&& (255 : Int32)))])) _
    refine XS.i2c X1.here hx rfl (hb hby at_12) rfl ?_
    show Steps p.tables e below (T1.setTop (mkF m 13 #[.val (.int p0), .val (.int p1), .val (.int p2), .val (.ref (w 2)), .unset, .unset, .unset, .unset, .unset, .unset, .unset, .unset] [(.int ((p2 &&& (255 : Int32)).toUInt32.toUInt16.toUInt32.toInt32))])) _
    refine st2 _ ?_
    show Steps p.tables e below (T2.setTop (mkF m 16 #[.val (.int p0), .val (.int p1), .val (.int p2), .val (.ref (w 2)), .unset, .unset, .unset, .unset, .unset, .unset, .unset, .unset] [(.ref b2_0)])) _
    refine XS.astore X2.here hx rfl (hb hby at_16) rfl rfl (l' := #[.val (.int p0), .val (.int p1), .val (.int p2), .val (.ref (w 2)), .val (.ref b2_0), .unset, .unset, .unset, .unset, .unset, .unset, .unset]) rfl ?_
    show Steps p.tables e below (T2.setTop (mkF m 18 #[.val (.int p0), .val (.int p1), .val (.int p2), .val (.ref (w 2)), .val (.ref b2_0), .unset, .unset, .unset, .unset, .unset, .unset, .unset] [])) _
    refine st3 _ ?_
    show Steps p.tables e below (T3.setTop (mkF m 21 #[.val (.int p0), .val (.int p1), .val (.int p2), .val (.ref (w 2)), .val (.ref b2_0), .unset, .unset, .unset, .unset, .unset, .unset, .unset] [(.ref b3)])) _
    refine XS.dup X3.here hx rfl (hb hby at_21) rfl rfl ?_
    show Steps p.tables e below (T3.setTop (mkF m 22 #[.val (.int p0), .val (.int p1), .val (.int p2), .val (.ref (w 2)), .val (.ref b2_0), .unset, .unset, .unset, .unset, .unset, .unset, .unset] [(.ref b3), (.ref b3)])) _
    refine XS.aload X3.here hx rfl (hb hby at_22) rfl rfl ?_
    show Steps p.tables e below (T3.setTop (mkF m 24 #[.val (.int p0), .val (.int p1), .val (.int p2), .val (.ref (w 2)), .val (.ref b2_0), .unset, .unset, .unset, .unset, .unset, .unset, .unset] [(.ref b2_0), (.ref b3), (.ref b3)])) _
    refine XS.aloadN X3.here hx rfl (hb hby at_24) rfl rfl ?_
    show Steps p.tables e below (T3.setTop (mkF m 25 #[.val (.int p0), .val (.int p1), .val (.int p2), .val (.ref (w 2)), .val (.ref b2_0), .unset, .unset, .unset, .unset, .unset, .unset, .unset] [(.ref (w 2)), (.ref b2_0), (.ref b3), (.ref b3)])) _
    refine XS.aconstNull X3.here hx rfl (hb hby at_25) ?_
    show Steps p.tables e below (T3.setTop (mkF m 26 #[.val (.int p0), .val (.int p1), .val (.int p2), .val (.ref (w 2)), .val (.ref b2_0), .unset, .unset, .unset, .unset, .unset, .unset, .unset] [.null, (.ref (w 2)), (.ref b2_0), (.ref b3), (.ref b3)])) _
    refine st4.trans ?_
    show Steps p.tables e below (T4.setTop (mkF m 29 #[.val (.int p0), .val (.int p1), .val (.int p2), .val (.ref (w 2)), .val (.ref b2_0), .unset, .unset, .unset, .unset, .unset, .unset, .unset] [(.ref b3)])) _
    refine XS.astore X4.here hx rfl (hb hby at_29) rfl rfl (l' := #[.val (.int p0), .val (.int p1), .val (.int p2), .val (.ref (w 2)), .val (.ref b2_0), .val (.ref b3), .unset, .unset, .unset, .unset, .unset, .unset]) rfl ?_
    show Steps p.tables e below (T4.setTop (mkF m 31 #[.val (.int p0), .val (.int p1), .val (.int p2), .val (.ref (w 2)), .val (.ref b2_0), .val (.ref b3), .unset, .unset, .unset, .unset, .unset, .unset] [])) _
    refine XS.aload X4.here hx rfl (hb hby at_31) rfl rfl ?_
    show Steps p.tables e below (T4.setTop (mkF m 33 #[.val (.int p0), .val (.int p1), .val (.int p2), .val (.ref (w 2)), .val (.ref b2_0), .val (.ref b3), .unset, .unset, .unset, .unset, .unset, .unset] [(.ref b3)])) _
    refine st5.trans ?_
    show Steps p.tables e below (T5.setTop (mkF m 36 #[.val (.int p0), .val (.int p1), .val (.int p2), .val (.ref (w 2)), .val (.ref b2_0), .val (.ref b3), .unset, .unset, .unset, .unset, .unset, .unset] [(.int (0 : Int32))])) _
    refine XS.istore X5.here hx rfl (hb hby at_36) rfl (l' := #[.val (.int p0), .val (.int p1), .val (.int p2), .val (.ref (w 2)), .val (.ref b2_0), .val (.ref b3), .val (.int (0 : Int32)), .unset, .unset, .unset, .unset, .unset]) rfl ?_
    show Steps p.tables e below (T5.setTop (mkF m 38 #[.val (.int p0), .val (.int p1), .val (.int p2), .val (.ref (w 2)), .val (.ref b2_0), .val (.ref b3), .val (.int (0 : Int32)), .unset, .unset, .unset, .unset, .unset] [])) _
    refine XS.iloadN X5.here hx rfl (hb hby at_38) rfl ?_
    show Steps p.tables e below (T5.setTop (mkF m 39 #[.val (.int p0), .val (.int p1), .val (.int p2), .val (.ref (w 2)), .val (.ref b2_0), .val (.ref b3), .val (.int (0 : Int32)), .unset, .unset, .unset, .unset, .unset] [(.int p0)])) _
    refine XS.iconst X5.here hx rfl (hb hby at_39) ?_
    show Steps p.tables e below (T5.setTop (mkF m 40 #[.val (.int p0), .val (.int p1), .val (.int p2), .val (.ref (w 2)), .val (.ref b2_0), .val (.ref b3), .val (.int (0 : Int32)), .unset, .unset, .unset, .unset, .unset] [(.int (1 : Int32)), (.int p0)])) _
    refine XS.iand X5.here hx rfl (hb hby at_40) rfl ?_
    show Steps p.tables e below (T5.setTop (mkF m 41 #[.val (.int p0), .val (.int p1), .val (.int p2), .val (.ref (w 2)), .val (.ref b2_0), .val (.ref b3), .val (.int (0 : Int32)), .unset, .unset, .unset, .unset, .unset] [(.int (p0 &&& (1 : Int32)))])) _
    rw [hp2]
    show Steps p.tables e below (T5.setTop (mkF m 41 #[.val (.int p0), .val (.int p1), .val (.int p2), .val (.ref (w 2)), .val (.ref b2_0), .val (.ref b3), .val (.int (0 : Int32)), .unset, .unset, .unset, .unset, .unset] [(.int (0 : Int32))])) _
    refine XS.ifYes X5.here hx rfl (pc0 := 41) (pc' := 48) rfl (hb hby at_41) rfl ((if0 _ _).trans (teq (by decide : (0 : Int32) = (0 : Int32))).1) (by decide) (by decide) ?_
    show Steps p.tables e below (T5.setTop (mkF m 48 #[.val (.int p0), .val (.int p1), .val (.int p2), .val (.ref (w 2)), .val (.ref b2_0), .val (.ref b3), .val (.int (0 : Int32)), .unset, .unset, .unset, .unset, .unset] [])) _
    refine XS.iconst X5.here hx rfl (hb hby at_48) ?_
    show Steps p.tables e below (T5.setTop (mkF m 49 #[.val (.int p0), .val (.int p1), .val (.int p2), .val (.ref (w 2)), .val (.ref b2_0), .val (.ref b3), .val (.int (0 : Int32)), .unset, .unset, .unset, .unset, .unset] [(.int (0 : Int32))])) _
    refine XS.istore X5.here hx rfl (hb hby at_49) rfl (l' := #[.val (.int p0), .val (.int p1), .val (.int p2), .val (.ref (w 2)), .val (.ref b2_0), .val (.ref b3), .val (.int (0 : Int32)), .val (.int (0 : Int32)), .unset, .unset, .unset, .unset]) rfl ?_
    show Steps p.tables e below (T5.setTop (mkF m 51 #[.val (.int p0), .val (.int p1), .val (.int p2), .val (.ref (w 2)), .val (.ref b2_0), .val (.ref b3), .val (.int (0 : Int32)), .val (.int (0 : Int32)), .unset, .unset, .unset, .unset] [])) _
    refine XS.iloadN X5.here hx rfl (hb hby at_51) rfl ?_
    show Steps p.tables e below (T5.setTop (mkF m 52 #[.val (.int p0), .val (.int p1), .val (.int p2), .val (.ref (w 2)), .val (.ref b2_0), .val (.ref b3), .val (.int (0 : Int32)), .val (.int (0 : Int32)), .unset, .unset, .unset, .unset] [(.int p0)])) _
    refine XS.iconst X5.here hx rfl (hb hby at_52) ?_
    show Steps p.tables e below (T5.setTop (mkF m 53 #[.val (.int p0), .val (.int p1), .val (.int p2), .val (.ref (w 2)), .val (.ref b2_0), .val (.ref b3), .val (.int (0 : Int32)), .val (.int (0 : Int32)), .unset, .unset, .unset, .unset] [(.int (2 : Int32)), (.int p0)])) _
    refine XS.iand X5.here hx rfl (hb hby at_53) rfl ?_
    show Steps p.tables e below (T5.setTop (mkF m 54 #[.val (.int p0), .val (.int p1), .val (.int p2), .val (.ref (w 2)), .val (.ref b2_0), .val (.ref b3), .val (.int (0 : Int32)), .val (.int (0 : Int32)), .unset, .unset, .unset, .unset] [(.int (p0 &&& (2 : Int32)))])) _
    refine XS.ifNo X5.here hx rfl (hb hby at_54) rfl ((if0 _ _).trans (feq hp3).1) ?_
    show Steps p.tables e below (T5.setTop (mkF m 57 #[.val (.int p0), .val (.int p1), .val (.int p2), .val (.ref (w 2)), .val (.ref b2_0), .val (.ref b3), .val (.int (0 : Int32)), .val (.int (0 : Int32)), .unset, .unset, .unset, .unset] [])) _
    refine XS.iconst X5.here hx rfl (hb hby at_57) ?_
    show Steps p.tables e below (T5.setTop (mkF m 58 #[.val (.int p0), .val (.int p1), .val (.int p2), .val (.ref (w 2)), .val (.ref b2_0), .val (.ref b3), .val (.int (0 : Int32)), .val (.int (0 : Int32)), .unset, .unset, .unset, .unset] [(.int (1 : Int32))])) _
    refine XS.goto X5.here hx rfl (pc0 := 58) (pc' := 62) rfl (hb hby at_58) (by decide) (by decide) ?_
    show Steps p.tables e below (T5.setTop (mkF m 62 #[.val (.int p0), .val (.int p1), .val (.int p2), .val (.ref (w 2)), .val (.ref b2_0), .val (.ref b3), .val (.int (0 : Int32)), .val (.int (0 : Int32)), .unset, .unset, .unset, .unset] [(.int (1 : Int32))])) _
    refine XS.istore X5.here hx rfl (hb hby at_62) rfl (l' := #[.val (.int p0), .val (.int p1), .val (.int p2), .val (.ref (w 2)), .val (.ref b2_0), .val (.ref b3), .val (.int (0 : Int32)), .val (.int (0 : Int32)), .val (.int (1 : Int32)), .unset, .unset, .unset]) rfl ?_
    show Steps p.tables e below (T5.setTop (mkF m 64 #[.val (.int p0), .val (.int p1), .val (.int p2), .val (.ref (w 2)), .val (.ref b2_0), .val (.ref b3), .val (.int (0 : Int32)), .val (.int (0 : Int32)), .val (.int (1 : Int32)), .unset, .unset, .unset] [])) _
    refine XS.iload X5.here hx rfl (hb hby at_64) rfl ?_
    show Steps p.tables e below (T5.setTop (mkF m 66 #[.val (.int p0), .val (.int p1), .val (.int p2), .val (.ref (w 2)), .val (.ref b2_0), .val (.ref b3), .val (.int (0 : Int32)), .val (.int (0 : Int32)), .val (.int (1 : Int32)), .unset, .unset, .unset] [(.int (0 : Int32))])) _
    refine XS.ifYes X5.here hx rfl (pc0 := 66) (pc' := 84) rfl (hb hby at_66) rfl ((if0 _ _).trans (teq (by decide : (0 : Int32) = (0 : Int32))).1) (by decide) (by decide) ?_
    show Steps p.tables e below (T5.setTop (mkF m 84 #[.val (.int p0), .val (.int p1), .val (.int p2), .val (.ref (w 2)), .val (.ref b2_0), .val (.ref b3), .val (.int (0 : Int32)), .val (.int (0 : Int32)), .val (.int (1 : Int32)), .unset, .unset, .unset] [])) _
    refine XS.aload X5.here hx rfl (hb hby at_84) rfl rfl ?_
    show Steps p.tables e below (T5.setTop (mkF m 86 #[.val (.int p0), .val (.int p1), .val (.int p2), .val (.ref (w 2)), .val (.ref b2_0), .val (.ref b3), .val (.int (0 : Int32)), .val (.int (0 : Int32)), .val (.int (1 : Int32)), .unset, .unset, .unset] [(.ref b3)])) _
    refine st6.trans ?_
    show Steps p.tables e below (T6.setTop (mkF m 89 #[.val (.int p0), .val (.int p1), .val (.int p2), .val (.ref (w 2)), .val (.ref b2_0), .val (.ref b3), .val (.int (0 : Int32)), .val (.int (0 : Int32)), .val (.int (1 : Int32)), .unset, .unset, .unset] [(.int (0 : Int32))])) _
    refine XS.istore X6.here hx rfl (hb hby at_89) rfl (l' := #[.val (.int p0), .val (.int p1), .val (.int p2), .val (.ref (w 2)), .val (.ref b2_0), .val (.ref b3), .val (.int (0 : Int32)), .val (.int (0 : Int32)), .val (.int (1 : Int32)), .val (.int (0 : Int32)), .unset, .unset]) rfl ?_
    show Steps p.tables e below (T6.setTop (mkF m 91 #[.val (.int p0), .val (.int p1), .val (.int p2), .val (.ref (w 2)), .val (.ref b2_0), .val (.ref b3), .val (.int (0 : Int32)), .val (.int (0 : Int32)), .val (.int (1 : Int32)), .val (.int (0 : Int32)), .unset, .unset] [])) _
    refine XS.aload X6.here hx rfl (hb hby at_91) rfl rfl ?_
    show Steps p.tables e below (T6.setTop (mkF m 93 #[.val (.int p0), .val (.int p1), .val (.int p2), .val (.ref (w 2)), .val (.ref b2_0), .val (.ref b3), .val (.int (0 : Int32)), .val (.int (0 : Int32)), .val (.int (1 : Int32)), .val (.int (0 : Int32)), .unset, .unset] [(.ref b3)])) _
    refine st7.trans ?_
    show Steps p.tables e below (T7.setTop (mkF m 96 #[.val (.int p0), .val (.int p1), .val (.int p2), .val (.ref (w 2)), .val (.ref b2_0), .val (.ref b3), .val (.int (0 : Int32)), .val (.int (0 : Int32)), .val (.int (1 : Int32)), .val (.int (0 : Int32)), .unset, .unset] [(.int (0 : Int32))])) _
    refine XS.istore X7.here hx rfl (hb hby at_96) rfl (l' := #[.val (.int p0), .val (.int p1), .val (.int p2), .val (.ref (w 2)), .val (.ref b2_0), .val (.ref b3), .val (.int (0 : Int32)), .val (.int (0 : Int32)), .val (.int (1 : Int32)), .val (.int (0 : Int32)), .val (.int (0 : Int32)), .unset]) rfl ?_
    show Steps p.tables e below (T7.setTop (mkF m 98 #[.val (.int p0), .val (.int p1), .val (.int p2), .val (.ref (w 2)), .val (.ref b2_0), .val (.ref b3), .val (.int (0 : Int32)), .val (.int (0 : Int32)), .val (.int (1 : Int32)), .val (.int (0 : Int32)), .val (.int (0 : Int32)), .unset] [])) _
    refine XS.iload X7.here hx rfl (hb hby at_98) rfl ?_
    show Steps p.tables e below (T7.setTop (mkF m 100 #[.val (.int p0), .val (.int p1), .val (.int p2), .val (.ref (w 2)), .val (.ref b2_0), .val (.ref b3), .val (.int (0 : Int32)), .val (.int (0 : Int32)), .val (.int (1 : Int32)), .val (.int (0 : Int32)), .val (.int (0 : Int32)), .unset] [(.int (0 : Int32))])) _
    refine XS.ifYes X7.here hx rfl (pc0 := 100) (pc' := 111) rfl (hb hby at_100) rfl ((if0 _ _).trans (teq (by decide : (0 : Int32) = (0 : Int32))).1) (by decide) (by decide) ?_
    show Steps p.tables e below (T7.setTop (mkF m 111 #[.val (.int p0), .val (.int p1), .val (.int p2), .val (.ref (w 2)), .val (.ref b2_0), .val (.ref b3), .val (.int (0 : Int32)), .val (.int (0 : Int32)), .val (.int (1 : Int32)), .val (.int (0 : Int32)), .val (.int (0 : Int32)), .unset] [])) _
    refine XS.iconst X7.here hx rfl (hb hby at_111) ?_
    show Steps p.tables e below (T7.setTop (mkF m 112 #[.val (.int p0), .val (.int p1), .val (.int p2), .val (.ref (w 2)), .val (.ref b2_0), .val (.ref b3), .val (.int (0 : Int32)), .val (.int (0 : Int32)), .val (.int (1 : Int32)), .val (.int (0 : Int32)), .val (.int (0 : Int32)), .unset] [(.int (0 : Int32))])) _
    refine XS.istore X7.here hx rfl (hb hby at_112) rfl (l' := #[.val (.int p0), .val (.int p1), .val (.int p2), .val (.ref (w 2)), .val (.ref b2_0), .val (.ref b3), .val (.int (0 : Int32)), .val (.int (0 : Int32)), .val (.int (1 : Int32)), .val (.int (0 : Int32)), .val (.int (0 : Int32)), .val (.int (0 : Int32))]) rfl ?_
    show Steps p.tables e below (T7.setTop (mkF m 114 #[.val (.int p0), .val (.int p1), .val (.int p2), .val (.ref (w 2)), .val (.ref b2_0), .val (.ref b3), .val (.int (0 : Int32)), .val (.int (0 : Int32)), .val (.int (1 : Int32)), .val (.int (0 : Int32)), .val (.int (0 : Int32)), .val (.int (0 : Int32))] [])) _
    refine XS.iload X7.here hx rfl (hb hby at_114) rfl ?_
    show Steps p.tables e below (T7.setTop (mkF m 116 #[.val (.int p0), .val (.int p1), .val (.int p2), .val (.ref (w 2)), .val (.ref b2_0), .val (.ref b3), .val (.int (0 : Int32)), .val (.int (0 : Int32)), .val (.int (1 : Int32)), .val (.int (0 : Int32)), .val (.int (0 : Int32)), .val (.int (0 : Int32))] [(.int (0 : Int32))])) _
    refine XS.ifNo X7.here hx rfl (hb hby at_116) rfl ((if0 _ _).trans (teq (by decide : (0 : Int32) = (0 : Int32))).2) ?_
    show Steps p.tables e below (T7.setTop (mkF m 119 #[.val (.int p0), .val (.int p1), .val (.int p2), .val (.ref (w 2)), .val (.ref b2_0), .val (.ref b3), .val (.int (0 : Int32)), .val (.int (0 : Int32)), .val (.int (1 : Int32)), .val (.int (0 : Int32)), .val (.int (0 : Int32)), .val (.int (0 : Int32))] [])) _
    refine XS.iload X7.here hx rfl (hb hby at_119) rfl ?_
    show Steps p.tables e below (T7.setTop (mkF m 121 #[.val (.int p0), .val (.int p1), .val (.int p2), .val (.ref (w 2)), .val (.ref b2_0), .val (.ref b3), .val (.int (0 : Int32)), .val (.int (0 : Int32)), .val (.int (1 : Int32)), .val (.int (0 : Int32)), .val (.int (0 : Int32)), .val (.int (0 : Int32))] [(.int (0 : Int32))])) _
    refine XS.iload X7.here hx rfl (hb hby at_121) rfl ?_
    show Steps p.tables e below (T7.setTop (mkF m 123 #[.val (.int p0), .val (.int p1), .val (.int p2), .val (.ref (w 2)), .val (.ref b2_0), .val (.ref b3), .val (.int (0 : Int32)), .val (.int (0 : Int32)), .val (.int (1 : Int32)), .val (.int (0 : Int32)), .val (.int (0 : Int32)), .val (.int (0 : Int32))] [(.int (0 : Int32)), (.int (0 : Int32))])) _
    refine XS.icmpNo X7.here hx rfl (hb hby at_123) rfl (teq (by decide : (0 : Int32) = (0 : Int32))).2 ?_
    show Steps p.tables e below (T7.setTop (mkF m 126 #[.val (.int p0), .val (.int p1), .val (.int p2), .val (.ref (w 2)), .val (.ref b2_0), .val (.ref b3), .val (.int (0 : Int32)), .val (.int (0 : Int32)), .val (.int (1 : Int32)), .val (.int (0 : Int32)), .val (.int (0 : Int32)), .val (.int (0 : Int32))] [])) _
    refine XS.iload X7.here hx rfl (hb hby at_126) rfl ?_
    show Steps p.tables e below (T7.setTop (mkF m 128 #[.val (.int p0), .val (.int p1), .val (.int p2), .val (.ref (w 2)), .val (.ref b2_0), .val (.ref b3), .val (.int (0 : Int32)), .val (.int (0 : Int32)), .val (.int (1 : Int32)), .val (.int (0 : Int32)), .val (.int (0 : Int32)), .val (.int (0 : Int32))] [(.int (0 : Int32))])) _
    refine XS.iload X7.here hx rfl (hb hby at_128) rfl ?_
    show Steps p.tables e below (T7.setTop (mkF m 130 #[.val (.int p0), .val (.int p1), .val (.int p2), .val (.ref (w 2)), .val (.ref b2_0), .val (.ref b3), .val (.int (0 : Int32)), .val (.int (0 : Int32)), .val (.int (1 : Int32)), .val (.int (0 : Int32)), .val (.int (0 : Int32)), .val (.int (0 : Int32))] [(.int (0 : Int32)), (.int (0 : Int32))])) _
    refine XS.icmpNo X7.here hx rfl (hb hby at_130) rfl (teq (by decide : (0 : Int32) = (0 : Int32))).2 ?_
    show Steps p.tables e below (T7.setTop (mkF m 133 #[.val (.int p0), .val (.int p1), .val (.int p2), .val (.ref (w 2)), .val (.ref b2_0), .val (.ref b3), .val (.int (0 : Int32)), .val (.int (0 : Int32)), .val (.int (1 : Int32)), .val (.int (0 : Int32)), .val (.int (0 : Int32)), .val (.int (0 : Int32))] [])) _
    refine XS.iconst X7.here hx rfl (hb hby at_133) ?_
    show Steps p.tables e below (T7.setTop (mkF m 134 #[.val (.int p0), .val (.int p1), .val (.int p2), .val (.ref (w 2)), .val (.ref b2_0), .val (.ref b3), .val (.int (0 : Int32)), .val (.int (0 : Int32)), .val (.int (1 : Int32)), .val (.int (0 : Int32)), .val (.int (0 : Int32)), .val (.int (0 : Int32))] [(.int (1 : Int32))])) _
    refine XS.goto X7.here hx rfl (pc0 := 134) (pc' := 138) rfl (hb hby at_134) (by decide) (by decide) ?_
    show Steps p.tables e below (T7.setTop (mkF m 138 #[.val (.int p0), .val (.int p1), .val (.int p2), .val (.ref (w 2)), .val (.ref b2_0), .val (.ref b3), .val (.int (0 : Int32)), .val (.int (0 : Int32)), .val (.int (1 : Int32)), .val (.int (0 : Int32)), .val (.int (0 : Int32)), .val (.int (0 : Int32))] [(.int (1 : Int32))])) _
    exact retN X7 hx (t := .boolean) Bd.returns (by simp) (hb hby at_138) hr
  · show OL (some (.int (1 : Int32))) Z.heap.size _ T7.heap _
    exact ⟨rfl, N7⟩
def Qd_6 (Z : State) (w : Nat → Addr) (kk : Nat → ClassId) (iw : Nat → Int32) (vw : Nat → Value) (o1 : Addr) (o2 : Addr) (o3 : Addr) (t0 : Int32) (kc_o3 : ClassId) (h0 : Heap) (n0 : Nat) (v : Option Value) (h : Heap) (L : List Loc) : Prop := v = none ∧ Fr n0 L ∧ Keep h0 h [o1] ∧ Exa Z h o1 "com/example/netloom/netloom/xml/NetReader$OpenAnnotations" ∧ Fld Z h o1 "com/example/netloom/netloom/xml/NetReader$OpenAnnotations" "owner" "Ljava/lang/String;" (.ref o2) ∧ Fld Z h o1 "com/example/netloom/netloom/xml/NetReader$OpenAnnotations" "form" "Lcom/example/netloom/netloom/xml/XmlGraphics$Form;" (.ref (w 2)) ∧ Fld Z h o1 "com/example/netloom/netloom/xml/NetReader$OpenAnnotations" "carries" "Ljava/util/Set;" .null ∧ Fld Z h o1 "com/example/netloom/netloom/xml/NetReader$OpenAnnotations" "graphicsCarried" "Z" (.int (1 : Int32)) ∧ Fld Z h o1 "com/example/netloom/netloom/xml/NetReader$OpenAnnotations" "graphics" "Lcom/example/netloom/netloom/net/Graphics;" .null
set_option maxRecDepth 65536 in
set_option maxHeartbeats 40000000 in
theorem rm_20 (l : Launch) (Z : State) (a0 : Array Value) (hw : ∀ d ∈ tables_1, d.before a0 Z = true) (w : Nat → Addr) (kk : Nat → ClassId) (iw : Nat → Int32) (vw : Nat → Value) (hN : Wd Z w kk iw vw) (ws : List Jvm.Cond) (o1 : Addr) (o2 : Addr) (o3 : Addr) (t0 : Int32) (kc_o3 : ClassId) (h0 : Heap) (O0 : Old Z Z.heap.size h0) (gn_o1 : Z.heap.size ≤ o1) (lt_o1 : o1 < h0.size) (E_o1 : Exa Z h0 o1 "com/example/netloom/netloom/xml/NetReader$OpenAnnotations") (gn_o2 : Z.heap.size ≤ o2) (lt_o2 : o2 < h0.size) (F_o1_owner : Fld Z h0 o1 "com/example/netloom/netloom/xml/NetReader$OpenAnnotations" "owner" "Ljava/lang/String;" (.ref o2)) (F_o1_form : Fld Z h0 o1 "com/example/netloom/netloom/xml/NetReader$OpenAnnotations" "form" "Lcom/example/netloom/netloom/xml/XmlGraphics$Form;" (.ref (w 2))) (F_o1_carries : Fld Z h0 o1 "com/example/netloom/netloom/xml/NetReader$OpenAnnotations" "carries" "Ljava/util/Set;" .null) (F_o1_graphicsCarried : Fld Z h0 o1 "com/example/netloom/netloom/xml/NetReader$OpenAnnotations" "graphicsCarried" "Z" (.int (0 : Int32))) (F_o1_graphics : Fld Z h0 o1 "com/example/netloom/netloom/xml/NetReader$OpenAnnotations" "graphics" "Lcom/example/netloom/netloom/net/Graphics;" .null) (E_o2 : Exa Z h0 o2 "java/lang/String") (gn_o3 : Z.heap.size ≤ o3) (lt_o3 : o3 < h0.size) (F_o2_value : Fld Z h0 o2 "java/lang/String" "value" "[B" (.ref o3)) (F_o2_coder : Fld Z h0 o2 "java/lang/String" "coder" "B" (.int (0 : Int32))) (V_o3 : Arv Z h0 o3 kc_o3 .byte (1 : Int32) [(.int t0)] (.int (0 : Int32))) (ne_o1_o2 : o1 ≠ o2) (ne_o1_o3 : o1 ≠ o3) (ne_o2_o3 : o2 ≠ o3) :
    MetFree l (⟨"com/example/netloom/netloom/xml/NetReader$OpenAnnotations", "carryGraphics", "()V"⟩ : MethodName) (head1 (Jvm.Cond.code (⟨"com/example/netloom/netloom/xml/NetReader$OpenAnnotations", "carryGraphics", "()V"⟩ : MethodName) prog_77_method_2_code 1 none :: ws) ({ frames := 0, cells := 0, slots := 0, locals := 0 } : Room)) (fun a U => a = #[(.ref o1)] ∧ Z.Warmed39 U.vm ∧ U.heap = h0) (fun _ _ _ _ _ => True) (fun _ U o U' => ∃ v L, o = .returned v ∧ Qd_6 Z w kk iw vw o1 o2 o3 t0 kc_o3 h0 Z.heap.size v U'.heap L ∧ FrameEnd U o U' L ({ frames := 0, cells := 0, slots := 0, locals := 0 } : Room).cells ({ frames := 0, cells := 0, slots := 0, locals := 0 } : Room).slots) := by
  have hN' := hN
  obtain ⟨hS0, hE0, hS1, hE1, hS2, hE2, hI0, hJ0, hR0, hRr0⟩ := hN'
  refine MetFree.of_bodySF (plainFor_of_name pn_3) hisR ?_
  intro p e s m args below meth c s₁ Bd hml0 hP hK
  obtain ⟨rfl, hZ, hh⟩ := hP
  have hx := Bd.exec
  have hby := Bd.bytes
  have hml : c.maxLocals = 1 := hml0
  have hown : s.vm.findClass "com/example/netloom/netloom/xml/NetReader$OpenAnnotations" = some m.cls := findClass_of_methodNamed Bd.named
  have hnm := (name_of_methodNamed Bd.named Bd.method).1
  have X0 : Stand p l e ({ frames := 0, cells := 0, slots := 0, locals := 0 } : Room) s m #[(.ref o1)] below meth c s₁ [] 0 0 := Stand.of_body Bd
  have e0 : s₁.heap = h0 := by rw [← hh, Bd.state]; rfl
  have N0 := Fr.nil Z.heap.size
  have pre0 : ∀ t, Steps p.tables e below (s₁.setTop (mkF m 0 #[.val (.ref o1)] [])) t → Steps p.tables e below (s₁.setTop (entryFrame m #[(.ref o1)] 1)) t := fun t k => castTop (ef_3 m (.ref o1) rfl) k
  have K0 : Keep h0 h0 [o1] := Keep.refl _ _
  obtain ⟨T1, h1, X1, e1, W1, st1⟩ := putFN X0 hx hZ hown (W hw 51 rfl) Via.refl e0 F_o1_graphicsCarried E_o1 (Or.inl (W hw 52 rfl)) (W hw 34 rfl) (ty := .boolean) (v' := (.int (1 : Int32))) (by decide) rfl rfl (g := (mkF m 2 #[.val (.ref o1)] [(.int (1 : Int32)), (.ref o1)])) rfl rfl (hb hby d_prog_77_method_2_code_2)
  have F_o1_graphicsCarried_v1 := F_o1_graphicsCarried.same W1
  have N1 := Fr.snoc X1 N0 gn_o1
  have E_o1_v1 := E_o1.wr W1
  have F_o1_owner_v1 := F_o1_owner.other W1 (Or.inr (sn_14 hw))
  have F_o1_form_v1 := F_o1_form.other W1 (Or.inr (sn_15 hw))
  have F_o1_carries_v1 := F_o1_carries.other W1 (Or.inr (sn_16 hw))
  have F_o1_graphics_v1 := F_o1_graphics.other W1 (Or.inr (sn_17 hw))
  have E_o2_v1 := E_o2.wr W1
  have F_o2_value_v1 := F_o2_value.other W1 (Or.inl (Ne.symm ne_o1_o2))
  have F_o2_coder_v1 := F_o2_coder.other W1 (Or.inl (Ne.symm ne_o1_o2))
  have V_o3_v1 := V_o3.other W1 (Ne.symm ne_o1_o3)
  have O1 := O0.wr W1 gn_o1
  have K1 : Keep h0 h1 [o1] := K0.wr W1 (Or.inl (List.mem_of_getElem? (i := 0) rfl))
  obtain ⟨fs, hr, hrun, hended, hW, hsame⟩ := X1.leave (v := none) (fun _ => rfl)
  refine ⟨_, _, pre0 _ ?_, hrun, hended, _, _, rfl, ?_, ⟨_, rfl⟩, hW, hsame.mono (by decide) (by decide)⟩
  · show Steps p.tables e below (s₁.setTop (mkF m 0 #[.val (.ref o1)] [])) _
    refine XS.aloadN X0.here hx rfl (hb hby d_prog_77_method_2_code_0) rfl rfl ?_
    show Steps p.tables e below (s₁.setTop (mkF m 1 #[.val (.ref o1)] [(.ref o1)])) _
    refine XS.iconst X0.here hx rfl (hb hby d_prog_77_method_2_code_1) ?_
    show Steps p.tables e below (s₁.setTop (mkF m 2 #[.val (.ref o1)] [(.int (1 : Int32)), (.ref o1)])) _
    refine st1 _ ?_
    show Steps p.tables e below (T1.setTop (mkF m 5 #[.val (.ref o1)] [])) _
    exact X1.returnOut hx Bd.returns (hb hby d_prog_77_method_2_code_5) hr
  · show Qd_6 Z w kk iw vw o1 o2 o3 t0 kc_o3 h0 Z.heap.size _ T1.heap _
    rw [e1]
    exact ⟨rfl, N1, K1, E_o1_v1, F_o1_owner_v1, F_o1_form_v1, F_o1_carries_v1, F_o1_graphicsCarried_v1, F_o1_graphics_v1⟩
set_option maxRecDepth 65536 in
set_option maxHeartbeats 40000000 in
theorem rm_21 (l : Launch) (Z : State) (a0 : Array Value) (hw : ∀ d ∈ tables_1, d.before a0 Z = true) (w : Nat → Addr) (kk : Nat → ClassId) (iw : Nat → Int32) (vw : Nat → Value) (hN : Wd Z w kk iw vw) (ws : List Jvm.Cond) (o1 : Addr) (o2 : Addr) (o3 : Addr) (t0 : Int32) (kc_o3 : ClassId) (h0 : Heap) (O0 : Old Z Z.heap.size h0) (gn_o1 : Z.heap.size ≤ o1) (lt_o1 : o1 < h0.size) (E_o1 : Exa Z h0 o1 "com/example/netloom/netloom/xml/NetReader$OpenAnnotations") (gn_o2 : Z.heap.size ≤ o2) (lt_o2 : o2 < h0.size) (F_o1_owner : Fld Z h0 o1 "com/example/netloom/netloom/xml/NetReader$OpenAnnotations" "owner" "Ljava/lang/String;" (.ref o2)) (F_o1_form : Fld Z h0 o1 "com/example/netloom/netloom/xml/NetReader$OpenAnnotations" "form" "Lcom/example/netloom/netloom/xml/XmlGraphics$Form;" (.ref (w 2))) (F_o1_carries : Fld Z h0 o1 "com/example/netloom/netloom/xml/NetReader$OpenAnnotations" "carries" "Ljava/util/Set;" .null) (F_o1_graphicsCarried : Fld Z h0 o1 "com/example/netloom/netloom/xml/NetReader$OpenAnnotations" "graphicsCarried" "Z" (.int (1 : Int32))) (F_o1_graphics : Fld Z h0 o1 "com/example/netloom/netloom/xml/NetReader$OpenAnnotations" "graphics" "Lcom/example/netloom/netloom/net/Graphics;" .null) (E_o2 : Exa Z h0 o2 "java/lang/String") (gn_o3 : Z.heap.size ≤ o3) (lt_o3 : o3 < h0.size) (F_o2_value : Fld Z h0 o2 "java/lang/String" "value" "[B" (.ref o3)) (F_o2_coder : Fld Z h0 o2 "java/lang/String" "coder" "B" (.int (0 : Int32))) (V_o3 : Arv Z h0 o3 kc_o3 .byte (1 : Int32) [(.int t0)] (.int (0 : Int32))) (ne_o1_o2 : o1 ≠ o2) (ne_o1_o3 : o1 ≠ o3) (ne_o2_o3 : o2 ≠ o3) :
    MetFree l (⟨"com/example/netloom/netloom/xml/NetReader$OpenAnnotations", "carriesGraphics", "()Z"⟩ : MethodName) (head1 (Jvm.Cond.code (⟨"com/example/netloom/netloom/xml/NetReader$OpenAnnotations", "carriesGraphics", "()Z"⟩ : MethodName) prog_77_method_3_code 1 (some .boolean) :: ws) ({ frames := 0, cells := 0, slots := 0, locals := 0 } : Room)) (fun a U => a = #[(.ref o1)] ∧ Z.Warmed39 U.vm ∧ U.heap = h0) (fun _ _ _ _ _ => True) (fun _ U o U' => ∃ v L, o = .returned v ∧ OQ (some (.int (0 : Int32))) h0 Z.heap.size v U'.heap L ∧ FrameEnd U o U' L ({ frames := 0, cells := 0, slots := 0, locals := 0 } : Room).cells ({ frames := 0, cells := 0, slots := 0, locals := 0 } : Room).slots) := by
  have hN' := hN
  obtain ⟨hS0, hE0, hS1, hE1, hS2, hE2, hI0, hJ0, hR0, hRr0⟩ := hN'
  refine MetFree.of_bodySF (plainFor_of_name pn_3) hisR ?_
  intro p e s m args below meth c s₁ Bd hml0 hP hK
  obtain ⟨rfl, hZ, hh⟩ := hP
  have hx := Bd.exec
  have hby := Bd.bytes
  have hml : c.maxLocals = 1 := hml0
  have hown : s.vm.findClass "com/example/netloom/netloom/xml/NetReader$OpenAnnotations" = some m.cls := findClass_of_methodNamed Bd.named
  have hnm := (name_of_methodNamed Bd.named Bd.method).1
  have X0 : Stand p l e ({ frames := 0, cells := 0, slots := 0, locals := 0 } : Room) s m #[(.ref o1)] below meth c s₁ [] 0 0 := Stand.of_body Bd
  have e0 : s₁.heap = h0 := by rw [← hh, Bd.state]; rfl
  have N0 := Fr.nil Z.heap.size
  have pre0 : ∀ t, Steps p.tables e below (s₁.setTop (mkF m 0 #[.val (.ref o1)] [])) t → Steps p.tables e below (s₁.setTop (entryFrame m #[(.ref o1)] 1)) t := fun t k => castTop (ef_3 m (.ref o1) rfl) k
  obtain ⟨T1, X1, e1, st1⟩ := getF X0 hx hZ hown (host := "") (Or.inl (W hw 51 rfl)) Via.refl e0 F_o1_graphicsCarried (g := (mkF m 1 #[.val (.ref o1)] [(.ref o1)])) rfl rfl (hb hby d_prog_77_method_3_code_1)
  obtain ⟨T2, X2, e2, st2⟩ := getF X1 hx hZ hown (host := "") (Or.inl (W hw 42 rfl)) Via.refl e1 F_o1_form (g := (mkF m 8 #[.val (.ref o1)] [(.ref o1)])) rfl rfl (hb hby d_prog_77_method_3_code_8)
  obtain ⟨fs, hr, hrun, hended, hW, hsame⟩ := X2.leave (v := some (.int (0 : Int32))) (fun h => by rw [Bd.returns] at h; cases h)
  refine ⟨_, _, pre0 _ ?_, hrun, hended, _, _, rfl, ?_, ⟨_, rfl⟩, hW, hsame.mono (by decide) (by decide)⟩
  · show Steps p.tables e below (s₁.setTop (mkF m 0 #[.val (.ref o1)] [])) _
    refine XS.aloadN X0.here hx rfl (hb hby d_prog_77_method_3_code_0) rfl rfl ?_
    show Steps p.tables e below (s₁.setTop (mkF m 1 #[.val (.ref o1)] [(.ref o1)])) _
    refine st1 _ ?_
    show Steps p.tables e below (T1.setTop (mkF m 4 #[.val (.ref o1)] [(.int (1 : Int32))])) _
    refine XS.ifNo X1.here hx rfl (hb hby d_prog_77_method_3_code_4) rfl ((if0 _ _).trans (feq (by decide : ¬ ((1 : Int32) = (0 : Int32)))).1) ?_
    show Steps p.tables e below (T1.setTop (mkF m 7 #[.val (.ref o1)] [])) _
    refine XS.aloadN X1.here hx rfl (hb hby d_prog_77_method_3_code_7) rfl rfl ?_
    show Steps p.tables e below (T1.setTop (mkF m 8 #[.val (.ref o1)] [(.ref o1)])) _
    refine st2 _ ?_
    show Steps p.tables e below (T2.setTop (mkF m 11 #[.val (.ref o1)] [(.ref (w 2))])) _
    refine XS.ifnonnullYes X2.here hx rfl (pc0 := 11) (pc' := 25) rfl (hb hby d_prog_77_method_3_code_11) rfl (by decide) (by decide) ?_
    show Steps p.tables e below (T2.setTop (mkF m 25 #[.val (.ref o1)] [])) _
    refine XS.iconst X2.here hx rfl (hb hby d_prog_77_method_3_code_25) ?_
    show Steps p.tables e below (T2.setTop (mkF m 26 #[.val (.ref o1)] [(.int (0 : Int32))])) _
    exact retN X2 hx (t := .boolean) Bd.returns (by simp) (hb hby d_prog_77_method_3_code_26) hr
  · show OQ (some (.int (0 : Int32))) h0 Z.heap.size _ T2.heap _
    rw [e2]
    exact ⟨rfl, N0, rfl⟩
set_option maxRecDepth 65536 in
set_option maxHeartbeats 40000000 in
theorem law_22 (l : Launch) (Z : State) (a0 : Array Value) (hw : ∀ d ∈ tables_1, d.before a0 Z = true) (w : Nat → Addr) (kk : Nat → ClassId) (iw : Nat → Int32) (vw : Nat → Value) (hN : Wd Z w kk iw vw) (ws : List Jvm.Cond) (p0 : Int32) (p1 : Int32) (p2 : Int32) (h0 : Heap) (O0 : Old Z Z.heap.size h0) (hp0 : (p1 &&& (3 : Int32)) = (1 : Int32)) (hp1 : ¬ ((255 : Int32) < ((p2 &&& (255 : Int32)).toUInt32.toUInt16.toUInt32.toInt32))) (hp2 : (p0 &&& (1 : Int32)) = (1 : Int32)) (hp3 : (p0 &&& (2 : Int32)) = (0 : Int32)) :
    MetFree l x (head1 (Jvm.Cond.code x code maxLocals ret :: ws) room_1) (fun a U => a = #[(.int p0), (.int p1), (.int p2)] ∧ Z.Warmed39 U.vm ∧ U.heap = h0) (fun _ _ _ _ _ => True) (fun _ U o U' => ∃ v L, o = .returned v ∧ OL (some (.int (1 : Int32))) Z.heap.size v U'.heap L ∧ FrameEnd U o U' L 16 128) := by
  have hN' := hN
  obtain ⟨hS0, hE0, hS1, hE1, hS2, hE2, hI0, hJ0, hR0, hRr0⟩ := hN'
  refine MetFree.of_bodySF (plainFor_of_name pn_0) hisR ?_
  intro p e s m args below meth c s₁ Bd hml0 hP hK
  obtain ⟨rfl, hZ, hh⟩ := hP
  have hx := Bd.exec
  have hby := Bd.bytes
  have hml : c.maxLocals = 12 := hml0
  have hown : s.vm.findClass "com/example/netloom/netloom/xml/OpenAnnotationsCarriesGraphicsPinLaw" = some m.cls := findClass_of_methodNamed Bd.named
  have hnm := (name_of_methodNamed Bd.named Bd.method).1
  have X0 : Stand p l e room_1 s m #[(.int p0), (.int p1), (.int p2)] below meth c s₁ [] 0 0 := Stand.of_body Bd
  have e0 : s₁.heap = h0 := by rw [← hh, Bd.state]; rfl
  have N0 := Fr.nil Z.heap.size
  have pre0 : ∀ t, Steps p.tables e below (s₁.setTop (mkF m 0 #[.val (.int p0), .val (.int p1), .val (.int p2), .unset, .unset, .unset, .unset, .unset, .unset, .unset, .unset, .unset] [])) t → Steps p.tables e below (s₁.setTop (entryFrame m #[(.int p0), (.int p1), (.int p2)] maxLocals)) t := fun t k => castTop (ef_4 m (.int p0) rfl (.int p1) rfl (.int p2) rfl) k
  obtain ⟨_, _, ⟨T1, L1, k1, n1⟩, -, X1, ⟨Lc1, hQ1, l1, y1, z1⟩, st1⟩ := Jvm.LawKit.callS X0 hx (y := (⟨"com/example/netloom/netloom/xml/OpenAnnotationsCarriesGraphicsPinLaw", "pick", "(I)Lcom/example/netloom/netloom/xml/XmlGraphics$Form;"⟩ : MethodName)) hown (mvT hZ (W hw 0 rfl)) (mvT hZ (W hw 1 rfl)) (mvT hZ (W hw 2 rfl)) (mvT hZ (W hw 3 rfl)) (by decide) (backOf (W := 0) (rm_15 l Z a0 hw w kk iw vw hN [] h0 O0) hZ (W hw 3 rfl) (W hw 2 rfl) (by decide) (by decide)) (g := (mkF m 3 #[.val (.int p0), .val (.int p1), .val (.int p2), .unset, .unset, .unset, .unset, .unset, .unset, .unset, .unset, .unset] [(.int (1 : Int32))])) rfl (by rw [hml]; rfl) (argsL := [(.int (1 : Int32))]) (rest := []) (lenOf pd_0 rfl) rfl (by show 2 * 0 + _ ≤ _; exact Nat.le_of_eq rfl) (hb hby at_3) (fun _ _ => ⟨rfl, e0, (by decide : 0 + 0 ≤ _), (by decide : 0 + 0 ≤ _)⟩)
  dsimp only [Pt.U, Pt.locs, Pt.cells, Pt.slots] at X1 l1 y1 z1 st1 hQ1
  subst l1 y1 z1
  obtain ⟨rfl, N1q, e1⟩ := hQ1
  have N1 := Fr.app N0 N1q
  obtain ⟨_, _, ⟨T2, L2, k2, n2⟩, -, X2, ⟨Lc2, hQ2, l2, y2, z2⟩, st2⟩ := Jvm.LawKit.callS X1 hx (y := (⟨"java/lang/String", "valueOf", "(C)Ljava/lang/String;"⟩ : MethodName)) hown (mvT hZ (W hw 7 rfl)) (mvT hZ (W hw 8 rfl)) (mvT hZ (W hw 9 rfl)) (mvT hZ (W hw 10 rfl)) (by decide) (backOf (W := 0) (rm_5 l Z a0 hw w kk iw vw hN [] ((p2 &&& (255 : Int32)).toUInt32.toUInt16.toUInt32.toInt32) h0 O0 hp1) hZ (W hw 10 rfl) (W hw 9 rfl) (by decide) (by decide)) (g := (mkF m 13 #[.val (.int p0), .val (.int p1), .val (.int p2), .val (.ref (w 2)), .unset, .unset, .unset, .unset, .unset, .unset, .unset, .unset] [(.int ((p2 &&& (255 : Int32)).toUInt32.toUInt16.toUInt32.toInt32))])) rfl (by rw [hml]; rfl) (argsL := [(.int ((p2 &&& (255 : Int32)).toUInt32.toUInt16.toUInt32.toInt32))]) (rest := []) (lenOf pd_4 rfl) rfl (by show 2 * 0 + _ ≤ _; exact Nat.le_of_eq rfl) (hb hby at_13) (fun _ _ => ⟨rfl, e1, (by decide : 0 + 2 ≤ _), (by decide : 0 + 5 ≤ _)⟩)
  dsimp only [Pt.U, Pt.locs, Pt.cells, Pt.slots] at X2 l2 y2 z2 st2 hQ2
  subst l2 y2 z2
  obtain ⟨b2_0, b2_1, kb2_0, rfl, N2q, Kq2, tk2_0, tk2_1, tk2_2, tk2_3, tk2_4, tk2_5, tk2_6⟩ := hQ2
  have N2 := Fr.app N1 N2q
  have gn_b2_0 : Z.heap.size ≤ b2_0 := Nat.le_trans O0.2.1 tk2_0
  have gn_b2_1 : Z.heap.size ≤ b2_1 := Nat.le_trans O0.2.1 tk2_1
  have O2 := O0.keep Kq2 all0
  obtain ⟨T3, h3, X3, e3, E3, A3, D3, -, st3⟩ := newO X2 hx hZ hown (W hw 33 rfl) (W hw 34 rfl) (W hw 35 rfl) rfl (g := (mkF m 18 #[.val (.int p0), .val (.int p1), .val (.int p2), .val (.ref (w 2)), .val (.ref b2_0), .unset, .unset, .unset, .unset, .unset, .unset, .unset] [])) rfl (hb hby at_18) (by decide) (by decide)
  obtain ⟨b3, g3⟩ : ∃ z, z = T2.heap.size := ⟨_, rfl⟩
  rw [← g3] at A3 st3 D3
  have gn_b3 : Z.heap.size ≤ b3 := Nat.le_trans O2.2.1 (Nat.le_of_eq g3.symm)
  have ne_b2_1_b3 : b2_1 ≠ b3 := Nat.ne_of_lt (Nat.lt_of_lt_of_le tk2_6.lt (Nat.le_of_eq g3.symm))
  have ne_b2_0_b3 : b2_0 ≠ b3 := Nat.ne_of_lt (Nat.lt_of_lt_of_le tk2_3.lt (Nat.le_of_eq g3.symm))
  have tk2_3_v3 := tk2_3.ext E3
  have tk2_4_v3 := tk2_4.ext E3
  have tk2_5_v3 := tk2_5.ext E3
  have tk2_6_v3 := tk2_6.ext E3
  have O3 := O2.ext E3
  have E_b3_v3 := A3
  have F_b3_owner_v3 : Fld Z h3 b3 "com/example/netloom/netloom/xml/NetReader$OpenAnnotations" "owner" "Ljava/lang/String;" .null := D3 (Or.inr (W hw 41 rfl)) (ty := (.object "java/lang/String")) (by decide)
  have F_b3_form_v3 : Fld Z h3 b3 "com/example/netloom/netloom/xml/NetReader$OpenAnnotations" "form" "Lcom/example/netloom/netloom/xml/XmlGraphics$Form;" .null := D3 (Or.inr (W hw 43 rfl)) (ty := (.object "com/example/netloom/netloom/xml/XmlGraphics$Form")) (by decide)
  have F_b3_carries_v3 : Fld Z h3 b3 "com/example/netloom/netloom/xml/NetReader$OpenAnnotations" "carries" "Ljava/util/Set;" .null := D3 (Or.inr (W hw 45 rfl)) (ty := (.object "java/util/Set")) (by decide)
  have F_b3_graphicsCarried_v3 : Fld Z h3 b3 "com/example/netloom/netloom/xml/NetReader$OpenAnnotations" "graphicsCarried" "Z" (.int (0 : Int32)) := D3 (Or.inl (W hw 52 rfl)) (ty := .boolean) (by decide)
  have F_b3_graphics_v3 : Fld Z h3 b3 "com/example/netloom/netloom/xml/NetReader$OpenAnnotations" "graphics" "Lcom/example/netloom/netloom/net/Graphics;" .null := D3 (Or.inl (W hw 59 rfl)) (ty := (.object "com/example/netloom/netloom/net/Graphics")) (by decide)
  obtain ⟨_, _, ⟨T4, L4, k4, n4⟩, -, X4, ⟨Lc4, hQ4, l4, y4, z4⟩, st4⟩ := X3.specialBack hx (y := (⟨"com/example/netloom/netloom/xml/NetReader$OpenAnnotations", "<init>", "(Ljava/lang/String;Lcom/example/netloom/netloom/xml/XmlGraphics$Form;Ljava/util/Set;)V"⟩ : MethodName)) rfl hown (mvT hZ (W hw 36 rfl)) (mvT hZ (W hw 37 rfl)) (mvT hZ (W hw 38 rfl)) (by decide) (backOf (W := 1) (rm_16 l Z a0 hw w kk iw vw hN [] b3 b2_0 b2_1 ((((p2 &&& (255 : Int32)).toUInt32.toUInt16.toUInt32.toInt32).toInt8.toInt32).toInt8.toInt32) kb2_0 h3 O3 gn_b3 E_b3_v3.lt gn_b2_0 tk2_3_v3.lt E_b3_v3 F_b3_owner_v3 F_b3_form_v3 F_b3_carries_v3 F_b3_graphicsCarried_v3 F_b3_graphics_v3 tk2_3_v3 gn_b2_1 tk2_6_v3.lt tk2_4_v3 tk2_5_v3 tk2_6_v3 (Ne.symm ne_b2_0_b3) (Ne.symm ne_b2_1_b3) tk2_2) hZ (W hw 38 rfl) (W hw 35 rfl) (by decide) (by decide)) (g := (mkF m 26 #[.val (.int p0), .val (.int p1), .val (.int p2), .val (.ref (w 2)), .val (.ref b2_0), .unset, .unset, .unset, .unset, .unset, .unset, .unset] [.null, (.ref (w 2)), (.ref b2_0), (.ref b3), (.ref b3)])) rfl (by rw [hml]; rfl) (Steps.refl _) (a := b3) (argsL := [(.ref b2_0), (.ref (w 2)), .null]) (rest := [(.ref b3)]) (lenOf pd_5 rfl) rfl (by show 2 * 0 + _ ≤ _; exact Nat.le_of_eq rfl) (hb hby at_26) (fun _ _ => ⟨rfl, e3, (by decide : 3 + 0 ≤ _), (by decide : 16 + 0 ≤ _)⟩)
  dsimp only [Pt.U, Pt.locs, Pt.cells, Pt.slots] at X4 l4 y4 z4 st4 hQ4
  subst l4 y4 z4
  obtain ⟨rfl, N4q, Kq4, tk4_0, tk4_1, tk4_2, tk4_3, tk4_4, tk4_5⟩ := hQ4
  have N4 := Fr.app N2 N4q
  have tk2_3_v4 := tk2_3_v3.keep Kq4
  have tk2_4_v4 := tk2_4_v3.keep Kq4 (ninS ne_b2_0_b3 nin0)
  have tk2_5_v4 := tk2_5_v3.keep Kq4 (ninS ne_b2_0_b3 nin0)
  have tk2_6_v4 := tk2_6_v3.keep Kq4 (ninS ne_b2_1_b3 nin0)
  have E_b3_v4 := E_b3_v3.keep Kq4
  have O4 := O3.keep Kq4 (allS gn_b3 all0)
  obtain ⟨cq5, kq5, q5a, q5b, q5c⟩ := isOf hZ rfl tk4_0
  obtain ⟨_, _, ⟨T5, L5, k5, n5⟩, -, X5, ⟨Lc5, hQ5, l5, y5, z5⟩, st5⟩ := X4.virtualBack hx (y := (⟨"com/example/netloom/netloom/xml/NetReader$OpenAnnotations", "carriesGraphics", "()Z"⟩ : MethodName)) (z := (⟨"com/example/netloom/netloom/xml/NetReader$OpenAnnotations", "carriesGraphics", "()Z"⟩ : MethodName)) hown (mvT hZ (W hw 46 rfl)) (mvT hZ (W hw 47 rfl)) (notFace_of_selects (args := #[]) (mvT hZ (W hw 49 rfl))) (mvT hZ (W hw 49 rfl)) (mvT hZ (W hw 48 rfl)) (by decide) (backOf (W := 0) (rm_17 l Z a0 hw w kk iw vw hN [] b3 b2_0 b2_1 ((((p2 &&& (255 : Int32)).toUInt32.toUInt16.toUInt32.toInt32).toInt8.toInt32).toInt8.toInt32) kb2_0 T4.heap O4 gn_b3 tk4_0.lt tk4_0 gn_b2_0 tk2_3_v4.lt tk4_1 tk4_2 tk4_3 tk4_4 tk4_5 tk2_3_v4 gn_b2_1 tk2_6_v4.lt tk2_4_v4 tk2_5_v4 tk2_6_v4 (Ne.symm ne_b2_0_b3) (Ne.symm ne_b2_1_b3) tk2_2) hZ (W hw 50 rfl) (W hw 35 rfl) (by decide) (by decide)) q5a q5c (g := (mkF m 33 #[.val (.int p0), .val (.int p1), .val (.int p2), .val (.ref (w 2)), .val (.ref b2_0), .val (.ref b3), .unset, .unset, .unset, .unset, .unset, .unset] [(.ref b3)])) rfl (by rw [hml]; rfl) (Steps.refl _) (argsL := []) (rest := []) (lenOf pd_6 rfl) rfl (by show 2 * 0 + _ ≤ _; exact Nat.le_of_eq rfl) (hb hby at_33) (fun _ _ => ⟨rfl, rfl, (by decide : 3 + 0 ≤ _), (by decide : 16 + 0 ≤ _)⟩)
  dsimp only [Pt.U, Pt.locs, Pt.cells, Pt.slots] at X5 l5 y5 z5 st5 hQ5
  subst l5 y5 z5
  obtain ⟨rfl, N5q, e5⟩ := hQ5
  have N5 := Fr.app N4 N5q
  obtain ⟨cq6, kq6, q6a, q6b, q6c⟩ := isOf hZ e5 tk4_0
  obtain ⟨_, _, ⟨T6, L6, k6, n6⟩, -, X6, ⟨Lc6, hQ6, l6, y6, z6⟩, st6⟩ := X5.virtualBack hx (y := (⟨"com/example/netloom/netloom/xml/NetReader$OpenAnnotations", "carryGraphics", "()V"⟩ : MethodName)) (z := (⟨"com/example/netloom/netloom/xml/NetReader$OpenAnnotations", "carryGraphics", "()V"⟩ : MethodName)) hown (mvT hZ (W hw 53 rfl)) (mvT hZ (W hw 54 rfl)) (notFace_of_selects (args := #[]) (mvT hZ (W hw 56 rfl))) (mvT hZ (W hw 56 rfl)) (mvT hZ (W hw 55 rfl)) (by decide) (backOf (W := 0) (rm_20 l Z a0 hw w kk iw vw hN [] b3 b2_0 b2_1 ((((p2 &&& (255 : Int32)).toUInt32.toUInt16.toUInt32.toInt32).toInt8.toInt32).toInt8.toInt32) kb2_0 T4.heap O4 gn_b3 tk4_0.lt tk4_0 gn_b2_0 tk2_3_v4.lt tk4_1 tk4_2 tk4_3 tk4_4 tk4_5 tk2_3_v4 gn_b2_1 tk2_6_v4.lt tk2_4_v4 tk2_5_v4 tk2_6_v4 (Ne.symm ne_b2_0_b3) (Ne.symm ne_b2_1_b3) tk2_2) hZ (W hw 57 rfl) (W hw 35 rfl) (by decide) (by decide)) q6a q6c (g := (mkF m 71 #[.val (.int p0), .val (.int p1), .val (.int p2), .val (.ref (w 2)), .val (.ref b2_0), .val (.ref b3), .val (.int (0 : Int32)), .val (.int (1 : Int32)), .val (.int (0 : Int32)), .unset, .unset, .unset] [(.ref b3)])) rfl (by rw [hml]; rfl) (Steps.refl _) (argsL := []) (rest := []) (lenOf pd_7 rfl) rfl (by show 2 * 0 + _ ≤ _; exact Nat.le_of_eq rfl) (hb hby at_71) (fun _ _ => ⟨rfl, e5, (by decide : 3 + 0 ≤ _), (by decide : 16 + 0 ≤ _)⟩)
  dsimp only [Pt.U, Pt.locs, Pt.cells, Pt.slots] at X6 l6 y6 z6 st6 hQ6
  subst l6 y6 z6
  obtain ⟨rfl, N6q, Kq6, tk6_0, tk6_1, tk6_2, tk6_3, tk6_4, tk6_5⟩ := hQ6
  have N6 := Fr.app N5 N6q
  have tk2_3_v6 := tk2_3_v4.keep Kq6
  have tk2_4_v6 := tk2_4_v4.keep Kq6 (ninS ne_b2_0_b3 nin0)
  have tk2_5_v6 := tk2_5_v4.keep Kq6 (ninS ne_b2_0_b3 nin0)
  have tk2_6_v6 := tk2_6_v4.keep Kq6 (ninS ne_b2_1_b3 nin0)
  have tk4_0_v6 := tk4_0.keep Kq6
  have O6 := O4.keep Kq6 (allS gn_b3 all0)
  obtain ⟨cq7, kq7, q7a, q7b, q7c⟩ := isOf hZ rfl tk6_0
  obtain ⟨_, _, ⟨T7, L7, k7, n7⟩, -, X7, ⟨Lc7, hQ7, l7, y7, z7⟩, st7⟩ := X6.virtualBack hx (y := (⟨"com/example/netloom/netloom/xml/NetReader$OpenAnnotations", "carriesGraphics", "()Z"⟩ : MethodName)) (z := (⟨"com/example/netloom/netloom/xml/NetReader$OpenAnnotations", "carriesGraphics", "()Z"⟩ : MethodName)) hown (mvT hZ (W hw 46 rfl)) (mvT hZ (W hw 47 rfl)) (notFace_of_selects (args := #[]) (mvT hZ (W hw 49 rfl))) (mvT hZ (W hw 49 rfl)) (mvT hZ (W hw 48 rfl)) (by decide) (backOf (W := 0) (rm_21 l Z a0 hw w kk iw vw hN [] b3 b2_0 b2_1 ((((p2 &&& (255 : Int32)).toUInt32.toUInt16.toUInt32.toInt32).toInt8.toInt32).toInt8.toInt32) kb2_0 T6.heap O6 gn_b3 tk6_0.lt tk6_0 gn_b2_0 tk2_3_v6.lt tk6_1 tk6_2 tk6_3 tk6_4 tk6_5 tk2_3_v6 gn_b2_1 tk2_6_v6.lt tk2_4_v6 tk2_5_v6 tk2_6_v6 (Ne.symm ne_b2_0_b3) (Ne.symm ne_b2_1_b3) tk2_2) hZ (W hw 50 rfl) (W hw 35 rfl) (by decide) (by decide)) q7a q7c (g := (mkF m 86 #[.val (.int p0), .val (.int p1), .val (.int p2), .val (.ref (w 2)), .val (.ref b2_0), .val (.ref b3), .val (.int (0 : Int32)), .val (.int (1 : Int32)), .val (.int (0 : Int32)), .unset, .unset, .unset] [(.ref b3)])) rfl (by rw [hml]; rfl) (Steps.refl _) (argsL := []) (rest := []) (lenOf pd_6 rfl) rfl (by show 2 * 0 + _ ≤ _; exact Nat.le_of_eq rfl) (hb hby at_86) (fun _ _ => ⟨rfl, rfl, (by decide : 3 + 0 ≤ _), (by decide : 16 + 0 ≤ _)⟩)
  dsimp only [Pt.U, Pt.locs, Pt.cells, Pt.slots] at X7 l7 y7 z7 st7 hQ7
  subst l7 y7 z7
  obtain ⟨rfl, N7q, e7⟩ := hQ7
  have N7 := Fr.app N6 N7q
  obtain ⟨cq8, kq8, q8a, q8b, q8c⟩ := isOf hZ e7 tk6_0
  obtain ⟨_, _, ⟨T8, L8, k8, n8⟩, -, X8, ⟨Lc8, hQ8, l8, y8, z8⟩, st8⟩ := X7.virtualBack hx (y := (⟨"com/example/netloom/netloom/xml/NetReader$OpenAnnotations", "carriesGraphics", "()Z"⟩ : MethodName)) (z := (⟨"com/example/netloom/netloom/xml/NetReader$OpenAnnotations", "carriesGraphics", "()Z"⟩ : MethodName)) hown (mvT hZ (W hw 46 rfl)) (mvT hZ (W hw 47 rfl)) (notFace_of_selects (args := #[]) (mvT hZ (W hw 49 rfl))) (mvT hZ (W hw 49 rfl)) (mvT hZ (W hw 48 rfl)) (by decide) (backOf (W := 0) (rm_21 l Z a0 hw w kk iw vw hN [] b3 b2_0 b2_1 ((((p2 &&& (255 : Int32)).toUInt32.toUInt16.toUInt32.toInt32).toInt8.toInt32).toInt8.toInt32) kb2_0 T6.heap O6 gn_b3 tk6_0.lt tk6_0 gn_b2_0 tk2_3_v6.lt tk6_1 tk6_2 tk6_3 tk6_4 tk6_5 tk2_3_v6 gn_b2_1 tk2_6_v6.lt tk2_4_v6 tk2_5_v6 tk2_6_v6 (Ne.symm ne_b2_0_b3) (Ne.symm ne_b2_1_b3) tk2_2) hZ (W hw 50 rfl) (W hw 35 rfl) (by decide) (by decide)) q8a q8c (g := (mkF m 93 #[.val (.int p0), .val (.int p1), .val (.int p2), .val (.ref (w 2)), .val (.ref b2_0), .val (.ref b3), .val (.int (0 : Int32)), .val (.int (1 : Int32)), .val (.int (0 : Int32)), .val (.int (0 : Int32)), .unset, .unset] [(.ref b3)])) rfl (by rw [hml]; rfl) (Steps.refl _) (argsL := []) (rest := []) (lenOf pd_6 rfl) rfl (by show 2 * 0 + _ ≤ _; exact Nat.le_of_eq rfl) (hb hby at_93) (fun _ _ => ⟨rfl, e7, (by decide : 3 + 0 ≤ _), (by decide : 16 + 0 ≤ _)⟩)
  dsimp only [Pt.U, Pt.locs, Pt.cells, Pt.slots] at X8 l8 y8 z8 st8 hQ8
  subst l8 y8 z8
  obtain ⟨rfl, N8q, e8⟩ := hQ8
  have N8 := Fr.app N7 N8q
  obtain ⟨fs, hr, hrun, hended, hW, hsame⟩ := X8.leave (v := some (.int (1 : Int32))) (fun h => by rw [Bd.returns] at h; cases h)
  refine ⟨_, _, pre0 _ ?_, hrun, hended, _, _, rfl, ?_, ⟨_, rfl⟩, hW, hsame.mono (by decide) (by decide)⟩
  · show Steps p.tables e below (s₁.setTop (mkF m 0 #[.val (.int p0), .val (.int p1), .val (.int p2), .unset, .unset, .unset, .unset, .unset, .unset, .unset, .unset, .unset] [])) _
    refine XS.iloadN X0.here hx rfl (hb hby at_0) rfl ?_
    show Steps p.tables e below (s₁.setTop (mkF m 1 #[.val (.int p0), .val (.int p1), .val (.int p2), .unset, .unset, .unset, .unset, .unset, .unset, .unset, .unset, .unset] [(.int p1)])) _
    refine XS.iconst X0.here hx rfl (hb hby at_1) ?_
    show Steps p.tables e below (s₁.setTop (mkF m 2 #[.val (.int p0), .val (.int p1), .val (.int p2), .unset, .unset, .unset, .unset, .unset, .unset, .unset, .unset, .unset] [(.int (3 : Int32)), (.int p1)])) _
    refine XS.iand X0.here hx rfl (hb hby at_2) rfl ?_
    show Steps p.tables e below (s₁.setTop (mkF m 3 #[.val (.int p0), .val (.int p1), .val (.int p2), .unset, .unset, .unset, .unset, .unset, .unset, .unset, .unset, .unset] [(.int (p1 &&& (3 : Int32)))])) _
    rw [hp0]
    show Steps p.tables e below (s₁.setTop (mkF m 3 #[.val (.int p0), .val (.int p1), .val (.int p2), .unset, .unset, .unset, .unset, .unset, .unset, .unset, .unset, .unset] [(.int (1 : Int32))])) _
    refine st1 _ ?_
    show Steps p.tables e below (T1.setTop (mkF m 6 #[.val (.int p0), .val (.int p1), .val (.int p2), .unset, .unset, .unset, .unset, .unset, .unset, .unset, .unset, .unset] [(.ref (w 2))])) _
    refine XS.astoreN X1.here hx rfl (hb hby at_6) rfl rfl (l' := #[.val (.int p0), .val (.int p1), .val (.int p2), .val (.ref (w 2)), .unset, .unset, .unset, .unset, .unset, .unset, .unset, .unset]) rfl ?_
    show Steps p.tables e below (T1.setTop (mkF m 7 #[.val (.int p0), .val (.int p1), .val (.int p2), .val (.ref (w 2)), .unset, .unset, .unset, .unset, .unset, .unset, .unset, .unset] [])) _
    refine XS.iloadN X1.here hx rfl (hb hby at_7) rfl ?_
    show Steps p.tables e below (T1.setTop (mkF m 8 #[.val (.int p0), .val (.int p1), .val (.int p2), .val (.ref (w 2)), .unset, .unset, .unset, .unset, .unset, .unset, .unset, .unset] [(.int p2)])) _
    refine XS.sipush X1.here hx rfl (hb hby at_8) ?_
    show Steps p.tables e below (T1.setTop (mkF m 11 #[.val (.int p0), .val (.int p1), .val (.int p2), .val (.ref (w 2)), .unset, .unset, .unset, .unset, .unset, .unset, .unset, .unset] [(.int (255 : Int32)), (.int p2)])) _
    refine XS.iand X1.here hx rfl (hb hby at_11) rfl ?_
    show Steps p.tables e below (T1.setTop (mkF m 12 #[.val (.int p0), .val (.int p1), .val (.int p2), .val (.ref (w 2)), .unset, .unset, .unset, .unset, .unset, .unset, .unset, .unset] [(.int (p2 &&& (255 : Int32)))])) _
    refine XS.i2c X1.here hx rfl (hb hby at_12) rfl ?_
    show Steps p.tables e below (T1.setTop (mkF m 13 #[.val (.int p0), .val (.int p1), .val (.int p2), .val (.ref (w 2)), .unset, .unset, .unset, .unset, .unset, .unset, .unset, .unset] [(.int ((p2 &&& (255 : Int32)).toUInt32.toUInt16.toUInt32.toInt32))])) _
    refine st2 _ ?_
    show Steps p.tables e below (T2.setTop (mkF m 16 #[.val (.int p0), .val (.int p1), .val (.int p2), .val (.ref (w 2)), .unset, .unset, .unset, .unset, .unset, .unset, .unset, .unset] [(.ref b2_0)])) _
    refine XS.astore X2.here hx rfl (hb hby at_16) rfl rfl (l' := #[.val (.int p0), .val (.int p1), .val (.int p2), .val (.ref (w 2)), .val (.ref b2_0), .unset, .unset, .unset, .unset, .unset, .unset, .unset]) rfl ?_
    show Steps p.tables e below (T2.setTop (mkF m 18 #[.val (.int p0), .val (.int p1), .val (.int p2), .val (.ref (w 2)), .val (.ref b2_0), .unset, .unset, .unset, .unset, .unset, .unset, .unset] [])) _
    refine st3 _ ?_
    show Steps p.tables e below (T3.setTop (mkF m 21 #[.val (.int p0), .val (.int p1), .val (.int p2), .val (.ref (w 2)), .val (.ref b2_0), .unset, .unset, .unset, .unset, .unset, .unset, .unset] [(.ref b3)])) _
    refine XS.dup X3.here hx rfl (hb hby at_21) rfl rfl ?_
    show Steps p.tables e below (T3.setTop (mkF m 22 #[.val (.int p0), .val (.int p1), .val (.int p2), .val (.ref (w 2)), .val (.ref b2_0), .unset, .unset, .unset, .unset, .unset, .unset, .unset] [(.ref b3), (.ref b3)])) _
    refine XS.aload X3.here hx rfl (hb hby at_22) rfl rfl ?_
    show Steps p.tables e below (T3.setTop (mkF m 24 #[.val (.int p0), .val (.int p1), .val (.int p2), .val (.ref (w 2)), .val (.ref b2_0), .unset, .unset, .unset, .unset, .unset, .unset, .unset] [(.ref b2_0), (.ref b3), (.ref b3)])) _
    refine XS.aloadN X3.here hx rfl (hb hby at_24) rfl rfl ?_
    show Steps p.tables e below (T3.setTop (mkF m 25 #[.val (.int p0), .val (.int p1), .val (.int p2), .val (.ref (w 2)), .val (.ref b2_0), .unset, .unset, .unset, .unset, .unset, .unset, .unset] [(.ref (w 2)), (.ref b2_0), (.ref b3), (.ref b3)])) _
    refine XS.aconstNull X3.here hx rfl (hb hby at_25) ?_
    show Steps p.tables e below (T3.setTop (mkF m 26 #[.val (.int p0), .val (.int p1), .val (.int p2), .val (.ref (w 2)), .val (.ref b2_0), .unset, .unset, .unset, .unset, .unset, .unset, .unset] [.null, (.ref (w 2)), (.ref b2_0), (.ref b3), (.ref b3)])) _
    refine st4.trans ?_
    show Steps p.tables e below (T4.setTop (mkF m 29 #[.val (.int p0), .val (.int p1), .val (.int p2), .val (.ref (w 2)), .val (.ref b2_0), .unset, .unset, .unset, .unset, .unset, .unset, .unset] [(.ref b3)])) _
    refine XS.astore X4.here hx rfl (hb hby at_29) rfl rfl (l' := #[.val (.int p0), .val (.int p1), .val (.int p2), .val (.ref (w 2)), .val (.ref b2_0), .val (.ref b3), .unset, .unset, .unset, .unset, .unset, .unset]) rfl ?_
    show Steps p.tables e below (T4.setTop (mkF m 31 #[.val (.int p0), .val (.int p1), .val (.int p2), .val (.ref (w 2)), .val (.ref b2_0), .val (.ref b3), .unset, .unset, .unset, .unset, .unset, .unset] [])) _
    refine XS.aload X4.here hx rfl (hb hby at_31) rfl rfl ?_
    show Steps p.tables e below (T4.setTop (mkF m 33 #[.val (.int p0), .val (.int p1), .val (.int p2), .val (.ref (w 2)), .val (.ref b2_0), .val (.ref b3), .unset, .unset, .unset, .unset, .unset, .unset] [(.ref b3)])) _
    refine st5.trans ?_
    show Steps p.tables e below (T5.setTop (mkF m 36 #[.val (.int p0), .val (.int p1), .val (.int p2), .val (.ref (w 2)), .val (.ref b2_0), .val (.ref b3), .unset, .unset, .unset, .unset, .unset, .unset] [(.int (0 : Int32))])) _
    refine XS.istore X5.here hx rfl (hb hby at_36) rfl (l' := #[.val (.int p0), .val (.int p1), .val (.int p2), .val (.ref (w 2)), .val (.ref b2_0), .val (.ref b3), .val (.int (0 : Int32)), .unset, .unset, .unset, .unset, .unset]) rfl ?_
    show Steps p.tables e below (T5.setTop (mkF m 38 #[.val (.int p0), .val (.int p1), .val (.int p2), .val (.ref (w 2)), .val (.ref b2_0), .val (.ref b3), .val (.int (0 : Int32)), .unset, .unset, .unset, .unset, .unset] [])) _
    refine XS.iloadN X5.here hx rfl (hb hby at_38) rfl ?_
    show Steps p.tables e below (T5.setTop (mkF m 39 #[.val (.int p0), .val (.int p1), .val (.int p2), .val (.ref (w 2)), .val (.ref b2_0), .val (.ref b3), .val (.int (0 : Int32)), .unset, .unset, .unset, .unset, .unset] [(.int p0)])) _
    refine XS.iconst X5.here hx rfl (hb hby at_39) ?_
    show Steps p.tables e below (T5.setTop (mkF m 40 #[.val (.int p0), .val (.int p1), .val (.int p2), .val (.ref (w 2)), .val (.ref b2_0), .val (.ref b3), .val (.int (0 : Int32)), .unset, .unset, .unset, .unset, .unset] [(.int (1 : Int32)), (.int p0)])) _
    refine XS.iand X5.here hx rfl (hb hby at_40) rfl ?_
    show Steps p.tables e below (T5.setTop (mkF m 41 #[.val (.int p0), .val (.int p1), .val (.int p2), .val (.ref (w 2)), .val (.ref b2_0), .val (.ref b3), .val (.int (0 : Int32)), .unset, .unset, .unset, .unset, .unset] [(.int (p0 &&& (1 : Int32)))])) _
    rw [hp2]
    show Steps p.tables e below (T5.setTop (mkF m 41 #[.val (.int p0), .val (.int p1), .val (.int p2), .val (.ref (w 2)), .val (.ref b2_0), .val (.ref b3), .val (.int (0 : Int32)), .unset, .unset, .unset, .unset, .unset] [(.int (1 : Int32))])) _
    refine XS.ifNo X5.here hx rfl (hb hby at_41) rfl ((if0 _ _).trans (feq (by decide : ¬ ((1 : Int32) = (0 : Int32)))).1) ?_
    show Steps p.tables e below (T5.setTop (mkF m 44 #[.val (.int p0), .val (.int p1), .val (.int p2), .val (.ref (w 2)), .val (.ref b2_0), .val (.ref b3), .val (.int (0 : Int32)), .unset, .unset, .unset, .unset, .unset] [])) _
    refine XS.iconst X5.here hx rfl (hb hby at_44) ?_
    show Steps p.tables e below (T5.setTop (mkF m 45 #[.val (.int p0), .val (.int p1), .val (.int p2), .val (.ref (w 2)), .val (.ref b2_0), .val (.ref b3), .val (.int (0 : Int32)), .unset, .unset, .unset, .unset, .unset] [(.int (1 : Int32))])) _
    refine XS.goto X5.here hx rfl (pc0 := 45) (pc' := 49) rfl (hb hby at_45) (by decide) (by decide) ?_
    show Steps p.tables e below (T5.setTop (mkF m 49 #[.val (.int p0), .val (.int p1), .val (.int p2), .val (.ref (w 2)), .val (.ref b2_0), .val (.ref b3), .val (.int (0 : Int32)), .unset, .unset, .unset, .unset, .unset] [(.int (1 : Int32))])) _
    refine XS.istore X5.here hx rfl (hb hby at_49) rfl (l' := #[.val (.int p0), .val (.int p1), .val (.int p2), .val (.ref (w 2)), .val (.ref b2_0), .val (.ref b3), .val (.int (0 : Int32)), .val (.int (1 : Int32)), .unset, .unset, .unset, .unset]) rfl ?_
    show Steps p.tables e below (T5.setTop (mkF m 51 #[.val (.int p0), .val (.int p1), .val (.int p2), .val (.ref (w 2)), .val (.ref b2_0), .val (.ref b3), .val (.int (0 : Int32)), .val (.int (1 : Int32)), .unset, .unset, .unset, .unset] [])) _
    refine XS.iloadN X5.here hx rfl (hb hby at_51) rfl ?_
    show Steps p.tables e below (T5.setTop (mkF m 52 #[.val (.int p0), .val (.int p1), .val (.int p2), .val (.ref (w 2)), .val (.ref b2_0), .val (.ref b3), .val (.int (0 : Int32)), .val (.int (1 : Int32)), .unset, .unset, .unset, .unset] [(.int p0)])) _
    refine XS.iconst X5.here hx rfl (hb hby at_52) ?_
    show Steps p.tables e below (T5.setTop (mkF m 53 #[.val (.int p0), .val (.int p1), .val (.int p2), .val (.ref (w 2)), .val (.ref b2_0), .val (.ref b3), .val (.int (0 : Int32)), .val (.int (1 : Int32)), .unset, .unset, .unset, .unset] [(.int (2 : Int32)), (.int p0)])) _
    refine XS.iand X5.here hx rfl (hb hby at_53) rfl ?_
    show Steps p.tables e below (T5.setTop (mkF m 54 #[.val (.int p0), .val (.int p1), .val (.int p2), .val (.ref (w 2)), .val (.ref b2_0), .val (.ref b3), .val (.int (0 : Int32)), .val (.int (1 : Int32)), .unset, .unset, .unset, .unset] [(.int (p0 &&& (2 : Int32)))])) _
    refine XS.ifYes X5.here hx rfl (pc0 := 54) (pc' := 61) rfl (hb hby at_54) rfl ((if0 _ _).trans (teq hp3).1) (by decide) (by decide) ?_
    show Steps p.tables e below (T5.setTop (mkF m 61 #[.val (.int p0), .val (.int p1), .val (.int p2), .val (.ref (w 2)), .val (.ref b2_0), .val (.ref b3), .val (.int (0 : Int32)), .val (.int (1 : Int32)), .unset, .unset, .unset, .unset] [])) _
    refine XS.iconst X5.here hx rfl (hb hby at_61) ?_
    show Steps p.tables e below (T5.setTop (mkF m 62 #[.val (.int p0), .val (.int p1), .val (.int p2), .val (.ref (w 2)), .val (.ref b2_0), .val (.ref b3), .val (.int (0 : Int32)), .val (.int (1 : Int32)), .unset, .unset, .unset, .unset] [(.int (0 : Int32))])) _
    refine XS.istore X5.here hx rfl (hb hby at_62) rfl (l' := #[.val (.int p0), .val (.int p1), .val (.int p2), .val (.ref (w 2)), .val (.ref b2_0), .val (.ref b3), .val (.int (0 : Int32)), .val (.int (1 : Int32)), .val (.int (0 : Int32)), .unset, .unset, .unset]) rfl ?_
    show Steps p.tables e below (T5.setTop (mkF m 64 #[.val (.int p0), .val (.int p1), .val (.int p2), .val (.ref (w 2)), .val (.ref b2_0), .val (.ref b3), .val (.int (0 : Int32)), .val (.int (1 : Int32)), .val (.int (0 : Int32)), .unset, .unset, .unset] [])) _
    refine XS.iload X5.here hx rfl (hb hby at_64) rfl ?_
    show Steps p.tables e below (T5.setTop (mkF m 66 #[.val (.int p0), .val (.int p1), .val (.int p2), .val (.ref (w 2)), .val (.ref b2_0), .val (.ref b3), .val (.int (0 : Int32)), .val (.int (1 : Int32)), .val (.int (0 : Int32)), .unset, .unset, .unset] [(.int (1 : Int32))])) _
    refine XS.ifNo X5.here hx rfl (hb hby at_66) rfl ((if0 _ _).trans (feq (by decide : ¬ ((1 : Int32) = (0 : Int32)))).1) ?_
    show Steps p.tables e below (T5.setTop (mkF m 69 #[.val (.int p0), .val (.int p1), .val (.int p2), .val (.ref (w 2)), .val (.ref b2_0), .val (.ref b3), .val (.int (0 : Int32)), .val (.int (1 : Int32)), .val (.int (0 : Int32)), .unset, .unset, .unset] [])) _
    refine XS.aload X5.here hx rfl (hb hby at_69) rfl rfl ?_
    show Steps p.tables e below (T5.setTop (mkF m 71 #[.val (.int p0), .val (.int p1), .val (.int p2), .val (.ref (w 2)), .val (.ref b2_0), .val (.ref b3), .val (.int (0 : Int32)), .val (.int (1 : Int32)), .val (.int (0 : Int32)), .unset, .unset, .unset] [(.ref b3)])) _
    refine st6.trans ?_
    show Steps p.tables e below (T6.setTop (mkF m 74 #[.val (.int p0), .val (.int p1), .val (.int p2), .val (.ref (w 2)), .val (.ref b2_0), .val (.ref b3), .val (.int (0 : Int32)), .val (.int (1 : Int32)), .val (.int (0 : Int32)), .unset, .unset, .unset] [])) _
    refine XS.iload X6.here hx rfl (hb hby at_74) rfl ?_
    show Steps p.tables e below (T6.setTop (mkF m 76 #[.val (.int p0), .val (.int p1), .val (.int p2), .val (.ref (w 2)), .val (.ref b2_0), .val (.ref b3), .val (.int (0 : Int32)), .val (.int (1 : Int32)), .val (.int (0 : Int32)), .unset, .unset, .unset] [(.int (0 : Int32))])) _
    refine XS.ifYes X6.here hx rfl (pc0 := 76) (pc' := 84) rfl (hb hby at_76) rfl ((if0 _ _).trans (teq (by decide : (0 : Int32) = (0 : Int32))).1) (by decide) (by decide) ?_
    show Steps p.tables e below (T6.setTop (mkF m 84 #[.val (.int p0), .val (.int p1), .val (.int p2), .val (.ref (w 2)), .val (.ref b2_0), .val (.ref b3), .val (.int (0 : Int32)), .val (.int (1 : Int32)), .val (.int (0 : Int32)), .unset, .unset, .unset] [])) _
    refine XS.aload X6.here hx rfl (hb hby at_84) rfl rfl ?_
    show Steps p.tables e below (T6.setTop (mkF m 86 #[.val (.int p0), .val (.int p1), .val (.int p2), .val (.ref (w 2)), .val (.ref b2_0), .val (.ref b3), .val (.int (0 : Int32)), .val (.int (1 : Int32)), .val (.int (0 : Int32)), .unset, .unset, .unset] [(.ref b3)])) _
    refine st7.trans ?_
    show Steps p.tables e below (T7.setTop (mkF m 89 #[.val (.int p0), .val (.int p1), .val (.int p2), .val (.ref (w 2)), .val (.ref b2_0), .val (.ref b3), .val (.int (0 : Int32)), .val (.int (1 : Int32)), .val (.int (0 : Int32)), .unset, .unset, .unset] [(.int (0 : Int32))])) _
    refine XS.istore X7.here hx rfl (hb hby at_89) rfl (l' := #[.val (.int p0), .val (.int p1), .val (.int p2), .val (.ref (w 2)), .val (.ref b2_0), .val (.ref b3), .val (.int (0 : Int32)), .val (.int (1 : Int32)), .val (.int (0 : Int32)), .val (.int (0 : Int32)), .unset, .unset]) rfl ?_
    show Steps p.tables e below (T7.setTop (mkF m 91 #[.val (.int p0), .val (.int p1), .val (.int p2), .val (.ref (w 2)), .val (.ref b2_0), .val (.ref b3), .val (.int (0 : Int32)), .val (.int (1 : Int32)), .val (.int (0 : Int32)), .val (.int (0 : Int32)), .unset, .unset] [])) _
    refine XS.aload X7.here hx rfl (hb hby at_91) rfl rfl ?_
    show Steps p.tables e below (T7.setTop (mkF m 93 #[.val (.int p0), .val (.int p1), .val (.int p2), .val (.ref (w 2)), .val (.ref b2_0), .val (.ref b3), .val (.int (0 : Int32)), .val (.int (1 : Int32)), .val (.int (0 : Int32)), .val (.int (0 : Int32)), .unset, .unset] [(.ref b3)])) _
    refine st8.trans ?_
    show Steps p.tables e below (T8.setTop (mkF m 96 #[.val (.int p0), .val (.int p1), .val (.int p2), .val (.ref (w 2)), .val (.ref b2_0), .val (.ref b3), .val (.int (0 : Int32)), .val (.int (1 : Int32)), .val (.int (0 : Int32)), .val (.int (0 : Int32)), .unset, .unset] [(.int (0 : Int32))])) _
    refine XS.istore X8.here hx rfl (hb hby at_96) rfl (l' := #[.val (.int p0), .val (.int p1), .val (.int p2), .val (.ref (w 2)), .val (.ref b2_0), .val (.ref b3), .val (.int (0 : Int32)), .val (.int (1 : Int32)), .val (.int (0 : Int32)), .val (.int (0 : Int32)), .val (.int (0 : Int32)), .unset]) rfl ?_
    show Steps p.tables e below (T8.setTop (mkF m 98 #[.val (.int p0), .val (.int p1), .val (.int p2), .val (.ref (w 2)), .val (.ref b2_0), .val (.ref b3), .val (.int (0 : Int32)), .val (.int (1 : Int32)), .val (.int (0 : Int32)), .val (.int (0 : Int32)), .val (.int (0 : Int32)), .unset] [])) _
    refine XS.iload X8.here hx rfl (hb hby at_98) rfl ?_
    show Steps p.tables e below (T8.setTop (mkF m 100 #[.val (.int p0), .val (.int p1), .val (.int p2), .val (.ref (w 2)), .val (.ref b2_0), .val (.ref b3), .val (.int (0 : Int32)), .val (.int (1 : Int32)), .val (.int (0 : Int32)), .val (.int (0 : Int32)), .val (.int (0 : Int32)), .unset] [(.int (1 : Int32))])) _
    refine XS.ifNo X8.here hx rfl (hb hby at_100) rfl ((if0 _ _).trans (feq (by decide : ¬ ((1 : Int32) = (0 : Int32)))).1) ?_
    show Steps p.tables e below (T8.setTop (mkF m 103 #[.val (.int p0), .val (.int p1), .val (.int p2), .val (.ref (w 2)), .val (.ref b2_0), .val (.ref b3), .val (.int (0 : Int32)), .val (.int (1 : Int32)), .val (.int (0 : Int32)), .val (.int (0 : Int32)), .val (.int (0 : Int32)), .unset] [])) _
    refine XS.aloadN X8.here hx rfl (hb hby at_103) rfl rfl ?_
    show Steps p.tables e below (T8.setTop (mkF m 104 #[.val (.int p0), .val (.int p1), .val (.int p2), .val (.ref (w 2)), .val (.ref b2_0), .val (.ref b3), .val (.int (0 : Int32)), .val (.int (1 : Int32)), .val (.int (0 : Int32)), .val (.int (0 : Int32)), .val (.int (0 : Int32)), .unset] [(.ref (w 2))])) _
    refine XS.ifnonnullYes X8.here hx rfl (pc0 := 104) (pc' := 111) rfl (hb hby at_104) rfl (by decide) (by decide) ?_
    show Steps p.tables e below (T8.setTop (mkF m 111 #[.val (.int p0), .val (.int p1), .val (.int p2), .val (.ref (w 2)), .val (.ref b2_0), .val (.ref b3), .val (.int (0 : Int32)), .val (.int (1 : Int32)), .val (.int (0 : Int32)), .val (.int (0 : Int32)), .val (.int (0 : Int32)), .unset] [])) _
    refine XS.iconst X8.here hx rfl (hb hby at_111) ?_
    show Steps p.tables e below (T8.setTop (mkF m 112 #[.val (.int p0), .val (.int p1), .val (.int p2), .val (.ref (w 2)), .val (.ref b2_0), .val (.ref b3), .val (.int (0 : Int32)), .val (.int (1 : Int32)), .val (.int (0 : Int32)), .val (.int (0 : Int32)), .val (.int (0 : Int32)), .unset] [(.int (0 : Int32))])) _
    refine XS.istore X8.here hx rfl (hb hby at_112) rfl (l' := #[.val (.int p0), .val (.int p1), .val (.int p2), .val (.ref (w 2)), .val (.ref b2_0), .val (.ref b3), .val (.int (0 : Int32)), .val (.int (1 : Int32)), .val (.int (0 : Int32)), .val (.int (0 : Int32)), .val (.int (0 : Int32)), .val (.int (0 : Int32))]) rfl ?_
    show Steps p.tables e below (T8.setTop (mkF m 114 #[.val (.int p0), .val (.int p1), .val (.int p2), .val (.ref (w 2)), .val (.ref b2_0), .val (.ref b3), .val (.int (0 : Int32)), .val (.int (1 : Int32)), .val (.int (0 : Int32)), .val (.int (0 : Int32)), .val (.int (0 : Int32)), .val (.int (0 : Int32))] [])) _
    refine XS.iload X8.here hx rfl (hb hby at_114) rfl ?_
    show Steps p.tables e below (T8.setTop (mkF m 116 #[.val (.int p0), .val (.int p1), .val (.int p2), .val (.ref (w 2)), .val (.ref b2_0), .val (.ref b3), .val (.int (0 : Int32)), .val (.int (1 : Int32)), .val (.int (0 : Int32)), .val (.int (0 : Int32)), .val (.int (0 : Int32)), .val (.int (0 : Int32))] [(.int (0 : Int32))])) _
    refine XS.ifNo X8.here hx rfl (hb hby at_116) rfl ((if0 _ _).trans (teq (by decide : (0 : Int32) = (0 : Int32))).2) ?_
    show Steps p.tables e below (T8.setTop (mkF m 119 #[.val (.int p0), .val (.int p1), .val (.int p2), .val (.ref (w 2)), .val (.ref b2_0), .val (.ref b3), .val (.int (0 : Int32)), .val (.int (1 : Int32)), .val (.int (0 : Int32)), .val (.int (0 : Int32)), .val (.int (0 : Int32)), .val (.int (0 : Int32))] [])) _
    refine XS.iload X8.here hx rfl (hb hby at_119) rfl ?_
    show Steps p.tables e below (T8.setTop (mkF m 121 #[.val (.int p0), .val (.int p1), .val (.int p2), .val (.ref (w 2)), .val (.ref b2_0), .val (.ref b3), .val (.int (0 : Int32)), .val (.int (1 : Int32)), .val (.int (0 : Int32)), .val (.int (0 : Int32)), .val (.int (0 : Int32)), .val (.int (0 : Int32))] [(.int (0 : Int32))])) _
    refine XS.iload X8.here hx rfl (hb hby at_121) rfl ?_
    show Steps p.tables e below (T8.setTop (mkF m 123 #[.val (.int p0), .val (.int p1), .val (.int p2), .val (.ref (w 2)), .val (.ref b2_0), .val (.ref b3), .val (.int (0 : Int32)), .val (.int (1 : Int32)), .val (.int (0 : Int32)), .val (.int (0 : Int32)), .val (.int (0 : Int32)), .val (.int (0 : Int32))] [(.int (0 : Int32)), (.int (0 : Int32))])) _
    refine XS.icmpNo X8.here hx rfl (hb hby at_123) rfl (teq (by decide : (0 : Int32) = (0 : Int32))).2 ?_
    show Steps p.tables e below (T8.setTop (mkF m 126 #[.val (.int p0), .val (.int p1), .val (.int p2), .val (.ref (w 2)), .val (.ref b2_0), .val (.ref b3), .val (.int (0 : Int32)), .val (.int (1 : Int32)), .val (.int (0 : Int32)), .val (.int (0 : Int32)), .val (.int (0 : Int32)), .val (.int (0 : Int32))] [])) _
    refine XS.iload X8.here hx rfl (hb hby at_126) rfl ?_
    show Steps p.tables e below (T8.setTop (mkF m 128 #[.val (.int p0), .val (.int p1), .val (.int p2), .val (.ref (w 2)), .val (.ref b2_0), .val (.ref b3), .val (.int (0 : Int32)), .val (.int (1 : Int32)), .val (.int (0 : Int32)), .val (.int (0 : Int32)), .val (.int (0 : Int32)), .val (.int (0 : Int32))] [(.int (0 : Int32))])) _
    refine XS.iload X8.here hx rfl (hb hby at_128) rfl ?_
    show Steps p.tables e below (T8.setTop (mkF m 130 #[.val (.int p0), .val (.int p1), .val (.int p2), .val (.ref (w 2)), .val (.ref b2_0), .val (.ref b3), .val (.int (0 : Int32)), .val (.int (1 : Int32)), .val (.int (0 : Int32)), .val (.int (0 : Int32)), .val (.int (0 : Int32)), .val (.int (0 : Int32))] [(.int (0 : Int32)), (.int (0 : Int32))])) _
    refine XS.icmpNo X8.here hx rfl (hb hby at_130) rfl (teq (by decide : (0 : Int32) = (0 : Int32))).2 ?_
    show Steps p.tables e below (T8.setTop (mkF m 133 #[.val (.int p0), .val (.int p1), .val (.int p2), .val (.ref (w 2)), .val (.ref b2_0), .val (.ref b3), .val (.int (0 : Int32)), .val (.int (1 : Int32)), .val (.int (0 : Int32)), .val (.int (0 : Int32)), .val (.int (0 : Int32)), .val (.int (0 : Int32))] [])) _
    refine XS.iconst X8.here hx rfl (hb hby at_133) ?_
    show Steps p.tables e below (T8.setTop (mkF m 134 #[.val (.int p0), .val (.int p1), .val (.int p2), .val (.ref (w 2)), .val (.ref b2_0), .val (.ref b3), .val (.int (0 : Int32)), .val (.int (1 : Int32)), .val (.int (0 : Int32)), .val (.int (0 : Int32)), .val (.int (0 : Int32)), .val (.int (0 : Int32))] [(.int (1 : Int32))])) _
    refine XS.goto X8.here hx rfl (pc0 := 134) (pc' := 138) rfl (hb hby at_134) (by decide) (by decide) ?_
    show Steps p.tables e below (T8.setTop (mkF m 138 #[.val (.int p0), .val (.int p1), .val (.int p2), .val (.ref (w 2)), .val (.ref b2_0), .val (.ref b3), .val (.int (0 : Int32)), .val (.int (1 : Int32)), .val (.int (0 : Int32)), .val (.int (0 : Int32)), .val (.int (0 : Int32)), .val (.int (0 : Int32))] [(.int (1 : Int32))])) _
    exact retN X8 hx (t := .boolean) Bd.returns (by simp) (hb hby at_138) hr
  · show OL (some (.int (1 : Int32))) Z.heap.size _ T8.heap _
    exact ⟨rfl, N8⟩
set_option maxRecDepth 65536 in
set_option maxHeartbeats 40000000 in
theorem rm_23 (l : Launch) (Z : State) (a0 : Array Value) (hw : ∀ d ∈ tables_1, d.before a0 Z = true) (w : Nat → Addr) (kk : Nat → ClassId) (iw : Nat → Int32) (vw : Nat → Value) (hN : Wd Z w kk iw vw) (ws : List Jvm.Cond) (o1 : Addr) (o2 : Addr) (o3 : Addr) (t0 : Int32) (kc_o3 : ClassId) (h0 : Heap) (O0 : Old Z Z.heap.size h0) (gn_o1 : Z.heap.size ≤ o1) (lt_o1 : o1 < h0.size) (E_o1 : Exa Z h0 o1 "com/example/netloom/netloom/xml/NetReader$OpenAnnotations") (gn_o2 : Z.heap.size ≤ o2) (lt_o2 : o2 < h0.size) (F_o1_owner : Fld Z h0 o1 "com/example/netloom/netloom/xml/NetReader$OpenAnnotations" "owner" "Ljava/lang/String;" (.ref o2)) (F_o1_form : Fld Z h0 o1 "com/example/netloom/netloom/xml/NetReader$OpenAnnotations" "form" "Lcom/example/netloom/netloom/xml/XmlGraphics$Form;" (.ref (w 2))) (F_o1_carries : Fld Z h0 o1 "com/example/netloom/netloom/xml/NetReader$OpenAnnotations" "carries" "Ljava/util/Set;" .null) (F_o1_graphicsCarried : Fld Z h0 o1 "com/example/netloom/netloom/xml/NetReader$OpenAnnotations" "graphicsCarried" "Z" (.int (1 : Int32))) (F_o1_graphics : Fld Z h0 o1 "com/example/netloom/netloom/xml/NetReader$OpenAnnotations" "graphics" "Lcom/example/netloom/netloom/net/Graphics;" .null) (E_o2 : Exa Z h0 o2 "java/lang/String") (gn_o3 : Z.heap.size ≤ o3) (lt_o3 : o3 < h0.size) (F_o2_value : Fld Z h0 o2 "java/lang/String" "value" "[B" (.ref o3)) (F_o2_coder : Fld Z h0 o2 "java/lang/String" "coder" "B" (.int (0 : Int32))) (V_o3 : Arv Z h0 o3 kc_o3 .byte (1 : Int32) [(.int t0)] (.int (0 : Int32))) (ne_o1_o2 : o1 ≠ o2) (ne_o1_o3 : o1 ≠ o3) (ne_o2_o3 : o2 ≠ o3) :
    MetFree l (⟨"com/example/netloom/netloom/xml/NetReader$OpenAnnotations", "carryGraphics", "()V"⟩ : MethodName) (head1 (Jvm.Cond.code (⟨"com/example/netloom/netloom/xml/NetReader$OpenAnnotations", "carryGraphics", "()V"⟩ : MethodName) prog_77_method_2_code 1 none :: ws) ({ frames := 0, cells := 0, slots := 0, locals := 0 } : Room)) (fun a U => a = #[(.ref o1)] ∧ Z.Warmed39 U.vm ∧ U.heap = h0) (fun _ _ _ _ _ => True) (fun _ U o U' => ∃ v L, o = .returned v ∧ Qd_6 Z w kk iw vw o1 o2 o3 t0 kc_o3 h0 Z.heap.size v U'.heap L ∧ FrameEnd U o U' L ({ frames := 0, cells := 0, slots := 0, locals := 0 } : Room).cells ({ frames := 0, cells := 0, slots := 0, locals := 0 } : Room).slots) := by
  have hN' := hN
  obtain ⟨hS0, hE0, hS1, hE1, hS2, hE2, hI0, hJ0, hR0, hRr0⟩ := hN'
  refine MetFree.of_bodySF (plainFor_of_name pn_3) hisR ?_
  intro p e s m args below meth c s₁ Bd hml0 hP hK
  obtain ⟨rfl, hZ, hh⟩ := hP
  have hx := Bd.exec
  have hby := Bd.bytes
  have hml : c.maxLocals = 1 := hml0
  have hown : s.vm.findClass "com/example/netloom/netloom/xml/NetReader$OpenAnnotations" = some m.cls := findClass_of_methodNamed Bd.named
  have hnm := (name_of_methodNamed Bd.named Bd.method).1
  have X0 : Stand p l e ({ frames := 0, cells := 0, slots := 0, locals := 0 } : Room) s m #[(.ref o1)] below meth c s₁ [] 0 0 := Stand.of_body Bd
  have e0 : s₁.heap = h0 := by rw [← hh, Bd.state]; rfl
  have N0 := Fr.nil Z.heap.size
  have pre0 : ∀ t, Steps p.tables e below (s₁.setTop (mkF m 0 #[.val (.ref o1)] [])) t → Steps p.tables e below (s₁.setTop (entryFrame m #[(.ref o1)] 1)) t := fun t k => castTop (ef_3 m (.ref o1) rfl) k
  have K0 : Keep h0 h0 [o1] := Keep.refl _ _
  obtain ⟨T1, h1, X1, e1, W1, st1⟩ := putFN X0 hx hZ hown (W hw 51 rfl) Via.refl e0 F_o1_graphicsCarried E_o1 (Or.inl (W hw 52 rfl)) (W hw 34 rfl) (ty := .boolean) (v' := (.int (1 : Int32))) (by decide) rfl rfl (g := (mkF m 2 #[.val (.ref o1)] [(.int (1 : Int32)), (.ref o1)])) rfl rfl (hb hby d_prog_77_method_2_code_2)
  have F_o1_graphicsCarried_v1 := F_o1_graphicsCarried.same W1
  have N1 := Fr.snoc X1 N0 gn_o1
  have E_o1_v1 := E_o1.wr W1
  have F_o1_owner_v1 := F_o1_owner.other W1 (Or.inr (sn_14 hw))
  have F_o1_form_v1 := F_o1_form.other W1 (Or.inr (sn_15 hw))
  have F_o1_carries_v1 := F_o1_carries.other W1 (Or.inr (sn_16 hw))
  have F_o1_graphics_v1 := F_o1_graphics.other W1 (Or.inr (sn_17 hw))
  have E_o2_v1 := E_o2.wr W1
  have F_o2_value_v1 := F_o2_value.other W1 (Or.inl (Ne.symm ne_o1_o2))
  have F_o2_coder_v1 := F_o2_coder.other W1 (Or.inl (Ne.symm ne_o1_o2))
  have V_o3_v1 := V_o3.other W1 (Ne.symm ne_o1_o3)
  have O1 := O0.wr W1 gn_o1
  have K1 : Keep h0 h1 [o1] := K0.wr W1 (Or.inl (List.mem_of_getElem? (i := 0) rfl))
  obtain ⟨fs, hr, hrun, hended, hW, hsame⟩ := X1.leave (v := none) (fun _ => rfl)
  refine ⟨_, _, pre0 _ ?_, hrun, hended, _, _, rfl, ?_, ⟨_, rfl⟩, hW, hsame.mono (by decide) (by decide)⟩
  · show Steps p.tables e below (s₁.setTop (mkF m 0 #[.val (.ref o1)] [])) _
    refine XS.aloadN X0.here hx rfl (hb hby d_prog_77_method_2_code_0) rfl rfl ?_
    show Steps p.tables e below (s₁.setTop (mkF m 1 #[.val (.ref o1)] [(.ref o1)])) _
    refine XS.iconst X0.here hx rfl (hb hby d_prog_77_method_2_code_1) ?_
    show Steps p.tables e below (s₁.setTop (mkF m 2 #[.val (.ref o1)] [(.int (1 : Int32)), (.ref o1)])) _
    refine st1 _ ?_
    show Steps p.tables e below (T1.setTop (mkF m 5 #[.val (.ref o1)] [])) _
    exact X1.returnOut hx Bd.returns (hb hby d_prog_77_method_2_code_5) hr
  · show Qd_6 Z w kk iw vw o1 o2 o3 t0 kc_o3 h0 Z.heap.size _ T1.heap _
    rw [e1]
    exact ⟨rfl, N1, K1, E_o1_v1, F_o1_owner_v1, F_o1_form_v1, F_o1_carries_v1, F_o1_graphicsCarried_v1, F_o1_graphics_v1⟩
set_option maxRecDepth 65536 in
set_option maxHeartbeats 40000000 in
theorem law_24 (l : Launch) (Z : State) (a0 : Array Value) (hw : ∀ d ∈ tables_1, d.before a0 Z = true) (w : Nat → Addr) (kk : Nat → ClassId) (iw : Nat → Int32) (vw : Nat → Value) (hN : Wd Z w kk iw vw) (ws : List Jvm.Cond) (p0 : Int32) (p1 : Int32) (p2 : Int32) (h0 : Heap) (O0 : Old Z Z.heap.size h0) (hp0 : (p1 &&& (3 : Int32)) = (1 : Int32)) (hp1 : ¬ ((255 : Int32) < ((p2 &&& (255 : Int32)).toUInt32.toUInt16.toUInt32.toInt32))) (hp2 : (p0 &&& (1 : Int32)) = (1 : Int32)) (hp3 : ¬ ((p0 &&& (2 : Int32)) = (0 : Int32))) :
    MetFree l x (head1 (Jvm.Cond.code x code maxLocals ret :: ws) room_1) (fun a U => a = #[(.int p0), (.int p1), (.int p2)] ∧ Z.Warmed39 U.vm ∧ U.heap = h0) (fun _ _ _ _ _ => True) (fun _ U o U' => ∃ v L, o = .returned v ∧ OL (some (.int (1 : Int32))) Z.heap.size v U'.heap L ∧ FrameEnd U o U' L 16 128) := by
  have hN' := hN
  obtain ⟨hS0, hE0, hS1, hE1, hS2, hE2, hI0, hJ0, hR0, hRr0⟩ := hN'
  refine MetFree.of_bodySF (plainFor_of_name pn_0) hisR ?_
  intro p e s m args below meth c s₁ Bd hml0 hP hK
  obtain ⟨rfl, hZ, hh⟩ := hP
  have hx := Bd.exec
  have hby := Bd.bytes
  have hml : c.maxLocals = 12 := hml0
  have hown : s.vm.findClass "com/example/netloom/netloom/xml/OpenAnnotationsCarriesGraphicsPinLaw" = some m.cls := findClass_of_methodNamed Bd.named
  have hnm := (name_of_methodNamed Bd.named Bd.method).1
  have X0 : Stand p l e room_1 s m #[(.int p0), (.int p1), (.int p2)] below meth c s₁ [] 0 0 := Stand.of_body Bd
  have e0 : s₁.heap = h0 := by rw [← hh, Bd.state]; rfl
  have N0 := Fr.nil Z.heap.size
  have pre0 : ∀ t, Steps p.tables e below (s₁.setTop (mkF m 0 #[.val (.int p0), .val (.int p1), .val (.int p2), .unset, .unset, .unset, .unset, .unset, .unset, .unset, .unset, .unset] [])) t → Steps p.tables e below (s₁.setTop (entryFrame m #[(.int p0), (.int p1), (.int p2)] maxLocals)) t := fun t k => castTop (ef_4 m (.int p0) rfl (.int p1) rfl (.int p2) rfl) k
  obtain ⟨_, _, ⟨T1, L1, k1, n1⟩, -, X1, ⟨Lc1, hQ1, l1, y1, z1⟩, st1⟩ := Jvm.LawKit.callS X0 hx (y := (⟨"com/example/netloom/netloom/xml/OpenAnnotationsCarriesGraphicsPinLaw", "pick", "(I)Lcom/example/netloom/netloom/xml/XmlGraphics$Form;"⟩ : MethodName)) hown (mvT hZ (W hw 0 rfl)) (mvT hZ (W hw 1 rfl)) (mvT hZ (W hw 2 rfl)) (mvT hZ (W hw 3 rfl)) (by decide) (backOf (W := 0) (rm_15 l Z a0 hw w kk iw vw hN [] h0 O0) hZ (W hw 3 rfl) (W hw 2 rfl) (by decide) (by decide)) (g := (mkF m 3 #[.val (.int p0), .val (.int p1), .val (.int p2), .unset, .unset, .unset, .unset, .unset, .unset, .unset, .unset, .unset] [(.int (1 : Int32))])) rfl (by rw [hml]; rfl) (argsL := [(.int (1 : Int32))]) (rest := []) (lenOf pd_0 rfl) rfl (by show 2 * 0 + _ ≤ _; exact Nat.le_of_eq rfl) (hb hby at_3) (fun _ _ => ⟨rfl, e0, (by decide : 0 + 0 ≤ _), (by decide : 0 + 0 ≤ _)⟩)
  dsimp only [Pt.U, Pt.locs, Pt.cells, Pt.slots] at X1 l1 y1 z1 st1 hQ1
  subst l1 y1 z1
  obtain ⟨rfl, N1q, e1⟩ := hQ1
  have N1 := Fr.app N0 N1q
  obtain ⟨_, _, ⟨T2, L2, k2, n2⟩, -, X2, ⟨Lc2, hQ2, l2, y2, z2⟩, st2⟩ := Jvm.LawKit.callS X1 hx (y := (⟨"java/lang/String", "valueOf", "(C)Ljava/lang/String;"⟩ : MethodName)) hown (mvT hZ (W hw 7 rfl)) (mvT hZ (W hw 8 rfl)) (mvT hZ (W hw 9 rfl)) (mvT hZ (W hw 10 rfl)) (by decide) (backOf (W := 0) (rm_5 l Z a0 hw w kk iw vw hN [] ((p2 &&& (255 : Int32)).toUInt32.toUInt16.toUInt32.toInt32) h0 O0 hp1) hZ (W hw 10 rfl) (W hw 9 rfl) (by decide) (by decide)) (g := (mkF m 13 #[.val (.int p0), .val (.int p1), .val (.int p2), .val (.ref (w 2)), .unset, .unset, .unset, .unset, .unset, .unset, .unset, .unset] [(.int ((p2 &&& (255 : Int32)).toUInt32.toUInt16.toUInt32.toInt32))])) rfl (by rw [hml]; rfl) (argsL := [(.int ((p2 &&& (255 : Int32)).toUInt32.toUInt16.toUInt32.toInt32))]) (rest := []) (lenOf pd_4 rfl) rfl (by show 2 * 0 + _ ≤ _; exact Nat.le_of_eq rfl) (hb hby at_13) (fun _ _ => ⟨rfl, e1, (by decide : 0 + 2 ≤ _), (by decide : 0 + 5 ≤ _)⟩)
  dsimp only [Pt.U, Pt.locs, Pt.cells, Pt.slots] at X2 l2 y2 z2 st2 hQ2
  subst l2 y2 z2
  obtain ⟨b2_0, b2_1, kb2_0, rfl, N2q, Kq2, tk2_0, tk2_1, tk2_2, tk2_3, tk2_4, tk2_5, tk2_6⟩ := hQ2
  have N2 := Fr.app N1 N2q
  have gn_b2_0 : Z.heap.size ≤ b2_0 := Nat.le_trans O0.2.1 tk2_0
  have gn_b2_1 : Z.heap.size ≤ b2_1 := Nat.le_trans O0.2.1 tk2_1
  have O2 := O0.keep Kq2 all0
  obtain ⟨T3, h3, X3, e3, E3, A3, D3, -, st3⟩ := newO X2 hx hZ hown (W hw 33 rfl) (W hw 34 rfl) (W hw 35 rfl) rfl (g := (mkF m 18 #[.val (.int p0), .val (.int p1), .val (.int p2), .val (.ref (w 2)), .val (.ref b2_0), .unset, .unset, .unset, .unset, .unset, .unset, .unset] [])) rfl (hb hby at_18) (by decide) (by decide)
  obtain ⟨b3, g3⟩ : ∃ z, z = T2.heap.size := ⟨_, rfl⟩
  rw [← g3] at A3 st3 D3
  have gn_b3 : Z.heap.size ≤ b3 := Nat.le_trans O2.2.1 (Nat.le_of_eq g3.symm)
  have ne_b2_1_b3 : b2_1 ≠ b3 := Nat.ne_of_lt (Nat.lt_of_lt_of_le tk2_6.lt (Nat.le_of_eq g3.symm))
  have ne_b2_0_b3 : b2_0 ≠ b3 := Nat.ne_of_lt (Nat.lt_of_lt_of_le tk2_3.lt (Nat.le_of_eq g3.symm))
  have tk2_3_v3 := tk2_3.ext E3
  have tk2_4_v3 := tk2_4.ext E3
  have tk2_5_v3 := tk2_5.ext E3
  have tk2_6_v3 := tk2_6.ext E3
  have O3 := O2.ext E3
  have E_b3_v3 := A3
  have F_b3_owner_v3 : Fld Z h3 b3 "com/example/netloom/netloom/xml/NetReader$OpenAnnotations" "owner" "Ljava/lang/String;" .null := D3 (Or.inr (W hw 41 rfl)) (ty := (.object "java/lang/String")) (by decide)
  have F_b3_form_v3 : Fld Z h3 b3 "com/example/netloom/netloom/xml/NetReader$OpenAnnotations" "form" "Lcom/example/netloom/netloom/xml/XmlGraphics$Form;" .null := D3 (Or.inr (W hw 43 rfl)) (ty := (.object "com/example/netloom/netloom/xml/XmlGraphics$Form")) (by decide)
  have F_b3_carries_v3 : Fld Z h3 b3 "com/example/netloom/netloom/xml/NetReader$OpenAnnotations" "carries" "Ljava/util/Set;" .null := D3 (Or.inr (W hw 45 rfl)) (ty := (.object "java/util/Set")) (by decide)
  have F_b3_graphicsCarried_v3 : Fld Z h3 b3 "com/example/netloom/netloom/xml/NetReader$OpenAnnotations" "graphicsCarried" "Z" (.int (0 : Int32)) := D3 (Or.inl (W hw 52 rfl)) (ty := .boolean) (by decide)
  have F_b3_graphics_v3 : Fld Z h3 b3 "com/example/netloom/netloom/xml/NetReader$OpenAnnotations" "graphics" "Lcom/example/netloom/netloom/net/Graphics;" .null := D3 (Or.inl (W hw 59 rfl)) (ty := (.object "com/example/netloom/netloom/net/Graphics")) (by decide)
  obtain ⟨_, _, ⟨T4, L4, k4, n4⟩, -, X4, ⟨Lc4, hQ4, l4, y4, z4⟩, st4⟩ := X3.specialBack hx (y := (⟨"com/example/netloom/netloom/xml/NetReader$OpenAnnotations", "<init>", "(Ljava/lang/String;Lcom/example/netloom/netloom/xml/XmlGraphics$Form;Ljava/util/Set;)V"⟩ : MethodName)) rfl hown (mvT hZ (W hw 36 rfl)) (mvT hZ (W hw 37 rfl)) (mvT hZ (W hw 38 rfl)) (by decide) (backOf (W := 1) (rm_16 l Z a0 hw w kk iw vw hN [] b3 b2_0 b2_1 ((((p2 &&& (255 : Int32)).toUInt32.toUInt16.toUInt32.toInt32).toInt8.toInt32).toInt8.toInt32) kb2_0 h3 O3 gn_b3 E_b3_v3.lt gn_b2_0 tk2_3_v3.lt E_b3_v3 F_b3_owner_v3 F_b3_form_v3 F_b3_carries_v3 F_b3_graphicsCarried_v3 F_b3_graphics_v3 tk2_3_v3 gn_b2_1 tk2_6_v3.lt tk2_4_v3 tk2_5_v3 tk2_6_v3 (Ne.symm ne_b2_0_b3) (Ne.symm ne_b2_1_b3) tk2_2) hZ (W hw 38 rfl) (W hw 35 rfl) (by decide) (by decide)) (g := (mkF m 26 #[.val (.int p0), .val (.int p1), .val (.int p2), .val (.ref (w 2)), .val (.ref b2_0), .unset, .unset, .unset, .unset, .unset, .unset, .unset] [.null, (.ref (w 2)), (.ref b2_0), (.ref b3), (.ref b3)])) rfl (by rw [hml]; rfl) (Steps.refl _) (a := b3) (argsL := [(.ref b2_0), (.ref (w 2)), .null]) (rest := [(.ref b3)]) (lenOf pd_5 rfl) rfl (by show 2 * 0 + _ ≤ _; exact Nat.le_of_eq rfl) (hb hby at_26) (fun _ _ => ⟨rfl, e3, (by decide : 3 + 0 ≤ _), (by decide : 16 + 0 ≤ _)⟩)
  dsimp only [Pt.U, Pt.locs, Pt.cells, Pt.slots] at X4 l4 y4 z4 st4 hQ4
  subst l4 y4 z4
  obtain ⟨rfl, N4q, Kq4, tk4_0, tk4_1, tk4_2, tk4_3, tk4_4, tk4_5⟩ := hQ4
  have N4 := Fr.app N2 N4q
  have tk2_3_v4 := tk2_3_v3.keep Kq4
  have tk2_4_v4 := tk2_4_v3.keep Kq4 (ninS ne_b2_0_b3 nin0)
  have tk2_5_v4 := tk2_5_v3.keep Kq4 (ninS ne_b2_0_b3 nin0)
  have tk2_6_v4 := tk2_6_v3.keep Kq4 (ninS ne_b2_1_b3 nin0)
  have E_b3_v4 := E_b3_v3.keep Kq4
  have O4 := O3.keep Kq4 (allS gn_b3 all0)
  obtain ⟨cq5, kq5, q5a, q5b, q5c⟩ := isOf hZ rfl tk4_0
  obtain ⟨_, _, ⟨T5, L5, k5, n5⟩, -, X5, ⟨Lc5, hQ5, l5, y5, z5⟩, st5⟩ := X4.virtualBack hx (y := (⟨"com/example/netloom/netloom/xml/NetReader$OpenAnnotations", "carriesGraphics", "()Z"⟩ : MethodName)) (z := (⟨"com/example/netloom/netloom/xml/NetReader$OpenAnnotations", "carriesGraphics", "()Z"⟩ : MethodName)) hown (mvT hZ (W hw 46 rfl)) (mvT hZ (W hw 47 rfl)) (notFace_of_selects (args := #[]) (mvT hZ (W hw 49 rfl))) (mvT hZ (W hw 49 rfl)) (mvT hZ (W hw 48 rfl)) (by decide) (backOf (W := 0) (rm_17 l Z a0 hw w kk iw vw hN [] b3 b2_0 b2_1 ((((p2 &&& (255 : Int32)).toUInt32.toUInt16.toUInt32.toInt32).toInt8.toInt32).toInt8.toInt32) kb2_0 T4.heap O4 gn_b3 tk4_0.lt tk4_0 gn_b2_0 tk2_3_v4.lt tk4_1 tk4_2 tk4_3 tk4_4 tk4_5 tk2_3_v4 gn_b2_1 tk2_6_v4.lt tk2_4_v4 tk2_5_v4 tk2_6_v4 (Ne.symm ne_b2_0_b3) (Ne.symm ne_b2_1_b3) tk2_2) hZ (W hw 50 rfl) (W hw 35 rfl) (by decide) (by decide)) q5a q5c (g := (mkF m 33 #[.val (.int p0), .val (.int p1), .val (.int p2), .val (.ref (w 2)), .val (.ref b2_0), .val (.ref b3), .unset, .unset, .unset, .unset, .unset, .unset] [(.ref b3)])) rfl (by rw [hml]; rfl) (Steps.refl _) (argsL := []) (rest := []) (lenOf pd_6 rfl) rfl (by show 2 * 0 + _ ≤ _; exact Nat.le_of_eq rfl) (hb hby at_33) (fun _ _ => ⟨rfl, rfl, (by decide : 3 + 0 ≤ _), (by decide : 16 + 0 ≤ _)⟩)
  dsimp only [Pt.U, Pt.locs, Pt.cells, Pt.slots] at X5 l5 y5 z5 st5 hQ5
  subst l5 y5 z5
  obtain ⟨rfl, N5q, e5⟩ := hQ5
  have N5 := Fr.app N4 N5q
  obtain ⟨cq6, kq6, q6a, q6b, q6c⟩ := isOf hZ e5 tk4_0
  obtain ⟨_, _, ⟨T6, L6, k6, n6⟩, -, X6, ⟨Lc6, hQ6, l6, y6, z6⟩, st6⟩ := X5.virtualBack hx (y := (⟨"com/example/netloom/netloom/xml/NetReader$OpenAnnotations", "carryGraphics", "()V"⟩ : MethodName)) (z := (⟨"com/example/netloom/netloom/xml/NetReader$OpenAnnotations", "carryGraphics", "()V"⟩ : MethodName)) hown (mvT hZ (W hw 53 rfl)) (mvT hZ (W hw 54 rfl)) (notFace_of_selects (args := #[]) (mvT hZ (W hw 56 rfl))) (mvT hZ (W hw 56 rfl)) (mvT hZ (W hw 55 rfl)) (by decide) (backOf (W := 0) (rm_20 l Z a0 hw w kk iw vw hN [] b3 b2_0 b2_1 ((((p2 &&& (255 : Int32)).toUInt32.toUInt16.toUInt32.toInt32).toInt8.toInt32).toInt8.toInt32) kb2_0 T4.heap O4 gn_b3 tk4_0.lt tk4_0 gn_b2_0 tk2_3_v4.lt tk4_1 tk4_2 tk4_3 tk4_4 tk4_5 tk2_3_v4 gn_b2_1 tk2_6_v4.lt tk2_4_v4 tk2_5_v4 tk2_6_v4 (Ne.symm ne_b2_0_b3) (Ne.symm ne_b2_1_b3) tk2_2) hZ (W hw 57 rfl) (W hw 35 rfl) (by decide) (by decide)) q6a q6c (g := (mkF m 71 #[.val (.int p0), .val (.int p1), .val (.int p2), .val (.ref (w 2)), .val (.ref b2_0), .val (.ref b3), .val (.int (0 : Int32)), .val (.int (1 : Int32)), .val (.int (1 : Int32)), .unset, .unset, .unset] [(.ref b3)])) rfl (by rw [hml]; rfl) (Steps.refl _) (argsL := []) (rest := []) (lenOf pd_7 rfl) rfl (by show 2 * 0 + _ ≤ _; exact Nat.le_of_eq rfl) (hb hby at_71) (fun _ _ => ⟨rfl, e5, (by decide : 3 + 0 ≤ _), (by decide : 16 + 0 ≤ _)⟩)
  dsimp only [Pt.U, Pt.locs, Pt.cells, Pt.slots] at X6 l6 y6 z6 st6 hQ6
  subst l6 y6 z6
  obtain ⟨rfl, N6q, Kq6, tk6_0, tk6_1, tk6_2, tk6_3, tk6_4, tk6_5⟩ := hQ6
  have N6 := Fr.app N5 N6q
  have tk2_3_v6 := tk2_3_v4.keep Kq6
  have tk2_4_v6 := tk2_4_v4.keep Kq6 (ninS ne_b2_0_b3 nin0)
  have tk2_5_v6 := tk2_5_v4.keep Kq6 (ninS ne_b2_0_b3 nin0)
  have tk2_6_v6 := tk2_6_v4.keep Kq6 (ninS ne_b2_1_b3 nin0)
  have tk4_0_v6 := tk4_0.keep Kq6
  have O6 := O4.keep Kq6 (allS gn_b3 all0)
  obtain ⟨cq7, kq7, q7a, q7b, q7c⟩ := isOf hZ rfl tk6_0
  obtain ⟨_, _, ⟨T7, L7, k7, n7⟩, -, X7, ⟨Lc7, hQ7, l7, y7, z7⟩, st7⟩ := X6.virtualBack hx (y := (⟨"com/example/netloom/netloom/xml/NetReader$OpenAnnotations", "carryGraphics", "()V"⟩ : MethodName)) (z := (⟨"com/example/netloom/netloom/xml/NetReader$OpenAnnotations", "carryGraphics", "()V"⟩ : MethodName)) hown (mvT hZ (W hw 53 rfl)) (mvT hZ (W hw 54 rfl)) (notFace_of_selects (args := #[]) (mvT hZ (W hw 56 rfl))) (mvT hZ (W hw 56 rfl)) (mvT hZ (W hw 55 rfl)) (by decide) (backOf (W := 0) (rm_23 l Z a0 hw w kk iw vw hN [] b3 b2_0 b2_1 ((((p2 &&& (255 : Int32)).toUInt32.toUInt16.toUInt32.toInt32).toInt8.toInt32).toInt8.toInt32) kb2_0 T6.heap O6 gn_b3 tk6_0.lt tk6_0 gn_b2_0 tk2_3_v6.lt tk6_1 tk6_2 tk6_3 tk6_4 tk6_5 tk2_3_v6 gn_b2_1 tk2_6_v6.lt tk2_4_v6 tk2_5_v6 tk2_6_v6 (Ne.symm ne_b2_0_b3) (Ne.symm ne_b2_1_b3) tk2_2) hZ (W hw 57 rfl) (W hw 35 rfl) (by decide) (by decide)) q7a q7c (g := (mkF m 81 #[.val (.int p0), .val (.int p1), .val (.int p2), .val (.ref (w 2)), .val (.ref b2_0), .val (.ref b3), .val (.int (0 : Int32)), .val (.int (1 : Int32)), .val (.int (1 : Int32)), .unset, .unset, .unset] [(.ref b3)])) rfl (by rw [hml]; rfl) (Steps.refl _) (argsL := []) (rest := []) (lenOf pd_7 rfl) rfl (by show 2 * 0 + _ ≤ _; exact Nat.le_of_eq rfl) (hb hby at_81) (fun _ _ => ⟨rfl, rfl, (by decide : 3 + 0 ≤ _), (by decide : 16 + 0 ≤ _)⟩)
  dsimp only [Pt.U, Pt.locs, Pt.cells, Pt.slots] at X7 l7 y7 z7 st7 hQ7
  subst l7 y7 z7
  obtain ⟨rfl, N7q, Kq7, tk7_0, tk7_1, tk7_2, tk7_3, tk7_4, tk7_5⟩ := hQ7
  have N7 := Fr.app N6 N7q
  have tk2_3_v7 := tk2_3_v6.keep Kq7
  have tk2_4_v7 := tk2_4_v6.keep Kq7 (ninS ne_b2_0_b3 nin0)
  have tk2_5_v7 := tk2_5_v6.keep Kq7 (ninS ne_b2_0_b3 nin0)
  have tk2_6_v7 := tk2_6_v6.keep Kq7 (ninS ne_b2_1_b3 nin0)
  have tk6_0_v7 := tk6_0.keep Kq7
  have O7 := O6.keep Kq7 (allS gn_b3 all0)
  obtain ⟨cq8, kq8, q8a, q8b, q8c⟩ := isOf hZ rfl tk7_0
  obtain ⟨_, _, ⟨T8, L8, k8, n8⟩, -, X8, ⟨Lc8, hQ8, l8, y8, z8⟩, st8⟩ := X7.virtualBack hx (y := (⟨"com/example/netloom/netloom/xml/NetReader$OpenAnnotations", "carriesGraphics", "()Z"⟩ : MethodName)) (z := (⟨"com/example/netloom/netloom/xml/NetReader$OpenAnnotations", "carriesGraphics", "()Z"⟩ : MethodName)) hown (mvT hZ (W hw 46 rfl)) (mvT hZ (W hw 47 rfl)) (notFace_of_selects (args := #[]) (mvT hZ (W hw 49 rfl))) (mvT hZ (W hw 49 rfl)) (mvT hZ (W hw 48 rfl)) (by decide) (backOf (W := 0) (rm_21 l Z a0 hw w kk iw vw hN [] b3 b2_0 b2_1 ((((p2 &&& (255 : Int32)).toUInt32.toUInt16.toUInt32.toInt32).toInt8.toInt32).toInt8.toInt32) kb2_0 T7.heap O7 gn_b3 tk7_0.lt tk7_0 gn_b2_0 tk2_3_v7.lt tk7_1 tk7_2 tk7_3 tk7_4 tk7_5 tk2_3_v7 gn_b2_1 tk2_6_v7.lt tk2_4_v7 tk2_5_v7 tk2_6_v7 (Ne.symm ne_b2_0_b3) (Ne.symm ne_b2_1_b3) tk2_2) hZ (W hw 50 rfl) (W hw 35 rfl) (by decide) (by decide)) q8a q8c (g := (mkF m 86 #[.val (.int p0), .val (.int p1), .val (.int p2), .val (.ref (w 2)), .val (.ref b2_0), .val (.ref b3), .val (.int (0 : Int32)), .val (.int (1 : Int32)), .val (.int (1 : Int32)), .unset, .unset, .unset] [(.ref b3)])) rfl (by rw [hml]; rfl) (Steps.refl _) (argsL := []) (rest := []) (lenOf pd_6 rfl) rfl (by show 2 * 0 + _ ≤ _; exact Nat.le_of_eq rfl) (hb hby at_86) (fun _ _ => ⟨rfl, rfl, (by decide : 3 + 0 ≤ _), (by decide : 16 + 0 ≤ _)⟩)
  dsimp only [Pt.U, Pt.locs, Pt.cells, Pt.slots] at X8 l8 y8 z8 st8 hQ8
  subst l8 y8 z8
  obtain ⟨rfl, N8q, e8⟩ := hQ8
  have N8 := Fr.app N7 N8q
  obtain ⟨cq9, kq9, q9a, q9b, q9c⟩ := isOf hZ e8 tk7_0
  obtain ⟨_, _, ⟨T9, L9, k9, n9⟩, -, X9, ⟨Lc9, hQ9, l9, y9, z9⟩, st9⟩ := X8.virtualBack hx (y := (⟨"com/example/netloom/netloom/xml/NetReader$OpenAnnotations", "carriesGraphics", "()Z"⟩ : MethodName)) (z := (⟨"com/example/netloom/netloom/xml/NetReader$OpenAnnotations", "carriesGraphics", "()Z"⟩ : MethodName)) hown (mvT hZ (W hw 46 rfl)) (mvT hZ (W hw 47 rfl)) (notFace_of_selects (args := #[]) (mvT hZ (W hw 49 rfl))) (mvT hZ (W hw 49 rfl)) (mvT hZ (W hw 48 rfl)) (by decide) (backOf (W := 0) (rm_21 l Z a0 hw w kk iw vw hN [] b3 b2_0 b2_1 ((((p2 &&& (255 : Int32)).toUInt32.toUInt16.toUInt32.toInt32).toInt8.toInt32).toInt8.toInt32) kb2_0 T7.heap O7 gn_b3 tk7_0.lt tk7_0 gn_b2_0 tk2_3_v7.lt tk7_1 tk7_2 tk7_3 tk7_4 tk7_5 tk2_3_v7 gn_b2_1 tk2_6_v7.lt tk2_4_v7 tk2_5_v7 tk2_6_v7 (Ne.symm ne_b2_0_b3) (Ne.symm ne_b2_1_b3) tk2_2) hZ (W hw 50 rfl) (W hw 35 rfl) (by decide) (by decide)) q9a q9c (g := (mkF m 93 #[.val (.int p0), .val (.int p1), .val (.int p2), .val (.ref (w 2)), .val (.ref b2_0), .val (.ref b3), .val (.int (0 : Int32)), .val (.int (1 : Int32)), .val (.int (1 : Int32)), .val (.int (0 : Int32)), .unset, .unset] [(.ref b3)])) rfl (by rw [hml]; rfl) (Steps.refl _) (argsL := []) (rest := []) (lenOf pd_6 rfl) rfl (by show 2 * 0 + _ ≤ _; exact Nat.le_of_eq rfl) (hb hby at_93) (fun _ _ => ⟨rfl, e8, (by decide : 3 + 0 ≤ _), (by decide : 16 + 0 ≤ _)⟩)
  dsimp only [Pt.U, Pt.locs, Pt.cells, Pt.slots] at X9 l9 y9 z9 st9 hQ9
  subst l9 y9 z9
  obtain ⟨rfl, N9q, e9⟩ := hQ9
  have N9 := Fr.app N8 N9q
  obtain ⟨fs, hr, hrun, hended, hW, hsame⟩ := X9.leave (v := some (.int (1 : Int32))) (fun h => by rw [Bd.returns] at h; cases h)
  refine ⟨_, _, pre0 _ ?_, hrun, hended, _, _, rfl, ?_, ⟨_, rfl⟩, hW, hsame.mono (by decide) (by decide)⟩
  · show Steps p.tables e below (s₁.setTop (mkF m 0 #[.val (.int p0), .val (.int p1), .val (.int p2), .unset, .unset, .unset, .unset, .unset, .unset, .unset, .unset, .unset] [])) _
    refine XS.iloadN X0.here hx rfl (hb hby at_0) rfl ?_
    show Steps p.tables e below (s₁.setTop (mkF m 1 #[.val (.int p0), .val (.int p1), .val (.int p2), .unset, .unset, .unset, .unset, .unset, .unset, .unset, .unset, .unset] [(.int p1)])) _
    refine XS.iconst X0.here hx rfl (hb hby at_1) ?_
    show Steps p.tables e below (s₁.setTop (mkF m 2 #[.val (.int p0), .val (.int p1), .val (.int p2), .unset, .unset, .unset, .unset, .unset, .unset, .unset, .unset, .unset] [(.int (3 : Int32)), (.int p1)])) _
    refine XS.iand X0.here hx rfl (hb hby at_2) rfl ?_
    show Steps p.tables e below (s₁.setTop (mkF m 3 #[.val (.int p0), .val (.int p1), .val (.int p2), .unset, .unset, .unset, .unset, .unset, .unset, .unset, .unset, .unset] [(.int (p1 &&& (3 : Int32)))])) _
    rw [hp0]
    show Steps p.tables e below (s₁.setTop (mkF m 3 #[.val (.int p0), .val (.int p1), .val (.int p2), .unset, .unset, .unset, .unset, .unset, .unset, .unset, .unset, .unset] [(.int (1 : Int32))])) _
    refine st1 _ ?_
    show Steps p.tables e below (T1.setTop (mkF m 6 #[.val (.int p0), .val (.int p1), .val (.int p2), .unset, .unset, .unset, .unset, .unset, .unset, .unset, .unset, .unset] [(.ref (w 2))])) _
    refine XS.astoreN X1.here hx rfl (hb hby at_6) rfl rfl (l' := #[.val (.int p0), .val (.int p1), .val (.int p2), .val (.ref (w 2)), .unset, .unset, .unset, .unset, .unset, .unset, .unset, .unset]) rfl ?_
    show Steps p.tables e below (T1.setTop (mkF m 7 #[.val (.int p0), .val (.int p1), .val (.int p2), .val (.ref (w 2)), .unset, .unset, .unset, .unset, .unset, .unset, .unset, .unset] [])) _
    refine XS.iloadN X1.here hx rfl (hb hby at_7) rfl ?_
    show Steps p.tables e below (T1.setTop (mkF m 8 #[.val (.int p0), .val (.int p1), .val (.int p2), .val (.ref (w 2)), .unset, .unset, .unset, .unset, .unset, .unset, .unset, .unset] [(.int p2)])) _
    refine XS.sipush X1.here hx rfl (hb hby at_8) ?_
    show Steps p.tables e below (T1.setTop (mkF m 11 #[.val (.int p0), .val (.int p1), .val (.int p2), .val (.ref (w 2)), .unset, .unset, .unset, .unset, .unset, .unset, .unset, .unset] [(.int (255 : Int32)), (.int p2)])) _
    refine XS.iand X1.here hx rfl (hb hby at_11) rfl ?_
    show Steps p.tables e below (T1.setTop (mkF m 12 #[.val (.int p0), .val (.int p1), .val (.int p2), .val (.ref (w 2)), .unset, .unset, .unset, .unset, .unset, .unset, .unset, .unset] [(.int (p2 &&& (255 : Int32)))])) _
    refine XS.i2c X1.here hx rfl (hb hby at_12) rfl ?_
    show Steps p.tables e below (T1.setTop (mkF m 13 #[.val (.int p0), .val (.int p1), .val (.int p2), .val (.ref (w 2)), .unset, .unset, .unset, .unset, .unset, .unset, .unset, .unset] [(.int ((p2 &&& (255 : Int32)).toUInt32.toUInt16.toUInt32.toInt32))])) _
    refine st2 _ ?_
    show Steps p.tables e below (T2.setTop (mkF m 16 #[.val (.int p0), .val (.int p1), .val (.int p2), .val (.ref (w 2)), .unset, .unset, .unset, .unset, .unset, .unset, .unset, .unset] [(.ref b2_0)])) _
    refine XS.astore X2.here hx rfl (hb hby at_16) rfl rfl (l' := #[.val (.int p0), .val (.int p1), .val (.int p2), .val (.ref (w 2)), .val (.ref b2_0), .unset, .unset, .unset, .unset, .unset, .unset, .unset]) rfl ?_
    show Steps p.tables e below (T2.setTop (mkF m 18 #[.val (.int p0), .val (.int p1), .val (.int p2), .val (.ref (w 2)), .val (.ref b2_0), .unset, .unset, .unset, .unset, .unset, .unset, .unset] [])) _
    refine st3 _ ?_
    show Steps p.tables e below (T3.setTop (mkF m 21 #[.val (.int p0), .val (.int p1), .val (.int p2), .val (.ref (w 2)), .val (.ref b2_0), .unset, .unset, .unset, .unset, .unset, .unset, .unset] [(.ref b3)])) _
    refine XS.dup X3.here hx rfl (hb hby at_21) rfl rfl ?_
    show Steps p.tables e below (T3.setTop (mkF m 22 #[.val (.int p0), .val (.int p1), .val (.int p2), .val (.ref (w 2)), .val (.ref b2_0), .unset, .unset, .unset, .unset, .unset, .unset, .unset] [(.ref b3), (.ref b3)])) _
    refine XS.aload X3.here hx rfl (hb hby at_22) rfl rfl ?_
    show Steps p.tables e below (T3.setTop (mkF m 24 #[.val (.int p0), .val (.int p1), .val (.int p2), .val (.ref (w 2)), .val (.ref b2_0), .unset, .unset, .unset, .unset, .unset, .unset, .unset] [(.ref b2_0), (.ref b3), (.ref b3)])) _
    refine XS.aloadN X3.here hx rfl (hb hby at_24) rfl rfl ?_
    show Steps p.tables e below (T3.setTop (mkF m 25 #[.val (.int p0), .val (.int p1), .val (.int p2), .val (.ref (w 2)), .val (.ref b2_0), .unset, .unset, .unset, .unset, .unset, .unset, .unset] [(.ref (w 2)), (.ref b2_0), (.ref b3), (.ref b3)])) _
    refine XS.aconstNull X3.here hx rfl (hb hby at_25) ?_
    show Steps p.tables e below (T3.setTop (mkF m 26 #[.val (.int p0), .val (.int p1), .val (.int p2), .val (.ref (w 2)), .val (.ref b2_0), .unset, .unset, .unset, .unset, .unset, .unset, .unset] [.null, (.ref (w 2)), (.ref b2_0), (.ref b3), (.ref b3)])) _
    refine st4.trans ?_
    show Steps p.tables e below (T4.setTop (mkF m 29 #[.val (.int p0), .val (.int p1), .val (.int p2), .val (.ref (w 2)), .val (.ref b2_0), .unset, .unset, .unset, .unset, .unset, .unset, .unset] [(.ref b3)])) _
    refine XS.astore X4.here hx rfl (hb hby at_29) rfl rfl (l' := #[.val (.int p0), .val (.int p1), .val (.int p2), .val (.ref (w 2)), .val (.ref b2_0), .val (.ref b3), .unset, .unset, .unset, .unset, .unset, .unset]) rfl ?_
    show Steps p.tables e below (T4.setTop (mkF m 31 #[.val (.int p0), .val (.int p1), .val (.int p2), .val (.ref (w 2)), .val (.ref b2_0), .val (.ref b3), .unset, .unset, .unset, .unset, .unset, .unset] [])) _
    refine XS.aload X4.here hx rfl (hb hby at_31) rfl rfl ?_
    show Steps p.tables e below (T4.setTop (mkF m 33 #[.val (.int p0), .val (.int p1), .val (.int p2), .val (.ref (w 2)), .val (.ref b2_0), .val (.ref b3), .unset, .unset, .unset, .unset, .unset, .unset] [(.ref b3)])) _
    refine st5.trans ?_
    show Steps p.tables e below (T5.setTop (mkF m 36 #[.val (.int p0), .val (.int p1), .val (.int p2), .val (.ref (w 2)), .val (.ref b2_0), .val (.ref b3), .unset, .unset, .unset, .unset, .unset, .unset] [(.int (0 : Int32))])) _
    refine XS.istore X5.here hx rfl (hb hby at_36) rfl (l' := #[.val (.int p0), .val (.int p1), .val (.int p2), .val (.ref (w 2)), .val (.ref b2_0), .val (.ref b3), .val (.int (0 : Int32)), .unset, .unset, .unset, .unset, .unset]) rfl ?_
    show Steps p.tables e below (T5.setTop (mkF m 38 #[.val (.int p0), .val (.int p1), .val (.int p2), .val (.ref (w 2)), .val (.ref b2_0), .val (.ref b3), .val (.int (0 : Int32)), .unset, .unset, .unset, .unset, .unset] [])) _
    refine XS.iloadN X5.here hx rfl (hb hby at_38) rfl ?_
    show Steps p.tables e below (T5.setTop (mkF m 39 #[.val (.int p0), .val (.int p1), .val (.int p2), .val (.ref (w 2)), .val (.ref b2_0), .val (.ref b3), .val (.int (0 : Int32)), .unset, .unset, .unset, .unset, .unset] [(.int p0)])) _
    refine XS.iconst X5.here hx rfl (hb hby at_39) ?_
    show Steps p.tables e below (T5.setTop (mkF m 40 #[.val (.int p0), .val (.int p1), .val (.int p2), .val (.ref (w 2)), .val (.ref b2_0), .val (.ref b3), .val (.int (0 : Int32)), .unset, .unset, .unset, .unset, .unset] [(.int (1 : Int32)), (.int p0)])) _
    refine XS.iand X5.here hx rfl (hb hby at_40) rfl ?_
    show Steps p.tables e below (T5.setTop (mkF m 41 #[.val (.int p0), .val (.int p1), .val (.int p2), .val (.ref (w 2)), .val (.ref b2_0), .val (.ref b3), .val (.int (0 : Int32)), .unset, .unset, .unset, .unset, .unset] [(.int (p0 &&& (1 : Int32)))])) _
    rw [hp2]
    show Steps p.tables e below (T5.setTop (mkF m 41 #[.val (.int p0), .val (.int p1), .val (.int p2), .val (.ref (w 2)), .val (.ref b2_0), .val (.ref b3), .val (.int (0 : Int32)), .unset, .unset, .unset, .unset, .unset] [(.int (1 : Int32))])) _
    refine XS.ifNo X5.here hx rfl (hb hby at_41) rfl ((if0 _ _).trans (feq (by decide : ¬ ((1 : Int32) = (0 : Int32)))).1) ?_
    show Steps p.tables e below (T5.setTop (mkF m 44 #[.val (.int p0), .val (.int p1), .val (.int p2), .val (.ref (w 2)), .val (.ref b2_0), .val (.ref b3), .val (.int (0 : Int32)), .unset, .unset, .unset, .unset, .unset] [])) _
    refine XS.iconst X5.here hx rfl (hb hby at_44) ?_
    show Steps p.tables e below (T5.setTop (mkF m 45 #[.val (.int p0), .val (.int p1), .val (.int p2), .val (.ref (w 2)), .val (.ref b2_0), .val (.ref b3), .val (.int (0 : Int32)), .unset, .unset, .unset, .unset, .unset] [(.int (1 : Int32))])) _
    refine XS.goto X5.here hx rfl (pc0 := 45) (pc' := 49) rfl (hb hby at_45) (by decide) (by decide) ?_
    show Steps p.tables e below (T5.setTop (mkF m 49 #[.val (.int p0), .val (.int p1), .val (.int p2), .val (.ref (w 2)), .val (.ref b2_0), .val (.ref b3), .val (.int (0 : Int32)), .unset, .unset, .unset, .unset, .unset] [(.int (1 : Int32))])) _
    refine XS.istore X5.here hx rfl (hb hby at_49) rfl (l' := #[.val (.int p0), .val (.int p1), .val (.int p2), .val (.ref (w 2)), .val (.ref b2_0), .val (.ref b3), .val (.int (0 : Int32)), .val (.int (1 : Int32)), .unset, .unset, .unset, .unset]) rfl ?_
    show Steps p.tables e below (T5.setTop (mkF m 51 #[.val (.int p0), .val (.int p1), .val (.int p2), .val (.ref (w 2)), .val (.ref b2_0), .val (.ref b3), .val (.int (0 : Int32)), .val (.int (1 : Int32)), .unset, .unset, .unset, .unset] [])) _
    refine XS.iloadN X5.here hx rfl (hb hby at_51) rfl ?_
    show Steps p.tables e below (T5.setTop (mkF m 52 #[.val (.int p0), .val (.int p1), .val (.int p2), .val (.ref (w 2)), .val (.ref b2_0), .val (.ref b3), .val (.int (0 : Int32)), .val (.int (1 : Int32)), .unset, .unset, .unset, .unset] [(.int p0)])) _
    refine XS.iconst X5.here hx rfl (hb hby at_52) ?_
    show Steps p.tables e below (T5.setTop (mkF m 53 #[.val (.int p0), .val (.int p1), .val (.int p2), .val (.ref (w 2)), .val (.ref b2_0), .val (.ref b3), .val (.int (0 : Int32)), .val (.int (1 : Int32)), .unset, .unset, .unset, .unset] [(.int (2 : Int32)), (.int p0)])) _
    refine XS.iand X5.here hx rfl (hb hby at_53) rfl ?_
    show Steps p.tables e below (T5.setTop (mkF m 54 #[.val (.int p0), .val (.int p1), .val (.int p2), .val (.ref (w 2)), .val (.ref b2_0), .val (.ref b3), .val (.int (0 : Int32)), .val (.int (1 : Int32)), .unset, .unset, .unset, .unset] [(.int (p0 &&& (2 : Int32)))])) _
    refine XS.ifNo X5.here hx rfl (hb hby at_54) rfl ((if0 _ _).trans (feq hp3).1) ?_
    show Steps p.tables e below (T5.setTop (mkF m 57 #[.val (.int p0), .val (.int p1), .val (.int p2), .val (.ref (w 2)), .val (.ref b2_0), .val (.ref b3), .val (.int (0 : Int32)), .val (.int (1 : Int32)), .unset, .unset, .unset, .unset] [])) _
    refine XS.iconst X5.here hx rfl (hb hby at_57) ?_
    show Steps p.tables e below (T5.setTop (mkF m 58 #[.val (.int p0), .val (.int p1), .val (.int p2), .val (.ref (w 2)), .val (.ref b2_0), .val (.ref b3), .val (.int (0 : Int32)), .val (.int (1 : Int32)), .unset, .unset, .unset, .unset] [(.int (1 : Int32))])) _
    refine XS.goto X5.here hx rfl (pc0 := 58) (pc' := 62) rfl (hb hby at_58) (by decide) (by decide) ?_
    show Steps p.tables e below (T5.setTop (mkF m 62 #[.val (.int p0), .val (.int p1), .val (.int p2), .val (.ref (w 2)), .val (.ref b2_0), .val (.ref b3), .val (.int (0 : Int32)), .val (.int (1 : Int32)), .unset, .unset, .unset, .unset] [(.int (1 : Int32))])) _
    refine XS.istore X5.here hx rfl (hb hby at_62) rfl (l' := #[.val (.int p0), .val (.int p1), .val (.int p2), .val (.ref (w 2)), .val (.ref b2_0), .val (.ref b3), .val (.int (0 : Int32)), .val (.int (1 : Int32)), .val (.int (1 : Int32)), .unset, .unset, .unset]) rfl ?_
    show Steps p.tables e below (T5.setTop (mkF m 64 #[.val (.int p0), .val (.int p1), .val (.int p2), .val (.ref (w 2)), .val (.ref b2_0), .val (.ref b3), .val (.int (0 : Int32)), .val (.int (1 : Int32)), .val (.int (1 : Int32)), .unset, .unset, .unset] [])) _
    refine XS.iload X5.here hx rfl (hb hby at_64) rfl ?_
    show Steps p.tables e below (T5.setTop (mkF m 66 #[.val (.int p0), .val (.int p1), .val (.int p2), .val (.ref (w 2)), .val (.ref b2_0), .val (.ref b3), .val (.int (0 : Int32)), .val (.int (1 : Int32)), .val (.int (1 : Int32)), .unset, .unset, .unset] [(.int (1 : Int32))])) _
    refine XS.ifNo X5.here hx rfl (hb hby at_66) rfl ((if0 _ _).trans (feq (by decide : ¬ ((1 : Int32) = (0 : Int32)))).1) ?_
    show Steps p.tables e below (T5.setTop (mkF m 69 #[.val (.int p0), .val (.int p1), .val (.int p2), .val (.ref (w 2)), .val (.ref b2_0), .val (.ref b3), .val (.int (0 : Int32)), .val (.int (1 : Int32)), .val (.int (1 : Int32)), .unset, .unset, .unset] [])) _
    refine XS.aload X5.here hx rfl (hb hby at_69) rfl rfl ?_
    show Steps p.tables e below (T5.setTop (mkF m 71 #[.val (.int p0), .val (.int p1), .val (.int p2), .val (.ref (w 2)), .val (.ref b2_0), .val (.ref b3), .val (.int (0 : Int32)), .val (.int (1 : Int32)), .val (.int (1 : Int32)), .unset, .unset, .unset] [(.ref b3)])) _
    refine st6.trans ?_
    show Steps p.tables e below (T6.setTop (mkF m 74 #[.val (.int p0), .val (.int p1), .val (.int p2), .val (.ref (w 2)), .val (.ref b2_0), .val (.ref b3), .val (.int (0 : Int32)), .val (.int (1 : Int32)), .val (.int (1 : Int32)), .unset, .unset, .unset] [])) _
    refine XS.iload X6.here hx rfl (hb hby at_74) rfl ?_
    show Steps p.tables e below (T6.setTop (mkF m 76 #[.val (.int p0), .val (.int p1), .val (.int p2), .val (.ref (w 2)), .val (.ref b2_0), .val (.ref b3), .val (.int (0 : Int32)), .val (.int (1 : Int32)), .val (.int (1 : Int32)), .unset, .unset, .unset] [(.int (1 : Int32))])) _
    refine XS.ifNo X6.here hx rfl (hb hby at_76) rfl ((if0 _ _).trans (feq (by decide : ¬ ((1 : Int32) = (0 : Int32)))).1) ?_
    show Steps p.tables e below (T6.setTop (mkF m 79 #[.val (.int p0), .val (.int p1), .val (.int p2), .val (.ref (w 2)), .val (.ref b2_0), .val (.ref b3), .val (.int (0 : Int32)), .val (.int (1 : Int32)), .val (.int (1 : Int32)), .unset, .unset, .unset] [])) _
    refine XS.aload X6.here hx rfl (hb hby at_79) rfl rfl ?_
    show Steps p.tables e below (T6.setTop (mkF m 81 #[.val (.int p0), .val (.int p1), .val (.int p2), .val (.ref (w 2)), .val (.ref b2_0), .val (.ref b3), .val (.int (0 : Int32)), .val (.int (1 : Int32)), .val (.int (1 : Int32)), .unset, .unset, .unset] [(.ref b3)])) _
    refine st7.trans ?_
    show Steps p.tables e below (T7.setTop (mkF m 84 #[.val (.int p0), .val (.int p1), .val (.int p2), .val (.ref (w 2)), .val (.ref b2_0), .val (.ref b3), .val (.int (0 : Int32)), .val (.int (1 : Int32)), .val (.int (1 : Int32)), .unset, .unset, .unset] [])) _
    refine XS.aload X7.here hx rfl (hb hby at_84) rfl rfl ?_
    show Steps p.tables e below (T7.setTop (mkF m 86 #[.val (.int p0), .val (.int p1), .val (.int p2), .val (.ref (w 2)), .val (.ref b2_0), .val (.ref b3), .val (.int (0 : Int32)), .val (.int (1 : Int32)), .val (.int (1 : Int32)), .unset, .unset, .unset] [(.ref b3)])) _
    refine st8.trans ?_
    show Steps p.tables e below (T8.setTop (mkF m 89 #[.val (.int p0), .val (.int p1), .val (.int p2), .val (.ref (w 2)), .val (.ref b2_0), .val (.ref b3), .val (.int (0 : Int32)), .val (.int (1 : Int32)), .val (.int (1 : Int32)), .unset, .unset, .unset] [(.int (0 : Int32))])) _
    refine XS.istore X8.here hx rfl (hb hby at_89) rfl (l' := #[.val (.int p0), .val (.int p1), .val (.int p2), .val (.ref (w 2)), .val (.ref b2_0), .val (.ref b3), .val (.int (0 : Int32)), .val (.int (1 : Int32)), .val (.int (1 : Int32)), .val (.int (0 : Int32)), .unset, .unset]) rfl ?_
    show Steps p.tables e below (T8.setTop (mkF m 91 #[.val (.int p0), .val (.int p1), .val (.int p2), .val (.ref (w 2)), .val (.ref b2_0), .val (.ref b3), .val (.int (0 : Int32)), .val (.int (1 : Int32)), .val (.int (1 : Int32)), .val (.int (0 : Int32)), .unset, .unset] [])) _
    refine XS.aload X8.here hx rfl (hb hby at_91) rfl rfl ?_
    show Steps p.tables e below (T8.setTop (mkF m 93 #[.val (.int p0), .val (.int p1), .val (.int p2), .val (.ref (w 2)), .val (.ref b2_0), .val (.ref b3), .val (.int (0 : Int32)), .val (.int (1 : Int32)), .val (.int (1 : Int32)), .val (.int (0 : Int32)), .unset, .unset] [(.ref b3)])) _
    refine st9.trans ?_
    show Steps p.tables e below (T9.setTop (mkF m 96 #[.val (.int p0), .val (.int p1), .val (.int p2), .val (.ref (w 2)), .val (.ref b2_0), .val (.ref b3), .val (.int (0 : Int32)), .val (.int (1 : Int32)), .val (.int (1 : Int32)), .val (.int (0 : Int32)), .unset, .unset] [(.int (0 : Int32))])) _
    refine XS.istore X9.here hx rfl (hb hby at_96) rfl (l' := #[.val (.int p0), .val (.int p1), .val (.int p2), .val (.ref (w 2)), .val (.ref b2_0), .val (.ref b3), .val (.int (0 : Int32)), .val (.int (1 : Int32)), .val (.int (1 : Int32)), .val (.int (0 : Int32)), .val (.int (0 : Int32)), .unset]) rfl ?_
    show Steps p.tables e below (T9.setTop (mkF m 98 #[.val (.int p0), .val (.int p1), .val (.int p2), .val (.ref (w 2)), .val (.ref b2_0), .val (.ref b3), .val (.int (0 : Int32)), .val (.int (1 : Int32)), .val (.int (1 : Int32)), .val (.int (0 : Int32)), .val (.int (0 : Int32)), .unset] [])) _
    refine XS.iload X9.here hx rfl (hb hby at_98) rfl ?_
    show Steps p.tables e below (T9.setTop (mkF m 100 #[.val (.int p0), .val (.int p1), .val (.int p2), .val (.ref (w 2)), .val (.ref b2_0), .val (.ref b3), .val (.int (0 : Int32)), .val (.int (1 : Int32)), .val (.int (1 : Int32)), .val (.int (0 : Int32)), .val (.int (0 : Int32)), .unset] [(.int (1 : Int32))])) _
    refine XS.ifNo X9.here hx rfl (hb hby at_100) rfl ((if0 _ _).trans (feq (by decide : ¬ ((1 : Int32) = (0 : Int32)))).1) ?_
    show Steps p.tables e below (T9.setTop (mkF m 103 #[.val (.int p0), .val (.int p1), .val (.int p2), .val (.ref (w 2)), .val (.ref b2_0), .val (.ref b3), .val (.int (0 : Int32)), .val (.int (1 : Int32)), .val (.int (1 : Int32)), .val (.int (0 : Int32)), .val (.int (0 : Int32)), .unset] [])) _
    refine XS.aloadN X9.here hx rfl (hb hby at_103) rfl rfl ?_
    show Steps p.tables e below (T9.setTop (mkF m 104 #[.val (.int p0), .val (.int p1), .val (.int p2), .val (.ref (w 2)), .val (.ref b2_0), .val (.ref b3), .val (.int (0 : Int32)), .val (.int (1 : Int32)), .val (.int (1 : Int32)), .val (.int (0 : Int32)), .val (.int (0 : Int32)), .unset] [(.ref (w 2))])) _
    refine XS.ifnonnullYes X9.here hx rfl (pc0 := 104) (pc' := 111) rfl (hb hby at_104) rfl (by decide) (by decide) ?_
    show Steps p.tables e below (T9.setTop (mkF m 111 #[.val (.int p0), .val (.int p1), .val (.int p2), .val (.ref (w 2)), .val (.ref b2_0), .val (.ref b3), .val (.int (0 : Int32)), .val (.int (1 : Int32)), .val (.int (1 : Int32)), .val (.int (0 : Int32)), .val (.int (0 : Int32)), .unset] [])) _
    refine XS.iconst X9.here hx rfl (hb hby at_111) ?_
    show Steps p.tables e below (T9.setTop (mkF m 112 #[.val (.int p0), .val (.int p1), .val (.int p2), .val (.ref (w 2)), .val (.ref b2_0), .val (.ref b3), .val (.int (0 : Int32)), .val (.int (1 : Int32)), .val (.int (1 : Int32)), .val (.int (0 : Int32)), .val (.int (0 : Int32)), .unset] [(.int (0 : Int32))])) _
    refine XS.istore X9.here hx rfl (hb hby at_112) rfl (l' := #[.val (.int p0), .val (.int p1), .val (.int p2), .val (.ref (w 2)), .val (.ref b2_0), .val (.ref b3), .val (.int (0 : Int32)), .val (.int (1 : Int32)), .val (.int (1 : Int32)), .val (.int (0 : Int32)), .val (.int (0 : Int32)), .val (.int (0 : Int32))]) rfl ?_
    show Steps p.tables e below (T9.setTop (mkF m 114 #[.val (.int p0), .val (.int p1), .val (.int p2), .val (.ref (w 2)), .val (.ref b2_0), .val (.ref b3), .val (.int (0 : Int32)), .val (.int (1 : Int32)), .val (.int (1 : Int32)), .val (.int (0 : Int32)), .val (.int (0 : Int32)), .val (.int (0 : Int32))] [])) _
    refine XS.iload X9.here hx rfl (hb hby at_114) rfl ?_
    show Steps p.tables e below (T9.setTop (mkF m 116 #[.val (.int p0), .val (.int p1), .val (.int p2), .val (.ref (w 2)), .val (.ref b2_0), .val (.ref b3), .val (.int (0 : Int32)), .val (.int (1 : Int32)), .val (.int (1 : Int32)), .val (.int (0 : Int32)), .val (.int (0 : Int32)), .val (.int (0 : Int32))] [(.int (0 : Int32))])) _
    refine XS.ifNo X9.here hx rfl (hb hby at_116) rfl ((if0 _ _).trans (teq (by decide : (0 : Int32) = (0 : Int32))).2) ?_
    show Steps p.tables e below (T9.setTop (mkF m 119 #[.val (.int p0), .val (.int p1), .val (.int p2), .val (.ref (w 2)), .val (.ref b2_0), .val (.ref b3), .val (.int (0 : Int32)), .val (.int (1 : Int32)), .val (.int (1 : Int32)), .val (.int (0 : Int32)), .val (.int (0 : Int32)), .val (.int (0 : Int32))] [])) _
    refine XS.iload X9.here hx rfl (hb hby at_119) rfl ?_
    show Steps p.tables e below (T9.setTop (mkF m 121 #[.val (.int p0), .val (.int p1), .val (.int p2), .val (.ref (w 2)), .val (.ref b2_0), .val (.ref b3), .val (.int (0 : Int32)), .val (.int (1 : Int32)), .val (.int (1 : Int32)), .val (.int (0 : Int32)), .val (.int (0 : Int32)), .val (.int (0 : Int32))] [(.int (0 : Int32))])) _
    refine XS.iload X9.here hx rfl (hb hby at_121) rfl ?_
    show Steps p.tables e below (T9.setTop (mkF m 123 #[.val (.int p0), .val (.int p1), .val (.int p2), .val (.ref (w 2)), .val (.ref b2_0), .val (.ref b3), .val (.int (0 : Int32)), .val (.int (1 : Int32)), .val (.int (1 : Int32)), .val (.int (0 : Int32)), .val (.int (0 : Int32)), .val (.int (0 : Int32))] [(.int (0 : Int32)), (.int (0 : Int32))])) _
    refine XS.icmpNo X9.here hx rfl (hb hby at_123) rfl (teq (by decide : (0 : Int32) = (0 : Int32))).2 ?_
    show Steps p.tables e below (T9.setTop (mkF m 126 #[.val (.int p0), .val (.int p1), .val (.int p2), .val (.ref (w 2)), .val (.ref b2_0), .val (.ref b3), .val (.int (0 : Int32)), .val (.int (1 : Int32)), .val (.int (1 : Int32)), .val (.int (0 : Int32)), .val (.int (0 : Int32)), .val (.int (0 : Int32))] [])) _
    refine XS.iload X9.here hx rfl (hb hby at_126) rfl ?_
    show Steps p.tables e below (T9.setTop (mkF m 128 #[.val (.int p0), .val (.int p1), .val (.int p2), .val (.ref (w 2)), .val (.ref b2_0), .val (.ref b3), .val (.int (0 : Int32)), .val (.int (1 : Int32)), .val (.int (1 : Int32)), .val (.int (0 : Int32)), .val (.int (0 : Int32)), .val (.int (0 : Int32))] [(.int (0 : Int32))])) _
    refine XS.iload X9.here hx rfl (hb hby at_128) rfl ?_
    show Steps p.tables e below (T9.setTop (mkF m 130 #[.val (.int p0), .val (.int p1), .val (.int p2), .val (.ref (w 2)), .val (.ref b2_0), .val (.ref b3), .val (.int (0 : Int32)), .val (.int (1 : Int32)), .val (.int (1 : Int32)), .val (.int (0 : Int32)), .val (.int (0 : Int32)), .val (.int (0 : Int32))] [(.int (0 : Int32)), (.int (0 : Int32))])) _
    refine XS.icmpNo X9.here hx rfl (hb hby at_130) rfl (teq (by decide : (0 : Int32) = (0 : Int32))).2 ?_
    show Steps p.tables e below (T9.setTop (mkF m 133 #[.val (.int p0), .val (.int p1), .val (.int p2), .val (.ref (w 2)), .val (.ref b2_0), .val (.ref b3), .val (.int (0 : Int32)), .val (.int (1 : Int32)), .val (.int (1 : Int32)), .val (.int (0 : Int32)), .val (.int (0 : Int32)), .val (.int (0 : Int32))] [])) _
    refine XS.iconst X9.here hx rfl (hb hby at_133) ?_
    show Steps p.tables e below (T9.setTop (mkF m 134 #[.val (.int p0), .val (.int p1), .val (.int p2), .val (.ref (w 2)), .val (.ref b2_0), .val (.ref b3), .val (.int (0 : Int32)), .val (.int (1 : Int32)), .val (.int (1 : Int32)), .val (.int (0 : Int32)), .val (.int (0 : Int32)), .val (.int (0 : Int32))] [(.int (1 : Int32))])) _
    refine XS.goto X9.here hx rfl (pc0 := 134) (pc' := 138) rfl (hb hby at_134) (by decide) (by decide) ?_
    show Steps p.tables e below (T9.setTop (mkF m 138 #[.val (.int p0), .val (.int p1), .val (.int p2), .val (.ref (w 2)), .val (.ref b2_0), .val (.ref b3), .val (.int (0 : Int32)), .val (.int (1 : Int32)), .val (.int (1 : Int32)), .val (.int (0 : Int32)), .val (.int (0 : Int32)), .val (.int (0 : Int32))] [(.int (1 : Int32))])) _
    exact retN X9 hx (t := .boolean) Bd.returns (by simp) (hb hby at_138) hr
  · show OL (some (.int (1 : Int32))) Z.heap.size _ T9.heap _
    exact ⟨rfl, N9⟩
theorem d_method_3_code_15 : decode method_3_code 15 = .ok (.iload_n 0, 1) := by decide +kernel
theorem d_method_3_code_16 : decode method_3_code 16 = .ok (.iconst 2, 1) := by decide +kernel
theorem d_method_3_code_17 : decode method_3_code 17 = .ok (.if_icmp .ne 7, 3) := by decide +kernel
theorem d_method_3_code_20 : decode method_3_code 20 = .ok (.getstatic 37, 3) := by decide +kernel
theorem d_method_3_code_23 : decode method_3_code 23 = .ok (.areturn, 1) := by decide +kernel
set_option maxRecDepth 65536 in
set_option maxHeartbeats 40000000 in
theorem rm_25 (l : Launch) (Z : State) (a0 : Array Value) (hw : ∀ d ∈ tables_1, d.before a0 Z = true) (w : Nat → Addr) (kk : Nat → ClassId) (iw : Nat → Int32) (vw : Nat → Value) (hN : Wd Z w kk iw vw) (ws : List Jvm.Cond)  (h0 : Heap) (O0 : Old Z Z.heap.size h0) :
    MetFree l (⟨"com/example/netloom/netloom/xml/OpenAnnotationsCarriesGraphicsPinLaw", "pick", "(I)Lcom/example/netloom/netloom/xml/XmlGraphics$Form;"⟩ : MethodName) (head1 (Jvm.Cond.code (⟨"com/example/netloom/netloom/xml/OpenAnnotationsCarriesGraphicsPinLaw", "pick", "(I)Lcom/example/netloom/netloom/xml/XmlGraphics$Form;"⟩ : MethodName) method_3_code 1 (some (.object "com/example/netloom/netloom/xml/XmlGraphics$Form")) :: ws) ({ frames := 0, cells := 0, slots := 0, locals := 0 } : Room)) (fun a U => a = #[(.int (2 : Int32))] ∧ Z.Warmed39 U.vm ∧ U.heap = h0) (fun _ _ _ _ _ => True) (fun _ U o U' => ∃ v L, o = .returned v ∧ OQ (some (.ref (w 1))) h0 Z.heap.size v U'.heap L ∧ FrameEnd U o U' L ({ frames := 0, cells := 0, slots := 0, locals := 0 } : Room).cells ({ frames := 0, cells := 0, slots := 0, locals := 0 } : Room).slots) := by
  have hN' := hN
  obtain ⟨hS0, hE0, hS1, hE1, hS2, hE2, hI0, hJ0, hR0, hRr0⟩ := hN'
  refine MetFree.of_bodySF (plainFor_of_name pn_0) hisR ?_
  intro p e s m args below meth c s₁ Bd hml0 hP hK
  obtain ⟨rfl, hZ, hh⟩ := hP
  have hx := Bd.exec
  have hby := Bd.bytes
  have hml : c.maxLocals = 1 := hml0
  have hown : s.vm.findClass "com/example/netloom/netloom/xml/OpenAnnotationsCarriesGraphicsPinLaw" = some m.cls := findClass_of_methodNamed Bd.named
  have hnm := (name_of_methodNamed Bd.named Bd.method).1
  have X0 : Stand p l e ({ frames := 0, cells := 0, slots := 0, locals := 0 } : Room) s m #[(.int (2 : Int32))] below meth c s₁ [] 0 0 := Stand.of_body Bd
  have e0 : s₁.heap = h0 := by rw [← hh, Bd.state]; rfl
  have N0 := Fr.nil Z.heap.size
  have pre0 : ∀ t, Steps p.tables e below (s₁.setTop (mkF m 0 #[.val (.int (2 : Int32))] [])) t → Steps p.tables e below (s₁.setTop (entryFrame m #[(.int (2 : Int32))] 1)) t := fun t k => castTop (ef_0 m (.int (2 : Int32)) rfl) k
  obtain ⟨T1, X1, e1, st1⟩ := getS2 X0 hx hZ hown (host := "") (Or.inl (W hw 60 rfl)) Via.refl e0 (hS1.ext O0.2) (g := (mkF m 20 #[.val (.int (2 : Int32))] [])) rfl (hb hby d_method_3_code_20)
  obtain ⟨fs, hr, hrun, hended, hW, hsame⟩ := X1.leave (v := some (.ref (w 1))) (fun h => by rw [Bd.returns] at h; cases h)
  refine ⟨_, _, pre0 _ ?_, hrun, hended, _, _, rfl, ?_, ⟨_, rfl⟩, hW, hsame.mono (by decide) (by decide)⟩
  · show Steps p.tables e below (s₁.setTop (mkF m 0 #[.val (.int (2 : Int32))] [])) _
    refine XS.iloadN X0.here hx rfl (hb hby d_method_3_code_0) rfl ?_
    show Steps p.tables e below (s₁.setTop (mkF m 1 #[.val (.int (2 : Int32))] [(.int (2 : Int32))])) _
    refine XS.ifYes X0.here hx rfl (pc0 := 1) (pc' := 6) rfl (hb hby d_method_3_code_1) rfl ((if0 _ _).trans (feq (by decide : ¬ ((2 : Int32) = (0 : Int32)))).2) (by decide) (by decide) ?_
    show Steps p.tables e below (s₁.setTop (mkF m 6 #[.val (.int (2 : Int32))] [])) _
    refine XS.iloadN X0.here hx rfl (hb hby d_method_3_code_6) rfl ?_
    show Steps p.tables e below (s₁.setTop (mkF m 7 #[.val (.int (2 : Int32))] [(.int (2 : Int32))])) _
    refine XS.iconst X0.here hx rfl (hb hby d_method_3_code_7) ?_
    show Steps p.tables e below (s₁.setTop (mkF m 8 #[.val (.int (2 : Int32))] [(.int (1 : Int32)), (.int (2 : Int32))])) _
    refine XS.icmpYes X0.here hx rfl (pc0 := 8) (pc' := 15) rfl (hb hby d_method_3_code_8) rfl (feq (by decide : ¬ ((2 : Int32) = (1 : Int32)))).2 (by decide) (by decide) ?_
    show Steps p.tables e below (s₁.setTop (mkF m 15 #[.val (.int (2 : Int32))] [])) _
    refine XS.iloadN X0.here hx rfl (hb hby d_method_3_code_15) rfl ?_
    show Steps p.tables e below (s₁.setTop (mkF m 16 #[.val (.int (2 : Int32))] [(.int (2 : Int32))])) _
    refine XS.iconst X0.here hx rfl (hb hby d_method_3_code_16) ?_
    show Steps p.tables e below (s₁.setTop (mkF m 17 #[.val (.int (2 : Int32))] [(.int (2 : Int32)), (.int (2 : Int32))])) _
    refine XS.icmpNo X0.here hx rfl (hb hby d_method_3_code_17) rfl (teq (by decide : (2 : Int32) = (2 : Int32))).2 ?_
    show Steps p.tables e below (s₁.setTop (mkF m 20 #[.val (.int (2 : Int32))] [])) _
    refine st1 _ ?_
    show Steps p.tables e below (T1.setTop (mkF m 23 #[.val (.int (2 : Int32))] [(.ref (w 1))])) _
    exact retOut X1 hx Bd.returns rfl (Or.inr (Or.inr (Or.inr (Or.inr ⟨rfl, rfl, rfl⟩)))) (hb hby d_method_3_code_23) hr
  · show OQ (some (.ref (w 1))) h0 Z.heap.size _ T1.heap _
    rw [e1]
    exact ⟨rfl, N0, rfl⟩
def Qd_7 (Z : State) (w : Nat → Addr) (kk : Nat → ClassId) (iw : Nat → Int32) (vw : Nat → Value) (o1 : Addr) (o2 : Addr) (o3 : Addr) (t0 : Int32) (kc_o3 : ClassId) (h0 : Heap) (n0 : Nat) (v : Option Value) (h : Heap) (L : List Loc) : Prop := v = none ∧ Fr n0 L ∧ Keep h0 h [o1] ∧ Exa Z h o1 "com/example/netloom/netloom/xml/NetReader$OpenAnnotations" ∧ Fld Z h o1 "com/example/netloom/netloom/xml/NetReader$OpenAnnotations" "owner" "Ljava/lang/String;" (.ref o2) ∧ Fld Z h o1 "com/example/netloom/netloom/xml/NetReader$OpenAnnotations" "form" "Lcom/example/netloom/netloom/xml/XmlGraphics$Form;" (.ref (w 1)) ∧ Fld Z h o1 "com/example/netloom/netloom/xml/NetReader$OpenAnnotations" "carries" "Ljava/util/Set;" .null ∧ Fld Z h o1 "com/example/netloom/netloom/xml/NetReader$OpenAnnotations" "graphicsCarried" "Z" (.int (0 : Int32)) ∧ Fld Z h o1 "com/example/netloom/netloom/xml/NetReader$OpenAnnotations" "graphics" "Lcom/example/netloom/netloom/net/Graphics;" .null
set_option maxRecDepth 65536 in
set_option maxHeartbeats 40000000 in
theorem rm_26 (l : Launch) (Z : State) (a0 : Array Value) (hw : ∀ d ∈ tables_1, d.before a0 Z = true) (w : Nat → Addr) (kk : Nat → ClassId) (iw : Nat → Int32) (vw : Nat → Value) (hN : Wd Z w kk iw vw) (ws : List Jvm.Cond) (o1 : Addr) (o2 : Addr) (o3 : Addr) (t0 : Int32) (kc_o3 : ClassId) (h0 : Heap) (O0 : Old Z Z.heap.size h0) (gn_o1 : Z.heap.size ≤ o1) (lt_o1 : o1 < h0.size) (gn_o2 : Z.heap.size ≤ o2) (lt_o2 : o2 < h0.size) (E_o1 : Exa Z h0 o1 "com/example/netloom/netloom/xml/NetReader$OpenAnnotations") (F_o1_owner : Fld Z h0 o1 "com/example/netloom/netloom/xml/NetReader$OpenAnnotations" "owner" "Ljava/lang/String;" .null) (F_o1_form : Fld Z h0 o1 "com/example/netloom/netloom/xml/NetReader$OpenAnnotations" "form" "Lcom/example/netloom/netloom/xml/XmlGraphics$Form;" .null) (F_o1_carries : Fld Z h0 o1 "com/example/netloom/netloom/xml/NetReader$OpenAnnotations" "carries" "Ljava/util/Set;" .null) (F_o1_graphicsCarried : Fld Z h0 o1 "com/example/netloom/netloom/xml/NetReader$OpenAnnotations" "graphicsCarried" "Z" (.int (0 : Int32))) (F_o1_graphics : Fld Z h0 o1 "com/example/netloom/netloom/xml/NetReader$OpenAnnotations" "graphics" "Lcom/example/netloom/netloom/net/Graphics;" .null) (E_o2 : Exa Z h0 o2 "java/lang/String") (gn_o3 : Z.heap.size ≤ o3) (lt_o3 : o3 < h0.size) (F_o2_value : Fld Z h0 o2 "java/lang/String" "value" "[B" (.ref o3)) (F_o2_coder : Fld Z h0 o2 "java/lang/String" "coder" "B" (.int (0 : Int32))) (V_o3 : Arv Z h0 o3 kc_o3 .byte (1 : Int32) [(.int t0)] (.int (0 : Int32))) (ne_o1_o2 : o1 ≠ o2) (ne_o1_o3 : o1 ≠ o3) (ne_o2_o3 : o2 ≠ o3) :
    MetFree l (⟨"com/example/netloom/netloom/xml/NetReader$OpenAnnotations", "<init>", "(Ljava/lang/String;Lcom/example/netloom/netloom/xml/XmlGraphics$Form;Ljava/util/Set;)V"⟩ : MethodName) (head1 (Jvm.Cond.code (⟨"com/example/netloom/netloom/xml/NetReader$OpenAnnotations", "<init>", "(Ljava/lang/String;Lcom/example/netloom/netloom/xml/XmlGraphics$Form;Ljava/util/Set;)V"⟩ : MethodName) prog_77_method_1_code 4 none :: ws) ({ frames := 1, cells := 0, slots := 0, locals := 12 } : Room)) (fun a U => a = #[(.ref o1), (.ref o2), (.ref (w 1)), .null] ∧ Z.Warmed39 U.vm ∧ U.heap = h0) (fun _ _ _ _ _ => True) (fun _ U o U' => ∃ v L, o = .returned v ∧ Qd_7 Z w kk iw vw o1 o2 o3 t0 kc_o3 h0 Z.heap.size v U'.heap L ∧ FrameEnd U o U' L ({ frames := 1, cells := 0, slots := 0, locals := 12 } : Room).cells ({ frames := 1, cells := 0, slots := 0, locals := 12 } : Room).slots) := by
  have hN' := hN
  obtain ⟨hS0, hE0, hS1, hE1, hS2, hE2, hI0, hJ0, hR0, hRr0⟩ := hN'
  refine MetFree.of_bodySF (plainFor_of_name pn_3) hisR ?_
  intro p e s m args below meth c s₁ Bd hml0 hP hK
  obtain ⟨rfl, hZ, hh⟩ := hP
  have hx := Bd.exec
  have hby := Bd.bytes
  have hml : c.maxLocals = 4 := hml0
  have hown : s.vm.findClass "com/example/netloom/netloom/xml/NetReader$OpenAnnotations" = some m.cls := findClass_of_methodNamed Bd.named
  have hnm := (name_of_methodNamed Bd.named Bd.method).1
  have X0 : Stand p l e ({ frames := 1, cells := 0, slots := 0, locals := 12 } : Room) s m #[(.ref o1), (.ref o2), (.ref (w 1)), .null] below meth c s₁ [] 0 0 := Stand.of_body Bd
  have e0 : s₁.heap = h0 := by rw [← hh, Bd.state]; rfl
  have N0 := Fr.nil Z.heap.size
  have pre0 : ∀ t, Steps p.tables e below (s₁.setTop (mkF m 0 #[.val (.ref o1), .val (.ref o2), .val (.ref (w 1)), .val .null] [])) t → Steps p.tables e below (s₁.setTop (entryFrame m #[(.ref o1), (.ref o2), (.ref (w 1)), .null] 4)) t := fun t k => castTop (ef_2 m (.ref o1) rfl (.ref o2) rfl (.ref (w 1)) rfl .null rfl) k
  have K0 : Keep h0 h0 [o1] := Keep.refl _ _
  obtain ⟨T1, X1, e1, st1⟩ := initO X0 hx hZ hown (W hw 39 rfl) (W hw 27 rfl) (W hw 28 rfl) e0 (g := (mkF m 1 #[.val (.ref o1), .val (.ref o2), .val (.ref (w 1)), .val .null] [(.ref o1)])) rfl (by rw [hml]; rfl) rfl (hb hby d_prog_77_method_1_code_1) (by decide) (W := 0) (by show 2 * 0 + _ ≤ _; exact Nat.le_of_eq rfl) (by decide)
  obtain ⟨T2, h2, X2, e2, W2, st2⟩ := putF X1 hx hZ hown (host := "") (Or.inl (W hw 40 rfl)) Via.refl e1 F_o1_owner E_o1 (Or.inr ⟨(W hw 41 rfl), rfl, hnm⟩) (W hw 34 rfl) (ty := (.object "java/lang/String")) (by decide) rfl rfl (g := (mkF m 6 #[.val (.ref o1), .val (.ref o2), .val (.ref (w 1)), .val .null] [(.ref o2), (.ref o1)])) rfl rfl (hb hby d_prog_77_method_1_code_6)
  have F_o1_owner_v2 := F_o1_owner.same W2
  have N2 := Fr.snoc X2 N0 gn_o1
  have E_o1_v2 := E_o1.wr W2
  have F_o1_form_v2 := F_o1_form.other W2 (Or.inr (sn_2 hw))
  have F_o1_carries_v2 := F_o1_carries.other W2 (Or.inr (sn_3 hw))
  have F_o1_graphicsCarried_v2 := F_o1_graphicsCarried.other W2 (Or.inr (sn_4 hw))
  have F_o1_graphics_v2 := F_o1_graphics.other W2 (Or.inr (sn_5 hw))
  have E_o2_v2 := E_o2.wr W2
  have F_o2_value_v2 := F_o2_value.other W2 (Or.inl (Ne.symm ne_o1_o2))
  have F_o2_coder_v2 := F_o2_coder.other W2 (Or.inl (Ne.symm ne_o1_o2))
  have V_o3_v2 := V_o3.other W2 (Ne.symm ne_o1_o3)
  have O2 := O0.wr W2 gn_o1
  have K2 : Keep h0 h2 [o1] := K0.wr W2 (Or.inl (List.mem_of_getElem? (i := 0) rfl))
  obtain ⟨T3, h3, X3, e3, W3, st3⟩ := putF X2 hx hZ hown (host := "") (Or.inl (W hw 42 rfl)) Via.refl e2 F_o1_form_v2 E_o1_v2 (Or.inr ⟨(W hw 43 rfl), rfl, hnm⟩) (W hw 34 rfl) (ty := (.object "com/example/netloom/netloom/xml/XmlGraphics$Form")) (by decide) rfl rfl (g := (mkF m 11 #[.val (.ref o1), .val (.ref o2), .val (.ref (w 1)), .val .null] [(.ref (w 1)), (.ref o1)])) rfl rfl (hb hby d_prog_77_method_1_code_11)
  have F_o1_form_v3 := F_o1_form_v2.same W3
  have N3 := Fr.snoc X3 N2 gn_o1
  have E_o1_v3 := E_o1_v2.wr W3
  have F_o1_owner_v3 := F_o1_owner_v2.other W3 (Or.inr (sn_6 hw))
  have F_o1_carries_v3 := F_o1_carries_v2.other W3 (Or.inr (sn_7 hw))
  have F_o1_graphicsCarried_v3 := F_o1_graphicsCarried_v2.other W3 (Or.inr (sn_8 hw))
  have F_o1_graphics_v3 := F_o1_graphics_v2.other W3 (Or.inr (sn_9 hw))
  have E_o2_v3 := E_o2_v2.wr W3
  have F_o2_value_v3 := F_o2_value_v2.other W3 (Or.inl (Ne.symm ne_o1_o2))
  have F_o2_coder_v3 := F_o2_coder_v2.other W3 (Or.inl (Ne.symm ne_o1_o2))
  have V_o3_v3 := V_o3_v2.other W3 (Ne.symm ne_o1_o3)
  have O3 := O2.wr W3 gn_o1
  have K3 : Keep h0 h3 [o1] := K2.wr W3 (Or.inl (List.mem_of_getElem? (i := 0) rfl))
  obtain ⟨T4, h4, X4, e4, W4, st4⟩ := putF X3 hx hZ hown (host := "") (Or.inl (W hw 44 rfl)) Via.refl e3 F_o1_carries_v3 E_o1_v3 (Or.inr ⟨(W hw 45 rfl), rfl, hnm⟩) (W hw 34 rfl) (ty := (.object "java/util/Set")) (by decide) rfl rfl (g := (mkF m 16 #[.val (.ref o1), .val (.ref o2), .val (.ref (w 1)), .val .null] [.null, (.ref o1)])) rfl rfl (hb hby d_prog_77_method_1_code_16)
  have F_o1_carries_v4 := F_o1_carries_v3.same W4
  have N4 := Fr.snoc X4 N3 gn_o1
  have E_o1_v4 := E_o1_v3.wr W4
  have F_o1_owner_v4 := F_o1_owner_v3.other W4 (Or.inr (sn_10 hw))
  have F_o1_form_v4 := F_o1_form_v3.other W4 (Or.inr (sn_11 hw))
  have F_o1_graphicsCarried_v4 := F_o1_graphicsCarried_v3.other W4 (Or.inr (sn_12 hw))
  have F_o1_graphics_v4 := F_o1_graphics_v3.other W4 (Or.inr (sn_13 hw))
  have E_o2_v4 := E_o2_v3.wr W4
  have F_o2_value_v4 := F_o2_value_v3.other W4 (Or.inl (Ne.symm ne_o1_o2))
  have F_o2_coder_v4 := F_o2_coder_v3.other W4 (Or.inl (Ne.symm ne_o1_o2))
  have V_o3_v4 := V_o3_v3.other W4 (Ne.symm ne_o1_o3)
  have O4 := O3.wr W4 gn_o1
  have K4 : Keep h0 h4 [o1] := K3.wr W4 (Or.inl (List.mem_of_getElem? (i := 0) rfl))
  obtain ⟨fs, hr, hrun, hended, hW, hsame⟩ := X4.leave (v := none) (fun _ => rfl)
  refine ⟨_, _, pre0 _ ?_, hrun, hended, _, _, rfl, ?_, ⟨_, rfl⟩, hW, hsame.mono (by decide) (by decide)⟩
  · show Steps p.tables e below (s₁.setTop (mkF m 0 #[.val (.ref o1), .val (.ref o2), .val (.ref (w 1)), .val .null] [])) _
    refine XS.aloadN X0.here hx rfl (hb hby d_prog_77_method_1_code_0) rfl rfl ?_
    show Steps p.tables e below (s₁.setTop (mkF m 1 #[.val (.ref o1), .val (.ref o2), .val (.ref (w 1)), .val .null] [(.ref o1)])) _
    refine st1 _ ?_
    show Steps p.tables e below (T1.setTop (mkF m 4 #[.val (.ref o1), .val (.ref o2), .val (.ref (w 1)), .val .null] [])) _
    refine XS.aloadN X1.here hx rfl (hb hby d_prog_77_method_1_code_4) rfl rfl ?_
    show Steps p.tables e below (T1.setTop (mkF m 5 #[.val (.ref o1), .val (.ref o2), .val (.ref (w 1)), .val .null] [(.ref o1)])) _
    refine XS.aloadN X1.here hx rfl (hb hby d_prog_77_method_1_code_5) rfl rfl ?_
    show Steps p.tables e below (T1.setTop (mkF m 6 #[.val (.ref o1), .val (.ref o2), .val (.ref (w 1)), .val .null] [(.ref o2), (.ref o1)])) _
    refine st2 _ ?_
    show Steps p.tables e below (T2.setTop (mkF m 9 #[.val (.ref o1), .val (.ref o2), .val (.ref (w 1)), .val .null] [])) _
    refine XS.aloadN X2.here hx rfl (hb hby d_prog_77_method_1_code_9) rfl rfl ?_
    show Steps p.tables e below (T2.setTop (mkF m 10 #[.val (.ref o1), .val (.ref o2), .val (.ref (w 1)), .val .null] [(.ref o1)])) _
    refine XS.aloadN X2.here hx rfl (hb hby d_prog_77_method_1_code_10) rfl rfl ?_
    show Steps p.tables e below (T2.setTop (mkF m 11 #[.val (.ref o1), .val (.ref o2), .val (.ref (w 1)), .val .null] [(.ref (w 1)), (.ref o1)])) _
    refine st3 _ ?_
    show Steps p.tables e below (T3.setTop (mkF m 14 #[.val (.ref o1), .val (.ref o2), .val (.ref (w 1)), .val .null] [])) _
    refine XS.aloadN X3.here hx rfl (hb hby d_prog_77_method_1_code_14) rfl rfl ?_
    show Steps p.tables e below (T3.setTop (mkF m 15 #[.val (.ref o1), .val (.ref o2), .val (.ref (w 1)), .val .null] [(.ref o1)])) _
    refine XS.aloadN X3.here hx rfl (hb hby d_prog_77_method_1_code_15) rfl rfl ?_
    show Steps p.tables e below (T3.setTop (mkF m 16 #[.val (.ref o1), .val (.ref o2), .val (.ref (w 1)), .val .null] [.null, (.ref o1)])) _
    refine st4 _ ?_
    show Steps p.tables e below (T4.setTop (mkF m 19 #[.val (.ref o1), .val (.ref o2), .val (.ref (w 1)), .val .null] [])) _
    exact X4.returnOut hx Bd.returns (hb hby d_prog_77_method_1_code_19) hr
  · show Qd_7 Z w kk iw vw o1 o2 o3 t0 kc_o3 h0 Z.heap.size _ T4.heap _
    rw [e4]
    exact ⟨rfl, N4, K4, E_o1_v4, F_o1_owner_v4, F_o1_form_v4, F_o1_carries_v4, F_o1_graphicsCarried_v4, F_o1_graphics_v4⟩
set_option maxRecDepth 65536 in
set_option maxHeartbeats 40000000 in
theorem rm_27 (l : Launch) (Z : State) (a0 : Array Value) (hw : ∀ d ∈ tables_1, d.before a0 Z = true) (w : Nat → Addr) (kk : Nat → ClassId) (iw : Nat → Int32) (vw : Nat → Value) (hN : Wd Z w kk iw vw) (ws : List Jvm.Cond) (o1 : Addr) (o2 : Addr) (o3 : Addr) (t0 : Int32) (kc_o3 : ClassId) (h0 : Heap) (O0 : Old Z Z.heap.size h0) (gn_o1 : Z.heap.size ≤ o1) (lt_o1 : o1 < h0.size) (E_o1 : Exa Z h0 o1 "com/example/netloom/netloom/xml/NetReader$OpenAnnotations") (gn_o2 : Z.heap.size ≤ o2) (lt_o2 : o2 < h0.size) (F_o1_owner : Fld Z h0 o1 "com/example/netloom/netloom/xml/NetReader$OpenAnnotations" "owner" "Ljava/lang/String;" (.ref o2)) (F_o1_form : Fld Z h0 o1 "com/example/netloom/netloom/xml/NetReader$OpenAnnotations" "form" "Lcom/example/netloom/netloom/xml/XmlGraphics$Form;" (.ref (w 1))) (F_o1_carries : Fld Z h0 o1 "com/example/netloom/netloom/xml/NetReader$OpenAnnotations" "carries" "Ljava/util/Set;" .null) (F_o1_graphicsCarried : Fld Z h0 o1 "com/example/netloom/netloom/xml/NetReader$OpenAnnotations" "graphicsCarried" "Z" (.int (0 : Int32))) (F_o1_graphics : Fld Z h0 o1 "com/example/netloom/netloom/xml/NetReader$OpenAnnotations" "graphics" "Lcom/example/netloom/netloom/net/Graphics;" .null) (E_o2 : Exa Z h0 o2 "java/lang/String") (gn_o3 : Z.heap.size ≤ o3) (lt_o3 : o3 < h0.size) (F_o2_value : Fld Z h0 o2 "java/lang/String" "value" "[B" (.ref o3)) (F_o2_coder : Fld Z h0 o2 "java/lang/String" "coder" "B" (.int (0 : Int32))) (V_o3 : Arv Z h0 o3 kc_o3 .byte (1 : Int32) [(.int t0)] (.int (0 : Int32))) (ne_o1_o2 : o1 ≠ o2) (ne_o1_o3 : o1 ≠ o3) (ne_o2_o3 : o2 ≠ o3) :
    MetFree l (⟨"com/example/netloom/netloom/xml/NetReader$OpenAnnotations", "carriesGraphics", "()Z"⟩ : MethodName) (head1 (Jvm.Cond.code (⟨"com/example/netloom/netloom/xml/NetReader$OpenAnnotations", "carriesGraphics", "()Z"⟩ : MethodName) prog_77_method_3_code 1 (some .boolean) :: ws) ({ frames := 0, cells := 0, slots := 0, locals := 0 } : Room)) (fun a U => a = #[(.ref o1)] ∧ Z.Warmed39 U.vm ∧ U.heap = h0) (fun _ _ _ _ _ => True) (fun _ U o U' => ∃ v L, o = .returned v ∧ OQ (some (.int (0 : Int32))) h0 Z.heap.size v U'.heap L ∧ FrameEnd U o U' L ({ frames := 0, cells := 0, slots := 0, locals := 0 } : Room).cells ({ frames := 0, cells := 0, slots := 0, locals := 0 } : Room).slots) := by
  have hN' := hN
  obtain ⟨hS0, hE0, hS1, hE1, hS2, hE2, hI0, hJ0, hR0, hRr0⟩ := hN'
  refine MetFree.of_bodySF (plainFor_of_name pn_3) hisR ?_
  intro p e s m args below meth c s₁ Bd hml0 hP hK
  obtain ⟨rfl, hZ, hh⟩ := hP
  have hx := Bd.exec
  have hby := Bd.bytes
  have hml : c.maxLocals = 1 := hml0
  have hown : s.vm.findClass "com/example/netloom/netloom/xml/NetReader$OpenAnnotations" = some m.cls := findClass_of_methodNamed Bd.named
  have hnm := (name_of_methodNamed Bd.named Bd.method).1
  have X0 : Stand p l e ({ frames := 0, cells := 0, slots := 0, locals := 0 } : Room) s m #[(.ref o1)] below meth c s₁ [] 0 0 := Stand.of_body Bd
  have e0 : s₁.heap = h0 := by rw [← hh, Bd.state]; rfl
  have N0 := Fr.nil Z.heap.size
  have pre0 : ∀ t, Steps p.tables e below (s₁.setTop (mkF m 0 #[.val (.ref o1)] [])) t → Steps p.tables e below (s₁.setTop (entryFrame m #[(.ref o1)] 1)) t := fun t k => castTop (ef_3 m (.ref o1) rfl) k
  obtain ⟨T1, X1, e1, st1⟩ := getF X0 hx hZ hown (host := "") (Or.inl (W hw 51 rfl)) Via.refl e0 F_o1_graphicsCarried (g := (mkF m 1 #[.val (.ref o1)] [(.ref o1)])) rfl rfl (hb hby d_prog_77_method_3_code_1)
  obtain ⟨fs, hr, hrun, hended, hW, hsame⟩ := X1.leave (v := some (.int (0 : Int32))) (fun h => by rw [Bd.returns] at h; cases h)
  refine ⟨_, _, pre0 _ ?_, hrun, hended, _, _, rfl, ?_, ⟨_, rfl⟩, hW, hsame.mono (by decide) (by decide)⟩
  · show Steps p.tables e below (s₁.setTop (mkF m 0 #[.val (.ref o1)] [])) _
    refine XS.aloadN X0.here hx rfl (hb hby d_prog_77_method_3_code_0) rfl rfl ?_
    show Steps p.tables e below (s₁.setTop (mkF m 1 #[.val (.ref o1)] [(.ref o1)])) _
    refine st1 _ ?_
    show Steps p.tables e below (T1.setTop (mkF m 4 #[.val (.ref o1)] [(.int (0 : Int32))])) _
    refine XS.ifYes X1.here hx rfl (pc0 := 4) (pc' := 25) rfl (hb hby d_prog_77_method_3_code_4) rfl ((if0 _ _).trans (teq (by decide : (0 : Int32) = (0 : Int32))).1) (by decide) (by decide) ?_
    show Steps p.tables e below (T1.setTop (mkF m 25 #[.val (.ref o1)] [])) _
    refine XS.iconst X1.here hx rfl (hb hby d_prog_77_method_3_code_25) ?_
    show Steps p.tables e below (T1.setTop (mkF m 26 #[.val (.ref o1)] [(.int (0 : Int32))])) _
    exact retN X1 hx (t := .boolean) Bd.returns (by simp) (hb hby d_prog_77_method_3_code_26) hr
  · show OQ (some (.int (0 : Int32))) h0 Z.heap.size _ T1.heap _
    rw [e1]
    exact ⟨rfl, N0, rfl⟩
set_option maxRecDepth 65536 in
set_option maxHeartbeats 40000000 in
theorem law_28 (l : Launch) (Z : State) (a0 : Array Value) (hw : ∀ d ∈ tables_1, d.before a0 Z = true) (w : Nat → Addr) (kk : Nat → ClassId) (iw : Nat → Int32) (vw : Nat → Value) (hN : Wd Z w kk iw vw) (ws : List Jvm.Cond) (p0 : Int32) (p1 : Int32) (p2 : Int32) (h0 : Heap) (O0 : Old Z Z.heap.size h0) (hp0 : (p1 &&& (3 : Int32)) = (2 : Int32)) (hp1 : ¬ ((255 : Int32) < ((p2 &&& (255 : Int32)).toUInt32.toUInt16.toUInt32.toInt32))) (hp2 : (p0 &&& (1 : Int32)) = (0 : Int32)) (hp3 : (p0 &&& (2 : Int32)) = (0 : Int32)) :
    MetFree l x (head1 (Jvm.Cond.code x code maxLocals ret :: ws) room_1) (fun a U => a = #[(.int p0), (.int p1), (.int p2)] ∧ Z.Warmed39 U.vm ∧ U.heap = h0) (fun _ _ _ _ _ => True) (fun _ U o U' => ∃ v L, o = .returned v ∧ OL (some (.int (1 : Int32))) Z.heap.size v U'.heap L ∧ FrameEnd U o U' L 16 128) := by
  have hN' := hN
  obtain ⟨hS0, hE0, hS1, hE1, hS2, hE2, hI0, hJ0, hR0, hRr0⟩ := hN'
  refine MetFree.of_bodySF (plainFor_of_name pn_0) hisR ?_
  intro p e s m args below meth c s₁ Bd hml0 hP hK
  obtain ⟨rfl, hZ, hh⟩ := hP
  have hx := Bd.exec
  have hby := Bd.bytes
  have hml : c.maxLocals = 12 := hml0
  have hown : s.vm.findClass "com/example/netloom/netloom/xml/OpenAnnotationsCarriesGraphicsPinLaw" = some m.cls := findClass_of_methodNamed Bd.named
  have hnm := (name_of_methodNamed Bd.named Bd.method).1
  have X0 : Stand p l e room_1 s m #[(.int p0), (.int p1), (.int p2)] below meth c s₁ [] 0 0 := Stand.of_body Bd
  have e0 : s₁.heap = h0 := by rw [← hh, Bd.state]; rfl
  have N0 := Fr.nil Z.heap.size
  have pre0 : ∀ t, Steps p.tables e below (s₁.setTop (mkF m 0 #[.val (.int p0), .val (.int p1), .val (.int p2), .unset, .unset, .unset, .unset, .unset, .unset, .unset, .unset, .unset] [])) t → Steps p.tables e below (s₁.setTop (entryFrame m #[(.int p0), (.int p1), (.int p2)] maxLocals)) t := fun t k => castTop (ef_4 m (.int p0) rfl (.int p1) rfl (.int p2) rfl) k
  obtain ⟨_, _, ⟨T1, L1, k1, n1⟩, -, X1, ⟨Lc1, hQ1, l1, y1, z1⟩, st1⟩ := Jvm.LawKit.callS X0 hx (y := (⟨"com/example/netloom/netloom/xml/OpenAnnotationsCarriesGraphicsPinLaw", "pick", "(I)Lcom/example/netloom/netloom/xml/XmlGraphics$Form;"⟩ : MethodName)) hown (mvT hZ (W hw 0 rfl)) (mvT hZ (W hw 1 rfl)) (mvT hZ (W hw 2 rfl)) (mvT hZ (W hw 3 rfl)) (by decide) (backOf (W := 0) (rm_25 l Z a0 hw w kk iw vw hN [] h0 O0) hZ (W hw 3 rfl) (W hw 2 rfl) (by decide) (by decide)) (g := (mkF m 3 #[.val (.int p0), .val (.int p1), .val (.int p2), .unset, .unset, .unset, .unset, .unset, .unset, .unset, .unset, .unset] [(.int (2 : Int32))])) rfl (by rw [hml]; rfl) (argsL := [(.int (2 : Int32))]) (rest := []) (lenOf pd_0 rfl) rfl (by show 2 * 0 + _ ≤ _; exact Nat.le_of_eq rfl) (hb hby at_3) (fun _ _ => ⟨rfl, e0, (by decide : 0 + 0 ≤ _), (by decide : 0 + 0 ≤ _)⟩)
  dsimp only [Pt.U, Pt.locs, Pt.cells, Pt.slots] at X1 l1 y1 z1 st1 hQ1
  subst l1 y1 z1
  obtain ⟨rfl, N1q, e1⟩ := hQ1
  have N1 := Fr.app N0 N1q
  obtain ⟨_, _, ⟨T2, L2, k2, n2⟩, -, X2, ⟨Lc2, hQ2, l2, y2, z2⟩, st2⟩ := Jvm.LawKit.callS X1 hx (y := (⟨"java/lang/String", "valueOf", "(C)Ljava/lang/String;"⟩ : MethodName)) hown (mvT hZ (W hw 7 rfl)) (mvT hZ (W hw 8 rfl)) (mvT hZ (W hw 9 rfl)) (mvT hZ (W hw 10 rfl)) (by decide) (backOf (W := 0) (rm_5 l Z a0 hw w kk iw vw hN [] ((p2 &&& (255 : Int32)).toUInt32.toUInt16.toUInt32.toInt32) h0 O0 hp1) hZ (W hw 10 rfl) (W hw 9 rfl) (by decide) (by decide)) (g := (mkF m 13 #[.val (.int p0), .val (.int p1), .val (.int p2), .val (.ref (w 1)), .unset, .unset, .unset, .unset, .unset, .unset, .unset, .unset] [(.int ((p2 &&& (255 : Int32)).toUInt32.toUInt16.toUInt32.toInt32))])) rfl (by rw [hml]; rfl) (argsL := [(.int ((p2 &&& (255 : Int32)).toUInt32.toUInt16.toUInt32.toInt32))]) (rest := []) (lenOf pd_4 rfl) rfl (by show 2 * 0 + _ ≤ _; exact Nat.le_of_eq rfl) (hb hby at_13) (fun _ _ => ⟨rfl, e1, (by decide : 0 + 2 ≤ _), (by decide : 0 + 5 ≤ _)⟩)
  dsimp only [Pt.U, Pt.locs, Pt.cells, Pt.slots] at X2 l2 y2 z2 st2 hQ2
  subst l2 y2 z2
  obtain ⟨b2_0, b2_1, kb2_0, rfl, N2q, Kq2, tk2_0, tk2_1, tk2_2, tk2_3, tk2_4, tk2_5, tk2_6⟩ := hQ2
  have N2 := Fr.app N1 N2q
  have gn_b2_0 : Z.heap.size ≤ b2_0 := Nat.le_trans O0.2.1 tk2_0
  have gn_b2_1 : Z.heap.size ≤ b2_1 := Nat.le_trans O0.2.1 tk2_1
  have O2 := O0.keep Kq2 all0
  obtain ⟨T3, h3, X3, e3, E3, A3, D3, -, st3⟩ := newO X2 hx hZ hown (W hw 33 rfl) (W hw 34 rfl) (W hw 35 rfl) rfl (g := (mkF m 18 #[.val (.int p0), .val (.int p1), .val (.int p2), .val (.ref (w 1)), .val (.ref b2_0), .unset, .unset, .unset, .unset, .unset, .unset, .unset] [])) rfl (hb hby at_18) (by decide) (by decide)
  obtain ⟨b3, g3⟩ : ∃ z, z = T2.heap.size := ⟨_, rfl⟩
  rw [← g3] at A3 st3 D3
  have gn_b3 : Z.heap.size ≤ b3 := Nat.le_trans O2.2.1 (Nat.le_of_eq g3.symm)
  have ne_b2_1_b3 : b2_1 ≠ b3 := Nat.ne_of_lt (Nat.lt_of_lt_of_le tk2_6.lt (Nat.le_of_eq g3.symm))
  have ne_b2_0_b3 : b2_0 ≠ b3 := Nat.ne_of_lt (Nat.lt_of_lt_of_le tk2_3.lt (Nat.le_of_eq g3.symm))
  have tk2_3_v3 := tk2_3.ext E3
  have tk2_4_v3 := tk2_4.ext E3
  have tk2_5_v3 := tk2_5.ext E3
  have tk2_6_v3 := tk2_6.ext E3
  have O3 := O2.ext E3
  have E_b3_v3 := A3
  have F_b3_owner_v3 : Fld Z h3 b3 "com/example/netloom/netloom/xml/NetReader$OpenAnnotations" "owner" "Ljava/lang/String;" .null := D3 (Or.inr (W hw 41 rfl)) (ty := (.object "java/lang/String")) (by decide)
  have F_b3_form_v3 : Fld Z h3 b3 "com/example/netloom/netloom/xml/NetReader$OpenAnnotations" "form" "Lcom/example/netloom/netloom/xml/XmlGraphics$Form;" .null := D3 (Or.inr (W hw 43 rfl)) (ty := (.object "com/example/netloom/netloom/xml/XmlGraphics$Form")) (by decide)
  have F_b3_carries_v3 : Fld Z h3 b3 "com/example/netloom/netloom/xml/NetReader$OpenAnnotations" "carries" "Ljava/util/Set;" .null := D3 (Or.inr (W hw 45 rfl)) (ty := (.object "java/util/Set")) (by decide)
  have F_b3_graphicsCarried_v3 : Fld Z h3 b3 "com/example/netloom/netloom/xml/NetReader$OpenAnnotations" "graphicsCarried" "Z" (.int (0 : Int32)) := D3 (Or.inl (W hw 52 rfl)) (ty := .boolean) (by decide)
  have F_b3_graphics_v3 : Fld Z h3 b3 "com/example/netloom/netloom/xml/NetReader$OpenAnnotations" "graphics" "Lcom/example/netloom/netloom/net/Graphics;" .null := D3 (Or.inl (W hw 59 rfl)) (ty := (.object "com/example/netloom/netloom/net/Graphics")) (by decide)
  obtain ⟨_, _, ⟨T4, L4, k4, n4⟩, -, X4, ⟨Lc4, hQ4, l4, y4, z4⟩, st4⟩ := X3.specialBack hx (y := (⟨"com/example/netloom/netloom/xml/NetReader$OpenAnnotations", "<init>", "(Ljava/lang/String;Lcom/example/netloom/netloom/xml/XmlGraphics$Form;Ljava/util/Set;)V"⟩ : MethodName)) rfl hown (mvT hZ (W hw 36 rfl)) (mvT hZ (W hw 37 rfl)) (mvT hZ (W hw 38 rfl)) (by decide) (backOf (W := 1) (rm_26 l Z a0 hw w kk iw vw hN [] b3 b2_0 b2_1 ((((p2 &&& (255 : Int32)).toUInt32.toUInt16.toUInt32.toInt32).toInt8.toInt32).toInt8.toInt32) kb2_0 h3 O3 gn_b3 E_b3_v3.lt gn_b2_0 tk2_3_v3.lt E_b3_v3 F_b3_owner_v3 F_b3_form_v3 F_b3_carries_v3 F_b3_graphicsCarried_v3 F_b3_graphics_v3 tk2_3_v3 gn_b2_1 tk2_6_v3.lt tk2_4_v3 tk2_5_v3 tk2_6_v3 (Ne.symm ne_b2_0_b3) (Ne.symm ne_b2_1_b3) tk2_2) hZ (W hw 38 rfl) (W hw 35 rfl) (by decide) (by decide)) (g := (mkF m 26 #[.val (.int p0), .val (.int p1), .val (.int p2), .val (.ref (w 1)), .val (.ref b2_0), .unset, .unset, .unset, .unset, .unset, .unset, .unset] [.null, (.ref (w 1)), (.ref b2_0), (.ref b3), (.ref b3)])) rfl (by rw [hml]; rfl) (Steps.refl _) (a := b3) (argsL := [(.ref b2_0), (.ref (w 1)), .null]) (rest := [(.ref b3)]) (lenOf pd_5 rfl) rfl (by show 2 * 0 + _ ≤ _; exact Nat.le_of_eq rfl) (hb hby at_26) (fun _ _ => ⟨rfl, e3, (by decide : 3 + 0 ≤ _), (by decide : 16 + 0 ≤ _)⟩)
  dsimp only [Pt.U, Pt.locs, Pt.cells, Pt.slots] at X4 l4 y4 z4 st4 hQ4
  subst l4 y4 z4
  obtain ⟨rfl, N4q, Kq4, tk4_0, tk4_1, tk4_2, tk4_3, tk4_4, tk4_5⟩ := hQ4
  have N4 := Fr.app N2 N4q
  have tk2_3_v4 := tk2_3_v3.keep Kq4
  have tk2_4_v4 := tk2_4_v3.keep Kq4 (ninS ne_b2_0_b3 nin0)
  have tk2_5_v4 := tk2_5_v3.keep Kq4 (ninS ne_b2_0_b3 nin0)
  have tk2_6_v4 := tk2_6_v3.keep Kq4 (ninS ne_b2_1_b3 nin0)
  have E_b3_v4 := E_b3_v3.keep Kq4
  have O4 := O3.keep Kq4 (allS gn_b3 all0)
  obtain ⟨cq5, kq5, q5a, q5b, q5c⟩ := isOf hZ rfl tk4_0
  obtain ⟨_, _, ⟨T5, L5, k5, n5⟩, -, X5, ⟨Lc5, hQ5, l5, y5, z5⟩, st5⟩ := X4.virtualBack hx (y := (⟨"com/example/netloom/netloom/xml/NetReader$OpenAnnotations", "carriesGraphics", "()Z"⟩ : MethodName)) (z := (⟨"com/example/netloom/netloom/xml/NetReader$OpenAnnotations", "carriesGraphics", "()Z"⟩ : MethodName)) hown (mvT hZ (W hw 46 rfl)) (mvT hZ (W hw 47 rfl)) (notFace_of_selects (args := #[]) (mvT hZ (W hw 49 rfl))) (mvT hZ (W hw 49 rfl)) (mvT hZ (W hw 48 rfl)) (by decide) (backOf (W := 0) (rm_27 l Z a0 hw w kk iw vw hN [] b3 b2_0 b2_1 ((((p2 &&& (255 : Int32)).toUInt32.toUInt16.toUInt32.toInt32).toInt8.toInt32).toInt8.toInt32) kb2_0 T4.heap O4 gn_b3 tk4_0.lt tk4_0 gn_b2_0 tk2_3_v4.lt tk4_1 tk4_2 tk4_3 tk4_4 tk4_5 tk2_3_v4 gn_b2_1 tk2_6_v4.lt tk2_4_v4 tk2_5_v4 tk2_6_v4 (Ne.symm ne_b2_0_b3) (Ne.symm ne_b2_1_b3) tk2_2) hZ (W hw 50 rfl) (W hw 35 rfl) (by decide) (by decide)) q5a q5c (g := (mkF m 33 #[.val (.int p0), .val (.int p1), .val (.int p2), .val (.ref (w 1)), .val (.ref b2_0), .val (.ref b3), .unset, .unset, .unset, .unset, .unset, .unset] [(.ref b3)])) rfl (by rw [hml]; rfl) (Steps.refl _) (argsL := []) (rest := []) (lenOf pd_6 rfl) rfl (by show 2 * 0 + _ ≤ _; exact Nat.le_of_eq rfl) (hb hby at_33) (fun _ _ => ⟨rfl, rfl, (by decide : 3 + 0 ≤ _), (by decide : 16 + 0 ≤ _)⟩)
  dsimp only [Pt.U, Pt.locs, Pt.cells, Pt.slots] at X5 l5 y5 z5 st5 hQ5
  subst l5 y5 z5
  obtain ⟨rfl, N5q, e5⟩ := hQ5
  have N5 := Fr.app N4 N5q
  obtain ⟨cq6, kq6, q6a, q6b, q6c⟩ := isOf hZ e5 tk4_0
  obtain ⟨_, _, ⟨T6, L6, k6, n6⟩, -, X6, ⟨Lc6, hQ6, l6, y6, z6⟩, st6⟩ := X5.virtualBack hx (y := (⟨"com/example/netloom/netloom/xml/NetReader$OpenAnnotations", "carriesGraphics", "()Z"⟩ : MethodName)) (z := (⟨"com/example/netloom/netloom/xml/NetReader$OpenAnnotations", "carriesGraphics", "()Z"⟩ : MethodName)) hown (mvT hZ (W hw 46 rfl)) (mvT hZ (W hw 47 rfl)) (notFace_of_selects (args := #[]) (mvT hZ (W hw 49 rfl))) (mvT hZ (W hw 49 rfl)) (mvT hZ (W hw 48 rfl)) (by decide) (backOf (W := 0) (rm_27 l Z a0 hw w kk iw vw hN [] b3 b2_0 b2_1 ((((p2 &&& (255 : Int32)).toUInt32.toUInt16.toUInt32.toInt32).toInt8.toInt32).toInt8.toInt32) kb2_0 T4.heap O4 gn_b3 tk4_0.lt tk4_0 gn_b2_0 tk2_3_v4.lt tk4_1 tk4_2 tk4_3 tk4_4 tk4_5 tk2_3_v4 gn_b2_1 tk2_6_v4.lt tk2_4_v4 tk2_5_v4 tk2_6_v4 (Ne.symm ne_b2_0_b3) (Ne.symm ne_b2_1_b3) tk2_2) hZ (W hw 50 rfl) (W hw 35 rfl) (by decide) (by decide)) q6a q6c (g := (mkF m 86 #[.val (.int p0), .val (.int p1), .val (.int p2), .val (.ref (w 1)), .val (.ref b2_0), .val (.ref b3), .val (.int (0 : Int32)), .val (.int (0 : Int32)), .val (.int (0 : Int32)), .unset, .unset, .unset] [(.ref b3)])) rfl (by rw [hml]; rfl) (Steps.refl _) (argsL := []) (rest := []) (lenOf pd_6 rfl) rfl (by show 2 * 0 + _ ≤ _; exact Nat.le_of_eq rfl) (hb hby at_86) (fun _ _ => ⟨rfl, e5, (by decide : 3 + 0 ≤ _), (by decide : 16 + 0 ≤ _)⟩)
  dsimp only [Pt.U, Pt.locs, Pt.cells, Pt.slots] at X6 l6 y6 z6 st6 hQ6
  subst l6 y6 z6
  obtain ⟨rfl, N6q, e6⟩ := hQ6
  have N6 := Fr.app N5 N6q
  obtain ⟨cq7, kq7, q7a, q7b, q7c⟩ := isOf hZ e6 tk4_0
  obtain ⟨_, _, ⟨T7, L7, k7, n7⟩, -, X7, ⟨Lc7, hQ7, l7, y7, z7⟩, st7⟩ := X6.virtualBack hx (y := (⟨"com/example/netloom/netloom/xml/NetReader$OpenAnnotations", "carriesGraphics", "()Z"⟩ : MethodName)) (z := (⟨"com/example/netloom/netloom/xml/NetReader$OpenAnnotations", "carriesGraphics", "()Z"⟩ : MethodName)) hown (mvT hZ (W hw 46 rfl)) (mvT hZ (W hw 47 rfl)) (notFace_of_selects (args := #[]) (mvT hZ (W hw 49 rfl))) (mvT hZ (W hw 49 rfl)) (mvT hZ (W hw 48 rfl)) (by decide) (backOf (W := 0) (rm_27 l Z a0 hw w kk iw vw hN [] b3 b2_0 b2_1 ((((p2 &&& (255 : Int32)).toUInt32.toUInt16.toUInt32.toInt32).toInt8.toInt32).toInt8.toInt32) kb2_0 T4.heap O4 gn_b3 tk4_0.lt tk4_0 gn_b2_0 tk2_3_v4.lt tk4_1 tk4_2 tk4_3 tk4_4 tk4_5 tk2_3_v4 gn_b2_1 tk2_6_v4.lt tk2_4_v4 tk2_5_v4 tk2_6_v4 (Ne.symm ne_b2_0_b3) (Ne.symm ne_b2_1_b3) tk2_2) hZ (W hw 50 rfl) (W hw 35 rfl) (by decide) (by decide)) q7a q7c (g := (mkF m 93 #[.val (.int p0), .val (.int p1), .val (.int p2), .val (.ref (w 1)), .val (.ref b2_0), .val (.ref b3), .val (.int (0 : Int32)), .val (.int (0 : Int32)), .val (.int (0 : Int32)), .val (.int (0 : Int32)), .unset, .unset] [(.ref b3)])) rfl (by rw [hml]; rfl) (Steps.refl _) (argsL := []) (rest := []) (lenOf pd_6 rfl) rfl (by show 2 * 0 + _ ≤ _; exact Nat.le_of_eq rfl) (hb hby at_93) (fun _ _ => ⟨rfl, e6, (by decide : 3 + 0 ≤ _), (by decide : 16 + 0 ≤ _)⟩)
  dsimp only [Pt.U, Pt.locs, Pt.cells, Pt.slots] at X7 l7 y7 z7 st7 hQ7
  subst l7 y7 z7
  obtain ⟨rfl, N7q, e7⟩ := hQ7
  have N7 := Fr.app N6 N7q
  obtain ⟨fs, hr, hrun, hended, hW, hsame⟩ := X7.leave (v := some (.int (1 : Int32))) (fun h => by rw [Bd.returns] at h; cases h)
  refine ⟨_, _, pre0 _ ?_, hrun, hended, _, _, rfl, ?_, ⟨_, rfl⟩, hW, hsame.mono (by decide) (by decide)⟩
  · show Steps p.tables e below (s₁.setTop (mkF m 0 #[.val (.int p0), .val (.int p1), .val (.int p2), .unset, .unset, .unset, .unset, .unset, .unset, .unset, .unset, .unset] [])) _
    refine XS.iloadN X0.here hx rfl (hb hby at_0) rfl ?_
    show Steps p.tables e below (s₁.setTop (mkF m 1 #[.val (.int p0), .val (.int p1), .val (.int p2), .unset, .unset, .unset, .unset, .unset, .unset, .unset, .unset, .unset] [(.int p1)])) _
    refine XS.iconst X0.here hx rfl (hb hby at_1) ?_
    show Steps p.tables e below (s₁.setTop (mkF m 2 #[.val (.int p0), .val (.int p1), .val (.int p2), .unset, .unset, .unset, .unset, .unset, .unset, .unset, .unset, .unset] [(.int (3 : Int32)), (.int p1)])) _
    refine XS.iand X0.here hx rfl (hb hby at_2) rfl ?_
    show Steps p.tables e below (s₁.setTop (mkF m 3 #[.val (.int p0), .val (.int p1), .val (.int p2), .unset, .unset, .unset, .unset, .unset, .unset, .unset, .unset, .unset] [(.int (p1 &&& (3 : Int32)))])) _
    rw [hp0]
    show Steps p.tables e below (s₁.setTop (mkF m 3 #[.val (.int p0), .val (.int p1), .val (.int p2), .unset, .unset, .unset, .unset, .unset, .unset, .unset, .unset, .unset] [(.int (2 : Int32))])) _
    refine st1 _ ?_
    show Steps p.tables e below (T1.setTop (mkF m 6 #[.val (.int p0), .val (.int p1), .val (.int p2), .unset, .unset, .unset, .unset, .unset, .unset, .unset, .unset, .unset] [(.ref (w 1))])) _
    refine XS.astoreN X1.here hx rfl (hb hby at_6) rfl rfl (l' := #[.val (.int p0), .val (.int p1), .val (.int p2), .val (.ref (w 1)), .unset, .unset, .unset, .unset, .unset, .unset, .unset, .unset]) rfl ?_
    show Steps p.tables e below (T1.setTop (mkF m 7 #[.val (.int p0), .val (.int p1), .val (.int p2), .val (.ref (w 1)), .unset, .unset, .unset, .unset, .unset, .unset, .unset, .unset] [])) _
    refine XS.iloadN X1.here hx rfl (hb hby at_7) rfl ?_
    show Steps p.tables e below (T1.setTop (mkF m 8 #[.val (.int p0), .val (.int p1), .val (.int p2), .val (.ref (w 1)), .unset, .unset, .unset, .unset, .unset, .unset, .unset, .unset] [(.int p2)])) _
    refine XS.sipush X1.here hx rfl (hb hby at_8) ?_
    show Steps p.tables e below (T1.setTop (mkF m 11 #[.val (.int p0), .val (.int p1), .val (.int p2), .val (.ref (w 1)), .unset, .unset, .unset, .unset, .unset, .unset, .unset, .unset] [(.int (255 : Int32)), (.int p2)])) _
    refine XS.iand X1.here hx rfl (hb hby at_11) rfl ?_
    show Steps p.tables e below (T1.setTop (mkF m 12 #[.val (.int p0), .val (.int p1), .val (.int p2), .val (.ref (w 1)), .unset, .unset, .unset, .unset, .unset, .unset, .unset, .unset] [(.int (p2 &&& (255 : Int32)))])) _
    refine XS.i2c X1.here hx rfl (hb hby at_12) rfl ?_
    show Steps p.tables e below (T1.setTop (mkF m 13 #[.val (.int p0), .val (.int p1), .val (.int p2), .val (.ref (w 1)), .unset, .unset, .unset, .unset, .unset, .unset, .unset, .unset] [(.int ((p2 &&& (255 : Int32)).toUInt32.toUInt16.toUInt32.toInt32))])) _
    refine st2 _ ?_
    show Steps p.tables e below (T2.setTop (mkF m 16 #[.val (.int p0), .val (.int p1), .val (.int p2), .val (.ref (w 1)), .unset, .unset, .unset, .unset, .unset, .unset, .unset, .unset] [(.ref b2_0)])) _
    refine XS.astore X2.here hx rfl (hb hby at_16) rfl rfl (l' := #[.val (.int p0), .val (.int p1), .val (.int p2), .val (.ref (w 1)), .val (.ref b2_0), .unset, .unset, .unset, .unset, .unset, .unset, .unset]) rfl ?_
    show Steps p.tables e below (T2.setTop (mkF m 18 #[.val (.int p0), .val (.int p1), .val (.int p2), .val (.ref (w 1)), .val (.ref b2_0), .unset, .unset, .unset, .unset, .unset, .unset, .unset] [])) _
    refine st3 _ ?_
    show Steps p.tables e below (T3.setTop (mkF m 21 #[.val (.int p0), .val (.int p1), .val (.int p2), .val (.ref (w 1)), .val (.ref b2_0), .unset, .unset, .unset, .unset, .unset, .unset, .unset] [(.ref b3)])) _
    refine XS.dup X3.here hx rfl (hb hby at_21) rfl rfl ?_
    show Steps p.tables e below (T3.setTop (mkF m 22 #[.val (.int p0), .val (.int p1), .val (.int p2), .val (.ref (w 1)), .val (.ref b2_0), .unset, .unset, .unset, .unset, .unset, .unset, .unset] [(.ref b3), (.ref b3)])) _
    refine XS.aload X3.here hx rfl (hb hby at_22) rfl rfl ?_
    show Steps p.tables e below (T3.setTop (mkF m 24 #[.val (.int p0), .val (.int p1), .val (.int p2), .val (.ref (w 1)), .val (.ref b2_0), .unset, .unset, .unset, .unset, .unset, .unset, .unset] [(.ref b2_0), (.ref b3), (.ref b3)])) _
    refine XS.aloadN X3.here hx rfl (hb hby at_24) rfl rfl ?_
    show Steps p.tables e below (T3.setTop (mkF m 25 #[.val (.int p0), .val (.int p1), .val (.int p2), .val (.ref (w 1)), .val (.ref b2_0), .unset, .unset, .unset, .unset, .unset, .unset, .unset] [(.ref (w 1)), (.ref b2_0), (.ref b3), (.ref b3)])) _
    refine XS.aconstNull X3.here hx rfl (hb hby at_25) ?_
    show Steps p.tables e below (T3.setTop (mkF m 26 #[.val (.int p0), .val (.int p1), .val (.int p2), .val (.ref (w 1)), .val (.ref b2_0), .unset, .unset, .unset, .unset, .unset, .unset, .unset] [.null, (.ref (w 1)), (.ref b2_0), (.ref b3), (.ref b3)])) _
    refine st4.trans ?_
    show Steps p.tables e below (T4.setTop (mkF m 29 #[.val (.int p0), .val (.int p1), .val (.int p2), .val (.ref (w 1)), .val (.ref b2_0), .unset, .unset, .unset, .unset, .unset, .unset, .unset] [(.ref b3)])) _
    refine XS.astore X4.here hx rfl (hb hby at_29) rfl rfl (l' := #[.val (.int p0), .val (.int p1), .val (.int p2), .val (.ref (w 1)), .val (.ref b2_0), .val (.ref b3), .unset, .unset, .unset, .unset, .unset, .unset]) rfl ?_
    show Steps p.tables e below (T4.setTop (mkF m 31 #[.val (.int p0), .val (.int p1), .val (.int p2), .val (.ref (w 1)), .val (.ref b2_0), .val (.ref b3), .unset, .unset, .unset, .unset, .unset, .unset] [])) _
    refine XS.aload X4.here hx rfl (hb hby at_31) rfl rfl ?_
    show Steps p.tables e below (T4.setTop (mkF m 33 #[.val (.int p0), .val (.int p1), .val (.int p2), .val (.ref (w 1)), .val (.ref b2_0), .val (.ref b3), .unset, .unset, .unset, .unset, .unset, .unset] [(.ref b3)])) _
    refine st5.trans ?_
    show Steps p.tables e below (T5.setTop (mkF m 36 #[.val (.int p0), .val (.int p1), .val (.int p2), .val (.ref (w 1)), .val (.ref b2_0), .val (.ref b3), .unset, .unset, .unset, .unset, .unset, .unset] [(.int (0 : Int32))])) _
    refine XS.istore X5.here hx rfl (hb hby at_36) rfl (l' := #[.val (.int p0), .val (.int p1), .val (.int p2), .val (.ref (w 1)), .val (.ref b2_0), .val (.ref b3), .val (.int (0 : Int32)), .unset, .unset, .unset, .unset, .unset]) rfl ?_
    show Steps p.tables e below (T5.setTop (mkF m 38 #[.val (.int p0), .val (.int p1), .val (.int p2), .val (.ref (w 1)), .val (.ref b2_0), .val (.ref b3), .val (.int (0 : Int32)), .unset, .unset, .unset, .unset, .unset] [])) _
    refine XS.iloadN X5.here hx rfl (hb hby at_38) rfl ?_
    show Steps p.tables e below (T5.setTop (mkF m 39 #[.val (.int p0), .val (.int p1), .val (.int p2), .val (.ref (w 1)), .val (.ref b2_0), .val (.ref b3), .val (.int (0 : Int32)), .unset, .unset, .unset, .unset, .unset] [(.int p0)])) _
    refine XS.iconst X5.here hx rfl (hb hby at_39) ?_
    show Steps p.tables e below (T5.setTop (mkF m 40 #[.val (.int p0), .val (.int p1), .val (.int p2), .val (.ref (w 1)), .val (.ref b2_0), .val (.ref b3), .val (.int (0 : Int32)), .unset, .unset, .unset, .unset, .unset] [(.int (1 : Int32)), (.int p0)])) _
    refine XS.iand X5.here hx rfl (hb hby at_40) rfl ?_
    show Steps p.tables e below (T5.setTop (mkF m 41 #[.val (.int p0), .val (.int p1), .val (.int p2), .val (.ref (w 1)), .val (.ref b2_0), .val (.ref b3), .val (.int (0 : Int32)), .unset, .unset, .unset, .unset, .unset] [(.int (p0 &&& (1 : Int32)))])) _
    rw [hp2]
    show Steps p.tables e below (T5.setTop (mkF m 41 #[.val (.int p0), .val (.int p1), .val (.int p2), .val (.ref (w 1)), .val (.ref b2_0), .val (.ref b3), .val (.int (0 : Int32)), .unset, .unset, .unset, .unset, .unset] [(.int (0 : Int32))])) _
    refine XS.ifYes X5.here hx rfl (pc0 := 41) (pc' := 48) rfl (hb hby at_41) rfl ((if0 _ _).trans (teq (by decide : (0 : Int32) = (0 : Int32))).1) (by decide) (by decide) ?_
    show Steps p.tables e below (T5.setTop (mkF m 48 #[.val (.int p0), .val (.int p1), .val (.int p2), .val (.ref (w 1)), .val (.ref b2_0), .val (.ref b3), .val (.int (0 : Int32)), .unset, .unset, .unset, .unset, .unset] [])) _
    refine XS.iconst X5.here hx rfl (hb hby at_48) ?_
    show Steps p.tables e below (T5.setTop (mkF m 49 #[.val (.int p0), .val (.int p1), .val (.int p2), .val (.ref (w 1)), .val (.ref b2_0), .val (.ref b3), .val (.int (0 : Int32)), .unset, .unset, .unset, .unset, .unset] [(.int (0 : Int32))])) _
    refine XS.istore X5.here hx rfl (hb hby at_49) rfl (l' := #[.val (.int p0), .val (.int p1), .val (.int p2), .val (.ref (w 1)), .val (.ref b2_0), .val (.ref b3), .val (.int (0 : Int32)), .val (.int (0 : Int32)), .unset, .unset, .unset, .unset]) rfl ?_
    show Steps p.tables e below (T5.setTop (mkF m 51 #[.val (.int p0), .val (.int p1), .val (.int p2), .val (.ref (w 1)), .val (.ref b2_0), .val (.ref b3), .val (.int (0 : Int32)), .val (.int (0 : Int32)), .unset, .unset, .unset, .unset] [])) _
    refine XS.iloadN X5.here hx rfl (hb hby at_51) rfl ?_
    show Steps p.tables e below (T5.setTop (mkF m 52 #[.val (.int p0), .val (.int p1), .val (.int p2), .val (.ref (w 1)), .val (.ref b2_0), .val (.ref b3), .val (.int (0 : Int32)), .val (.int (0 : Int32)), .unset, .unset, .unset, .unset] [(.int p0)])) _
    refine XS.iconst X5.here hx rfl (hb hby at_52) ?_
    show Steps p.tables e below (T5.setTop (mkF m 53 #[.val (.int p0), .val (.int p1), .val (.int p2), .val (.ref (w 1)), .val (.ref b2_0), .val (.ref b3), .val (.int (0 : Int32)), .val (.int (0 : Int32)), .unset, .unset, .unset, .unset] [(.int (2 : Int32)), (.int p0)])) _
    refine XS.iand X5.here hx rfl (hb hby at_53) rfl ?_
    show Steps p.tables e below (T5.setTop (mkF m 54 #[.val (.int p0), .val (.int p1), .val (.int p2), .val (.ref (w 1)), .val (.ref b2_0), .val (.ref b3), .val (.int (0 : Int32)), .val (.int (0 : Int32)), .unset, .unset, .unset, .unset] [(.int (p0 &&& (2 : Int32)))])) _
    refine XS.ifYes X5.here hx rfl (pc0 := 54) (pc' := 61) rfl (hb hby at_54) rfl ((if0 _ _).trans (teq hp3).1) (by decide) (by decide) ?_
    show Steps p.tables e below (T5.setTop (mkF m 61 #[.val (.int p0), .val (.int p1), .val (.int p2), .val (.ref (w 1)), .val (.ref b2_0), .val (.ref b3), .val (.int (0 : Int32)), .val (.int (0 : Int32)), .unset, .unset, .unset, .unset] [])) _
    refine XS.iconst X5.here hx rfl (hb hby at_61) ?_
    show Steps p.tables e below (T5.setTop (mkF m 62 #[.val (.int p0), .val (.int p1), .val (.int p2), .val (.ref (w 1)), .val (.ref b2_0), .val (.ref b3), .val (.int (0 : Int32)), .val (.int (0 : Int32)), .unset, .unset, .unset, .unset] [(.int (0 : Int32))])) _
    refine XS.istore X5.here hx rfl (hb hby at_62) rfl (l' := #[.val (.int p0), .val (.int p1), .val (.int p2), .val (.ref (w 1)), .val (.ref b2_0), .val (.ref b3), .val (.int (0 : Int32)), .val (.int (0 : Int32)), .val (.int (0 : Int32)), .unset, .unset, .unset]) rfl ?_
    show Steps p.tables e below (T5.setTop (mkF m 64 #[.val (.int p0), .val (.int p1), .val (.int p2), .val (.ref (w 1)), .val (.ref b2_0), .val (.ref b3), .val (.int (0 : Int32)), .val (.int (0 : Int32)), .val (.int (0 : Int32)), .unset, .unset, .unset] [])) _
    refine XS.iload X5.here hx rfl (hb hby at_64) rfl ?_
    show Steps p.tables e below (T5.setTop (mkF m 66 #[.val (.int p0), .val (.int p1), .val (.int p2), .val (.ref (w 1)), .val (.ref b2_0), .val (.ref b3), .val (.int (0 : Int32)), .val (.int (0 : Int32)), .val (.int (0 : Int32)), .unset, .unset, .unset] [(.int (0 : Int32))])) _
    refine XS.ifYes X5.here hx rfl (pc0 := 66) (pc' := 84) rfl (hb hby at_66) rfl ((if0 _ _).trans (teq (by decide : (0 : Int32) = (0 : Int32))).1) (by decide) (by decide) ?_
    show Steps p.tables e below (T5.setTop (mkF m 84 #[.val (.int p0), .val (.int p1), .val (.int p2), .val (.ref (w 1)), .val (.ref b2_0), .val (.ref b3), .val (.int (0 : Int32)), .val (.int (0 : Int32)), .val (.int (0 : Int32)), .unset, .unset, .unset] [])) _
    refine XS.aload X5.here hx rfl (hb hby at_84) rfl rfl ?_
    show Steps p.tables e below (T5.setTop (mkF m 86 #[.val (.int p0), .val (.int p1), .val (.int p2), .val (.ref (w 1)), .val (.ref b2_0), .val (.ref b3), .val (.int (0 : Int32)), .val (.int (0 : Int32)), .val (.int (0 : Int32)), .unset, .unset, .unset] [(.ref b3)])) _
    refine st6.trans ?_
    show Steps p.tables e below (T6.setTop (mkF m 89 #[.val (.int p0), .val (.int p1), .val (.int p2), .val (.ref (w 1)), .val (.ref b2_0), .val (.ref b3), .val (.int (0 : Int32)), .val (.int (0 : Int32)), .val (.int (0 : Int32)), .unset, .unset, .unset] [(.int (0 : Int32))])) _
    refine XS.istore X6.here hx rfl (hb hby at_89) rfl (l' := #[.val (.int p0), .val (.int p1), .val (.int p2), .val (.ref (w 1)), .val (.ref b2_0), .val (.ref b3), .val (.int (0 : Int32)), .val (.int (0 : Int32)), .val (.int (0 : Int32)), .val (.int (0 : Int32)), .unset, .unset]) rfl ?_
    show Steps p.tables e below (T6.setTop (mkF m 91 #[.val (.int p0), .val (.int p1), .val (.int p2), .val (.ref (w 1)), .val (.ref b2_0), .val (.ref b3), .val (.int (0 : Int32)), .val (.int (0 : Int32)), .val (.int (0 : Int32)), .val (.int (0 : Int32)), .unset, .unset] [])) _
    refine XS.aload X6.here hx rfl (hb hby at_91) rfl rfl ?_
    show Steps p.tables e below (T6.setTop (mkF m 93 #[.val (.int p0), .val (.int p1), .val (.int p2), .val (.ref (w 1)), .val (.ref b2_0), .val (.ref b3), .val (.int (0 : Int32)), .val (.int (0 : Int32)), .val (.int (0 : Int32)), .val (.int (0 : Int32)), .unset, .unset] [(.ref b3)])) _
    refine st7.trans ?_
    show Steps p.tables e below (T7.setTop (mkF m 96 #[.val (.int p0), .val (.int p1), .val (.int p2), .val (.ref (w 1)), .val (.ref b2_0), .val (.ref b3), .val (.int (0 : Int32)), .val (.int (0 : Int32)), .val (.int (0 : Int32)), .val (.int (0 : Int32)), .unset, .unset] [(.int (0 : Int32))])) _
    refine XS.istore X7.here hx rfl (hb hby at_96) rfl (l' := #[.val (.int p0), .val (.int p1), .val (.int p2), .val (.ref (w 1)), .val (.ref b2_0), .val (.ref b3), .val (.int (0 : Int32)), .val (.int (0 : Int32)), .val (.int (0 : Int32)), .val (.int (0 : Int32)), .val (.int (0 : Int32)), .unset]) rfl ?_
    show Steps p.tables e below (T7.setTop (mkF m 98 #[.val (.int p0), .val (.int p1), .val (.int p2), .val (.ref (w 1)), .val (.ref b2_0), .val (.ref b3), .val (.int (0 : Int32)), .val (.int (0 : Int32)), .val (.int (0 : Int32)), .val (.int (0 : Int32)), .val (.int (0 : Int32)), .unset] [])) _
    refine XS.iload X7.here hx rfl (hb hby at_98) rfl ?_
    show Steps p.tables e below (T7.setTop (mkF m 100 #[.val (.int p0), .val (.int p1), .val (.int p2), .val (.ref (w 1)), .val (.ref b2_0), .val (.ref b3), .val (.int (0 : Int32)), .val (.int (0 : Int32)), .val (.int (0 : Int32)), .val (.int (0 : Int32)), .val (.int (0 : Int32)), .unset] [(.int (0 : Int32))])) _
    refine XS.ifYes X7.here hx rfl (pc0 := 100) (pc' := 111) rfl (hb hby at_100) rfl ((if0 _ _).trans (teq (by decide : (0 : Int32) = (0 : Int32))).1) (by decide) (by decide) ?_
    show Steps p.tables e below (T7.setTop (mkF m 111 #[.val (.int p0), .val (.int p1), .val (.int p2), .val (.ref (w 1)), .val (.ref b2_0), .val (.ref b3), .val (.int (0 : Int32)), .val (.int (0 : Int32)), .val (.int (0 : Int32)), .val (.int (0 : Int32)), .val (.int (0 : Int32)), .unset] [])) _
    refine XS.iconst X7.here hx rfl (hb hby at_111) ?_
    show Steps p.tables e below (T7.setTop (mkF m 112 #[.val (.int p0), .val (.int p1), .val (.int p2), .val (.ref (w 1)), .val (.ref b2_0), .val (.ref b3), .val (.int (0 : Int32)), .val (.int (0 : Int32)), .val (.int (0 : Int32)), .val (.int (0 : Int32)), .val (.int (0 : Int32)), .unset] [(.int (0 : Int32))])) _
    refine XS.istore X7.here hx rfl (hb hby at_112) rfl (l' := #[.val (.int p0), .val (.int p1), .val (.int p2), .val (.ref (w 1)), .val (.ref b2_0), .val (.ref b3), .val (.int (0 : Int32)), .val (.int (0 : Int32)), .val (.int (0 : Int32)), .val (.int (0 : Int32)), .val (.int (0 : Int32)), .val (.int (0 : Int32))]) rfl ?_
    show Steps p.tables e below (T7.setTop (mkF m 114 #[.val (.int p0), .val (.int p1), .val (.int p2), .val (.ref (w 1)), .val (.ref b2_0), .val (.ref b3), .val (.int (0 : Int32)), .val (.int (0 : Int32)), .val (.int (0 : Int32)), .val (.int (0 : Int32)), .val (.int (0 : Int32)), .val (.int (0 : Int32))] [])) _
    refine XS.iload X7.here hx rfl (hb hby at_114) rfl ?_
    show Steps p.tables e below (T7.setTop (mkF m 116 #[.val (.int p0), .val (.int p1), .val (.int p2), .val (.ref (w 1)), .val (.ref b2_0), .val (.ref b3), .val (.int (0 : Int32)), .val (.int (0 : Int32)), .val (.int (0 : Int32)), .val (.int (0 : Int32)), .val (.int (0 : Int32)), .val (.int (0 : Int32))] [(.int (0 : Int32))])) _
    refine XS.ifNo X7.here hx rfl (hb hby at_116) rfl ((if0 _ _).trans (teq (by decide : (0 : Int32) = (0 : Int32))).2) ?_
    show Steps p.tables e below (T7.setTop (mkF m 119 #[.val (.int p0), .val (.int p1), .val (.int p2), .val (.ref (w 1)), .val (.ref b2_0), .val (.ref b3), .val (.int (0 : Int32)), .val (.int (0 : Int32)), .val (.int (0 : Int32)), .val (.int (0 : Int32)), .val (.int (0 : Int32)), .val (.int (0 : Int32))] [])) _
    refine XS.iload X7.here hx rfl (hb hby at_119) rfl ?_
    show Steps p.tables e below (T7.setTop (mkF m 121 #[.val (.int p0), .val (.int p1), .val (.int p2), .val (.ref (w 1)), .val (.ref b2_0), .val (.ref b3), .val (.int (0 : Int32)), .val (.int (0 : Int32)), .val (.int (0 : Int32)), .val (.int (0 : Int32)), .val (.int (0 : Int32)), .val (.int (0 : Int32))] [(.int (0 : Int32))])) _
    refine XS.iload X7.here hx rfl (hb hby at_121) rfl ?_
    show Steps p.tables e below (T7.setTop (mkF m 123 #[.val (.int p0), .val (.int p1), .val (.int p2), .val (.ref (w 1)), .val (.ref b2_0), .val (.ref b3), .val (.int (0 : Int32)), .val (.int (0 : Int32)), .val (.int (0 : Int32)), .val (.int (0 : Int32)), .val (.int (0 : Int32)), .val (.int (0 : Int32))] [(.int (0 : Int32)), (.int (0 : Int32))])) _
    refine XS.icmpNo X7.here hx rfl (hb hby at_123) rfl (teq (by decide : (0 : Int32) = (0 : Int32))).2 ?_
    show Steps p.tables e below (T7.setTop (mkF m 126 #[.val (.int p0), .val (.int p1), .val (.int p2), .val (.ref (w 1)), .val (.ref b2_0), .val (.ref b3), .val (.int (0 : Int32)), .val (.int (0 : Int32)), .val (.int (0 : Int32)), .val (.int (0 : Int32)), .val (.int (0 : Int32)), .val (.int (0 : Int32))] [])) _
    refine XS.iload X7.here hx rfl (hb hby at_126) rfl ?_
    show Steps p.tables e below (T7.setTop (mkF m 128 #[.val (.int p0), .val (.int p1), .val (.int p2), .val (.ref (w 1)), .val (.ref b2_0), .val (.ref b3), .val (.int (0 : Int32)), .val (.int (0 : Int32)), .val (.int (0 : Int32)), .val (.int (0 : Int32)), .val (.int (0 : Int32)), .val (.int (0 : Int32))] [(.int (0 : Int32))])) _
    refine XS.iload X7.here hx rfl (hb hby at_128) rfl ?_
    show Steps p.tables e below (T7.setTop (mkF m 130 #[.val (.int p0), .val (.int p1), .val (.int p2), .val (.ref (w 1)), .val (.ref b2_0), .val (.ref b3), .val (.int (0 : Int32)), .val (.int (0 : Int32)), .val (.int (0 : Int32)), .val (.int (0 : Int32)), .val (.int (0 : Int32)), .val (.int (0 : Int32))] [(.int (0 : Int32)), (.int (0 : Int32))])) _
    refine XS.icmpNo X7.here hx rfl (hb hby at_130) rfl (teq (by decide : (0 : Int32) = (0 : Int32))).2 ?_
    show Steps p.tables e below (T7.setTop (mkF m 133 #[.val (.int p0), .val (.int p1), .val (.int p2), .val (.ref (w 1)), .val (.ref b2_0), .val (.ref b3), .val (.int (0 : Int32)), .val (.int (0 : Int32)), .val (.int (0 : Int32)), .val (.int (0 : Int32)), .val (.int (0 : Int32)), .val (.int (0 : Int32))] [])) _
    refine XS.iconst X7.here hx rfl (hb hby at_133) ?_
    show Steps p.tables e below (T7.setTop (mkF m 134 #[.val (.int p0), .val (.int p1), .val (.int p2), .val (.ref (w 1)), .val (.ref b2_0), .val (.ref b3), .val (.int (0 : Int32)), .val (.int (0 : Int32)), .val (.int (0 : Int32)), .val (.int (0 : Int32)), .val (.int (0 : Int32)), .val (.int (0 : Int32))] [(.int (1 : Int32))])) _
    refine XS.goto X7.here hx rfl (pc0 := 134) (pc' := 138) rfl (hb hby at_134) (by decide) (by decide) ?_
    show Steps p.tables e below (T7.setTop (mkF m 138 #[.val (.int p0), .val (.int p1), .val (.int p2), .val (.ref (w 1)), .val (.ref b2_0), .val (.ref b3), .val (.int (0 : Int32)), .val (.int (0 : Int32)), .val (.int (0 : Int32)), .val (.int (0 : Int32)), .val (.int (0 : Int32)), .val (.int (0 : Int32))] [(.int (1 : Int32))])) _
    exact retN X7 hx (t := .boolean) Bd.returns (by simp) (hb hby at_138) hr
  · show OL (some (.int (1 : Int32))) Z.heap.size _ T7.heap _
    exact ⟨rfl, N7⟩
set_option maxRecDepth 65536 in
set_option maxHeartbeats 40000000 in
theorem law_29 (l : Launch) (Z : State) (a0 : Array Value) (hw : ∀ d ∈ tables_1, d.before a0 Z = true) (w : Nat → Addr) (kk : Nat → ClassId) (iw : Nat → Int32) (vw : Nat → Value) (hN : Wd Z w kk iw vw) (ws : List Jvm.Cond) (p0 : Int32) (p1 : Int32) (p2 : Int32) (h0 : Heap) (O0 : Old Z Z.heap.size h0) (hp0 : (p1 &&& (3 : Int32)) = (2 : Int32)) (hp1 : ¬ ((255 : Int32) < ((p2 &&& (255 : Int32)).toUInt32.toUInt16.toUInt32.toInt32))) (hp2 : (p0 &&& (1 : Int32)) = (0 : Int32)) (hp3 : ¬ ((p0 &&& (2 : Int32)) = (0 : Int32))) :
    MetFree l x (head1 (Jvm.Cond.code x code maxLocals ret :: ws) room_1) (fun a U => a = #[(.int p0), (.int p1), (.int p2)] ∧ Z.Warmed39 U.vm ∧ U.heap = h0) (fun _ _ _ _ _ => True) (fun _ U o U' => ∃ v L, o = .returned v ∧ OL (some (.int (1 : Int32))) Z.heap.size v U'.heap L ∧ FrameEnd U o U' L 16 128) := by
  have hN' := hN
  obtain ⟨hS0, hE0, hS1, hE1, hS2, hE2, hI0, hJ0, hR0, hRr0⟩ := hN'
  refine MetFree.of_bodySF (plainFor_of_name pn_0) hisR ?_
  intro p e s m args below meth c s₁ Bd hml0 hP hK
  obtain ⟨rfl, hZ, hh⟩ := hP
  have hx := Bd.exec
  have hby := Bd.bytes
  have hml : c.maxLocals = 12 := hml0
  have hown : s.vm.findClass "com/example/netloom/netloom/xml/OpenAnnotationsCarriesGraphicsPinLaw" = some m.cls := findClass_of_methodNamed Bd.named
  have hnm := (name_of_methodNamed Bd.named Bd.method).1
  have X0 : Stand p l e room_1 s m #[(.int p0), (.int p1), (.int p2)] below meth c s₁ [] 0 0 := Stand.of_body Bd
  have e0 : s₁.heap = h0 := by rw [← hh, Bd.state]; rfl
  have N0 := Fr.nil Z.heap.size
  have pre0 : ∀ t, Steps p.tables e below (s₁.setTop (mkF m 0 #[.val (.int p0), .val (.int p1), .val (.int p2), .unset, .unset, .unset, .unset, .unset, .unset, .unset, .unset, .unset] [])) t → Steps p.tables e below (s₁.setTop (entryFrame m #[(.int p0), (.int p1), (.int p2)] maxLocals)) t := fun t k => castTop (ef_4 m (.int p0) rfl (.int p1) rfl (.int p2) rfl) k
  obtain ⟨_, _, ⟨T1, L1, k1, n1⟩, -, X1, ⟨Lc1, hQ1, l1, y1, z1⟩, st1⟩ := Jvm.LawKit.callS X0 hx (y := (⟨"com/example/netloom/netloom/xml/OpenAnnotationsCarriesGraphicsPinLaw", "pick", "(I)Lcom/example/netloom/netloom/xml/XmlGraphics$Form;"⟩ : MethodName)) hown (mvT hZ (W hw 0 rfl)) (mvT hZ (W hw 1 rfl)) (mvT hZ (W hw 2 rfl)) (mvT hZ (W hw 3 rfl)) (by decide) (backOf (W := 0) (rm_25 l Z a0 hw w kk iw vw hN [] h0 O0) hZ (W hw 3 rfl) (W hw 2 rfl) (by decide) (by decide)) (g := (mkF m 3 #[.val (.int p0), .val (.int p1), .val (.int p2), .unset, .unset, .unset, .unset, .unset, .unset, .unset, .unset, .unset] [(.int (2 : Int32))])) rfl (by rw [hml]; rfl) (argsL := [(.int (2 : Int32))]) (rest := []) (lenOf pd_0 rfl) rfl (by show 2 * 0 + _ ≤ _; exact Nat.le_of_eq rfl) (hb hby at_3) (fun _ _ => ⟨rfl, e0, (by decide : 0 + 0 ≤ _), (by decide : 0 + 0 ≤ _)⟩)
  dsimp only [Pt.U, Pt.locs, Pt.cells, Pt.slots] at X1 l1 y1 z1 st1 hQ1
  subst l1 y1 z1
  obtain ⟨rfl, N1q, e1⟩ := hQ1
  have N1 := Fr.app N0 N1q
  obtain ⟨_, _, ⟨T2, L2, k2, n2⟩, -, X2, ⟨Lc2, hQ2, l2, y2, z2⟩, st2⟩ := Jvm.LawKit.callS X1 hx (y := (⟨"java/lang/String", "valueOf", "(C)Ljava/lang/String;"⟩ : MethodName)) hown (mvT hZ (W hw 7 rfl)) (mvT hZ (W hw 8 rfl)) (mvT hZ (W hw 9 rfl)) (mvT hZ (W hw 10 rfl)) (by decide) (backOf (W := 0) (rm_5 l Z a0 hw w kk iw vw hN [] ((p2 &&& (255 : Int32)).toUInt32.toUInt16.toUInt32.toInt32) h0 O0 hp1) hZ (W hw 10 rfl) (W hw 9 rfl) (by decide) (by decide)) (g := (mkF m 13 #[.val (.int p0), .val (.int p1), .val (.int p2), .val (.ref (w 1)), .unset, .unset, .unset, .unset, .unset, .unset, .unset, .unset] [(.int ((p2 &&& (255 : Int32)).toUInt32.toUInt16.toUInt32.toInt32))])) rfl (by rw [hml]; rfl) (argsL := [(.int ((p2 &&& (255 : Int32)).toUInt32.toUInt16.toUInt32.toInt32))]) (rest := []) (lenOf pd_4 rfl) rfl (by show 2 * 0 + _ ≤ _; exact Nat.le_of_eq rfl) (hb hby at_13) (fun _ _ => ⟨rfl, e1, (by decide : 0 + 2 ≤ _), (by decide : 0 + 5 ≤ _)⟩)
  dsimp only [Pt.U, Pt.locs, Pt.cells, Pt.slots] at X2 l2 y2 z2 st2 hQ2
  subst l2 y2 z2
  obtain ⟨b2_0, b2_1, kb2_0, rfl, N2q, Kq2, tk2_0, tk2_1, tk2_2, tk2_3, tk2_4, tk2_5, tk2_6⟩ := hQ2
  have N2 := Fr.app N1 N2q
  have gn_b2_0 : Z.heap.size ≤ b2_0 := Nat.le_trans O0.2.1 tk2_0
  have gn_b2_1 : Z.heap.size ≤ b2_1 := Nat.le_trans O0.2.1 tk2_1
  have O2 := O0.keep Kq2 all0
  obtain ⟨T3, h3, X3, e3, E3, A3, D3, -, st3⟩ := newO X2 hx hZ hown (W hw 33 rfl) (W hw 34 rfl) (W hw 35 rfl) rfl (g := (mkF m 18 #[.val (.int p0), .val (.int p1), .val (.int p2), .val (.ref (w 1)), .val (.ref b2_0), .unset, .unset, .unset, .unset, .unset, .unset, .unset] [])) rfl (hb hby at_18) (by decide) (by decide)
  obtain ⟨b3, g3⟩ : ∃ z, z = T2.heap.size := ⟨_, rfl⟩
  rw [← g3] at A3 st3 D3
  have gn_b3 : Z.heap.size ≤ b3 := Nat.le_trans O2.2.1 (Nat.le_of_eq g3.symm)
  have ne_b2_1_b3 : b2_1 ≠ b3 := Nat.ne_of_lt (Nat.lt_of_lt_of_le tk2_6.lt (Nat.le_of_eq g3.symm))
  have ne_b2_0_b3 : b2_0 ≠ b3 := Nat.ne_of_lt (Nat.lt_of_lt_of_le tk2_3.lt (Nat.le_of_eq g3.symm))
  have tk2_3_v3 := tk2_3.ext E3
  have tk2_4_v3 := tk2_4.ext E3
  have tk2_5_v3 := tk2_5.ext E3
  have tk2_6_v3 := tk2_6.ext E3
  have O3 := O2.ext E3
  have E_b3_v3 := A3
  have F_b3_owner_v3 : Fld Z h3 b3 "com/example/netloom/netloom/xml/NetReader$OpenAnnotations" "owner" "Ljava/lang/String;" .null := D3 (Or.inr (W hw 41 rfl)) (ty := (.object "java/lang/String")) (by decide)
  have F_b3_form_v3 : Fld Z h3 b3 "com/example/netloom/netloom/xml/NetReader$OpenAnnotations" "form" "Lcom/example/netloom/netloom/xml/XmlGraphics$Form;" .null := D3 (Or.inr (W hw 43 rfl)) (ty := (.object "com/example/netloom/netloom/xml/XmlGraphics$Form")) (by decide)
  have F_b3_carries_v3 : Fld Z h3 b3 "com/example/netloom/netloom/xml/NetReader$OpenAnnotations" "carries" "Ljava/util/Set;" .null := D3 (Or.inr (W hw 45 rfl)) (ty := (.object "java/util/Set")) (by decide)
  have F_b3_graphicsCarried_v3 : Fld Z h3 b3 "com/example/netloom/netloom/xml/NetReader$OpenAnnotations" "graphicsCarried" "Z" (.int (0 : Int32)) := D3 (Or.inl (W hw 52 rfl)) (ty := .boolean) (by decide)
  have F_b3_graphics_v3 : Fld Z h3 b3 "com/example/netloom/netloom/xml/NetReader$OpenAnnotations" "graphics" "Lcom/example/netloom/netloom/net/Graphics;" .null := D3 (Or.inl (W hw 59 rfl)) (ty := (.object "com/example/netloom/netloom/net/Graphics")) (by decide)
  obtain ⟨_, _, ⟨T4, L4, k4, n4⟩, -, X4, ⟨Lc4, hQ4, l4, y4, z4⟩, st4⟩ := X3.specialBack hx (y := (⟨"com/example/netloom/netloom/xml/NetReader$OpenAnnotations", "<init>", "(Ljava/lang/String;Lcom/example/netloom/netloom/xml/XmlGraphics$Form;Ljava/util/Set;)V"⟩ : MethodName)) rfl hown (mvT hZ (W hw 36 rfl)) (mvT hZ (W hw 37 rfl)) (mvT hZ (W hw 38 rfl)) (by decide) (backOf (W := 1) (rm_26 l Z a0 hw w kk iw vw hN [] b3 b2_0 b2_1 ((((p2 &&& (255 : Int32)).toUInt32.toUInt16.toUInt32.toInt32).toInt8.toInt32).toInt8.toInt32) kb2_0 h3 O3 gn_b3 E_b3_v3.lt gn_b2_0 tk2_3_v3.lt E_b3_v3 F_b3_owner_v3 F_b3_form_v3 F_b3_carries_v3 F_b3_graphicsCarried_v3 F_b3_graphics_v3 tk2_3_v3 gn_b2_1 tk2_6_v3.lt tk2_4_v3 tk2_5_v3 tk2_6_v3 (Ne.symm ne_b2_0_b3) (Ne.symm ne_b2_1_b3) tk2_2) hZ (W hw 38 rfl) (W hw 35 rfl) (by decide) (by decide)) (g := (mkF m 26 #[.val (.int p0), .val (.int p1), .val (.int p2), .val (.ref (w 1)), .val (.ref b2_0), .unset, .unset, .unset, .unset, .unset, .unset, .unset] [.null, (.ref (w 1)), (.ref b2_0), (.ref b3), (.ref b3)])) rfl (by rw [hml]; rfl) (Steps.refl _) (a := b3) (argsL := [(.ref b2_0), (.ref (w 1)), .null]) (rest := [(.ref b3)]) (lenOf pd_5 rfl) rfl (by show 2 * 0 + _ ≤ _; exact Nat.le_of_eq rfl) (hb hby at_26) (fun _ _ => ⟨rfl, e3, (by decide : 3 + 0 ≤ _), (by decide : 16 + 0 ≤ _)⟩)
  dsimp only [Pt.U, Pt.locs, Pt.cells, Pt.slots] at X4 l4 y4 z4 st4 hQ4
  subst l4 y4 z4
  obtain ⟨rfl, N4q, Kq4, tk4_0, tk4_1, tk4_2, tk4_3, tk4_4, tk4_5⟩ := hQ4
  have N4 := Fr.app N2 N4q
  have tk2_3_v4 := tk2_3_v3.keep Kq4
  have tk2_4_v4 := tk2_4_v3.keep Kq4 (ninS ne_b2_0_b3 nin0)
  have tk2_5_v4 := tk2_5_v3.keep Kq4 (ninS ne_b2_0_b3 nin0)
  have tk2_6_v4 := tk2_6_v3.keep Kq4 (ninS ne_b2_1_b3 nin0)
  have E_b3_v4 := E_b3_v3.keep Kq4
  have O4 := O3.keep Kq4 (allS gn_b3 all0)
  obtain ⟨cq5, kq5, q5a, q5b, q5c⟩ := isOf hZ rfl tk4_0
  obtain ⟨_, _, ⟨T5, L5, k5, n5⟩, -, X5, ⟨Lc5, hQ5, l5, y5, z5⟩, st5⟩ := X4.virtualBack hx (y := (⟨"com/example/netloom/netloom/xml/NetReader$OpenAnnotations", "carriesGraphics", "()Z"⟩ : MethodName)) (z := (⟨"com/example/netloom/netloom/xml/NetReader$OpenAnnotations", "carriesGraphics", "()Z"⟩ : MethodName)) hown (mvT hZ (W hw 46 rfl)) (mvT hZ (W hw 47 rfl)) (notFace_of_selects (args := #[]) (mvT hZ (W hw 49 rfl))) (mvT hZ (W hw 49 rfl)) (mvT hZ (W hw 48 rfl)) (by decide) (backOf (W := 0) (rm_27 l Z a0 hw w kk iw vw hN [] b3 b2_0 b2_1 ((((p2 &&& (255 : Int32)).toUInt32.toUInt16.toUInt32.toInt32).toInt8.toInt32).toInt8.toInt32) kb2_0 T4.heap O4 gn_b3 tk4_0.lt tk4_0 gn_b2_0 tk2_3_v4.lt tk4_1 tk4_2 tk4_3 tk4_4 tk4_5 tk2_3_v4 gn_b2_1 tk2_6_v4.lt tk2_4_v4 tk2_5_v4 tk2_6_v4 (Ne.symm ne_b2_0_b3) (Ne.symm ne_b2_1_b3) tk2_2) hZ (W hw 50 rfl) (W hw 35 rfl) (by decide) (by decide)) q5a q5c (g := (mkF m 33 #[.val (.int p0), .val (.int p1), .val (.int p2), .val (.ref (w 1)), .val (.ref b2_0), .val (.ref b3), .unset, .unset, .unset, .unset, .unset, .unset] [(.ref b3)])) rfl (by rw [hml]; rfl) (Steps.refl _) (argsL := []) (rest := []) (lenOf pd_6 rfl) rfl (by show 2 * 0 + _ ≤ _; exact Nat.le_of_eq rfl) (hb hby at_33) (fun _ _ => ⟨rfl, rfl, (by decide : 3 + 0 ≤ _), (by decide : 16 + 0 ≤ _)⟩)
  dsimp only [Pt.U, Pt.locs, Pt.cells, Pt.slots] at X5 l5 y5 z5 st5 hQ5
  subst l5 y5 z5
  obtain ⟨rfl, N5q, e5⟩ := hQ5
  have N5 := Fr.app N4 N5q
  obtain ⟨cq6, kq6, q6a, q6b, q6c⟩ := isOf hZ e5 tk4_0
  obtain ⟨_, _, ⟨T6, L6, k6, n6⟩, -, X6, ⟨Lc6, hQ6, l6, y6, z6⟩, st6⟩ := X5.virtualBack hx (y := (⟨"com/example/netloom/netloom/xml/NetReader$OpenAnnotations", "carriesGraphics", "()Z"⟩ : MethodName)) (z := (⟨"com/example/netloom/netloom/xml/NetReader$OpenAnnotations", "carriesGraphics", "()Z"⟩ : MethodName)) hown (mvT hZ (W hw 46 rfl)) (mvT hZ (W hw 47 rfl)) (notFace_of_selects (args := #[]) (mvT hZ (W hw 49 rfl))) (mvT hZ (W hw 49 rfl)) (mvT hZ (W hw 48 rfl)) (by decide) (backOf (W := 0) (rm_27 l Z a0 hw w kk iw vw hN [] b3 b2_0 b2_1 ((((p2 &&& (255 : Int32)).toUInt32.toUInt16.toUInt32.toInt32).toInt8.toInt32).toInt8.toInt32) kb2_0 T4.heap O4 gn_b3 tk4_0.lt tk4_0 gn_b2_0 tk2_3_v4.lt tk4_1 tk4_2 tk4_3 tk4_4 tk4_5 tk2_3_v4 gn_b2_1 tk2_6_v4.lt tk2_4_v4 tk2_5_v4 tk2_6_v4 (Ne.symm ne_b2_0_b3) (Ne.symm ne_b2_1_b3) tk2_2) hZ (W hw 50 rfl) (W hw 35 rfl) (by decide) (by decide)) q6a q6c (g := (mkF m 86 #[.val (.int p0), .val (.int p1), .val (.int p2), .val (.ref (w 1)), .val (.ref b2_0), .val (.ref b3), .val (.int (0 : Int32)), .val (.int (0 : Int32)), .val (.int (1 : Int32)), .unset, .unset, .unset] [(.ref b3)])) rfl (by rw [hml]; rfl) (Steps.refl _) (argsL := []) (rest := []) (lenOf pd_6 rfl) rfl (by show 2 * 0 + _ ≤ _; exact Nat.le_of_eq rfl) (hb hby at_86) (fun _ _ => ⟨rfl, e5, (by decide : 3 + 0 ≤ _), (by decide : 16 + 0 ≤ _)⟩)
  dsimp only [Pt.U, Pt.locs, Pt.cells, Pt.slots] at X6 l6 y6 z6 st6 hQ6
  subst l6 y6 z6
  obtain ⟨rfl, N6q, e6⟩ := hQ6
  have N6 := Fr.app N5 N6q
  obtain ⟨cq7, kq7, q7a, q7b, q7c⟩ := isOf hZ e6 tk4_0
  obtain ⟨_, _, ⟨T7, L7, k7, n7⟩, -, X7, ⟨Lc7, hQ7, l7, y7, z7⟩, st7⟩ := X6.virtualBack hx (y := (⟨"com/example/netloom/netloom/xml/NetReader$OpenAnnotations", "carriesGraphics", "()Z"⟩ : MethodName)) (z := (⟨"com/example/netloom/netloom/xml/NetReader$OpenAnnotations", "carriesGraphics", "()Z"⟩ : MethodName)) hown (mvT hZ (W hw 46 rfl)) (mvT hZ (W hw 47 rfl)) (notFace_of_selects (args := #[]) (mvT hZ (W hw 49 rfl))) (mvT hZ (W hw 49 rfl)) (mvT hZ (W hw 48 rfl)) (by decide) (backOf (W := 0) (rm_27 l Z a0 hw w kk iw vw hN [] b3 b2_0 b2_1 ((((p2 &&& (255 : Int32)).toUInt32.toUInt16.toUInt32.toInt32).toInt8.toInt32).toInt8.toInt32) kb2_0 T4.heap O4 gn_b3 tk4_0.lt tk4_0 gn_b2_0 tk2_3_v4.lt tk4_1 tk4_2 tk4_3 tk4_4 tk4_5 tk2_3_v4 gn_b2_1 tk2_6_v4.lt tk2_4_v4 tk2_5_v4 tk2_6_v4 (Ne.symm ne_b2_0_b3) (Ne.symm ne_b2_1_b3) tk2_2) hZ (W hw 50 rfl) (W hw 35 rfl) (by decide) (by decide)) q7a q7c (g := (mkF m 93 #[.val (.int p0), .val (.int p1), .val (.int p2), .val (.ref (w 1)), .val (.ref b2_0), .val (.ref b3), .val (.int (0 : Int32)), .val (.int (0 : Int32)), .val (.int (1 : Int32)), .val (.int (0 : Int32)), .unset, .unset] [(.ref b3)])) rfl (by rw [hml]; rfl) (Steps.refl _) (argsL := []) (rest := []) (lenOf pd_6 rfl) rfl (by show 2 * 0 + _ ≤ _; exact Nat.le_of_eq rfl) (hb hby at_93) (fun _ _ => ⟨rfl, e6, (by decide : 3 + 0 ≤ _), (by decide : 16 + 0 ≤ _)⟩)
  dsimp only [Pt.U, Pt.locs, Pt.cells, Pt.slots] at X7 l7 y7 z7 st7 hQ7
  subst l7 y7 z7
  obtain ⟨rfl, N7q, e7⟩ := hQ7
  have N7 := Fr.app N6 N7q
  obtain ⟨fs, hr, hrun, hended, hW, hsame⟩ := X7.leave (v := some (.int (1 : Int32))) (fun h => by rw [Bd.returns] at h; cases h)
  refine ⟨_, _, pre0 _ ?_, hrun, hended, _, _, rfl, ?_, ⟨_, rfl⟩, hW, hsame.mono (by decide) (by decide)⟩
  · show Steps p.tables e below (s₁.setTop (mkF m 0 #[.val (.int p0), .val (.int p1), .val (.int p2), .unset, .unset, .unset, .unset, .unset, .unset, .unset, .unset, .unset] [])) _
    refine XS.iloadN X0.here hx rfl (hb hby at_0) rfl ?_
    show Steps p.tables e below (s₁.setTop (mkF m 1 #[.val (.int p0), .val (.int p1), .val (.int p2), .unset, .unset, .unset, .unset, .unset, .unset, .unset, .unset, .unset] [(.int p1)])) _
    refine XS.iconst X0.here hx rfl (hb hby at_1) ?_
    show Steps p.tables e below (s₁.setTop (mkF m 2 #[.val (.int p0), .val (.int p1), .val (.int p2), .unset, .unset, .unset, .unset, .unset, .unset, .unset, .unset, .unset] [(.int (3 : Int32)), (.int p1)])) _
    refine XS.iand X0.here hx rfl (hb hby at_2) rfl ?_
    show Steps p.tables e below (s₁.setTop (mkF m 3 #[.val (.int p0), .val (.int p1), .val (.int p2), .unset, .unset, .unset, .unset, .unset, .unset, .unset, .unset, .unset] [(.int (p1 &&& (3 : Int32)))])) _
    rw [hp0]
    show Steps p.tables e below (s₁.setTop (mkF m 3 #[.val (.int p0), .val (.int p1), .val (.int p2), .unset, .unset, .unset, .unset, .unset, .unset, .unset, .unset, .unset] [(.int (2 : Int32))])) _
    refine st1 _ ?_
    show Steps p.tables e below (T1.setTop (mkF m 6 #[.val (.int p0), .val (.int p1), .val (.int p2), .unset, .unset, .unset, .unset, .unset, .unset, .unset, .unset, .unset] [(.ref (w 1))])) _
    refine XS.astoreN X1.here hx rfl (hb hby at_6) rfl rfl (l' := #[.val (.int p0), .val (.int p1), .val (.int p2), .val (.ref (w 1)), .unset, .unset, .unset, .unset, .unset, .unset, .unset, .unset]) rfl ?_
    show Steps p.tables e below (T1.setTop (mkF m 7 #[.val (.int p0), .val (.int p1), .val (.int p2), .val (.ref (w 1)), .unset, .unset, .unset, .unset, .unset, .unset, .unset, .unset] [])) _
    refine XS.iloadN X1.here hx rfl (hb hby at_7) rfl ?_
    show Steps p.tables e below (T1.setTop (mkF m 8 #[.val (.int p0), .val (.int p1), .val (.int p2), .val (.ref (w 1)), .unset, .unset, .unset, .unset, .unset, .unset, .unset, .unset] [(.int p2)])) _
    refine XS.sipush X1.here hx rfl (hb hby at_8) ?_
    show Steps p.tables e below (T1.setTop (mkF m 11 #[.val (.int p0), .val (.int p1), .val (.int p2), .val (.ref (w 1)), .unset, .unset, .unset, .unset, .unset, .unset, .unset, .unset] [(.int (255 : Int32)), (.int p2)])) _
    refine XS.iand X1.here hx rfl (hb hby at_11) rfl ?_
    show Steps p.tables e below (T1.setTop (mkF m 12 #[.val (.int p0), .val (.int p1), .val (.int p2), .val (.ref (w 1)), .unset, .unset, .unset, .unset, .unset, .unset, .unset, .unset] [(.int (p2 &&& (255 : Int32)))])) _
    refine XS.i2c X1.here hx rfl (hb hby at_12) rfl ?_
    show Steps p.tables e below (T1.setTop (mkF m 13 #[.val (.int p0), .val (.int p1), .val (.int p2), .val (.ref (w 1)), .unset, .unset, .unset, .unset, .unset, .unset, .unset, .unset] [(.int ((p2 &&& (255 : Int32)).toUInt32.toUInt16.toUInt32.toInt32))])) _
    refine st2 _ ?_
    show Steps p.tables e below (T2.setTop (mkF m 16 #[.val (.int p0), .val (.int p1), .val (.int p2), .val (.ref (w 1)), .unset, .unset, .unset, .unset, .unset, .unset, .unset, .unset] [(.ref b2_0)])) _
    refine XS.astore X2.here hx rfl (hb hby at_16) rfl rfl (l' := #[.val (.int p0), .val (.int p1), .val (.int p2), .val (.ref (w 1)), .val (.ref b2_0), .unset, .unset, .unset, .unset, .unset, .unset, .unset]) rfl ?_
    show Steps p.tables e below (T2.setTop (mkF m 18 #[.val (.int p0), .val (.int p1), .val (.int p2), .val (.ref (w 1)), .val (.ref b2_0), .unset, .unset, .unset, .unset, .unset, .unset, .unset] [])) _
    refine st3 _ ?_
    show Steps p.tables e below (T3.setTop (mkF m 21 #[.val (.int p0), .val (.int p1), .val (.int p2), .val (.ref (w 1)), .val (.ref b2_0), .unset, .unset, .unset, .unset, .unset, .unset, .unset] [(.ref b3)])) _
    refine XS.dup X3.here hx rfl (hb hby at_21) rfl rfl ?_
    show Steps p.tables e below (T3.setTop (mkF m 22 #[.val (.int p0), .val (.int p1), .val (.int p2), .val (.ref (w 1)), .val (.ref b2_0), .unset, .unset, .unset, .unset, .unset, .unset, .unset] [(.ref b3), (.ref b3)])) _
    refine XS.aload X3.here hx rfl (hb hby at_22) rfl rfl ?_
    show Steps p.tables e below (T3.setTop (mkF m 24 #[.val (.int p0), .val (.int p1), .val (.int p2), .val (.ref (w 1)), .val (.ref b2_0), .unset, .unset, .unset, .unset, .unset, .unset, .unset] [(.ref b2_0), (.ref b3), (.ref b3)])) _
    refine XS.aloadN X3.here hx rfl (hb hby at_24) rfl rfl ?_
    show Steps p.tables e below (T3.setTop (mkF m 25 #[.val (.int p0), .val (.int p1), .val (.int p2), .val (.ref (w 1)), .val (.ref b2_0), .unset, .unset, .unset, .unset, .unset, .unset, .unset] [(.ref (w 1)), (.ref b2_0), (.ref b3), (.ref b3)])) _
    refine XS.aconstNull X3.here hx rfl (hb hby at_25) ?_
    show Steps p.tables e below (T3.setTop (mkF m 26 #[.val (.int p0), .val (.int p1), .val (.int p2), .val (.ref (w 1)), .val (.ref b2_0), .unset, .unset, .unset, .unset, .unset, .unset, .unset] [.null, (.ref (w 1)), (.ref b2_0), (.ref b3), (.ref b3)])) _
    refine st4.trans ?_
    show Steps p.tables e below (T4.setTop (mkF m 29 #[.val (.int p0), .val (.int p1), .val (.int p2), .val (.ref (w 1)), .val (.ref b2_0), .unset, .unset, .unset, .unset, .unset, .unset, .unset] [(.ref b3)])) _
    refine XS.astore X4.here hx rfl (hb hby at_29) rfl rfl (l' := #[.val (.int p0), .val (.int p1), .val (.int p2), .val (.ref (w 1)), .val (.ref b2_0), .val (.ref b3), .unset, .unset, .unset, .unset, .unset, .unset]) rfl ?_
    show Steps p.tables e below (T4.setTop (mkF m 31 #[.val (.int p0), .val (.int p1), .val (.int p2), .val (.ref (w 1)), .val (.ref b2_0), .val (.ref b3), .unset, .unset, .unset, .unset, .unset, .unset] [])) _
    refine XS.aload X4.here hx rfl (hb hby at_31) rfl rfl ?_
    show Steps p.tables e below (T4.setTop (mkF m 33 #[.val (.int p0), .val (.int p1), .val (.int p2), .val (.ref (w 1)), .val (.ref b2_0), .val (.ref b3), .unset, .unset, .unset, .unset, .unset, .unset] [(.ref b3)])) _
    refine st5.trans ?_
    show Steps p.tables e below (T5.setTop (mkF m 36 #[.val (.int p0), .val (.int p1), .val (.int p2), .val (.ref (w 1)), .val (.ref b2_0), .val (.ref b3), .unset, .unset, .unset, .unset, .unset, .unset] [(.int (0 : Int32))])) _
    refine XS.istore X5.here hx rfl (hb hby at_36) rfl (l' := #[.val (.int p0), .val (.int p1), .val (.int p2), .val (.ref (w 1)), .val (.ref b2_0), .val (.ref b3), .val (.int (0 : Int32)), .unset, .unset, .unset, .unset, .unset]) rfl ?_
    show Steps p.tables e below (T5.setTop (mkF m 38 #[.val (.int p0), .val (.int p1), .val (.int p2), .val (.ref (w 1)), .val (.ref b2_0), .val (.ref b3), .val (.int (0 : Int32)), .unset, .unset, .unset, .unset, .unset] [])) _
    refine XS.iloadN X5.here hx rfl (hb hby at_38) rfl ?_
    show Steps p.tables e below (T5.setTop (mkF m 39 #[.val (.int p0), .val (.int p1), .val (.int p2), .val (.ref (w 1)), .val (.ref b2_0), .val (.ref b3), .val (.int (0 : Int32)), .unset, .unset, .unset, .unset, .unset] [(.int p0)])) _
    refine XS.iconst X5.here hx rfl (hb hby at_39) ?_
    show Steps p.tables e below (T5.setTop (mkF m 40 #[.val (.int p0), .val (.int p1), .val (.int p2), .val (.ref (w 1)), .val (.ref b2_0), .val (.ref b3), .val (.int (0 : Int32)), .unset, .unset, .unset, .unset, .unset] [(.int (1 : Int32)), (.int p0)])) _
    refine XS.iand X5.here hx rfl (hb hby at_40) rfl ?_
    show Steps p.tables e below (T5.setTop (mkF m 41 #[.val (.int p0), .val (.int p1), .val (.int p2), .val (.ref (w 1)), .val (.ref b2_0), .val (.ref b3), .val (.int (0 : Int32)), .unset, .unset, .unset, .unset, .unset] [(.int (p0 &&& (1 : Int32)))])) _
    rw [hp2]
    show Steps p.tables e below (T5.setTop (mkF m 41 #[.val (.int p0), .val (.int p1), .val (.int p2), .val (.ref (w 1)), .val (.ref b2_0), .val (.ref b3), .val (.int (0 : Int32)), .unset, .unset, .unset, .unset, .unset] [(.int (0 : Int32))])) _
    refine XS.ifYes X5.here hx rfl (pc0 := 41) (pc' := 48) rfl (hb hby at_41) rfl ((if0 _ _).trans (teq (by decide : (0 : Int32) = (0 : Int32))).1) (by decide) (by decide) ?_
    show Steps p.tables e below (T5.setTop (mkF m 48 #[.val (.int p0), .val (.int p1), .val (.int p2), .val (.ref (w 1)), .val (.ref b2_0), .val (.ref b3), .val (.int (0 : Int32)), .unset, .unset, .unset, .unset, .unset] [])) _
    refine XS.iconst X5.here hx rfl (hb hby at_48) ?_
    show Steps p.tables e below (T5.setTop (mkF m 49 #[.val (.int p0), .val (.int p1), .val (.int p2), .val (.ref (w 1)), .val (.ref b2_0), .val (.ref b3), .val (.int (0 : Int32)), .unset, .unset, .unset, .unset, .unset] [(.int (0 : Int32))])) _
    refine XS.istore X5.here hx rfl (hb hby at_49) rfl (l' := #[.val (.int p0), .val (.int p1), .val (.int p2), .val (.ref (w 1)), .val (.ref b2_0), .val (.ref b3), .val (.int (0 : Int32)), .val (.int (0 : Int32)), .unset, .unset, .unset, .unset]) rfl ?_
    show Steps p.tables e below (T5.setTop (mkF m 51 #[.val (.int p0), .val (.int p1), .val (.int p2), .val (.ref (w 1)), .val (.ref b2_0), .val (.ref b3), .val (.int (0 : Int32)), .val (.int (0 : Int32)), .unset, .unset, .unset, .unset] [])) _
    refine XS.iloadN X5.here hx rfl (hb hby at_51) rfl ?_
    show Steps p.tables e below (T5.setTop (mkF m 52 #[.val (.int p0), .val (.int p1), .val (.int p2), .val (.ref (w 1)), .val (.ref b2_0), .val (.ref b3), .val (.int (0 : Int32)), .val (.int (0 : Int32)), .unset, .unset, .unset, .unset] [(.int p0)])) _
    refine XS.iconst X5.here hx rfl (hb hby at_52) ?_
    show Steps p.tables e below (T5.setTop (mkF m 53 #[.val (.int p0), .val (.int p1), .val (.int p2), .val (.ref (w 1)), .val (.ref b2_0), .val (.ref b3), .val (.int (0 : Int32)), .val (.int (0 : Int32)), .unset, .unset, .unset, .unset] [(.int (2 : Int32)), (.int p0)])) _
    refine XS.iand X5.here hx rfl (hb hby at_53) rfl ?_
    show Steps p.tables e below (T5.setTop (mkF m 54 #[.val (.int p0), .val (.int p1), .val (.int p2), .val (.ref (w 1)), .val (.ref b2_0), .val (.ref b3), .val (.int (0 : Int32)), .val (.int (0 : Int32)), .unset, .unset, .unset, .unset] [(.int (p0 &&& (2 : Int32)))])) _
    refine XS.ifNo X5.here hx rfl (hb hby at_54) rfl ((if0 _ _).trans (feq hp3).1) ?_
    show Steps p.tables e below (T5.setTop (mkF m 57 #[.val (.int p0), .val (.int p1), .val (.int p2), .val (.ref (w 1)), .val (.ref b2_0), .val (.ref b3), .val (.int (0 : Int32)), .val (.int (0 : Int32)), .unset, .unset, .unset, .unset] [])) _
    refine XS.iconst X5.here hx rfl (hb hby at_57) ?_
    show Steps p.tables e below (T5.setTop (mkF m 58 #[.val (.int p0), .val (.int p1), .val (.int p2), .val (.ref (w 1)), .val (.ref b2_0), .val (.ref b3), .val (.int (0 : Int32)), .val (.int (0 : Int32)), .unset, .unset, .unset, .unset] [(.int (1 : Int32))])) _
    refine XS.goto X5.here hx rfl (pc0 := 58) (pc' := 62) rfl (hb hby at_58) (by decide) (by decide) ?_
    show Steps p.tables e below (T5.setTop (mkF m 62 #[.val (.int p0), .val (.int p1), .val (.int p2), .val (.ref (w 1)), .val (.ref b2_0), .val (.ref b3), .val (.int (0 : Int32)), .val (.int (0 : Int32)), .unset, .unset, .unset, .unset] [(.int (1 : Int32))])) _
    refine XS.istore X5.here hx rfl (hb hby at_62) rfl (l' := #[.val (.int p0), .val (.int p1), .val (.int p2), .val (.ref (w 1)), .val (.ref b2_0), .val (.ref b3), .val (.int (0 : Int32)), .val (.int (0 : Int32)), .val (.int (1 : Int32)), .unset, .unset, .unset]) rfl ?_
    show Steps p.tables e below (T5.setTop (mkF m 64 #[.val (.int p0), .val (.int p1), .val (.int p2), .val (.ref (w 1)), .val (.ref b2_0), .val (.ref b3), .val (.int (0 : Int32)), .val (.int (0 : Int32)), .val (.int (1 : Int32)), .unset, .unset, .unset] [])) _
    refine XS.iload X5.here hx rfl (hb hby at_64) rfl ?_
    show Steps p.tables e below (T5.setTop (mkF m 66 #[.val (.int p0), .val (.int p1), .val (.int p2), .val (.ref (w 1)), .val (.ref b2_0), .val (.ref b3), .val (.int (0 : Int32)), .val (.int (0 : Int32)), .val (.int (1 : Int32)), .unset, .unset, .unset] [(.int (0 : Int32))])) _
    refine XS.ifYes X5.here hx rfl (pc0 := 66) (pc' := 84) rfl (hb hby at_66) rfl ((if0 _ _).trans (teq (by decide : (0 : Int32) = (0 : Int32))).1) (by decide) (by decide) ?_
    show Steps p.tables e below (T5.setTop (mkF m 84 #[.val (.int p0), .val (.int p1), .val (.int p2), .val (.ref (w 1)), .val (.ref b2_0), .val (.ref b3), .val (.int (0 : Int32)), .val (.int (0 : Int32)), .val (.int (1 : Int32)), .unset, .unset, .unset] [])) _
    refine XS.aload X5.here hx rfl (hb hby at_84) rfl rfl ?_
    show Steps p.tables e below (T5.setTop (mkF m 86 #[.val (.int p0), .val (.int p1), .val (.int p2), .val (.ref (w 1)), .val (.ref b2_0), .val (.ref b3), .val (.int (0 : Int32)), .val (.int (0 : Int32)), .val (.int (1 : Int32)), .unset, .unset, .unset] [(.ref b3)])) _
    refine st6.trans ?_
    show Steps p.tables e below (T6.setTop (mkF m 89 #[.val (.int p0), .val (.int p1), .val (.int p2), .val (.ref (w 1)), .val (.ref b2_0), .val (.ref b3), .val (.int (0 : Int32)), .val (.int (0 : Int32)), .val (.int (1 : Int32)), .unset, .unset, .unset] [(.int (0 : Int32))])) _
    refine XS.istore X6.here hx rfl (hb hby at_89) rfl (l' := #[.val (.int p0), .val (.int p1), .val (.int p2), .val (.ref (w 1)), .val (.ref b2_0), .val (.ref b3), .val (.int (0 : Int32)), .val (.int (0 : Int32)), .val (.int (1 : Int32)), .val (.int (0 : Int32)), .unset, .unset]) rfl ?_
    show Steps p.tables e below (T6.setTop (mkF m 91 #[.val (.int p0), .val (.int p1), .val (.int p2), .val (.ref (w 1)), .val (.ref b2_0), .val (.ref b3), .val (.int (0 : Int32)), .val (.int (0 : Int32)), .val (.int (1 : Int32)), .val (.int (0 : Int32)), .unset, .unset] [])) _
    refine XS.aload X6.here hx rfl (hb hby at_91) rfl rfl ?_
    show Steps p.tables e below (T6.setTop (mkF m 93 #[.val (.int p0), .val (.int p1), .val (.int p2), .val (.ref (w 1)), .val (.ref b2_0), .val (.ref b3), .val (.int (0 : Int32)), .val (.int (0 : Int32)), .val (.int (1 : Int32)), .val (.int (0 : Int32)), .unset, .unset] [(.ref b3)])) _
    refine st7.trans ?_
    show Steps p.tables e below (T7.setTop (mkF m 96 #[.val (.int p0), .val (.int p1), .val (.int p2), .val (.ref (w 1)), .val (.ref b2_0), .val (.ref b3), .val (.int (0 : Int32)), .val (.int (0 : Int32)), .val (.int (1 : Int32)), .val (.int (0 : Int32)), .unset, .unset] [(.int (0 : Int32))])) _
    refine XS.istore X7.here hx rfl (hb hby at_96) rfl (l' := #[.val (.int p0), .val (.int p1), .val (.int p2), .val (.ref (w 1)), .val (.ref b2_0), .val (.ref b3), .val (.int (0 : Int32)), .val (.int (0 : Int32)), .val (.int (1 : Int32)), .val (.int (0 : Int32)), .val (.int (0 : Int32)), .unset]) rfl ?_
    show Steps p.tables e below (T7.setTop (mkF m 98 #[.val (.int p0), .val (.int p1), .val (.int p2), .val (.ref (w 1)), .val (.ref b2_0), .val (.ref b3), .val (.int (0 : Int32)), .val (.int (0 : Int32)), .val (.int (1 : Int32)), .val (.int (0 : Int32)), .val (.int (0 : Int32)), .unset] [])) _
    refine XS.iload X7.here hx rfl (hb hby at_98) rfl ?_
    show Steps p.tables e below (T7.setTop (mkF m 100 #[.val (.int p0), .val (.int p1), .val (.int p2), .val (.ref (w 1)), .val (.ref b2_0), .val (.ref b3), .val (.int (0 : Int32)), .val (.int (0 : Int32)), .val (.int (1 : Int32)), .val (.int (0 : Int32)), .val (.int (0 : Int32)), .unset] [(.int (0 : Int32))])) _
    refine XS.ifYes X7.here hx rfl (pc0 := 100) (pc' := 111) rfl (hb hby at_100) rfl ((if0 _ _).trans (teq (by decide : (0 : Int32) = (0 : Int32))).1) (by decide) (by decide) ?_
    show Steps p.tables e below (T7.setTop (mkF m 111 #[.val (.int p0), .val (.int p1), .val (.int p2), .val (.ref (w 1)), .val (.ref b2_0), .val (.ref b3), .val (.int (0 : Int32)), .val (.int (0 : Int32)), .val (.int (1 : Int32)), .val (.int (0 : Int32)), .val (.int (0 : Int32)), .unset] [])) _
    refine XS.iconst X7.here hx rfl (hb hby at_111) ?_
    show Steps p.tables e below (T7.setTop (mkF m 112 #[.val (.int p0), .val (.int p1), .val (.int p2), .val (.ref (w 1)), .val (.ref b2_0), .val (.ref b3), .val (.int (0 : Int32)), .val (.int (0 : Int32)), .val (.int (1 : Int32)), .val (.int (0 : Int32)), .val (.int (0 : Int32)), .unset] [(.int (0 : Int32))])) _
    refine XS.istore X7.here hx rfl (hb hby at_112) rfl (l' := #[.val (.int p0), .val (.int p1), .val (.int p2), .val (.ref (w 1)), .val (.ref b2_0), .val (.ref b3), .val (.int (0 : Int32)), .val (.int (0 : Int32)), .val (.int (1 : Int32)), .val (.int (0 : Int32)), .val (.int (0 : Int32)), .val (.int (0 : Int32))]) rfl ?_
    show Steps p.tables e below (T7.setTop (mkF m 114 #[.val (.int p0), .val (.int p1), .val (.int p2), .val (.ref (w 1)), .val (.ref b2_0), .val (.ref b3), .val (.int (0 : Int32)), .val (.int (0 : Int32)), .val (.int (1 : Int32)), .val (.int (0 : Int32)), .val (.int (0 : Int32)), .val (.int (0 : Int32))] [])) _
    refine XS.iload X7.here hx rfl (hb hby at_114) rfl ?_
    show Steps p.tables e below (T7.setTop (mkF m 116 #[.val (.int p0), .val (.int p1), .val (.int p2), .val (.ref (w 1)), .val (.ref b2_0), .val (.ref b3), .val (.int (0 : Int32)), .val (.int (0 : Int32)), .val (.int (1 : Int32)), .val (.int (0 : Int32)), .val (.int (0 : Int32)), .val (.int (0 : Int32))] [(.int (0 : Int32))])) _
    refine XS.ifNo X7.here hx rfl (hb hby at_116) rfl ((if0 _ _).trans (teq (by decide : (0 : Int32) = (0 : Int32))).2) ?_
    show Steps p.tables e below (T7.setTop (mkF m 119 #[.val (.int p0), .val (.int p1), .val (.int p2), .val (.ref (w 1)), .val (.ref b2_0), .val (.ref b3), .val (.int (0 : Int32)), .val (.int (0 : Int32)), .val (.int (1 : Int32)), .val (.int (0 : Int32)), .val (.int (0 : Int32)), .val (.int (0 : Int32))] [])) _
    refine XS.iload X7.here hx rfl (hb hby at_119) rfl ?_
    show Steps p.tables e below (T7.setTop (mkF m 121 #[.val (.int p0), .val (.int p1), .val (.int p2), .val (.ref (w 1)), .val (.ref b2_0), .val (.ref b3), .val (.int (0 : Int32)), .val (.int (0 : Int32)), .val (.int (1 : Int32)), .val (.int (0 : Int32)), .val (.int (0 : Int32)), .val (.int (0 : Int32))] [(.int (0 : Int32))])) _
    refine XS.iload X7.here hx rfl (hb hby at_121) rfl ?_
    show Steps p.tables e below (T7.setTop (mkF m 123 #[.val (.int p0), .val (.int p1), .val (.int p2), .val (.ref (w 1)), .val (.ref b2_0), .val (.ref b3), .val (.int (0 : Int32)), .val (.int (0 : Int32)), .val (.int (1 : Int32)), .val (.int (0 : Int32)), .val (.int (0 : Int32)), .val (.int (0 : Int32))] [(.int (0 : Int32)), (.int (0 : Int32))])) _
    refine XS.icmpNo X7.here hx rfl (hb hby at_123) rfl (teq (by decide : (0 : Int32) = (0 : Int32))).2 ?_
    show Steps p.tables e below (T7.setTop (mkF m 126 #[.val (.int p0), .val (.int p1), .val (.int p2), .val (.ref (w 1)), .val (.ref b2_0), .val (.ref b3), .val (.int (0 : Int32)), .val (.int (0 : Int32)), .val (.int (1 : Int32)), .val (.int (0 : Int32)), .val (.int (0 : Int32)), .val (.int (0 : Int32))] [])) _
    refine XS.iload X7.here hx rfl (hb hby at_126) rfl ?_
    show Steps p.tables e below (T7.setTop (mkF m 128 #[.val (.int p0), .val (.int p1), .val (.int p2), .val (.ref (w 1)), .val (.ref b2_0), .val (.ref b3), .val (.int (0 : Int32)), .val (.int (0 : Int32)), .val (.int (1 : Int32)), .val (.int (0 : Int32)), .val (.int (0 : Int32)), .val (.int (0 : Int32))] [(.int (0 : Int32))])) _
    refine XS.iload X7.here hx rfl (hb hby at_128) rfl ?_
    show Steps p.tables e below (T7.setTop (mkF m 130 #[.val (.int p0), .val (.int p1), .val (.int p2), .val (.ref (w 1)), .val (.ref b2_0), .val (.ref b3), .val (.int (0 : Int32)), .val (.int (0 : Int32)), .val (.int (1 : Int32)), .val (.int (0 : Int32)), .val (.int (0 : Int32)), .val (.int (0 : Int32))] [(.int (0 : Int32)), (.int (0 : Int32))])) _
    refine XS.icmpNo X7.here hx rfl (hb hby at_130) rfl (teq (by decide : (0 : Int32) = (0 : Int32))).2 ?_
    show Steps p.tables e below (T7.setTop (mkF m 133 #[.val (.int p0), .val (.int p1), .val (.int p2), .val (.ref (w 1)), .val (.ref b2_0), .val (.ref b3), .val (.int (0 : Int32)), .val (.int (0 : Int32)), .val (.int (1 : Int32)), .val (.int (0 : Int32)), .val (.int (0 : Int32)), .val (.int (0 : Int32))] [])) _
    refine XS.iconst X7.here hx rfl (hb hby at_133) ?_
    show Steps p.tables e below (T7.setTop (mkF m 134 #[.val (.int p0), .val (.int p1), .val (.int p2), .val (.ref (w 1)), .val (.ref b2_0), .val (.ref b3), .val (.int (0 : Int32)), .val (.int (0 : Int32)), .val (.int (1 : Int32)), .val (.int (0 : Int32)), .val (.int (0 : Int32)), .val (.int (0 : Int32))] [(.int (1 : Int32))])) _
    refine XS.goto X7.here hx rfl (pc0 := 134) (pc' := 138) rfl (hb hby at_134) (by decide) (by decide) ?_
    show Steps p.tables e below (T7.setTop (mkF m 138 #[.val (.int p0), .val (.int p1), .val (.int p2), .val (.ref (w 1)), .val (.ref b2_0), .val (.ref b3), .val (.int (0 : Int32)), .val (.int (0 : Int32)), .val (.int (1 : Int32)), .val (.int (0 : Int32)), .val (.int (0 : Int32)), .val (.int (0 : Int32))] [(.int (1 : Int32))])) _
    exact retN X7 hx (t := .boolean) Bd.returns (by simp) (hb hby at_138) hr
  · show OL (some (.int (1 : Int32))) Z.heap.size _ T7.heap _
    exact ⟨rfl, N7⟩
def Qd_8 (Z : State) (w : Nat → Addr) (kk : Nat → ClassId) (iw : Nat → Int32) (vw : Nat → Value) (o1 : Addr) (o2 : Addr) (o3 : Addr) (t0 : Int32) (kc_o3 : ClassId) (h0 : Heap) (n0 : Nat) (v : Option Value) (h : Heap) (L : List Loc) : Prop := v = none ∧ Fr n0 L ∧ Keep h0 h [o1] ∧ Exa Z h o1 "com/example/netloom/netloom/xml/NetReader$OpenAnnotations" ∧ Fld Z h o1 "com/example/netloom/netloom/xml/NetReader$OpenAnnotations" "owner" "Ljava/lang/String;" (.ref o2) ∧ Fld Z h o1 "com/example/netloom/netloom/xml/NetReader$OpenAnnotations" "form" "Lcom/example/netloom/netloom/xml/XmlGraphics$Form;" (.ref (w 1)) ∧ Fld Z h o1 "com/example/netloom/netloom/xml/NetReader$OpenAnnotations" "carries" "Ljava/util/Set;" .null ∧ Fld Z h o1 "com/example/netloom/netloom/xml/NetReader$OpenAnnotations" "graphicsCarried" "Z" (.int (1 : Int32)) ∧ Fld Z h o1 "com/example/netloom/netloom/xml/NetReader$OpenAnnotations" "graphics" "Lcom/example/netloom/netloom/net/Graphics;" .null
set_option maxRecDepth 65536 in
set_option maxHeartbeats 40000000 in
theorem rm_30 (l : Launch) (Z : State) (a0 : Array Value) (hw : ∀ d ∈ tables_1, d.before a0 Z = true) (w : Nat → Addr) (kk : Nat → ClassId) (iw : Nat → Int32) (vw : Nat → Value) (hN : Wd Z w kk iw vw) (ws : List Jvm.Cond) (o1 : Addr) (o2 : Addr) (o3 : Addr) (t0 : Int32) (kc_o3 : ClassId) (h0 : Heap) (O0 : Old Z Z.heap.size h0) (gn_o1 : Z.heap.size ≤ o1) (lt_o1 : o1 < h0.size) (E_o1 : Exa Z h0 o1 "com/example/netloom/netloom/xml/NetReader$OpenAnnotations") (gn_o2 : Z.heap.size ≤ o2) (lt_o2 : o2 < h0.size) (F_o1_owner : Fld Z h0 o1 "com/example/netloom/netloom/xml/NetReader$OpenAnnotations" "owner" "Ljava/lang/String;" (.ref o2)) (F_o1_form : Fld Z h0 o1 "com/example/netloom/netloom/xml/NetReader$OpenAnnotations" "form" "Lcom/example/netloom/netloom/xml/XmlGraphics$Form;" (.ref (w 1))) (F_o1_carries : Fld Z h0 o1 "com/example/netloom/netloom/xml/NetReader$OpenAnnotations" "carries" "Ljava/util/Set;" .null) (F_o1_graphicsCarried : Fld Z h0 o1 "com/example/netloom/netloom/xml/NetReader$OpenAnnotations" "graphicsCarried" "Z" (.int (0 : Int32))) (F_o1_graphics : Fld Z h0 o1 "com/example/netloom/netloom/xml/NetReader$OpenAnnotations" "graphics" "Lcom/example/netloom/netloom/net/Graphics;" .null) (E_o2 : Exa Z h0 o2 "java/lang/String") (gn_o3 : Z.heap.size ≤ o3) (lt_o3 : o3 < h0.size) (F_o2_value : Fld Z h0 o2 "java/lang/String" "value" "[B" (.ref o3)) (F_o2_coder : Fld Z h0 o2 "java/lang/String" "coder" "B" (.int (0 : Int32))) (V_o3 : Arv Z h0 o3 kc_o3 .byte (1 : Int32) [(.int t0)] (.int (0 : Int32))) (ne_o1_o2 : o1 ≠ o2) (ne_o1_o3 : o1 ≠ o3) (ne_o2_o3 : o2 ≠ o3) :
    MetFree l (⟨"com/example/netloom/netloom/xml/NetReader$OpenAnnotations", "carryGraphics", "()V"⟩ : MethodName) (head1 (Jvm.Cond.code (⟨"com/example/netloom/netloom/xml/NetReader$OpenAnnotations", "carryGraphics", "()V"⟩ : MethodName) prog_77_method_2_code 1 none :: ws) ({ frames := 0, cells := 0, slots := 0, locals := 0 } : Room)) (fun a U => a = #[(.ref o1)] ∧ Z.Warmed39 U.vm ∧ U.heap = h0) (fun _ _ _ _ _ => True) (fun _ U o U' => ∃ v L, o = .returned v ∧ Qd_8 Z w kk iw vw o1 o2 o3 t0 kc_o3 h0 Z.heap.size v U'.heap L ∧ FrameEnd U o U' L ({ frames := 0, cells := 0, slots := 0, locals := 0 } : Room).cells ({ frames := 0, cells := 0, slots := 0, locals := 0 } : Room).slots) := by
  have hN' := hN
  obtain ⟨hS0, hE0, hS1, hE1, hS2, hE2, hI0, hJ0, hR0, hRr0⟩ := hN'
  refine MetFree.of_bodySF (plainFor_of_name pn_3) hisR ?_
  intro p e s m args below meth c s₁ Bd hml0 hP hK
  obtain ⟨rfl, hZ, hh⟩ := hP
  have hx := Bd.exec
  have hby := Bd.bytes
  have hml : c.maxLocals = 1 := hml0
  have hown : s.vm.findClass "com/example/netloom/netloom/xml/NetReader$OpenAnnotations" = some m.cls := findClass_of_methodNamed Bd.named
  have hnm := (name_of_methodNamed Bd.named Bd.method).1
  have X0 : Stand p l e ({ frames := 0, cells := 0, slots := 0, locals := 0 } : Room) s m #[(.ref o1)] below meth c s₁ [] 0 0 := Stand.of_body Bd
  have e0 : s₁.heap = h0 := by rw [← hh, Bd.state]; rfl
  have N0 := Fr.nil Z.heap.size
  have pre0 : ∀ t, Steps p.tables e below (s₁.setTop (mkF m 0 #[.val (.ref o1)] [])) t → Steps p.tables e below (s₁.setTop (entryFrame m #[(.ref o1)] 1)) t := fun t k => castTop (ef_3 m (.ref o1) rfl) k
  have K0 : Keep h0 h0 [o1] := Keep.refl _ _
  obtain ⟨T1, h1, X1, e1, W1, st1⟩ := putFN X0 hx hZ hown (W hw 51 rfl) Via.refl e0 F_o1_graphicsCarried E_o1 (Or.inl (W hw 52 rfl)) (W hw 34 rfl) (ty := .boolean) (v' := (.int (1 : Int32))) (by decide) rfl rfl (g := (mkF m 2 #[.val (.ref o1)] [(.int (1 : Int32)), (.ref o1)])) rfl rfl (hb hby d_prog_77_method_2_code_2)
  have F_o1_graphicsCarried_v1 := F_o1_graphicsCarried.same W1
  have N1 := Fr.snoc X1 N0 gn_o1
  have E_o1_v1 := E_o1.wr W1
  have F_o1_owner_v1 := F_o1_owner.other W1 (Or.inr (sn_14 hw))
  have F_o1_form_v1 := F_o1_form.other W1 (Or.inr (sn_15 hw))
  have F_o1_carries_v1 := F_o1_carries.other W1 (Or.inr (sn_16 hw))
  have F_o1_graphics_v1 := F_o1_graphics.other W1 (Or.inr (sn_17 hw))
  have E_o2_v1 := E_o2.wr W1
  have F_o2_value_v1 := F_o2_value.other W1 (Or.inl (Ne.symm ne_o1_o2))
  have F_o2_coder_v1 := F_o2_coder.other W1 (Or.inl (Ne.symm ne_o1_o2))
  have V_o3_v1 := V_o3.other W1 (Ne.symm ne_o1_o3)
  have O1 := O0.wr W1 gn_o1
  have K1 : Keep h0 h1 [o1] := K0.wr W1 (Or.inl (List.mem_of_getElem? (i := 0) rfl))
  obtain ⟨fs, hr, hrun, hended, hW, hsame⟩ := X1.leave (v := none) (fun _ => rfl)
  refine ⟨_, _, pre0 _ ?_, hrun, hended, _, _, rfl, ?_, ⟨_, rfl⟩, hW, hsame.mono (by decide) (by decide)⟩
  · show Steps p.tables e below (s₁.setTop (mkF m 0 #[.val (.ref o1)] [])) _
    refine XS.aloadN X0.here hx rfl (hb hby d_prog_77_method_2_code_0) rfl rfl ?_
    show Steps p.tables e below (s₁.setTop (mkF m 1 #[.val (.ref o1)] [(.ref o1)])) _
    refine XS.iconst X0.here hx rfl (hb hby d_prog_77_method_2_code_1) ?_
    show Steps p.tables e below (s₁.setTop (mkF m 2 #[.val (.ref o1)] [(.int (1 : Int32)), (.ref o1)])) _
    refine st1 _ ?_
    show Steps p.tables e below (T1.setTop (mkF m 5 #[.val (.ref o1)] [])) _
    exact X1.returnOut hx Bd.returns (hb hby d_prog_77_method_2_code_5) hr
  · show Qd_8 Z w kk iw vw o1 o2 o3 t0 kc_o3 h0 Z.heap.size _ T1.heap _
    rw [e1]
    exact ⟨rfl, N1, K1, E_o1_v1, F_o1_owner_v1, F_o1_form_v1, F_o1_carries_v1, F_o1_graphicsCarried_v1, F_o1_graphics_v1⟩
set_option maxRecDepth 65536 in
set_option maxHeartbeats 40000000 in
theorem rm_31 (l : Launch) (Z : State) (a0 : Array Value) (hw : ∀ d ∈ tables_1, d.before a0 Z = true) (w : Nat → Addr) (kk : Nat → ClassId) (iw : Nat → Int32) (vw : Nat → Value) (hN : Wd Z w kk iw vw) (ws : List Jvm.Cond) (o1 : Addr) (o2 : Addr) (o3 : Addr) (t0 : Int32) (kc_o3 : ClassId) (h0 : Heap) (O0 : Old Z Z.heap.size h0) (gn_o1 : Z.heap.size ≤ o1) (lt_o1 : o1 < h0.size) (E_o1 : Exa Z h0 o1 "com/example/netloom/netloom/xml/NetReader$OpenAnnotations") (gn_o2 : Z.heap.size ≤ o2) (lt_o2 : o2 < h0.size) (F_o1_owner : Fld Z h0 o1 "com/example/netloom/netloom/xml/NetReader$OpenAnnotations" "owner" "Ljava/lang/String;" (.ref o2)) (F_o1_form : Fld Z h0 o1 "com/example/netloom/netloom/xml/NetReader$OpenAnnotations" "form" "Lcom/example/netloom/netloom/xml/XmlGraphics$Form;" (.ref (w 1))) (F_o1_carries : Fld Z h0 o1 "com/example/netloom/netloom/xml/NetReader$OpenAnnotations" "carries" "Ljava/util/Set;" .null) (F_o1_graphicsCarried : Fld Z h0 o1 "com/example/netloom/netloom/xml/NetReader$OpenAnnotations" "graphicsCarried" "Z" (.int (1 : Int32))) (F_o1_graphics : Fld Z h0 o1 "com/example/netloom/netloom/xml/NetReader$OpenAnnotations" "graphics" "Lcom/example/netloom/netloom/net/Graphics;" .null) (E_o2 : Exa Z h0 o2 "java/lang/String") (gn_o3 : Z.heap.size ≤ o3) (lt_o3 : o3 < h0.size) (F_o2_value : Fld Z h0 o2 "java/lang/String" "value" "[B" (.ref o3)) (F_o2_coder : Fld Z h0 o2 "java/lang/String" "coder" "B" (.int (0 : Int32))) (V_o3 : Arv Z h0 o3 kc_o3 .byte (1 : Int32) [(.int t0)] (.int (0 : Int32))) (ne_o1_o2 : o1 ≠ o2) (ne_o1_o3 : o1 ≠ o3) (ne_o2_o3 : o2 ≠ o3) :
    MetFree l (⟨"com/example/netloom/netloom/xml/NetReader$OpenAnnotations", "carriesGraphics", "()Z"⟩ : MethodName) (head1 (Jvm.Cond.code (⟨"com/example/netloom/netloom/xml/NetReader$OpenAnnotations", "carriesGraphics", "()Z"⟩ : MethodName) prog_77_method_3_code 1 (some .boolean) :: ws) ({ frames := 0, cells := 0, slots := 0, locals := 0 } : Room)) (fun a U => a = #[(.ref o1)] ∧ Z.Warmed39 U.vm ∧ U.heap = h0) (fun _ _ _ _ _ => True) (fun _ U o U' => ∃ v L, o = .returned v ∧ OQ (some (.int (0 : Int32))) h0 Z.heap.size v U'.heap L ∧ FrameEnd U o U' L ({ frames := 0, cells := 0, slots := 0, locals := 0 } : Room).cells ({ frames := 0, cells := 0, slots := 0, locals := 0 } : Room).slots) := by
  have hN' := hN
  obtain ⟨hS0, hE0, hS1, hE1, hS2, hE2, hI0, hJ0, hR0, hRr0⟩ := hN'
  refine MetFree.of_bodySF (plainFor_of_name pn_3) hisR ?_
  intro p e s m args below meth c s₁ Bd hml0 hP hK
  obtain ⟨rfl, hZ, hh⟩ := hP
  have hx := Bd.exec
  have hby := Bd.bytes
  have hml : c.maxLocals = 1 := hml0
  have hown : s.vm.findClass "com/example/netloom/netloom/xml/NetReader$OpenAnnotations" = some m.cls := findClass_of_methodNamed Bd.named
  have hnm := (name_of_methodNamed Bd.named Bd.method).1
  have X0 : Stand p l e ({ frames := 0, cells := 0, slots := 0, locals := 0 } : Room) s m #[(.ref o1)] below meth c s₁ [] 0 0 := Stand.of_body Bd
  have e0 : s₁.heap = h0 := by rw [← hh, Bd.state]; rfl
  have N0 := Fr.nil Z.heap.size
  have pre0 : ∀ t, Steps p.tables e below (s₁.setTop (mkF m 0 #[.val (.ref o1)] [])) t → Steps p.tables e below (s₁.setTop (entryFrame m #[(.ref o1)] 1)) t := fun t k => castTop (ef_3 m (.ref o1) rfl) k
  obtain ⟨T1, X1, e1, st1⟩ := getF X0 hx hZ hown (host := "") (Or.inl (W hw 51 rfl)) Via.refl e0 F_o1_graphicsCarried (g := (mkF m 1 #[.val (.ref o1)] [(.ref o1)])) rfl rfl (hb hby d_prog_77_method_3_code_1)
  obtain ⟨T2, X2, e2, st2⟩ := getF X1 hx hZ hown (host := "") (Or.inl (W hw 42 rfl)) Via.refl e1 F_o1_form (g := (mkF m 8 #[.val (.ref o1)] [(.ref o1)])) rfl rfl (hb hby d_prog_77_method_3_code_8)
  obtain ⟨fs, hr, hrun, hended, hW, hsame⟩ := X2.leave (v := some (.int (0 : Int32))) (fun h => by rw [Bd.returns] at h; cases h)
  refine ⟨_, _, pre0 _ ?_, hrun, hended, _, _, rfl, ?_, ⟨_, rfl⟩, hW, hsame.mono (by decide) (by decide)⟩
  · show Steps p.tables e below (s₁.setTop (mkF m 0 #[.val (.ref o1)] [])) _
    refine XS.aloadN X0.here hx rfl (hb hby d_prog_77_method_3_code_0) rfl rfl ?_
    show Steps p.tables e below (s₁.setTop (mkF m 1 #[.val (.ref o1)] [(.ref o1)])) _
    refine st1 _ ?_
    show Steps p.tables e below (T1.setTop (mkF m 4 #[.val (.ref o1)] [(.int (1 : Int32))])) _
    refine XS.ifNo X1.here hx rfl (hb hby d_prog_77_method_3_code_4) rfl ((if0 _ _).trans (feq (by decide : ¬ ((1 : Int32) = (0 : Int32)))).1) ?_
    show Steps p.tables e below (T1.setTop (mkF m 7 #[.val (.ref o1)] [])) _
    refine XS.aloadN X1.here hx rfl (hb hby d_prog_77_method_3_code_7) rfl rfl ?_
    show Steps p.tables e below (T1.setTop (mkF m 8 #[.val (.ref o1)] [(.ref o1)])) _
    refine st2 _ ?_
    show Steps p.tables e below (T2.setTop (mkF m 11 #[.val (.ref o1)] [(.ref (w 1))])) _
    refine XS.ifnonnullYes X2.here hx rfl (pc0 := 11) (pc' := 25) rfl (hb hby d_prog_77_method_3_code_11) rfl (by decide) (by decide) ?_
    show Steps p.tables e below (T2.setTop (mkF m 25 #[.val (.ref o1)] [])) _
    refine XS.iconst X2.here hx rfl (hb hby d_prog_77_method_3_code_25) ?_
    show Steps p.tables e below (T2.setTop (mkF m 26 #[.val (.ref o1)] [(.int (0 : Int32))])) _
    exact retN X2 hx (t := .boolean) Bd.returns (by simp) (hb hby d_prog_77_method_3_code_26) hr
  · show OQ (some (.int (0 : Int32))) h0 Z.heap.size _ T2.heap _
    rw [e2]
    exact ⟨rfl, N0, rfl⟩
set_option maxRecDepth 65536 in
set_option maxHeartbeats 40000000 in
theorem law_32 (l : Launch) (Z : State) (a0 : Array Value) (hw : ∀ d ∈ tables_1, d.before a0 Z = true) (w : Nat → Addr) (kk : Nat → ClassId) (iw : Nat → Int32) (vw : Nat → Value) (hN : Wd Z w kk iw vw) (ws : List Jvm.Cond) (p0 : Int32) (p1 : Int32) (p2 : Int32) (h0 : Heap) (O0 : Old Z Z.heap.size h0) (hp0 : (p1 &&& (3 : Int32)) = (2 : Int32)) (hp1 : ¬ ((255 : Int32) < ((p2 &&& (255 : Int32)).toUInt32.toUInt16.toUInt32.toInt32))) (hp2 : (p0 &&& (1 : Int32)) = (1 : Int32)) (hp3 : (p0 &&& (2 : Int32)) = (0 : Int32)) :
    MetFree l x (head1 (Jvm.Cond.code x code maxLocals ret :: ws) room_1) (fun a U => a = #[(.int p0), (.int p1), (.int p2)] ∧ Z.Warmed39 U.vm ∧ U.heap = h0) (fun _ _ _ _ _ => True) (fun _ U o U' => ∃ v L, o = .returned v ∧ OL (some (.int (1 : Int32))) Z.heap.size v U'.heap L ∧ FrameEnd U o U' L 16 128) := by
  have hN' := hN
  obtain ⟨hS0, hE0, hS1, hE1, hS2, hE2, hI0, hJ0, hR0, hRr0⟩ := hN'
  refine MetFree.of_bodySF (plainFor_of_name pn_0) hisR ?_
  intro p e s m args below meth c s₁ Bd hml0 hP hK
  obtain ⟨rfl, hZ, hh⟩ := hP
  have hx := Bd.exec
  have hby := Bd.bytes
  have hml : c.maxLocals = 12 := hml0
  have hown : s.vm.findClass "com/example/netloom/netloom/xml/OpenAnnotationsCarriesGraphicsPinLaw" = some m.cls := findClass_of_methodNamed Bd.named
  have hnm := (name_of_methodNamed Bd.named Bd.method).1
  have X0 : Stand p l e room_1 s m #[(.int p0), (.int p1), (.int p2)] below meth c s₁ [] 0 0 := Stand.of_body Bd
  have e0 : s₁.heap = h0 := by rw [← hh, Bd.state]; rfl
  have N0 := Fr.nil Z.heap.size
  have pre0 : ∀ t, Steps p.tables e below (s₁.setTop (mkF m 0 #[.val (.int p0), .val (.int p1), .val (.int p2), .unset, .unset, .unset, .unset, .unset, .unset, .unset, .unset, .unset] [])) t → Steps p.tables e below (s₁.setTop (entryFrame m #[(.int p0), (.int p1), (.int p2)] maxLocals)) t := fun t k => castTop (ef_4 m (.int p0) rfl (.int p1) rfl (.int p2) rfl) k
  obtain ⟨_, _, ⟨T1, L1, k1, n1⟩, -, X1, ⟨Lc1, hQ1, l1, y1, z1⟩, st1⟩ := Jvm.LawKit.callS X0 hx (y := (⟨"com/example/netloom/netloom/xml/OpenAnnotationsCarriesGraphicsPinLaw", "pick", "(I)Lcom/example/netloom/netloom/xml/XmlGraphics$Form;"⟩ : MethodName)) hown (mvT hZ (W hw 0 rfl)) (mvT hZ (W hw 1 rfl)) (mvT hZ (W hw 2 rfl)) (mvT hZ (W hw 3 rfl)) (by decide) (backOf (W := 0) (rm_25 l Z a0 hw w kk iw vw hN [] h0 O0) hZ (W hw 3 rfl) (W hw 2 rfl) (by decide) (by decide)) (g := (mkF m 3 #[.val (.int p0), .val (.int p1), .val (.int p2), .unset, .unset, .unset, .unset, .unset, .unset, .unset, .unset, .unset] [(.int (2 : Int32))])) rfl (by rw [hml]; rfl) (argsL := [(.int (2 : Int32))]) (rest := []) (lenOf pd_0 rfl) rfl (by show 2 * 0 + _ ≤ _; exact Nat.le_of_eq rfl) (hb hby at_3) (fun _ _ => ⟨rfl, e0, (by decide : 0 + 0 ≤ _), (by decide : 0 + 0 ≤ _)⟩)
  dsimp only [Pt.U, Pt.locs, Pt.cells, Pt.slots] at X1 l1 y1 z1 st1 hQ1
  subst l1 y1 z1
  obtain ⟨rfl, N1q, e1⟩ := hQ1
  have N1 := Fr.app N0 N1q
  obtain ⟨_, _, ⟨T2, L2, k2, n2⟩, -, X2, ⟨Lc2, hQ2, l2, y2, z2⟩, st2⟩ := Jvm.LawKit.callS X1 hx (y := (⟨"java/lang/String", "valueOf", "(C)Ljava/lang/String;"⟩ : MethodName)) hown (mvT hZ (W hw 7 rfl)) (mvT hZ (W hw 8 rfl)) (mvT hZ (W hw 9 rfl)) (mvT hZ (W hw 10 rfl)) (by decide) (backOf (W := 0) (rm_5 l Z a0 hw w kk iw vw hN [] ((p2 &&& (255 : Int32)).toUInt32.toUInt16.toUInt32.toInt32) h0 O0 hp1) hZ (W hw 10 rfl) (W hw 9 rfl) (by decide) (by decide)) (g := (mkF m 13 #[.val (.int p0), .val (.int p1), .val (.int p2), .val (.ref (w 1)), .unset, .unset, .unset, .unset, .unset, .unset, .unset, .unset] [(.int ((p2 &&& (255 : Int32)).toUInt32.toUInt16.toUInt32.toInt32))])) rfl (by rw [hml]; rfl) (argsL := [(.int ((p2 &&& (255 : Int32)).toUInt32.toUInt16.toUInt32.toInt32))]) (rest := []) (lenOf pd_4 rfl) rfl (by show 2 * 0 + _ ≤ _; exact Nat.le_of_eq rfl) (hb hby at_13) (fun _ _ => ⟨rfl, e1, (by decide : 0 + 2 ≤ _), (by decide : 0 + 5 ≤ _)⟩)
  dsimp only [Pt.U, Pt.locs, Pt.cells, Pt.slots] at X2 l2 y2 z2 st2 hQ2
  subst l2 y2 z2
  obtain ⟨b2_0, b2_1, kb2_0, rfl, N2q, Kq2, tk2_0, tk2_1, tk2_2, tk2_3, tk2_4, tk2_5, tk2_6⟩ := hQ2
  have N2 := Fr.app N1 N2q
  have gn_b2_0 : Z.heap.size ≤ b2_0 := Nat.le_trans O0.2.1 tk2_0
  have gn_b2_1 : Z.heap.size ≤ b2_1 := Nat.le_trans O0.2.1 tk2_1
  have O2 := O0.keep Kq2 all0
  obtain ⟨T3, h3, X3, e3, E3, A3, D3, -, st3⟩ := newO X2 hx hZ hown (W hw 33 rfl) (W hw 34 rfl) (W hw 35 rfl) rfl (g := (mkF m 18 #[.val (.int p0), .val (.int p1), .val (.int p2), .val (.ref (w 1)), .val (.ref b2_0), .unset, .unset, .unset, .unset, .unset, .unset, .unset] [])) rfl (hb hby at_18) (by decide) (by decide)
  obtain ⟨b3, g3⟩ : ∃ z, z = T2.heap.size := ⟨_, rfl⟩
  rw [← g3] at A3 st3 D3
  have gn_b3 : Z.heap.size ≤ b3 := Nat.le_trans O2.2.1 (Nat.le_of_eq g3.symm)
  have ne_b2_1_b3 : b2_1 ≠ b3 := Nat.ne_of_lt (Nat.lt_of_lt_of_le tk2_6.lt (Nat.le_of_eq g3.symm))
  have ne_b2_0_b3 : b2_0 ≠ b3 := Nat.ne_of_lt (Nat.lt_of_lt_of_le tk2_3.lt (Nat.le_of_eq g3.symm))
  have tk2_3_v3 := tk2_3.ext E3
  have tk2_4_v3 := tk2_4.ext E3
  have tk2_5_v3 := tk2_5.ext E3
  have tk2_6_v3 := tk2_6.ext E3
  have O3 := O2.ext E3
  have E_b3_v3 := A3
  have F_b3_owner_v3 : Fld Z h3 b3 "com/example/netloom/netloom/xml/NetReader$OpenAnnotations" "owner" "Ljava/lang/String;" .null := D3 (Or.inr (W hw 41 rfl)) (ty := (.object "java/lang/String")) (by decide)
  have F_b3_form_v3 : Fld Z h3 b3 "com/example/netloom/netloom/xml/NetReader$OpenAnnotations" "form" "Lcom/example/netloom/netloom/xml/XmlGraphics$Form;" .null := D3 (Or.inr (W hw 43 rfl)) (ty := (.object "com/example/netloom/netloom/xml/XmlGraphics$Form")) (by decide)
  have F_b3_carries_v3 : Fld Z h3 b3 "com/example/netloom/netloom/xml/NetReader$OpenAnnotations" "carries" "Ljava/util/Set;" .null := D3 (Or.inr (W hw 45 rfl)) (ty := (.object "java/util/Set")) (by decide)
  have F_b3_graphicsCarried_v3 : Fld Z h3 b3 "com/example/netloom/netloom/xml/NetReader$OpenAnnotations" "graphicsCarried" "Z" (.int (0 : Int32)) := D3 (Or.inl (W hw 52 rfl)) (ty := .boolean) (by decide)
  have F_b3_graphics_v3 : Fld Z h3 b3 "com/example/netloom/netloom/xml/NetReader$OpenAnnotations" "graphics" "Lcom/example/netloom/netloom/net/Graphics;" .null := D3 (Or.inl (W hw 59 rfl)) (ty := (.object "com/example/netloom/netloom/net/Graphics")) (by decide)
  obtain ⟨_, _, ⟨T4, L4, k4, n4⟩, -, X4, ⟨Lc4, hQ4, l4, y4, z4⟩, st4⟩ := X3.specialBack hx (y := (⟨"com/example/netloom/netloom/xml/NetReader$OpenAnnotations", "<init>", "(Ljava/lang/String;Lcom/example/netloom/netloom/xml/XmlGraphics$Form;Ljava/util/Set;)V"⟩ : MethodName)) rfl hown (mvT hZ (W hw 36 rfl)) (mvT hZ (W hw 37 rfl)) (mvT hZ (W hw 38 rfl)) (by decide) (backOf (W := 1) (rm_26 l Z a0 hw w kk iw vw hN [] b3 b2_0 b2_1 ((((p2 &&& (255 : Int32)).toUInt32.toUInt16.toUInt32.toInt32).toInt8.toInt32).toInt8.toInt32) kb2_0 h3 O3 gn_b3 E_b3_v3.lt gn_b2_0 tk2_3_v3.lt E_b3_v3 F_b3_owner_v3 F_b3_form_v3 F_b3_carries_v3 F_b3_graphicsCarried_v3 F_b3_graphics_v3 tk2_3_v3 gn_b2_1 tk2_6_v3.lt tk2_4_v3 tk2_5_v3 tk2_6_v3 (Ne.symm ne_b2_0_b3) (Ne.symm ne_b2_1_b3) tk2_2) hZ (W hw 38 rfl) (W hw 35 rfl) (by decide) (by decide)) (g := (mkF m 26 #[.val (.int p0), .val (.int p1), .val (.int p2), .val (.ref (w 1)), .val (.ref b2_0), .unset, .unset, .unset, .unset, .unset, .unset, .unset] [.null, (.ref (w 1)), (.ref b2_0), (.ref b3), (.ref b3)])) rfl (by rw [hml]; rfl) (Steps.refl _) (a := b3) (argsL := [(.ref b2_0), (.ref (w 1)), .null]) (rest := [(.ref b3)]) (lenOf pd_5 rfl) rfl (by show 2 * 0 + _ ≤ _; exact Nat.le_of_eq rfl) (hb hby at_26) (fun _ _ => ⟨rfl, e3, (by decide : 3 + 0 ≤ _), (by decide : 16 + 0 ≤ _)⟩)
  dsimp only [Pt.U, Pt.locs, Pt.cells, Pt.slots] at X4 l4 y4 z4 st4 hQ4
  subst l4 y4 z4
  obtain ⟨rfl, N4q, Kq4, tk4_0, tk4_1, tk4_2, tk4_3, tk4_4, tk4_5⟩ := hQ4
  have N4 := Fr.app N2 N4q
  have tk2_3_v4 := tk2_3_v3.keep Kq4
  have tk2_4_v4 := tk2_4_v3.keep Kq4 (ninS ne_b2_0_b3 nin0)
  have tk2_5_v4 := tk2_5_v3.keep Kq4 (ninS ne_b2_0_b3 nin0)
  have tk2_6_v4 := tk2_6_v3.keep Kq4 (ninS ne_b2_1_b3 nin0)
  have E_b3_v4 := E_b3_v3.keep Kq4
  have O4 := O3.keep Kq4 (allS gn_b3 all0)
  obtain ⟨cq5, kq5, q5a, q5b, q5c⟩ := isOf hZ rfl tk4_0
  obtain ⟨_, _, ⟨T5, L5, k5, n5⟩, -, X5, ⟨Lc5, hQ5, l5, y5, z5⟩, st5⟩ := X4.virtualBack hx (y := (⟨"com/example/netloom/netloom/xml/NetReader$OpenAnnotations", "carriesGraphics", "()Z"⟩ : MethodName)) (z := (⟨"com/example/netloom/netloom/xml/NetReader$OpenAnnotations", "carriesGraphics", "()Z"⟩ : MethodName)) hown (mvT hZ (W hw 46 rfl)) (mvT hZ (W hw 47 rfl)) (notFace_of_selects (args := #[]) (mvT hZ (W hw 49 rfl))) (mvT hZ (W hw 49 rfl)) (mvT hZ (W hw 48 rfl)) (by decide) (backOf (W := 0) (rm_27 l Z a0 hw w kk iw vw hN [] b3 b2_0 b2_1 ((((p2 &&& (255 : Int32)).toUInt32.toUInt16.toUInt32.toInt32).toInt8.toInt32).toInt8.toInt32) kb2_0 T4.heap O4 gn_b3 tk4_0.lt tk4_0 gn_b2_0 tk2_3_v4.lt tk4_1 tk4_2 tk4_3 tk4_4 tk4_5 tk2_3_v4 gn_b2_1 tk2_6_v4.lt tk2_4_v4 tk2_5_v4 tk2_6_v4 (Ne.symm ne_b2_0_b3) (Ne.symm ne_b2_1_b3) tk2_2) hZ (W hw 50 rfl) (W hw 35 rfl) (by decide) (by decide)) q5a q5c (g := (mkF m 33 #[.val (.int p0), .val (.int p1), .val (.int p2), .val (.ref (w 1)), .val (.ref b2_0), .val (.ref b3), .unset, .unset, .unset, .unset, .unset, .unset] [(.ref b3)])) rfl (by rw [hml]; rfl) (Steps.refl _) (argsL := []) (rest := []) (lenOf pd_6 rfl) rfl (by show 2 * 0 + _ ≤ _; exact Nat.le_of_eq rfl) (hb hby at_33) (fun _ _ => ⟨rfl, rfl, (by decide : 3 + 0 ≤ _), (by decide : 16 + 0 ≤ _)⟩)
  dsimp only [Pt.U, Pt.locs, Pt.cells, Pt.slots] at X5 l5 y5 z5 st5 hQ5
  subst l5 y5 z5
  obtain ⟨rfl, N5q, e5⟩ := hQ5
  have N5 := Fr.app N4 N5q
  obtain ⟨cq6, kq6, q6a, q6b, q6c⟩ := isOf hZ e5 tk4_0
  obtain ⟨_, _, ⟨T6, L6, k6, n6⟩, -, X6, ⟨Lc6, hQ6, l6, y6, z6⟩, st6⟩ := X5.virtualBack hx (y := (⟨"com/example/netloom/netloom/xml/NetReader$OpenAnnotations", "carryGraphics", "()V"⟩ : MethodName)) (z := (⟨"com/example/netloom/netloom/xml/NetReader$OpenAnnotations", "carryGraphics", "()V"⟩ : MethodName)) hown (mvT hZ (W hw 53 rfl)) (mvT hZ (W hw 54 rfl)) (notFace_of_selects (args := #[]) (mvT hZ (W hw 56 rfl))) (mvT hZ (W hw 56 rfl)) (mvT hZ (W hw 55 rfl)) (by decide) (backOf (W := 0) (rm_30 l Z a0 hw w kk iw vw hN [] b3 b2_0 b2_1 ((((p2 &&& (255 : Int32)).toUInt32.toUInt16.toUInt32.toInt32).toInt8.toInt32).toInt8.toInt32) kb2_0 T4.heap O4 gn_b3 tk4_0.lt tk4_0 gn_b2_0 tk2_3_v4.lt tk4_1 tk4_2 tk4_3 tk4_4 tk4_5 tk2_3_v4 gn_b2_1 tk2_6_v4.lt tk2_4_v4 tk2_5_v4 tk2_6_v4 (Ne.symm ne_b2_0_b3) (Ne.symm ne_b2_1_b3) tk2_2) hZ (W hw 57 rfl) (W hw 35 rfl) (by decide) (by decide)) q6a q6c (g := (mkF m 71 #[.val (.int p0), .val (.int p1), .val (.int p2), .val (.ref (w 1)), .val (.ref b2_0), .val (.ref b3), .val (.int (0 : Int32)), .val (.int (1 : Int32)), .val (.int (0 : Int32)), .unset, .unset, .unset] [(.ref b3)])) rfl (by rw [hml]; rfl) (Steps.refl _) (argsL := []) (rest := []) (lenOf pd_7 rfl) rfl (by show 2 * 0 + _ ≤ _; exact Nat.le_of_eq rfl) (hb hby at_71) (fun _ _ => ⟨rfl, e5, (by decide : 3 + 0 ≤ _), (by decide : 16 + 0 ≤ _)⟩)
  dsimp only [Pt.U, Pt.locs, Pt.cells, Pt.slots] at X6 l6 y6 z6 st6 hQ6
  subst l6 y6 z6
  obtain ⟨rfl, N6q, Kq6, tk6_0, tk6_1, tk6_2, tk6_3, tk6_4, tk6_5⟩ := hQ6
  have N6 := Fr.app N5 N6q
  have tk2_3_v6 := tk2_3_v4.keep Kq6
  have tk2_4_v6 := tk2_4_v4.keep Kq6 (ninS ne_b2_0_b3 nin0)
  have tk2_5_v6 := tk2_5_v4.keep Kq6 (ninS ne_b2_0_b3 nin0)
  have tk2_6_v6 := tk2_6_v4.keep Kq6 (ninS ne_b2_1_b3 nin0)
  have tk4_0_v6 := tk4_0.keep Kq6
  have O6 := O4.keep Kq6 (allS gn_b3 all0)
  obtain ⟨cq7, kq7, q7a, q7b, q7c⟩ := isOf hZ rfl tk6_0
  obtain ⟨_, _, ⟨T7, L7, k7, n7⟩, -, X7, ⟨Lc7, hQ7, l7, y7, z7⟩, st7⟩ := X6.virtualBack hx (y := (⟨"com/example/netloom/netloom/xml/NetReader$OpenAnnotations", "carriesGraphics", "()Z"⟩ : MethodName)) (z := (⟨"com/example/netloom/netloom/xml/NetReader$OpenAnnotations", "carriesGraphics", "()Z"⟩ : MethodName)) hown (mvT hZ (W hw 46 rfl)) (mvT hZ (W hw 47 rfl)) (notFace_of_selects (args := #[]) (mvT hZ (W hw 49 rfl))) (mvT hZ (W hw 49 rfl)) (mvT hZ (W hw 48 rfl)) (by decide) (backOf (W := 0) (rm_31 l Z a0 hw w kk iw vw hN [] b3 b2_0 b2_1 ((((p2 &&& (255 : Int32)).toUInt32.toUInt16.toUInt32.toInt32).toInt8.toInt32).toInt8.toInt32) kb2_0 T6.heap O6 gn_b3 tk6_0.lt tk6_0 gn_b2_0 tk2_3_v6.lt tk6_1 tk6_2 tk6_3 tk6_4 tk6_5 tk2_3_v6 gn_b2_1 tk2_6_v6.lt tk2_4_v6 tk2_5_v6 tk2_6_v6 (Ne.symm ne_b2_0_b3) (Ne.symm ne_b2_1_b3) tk2_2) hZ (W hw 50 rfl) (W hw 35 rfl) (by decide) (by decide)) q7a q7c (g := (mkF m 86 #[.val (.int p0), .val (.int p1), .val (.int p2), .val (.ref (w 1)), .val (.ref b2_0), .val (.ref b3), .val (.int (0 : Int32)), .val (.int (1 : Int32)), .val (.int (0 : Int32)), .unset, .unset, .unset] [(.ref b3)])) rfl (by rw [hml]; rfl) (Steps.refl _) (argsL := []) (rest := []) (lenOf pd_6 rfl) rfl (by show 2 * 0 + _ ≤ _; exact Nat.le_of_eq rfl) (hb hby at_86) (fun _ _ => ⟨rfl, rfl, (by decide : 3 + 0 ≤ _), (by decide : 16 + 0 ≤ _)⟩)
  dsimp only [Pt.U, Pt.locs, Pt.cells, Pt.slots] at X7 l7 y7 z7 st7 hQ7
  subst l7 y7 z7
  obtain ⟨rfl, N7q, e7⟩ := hQ7
  have N7 := Fr.app N6 N7q
  obtain ⟨cq8, kq8, q8a, q8b, q8c⟩ := isOf hZ e7 tk6_0
  obtain ⟨_, _, ⟨T8, L8, k8, n8⟩, -, X8, ⟨Lc8, hQ8, l8, y8, z8⟩, st8⟩ := X7.virtualBack hx (y := (⟨"com/example/netloom/netloom/xml/NetReader$OpenAnnotations", "carriesGraphics", "()Z"⟩ : MethodName)) (z := (⟨"com/example/netloom/netloom/xml/NetReader$OpenAnnotations", "carriesGraphics", "()Z"⟩ : MethodName)) hown (mvT hZ (W hw 46 rfl)) (mvT hZ (W hw 47 rfl)) (notFace_of_selects (args := #[]) (mvT hZ (W hw 49 rfl))) (mvT hZ (W hw 49 rfl)) (mvT hZ (W hw 48 rfl)) (by decide) (backOf (W := 0) (rm_31 l Z a0 hw w kk iw vw hN [] b3 b2_0 b2_1 ((((p2 &&& (255 : Int32)).toUInt32.toUInt16.toUInt32.toInt32).toInt8.toInt32).toInt8.toInt32) kb2_0 T6.heap O6 gn_b3 tk6_0.lt tk6_0 gn_b2_0 tk2_3_v6.lt tk6_1 tk6_2 tk6_3 tk6_4 tk6_5 tk2_3_v6 gn_b2_1 tk2_6_v6.lt tk2_4_v6 tk2_5_v6 tk2_6_v6 (Ne.symm ne_b2_0_b3) (Ne.symm ne_b2_1_b3) tk2_2) hZ (W hw 50 rfl) (W hw 35 rfl) (by decide) (by decide)) q8a q8c (g := (mkF m 93 #[.val (.int p0), .val (.int p1), .val (.int p2), .val (.ref (w 1)), .val (.ref b2_0), .val (.ref b3), .val (.int (0 : Int32)), .val (.int (1 : Int32)), .val (.int (0 : Int32)), .val (.int (0 : Int32)), .unset, .unset] [(.ref b3)])) rfl (by rw [hml]; rfl) (Steps.refl _) (argsL := []) (rest := []) (lenOf pd_6 rfl) rfl (by show 2 * 0 + _ ≤ _; exact Nat.le_of_eq rfl) (hb hby at_93) (fun _ _ => ⟨rfl, e7, (by decide : 3 + 0 ≤ _), (by decide : 16 + 0 ≤ _)⟩)
  dsimp only [Pt.U, Pt.locs, Pt.cells, Pt.slots] at X8 l8 y8 z8 st8 hQ8
  subst l8 y8 z8
  obtain ⟨rfl, N8q, e8⟩ := hQ8
  have N8 := Fr.app N7 N8q
  obtain ⟨fs, hr, hrun, hended, hW, hsame⟩ := X8.leave (v := some (.int (1 : Int32))) (fun h => by rw [Bd.returns] at h; cases h)
  refine ⟨_, _, pre0 _ ?_, hrun, hended, _, _, rfl, ?_, ⟨_, rfl⟩, hW, hsame.mono (by decide) (by decide)⟩
  · show Steps p.tables e below (s₁.setTop (mkF m 0 #[.val (.int p0), .val (.int p1), .val (.int p2), .unset, .unset, .unset, .unset, .unset, .unset, .unset, .unset, .unset] [])) _
    refine XS.iloadN X0.here hx rfl (hb hby at_0) rfl ?_
    show Steps p.tables e below (s₁.setTop (mkF m 1 #[.val (.int p0), .val (.int p1), .val (.int p2), .unset, .unset, .unset, .unset, .unset, .unset, .unset, .unset, .unset] [(.int p1)])) _
    refine XS.iconst X0.here hx rfl (hb hby at_1) ?_
    show Steps p.tables e below (s₁.setTop (mkF m 2 #[.val (.int p0), .val (.int p1), .val (.int p2), .unset, .unset, .unset, .unset, .unset, .unset, .unset, .unset, .unset] [(.int (3 : Int32)), (.int p1)])) _
    refine XS.iand X0.here hx rfl (hb hby at_2) rfl ?_
    show Steps p.tables e below (s₁.setTop (mkF m 3 #[.val (.int p0), .val (.int p1), .val (.int p2), .unset, .unset, .unset, .unset, .unset, .unset, .unset, .unset, .unset] [(.int (p1 &&& (3 : Int32)))])) _
    rw [hp0]
    show Steps p.tables e below (s₁.setTop (mkF m 3 #[.val (.int p0), .val (.int p1), .val (.int p2), .unset, .unset, .unset, .unset, .unset, .unset, .unset, .unset, .unset] [(.int (2 : Int32))])) _
    refine st1 _ ?_
    show Steps p.tables e below (T1.setTop (mkF m 6 #[.val (.int p0), .val (.int p1), .val (.int p2), .unset, .unset, .unset, .unset, .unset, .unset, .unset, .unset, .unset] [(.ref (w 1))])) _
    refine XS.astoreN X1.here hx rfl (hb hby at_6) rfl rfl (l' := #[.val (.int p0), .val (.int p1), .val (.int p2), .val (.ref (w 1)), .unset, .unset, .unset, .unset, .unset, .unset, .unset, .unset]) rfl ?_
    show Steps p.tables e below (T1.setTop (mkF m 7 #[.val (.int p0), .val (.int p1), .val (.int p2), .val (.ref (w 1)), .unset, .unset, .unset, .unset, .unset, .unset, .unset, .unset] [])) _
    refine XS.iloadN X1.here hx rfl (hb hby at_7) rfl ?_
    show Steps p.tables e below (T1.setTop (mkF m 8 #[.val (.int p0), .val (.int p1), .val (.int p2), .val (.ref (w 1)), .unset, .unset, .unset, .unset, .unset, .unset, .unset, .unset] [(.int p2)])) _
    refine XS.sipush X1.here hx rfl (hb hby at_8) ?_
    show Steps p.tables e below (T1.setTop (mkF m 11 #[.val (.int p0), .val (.int p1), .val (.int p2), .val (.ref (w 1)), .unset, .unset, .unset, .unset, .unset, .unset, .unset, .unset] [(.int (255 : Int32)), (.int p2)])) _
    refine XS.iand X1.here hx rfl (hb hby at_11) rfl ?_
    show Steps p.tables e below (T1.setTop (mkF m 12 #[.val (.int p0), .val (.int p1), .val (.int p2), .val (.ref (w 1)), .unset, .unset, .unset, .unset, .unset, .unset, .unset, .unset] [(.int (p2 &&& (255 : Int32)))])) _
    refine XS.i2c X1.here hx rfl (hb hby at_12) rfl ?_
    show Steps p.tables e below (T1.setTop (mkF m 13 #[.val (.int p0), .val (.int p1), .val (.int p2), .val (.ref (w 1)), .unset, .unset, .unset, .unset, .unset, .unset, .unset, .unset] [(.int ((p2 &&& (255 : Int32)).toUInt32.toUInt16.toUInt32.toInt32))])) _
    refine st2 _ ?_
    show Steps p.tables e below (T2.setTop (mkF m 16 #[.val (.int p0), .val (.int p1), .val (.int p2), .val (.ref (w 1)), .unset, .unset, .unset, .unset, .unset, .unset, .unset, .unset] [(.ref b2_0)])) _
    refine XS.astore X2.here hx rfl (hb hby at_16) rfl rfl (l' := #[.val (.int p0), .val (.int p1), .val (.int p2), .val (.ref (w 1)), .val (.ref b2_0), .unset, .unset, .unset, .unset, .unset, .unset, .unset]) rfl ?_
    show Steps p.tables e below (T2.setTop (mkF m 18 #[.val (.int p0), .val (.int p1), .val (.int p2), .val (.ref (w 1)), .val (.ref b2_0), .unset, .unset, .unset, .unset, .unset, .unset, .unset] [])) _
    refine st3 _ ?_
    show Steps p.tables e below (T3.setTop (mkF m 21 #[.val (.int p0), .val (.int p1), .val (.int p2), .val (.ref (w 1)), .val (.ref b2_0), .unset, .unset, .unset, .unset, .unset, .unset, .unset] [(.ref b3)])) _
    refine XS.dup X3.here hx rfl (hb hby at_21) rfl rfl ?_
    show Steps p.tables e below (T3.setTop (mkF m 22 #[.val (.int p0), .val (.int p1), .val (.int p2), .val (.ref (w 1)), .val (.ref b2_0), .unset, .unset, .unset, .unset, .unset, .unset, .unset] [(.ref b3), (.ref b3)])) _
    refine XS.aload X3.here hx rfl (hb hby at_22) rfl rfl ?_
    show Steps p.tables e below (T3.setTop (mkF m 24 #[.val (.int p0), .val (.int p1), .val (.int p2), .val (.ref (w 1)), .val (.ref b2_0), .unset, .unset, .unset, .unset, .unset, .unset, .unset] [(.ref b2_0), (.ref b3), (.ref b3)])) _
    refine XS.aloadN X3.here hx rfl (hb hby at_24) rfl rfl ?_
    show Steps p.tables e below (T3.setTop (mkF m 25 #[.val (.int p0), .val (.int p1), .val (.int p2), .val (.ref (w 1)), .val (.ref b2_0), .unset, .unset, .unset, .unset, .unset, .unset, .unset] [(.ref (w 1)), (.ref b2_0), (.ref b3), (.ref b3)])) _
    refine XS.aconstNull X3.here hx rfl (hb hby at_25) ?_
    show Steps p.tables e below (T3.setTop (mkF m 26 #[.val (.int p0), .val (.int p1), .val (.int p2), .val (.ref (w 1)), .val (.ref b2_0), .unset, .unset, .unset, .unset, .unset, .unset, .unset] [.null, (.ref (w 1)), (.ref b2_0), (.ref b3), (.ref b3)])) _
    refine st4.trans ?_
    show Steps p.tables e below (T4.setTop (mkF m 29 #[.val (.int p0), .val (.int p1), .val (.int p2), .val (.ref (w 1)), .val (.ref b2_0), .unset, .unset, .unset, .unset, .unset, .unset, .unset] [(.ref b3)])) _
    refine XS.astore X4.here hx rfl (hb hby at_29) rfl rfl (l' := #[.val (.int p0), .val (.int p1), .val (.int p2), .val (.ref (w 1)), .val (.ref b2_0), .val (.ref b3), .unset, .unset, .unset, .unset, .unset, .unset]) rfl ?_
    show Steps p.tables e below (T4.setTop (mkF m 31 #[.val (.int p0), .val (.int p1), .val (.int p2), .val (.ref (w 1)), .val (.ref b2_0), .val (.ref b3), .unset, .unset, .unset, .unset, .unset, .unset] [])) _
    refine XS.aload X4.here hx rfl (hb hby at_31) rfl rfl ?_
    show Steps p.tables e below (T4.setTop (mkF m 33 #[.val (.int p0), .val (.int p1), .val (.int p2), .val (.ref (w 1)), .val (.ref b2_0), .val (.ref b3), .unset, .unset, .unset, .unset, .unset, .unset] [(.ref b3)])) _
    refine st5.trans ?_
    show Steps p.tables e below (T5.setTop (mkF m 36 #[.val (.int p0), .val (.int p1), .val (.int p2), .val (.ref (w 1)), .val (.ref b2_0), .val (.ref b3), .unset, .unset, .unset, .unset, .unset, .unset] [(.int (0 : Int32))])) _
    refine XS.istore X5.here hx rfl (hb hby at_36) rfl (l' := #[.val (.int p0), .val (.int p1), .val (.int p2), .val (.ref (w 1)), .val (.ref b2_0), .val (.ref b3), .val (.int (0 : Int32)), .unset, .unset, .unset, .unset, .unset]) rfl ?_
    show Steps p.tables e below (T5.setTop (mkF m 38 #[.val (.int p0), .val (.int p1), .val (.int p2), .val (.ref (w 1)), .val (.ref b2_0), .val (.ref b3), .val (.int (0 : Int32)), .unset, .unset, .unset, .unset, .unset] [])) _
    refine XS.iloadN X5.here hx rfl (hb hby at_38) rfl ?_
    show Steps p.tables e below (T5.setTop (mkF m 39 #[.val (.int p0), .val (.int p1), .val (.int p2), .val (.ref (w 1)), .val (.ref b2_0), .val (.ref b3), .val (.int (0 : Int32)), .unset, .unset, .unset, .unset, .unset] [(.int p0)])) _
    refine XS.iconst X5.here hx rfl (hb hby at_39) ?_
    show Steps p.tables e below (T5.setTop (mkF m 40 #[.val (.int p0), .val (.int p1), .val (.int p2), .val (.ref (w 1)), .val (.ref b2_0), .val (.ref b3), .val (.int (0 : Int32)), .unset, .unset, .unset, .unset, .unset] [(.int (1 : Int32)), (.int p0)])) _
    refine XS.iand X5.here hx rfl (hb hby at_40) rfl ?_
    show Steps p.tables e below (T5.setTop (mkF m 41 #[.val (.int p0), .val (.int p1), .val (.int p2), .val (.ref (w 1)), .val (.ref b2_0), .val (.ref b3), .val (.int (0 : Int32)), .unset, .unset, .unset, .unset, .unset] [(.int (p0 &&& (1 : Int32)))])) _
    rw [hp2]
    show Steps p.tables e below (T5.setTop (mkF m 41 #[.val (.int p0), .val (.int p1), .val (.int p2), .val (.ref (w 1)), .val (.ref b2_0), .val (.ref b3), .val (.int (0 : Int32)), .unset, .unset, .unset, .unset, .unset] [(.int (1 : Int32))])) _
    refine XS.ifNo X5.here hx rfl (hb hby at_41) rfl ((if0 _ _).trans (feq (by decide : ¬ ((1 : Int32) = (0 : Int32)))).1) ?_
    show Steps p.tables e below (T5.setTop (mkF m 44 #[.val (.int p0), .val (.int p1), .val (.int p2), .val (.ref (w 1)), .val (.ref b2_0), .val (.ref b3), .val (.int (0 : Int32)), .unset, .unset, .unset, .unset, .unset] [])) _
    refine XS.iconst X5.here hx rfl (hb hby at_44) ?_
    show Steps p.tables e below (T5.setTop (mkF m 45 #[.val (.int p0), .val (.int p1), .val (.int p2), .val (.ref (w 1)), .val (.ref b2_0), .val (.ref b3), .val (.int (0 : Int32)), .unset, .unset, .unset, .unset, .unset] [(.int (1 : Int32))])) _
    refine XS.goto X5.here hx rfl (pc0 := 45) (pc' := 49) rfl (hb hby at_45) (by decide) (by decide) ?_
    show Steps p.tables e below (T5.setTop (mkF m 49 #[.val (.int p0), .val (.int p1), .val (.int p2), .val (.ref (w 1)), .val (.ref b2_0), .val (.ref b3), .val (.int (0 : Int32)), .unset, .unset, .unset, .unset, .unset] [(.int (1 : Int32))])) _
    refine XS.istore X5.here hx rfl (hb hby at_49) rfl (l' := #[.val (.int p0), .val (.int p1), .val (.int p2), .val (.ref (w 1)), .val (.ref b2_0), .val (.ref b3), .val (.int (0 : Int32)), .val (.int (1 : Int32)), .unset, .unset, .unset, .unset]) rfl ?_
    show Steps p.tables e below (T5.setTop (mkF m 51 #[.val (.int p0), .val (.int p1), .val (.int p2), .val (.ref (w 1)), .val (.ref b2_0), .val (.ref b3), .val (.int (0 : Int32)), .val (.int (1 : Int32)), .unset, .unset, .unset, .unset] [])) _
    refine XS.iloadN X5.here hx rfl (hb hby at_51) rfl ?_
    show Steps p.tables e below (T5.setTop (mkF m 52 #[.val (.int p0), .val (.int p1), .val (.int p2), .val (.ref (w 1)), .val (.ref b2_0), .val (.ref b3), .val (.int (0 : Int32)), .val (.int (1 : Int32)), .unset, .unset, .unset, .unset] [(.int p0)])) _
    refine XS.iconst X5.here hx rfl (hb hby at_52) ?_
    show Steps p.tables e below (T5.setTop (mkF m 53 #[.val (.int p0), .val (.int p1), .val (.int p2), .val (.ref (w 1)), .val (.ref b2_0), .val (.ref b3), .val (.int (0 : Int32)), .val (.int (1 : Int32)), .unset, .unset, .unset, .unset] [(.int (2 : Int32)), (.int p0)])) _
    refine XS.iand X5.here hx rfl (hb hby at_53) rfl ?_
    show Steps p.tables e below (T5.setTop (mkF m 54 #[.val (.int p0), .val (.int p1), .val (.int p2), .val (.ref (w 1)), .val (.ref b2_0), .val (.ref b3), .val (.int (0 : Int32)), .val (.int (1 : Int32)), .unset, .unset, .unset, .unset] [(.int (p0 &&& (2 : Int32)))])) _
    refine XS.ifYes X5.here hx rfl (pc0 := 54) (pc' := 61) rfl (hb hby at_54) rfl ((if0 _ _).trans (teq hp3).1) (by decide) (by decide) ?_
    show Steps p.tables e below (T5.setTop (mkF m 61 #[.val (.int p0), .val (.int p1), .val (.int p2), .val (.ref (w 1)), .val (.ref b2_0), .val (.ref b3), .val (.int (0 : Int32)), .val (.int (1 : Int32)), .unset, .unset, .unset, .unset] [])) _
    refine XS.iconst X5.here hx rfl (hb hby at_61) ?_
    show Steps p.tables e below (T5.setTop (mkF m 62 #[.val (.int p0), .val (.int p1), .val (.int p2), .val (.ref (w 1)), .val (.ref b2_0), .val (.ref b3), .val (.int (0 : Int32)), .val (.int (1 : Int32)), .unset, .unset, .unset, .unset] [(.int (0 : Int32))])) _
    refine XS.istore X5.here hx rfl (hb hby at_62) rfl (l' := #[.val (.int p0), .val (.int p1), .val (.int p2), .val (.ref (w 1)), .val (.ref b2_0), .val (.ref b3), .val (.int (0 : Int32)), .val (.int (1 : Int32)), .val (.int (0 : Int32)), .unset, .unset, .unset]) rfl ?_
    show Steps p.tables e below (T5.setTop (mkF m 64 #[.val (.int p0), .val (.int p1), .val (.int p2), .val (.ref (w 1)), .val (.ref b2_0), .val (.ref b3), .val (.int (0 : Int32)), .val (.int (1 : Int32)), .val (.int (0 : Int32)), .unset, .unset, .unset] [])) _
    refine XS.iload X5.here hx rfl (hb hby at_64) rfl ?_
    show Steps p.tables e below (T5.setTop (mkF m 66 #[.val (.int p0), .val (.int p1), .val (.int p2), .val (.ref (w 1)), .val (.ref b2_0), .val (.ref b3), .val (.int (0 : Int32)), .val (.int (1 : Int32)), .val (.int (0 : Int32)), .unset, .unset, .unset] [(.int (1 : Int32))])) _
    refine XS.ifNo X5.here hx rfl (hb hby at_66) rfl ((if0 _ _).trans (feq (by decide : ¬ ((1 : Int32) = (0 : Int32)))).1) ?_
    show Steps p.tables e below (T5.setTop (mkF m 69 #[.val (.int p0), .val (.int p1), .val (.int p2), .val (.ref (w 1)), .val (.ref b2_0), .val (.ref b3), .val (.int (0 : Int32)), .val (.int (1 : Int32)), .val (.int (0 : Int32)), .unset, .unset, .unset] [])) _
    refine XS.aload X5.here hx rfl (hb hby at_69) rfl rfl ?_
    show Steps p.tables e below (T5.setTop (mkF m 71 #[.val (.int p0), .val (.int p1), .val (.int p2), .val (.ref (w 1)), .val (.ref b2_0), .val (.ref b3), .val (.int (0 : Int32)), .val (.int (1 : Int32)), .val (.int (0 : Int32)), .unset, .unset, .unset] [(.ref b3)])) _
    refine st6.trans ?_
    show Steps p.tables e below (T6.setTop (mkF m 74 #[.val (.int p0), .val (.int p1), .val (.int p2), .val (.ref (w 1)), .val (.ref b2_0), .val (.ref b3), .val (.int (0 : Int32)), .val (.int (1 : Int32)), .val (.int (0 : Int32)), .unset, .unset, .unset] [])) _
    refine XS.iload X6.here hx rfl (hb hby at_74) rfl ?_
    show Steps p.tables e below (T6.setTop (mkF m 76 #[.val (.int p0), .val (.int p1), .val (.int p2), .val (.ref (w 1)), .val (.ref b2_0), .val (.ref b3), .val (.int (0 : Int32)), .val (.int (1 : Int32)), .val (.int (0 : Int32)), .unset, .unset, .unset] [(.int (0 : Int32))])) _
    refine XS.ifYes X6.here hx rfl (pc0 := 76) (pc' := 84) rfl (hb hby at_76) rfl ((if0 _ _).trans (teq (by decide : (0 : Int32) = (0 : Int32))).1) (by decide) (by decide) ?_
    show Steps p.tables e below (T6.setTop (mkF m 84 #[.val (.int p0), .val (.int p1), .val (.int p2), .val (.ref (w 1)), .val (.ref b2_0), .val (.ref b3), .val (.int (0 : Int32)), .val (.int (1 : Int32)), .val (.int (0 : Int32)), .unset, .unset, .unset] [])) _
    refine XS.aload X6.here hx rfl (hb hby at_84) rfl rfl ?_
    show Steps p.tables e below (T6.setTop (mkF m 86 #[.val (.int p0), .val (.int p1), .val (.int p2), .val (.ref (w 1)), .val (.ref b2_0), .val (.ref b3), .val (.int (0 : Int32)), .val (.int (1 : Int32)), .val (.int (0 : Int32)), .unset, .unset, .unset] [(.ref b3)])) _
    refine st7.trans ?_
    show Steps p.tables e below (T7.setTop (mkF m 89 #[.val (.int p0), .val (.int p1), .val (.int p2), .val (.ref (w 1)), .val (.ref b2_0), .val (.ref b3), .val (.int (0 : Int32)), .val (.int (1 : Int32)), .val (.int (0 : Int32)), .unset, .unset, .unset] [(.int (0 : Int32))])) _
    refine XS.istore X7.here hx rfl (hb hby at_89) rfl (l' := #[.val (.int p0), .val (.int p1), .val (.int p2), .val (.ref (w 1)), .val (.ref b2_0), .val (.ref b3), .val (.int (0 : Int32)), .val (.int (1 : Int32)), .val (.int (0 : Int32)), .val (.int (0 : Int32)), .unset, .unset]) rfl ?_
    show Steps p.tables e below (T7.setTop (mkF m 91 #[.val (.int p0), .val (.int p1), .val (.int p2), .val (.ref (w 1)), .val (.ref b2_0), .val (.ref b3), .val (.int (0 : Int32)), .val (.int (1 : Int32)), .val (.int (0 : Int32)), .val (.int (0 : Int32)), .unset, .unset] [])) _
    refine XS.aload X7.here hx rfl (hb hby at_91) rfl rfl ?_
    show Steps p.tables e below (T7.setTop (mkF m 93 #[.val (.int p0), .val (.int p1), .val (.int p2), .val (.ref (w 1)), .val (.ref b2_0), .val (.ref b3), .val (.int (0 : Int32)), .val (.int (1 : Int32)), .val (.int (0 : Int32)), .val (.int (0 : Int32)), .unset, .unset] [(.ref b3)])) _
    refine st8.trans ?_
    show Steps p.tables e below (T8.setTop (mkF m 96 #[.val (.int p0), .val (.int p1), .val (.int p2), .val (.ref (w 1)), .val (.ref b2_0), .val (.ref b3), .val (.int (0 : Int32)), .val (.int (1 : Int32)), .val (.int (0 : Int32)), .val (.int (0 : Int32)), .unset, .unset] [(.int (0 : Int32))])) _
    refine XS.istore X8.here hx rfl (hb hby at_96) rfl (l' := #[.val (.int p0), .val (.int p1), .val (.int p2), .val (.ref (w 1)), .val (.ref b2_0), .val (.ref b3), .val (.int (0 : Int32)), .val (.int (1 : Int32)), .val (.int (0 : Int32)), .val (.int (0 : Int32)), .val (.int (0 : Int32)), .unset]) rfl ?_
    show Steps p.tables e below (T8.setTop (mkF m 98 #[.val (.int p0), .val (.int p1), .val (.int p2), .val (.ref (w 1)), .val (.ref b2_0), .val (.ref b3), .val (.int (0 : Int32)), .val (.int (1 : Int32)), .val (.int (0 : Int32)), .val (.int (0 : Int32)), .val (.int (0 : Int32)), .unset] [])) _
    refine XS.iload X8.here hx rfl (hb hby at_98) rfl ?_
    show Steps p.tables e below (T8.setTop (mkF m 100 #[.val (.int p0), .val (.int p1), .val (.int p2), .val (.ref (w 1)), .val (.ref b2_0), .val (.ref b3), .val (.int (0 : Int32)), .val (.int (1 : Int32)), .val (.int (0 : Int32)), .val (.int (0 : Int32)), .val (.int (0 : Int32)), .unset] [(.int (1 : Int32))])) _
    refine XS.ifNo X8.here hx rfl (hb hby at_100) rfl ((if0 _ _).trans (feq (by decide : ¬ ((1 : Int32) = (0 : Int32)))).1) ?_
    show Steps p.tables e below (T8.setTop (mkF m 103 #[.val (.int p0), .val (.int p1), .val (.int p2), .val (.ref (w 1)), .val (.ref b2_0), .val (.ref b3), .val (.int (0 : Int32)), .val (.int (1 : Int32)), .val (.int (0 : Int32)), .val (.int (0 : Int32)), .val (.int (0 : Int32)), .unset] [])) _
    refine XS.aloadN X8.here hx rfl (hb hby at_103) rfl rfl ?_
    show Steps p.tables e below (T8.setTop (mkF m 104 #[.val (.int p0), .val (.int p1), .val (.int p2), .val (.ref (w 1)), .val (.ref b2_0), .val (.ref b3), .val (.int (0 : Int32)), .val (.int (1 : Int32)), .val (.int (0 : Int32)), .val (.int (0 : Int32)), .val (.int (0 : Int32)), .unset] [(.ref (w 1))])) _
    refine XS.ifnonnullYes X8.here hx rfl (pc0 := 104) (pc' := 111) rfl (hb hby at_104) rfl (by decide) (by decide) ?_
    show Steps p.tables e below (T8.setTop (mkF m 111 #[.val (.int p0), .val (.int p1), .val (.int p2), .val (.ref (w 1)), .val (.ref b2_0), .val (.ref b3), .val (.int (0 : Int32)), .val (.int (1 : Int32)), .val (.int (0 : Int32)), .val (.int (0 : Int32)), .val (.int (0 : Int32)), .unset] [])) _
    refine XS.iconst X8.here hx rfl (hb hby at_111) ?_
    show Steps p.tables e below (T8.setTop (mkF m 112 #[.val (.int p0), .val (.int p1), .val (.int p2), .val (.ref (w 1)), .val (.ref b2_0), .val (.ref b3), .val (.int (0 : Int32)), .val (.int (1 : Int32)), .val (.int (0 : Int32)), .val (.int (0 : Int32)), .val (.int (0 : Int32)), .unset] [(.int (0 : Int32))])) _
    refine XS.istore X8.here hx rfl (hb hby at_112) rfl (l' := #[.val (.int p0), .val (.int p1), .val (.int p2), .val (.ref (w 1)), .val (.ref b2_0), .val (.ref b3), .val (.int (0 : Int32)), .val (.int (1 : Int32)), .val (.int (0 : Int32)), .val (.int (0 : Int32)), .val (.int (0 : Int32)), .val (.int (0 : Int32))]) rfl ?_
    show Steps p.tables e below (T8.setTop (mkF m 114 #[.val (.int p0), .val (.int p1), .val (.int p2), .val (.ref (w 1)), .val (.ref b2_0), .val (.ref b3), .val (.int (0 : Int32)), .val (.int (1 : Int32)), .val (.int (0 : Int32)), .val (.int (0 : Int32)), .val (.int (0 : Int32)), .val (.int (0 : Int32))] [])) _
    refine XS.iload X8.here hx rfl (hb hby at_114) rfl ?_
    show Steps p.tables e below (T8.setTop (mkF m 116 #[.val (.int p0), .val (.int p1), .val (.int p2), .val (.ref (w 1)), .val (.ref b2_0), .val (.ref b3), .val (.int (0 : Int32)), .val (.int (1 : Int32)), .val (.int (0 : Int32)), .val (.int (0 : Int32)), .val (.int (0 : Int32)), .val (.int (0 : Int32))] [(.int (0 : Int32))])) _
    refine XS.ifNo X8.here hx rfl (hb hby at_116) rfl ((if0 _ _).trans (teq (by decide : (0 : Int32) = (0 : Int32))).2) ?_
    show Steps p.tables e below (T8.setTop (mkF m 119 #[.val (.int p0), .val (.int p1), .val (.int p2), .val (.ref (w 1)), .val (.ref b2_0), .val (.ref b3), .val (.int (0 : Int32)), .val (.int (1 : Int32)), .val (.int (0 : Int32)), .val (.int (0 : Int32)), .val (.int (0 : Int32)), .val (.int (0 : Int32))] [])) _
    refine XS.iload X8.here hx rfl (hb hby at_119) rfl ?_
    show Steps p.tables e below (T8.setTop (mkF m 121 #[.val (.int p0), .val (.int p1), .val (.int p2), .val (.ref (w 1)), .val (.ref b2_0), .val (.ref b3), .val (.int (0 : Int32)), .val (.int (1 : Int32)), .val (.int (0 : Int32)), .val (.int (0 : Int32)), .val (.int (0 : Int32)), .val (.int (0 : Int32))] [(.int (0 : Int32))])) _
    refine XS.iload X8.here hx rfl (hb hby at_121) rfl ?_
    show Steps p.tables e below (T8.setTop (mkF m 123 #[.val (.int p0), .val (.int p1), .val (.int p2), .val (.ref (w 1)), .val (.ref b2_0), .val (.ref b3), .val (.int (0 : Int32)), .val (.int (1 : Int32)), .val (.int (0 : Int32)), .val (.int (0 : Int32)), .val (.int (0 : Int32)), .val (.int (0 : Int32))] [(.int (0 : Int32)), (.int (0 : Int32))])) _
    refine XS.icmpNo X8.here hx rfl (hb hby at_123) rfl (teq (by decide : (0 : Int32) = (0 : Int32))).2 ?_
    show Steps p.tables e below (T8.setTop (mkF m 126 #[.val (.int p0), .val (.int p1), .val (.int p2), .val (.ref (w 1)), .val (.ref b2_0), .val (.ref b3), .val (.int (0 : Int32)), .val (.int (1 : Int32)), .val (.int (0 : Int32)), .val (.int (0 : Int32)), .val (.int (0 : Int32)), .val (.int (0 : Int32))] [])) _
    refine XS.iload X8.here hx rfl (hb hby at_126) rfl ?_
    show Steps p.tables e below (T8.setTop (mkF m 128 #[.val (.int p0), .val (.int p1), .val (.int p2), .val (.ref (w 1)), .val (.ref b2_0), .val (.ref b3), .val (.int (0 : Int32)), .val (.int (1 : Int32)), .val (.int (0 : Int32)), .val (.int (0 : Int32)), .val (.int (0 : Int32)), .val (.int (0 : Int32))] [(.int (0 : Int32))])) _
    refine XS.iload X8.here hx rfl (hb hby at_128) rfl ?_
    show Steps p.tables e below (T8.setTop (mkF m 130 #[.val (.int p0), .val (.int p1), .val (.int p2), .val (.ref (w 1)), .val (.ref b2_0), .val (.ref b3), .val (.int (0 : Int32)), .val (.int (1 : Int32)), .val (.int (0 : Int32)), .val (.int (0 : Int32)), .val (.int (0 : Int32)), .val (.int (0 : Int32))] [(.int (0 : Int32)), (.int (0 : Int32))])) _
    refine XS.icmpNo X8.here hx rfl (hb hby at_130) rfl (teq (by decide : (0 : Int32) = (0 : Int32))).2 ?_
    show Steps p.tables e below (T8.setTop (mkF m 133 #[.val (.int p0), .val (.int p1), .val (.int p2), .val (.ref (w 1)), .val (.ref b2_0), .val (.ref b3), .val (.int (0 : Int32)), .val (.int (1 : Int32)), .val (.int (0 : Int32)), .val (.int (0 : Int32)), .val (.int (0 : Int32)), .val (.int (0 : Int32))] [])) _
    refine XS.iconst X8.here hx rfl (hb hby at_133) ?_
    show Steps p.tables e below (T8.setTop (mkF m 134 #[.val (.int p0), .val (.int p1), .val (.int p2), .val (.ref (w 1)), .val (.ref b2_0), .val (.ref b3), .val (.int (0 : Int32)), .val (.int (1 : Int32)), .val (.int (0 : Int32)), .val (.int (0 : Int32)), .val (.int (0 : Int32)), .val (.int (0 : Int32))] [(.int (1 : Int32))])) _
    refine XS.goto X8.here hx rfl (pc0 := 134) (pc' := 138) rfl (hb hby at_134) (by decide) (by decide) ?_
    show Steps p.tables e below (T8.setTop (mkF m 138 #[.val (.int p0), .val (.int p1), .val (.int p2), .val (.ref (w 1)), .val (.ref b2_0), .val (.ref b3), .val (.int (0 : Int32)), .val (.int (1 : Int32)), .val (.int (0 : Int32)), .val (.int (0 : Int32)), .val (.int (0 : Int32)), .val (.int (0 : Int32))] [(.int (1 : Int32))])) _
    exact retN X8 hx (t := .boolean) Bd.returns (by simp) (hb hby at_138) hr
  · show OL (some (.int (1 : Int32))) Z.heap.size _ T8.heap _
    exact ⟨rfl, N8⟩
set_option maxRecDepth 65536 in
set_option maxHeartbeats 40000000 in
theorem rm_33 (l : Launch) (Z : State) (a0 : Array Value) (hw : ∀ d ∈ tables_1, d.before a0 Z = true) (w : Nat → Addr) (kk : Nat → ClassId) (iw : Nat → Int32) (vw : Nat → Value) (hN : Wd Z w kk iw vw) (ws : List Jvm.Cond) (o1 : Addr) (o2 : Addr) (o3 : Addr) (t0 : Int32) (kc_o3 : ClassId) (h0 : Heap) (O0 : Old Z Z.heap.size h0) (gn_o1 : Z.heap.size ≤ o1) (lt_o1 : o1 < h0.size) (E_o1 : Exa Z h0 o1 "com/example/netloom/netloom/xml/NetReader$OpenAnnotations") (gn_o2 : Z.heap.size ≤ o2) (lt_o2 : o2 < h0.size) (F_o1_owner : Fld Z h0 o1 "com/example/netloom/netloom/xml/NetReader$OpenAnnotations" "owner" "Ljava/lang/String;" (.ref o2)) (F_o1_form : Fld Z h0 o1 "com/example/netloom/netloom/xml/NetReader$OpenAnnotations" "form" "Lcom/example/netloom/netloom/xml/XmlGraphics$Form;" (.ref (w 1))) (F_o1_carries : Fld Z h0 o1 "com/example/netloom/netloom/xml/NetReader$OpenAnnotations" "carries" "Ljava/util/Set;" .null) (F_o1_graphicsCarried : Fld Z h0 o1 "com/example/netloom/netloom/xml/NetReader$OpenAnnotations" "graphicsCarried" "Z" (.int (1 : Int32))) (F_o1_graphics : Fld Z h0 o1 "com/example/netloom/netloom/xml/NetReader$OpenAnnotations" "graphics" "Lcom/example/netloom/netloom/net/Graphics;" .null) (E_o2 : Exa Z h0 o2 "java/lang/String") (gn_o3 : Z.heap.size ≤ o3) (lt_o3 : o3 < h0.size) (F_o2_value : Fld Z h0 o2 "java/lang/String" "value" "[B" (.ref o3)) (F_o2_coder : Fld Z h0 o2 "java/lang/String" "coder" "B" (.int (0 : Int32))) (V_o3 : Arv Z h0 o3 kc_o3 .byte (1 : Int32) [(.int t0)] (.int (0 : Int32))) (ne_o1_o2 : o1 ≠ o2) (ne_o1_o3 : o1 ≠ o3) (ne_o2_o3 : o2 ≠ o3) :
    MetFree l (⟨"com/example/netloom/netloom/xml/NetReader$OpenAnnotations", "carryGraphics", "()V"⟩ : MethodName) (head1 (Jvm.Cond.code (⟨"com/example/netloom/netloom/xml/NetReader$OpenAnnotations", "carryGraphics", "()V"⟩ : MethodName) prog_77_method_2_code 1 none :: ws) ({ frames := 0, cells := 0, slots := 0, locals := 0 } : Room)) (fun a U => a = #[(.ref o1)] ∧ Z.Warmed39 U.vm ∧ U.heap = h0) (fun _ _ _ _ _ => True) (fun _ U o U' => ∃ v L, o = .returned v ∧ Qd_8 Z w kk iw vw o1 o2 o3 t0 kc_o3 h0 Z.heap.size v U'.heap L ∧ FrameEnd U o U' L ({ frames := 0, cells := 0, slots := 0, locals := 0 } : Room).cells ({ frames := 0, cells := 0, slots := 0, locals := 0 } : Room).slots) := by
  have hN' := hN
  obtain ⟨hS0, hE0, hS1, hE1, hS2, hE2, hI0, hJ0, hR0, hRr0⟩ := hN'
  refine MetFree.of_bodySF (plainFor_of_name pn_3) hisR ?_
  intro p e s m args below meth c s₁ Bd hml0 hP hK
  obtain ⟨rfl, hZ, hh⟩ := hP
  have hx := Bd.exec
  have hby := Bd.bytes
  have hml : c.maxLocals = 1 := hml0
  have hown : s.vm.findClass "com/example/netloom/netloom/xml/NetReader$OpenAnnotations" = some m.cls := findClass_of_methodNamed Bd.named
  have hnm := (name_of_methodNamed Bd.named Bd.method).1
  have X0 : Stand p l e ({ frames := 0, cells := 0, slots := 0, locals := 0 } : Room) s m #[(.ref o1)] below meth c s₁ [] 0 0 := Stand.of_body Bd
  have e0 : s₁.heap = h0 := by rw [← hh, Bd.state]; rfl
  have N0 := Fr.nil Z.heap.size
  have pre0 : ∀ t, Steps p.tables e below (s₁.setTop (mkF m 0 #[.val (.ref o1)] [])) t → Steps p.tables e below (s₁.setTop (entryFrame m #[(.ref o1)] 1)) t := fun t k => castTop (ef_3 m (.ref o1) rfl) k
  have K0 : Keep h0 h0 [o1] := Keep.refl _ _
  obtain ⟨T1, h1, X1, e1, W1, st1⟩ := putFN X0 hx hZ hown (W hw 51 rfl) Via.refl e0 F_o1_graphicsCarried E_o1 (Or.inl (W hw 52 rfl)) (W hw 34 rfl) (ty := .boolean) (v' := (.int (1 : Int32))) (by decide) rfl rfl (g := (mkF m 2 #[.val (.ref o1)] [(.int (1 : Int32)), (.ref o1)])) rfl rfl (hb hby d_prog_77_method_2_code_2)
  have F_o1_graphicsCarried_v1 := F_o1_graphicsCarried.same W1
  have N1 := Fr.snoc X1 N0 gn_o1
  have E_o1_v1 := E_o1.wr W1
  have F_o1_owner_v1 := F_o1_owner.other W1 (Or.inr (sn_14 hw))
  have F_o1_form_v1 := F_o1_form.other W1 (Or.inr (sn_15 hw))
  have F_o1_carries_v1 := F_o1_carries.other W1 (Or.inr (sn_16 hw))
  have F_o1_graphics_v1 := F_o1_graphics.other W1 (Or.inr (sn_17 hw))
  have E_o2_v1 := E_o2.wr W1
  have F_o2_value_v1 := F_o2_value.other W1 (Or.inl (Ne.symm ne_o1_o2))
  have F_o2_coder_v1 := F_o2_coder.other W1 (Or.inl (Ne.symm ne_o1_o2))
  have V_o3_v1 := V_o3.other W1 (Ne.symm ne_o1_o3)
  have O1 := O0.wr W1 gn_o1
  have K1 : Keep h0 h1 [o1] := K0.wr W1 (Or.inl (List.mem_of_getElem? (i := 0) rfl))
  obtain ⟨fs, hr, hrun, hended, hW, hsame⟩ := X1.leave (v := none) (fun _ => rfl)
  refine ⟨_, _, pre0 _ ?_, hrun, hended, _, _, rfl, ?_, ⟨_, rfl⟩, hW, hsame.mono (by decide) (by decide)⟩
  · show Steps p.tables e below (s₁.setTop (mkF m 0 #[.val (.ref o1)] [])) _
    refine XS.aloadN X0.here hx rfl (hb hby d_prog_77_method_2_code_0) rfl rfl ?_
    show Steps p.tables e below (s₁.setTop (mkF m 1 #[.val (.ref o1)] [(.ref o1)])) _
    refine XS.iconst X0.here hx rfl (hb hby d_prog_77_method_2_code_1) ?_
    show Steps p.tables e below (s₁.setTop (mkF m 2 #[.val (.ref o1)] [(.int (1 : Int32)), (.ref o1)])) _
    refine st1 _ ?_
    show Steps p.tables e below (T1.setTop (mkF m 5 #[.val (.ref o1)] [])) _
    exact X1.returnOut hx Bd.returns (hb hby d_prog_77_method_2_code_5) hr
  · show Qd_8 Z w kk iw vw o1 o2 o3 t0 kc_o3 h0 Z.heap.size _ T1.heap _
    rw [e1]
    exact ⟨rfl, N1, K1, E_o1_v1, F_o1_owner_v1, F_o1_form_v1, F_o1_carries_v1, F_o1_graphicsCarried_v1, F_o1_graphics_v1⟩
set_option maxRecDepth 65536 in
set_option maxHeartbeats 40000000 in
theorem law_34 (l : Launch) (Z : State) (a0 : Array Value) (hw : ∀ d ∈ tables_1, d.before a0 Z = true) (w : Nat → Addr) (kk : Nat → ClassId) (iw : Nat → Int32) (vw : Nat → Value) (hN : Wd Z w kk iw vw) (ws : List Jvm.Cond) (p0 : Int32) (p1 : Int32) (p2 : Int32) (h0 : Heap) (O0 : Old Z Z.heap.size h0) (hp0 : (p1 &&& (3 : Int32)) = (2 : Int32)) (hp1 : ¬ ((255 : Int32) < ((p2 &&& (255 : Int32)).toUInt32.toUInt16.toUInt32.toInt32))) (hp2 : (p0 &&& (1 : Int32)) = (1 : Int32)) (hp3 : ¬ ((p0 &&& (2 : Int32)) = (0 : Int32))) :
    MetFree l x (head1 (Jvm.Cond.code x code maxLocals ret :: ws) room_1) (fun a U => a = #[(.int p0), (.int p1), (.int p2)] ∧ Z.Warmed39 U.vm ∧ U.heap = h0) (fun _ _ _ _ _ => True) (fun _ U o U' => ∃ v L, o = .returned v ∧ OL (some (.int (1 : Int32))) Z.heap.size v U'.heap L ∧ FrameEnd U o U' L 16 128) := by
  have hN' := hN
  obtain ⟨hS0, hE0, hS1, hE1, hS2, hE2, hI0, hJ0, hR0, hRr0⟩ := hN'
  refine MetFree.of_bodySF (plainFor_of_name pn_0) hisR ?_
  intro p e s m args below meth c s₁ Bd hml0 hP hK
  obtain ⟨rfl, hZ, hh⟩ := hP
  have hx := Bd.exec
  have hby := Bd.bytes
  have hml : c.maxLocals = 12 := hml0
  have hown : s.vm.findClass "com/example/netloom/netloom/xml/OpenAnnotationsCarriesGraphicsPinLaw" = some m.cls := findClass_of_methodNamed Bd.named
  have hnm := (name_of_methodNamed Bd.named Bd.method).1
  have X0 : Stand p l e room_1 s m #[(.int p0), (.int p1), (.int p2)] below meth c s₁ [] 0 0 := Stand.of_body Bd
  have e0 : s₁.heap = h0 := by rw [← hh, Bd.state]; rfl
  have N0 := Fr.nil Z.heap.size
  have pre0 : ∀ t, Steps p.tables e below (s₁.setTop (mkF m 0 #[.val (.int p0), .val (.int p1), .val (.int p2), .unset, .unset, .unset, .unset, .unset, .unset, .unset, .unset, .unset] [])) t → Steps p.tables e below (s₁.setTop (entryFrame m #[(.int p0), (.int p1), (.int p2)] maxLocals)) t := fun t k => castTop (ef_4 m (.int p0) rfl (.int p1) rfl (.int p2) rfl) k
  obtain ⟨_, _, ⟨T1, L1, k1, n1⟩, -, X1, ⟨Lc1, hQ1, l1, y1, z1⟩, st1⟩ := Jvm.LawKit.callS X0 hx (y := (⟨"com/example/netloom/netloom/xml/OpenAnnotationsCarriesGraphicsPinLaw", "pick", "(I)Lcom/example/netloom/netloom/xml/XmlGraphics$Form;"⟩ : MethodName)) hown (mvT hZ (W hw 0 rfl)) (mvT hZ (W hw 1 rfl)) (mvT hZ (W hw 2 rfl)) (mvT hZ (W hw 3 rfl)) (by decide) (backOf (W := 0) (rm_25 l Z a0 hw w kk iw vw hN [] h0 O0) hZ (W hw 3 rfl) (W hw 2 rfl) (by decide) (by decide)) (g := (mkF m 3 #[.val (.int p0), .val (.int p1), .val (.int p2), .unset, .unset, .unset, .unset, .unset, .unset, .unset, .unset, .unset] [(.int (2 : Int32))])) rfl (by rw [hml]; rfl) (argsL := [(.int (2 : Int32))]) (rest := []) (lenOf pd_0 rfl) rfl (by show 2 * 0 + _ ≤ _; exact Nat.le_of_eq rfl) (hb hby at_3) (fun _ _ => ⟨rfl, e0, (by decide : 0 + 0 ≤ _), (by decide : 0 + 0 ≤ _)⟩)
  dsimp only [Pt.U, Pt.locs, Pt.cells, Pt.slots] at X1 l1 y1 z1 st1 hQ1
  subst l1 y1 z1
  obtain ⟨rfl, N1q, e1⟩ := hQ1
  have N1 := Fr.app N0 N1q
  obtain ⟨_, _, ⟨T2, L2, k2, n2⟩, -, X2, ⟨Lc2, hQ2, l2, y2, z2⟩, st2⟩ := Jvm.LawKit.callS X1 hx (y := (⟨"java/lang/String", "valueOf", "(C)Ljava/lang/String;"⟩ : MethodName)) hown (mvT hZ (W hw 7 rfl)) (mvT hZ (W hw 8 rfl)) (mvT hZ (W hw 9 rfl)) (mvT hZ (W hw 10 rfl)) (by decide) (backOf (W := 0) (rm_5 l Z a0 hw w kk iw vw hN [] ((p2 &&& (255 : Int32)).toUInt32.toUInt16.toUInt32.toInt32) h0 O0 hp1) hZ (W hw 10 rfl) (W hw 9 rfl) (by decide) (by decide)) (g := (mkF m 13 #[.val (.int p0), .val (.int p1), .val (.int p2), .val (.ref (w 1)), .unset, .unset, .unset, .unset, .unset, .unset, .unset, .unset] [(.int ((p2 &&& (255 : Int32)).toUInt32.toUInt16.toUInt32.toInt32))])) rfl (by rw [hml]; rfl) (argsL := [(.int ((p2 &&& (255 : Int32)).toUInt32.toUInt16.toUInt32.toInt32))]) (rest := []) (lenOf pd_4 rfl) rfl (by show 2 * 0 + _ ≤ _; exact Nat.le_of_eq rfl) (hb hby at_13) (fun _ _ => ⟨rfl, e1, (by decide : 0 + 2 ≤ _), (by decide : 0 + 5 ≤ _)⟩)
  dsimp only [Pt.U, Pt.locs, Pt.cells, Pt.slots] at X2 l2 y2 z2 st2 hQ2
  subst l2 y2 z2
  obtain ⟨b2_0, b2_1, kb2_0, rfl, N2q, Kq2, tk2_0, tk2_1, tk2_2, tk2_3, tk2_4, tk2_5, tk2_6⟩ := hQ2
  have N2 := Fr.app N1 N2q
  have gn_b2_0 : Z.heap.size ≤ b2_0 := Nat.le_trans O0.2.1 tk2_0
  have gn_b2_1 : Z.heap.size ≤ b2_1 := Nat.le_trans O0.2.1 tk2_1
  have O2 := O0.keep Kq2 all0
  obtain ⟨T3, h3, X3, e3, E3, A3, D3, -, st3⟩ := newO X2 hx hZ hown (W hw 33 rfl) (W hw 34 rfl) (W hw 35 rfl) rfl (g := (mkF m 18 #[.val (.int p0), .val (.int p1), .val (.int p2), .val (.ref (w 1)), .val (.ref b2_0), .unset, .unset, .unset, .unset, .unset, .unset, .unset] [])) rfl (hb hby at_18) (by decide) (by decide)
  obtain ⟨b3, g3⟩ : ∃ z, z = T2.heap.size := ⟨_, rfl⟩
  rw [← g3] at A3 st3 D3
  have gn_b3 : Z.heap.size ≤ b3 := Nat.le_trans O2.2.1 (Nat.le_of_eq g3.symm)
  have ne_b2_1_b3 : b2_1 ≠ b3 := Nat.ne_of_lt (Nat.lt_of_lt_of_le tk2_6.lt (Nat.le_of_eq g3.symm))
  have ne_b2_0_b3 : b2_0 ≠ b3 := Nat.ne_of_lt (Nat.lt_of_lt_of_le tk2_3.lt (Nat.le_of_eq g3.symm))
  have tk2_3_v3 := tk2_3.ext E3
  have tk2_4_v3 := tk2_4.ext E3
  have tk2_5_v3 := tk2_5.ext E3
  have tk2_6_v3 := tk2_6.ext E3
  have O3 := O2.ext E3
  have E_b3_v3 := A3
  have F_b3_owner_v3 : Fld Z h3 b3 "com/example/netloom/netloom/xml/NetReader$OpenAnnotations" "owner" "Ljava/lang/String;" .null := D3 (Or.inr (W hw 41 rfl)) (ty := (.object "java/lang/String")) (by decide)
  have F_b3_form_v3 : Fld Z h3 b3 "com/example/netloom/netloom/xml/NetReader$OpenAnnotations" "form" "Lcom/example/netloom/netloom/xml/XmlGraphics$Form;" .null := D3 (Or.inr (W hw 43 rfl)) (ty := (.object "com/example/netloom/netloom/xml/XmlGraphics$Form")) (by decide)
  have F_b3_carries_v3 : Fld Z h3 b3 "com/example/netloom/netloom/xml/NetReader$OpenAnnotations" "carries" "Ljava/util/Set;" .null := D3 (Or.inr (W hw 45 rfl)) (ty := (.object "java/util/Set")) (by decide)
  have F_b3_graphicsCarried_v3 : Fld Z h3 b3 "com/example/netloom/netloom/xml/NetReader$OpenAnnotations" "graphicsCarried" "Z" (.int (0 : Int32)) := D3 (Or.inl (W hw 52 rfl)) (ty := .boolean) (by decide)
  have F_b3_graphics_v3 : Fld Z h3 b3 "com/example/netloom/netloom/xml/NetReader$OpenAnnotations" "graphics" "Lcom/example/netloom/netloom/net/Graphics;" .null := D3 (Or.inl (W hw 59 rfl)) (ty := (.object "com/example/netloom/netloom/net/Graphics")) (by decide)
  obtain ⟨_, _, ⟨T4, L4, k4, n4⟩, -, X4, ⟨Lc4, hQ4, l4, y4, z4⟩, st4⟩ := X3.specialBack hx (y := (⟨"com/example/netloom/netloom/xml/NetReader$OpenAnnotations", "<init>", "(Ljava/lang/String;Lcom/example/netloom/netloom/xml/XmlGraphics$Form;Ljava/util/Set;)V"⟩ : MethodName)) rfl hown (mvT hZ (W hw 36 rfl)) (mvT hZ (W hw 37 rfl)) (mvT hZ (W hw 38 rfl)) (by decide) (backOf (W := 1) (rm_26 l Z a0 hw w kk iw vw hN [] b3 b2_0 b2_1 ((((p2 &&& (255 : Int32)).toUInt32.toUInt16.toUInt32.toInt32).toInt8.toInt32).toInt8.toInt32) kb2_0 h3 O3 gn_b3 E_b3_v3.lt gn_b2_0 tk2_3_v3.lt E_b3_v3 F_b3_owner_v3 F_b3_form_v3 F_b3_carries_v3 F_b3_graphicsCarried_v3 F_b3_graphics_v3 tk2_3_v3 gn_b2_1 tk2_6_v3.lt tk2_4_v3 tk2_5_v3 tk2_6_v3 (Ne.symm ne_b2_0_b3) (Ne.symm ne_b2_1_b3) tk2_2) hZ (W hw 38 rfl) (W hw 35 rfl) (by decide) (by decide)) (g := (mkF m 26 #[.val (.int p0), .val (.int p1), .val (.int p2), .val (.ref (w 1)), .val (.ref b2_0), .unset, .unset, .unset, .unset, .unset, .unset, .unset] [.null, (.ref (w 1)), (.ref b2_0), (.ref b3), (.ref b3)])) rfl (by rw [hml]; rfl) (Steps.refl _) (a := b3) (argsL := [(.ref b2_0), (.ref (w 1)), .null]) (rest := [(.ref b3)]) (lenOf pd_5 rfl) rfl (by show 2 * 0 + _ ≤ _; exact Nat.le_of_eq rfl) (hb hby at_26) (fun _ _ => ⟨rfl, e3, (by decide : 3 + 0 ≤ _), (by decide : 16 + 0 ≤ _)⟩)
  dsimp only [Pt.U, Pt.locs, Pt.cells, Pt.slots] at X4 l4 y4 z4 st4 hQ4
  subst l4 y4 z4
  obtain ⟨rfl, N4q, Kq4, tk4_0, tk4_1, tk4_2, tk4_3, tk4_4, tk4_5⟩ := hQ4
  have N4 := Fr.app N2 N4q
  have tk2_3_v4 := tk2_3_v3.keep Kq4
  have tk2_4_v4 := tk2_4_v3.keep Kq4 (ninS ne_b2_0_b3 nin0)
  have tk2_5_v4 := tk2_5_v3.keep Kq4 (ninS ne_b2_0_b3 nin0)
  have tk2_6_v4 := tk2_6_v3.keep Kq4 (ninS ne_b2_1_b3 nin0)
  have E_b3_v4 := E_b3_v3.keep Kq4
  have O4 := O3.keep Kq4 (allS gn_b3 all0)
  obtain ⟨cq5, kq5, q5a, q5b, q5c⟩ := isOf hZ rfl tk4_0
  obtain ⟨_, _, ⟨T5, L5, k5, n5⟩, -, X5, ⟨Lc5, hQ5, l5, y5, z5⟩, st5⟩ := X4.virtualBack hx (y := (⟨"com/example/netloom/netloom/xml/NetReader$OpenAnnotations", "carriesGraphics", "()Z"⟩ : MethodName)) (z := (⟨"com/example/netloom/netloom/xml/NetReader$OpenAnnotations", "carriesGraphics", "()Z"⟩ : MethodName)) hown (mvT hZ (W hw 46 rfl)) (mvT hZ (W hw 47 rfl)) (notFace_of_selects (args := #[]) (mvT hZ (W hw 49 rfl))) (mvT hZ (W hw 49 rfl)) (mvT hZ (W hw 48 rfl)) (by decide) (backOf (W := 0) (rm_27 l Z a0 hw w kk iw vw hN [] b3 b2_0 b2_1 ((((p2 &&& (255 : Int32)).toUInt32.toUInt16.toUInt32.toInt32).toInt8.toInt32).toInt8.toInt32) kb2_0 T4.heap O4 gn_b3 tk4_0.lt tk4_0 gn_b2_0 tk2_3_v4.lt tk4_1 tk4_2 tk4_3 tk4_4 tk4_5 tk2_3_v4 gn_b2_1 tk2_6_v4.lt tk2_4_v4 tk2_5_v4 tk2_6_v4 (Ne.symm ne_b2_0_b3) (Ne.symm ne_b2_1_b3) tk2_2) hZ (W hw 50 rfl) (W hw 35 rfl) (by decide) (by decide)) q5a q5c (g := (mkF m 33 #[.val (.int p0), .val (.int p1), .val (.int p2), .val (.ref (w 1)), .val (.ref b2_0), .val (.ref b3), .unset, .unset, .unset, .unset, .unset, .unset] [(.ref b3)])) rfl (by rw [hml]; rfl) (Steps.refl _) (argsL := []) (rest := []) (lenOf pd_6 rfl) rfl (by show 2 * 0 + _ ≤ _; exact Nat.le_of_eq rfl) (hb hby at_33) (fun _ _ => ⟨rfl, rfl, (by decide : 3 + 0 ≤ _), (by decide : 16 + 0 ≤ _)⟩)
  dsimp only [Pt.U, Pt.locs, Pt.cells, Pt.slots] at X5 l5 y5 z5 st5 hQ5
  subst l5 y5 z5
  obtain ⟨rfl, N5q, e5⟩ := hQ5
  have N5 := Fr.app N4 N5q
  obtain ⟨cq6, kq6, q6a, q6b, q6c⟩ := isOf hZ e5 tk4_0
  obtain ⟨_, _, ⟨T6, L6, k6, n6⟩, -, X6, ⟨Lc6, hQ6, l6, y6, z6⟩, st6⟩ := X5.virtualBack hx (y := (⟨"com/example/netloom/netloom/xml/NetReader$OpenAnnotations", "carryGraphics", "()V"⟩ : MethodName)) (z := (⟨"com/example/netloom/netloom/xml/NetReader$OpenAnnotations", "carryGraphics", "()V"⟩ : MethodName)) hown (mvT hZ (W hw 53 rfl)) (mvT hZ (W hw 54 rfl)) (notFace_of_selects (args := #[]) (mvT hZ (W hw 56 rfl))) (mvT hZ (W hw 56 rfl)) (mvT hZ (W hw 55 rfl)) (by decide) (backOf (W := 0) (rm_30 l Z a0 hw w kk iw vw hN [] b3 b2_0 b2_1 ((((p2 &&& (255 : Int32)).toUInt32.toUInt16.toUInt32.toInt32).toInt8.toInt32).toInt8.toInt32) kb2_0 T4.heap O4 gn_b3 tk4_0.lt tk4_0 gn_b2_0 tk2_3_v4.lt tk4_1 tk4_2 tk4_3 tk4_4 tk4_5 tk2_3_v4 gn_b2_1 tk2_6_v4.lt tk2_4_v4 tk2_5_v4 tk2_6_v4 (Ne.symm ne_b2_0_b3) (Ne.symm ne_b2_1_b3) tk2_2) hZ (W hw 57 rfl) (W hw 35 rfl) (by decide) (by decide)) q6a q6c (g := (mkF m 71 #[.val (.int p0), .val (.int p1), .val (.int p2), .val (.ref (w 1)), .val (.ref b2_0), .val (.ref b3), .val (.int (0 : Int32)), .val (.int (1 : Int32)), .val (.int (1 : Int32)), .unset, .unset, .unset] [(.ref b3)])) rfl (by rw [hml]; rfl) (Steps.refl _) (argsL := []) (rest := []) (lenOf pd_7 rfl) rfl (by show 2 * 0 + _ ≤ _; exact Nat.le_of_eq rfl) (hb hby at_71) (fun _ _ => ⟨rfl, e5, (by decide : 3 + 0 ≤ _), (by decide : 16 + 0 ≤ _)⟩)
  dsimp only [Pt.U, Pt.locs, Pt.cells, Pt.slots] at X6 l6 y6 z6 st6 hQ6
  subst l6 y6 z6
  obtain ⟨rfl, N6q, Kq6, tk6_0, tk6_1, tk6_2, tk6_3, tk6_4, tk6_5⟩ := hQ6
  have N6 := Fr.app N5 N6q
  have tk2_3_v6 := tk2_3_v4.keep Kq6
  have tk2_4_v6 := tk2_4_v4.keep Kq6 (ninS ne_b2_0_b3 nin0)
  have tk2_5_v6 := tk2_5_v4.keep Kq6 (ninS ne_b2_0_b3 nin0)
  have tk2_6_v6 := tk2_6_v4.keep Kq6 (ninS ne_b2_1_b3 nin0)
  have tk4_0_v6 := tk4_0.keep Kq6
  have O6 := O4.keep Kq6 (allS gn_b3 all0)
  obtain ⟨cq7, kq7, q7a, q7b, q7c⟩ := isOf hZ rfl tk6_0
  obtain ⟨_, _, ⟨T7, L7, k7, n7⟩, -, X7, ⟨Lc7, hQ7, l7, y7, z7⟩, st7⟩ := X6.virtualBack hx (y := (⟨"com/example/netloom/netloom/xml/NetReader$OpenAnnotations", "carryGraphics", "()V"⟩ : MethodName)) (z := (⟨"com/example/netloom/netloom/xml/NetReader$OpenAnnotations", "carryGraphics", "()V"⟩ : MethodName)) hown (mvT hZ (W hw 53 rfl)) (mvT hZ (W hw 54 rfl)) (notFace_of_selects (args := #[]) (mvT hZ (W hw 56 rfl))) (mvT hZ (W hw 56 rfl)) (mvT hZ (W hw 55 rfl)) (by decide) (backOf (W := 0) (rm_33 l Z a0 hw w kk iw vw hN [] b3 b2_0 b2_1 ((((p2 &&& (255 : Int32)).toUInt32.toUInt16.toUInt32.toInt32).toInt8.toInt32).toInt8.toInt32) kb2_0 T6.heap O6 gn_b3 tk6_0.lt tk6_0 gn_b2_0 tk2_3_v6.lt tk6_1 tk6_2 tk6_3 tk6_4 tk6_5 tk2_3_v6 gn_b2_1 tk2_6_v6.lt tk2_4_v6 tk2_5_v6 tk2_6_v6 (Ne.symm ne_b2_0_b3) (Ne.symm ne_b2_1_b3) tk2_2) hZ (W hw 57 rfl) (W hw 35 rfl) (by decide) (by decide)) q7a q7c (g := (mkF m 81 #[.val (.int p0), .val (.int p1), .val (.int p2), .val (.ref (w 1)), .val (.ref b2_0), .val (.ref b3), .val (.int (0 : Int32)), .val (.int (1 : Int32)), .val (.int (1 : Int32)), .unset, .unset, .unset] [(.ref b3)])) rfl (by rw [hml]; rfl) (Steps.refl _) (argsL := []) (rest := []) (lenOf pd_7 rfl) rfl (by show 2 * 0 + _ ≤ _; exact Nat.le_of_eq rfl) (hb hby at_81) (fun _ _ => ⟨rfl, rfl, (by decide : 3 + 0 ≤ _), (by decide : 16 + 0 ≤ _)⟩)
  dsimp only [Pt.U, Pt.locs, Pt.cells, Pt.slots] at X7 l7 y7 z7 st7 hQ7
  subst l7 y7 z7
  obtain ⟨rfl, N7q, Kq7, tk7_0, tk7_1, tk7_2, tk7_3, tk7_4, tk7_5⟩ := hQ7
  have N7 := Fr.app N6 N7q
  have tk2_3_v7 := tk2_3_v6.keep Kq7
  have tk2_4_v7 := tk2_4_v6.keep Kq7 (ninS ne_b2_0_b3 nin0)
  have tk2_5_v7 := tk2_5_v6.keep Kq7 (ninS ne_b2_0_b3 nin0)
  have tk2_6_v7 := tk2_6_v6.keep Kq7 (ninS ne_b2_1_b3 nin0)
  have tk6_0_v7 := tk6_0.keep Kq7
  have O7 := O6.keep Kq7 (allS gn_b3 all0)
  obtain ⟨cq8, kq8, q8a, q8b, q8c⟩ := isOf hZ rfl tk7_0
  obtain ⟨_, _, ⟨T8, L8, k8, n8⟩, -, X8, ⟨Lc8, hQ8, l8, y8, z8⟩, st8⟩ := X7.virtualBack hx (y := (⟨"com/example/netloom/netloom/xml/NetReader$OpenAnnotations", "carriesGraphics", "()Z"⟩ : MethodName)) (z := (⟨"com/example/netloom/netloom/xml/NetReader$OpenAnnotations", "carriesGraphics", "()Z"⟩ : MethodName)) hown (mvT hZ (W hw 46 rfl)) (mvT hZ (W hw 47 rfl)) (notFace_of_selects (args := #[]) (mvT hZ (W hw 49 rfl))) (mvT hZ (W hw 49 rfl)) (mvT hZ (W hw 48 rfl)) (by decide) (backOf (W := 0) (rm_31 l Z a0 hw w kk iw vw hN [] b3 b2_0 b2_1 ((((p2 &&& (255 : Int32)).toUInt32.toUInt16.toUInt32.toInt32).toInt8.toInt32).toInt8.toInt32) kb2_0 T7.heap O7 gn_b3 tk7_0.lt tk7_0 gn_b2_0 tk2_3_v7.lt tk7_1 tk7_2 tk7_3 tk7_4 tk7_5 tk2_3_v7 gn_b2_1 tk2_6_v7.lt tk2_4_v7 tk2_5_v7 tk2_6_v7 (Ne.symm ne_b2_0_b3) (Ne.symm ne_b2_1_b3) tk2_2) hZ (W hw 50 rfl) (W hw 35 rfl) (by decide) (by decide)) q8a q8c (g := (mkF m 86 #[.val (.int p0), .val (.int p1), .val (.int p2), .val (.ref (w 1)), .val (.ref b2_0), .val (.ref b3), .val (.int (0 : Int32)), .val (.int (1 : Int32)), .val (.int (1 : Int32)), .unset, .unset, .unset] [(.ref b3)])) rfl (by rw [hml]; rfl) (Steps.refl _) (argsL := []) (rest := []) (lenOf pd_6 rfl) rfl (by show 2 * 0 + _ ≤ _; exact Nat.le_of_eq rfl) (hb hby at_86) (fun _ _ => ⟨rfl, rfl, (by decide : 3 + 0 ≤ _), (by decide : 16 + 0 ≤ _)⟩)
  dsimp only [Pt.U, Pt.locs, Pt.cells, Pt.slots] at X8 l8 y8 z8 st8 hQ8
  subst l8 y8 z8
  obtain ⟨rfl, N8q, e8⟩ := hQ8
  have N8 := Fr.app N7 N8q
  obtain ⟨cq9, kq9, q9a, q9b, q9c⟩ := isOf hZ e8 tk7_0
  obtain ⟨_, _, ⟨T9, L9, k9, n9⟩, -, X9, ⟨Lc9, hQ9, l9, y9, z9⟩, st9⟩ := X8.virtualBack hx (y := (⟨"com/example/netloom/netloom/xml/NetReader$OpenAnnotations", "carriesGraphics", "()Z"⟩ : MethodName)) (z := (⟨"com/example/netloom/netloom/xml/NetReader$OpenAnnotations", "carriesGraphics", "()Z"⟩ : MethodName)) hown (mvT hZ (W hw 46 rfl)) (mvT hZ (W hw 47 rfl)) (notFace_of_selects (args := #[]) (mvT hZ (W hw 49 rfl))) (mvT hZ (W hw 49 rfl)) (mvT hZ (W hw 48 rfl)) (by decide) (backOf (W := 0) (rm_31 l Z a0 hw w kk iw vw hN [] b3 b2_0 b2_1 ((((p2 &&& (255 : Int32)).toUInt32.toUInt16.toUInt32.toInt32).toInt8.toInt32).toInt8.toInt32) kb2_0 T7.heap O7 gn_b3 tk7_0.lt tk7_0 gn_b2_0 tk2_3_v7.lt tk7_1 tk7_2 tk7_3 tk7_4 tk7_5 tk2_3_v7 gn_b2_1 tk2_6_v7.lt tk2_4_v7 tk2_5_v7 tk2_6_v7 (Ne.symm ne_b2_0_b3) (Ne.symm ne_b2_1_b3) tk2_2) hZ (W hw 50 rfl) (W hw 35 rfl) (by decide) (by decide)) q9a q9c (g := (mkF m 93 #[.val (.int p0), .val (.int p1), .val (.int p2), .val (.ref (w 1)), .val (.ref b2_0), .val (.ref b3), .val (.int (0 : Int32)), .val (.int (1 : Int32)), .val (.int (1 : Int32)), .val (.int (0 : Int32)), .unset, .unset] [(.ref b3)])) rfl (by rw [hml]; rfl) (Steps.refl _) (argsL := []) (rest := []) (lenOf pd_6 rfl) rfl (by show 2 * 0 + _ ≤ _; exact Nat.le_of_eq rfl) (hb hby at_93) (fun _ _ => ⟨rfl, e8, (by decide : 3 + 0 ≤ _), (by decide : 16 + 0 ≤ _)⟩)
  dsimp only [Pt.U, Pt.locs, Pt.cells, Pt.slots] at X9 l9 y9 z9 st9 hQ9
  subst l9 y9 z9
  obtain ⟨rfl, N9q, e9⟩ := hQ9
  have N9 := Fr.app N8 N9q
  obtain ⟨fs, hr, hrun, hended, hW, hsame⟩ := X9.leave (v := some (.int (1 : Int32))) (fun h => by rw [Bd.returns] at h; cases h)
  refine ⟨_, _, pre0 _ ?_, hrun, hended, _, _, rfl, ?_, ⟨_, rfl⟩, hW, hsame.mono (by decide) (by decide)⟩
  · show Steps p.tables e below (s₁.setTop (mkF m 0 #[.val (.int p0), .val (.int p1), .val (.int p2), .unset, .unset, .unset, .unset, .unset, .unset, .unset, .unset, .unset] [])) _
    refine XS.iloadN X0.here hx rfl (hb hby at_0) rfl ?_
    show Steps p.tables e below (s₁.setTop (mkF m 1 #[.val (.int p0), .val (.int p1), .val (.int p2), .unset, .unset, .unset, .unset, .unset, .unset, .unset, .unset, .unset] [(.int p1)])) _
    refine XS.iconst X0.here hx rfl (hb hby at_1) ?_
    show Steps p.tables e below (s₁.setTop (mkF m 2 #[.val (.int p0), .val (.int p1), .val (.int p2), .unset, .unset, .unset, .unset, .unset, .unset, .unset, .unset, .unset] [(.int (3 : Int32)), (.int p1)])) _
    refine XS.iand X0.here hx rfl (hb hby at_2) rfl ?_
    show Steps p.tables e below (s₁.setTop (mkF m 3 #[.val (.int p0), .val (.int p1), .val (.int p2), .unset, .unset, .unset, .unset, .unset, .unset, .unset, .unset, .unset] [(.int (p1 &&& (3 : Int32)))])) _
    rw [hp0]
    show Steps p.tables e below (s₁.setTop (mkF m 3 #[.val (.int p0), .val (.int p1), .val (.int p2), .unset, .unset, .unset, .unset, .unset, .unset, .unset, .unset, .unset] [(.int (2 : Int32))])) _
    refine st1 _ ?_
    show Steps p.tables e below (T1.setTop (mkF m 6 #[.val (.int p0), .val (.int p1), .val (.int p2), .unset, .unset, .unset, .unset, .unset, .unset, .unset, .unset, .unset] [(.ref (w 1))])) _
    refine XS.astoreN X1.here hx rfl (hb hby at_6) rfl rfl (l' := #[.val (.int p0), .val (.int p1), .val (.int p2), .val (.ref (w 1)), .unset, .unset, .unset, .unset, .unset, .unset, .unset, .unset]) rfl ?_
    show Steps p.tables e below (T1.setTop (mkF m 7 #[.val (.int p0), .val (.int p1), .val (.int p2), .val (.ref (w 1)), .unset, .unset, .unset, .unset, .unset, .unset, .unset, .unset] [])) _
    refine XS.iloadN X1.here hx rfl (hb hby at_7) rfl ?_
    show Steps p.tables e below (T1.setTop (mkF m 8 #[.val (.int p0), .val (.int p1), .val (.int p2), .val (.ref (w 1)), .unset, .unset, .unset, .unset, .unset, .unset, .unset, .unset] [(.int p2)])) _
    refine XS.sipush X1.here hx rfl (hb hby at_8) ?_
    show Steps p.tables e below (T1.setTop (mkF m 11 #[.val (.int p0), .val (.int p1), .val (.int p2), .val (.ref (w 1)), .unset, .unset, .unset, .unset, .unset, .unset, .unset, .unset] [(.int (255 : Int32)), (.int p2)])) _
    refine XS.iand X1.here hx rfl (hb hby at_11) rfl ?_
    show Steps p.tables e below (T1.setTop (mkF m 12 #[.val (.int p0), .val (.int p1), .val (.int p2), .val (.ref (w 1)), .unset, .unset, .unset, .unset, .unset, .unset, .unset, .unset] [(.int (p2 &&& (255 : Int32)))])) _
    refine XS.i2c X1.here hx rfl (hb hby at_12) rfl ?_
    show Steps p.tables e below (T1.setTop (mkF m 13 #[.val (.int p0), .val (.int p1), .val (.int p2), .val (.ref (w 1)), .unset, .unset, .unset, .unset, .unset, .unset, .unset, .unset] [(.int ((p2 &&& (255 : Int32)).toUInt32.toUInt16.toUInt32.toInt32))])) _
    refine st2 _ ?_
    show Steps p.tables e below (T2.setTop (mkF m 16 #[.val (.int p0), .val (.int p1), .val (.int p2), .val (.ref (w 1)), .unset, .unset, .unset, .unset, .unset, .unset, .unset, .unset] [(.ref b2_0)])) _
    refine XS.astore X2.here hx rfl (hb hby at_16) rfl rfl (l' := #[.val (.int p0), .val (.int p1), .val (.int p2), .val (.ref (w 1)), .val (.ref b2_0), .unset, .unset, .unset, .unset, .unset, .unset, .unset]) rfl ?_
    show Steps p.tables e below (T2.setTop (mkF m 18 #[.val (.int p0), .val (.int p1), .val (.int p2), .val (.ref (w 1)), .val (.ref b2_0), .unset, .unset, .unset, .unset, .unset, .unset, .unset] [])) _
    refine st3 _ ?_
    show Steps p.tables e below (T3.setTop (mkF m 21 #[.val (.int p0), .val (.int p1), .val (.int p2), .val (.ref (w 1)), .val (.ref b2_0), .unset, .unset, .unset, .unset, .unset, .unset, .unset] [(.ref b3)])) _
    refine XS.dup X3.here hx rfl (hb hby at_21) rfl rfl ?_
    show Steps p.tables e below (T3.setTop (mkF m 22 #[.val (.int p0), .val (.int p1), .val (.int p2), .val (.ref (w 1)), .val (.ref b2_0), .unset, .unset, .unset, .unset, .unset, .unset, .unset] [(.ref b3), (.ref b3)])) _
    refine XS.aload X3.here hx rfl (hb hby at_22) rfl rfl ?_
    show Steps p.tables e below (T3.setTop (mkF m 24 #[.val (.int p0), .val (.int p1), .val (.int p2), .val (.ref (w 1)), .val (.ref b2_0), .unset, .unset, .unset, .unset, .unset, .unset, .unset] [(.ref b2_0), (.ref b3), (.ref b3)])) _
    refine XS.aloadN X3.here hx rfl (hb hby at_24) rfl rfl ?_
    show Steps p.tables e below (T3.setTop (mkF m 25 #[.val (.int p0), .val (.int p1), .val (.int p2), .val (.ref (w 1)), .val (.ref b2_0), .unset, .unset, .unset, .unset, .unset, .unset, .unset] [(.ref (w 1)), (.ref b2_0), (.ref b3), (.ref b3)])) _
    refine XS.aconstNull X3.here hx rfl (hb hby at_25) ?_
    show Steps p.tables e below (T3.setTop (mkF m 26 #[.val (.int p0), .val (.int p1), .val (.int p2), .val (.ref (w 1)), .val (.ref b2_0), .unset, .unset, .unset, .unset, .unset, .unset, .unset] [.null, (.ref (w 1)), (.ref b2_0), (.ref b3), (.ref b3)])) _
    refine st4.trans ?_
    show Steps p.tables e below (T4.setTop (mkF m 29 #[.val (.int p0), .val (.int p1), .val (.int p2), .val (.ref (w 1)), .val (.ref b2_0), .unset, .unset, .unset, .unset, .unset, .unset, .unset] [(.ref b3)])) _
    refine XS.astore X4.here hx rfl (hb hby at_29) rfl rfl (l' := #[.val (.int p0), .val (.int p1), .val (.int p2), .val (.ref (w 1)), .val (.ref b2_0), .val (.ref b3), .unset, .unset, .unset, .unset, .unset, .unset]) rfl ?_
    show Steps p.tables e below (T4.setTop (mkF m 31 #[.val (.int p0), .val (.int p1), .val (.int p2), .val (.ref (w 1)), .val (.ref b2_0), .val (.ref b3), .unset, .unset, .unset, .unset, .unset, .unset] [])) _
    refine XS.aload X4.here hx rfl (hb hby at_31) rfl rfl ?_
    show Steps p.tables e below (T4.setTop (mkF m 33 #[.val (.int p0), .val (.int p1), .val (.int p2), .val (.ref (w 1)), .val (.ref b2_0), .val (.ref b3), .unset, .unset, .unset, .unset, .unset, .unset] [(.ref b3)])) _
    refine st5.trans ?_
    show Steps p.tables e below (T5.setTop (mkF m 36 #[.val (.int p0), .val (.int p1), .val (.int p2), .val (.ref (w 1)), .val (.ref b2_0), .val (.ref b3), .unset, .unset, .unset, .unset, .unset, .unset] [(.int (0 : Int32))])) _
    refine XS.istore X5.here hx rfl (hb hby at_36) rfl (l' := #[.val (.int p0), .val (.int p1), .val (.int p2), .val (.ref (w 1)), .val (.ref b2_0), .val (.ref b3), .val (.int (0 : Int32)), .unset, .unset, .unset, .unset, .unset]) rfl ?_
    show Steps p.tables e below (T5.setTop (mkF m 38 #[.val (.int p0), .val (.int p1), .val (.int p2), .val (.ref (w 1)), .val (.ref b2_0), .val (.ref b3), .val (.int (0 : Int32)), .unset, .unset, .unset, .unset, .unset] [])) _
    refine XS.iloadN X5.here hx rfl (hb hby at_38) rfl ?_
    show Steps p.tables e below (T5.setTop (mkF m 39 #[.val (.int p0), .val (.int p1), .val (.int p2), .val (.ref (w 1)), .val (.ref b2_0), .val (.ref b3), .val (.int (0 : Int32)), .unset, .unset, .unset, .unset, .unset] [(.int p0)])) _
    refine XS.iconst X5.here hx rfl (hb hby at_39) ?_
    show Steps p.tables e below (T5.setTop (mkF m 40 #[.val (.int p0), .val (.int p1), .val (.int p2), .val (.ref (w 1)), .val (.ref b2_0), .val (.ref b3), .val (.int (0 : Int32)), .unset, .unset, .unset, .unset, .unset] [(.int (1 : Int32)), (.int p0)])) _
    refine XS.iand X5.here hx rfl (hb hby at_40) rfl ?_
    show Steps p.tables e below (T5.setTop (mkF m 41 #[.val (.int p0), .val (.int p1), .val (.int p2), .val (.ref (w 1)), .val (.ref b2_0), .val (.ref b3), .val (.int (0 : Int32)), .unset, .unset, .unset, .unset, .unset] [(.int (p0 &&& (1 : Int32)))])) _
    rw [hp2]
    show Steps p.tables e below (T5.setTop (mkF m 41 #[.val (.int p0), .val (.int p1), .val (.int p2), .val (.ref (w 1)), .val (.ref b2_0), .val (.ref b3), .val (.int (0 : Int32)), .unset, .unset, .unset, .unset, .unset] [(.int (1 : Int32))])) _
    refine XS.ifNo X5.here hx rfl (hb hby at_41) rfl ((if0 _ _).trans (feq (by decide : ¬ ((1 : Int32) = (0 : Int32)))).1) ?_
    show Steps p.tables e below (T5.setTop (mkF m 44 #[.val (.int p0), .val (.int p1), .val (.int p2), .val (.ref (w 1)), .val (.ref b2_0), .val (.ref b3), .val (.int (0 : Int32)), .unset, .unset, .unset, .unset, .unset] [])) _
    refine XS.iconst X5.here hx rfl (hb hby at_44) ?_
    show Steps p.tables e below (T5.setTop (mkF m 45 #[.val (.int p0), .val (.int p1), .val (.int p2), .val (.ref (w 1)), .val (.ref b2_0), .val (.ref b3), .val (.int (0 : Int32)), .unset, .unset, .unset, .unset, .unset] [(.int (1 : Int32))])) _
    refine XS.goto X5.here hx rfl (pc0 := 45) (pc' := 49) rfl (hb hby at_45) (by decide) (by decide) ?_
    show Steps p.tables e below (T5.setTop (mkF m 49 #[.val (.int p0), .val (.int p1), .val (.int p2), .val (.ref (w 1)), .val (.ref b2_0), .val (.ref b3), .val (.int (0 : Int32)), .unset, .unset, .unset, .unset, .unset] [(.int (1 : Int32))])) _
    refine XS.istore X5.here hx rfl (hb hby at_49) rfl (l' := #[.val (.int p0), .val (.int p1), .val (.int p2), .val (.ref (w 1)), .val (.ref b2_0), .val (.ref b3), .val (.int (0 : Int32)), .val (.int (1 : Int32)), .unset, .unset, .unset, .unset]) rfl ?_
    show Steps p.tables e below (T5.setTop (mkF m 51 #[.val (.int p0), .val (.int p1), .val (.int p2), .val (.ref (w 1)), .val (.ref b2_0), .val (.ref b3), .val (.int (0 : Int32)), .val (.int (1 : Int32)), .unset, .unset, .unset, .unset] [])) _
    refine XS.iloadN X5.here hx rfl (hb hby at_51) rfl ?_
    show Steps p.tables e below (T5.setTop (mkF m 52 #[.val (.int p0), .val (.int p1), .val (.int p2), .val (.ref (w 1)), .val (.ref b2_0), .val (.ref b3), .val (.int (0 : Int32)), .val (.int (1 : Int32)), .unset, .unset, .unset, .unset] [(.int p0)])) _
    refine XS.iconst X5.here hx rfl (hb hby at_52) ?_
    show Steps p.tables e below (T5.setTop (mkF m 53 #[.val (.int p0), .val (.int p1), .val (.int p2), .val (.ref (w 1)), .val (.ref b2_0), .val (.ref b3), .val (.int (0 : Int32)), .val (.int (1 : Int32)), .unset, .unset, .unset, .unset] [(.int (2 : Int32)), (.int p0)])) _
    refine XS.iand X5.here hx rfl (hb hby at_53) rfl ?_
    show Steps p.tables e below (T5.setTop (mkF m 54 #[.val (.int p0), .val (.int p1), .val (.int p2), .val (.ref (w 1)), .val (.ref b2_0), .val (.ref b3), .val (.int (0 : Int32)), .val (.int (1 : Int32)), .unset, .unset, .unset, .unset] [(.int (p0 &&& (2 : Int32)))])) _
    refine XS.ifNo X5.here hx rfl (hb hby at_54) rfl ((if0 _ _).trans (feq hp3).1) ?_
    show Steps p.tables e below (T5.setTop (mkF m 57 #[.val (.int p0), .val (.int p1), .val (.int p2), .val (.ref (w 1)), .val (.ref b2_0), .val (.ref b3), .val (.int (0 : Int32)), .val (.int (1 : Int32)), .unset, .unset, .unset, .unset] [])) _
    refine XS.iconst X5.here hx rfl (hb hby at_57) ?_
    show Steps p.tables e below (T5.setTop (mkF m 58 #[.val (.int p0), .val (.int p1), .val (.int p2), .val (.ref (w 1)), .val (.ref b2_0), .val (.ref b3), .val (.int (0 : Int32)), .val (.int (1 : Int32)), .unset, .unset, .unset, .unset] [(.int (1 : Int32))])) _
    refine XS.goto X5.here hx rfl (pc0 := 58) (pc' := 62) rfl (hb hby at_58) (by decide) (by decide) ?_
    show Steps p.tables e below (T5.setTop (mkF m 62 #[.val (.int p0), .val (.int p1), .val (.int p2), .val (.ref (w 1)), .val (.ref b2_0), .val (.ref b3), .val (.int (0 : Int32)), .val (.int (1 : Int32)), .unset, .unset, .unset, .unset] [(.int (1 : Int32))])) _
    refine XS.istore X5.here hx rfl (hb hby at_62) rfl (l' := #[.val (.int p0), .val (.int p1), .val (.int p2), .val (.ref (w 1)), .val (.ref b2_0), .val (.ref b3), .val (.int (0 : Int32)), .val (.int (1 : Int32)), .val (.int (1 : Int32)), .unset, .unset, .unset]) rfl ?_
    show Steps p.tables e below (T5.setTop (mkF m 64 #[.val (.int p0), .val (.int p1), .val (.int p2), .val (.ref (w 1)), .val (.ref b2_0), .val (.ref b3), .val (.int (0 : Int32)), .val (.int (1 : Int32)), .val (.int (1 : Int32)), .unset, .unset, .unset] [])) _
    refine XS.iload X5.here hx rfl (hb hby at_64) rfl ?_
    show Steps p.tables e below (T5.setTop (mkF m 66 #[.val (.int p0), .val (.int p1), .val (.int p2), .val (.ref (w 1)), .val (.ref b2_0), .val (.ref b3), .val (.int (0 : Int32)), .val (.int (1 : Int32)), .val (.int (1 : Int32)), .unset, .unset, .unset] [(.int (1 : Int32))])) _
    refine XS.ifNo X5.here hx rfl (hb hby at_66) rfl ((if0 _ _).trans (feq (by decide : ¬ ((1 : Int32) = (0 : Int32)))).1) ?_
    show Steps p.tables e below (T5.setTop (mkF m 69 #[.val (.int p0), .val (.int p1), .val (.int p2), .val (.ref (w 1)), .val (.ref b2_0), .val (.ref b3), .val (.int (0 : Int32)), .val (.int (1 : Int32)), .val (.int (1 : Int32)), .unset, .unset, .unset] [])) _
    refine XS.aload X5.here hx rfl (hb hby at_69) rfl rfl ?_
    show Steps p.tables e below (T5.setTop (mkF m 71 #[.val (.int p0), .val (.int p1), .val (.int p2), .val (.ref (w 1)), .val (.ref b2_0), .val (.ref b3), .val (.int (0 : Int32)), .val (.int (1 : Int32)), .val (.int (1 : Int32)), .unset, .unset, .unset] [(.ref b3)])) _
    refine st6.trans ?_
    show Steps p.tables e below (T6.setTop (mkF m 74 #[.val (.int p0), .val (.int p1), .val (.int p2), .val (.ref (w 1)), .val (.ref b2_0), .val (.ref b3), .val (.int (0 : Int32)), .val (.int (1 : Int32)), .val (.int (1 : Int32)), .unset, .unset, .unset] [])) _
    refine XS.iload X6.here hx rfl (hb hby at_74) rfl ?_
    show Steps p.tables e below (T6.setTop (mkF m 76 #[.val (.int p0), .val (.int p1), .val (.int p2), .val (.ref (w 1)), .val (.ref b2_0), .val (.ref b3), .val (.int (0 : Int32)), .val (.int (1 : Int32)), .val (.int (1 : Int32)), .unset, .unset, .unset] [(.int (1 : Int32))])) _
    refine XS.ifNo X6.here hx rfl (hb hby at_76) rfl ((if0 _ _).trans (feq (by decide : ¬ ((1 : Int32) = (0 : Int32)))).1) ?_
    show Steps p.tables e below (T6.setTop (mkF m 79 #[.val (.int p0), .val (.int p1), .val (.int p2), .val (.ref (w 1)), .val (.ref b2_0), .val (.ref b3), .val (.int (0 : Int32)), .val (.int (1 : Int32)), .val (.int (1 : Int32)), .unset, .unset, .unset] [])) _
    refine XS.aload X6.here hx rfl (hb hby at_79) rfl rfl ?_
    show Steps p.tables e below (T6.setTop (mkF m 81 #[.val (.int p0), .val (.int p1), .val (.int p2), .val (.ref (w 1)), .val (.ref b2_0), .val (.ref b3), .val (.int (0 : Int32)), .val (.int (1 : Int32)), .val (.int (1 : Int32)), .unset, .unset, .unset] [(.ref b3)])) _
    refine st7.trans ?_
    show Steps p.tables e below (T7.setTop (mkF m 84 #[.val (.int p0), .val (.int p1), .val (.int p2), .val (.ref (w 1)), .val (.ref b2_0), .val (.ref b3), .val (.int (0 : Int32)), .val (.int (1 : Int32)), .val (.int (1 : Int32)), .unset, .unset, .unset] [])) _
    refine XS.aload X7.here hx rfl (hb hby at_84) rfl rfl ?_
    show Steps p.tables e below (T7.setTop (mkF m 86 #[.val (.int p0), .val (.int p1), .val (.int p2), .val (.ref (w 1)), .val (.ref b2_0), .val (.ref b3), .val (.int (0 : Int32)), .val (.int (1 : Int32)), .val (.int (1 : Int32)), .unset, .unset, .unset] [(.ref b3)])) _
    refine st8.trans ?_
    show Steps p.tables e below (T8.setTop (mkF m 89 #[.val (.int p0), .val (.int p1), .val (.int p2), .val (.ref (w 1)), .val (.ref b2_0), .val (.ref b3), .val (.int (0 : Int32)), .val (.int (1 : Int32)), .val (.int (1 : Int32)), .unset, .unset, .unset] [(.int (0 : Int32))])) _
    refine XS.istore X8.here hx rfl (hb hby at_89) rfl (l' := #[.val (.int p0), .val (.int p1), .val (.int p2), .val (.ref (w 1)), .val (.ref b2_0), .val (.ref b3), .val (.int (0 : Int32)), .val (.int (1 : Int32)), .val (.int (1 : Int32)), .val (.int (0 : Int32)), .unset, .unset]) rfl ?_
    show Steps p.tables e below (T8.setTop (mkF m 91 #[.val (.int p0), .val (.int p1), .val (.int p2), .val (.ref (w 1)), .val (.ref b2_0), .val (.ref b3), .val (.int (0 : Int32)), .val (.int (1 : Int32)), .val (.int (1 : Int32)), .val (.int (0 : Int32)), .unset, .unset] [])) _
    refine XS.aload X8.here hx rfl (hb hby at_91) rfl rfl ?_
    show Steps p.tables e below (T8.setTop (mkF m 93 #[.val (.int p0), .val (.int p1), .val (.int p2), .val (.ref (w 1)), .val (.ref b2_0), .val (.ref b3), .val (.int (0 : Int32)), .val (.int (1 : Int32)), .val (.int (1 : Int32)), .val (.int (0 : Int32)), .unset, .unset] [(.ref b3)])) _
    refine st9.trans ?_
    show Steps p.tables e below (T9.setTop (mkF m 96 #[.val (.int p0), .val (.int p1), .val (.int p2), .val (.ref (w 1)), .val (.ref b2_0), .val (.ref b3), .val (.int (0 : Int32)), .val (.int (1 : Int32)), .val (.int (1 : Int32)), .val (.int (0 : Int32)), .unset, .unset] [(.int (0 : Int32))])) _
    refine XS.istore X9.here hx rfl (hb hby at_96) rfl (l' := #[.val (.int p0), .val (.int p1), .val (.int p2), .val (.ref (w 1)), .val (.ref b2_0), .val (.ref b3), .val (.int (0 : Int32)), .val (.int (1 : Int32)), .val (.int (1 : Int32)), .val (.int (0 : Int32)), .val (.int (0 : Int32)), .unset]) rfl ?_
    show Steps p.tables e below (T9.setTop (mkF m 98 #[.val (.int p0), .val (.int p1), .val (.int p2), .val (.ref (w 1)), .val (.ref b2_0), .val (.ref b3), .val (.int (0 : Int32)), .val (.int (1 : Int32)), .val (.int (1 : Int32)), .val (.int (0 : Int32)), .val (.int (0 : Int32)), .unset] [])) _
    refine XS.iload X9.here hx rfl (hb hby at_98) rfl ?_
    show Steps p.tables e below (T9.setTop (mkF m 100 #[.val (.int p0), .val (.int p1), .val (.int p2), .val (.ref (w 1)), .val (.ref b2_0), .val (.ref b3), .val (.int (0 : Int32)), .val (.int (1 : Int32)), .val (.int (1 : Int32)), .val (.int (0 : Int32)), .val (.int (0 : Int32)), .unset] [(.int (1 : Int32))])) _
    refine XS.ifNo X9.here hx rfl (hb hby at_100) rfl ((if0 _ _).trans (feq (by decide : ¬ ((1 : Int32) = (0 : Int32)))).1) ?_
    show Steps p.tables e below (T9.setTop (mkF m 103 #[.val (.int p0), .val (.int p1), .val (.int p2), .val (.ref (w 1)), .val (.ref b2_0), .val (.ref b3), .val (.int (0 : Int32)), .val (.int (1 : Int32)), .val (.int (1 : Int32)), .val (.int (0 : Int32)), .val (.int (0 : Int32)), .unset] [])) _
    refine XS.aloadN X9.here hx rfl (hb hby at_103) rfl rfl ?_
    show Steps p.tables e below (T9.setTop (mkF m 104 #[.val (.int p0), .val (.int p1), .val (.int p2), .val (.ref (w 1)), .val (.ref b2_0), .val (.ref b3), .val (.int (0 : Int32)), .val (.int (1 : Int32)), .val (.int (1 : Int32)), .val (.int (0 : Int32)), .val (.int (0 : Int32)), .unset] [(.ref (w 1))])) _
    refine XS.ifnonnullYes X9.here hx rfl (pc0 := 104) (pc' := 111) rfl (hb hby at_104) rfl (by decide) (by decide) ?_
    show Steps p.tables e below (T9.setTop (mkF m 111 #[.val (.int p0), .val (.int p1), .val (.int p2), .val (.ref (w 1)), .val (.ref b2_0), .val (.ref b3), .val (.int (0 : Int32)), .val (.int (1 : Int32)), .val (.int (1 : Int32)), .val (.int (0 : Int32)), .val (.int (0 : Int32)), .unset] [])) _
    refine XS.iconst X9.here hx rfl (hb hby at_111) ?_
    show Steps p.tables e below (T9.setTop (mkF m 112 #[.val (.int p0), .val (.int p1), .val (.int p2), .val (.ref (w 1)), .val (.ref b2_0), .val (.ref b3), .val (.int (0 : Int32)), .val (.int (1 : Int32)), .val (.int (1 : Int32)), .val (.int (0 : Int32)), .val (.int (0 : Int32)), .unset] [(.int (0 : Int32))])) _
    refine XS.istore X9.here hx rfl (hb hby at_112) rfl (l' := #[.val (.int p0), .val (.int p1), .val (.int p2), .val (.ref (w 1)), .val (.ref b2_0), .val (.ref b3), .val (.int (0 : Int32)), .val (.int (1 : Int32)), .val (.int (1 : Int32)), .val (.int (0 : Int32)), .val (.int (0 : Int32)), .val (.int (0 : Int32))]) rfl ?_
    show Steps p.tables e below (T9.setTop (mkF m 114 #[.val (.int p0), .val (.int p1), .val (.int p2), .val (.ref (w 1)), .val (.ref b2_0), .val (.ref b3), .val (.int (0 : Int32)), .val (.int (1 : Int32)), .val (.int (1 : Int32)), .val (.int (0 : Int32)), .val (.int (0 : Int32)), .val (.int (0 : Int32))] [])) _
    refine XS.iload X9.here hx rfl (hb hby at_114) rfl ?_
    show Steps p.tables e below (T9.setTop (mkF m 116 #[.val (.int p0), .val (.int p1), .val (.int p2), .val (.ref (w 1)), .val (.ref b2_0), .val (.ref b3), .val (.int (0 : Int32)), .val (.int (1 : Int32)), .val (.int (1 : Int32)), .val (.int (0 : Int32)), .val (.int (0 : Int32)), .val (.int (0 : Int32))] [(.int (0 : Int32))])) _
    refine XS.ifNo X9.here hx rfl (hb hby at_116) rfl ((if0 _ _).trans (teq (by decide : (0 : Int32) = (0 : Int32))).2) ?_
    show Steps p.tables e below (T9.setTop (mkF m 119 #[.val (.int p0), .val (.int p1), .val (.int p2), .val (.ref (w 1)), .val (.ref b2_0), .val (.ref b3), .val (.int (0 : Int32)), .val (.int (1 : Int32)), .val (.int (1 : Int32)), .val (.int (0 : Int32)), .val (.int (0 : Int32)), .val (.int (0 : Int32))] [])) _
    refine XS.iload X9.here hx rfl (hb hby at_119) rfl ?_
    show Steps p.tables e below (T9.setTop (mkF m 121 #[.val (.int p0), .val (.int p1), .val (.int p2), .val (.ref (w 1)), .val (.ref b2_0), .val (.ref b3), .val (.int (0 : Int32)), .val (.int (1 : Int32)), .val (.int (1 : Int32)), .val (.int (0 : Int32)), .val (.int (0 : Int32)), .val (.int (0 : Int32))] [(.int (0 : Int32))])) _
    refine XS.iload X9.here hx rfl (hb hby at_121) rfl ?_
    show Steps p.tables e below (T9.setTop (mkF m 123 #[.val (.int p0), .val (.int p1), .val (.int p2), .val (.ref (w 1)), .val (.ref b2_0), .val (.ref b3), .val (.int (0 : Int32)), .val (.int (1 : Int32)), .val (.int (1 : Int32)), .val (.int (0 : Int32)), .val (.int (0 : Int32)), .val (.int (0 : Int32))] [(.int (0 : Int32)), (.int (0 : Int32))])) _
    refine XS.icmpNo X9.here hx rfl (hb hby at_123) rfl (teq (by decide : (0 : Int32) = (0 : Int32))).2 ?_
    show Steps p.tables e below (T9.setTop (mkF m 126 #[.val (.int p0), .val (.int p1), .val (.int p2), .val (.ref (w 1)), .val (.ref b2_0), .val (.ref b3), .val (.int (0 : Int32)), .val (.int (1 : Int32)), .val (.int (1 : Int32)), .val (.int (0 : Int32)), .val (.int (0 : Int32)), .val (.int (0 : Int32))] [])) _
    refine XS.iload X9.here hx rfl (hb hby at_126) rfl ?_
    show Steps p.tables e below (T9.setTop (mkF m 128 #[.val (.int p0), .val (.int p1), .val (.int p2), .val (.ref (w 1)), .val (.ref b2_0), .val (.ref b3), .val (.int (0 : Int32)), .val (.int (1 : Int32)), .val (.int (1 : Int32)), .val (.int (0 : Int32)), .val (.int (0 : Int32)), .val (.int (0 : Int32))] [(.int (0 : Int32))])) _
    refine XS.iload X9.here hx rfl (hb hby at_128) rfl ?_
    show Steps p.tables e below (T9.setTop (mkF m 130 #[.val (.int p0), .val (.int p1), .val (.int p2), .val (.ref (w 1)), .val (.ref b2_0), .val (.ref b3), .val (.int (0 : Int32)), .val (.int (1 : Int32)), .val (.int (1 : Int32)), .val (.int (0 : Int32)), .val (.int (0 : Int32)), .val (.int (0 : Int32))] [(.int (0 : Int32)), (.int (0 : Int32))])) _
    refine XS.icmpNo X9.here hx rfl (hb hby at_130) rfl (teq (by decide : (0 : Int32) = (0 : Int32))).2 ?_
    show Steps p.tables e below (T9.setTop (mkF m 133 #[.val (.int p0), .val (.int p1), .val (.int p2), .val (.ref (w 1)), .val (.ref b2_0), .val (.ref b3), .val (.int (0 : Int32)), .val (.int (1 : Int32)), .val (.int (1 : Int32)), .val (.int (0 : Int32)), .val (.int (0 : Int32)), .val (.int (0 : Int32))] [])) _
    refine XS.iconst X9.here hx rfl (hb hby at_133) ?_
    show Steps p.tables e below (T9.setTop (mkF m 134 #[.val (.int p0), .val (.int p1), .val (.int p2), .val (.ref (w 1)), .val (.ref b2_0), .val (.ref b3), .val (.int (0 : Int32)), .val (.int (1 : Int32)), .val (.int (1 : Int32)), .val (.int (0 : Int32)), .val (.int (0 : Int32)), .val (.int (0 : Int32))] [(.int (1 : Int32))])) _
    refine XS.goto X9.here hx rfl (pc0 := 134) (pc' := 138) rfl (hb hby at_134) (by decide) (by decide) ?_
    show Steps p.tables e below (T9.setTop (mkF m 138 #[.val (.int p0), .val (.int p1), .val (.int p2), .val (.ref (w 1)), .val (.ref b2_0), .val (.ref b3), .val (.int (0 : Int32)), .val (.int (1 : Int32)), .val (.int (1 : Int32)), .val (.int (0 : Int32)), .val (.int (0 : Int32)), .val (.int (0 : Int32))] [(.int (1 : Int32))])) _
    exact retN X9 hx (t := .boolean) Bd.returns (by simp) (hb hby at_138) hr
  · show OL (some (.int (1 : Int32))) Z.heap.size _ T9.heap _
    exact ⟨rfl, N9⟩
theorem d_method_3_code_24 : decode method_3_code 24 = .ok (.getstatic 40, 3) := by decide +kernel
theorem d_method_3_code_27 : decode method_3_code 27 = .ok (.areturn, 1) := by decide +kernel
set_option maxRecDepth 65536 in
set_option maxHeartbeats 40000000 in
theorem rm_35 (l : Launch) (Z : State) (a0 : Array Value) (hw : ∀ d ∈ tables_1, d.before a0 Z = true) (w : Nat → Addr) (kk : Nat → ClassId) (iw : Nat → Int32) (vw : Nat → Value) (hN : Wd Z w kk iw vw) (ws : List Jvm.Cond)  (h0 : Heap) (O0 : Old Z Z.heap.size h0) :
    MetFree l (⟨"com/example/netloom/netloom/xml/OpenAnnotationsCarriesGraphicsPinLaw", "pick", "(I)Lcom/example/netloom/netloom/xml/XmlGraphics$Form;"⟩ : MethodName) (head1 (Jvm.Cond.code (⟨"com/example/netloom/netloom/xml/OpenAnnotationsCarriesGraphicsPinLaw", "pick", "(I)Lcom/example/netloom/netloom/xml/XmlGraphics$Form;"⟩ : MethodName) method_3_code 1 (some (.object "com/example/netloom/netloom/xml/XmlGraphics$Form")) :: ws) ({ frames := 0, cells := 0, slots := 0, locals := 0 } : Room)) (fun a U => a = #[(.int (3 : Int32))] ∧ Z.Warmed39 U.vm ∧ U.heap = h0) (fun _ _ _ _ _ => True) (fun _ U o U' => ∃ v L, o = .returned v ∧ OQ (some (.ref (w 0))) h0 Z.heap.size v U'.heap L ∧ FrameEnd U o U' L ({ frames := 0, cells := 0, slots := 0, locals := 0 } : Room).cells ({ frames := 0, cells := 0, slots := 0, locals := 0 } : Room).slots) := by
  have hN' := hN
  obtain ⟨hS0, hE0, hS1, hE1, hS2, hE2, hI0, hJ0, hR0, hRr0⟩ := hN'
  refine MetFree.of_bodySF (plainFor_of_name pn_0) hisR ?_
  intro p e s m args below meth c s₁ Bd hml0 hP hK
  obtain ⟨rfl, hZ, hh⟩ := hP
  have hx := Bd.exec
  have hby := Bd.bytes
  have hml : c.maxLocals = 1 := hml0
  have hown : s.vm.findClass "com/example/netloom/netloom/xml/OpenAnnotationsCarriesGraphicsPinLaw" = some m.cls := findClass_of_methodNamed Bd.named
  have hnm := (name_of_methodNamed Bd.named Bd.method).1
  have X0 : Stand p l e ({ frames := 0, cells := 0, slots := 0, locals := 0 } : Room) s m #[(.int (3 : Int32))] below meth c s₁ [] 0 0 := Stand.of_body Bd
  have e0 : s₁.heap = h0 := by rw [← hh, Bd.state]; rfl
  have N0 := Fr.nil Z.heap.size
  have pre0 : ∀ t, Steps p.tables e below (s₁.setTop (mkF m 0 #[.val (.int (3 : Int32))] [])) t → Steps p.tables e below (s₁.setTop (entryFrame m #[(.int (3 : Int32))] 1)) t := fun t k => castTop (ef_0 m (.int (3 : Int32)) rfl) k
  obtain ⟨T1, X1, e1, st1⟩ := getS2 X0 hx hZ hown (host := "") (Or.inl (W hw 4 rfl)) Via.refl e0 (hS0.ext O0.2) (g := (mkF m 24 #[.val (.int (3 : Int32))] [])) rfl (hb hby d_method_3_code_24)
  obtain ⟨fs, hr, hrun, hended, hW, hsame⟩ := X1.leave (v := some (.ref (w 0))) (fun h => by rw [Bd.returns] at h; cases h)
  refine ⟨_, _, pre0 _ ?_, hrun, hended, _, _, rfl, ?_, ⟨_, rfl⟩, hW, hsame.mono (by decide) (by decide)⟩
  · show Steps p.tables e below (s₁.setTop (mkF m 0 #[.val (.int (3 : Int32))] [])) _
    refine XS.iloadN X0.here hx rfl (hb hby d_method_3_code_0) rfl ?_
    show Steps p.tables e below (s₁.setTop (mkF m 1 #[.val (.int (3 : Int32))] [(.int (3 : Int32))])) _
    refine XS.ifYes X0.here hx rfl (pc0 := 1) (pc' := 6) rfl (hb hby d_method_3_code_1) rfl ((if0 _ _).trans (feq (by decide : ¬ ((3 : Int32) = (0 : Int32)))).2) (by decide) (by decide) ?_
    show Steps p.tables e below (s₁.setTop (mkF m 6 #[.val (.int (3 : Int32))] [])) _
    refine XS.iloadN X0.here hx rfl (hb hby d_method_3_code_6) rfl ?_
    show Steps p.tables e below (s₁.setTop (mkF m 7 #[.val (.int (3 : Int32))] [(.int (3 : Int32))])) _
    refine XS.iconst X0.here hx rfl (hb hby d_method_3_code_7) ?_
    show Steps p.tables e below (s₁.setTop (mkF m 8 #[.val (.int (3 : Int32))] [(.int (1 : Int32)), (.int (3 : Int32))])) _
    refine XS.icmpYes X0.here hx rfl (pc0 := 8) (pc' := 15) rfl (hb hby d_method_3_code_8) rfl (feq (by decide : ¬ ((3 : Int32) = (1 : Int32)))).2 (by decide) (by decide) ?_
    show Steps p.tables e below (s₁.setTop (mkF m 15 #[.val (.int (3 : Int32))] [])) _
    refine XS.iloadN X0.here hx rfl (hb hby d_method_3_code_15) rfl ?_
    show Steps p.tables e below (s₁.setTop (mkF m 16 #[.val (.int (3 : Int32))] [(.int (3 : Int32))])) _
    refine XS.iconst X0.here hx rfl (hb hby d_method_3_code_16) ?_
    show Steps p.tables e below (s₁.setTop (mkF m 17 #[.val (.int (3 : Int32))] [(.int (2 : Int32)), (.int (3 : Int32))])) _
    refine XS.icmpYes X0.here hx rfl (pc0 := 17) (pc' := 24) rfl (hb hby d_method_3_code_17) rfl (feq (by decide : ¬ ((3 : Int32) = (2 : Int32)))).2 (by decide) (by decide) ?_
    show Steps p.tables e below (s₁.setTop (mkF m 24 #[.val (.int (3 : Int32))] [])) _
    refine st1 _ ?_
    show Steps p.tables e below (T1.setTop (mkF m 27 #[.val (.int (3 : Int32))] [(.ref (w 0))])) _
    exact retOut X1 hx Bd.returns rfl (Or.inr (Or.inr (Or.inr (Or.inr ⟨rfl, rfl, rfl⟩)))) (hb hby d_method_3_code_27) hr
  · show OQ (some (.ref (w 0))) h0 Z.heap.size _ T1.heap _
    rw [e1]
    exact ⟨rfl, N0, rfl⟩
def Qd_9 (Z : State) (w : Nat → Addr) (kk : Nat → ClassId) (iw : Nat → Int32) (vw : Nat → Value) (o1 : Addr) (o2 : Addr) (o3 : Addr) (t0 : Int32) (kc_o3 : ClassId) (h0 : Heap) (n0 : Nat) (v : Option Value) (h : Heap) (L : List Loc) : Prop := v = none ∧ Fr n0 L ∧ Keep h0 h [o1] ∧ Exa Z h o1 "com/example/netloom/netloom/xml/NetReader$OpenAnnotations" ∧ Fld Z h o1 "com/example/netloom/netloom/xml/NetReader$OpenAnnotations" "owner" "Ljava/lang/String;" (.ref o2) ∧ Fld Z h o1 "com/example/netloom/netloom/xml/NetReader$OpenAnnotations" "form" "Lcom/example/netloom/netloom/xml/XmlGraphics$Form;" (.ref (w 0)) ∧ Fld Z h o1 "com/example/netloom/netloom/xml/NetReader$OpenAnnotations" "carries" "Ljava/util/Set;" .null ∧ Fld Z h o1 "com/example/netloom/netloom/xml/NetReader$OpenAnnotations" "graphicsCarried" "Z" (.int (0 : Int32)) ∧ Fld Z h o1 "com/example/netloom/netloom/xml/NetReader$OpenAnnotations" "graphics" "Lcom/example/netloom/netloom/net/Graphics;" .null
set_option maxRecDepth 65536 in
set_option maxHeartbeats 40000000 in
theorem rm_36 (l : Launch) (Z : State) (a0 : Array Value) (hw : ∀ d ∈ tables_1, d.before a0 Z = true) (w : Nat → Addr) (kk : Nat → ClassId) (iw : Nat → Int32) (vw : Nat → Value) (hN : Wd Z w kk iw vw) (ws : List Jvm.Cond) (o1 : Addr) (o2 : Addr) (o3 : Addr) (t0 : Int32) (kc_o3 : ClassId) (h0 : Heap) (O0 : Old Z Z.heap.size h0) (gn_o1 : Z.heap.size ≤ o1) (lt_o1 : o1 < h0.size) (gn_o2 : Z.heap.size ≤ o2) (lt_o2 : o2 < h0.size) (E_o1 : Exa Z h0 o1 "com/example/netloom/netloom/xml/NetReader$OpenAnnotations") (F_o1_owner : Fld Z h0 o1 "com/example/netloom/netloom/xml/NetReader$OpenAnnotations" "owner" "Ljava/lang/String;" .null) (F_o1_form : Fld Z h0 o1 "com/example/netloom/netloom/xml/NetReader$OpenAnnotations" "form" "Lcom/example/netloom/netloom/xml/XmlGraphics$Form;" .null) (F_o1_carries : Fld Z h0 o1 "com/example/netloom/netloom/xml/NetReader$OpenAnnotations" "carries" "Ljava/util/Set;" .null) (F_o1_graphicsCarried : Fld Z h0 o1 "com/example/netloom/netloom/xml/NetReader$OpenAnnotations" "graphicsCarried" "Z" (.int (0 : Int32))) (F_o1_graphics : Fld Z h0 o1 "com/example/netloom/netloom/xml/NetReader$OpenAnnotations" "graphics" "Lcom/example/netloom/netloom/net/Graphics;" .null) (E_o2 : Exa Z h0 o2 "java/lang/String") (gn_o3 : Z.heap.size ≤ o3) (lt_o3 : o3 < h0.size) (F_o2_value : Fld Z h0 o2 "java/lang/String" "value" "[B" (.ref o3)) (F_o2_coder : Fld Z h0 o2 "java/lang/String" "coder" "B" (.int (0 : Int32))) (V_o3 : Arv Z h0 o3 kc_o3 .byte (1 : Int32) [(.int t0)] (.int (0 : Int32))) (ne_o1_o2 : o1 ≠ o2) (ne_o1_o3 : o1 ≠ o3) (ne_o2_o3 : o2 ≠ o3) :
    MetFree l (⟨"com/example/netloom/netloom/xml/NetReader$OpenAnnotations", "<init>", "(Ljava/lang/String;Lcom/example/netloom/netloom/xml/XmlGraphics$Form;Ljava/util/Set;)V"⟩ : MethodName) (head1 (Jvm.Cond.code (⟨"com/example/netloom/netloom/xml/NetReader$OpenAnnotations", "<init>", "(Ljava/lang/String;Lcom/example/netloom/netloom/xml/XmlGraphics$Form;Ljava/util/Set;)V"⟩ : MethodName) prog_77_method_1_code 4 none :: ws) ({ frames := 1, cells := 0, slots := 0, locals := 12 } : Room)) (fun a U => a = #[(.ref o1), (.ref o2), (.ref (w 0)), .null] ∧ Z.Warmed39 U.vm ∧ U.heap = h0) (fun _ _ _ _ _ => True) (fun _ U o U' => ∃ v L, o = .returned v ∧ Qd_9 Z w kk iw vw o1 o2 o3 t0 kc_o3 h0 Z.heap.size v U'.heap L ∧ FrameEnd U o U' L ({ frames := 1, cells := 0, slots := 0, locals := 12 } : Room).cells ({ frames := 1, cells := 0, slots := 0, locals := 12 } : Room).slots) := by
  have hN' := hN
  obtain ⟨hS0, hE0, hS1, hE1, hS2, hE2, hI0, hJ0, hR0, hRr0⟩ := hN'
  refine MetFree.of_bodySF (plainFor_of_name pn_3) hisR ?_
  intro p e s m args below meth c s₁ Bd hml0 hP hK
  obtain ⟨rfl, hZ, hh⟩ := hP
  have hx := Bd.exec
  have hby := Bd.bytes
  have hml : c.maxLocals = 4 := hml0
  have hown : s.vm.findClass "com/example/netloom/netloom/xml/NetReader$OpenAnnotations" = some m.cls := findClass_of_methodNamed Bd.named
  have hnm := (name_of_methodNamed Bd.named Bd.method).1
  have X0 : Stand p l e ({ frames := 1, cells := 0, slots := 0, locals := 12 } : Room) s m #[(.ref o1), (.ref o2), (.ref (w 0)), .null] below meth c s₁ [] 0 0 := Stand.of_body Bd
  have e0 : s₁.heap = h0 := by rw [← hh, Bd.state]; rfl
  have N0 := Fr.nil Z.heap.size
  have pre0 : ∀ t, Steps p.tables e below (s₁.setTop (mkF m 0 #[.val (.ref o1), .val (.ref o2), .val (.ref (w 0)), .val .null] [])) t → Steps p.tables e below (s₁.setTop (entryFrame m #[(.ref o1), (.ref o2), (.ref (w 0)), .null] 4)) t := fun t k => castTop (ef_2 m (.ref o1) rfl (.ref o2) rfl (.ref (w 0)) rfl .null rfl) k
  have K0 : Keep h0 h0 [o1] := Keep.refl _ _
  obtain ⟨T1, X1, e1, st1⟩ := initO X0 hx hZ hown (W hw 39 rfl) (W hw 27 rfl) (W hw 28 rfl) e0 (g := (mkF m 1 #[.val (.ref o1), .val (.ref o2), .val (.ref (w 0)), .val .null] [(.ref o1)])) rfl (by rw [hml]; rfl) rfl (hb hby d_prog_77_method_1_code_1) (by decide) (W := 0) (by show 2 * 0 + _ ≤ _; exact Nat.le_of_eq rfl) (by decide)
  obtain ⟨T2, h2, X2, e2, W2, st2⟩ := putF X1 hx hZ hown (host := "") (Or.inl (W hw 40 rfl)) Via.refl e1 F_o1_owner E_o1 (Or.inr ⟨(W hw 41 rfl), rfl, hnm⟩) (W hw 34 rfl) (ty := (.object "java/lang/String")) (by decide) rfl rfl (g := (mkF m 6 #[.val (.ref o1), .val (.ref o2), .val (.ref (w 0)), .val .null] [(.ref o2), (.ref o1)])) rfl rfl (hb hby d_prog_77_method_1_code_6)
  have F_o1_owner_v2 := F_o1_owner.same W2
  have N2 := Fr.snoc X2 N0 gn_o1
  have E_o1_v2 := E_o1.wr W2
  have F_o1_form_v2 := F_o1_form.other W2 (Or.inr (sn_2 hw))
  have F_o1_carries_v2 := F_o1_carries.other W2 (Or.inr (sn_3 hw))
  have F_o1_graphicsCarried_v2 := F_o1_graphicsCarried.other W2 (Or.inr (sn_4 hw))
  have F_o1_graphics_v2 := F_o1_graphics.other W2 (Or.inr (sn_5 hw))
  have E_o2_v2 := E_o2.wr W2
  have F_o2_value_v2 := F_o2_value.other W2 (Or.inl (Ne.symm ne_o1_o2))
  have F_o2_coder_v2 := F_o2_coder.other W2 (Or.inl (Ne.symm ne_o1_o2))
  have V_o3_v2 := V_o3.other W2 (Ne.symm ne_o1_o3)
  have O2 := O0.wr W2 gn_o1
  have K2 : Keep h0 h2 [o1] := K0.wr W2 (Or.inl (List.mem_of_getElem? (i := 0) rfl))
  obtain ⟨T3, h3, X3, e3, W3, st3⟩ := putF X2 hx hZ hown (host := "") (Or.inl (W hw 42 rfl)) Via.refl e2 F_o1_form_v2 E_o1_v2 (Or.inr ⟨(W hw 43 rfl), rfl, hnm⟩) (W hw 34 rfl) (ty := (.object "com/example/netloom/netloom/xml/XmlGraphics$Form")) (by decide) rfl rfl (g := (mkF m 11 #[.val (.ref o1), .val (.ref o2), .val (.ref (w 0)), .val .null] [(.ref (w 0)), (.ref o1)])) rfl rfl (hb hby d_prog_77_method_1_code_11)
  have F_o1_form_v3 := F_o1_form_v2.same W3
  have N3 := Fr.snoc X3 N2 gn_o1
  have E_o1_v3 := E_o1_v2.wr W3
  have F_o1_owner_v3 := F_o1_owner_v2.other W3 (Or.inr (sn_6 hw))
  have F_o1_carries_v3 := F_o1_carries_v2.other W3 (Or.inr (sn_7 hw))
  have F_o1_graphicsCarried_v3 := F_o1_graphicsCarried_v2.other W3 (Or.inr (sn_8 hw))
  have F_o1_graphics_v3 := F_o1_graphics_v2.other W3 (Or.inr (sn_9 hw))
  have E_o2_v3 := E_o2_v2.wr W3
  have F_o2_value_v3 := F_o2_value_v2.other W3 (Or.inl (Ne.symm ne_o1_o2))
  have F_o2_coder_v3 := F_o2_coder_v2.other W3 (Or.inl (Ne.symm ne_o1_o2))
  have V_o3_v3 := V_o3_v2.other W3 (Ne.symm ne_o1_o3)
  have O3 := O2.wr W3 gn_o1
  have K3 : Keep h0 h3 [o1] := K2.wr W3 (Or.inl (List.mem_of_getElem? (i := 0) rfl))
  obtain ⟨T4, h4, X4, e4, W4, st4⟩ := putF X3 hx hZ hown (host := "") (Or.inl (W hw 44 rfl)) Via.refl e3 F_o1_carries_v3 E_o1_v3 (Or.inr ⟨(W hw 45 rfl), rfl, hnm⟩) (W hw 34 rfl) (ty := (.object "java/util/Set")) (by decide) rfl rfl (g := (mkF m 16 #[.val (.ref o1), .val (.ref o2), .val (.ref (w 0)), .val .null] [.null, (.ref o1)])) rfl rfl (hb hby d_prog_77_method_1_code_16)
  have F_o1_carries_v4 := F_o1_carries_v3.same W4
  have N4 := Fr.snoc X4 N3 gn_o1
  have E_o1_v4 := E_o1_v3.wr W4
  have F_o1_owner_v4 := F_o1_owner_v3.other W4 (Or.inr (sn_10 hw))
  have F_o1_form_v4 := F_o1_form_v3.other W4 (Or.inr (sn_11 hw))
  have F_o1_graphicsCarried_v4 := F_o1_graphicsCarried_v3.other W4 (Or.inr (sn_12 hw))
  have F_o1_graphics_v4 := F_o1_graphics_v3.other W4 (Or.inr (sn_13 hw))
  have E_o2_v4 := E_o2_v3.wr W4
  have F_o2_value_v4 := F_o2_value_v3.other W4 (Or.inl (Ne.symm ne_o1_o2))
  have F_o2_coder_v4 := F_o2_coder_v3.other W4 (Or.inl (Ne.symm ne_o1_o2))
  have V_o3_v4 := V_o3_v3.other W4 (Ne.symm ne_o1_o3)
  have O4 := O3.wr W4 gn_o1
  have K4 : Keep h0 h4 [o1] := K3.wr W4 (Or.inl (List.mem_of_getElem? (i := 0) rfl))
  obtain ⟨fs, hr, hrun, hended, hW, hsame⟩ := X4.leave (v := none) (fun _ => rfl)
  refine ⟨_, _, pre0 _ ?_, hrun, hended, _, _, rfl, ?_, ⟨_, rfl⟩, hW, hsame.mono (by decide) (by decide)⟩
  · show Steps p.tables e below (s₁.setTop (mkF m 0 #[.val (.ref o1), .val (.ref o2), .val (.ref (w 0)), .val .null] [])) _
    refine XS.aloadN X0.here hx rfl (hb hby d_prog_77_method_1_code_0) rfl rfl ?_
    show Steps p.tables e below (s₁.setTop (mkF m 1 #[.val (.ref o1), .val (.ref o2), .val (.ref (w 0)), .val .null] [(.ref o1)])) _
    refine st1 _ ?_
    show Steps p.tables e below (T1.setTop (mkF m 4 #[.val (.ref o1), .val (.ref o2), .val (.ref (w 0)), .val .null] [])) _
    refine XS.aloadN X1.here hx rfl (hb hby d_prog_77_method_1_code_4) rfl rfl ?_
    show Steps p.tables e below (T1.setTop (mkF m 5 #[.val (.ref o1), .val (.ref o2), .val (.ref (w 0)), .val .null] [(.ref o1)])) _
    refine XS.aloadN X1.here hx rfl (hb hby d_prog_77_method_1_code_5) rfl rfl ?_
    show Steps p.tables e below (T1.setTop (mkF m 6 #[.val (.ref o1), .val (.ref o2), .val (.ref (w 0)), .val .null] [(.ref o2), (.ref o1)])) _
    refine st2 _ ?_
    show Steps p.tables e below (T2.setTop (mkF m 9 #[.val (.ref o1), .val (.ref o2), .val (.ref (w 0)), .val .null] [])) _
    refine XS.aloadN X2.here hx rfl (hb hby d_prog_77_method_1_code_9) rfl rfl ?_
    show Steps p.tables e below (T2.setTop (mkF m 10 #[.val (.ref o1), .val (.ref o2), .val (.ref (w 0)), .val .null] [(.ref o1)])) _
    refine XS.aloadN X2.here hx rfl (hb hby d_prog_77_method_1_code_10) rfl rfl ?_
    show Steps p.tables e below (T2.setTop (mkF m 11 #[.val (.ref o1), .val (.ref o2), .val (.ref (w 0)), .val .null] [(.ref (w 0)), (.ref o1)])) _
    refine st3 _ ?_
    show Steps p.tables e below (T3.setTop (mkF m 14 #[.val (.ref o1), .val (.ref o2), .val (.ref (w 0)), .val .null] [])) _
    refine XS.aloadN X3.here hx rfl (hb hby d_prog_77_method_1_code_14) rfl rfl ?_
    show Steps p.tables e below (T3.setTop (mkF m 15 #[.val (.ref o1), .val (.ref o2), .val (.ref (w 0)), .val .null] [(.ref o1)])) _
    refine XS.aloadN X3.here hx rfl (hb hby d_prog_77_method_1_code_15) rfl rfl ?_
    show Steps p.tables e below (T3.setTop (mkF m 16 #[.val (.ref o1), .val (.ref o2), .val (.ref (w 0)), .val .null] [.null, (.ref o1)])) _
    refine st4 _ ?_
    show Steps p.tables e below (T4.setTop (mkF m 19 #[.val (.ref o1), .val (.ref o2), .val (.ref (w 0)), .val .null] [])) _
    exact X4.returnOut hx Bd.returns (hb hby d_prog_77_method_1_code_19) hr
  · show Qd_9 Z w kk iw vw o1 o2 o3 t0 kc_o3 h0 Z.heap.size _ T4.heap _
    rw [e4]
    exact ⟨rfl, N4, K4, E_o1_v4, F_o1_owner_v4, F_o1_form_v4, F_o1_carries_v4, F_o1_graphicsCarried_v4, F_o1_graphics_v4⟩
set_option maxRecDepth 65536 in
set_option maxHeartbeats 40000000 in
theorem rm_37 (l : Launch) (Z : State) (a0 : Array Value) (hw : ∀ d ∈ tables_1, d.before a0 Z = true) (w : Nat → Addr) (kk : Nat → ClassId) (iw : Nat → Int32) (vw : Nat → Value) (hN : Wd Z w kk iw vw) (ws : List Jvm.Cond) (o1 : Addr) (o2 : Addr) (o3 : Addr) (t0 : Int32) (kc_o3 : ClassId) (h0 : Heap) (O0 : Old Z Z.heap.size h0) (gn_o1 : Z.heap.size ≤ o1) (lt_o1 : o1 < h0.size) (E_o1 : Exa Z h0 o1 "com/example/netloom/netloom/xml/NetReader$OpenAnnotations") (gn_o2 : Z.heap.size ≤ o2) (lt_o2 : o2 < h0.size) (F_o1_owner : Fld Z h0 o1 "com/example/netloom/netloom/xml/NetReader$OpenAnnotations" "owner" "Ljava/lang/String;" (.ref o2)) (F_o1_form : Fld Z h0 o1 "com/example/netloom/netloom/xml/NetReader$OpenAnnotations" "form" "Lcom/example/netloom/netloom/xml/XmlGraphics$Form;" (.ref (w 0))) (F_o1_carries : Fld Z h0 o1 "com/example/netloom/netloom/xml/NetReader$OpenAnnotations" "carries" "Ljava/util/Set;" .null) (F_o1_graphicsCarried : Fld Z h0 o1 "com/example/netloom/netloom/xml/NetReader$OpenAnnotations" "graphicsCarried" "Z" (.int (0 : Int32))) (F_o1_graphics : Fld Z h0 o1 "com/example/netloom/netloom/xml/NetReader$OpenAnnotations" "graphics" "Lcom/example/netloom/netloom/net/Graphics;" .null) (E_o2 : Exa Z h0 o2 "java/lang/String") (gn_o3 : Z.heap.size ≤ o3) (lt_o3 : o3 < h0.size) (F_o2_value : Fld Z h0 o2 "java/lang/String" "value" "[B" (.ref o3)) (F_o2_coder : Fld Z h0 o2 "java/lang/String" "coder" "B" (.int (0 : Int32))) (V_o3 : Arv Z h0 o3 kc_o3 .byte (1 : Int32) [(.int t0)] (.int (0 : Int32))) (ne_o1_o2 : o1 ≠ o2) (ne_o1_o3 : o1 ≠ o3) (ne_o2_o3 : o2 ≠ o3) :
    MetFree l (⟨"com/example/netloom/netloom/xml/NetReader$OpenAnnotations", "carriesGraphics", "()Z"⟩ : MethodName) (head1 (Jvm.Cond.code (⟨"com/example/netloom/netloom/xml/NetReader$OpenAnnotations", "carriesGraphics", "()Z"⟩ : MethodName) prog_77_method_3_code 1 (some .boolean) :: ws) ({ frames := 0, cells := 0, slots := 0, locals := 0 } : Room)) (fun a U => a = #[(.ref o1)] ∧ Z.Warmed39 U.vm ∧ U.heap = h0) (fun _ _ _ _ _ => True) (fun _ U o U' => ∃ v L, o = .returned v ∧ OQ (some (.int (0 : Int32))) h0 Z.heap.size v U'.heap L ∧ FrameEnd U o U' L ({ frames := 0, cells := 0, slots := 0, locals := 0 } : Room).cells ({ frames := 0, cells := 0, slots := 0, locals := 0 } : Room).slots) := by
  have hN' := hN
  obtain ⟨hS0, hE0, hS1, hE1, hS2, hE2, hI0, hJ0, hR0, hRr0⟩ := hN'
  refine MetFree.of_bodySF (plainFor_of_name pn_3) hisR ?_
  intro p e s m args below meth c s₁ Bd hml0 hP hK
  obtain ⟨rfl, hZ, hh⟩ := hP
  have hx := Bd.exec
  have hby := Bd.bytes
  have hml : c.maxLocals = 1 := hml0
  have hown : s.vm.findClass "com/example/netloom/netloom/xml/NetReader$OpenAnnotations" = some m.cls := findClass_of_methodNamed Bd.named
  have hnm := (name_of_methodNamed Bd.named Bd.method).1
  have X0 : Stand p l e ({ frames := 0, cells := 0, slots := 0, locals := 0 } : Room) s m #[(.ref o1)] below meth c s₁ [] 0 0 := Stand.of_body Bd
  have e0 : s₁.heap = h0 := by rw [← hh, Bd.state]; rfl
  have N0 := Fr.nil Z.heap.size
  have pre0 : ∀ t, Steps p.tables e below (s₁.setTop (mkF m 0 #[.val (.ref o1)] [])) t → Steps p.tables e below (s₁.setTop (entryFrame m #[(.ref o1)] 1)) t := fun t k => castTop (ef_3 m (.ref o1) rfl) k
  obtain ⟨T1, X1, e1, st1⟩ := getF X0 hx hZ hown (host := "") (Or.inl (W hw 51 rfl)) Via.refl e0 F_o1_graphicsCarried (g := (mkF m 1 #[.val (.ref o1)] [(.ref o1)])) rfl rfl (hb hby d_prog_77_method_3_code_1)
  obtain ⟨fs, hr, hrun, hended, hW, hsame⟩ := X1.leave (v := some (.int (0 : Int32))) (fun h => by rw [Bd.returns] at h; cases h)
  refine ⟨_, _, pre0 _ ?_, hrun, hended, _, _, rfl, ?_, ⟨_, rfl⟩, hW, hsame.mono (by decide) (by decide)⟩
  · show Steps p.tables e below (s₁.setTop (mkF m 0 #[.val (.ref o1)] [])) _
    refine XS.aloadN X0.here hx rfl (hb hby d_prog_77_method_3_code_0) rfl rfl ?_
    show Steps p.tables e below (s₁.setTop (mkF m 1 #[.val (.ref o1)] [(.ref o1)])) _
    refine st1 _ ?_
    show Steps p.tables e below (T1.setTop (mkF m 4 #[.val (.ref o1)] [(.int (0 : Int32))])) _
    refine XS.ifYes X1.here hx rfl (pc0 := 4) (pc' := 25) rfl (hb hby d_prog_77_method_3_code_4) rfl ((if0 _ _).trans (teq (by decide : (0 : Int32) = (0 : Int32))).1) (by decide) (by decide) ?_
    show Steps p.tables e below (T1.setTop (mkF m 25 #[.val (.ref o1)] [])) _
    refine XS.iconst X1.here hx rfl (hb hby d_prog_77_method_3_code_25) ?_
    show Steps p.tables e below (T1.setTop (mkF m 26 #[.val (.ref o1)] [(.int (0 : Int32))])) _
    exact retN X1 hx (t := .boolean) Bd.returns (by simp) (hb hby d_prog_77_method_3_code_26) hr
  · show OQ (some (.int (0 : Int32))) h0 Z.heap.size _ T1.heap _
    rw [e1]
    exact ⟨rfl, N0, rfl⟩
set_option maxRecDepth 65536 in
set_option maxHeartbeats 40000000 in
theorem law_38 (l : Launch) (Z : State) (a0 : Array Value) (hw : ∀ d ∈ tables_1, d.before a0 Z = true) (w : Nat → Addr) (kk : Nat → ClassId) (iw : Nat → Int32) (vw : Nat → Value) (hN : Wd Z w kk iw vw) (ws : List Jvm.Cond) (p0 : Int32) (p1 : Int32) (p2 : Int32) (h0 : Heap) (O0 : Old Z Z.heap.size h0) (hp0 : (p1 &&& (3 : Int32)) = (3 : Int32)) (hp1 : ¬ ((255 : Int32) < ((p2 &&& (255 : Int32)).toUInt32.toUInt16.toUInt32.toInt32))) (hp2 : (p0 &&& (1 : Int32)) = (0 : Int32)) (hp3 : (p0 &&& (2 : Int32)) = (0 : Int32)) :
    MetFree l x (head1 (Jvm.Cond.code x code maxLocals ret :: ws) room_1) (fun a U => a = #[(.int p0), (.int p1), (.int p2)] ∧ Z.Warmed39 U.vm ∧ U.heap = h0) (fun _ _ _ _ _ => True) (fun _ U o U' => ∃ v L, o = .returned v ∧ OL (some (.int (1 : Int32))) Z.heap.size v U'.heap L ∧ FrameEnd U o U' L 16 128) := by
  have hN' := hN
  obtain ⟨hS0, hE0, hS1, hE1, hS2, hE2, hI0, hJ0, hR0, hRr0⟩ := hN'
  refine MetFree.of_bodySF (plainFor_of_name pn_0) hisR ?_
  intro p e s m args below meth c s₁ Bd hml0 hP hK
  obtain ⟨rfl, hZ, hh⟩ := hP
  have hx := Bd.exec
  have hby := Bd.bytes
  have hml : c.maxLocals = 12 := hml0
  have hown : s.vm.findClass "com/example/netloom/netloom/xml/OpenAnnotationsCarriesGraphicsPinLaw" = some m.cls := findClass_of_methodNamed Bd.named
  have hnm := (name_of_methodNamed Bd.named Bd.method).1
  have X0 : Stand p l e room_1 s m #[(.int p0), (.int p1), (.int p2)] below meth c s₁ [] 0 0 := Stand.of_body Bd
  have e0 : s₁.heap = h0 := by rw [← hh, Bd.state]; rfl
  have N0 := Fr.nil Z.heap.size
  have pre0 : ∀ t, Steps p.tables e below (s₁.setTop (mkF m 0 #[.val (.int p0), .val (.int p1), .val (.int p2), .unset, .unset, .unset, .unset, .unset, .unset, .unset, .unset, .unset] [])) t → Steps p.tables e below (s₁.setTop (entryFrame m #[(.int p0), (.int p1), (.int p2)] maxLocals)) t := fun t k => castTop (ef_4 m (.int p0) rfl (.int p1) rfl (.int p2) rfl) k
  obtain ⟨_, _, ⟨T1, L1, k1, n1⟩, -, X1, ⟨Lc1, hQ1, l1, y1, z1⟩, st1⟩ := Jvm.LawKit.callS X0 hx (y := (⟨"com/example/netloom/netloom/xml/OpenAnnotationsCarriesGraphicsPinLaw", "pick", "(I)Lcom/example/netloom/netloom/xml/XmlGraphics$Form;"⟩ : MethodName)) hown (mvT hZ (W hw 0 rfl)) (mvT hZ (W hw 1 rfl)) (mvT hZ (W hw 2 rfl)) (mvT hZ (W hw 3 rfl)) (by decide) (backOf (W := 0) (rm_35 l Z a0 hw w kk iw vw hN [] h0 O0) hZ (W hw 3 rfl) (W hw 2 rfl) (by decide) (by decide)) (g := (mkF m 3 #[.val (.int p0), .val (.int p1), .val (.int p2), .unset, .unset, .unset, .unset, .unset, .unset, .unset, .unset, .unset] [(.int (3 : Int32))])) rfl (by rw [hml]; rfl) (argsL := [(.int (3 : Int32))]) (rest := []) (lenOf pd_0 rfl) rfl (by show 2 * 0 + _ ≤ _; exact Nat.le_of_eq rfl) (hb hby at_3) (fun _ _ => ⟨rfl, e0, (by decide : 0 + 0 ≤ _), (by decide : 0 + 0 ≤ _)⟩)
  dsimp only [Pt.U, Pt.locs, Pt.cells, Pt.slots] at X1 l1 y1 z1 st1 hQ1
  subst l1 y1 z1
  obtain ⟨rfl, N1q, e1⟩ := hQ1
  have N1 := Fr.app N0 N1q
  obtain ⟨_, _, ⟨T2, L2, k2, n2⟩, -, X2, ⟨Lc2, hQ2, l2, y2, z2⟩, st2⟩ := Jvm.LawKit.callS X1 hx (y := (⟨"java/lang/String", "valueOf", "(C)Ljava/lang/String;"⟩ : MethodName)) hown (mvT hZ (W hw 7 rfl)) (mvT hZ (W hw 8 rfl)) (mvT hZ (W hw 9 rfl)) (mvT hZ (W hw 10 rfl)) (by decide) (backOf (W := 0) (rm_5 l Z a0 hw w kk iw vw hN [] ((p2 &&& (255 : Int32)).toUInt32.toUInt16.toUInt32.toInt32) h0 O0 hp1) hZ (W hw 10 rfl) (W hw 9 rfl) (by decide) (by decide)) (g := (mkF m 13 #[.val (.int p0), .val (.int p1), .val (.int p2), .val (.ref (w 0)), .unset, .unset, .unset, .unset, .unset, .unset, .unset, .unset] [(.int ((p2 &&& (255 : Int32)).toUInt32.toUInt16.toUInt32.toInt32))])) rfl (by rw [hml]; rfl) (argsL := [(.int ((p2 &&& (255 : Int32)).toUInt32.toUInt16.toUInt32.toInt32))]) (rest := []) (lenOf pd_4 rfl) rfl (by show 2 * 0 + _ ≤ _; exact Nat.le_of_eq rfl) (hb hby at_13) (fun _ _ => ⟨rfl, e1, (by decide : 0 + 2 ≤ _), (by decide : 0 + 5 ≤ _)⟩)
  dsimp only [Pt.U, Pt.locs, Pt.cells, Pt.slots] at X2 l2 y2 z2 st2 hQ2
  subst l2 y2 z2
  obtain ⟨b2_0, b2_1, kb2_0, rfl, N2q, Kq2, tk2_0, tk2_1, tk2_2, tk2_3, tk2_4, tk2_5, tk2_6⟩ := hQ2
  have N2 := Fr.app N1 N2q
  have gn_b2_0 : Z.heap.size ≤ b2_0 := Nat.le_trans O0.2.1 tk2_0
  have gn_b2_1 : Z.heap.size ≤ b2_1 := Nat.le_trans O0.2.1 tk2_1
  have O2 := O0.keep Kq2 all0
  obtain ⟨T3, h3, X3, e3, E3, A3, D3, -, st3⟩ := newO X2 hx hZ hown (W hw 33 rfl) (W hw 34 rfl) (W hw 35 rfl) rfl (g := (mkF m 18 #[.val (.int p0), .val (.int p1), .val (.int p2), .val (.ref (w 0)), .val (.ref b2_0), .unset, .unset, .unset, .unset, .unset, .unset, .unset] [])) rfl (hb hby at_18) (by decide) (by decide)
  obtain ⟨b3, g3⟩ : ∃ z, z = T2.heap.size := ⟨_, rfl⟩
  rw [← g3] at A3 st3 D3
  have gn_b3 : Z.heap.size ≤ b3 := Nat.le_trans O2.2.1 (Nat.le_of_eq g3.symm)
  have ne_b2_1_b3 : b2_1 ≠ b3 := Nat.ne_of_lt (Nat.lt_of_lt_of_le tk2_6.lt (Nat.le_of_eq g3.symm))
  have ne_b2_0_b3 : b2_0 ≠ b3 := Nat.ne_of_lt (Nat.lt_of_lt_of_le tk2_3.lt (Nat.le_of_eq g3.symm))
  have tk2_3_v3 := tk2_3.ext E3
  have tk2_4_v3 := tk2_4.ext E3
  have tk2_5_v3 := tk2_5.ext E3
  have tk2_6_v3 := tk2_6.ext E3
  have O3 := O2.ext E3
  have E_b3_v3 := A3
  have F_b3_owner_v3 : Fld Z h3 b3 "com/example/netloom/netloom/xml/NetReader$OpenAnnotations" "owner" "Ljava/lang/String;" .null := D3 (Or.inr (W hw 41 rfl)) (ty := (.object "java/lang/String")) (by decide)
  have F_b3_form_v3 : Fld Z h3 b3 "com/example/netloom/netloom/xml/NetReader$OpenAnnotations" "form" "Lcom/example/netloom/netloom/xml/XmlGraphics$Form;" .null := D3 (Or.inr (W hw 43 rfl)) (ty := (.object "com/example/netloom/netloom/xml/XmlGraphics$Form")) (by decide)
  have F_b3_carries_v3 : Fld Z h3 b3 "com/example/netloom/netloom/xml/NetReader$OpenAnnotations" "carries" "Ljava/util/Set;" .null := D3 (Or.inr (W hw 45 rfl)) (ty := (.object "java/util/Set")) (by decide)
  have F_b3_graphicsCarried_v3 : Fld Z h3 b3 "com/example/netloom/netloom/xml/NetReader$OpenAnnotations" "graphicsCarried" "Z" (.int (0 : Int32)) := D3 (Or.inl (W hw 52 rfl)) (ty := .boolean) (by decide)
  have F_b3_graphics_v3 : Fld Z h3 b3 "com/example/netloom/netloom/xml/NetReader$OpenAnnotations" "graphics" "Lcom/example/netloom/netloom/net/Graphics;" .null := D3 (Or.inl (W hw 59 rfl)) (ty := (.object "com/example/netloom/netloom/net/Graphics")) (by decide)
  obtain ⟨_, _, ⟨T4, L4, k4, n4⟩, -, X4, ⟨Lc4, hQ4, l4, y4, z4⟩, st4⟩ := X3.specialBack hx (y := (⟨"com/example/netloom/netloom/xml/NetReader$OpenAnnotations", "<init>", "(Ljava/lang/String;Lcom/example/netloom/netloom/xml/XmlGraphics$Form;Ljava/util/Set;)V"⟩ : MethodName)) rfl hown (mvT hZ (W hw 36 rfl)) (mvT hZ (W hw 37 rfl)) (mvT hZ (W hw 38 rfl)) (by decide) (backOf (W := 1) (rm_36 l Z a0 hw w kk iw vw hN [] b3 b2_0 b2_1 ((((p2 &&& (255 : Int32)).toUInt32.toUInt16.toUInt32.toInt32).toInt8.toInt32).toInt8.toInt32) kb2_0 h3 O3 gn_b3 E_b3_v3.lt gn_b2_0 tk2_3_v3.lt E_b3_v3 F_b3_owner_v3 F_b3_form_v3 F_b3_carries_v3 F_b3_graphicsCarried_v3 F_b3_graphics_v3 tk2_3_v3 gn_b2_1 tk2_6_v3.lt tk2_4_v3 tk2_5_v3 tk2_6_v3 (Ne.symm ne_b2_0_b3) (Ne.symm ne_b2_1_b3) tk2_2) hZ (W hw 38 rfl) (W hw 35 rfl) (by decide) (by decide)) (g := (mkF m 26 #[.val (.int p0), .val (.int p1), .val (.int p2), .val (.ref (w 0)), .val (.ref b2_0), .unset, .unset, .unset, .unset, .unset, .unset, .unset] [.null, (.ref (w 0)), (.ref b2_0), (.ref b3), (.ref b3)])) rfl (by rw [hml]; rfl) (Steps.refl _) (a := b3) (argsL := [(.ref b2_0), (.ref (w 0)), .null]) (rest := [(.ref b3)]) (lenOf pd_5 rfl) rfl (by show 2 * 0 + _ ≤ _; exact Nat.le_of_eq rfl) (hb hby at_26) (fun _ _ => ⟨rfl, e3, (by decide : 3 + 0 ≤ _), (by decide : 16 + 0 ≤ _)⟩)
  dsimp only [Pt.U, Pt.locs, Pt.cells, Pt.slots] at X4 l4 y4 z4 st4 hQ4
  subst l4 y4 z4
  obtain ⟨rfl, N4q, Kq4, tk4_0, tk4_1, tk4_2, tk4_3, tk4_4, tk4_5⟩ := hQ4
  have N4 := Fr.app N2 N4q
  have tk2_3_v4 := tk2_3_v3.keep Kq4
  have tk2_4_v4 := tk2_4_v3.keep Kq4 (ninS ne_b2_0_b3 nin0)
  have tk2_5_v4 := tk2_5_v3.keep Kq4 (ninS ne_b2_0_b3 nin0)
  have tk2_6_v4 := tk2_6_v3.keep Kq4 (ninS ne_b2_1_b3 nin0)
  have E_b3_v4 := E_b3_v3.keep Kq4
  have O4 := O3.keep Kq4 (allS gn_b3 all0)
  obtain ⟨cq5, kq5, q5a, q5b, q5c⟩ := isOf hZ rfl tk4_0
  obtain ⟨_, _, ⟨T5, L5, k5, n5⟩, -, X5, ⟨Lc5, hQ5, l5, y5, z5⟩, st5⟩ := X4.virtualBack hx (y := (⟨"com/example/netloom/netloom/xml/NetReader$OpenAnnotations", "carriesGraphics", "()Z"⟩ : MethodName)) (z := (⟨"com/example/netloom/netloom/xml/NetReader$OpenAnnotations", "carriesGraphics", "()Z"⟩ : MethodName)) hown (mvT hZ (W hw 46 rfl)) (mvT hZ (W hw 47 rfl)) (notFace_of_selects (args := #[]) (mvT hZ (W hw 49 rfl))) (mvT hZ (W hw 49 rfl)) (mvT hZ (W hw 48 rfl)) (by decide) (backOf (W := 0) (rm_37 l Z a0 hw w kk iw vw hN [] b3 b2_0 b2_1 ((((p2 &&& (255 : Int32)).toUInt32.toUInt16.toUInt32.toInt32).toInt8.toInt32).toInt8.toInt32) kb2_0 T4.heap O4 gn_b3 tk4_0.lt tk4_0 gn_b2_0 tk2_3_v4.lt tk4_1 tk4_2 tk4_3 tk4_4 tk4_5 tk2_3_v4 gn_b2_1 tk2_6_v4.lt tk2_4_v4 tk2_5_v4 tk2_6_v4 (Ne.symm ne_b2_0_b3) (Ne.symm ne_b2_1_b3) tk2_2) hZ (W hw 50 rfl) (W hw 35 rfl) (by decide) (by decide)) q5a q5c (g := (mkF m 33 #[.val (.int p0), .val (.int p1), .val (.int p2), .val (.ref (w 0)), .val (.ref b2_0), .val (.ref b3), .unset, .unset, .unset, .unset, .unset, .unset] [(.ref b3)])) rfl (by rw [hml]; rfl) (Steps.refl _) (argsL := []) (rest := []) (lenOf pd_6 rfl) rfl (by show 2 * 0 + _ ≤ _; exact Nat.le_of_eq rfl) (hb hby at_33) (fun _ _ => ⟨rfl, rfl, (by decide : 3 + 0 ≤ _), (by decide : 16 + 0 ≤ _)⟩)
  dsimp only [Pt.U, Pt.locs, Pt.cells, Pt.slots] at X5 l5 y5 z5 st5 hQ5
  subst l5 y5 z5
  obtain ⟨rfl, N5q, e5⟩ := hQ5
  have N5 := Fr.app N4 N5q
  obtain ⟨cq6, kq6, q6a, q6b, q6c⟩ := isOf hZ e5 tk4_0
  obtain ⟨_, _, ⟨T6, L6, k6, n6⟩, -, X6, ⟨Lc6, hQ6, l6, y6, z6⟩, st6⟩ := X5.virtualBack hx (y := (⟨"com/example/netloom/netloom/xml/NetReader$OpenAnnotations", "carriesGraphics", "()Z"⟩ : MethodName)) (z := (⟨"com/example/netloom/netloom/xml/NetReader$OpenAnnotations", "carriesGraphics", "()Z"⟩ : MethodName)) hown (mvT hZ (W hw 46 rfl)) (mvT hZ (W hw 47 rfl)) (notFace_of_selects (args := #[]) (mvT hZ (W hw 49 rfl))) (mvT hZ (W hw 49 rfl)) (mvT hZ (W hw 48 rfl)) (by decide) (backOf (W := 0) (rm_37 l Z a0 hw w kk iw vw hN [] b3 b2_0 b2_1 ((((p2 &&& (255 : Int32)).toUInt32.toUInt16.toUInt32.toInt32).toInt8.toInt32).toInt8.toInt32) kb2_0 T4.heap O4 gn_b3 tk4_0.lt tk4_0 gn_b2_0 tk2_3_v4.lt tk4_1 tk4_2 tk4_3 tk4_4 tk4_5 tk2_3_v4 gn_b2_1 tk2_6_v4.lt tk2_4_v4 tk2_5_v4 tk2_6_v4 (Ne.symm ne_b2_0_b3) (Ne.symm ne_b2_1_b3) tk2_2) hZ (W hw 50 rfl) (W hw 35 rfl) (by decide) (by decide)) q6a q6c (g := (mkF m 86 #[.val (.int p0), .val (.int p1), .val (.int p2), .val (.ref (w 0)), .val (.ref b2_0), .val (.ref b3), .val (.int (0 : Int32)), .val (.int (0 : Int32)), .val (.int (0 : Int32)), .unset, .unset, .unset] [(.ref b3)])) rfl (by rw [hml]; rfl) (Steps.refl _) (argsL := []) (rest := []) (lenOf pd_6 rfl) rfl (by show 2 * 0 + _ ≤ _; exact Nat.le_of_eq rfl) (hb hby at_86) (fun _ _ => ⟨rfl, e5, (by decide : 3 + 0 ≤ _), (by decide : 16 + 0 ≤ _)⟩)
  dsimp only [Pt.U, Pt.locs, Pt.cells, Pt.slots] at X6 l6 y6 z6 st6 hQ6
  subst l6 y6 z6
  obtain ⟨rfl, N6q, e6⟩ := hQ6
  have N6 := Fr.app N5 N6q
  obtain ⟨cq7, kq7, q7a, q7b, q7c⟩ := isOf hZ e6 tk4_0
  obtain ⟨_, _, ⟨T7, L7, k7, n7⟩, -, X7, ⟨Lc7, hQ7, l7, y7, z7⟩, st7⟩ := X6.virtualBack hx (y := (⟨"com/example/netloom/netloom/xml/NetReader$OpenAnnotations", "carriesGraphics", "()Z"⟩ : MethodName)) (z := (⟨"com/example/netloom/netloom/xml/NetReader$OpenAnnotations", "carriesGraphics", "()Z"⟩ : MethodName)) hown (mvT hZ (W hw 46 rfl)) (mvT hZ (W hw 47 rfl)) (notFace_of_selects (args := #[]) (mvT hZ (W hw 49 rfl))) (mvT hZ (W hw 49 rfl)) (mvT hZ (W hw 48 rfl)) (by decide) (backOf (W := 0) (rm_37 l Z a0 hw w kk iw vw hN [] b3 b2_0 b2_1 ((((p2 &&& (255 : Int32)).toUInt32.toUInt16.toUInt32.toInt32).toInt8.toInt32).toInt8.toInt32) kb2_0 T4.heap O4 gn_b3 tk4_0.lt tk4_0 gn_b2_0 tk2_3_v4.lt tk4_1 tk4_2 tk4_3 tk4_4 tk4_5 tk2_3_v4 gn_b2_1 tk2_6_v4.lt tk2_4_v4 tk2_5_v4 tk2_6_v4 (Ne.symm ne_b2_0_b3) (Ne.symm ne_b2_1_b3) tk2_2) hZ (W hw 50 rfl) (W hw 35 rfl) (by decide) (by decide)) q7a q7c (g := (mkF m 93 #[.val (.int p0), .val (.int p1), .val (.int p2), .val (.ref (w 0)), .val (.ref b2_0), .val (.ref b3), .val (.int (0 : Int32)), .val (.int (0 : Int32)), .val (.int (0 : Int32)), .val (.int (0 : Int32)), .unset, .unset] [(.ref b3)])) rfl (by rw [hml]; rfl) (Steps.refl _) (argsL := []) (rest := []) (lenOf pd_6 rfl) rfl (by show 2 * 0 + _ ≤ _; exact Nat.le_of_eq rfl) (hb hby at_93) (fun _ _ => ⟨rfl, e6, (by decide : 3 + 0 ≤ _), (by decide : 16 + 0 ≤ _)⟩)
  dsimp only [Pt.U, Pt.locs, Pt.cells, Pt.slots] at X7 l7 y7 z7 st7 hQ7
  subst l7 y7 z7
  obtain ⟨rfl, N7q, e7⟩ := hQ7
  have N7 := Fr.app N6 N7q
  obtain ⟨fs, hr, hrun, hended, hW, hsame⟩ := X7.leave (v := some (.int (1 : Int32))) (fun h => by rw [Bd.returns] at h; cases h)
  refine ⟨_, _, pre0 _ ?_, hrun, hended, _, _, rfl, ?_, ⟨_, rfl⟩, hW, hsame.mono (by decide) (by decide)⟩
  · show Steps p.tables e below (s₁.setTop (mkF m 0 #[.val (.int p0), .val (.int p1), .val (.int p2), .unset, .unset, .unset, .unset, .unset, .unset, .unset, .unset, .unset] [])) _
    refine XS.iloadN X0.here hx rfl (hb hby at_0) rfl ?_
    show Steps p.tables e below (s₁.setTop (mkF m 1 #[.val (.int p0), .val (.int p1), .val (.int p2), .unset, .unset, .unset, .unset, .unset, .unset, .unset, .unset, .unset] [(.int p1)])) _
    refine XS.iconst X0.here hx rfl (hb hby at_1) ?_
    show Steps p.tables e below (s₁.setTop (mkF m 2 #[.val (.int p0), .val (.int p1), .val (.int p2), .unset, .unset, .unset, .unset, .unset, .unset, .unset, .unset, .unset] [(.int (3 : Int32)), (.int p1)])) _
    refine XS.iand X0.here hx rfl (hb hby at_2) rfl ?_
    show Steps p.tables e below (s₁.setTop (mkF m 3 #[.val (.int p0), .val (.int p1), .val (.int p2), .unset, .unset, .unset, .unset, .unset, .unset, .unset, .unset, .unset] [(.int (p1 &&& (3 : Int32)))])) _
    rw [hp0]
    show Steps p.tables e below (s₁.setTop (mkF m 3 #[.val (.int p0), .val (.int p1), .val (.int p2), .unset, .unset, .unset, .unset, .unset, .unset, .unset, .unset, .unset] [(.int (3 : Int32))])) _
    refine st1 _ ?_
    show Steps p.tables e below (T1.setTop (mkF m 6 #[.val (.int p0), .val (.int p1), .val (.int p2), .unset, .unset, .unset, .unset, .unset, .unset, .unset, .unset, .unset] [(.ref (w 0))])) _
    refine XS.astoreN X1.here hx rfl (hb hby at_6) rfl rfl (l' := #[.val (.int p0), .val (.int p1), .val (.int p2), .val (.ref (w 0)), .unset, .unset, .unset, .unset, .unset, .unset, .unset, .unset]) rfl ?_
    show Steps p.tables e below (T1.setTop (mkF m 7 #[.val (.int p0), .val (.int p1), .val (.int p2), .val (.ref (w 0)), .unset, .unset, .unset, .unset, .unset, .unset, .unset, .unset] [])) _
    refine XS.iloadN X1.here hx rfl (hb hby at_7) rfl ?_
    show Steps p.tables e below (T1.setTop (mkF m 8 #[.val (.int p0), .val (.int p1), .val (.int p2), .val (.ref (w 0)), .unset, .unset, .unset, .unset, .unset, .unset, .unset, .unset] [(.int p2)])) _
    refine XS.sipush X1.here hx rfl (hb hby at_8) ?_
    show Steps p.tables e below (T1.setTop (mkF m 11 #[.val (.int p0), .val (.int p1), .val (.int p2), .val (.ref (w 0)), .unset, .unset, .unset, .unset, .unset, .unset, .unset, .unset] [(.int (255 : Int32)), (.int p2)])) _
    refine XS.iand X1.here hx rfl (hb hby at_11) rfl ?_
    show Steps p.tables e below (T1.setTop (mkF m 12 #[.val (.int p0), .val (.int p1), .val (.int p2), .val (.ref (w 0)), .unset, .unset, .unset, .unset, .unset, .unset, .unset, .unset] [(.int (p2 &&& (255 : Int32)))])) _
    refine XS.i2c X1.here hx rfl (hb hby at_12) rfl ?_
    show Steps p.tables e below (T1.setTop (mkF m 13 #[.val (.int p0), .val (.int p1), .val (.int p2), .val (.ref (w 0)), .unset, .unset, .unset, .unset, .unset, .unset, .unset, .unset] [(.int ((p2 &&& (255 : Int32)).toUInt32.toUInt16.toUInt32.toInt32))])) _
    refine st2 _ ?_
    show Steps p.tables e below (T2.setTop (mkF m 16 #[.val (.int p0), .val (.int p1), .val (.int p2), .val (.ref (w 0)), .unset, .unset, .unset, .unset, .unset, .unset, .unset, .unset] [(.ref b2_0)])) _
    refine XS.astore X2.here hx rfl (hb hby at_16) rfl rfl (l' := #[.val (.int p0), .val (.int p1), .val (.int p2), .val (.ref (w 0)), .val (.ref b2_0), .unset, .unset, .unset, .unset, .unset, .unset, .unset]) rfl ?_
    show Steps p.tables e below (T2.setTop (mkF m 18 #[.val (.int p0), .val (.int p1), .val (.int p2), .val (.ref (w 0)), .val (.ref b2_0), .unset, .unset, .unset, .unset, .unset, .unset, .unset] [])) _
    refine st3 _ ?_
    show Steps p.tables e below (T3.setTop (mkF m 21 #[.val (.int p0), .val (.int p1), .val (.int p2), .val (.ref (w 0)), .val (.ref b2_0), .unset, .unset, .unset, .unset, .unset, .unset, .unset] [(.ref b3)])) _
    refine XS.dup X3.here hx rfl (hb hby at_21) rfl rfl ?_
    show Steps p.tables e below (T3.setTop (mkF m 22 #[.val (.int p0), .val (.int p1), .val (.int p2), .val (.ref (w 0)), .val (.ref b2_0), .unset, .unset, .unset, .unset, .unset, .unset, .unset] [(.ref b3), (.ref b3)])) _
    refine XS.aload X3.here hx rfl (hb hby at_22) rfl rfl ?_
    show Steps p.tables e below (T3.setTop (mkF m 24 #[.val (.int p0), .val (.int p1), .val (.int p2), .val (.ref (w 0)), .val (.ref b2_0), .unset, .unset, .unset, .unset, .unset, .unset, .unset] [(.ref b2_0), (.ref b3), (.ref b3)])) _
    refine XS.aloadN X3.here hx rfl (hb hby at_24) rfl rfl ?_
    show Steps p.tables e below (T3.setTop (mkF m 25 #[.val (.int p0), .val (.int p1), .val (.int p2), .val (.ref (w 0)), .val (.ref b2_0), .unset, .unset, .unset, .unset, .unset, .unset, .unset] [(.ref (w 0)), (.ref b2_0), (.ref b3), (.ref b3)])) _
    refine XS.aconstNull X3.here hx rfl (hb hby at_25) ?_
    show Steps p.tables e below (T3.setTop (mkF m 26 #[.val (.int p0), .val (.int p1), .val (.int p2), .val (.ref (w 0)), .val (.ref b2_0), .unset, .unset, .unset, .unset, .unset, .unset, .unset] [.null, (.ref (w 0)), (.ref b2_0), (.ref b3), (.ref b3)])) _
    refine st4.trans ?_
    show Steps p.tables e below (T4.setTop (mkF m 29 #[.val (.int p0), .val (.int p1), .val (.int p2), .val (.ref (w 0)), .val (.ref b2_0), .unset, .unset, .unset, .unset, .unset, .unset, .unset] [(.ref b3)])) _
    refine XS.astore X4.here hx rfl (hb hby at_29) rfl rfl (l' := #[.val (.int p0), .val (.int p1), .val (.int p2), .val (.ref (w 0)), .val (.ref b2_0), .val (.ref b3), .unset, .unset, .unset, .unset, .unset, .unset]) rfl ?_
    show Steps p.tables e below (T4.setTop (mkF m 31 #[.val (.int p0), .val (.int p1), .val (.int p2), .val (.ref (w 0)), .val (.ref b2_0), .val (.ref b3), .unset, .unset, .unset, .unset, .unset, .unset] [])) _
    refine XS.aload X4.here hx rfl (hb hby at_31) rfl rfl ?_
    show Steps p.tables e below (T4.setTop (mkF m 33 #[.val (.int p0), .val (.int p1), .val (.int p2), .val (.ref (w 0)), .val (.ref b2_0), .val (.ref b3), .unset, .unset, .unset, .unset, .unset, .unset] [(.ref b3)])) _
    refine st5.trans ?_
    show Steps p.tables e below (T5.setTop (mkF m 36 #[.val (.int p0), .val (.int p1), .val (.int p2), .val (.ref (w 0)), .val (.ref b2_0), .val (.ref b3), .unset, .unset, .unset, .unset, .unset, .unset] [(.int (0 : Int32))])) _
    refine XS.istore X5.here hx rfl (hb hby at_36) rfl (l' := #[.val (.int p0), .val (.int p1), .val (.int p2), .val (.ref (w 0)), .val (.ref b2_0), .val (.ref b3), .val (.int (0 : Int32)), .unset, .unset, .unset, .unset, .unset]) rfl ?_
    show Steps p.tables e below (T5.setTop (mkF m 38 #[.val (.int p0), .val (.int p1), .val (.int p2), .val (.ref (w 0)), .val (.ref b2_0), .val (.ref b3), .val (.int (0 : Int32)), .unset, .unset, .unset, .unset, .unset] [])) _
    refine XS.iloadN X5.here hx rfl (hb hby at_38) rfl ?_
    show Steps p.tables e below (T5.setTop (mkF m 39 #[.val (.int p0), .val (.int p1), .val (.int p2), .val (.ref (w 0)), .val (.ref b2_0), .val (.ref b3), .val (.int (0 : Int32)), .unset, .unset, .unset, .unset, .unset] [(.int p0)])) _
    refine XS.iconst X5.here hx rfl (hb hby at_39) ?_
    show Steps p.tables e below (T5.setTop (mkF m 40 #[.val (.int p0), .val (.int p1), .val (.int p2), .val (.ref (w 0)), .val (.ref b2_0), .val (.ref b3), .val (.int (0 : Int32)), .unset, .unset, .unset, .unset, .unset] [(.int (1 : Int32)), (.int p0)])) _
    refine XS.iand X5.here hx rfl (hb hby at_40) rfl ?_
    show Steps p.tables e below (T5.setTop (mkF m 41 #[.val (.int p0), .val (.int p1), .val (.int p2), .val (.ref (w 0)), .val (.ref b2_0), .val (.ref b3), .val (.int (0 : Int32)), .unset, .unset, .unset, .unset, .unset] [(.int (p0 &&& (1 : Int32)))])) _
    rw [hp2]
    show Steps p.tables e below (T5.setTop (mkF m 41 #[.val (.int p0), .val (.int p1), .val (.int p2), .val (.ref (w 0)), .val (.ref b2_0), .val (.ref b3), .val (.int (0 : Int32)), .unset, .unset, .unset, .unset, .unset] [(.int (0 : Int32))])) _
    refine XS.ifYes X5.here hx rfl (pc0 := 41) (pc' := 48) rfl (hb hby at_41) rfl ((if0 _ _).trans (teq (by decide : (0 : Int32) = (0 : Int32))).1) (by decide) (by decide) ?_
    show Steps p.tables e below (T5.setTop (mkF m 48 #[.val (.int p0), .val (.int p1), .val (.int p2), .val (.ref (w 0)), .val (.ref b2_0), .val (.ref b3), .val (.int (0 : Int32)), .unset, .unset, .unset, .unset, .unset] [])) _
    refine XS.iconst X5.here hx rfl (hb hby at_48) ?_
    show Steps p.tables e below (T5.setTop (mkF m 49 #[.val (.int p0), .val (.int p1), .val (.int p2), .val (.ref (w 0)), .val (.ref b2_0), .val (.ref b3), .val (.int (0 : Int32)), .unset, .unset, .unset, .unset, .unset] [(.int (0 : Int32))])) _
    refine XS.istore X5.here hx rfl (hb hby at_49) rfl (l' := #[.val (.int p0), .val (.int p1), .val (.int p2), .val (.ref (w 0)), .val (.ref b2_0), .val (.ref b3), .val (.int (0 : Int32)), .val (.int (0 : Int32)), .unset, .unset, .unset, .unset]) rfl ?_
    show Steps p.tables e below (T5.setTop (mkF m 51 #[.val (.int p0), .val (.int p1), .val (.int p2), .val (.ref (w 0)), .val (.ref b2_0), .val (.ref b3), .val (.int (0 : Int32)), .val (.int (0 : Int32)), .unset, .unset, .unset, .unset] [])) _
    refine XS.iloadN X5.here hx rfl (hb hby at_51) rfl ?_
    show Steps p.tables e below (T5.setTop (mkF m 52 #[.val (.int p0), .val (.int p1), .val (.int p2), .val (.ref (w 0)), .val (.ref b2_0), .val (.ref b3), .val (.int (0 : Int32)), .val (.int (0 : Int32)), .unset, .unset, .unset, .unset] [(.int p0)])) _
    refine XS.iconst X5.here hx rfl (hb hby at_52) ?_
    show Steps p.tables e below (T5.setTop (mkF m 53 #[.val (.int p0), .val (.int p1), .val (.int p2), .val (.ref (w 0)), .val (.ref b2_0), .val (.ref b3), .val (.int (0 : Int32)), .val (.int (0 : Int32)), .unset, .unset, .unset, .unset] [(.int (2 : Int32)), (.int p0)])) _
    refine XS.iand X5.here hx rfl (hb hby at_53) rfl ?_
    show Steps p.tables e below (T5.setTop (mkF m 54 #[.val (.int p0), .val (.int p1), .val (.int p2), .val (.ref (w 0)), .val (.ref b2_0), .val (.ref b3), .val (.int (0 : Int32)), .val (.int (0 : Int32)), .unset, .unset, .unset, .unset] [(.int (p0 &&& (2 : Int32)))])) _
    refine XS.ifYes X5.here hx rfl (pc0 := 54) (pc' := 61) rfl (hb hby at_54) rfl ((if0 _ _).trans (teq hp3).1) (by decide) (by decide) ?_
    show Steps p.tables e below (T5.setTop (mkF m 61 #[.val (.int p0), .val (.int p1), .val (.int p2), .val (.ref (w 0)), .val (.ref b2_0), .val (.ref b3), .val (.int (0 : Int32)), .val (.int (0 : Int32)), .unset, .unset, .unset, .unset] [])) _
    refine XS.iconst X5.here hx rfl (hb hby at_61) ?_
    show Steps p.tables e below (T5.setTop (mkF m 62 #[.val (.int p0), .val (.int p1), .val (.int p2), .val (.ref (w 0)), .val (.ref b2_0), .val (.ref b3), .val (.int (0 : Int32)), .val (.int (0 : Int32)), .unset, .unset, .unset, .unset] [(.int (0 : Int32))])) _
    refine XS.istore X5.here hx rfl (hb hby at_62) rfl (l' := #[.val (.int p0), .val (.int p1), .val (.int p2), .val (.ref (w 0)), .val (.ref b2_0), .val (.ref b3), .val (.int (0 : Int32)), .val (.int (0 : Int32)), .val (.int (0 : Int32)), .unset, .unset, .unset]) rfl ?_
    show Steps p.tables e below (T5.setTop (mkF m 64 #[.val (.int p0), .val (.int p1), .val (.int p2), .val (.ref (w 0)), .val (.ref b2_0), .val (.ref b3), .val (.int (0 : Int32)), .val (.int (0 : Int32)), .val (.int (0 : Int32)), .unset, .unset, .unset] [])) _
    refine XS.iload X5.here hx rfl (hb hby at_64) rfl ?_
    show Steps p.tables e below (T5.setTop (mkF m 66 #[.val (.int p0), .val (.int p1), .val (.int p2), .val (.ref (w 0)), .val (.ref b2_0), .val (.ref b3), .val (.int (0 : Int32)), .val (.int (0 : Int32)), .val (.int (0 : Int32)), .unset, .unset, .unset] [(.int (0 : Int32))])) _
    refine XS.ifYes X5.here hx rfl (pc0 := 66) (pc' := 84) rfl (hb hby at_66) rfl ((if0 _ _).trans (teq (by decide : (0 : Int32) = (0 : Int32))).1) (by decide) (by decide) ?_
    show Steps p.tables e below (T5.setTop (mkF m 84 #[.val (.int p0), .val (.int p1), .val (.int p2), .val (.ref (w 0)), .val (.ref b2_0), .val (.ref b3), .val (.int (0 : Int32)), .val (.int (0 : Int32)), .val (.int (0 : Int32)), .unset, .unset, .unset] [])) _
    refine XS.aload X5.here hx rfl (hb hby at_84) rfl rfl ?_
    show Steps p.tables e below (T5.setTop (mkF m 86 #[.val (.int p0), .val (.int p1), .val (.int p2), .val (.ref (w 0)), .val (.ref b2_0), .val (.ref b3), .val (.int (0 : Int32)), .val (.int (0 : Int32)), .val (.int (0 : Int32)), .unset, .unset, .unset] [(.ref b3)])) _
    refine st6.trans ?_
    show Steps p.tables e below (T6.setTop (mkF m 89 #[.val (.int p0), .val (.int p1), .val (.int p2), .val (.ref (w 0)), .val (.ref b2_0), .val (.ref b3), .val (.int (0 : Int32)), .val (.int (0 : Int32)), .val (.int (0 : Int32)), .unset, .unset, .unset] [(.int (0 : Int32))])) _
    refine XS.istore X6.here hx rfl (hb hby at_89) rfl (l' := #[.val (.int p0), .val (.int p1), .val (.int p2), .val (.ref (w 0)), .val (.ref b2_0), .val (.ref b3), .val (.int (0 : Int32)), .val (.int (0 : Int32)), .val (.int (0 : Int32)), .val (.int (0 : Int32)), .unset, .unset]) rfl ?_
    show Steps p.tables e below (T6.setTop (mkF m 91 #[.val (.int p0), .val (.int p1), .val (.int p2), .val (.ref (w 0)), .val (.ref b2_0), .val (.ref b3), .val (.int (0 : Int32)), .val (.int (0 : Int32)), .val (.int (0 : Int32)), .val (.int (0 : Int32)), .unset, .unset] [])) _
    refine XS.aload X6.here hx rfl (hb hby at_91) rfl rfl ?_
    show Steps p.tables e below (T6.setTop (mkF m 93 #[.val (.int p0), .val (.int p1), .val (.int p2), .val (.ref (w 0)), .val (.ref b2_0), .val (.ref b3), .val (.int (0 : Int32)), .val (.int (0 : Int32)), .val (.int (0 : Int32)), .val (.int (0 : Int32)), .unset, .unset] [(.ref b3)])) _
    refine st7.trans ?_
    show Steps p.tables e below (T7.setTop (mkF m 96 #[.val (.int p0), .val (.int p1), .val (.int p2), .val (.ref (w 0)), .val (.ref b2_0), .val (.ref b3), .val (.int (0 : Int32)), .val (.int (0 : Int32)), .val (.int (0 : Int32)), .val (.int (0 : Int32)), .unset, .unset] [(.int (0 : Int32))])) _
    refine XS.istore X7.here hx rfl (hb hby at_96) rfl (l' := #[.val (.int p0), .val (.int p1), .val (.int p2), .val (.ref (w 0)), .val (.ref b2_0), .val (.ref b3), .val (.int (0 : Int32)), .val (.int (0 : Int32)), .val (.int (0 : Int32)), .val (.int (0 : Int32)), .val (.int (0 : Int32)), .unset]) rfl ?_
    show Steps p.tables e below (T7.setTop (mkF m 98 #[.val (.int p0), .val (.int p1), .val (.int p2), .val (.ref (w 0)), .val (.ref b2_0), .val (.ref b3), .val (.int (0 : Int32)), .val (.int (0 : Int32)), .val (.int (0 : Int32)), .val (.int (0 : Int32)), .val (.int (0 : Int32)), .unset] [])) _
    refine XS.iload X7.here hx rfl (hb hby at_98) rfl ?_
    show Steps p.tables e below (T7.setTop (mkF m 100 #[.val (.int p0), .val (.int p1), .val (.int p2), .val (.ref (w 0)), .val (.ref b2_0), .val (.ref b3), .val (.int (0 : Int32)), .val (.int (0 : Int32)), .val (.int (0 : Int32)), .val (.int (0 : Int32)), .val (.int (0 : Int32)), .unset] [(.int (0 : Int32))])) _
    refine XS.ifYes X7.here hx rfl (pc0 := 100) (pc' := 111) rfl (hb hby at_100) rfl ((if0 _ _).trans (teq (by decide : (0 : Int32) = (0 : Int32))).1) (by decide) (by decide) ?_
    show Steps p.tables e below (T7.setTop (mkF m 111 #[.val (.int p0), .val (.int p1), .val (.int p2), .val (.ref (w 0)), .val (.ref b2_0), .val (.ref b3), .val (.int (0 : Int32)), .val (.int (0 : Int32)), .val (.int (0 : Int32)), .val (.int (0 : Int32)), .val (.int (0 : Int32)), .unset] [])) _
    refine XS.iconst X7.here hx rfl (hb hby at_111) ?_
    show Steps p.tables e below (T7.setTop (mkF m 112 #[.val (.int p0), .val (.int p1), .val (.int p2), .val (.ref (w 0)), .val (.ref b2_0), .val (.ref b3), .val (.int (0 : Int32)), .val (.int (0 : Int32)), .val (.int (0 : Int32)), .val (.int (0 : Int32)), .val (.int (0 : Int32)), .unset] [(.int (0 : Int32))])) _
    refine XS.istore X7.here hx rfl (hb hby at_112) rfl (l' := #[.val (.int p0), .val (.int p1), .val (.int p2), .val (.ref (w 0)), .val (.ref b2_0), .val (.ref b3), .val (.int (0 : Int32)), .val (.int (0 : Int32)), .val (.int (0 : Int32)), .val (.int (0 : Int32)), .val (.int (0 : Int32)), .val (.int (0 : Int32))]) rfl ?_
    show Steps p.tables e below (T7.setTop (mkF m 114 #[.val (.int p0), .val (.int p1), .val (.int p2), .val (.ref (w 0)), .val (.ref b2_0), .val (.ref b3), .val (.int (0 : Int32)), .val (.int (0 : Int32)), .val (.int (0 : Int32)), .val (.int (0 : Int32)), .val (.int (0 : Int32)), .val (.int (0 : Int32))] [])) _
    refine XS.iload X7.here hx rfl (hb hby at_114) rfl ?_
    show Steps p.tables e below (T7.setTop (mkF m 116 #[.val (.int p0), .val (.int p1), .val (.int p2), .val (.ref (w 0)), .val (.ref b2_0), .val (.ref b3), .val (.int (0 : Int32)), .val (.int (0 : Int32)), .val (.int (0 : Int32)), .val (.int (0 : Int32)), .val (.int (0 : Int32)), .val (.int (0 : Int32))] [(.int (0 : Int32))])) _
    refine XS.ifNo X7.here hx rfl (hb hby at_116) rfl ((if0 _ _).trans (teq (by decide : (0 : Int32) = (0 : Int32))).2) ?_
    show Steps p.tables e below (T7.setTop (mkF m 119 #[.val (.int p0), .val (.int p1), .val (.int p2), .val (.ref (w 0)), .val (.ref b2_0), .val (.ref b3), .val (.int (0 : Int32)), .val (.int (0 : Int32)), .val (.int (0 : Int32)), .val (.int (0 : Int32)), .val (.int (0 : Int32)), .val (.int (0 : Int32))] [])) _
    refine XS.iload X7.here hx rfl (hb hby at_119) rfl ?_
    show Steps p.tables e below (T7.setTop (mkF m 121 #[.val (.int p0), .val (.int p1), .val (.int p2), .val (.ref (w 0)), .val (.ref b2_0), .val (.ref b3), .val (.int (0 : Int32)), .val (.int (0 : Int32)), .val (.int (0 : Int32)), .val (.int (0 : Int32)), .val (.int (0 : Int32)), .val (.int (0 : Int32))] [(.int (0 : Int32))])) _
    refine XS.iload X7.here hx rfl (hb hby at_121) rfl ?_
    show Steps p.tables e below (T7.setTop (mkF m 123 #[.val (.int p0), .val (.int p1), .val (.int p2), .val (.ref (w 0)), .val (.ref b2_0), .val (.ref b3), .val (.int (0 : Int32)), .val (.int (0 : Int32)), .val (.int (0 : Int32)), .val (.int (0 : Int32)), .val (.int (0 : Int32)), .val (.int (0 : Int32))] [(.int (0 : Int32)), (.int (0 : Int32))])) _
    refine XS.icmpNo X7.here hx rfl (hb hby at_123) rfl (teq (by decide : (0 : Int32) = (0 : Int32))).2 ?_
    show Steps p.tables e below (T7.setTop (mkF m 126 #[.val (.int p0), .val (.int p1), .val (.int p2), .val (.ref (w 0)), .val (.ref b2_0), .val (.ref b3), .val (.int (0 : Int32)), .val (.int (0 : Int32)), .val (.int (0 : Int32)), .val (.int (0 : Int32)), .val (.int (0 : Int32)), .val (.int (0 : Int32))] [])) _
    refine XS.iload X7.here hx rfl (hb hby at_126) rfl ?_
    show Steps p.tables e below (T7.setTop (mkF m 128 #[.val (.int p0), .val (.int p1), .val (.int p2), .val (.ref (w 0)), .val (.ref b2_0), .val (.ref b3), .val (.int (0 : Int32)), .val (.int (0 : Int32)), .val (.int (0 : Int32)), .val (.int (0 : Int32)), .val (.int (0 : Int32)), .val (.int (0 : Int32))] [(.int (0 : Int32))])) _
    refine XS.iload X7.here hx rfl (hb hby at_128) rfl ?_
    show Steps p.tables e below (T7.setTop (mkF m 130 #[.val (.int p0), .val (.int p1), .val (.int p2), .val (.ref (w 0)), .val (.ref b2_0), .val (.ref b3), .val (.int (0 : Int32)), .val (.int (0 : Int32)), .val (.int (0 : Int32)), .val (.int (0 : Int32)), .val (.int (0 : Int32)), .val (.int (0 : Int32))] [(.int (0 : Int32)), (.int (0 : Int32))])) _
    refine XS.icmpNo X7.here hx rfl (hb hby at_130) rfl (teq (by decide : (0 : Int32) = (0 : Int32))).2 ?_
    show Steps p.tables e below (T7.setTop (mkF m 133 #[.val (.int p0), .val (.int p1), .val (.int p2), .val (.ref (w 0)), .val (.ref b2_0), .val (.ref b3), .val (.int (0 : Int32)), .val (.int (0 : Int32)), .val (.int (0 : Int32)), .val (.int (0 : Int32)), .val (.int (0 : Int32)), .val (.int (0 : Int32))] [])) _
    refine XS.iconst X7.here hx rfl (hb hby at_133) ?_
    show Steps p.tables e below (T7.setTop (mkF m 134 #[.val (.int p0), .val (.int p1), .val (.int p2), .val (.ref (w 0)), .val (.ref b2_0), .val (.ref b3), .val (.int (0 : Int32)), .val (.int (0 : Int32)), .val (.int (0 : Int32)), .val (.int (0 : Int32)), .val (.int (0 : Int32)), .val (.int (0 : Int32))] [(.int (1 : Int32))])) _
    refine XS.goto X7.here hx rfl (pc0 := 134) (pc' := 138) rfl (hb hby at_134) (by decide) (by decide) ?_
    show Steps p.tables e below (T7.setTop (mkF m 138 #[.val (.int p0), .val (.int p1), .val (.int p2), .val (.ref (w 0)), .val (.ref b2_0), .val (.ref b3), .val (.int (0 : Int32)), .val (.int (0 : Int32)), .val (.int (0 : Int32)), .val (.int (0 : Int32)), .val (.int (0 : Int32)), .val (.int (0 : Int32))] [(.int (1 : Int32))])) _
    exact retN X7 hx (t := .boolean) Bd.returns (by simp) (hb hby at_138) hr
  · show OL (some (.int (1 : Int32))) Z.heap.size _ T7.heap _
    exact ⟨rfl, N7⟩
set_option maxRecDepth 65536 in
set_option maxHeartbeats 40000000 in
theorem law_39 (l : Launch) (Z : State) (a0 : Array Value) (hw : ∀ d ∈ tables_1, d.before a0 Z = true) (w : Nat → Addr) (kk : Nat → ClassId) (iw : Nat → Int32) (vw : Nat → Value) (hN : Wd Z w kk iw vw) (ws : List Jvm.Cond) (p0 : Int32) (p1 : Int32) (p2 : Int32) (h0 : Heap) (O0 : Old Z Z.heap.size h0) (hp0 : (p1 &&& (3 : Int32)) = (3 : Int32)) (hp1 : ¬ ((255 : Int32) < ((p2 &&& (255 : Int32)).toUInt32.toUInt16.toUInt32.toInt32))) (hp2 : (p0 &&& (1 : Int32)) = (0 : Int32)) (hp3 : ¬ ((p0 &&& (2 : Int32)) = (0 : Int32))) :
    MetFree l x (head1 (Jvm.Cond.code x code maxLocals ret :: ws) room_1) (fun a U => a = #[(.int p0), (.int p1), (.int p2)] ∧ Z.Warmed39 U.vm ∧ U.heap = h0) (fun _ _ _ _ _ => True) (fun _ U o U' => ∃ v L, o = .returned v ∧ OL (some (.int (1 : Int32))) Z.heap.size v U'.heap L ∧ FrameEnd U o U' L 16 128) := by
  have hN' := hN
  obtain ⟨hS0, hE0, hS1, hE1, hS2, hE2, hI0, hJ0, hR0, hRr0⟩ := hN'
  refine MetFree.of_bodySF (plainFor_of_name pn_0) hisR ?_
  intro p e s m args below meth c s₁ Bd hml0 hP hK
  obtain ⟨rfl, hZ, hh⟩ := hP
  have hx := Bd.exec
  have hby := Bd.bytes
  have hml : c.maxLocals = 12 := hml0
  have hown : s.vm.findClass "com/example/netloom/netloom/xml/OpenAnnotationsCarriesGraphicsPinLaw" = some m.cls := findClass_of_methodNamed Bd.named
  have hnm := (name_of_methodNamed Bd.named Bd.method).1
  have X0 : Stand p l e room_1 s m #[(.int p0), (.int p1), (.int p2)] below meth c s₁ [] 0 0 := Stand.of_body Bd
  have e0 : s₁.heap = h0 := by rw [← hh, Bd.state]; rfl
  have N0 := Fr.nil Z.heap.size
  have pre0 : ∀ t, Steps p.tables e below (s₁.setTop (mkF m 0 #[.val (.int p0), .val (.int p1), .val (.int p2), .unset, .unset, .unset, .unset, .unset, .unset, .unset, .unset, .unset] [])) t → Steps p.tables e below (s₁.setTop (entryFrame m #[(.int p0), (.int p1), (.int p2)] maxLocals)) t := fun t k => castTop (ef_4 m (.int p0) rfl (.int p1) rfl (.int p2) rfl) k
  obtain ⟨_, _, ⟨T1, L1, k1, n1⟩, -, X1, ⟨Lc1, hQ1, l1, y1, z1⟩, st1⟩ := Jvm.LawKit.callS X0 hx (y := (⟨"com/example/netloom/netloom/xml/OpenAnnotationsCarriesGraphicsPinLaw", "pick", "(I)Lcom/example/netloom/netloom/xml/XmlGraphics$Form;"⟩ : MethodName)) hown (mvT hZ (W hw 0 rfl)) (mvT hZ (W hw 1 rfl)) (mvT hZ (W hw 2 rfl)) (mvT hZ (W hw 3 rfl)) (by decide) (backOf (W := 0) (rm_35 l Z a0 hw w kk iw vw hN [] h0 O0) hZ (W hw 3 rfl) (W hw 2 rfl) (by decide) (by decide)) (g := (mkF m 3 #[.val (.int p0), .val (.int p1), .val (.int p2), .unset, .unset, .unset, .unset, .unset, .unset, .unset, .unset, .unset] [(.int (3 : Int32))])) rfl (by rw [hml]; rfl) (argsL := [(.int (3 : Int32))]) (rest := []) (lenOf pd_0 rfl) rfl (by show 2 * 0 + _ ≤ _; exact Nat.le_of_eq rfl) (hb hby at_3) (fun _ _ => ⟨rfl, e0, (by decide : 0 + 0 ≤ _), (by decide : 0 + 0 ≤ _)⟩)
  dsimp only [Pt.U, Pt.locs, Pt.cells, Pt.slots] at X1 l1 y1 z1 st1 hQ1
  subst l1 y1 z1
  obtain ⟨rfl, N1q, e1⟩ := hQ1
  have N1 := Fr.app N0 N1q
  obtain ⟨_, _, ⟨T2, L2, k2, n2⟩, -, X2, ⟨Lc2, hQ2, l2, y2, z2⟩, st2⟩ := Jvm.LawKit.callS X1 hx (y := (⟨"java/lang/String", "valueOf", "(C)Ljava/lang/String;"⟩ : MethodName)) hown (mvT hZ (W hw 7 rfl)) (mvT hZ (W hw 8 rfl)) (mvT hZ (W hw 9 rfl)) (mvT hZ (W hw 10 rfl)) (by decide) (backOf (W := 0) (rm_5 l Z a0 hw w kk iw vw hN [] ((p2 &&& (255 : Int32)).toUInt32.toUInt16.toUInt32.toInt32) h0 O0 hp1) hZ (W hw 10 rfl) (W hw 9 rfl) (by decide) (by decide)) (g := (mkF m 13 #[.val (.int p0), .val (.int p1), .val (.int p2), .val (.ref (w 0)), .unset, .unset, .unset, .unset, .unset, .unset, .unset, .unset] [(.int ((p2 &&& (255 : Int32)).toUInt32.toUInt16.toUInt32.toInt32))])) rfl (by rw [hml]; rfl) (argsL := [(.int ((p2 &&& (255 : Int32)).toUInt32.toUInt16.toUInt32.toInt32))]) (rest := []) (lenOf pd_4 rfl) rfl (by show 2 * 0 + _ ≤ _; exact Nat.le_of_eq rfl) (hb hby at_13) (fun _ _ => ⟨rfl, e1, (by decide : 0 + 2 ≤ _), (by decide : 0 + 5 ≤ _)⟩)
  dsimp only [Pt.U, Pt.locs, Pt.cells, Pt.slots] at X2 l2 y2 z2 st2 hQ2
  subst l2 y2 z2
  obtain ⟨b2_0, b2_1, kb2_0, rfl, N2q, Kq2, tk2_0, tk2_1, tk2_2, tk2_3, tk2_4, tk2_5, tk2_6⟩ := hQ2
  have N2 := Fr.app N1 N2q
  have gn_b2_0 : Z.heap.size ≤ b2_0 := Nat.le_trans O0.2.1 tk2_0
  have gn_b2_1 : Z.heap.size ≤ b2_1 := Nat.le_trans O0.2.1 tk2_1
  have O2 := O0.keep Kq2 all0
  obtain ⟨T3, h3, X3, e3, E3, A3, D3, -, st3⟩ := newO X2 hx hZ hown (W hw 33 rfl) (W hw 34 rfl) (W hw 35 rfl) rfl (g := (mkF m 18 #[.val (.int p0), .val (.int p1), .val (.int p2), .val (.ref (w 0)), .val (.ref b2_0), .unset, .unset, .unset, .unset, .unset, .unset, .unset] [])) rfl (hb hby at_18) (by decide) (by decide)
  obtain ⟨b3, g3⟩ : ∃ z, z = T2.heap.size := ⟨_, rfl⟩
  rw [← g3] at A3 st3 D3
  have gn_b3 : Z.heap.size ≤ b3 := Nat.le_trans O2.2.1 (Nat.le_of_eq g3.symm)
  have ne_b2_1_b3 : b2_1 ≠ b3 := Nat.ne_of_lt (Nat.lt_of_lt_of_le tk2_6.lt (Nat.le_of_eq g3.symm))
  have ne_b2_0_b3 : b2_0 ≠ b3 := Nat.ne_of_lt (Nat.lt_of_lt_of_le tk2_3.lt (Nat.le_of_eq g3.symm))
  have tk2_3_v3 := tk2_3.ext E3
  have tk2_4_v3 := tk2_4.ext E3
  have tk2_5_v3 := tk2_5.ext E3
  have tk2_6_v3 := tk2_6.ext E3
  have O3 := O2.ext E3
  have E_b3_v3 := A3
  have F_b3_owner_v3 : Fld Z h3 b3 "com/example/netloom/netloom/xml/NetReader$OpenAnnotations" "owner" "Ljava/lang/String;" .null := D3 (Or.inr (W hw 41 rfl)) (ty := (.object "java/lang/String")) (by decide)
  have F_b3_form_v3 : Fld Z h3 b3 "com/example/netloom/netloom/xml/NetReader$OpenAnnotations" "form" "Lcom/example/netloom/netloom/xml/XmlGraphics$Form;" .null := D3 (Or.inr (W hw 43 rfl)) (ty := (.object "com/example/netloom/netloom/xml/XmlGraphics$Form")) (by decide)
  have F_b3_carries_v3 : Fld Z h3 b3 "com/example/netloom/netloom/xml/NetReader$OpenAnnotations" "carries" "Ljava/util/Set;" .null := D3 (Or.inr (W hw 45 rfl)) (ty := (.object "java/util/Set")) (by decide)
  have F_b3_graphicsCarried_v3 : Fld Z h3 b3 "com/example/netloom/netloom/xml/NetReader$OpenAnnotations" "graphicsCarried" "Z" (.int (0 : Int32)) := D3 (Or.inl (W hw 52 rfl)) (ty := .boolean) (by decide)
  have F_b3_graphics_v3 : Fld Z h3 b3 "com/example/netloom/netloom/xml/NetReader$OpenAnnotations" "graphics" "Lcom/example/netloom/netloom/net/Graphics;" .null := D3 (Or.inl (W hw 59 rfl)) (ty := (.object "com/example/netloom/netloom/net/Graphics")) (by decide)
  obtain ⟨_, _, ⟨T4, L4, k4, n4⟩, -, X4, ⟨Lc4, hQ4, l4, y4, z4⟩, st4⟩ := X3.specialBack hx (y := (⟨"com/example/netloom/netloom/xml/NetReader$OpenAnnotations", "<init>", "(Ljava/lang/String;Lcom/example/netloom/netloom/xml/XmlGraphics$Form;Ljava/util/Set;)V"⟩ : MethodName)) rfl hown (mvT hZ (W hw 36 rfl)) (mvT hZ (W hw 37 rfl)) (mvT hZ (W hw 38 rfl)) (by decide) (backOf (W := 1) (rm_36 l Z a0 hw w kk iw vw hN [] b3 b2_0 b2_1 ((((p2 &&& (255 : Int32)).toUInt32.toUInt16.toUInt32.toInt32).toInt8.toInt32).toInt8.toInt32) kb2_0 h3 O3 gn_b3 E_b3_v3.lt gn_b2_0 tk2_3_v3.lt E_b3_v3 F_b3_owner_v3 F_b3_form_v3 F_b3_carries_v3 F_b3_graphicsCarried_v3 F_b3_graphics_v3 tk2_3_v3 gn_b2_1 tk2_6_v3.lt tk2_4_v3 tk2_5_v3 tk2_6_v3 (Ne.symm ne_b2_0_b3) (Ne.symm ne_b2_1_b3) tk2_2) hZ (W hw 38 rfl) (W hw 35 rfl) (by decide) (by decide)) (g := (mkF m 26 #[.val (.int p0), .val (.int p1), .val (.int p2), .val (.ref (w 0)), .val (.ref b2_0), .unset, .unset, .unset, .unset, .unset, .unset, .unset] [.null, (.ref (w 0)), (.ref b2_0), (.ref b3), (.ref b3)])) rfl (by rw [hml]; rfl) (Steps.refl _) (a := b3) (argsL := [(.ref b2_0), (.ref (w 0)), .null]) (rest := [(.ref b3)]) (lenOf pd_5 rfl) rfl (by show 2 * 0 + _ ≤ _; exact Nat.le_of_eq rfl) (hb hby at_26) (fun _ _ => ⟨rfl, e3, (by decide : 3 + 0 ≤ _), (by decide : 16 + 0 ≤ _)⟩)
  dsimp only [Pt.U, Pt.locs, Pt.cells, Pt.slots] at X4 l4 y4 z4 st4 hQ4
  subst l4 y4 z4
  obtain ⟨rfl, N4q, Kq4, tk4_0, tk4_1, tk4_2, tk4_3, tk4_4, tk4_5⟩ := hQ4
  have N4 := Fr.app N2 N4q
  have tk2_3_v4 := tk2_3_v3.keep Kq4
  have tk2_4_v4 := tk2_4_v3.keep Kq4 (ninS ne_b2_0_b3 nin0)
  have tk2_5_v4 := tk2_5_v3.keep Kq4 (ninS ne_b2_0_b3 nin0)
  have tk2_6_v4 := tk2_6_v3.keep Kq4 (ninS ne_b2_1_b3 nin0)
  have E_b3_v4 := E_b3_v3.keep Kq4
  have O4 := O3.keep Kq4 (allS gn_b3 all0)
  obtain ⟨cq5, kq5, q5a, q5b, q5c⟩ := isOf hZ rfl tk4_0
  obtain ⟨_, _, ⟨T5, L5, k5, n5⟩, -, X5, ⟨Lc5, hQ5, l5, y5, z5⟩, st5⟩ := X4.virtualBack hx (y := (⟨"com/example/netloom/netloom/xml/NetReader$OpenAnnotations", "carriesGraphics", "()Z"⟩ : MethodName)) (z := (⟨"com/example/netloom/netloom/xml/NetReader$OpenAnnotations", "carriesGraphics", "()Z"⟩ : MethodName)) hown (mvT hZ (W hw 46 rfl)) (mvT hZ (W hw 47 rfl)) (notFace_of_selects (args := #[]) (mvT hZ (W hw 49 rfl))) (mvT hZ (W hw 49 rfl)) (mvT hZ (W hw 48 rfl)) (by decide) (backOf (W := 0) (rm_37 l Z a0 hw w kk iw vw hN [] b3 b2_0 b2_1 ((((p2 &&& (255 : Int32)).toUInt32.toUInt16.toUInt32.toInt32).toInt8.toInt32).toInt8.toInt32) kb2_0 T4.heap O4 gn_b3 tk4_0.lt tk4_0 gn_b2_0 tk2_3_v4.lt tk4_1 tk4_2 tk4_3 tk4_4 tk4_5 tk2_3_v4 gn_b2_1 tk2_6_v4.lt tk2_4_v4 tk2_5_v4 tk2_6_v4 (Ne.symm ne_b2_0_b3) (Ne.symm ne_b2_1_b3) tk2_2) hZ (W hw 50 rfl) (W hw 35 rfl) (by decide) (by decide)) q5a q5c (g := (mkF m 33 #[.val (.int p0), .val (.int p1), .val (.int p2), .val (.ref (w 0)), .val (.ref b2_0), .val (.ref b3), .unset, .unset, .unset, .unset, .unset, .unset] [(.ref b3)])) rfl (by rw [hml]; rfl) (Steps.refl _) (argsL := []) (rest := []) (lenOf pd_6 rfl) rfl (by show 2 * 0 + _ ≤ _; exact Nat.le_of_eq rfl) (hb hby at_33) (fun _ _ => ⟨rfl, rfl, (by decide : 3 + 0 ≤ _), (by decide : 16 + 0 ≤ _)⟩)
  dsimp only [Pt.U, Pt.locs, Pt.cells, Pt.slots] at X5 l5 y5 z5 st5 hQ5
  subst l5 y5 z5
  obtain ⟨rfl, N5q, e5⟩ := hQ5
  have N5 := Fr.app N4 N5q
  obtain ⟨cq6, kq6, q6a, q6b, q6c⟩ := isOf hZ e5 tk4_0
  obtain ⟨_, _, ⟨T6, L6, k6, n6⟩, -, X6, ⟨Lc6, hQ6, l6, y6, z6⟩, st6⟩ := X5.virtualBack hx (y := (⟨"com/example/netloom/netloom/xml/NetReader$OpenAnnotations", "carriesGraphics", "()Z"⟩ : MethodName)) (z := (⟨"com/example/netloom/netloom/xml/NetReader$OpenAnnotations", "carriesGraphics", "()Z"⟩ : MethodName)) hown (mvT hZ (W hw 46 rfl)) (mvT hZ (W hw 47 rfl)) (notFace_of_selects (args := #[]) (mvT hZ (W hw 49 rfl))) (mvT hZ (W hw 49 rfl)) (mvT hZ (W hw 48 rfl)) (by decide) (backOf (W := 0) (rm_37 l Z a0 hw w kk iw vw hN [] b3 b2_0 b2_1 ((((p2 &&& (255 : Int32)).toUInt32.toUInt16.toUInt32.toInt32).toInt8.toInt32).toInt8.toInt32) kb2_0 T4.heap O4 gn_b3 tk4_0.lt tk4_0 gn_b2_0 tk2_3_v4.lt tk4_1 tk4_2 tk4_3 tk4_4 tk4_5 tk2_3_v4 gn_b2_1 tk2_6_v4.lt tk2_4_v4 tk2_5_v4 tk2_6_v4 (Ne.symm ne_b2_0_b3) (Ne.symm ne_b2_1_b3) tk2_2) hZ (W hw 50 rfl) (W hw 35 rfl) (by decide) (by decide)) q6a q6c (g := (mkF m 86 #[.val (.int p0), .val (.int p1), .val (.int p2), .val (.ref (w 0)), .val (.ref b2_0), .val (.ref b3), .val (.int (0 : Int32)), .val (.int (0 : Int32)), .val (.int (1 : Int32)), .unset, .unset, .unset] [(.ref b3)])) rfl (by rw [hml]; rfl) (Steps.refl _) (argsL := []) (rest := []) (lenOf pd_6 rfl) rfl (by show 2 * 0 + _ ≤ _; exact Nat.le_of_eq rfl) (hb hby at_86) (fun _ _ => ⟨rfl, e5, (by decide : 3 + 0 ≤ _), (by decide : 16 + 0 ≤ _)⟩)
  dsimp only [Pt.U, Pt.locs, Pt.cells, Pt.slots] at X6 l6 y6 z6 st6 hQ6
  subst l6 y6 z6
  obtain ⟨rfl, N6q, e6⟩ := hQ6
  have N6 := Fr.app N5 N6q
  obtain ⟨cq7, kq7, q7a, q7b, q7c⟩ := isOf hZ e6 tk4_0
  obtain ⟨_, _, ⟨T7, L7, k7, n7⟩, -, X7, ⟨Lc7, hQ7, l7, y7, z7⟩, st7⟩ := X6.virtualBack hx (y := (⟨"com/example/netloom/netloom/xml/NetReader$OpenAnnotations", "carriesGraphics", "()Z"⟩ : MethodName)) (z := (⟨"com/example/netloom/netloom/xml/NetReader$OpenAnnotations", "carriesGraphics", "()Z"⟩ : MethodName)) hown (mvT hZ (W hw 46 rfl)) (mvT hZ (W hw 47 rfl)) (notFace_of_selects (args := #[]) (mvT hZ (W hw 49 rfl))) (mvT hZ (W hw 49 rfl)) (mvT hZ (W hw 48 rfl)) (by decide) (backOf (W := 0) (rm_37 l Z a0 hw w kk iw vw hN [] b3 b2_0 b2_1 ((((p2 &&& (255 : Int32)).toUInt32.toUInt16.toUInt32.toInt32).toInt8.toInt32).toInt8.toInt32) kb2_0 T4.heap O4 gn_b3 tk4_0.lt tk4_0 gn_b2_0 tk2_3_v4.lt tk4_1 tk4_2 tk4_3 tk4_4 tk4_5 tk2_3_v4 gn_b2_1 tk2_6_v4.lt tk2_4_v4 tk2_5_v4 tk2_6_v4 (Ne.symm ne_b2_0_b3) (Ne.symm ne_b2_1_b3) tk2_2) hZ (W hw 50 rfl) (W hw 35 rfl) (by decide) (by decide)) q7a q7c (g := (mkF m 93 #[.val (.int p0), .val (.int p1), .val (.int p2), .val (.ref (w 0)), .val (.ref b2_0), .val (.ref b3), .val (.int (0 : Int32)), .val (.int (0 : Int32)), .val (.int (1 : Int32)), .val (.int (0 : Int32)), .unset, .unset] [(.ref b3)])) rfl (by rw [hml]; rfl) (Steps.refl _) (argsL := []) (rest := []) (lenOf pd_6 rfl) rfl (by show 2 * 0 + _ ≤ _; exact Nat.le_of_eq rfl) (hb hby at_93) (fun _ _ => ⟨rfl, e6, (by decide : 3 + 0 ≤ _), (by decide : 16 + 0 ≤ _)⟩)
  dsimp only [Pt.U, Pt.locs, Pt.cells, Pt.slots] at X7 l7 y7 z7 st7 hQ7
  subst l7 y7 z7
  obtain ⟨rfl, N7q, e7⟩ := hQ7
  have N7 := Fr.app N6 N7q
  obtain ⟨fs, hr, hrun, hended, hW, hsame⟩ := X7.leave (v := some (.int (1 : Int32))) (fun h => by rw [Bd.returns] at h; cases h)
  refine ⟨_, _, pre0 _ ?_, hrun, hended, _, _, rfl, ?_, ⟨_, rfl⟩, hW, hsame.mono (by decide) (by decide)⟩
  · show Steps p.tables e below (s₁.setTop (mkF m 0 #[.val (.int p0), .val (.int p1), .val (.int p2), .unset, .unset, .unset, .unset, .unset, .unset, .unset, .unset, .unset] [])) _
    refine XS.iloadN X0.here hx rfl (hb hby at_0) rfl ?_
    show Steps p.tables e below (s₁.setTop (mkF m 1 #[.val (.int p0), .val (.int p1), .val (.int p2), .unset, .unset, .unset, .unset, .unset, .unset, .unset, .unset, .unset] [(.int p1)])) _
    refine XS.iconst X0.here hx rfl (hb hby at_1) ?_
    show Steps p.tables e below (s₁.setTop (mkF m 2 #[.val (.int p0), .val (.int p1), .val (.int p2), .unset, .unset, .unset, .unset, .unset, .unset, .unset, .unset, .unset] [(.int (3 : Int32)), (.int p1)])) _
    refine XS.iand X0.here hx rfl (hb hby at_2) rfl ?_
    show Steps p.tables e below (s₁.setTop (mkF m 3 #[.val (.int p0), .val (.int p1), .val (.int p2), .unset, .unset, .unset, .unset, .unset, .unset, .unset, .unset, .unset] [(.int (p1 &&& (3 : Int32)))])) _
    rw [hp0]
    show Steps p.tables e below (s₁.setTop (mkF m 3 #[.val (.int p0), .val (.int p1), .val (.int p2), .unset, .unset, .unset, .unset, .unset, .unset, .unset, .unset, .unset] [(.int (3 : Int32))])) _
    refine st1 _ ?_
    show Steps p.tables e below (T1.setTop (mkF m 6 #[.val (.int p0), .val (.int p1), .val (.int p2), .unset, .unset, .unset, .unset, .unset, .unset, .unset, .unset, .unset] [(.ref (w 0))])) _
    refine XS.astoreN X1.here hx rfl (hb hby at_6) rfl rfl (l' := #[.val (.int p0), .val (.int p1), .val (.int p2), .val (.ref (w 0)), .unset, .unset, .unset, .unset, .unset, .unset, .unset, .unset]) rfl ?_
    show Steps p.tables e below (T1.setTop (mkF m 7 #[.val (.int p0), .val (.int p1), .val (.int p2), .val (.ref (w 0)), .unset, .unset, .unset, .unset, .unset, .unset, .unset, .unset] [])) _
    refine XS.iloadN X1.here hx rfl (hb hby at_7) rfl ?_
    show Steps p.tables e below (T1.setTop (mkF m 8 #[.val (.int p0), .val (.int p1), .val (.int p2), .val (.ref (w 0)), .unset, .unset, .unset, .unset, .unset, .unset, .unset, .unset] [(.int p2)])) _
    refine XS.sipush X1.here hx rfl (hb hby at_8) ?_
    show Steps p.tables e below (T1.setTop (mkF m 11 #[.val (.int p0), .val (.int p1), .val (.int p2), .val (.ref (w 0)), .unset, .unset, .unset, .unset, .unset, .unset, .unset, .unset] [(.int (255 : Int32)), (.int p2)])) _
    refine XS.iand X1.here hx rfl (hb hby at_11) rfl ?_
    show Steps p.tables e below (T1.setTop (mkF m 12 #[.val (.int p0), .val (.int p1), .val (.int p2), .val (.ref (w 0)), .unset, .unset, .unset, .unset, .unset, .unset, .unset, .unset] [(.int (p2 &&& (255 : Int32)))])) _
    refine XS.i2c X1.here hx rfl (hb hby at_12) rfl ?_
    show Steps p.tables e below (T1.setTop (mkF m 13 #[.val (.int p0), .val (.int p1), .val (.int p2), .val (.ref (w 0)), .unset, .unset, .unset, .unset, .unset, .unset, .unset, .unset] [(.int ((p2 &&& (255 : Int32)).toUInt32.toUInt16.toUInt32.toInt32))])) _
    refine st2 _ ?_
    show Steps p.tables e below (T2.setTop (mkF m 16 #[.val (.int p0), .val (.int p1), .val (.int p2), .val (.ref (w 0)), .unset, .unset, .unset, .unset, .unset, .unset, .unset, .unset] [(.ref b2_0)])) _
    refine XS.astore X2.here hx rfl (hb hby at_16) rfl rfl (l' := #[.val (.int p0), .val (.int p1), .val (.int p2), .val (.ref (w 0)), .val (.ref b2_0), .unset, .unset, .unset, .unset, .unset, .unset, .unset]) rfl ?_
    show Steps p.tables e below (T2.setTop (mkF m 18 #[.val (.int p0), .val (.int p1), .val (.int p2), .val (.ref (w 0)), .val (.ref b2_0), .unset, .unset, .unset, .unset, .unset, .unset, .unset] [])) _
    refine st3 _ ?_
    show Steps p.tables e below (T3.setTop (mkF m 21 #[.val (.int p0), .val (.int p1), .val (.int p2), .val (.ref (w 0)), .val (.ref b2_0), .unset, .unset, .unset, .unset, .unset, .unset, .unset] [(.ref b3)])) _
    refine XS.dup X3.here hx rfl (hb hby at_21) rfl rfl ?_
    show Steps p.tables e below (T3.setTop (mkF m 22 #[.val (.int p0), .val (.int p1), .val (.int p2), .val (.ref (w 0)), .val (.ref b2_0), .unset, .unset, .unset, .unset, .unset, .unset, .unset] [(.ref b3), (.ref b3)])) _
    refine XS.aload X3.here hx rfl (hb hby at_22) rfl rfl ?_
    show Steps p.tables e below (T3.setTop (mkF m 24 #[.val (.int p0), .val (.int p1), .val (.int p2), .val (.ref (w 0)), .val (.ref b2_0), .unset, .unset, .unset, .unset, .unset, .unset, .unset] [(.ref b2_0), (.ref b3), (.ref b3)])) _
    refine XS.aloadN X3.here hx rfl (hb hby at_24) rfl rfl ?_
    show Steps p.tables e below (T3.setTop (mkF m 25 #[.val (.int p0), .val (.int p1), .val (.int p2), .val (.ref (w 0)), .val (.ref b2_0), .unset, .unset, .unset, .unset, .unset, .unset, .unset] [(.ref (w 0)), (.ref b2_0), (.ref b3), (.ref b3)])) _
    refine XS.aconstNull X3.here hx rfl (hb hby at_25) ?_
    show Steps p.tables e below (T3.setTop (mkF m 26 #[.val (.int p0), .val (.int p1), .val (.int p2), .val (.ref (w 0)), .val (.ref b2_0), .unset, .unset, .unset, .unset, .unset, .unset, .unset] [.null, (.ref (w 0)), (.ref b2_0), (.ref b3), (.ref b3)])) _
    refine st4.trans ?_
    show Steps p.tables e below (T4.setTop (mkF m 29 #[.val (.int p0), .val (.int p1), .val (.int p2), .val (.ref (w 0)), .val (.ref b2_0), .unset, .unset, .unset, .unset, .unset, .unset, .unset] [(.ref b3)])) _
    refine XS.astore X4.here hx rfl (hb hby at_29) rfl rfl (l' := #[.val (.int p0), .val (.int p1), .val (.int p2), .val (.ref (w 0)), .val (.ref b2_0), .val (.ref b3), .unset, .unset, .unset, .unset, .unset, .unset]) rfl ?_
    show Steps p.tables e below (T4.setTop (mkF m 31 #[.val (.int p0), .val (.int p1), .val (.int p2), .val (.ref (w 0)), .val (.ref b2_0), .val (.ref b3), .unset, .unset, .unset, .unset, .unset, .unset] [])) _
    refine XS.aload X4.here hx rfl (hb hby at_31) rfl rfl ?_
    show Steps p.tables e below (T4.setTop (mkF m 33 #[.val (.int p0), .val (.int p1), .val (.int p2), .val (.ref (w 0)), .val (.ref b2_0), .val (.ref b3), .unset, .unset, .unset, .unset, .unset, .unset] [(.ref b3)])) _
    refine st5.trans ?_
    show Steps p.tables e below (T5.setTop (mkF m 36 #[.val (.int p0), .val (.int p1), .val (.int p2), .val (.ref (w 0)), .val (.ref b2_0), .val (.ref b3), .unset, .unset, .unset, .unset, .unset, .unset] [(.int (0 : Int32))])) _
    refine XS.istore X5.here hx rfl (hb hby at_36) rfl (l' := #[.val (.int p0), .val (.int p1), .val (.int p2), .val (.ref (w 0)), .val (.ref b2_0), .val (.ref b3), .val (.int (0 : Int32)), .unset, .unset, .unset, .unset, .unset]) rfl ?_
    show Steps p.tables e below (T5.setTop (mkF m 38 #[.val (.int p0), .val (.int p1), .val (.int p2), .val (.ref (w 0)), .val (.ref b2_0), .val (.ref b3), .val (.int (0 : Int32)), .unset, .unset, .unset, .unset, .unset] [])) _
    refine XS.iloadN X5.here hx rfl (hb hby at_38) rfl ?_
    show Steps p.tables e below (T5.setTop (mkF m 39 #[.val (.int p0), .val (.int p1), .val (.int p2), .val (.ref (w 0)), .val (.ref b2_0), .val (.ref b3), .val (.int (0 : Int32)), .unset, .unset, .unset, .unset, .unset] [(.int p0)])) _
    refine XS.iconst X5.here hx rfl (hb hby at_39) ?_
    show Steps p.tables e below (T5.setTop (mkF m 40 #[.val (.int p0), .val (.int p1), .val (.int p2), .val (.ref (w 0)), .val (.ref b2_0), .val (.ref b3), .val (.int (0 : Int32)), .unset, .unset, .unset, .unset, .unset] [(.int (1 : Int32)), (.int p0)])) _
    refine XS.iand X5.here hx rfl (hb hby at_40) rfl ?_
    show Steps p.tables e below (T5.setTop (mkF m 41 #[.val (.int p0), .val (.int p1), .val (.int p2), .val (.ref (w 0)), .val (.ref b2_0), .val (.ref b3), .val (.int (0 : Int32)), .unset, .unset, .unset, .unset, .unset] [(.int (p0 &&& (1 : Int32)))])) _
    rw [hp2]
    show Steps p.tables e below (T5.setTop (mkF m 41 #[.val (.int p0), .val (.int p1), .val (.int p2), .val (.ref (w 0)), .val (.ref b2_0), .val (.ref b3), .val (.int (0 : Int32)), .unset, .unset, .unset, .unset, .unset] [(.int (0 : Int32))])) _
    refine XS.ifYes X5.here hx rfl (pc0 := 41) (pc' := 48) rfl (hb hby at_41) rfl ((if0 _ _).trans (teq (by decide : (0 : Int32) = (0 : Int32))).1) (by decide) (by decide) ?_
    show Steps p.tables e below (T5.setTop (mkF m 48 #[.val (.int p0), .val (.int p1), .val (.int p2), .val (.ref (w 0)), .val (.ref b2_0), .val (.ref b3), .val (.int (0 : Int32)), .unset, .unset, .unset, .unset, .unset] [])) _
    refine XS.iconst X5.here hx rfl (hb hby at_48) ?_
    show Steps p.tables e below (T5.setTop (mkF m 49 #[.val (.int p0), .val (.int p1), .val (.int p2), .val (.ref (w 0)), .val (.ref b2_0), .val (.ref b3), .val (.int (0 : Int32)), .unset, .unset, .unset, .unset, .unset] [(.int (0 : Int32))])) _
    refine XS.istore X5.here hx rfl (hb hby at_49) rfl (l' := #[.val (.int p0), .val (.int p1), .val (.int p2), .val (.ref (w 0)), .val (.ref b2_0), .val (.ref b3), .val (.int (0 : Int32)), .val (.int (0 : Int32)), .unset, .unset, .unset, .unset]) rfl ?_
    show Steps p.tables e below (T5.setTop (mkF m 51 #[.val (.int p0), .val (.int p1), .val (.int p2), .val (.ref (w 0)), .val (.ref b2_0), .val (.ref b3), .val (.int (0 : Int32)), .val (.int (0 : Int32)), .unset, .unset, .unset, .unset] [])) _
    refine XS.iloadN X5.here hx rfl (hb hby at_51) rfl ?_
    show Steps p.tables e below (T5.setTop (mkF m 52 #[.val (.int p0), .val (.int p1), .val (.int p2), .val (.ref (w 0)), .val (.ref b2_0), .val (.ref b3), .val (.int (0 : Int32)), .val (.int (0 : Int32)), .unset, .unset, .unset, .unset] [(.int p0)])) _
    refine XS.iconst X5.here hx rfl (hb hby at_52) ?_
    show Steps p.tables e below (T5.setTop (mkF m 53 #[.val (.int p0), .val (.int p1), .val (.int p2), .val (.ref (w 0)), .val (.ref b2_0), .val (.ref b3), .val (.int (0 : Int32)), .val (.int (0 : Int32)), .unset, .unset, .unset, .unset] [(.int (2 : Int32)), (.int p0)])) _
    refine XS.iand X5.here hx rfl (hb hby at_53) rfl ?_
    show Steps p.tables e below (T5.setTop (mkF m 54 #[.val (.int p0), .val (.int p1), .val (.int p2), .val (.ref (w 0)), .val (.ref b2_0), .val (.ref b3), .val (.int (0 : Int32)), .val (.int (0 : Int32)), .unset, .unset, .unset, .unset] [(.int (p0 &&& (2 : Int32)))])) _
    refine XS.ifNo X5.here hx rfl (hb hby at_54) rfl ((if0 _ _).trans (feq hp3).1) ?_
    show Steps p.tables e below (T5.setTop (mkF m 57 #[.val (.int p0), .val (.int p1), .val (.int p2), .val (.ref (w 0)), .val (.ref b2_0), .val (.ref b3), .val (.int (0 : Int32)), .val (.int (0 : Int32)), .unset, .unset, .unset, .unset] [])) _
    refine XS.iconst X5.here hx rfl (hb hby at_57) ?_
    show Steps p.tables e below (T5.setTop (mkF m 58 #[.val (.int p0), .val (.int p1), .val (.int p2), .val (.ref (w 0)), .val (.ref b2_0), .val (.ref b3), .val (.int (0 : Int32)), .val (.int (0 : Int32)), .unset, .unset, .unset, .unset] [(.int (1 : Int32))])) _
    refine XS.goto X5.here hx rfl (pc0 := 58) (pc' := 62) rfl (hb hby at_58) (by decide) (by decide) ?_
    show Steps p.tables e below (T5.setTop (mkF m 62 #[.val (.int p0), .val (.int p1), .val (.int p2), .val (.ref (w 0)), .val (.ref b2_0), .val (.ref b3), .val (.int (0 : Int32)), .val (.int (0 : Int32)), .unset, .unset, .unset, .unset] [(.int (1 : Int32))])) _
    refine XS.istore X5.here hx rfl (hb hby at_62) rfl (l' := #[.val (.int p0), .val (.int p1), .val (.int p2), .val (.ref (w 0)), .val (.ref b2_0), .val (.ref b3), .val (.int (0 : Int32)), .val (.int (0 : Int32)), .val (.int (1 : Int32)), .unset, .unset, .unset]) rfl ?_
    show Steps p.tables e below (T5.setTop (mkF m 64 #[.val (.int p0), .val (.int p1), .val (.int p2), .val (.ref (w 0)), .val (.ref b2_0), .val (.ref b3), .val (.int (0 : Int32)), .val (.int (0 : Int32)), .val (.int (1 : Int32)), .unset, .unset, .unset] [])) _
    refine XS.iload X5.here hx rfl (hb hby at_64) rfl ?_
    show Steps p.tables e below (T5.setTop (mkF m 66 #[.val (.int p0), .val (.int p1), .val (.int p2), .val (.ref (w 0)), .val (.ref b2_0), .val (.ref b3), .val (.int (0 : Int32)), .val (.int (0 : Int32)), .val (.int (1 : Int32)), .unset, .unset, .unset] [(.int (0 : Int32))])) _
    refine XS.ifYes X5.here hx rfl (pc0 := 66) (pc' := 84) rfl (hb hby at_66) rfl ((if0 _ _).trans (teq (by decide : (0 : Int32) = (0 : Int32))).1) (by decide) (by decide) ?_
    show Steps p.tables e below (T5.setTop (mkF m 84 #[.val (.int p0), .val (.int p1), .val (.int p2), .val (.ref (w 0)), .val (.ref b2_0), .val (.ref b3), .val (.int (0 : Int32)), .val (.int (0 : Int32)), .val (.int (1 : Int32)), .unset, .unset, .unset] [])) _
    refine XS.aload X5.here hx rfl (hb hby at_84) rfl rfl ?_
    show Steps p.tables e below (T5.setTop (mkF m 86 #[.val (.int p0), .val (.int p1), .val (.int p2), .val (.ref (w 0)), .val (.ref b2_0), .val (.ref b3), .val (.int (0 : Int32)), .val (.int (0 : Int32)), .val (.int (1 : Int32)), .unset, .unset, .unset] [(.ref b3)])) _
    refine st6.trans ?_
    show Steps p.tables e below (T6.setTop (mkF m 89 #[.val (.int p0), .val (.int p1), .val (.int p2), .val (.ref (w 0)), .val (.ref b2_0), .val (.ref b3), .val (.int (0 : Int32)), .val (.int (0 : Int32)), .val (.int (1 : Int32)), .unset, .unset, .unset] [(.int (0 : Int32))])) _
    refine XS.istore X6.here hx rfl (hb hby at_89) rfl (l' := #[.val (.int p0), .val (.int p1), .val (.int p2), .val (.ref (w 0)), .val (.ref b2_0), .val (.ref b3), .val (.int (0 : Int32)), .val (.int (0 : Int32)), .val (.int (1 : Int32)), .val (.int (0 : Int32)), .unset, .unset]) rfl ?_
    show Steps p.tables e below (T6.setTop (mkF m 91 #[.val (.int p0), .val (.int p1), .val (.int p2), .val (.ref (w 0)), .val (.ref b2_0), .val (.ref b3), .val (.int (0 : Int32)), .val (.int (0 : Int32)), .val (.int (1 : Int32)), .val (.int (0 : Int32)), .unset, .unset] [])) _
    refine XS.aload X6.here hx rfl (hb hby at_91) rfl rfl ?_
    show Steps p.tables e below (T6.setTop (mkF m 93 #[.val (.int p0), .val (.int p1), .val (.int p2), .val (.ref (w 0)), .val (.ref b2_0), .val (.ref b3), .val (.int (0 : Int32)), .val (.int (0 : Int32)), .val (.int (1 : Int32)), .val (.int (0 : Int32)), .unset, .unset] [(.ref b3)])) _
    refine st7.trans ?_
    show Steps p.tables e below (T7.setTop (mkF m 96 #[.val (.int p0), .val (.int p1), .val (.int p2), .val (.ref (w 0)), .val (.ref b2_0), .val (.ref b3), .val (.int (0 : Int32)), .val (.int (0 : Int32)), .val (.int (1 : Int32)), .val (.int (0 : Int32)), .unset, .unset] [(.int (0 : Int32))])) _
    refine XS.istore X7.here hx rfl (hb hby at_96) rfl (l' := #[.val (.int p0), .val (.int p1), .val (.int p2), .val (.ref (w 0)), .val (.ref b2_0), .val (.ref b3), .val (.int (0 : Int32)), .val (.int (0 : Int32)), .val (.int (1 : Int32)), .val (.int (0 : Int32)), .val (.int (0 : Int32)), .unset]) rfl ?_
    show Steps p.tables e below (T7.setTop (mkF m 98 #[.val (.int p0), .val (.int p1), .val (.int p2), .val (.ref (w 0)), .val (.ref b2_0), .val (.ref b3), .val (.int (0 : Int32)), .val (.int (0 : Int32)), .val (.int (1 : Int32)), .val (.int (0 : Int32)), .val (.int (0 : Int32)), .unset] [])) _
    refine XS.iload X7.here hx rfl (hb hby at_98) rfl ?_
    show Steps p.tables e below (T7.setTop (mkF m 100 #[.val (.int p0), .val (.int p1), .val (.int p2), .val (.ref (w 0)), .val (.ref b2_0), .val (.ref b3), .val (.int (0 : Int32)), .val (.int (0 : Int32)), .val (.int (1 : Int32)), .val (.int (0 : Int32)), .val (.int (0 : Int32)), .unset] [(.int (0 : Int32))])) _
    refine XS.ifYes X7.here hx rfl (pc0 := 100) (pc' := 111) rfl (hb hby at_100) rfl ((if0 _ _).trans (teq (by decide : (0 : Int32) = (0 : Int32))).1) (by decide) (by decide) ?_
    show Steps p.tables e below (T7.setTop (mkF m 111 #[.val (.int p0), .val (.int p1), .val (.int p2), .val (.ref (w 0)), .val (.ref b2_0), .val (.ref b3), .val (.int (0 : Int32)), .val (.int (0 : Int32)), .val (.int (1 : Int32)), .val (.int (0 : Int32)), .val (.int (0 : Int32)), .unset] [])) _
    refine XS.iconst X7.here hx rfl (hb hby at_111) ?_
    show Steps p.tables e below (T7.setTop (mkF m 112 #[.val (.int p0), .val (.int p1), .val (.int p2), .val (.ref (w 0)), .val (.ref b2_0), .val (.ref b3), .val (.int (0 : Int32)), .val (.int (0 : Int32)), .val (.int (1 : Int32)), .val (.int (0 : Int32)), .val (.int (0 : Int32)), .unset] [(.int (0 : Int32))])) _
    refine XS.istore X7.here hx rfl (hb hby at_112) rfl (l' := #[.val (.int p0), .val (.int p1), .val (.int p2), .val (.ref (w 0)), .val (.ref b2_0), .val (.ref b3), .val (.int (0 : Int32)), .val (.int (0 : Int32)), .val (.int (1 : Int32)), .val (.int (0 : Int32)), .val (.int (0 : Int32)), .val (.int (0 : Int32))]) rfl ?_
    show Steps p.tables e below (T7.setTop (mkF m 114 #[.val (.int p0), .val (.int p1), .val (.int p2), .val (.ref (w 0)), .val (.ref b2_0), .val (.ref b3), .val (.int (0 : Int32)), .val (.int (0 : Int32)), .val (.int (1 : Int32)), .val (.int (0 : Int32)), .val (.int (0 : Int32)), .val (.int (0 : Int32))] [])) _
    refine XS.iload X7.here hx rfl (hb hby at_114) rfl ?_
    show Steps p.tables e below (T7.setTop (mkF m 116 #[.val (.int p0), .val (.int p1), .val (.int p2), .val (.ref (w 0)), .val (.ref b2_0), .val (.ref b3), .val (.int (0 : Int32)), .val (.int (0 : Int32)), .val (.int (1 : Int32)), .val (.int (0 : Int32)), .val (.int (0 : Int32)), .val (.int (0 : Int32))] [(.int (0 : Int32))])) _
    refine XS.ifNo X7.here hx rfl (hb hby at_116) rfl ((if0 _ _).trans (teq (by decide : (0 : Int32) = (0 : Int32))).2) ?_
    show Steps p.tables e below (T7.setTop (mkF m 119 #[.val (.int p0), .val (.int p1), .val (.int p2), .val (.ref (w 0)), .val (.ref b2_0), .val (.ref b3), .val (.int (0 : Int32)), .val (.int (0 : Int32)), .val (.int (1 : Int32)), .val (.int (0 : Int32)), .val (.int (0 : Int32)), .val (.int (0 : Int32))] [])) _
    refine XS.iload X7.here hx rfl (hb hby at_119) rfl ?_
    show Steps p.tables e below (T7.setTop (mkF m 121 #[.val (.int p0), .val (.int p1), .val (.int p2), .val (.ref (w 0)), .val (.ref b2_0), .val (.ref b3), .val (.int (0 : Int32)), .val (.int (0 : Int32)), .val (.int (1 : Int32)), .val (.int (0 : Int32)), .val (.int (0 : Int32)), .val (.int (0 : Int32))] [(.int (0 : Int32))])) _
    refine XS.iload X7.here hx rfl (hb hby at_121) rfl ?_
    show Steps p.tables e below (T7.setTop (mkF m 123 #[.val (.int p0), .val (.int p1), .val (.int p2), .val (.ref (w 0)), .val (.ref b2_0), .val (.ref b3), .val (.int (0 : Int32)), .val (.int (0 : Int32)), .val (.int (1 : Int32)), .val (.int (0 : Int32)), .val (.int (0 : Int32)), .val (.int (0 : Int32))] [(.int (0 : Int32)), (.int (0 : Int32))])) _
    refine XS.icmpNo X7.here hx rfl (hb hby at_123) rfl (teq (by decide : (0 : Int32) = (0 : Int32))).2 ?_
    show Steps p.tables e below (T7.setTop (mkF m 126 #[.val (.int p0), .val (.int p1), .val (.int p2), .val (.ref (w 0)), .val (.ref b2_0), .val (.ref b3), .val (.int (0 : Int32)), .val (.int (0 : Int32)), .val (.int (1 : Int32)), .val (.int (0 : Int32)), .val (.int (0 : Int32)), .val (.int (0 : Int32))] [])) _
    refine XS.iload X7.here hx rfl (hb hby at_126) rfl ?_
    show Steps p.tables e below (T7.setTop (mkF m 128 #[.val (.int p0), .val (.int p1), .val (.int p2), .val (.ref (w 0)), .val (.ref b2_0), .val (.ref b3), .val (.int (0 : Int32)), .val (.int (0 : Int32)), .val (.int (1 : Int32)), .val (.int (0 : Int32)), .val (.int (0 : Int32)), .val (.int (0 : Int32))] [(.int (0 : Int32))])) _
    refine XS.iload X7.here hx rfl (hb hby at_128) rfl ?_
    show Steps p.tables e below (T7.setTop (mkF m 130 #[.val (.int p0), .val (.int p1), .val (.int p2), .val (.ref (w 0)), .val (.ref b2_0), .val (.ref b3), .val (.int (0 : Int32)), .val (.int (0 : Int32)), .val (.int (1 : Int32)), .val (.int (0 : Int32)), .val (.int (0 : Int32)), .val (.int (0 : Int32))] [(.int (0 : Int32)), (.int (0 : Int32))])) _
    refine XS.icmpNo X7.here hx rfl (hb hby at_130) rfl (teq (by decide : (0 : Int32) = (0 : Int32))).2 ?_
    show Steps p.tables e below (T7.setTop (mkF m 133 #[.val (.int p0), .val (.int p1), .val (.int p2), .val (.ref (w 0)), .val (.ref b2_0), .val (.ref b3), .val (.int (0 : Int32)), .val (.int (0 : Int32)), .val (.int (1 : Int32)), .val (.int (0 : Int32)), .val (.int (0 : Int32)), .val (.int (0 : Int32))] [])) _
    refine XS.iconst X7.here hx rfl (hb hby at_133) ?_
    show Steps p.tables e below (T7.setTop (mkF m 134 #[.val (.int p0), .val (.int p1), .val (.int p2), .val (.ref (w 0)), .val (.ref b2_0), .val (.ref b3), .val (.int (0 : Int32)), .val (.int (0 : Int32)), .val (.int (1 : Int32)), .val (.int (0 : Int32)), .val (.int (0 : Int32)), .val (.int (0 : Int32))] [(.int (1 : Int32))])) _
    refine XS.goto X7.here hx rfl (pc0 := 134) (pc' := 138) rfl (hb hby at_134) (by decide) (by decide) ?_
    show Steps p.tables e below (T7.setTop (mkF m 138 #[.val (.int p0), .val (.int p1), .val (.int p2), .val (.ref (w 0)), .val (.ref b2_0), .val (.ref b3), .val (.int (0 : Int32)), .val (.int (0 : Int32)), .val (.int (1 : Int32)), .val (.int (0 : Int32)), .val (.int (0 : Int32)), .val (.int (0 : Int32))] [(.int (1 : Int32))])) _
    exact retN X7 hx (t := .boolean) Bd.returns (by simp) (hb hby at_138) hr
  · show OL (some (.int (1 : Int32))) Z.heap.size _ T7.heap _
    exact ⟨rfl, N7⟩
def Qd_10 (Z : State) (w : Nat → Addr) (kk : Nat → ClassId) (iw : Nat → Int32) (vw : Nat → Value) (o1 : Addr) (o2 : Addr) (o3 : Addr) (t0 : Int32) (kc_o3 : ClassId) (h0 : Heap) (n0 : Nat) (v : Option Value) (h : Heap) (L : List Loc) : Prop := v = none ∧ Fr n0 L ∧ Keep h0 h [o1] ∧ Exa Z h o1 "com/example/netloom/netloom/xml/NetReader$OpenAnnotations" ∧ Fld Z h o1 "com/example/netloom/netloom/xml/NetReader$OpenAnnotations" "owner" "Ljava/lang/String;" (.ref o2) ∧ Fld Z h o1 "com/example/netloom/netloom/xml/NetReader$OpenAnnotations" "form" "Lcom/example/netloom/netloom/xml/XmlGraphics$Form;" (.ref (w 0)) ∧ Fld Z h o1 "com/example/netloom/netloom/xml/NetReader$OpenAnnotations" "carries" "Ljava/util/Set;" .null ∧ Fld Z h o1 "com/example/netloom/netloom/xml/NetReader$OpenAnnotations" "graphicsCarried" "Z" (.int (1 : Int32)) ∧ Fld Z h o1 "com/example/netloom/netloom/xml/NetReader$OpenAnnotations" "graphics" "Lcom/example/netloom/netloom/net/Graphics;" .null
set_option maxRecDepth 65536 in
set_option maxHeartbeats 40000000 in
theorem rm_40 (l : Launch) (Z : State) (a0 : Array Value) (hw : ∀ d ∈ tables_1, d.before a0 Z = true) (w : Nat → Addr) (kk : Nat → ClassId) (iw : Nat → Int32) (vw : Nat → Value) (hN : Wd Z w kk iw vw) (ws : List Jvm.Cond) (o1 : Addr) (o2 : Addr) (o3 : Addr) (t0 : Int32) (kc_o3 : ClassId) (h0 : Heap) (O0 : Old Z Z.heap.size h0) (gn_o1 : Z.heap.size ≤ o1) (lt_o1 : o1 < h0.size) (E_o1 : Exa Z h0 o1 "com/example/netloom/netloom/xml/NetReader$OpenAnnotations") (gn_o2 : Z.heap.size ≤ o2) (lt_o2 : o2 < h0.size) (F_o1_owner : Fld Z h0 o1 "com/example/netloom/netloom/xml/NetReader$OpenAnnotations" "owner" "Ljava/lang/String;" (.ref o2)) (F_o1_form : Fld Z h0 o1 "com/example/netloom/netloom/xml/NetReader$OpenAnnotations" "form" "Lcom/example/netloom/netloom/xml/XmlGraphics$Form;" (.ref (w 0))) (F_o1_carries : Fld Z h0 o1 "com/example/netloom/netloom/xml/NetReader$OpenAnnotations" "carries" "Ljava/util/Set;" .null) (F_o1_graphicsCarried : Fld Z h0 o1 "com/example/netloom/netloom/xml/NetReader$OpenAnnotations" "graphicsCarried" "Z" (.int (0 : Int32))) (F_o1_graphics : Fld Z h0 o1 "com/example/netloom/netloom/xml/NetReader$OpenAnnotations" "graphics" "Lcom/example/netloom/netloom/net/Graphics;" .null) (E_o2 : Exa Z h0 o2 "java/lang/String") (gn_o3 : Z.heap.size ≤ o3) (lt_o3 : o3 < h0.size) (F_o2_value : Fld Z h0 o2 "java/lang/String" "value" "[B" (.ref o3)) (F_o2_coder : Fld Z h0 o2 "java/lang/String" "coder" "B" (.int (0 : Int32))) (V_o3 : Arv Z h0 o3 kc_o3 .byte (1 : Int32) [(.int t0)] (.int (0 : Int32))) (ne_o1_o2 : o1 ≠ o2) (ne_o1_o3 : o1 ≠ o3) (ne_o2_o3 : o2 ≠ o3) :
    MetFree l (⟨"com/example/netloom/netloom/xml/NetReader$OpenAnnotations", "carryGraphics", "()V"⟩ : MethodName) (head1 (Jvm.Cond.code (⟨"com/example/netloom/netloom/xml/NetReader$OpenAnnotations", "carryGraphics", "()V"⟩ : MethodName) prog_77_method_2_code 1 none :: ws) ({ frames := 0, cells := 0, slots := 0, locals := 0 } : Room)) (fun a U => a = #[(.ref o1)] ∧ Z.Warmed39 U.vm ∧ U.heap = h0) (fun _ _ _ _ _ => True) (fun _ U o U' => ∃ v L, o = .returned v ∧ Qd_10 Z w kk iw vw o1 o2 o3 t0 kc_o3 h0 Z.heap.size v U'.heap L ∧ FrameEnd U o U' L ({ frames := 0, cells := 0, slots := 0, locals := 0 } : Room).cells ({ frames := 0, cells := 0, slots := 0, locals := 0 } : Room).slots) := by
  have hN' := hN
  obtain ⟨hS0, hE0, hS1, hE1, hS2, hE2, hI0, hJ0, hR0, hRr0⟩ := hN'
  refine MetFree.of_bodySF (plainFor_of_name pn_3) hisR ?_
  intro p e s m args below meth c s₁ Bd hml0 hP hK
  obtain ⟨rfl, hZ, hh⟩ := hP
  have hx := Bd.exec
  have hby := Bd.bytes
  have hml : c.maxLocals = 1 := hml0
  have hown : s.vm.findClass "com/example/netloom/netloom/xml/NetReader$OpenAnnotations" = some m.cls := findClass_of_methodNamed Bd.named
  have hnm := (name_of_methodNamed Bd.named Bd.method).1
  have X0 : Stand p l e ({ frames := 0, cells := 0, slots := 0, locals := 0 } : Room) s m #[(.ref o1)] below meth c s₁ [] 0 0 := Stand.of_body Bd
  have e0 : s₁.heap = h0 := by rw [← hh, Bd.state]; rfl
  have N0 := Fr.nil Z.heap.size
  have pre0 : ∀ t, Steps p.tables e below (s₁.setTop (mkF m 0 #[.val (.ref o1)] [])) t → Steps p.tables e below (s₁.setTop (entryFrame m #[(.ref o1)] 1)) t := fun t k => castTop (ef_3 m (.ref o1) rfl) k
  have K0 : Keep h0 h0 [o1] := Keep.refl _ _
  obtain ⟨T1, h1, X1, e1, W1, st1⟩ := putFN X0 hx hZ hown (W hw 51 rfl) Via.refl e0 F_o1_graphicsCarried E_o1 (Or.inl (W hw 52 rfl)) (W hw 34 rfl) (ty := .boolean) (v' := (.int (1 : Int32))) (by decide) rfl rfl (g := (mkF m 2 #[.val (.ref o1)] [(.int (1 : Int32)), (.ref o1)])) rfl rfl (hb hby d_prog_77_method_2_code_2)
  have F_o1_graphicsCarried_v1 := F_o1_graphicsCarried.same W1
  have N1 := Fr.snoc X1 N0 gn_o1
  have E_o1_v1 := E_o1.wr W1
  have F_o1_owner_v1 := F_o1_owner.other W1 (Or.inr (sn_14 hw))
  have F_o1_form_v1 := F_o1_form.other W1 (Or.inr (sn_15 hw))
  have F_o1_carries_v1 := F_o1_carries.other W1 (Or.inr (sn_16 hw))
  have F_o1_graphics_v1 := F_o1_graphics.other W1 (Or.inr (sn_17 hw))
  have E_o2_v1 := E_o2.wr W1
  have F_o2_value_v1 := F_o2_value.other W1 (Or.inl (Ne.symm ne_o1_o2))
  have F_o2_coder_v1 := F_o2_coder.other W1 (Or.inl (Ne.symm ne_o1_o2))
  have V_o3_v1 := V_o3.other W1 (Ne.symm ne_o1_o3)
  have O1 := O0.wr W1 gn_o1
  have K1 : Keep h0 h1 [o1] := K0.wr W1 (Or.inl (List.mem_of_getElem? (i := 0) rfl))
  obtain ⟨fs, hr, hrun, hended, hW, hsame⟩ := X1.leave (v := none) (fun _ => rfl)
  refine ⟨_, _, pre0 _ ?_, hrun, hended, _, _, rfl, ?_, ⟨_, rfl⟩, hW, hsame.mono (by decide) (by decide)⟩
  · show Steps p.tables e below (s₁.setTop (mkF m 0 #[.val (.ref o1)] [])) _
    refine XS.aloadN X0.here hx rfl (hb hby d_prog_77_method_2_code_0) rfl rfl ?_
    show Steps p.tables e below (s₁.setTop (mkF m 1 #[.val (.ref o1)] [(.ref o1)])) _
    refine XS.iconst X0.here hx rfl (hb hby d_prog_77_method_2_code_1) ?_
    show Steps p.tables e below (s₁.setTop (mkF m 2 #[.val (.ref o1)] [(.int (1 : Int32)), (.ref o1)])) _
    refine st1 _ ?_
    show Steps p.tables e below (T1.setTop (mkF m 5 #[.val (.ref o1)] [])) _
    exact X1.returnOut hx Bd.returns (hb hby d_prog_77_method_2_code_5) hr
  · show Qd_10 Z w kk iw vw o1 o2 o3 t0 kc_o3 h0 Z.heap.size _ T1.heap _
    rw [e1]
    exact ⟨rfl, N1, K1, E_o1_v1, F_o1_owner_v1, F_o1_form_v1, F_o1_carries_v1, F_o1_graphicsCarried_v1, F_o1_graphics_v1⟩
set_option maxRecDepth 65536 in
set_option maxHeartbeats 40000000 in
theorem rm_41 (l : Launch) (Z : State) (a0 : Array Value) (hw : ∀ d ∈ tables_1, d.before a0 Z = true) (w : Nat → Addr) (kk : Nat → ClassId) (iw : Nat → Int32) (vw : Nat → Value) (hN : Wd Z w kk iw vw) (ws : List Jvm.Cond) (o1 : Addr) (o2 : Addr) (o3 : Addr) (t0 : Int32) (kc_o3 : ClassId) (h0 : Heap) (O0 : Old Z Z.heap.size h0) (gn_o1 : Z.heap.size ≤ o1) (lt_o1 : o1 < h0.size) (E_o1 : Exa Z h0 o1 "com/example/netloom/netloom/xml/NetReader$OpenAnnotations") (gn_o2 : Z.heap.size ≤ o2) (lt_o2 : o2 < h0.size) (F_o1_owner : Fld Z h0 o1 "com/example/netloom/netloom/xml/NetReader$OpenAnnotations" "owner" "Ljava/lang/String;" (.ref o2)) (F_o1_form : Fld Z h0 o1 "com/example/netloom/netloom/xml/NetReader$OpenAnnotations" "form" "Lcom/example/netloom/netloom/xml/XmlGraphics$Form;" (.ref (w 0))) (F_o1_carries : Fld Z h0 o1 "com/example/netloom/netloom/xml/NetReader$OpenAnnotations" "carries" "Ljava/util/Set;" .null) (F_o1_graphicsCarried : Fld Z h0 o1 "com/example/netloom/netloom/xml/NetReader$OpenAnnotations" "graphicsCarried" "Z" (.int (1 : Int32))) (F_o1_graphics : Fld Z h0 o1 "com/example/netloom/netloom/xml/NetReader$OpenAnnotations" "graphics" "Lcom/example/netloom/netloom/net/Graphics;" .null) (E_o2 : Exa Z h0 o2 "java/lang/String") (gn_o3 : Z.heap.size ≤ o3) (lt_o3 : o3 < h0.size) (F_o2_value : Fld Z h0 o2 "java/lang/String" "value" "[B" (.ref o3)) (F_o2_coder : Fld Z h0 o2 "java/lang/String" "coder" "B" (.int (0 : Int32))) (V_o3 : Arv Z h0 o3 kc_o3 .byte (1 : Int32) [(.int t0)] (.int (0 : Int32))) (ne_o1_o2 : o1 ≠ o2) (ne_o1_o3 : o1 ≠ o3) (ne_o2_o3 : o2 ≠ o3) :
    MetFree l (⟨"com/example/netloom/netloom/xml/NetReader$OpenAnnotations", "carriesGraphics", "()Z"⟩ : MethodName) (head1 (Jvm.Cond.code (⟨"com/example/netloom/netloom/xml/NetReader$OpenAnnotations", "carriesGraphics", "()Z"⟩ : MethodName) prog_77_method_3_code 1 (some .boolean) :: ws) ({ frames := 0, cells := 0, slots := 0, locals := 0 } : Room)) (fun a U => a = #[(.ref o1)] ∧ Z.Warmed39 U.vm ∧ U.heap = h0) (fun _ _ _ _ _ => True) (fun _ U o U' => ∃ v L, o = .returned v ∧ OQ (some (.int (0 : Int32))) h0 Z.heap.size v U'.heap L ∧ FrameEnd U o U' L ({ frames := 0, cells := 0, slots := 0, locals := 0 } : Room).cells ({ frames := 0, cells := 0, slots := 0, locals := 0 } : Room).slots) := by
  have hN' := hN
  obtain ⟨hS0, hE0, hS1, hE1, hS2, hE2, hI0, hJ0, hR0, hRr0⟩ := hN'
  refine MetFree.of_bodySF (plainFor_of_name pn_3) hisR ?_
  intro p e s m args below meth c s₁ Bd hml0 hP hK
  obtain ⟨rfl, hZ, hh⟩ := hP
  have hx := Bd.exec
  have hby := Bd.bytes
  have hml : c.maxLocals = 1 := hml0
  have hown : s.vm.findClass "com/example/netloom/netloom/xml/NetReader$OpenAnnotations" = some m.cls := findClass_of_methodNamed Bd.named
  have hnm := (name_of_methodNamed Bd.named Bd.method).1
  have X0 : Stand p l e ({ frames := 0, cells := 0, slots := 0, locals := 0 } : Room) s m #[(.ref o1)] below meth c s₁ [] 0 0 := Stand.of_body Bd
  have e0 : s₁.heap = h0 := by rw [← hh, Bd.state]; rfl
  have N0 := Fr.nil Z.heap.size
  have pre0 : ∀ t, Steps p.tables e below (s₁.setTop (mkF m 0 #[.val (.ref o1)] [])) t → Steps p.tables e below (s₁.setTop (entryFrame m #[(.ref o1)] 1)) t := fun t k => castTop (ef_3 m (.ref o1) rfl) k
  obtain ⟨T1, X1, e1, st1⟩ := getF X0 hx hZ hown (host := "") (Or.inl (W hw 51 rfl)) Via.refl e0 F_o1_graphicsCarried (g := (mkF m 1 #[.val (.ref o1)] [(.ref o1)])) rfl rfl (hb hby d_prog_77_method_3_code_1)
  obtain ⟨T2, X2, e2, st2⟩ := getF X1 hx hZ hown (host := "") (Or.inl (W hw 42 rfl)) Via.refl e1 F_o1_form (g := (mkF m 8 #[.val (.ref o1)] [(.ref o1)])) rfl rfl (hb hby d_prog_77_method_3_code_8)
  obtain ⟨fs, hr, hrun, hended, hW, hsame⟩ := X2.leave (v := some (.int (0 : Int32))) (fun h => by rw [Bd.returns] at h; cases h)
  refine ⟨_, _, pre0 _ ?_, hrun, hended, _, _, rfl, ?_, ⟨_, rfl⟩, hW, hsame.mono (by decide) (by decide)⟩
  · show Steps p.tables e below (s₁.setTop (mkF m 0 #[.val (.ref o1)] [])) _
    refine XS.aloadN X0.here hx rfl (hb hby d_prog_77_method_3_code_0) rfl rfl ?_
    show Steps p.tables e below (s₁.setTop (mkF m 1 #[.val (.ref o1)] [(.ref o1)])) _
    refine st1 _ ?_
    show Steps p.tables e below (T1.setTop (mkF m 4 #[.val (.ref o1)] [(.int (1 : Int32))])) _
    refine XS.ifNo X1.here hx rfl (hb hby d_prog_77_method_3_code_4) rfl ((if0 _ _).trans (feq (by decide : ¬ ((1 : Int32) = (0 : Int32)))).1) ?_
    show Steps p.tables e below (T1.setTop (mkF m 7 #[.val (.ref o1)] [])) _
    refine XS.aloadN X1.here hx rfl (hb hby d_prog_77_method_3_code_7) rfl rfl ?_
    show Steps p.tables e below (T1.setTop (mkF m 8 #[.val (.ref o1)] [(.ref o1)])) _
    refine st2 _ ?_
    show Steps p.tables e below (T2.setTop (mkF m 11 #[.val (.ref o1)] [(.ref (w 0))])) _
    refine XS.ifnonnullYes X2.here hx rfl (pc0 := 11) (pc' := 25) rfl (hb hby d_prog_77_method_3_code_11) rfl (by decide) (by decide) ?_
    show Steps p.tables e below (T2.setTop (mkF m 25 #[.val (.ref o1)] [])) _
    refine XS.iconst X2.here hx rfl (hb hby d_prog_77_method_3_code_25) ?_
    show Steps p.tables e below (T2.setTop (mkF m 26 #[.val (.ref o1)] [(.int (0 : Int32))])) _
    exact retN X2 hx (t := .boolean) Bd.returns (by simp) (hb hby d_prog_77_method_3_code_26) hr
  · show OQ (some (.int (0 : Int32))) h0 Z.heap.size _ T2.heap _
    rw [e2]
    exact ⟨rfl, N0, rfl⟩
set_option maxRecDepth 65536 in
set_option maxHeartbeats 40000000 in
theorem law_42 (l : Launch) (Z : State) (a0 : Array Value) (hw : ∀ d ∈ tables_1, d.before a0 Z = true) (w : Nat → Addr) (kk : Nat → ClassId) (iw : Nat → Int32) (vw : Nat → Value) (hN : Wd Z w kk iw vw) (ws : List Jvm.Cond) (p0 : Int32) (p1 : Int32) (p2 : Int32) (h0 : Heap) (O0 : Old Z Z.heap.size h0) (hp0 : (p1 &&& (3 : Int32)) = (3 : Int32)) (hp1 : ¬ ((255 : Int32) < ((p2 &&& (255 : Int32)).toUInt32.toUInt16.toUInt32.toInt32))) (hp2 : (p0 &&& (1 : Int32)) = (1 : Int32)) (hp3 : (p0 &&& (2 : Int32)) = (0 : Int32)) :
    MetFree l x (head1 (Jvm.Cond.code x code maxLocals ret :: ws) room_1) (fun a U => a = #[(.int p0), (.int p1), (.int p2)] ∧ Z.Warmed39 U.vm ∧ U.heap = h0) (fun _ _ _ _ _ => True) (fun _ U o U' => ∃ v L, o = .returned v ∧ OL (some (.int (1 : Int32))) Z.heap.size v U'.heap L ∧ FrameEnd U o U' L 16 128) := by
  have hN' := hN
  obtain ⟨hS0, hE0, hS1, hE1, hS2, hE2, hI0, hJ0, hR0, hRr0⟩ := hN'
  refine MetFree.of_bodySF (plainFor_of_name pn_0) hisR ?_
  intro p e s m args below meth c s₁ Bd hml0 hP hK
  obtain ⟨rfl, hZ, hh⟩ := hP
  have hx := Bd.exec
  have hby := Bd.bytes
  have hml : c.maxLocals = 12 := hml0
  have hown : s.vm.findClass "com/example/netloom/netloom/xml/OpenAnnotationsCarriesGraphicsPinLaw" = some m.cls := findClass_of_methodNamed Bd.named
  have hnm := (name_of_methodNamed Bd.named Bd.method).1
  have X0 : Stand p l e room_1 s m #[(.int p0), (.int p1), (.int p2)] below meth c s₁ [] 0 0 := Stand.of_body Bd
  have e0 : s₁.heap = h0 := by rw [← hh, Bd.state]; rfl
  have N0 := Fr.nil Z.heap.size
  have pre0 : ∀ t, Steps p.tables e below (s₁.setTop (mkF m 0 #[.val (.int p0), .val (.int p1), .val (.int p2), .unset, .unset, .unset, .unset, .unset, .unset, .unset, .unset, .unset] [])) t → Steps p.tables e below (s₁.setTop (entryFrame m #[(.int p0), (.int p1), (.int p2)] maxLocals)) t := fun t k => castTop (ef_4 m (.int p0) rfl (.int p1) rfl (.int p2) rfl) k
  obtain ⟨_, _, ⟨T1, L1, k1, n1⟩, -, X1, ⟨Lc1, hQ1, l1, y1, z1⟩, st1⟩ := Jvm.LawKit.callS X0 hx (y := (⟨"com/example/netloom/netloom/xml/OpenAnnotationsCarriesGraphicsPinLaw", "pick", "(I)Lcom/example/netloom/netloom/xml/XmlGraphics$Form;"⟩ : MethodName)) hown (mvT hZ (W hw 0 rfl)) (mvT hZ (W hw 1 rfl)) (mvT hZ (W hw 2 rfl)) (mvT hZ (W hw 3 rfl)) (by decide) (backOf (W := 0) (rm_35 l Z a0 hw w kk iw vw hN [] h0 O0) hZ (W hw 3 rfl) (W hw 2 rfl) (by decide) (by decide)) (g := (mkF m 3 #[.val (.int p0), .val (.int p1), .val (.int p2), .unset, .unset, .unset, .unset, .unset, .unset, .unset, .unset, .unset] [(.int (3 : Int32))])) rfl (by rw [hml]; rfl) (argsL := [(.int (3 : Int32))]) (rest := []) (lenOf pd_0 rfl) rfl (by show 2 * 0 + _ ≤ _; exact Nat.le_of_eq rfl) (hb hby at_3) (fun _ _ => ⟨rfl, e0, (by decide : 0 + 0 ≤ _), (by decide : 0 + 0 ≤ _)⟩)
  dsimp only [Pt.U, Pt.locs, Pt.cells, Pt.slots] at X1 l1 y1 z1 st1 hQ1
  subst l1 y1 z1
  obtain ⟨rfl, N1q, e1⟩ := hQ1
  have N1 := Fr.app N0 N1q
  obtain ⟨_, _, ⟨T2, L2, k2, n2⟩, -, X2, ⟨Lc2, hQ2, l2, y2, z2⟩, st2⟩ := Jvm.LawKit.callS X1 hx (y := (⟨"java/lang/String", "valueOf", "(C)Ljava/lang/String;"⟩ : MethodName)) hown (mvT hZ (W hw 7 rfl)) (mvT hZ (W hw 8 rfl)) (mvT hZ (W hw 9 rfl)) (mvT hZ (W hw 10 rfl)) (by decide) (backOf (W := 0) (rm_5 l Z a0 hw w kk iw vw hN [] ((p2 &&& (255 : Int32)).toUInt32.toUInt16.toUInt32.toInt32) h0 O0 hp1) hZ (W hw 10 rfl) (W hw 9 rfl) (by decide) (by decide)) (g := (mkF m 13 #[.val (.int p0), .val (.int p1), .val (.int p2), .val (.ref (w 0)), .unset, .unset, .unset, .unset, .unset, .unset, .unset, .unset] [(.int ((p2 &&& (255 : Int32)).toUInt32.toUInt16.toUInt32.toInt32))])) rfl (by rw [hml]; rfl) (argsL := [(.int ((p2 &&& (255 : Int32)).toUInt32.toUInt16.toUInt32.toInt32))]) (rest := []) (lenOf pd_4 rfl) rfl (by show 2 * 0 + _ ≤ _; exact Nat.le_of_eq rfl) (hb hby at_13) (fun _ _ => ⟨rfl, e1, (by decide : 0 + 2 ≤ _), (by decide : 0 + 5 ≤ _)⟩)
  dsimp only [Pt.U, Pt.locs, Pt.cells, Pt.slots] at X2 l2 y2 z2 st2 hQ2
  subst l2 y2 z2
  obtain ⟨b2_0, b2_1, kb2_0, rfl, N2q, Kq2, tk2_0, tk2_1, tk2_2, tk2_3, tk2_4, tk2_5, tk2_6⟩ := hQ2
  have N2 := Fr.app N1 N2q
  have gn_b2_0 : Z.heap.size ≤ b2_0 := Nat.le_trans O0.2.1 tk2_0
  have gn_b2_1 : Z.heap.size ≤ b2_1 := Nat.le_trans O0.2.1 tk2_1
  have O2 := O0.keep Kq2 all0
  obtain ⟨T3, h3, X3, e3, E3, A3, D3, -, st3⟩ := newO X2 hx hZ hown (W hw 33 rfl) (W hw 34 rfl) (W hw 35 rfl) rfl (g := (mkF m 18 #[.val (.int p0), .val (.int p1), .val (.int p2), .val (.ref (w 0)), .val (.ref b2_0), .unset, .unset, .unset, .unset, .unset, .unset, .unset] [])) rfl (hb hby at_18) (by decide) (by decide)
  obtain ⟨b3, g3⟩ : ∃ z, z = T2.heap.size := ⟨_, rfl⟩
  rw [← g3] at A3 st3 D3
  have gn_b3 : Z.heap.size ≤ b3 := Nat.le_trans O2.2.1 (Nat.le_of_eq g3.symm)
  have ne_b2_1_b3 : b2_1 ≠ b3 := Nat.ne_of_lt (Nat.lt_of_lt_of_le tk2_6.lt (Nat.le_of_eq g3.symm))
  have ne_b2_0_b3 : b2_0 ≠ b3 := Nat.ne_of_lt (Nat.lt_of_lt_of_le tk2_3.lt (Nat.le_of_eq g3.symm))
  have tk2_3_v3 := tk2_3.ext E3
  have tk2_4_v3 := tk2_4.ext E3
  have tk2_5_v3 := tk2_5.ext E3
  have tk2_6_v3 := tk2_6.ext E3
  have O3 := O2.ext E3
  have E_b3_v3 := A3
  have F_b3_owner_v3 : Fld Z h3 b3 "com/example/netloom/netloom/xml/NetReader$OpenAnnotations" "owner" "Ljava/lang/String;" .null := D3 (Or.inr (W hw 41 rfl)) (ty := (.object "java/lang/String")) (by decide)
  have F_b3_form_v3 : Fld Z h3 b3 "com/example/netloom/netloom/xml/NetReader$OpenAnnotations" "form" "Lcom/example/netloom/netloom/xml/XmlGraphics$Form;" .null := D3 (Or.inr (W hw 43 rfl)) (ty := (.object "com/example/netloom/netloom/xml/XmlGraphics$Form")) (by decide)
  have F_b3_carries_v3 : Fld Z h3 b3 "com/example/netloom/netloom/xml/NetReader$OpenAnnotations" "carries" "Ljava/util/Set;" .null := D3 (Or.inr (W hw 45 rfl)) (ty := (.object "java/util/Set")) (by decide)
  have F_b3_graphicsCarried_v3 : Fld Z h3 b3 "com/example/netloom/netloom/xml/NetReader$OpenAnnotations" "graphicsCarried" "Z" (.int (0 : Int32)) := D3 (Or.inl (W hw 52 rfl)) (ty := .boolean) (by decide)
  have F_b3_graphics_v3 : Fld Z h3 b3 "com/example/netloom/netloom/xml/NetReader$OpenAnnotations" "graphics" "Lcom/example/netloom/netloom/net/Graphics;" .null := D3 (Or.inl (W hw 59 rfl)) (ty := (.object "com/example/netloom/netloom/net/Graphics")) (by decide)
  obtain ⟨_, _, ⟨T4, L4, k4, n4⟩, -, X4, ⟨Lc4, hQ4, l4, y4, z4⟩, st4⟩ := X3.specialBack hx (y := (⟨"com/example/netloom/netloom/xml/NetReader$OpenAnnotations", "<init>", "(Ljava/lang/String;Lcom/example/netloom/netloom/xml/XmlGraphics$Form;Ljava/util/Set;)V"⟩ : MethodName)) rfl hown (mvT hZ (W hw 36 rfl)) (mvT hZ (W hw 37 rfl)) (mvT hZ (W hw 38 rfl)) (by decide) (backOf (W := 1) (rm_36 l Z a0 hw w kk iw vw hN [] b3 b2_0 b2_1 ((((p2 &&& (255 : Int32)).toUInt32.toUInt16.toUInt32.toInt32).toInt8.toInt32).toInt8.toInt32) kb2_0 h3 O3 gn_b3 E_b3_v3.lt gn_b2_0 tk2_3_v3.lt E_b3_v3 F_b3_owner_v3 F_b3_form_v3 F_b3_carries_v3 F_b3_graphicsCarried_v3 F_b3_graphics_v3 tk2_3_v3 gn_b2_1 tk2_6_v3.lt tk2_4_v3 tk2_5_v3 tk2_6_v3 (Ne.symm ne_b2_0_b3) (Ne.symm ne_b2_1_b3) tk2_2) hZ (W hw 38 rfl) (W hw 35 rfl) (by decide) (by decide)) (g := (mkF m 26 #[.val (.int p0), .val (.int p1), .val (.int p2), .val (.ref (w 0)), .val (.ref b2_0), .unset, .unset, .unset, .unset, .unset, .unset, .unset] [.null, (.ref (w 0)), (.ref b2_0), (.ref b3), (.ref b3)])) rfl (by rw [hml]; rfl) (Steps.refl _) (a := b3) (argsL := [(.ref b2_0), (.ref (w 0)), .null]) (rest := [(.ref b3)]) (lenOf pd_5 rfl) rfl (by show 2 * 0 + _ ≤ _; exact Nat.le_of_eq rfl) (hb hby at_26) (fun _ _ => ⟨rfl, e3, (by decide : 3 + 0 ≤ _), (by decide : 16 + 0 ≤ _)⟩)
  dsimp only [Pt.U, Pt.locs, Pt.cells, Pt.slots] at X4 l4 y4 z4 st4 hQ4
  subst l4 y4 z4
  obtain ⟨rfl, N4q, Kq4, tk4_0, tk4_1, tk4_2, tk4_3, tk4_4, tk4_5⟩ := hQ4
  have N4 := Fr.app N2 N4q
  have tk2_3_v4 := tk2_3_v3.keep Kq4
  have tk2_4_v4 := tk2_4_v3.keep Kq4 (ninS ne_b2_0_b3 nin0)
  have tk2_5_v4 := tk2_5_v3.keep Kq4 (ninS ne_b2_0_b3 nin0)
  have tk2_6_v4 := tk2_6_v3.keep Kq4 (ninS ne_b2_1_b3 nin0)
  have E_b3_v4 := E_b3_v3.keep Kq4
  have O4 := O3.keep Kq4 (allS gn_b3 all0)
  obtain ⟨cq5, kq5, q5a, q5b, q5c⟩ := isOf hZ rfl tk4_0
  obtain ⟨_, _, ⟨T5, L5, k5, n5⟩, -, X5, ⟨Lc5, hQ5, l5, y5, z5⟩, st5⟩ := X4.virtualBack hx (y := (⟨"com/example/netloom/netloom/xml/NetReader$OpenAnnotations", "carriesGraphics", "()Z"⟩ : MethodName)) (z := (⟨"com/example/netloom/netloom/xml/NetReader$OpenAnnotations", "carriesGraphics", "()Z"⟩ : MethodName)) hown (mvT hZ (W hw 46 rfl)) (mvT hZ (W hw 47 rfl)) (notFace_of_selects (args := #[]) (mvT hZ (W hw 49 rfl))) (mvT hZ (W hw 49 rfl)) (mvT hZ (W hw 48 rfl)) (by decide) (backOf (W := 0) (rm_37 l Z a0 hw w kk iw vw hN [] b3 b2_0 b2_1 ((((p2 &&& (255 : Int32)).toUInt32.toUInt16.toUInt32.toInt32).toInt8.toInt32).toInt8.toInt32) kb2_0 T4.heap O4 gn_b3 tk4_0.lt tk4_0 gn_b2_0 tk2_3_v4.lt tk4_1 tk4_2 tk4_3 tk4_4 tk4_5 tk2_3_v4 gn_b2_1 tk2_6_v4.lt tk2_4_v4 tk2_5_v4 tk2_6_v4 (Ne.symm ne_b2_0_b3) (Ne.symm ne_b2_1_b3) tk2_2) hZ (W hw 50 rfl) (W hw 35 rfl) (by decide) (by decide)) q5a q5c (g := (mkF m 33 #[.val (.int p0), .val (.int p1), .val (.int p2), .val (.ref (w 0)), .val (.ref b2_0), .val (.ref b3), .unset, .unset, .unset, .unset, .unset, .unset] [(.ref b3)])) rfl (by rw [hml]; rfl) (Steps.refl _) (argsL := []) (rest := []) (lenOf pd_6 rfl) rfl (by show 2 * 0 + _ ≤ _; exact Nat.le_of_eq rfl) (hb hby at_33) (fun _ _ => ⟨rfl, rfl, (by decide : 3 + 0 ≤ _), (by decide : 16 + 0 ≤ _)⟩)
  dsimp only [Pt.U, Pt.locs, Pt.cells, Pt.slots] at X5 l5 y5 z5 st5 hQ5
  subst l5 y5 z5
  obtain ⟨rfl, N5q, e5⟩ := hQ5
  have N5 := Fr.app N4 N5q
  obtain ⟨cq6, kq6, q6a, q6b, q6c⟩ := isOf hZ e5 tk4_0
  obtain ⟨_, _, ⟨T6, L6, k6, n6⟩, -, X6, ⟨Lc6, hQ6, l6, y6, z6⟩, st6⟩ := X5.virtualBack hx (y := (⟨"com/example/netloom/netloom/xml/NetReader$OpenAnnotations", "carryGraphics", "()V"⟩ : MethodName)) (z := (⟨"com/example/netloom/netloom/xml/NetReader$OpenAnnotations", "carryGraphics", "()V"⟩ : MethodName)) hown (mvT hZ (W hw 53 rfl)) (mvT hZ (W hw 54 rfl)) (notFace_of_selects (args := #[]) (mvT hZ (W hw 56 rfl))) (mvT hZ (W hw 56 rfl)) (mvT hZ (W hw 55 rfl)) (by decide) (backOf (W := 0) (rm_40 l Z a0 hw w kk iw vw hN [] b3 b2_0 b2_1 ((((p2 &&& (255 : Int32)).toUInt32.toUInt16.toUInt32.toInt32).toInt8.toInt32).toInt8.toInt32) kb2_0 T4.heap O4 gn_b3 tk4_0.lt tk4_0 gn_b2_0 tk2_3_v4.lt tk4_1 tk4_2 tk4_3 tk4_4 tk4_5 tk2_3_v4 gn_b2_1 tk2_6_v4.lt tk2_4_v4 tk2_5_v4 tk2_6_v4 (Ne.symm ne_b2_0_b3) (Ne.symm ne_b2_1_b3) tk2_2) hZ (W hw 57 rfl) (W hw 35 rfl) (by decide) (by decide)) q6a q6c (g := (mkF m 71 #[.val (.int p0), .val (.int p1), .val (.int p2), .val (.ref (w 0)), .val (.ref b2_0), .val (.ref b3), .val (.int (0 : Int32)), .val (.int (1 : Int32)), .val (.int (0 : Int32)), .unset, .unset, .unset] [(.ref b3)])) rfl (by rw [hml]; rfl) (Steps.refl _) (argsL := []) (rest := []) (lenOf pd_7 rfl) rfl (by show 2 * 0 + _ ≤ _; exact Nat.le_of_eq rfl) (hb hby at_71) (fun _ _ => ⟨rfl, e5, (by decide : 3 + 0 ≤ _), (by decide : 16 + 0 ≤ _)⟩)
  dsimp only [Pt.U, Pt.locs, Pt.cells, Pt.slots] at X6 l6 y6 z6 st6 hQ6
  subst l6 y6 z6
  obtain ⟨rfl, N6q, Kq6, tk6_0, tk6_1, tk6_2, tk6_3, tk6_4, tk6_5⟩ := hQ6
  have N6 := Fr.app N5 N6q
  have tk2_3_v6 := tk2_3_v4.keep Kq6
  have tk2_4_v6 := tk2_4_v4.keep Kq6 (ninS ne_b2_0_b3 nin0)
  have tk2_5_v6 := tk2_5_v4.keep Kq6 (ninS ne_b2_0_b3 nin0)
  have tk2_6_v6 := tk2_6_v4.keep Kq6 (ninS ne_b2_1_b3 nin0)
  have tk4_0_v6 := tk4_0.keep Kq6
  have O6 := O4.keep Kq6 (allS gn_b3 all0)
  obtain ⟨cq7, kq7, q7a, q7b, q7c⟩ := isOf hZ rfl tk6_0
  obtain ⟨_, _, ⟨T7, L7, k7, n7⟩, -, X7, ⟨Lc7, hQ7, l7, y7, z7⟩, st7⟩ := X6.virtualBack hx (y := (⟨"com/example/netloom/netloom/xml/NetReader$OpenAnnotations", "carriesGraphics", "()Z"⟩ : MethodName)) (z := (⟨"com/example/netloom/netloom/xml/NetReader$OpenAnnotations", "carriesGraphics", "()Z"⟩ : MethodName)) hown (mvT hZ (W hw 46 rfl)) (mvT hZ (W hw 47 rfl)) (notFace_of_selects (args := #[]) (mvT hZ (W hw 49 rfl))) (mvT hZ (W hw 49 rfl)) (mvT hZ (W hw 48 rfl)) (by decide) (backOf (W := 0) (rm_41 l Z a0 hw w kk iw vw hN [] b3 b2_0 b2_1 ((((p2 &&& (255 : Int32)).toUInt32.toUInt16.toUInt32.toInt32).toInt8.toInt32).toInt8.toInt32) kb2_0 T6.heap O6 gn_b3 tk6_0.lt tk6_0 gn_b2_0 tk2_3_v6.lt tk6_1 tk6_2 tk6_3 tk6_4 tk6_5 tk2_3_v6 gn_b2_1 tk2_6_v6.lt tk2_4_v6 tk2_5_v6 tk2_6_v6 (Ne.symm ne_b2_0_b3) (Ne.symm ne_b2_1_b3) tk2_2) hZ (W hw 50 rfl) (W hw 35 rfl) (by decide) (by decide)) q7a q7c (g := (mkF m 86 #[.val (.int p0), .val (.int p1), .val (.int p2), .val (.ref (w 0)), .val (.ref b2_0), .val (.ref b3), .val (.int (0 : Int32)), .val (.int (1 : Int32)), .val (.int (0 : Int32)), .unset, .unset, .unset] [(.ref b3)])) rfl (by rw [hml]; rfl) (Steps.refl _) (argsL := []) (rest := []) (lenOf pd_6 rfl) rfl (by show 2 * 0 + _ ≤ _; exact Nat.le_of_eq rfl) (hb hby at_86) (fun _ _ => ⟨rfl, rfl, (by decide : 3 + 0 ≤ _), (by decide : 16 + 0 ≤ _)⟩)
  dsimp only [Pt.U, Pt.locs, Pt.cells, Pt.slots] at X7 l7 y7 z7 st7 hQ7
  subst l7 y7 z7
  obtain ⟨rfl, N7q, e7⟩ := hQ7
  have N7 := Fr.app N6 N7q
  obtain ⟨cq8, kq8, q8a, q8b, q8c⟩ := isOf hZ e7 tk6_0
  obtain ⟨_, _, ⟨T8, L8, k8, n8⟩, -, X8, ⟨Lc8, hQ8, l8, y8, z8⟩, st8⟩ := X7.virtualBack hx (y := (⟨"com/example/netloom/netloom/xml/NetReader$OpenAnnotations", "carriesGraphics", "()Z"⟩ : MethodName)) (z := (⟨"com/example/netloom/netloom/xml/NetReader$OpenAnnotations", "carriesGraphics", "()Z"⟩ : MethodName)) hown (mvT hZ (W hw 46 rfl)) (mvT hZ (W hw 47 rfl)) (notFace_of_selects (args := #[]) (mvT hZ (W hw 49 rfl))) (mvT hZ (W hw 49 rfl)) (mvT hZ (W hw 48 rfl)) (by decide) (backOf (W := 0) (rm_41 l Z a0 hw w kk iw vw hN [] b3 b2_0 b2_1 ((((p2 &&& (255 : Int32)).toUInt32.toUInt16.toUInt32.toInt32).toInt8.toInt32).toInt8.toInt32) kb2_0 T6.heap O6 gn_b3 tk6_0.lt tk6_0 gn_b2_0 tk2_3_v6.lt tk6_1 tk6_2 tk6_3 tk6_4 tk6_5 tk2_3_v6 gn_b2_1 tk2_6_v6.lt tk2_4_v6 tk2_5_v6 tk2_6_v6 (Ne.symm ne_b2_0_b3) (Ne.symm ne_b2_1_b3) tk2_2) hZ (W hw 50 rfl) (W hw 35 rfl) (by decide) (by decide)) q8a q8c (g := (mkF m 93 #[.val (.int p0), .val (.int p1), .val (.int p2), .val (.ref (w 0)), .val (.ref b2_0), .val (.ref b3), .val (.int (0 : Int32)), .val (.int (1 : Int32)), .val (.int (0 : Int32)), .val (.int (0 : Int32)), .unset, .unset] [(.ref b3)])) rfl (by rw [hml]; rfl) (Steps.refl _) (argsL := []) (rest := []) (lenOf pd_6 rfl) rfl (by show 2 * 0 + _ ≤ _; exact Nat.le_of_eq rfl) (hb hby at_93) (fun _ _ => ⟨rfl, e7, (by decide : 3 + 0 ≤ _), (by decide : 16 + 0 ≤ _)⟩)
  dsimp only [Pt.U, Pt.locs, Pt.cells, Pt.slots] at X8 l8 y8 z8 st8 hQ8
  subst l8 y8 z8
  obtain ⟨rfl, N8q, e8⟩ := hQ8
  have N8 := Fr.app N7 N8q
  obtain ⟨fs, hr, hrun, hended, hW, hsame⟩ := X8.leave (v := some (.int (1 : Int32))) (fun h => by rw [Bd.returns] at h; cases h)
  refine ⟨_, _, pre0 _ ?_, hrun, hended, _, _, rfl, ?_, ⟨_, rfl⟩, hW, hsame.mono (by decide) (by decide)⟩
  · show Steps p.tables e below (s₁.setTop (mkF m 0 #[.val (.int p0), .val (.int p1), .val (.int p2), .unset, .unset, .unset, .unset, .unset, .unset, .unset, .unset, .unset] [])) _
    refine XS.iloadN X0.here hx rfl (hb hby at_0) rfl ?_
    show Steps p.tables e below (s₁.setTop (mkF m 1 #[.val (.int p0), .val (.int p1), .val (.int p2), .unset, .unset, .unset, .unset, .unset, .unset, .unset, .unset, .unset] [(.int p1)])) _
    refine XS.iconst X0.here hx rfl (hb hby at_1) ?_
    show Steps p.tables e below (s₁.setTop (mkF m 2 #[.val (.int p0), .val (.int p1), .val (.int p2), .unset, .unset, .unset, .unset, .unset, .unset, .unset, .unset, .unset] [(.int (3 : Int32)), (.int p1)])) _
    refine XS.iand X0.here hx rfl (hb hby at_2) rfl ?_
    show Steps p.tables e below (s₁.setTop (mkF m 3 #[.val (.int p0), .val (.int p1), .val (.int p2), .unset, .unset, .unset, .unset, .unset, .unset, .unset, .unset, .unset] [(.int (p1 &&& (3 : Int32)))])) _
    rw [hp0]
    show Steps p.tables e below (s₁.setTop (mkF m 3 #[.val (.int p0), .val (.int p1), .val (.int p2), .unset, .unset, .unset, .unset, .unset, .unset, .unset, .unset, .unset] [(.int (3 : Int32))])) _
    refine st1 _ ?_
    show Steps p.tables e below (T1.setTop (mkF m 6 #[.val (.int p0), .val (.int p1), .val (.int p2), .unset, .unset, .unset, .unset, .unset, .unset, .unset, .unset, .unset] [(.ref (w 0))])) _
    refine XS.astoreN X1.here hx rfl (hb hby at_6) rfl rfl (l' := #[.val (.int p0), .val (.int p1), .val (.int p2), .val (.ref (w 0)), .unset, .unset, .unset, .unset, .unset, .unset, .unset, .unset]) rfl ?_
    show Steps p.tables e below (T1.setTop (mkF m 7 #[.val (.int p0), .val (.int p1), .val (.int p2), .val (.ref (w 0)), .unset, .unset, .unset, .unset, .unset, .unset, .unset, .unset] [])) _
    refine XS.iloadN X1.here hx rfl (hb hby at_7) rfl ?_
    show Steps p.tables e below (T1.setTop (mkF m 8 #[.val (.int p0), .val (.int p1), .val (.int p2), .val (.ref (w 0)), .unset, .unset, .unset, .unset, .unset, .unset, .unset, .unset] [(.int p2)])) _
    refine XS.sipush X1.here hx rfl (hb hby at_8) ?_
    show Steps p.tables e below (T1.setTop (mkF m 11 #[.val (.int p0), .val (.int p1), .val (.int p2), .val (.ref (w 0)), .unset, .unset, .unset, .unset, .unset, .unset, .unset, .unset] [(.int (255 : Int32)), (.int p2)])) _
    refine XS.iand X1.here hx rfl (hb hby at_11) rfl ?_
    show Steps p.tables e below (T1.setTop (mkF m 12 #[.val (.int p0), .val (.int p1), .val (.int p2), .val (.ref (w 0)), .unset, .unset, .unset, .unset, .unset, .unset, .unset, .unset] [(.int (p2 &&& (255 : Int32)))])) _
    refine XS.i2c X1.here hx rfl (hb hby at_12) rfl ?_
    show Steps p.tables e below (T1.setTop (mkF m 13 #[.val (.int p0), .val (.int p1), .val (.int p2), .val (.ref (w 0)), .unset, .unset, .unset, .unset, .unset, .unset, .unset, .unset] [(.int ((p2 &&& (255 : Int32)).toUInt32.toUInt16.toUInt32.toInt32))])) _
    refine st2 _ ?_
    show Steps p.tables e below (T2.setTop (mkF m 16 #[.val (.int p0), .val (.int p1), .val (.int p2), .val (.ref (w 0)), .unset, .unset, .unset, .unset, .unset, .unset, .unset, .unset] [(.ref b2_0)])) _
    refine XS.astore X2.here hx rfl (hb hby at_16) rfl rfl (l' := #[.val (.int p0), .val (.int p1), .val (.int p2), .val (.ref (w 0)), .val (.ref b2_0), .unset, .unset, .unset, .unset, .unset, .unset, .unset]) rfl ?_
    show Steps p.tables e below (T2.setTop (mkF m 18 #[.val (.int p0), .val (.int p1), .val (.int p2), .val (.ref (w 0)), .val (.ref b2_0), .unset, .unset, .unset, .unset, .unset, .unset, .unset] [])) _
    refine st3 _ ?_
    show Steps p.tables e below (T3.setTop (mkF m 21 #[.val (.int p0), .val (.int p1), .val (.int p2), .val (.ref (w 0)), .val (.ref b2_0), .unset, .unset, .unset, .unset, .unset, .unset, .unset] [(.ref b3)])) _
    refine XS.dup X3.here hx rfl (hb hby at_21) rfl rfl ?_
    show Steps p.tables e below (T3.setTop (mkF m 22 #[.val (.int p0), .val (.int p1), .val (.int p2), .val (.ref (w 0)), .val (.ref b2_0), .unset, .unset, .unset, .unset, .unset, .unset, .unset] [(.ref b3), (.ref b3)])) _
    refine XS.aload X3.here hx rfl (hb hby at_22) rfl rfl ?_
    show Steps p.tables e below (T3.setTop (mkF m 24 #[.val (.int p0), .val (.int p1), .val (.int p2), .val (.ref (w 0)), .val (.ref b2_0), .unset, .unset, .unset, .unset, .unset, .unset, .unset] [(.ref b2_0), (.ref b3), (.ref b3)])) _
    refine XS.aloadN X3.here hx rfl (hb hby at_24) rfl rfl ?_
    show Steps p.tables e below (T3.setTop (mkF m 25 #[.val (.int p0), .val (.int p1), .val (.int p2), .val (.ref (w 0)), .val (.ref b2_0), .unset, .unset, .unset, .unset, .unset, .unset, .unset] [(.ref (w 0)), (.ref b2_0), (.ref b3), (.ref b3)])) _
    refine XS.aconstNull X3.here hx rfl (hb hby at_25) ?_
    show Steps p.tables e below (T3.setTop (mkF m 26 #[.val (.int p0), .val (.int p1), .val (.int p2), .val (.ref (w 0)), .val (.ref b2_0), .unset, .unset, .unset, .unset, .unset, .unset, .unset] [.null, (.ref (w 0)), (.ref b2_0), (.ref b3), (.ref b3)])) _
    refine st4.trans ?_
    show Steps p.tables e below (T4.setTop (mkF m 29 #[.val (.int p0), .val (.int p1), .val (.int p2), .val (.ref (w 0)), .val (.ref b2_0), .unset, .unset, .unset, .unset, .unset, .unset, .unset] [(.ref b3)])) _
    refine XS.astore X4.here hx rfl (hb hby at_29) rfl rfl (l' := #[.val (.int p0), .val (.int p1), .val (.int p2), .val (.ref (w 0)), .val (.ref b2_0), .val (.ref b3), .unset, .unset, .unset, .unset, .unset, .unset]) rfl ?_
    show Steps p.tables e below (T4.setTop (mkF m 31 #[.val (.int p0), .val (.int p1), .val (.int p2), .val (.ref (w 0)), .val (.ref b2_0), .val (.ref b3), .unset, .unset, .unset, .unset, .unset, .unset] [])) _
    refine XS.aload X4.here hx rfl (hb hby at_31) rfl rfl ?_
    show Steps p.tables e below (T4.setTop (mkF m 33 #[.val (.int p0), .val (.int p1), .val (.int p2), .val (.ref (w 0)), .val (.ref b2_0), .val (.ref b3), .unset, .unset, .unset, .unset, .unset, .unset] [(.ref b3)])) _
    refine st5.trans ?_
    show Steps p.tables e below (T5.setTop (mkF m 36 #[.val (.int p0), .val (.int p1), .val (.int p2), .val (.ref (w 0)), .val (.ref b2_0), .val (.ref b3), .unset, .unset, .unset, .unset, .unset, .unset] [(.int (0 : Int32))])) _
    refine XS.istore X5.here hx rfl (hb hby at_36) rfl (l' := #[.val (.int p0), .val (.int p1), .val (.int p2), .val (.ref (w 0)), .val (.ref b2_0), .val (.ref b3), .val (.int (0 : Int32)), .unset, .unset, .unset, .unset, .unset]) rfl ?_
    show Steps p.tables e below (T5.setTop (mkF m 38 #[.val (.int p0), .val (.int p1), .val (.int p2), .val (.ref (w 0)), .val (.ref b2_0), .val (.ref b3), .val (.int (0 : Int32)), .unset, .unset, .unset, .unset, .unset] [])) _
    refine XS.iloadN X5.here hx rfl (hb hby at_38) rfl ?_
    show Steps p.tables e below (T5.setTop (mkF m 39 #[.val (.int p0), .val (.int p1), .val (.int p2), .val (.ref (w 0)), .val (.ref b2_0), .val (.ref b3), .val (.int (0 : Int32)), .unset, .unset, .unset, .unset, .unset] [(.int p0)])) _
    refine XS.iconst X5.here hx rfl (hb hby at_39) ?_
    show Steps p.tables e below (T5.setTop (mkF m 40 #[.val (.int p0), .val (.int p1), .val (.int p2), .val (.ref (w 0)), .val (.ref b2_0), .val (.ref b3), .val (.int (0 : Int32)), .unset, .unset, .unset, .unset, .unset] [(.int (1 : Int32)), (.int p0)])) _
    refine XS.iand X5.here hx rfl (hb hby at_40) rfl ?_
    show Steps p.tables e below (T5.setTop (mkF m 41 #[.val (.int p0), .val (.int p1), .val (.int p2), .val (.ref (w 0)), .val (.ref b2_0), .val (.ref b3), .val (.int (0 : Int32)), .unset, .unset, .unset, .unset, .unset] [(.int (p0 &&& (1 : Int32)))])) _
    rw [hp2]
    show Steps p.tables e below (T5.setTop (mkF m 41 #[.val (.int p0), .val (.int p1), .val (.int p2), .val (.ref (w 0)), .val (.ref b2_0), .val (.ref b3), .val (.int (0 : Int32)), .unset, .unset, .unset, .unset, .unset] [(.int (1 : Int32))])) _
    refine XS.ifNo X5.here hx rfl (hb hby at_41) rfl ((if0 _ _).trans (feq (by decide : ¬ ((1 : Int32) = (0 : Int32)))).1) ?_
    show Steps p.tables e below (T5.setTop (mkF m 44 #[.val (.int p0), .val (.int p1), .val (.int p2), .val (.ref (w 0)), .val (.ref b2_0), .val (.ref b3), .val (.int (0 : Int32)), .unset, .unset, .unset, .unset, .unset] [])) _
    refine XS.iconst X5.here hx rfl (hb hby at_44) ?_
    show Steps p.tables e below (T5.setTop (mkF m 45 #[.val (.int p0), .val (.int p1), .val (.int p2), .val (.ref (w 0)), .val (.ref b2_0), .val (.ref b3), .val (.int (0 : Int32)), .unset, .unset, .unset, .unset, .unset] [(.int (1 : Int32))])) _
    refine XS.goto X5.here hx rfl (pc0 := 45) (pc' := 49) rfl (hb hby at_45) (by decide) (by decide) ?_
    show Steps p.tables e below (T5.setTop (mkF m 49 #[.val (.int p0), .val (.int p1), .val (.int p2), .val (.ref (w 0)), .val (.ref b2_0), .val (.ref b3), .val (.int (0 : Int32)), .unset, .unset, .unset, .unset, .unset] [(.int (1 : Int32))])) _
    refine XS.istore X5.here hx rfl (hb hby at_49) rfl (l' := #[.val (.int p0), .val (.int p1), .val (.int p2), .val (.ref (w 0)), .val (.ref b2_0), .val (.ref b3), .val (.int (0 : Int32)), .val (.int (1 : Int32)), .unset, .unset, .unset, .unset]) rfl ?_
    show Steps p.tables e below (T5.setTop (mkF m 51 #[.val (.int p0), .val (.int p1), .val (.int p2), .val (.ref (w 0)), .val (.ref b2_0), .val (.ref b3), .val (.int (0 : Int32)), .val (.int (1 : Int32)), .unset, .unset, .unset, .unset] [])) _
    refine XS.iloadN X5.here hx rfl (hb hby at_51) rfl ?_
    show Steps p.tables e below (T5.setTop (mkF m 52 #[.val (.int p0), .val (.int p1), .val (.int p2), .val (.ref (w 0)), .val (.ref b2_0), .val (.ref b3), .val (.int (0 : Int32)), .val (.int (1 : Int32)), .unset, .unset, .unset, .unset] [(.int p0)])) _
    refine XS.iconst X5.here hx rfl (hb hby at_52) ?_
    show Steps p.tables e below (T5.setTop (mkF m 53 #[.val (.int p0), .val (.int p1), .val (.int p2), .val (.ref (w 0)), .val (.ref b2_0), .val (.ref b3), .val (.int (0 : Int32)), .val (.int (1 : Int32)), .unset, .unset, .unset, .unset] [(.int (2 : Int32)), (.int p0)])) _
    refine XS.iand X5.here hx rfl (hb hby at_53) rfl ?_
    show Steps p.tables e below (T5.setTop (mkF m 54 #[.val (.int p0), .val (.int p1), .val (.int p2), .val (.ref (w 0)), .val (.ref b2_0), .val (.ref b3), .val (.int (0 : Int32)), .val (.int (1 : Int32)), .unset, .unset, .unset, .unset] [(.int (p0 &&& (2 : Int32)))])) _
    refine XS.ifYes X5.here hx rfl (pc0 := 54) (pc' := 61) rfl (hb hby at_54) rfl ((if0 _ _).trans (teq hp3).1) (by decide) (by decide) ?_
    show Steps p.tables e below (T5.setTop (mkF m 61 #[.val (.int p0), .val (.int p1), .val (.int p2), .val (.ref (w 0)), .val (.ref b2_0), .val (.ref b3), .val (.int (0 : Int32)), .val (.int (1 : Int32)), .unset, .unset, .unset, .unset] [])) _
    refine XS.iconst X5.here hx rfl (hb hby at_61) ?_
    show Steps p.tables e below (T5.setTop (mkF m 62 #[.val (.int p0), .val (.int p1), .val (.int p2), .val (.ref (w 0)), .val (.ref b2_0), .val (.ref b3), .val (.int (0 : Int32)), .val (.int (1 : Int32)), .unset, .unset, .unset, .unset] [(.int (0 : Int32))])) _
    refine XS.istore X5.here hx rfl (hb hby at_62) rfl (l' := #[.val (.int p0), .val (.int p1), .val (.int p2), .val (.ref (w 0)), .val (.ref b2_0), .val (.ref b3), .val (.int (0 : Int32)), .val (.int (1 : Int32)), .val (.int (0 : Int32)), .unset, .unset, .unset]) rfl ?_
    show Steps p.tables e below (T5.setTop (mkF m 64 #[.val (.int p0), .val (.int p1), .val (.int p2), .val (.ref (w 0)), .val (.ref b2_0), .val (.ref b3), .val (.int (0 : Int32)), .val (.int (1 : Int32)), .val (.int (0 : Int32)), .unset, .unset, .unset] [])) _
    refine XS.iload X5.here hx rfl (hb hby at_64) rfl ?_
    show Steps p.tables e below (T5.setTop (mkF m 66 #[.val (.int p0), .val (.int p1), .val (.int p2), .val (.ref (w 0)), .val (.ref b2_0), .val (.ref b3), .val (.int (0 : Int32)), .val (.int (1 : Int32)), .val (.int (0 : Int32)), .unset, .unset, .unset] [(.int (1 : Int32))])) _
    refine XS.ifNo X5.here hx rfl (hb hby at_66) rfl ((if0 _ _).trans (feq (by decide : ¬ ((1 : Int32) = (0 : Int32)))).1) ?_
    show Steps p.tables e below (T5.setTop (mkF m 69 #[.val (.int p0), .val (.int p1), .val (.int p2), .val (.ref (w 0)), .val (.ref b2_0), .val (.ref b3), .val (.int (0 : Int32)), .val (.int (1 : Int32)), .val (.int (0 : Int32)), .unset, .unset, .unset] [])) _
    refine XS.aload X5.here hx rfl (hb hby at_69) rfl rfl ?_
    show Steps p.tables e below (T5.setTop (mkF m 71 #[.val (.int p0), .val (.int p1), .val (.int p2), .val (.ref (w 0)), .val (.ref b2_0), .val (.ref b3), .val (.int (0 : Int32)), .val (.int (1 : Int32)), .val (.int (0 : Int32)), .unset, .unset, .unset] [(.ref b3)])) _
    refine st6.trans ?_
    show Steps p.tables e below (T6.setTop (mkF m 74 #[.val (.int p0), .val (.int p1), .val (.int p2), .val (.ref (w 0)), .val (.ref b2_0), .val (.ref b3), .val (.int (0 : Int32)), .val (.int (1 : Int32)), .val (.int (0 : Int32)), .unset, .unset, .unset] [])) _
    refine XS.iload X6.here hx rfl (hb hby at_74) rfl ?_
    show Steps p.tables e below (T6.setTop (mkF m 76 #[.val (.int p0), .val (.int p1), .val (.int p2), .val (.ref (w 0)), .val (.ref b2_0), .val (.ref b3), .val (.int (0 : Int32)), .val (.int (1 : Int32)), .val (.int (0 : Int32)), .unset, .unset, .unset] [(.int (0 : Int32))])) _
    refine XS.ifYes X6.here hx rfl (pc0 := 76) (pc' := 84) rfl (hb hby at_76) rfl ((if0 _ _).trans (teq (by decide : (0 : Int32) = (0 : Int32))).1) (by decide) (by decide) ?_
    show Steps p.tables e below (T6.setTop (mkF m 84 #[.val (.int p0), .val (.int p1), .val (.int p2), .val (.ref (w 0)), .val (.ref b2_0), .val (.ref b3), .val (.int (0 : Int32)), .val (.int (1 : Int32)), .val (.int (0 : Int32)), .unset, .unset, .unset] [])) _
    refine XS.aload X6.here hx rfl (hb hby at_84) rfl rfl ?_
    show Steps p.tables e below (T6.setTop (mkF m 86 #[.val (.int p0), .val (.int p1), .val (.int p2), .val (.ref (w 0)), .val (.ref b2_0), .val (.ref b3), .val (.int (0 : Int32)), .val (.int (1 : Int32)), .val (.int (0 : Int32)), .unset, .unset, .unset] [(.ref b3)])) _
    refine st7.trans ?_
    show Steps p.tables e below (T7.setTop (mkF m 89 #[.val (.int p0), .val (.int p1), .val (.int p2), .val (.ref (w 0)), .val (.ref b2_0), .val (.ref b3), .val (.int (0 : Int32)), .val (.int (1 : Int32)), .val (.int (0 : Int32)), .unset, .unset, .unset] [(.int (0 : Int32))])) _
    refine XS.istore X7.here hx rfl (hb hby at_89) rfl (l' := #[.val (.int p0), .val (.int p1), .val (.int p2), .val (.ref (w 0)), .val (.ref b2_0), .val (.ref b3), .val (.int (0 : Int32)), .val (.int (1 : Int32)), .val (.int (0 : Int32)), .val (.int (0 : Int32)), .unset, .unset]) rfl ?_
    show Steps p.tables e below (T7.setTop (mkF m 91 #[.val (.int p0), .val (.int p1), .val (.int p2), .val (.ref (w 0)), .val (.ref b2_0), .val (.ref b3), .val (.int (0 : Int32)), .val (.int (1 : Int32)), .val (.int (0 : Int32)), .val (.int (0 : Int32)), .unset, .unset] [])) _
    refine XS.aload X7.here hx rfl (hb hby at_91) rfl rfl ?_
    show Steps p.tables e below (T7.setTop (mkF m 93 #[.val (.int p0), .val (.int p1), .val (.int p2), .val (.ref (w 0)), .val (.ref b2_0), .val (.ref b3), .val (.int (0 : Int32)), .val (.int (1 : Int32)), .val (.int (0 : Int32)), .val (.int (0 : Int32)), .unset, .unset] [(.ref b3)])) _
    refine st8.trans ?_
    show Steps p.tables e below (T8.setTop (mkF m 96 #[.val (.int p0), .val (.int p1), .val (.int p2), .val (.ref (w 0)), .val (.ref b2_0), .val (.ref b3), .val (.int (0 : Int32)), .val (.int (1 : Int32)), .val (.int (0 : Int32)), .val (.int (0 : Int32)), .unset, .unset] [(.int (0 : Int32))])) _
    refine XS.istore X8.here hx rfl (hb hby at_96) rfl (l' := #[.val (.int p0), .val (.int p1), .val (.int p2), .val (.ref (w 0)), .val (.ref b2_0), .val (.ref b3), .val (.int (0 : Int32)), .val (.int (1 : Int32)), .val (.int (0 : Int32)), .val (.int (0 : Int32)), .val (.int (0 : Int32)), .unset]) rfl ?_
    show Steps p.tables e below (T8.setTop (mkF m 98 #[.val (.int p0), .val (.int p1), .val (.int p2), .val (.ref (w 0)), .val (.ref b2_0), .val (.ref b3), .val (.int (0 : Int32)), .val (.int (1 : Int32)), .val (.int (0 : Int32)), .val (.int (0 : Int32)), .val (.int (0 : Int32)), .unset] [])) _
    refine XS.iload X8.here hx rfl (hb hby at_98) rfl ?_
    show Steps p.tables e below (T8.setTop (mkF m 100 #[.val (.int p0), .val (.int p1), .val (.int p2), .val (.ref (w 0)), .val (.ref b2_0), .val (.ref b3), .val (.int (0 : Int32)), .val (.int (1 : Int32)), .val (.int (0 : Int32)), .val (.int (0 : Int32)), .val (.int (0 : Int32)), .unset] [(.int (1 : Int32))])) _
    refine XS.ifNo X8.here hx rfl (hb hby at_100) rfl ((if0 _ _).trans (feq (by decide : ¬ ((1 : Int32) = (0 : Int32)))).1) ?_
    show Steps p.tables e below (T8.setTop (mkF m 103 #[.val (.int p0), .val (.int p1), .val (.int p2), .val (.ref (w 0)), .val (.ref b2_0), .val (.ref b3), .val (.int (0 : Int32)), .val (.int (1 : Int32)), .val (.int (0 : Int32)), .val (.int (0 : Int32)), .val (.int (0 : Int32)), .unset] [])) _
    refine XS.aloadN X8.here hx rfl (hb hby at_103) rfl rfl ?_
    show Steps p.tables e below (T8.setTop (mkF m 104 #[.val (.int p0), .val (.int p1), .val (.int p2), .val (.ref (w 0)), .val (.ref b2_0), .val (.ref b3), .val (.int (0 : Int32)), .val (.int (1 : Int32)), .val (.int (0 : Int32)), .val (.int (0 : Int32)), .val (.int (0 : Int32)), .unset] [(.ref (w 0))])) _
    refine XS.ifnonnullYes X8.here hx rfl (pc0 := 104) (pc' := 111) rfl (hb hby at_104) rfl (by decide) (by decide) ?_
    show Steps p.tables e below (T8.setTop (mkF m 111 #[.val (.int p0), .val (.int p1), .val (.int p2), .val (.ref (w 0)), .val (.ref b2_0), .val (.ref b3), .val (.int (0 : Int32)), .val (.int (1 : Int32)), .val (.int (0 : Int32)), .val (.int (0 : Int32)), .val (.int (0 : Int32)), .unset] [])) _
    refine XS.iconst X8.here hx rfl (hb hby at_111) ?_
    show Steps p.tables e below (T8.setTop (mkF m 112 #[.val (.int p0), .val (.int p1), .val (.int p2), .val (.ref (w 0)), .val (.ref b2_0), .val (.ref b3), .val (.int (0 : Int32)), .val (.int (1 : Int32)), .val (.int (0 : Int32)), .val (.int (0 : Int32)), .val (.int (0 : Int32)), .unset] [(.int (0 : Int32))])) _
    refine XS.istore X8.here hx rfl (hb hby at_112) rfl (l' := #[.val (.int p0), .val (.int p1), .val (.int p2), .val (.ref (w 0)), .val (.ref b2_0), .val (.ref b3), .val (.int (0 : Int32)), .val (.int (1 : Int32)), .val (.int (0 : Int32)), .val (.int (0 : Int32)), .val (.int (0 : Int32)), .val (.int (0 : Int32))]) rfl ?_
    show Steps p.tables e below (T8.setTop (mkF m 114 #[.val (.int p0), .val (.int p1), .val (.int p2), .val (.ref (w 0)), .val (.ref b2_0), .val (.ref b3), .val (.int (0 : Int32)), .val (.int (1 : Int32)), .val (.int (0 : Int32)), .val (.int (0 : Int32)), .val (.int (0 : Int32)), .val (.int (0 : Int32))] [])) _
    refine XS.iload X8.here hx rfl (hb hby at_114) rfl ?_
    show Steps p.tables e below (T8.setTop (mkF m 116 #[.val (.int p0), .val (.int p1), .val (.int p2), .val (.ref (w 0)), .val (.ref b2_0), .val (.ref b3), .val (.int (0 : Int32)), .val (.int (1 : Int32)), .val (.int (0 : Int32)), .val (.int (0 : Int32)), .val (.int (0 : Int32)), .val (.int (0 : Int32))] [(.int (0 : Int32))])) _
    refine XS.ifNo X8.here hx rfl (hb hby at_116) rfl ((if0 _ _).trans (teq (by decide : (0 : Int32) = (0 : Int32))).2) ?_
    show Steps p.tables e below (T8.setTop (mkF m 119 #[.val (.int p0), .val (.int p1), .val (.int p2), .val (.ref (w 0)), .val (.ref b2_0), .val (.ref b3), .val (.int (0 : Int32)), .val (.int (1 : Int32)), .val (.int (0 : Int32)), .val (.int (0 : Int32)), .val (.int (0 : Int32)), .val (.int (0 : Int32))] [])) _
    refine XS.iload X8.here hx rfl (hb hby at_119) rfl ?_
    show Steps p.tables e below (T8.setTop (mkF m 121 #[.val (.int p0), .val (.int p1), .val (.int p2), .val (.ref (w 0)), .val (.ref b2_0), .val (.ref b3), .val (.int (0 : Int32)), .val (.int (1 : Int32)), .val (.int (0 : Int32)), .val (.int (0 : Int32)), .val (.int (0 : Int32)), .val (.int (0 : Int32))] [(.int (0 : Int32))])) _
    refine XS.iload X8.here hx rfl (hb hby at_121) rfl ?_
    show Steps p.tables e below (T8.setTop (mkF m 123 #[.val (.int p0), .val (.int p1), .val (.int p2), .val (.ref (w 0)), .val (.ref b2_0), .val (.ref b3), .val (.int (0 : Int32)), .val (.int (1 : Int32)), .val (.int (0 : Int32)), .val (.int (0 : Int32)), .val (.int (0 : Int32)), .val (.int (0 : Int32))] [(.int (0 : Int32)), (.int (0 : Int32))])) _
    refine XS.icmpNo X8.here hx rfl (hb hby at_123) rfl (teq (by decide : (0 : Int32) = (0 : Int32))).2 ?_
    show Steps p.tables e below (T8.setTop (mkF m 126 #[.val (.int p0), .val (.int p1), .val (.int p2), .val (.ref (w 0)), .val (.ref b2_0), .val (.ref b3), .val (.int (0 : Int32)), .val (.int (1 : Int32)), .val (.int (0 : Int32)), .val (.int (0 : Int32)), .val (.int (0 : Int32)), .val (.int (0 : Int32))] [])) _
    refine XS.iload X8.here hx rfl (hb hby at_126) rfl ?_
    show Steps p.tables e below (T8.setTop (mkF m 128 #[.val (.int p0), .val (.int p1), .val (.int p2), .val (.ref (w 0)), .val (.ref b2_0), .val (.ref b3), .val (.int (0 : Int32)), .val (.int (1 : Int32)), .val (.int (0 : Int32)), .val (.int (0 : Int32)), .val (.int (0 : Int32)), .val (.int (0 : Int32))] [(.int (0 : Int32))])) _
    refine XS.iload X8.here hx rfl (hb hby at_128) rfl ?_
    show Steps p.tables e below (T8.setTop (mkF m 130 #[.val (.int p0), .val (.int p1), .val (.int p2), .val (.ref (w 0)), .val (.ref b2_0), .val (.ref b3), .val (.int (0 : Int32)), .val (.int (1 : Int32)), .val (.int (0 : Int32)), .val (.int (0 : Int32)), .val (.int (0 : Int32)), .val (.int (0 : Int32))] [(.int (0 : Int32)), (.int (0 : Int32))])) _
    refine XS.icmpNo X8.here hx rfl (hb hby at_130) rfl (teq (by decide : (0 : Int32) = (0 : Int32))).2 ?_
    show Steps p.tables e below (T8.setTop (mkF m 133 #[.val (.int p0), .val (.int p1), .val (.int p2), .val (.ref (w 0)), .val (.ref b2_0), .val (.ref b3), .val (.int (0 : Int32)), .val (.int (1 : Int32)), .val (.int (0 : Int32)), .val (.int (0 : Int32)), .val (.int (0 : Int32)), .val (.int (0 : Int32))] [])) _
    refine XS.iconst X8.here hx rfl (hb hby at_133) ?_
    show Steps p.tables e below (T8.setTop (mkF m 134 #[.val (.int p0), .val (.int p1), .val (.int p2), .val (.ref (w 0)), .val (.ref b2_0), .val (.ref b3), .val (.int (0 : Int32)), .val (.int (1 : Int32)), .val (.int (0 : Int32)), .val (.int (0 : Int32)), .val (.int (0 : Int32)), .val (.int (0 : Int32))] [(.int (1 : Int32))])) _
    refine XS.goto X8.here hx rfl (pc0 := 134) (pc' := 138) rfl (hb hby at_134) (by decide) (by decide) ?_
    show Steps p.tables e below (T8.setTop (mkF m 138 #[.val (.int p0), .val (.int p1), .val (.int p2), .val (.ref (w 0)), .val (.ref b2_0), .val (.ref b3), .val (.int (0 : Int32)), .val (.int (1 : Int32)), .val (.int (0 : Int32)), .val (.int (0 : Int32)), .val (.int (0 : Int32)), .val (.int (0 : Int32))] [(.int (1 : Int32))])) _
    exact retN X8 hx (t := .boolean) Bd.returns (by simp) (hb hby at_138) hr
  · show OL (some (.int (1 : Int32))) Z.heap.size _ T8.heap _
    exact ⟨rfl, N8⟩
set_option maxRecDepth 65536 in
set_option maxHeartbeats 40000000 in
theorem rm_43 (l : Launch) (Z : State) (a0 : Array Value) (hw : ∀ d ∈ tables_1, d.before a0 Z = true) (w : Nat → Addr) (kk : Nat → ClassId) (iw : Nat → Int32) (vw : Nat → Value) (hN : Wd Z w kk iw vw) (ws : List Jvm.Cond) (o1 : Addr) (o2 : Addr) (o3 : Addr) (t0 : Int32) (kc_o3 : ClassId) (h0 : Heap) (O0 : Old Z Z.heap.size h0) (gn_o1 : Z.heap.size ≤ o1) (lt_o1 : o1 < h0.size) (E_o1 : Exa Z h0 o1 "com/example/netloom/netloom/xml/NetReader$OpenAnnotations") (gn_o2 : Z.heap.size ≤ o2) (lt_o2 : o2 < h0.size) (F_o1_owner : Fld Z h0 o1 "com/example/netloom/netloom/xml/NetReader$OpenAnnotations" "owner" "Ljava/lang/String;" (.ref o2)) (F_o1_form : Fld Z h0 o1 "com/example/netloom/netloom/xml/NetReader$OpenAnnotations" "form" "Lcom/example/netloom/netloom/xml/XmlGraphics$Form;" (.ref (w 0))) (F_o1_carries : Fld Z h0 o1 "com/example/netloom/netloom/xml/NetReader$OpenAnnotations" "carries" "Ljava/util/Set;" .null) (F_o1_graphicsCarried : Fld Z h0 o1 "com/example/netloom/netloom/xml/NetReader$OpenAnnotations" "graphicsCarried" "Z" (.int (1 : Int32))) (F_o1_graphics : Fld Z h0 o1 "com/example/netloom/netloom/xml/NetReader$OpenAnnotations" "graphics" "Lcom/example/netloom/netloom/net/Graphics;" .null) (E_o2 : Exa Z h0 o2 "java/lang/String") (gn_o3 : Z.heap.size ≤ o3) (lt_o3 : o3 < h0.size) (F_o2_value : Fld Z h0 o2 "java/lang/String" "value" "[B" (.ref o3)) (F_o2_coder : Fld Z h0 o2 "java/lang/String" "coder" "B" (.int (0 : Int32))) (V_o3 : Arv Z h0 o3 kc_o3 .byte (1 : Int32) [(.int t0)] (.int (0 : Int32))) (ne_o1_o2 : o1 ≠ o2) (ne_o1_o3 : o1 ≠ o3) (ne_o2_o3 : o2 ≠ o3) :
    MetFree l (⟨"com/example/netloom/netloom/xml/NetReader$OpenAnnotations", "carryGraphics", "()V"⟩ : MethodName) (head1 (Jvm.Cond.code (⟨"com/example/netloom/netloom/xml/NetReader$OpenAnnotations", "carryGraphics", "()V"⟩ : MethodName) prog_77_method_2_code 1 none :: ws) ({ frames := 0, cells := 0, slots := 0, locals := 0 } : Room)) (fun a U => a = #[(.ref o1)] ∧ Z.Warmed39 U.vm ∧ U.heap = h0) (fun _ _ _ _ _ => True) (fun _ U o U' => ∃ v L, o = .returned v ∧ Qd_10 Z w kk iw vw o1 o2 o3 t0 kc_o3 h0 Z.heap.size v U'.heap L ∧ FrameEnd U o U' L ({ frames := 0, cells := 0, slots := 0, locals := 0 } : Room).cells ({ frames := 0, cells := 0, slots := 0, locals := 0 } : Room).slots) := by
  have hN' := hN
  obtain ⟨hS0, hE0, hS1, hE1, hS2, hE2, hI0, hJ0, hR0, hRr0⟩ := hN'
  refine MetFree.of_bodySF (plainFor_of_name pn_3) hisR ?_
  intro p e s m args below meth c s₁ Bd hml0 hP hK
  obtain ⟨rfl, hZ, hh⟩ := hP
  have hx := Bd.exec
  have hby := Bd.bytes
  have hml : c.maxLocals = 1 := hml0
  have hown : s.vm.findClass "com/example/netloom/netloom/xml/NetReader$OpenAnnotations" = some m.cls := findClass_of_methodNamed Bd.named
  have hnm := (name_of_methodNamed Bd.named Bd.method).1
  have X0 : Stand p l e ({ frames := 0, cells := 0, slots := 0, locals := 0 } : Room) s m #[(.ref o1)] below meth c s₁ [] 0 0 := Stand.of_body Bd
  have e0 : s₁.heap = h0 := by rw [← hh, Bd.state]; rfl
  have N0 := Fr.nil Z.heap.size
  have pre0 : ∀ t, Steps p.tables e below (s₁.setTop (mkF m 0 #[.val (.ref o1)] [])) t → Steps p.tables e below (s₁.setTop (entryFrame m #[(.ref o1)] 1)) t := fun t k => castTop (ef_3 m (.ref o1) rfl) k
  have K0 : Keep h0 h0 [o1] := Keep.refl _ _
  obtain ⟨T1, h1, X1, e1, W1, st1⟩ := putFN X0 hx hZ hown (W hw 51 rfl) Via.refl e0 F_o1_graphicsCarried E_o1 (Or.inl (W hw 52 rfl)) (W hw 34 rfl) (ty := .boolean) (v' := (.int (1 : Int32))) (by decide) rfl rfl (g := (mkF m 2 #[.val (.ref o1)] [(.int (1 : Int32)), (.ref o1)])) rfl rfl (hb hby d_prog_77_method_2_code_2)
  have F_o1_graphicsCarried_v1 := F_o1_graphicsCarried.same W1
  have N1 := Fr.snoc X1 N0 gn_o1
  have E_o1_v1 := E_o1.wr W1
  have F_o1_owner_v1 := F_o1_owner.other W1 (Or.inr (sn_14 hw))
  have F_o1_form_v1 := F_o1_form.other W1 (Or.inr (sn_15 hw))
  have F_o1_carries_v1 := F_o1_carries.other W1 (Or.inr (sn_16 hw))
  have F_o1_graphics_v1 := F_o1_graphics.other W1 (Or.inr (sn_17 hw))
  have E_o2_v1 := E_o2.wr W1
  have F_o2_value_v1 := F_o2_value.other W1 (Or.inl (Ne.symm ne_o1_o2))
  have F_o2_coder_v1 := F_o2_coder.other W1 (Or.inl (Ne.symm ne_o1_o2))
  have V_o3_v1 := V_o3.other W1 (Ne.symm ne_o1_o3)
  have O1 := O0.wr W1 gn_o1
  have K1 : Keep h0 h1 [o1] := K0.wr W1 (Or.inl (List.mem_of_getElem? (i := 0) rfl))
  obtain ⟨fs, hr, hrun, hended, hW, hsame⟩ := X1.leave (v := none) (fun _ => rfl)
  refine ⟨_, _, pre0 _ ?_, hrun, hended, _, _, rfl, ?_, ⟨_, rfl⟩, hW, hsame.mono (by decide) (by decide)⟩
  · show Steps p.tables e below (s₁.setTop (mkF m 0 #[.val (.ref o1)] [])) _
    refine XS.aloadN X0.here hx rfl (hb hby d_prog_77_method_2_code_0) rfl rfl ?_
    show Steps p.tables e below (s₁.setTop (mkF m 1 #[.val (.ref o1)] [(.ref o1)])) _
    refine XS.iconst X0.here hx rfl (hb hby d_prog_77_method_2_code_1) ?_
    show Steps p.tables e below (s₁.setTop (mkF m 2 #[.val (.ref o1)] [(.int (1 : Int32)), (.ref o1)])) _
    refine st1 _ ?_
    show Steps p.tables e below (T1.setTop (mkF m 5 #[.val (.ref o1)] [])) _
    exact X1.returnOut hx Bd.returns (hb hby d_prog_77_method_2_code_5) hr
  · show Qd_10 Z w kk iw vw o1 o2 o3 t0 kc_o3 h0 Z.heap.size _ T1.heap _
    rw [e1]
    exact ⟨rfl, N1, K1, E_o1_v1, F_o1_owner_v1, F_o1_form_v1, F_o1_carries_v1, F_o1_graphicsCarried_v1, F_o1_graphics_v1⟩
set_option maxRecDepth 65536 in
set_option maxHeartbeats 40000000 in
theorem law_44 (l : Launch) (Z : State) (a0 : Array Value) (hw : ∀ d ∈ tables_1, d.before a0 Z = true) (w : Nat → Addr) (kk : Nat → ClassId) (iw : Nat → Int32) (vw : Nat → Value) (hN : Wd Z w kk iw vw) (ws : List Jvm.Cond) (p0 : Int32) (p1 : Int32) (p2 : Int32) (h0 : Heap) (O0 : Old Z Z.heap.size h0) (hp0 : (p1 &&& (3 : Int32)) = (3 : Int32)) (hp1 : ¬ ((255 : Int32) < ((p2 &&& (255 : Int32)).toUInt32.toUInt16.toUInt32.toInt32))) (hp2 : (p0 &&& (1 : Int32)) = (1 : Int32)) (hp3 : ¬ ((p0 &&& (2 : Int32)) = (0 : Int32))) :
    MetFree l x (head1 (Jvm.Cond.code x code maxLocals ret :: ws) room_1) (fun a U => a = #[(.int p0), (.int p1), (.int p2)] ∧ Z.Warmed39 U.vm ∧ U.heap = h0) (fun _ _ _ _ _ => True) (fun _ U o U' => ∃ v L, o = .returned v ∧ OL (some (.int (1 : Int32))) Z.heap.size v U'.heap L ∧ FrameEnd U o U' L 16 128) := by
  have hN' := hN
  obtain ⟨hS0, hE0, hS1, hE1, hS2, hE2, hI0, hJ0, hR0, hRr0⟩ := hN'
  refine MetFree.of_bodySF (plainFor_of_name pn_0) hisR ?_
  intro p e s m args below meth c s₁ Bd hml0 hP hK
  obtain ⟨rfl, hZ, hh⟩ := hP
  have hx := Bd.exec
  have hby := Bd.bytes
  have hml : c.maxLocals = 12 := hml0
  have hown : s.vm.findClass "com/example/netloom/netloom/xml/OpenAnnotationsCarriesGraphicsPinLaw" = some m.cls := findClass_of_methodNamed Bd.named
  have hnm := (name_of_methodNamed Bd.named Bd.method).1
  have X0 : Stand p l e room_1 s m #[(.int p0), (.int p1), (.int p2)] below meth c s₁ [] 0 0 := Stand.of_body Bd
  have e0 : s₁.heap = h0 := by rw [← hh, Bd.state]; rfl
  have N0 := Fr.nil Z.heap.size
  have pre0 : ∀ t, Steps p.tables e below (s₁.setTop (mkF m 0 #[.val (.int p0), .val (.int p1), .val (.int p2), .unset, .unset, .unset, .unset, .unset, .unset, .unset, .unset, .unset] [])) t → Steps p.tables e below (s₁.setTop (entryFrame m #[(.int p0), (.int p1), (.int p2)] maxLocals)) t := fun t k => castTop (ef_4 m (.int p0) rfl (.int p1) rfl (.int p2) rfl) k
  obtain ⟨_, _, ⟨T1, L1, k1, n1⟩, -, X1, ⟨Lc1, hQ1, l1, y1, z1⟩, st1⟩ := Jvm.LawKit.callS X0 hx (y := (⟨"com/example/netloom/netloom/xml/OpenAnnotationsCarriesGraphicsPinLaw", "pick", "(I)Lcom/example/netloom/netloom/xml/XmlGraphics$Form;"⟩ : MethodName)) hown (mvT hZ (W hw 0 rfl)) (mvT hZ (W hw 1 rfl)) (mvT hZ (W hw 2 rfl)) (mvT hZ (W hw 3 rfl)) (by decide) (backOf (W := 0) (rm_35 l Z a0 hw w kk iw vw hN [] h0 O0) hZ (W hw 3 rfl) (W hw 2 rfl) (by decide) (by decide)) (g := (mkF m 3 #[.val (.int p0), .val (.int p1), .val (.int p2), .unset, .unset, .unset, .unset, .unset, .unset, .unset, .unset, .unset] [(.int (3 : Int32))])) rfl (by rw [hml]; rfl) (argsL := [(.int (3 : Int32))]) (rest := []) (lenOf pd_0 rfl) rfl (by show 2 * 0 + _ ≤ _; exact Nat.le_of_eq rfl) (hb hby at_3) (fun _ _ => ⟨rfl, e0, (by decide : 0 + 0 ≤ _), (by decide : 0 + 0 ≤ _)⟩)
  dsimp only [Pt.U, Pt.locs, Pt.cells, Pt.slots] at X1 l1 y1 z1 st1 hQ1
  subst l1 y1 z1
  obtain ⟨rfl, N1q, e1⟩ := hQ1
  have N1 := Fr.app N0 N1q
  obtain ⟨_, _, ⟨T2, L2, k2, n2⟩, -, X2, ⟨Lc2, hQ2, l2, y2, z2⟩, st2⟩ := Jvm.LawKit.callS X1 hx (y := (⟨"java/lang/String", "valueOf", "(C)Ljava/lang/String;"⟩ : MethodName)) hown (mvT hZ (W hw 7 rfl)) (mvT hZ (W hw 8 rfl)) (mvT hZ (W hw 9 rfl)) (mvT hZ (W hw 10 rfl)) (by decide) (backOf (W := 0) (rm_5 l Z a0 hw w kk iw vw hN [] ((p2 &&& (255 : Int32)).toUInt32.toUInt16.toUInt32.toInt32) h0 O0 hp1) hZ (W hw 10 rfl) (W hw 9 rfl) (by decide) (by decide)) (g := (mkF m 13 #[.val (.int p0), .val (.int p1), .val (.int p2), .val (.ref (w 0)), .unset, .unset, .unset, .unset, .unset, .unset, .unset, .unset] [(.int ((p2 &&& (255 : Int32)).toUInt32.toUInt16.toUInt32.toInt32))])) rfl (by rw [hml]; rfl) (argsL := [(.int ((p2 &&& (255 : Int32)).toUInt32.toUInt16.toUInt32.toInt32))]) (rest := []) (lenOf pd_4 rfl) rfl (by show 2 * 0 + _ ≤ _; exact Nat.le_of_eq rfl) (hb hby at_13) (fun _ _ => ⟨rfl, e1, (by decide : 0 + 2 ≤ _), (by decide : 0 + 5 ≤ _)⟩)
  dsimp only [Pt.U, Pt.locs, Pt.cells, Pt.slots] at X2 l2 y2 z2 st2 hQ2
  subst l2 y2 z2
  obtain ⟨b2_0, b2_1, kb2_0, rfl, N2q, Kq2, tk2_0, tk2_1, tk2_2, tk2_3, tk2_4, tk2_5, tk2_6⟩ := hQ2
  have N2 := Fr.app N1 N2q
  have gn_b2_0 : Z.heap.size ≤ b2_0 := Nat.le_trans O0.2.1 tk2_0
  have gn_b2_1 : Z.heap.size ≤ b2_1 := Nat.le_trans O0.2.1 tk2_1
  have O2 := O0.keep Kq2 all0
  obtain ⟨T3, h3, X3, e3, E3, A3, D3, -, st3⟩ := newO X2 hx hZ hown (W hw 33 rfl) (W hw 34 rfl) (W hw 35 rfl) rfl (g := (mkF m 18 #[.val (.int p0), .val (.int p1), .val (.int p2), .val (.ref (w 0)), .val (.ref b2_0), .unset, .unset, .unset, .unset, .unset, .unset, .unset] [])) rfl (hb hby at_18) (by decide) (by decide)
  obtain ⟨b3, g3⟩ : ∃ z, z = T2.heap.size := ⟨_, rfl⟩
  rw [← g3] at A3 st3 D3
  have gn_b3 : Z.heap.size ≤ b3 := Nat.le_trans O2.2.1 (Nat.le_of_eq g3.symm)
  have ne_b2_1_b3 : b2_1 ≠ b3 := Nat.ne_of_lt (Nat.lt_of_lt_of_le tk2_6.lt (Nat.le_of_eq g3.symm))
  have ne_b2_0_b3 : b2_0 ≠ b3 := Nat.ne_of_lt (Nat.lt_of_lt_of_le tk2_3.lt (Nat.le_of_eq g3.symm))
  have tk2_3_v3 := tk2_3.ext E3
  have tk2_4_v3 := tk2_4.ext E3
  have tk2_5_v3 := tk2_5.ext E3
  have tk2_6_v3 := tk2_6.ext E3
  have O3 := O2.ext E3
  have E_b3_v3 := A3
  have F_b3_owner_v3 : Fld Z h3 b3 "com/example/netloom/netloom/xml/NetReader$OpenAnnotations" "owner" "Ljava/lang/String;" .null := D3 (Or.inr (W hw 41 rfl)) (ty := (.object "java/lang/String")) (by decide)
  have F_b3_form_v3 : Fld Z h3 b3 "com/example/netloom/netloom/xml/NetReader$OpenAnnotations" "form" "Lcom/example/netloom/netloom/xml/XmlGraphics$Form;" .null := D3 (Or.inr (W hw 43 rfl)) (ty := (.object "com/example/netloom/netloom/xml/XmlGraphics$Form")) (by decide)
  have F_b3_carries_v3 : Fld Z h3 b3 "com/example/netloom/netloom/xml/NetReader$OpenAnnotations" "carries" "Ljava/util/Set;" .null := D3 (Or.inr (W hw 45 rfl)) (ty := (.object "java/util/Set")) (by decide)
  have F_b3_graphicsCarried_v3 : Fld Z h3 b3 "com/example/netloom/netloom/xml/NetReader$OpenAnnotations" "graphicsCarried" "Z" (.int (0 : Int32)) := D3 (Or.inl (W hw 52 rfl)) (ty := .boolean) (by decide)
  have F_b3_graphics_v3 : Fld Z h3 b3 "com/example/netloom/netloom/xml/NetReader$OpenAnnotations" "graphics" "Lcom/example/netloom/netloom/net/Graphics;" .null := D3 (Or.inl (W hw 59 rfl)) (ty := (.object "com/example/netloom/netloom/net/Graphics")) (by decide)
  obtain ⟨_, _, ⟨T4, L4, k4, n4⟩, -, X4, ⟨Lc4, hQ4, l4, y4, z4⟩, st4⟩ := X3.specialBack hx (y := (⟨"com/example/netloom/netloom/xml/NetReader$OpenAnnotations", "<init>", "(Ljava/lang/String;Lcom/example/netloom/netloom/xml/XmlGraphics$Form;Ljava/util/Set;)V"⟩ : MethodName)) rfl hown (mvT hZ (W hw 36 rfl)) (mvT hZ (W hw 37 rfl)) (mvT hZ (W hw 38 rfl)) (by decide) (backOf (W := 1) (rm_36 l Z a0 hw w kk iw vw hN [] b3 b2_0 b2_1 ((((p2 &&& (255 : Int32)).toUInt32.toUInt16.toUInt32.toInt32).toInt8.toInt32).toInt8.toInt32) kb2_0 h3 O3 gn_b3 E_b3_v3.lt gn_b2_0 tk2_3_v3.lt E_b3_v3 F_b3_owner_v3 F_b3_form_v3 F_b3_carries_v3 F_b3_graphicsCarried_v3 F_b3_graphics_v3 tk2_3_v3 gn_b2_1 tk2_6_v3.lt tk2_4_v3 tk2_5_v3 tk2_6_v3 (Ne.symm ne_b2_0_b3) (Ne.symm ne_b2_1_b3) tk2_2) hZ (W hw 38 rfl) (W hw 35 rfl) (by decide) (by decide)) (g := (mkF m 26 #[.val (.int p0), .val (.int p1), .val (.int p2), .val (.ref (w 0)), .val (.ref b2_0), .unset, .unset, .unset, .unset, .unset, .unset, .unset] [.null, (.ref (w 0)), (.ref b2_0), (.ref b3), (.ref b3)])) rfl (by rw [hml]; rfl) (Steps.refl _) (a := b3) (argsL := [(.ref b2_0), (.ref (w 0)), .null]) (rest := [(.ref b3)]) (lenOf pd_5 rfl) rfl (by show 2 * 0 + _ ≤ _; exact Nat.le_of_eq rfl) (hb hby at_26) (fun _ _ => ⟨rfl, e3, (by decide : 3 + 0 ≤ _), (by decide : 16 + 0 ≤ _)⟩)
  dsimp only [Pt.U, Pt.locs, Pt.cells, Pt.slots] at X4 l4 y4 z4 st4 hQ4
  subst l4 y4 z4
  obtain ⟨rfl, N4q, Kq4, tk4_0, tk4_1, tk4_2, tk4_3, tk4_4, tk4_5⟩ := hQ4
  have N4 := Fr.app N2 N4q
  have tk2_3_v4 := tk2_3_v3.keep Kq4
  have tk2_4_v4 := tk2_4_v3.keep Kq4 (ninS ne_b2_0_b3 nin0)
  have tk2_5_v4 := tk2_5_v3.keep Kq4 (ninS ne_b2_0_b3 nin0)
  have tk2_6_v4 := tk2_6_v3.keep Kq4 (ninS ne_b2_1_b3 nin0)
  have E_b3_v4 := E_b3_v3.keep Kq4
  have O4 := O3.keep Kq4 (allS gn_b3 all0)
  obtain ⟨cq5, kq5, q5a, q5b, q5c⟩ := isOf hZ rfl tk4_0
  obtain ⟨_, _, ⟨T5, L5, k5, n5⟩, -, X5, ⟨Lc5, hQ5, l5, y5, z5⟩, st5⟩ := X4.virtualBack hx (y := (⟨"com/example/netloom/netloom/xml/NetReader$OpenAnnotations", "carriesGraphics", "()Z"⟩ : MethodName)) (z := (⟨"com/example/netloom/netloom/xml/NetReader$OpenAnnotations", "carriesGraphics", "()Z"⟩ : MethodName)) hown (mvT hZ (W hw 46 rfl)) (mvT hZ (W hw 47 rfl)) (notFace_of_selects (args := #[]) (mvT hZ (W hw 49 rfl))) (mvT hZ (W hw 49 rfl)) (mvT hZ (W hw 48 rfl)) (by decide) (backOf (W := 0) (rm_37 l Z a0 hw w kk iw vw hN [] b3 b2_0 b2_1 ((((p2 &&& (255 : Int32)).toUInt32.toUInt16.toUInt32.toInt32).toInt8.toInt32).toInt8.toInt32) kb2_0 T4.heap O4 gn_b3 tk4_0.lt tk4_0 gn_b2_0 tk2_3_v4.lt tk4_1 tk4_2 tk4_3 tk4_4 tk4_5 tk2_3_v4 gn_b2_1 tk2_6_v4.lt tk2_4_v4 tk2_5_v4 tk2_6_v4 (Ne.symm ne_b2_0_b3) (Ne.symm ne_b2_1_b3) tk2_2) hZ (W hw 50 rfl) (W hw 35 rfl) (by decide) (by decide)) q5a q5c (g := (mkF m 33 #[.val (.int p0), .val (.int p1), .val (.int p2), .val (.ref (w 0)), .val (.ref b2_0), .val (.ref b3), .unset, .unset, .unset, .unset, .unset, .unset] [(.ref b3)])) rfl (by rw [hml]; rfl) (Steps.refl _) (argsL := []) (rest := []) (lenOf pd_6 rfl) rfl (by show 2 * 0 + _ ≤ _; exact Nat.le_of_eq rfl) (hb hby at_33) (fun _ _ => ⟨rfl, rfl, (by decide : 3 + 0 ≤ _), (by decide : 16 + 0 ≤ _)⟩)
  dsimp only [Pt.U, Pt.locs, Pt.cells, Pt.slots] at X5 l5 y5 z5 st5 hQ5
  subst l5 y5 z5
  obtain ⟨rfl, N5q, e5⟩ := hQ5
  have N5 := Fr.app N4 N5q
  obtain ⟨cq6, kq6, q6a, q6b, q6c⟩ := isOf hZ e5 tk4_0
  obtain ⟨_, _, ⟨T6, L6, k6, n6⟩, -, X6, ⟨Lc6, hQ6, l6, y6, z6⟩, st6⟩ := X5.virtualBack hx (y := (⟨"com/example/netloom/netloom/xml/NetReader$OpenAnnotations", "carryGraphics", "()V"⟩ : MethodName)) (z := (⟨"com/example/netloom/netloom/xml/NetReader$OpenAnnotations", "carryGraphics", "()V"⟩ : MethodName)) hown (mvT hZ (W hw 53 rfl)) (mvT hZ (W hw 54 rfl)) (notFace_of_selects (args := #[]) (mvT hZ (W hw 56 rfl))) (mvT hZ (W hw 56 rfl)) (mvT hZ (W hw 55 rfl)) (by decide) (backOf (W := 0) (rm_40 l Z a0 hw w kk iw vw hN [] b3 b2_0 b2_1 ((((p2 &&& (255 : Int32)).toUInt32.toUInt16.toUInt32.toInt32).toInt8.toInt32).toInt8.toInt32) kb2_0 T4.heap O4 gn_b3 tk4_0.lt tk4_0 gn_b2_0 tk2_3_v4.lt tk4_1 tk4_2 tk4_3 tk4_4 tk4_5 tk2_3_v4 gn_b2_1 tk2_6_v4.lt tk2_4_v4 tk2_5_v4 tk2_6_v4 (Ne.symm ne_b2_0_b3) (Ne.symm ne_b2_1_b3) tk2_2) hZ (W hw 57 rfl) (W hw 35 rfl) (by decide) (by decide)) q6a q6c (g := (mkF m 71 #[.val (.int p0), .val (.int p1), .val (.int p2), .val (.ref (w 0)), .val (.ref b2_0), .val (.ref b3), .val (.int (0 : Int32)), .val (.int (1 : Int32)), .val (.int (1 : Int32)), .unset, .unset, .unset] [(.ref b3)])) rfl (by rw [hml]; rfl) (Steps.refl _) (argsL := []) (rest := []) (lenOf pd_7 rfl) rfl (by show 2 * 0 + _ ≤ _; exact Nat.le_of_eq rfl) (hb hby at_71) (fun _ _ => ⟨rfl, e5, (by decide : 3 + 0 ≤ _), (by decide : 16 + 0 ≤ _)⟩)
  dsimp only [Pt.U, Pt.locs, Pt.cells, Pt.slots] at X6 l6 y6 z6 st6 hQ6
  subst l6 y6 z6
  obtain ⟨rfl, N6q, Kq6, tk6_0, tk6_1, tk6_2, tk6_3, tk6_4, tk6_5⟩ := hQ6
  have N6 := Fr.app N5 N6q
  have tk2_3_v6 := tk2_3_v4.keep Kq6
  have tk2_4_v6 := tk2_4_v4.keep Kq6 (ninS ne_b2_0_b3 nin0)
  have tk2_5_v6 := tk2_5_v4.keep Kq6 (ninS ne_b2_0_b3 nin0)
  have tk2_6_v6 := tk2_6_v4.keep Kq6 (ninS ne_b2_1_b3 nin0)
  have tk4_0_v6 := tk4_0.keep Kq6
  have O6 := O4.keep Kq6 (allS gn_b3 all0)
  obtain ⟨cq7, kq7, q7a, q7b, q7c⟩ := isOf hZ rfl tk6_0
  obtain ⟨_, _, ⟨T7, L7, k7, n7⟩, -, X7, ⟨Lc7, hQ7, l7, y7, z7⟩, st7⟩ := X6.virtualBack hx (y := (⟨"com/example/netloom/netloom/xml/NetReader$OpenAnnotations", "carryGraphics", "()V"⟩ : MethodName)) (z := (⟨"com/example/netloom/netloom/xml/NetReader$OpenAnnotations", "carryGraphics", "()V"⟩ : MethodName)) hown (mvT hZ (W hw 53 rfl)) (mvT hZ (W hw 54 rfl)) (notFace_of_selects (args := #[]) (mvT hZ (W hw 56 rfl))) (mvT hZ (W hw 56 rfl)) (mvT hZ (W hw 55 rfl)) (by decide) (backOf (W := 0) (rm_43 l Z a0 hw w kk iw vw hN [] b3 b2_0 b2_1 ((((p2 &&& (255 : Int32)).toUInt32.toUInt16.toUInt32.toInt32).toInt8.toInt32).toInt8.toInt32) kb2_0 T6.heap O6 gn_b3 tk6_0.lt tk6_0 gn_b2_0 tk2_3_v6.lt tk6_1 tk6_2 tk6_3 tk6_4 tk6_5 tk2_3_v6 gn_b2_1 tk2_6_v6.lt tk2_4_v6 tk2_5_v6 tk2_6_v6 (Ne.symm ne_b2_0_b3) (Ne.symm ne_b2_1_b3) tk2_2) hZ (W hw 57 rfl) (W hw 35 rfl) (by decide) (by decide)) q7a q7c (g := (mkF m 81 #[.val (.int p0), .val (.int p1), .val (.int p2), .val (.ref (w 0)), .val (.ref b2_0), .val (.ref b3), .val (.int (0 : Int32)), .val (.int (1 : Int32)), .val (.int (1 : Int32)), .unset, .unset, .unset] [(.ref b3)])) rfl (by rw [hml]; rfl) (Steps.refl _) (argsL := []) (rest := []) (lenOf pd_7 rfl) rfl (by show 2 * 0 + _ ≤ _; exact Nat.le_of_eq rfl) (hb hby at_81) (fun _ _ => ⟨rfl, rfl, (by decide : 3 + 0 ≤ _), (by decide : 16 + 0 ≤ _)⟩)
  dsimp only [Pt.U, Pt.locs, Pt.cells, Pt.slots] at X7 l7 y7 z7 st7 hQ7
  subst l7 y7 z7
  obtain ⟨rfl, N7q, Kq7, tk7_0, tk7_1, tk7_2, tk7_3, tk7_4, tk7_5⟩ := hQ7
  have N7 := Fr.app N6 N7q
  have tk2_3_v7 := tk2_3_v6.keep Kq7
  have tk2_4_v7 := tk2_4_v6.keep Kq7 (ninS ne_b2_0_b3 nin0)
  have tk2_5_v7 := tk2_5_v6.keep Kq7 (ninS ne_b2_0_b3 nin0)
  have tk2_6_v7 := tk2_6_v6.keep Kq7 (ninS ne_b2_1_b3 nin0)
  have tk6_0_v7 := tk6_0.keep Kq7
  have O7 := O6.keep Kq7 (allS gn_b3 all0)
  obtain ⟨cq8, kq8, q8a, q8b, q8c⟩ := isOf hZ rfl tk7_0
  obtain ⟨_, _, ⟨T8, L8, k8, n8⟩, -, X8, ⟨Lc8, hQ8, l8, y8, z8⟩, st8⟩ := X7.virtualBack hx (y := (⟨"com/example/netloom/netloom/xml/NetReader$OpenAnnotations", "carriesGraphics", "()Z"⟩ : MethodName)) (z := (⟨"com/example/netloom/netloom/xml/NetReader$OpenAnnotations", "carriesGraphics", "()Z"⟩ : MethodName)) hown (mvT hZ (W hw 46 rfl)) (mvT hZ (W hw 47 rfl)) (notFace_of_selects (args := #[]) (mvT hZ (W hw 49 rfl))) (mvT hZ (W hw 49 rfl)) (mvT hZ (W hw 48 rfl)) (by decide) (backOf (W := 0) (rm_41 l Z a0 hw w kk iw vw hN [] b3 b2_0 b2_1 ((((p2 &&& (255 : Int32)).toUInt32.toUInt16.toUInt32.toInt32).toInt8.toInt32).toInt8.toInt32) kb2_0 T7.heap O7 gn_b3 tk7_0.lt tk7_0 gn_b2_0 tk2_3_v7.lt tk7_1 tk7_2 tk7_3 tk7_4 tk7_5 tk2_3_v7 gn_b2_1 tk2_6_v7.lt tk2_4_v7 tk2_5_v7 tk2_6_v7 (Ne.symm ne_b2_0_b3) (Ne.symm ne_b2_1_b3) tk2_2) hZ (W hw 50 rfl) (W hw 35 rfl) (by decide) (by decide)) q8a q8c (g := (mkF m 86 #[.val (.int p0), .val (.int p1), .val (.int p2), .val (.ref (w 0)), .val (.ref b2_0), .val (.ref b3), .val (.int (0 : Int32)), .val (.int (1 : Int32)), .val (.int (1 : Int32)), .unset, .unset, .unset] [(.ref b3)])) rfl (by rw [hml]; rfl) (Steps.refl _) (argsL := []) (rest := []) (lenOf pd_6 rfl) rfl (by show 2 * 0 + _ ≤ _; exact Nat.le_of_eq rfl) (hb hby at_86) (fun _ _ => ⟨rfl, rfl, (by decide : 3 + 0 ≤ _), (by decide : 16 + 0 ≤ _)⟩)
  dsimp only [Pt.U, Pt.locs, Pt.cells, Pt.slots] at X8 l8 y8 z8 st8 hQ8
  subst l8 y8 z8
  obtain ⟨rfl, N8q, e8⟩ := hQ8
  have N8 := Fr.app N7 N8q
  obtain ⟨cq9, kq9, q9a, q9b, q9c⟩ := isOf hZ e8 tk7_0
  obtain ⟨_, _, ⟨T9, L9, k9, n9⟩, -, X9, ⟨Lc9, hQ9, l9, y9, z9⟩, st9⟩ := X8.virtualBack hx (y := (⟨"com/example/netloom/netloom/xml/NetReader$OpenAnnotations", "carriesGraphics", "()Z"⟩ : MethodName)) (z := (⟨"com/example/netloom/netloom/xml/NetReader$OpenAnnotations", "carriesGraphics", "()Z"⟩ : MethodName)) hown (mvT hZ (W hw 46 rfl)) (mvT hZ (W hw 47 rfl)) (notFace_of_selects (args := #[]) (mvT hZ (W hw 49 rfl))) (mvT hZ (W hw 49 rfl)) (mvT hZ (W hw 48 rfl)) (by decide) (backOf (W := 0) (rm_41 l Z a0 hw w kk iw vw hN [] b3 b2_0 b2_1 ((((p2 &&& (255 : Int32)).toUInt32.toUInt16.toUInt32.toInt32).toInt8.toInt32).toInt8.toInt32) kb2_0 T7.heap O7 gn_b3 tk7_0.lt tk7_0 gn_b2_0 tk2_3_v7.lt tk7_1 tk7_2 tk7_3 tk7_4 tk7_5 tk2_3_v7 gn_b2_1 tk2_6_v7.lt tk2_4_v7 tk2_5_v7 tk2_6_v7 (Ne.symm ne_b2_0_b3) (Ne.symm ne_b2_1_b3) tk2_2) hZ (W hw 50 rfl) (W hw 35 rfl) (by decide) (by decide)) q9a q9c (g := (mkF m 93 #[.val (.int p0), .val (.int p1), .val (.int p2), .val (.ref (w 0)), .val (.ref b2_0), .val (.ref b3), .val (.int (0 : Int32)), .val (.int (1 : Int32)), .val (.int (1 : Int32)), .val (.int (0 : Int32)), .unset, .unset] [(.ref b3)])) rfl (by rw [hml]; rfl) (Steps.refl _) (argsL := []) (rest := []) (lenOf pd_6 rfl) rfl (by show 2 * 0 + _ ≤ _; exact Nat.le_of_eq rfl) (hb hby at_93) (fun _ _ => ⟨rfl, e8, (by decide : 3 + 0 ≤ _), (by decide : 16 + 0 ≤ _)⟩)
  dsimp only [Pt.U, Pt.locs, Pt.cells, Pt.slots] at X9 l9 y9 z9 st9 hQ9
  subst l9 y9 z9
  obtain ⟨rfl, N9q, e9⟩ := hQ9
  have N9 := Fr.app N8 N9q
  obtain ⟨fs, hr, hrun, hended, hW, hsame⟩ := X9.leave (v := some (.int (1 : Int32))) (fun h => by rw [Bd.returns] at h; cases h)
  refine ⟨_, _, pre0 _ ?_, hrun, hended, _, _, rfl, ?_, ⟨_, rfl⟩, hW, hsame.mono (by decide) (by decide)⟩
  · show Steps p.tables e below (s₁.setTop (mkF m 0 #[.val (.int p0), .val (.int p1), .val (.int p2), .unset, .unset, .unset, .unset, .unset, .unset, .unset, .unset, .unset] [])) _
    refine XS.iloadN X0.here hx rfl (hb hby at_0) rfl ?_
    show Steps p.tables e below (s₁.setTop (mkF m 1 #[.val (.int p0), .val (.int p1), .val (.int p2), .unset, .unset, .unset, .unset, .unset, .unset, .unset, .unset, .unset] [(.int p1)])) _
    refine XS.iconst X0.here hx rfl (hb hby at_1) ?_
    show Steps p.tables e below (s₁.setTop (mkF m 2 #[.val (.int p0), .val (.int p1), .val (.int p2), .unset, .unset, .unset, .unset, .unset, .unset, .unset, .unset, .unset] [(.int (3 : Int32)), (.int p1)])) _
    refine XS.iand X0.here hx rfl (hb hby at_2) rfl ?_
    show Steps p.tables e below (s₁.setTop (mkF m 3 #[.val (.int p0), .val (.int p1), .val (.int p2), .unset, .unset, .unset, .unset, .unset, .unset, .unset, .unset, .unset] [(.int (p1 &&& (3 : Int32)))])) _
    rw [hp0]
    show Steps p.tables e below (s₁.setTop (mkF m 3 #[.val (.int p0), .val (.int p1), .val (.int p2), .unset, .unset, .unset, .unset, .unset, .unset, .unset, .unset, .unset] [(.int (3 : Int32))])) _
    refine st1 _ ?_
    show Steps p.tables e below (T1.setTop (mkF m 6 #[.val (.int p0), .val (.int p1), .val (.int p2), .unset, .unset, .unset, .unset, .unset, .unset, .unset, .unset, .unset] [(.ref (w 0))])) _
    refine XS.astoreN X1.here hx rfl (hb hby at_6) rfl rfl (l' := #[.val (.int p0), .val (.int p1), .val (.int p2), .val (.ref (w 0)), .unset, .unset, .unset, .unset, .unset, .unset, .unset, .unset]) rfl ?_
    show Steps p.tables e below (T1.setTop (mkF m 7 #[.val (.int p0), .val (.int p1), .val (.int p2), .val (.ref (w 0)), .unset, .unset, .unset, .unset, .unset, .unset, .unset, .unset] [])) _
    refine XS.iloadN X1.here hx rfl (hb hby at_7) rfl ?_
    show Steps p.tables e below (T1.setTop (mkF m 8 #[.val (.int p0), .val (.int p1), .val (.int p2), .val (.ref (w 0)), .unset, .unset, .unset, .unset, .unset, .unset, .unset, .unset] [(.int p2)])) _
    refine XS.sipush X1.here hx rfl (hb hby at_8) ?_
    show Steps p.tables e below (T1.setTop (mkF m 11 #[.val (.int p0), .val (.int p1), .val (.int p2), .val (.ref (w 0)), .unset, .unset, .unset, .unset, .unset, .unset, .unset, .unset] [(.int (255 : Int32)), (.int p2)])) _
    refine XS.iand X1.here hx rfl (hb hby at_11) rfl ?_
    show Steps p.tables e below (T1.setTop (mkF m 12 #[.val (.int p0), .val (.int p1), .val (.int p2), .val (.ref (w 0)), .unset, .unset, .unset, .unset, .unset, .unset, .unset, .unset] [(.int (p2 &&& (255 : Int32)))])) _
    refine XS.i2c X1.here hx rfl (hb hby at_12) rfl ?_
    show Steps p.tables e below (T1.setTop (mkF m 13 #[.val (.int p0), .val (.int p1), .val (.int p2), .val (.ref (w 0)), .unset, .unset, .unset, .unset, .unset, .unset, .unset, .unset] [(.int ((p2 &&& (255 : Int32)).toUInt32.toUInt16.toUInt32.toInt32))])) _
    refine st2 _ ?_
    show Steps p.tables e below (T2.setTop (mkF m 16 #[.val (.int p0), .val (.int p1), .val (.int p2), .val (.ref (w 0)), .unset, .unset, .unset, .unset, .unset, .unset, .unset, .unset] [(.ref b2_0)])) _
    refine XS.astore X2.here hx rfl (hb hby at_16) rfl rfl (l' := #[.val (.int p0), .val (.int p1), .val (.int p2), .val (.ref (w 0)), .val (.ref b2_0), .unset, .unset, .unset, .unset, .unset, .unset, .unset]) rfl ?_
    show Steps p.tables e below (T2.setTop (mkF m 18 #[.val (.int p0), .val (.int p1), .val (.int p2), .val (.ref (w 0)), .val (.ref b2_0), .unset, .unset, .unset, .unset, .unset, .unset, .unset] [])) _
    refine st3 _ ?_
    show Steps p.tables e below (T3.setTop (mkF m 21 #[.val (.int p0), .val (.int p1), .val (.int p2), .val (.ref (w 0)), .val (.ref b2_0), .unset, .unset, .unset, .unset, .unset, .unset, .unset] [(.ref b3)])) _
    refine XS.dup X3.here hx rfl (hb hby at_21) rfl rfl ?_
    show Steps p.tables e below (T3.setTop (mkF m 22 #[.val (.int p0), .val (.int p1), .val (.int p2), .val (.ref (w 0)), .val (.ref b2_0), .unset, .unset, .unset, .unset, .unset, .unset, .unset] [(.ref b3), (.ref b3)])) _
    refine XS.aload X3.here hx rfl (hb hby at_22) rfl rfl ?_
    show Steps p.tables e below (T3.setTop (mkF m 24 #[.val (.int p0), .val (.int p1), .val (.int p2), .val (.ref (w 0)), .val (.ref b2_0), .unset, .unset, .unset, .unset, .unset, .unset, .unset] [(.ref b2_0), (.ref b3), (.ref b3)])) _
    refine XS.aloadN X3.here hx rfl (hb hby at_24) rfl rfl ?_
    show Steps p.tables e below (T3.setTop (mkF m 25 #[.val (.int p0), .val (.int p1), .val (.int p2), .val (.ref (w 0)), .val (.ref b2_0), .unset, .unset, .unset, .unset, .unset, .unset, .unset] [(.ref (w 0)), (.ref b2_0), (.ref b3), (.ref b3)])) _
    refine XS.aconstNull X3.here hx rfl (hb hby at_25) ?_
    show Steps p.tables e below (T3.setTop (mkF m 26 #[.val (.int p0), .val (.int p1), .val (.int p2), .val (.ref (w 0)), .val (.ref b2_0), .unset, .unset, .unset, .unset, .unset, .unset, .unset] [.null, (.ref (w 0)), (.ref b2_0), (.ref b3), (.ref b3)])) _
    refine st4.trans ?_
    show Steps p.tables e below (T4.setTop (mkF m 29 #[.val (.int p0), .val (.int p1), .val (.int p2), .val (.ref (w 0)), .val (.ref b2_0), .unset, .unset, .unset, .unset, .unset, .unset, .unset] [(.ref b3)])) _
    refine XS.astore X4.here hx rfl (hb hby at_29) rfl rfl (l' := #[.val (.int p0), .val (.int p1), .val (.int p2), .val (.ref (w 0)), .val (.ref b2_0), .val (.ref b3), .unset, .unset, .unset, .unset, .unset, .unset]) rfl ?_
    show Steps p.tables e below (T4.setTop (mkF m 31 #[.val (.int p0), .val (.int p1), .val (.int p2), .val (.ref (w 0)), .val (.ref b2_0), .val (.ref b3), .unset, .unset, .unset, .unset, .unset, .unset] [])) _
    refine XS.aload X4.here hx rfl (hb hby at_31) rfl rfl ?_
    show Steps p.tables e below (T4.setTop (mkF m 33 #[.val (.int p0), .val (.int p1), .val (.int p2), .val (.ref (w 0)), .val (.ref b2_0), .val (.ref b3), .unset, .unset, .unset, .unset, .unset, .unset] [(.ref b3)])) _
    refine st5.trans ?_
    show Steps p.tables e below (T5.setTop (mkF m 36 #[.val (.int p0), .val (.int p1), .val (.int p2), .val (.ref (w 0)), .val (.ref b2_0), .val (.ref b3), .unset, .unset, .unset, .unset, .unset, .unset] [(.int (0 : Int32))])) _
    refine XS.istore X5.here hx rfl (hb hby at_36) rfl (l' := #[.val (.int p0), .val (.int p1), .val (.int p2), .val (.ref (w 0)), .val (.ref b2_0), .val (.ref b3), .val (.int (0 : Int32)), .unset, .unset, .unset, .unset, .unset]) rfl ?_
    show Steps p.tables e below (T5.setTop (mkF m 38 #[.val (.int p0), .val (.int p1), .val (.int p2), .val (.ref (w 0)), .val (.ref b2_0), .val (.ref b3), .val (.int (0 : Int32)), .unset, .unset, .unset, .unset, .unset] [])) _
    refine XS.iloadN X5.here hx rfl (hb hby at_38) rfl ?_
    show Steps p.tables e below (T5.setTop (mkF m 39 #[.val (.int p0), .val (.int p1), .val (.int p2), .val (.ref (w 0)), .val (.ref b2_0), .val (.ref b3), .val (.int (0 : Int32)), .unset, .unset, .unset, .unset, .unset] [(.int p0)])) _
    refine XS.iconst X5.here hx rfl (hb hby at_39) ?_
    show Steps p.tables e below (T5.setTop (mkF m 40 #[.val (.int p0), .val (.int p1), .val (.int p2), .val (.ref (w 0)), .val (.ref b2_0), .val (.ref b3), .val (.int (0 : Int32)), .unset, .unset, .unset, .unset, .unset] [(.int (1 : Int32)), (.int p0)])) _
    refine XS.iand X5.here hx rfl (hb hby at_40) rfl ?_
    show Steps p.tables e below (T5.setTop (mkF m 41 #[.val (.int p0), .val (.int p1), .val (.int p2), .val (.ref (w 0)), .val (.ref b2_0), .val (.ref b3), .val (.int (0 : Int32)), .unset, .unset, .unset, .unset, .unset] [(.int (p0 &&& (1 : Int32)))])) _
    rw [hp2]
    show Steps p.tables e below (T5.setTop (mkF m 41 #[.val (.int p0), .val (.int p1), .val (.int p2), .val (.ref (w 0)), .val (.ref b2_0), .val (.ref b3), .val (.int (0 : Int32)), .unset, .unset, .unset, .unset, .unset] [(.int (1 : Int32))])) _
    refine XS.ifNo X5.here hx rfl (hb hby at_41) rfl ((if0 _ _).trans (feq (by decide : ¬ ((1 : Int32) = (0 : Int32)))).1) ?_
    show Steps p.tables e below (T5.setTop (mkF m 44 #[.val (.int p0), .val (.int p1), .val (.int p2), .val (.ref (w 0)), .val (.ref b2_0), .val (.ref b3), .val (.int (0 : Int32)), .unset, .unset, .unset, .unset, .unset] [])) _
    refine XS.iconst X5.here hx rfl (hb hby at_44) ?_
    show Steps p.tables e below (T5.setTop (mkF m 45 #[.val (.int p0), .val (.int p1), .val (.int p2), .val (.ref (w 0)), .val (.ref b2_0), .val (.ref b3), .val (.int (0 : Int32)), .unset, .unset, .unset, .unset, .unset] [(.int (1 : Int32))])) _
    refine XS.goto X5.here hx rfl (pc0 := 45) (pc' := 49) rfl (hb hby at_45) (by decide) (by decide) ?_
    show Steps p.tables e below (T5.setTop (mkF m 49 #[.val (.int p0), .val (.int p1), .val (.int p2), .val (.ref (w 0)), .val (.ref b2_0), .val (.ref b3), .val (.int (0 : Int32)), .unset, .unset, .unset, .unset, .unset] [(.int (1 : Int32))])) _
    refine XS.istore X5.here hx rfl (hb hby at_49) rfl (l' := #[.val (.int p0), .val (.int p1), .val (.int p2), .val (.ref (w 0)), .val (.ref b2_0), .val (.ref b3), .val (.int (0 : Int32)), .val (.int (1 : Int32)), .unset, .unset, .unset, .unset]) rfl ?_
    show Steps p.tables e below (T5.setTop (mkF m 51 #[.val (.int p0), .val (.int p1), .val (.int p2), .val (.ref (w 0)), .val (.ref b2_0), .val (.ref b3), .val (.int (0 : Int32)), .val (.int (1 : Int32)), .unset, .unset, .unset, .unset] [])) _
    refine XS.iloadN X5.here hx rfl (hb hby at_51) rfl ?_
    show Steps p.tables e below (T5.setTop (mkF m 52 #[.val (.int p0), .val (.int p1), .val (.int p2), .val (.ref (w 0)), .val (.ref b2_0), .val (.ref b3), .val (.int (0 : Int32)), .val (.int (1 : Int32)), .unset, .unset, .unset, .unset] [(.int p0)])) _
    refine XS.iconst X5.here hx rfl (hb hby at_52) ?_
    show Steps p.tables e below (T5.setTop (mkF m 53 #[.val (.int p0), .val (.int p1), .val (.int p2), .val (.ref (w 0)), .val (.ref b2_0), .val (.ref b3), .val (.int (0 : Int32)), .val (.int (1 : Int32)), .unset, .unset, .unset, .unset] [(.int (2 : Int32)), (.int p0)])) _
    refine XS.iand X5.here hx rfl (hb hby at_53) rfl ?_
    show Steps p.tables e below (T5.setTop (mkF m 54 #[.val (.int p0), .val (.int p1), .val (.int p2), .val (.ref (w 0)), .val (.ref b2_0), .val (.ref b3), .val (.int (0 : Int32)), .val (.int (1 : Int32)), .unset, .unset, .unset, .unset] [(.int (p0 &&& (2 : Int32)))])) _
    refine XS.ifNo X5.here hx rfl (hb hby at_54) rfl ((if0 _ _).trans (feq hp3).1) ?_
    show Steps p.tables e below (T5.setTop (mkF m 57 #[.val (.int p0), .val (.int p1), .val (.int p2), .val (.ref (w 0)), .val (.ref b2_0), .val (.ref b3), .val (.int (0 : Int32)), .val (.int (1 : Int32)), .unset, .unset, .unset, .unset] [])) _
    refine XS.iconst X5.here hx rfl (hb hby at_57) ?_
    show Steps p.tables e below (T5.setTop (mkF m 58 #[.val (.int p0), .val (.int p1), .val (.int p2), .val (.ref (w 0)), .val (.ref b2_0), .val (.ref b3), .val (.int (0 : Int32)), .val (.int (1 : Int32)), .unset, .unset, .unset, .unset] [(.int (1 : Int32))])) _
    refine XS.goto X5.here hx rfl (pc0 := 58) (pc' := 62) rfl (hb hby at_58) (by decide) (by decide) ?_
    show Steps p.tables e below (T5.setTop (mkF m 62 #[.val (.int p0), .val (.int p1), .val (.int p2), .val (.ref (w 0)), .val (.ref b2_0), .val (.ref b3), .val (.int (0 : Int32)), .val (.int (1 : Int32)), .unset, .unset, .unset, .unset] [(.int (1 : Int32))])) _
    refine XS.istore X5.here hx rfl (hb hby at_62) rfl (l' := #[.val (.int p0), .val (.int p1), .val (.int p2), .val (.ref (w 0)), .val (.ref b2_0), .val (.ref b3), .val (.int (0 : Int32)), .val (.int (1 : Int32)), .val (.int (1 : Int32)), .unset, .unset, .unset]) rfl ?_
    show Steps p.tables e below (T5.setTop (mkF m 64 #[.val (.int p0), .val (.int p1), .val (.int p2), .val (.ref (w 0)), .val (.ref b2_0), .val (.ref b3), .val (.int (0 : Int32)), .val (.int (1 : Int32)), .val (.int (1 : Int32)), .unset, .unset, .unset] [])) _
    refine XS.iload X5.here hx rfl (hb hby at_64) rfl ?_
    show Steps p.tables e below (T5.setTop (mkF m 66 #[.val (.int p0), .val (.int p1), .val (.int p2), .val (.ref (w 0)), .val (.ref b2_0), .val (.ref b3), .val (.int (0 : Int32)), .val (.int (1 : Int32)), .val (.int (1 : Int32)), .unset, .unset, .unset] [(.int (1 : Int32))])) _
    refine XS.ifNo X5.here hx rfl (hb hby at_66) rfl ((if0 _ _).trans (feq (by decide : ¬ ((1 : Int32) = (0 : Int32)))).1) ?_
    show Steps p.tables e below (T5.setTop (mkF m 69 #[.val (.int p0), .val (.int p1), .val (.int p2), .val (.ref (w 0)), .val (.ref b2_0), .val (.ref b3), .val (.int (0 : Int32)), .val (.int (1 : Int32)), .val (.int (1 : Int32)), .unset, .unset, .unset] [])) _
    refine XS.aload X5.here hx rfl (hb hby at_69) rfl rfl ?_
    show Steps p.tables e below (T5.setTop (mkF m 71 #[.val (.int p0), .val (.int p1), .val (.int p2), .val (.ref (w 0)), .val (.ref b2_0), .val (.ref b3), .val (.int (0 : Int32)), .val (.int (1 : Int32)), .val (.int (1 : Int32)), .unset, .unset, .unset] [(.ref b3)])) _
    refine st6.trans ?_
    show Steps p.tables e below (T6.setTop (mkF m 74 #[.val (.int p0), .val (.int p1), .val (.int p2), .val (.ref (w 0)), .val (.ref b2_0), .val (.ref b3), .val (.int (0 : Int32)), .val (.int (1 : Int32)), .val (.int (1 : Int32)), .unset, .unset, .unset] [])) _
    refine XS.iload X6.here hx rfl (hb hby at_74) rfl ?_
    show Steps p.tables e below (T6.setTop (mkF m 76 #[.val (.int p0), .val (.int p1), .val (.int p2), .val (.ref (w 0)), .val (.ref b2_0), .val (.ref b3), .val (.int (0 : Int32)), .val (.int (1 : Int32)), .val (.int (1 : Int32)), .unset, .unset, .unset] [(.int (1 : Int32))])) _
    refine XS.ifNo X6.here hx rfl (hb hby at_76) rfl ((if0 _ _).trans (feq (by decide : ¬ ((1 : Int32) = (0 : Int32)))).1) ?_
    show Steps p.tables e below (T6.setTop (mkF m 79 #[.val (.int p0), .val (.int p1), .val (.int p2), .val (.ref (w 0)), .val (.ref b2_0), .val (.ref b3), .val (.int (0 : Int32)), .val (.int (1 : Int32)), .val (.int (1 : Int32)), .unset, .unset, .unset] [])) _
    refine XS.aload X6.here hx rfl (hb hby at_79) rfl rfl ?_
    show Steps p.tables e below (T6.setTop (mkF m 81 #[.val (.int p0), .val (.int p1), .val (.int p2), .val (.ref (w 0)), .val (.ref b2_0), .val (.ref b3), .val (.int (0 : Int32)), .val (.int (1 : Int32)), .val (.int (1 : Int32)), .unset, .unset, .unset] [(.ref b3)])) _
    refine st7.trans ?_
    show Steps p.tables e below (T7.setTop (mkF m 84 #[.val (.int p0), .val (.int p1), .val (.int p2), .val (.ref (w 0)), .val (.ref b2_0), .val (.ref b3), .val (.int (0 : Int32)), .val (.int (1 : Int32)), .val (.int (1 : Int32)), .unset, .unset, .unset] [])) _
    refine XS.aload X7.here hx rfl (hb hby at_84) rfl rfl ?_
    show Steps p.tables e below (T7.setTop (mkF m 86 #[.val (.int p0), .val (.int p1), .val (.int p2), .val (.ref (w 0)), .val (.ref b2_0), .val (.ref b3), .val (.int (0 : Int32)), .val (.int (1 : Int32)), .val (.int (1 : Int32)), .unset, .unset, .unset] [(.ref b3)])) _
    refine st8.trans ?_
    show Steps p.tables e below (T8.setTop (mkF m 89 #[.val (.int p0), .val (.int p1), .val (.int p2), .val (.ref (w 0)), .val (.ref b2_0), .val (.ref b3), .val (.int (0 : Int32)), .val (.int (1 : Int32)), .val (.int (1 : Int32)), .unset, .unset, .unset] [(.int (0 : Int32))])) _
    refine XS.istore X8.here hx rfl (hb hby at_89) rfl (l' := #[.val (.int p0), .val (.int p1), .val (.int p2), .val (.ref (w 0)), .val (.ref b2_0), .val (.ref b3), .val (.int (0 : Int32)), .val (.int (1 : Int32)), .val (.int (1 : Int32)), .val (.int (0 : Int32)), .unset, .unset]) rfl ?_
    show Steps p.tables e below (T8.setTop (mkF m 91 #[.val (.int p0), .val (.int p1), .val (.int p2), .val (.ref (w 0)), .val (.ref b2_0), .val (.ref b3), .val (.int (0 : Int32)), .val (.int (1 : Int32)), .val (.int (1 : Int32)), .val (.int (0 : Int32)), .unset, .unset] [])) _
    refine XS.aload X8.here hx rfl (hb hby at_91) rfl rfl ?_
    show Steps p.tables e below (T8.setTop (mkF m 93 #[.val (.int p0), .val (.int p1), .val (.int p2), .val (.ref (w 0)), .val (.ref b2_0), .val (.ref b3), .val (.int (0 : Int32)), .val (.int (1 : Int32)), .val (.int (1 : Int32)), .val (.int (0 : Int32)), .unset, .unset] [(.ref b3)])) _
    refine st9.trans ?_
    show Steps p.tables e below (T9.setTop (mkF m 96 #[.val (.int p0), .val (.int p1), .val (.int p2), .val (.ref (w 0)), .val (.ref b2_0), .val (.ref b3), .val (.int (0 : Int32)), .val (.int (1 : Int32)), .val (.int (1 : Int32)), .val (.int (0 : Int32)), .unset, .unset] [(.int (0 : Int32))])) _
    refine XS.istore X9.here hx rfl (hb hby at_96) rfl (l' := #[.val (.int p0), .val (.int p1), .val (.int p2), .val (.ref (w 0)), .val (.ref b2_0), .val (.ref b3), .val (.int (0 : Int32)), .val (.int (1 : Int32)), .val (.int (1 : Int32)), .val (.int (0 : Int32)), .val (.int (0 : Int32)), .unset]) rfl ?_
    show Steps p.tables e below (T9.setTop (mkF m 98 #[.val (.int p0), .val (.int p1), .val (.int p2), .val (.ref (w 0)), .val (.ref b2_0), .val (.ref b3), .val (.int (0 : Int32)), .val (.int (1 : Int32)), .val (.int (1 : Int32)), .val (.int (0 : Int32)), .val (.int (0 : Int32)), .unset] [])) _
    refine XS.iload X9.here hx rfl (hb hby at_98) rfl ?_
    show Steps p.tables e below (T9.setTop (mkF m 100 #[.val (.int p0), .val (.int p1), .val (.int p2), .val (.ref (w 0)), .val (.ref b2_0), .val (.ref b3), .val (.int (0 : Int32)), .val (.int (1 : Int32)), .val (.int (1 : Int32)), .val (.int (0 : Int32)), .val (.int (0 : Int32)), .unset] [(.int (1 : Int32))])) _
    refine XS.ifNo X9.here hx rfl (hb hby at_100) rfl ((if0 _ _).trans (feq (by decide : ¬ ((1 : Int32) = (0 : Int32)))).1) ?_
    show Steps p.tables e below (T9.setTop (mkF m 103 #[.val (.int p0), .val (.int p1), .val (.int p2), .val (.ref (w 0)), .val (.ref b2_0), .val (.ref b3), .val (.int (0 : Int32)), .val (.int (1 : Int32)), .val (.int (1 : Int32)), .val (.int (0 : Int32)), .val (.int (0 : Int32)), .unset] [])) _
    refine XS.aloadN X9.here hx rfl (hb hby at_103) rfl rfl ?_
    show Steps p.tables e below (T9.setTop (mkF m 104 #[.val (.int p0), .val (.int p1), .val (.int p2), .val (.ref (w 0)), .val (.ref b2_0), .val (.ref b3), .val (.int (0 : Int32)), .val (.int (1 : Int32)), .val (.int (1 : Int32)), .val (.int (0 : Int32)), .val (.int (0 : Int32)), .unset] [(.ref (w 0))])) _
    refine XS.ifnonnullYes X9.here hx rfl (pc0 := 104) (pc' := 111) rfl (hb hby at_104) rfl (by decide) (by decide) ?_
    show Steps p.tables e below (T9.setTop (mkF m 111 #[.val (.int p0), .val (.int p1), .val (.int p2), .val (.ref (w 0)), .val (.ref b2_0), .val (.ref b3), .val (.int (0 : Int32)), .val (.int (1 : Int32)), .val (.int (1 : Int32)), .val (.int (0 : Int32)), .val (.int (0 : Int32)), .unset] [])) _
    refine XS.iconst X9.here hx rfl (hb hby at_111) ?_
    show Steps p.tables e below (T9.setTop (mkF m 112 #[.val (.int p0), .val (.int p1), .val (.int p2), .val (.ref (w 0)), .val (.ref b2_0), .val (.ref b3), .val (.int (0 : Int32)), .val (.int (1 : Int32)), .val (.int (1 : Int32)), .val (.int (0 : Int32)), .val (.int (0 : Int32)), .unset] [(.int (0 : Int32))])) _
    refine XS.istore X9.here hx rfl (hb hby at_112) rfl (l' := #[.val (.int p0), .val (.int p1), .val (.int p2), .val (.ref (w 0)), .val (.ref b2_0), .val (.ref b3), .val (.int (0 : Int32)), .val (.int (1 : Int32)), .val (.int (1 : Int32)), .val (.int (0 : Int32)), .val (.int (0 : Int32)), .val (.int (0 : Int32))]) rfl ?_
    show Steps p.tables e below (T9.setTop (mkF m 114 #[.val (.int p0), .val (.int p1), .val (.int p2), .val (.ref (w 0)), .val (.ref b2_0), .val (.ref b3), .val (.int (0 : Int32)), .val (.int (1 : Int32)), .val (.int (1 : Int32)), .val (.int (0 : Int32)), .val (.int (0 : Int32)), .val (.int (0 : Int32))] [])) _
    refine XS.iload X9.here hx rfl (hb hby at_114) rfl ?_
    show Steps p.tables e below (T9.setTop (mkF m 116 #[.val (.int p0), .val (.int p1), .val (.int p2), .val (.ref (w 0)), .val (.ref b2_0), .val (.ref b3), .val (.int (0 : Int32)), .val (.int (1 : Int32)), .val (.int (1 : Int32)), .val (.int (0 : Int32)), .val (.int (0 : Int32)), .val (.int (0 : Int32))] [(.int (0 : Int32))])) _
    refine XS.ifNo X9.here hx rfl (hb hby at_116) rfl ((if0 _ _).trans (teq (by decide : (0 : Int32) = (0 : Int32))).2) ?_
    show Steps p.tables e below (T9.setTop (mkF m 119 #[.val (.int p0), .val (.int p1), .val (.int p2), .val (.ref (w 0)), .val (.ref b2_0), .val (.ref b3), .val (.int (0 : Int32)), .val (.int (1 : Int32)), .val (.int (1 : Int32)), .val (.int (0 : Int32)), .val (.int (0 : Int32)), .val (.int (0 : Int32))] [])) _
    refine XS.iload X9.here hx rfl (hb hby at_119) rfl ?_
    show Steps p.tables e below (T9.setTop (mkF m 121 #[.val (.int p0), .val (.int p1), .val (.int p2), .val (.ref (w 0)), .val (.ref b2_0), .val (.ref b3), .val (.int (0 : Int32)), .val (.int (1 : Int32)), .val (.int (1 : Int32)), .val (.int (0 : Int32)), .val (.int (0 : Int32)), .val (.int (0 : Int32))] [(.int (0 : Int32))])) _
    refine XS.iload X9.here hx rfl (hb hby at_121) rfl ?_
    show Steps p.tables e below (T9.setTop (mkF m 123 #[.val (.int p0), .val (.int p1), .val (.int p2), .val (.ref (w 0)), .val (.ref b2_0), .val (.ref b3), .val (.int (0 : Int32)), .val (.int (1 : Int32)), .val (.int (1 : Int32)), .val (.int (0 : Int32)), .val (.int (0 : Int32)), .val (.int (0 : Int32))] [(.int (0 : Int32)), (.int (0 : Int32))])) _
    refine XS.icmpNo X9.here hx rfl (hb hby at_123) rfl (teq (by decide : (0 : Int32) = (0 : Int32))).2 ?_
    show Steps p.tables e below (T9.setTop (mkF m 126 #[.val (.int p0), .val (.int p1), .val (.int p2), .val (.ref (w 0)), .val (.ref b2_0), .val (.ref b3), .val (.int (0 : Int32)), .val (.int (1 : Int32)), .val (.int (1 : Int32)), .val (.int (0 : Int32)), .val (.int (0 : Int32)), .val (.int (0 : Int32))] [])) _
    refine XS.iload X9.here hx rfl (hb hby at_126) rfl ?_
    show Steps p.tables e below (T9.setTop (mkF m 128 #[.val (.int p0), .val (.int p1), .val (.int p2), .val (.ref (w 0)), .val (.ref b2_0), .val (.ref b3), .val (.int (0 : Int32)), .val (.int (1 : Int32)), .val (.int (1 : Int32)), .val (.int (0 : Int32)), .val (.int (0 : Int32)), .val (.int (0 : Int32))] [(.int (0 : Int32))])) _
    refine XS.iload X9.here hx rfl (hb hby at_128) rfl ?_
    show Steps p.tables e below (T9.setTop (mkF m 130 #[.val (.int p0), .val (.int p1), .val (.int p2), .val (.ref (w 0)), .val (.ref b2_0), .val (.ref b3), .val (.int (0 : Int32)), .val (.int (1 : Int32)), .val (.int (1 : Int32)), .val (.int (0 : Int32)), .val (.int (0 : Int32)), .val (.int (0 : Int32))] [(.int (0 : Int32)), (.int (0 : Int32))])) _
    refine XS.icmpNo X9.here hx rfl (hb hby at_130) rfl (teq (by decide : (0 : Int32) = (0 : Int32))).2 ?_
    show Steps p.tables e below (T9.setTop (mkF m 133 #[.val (.int p0), .val (.int p1), .val (.int p2), .val (.ref (w 0)), .val (.ref b2_0), .val (.ref b3), .val (.int (0 : Int32)), .val (.int (1 : Int32)), .val (.int (1 : Int32)), .val (.int (0 : Int32)), .val (.int (0 : Int32)), .val (.int (0 : Int32))] [])) _
    refine XS.iconst X9.here hx rfl (hb hby at_133) ?_
    show Steps p.tables e below (T9.setTop (mkF m 134 #[.val (.int p0), .val (.int p1), .val (.int p2), .val (.ref (w 0)), .val (.ref b2_0), .val (.ref b3), .val (.int (0 : Int32)), .val (.int (1 : Int32)), .val (.int (1 : Int32)), .val (.int (0 : Int32)), .val (.int (0 : Int32)), .val (.int (0 : Int32))] [(.int (1 : Int32))])) _
    refine XS.goto X9.here hx rfl (pc0 := 134) (pc' := 138) rfl (hb hby at_134) (by decide) (by decide) ?_
    show Steps p.tables e below (T9.setTop (mkF m 138 #[.val (.int p0), .val (.int p1), .val (.int p2), .val (.ref (w 0)), .val (.ref b2_0), .val (.ref b3), .val (.int (0 : Int32)), .val (.int (1 : Int32)), .val (.int (1 : Int32)), .val (.int (0 : Int32)), .val (.int (0 : Int32)), .val (.int (0 : Int32))] [(.int (1 : Int32))])) _
    exact retN X9 hx (t := .boolean) Bd.returns (by simp) (hb hby at_138) hr
  · show OL (some (.int (1 : Int32))) Z.heap.size _ T9.heap _
    exact ⟨rfl, N9⟩
set_option maxRecDepth 65536 in
set_option maxHeartbeats 40000000 in
theorem law_all (l : Launch) (Z : State) (a0 : Array Value) (hw : ∀ d ∈ tables_1, d.before a0 Z = true) (w : Nat → Addr) (kk : Nat → ClassId) (iw : Nat → Int32) (vw : Nat → Value) (hN : Wd Z w kk iw vw) (ws : List Jvm.Cond) (p0 : Int32) (p1 : Int32) (p2 : Int32) (h0 : Heap) (O0 : Old Z Z.heap.size h0) :
    MetFree l x (head1 (Jvm.Cond.code x code maxLocals ret :: ws) room_1) (fun a U => a = #[(.int p0), (.int p1), (.int p2)] ∧ Z.Warmed39 U.vm ∧ U.heap = h0) (fun _ _ _ _ _ => True) (fun _ U o U' => ∃ v L, o = .returned v ∧ OL (some (.int (1 : Int32))) Z.heap.size v U'.heap L ∧ FrameEnd U o U' L 16 128) := by
  rcases (own_split_0 p1) with hd0 | hd0 | hd0 | hd0
  · rcases (own_split_1 p0) with hd1 | hd1
    · by_cases hd2 : (p0 &&& (2 : Int32)) = (0 : Int32)
      · have hi4_0 : ¬ ((255 : Int32) < ((p2 &&& (255 : Int32)).toUInt32.toUInt16.toUInt32.toInt32)) := own_byte p2
        exact law_8 l Z a0 hw w kk iw vw hN ws p0 p1 p2 h0 O0 hd0 hi4_0 hd1 hd2
      · have hi4_0 : ¬ ((255 : Int32) < ((p2 &&& (255 : Int32)).toUInt32.toUInt16.toUInt32.toInt32)) := own_byte p2
        exact law_9 l Z a0 hw w kk iw vw hN ws p0 p1 p2 h0 O0 hd0 hi4_0 hd1 hd2
    · by_cases hd2 : (p0 &&& (2 : Int32)) = (0 : Int32)
      · have hi4_0 : ¬ ((255 : Int32) < ((p2 &&& (255 : Int32)).toUInt32.toUInt16.toUInt32.toInt32)) := own_byte p2
        exact law_12 l Z a0 hw w kk iw vw hN ws p0 p1 p2 h0 O0 hd0 hi4_0 hd1 hd2
      · have hi4_0 : ¬ ((255 : Int32) < ((p2 &&& (255 : Int32)).toUInt32.toUInt16.toUInt32.toInt32)) := own_byte p2
        exact law_14 l Z a0 hw w kk iw vw hN ws p0 p1 p2 h0 O0 hd0 hi4_0 hd1 hd2
  · rcases (own_split_1 p0) with hd1 | hd1
    · by_cases hd2 : (p0 &&& (2 : Int32)) = (0 : Int32)
      · have hi4_0 : ¬ ((255 : Int32) < ((p2 &&& (255 : Int32)).toUInt32.toUInt16.toUInt32.toInt32)) := own_byte p2
        exact law_18 l Z a0 hw w kk iw vw hN ws p0 p1 p2 h0 O0 hd0 hi4_0 hd1 hd2
      · have hi4_0 : ¬ ((255 : Int32) < ((p2 &&& (255 : Int32)).toUInt32.toUInt16.toUInt32.toInt32)) := own_byte p2
        exact law_19 l Z a0 hw w kk iw vw hN ws p0 p1 p2 h0 O0 hd0 hi4_0 hd1 hd2
    · by_cases hd2 : (p0 &&& (2 : Int32)) = (0 : Int32)
      · have hi4_0 : ¬ ((255 : Int32) < ((p2 &&& (255 : Int32)).toUInt32.toUInt16.toUInt32.toInt32)) := own_byte p2
        exact law_22 l Z a0 hw w kk iw vw hN ws p0 p1 p2 h0 O0 hd0 hi4_0 hd1 hd2
      · have hi4_0 : ¬ ((255 : Int32) < ((p2 &&& (255 : Int32)).toUInt32.toUInt16.toUInt32.toInt32)) := own_byte p2
        exact law_24 l Z a0 hw w kk iw vw hN ws p0 p1 p2 h0 O0 hd0 hi4_0 hd1 hd2
  · rcases (own_split_1 p0) with hd1 | hd1
    · by_cases hd2 : (p0 &&& (2 : Int32)) = (0 : Int32)
      · have hi4_0 : ¬ ((255 : Int32) < ((p2 &&& (255 : Int32)).toUInt32.toUInt16.toUInt32.toInt32)) := own_byte p2
        exact law_28 l Z a0 hw w kk iw vw hN ws p0 p1 p2 h0 O0 hd0 hi4_0 hd1 hd2
      · have hi4_0 : ¬ ((255 : Int32) < ((p2 &&& (255 : Int32)).toUInt32.toUInt16.toUInt32.toInt32)) := own_byte p2
        exact law_29 l Z a0 hw w kk iw vw hN ws p0 p1 p2 h0 O0 hd0 hi4_0 hd1 hd2
    · by_cases hd2 : (p0 &&& (2 : Int32)) = (0 : Int32)
      · have hi4_0 : ¬ ((255 : Int32) < ((p2 &&& (255 : Int32)).toUInt32.toUInt16.toUInt32.toInt32)) := own_byte p2
        exact law_32 l Z a0 hw w kk iw vw hN ws p0 p1 p2 h0 O0 hd0 hi4_0 hd1 hd2
      · have hi4_0 : ¬ ((255 : Int32) < ((p2 &&& (255 : Int32)).toUInt32.toUInt16.toUInt32.toInt32)) := own_byte p2
        exact law_34 l Z a0 hw w kk iw vw hN ws p0 p1 p2 h0 O0 hd0 hi4_0 hd1 hd2
  · rcases (own_split_1 p0) with hd1 | hd1
    · by_cases hd2 : (p0 &&& (2 : Int32)) = (0 : Int32)
      · have hi4_0 : ¬ ((255 : Int32) < ((p2 &&& (255 : Int32)).toUInt32.toUInt16.toUInt32.toInt32)) := own_byte p2
        exact law_38 l Z a0 hw w kk iw vw hN ws p0 p1 p2 h0 O0 hd0 hi4_0 hd1 hd2
      · have hi4_0 : ¬ ((255 : Int32) < ((p2 &&& (255 : Int32)).toUInt32.toUInt16.toUInt32.toInt32)) := own_byte p2
        exact law_39 l Z a0 hw w kk iw vw hN ws p0 p1 p2 h0 O0 hd0 hi4_0 hd1 hd2
    · by_cases hd2 : (p0 &&& (2 : Int32)) = (0 : Int32)
      · have hi4_0 : ¬ ((255 : Int32) < ((p2 &&& (255 : Int32)).toUInt32.toUInt16.toUInt32.toInt32)) := own_byte p2
        exact law_42 l Z a0 hw w kk iw vw hN ws p0 p1 p2 h0 O0 hd0 hi4_0 hd1 hd2
      · have hi4_0 : ¬ ((255 : Int32) < ((p2 &&& (255 : Int32)).toUInt32.toUInt16.toUInt32.toInt32)) := own_byte p2
        exact law_44 l Z a0 hw w kk iw vw hN ws p0 p1 p2 h0 O0 hd0 hi4_0 hd1 hd2
set_option maxRecDepth 65536 in
set_option maxHeartbeats 40000000 in
theorem comes_1 {Post : Tables → Env → Array Value → State → Outcome → State → Prop} (hpost : ∀ tb e args s v u, (limb_1_1.after args s (.returned v) u = true ∧ limb_1_2.after args s (.returned v) u = true ∧ True) → FrameEnd s (.returned v) u (Jvm.fieldLocs frame_1_writes args s ++ Jvm.arrayLocs frame_1_arrays args s ++ Jvm.staticLocs frame_1_statics s) 16 128 → Post tb e args s (.returned v) u) :
    ArmFor flags0 classFile x code maxLocals ret World_1 tables_1 room_1 Calls_1 rest_1 Pre_1 Post := by
  intro l hfl _ _ p e ha hc hk s m args below hf hA hF happ hP
  obtain ⟨hcalls, hrest, hpre⟩ := hP
  obtain ⟨-, -, -, hnamed, -, -, -, hat⟩ := (Spec.applies_iff hf).mp happ
  obtain ⟨hg, hn⟩ := and_e (Cond.before_iff.mp (show (Jvm.Cond.and given_1 narrow_1).before args s = true from hpre))
  obtain ⟨g1, g2⟩ := and_e hg
  obtain ⟨g3, g4⟩ := and_e g2
  obtain ⟨g5, g6⟩ := and_e g4
  obtain ⟨g7, g8⟩ := and_e hn
  obtain ⟨g9, g10⟩ := and_e g8
  obtain ⟨w0, w1, w2, rfl⟩ : ∃ w0 w1 w2 : Value, args = #[w0, w1, w2] := by
    have hs : args.size = 3 := by simpa [Cond.value, given_1] using g1
    obtain ⟨L⟩ := args
    match L, hs with
    | [w0, w1, w2], _ => exact ⟨w0, w1, w2, rfl⟩
  have hw := fun d (hd : d ∈ tables_1) => atoms_spec (ws := Jvm.Cond.code x code maxLocals ret :: tables_1) hat d (List.mem_cons_of_mem _ hd)
  have hfit : Fit s := fun {y c} hc i hi => by
    obtain ⟨ha, rfl⟩ := Array.getElem?_eq_some_iff.mp hc
    have q := List.all_eq_true.mp ((Array.all_eq_true_iff_forall_mem.mp hF) _ (Array.getElem_mem ha)) i (List.mem_range.mpr hi)
    simpa [Array.getElem?_eq_getElem hi] using q
  obtain ⟨i0, ei0⟩ := is_v g3
  obtain rfl : w0 = (.int i0) := Option.some.inj ei0
  obtain ⟨i1, ei1⟩ := is_v g5
  obtain rfl : w1 = (.int i1) := Option.some.inj ei1
  obtain ⟨i2, ei2⟩ := is_v g6
  obtain rfl : w2 = (.int i2) := Option.some.inj ei2
  obtain ⟨hsets, hown0⟩ := atoms_of _ (rest_1_c_eq ▸ (show rest_1_c.before _ s = true from hrest))
  obtain ⟨x0, v0⟩ := exa_v g7
  obtain ⟨x1, v1⟩ := exa_v g9
  obtain ⟨x2, v2⟩ := exa_v g10
  obtain ⟨ci0, vi0⟩ := is_v (Cond.before_iff.mp (hsets _ (List.mem_of_getElem? (i := 1) rfl)))
  obtain ⟨cr0, vr0, rr0⟩ := isR_v (Cond.before_iff.mp (hsets _ (List.mem_of_getElem? (i := 8) rfl)))
  have hN : Wd s (fun n => [x0, x1, x2].getD n 0) (fun n => [0, 0, 0].getD n 0) (fun n => [ci0].getD n 0) (fun n => [cr0].getD n .null) := ⟨Sta.start v0 (Or.inr ⟨(W hw 5 rfl), (W hw 6 rfl)⟩), Exa.start v0 g7, Sta.start v1 (Or.inr ⟨(W hw 5 rfl), (W hw 61 rfl)⟩), Exa.start v1 g9, Sta.start v2 (Or.inr ⟨(W hw 5 rfl), (W hw 63 rfl)⟩), Exa.start v2 g10, Sta.start vi0 (Or.inl (hsets _ (List.mem_of_getElem? (i := 0) rfl))), own_nz vi0 (Cond.before_iff.mp (hsets _ (List.mem_of_getElem? (i := 2) rfl))), Sta.start vr0 (Or.inl (hsets _ (List.mem_of_getElem? (i := 7) rfl))), rr0⟩
  obtain ⟨n, o, h1, h2, h3, _, L, rfl, ⟨rfl, N⟩, hq⟩ := law_all l s _ hw _ _ _ _ hN tables_1 i0 i1 i2 s.heap (Old.start s) p e ha hc hk s m _ below hf ((Spec.applies_iff_loose hf).mp happ).1 ⟨rfl, State.Warmed39.refl s, rfl⟩ trivial
  refine ⟨n, _, h1, h2, h3, hpost _ _ _ _ _ _ ⟨Cond.after_iff.mpr rfl, Cond.after_iff.mpr (eq_i res_at (Term.int_eval (1)) rfl), trivial⟩ ⟨hq.1, hq.2.1, (hq.2.2.sift fun y hy => Or.inr (N y hy)).mono (by decide) (by decide)⟩⟩
theorem main_1_1 : Claimed_1_1 := comes_1 fun _ _ _ _ _ _ h hF => ⟨h.1, hF⟩
theorem main_1_2 : Claimed_1_2 := comes_1 fun _ _ _ _ _ _ h hF => ⟨h.2.1, hF⟩
end Jvm.Pilot.@@N@@
namespace Jvm.Pilot.@@N@@
open Jvm Jvm.ClassFile Sem Op Lib Jvm.Free Jvm.Stand Jvm.Pilot.@@N@@.Jvm.D
/-! MADE BY PROGRAM (witnessworld.py) out of the Statement's table words and the real class files: 19 classes; the members and pool entries that the words name. The judged class is class 1, her method 1. -/
namespace start1
open Jvm.ClassFile
def u (s : String) : CpInfo := .utf8 (stringToUtf16 s)
/-- a pool by its gaps: so many unusable entries, then the entry; so many at the end -/
def gap : Nat → List CpInfo → List CpInfo
  | 0, r => r
  | n + 1, r => .unusable :: gap n r
def poolList (es : List (Nat × CpInfo)) (last : Nat) : List CpInfo := es.foldr (fun e r => gap e.1 (e.2 :: r)) (gap last [])
def pool (es : List (Nat × CpInfo)) (last : Nat) : Array CpInfo := ⟨poolList es last⟩
def fileOf (pool : Array CpInfo) (this : Nat) (attrs : Array Attribute := #[]) (ms : Array MethodInfo := #[]) (fl : Nat := 33) (sup : Nat := 0) (ifs : Array Nat := #[]) (fds : Array FieldInfo := #[]) : ClassFile where
  minorVersion := 0
  majorVersion := 65
  constantPool := pool
  accessFlags := fl
  thisClass := this
  superClass := sup
  interfaces := ifs
  fields := fds
  methods := ms
  attributes := attrs
def plain (name : String) (sup : Option ClassId) : Class where
  name := name
  kind := .ordinary
  loader := none
  accessFlags := 33
  super := sup
  interfaces := #[]
  cf := none
  fields := #[]
  methods := #[]
  instanceTypes := #[]
  staticTypes := #[]
  resolved := #[]
  callSites := []
  init := .initialized
  statics := none
  mirror := none

def pool0 : Array CpInfo := pool [(5, u "<init>"), (0, u "()V"), (1, .class_ 10), (1, u "java/lang/Object")] 113

def k0c0 : Code := { maxStack := 0, maxLocals := 1, code := object_method_1_code, exceptionTable := #[], attributes := #[] }
def k0m0 : Method := { name := "<init>", desc := "()V", sig := { parameters := [], returnType := none }, accessFlags := 1, code := some k0c0 }
/-- java/lang/Object -/
def k0 : Class := { plain "java/lang/Object" none with
  accessFlags := 33
  interfaces := #[]
  cf := some (fileOf pool0 8 #[] #[{ accessFlags := 1, nameIndex := 5, descriptorIndex := 6, attributes := #[] }] 33 0 #[] #[])
  fields := #[]
  methods := #[k0m0]
  instanceTypes := #[]
  staticTypes := #[]
  resolved := Array.replicate 124 none
  statics := none }

def pool1 : Array CpInfo := pool [(2, .class_ 4), (1, u "java/lang/Object"), (0, u "<init>"), (0, u "()V"), (0, .methodref 8 9), (0, .class_ 10), (0, .nameAndType 11 12), (0, u "com/example/netloom/netloom/xml/OpenAnnotationsCarriesGraphicsPinLaw"), (0, u "pick"), (0, u "(I)Lcom/example/netloom/netloom/xml/XmlGraphics$Form;"), (0, .methodref 14 15), (0, .class_ 16), (0, .nameAndType 17 18), (0, u "java/lang/String"), (0, u "valueOf"), (0, u "(C)Ljava/lang/String;"), (0, .class_ 20), (0, u "com/example/netloom/netloom/xml/NetReader$OpenAnnotations"), (0, .methodref 19 22), (0, .nameAndType 5 23), (0, u "(Ljava/lang/String;Lcom/example/netloom/netloom/xml/XmlGraphics$Form;Ljava/util/Set;)V"), (0, .methodref 19 25), (0, .nameAndType 26 27), (0, u "carriesGraphics"), (0, u "()Z"), (0, .methodref 19 29), (0, .nameAndType 30 6), (0, u "carryGraphics"), (0, .fieldref 32 33), (0, .class_ 34), (0, .nameAndType 35 36), (0, u "com/example/netloom/netloom/xml/XmlGraphics$Form"), (0, u "NODE"), (0, u "Lcom/example/netloom/netloom/xml/XmlGraphics$Form;"), (0, .fieldref 32 38), (0, .nameAndType 39 36), (0, u "EDGE"), (0, .fieldref 32 41), (0, .nameAndType 42 36), (0, u "ANNOTATION"), (2, u "law"), (0, u "(III)Z")] 10

def k1m0 : Method := { name := "<init>", desc := "()V", sig := { parameters := [], returnType := none }, accessFlags := 2, code := none }
def k1c1 : Code := { maxStack := 5, maxLocals := 12, code := code, exceptionTable := #[], attributes := #[] }
def k1m1 : Method := { name := "law", desc := "(III)Z", sig := { parameters := [.int, .int, .int], returnType := some .boolean }, accessFlags := 9, code := some k1c1 }
def k1c2 : Code := { maxStack := 2, maxLocals := 1, code := method_3_code, exceptionTable := #[], attributes := #[] }
def k1m2 : Method := { name := "pick", desc := "(I)Lcom/example/netloom/netloom/xml/XmlGraphics$Form;", sig := { parameters := [.int], returnType := some (.object "com/example/netloom/netloom/xml/XmlGraphics$Form") }, accessFlags := 10, code := some k1c2 }
/-- com/example/netloom/netloom/xml/OpenAnnotationsCarriesGraphicsPinLaw -/
def k1 : Class := { plain "com/example/netloom/netloom/xml/OpenAnnotationsCarriesGraphicsPinLaw" (some 0) with
  accessFlags := 49
  interfaces := #[]
  cf := some (fileOf pool1 8 #[] #[{ accessFlags := 2, nameIndex := 5, descriptorIndex := 6, attributes := #[] }, { accessFlags := 9, nameIndex := 45, descriptorIndex := 46, attributes := #[] }, { accessFlags := 10, nameIndex := 11, descriptorIndex := 12, attributes := #[] }] 49 2 #[] #[])
  fields := #[]
  methods := #[k1m0, k1m1, k1m2]
  instanceTypes := #[]
  staticTypes := #[]
  resolved := Array.replicate 57 none
  statics := none }

def pool2 : Array CpInfo := pool [(1, .class_ 2), (0, u "java/lang/constant/Constable"), (0, .class_ 4), (0, u "java/lang/Object")] 6

/-- java/lang/constant/Constable -/
def k2 : Class := { plain "java/lang/constant/Constable" (some 0) with
  accessFlags := 1537
  interfaces := #[]
  cf := some (fileOf pool2 1 #[] #[] 1537 3 #[] #[])
  fields := #[]
  methods := #[]
  instanceTypes := #[]
  staticTypes := #[]
  resolved := Array.replicate 11 none
  statics := none }

def pool3 : Array CpInfo := pool [(1, .class_ 2), (0, u "java/lang/Comparable"), (0, .class_ 4), (0, u "java/lang/Object")] 7

/-- java/lang/Comparable -/
def k3 : Class := { plain "java/lang/Comparable" (some 0) with
  accessFlags := 1537
  interfaces := #[]
  cf := some (fileOf pool3 1 #[] #[] 1537 3 #[] #[])
  fields := #[]
  methods := #[]
  instanceTypes := #[]
  staticTypes := #[]
  resolved := Array.replicate 12 none
  statics := none }

def pool4 : Array CpInfo := pool [(1, .class_ 2), (0, u "java/io/Serializable"), (0, .class_ 4), (0, u "java/lang/Object")] 2

/-- java/io/Serializable -/
def k4 : Class := { plain "java/io/Serializable" (some 0) with
  accessFlags := 1537
  interfaces := #[]
  cf := some (fileOf pool4 1 #[] #[] 1537 3 #[] #[])
  fields := #[]
  methods := #[]
  instanceTypes := #[]
  staticTypes := #[]
  resolved := Array.replicate 7 none
  statics := none }

def pool5 : Array CpInfo := pool [(2, .class_ 4), (1, u "java/lang/Enum"), (0, u "name"), (0, u "Ljava/lang/String;"), (2, u "ordinal"), (0, u "I"), (1, .class_ 14), (1, u "java/lang/Object"), (4, u "hash"), (86, .class_ 108), (1, u "java/lang/Enum$EnumDesc"), (2, .class_ 112), (0, u "java/lang/constant/Constable"), (0, .class_ 114), (0, u "java/lang/Comparable"), (0, .class_ 116), (0, u "java/io/Serializable")] 87

/-- java/lang/Enum -/
def k5 : Class := { plain "java/lang/Enum" (some 0) with
  accessFlags := 1057
  interfaces := #[2, 3, 4]
  cf := some (fileOf pool5 2 #[.nestMembers #[106]] #[] 1057 12 #[111, 113, 115] #[{ accessFlags := 18, nameIndex := 5, descriptorIndex := 6, attributes := #[] }, { accessFlags := 18, nameIndex := 9, descriptorIndex := 10, attributes := #[] }, { accessFlags := 2, nameIndex := 19, descriptorIndex := 10, attributes := #[] }])
  fields := #[{ name := "name", type := (.object "java/lang/String"), accessFlags := 18, slot := 0, constantValue := 0 }, { name := "ordinal", type := .int, accessFlags := 18, slot := 1, constantValue := 0 }, { name := "hash", type := .int, accessFlags := 2, slot := 2, constantValue := 0 }]
  methods := #[]
  instanceTypes := #[(.object "java/lang/String"), .int, .int]
  staticTypes := #[]
  resolved := Array.replicate 204 none
  statics := none }

def pool6 : Array CpInfo := pool [(1, .class_ 2), (0, u "com/example/netloom/netloom/xml/XmlGraphics$Form"), (2, u "NODE"), (0, u "Lcom/example/netloom/netloom/xml/XmlGraphics$Form;"), (2, u "EDGE"), (2, u "ANNOTATION"), (2, u "$VALUES"), (0, u "[Lcom/example/netloom/netloom/xml/XmlGraphics$Form;"), (6, .class_ 25), (1, u "java/lang/Enum"), (8, u "parts"), (0, u "Ljava/util/Set;"), (45, .class_ 82), (0, u "com/example/netloom/netloom/xml/XmlGraphics")] 2

/-- com/example/netloom/netloom/xml/XmlGraphics$Form -/
def k6 : Class := { plain "com/example/netloom/netloom/xml/XmlGraphics$Form" (some 5) with
  accessFlags := 16433
  interfaces := #[]
  cf := some (fileOf pool6 1 #[.nestHost 81] #[] 16433 23 #[] #[{ accessFlags := 16409, nameIndex := 5, descriptorIndex := 6, attributes := #[] }, { accessFlags := 16409, nameIndex := 9, descriptorIndex := 6, attributes := #[] }, { accessFlags := 16409, nameIndex := 12, descriptorIndex := 6, attributes := #[] }, { accessFlags := 18, nameIndex := 34, descriptorIndex := 35, attributes := #[] }, { accessFlags := 4122, nameIndex := 15, descriptorIndex := 16, attributes := #[] }])
  fields := #[{ name := "NODE", type := (.object "com/example/netloom/netloom/xml/XmlGraphics$Form"), accessFlags := 16409, slot := 0, constantValue := 0 }, { name := "EDGE", type := (.object "com/example/netloom/netloom/xml/XmlGraphics$Form"), accessFlags := 16409, slot := 1, constantValue := 0 }, { name := "ANNOTATION", type := (.object "com/example/netloom/netloom/xml/XmlGraphics$Form"), accessFlags := 16409, slot := 2, constantValue := 0 }, { name := "parts", type := (.object "java/util/Set"), accessFlags := 18, slot := 3, constantValue := 0 }, { name := "$VALUES", type := (.array (.object "com/example/netloom/netloom/xml/XmlGraphics$Form")), accessFlags := 4122, slot := 3, constantValue := 0 }]
  methods := #[]
  instanceTypes := #[(.object "java/lang/String"), .int, .int, (.object "java/util/Set")]
  staticTypes := #[(.object "com/example/netloom/netloom/xml/XmlGraphics$Form"), (.object "com/example/netloom/netloom/xml/XmlGraphics$Form"), (.object "com/example/netloom/netloom/xml/XmlGraphics$Form"), (.array (.object "com/example/netloom/netloom/xml/XmlGraphics$Form"))]
  resolved := Array.replicate 85 none
  statics := some 0 }

def pool7 : Array CpInfo := pool [(2, .class_ 4), (1, u "java/lang/CharSequence"), (42, .class_ 48), (0, u "java/lang/CharSequence$1CodePointIterator"), (10, .class_ 60), (0, u "java/lang/CharSequence$1CharIterator"), (5, .class_ 67), (0, u "java/lang/Object")] 63

/-- java/lang/CharSequence -/
def k7 : Class := { plain "java/lang/CharSequence" (some 0) with
  accessFlags := 1537
  interfaces := #[]
  cf := some (fileOf pool7 2 #[.nestMembers #[47, 59]] #[] 1537 66 #[] #[])
  fields := #[]
  methods := #[]
  instanceTypes := #[]
  staticTypes := #[]
  resolved := Array.replicate 131 none
  statics := none }

def pool8 : Array CpInfo := pool [(1, .class_ 2), (0, u "java/lang/constant/ConstantDesc"), (0, .class_ 4), (0, u "java/lang/Object")] 32

/-- java/lang/constant/ConstantDesc -/
def k8 : Class := { plain "java/lang/constant/ConstantDesc" (some 0) with
  accessFlags := 1537
  interfaces := #[]
  cf := some (fileOf pool8 1 #[] #[] 1537 3 #[] #[])
  fields := #[]
  methods := #[]
  instanceTypes := #[]
  staticTypes := #[]
  resolved := Array.replicate 37 none
  statics := none }

def pool9 : Array CpInfo := pool [(1, .methodref 2 3), (0, .class_ 4), (0, .nameAndType 5 6), (0, u "java/lang/Object"), (0, u "<init>"), (0, u "()V"), (2, .fieldref 10 11), (0, .class_ 12), (0, .nameAndType 13 14), (0, u "java/lang/String"), (0, u "value"), (0, u "[B"), (0, .fieldref 10 16), (0, .nameAndType 17 18), (0, u "coder"), (0, u "B"), (2, u "hash"), (0, u "I"), (2, u "hashIsZero"), (0, u "Z"), (11, .fieldref 10 39), (0, .nameAndType 40 26), (0, u "COMPACT_STRINGS"), (12, u "toBytes"), (53, .class_ 109), (1, u "java/lang/StringLatin1"), (99, .methodref 10 210), (0, .nameAndType 5 211), (0, u "([BB)V"), (157, u "(C)Z"), (205, .class_ 576), (0, u "java/lang/CharSequence"), (22, u "CASE_INSENSITIVE_ORDER"), (0, u "Ljava/util/Comparator;"), (181, u "valueOf"), (0, u "(C)Ljava/lang/String;"), (231, .methodref 107 1016), (0, .nameAndType 1017 369), (0, u "canEncode"), (0, .methodref 107 1019), (0, .nameAndType 53 1020), (0, u "(C)[B"), (80, u "serialPersistentFields"), (0, u "[Ljava/io/ObjectStreamField;"), (0, .class_ 1104), (0, u "java/lang/String$CaseInsensitiveComparator"), (1, .class_ 1107), (0, u "java/io/Serializable"), (0, .class_ 1109), (0, u "java/lang/Comparable"), (0, .class_ 1111), (0, u "java/lang/constant/Constable"), (0, .class_ 1113), (0, u "java/lang/constant/ConstantDesc"), (2, u "serialVersionUID"), (0, u "J"), (3, u "REPL"), (0, u "C"), (2, u "LATIN1"), (1, u "UTF16")] 323

def k9m0 : Method := { name := "<init>", desc := "()V", sig := { parameters := [], returnType := none }, accessFlags := 1, code := none }
def k9c1 : Code := { maxStack := 4, maxLocals := 1, code := jdk_42_method_139_code, exceptionTable := #[], attributes := #[] }
def k9m1 : Method := { name := "valueOf", desc := "(C)Ljava/lang/String;", sig := { parameters := [.char], returnType := some (.object "java/lang/String") }, accessFlags := 9, code := some k9c1 }
def k9c2 : Code := { maxStack := 2, maxLocals := 3, code := jdk_42_method_151_code, exceptionTable := #[], attributes := #[] }
def k9m2 : Method := { name := "<init>", desc := "([BB)V", sig := { parameters := [(.array .byte), .byte], returnType := none }, accessFlags := 0, code := some k9c2 }
/-- java/lang/String -/
def k9 : Class := { plain "java/lang/String" (some 0) with
  accessFlags := 49
  interfaces := #[4, 3, 7, 2, 8]
  cf := some (fileOf pool9 10 #[.nestMembers #[1103]] #[{ accessFlags := 1, nameIndex := 5, descriptorIndex := 6, attributes := #[] }, { accessFlags := 9, nameIndex := 782, descriptorIndex := 783, attributes := #[] }, { accessFlags := 0, nameIndex := 5, descriptorIndex := 211, attributes := #[] }] 49 2 #[1106, 1108, 575, 1110, 1112] #[{ accessFlags := 18, nameIndex := 13, descriptorIndex := 14, attributes := #[] }, { accessFlags := 18, nameIndex := 17, descriptorIndex := 18, attributes := #[] }, { accessFlags := 2, nameIndex := 21, descriptorIndex := 22, attributes := #[] }, { accessFlags := 2, nameIndex := 25, descriptorIndex := 26, attributes := #[] }, { accessFlags := 26, nameIndex := 1116, descriptorIndex := 1117, attributes := #[] }, { accessFlags := 24, nameIndex := 40, descriptorIndex := 26, attributes := #[] }, { accessFlags := 26, nameIndex := 1101, descriptorIndex := 1102, attributes := #[] }, { accessFlags := 26, nameIndex := 1121, descriptorIndex := 1122, attributes := #[] }, { accessFlags := 25, nameIndex := 599, descriptorIndex := 600, attributes := #[] }, { accessFlags := 24, nameIndex := 1125, descriptorIndex := 18, attributes := #[] }, { accessFlags := 24, nameIndex := 1127, descriptorIndex := 18, attributes := #[] }])
  fields := #[{ name := "value", type := (.array .byte), accessFlags := 18, slot := 0, constantValue := 0 }, { name := "coder", type := .byte, accessFlags := 18, slot := 1, constantValue := 0 }, { name := "hash", type := .int, accessFlags := 2, slot := 2, constantValue := 0 }, { name := "hashIsZero", type := .boolean, accessFlags := 2, slot := 3, constantValue := 0 }, { name := "serialVersionUID", type := .long, accessFlags := 26, slot := 0, constantValue := 0 }, { name := "COMPACT_STRINGS", type := .boolean, accessFlags := 24, slot := 1, constantValue := 0 }, { name := "serialPersistentFields", type := (.array (.object "java/io/ObjectStreamField")), accessFlags := 26, slot := 2, constantValue := 0 }, { name := "REPL", type := .char, accessFlags := 26, slot := 3, constantValue := 0 }, { name := "CASE_INSENSITIVE_ORDER", type := (.object "java/util/Comparator"), accessFlags := 25, slot := 4, constantValue := 0 }, { name := "LATIN1", type := .byte, accessFlags := 24, slot := 5, constantValue := 0 }, { name := "UTF16", type := .byte, accessFlags := 24, slot := 6, constantValue := 0 }]
  methods := #[k9m0, k9m1, k9m2]
  instanceTypes := #[(.array .byte), .byte, .int, .boolean]
  staticTypes := #[.long, .boolean, (.array (.object "java/io/ObjectStreamField")), .char, (.object "java/util/Comparator"), .byte, .byte]
  resolved := Array.replicate 1451 none
  statics := some 1 }

def pool10 : Array CpInfo := pool [(4, .class_ 6), (1, u "java/lang/Object"), (0, u "<init>"), (0, u "()V"), (5, .class_ 16), (1, u "java/lang/StringLatin1"), (73, u "canEncode"), (14, u "(C)Z"), (15, u "$assertionsDisabled"), (0, u "Z"), (98, .class_ 223), (1, u "java/lang/StringLatin1$LinesSpliterator"), (156, u "toBytes"), (1, u "(C)[B"), (7, .class_ 391), (0, u "java/lang/StringLatin1$CharsSpliterator")] 3

def k10m0 : Method := { name := "<init>", desc := "()V", sig := { parameters := [], returnType := none }, accessFlags := 0, code := none }
def k10c1 : Code := { maxStack := 2, maxLocals := 1, code := jdk_43_method_3_code, exceptionTable := #[], attributes := #[] }
def k10m1 : Method := { name := "canEncode", desc := "(C)Z", sig := { parameters := [.char], returnType := some .boolean }, accessFlags := 9, code := some k10c1 }
def k10c2 : Code := { maxStack := 4, maxLocals := 1, code := jdk_43_method_46_code, exceptionTable := #[], attributes := #[] }
def k10m2 : Method := { name := "toBytes", desc := "(C)[B", sig := { parameters := [.char], returnType := some (.array .byte) }, accessFlags := 9, code := some k10c2 }
/-- java/lang/StringLatin1 -/
def k10 : Class := { plain "java/lang/StringLatin1" (some 0) with
  accessFlags := 48
  interfaces := #[]
  cf := some (fileOf pool10 14 #[.nestMembers #[390, 221]] #[{ accessFlags := 0, nameIndex := 7, descriptorIndex := 8, attributes := #[] }, { accessFlags := 9, nameIndex := 90, descriptorIndex := 105, attributes := #[] }, { accessFlags := 9, nameIndex := 380, descriptorIndex := 382, attributes := #[] }] 48 4 #[] #[{ accessFlags := 4120, nameIndex := 121, descriptorIndex := 122, attributes := #[] }])
  fields := #[{ name := "$assertionsDisabled", type := .boolean, accessFlags := 4120, slot := 0, constantValue := 0 }]
  methods := #[k10m0, k10m1, k10m2]
  instanceTypes := #[]
  staticTypes := #[.boolean]
  resolved := Array.replicate 395 none
  statics := none }

def pool11 : Array CpInfo := pool [(3, .methodref 4 5), (0, .class_ 6), (0, .nameAndType 7 8), (0, u "java/lang/Object"), (0, u "<init>"), (0, u "()V"), (0, .fieldref 10 11), (0, .class_ 12), (0, .nameAndType 13 14), (0, u "com/example/netloom/netloom/xml/NetReader$OpenAnnotations"), (0, u "owner"), (0, u "Ljava/lang/String;"), (0, .fieldref 10 16), (0, .nameAndType 17 18), (0, u "form"), (0, u "Lcom/example/netloom/netloom/xml/XmlGraphics$Form;"), (0, .fieldref 10 20), (0, .nameAndType 21 22), (0, u "carries"), (0, u "Ljava/util/Set;"), (0, .fieldref 10 24), (0, .nameAndType 25 26), (0, u "graphicsCarried"), (0, u "Z"), (0, .fieldref 10 28), (0, .nameAndType 29 30), (0, u "graphics"), (0, u "Lcom/example/netloom/netloom/net/Graphics;"), (13, u "(Ljava/lang/String;Lcom/example/netloom/netloom/xml/XmlGraphics$Form;Ljava/util/Set;)V"), (6, u "texts"), (0, u "Ljava/util/Map;"), (17, u "text"), (0, u "Lcom/example/netloom/netloom/xml/NetReader$OpenAnnotations;"), (2, u "attributes"), (0, u "Ljava/util/List;"), (10, u "toolInfos"), (2, u "unknown"), (13, u "()Z"), (2, u "labels"), (25, .class_ 134), (1, u "com/example/netloom/netloom/xml/NetReader"), (27, u "carryGraphics"), (0, u "carriesGraphics")] 32

def k11c0 : Code := { maxStack := 2, maxLocals := 4, code := prog_77_method_1_code, exceptionTable := #[], attributes := #[] }
def k11m0 : Method := { name := "<init>", desc := "(Ljava/lang/String;Lcom/example/netloom/netloom/xml/XmlGraphics$Form;Ljava/util/Set;)V", sig := { parameters := [(.object "java/lang/String"), (.object "com/example/netloom/netloom/xml/XmlGraphics$Form"), (.object "java/util/Set")], returnType := none }, accessFlags := 1, code := some k11c0 }
def k11c1 : Code := { maxStack := 2, maxLocals := 1, code := prog_77_method_2_code, exceptionTable := #[], attributes := #[] }
def k11m1 : Method := { name := "carryGraphics", desc := "()V", sig := { parameters := [], returnType := none }, accessFlags := 1, code := some k11c1 }
def k11c2 : Code := { maxStack := 1, maxLocals := 1, code := prog_77_method_3_code, exceptionTable := #[], attributes := #[] }
def k11m2 : Method := { name := "carriesGraphics", desc := "()Z", sig := { parameters := [], returnType := some .boolean }, accessFlags := 0, code := some k11c2 }
/-- com/example/netloom/netloom/xml/NetReader$OpenAnnotations -/
def k11 : Class := { plain "com/example/netloom/netloom/xml/NetReader$OpenAnnotations" (some 0) with
  accessFlags := 49
  interfaces := #[]
  cf := some (fileOf pool11 10 #[.nestHost 132] #[{ accessFlags := 1, nameIndex := 7, descriptorIndex := 44, attributes := #[] }, { accessFlags := 1, nameIndex := 162, descriptorIndex := 8, attributes := #[] }, { accessFlags := 0, nameIndex := 163, descriptorIndex := 103, attributes := #[] }] 49 4 #[] #[{ accessFlags := 18, nameIndex := 13, descriptorIndex := 14, attributes := #[] }, { accessFlags := 18, nameIndex := 17, descriptorIndex := 18, attributes := #[] }, { accessFlags := 18, nameIndex := 21, descriptorIndex := 22, attributes := #[] }, { accessFlags := 2, nameIndex := 29, descriptorIndex := 30, attributes := #[] }, { accessFlags := 2, nameIndex := 86, descriptorIndex := 75, attributes := #[] }, { accessFlags := 2, nameIndex := 89, descriptorIndex := 75, attributes := #[] }, { accessFlags := 2, nameIndex := 74, descriptorIndex := 75, attributes := #[] }, { accessFlags := 2, nameIndex := 106, descriptorIndex := 52, attributes := #[] }, { accessFlags := 2, nameIndex := 70, descriptorIndex := 71, attributes := #[] }, { accessFlags := 2, nameIndex := 51, descriptorIndex := 52, attributes := #[] }, { accessFlags := 2, nameIndex := 25, descriptorIndex := 26, attributes := #[] }])
  fields := #[{ name := "owner", type := (.object "java/lang/String"), accessFlags := 18, slot := 0, constantValue := 0 }, { name := "form", type := (.object "com/example/netloom/netloom/xml/XmlGraphics$Form"), accessFlags := 18, slot := 1, constantValue := 0 }, { name := "carries", type := (.object "java/util/Set"), accessFlags := 18, slot := 2, constantValue := 0 }, { name := "graphics", type := (.object "com/example/netloom/netloom/net/Graphics"), accessFlags := 2, slot := 3, constantValue := 0 }, { name := "toolInfos", type := (.object "java/util/List"), accessFlags := 2, slot := 4, constantValue := 0 }, { name := "unknown", type := (.object "java/util/List"), accessFlags := 2, slot := 5, constantValue := 0 }, { name := "attributes", type := (.object "java/util/List"), accessFlags := 2, slot := 6, constantValue := 0 }, { name := "labels", type := (.object "java/util/Map"), accessFlags := 2, slot := 7, constantValue := 0 }, { name := "text", type := (.object "com/example/netloom/netloom/xml/NetReader$OpenAnnotations"), accessFlags := 2, slot := 8, constantValue := 0 }, { name := "texts", type := (.object "java/util/Map"), accessFlags := 2, slot := 9, constantValue := 0 }, { name := "graphicsCarried", type := .boolean, accessFlags := 2, slot := 10, constantValue := 0 }]
  methods := #[k11m0, k11m1, k11m2]
  instanceTypes := #[(.object "java/lang/String"), (.object "com/example/netloom/netloom/xml/XmlGraphics$Form"), (.object "java/util/Set"), (.object "com/example/netloom/netloom/net/Graphics"), (.object "java/util/List"), (.object "java/util/List"), (.object "java/util/List"), (.object "java/util/Map"), (.object "com/example/netloom/netloom/xml/NetReader$OpenAnnotations"), (.object "java/util/Map"), .boolean]
  staticTypes := #[]
  resolved := Array.replicate 196 none
  statics := none }

def pool12 : Array CpInfo := pool [(2, .class_ 4), (1, u "java/lang/Object"), (0, u "<init>"), (0, u "()V"), (17, .class_ 26), (1, u "jdk/internal/util/Preconditions"), (28, .class_ 56), (0, u "jdk/internal/util/Preconditions$4"), (57, .class_ 115), (0, u "jdk/internal/util/Preconditions$1"), (7, u "SIOOBE_FORMATTER"), (0, u "Ljava/util/function/BiFunction;"), (0, .class_ 126), (0, u "jdk/internal/util/Preconditions$2"), (3, u "AIOOBE_FORMATTER"), (0, .class_ 132), (0, u "jdk/internal/util/Preconditions$3"), (3, u "IOOBE_FORMATTER")] 57

def k12m0 : Method := { name := "<init>", desc := "()V", sig := { parameters := [], returnType := none }, accessFlags := 1, code := none }
/-- jdk/internal/util/Preconditions -/
def k12 : Class := { plain "jdk/internal/util/Preconditions" (some 0) with
  accessFlags := 33
  interfaces := #[]
  cf := some (fileOf pool12 24 #[.nestMembers #[55, 131, 125, 114]] #[{ accessFlags := 1, nameIndex := 5, descriptorIndex := 6, attributes := #[] }] 33 2 #[] #[{ accessFlags := 25, nameIndex := 123, descriptorIndex := 124, attributes := #[] }, { accessFlags := 25, nameIndex := 130, descriptorIndex := 124, attributes := #[] }, { accessFlags := 25, nameIndex := 136, descriptorIndex := 124, attributes := #[] }])
  fields := #[{ name := "SIOOBE_FORMATTER", type := (.object "java/util/function/BiFunction"), accessFlags := 25, slot := 0, constantValue := 0 }, { name := "AIOOBE_FORMATTER", type := (.object "java/util/function/BiFunction"), accessFlags := 25, slot := 1, constantValue := 0 }, { name := "IOOBE_FORMATTER", type := (.object "java/util/function/BiFunction"), accessFlags := 25, slot := 2, constantValue := 0 }]
  methods := #[k12m0]
  instanceTypes := #[]
  staticTypes := #[(.object "java/util/function/BiFunction"), (.object "java/util/function/BiFunction"), (.object "java/util/function/BiFunction")]
  resolved := Array.replicate 194 none
  statics := some 2 }

def pool13 : Array CpInfo := pool [(9, u "<init>"), (6, .class_ 18), (1, u "java/lang/Object"), (0, u "()V"), (1, .class_ 23), (1, u "jdk/internal/util/ArraysSupport"), (0, u "LOG2_ARRAY_LONG_INDEX_SCALE"), (0, u "I"), (2, u "U"), (0, u "Ljdk/internal/misc/Unsafe;"), (8, u "BIG_ENDIAN"), (0, u "Z"), (8, u "LOG2_BYTE_BIT_SIZE"), (4, u "LOG2_ARRAY_INT_INDEX_SCALE"), (54, u "JLA"), (0, u "Ljdk/internal/access/JavaLangAccess;"), (11, u "LOG2_ARRAY_BOOLEAN_INDEX_SCALE"), (9, u "LOG2_ARRAY_BYTE_INDEX_SCALE"), (5, u "LOG2_ARRAY_CHAR_INDEX_SCALE"), (5, u "LOG2_ARRAY_SHORT_INDEX_SCALE"), (18, u "LOG2_ARRAY_FLOAT_INDEX_SCALE"), (24, u "LOG2_ARRAY_DOUBLE_INDEX_SCALE"), (89, u "T_BOOLEAN"), (2, u "T_CHAR"), (1, u "T_FLOAT"), (1, u "T_DOUBLE"), (1, u "T_BYTE"), (1, u "T_SHORT"), (1, u "T_INT"), (1, u "T_LONG"), (1, u "SOFT_MAX_ARRAY_LENGTH")] 83

def k13m0 : Method := { name := "<init>", desc := "()V", sig := { parameters := [], returnType := none }, accessFlags := 2, code := none }
/-- jdk/internal/util/ArraysSupport -/
def k13 : Class := { plain "jdk/internal/util/ArraysSupport" (some 0) with
  accessFlags := 33
  interfaces := #[]
  cf := some (fileOf pool13 21 #[] #[{ accessFlags := 2, nameIndex := 9, descriptorIndex := 19, attributes := #[] }] 33 16 #[] #[{ accessFlags := 24, nameIndex := 28, descriptorIndex := 29, attributes := #[] }, { accessFlags := 26, nameIndex := 38, descriptorIndex := 39, attributes := #[] }, { accessFlags := 25, nameIndex := 121, descriptorIndex := 25, attributes := #[] }, { accessFlags := 25, nameIndex := 131, descriptorIndex := 25, attributes := #[] }, { accessFlags := 25, nameIndex := 137, descriptorIndex := 25, attributes := #[] }, { accessFlags := 25, nameIndex := 143, descriptorIndex := 25, attributes := #[] }, { accessFlags := 25, nameIndex := 53, descriptorIndex := 25, attributes := #[] }, { accessFlags := 25, nameIndex := 24, descriptorIndex := 25, attributes := #[] }, { accessFlags := 25, nameIndex := 162, descriptorIndex := 25, attributes := #[] }, { accessFlags := 25, nameIndex := 187, descriptorIndex := 25, attributes := #[] }, { accessFlags := 26, nameIndex := 48, descriptorIndex := 25, attributes := #[] }, { accessFlags := 25, nameIndex := 277, descriptorIndex := 25, attributes := #[] }, { accessFlags := 25, nameIndex := 280, descriptorIndex := 25, attributes := #[] }, { accessFlags := 25, nameIndex := 282, descriptorIndex := 25, attributes := #[] }, { accessFlags := 25, nameIndex := 284, descriptorIndex := 25, attributes := #[] }, { accessFlags := 25, nameIndex := 286, descriptorIndex := 25, attributes := #[] }, { accessFlags := 25, nameIndex := 288, descriptorIndex := 25, attributes := #[] }, { accessFlags := 25, nameIndex := 290, descriptorIndex := 25, attributes := #[] }, { accessFlags := 25, nameIndex := 292, descriptorIndex := 25, attributes := #[] }, { accessFlags := 26, nameIndex := 108, descriptorIndex := 109, attributes := #[] }, { accessFlags := 25, nameIndex := 294, descriptorIndex := 25, attributes := #[] }])
  fields := #[{ name := "U", type := (.object "jdk/internal/misc/Unsafe"), accessFlags := 24, slot := 0, constantValue := 0 }, { name := "BIG_ENDIAN", type := .boolean, accessFlags := 26, slot := 1, constantValue := 0 }, { name := "LOG2_ARRAY_BOOLEAN_INDEX_SCALE", type := .int, accessFlags := 25, slot := 2, constantValue := 0 }, { name := "LOG2_ARRAY_BYTE_INDEX_SCALE", type := .int, accessFlags := 25, slot := 3, constantValue := 0 }, { name := "LOG2_ARRAY_CHAR_INDEX_SCALE", type := .int, accessFlags := 25, slot := 4, constantValue := 0 }, { name := "LOG2_ARRAY_SHORT_INDEX_SCALE", type := .int, accessFlags := 25, slot := 5, constantValue := 0 }, { name := "LOG2_ARRAY_INT_INDEX_SCALE", type := .int, accessFlags := 25, slot := 6, constantValue := 0 }, { name := "LOG2_ARRAY_LONG_INDEX_SCALE", type := .int, accessFlags := 25, slot := 7, constantValue := 0 }, { name := "LOG2_ARRAY_FLOAT_INDEX_SCALE", type := .int, accessFlags := 25, slot := 8, constantValue := 0 }, { name := "LOG2_ARRAY_DOUBLE_INDEX_SCALE", type := .int, accessFlags := 25, slot := 9, constantValue := 0 }, { name := "LOG2_BYTE_BIT_SIZE", type := .int, accessFlags := 26, slot := 10, constantValue := 0 }, { name := "T_BOOLEAN", type := .int, accessFlags := 25, slot := 11, constantValue := 0 }, { name := "T_CHAR", type := .int, accessFlags := 25, slot := 12, constantValue := 0 }, { name := "T_FLOAT", type := .int, accessFlags := 25, slot := 13, constantValue := 0 }, { name := "T_DOUBLE", type := .int, accessFlags := 25, slot := 14, constantValue := 0 }, { name := "T_BYTE", type := .int, accessFlags := 25, slot := 15, constantValue := 0 }, { name := "T_SHORT", type := .int, accessFlags := 25, slot := 16, constantValue := 0 }, { name := "T_INT", type := .int, accessFlags := 25, slot := 17, constantValue := 0 }, { name := "T_LONG", type := .int, accessFlags := 25, slot := 18, constantValue := 0 }, { name := "JLA", type := (.object "jdk/internal/access/JavaLangAccess"), accessFlags := 26, slot := 19, constantValue := 0 }, { name := "SOFT_MAX_ARRAY_LENGTH", type := .int, accessFlags := 25, slot := 20, constantValue := 0 }]
  methods := #[k13m0]
  instanceTypes := #[]
  staticTypes := #[(.object "jdk/internal/misc/Unsafe"), .boolean, .int, .int, .int, .int, .int, .int, .int, .int, .int, .int, .int, .int, .int, .int, .int, .int, .int, (.object "jdk/internal/access/JavaLangAccess"), .int]
  resolved := Array.replicate 378 none
  statics := none }

def pool14 : Array CpInfo := pool [(1, u "java/lang/Cloneable"), (0, .class_ 1), (0, u "java/lang/Object"), (0, .class_ 3)] 3

/-- java/lang/Cloneable -/
def k14 : Class := { plain "java/lang/Cloneable" (some 0) with
  accessFlags := 1537
  interfaces := #[]
  cf := some (fileOf pool14 2 #[] #[] 1537 4 #[] #[])
  fields := #[]
  methods := #[]
  instanceTypes := #[]
  staticTypes := #[]
  resolved := Array.replicate 8 none
  statics := none }

/-- the primitive byte -/
def k15 : Class := { plain "byte" none with kind := .primitive 'B', accessFlags := 0x411 }
/-- [B -/
def k16 : Class := { plain "[B" (some 0) with kind := .array 15 .byte, interfaces := #[14, 4], accessFlags := 1041 }

/-- the primitive int -/
def k17 : Class := { plain "int" none with kind := .primitive 'I', accessFlags := 0x411 }
/-- [I -/
def k18 : Class := { plain "[I" (some 0) with kind := .array 17 .int, interfaces := #[14, 4], accessFlags := 1041 }

def heap : Heap := #[{ cls := 6, slots := #[.ref 5, .ref 4, .ref 3, .null], vm := .statics 6 },
  { cls := 9, slots := #[.long 0, .int 1, .null, .int 0, .null, .int 0, .int 0], vm := .statics 9 },
  { cls := 12, slots := #[.null, .null, .null], vm := .statics 12 },
  { cls := 6, slots := #[.null, .int 0, .int 0, .null], vm := .none },
  { cls := 6, slots := #[.null, .int 0, .int 0, .null], vm := .none },
  { cls := 6, slots := #[.null, .int 0, .int 0, .null], vm := .none }]
def classes : Array Class := #[k0, k1, k2, k3, k4, k5, k6, k7, k8, k9, k10, k11, k12, k13, k14, k15, k16, k17, k18]
def interned : List (Array UInt16 × Addr) := []
def slotsUsed : Nat := 26
def theMethod : MethodId := ⟨1, 1⟩
def args0 : Array Value := #[.int 5, .int 5, .int 5]
def aboutOver (below : List Frame) : State where
  vm := { classes := classes, interned := interned.toArray }
  heap := heap
  slotsUsed := slotsUsed
  threads := #[{ frames := .invoking theMethod args0 :: below }]
def below0 : List Frame := [.native { method := ⟨0, 0⟩, args := #[] }]
def about1 : State := aboutOver below0
def p0 : Program := .bare "" "" ""
def e0 : Env := launch0.env 0 0 0
theorem w_frames : about1.frames = Frame.invoking theMethod args0 :: below0 := rfl
set_option maxRecDepth 65536 in
theorem w_args : argsFit about1.vm theMethod args0 = true := by decide +kernel
set_option maxRecDepth 65536 in
theorem w_heap : heapFits about1 = true := by decide +kernel
set_option maxRecDepth 65536 in
theorem w_runnable : about1.curStatus? = some .runnable := by decide +kernel
set_option maxRecDepth 65536 in
theorem w_alone : about1.alone = true := by decide +kernel
set_option maxRecDepth 65536 in
theorem w_named : about1.methodNamed? x = some theMethod := by decide +kernel
set_option maxRecDepth 65536 in
theorem w_hears : about1.hears theMethod below0 = true := by decide +kernel
set_option maxRecDepth 65536 in
theorem w_ripe : about1.ripe theMethod args0 below0 = true := by decide +kernel
theorem w_running : about1.status = .running := rfl
set_option maxRecDepth 65536 in
theorem w_room : about1.hasRoom e0.platform room_1 = true :=
  launch0.hasRoom_least _ room_1 (by decide +kernel) (by decide +kernel) (by decide +kernel) (by decide +kernel) (by decide +kernel) (by decide +kernel)
theorem allAtoms_all (ts : List Jvm.Cond) (a : Array Jvm.Value) (st : Jvm.State) : (allAtoms ts).before a st = ts.all (fun c => c.before a st) := by
  induction ts with
  | nil => rfl
  | cons c t ih =>
    show (Jvm.Cond.and c (allAtoms t)).before a st = _
    rw [Jvm.Cond.before_and, ih, List.all_cons]
def words1 : List Jvm.Cond := Jvm.Cond.code x code maxLocals ret :: tables_1
/-- a 'code' word, met by the world's own term for the bytes: nothing is compared byte by byte -/
theorem code_word {y : MethodName} {bytes : ByteArray} {mx : Nat} {rt : Option FieldType} {a : Array Value} {s : State} {m : MethodId} {meth : Method} {c : Code} (h1 : s.methodNamed? y = some m) (h2 : s.vm.method? m = some meth) (h3 : meth.code = some c) (h4 : c.code = bytes)
    (h5 : (c.maxLocals == mx && c.exceptionTable.isEmpty && decide (c.maxStack ≤ mostOperands) && decide (meth.sig.returnType = rt) && !meth.locks && decide (parseMethodDescriptor y.desc = some meth.sig)) = true) : (Jvm.Cond.code y bytes mx rt).before a s = true := by
  simp only [Bool.and_eq_true, beq_iff_eq, Bool.not_eq_true', decide_eq_true_eq] at h5
  obtain ⟨⟨⟨⟨⟨g1, g2⟩, g3⟩, g4⟩, g5⟩, g6⟩ := h5
  simp [Cond.before, Cond.holds, Cond.value, h1, h2, h3, h4, g1, g2, g3, g4, g5, g6]
def isCode : Jvm.Cond → Bool
  | .code _ _ _ _ => true
  | _ => false
theorem all_split {L : List Jvm.Cond} {P : Jvm.Cond → Bool} (h1 : L.all (fun c => isCode c || P c) = true) (h2 : ∀ c ∈ L.filter isCode, P c = true) : L.all P = true := by
  refine List.all_eq_true.mpr fun c hc => ?_
  have h := List.all_eq_true.mp h1 c hc
  rcases Bool.eq_false_or_eq_true (isCode c) with hi | hi
  · exact h2 c (List.mem_filter.mpr ⟨hc, hi⟩)
  · simpa [hi] using h
set_option maxRecDepth 65536 in
theorem w_c0 : (Jvm.Cond.code x code maxLocals ret).before args0 about1 = true := code_word (m := ⟨1, 1⟩) (meth := k1m1) (c := k1c1) (by decide +kernel) rfl rfl rfl (by decide +kernel)
set_option maxRecDepth 65536 in
theorem w_c1 : (Jvm.Cond.code ({ cls := "com/example/netloom/netloom/xml/OpenAnnotationsCarriesGraphicsPinLaw", name := "pick", desc := "(I)Lcom/example/netloom/netloom/xml/XmlGraphics$Form;" } : Jvm.MethodName) method_3_code (1 : Nat) (Option.some (Jvm.ClassFile.FieldType.object "com/example/netloom/netloom/xml/XmlGraphics$Form"))).before args0 about1 = true := code_word (m := ⟨1, 2⟩) (meth := k1m2) (c := k1c2) (by decide +kernel) rfl rfl rfl (by decide +kernel)
set_option maxRecDepth 65536 in
theorem w_c2 : (Jvm.Cond.code ({ cls := "java/lang/String", name := "valueOf", desc := "(C)Ljava/lang/String;" } : Jvm.MethodName) jdk_42_method_139_code (1 : Nat) (Option.some (Jvm.ClassFile.FieldType.object "java/lang/String"))).before args0 about1 = true := code_word (m := ⟨9, 1⟩) (meth := k9m1) (c := k9c1) (by decide +kernel) rfl rfl rfl (by decide +kernel)
set_option maxRecDepth 65536 in
theorem w_c3 : (Jvm.Cond.code ({ cls := "java/lang/StringLatin1", name := "canEncode", desc := "(C)Z" } : Jvm.MethodName) jdk_43_method_3_code (1 : Nat) (Option.some Jvm.ClassFile.FieldType.boolean)).before args0 about1 = true := code_word (m := ⟨10, 1⟩) (meth := k10m1) (c := k10c1) (by decide +kernel) rfl rfl rfl (by decide +kernel)
set_option maxRecDepth 65536 in
theorem w_c4 : (Jvm.Cond.code ({ cls := "java/lang/StringLatin1", name := "toBytes", desc := "(C)[B" } : Jvm.MethodName) jdk_43_method_46_code (1 : Nat) (Option.some (Jvm.ClassFile.FieldType.array Jvm.ClassFile.FieldType.byte))).before args0 about1 = true := code_word (m := ⟨10, 2⟩) (meth := k10m2) (c := k10c2) (by decide +kernel) rfl rfl rfl (by decide +kernel)
set_option maxRecDepth 65536 in
theorem w_c5 : (Jvm.Cond.code ({ cls := "java/lang/String", name := "<init>", desc := "([BB)V" } : Jvm.MethodName) jdk_42_method_151_code (3 : Nat) (Option.none : Option Jvm.ClassFile.FieldType)).before args0 about1 = true := code_word (m := ⟨9, 2⟩) (meth := k9m2) (c := k9c2) (by decide +kernel) rfl rfl rfl (by decide +kernel)
set_option maxRecDepth 65536 in
theorem w_c6 : (Jvm.Cond.code ({ cls := "java/lang/Object", name := "<init>", desc := "()V" } : Jvm.MethodName) object_method_1_code (1 : Nat) (Option.none : Option Jvm.ClassFile.FieldType)).before args0 about1 = true := code_word (m := ⟨0, 0⟩) (meth := k0m0) (c := k0c0) (by decide +kernel) rfl rfl rfl (by decide +kernel)
set_option maxRecDepth 65536 in
theorem w_c7 : (Jvm.Cond.code ({ cls := "com/example/netloom/netloom/xml/NetReader$OpenAnnotations", name := "<init>", desc := "(Ljava/lang/String;Lcom/example/netloom/netloom/xml/XmlGraphics$Form;Ljava/util/Set;)V" } : Jvm.MethodName) prog_77_method_1_code (4 : Nat) (Option.none : Option Jvm.ClassFile.FieldType)).before args0 about1 = true := code_word (m := ⟨11, 0⟩) (meth := k11m0) (c := k11c0) (by decide +kernel) rfl rfl rfl (by decide +kernel)
set_option maxRecDepth 65536 in
theorem w_c8 : (Jvm.Cond.code ({ cls := "com/example/netloom/netloom/xml/NetReader$OpenAnnotations", name := "carriesGraphics", desc := "()Z" } : Jvm.MethodName) prog_77_method_3_code (1 : Nat) (Option.some Jvm.ClassFile.FieldType.boolean)).before args0 about1 = true := code_word (m := ⟨11, 2⟩) (meth := k11m2) (c := k11c2) (by decide +kernel) rfl rfl rfl (by decide +kernel)
set_option maxRecDepth 65536 in
theorem w_c9 : (Jvm.Cond.code ({ cls := "com/example/netloom/netloom/xml/NetReader$OpenAnnotations", name := "carryGraphics", desc := "()V" } : Jvm.MethodName) prog_77_method_2_code (1 : Nat) (Option.none : Option Jvm.ClassFile.FieldType)).before args0 about1 = true := code_word (m := ⟨11, 1⟩) (meth := k11m1) (c := k11c1) (by decide +kernel) rfl rfl rfl (by decide +kernel)
def codes1 : List Jvm.Cond := [Jvm.Cond.code x code maxLocals ret, Jvm.Cond.code ({ cls := "com/example/netloom/netloom/xml/OpenAnnotationsCarriesGraphicsPinLaw", name := "pick", desc := "(I)Lcom/example/netloom/netloom/xml/XmlGraphics$Form;" } : Jvm.MethodName) method_3_code (1 : Nat) (Option.some (Jvm.ClassFile.FieldType.object "com/example/netloom/netloom/xml/XmlGraphics$Form")), Jvm.Cond.code ({ cls := "java/lang/String", name := "valueOf", desc := "(C)Ljava/lang/String;" } : Jvm.MethodName) jdk_42_method_139_code (1 : Nat) (Option.some (Jvm.ClassFile.FieldType.object "java/lang/String")), Jvm.Cond.code ({ cls := "java/lang/StringLatin1", name := "canEncode", desc := "(C)Z" } : Jvm.MethodName) jdk_43_method_3_code (1 : Nat) (Option.some Jvm.ClassFile.FieldType.boolean), Jvm.Cond.code ({ cls := "java/lang/StringLatin1", name := "toBytes", desc := "(C)[B" } : Jvm.MethodName) jdk_43_method_46_code (1 : Nat) (Option.some (Jvm.ClassFile.FieldType.array Jvm.ClassFile.FieldType.byte)), Jvm.Cond.code ({ cls := "java/lang/String", name := "<init>", desc := "([BB)V" } : Jvm.MethodName) jdk_42_method_151_code (3 : Nat) (Option.none : Option Jvm.ClassFile.FieldType), Jvm.Cond.code ({ cls := "java/lang/Object", name := "<init>", desc := "()V" } : Jvm.MethodName) object_method_1_code (1 : Nat) (Option.none : Option Jvm.ClassFile.FieldType), Jvm.Cond.code ({ cls := "com/example/netloom/netloom/xml/NetReader$OpenAnnotations", name := "<init>", desc := "(Ljava/lang/String;Lcom/example/netloom/netloom/xml/XmlGraphics$Form;Ljava/util/Set;)V" } : Jvm.MethodName) prog_77_method_1_code (4 : Nat) (Option.none : Option Jvm.ClassFile.FieldType), Jvm.Cond.code ({ cls := "com/example/netloom/netloom/xml/NetReader$OpenAnnotations", name := "carriesGraphics", desc := "()Z" } : Jvm.MethodName) prog_77_method_3_code (1 : Nat) (Option.some Jvm.ClassFile.FieldType.boolean), Jvm.Cond.code ({ cls := "com/example/netloom/netloom/xml/NetReader$OpenAnnotations", name := "carryGraphics", desc := "()V" } : Jvm.MethodName) prog_77_method_2_code (1 : Nat) (Option.none : Option Jvm.ClassFile.FieldType)]
set_option maxRecDepth 65536 in
theorem codes_eq : words1.filter isCode = codes1 := rfl
theorem w_codes : ∀ c ∈ words1.filter isCode, c.before args0 about1 = true := by
  rw [codes_eq]
  intro c hc
  simp only [codes1, List.mem_cons, List.not_mem_nil, or_false] at hc
  rcases hc with rfl | rfl | rfl | rfl | rfl | rfl | rfl | rfl | rfl | rfl
  · exact w_c0
  · exact w_c1
  · exact w_c2
  · exact w_c3
  · exact w_c4
  · exact w_c5
  · exact w_c6
  · exact w_c7
  · exact w_c8
  · exact w_c9
set_option maxRecDepth 65536 in
theorem w_t1 : (words1.take 24).all (fun c => isCode c || c.before args0 about1) = true := by decide +kernel
set_option maxRecDepth 65536 in
theorem w_t2 : ((words1.drop 24).take 24).all (fun c => isCode c || c.before args0 about1) = true := by decide +kernel
set_option maxRecDepth 65536 in
theorem w_t3 : ((words1.drop 24).drop 24).all (fun c => isCode c || c.before args0 about1) = true := by decide +kernel
theorem w_tables : (allAtoms (Jvm.Cond.code x code maxLocals ret :: tables_1)).before args0 about1 = true := by
  rw [allAtoms_all]
  show words1.all (fun c => c.before args0 about1) = true
  refine all_split ?_ w_codes
  rw [← List.take_append_drop 24 words1, List.all_append, w_t1, ← List.take_append_drop 24 (words1.drop 24), List.all_append, w_t2, w_t3]
  rfl
set_option maxRecDepth 65536 in
theorem w_rest : rest_1_c.before args0 about1 = true := by decide +kernel
set_option maxRecDepth 65536 in
theorem w_case : (Jvm.Cond.and given_1 narrow_1).before args0 about1 = true := by decide +kernel
theorem w_applies : (headSpec (Jvm.Cond.code x code maxLocals ret :: tables_1) room_1).applies x e0.platform about1 = true :=
  (Spec.applies_iff w_frames).mpr ⟨w_running, w_runnable, w_alone, w_named, w_hears, w_ripe, w_room, w_tables⟩
theorem atStart : AtStart classFile x code maxLocals ret World_1 tables_1 room_1 Calls_1 rest_1 Pre_1 launch0 p0 e0 about1 theMethod args0 below0 :=
  ⟨lists_1, trivial, launch0.admits_env _ _ _, launch0.least_env, fairChoices_fair.cas, fairChoices_fair.clock, w_frames, w_args, w_heap, w_applies, trivial, w_rest, w_case⟩
end start1
theorem witness_1 : WitnessClaimed_1 := ⟨start1.p0, start1.e0, start1.about1, start1.theMethod, start1.args0, start1.below0, start1.atStart⟩
end Jvm.Pilot.@@N@@
