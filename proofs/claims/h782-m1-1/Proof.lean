import JvmDerived
import JvmDerived.Pilot.@@N@@Statement
import JvmDerived.Pilot.@@N@@Code
set_option linter.unusedVariables false
set_option linter.unusedSimpArgs false
namespace Jvm.RoadKit
open Sem ClassFile Op Lib Jvm.Stand Jvm.Free Jvm.LawKit
section New
variable {p : Program} {l : Launch} {e : Env} {R : Room} {s : State} {m : MethodId} {args : Array Value} {below : List Frame} {meth : Method} {c : Code} {T : State} {locs : List Loc} {cells slots : Nat}
theorem retI (X : Stand p l e R s m args below meth c T locs cells slots) (hx : p.tables.exec = Jvm.exec) {pc : Nat} {Ls : Array Slot} {z : Int32} {rest : List Value} (hret : meth.sig.returnType = some .int) (hd : decode c.code pc = .ok (.ireturn, 1)) {fs : List Frame}
    (hl : ∀ (f : JFrame) (acts : List Action), f.method = m → f.locked = none → f.entered = [] → (doReturn e (T.setTop f) acts (some (.int z))).1 = T.setFrames fs) : Steps p.tables e below (T.setTop (mkF m pc Ls (.int z :: rest))) (T.setFrames fs) :=
  retOut X hx hret rfl (Or.inl ⟨rfl, Or.inl rfl, z, rfl⟩) hd hl
end New
end Jvm.RoadKit
namespace Jvm.Pilot.@@N@@
open Jvm Jvm.ClassFile Sem Op Lib Jvm.Free Jvm.Stand Jvm.LawKit Jvm.RoadKit Bundle Jvm.Pilot.@@N@@.Jvm.D
theorem W {a0 : Array Value} {Z : State} (hw : ∀ d ∈ tables_1, d.before a0 Z = true) (i : Nat) {d : Jvm.Cond} (h : tables_1[i]? = some d) : d.before a0 Z = true := hw d (List.mem_of_getElem? h)
theorem own_eqv {args : Array Value} {first s : State} {o : Option Outcome} {idx : List Nat} {a b : Term} {x : Value} (h : (Cond.eq a b).value args first o s idx = some true) (hb : b.eval args first o idx s = some x) : a.eval args first o idx s = some x := by
  simp only [Cond.value, hb] at h
  cases ha : a.eval args first o idx s with
  | none => rw [ha] at h; cases h
  | some y => rw [ha] at h; cases x <;> cases y <;> simp at h <;> first | rw [h] | rfl
def OL (val : Option Value) (n0 : Nat) (v : Option Value) (h : Heap) (L : List Loc) : Prop := v = val ∧ Fr n0 L
def OQ (val : Option Value) (h0 : Heap) (n0 : Nat) (v : Option Value) (h : Heap) (L : List Loc) : Prop := v = val ∧ Fr n0 L ∧ h = h0
theorem own_l0 (q : Int64) : (lcmpW q q) = (0 : Int32) := (lw_eq q q).mpr rfl
theorem own_ln (q : Int64) : ¬ ((lcmpW q q) < (0 : Int32)) := fun h => by have := (lw_lt q q).mp h; rw [Int64.lt_iff_toInt_lt] at this; omega
theorem own_lmin {q : Int64} (h : ¬ ((lcmpW q (-9223372036854775808 : Int64)) = (0 : Int32))) : (lcmpW (-9223372036854775808 : Int64) q) < (0 : Int32) := by
  refine (lw_lt _ _).mpr ?_
  have h1 : ¬ (q = (-9223372036854775808 : Int64)) := fun e => h ((lw_eq _ _).mpr e)
  have r := rng64 q
  have e : (-9223372036854775808 : Int64).toInt = -9223372036854775808 := by decide
  simp only [Int64.lt_iff_toInt_lt, ← Int64.toInt_inj] at h1 ⊢
  omega
theorem own_lmax {q : Int64} (h : ¬ ((lcmpW q (9223372036854775807 : Int64)) = (0 : Int32))) : ¬ ((lcmpW (9223372036854775807 : Int64) q) < (0 : Int32)) := fun k => by
  have k1 := (lw_lt _ _).mp k
  have r := rng64 q
  have e : (9223372036854775807 : Int64).toInt = 9223372036854775807 := by decide
  simp only [Int64.lt_iff_toInt_lt] at k1
  omega
theorem own_lmaz {q : Int64} (h : ¬ ((lcmpW q (9223372036854775807 : Int64)) = (0 : Int32))) : ¬ ((lcmpW (9223372036854775807 : Int64) q) = (0 : Int32)) := fun k => h ((lw_eq _ _).mpr ((lw_eq _ _).mp k).symm)
def Wd (Z : State) (w : Nat → Addr) (kk : Nat → ClassId) : Prop :=
  Sta Z Z.heap "com/example/stint/stint/model/Relation" "LESS" "Lcom/example/stint/stint/model/Relation;" (.ref (w 0)) ∧
  Exa Z Z.heap (w 0) "com/example/stint/stint/model/Relation" ∧
  Sta Z Z.heap "com/example/stint/stint/model/Relation" "LESS_OR_EQUAL" "Lcom/example/stint/stint/model/Relation;" (.ref (w 1)) ∧
  Exa Z Z.heap (w 1) "com/example/stint/stint/model/Relation" ∧
  Sta Z Z.heap "com/example/stint/stint/model/Relation" "EQUAL" "Lcom/example/stint/stint/model/Relation;" (.ref (w 2)) ∧
  Exa Z Z.heap (w 2) "com/example/stint/stint/model/Relation" ∧
  Sta Z Z.heap "com/example/stint/stint/model/Relation" "GREATER_OR_EQUAL" "Lcom/example/stint/stint/model/Relation;" (.ref (w 3)) ∧
  Exa Z Z.heap (w 3) "com/example/stint/stint/model/Relation" ∧
  Sta Z Z.heap "com/example/stint/stint/model/Relation" "GREATER" "Lcom/example/stint/stint/model/Relation;" (.ref (w 4)) ∧
  Exa Z Z.heap (w 4) "com/example/stint/stint/model/Relation" ∧
  Fld Z Z.heap (w 0) "java/lang/Enum" "ordinal" "I" (.int (0 : Int32)) ∧
  Fld Z Z.heap (w 1) "java/lang/Enum" "ordinal" "I" (.int (1 : Int32)) ∧
  Fld Z Z.heap (w 4) "java/lang/Enum" "ordinal" "I" (.int (4 : Int32)) ∧
  Fld Z Z.heap (w 2) "java/lang/Enum" "ordinal" "I" (.int (2 : Int32)) ∧
  Fld Z Z.heap (w 3) "java/lang/Enum" "ordinal" "I" (.int (3 : Int32))
theorem own_split_0 (x : Int32) : ((x &&& (2147483647 : Int32)) % (5 : Int32)) = (0 : Int32) ∨ ((x &&& (2147483647 : Int32)) % (5 : Int32)) = (1 : Int32) ∨ ((x &&& (2147483647 : Int32)) % (5 : Int32)) = (2 : Int32) ∨ ((x &&& (2147483647 : Int32)) % (5 : Int32)) = (3 : Int32) ∨ ((x &&& (2147483647 : Int32)) % (5 : Int32)) = (4 : Int32) := by
  have h1 := c_mask x (2147483647 : Int32) 31 (by decide) (by decide)
  have h2 := (c_irem (x &&& (2147483647 : Int32)) (5 : Int32) 5 (by decide)).1 (by omega)
  simp only [← Int32.toInt_inj, h2, (by decide : (0 : Int32).toInt = 0), (by decide : (1 : Int32).toInt = 1), (by decide : (2 : Int32).toInt = 2), (by decide : (3 : Int32).toInt = 3), (by decide : (4 : Int32).toInt = 4)]
  omega
theorem d_prog_47_method_8_code_0 : decode prog_47_method_8_code 0 = .ok (.aload_n 0, 1) := by decide +kernel
theorem d_prog_47_method_8_code_1 : decode prog_47_method_8_code 1 = .ok (.getstatic 3, 3) := by decide +kernel
theorem d_prog_47_method_8_code_4 : decode prog_47_method_8_code 4 = .ok (.if_acmp .eq 17, 3) := by decide +kernel
theorem d_prog_47_method_8_code_21 : decode prog_47_method_8_code 21 = .ok (.iconst 1, 1) := by decide +kernel
theorem d_prog_47_method_8_code_22 : decode prog_47_method_8_code 22 = .ok (.goto 4, 3) := by decide +kernel
theorem d_prog_47_method_8_code_26 : decode prog_47_method_8_code 26 = .ok (.ireturn, 1) := by decide +kernel
theorem ef_0 (m : MethodId) (x0 : Value) (h0 : x0.category = 1) : entryFrame m #[x0] 1 = mkF m 0 #[.val x0] [] := by first | (simp [entryFrame, mkF, argsToLocals, h0]; done) | rfl
theorem pn_0 : plainName "com/example/stint/stint/model/Relation" = true := by first | (simp [plainName, overriddenIn]; done) | decide +kernel
set_option maxRecDepth 65536 in
set_option maxHeartbeats 40000000 in
theorem rm_1 (l : Launch) (Z : State) (a0 : Array Value) (hw : ∀ d ∈ tables_1, d.before a0 Z = true) (w : Nat → Addr) (kk : Nat → ClassId) (hN : Wd Z w kk) (ws : List Jvm.Cond)  (h0 : Heap) (O0 : Old Z Z.heap.size h0) :
    MetFree l (⟨"com/example/stint/stint/model/Relation", "boundsAbove", "()Z"⟩ : MethodName) (head1 (Jvm.Cond.code (⟨"com/example/stint/stint/model/Relation", "boundsAbove", "()Z"⟩ : MethodName) prog_47_method_8_code 1 (some .boolean) :: ws) ({ frames := 0, cells := 0, slots := 0, locals := 0 } : Room)) (fun a U => a = #[(.ref (w 0))] ∧ Z.Warmed39 U.vm ∧ U.heap = h0) (fun _ _ _ _ _ => True) (fun _ U o U' => ∃ v L, o = .returned v ∧ OQ (some (.int (1 : Int32))) h0 Z.heap.size v U'.heap L ∧ FrameEnd U o U' L ({ frames := 0, cells := 0, slots := 0, locals := 0 } : Room).cells ({ frames := 0, cells := 0, slots := 0, locals := 0 } : Room).slots) := by
  have hN' := hN
  obtain ⟨hS0, hE0, hS1, hE1, hS2, hE2, hS3, hE3, hS4, hE4, hF0_ordinal, hF1_ordinal, hF4_ordinal, hF2_ordinal, hF3_ordinal⟩ := hN'
  refine MetFree.of_bodySF (plainFor_of_name pn_0) hisR ?_
  intro p e s m args below meth c s₁ Bd hml0 hP hK
  obtain ⟨rfl, hZ, hh⟩ := hP
  have hx := Bd.exec
  have hby := Bd.bytes
  have hml : c.maxLocals = 1 := hml0
  have hown : s.vm.findClass "com/example/stint/stint/model/Relation" = some m.cls := findClass_of_methodNamed Bd.named
  have hnm := (name_of_methodNamed Bd.named Bd.method).1
  have X0 : Stand p l e ({ frames := 0, cells := 0, slots := 0, locals := 0 } : Room) s m #[(.ref (w 0))] below meth c s₁ [] 0 0 := Stand.of_body Bd
  have e0 : s₁.heap = h0 := by rw [← hh, Bd.state]; rfl
  have N0 := Fr.nil Z.heap.size
  have pre0 : ∀ t, Steps p.tables e below (s₁.setTop (mkF m 0 #[.val (.ref (w 0))] [])) t → Steps p.tables e below (s₁.setTop (entryFrame m #[(.ref (w 0))] 1)) t := fun t k => castTop (ef_0 m (.ref (w 0)) rfl) k
  obtain ⟨T1, X1, e1, st1⟩ := getS2 X0 hx hZ hown (host := "") (Or.inl (W hw 21 rfl)) Via.refl e0 (hS0.ext O0.2) (g := (mkF m 1 #[.val (.ref (w 0))] [(.ref (w 0))])) rfl (hb hby d_prog_47_method_8_code_1)
  obtain ⟨fs, hr, hrun, hended, hW, hsame⟩ := X1.leave (v := some (.int (1 : Int32))) (fun h => by rw [Bd.returns] at h; cases h)
  refine ⟨_, _, pre0 _ ?_, hrun, hended, _, _, rfl, ?_, ⟨_, rfl⟩, hW, hsame.mono (by decide) (by decide)⟩
  · show Steps p.tables e below (s₁.setTop (mkF m 0 #[.val (.ref (w 0))] [])) _
    refine XS.aloadN X0.here hx rfl (hb hby d_prog_47_method_8_code_0) rfl rfl ?_
    show Steps p.tables e below (s₁.setTop (mkF m 1 #[.val (.ref (w 0))] [(.ref (w 0))])) _
    refine st1 _ ?_
    show Steps p.tables e below (T1.setTop (mkF m 4 #[.val (.ref (w 0))] [(.ref (w 0)), (.ref (w 0))])) _
    refine Jvm.RoadKit.acmp (g := (mkF m 4 #[.val (.ref (w 0))] [(.ref (w 0)), (.ref (w 0))])) X1 hx rfl rfl rfl (pc0 := 4) (pc' := 21) (same := true) rfl (hb hby d_prog_47_method_8_code_4) rfl (decide_eq_true rfl) (by decide) (by decide) ?_
    show Steps p.tables e below (T1.setTop (mkF m 21 #[.val (.ref (w 0))] [])) _
    refine XS.iconst X1.here hx rfl (hb hby d_prog_47_method_8_code_21) ?_
    show Steps p.tables e below (T1.setTop (mkF m 22 #[.val (.ref (w 0))] [(.int (1 : Int32))])) _
    refine XS.goto X1.here hx rfl (pc0 := 22) (pc' := 26) rfl (hb hby d_prog_47_method_8_code_22) (by decide) (by decide) ?_
    show Steps p.tables e below (T1.setTop (mkF m 26 #[.val (.ref (w 0))] [(.int (1 : Int32))])) _
    exact retN X1 hx (t := .boolean) Bd.returns (by simp) (hb hby d_prog_47_method_8_code_26) hr
  · show OQ (some (.int (1 : Int32))) h0 Z.heap.size _ T1.heap _
    rw [e1]
    exact ⟨rfl, N0, rfl⟩
theorem pd_0 : parseMethodDescriptor "()Z" = some ⟨[], some .boolean⟩ := by decide +kernel
theorem d_prog_47_method_11_code_0 : decode prog_47_method_11_code 0 = .ok (.lload_n 1, 1) := by decide +kernel
theorem d_prog_47_method_11_code_1 : decode prog_47_method_11_code 1 = .ok (.lload_n 3, 1) := by decide +kernel
theorem d_prog_47_method_11_code_2 : decode prog_47_method_11_code 2 = .ok (.invokestatic 79, 3) := by decide +kernel
theorem d_jdk_35_method_42_code_0 : decode jdk_35_method_42_code 0 = .ok (.lload_n 0, 1) := by decide +kernel
theorem d_jdk_35_method_42_code_1 : decode jdk_35_method_42_code 1 = .ok (.lload_n 2, 1) := by decide +kernel
theorem d_jdk_35_method_42_code_2 : decode jdk_35_method_42_code 2 = .ok (.lcmp, 1) := by decide +kernel
theorem lf_0 : (lcmpW (9223372036854775807 : Int64) (0 : Int64)) = (1 : Int32) := by decide
theorem d_jdk_35_method_42_code_3 : decode jdk_35_method_42_code 3 = .ok (.ifCond .ge 7, 3) := by decide +kernel
theorem d_jdk_35_method_42_code_10 : decode jdk_35_method_42_code 10 = .ok (.lload_n 0, 1) := by decide +kernel
theorem d_jdk_35_method_42_code_11 : decode jdk_35_method_42_code 11 = .ok (.lload_n 2, 1) := by decide +kernel
theorem d_jdk_35_method_42_code_12 : decode jdk_35_method_42_code 12 = .ok (.lcmp, 1) := by decide +kernel
theorem d_jdk_35_method_42_code_13 : decode jdk_35_method_42_code 13 = .ok (.ifCond .ne 7, 3) := by decide +kernel
theorem d_jdk_35_method_42_code_20 : decode jdk_35_method_42_code 20 = .ok (.iconst 1, 1) := by decide +kernel
theorem d_jdk_35_method_42_code_21 : decode jdk_35_method_42_code 21 = .ok (.ireturn, 1) := by decide +kernel
theorem ef_1 (m : MethodId) (x0 : Value) (h0 : x0.category = 2) (x1 : Value) (h1 : x1.category = 2) : entryFrame m #[x0, x1] 4 = mkF m 0 #[.val x0, .second, .val x1, .second] [] := by first | (simp [entryFrame, mkF, argsToLocals, h0, h1]; done) | rfl
theorem pn_1 : plainName "java/lang/Long" = true := by first | (simp [plainName, overriddenIn]; done) | decide +kernel
set_option maxRecDepth 65536 in
set_option maxHeartbeats 40000000 in
theorem rm_2 (l : Launch) (Z : State) (a0 : Array Value) (hw : ∀ d ∈ tables_1, d.before a0 Z = true) (w : Nat → Addr) (kk : Nat → ClassId) (hN : Wd Z w kk) (ws : List Jvm.Cond)  (h0 : Heap) (O0 : Old Z Z.heap.size h0) :
    MetFree l (⟨"java/lang/Long", "compare", "(JJ)I"⟩ : MethodName) (head1 (Jvm.Cond.code (⟨"java/lang/Long", "compare", "(JJ)I"⟩ : MethodName) jdk_35_method_42_code 4 (some .int) :: ws) ({ frames := 0, cells := 0, slots := 0, locals := 0 } : Room)) (fun a U => a = #[(.long (9223372036854775807 : Int64)), (.long (0 : Int64))] ∧ Z.Warmed39 U.vm ∧ U.heap = h0) (fun _ _ _ _ _ => True) (fun _ U o U' => ∃ v L, o = .returned v ∧ OQ (some (.int (1 : Int32))) h0 Z.heap.size v U'.heap L ∧ FrameEnd U o U' L ({ frames := 0, cells := 0, slots := 0, locals := 0 } : Room).cells ({ frames := 0, cells := 0, slots := 0, locals := 0 } : Room).slots) := by
  have hN' := hN
  obtain ⟨hS0, hE0, hS1, hE1, hS2, hE2, hS3, hE3, hS4, hE4, hF0_ordinal, hF1_ordinal, hF4_ordinal, hF2_ordinal, hF3_ordinal⟩ := hN'
  refine MetFree.of_bodySF (plainFor_of_name pn_1) hisR ?_
  intro p e s m args below meth c s₁ Bd hml0 hP hK
  obtain ⟨rfl, hZ, hh⟩ := hP
  have hx := Bd.exec
  have hby := Bd.bytes
  have hml : c.maxLocals = 4 := hml0
  have hown : s.vm.findClass "java/lang/Long" = some m.cls := findClass_of_methodNamed Bd.named
  have hnm := (name_of_methodNamed Bd.named Bd.method).1
  have X0 : Stand p l e ({ frames := 0, cells := 0, slots := 0, locals := 0 } : Room) s m #[(.long (9223372036854775807 : Int64)), (.long (0 : Int64))] below meth c s₁ [] 0 0 := Stand.of_body Bd
  have e0 : s₁.heap = h0 := by rw [← hh, Bd.state]; rfl
  have N0 := Fr.nil Z.heap.size
  have pre0 : ∀ t, Steps p.tables e below (s₁.setTop (mkF m 0 #[.val (.long (9223372036854775807 : Int64)), .second, .val (.long (0 : Int64)), .second] [])) t → Steps p.tables e below (s₁.setTop (entryFrame m #[(.long (9223372036854775807 : Int64)), (.long (0 : Int64))] 4)) t := fun t k => castTop (ef_1 m (.long (9223372036854775807 : Int64)) rfl (.long (0 : Int64)) rfl) k
  obtain ⟨fs, hr, hrun, hended, hW, hsame⟩ := X0.leave (v := some (.int (1 : Int32))) (fun h => by rw [Bd.returns] at h; cases h)
  refine ⟨_, _, pre0 _ ?_, hrun, hended, _, _, rfl, ?_, ⟨_, rfl⟩, hW, hsame.mono (by decide) (by decide)⟩
  · show Steps p.tables e below (s₁.setTop (mkF m 0 #[.val (.long (9223372036854775807 : Int64)), .second, .val (.long (0 : Int64)), .second] [])) _
    refine XS.lloadN X0.here hx rfl (hb hby d_jdk_35_method_42_code_0) rfl ?_
    show Steps p.tables e below (s₁.setTop (mkF m 1 #[.val (.long (9223372036854775807 : Int64)), .second, .val (.long (0 : Int64)), .second] [(.long (9223372036854775807 : Int64))])) _
    refine XS.lloadN X0.here hx rfl (hb hby d_jdk_35_method_42_code_1) rfl ?_
    show Steps p.tables e below (s₁.setTop (mkF m 2 #[.val (.long (9223372036854775807 : Int64)), .second, .val (.long (0 : Int64)), .second] [(.long (0 : Int64)), (.long (9223372036854775807 : Int64))])) _
    refine XS.lcmp X0.here hx rfl (hb hby d_jdk_35_method_42_code_2) rfl ?_
    show Steps p.tables e below (s₁.setTop (mkF m 3 #[.val (.long (9223372036854775807 : Int64)), .second, .val (.long (0 : Int64)), .second] [(.int (lcmpW (9223372036854775807 : Int64) (0 : Int64)))])) _
    rw [lf_0]
    show Steps p.tables e below (s₁.setTop (mkF m 3 #[.val (.long (9223372036854775807 : Int64)), .second, .val (.long (0 : Int64)), .second] [(.int (1 : Int32))])) _
    refine XS.ifYes X0.here hx rfl (pc0 := 3) (pc' := 10) rfl (hb hby d_jdk_35_method_42_code_3) rfl ((if0 _ _).trans (flt (by decide : ¬ ((1 : Int32) < (0 : Int32)))).2.1) (by decide) (by decide) ?_
    show Steps p.tables e below (s₁.setTop (mkF m 10 #[.val (.long (9223372036854775807 : Int64)), .second, .val (.long (0 : Int64)), .second] [])) _
    refine XS.lloadN X0.here hx rfl (hb hby d_jdk_35_method_42_code_10) rfl ?_
    show Steps p.tables e below (s₁.setTop (mkF m 11 #[.val (.long (9223372036854775807 : Int64)), .second, .val (.long (0 : Int64)), .second] [(.long (9223372036854775807 : Int64))])) _
    refine XS.lloadN X0.here hx rfl (hb hby d_jdk_35_method_42_code_11) rfl ?_
    show Steps p.tables e below (s₁.setTop (mkF m 12 #[.val (.long (9223372036854775807 : Int64)), .second, .val (.long (0 : Int64)), .second] [(.long (0 : Int64)), (.long (9223372036854775807 : Int64))])) _
    refine XS.lcmp X0.here hx rfl (hb hby d_jdk_35_method_42_code_12) rfl ?_
    show Steps p.tables e below (s₁.setTop (mkF m 13 #[.val (.long (9223372036854775807 : Int64)), .second, .val (.long (0 : Int64)), .second] [(.int (lcmpW (9223372036854775807 : Int64) (0 : Int64)))])) _
    rw [lf_0]
    show Steps p.tables e below (s₁.setTop (mkF m 13 #[.val (.long (9223372036854775807 : Int64)), .second, .val (.long (0 : Int64)), .second] [(.int (1 : Int32))])) _
    refine XS.ifYes X0.here hx rfl (pc0 := 13) (pc' := 20) rfl (hb hby d_jdk_35_method_42_code_13) rfl ((if0 _ _).trans (feq (by decide : ¬ ((1 : Int32) = (0 : Int32)))).2) (by decide) (by decide) ?_
    show Steps p.tables e below (s₁.setTop (mkF m 20 #[.val (.long (9223372036854775807 : Int64)), .second, .val (.long (0 : Int64)), .second] [])) _
    refine XS.iconst X0.here hx rfl (hb hby d_jdk_35_method_42_code_20) ?_
    show Steps p.tables e below (s₁.setTop (mkF m 21 #[.val (.long (9223372036854775807 : Int64)), .second, .val (.long (0 : Int64)), .second] [(.int (1 : Int32))])) _
    exact retI X0 hx Bd.returns (hb hby d_jdk_35_method_42_code_21) hr
  · show OQ (some (.int (1 : Int32))) h0 Z.heap.size _ s₁.heap _
    rw [e0]
    exact ⟨rfl, N0, rfl⟩
theorem pd_1 : parseMethodDescriptor "(JJ)I" = some ⟨[.long, .long], some .int⟩ := by decide +kernel
theorem d_prog_47_method_11_code_5 : decode prog_47_method_11_code 5 = .ok (.istore 5, 2) := by decide +kernel
theorem d_prog_47_method_11_code_7 : decode prog_47_method_11_code 7 = .ok (.aload_n 0, 1) := by decide +kernel
theorem d_prog_47_method_11_code_8 : decode prog_47_method_11_code 8 = .ok (.invokevirtual 62, 3) := by decide +kernel
theorem d_jdk_37_method_2_code_0 : decode jdk_37_method_2_code 0 = .ok (.aload_n 0, 1) := by decide +kernel
theorem d_jdk_37_method_2_code_1 : decode jdk_37_method_2_code 1 = .ok (.getfield 7, 3) := by decide +kernel
theorem d_jdk_37_method_2_code_4 : decode jdk_37_method_2_code 4 = .ok (.ireturn, 1) := by decide +kernel
theorem pn_2 : plainName "java/lang/Enum" = true := by first | (simp [plainName, overriddenIn]; done) | decide +kernel
set_option maxRecDepth 65536 in
set_option maxHeartbeats 40000000 in
theorem rm_3 (l : Launch) (Z : State) (a0 : Array Value) (hw : ∀ d ∈ tables_1, d.before a0 Z = true) (w : Nat → Addr) (kk : Nat → ClassId) (hN : Wd Z w kk) (ws : List Jvm.Cond)  (h0 : Heap) (O0 : Old Z Z.heap.size h0) :
    MetFree l (⟨"java/lang/Enum", "ordinal", "()I"⟩ : MethodName) (head1 (Jvm.Cond.code (⟨"java/lang/Enum", "ordinal", "()I"⟩ : MethodName) jdk_37_method_2_code 1 (some .int) :: ws) ({ frames := 0, cells := 0, slots := 0, locals := 0 } : Room)) (fun a U => a = #[(.ref (w 0))] ∧ Z.Warmed39 U.vm ∧ U.heap = h0) (fun _ _ _ _ _ => True) (fun _ U o U' => ∃ v L, o = .returned v ∧ OQ (some (.int (0 : Int32))) h0 Z.heap.size v U'.heap L ∧ FrameEnd U o U' L ({ frames := 0, cells := 0, slots := 0, locals := 0 } : Room).cells ({ frames := 0, cells := 0, slots := 0, locals := 0 } : Room).slots) := by
  have hN' := hN
  obtain ⟨hS0, hE0, hS1, hE1, hS2, hE2, hS3, hE3, hS4, hE4, hF0_ordinal, hF1_ordinal, hF4_ordinal, hF2_ordinal, hF3_ordinal⟩ := hN'
  refine MetFree.of_bodySF (plainFor_of_name pn_2) hisR ?_
  intro p e s m args below meth c s₁ Bd hml0 hP hK
  obtain ⟨rfl, hZ, hh⟩ := hP
  have hx := Bd.exec
  have hby := Bd.bytes
  have hml : c.maxLocals = 1 := hml0
  have hown : s.vm.findClass "java/lang/Enum" = some m.cls := findClass_of_methodNamed Bd.named
  have hnm := (name_of_methodNamed Bd.named Bd.method).1
  have X0 : Stand p l e ({ frames := 0, cells := 0, slots := 0, locals := 0 } : Room) s m #[(.ref (w 0))] below meth c s₁ [] 0 0 := Stand.of_body Bd
  have e0 : s₁.heap = h0 := by rw [← hh, Bd.state]; rfl
  have N0 := Fr.nil Z.heap.size
  have pre0 : ∀ t, Steps p.tables e below (s₁.setTop (mkF m 0 #[.val (.ref (w 0))] [])) t → Steps p.tables e below (s₁.setTop (entryFrame m #[(.ref (w 0))] 1)) t := fun t k => castTop (ef_0 m (.ref (w 0)) rfl) k
  obtain ⟨T1, X1, e1, st1⟩ := getF X0 hx hZ hown (host := "") (Or.inl (W hw 38 rfl)) Via.refl e0 (hF0_ordinal.ext O0.2) (g := (mkF m 1 #[.val (.ref (w 0))] [(.ref (w 0))])) rfl rfl (hb hby d_jdk_37_method_2_code_1)
  obtain ⟨fs, hr, hrun, hended, hW, hsame⟩ := X1.leave (v := some (.int (0 : Int32))) (fun h => by rw [Bd.returns] at h; cases h)
  refine ⟨_, _, pre0 _ ?_, hrun, hended, _, _, rfl, ?_, ⟨_, rfl⟩, hW, hsame.mono (by decide) (by decide)⟩
  · show Steps p.tables e below (s₁.setTop (mkF m 0 #[.val (.ref (w 0))] [])) _
    refine XS.aloadN X0.here hx rfl (hb hby d_jdk_37_method_2_code_0) rfl rfl ?_
    show Steps p.tables e below (s₁.setTop (mkF m 1 #[.val (.ref (w 0))] [(.ref (w 0))])) _
    refine st1 _ ?_
    show Steps p.tables e below (T1.setTop (mkF m 4 #[.val (.ref (w 0))] [(.int (0 : Int32))])) _
    exact retI X1 hx Bd.returns (hb hby d_jdk_37_method_2_code_4) hr
  · show OQ (some (.int (0 : Int32))) h0 Z.heap.size _ T1.heap _
    rw [e1]
    exact ⟨rfl, N0, rfl⟩
theorem pd_2 : parseMethodDescriptor "()I" = some ⟨[], some .int⟩ := by decide +kernel
theorem d_prog_47_method_11_code_11 : decode prog_47_method_11_code 11 = .ok (.tableswitch 33 0 4 #[43, 56, 69, 82, 95], 33) := by decide +kernel
theorem d_prog_47_method_11_code_54 : decode prog_47_method_11_code 54 = .ok (.iload 5, 2) := by decide +kernel
theorem d_prog_47_method_11_code_56 : decode prog_47_method_11_code 56 = .ok (.ifCond .ge 7, 3) := by decide +kernel
theorem d_prog_47_method_11_code_63 : decode prog_47_method_11_code 63 = .ok (.iconst 0, 1) := by decide +kernel
theorem d_prog_47_method_11_code_64 : decode prog_47_method_11_code 64 = .ok (.goto 52, 3) := by decide +kernel
theorem d_prog_47_method_11_code_116 : decode prog_47_method_11_code 116 = .ok (.ireturn, 1) := by decide +kernel
theorem ef_2 (m : MethodId) (x0 : Value) (h0 : x0.category = 1) (x1 : Value) (h1 : x1.category = 2) (x2 : Value) (h2 : x2.category = 2) : entryFrame m #[x0, x1, x2] 6 = mkF m 0 #[.val x0, .val x1, .second, .val x2, .second, .unset] [] := by first | (simp [entryFrame, mkF, argsToLocals, h0, h1, h2]; done) | rfl
set_option maxRecDepth 65536 in
set_option maxHeartbeats 40000000 in
theorem rm_4 (l : Launch) (Z : State) (a0 : Array Value) (hw : ∀ d ∈ tables_1, d.before a0 Z = true) (w : Nat → Addr) (kk : Nat → ClassId) (hN : Wd Z w kk) (ws : List Jvm.Cond)  (h0 : Heap) (O0 : Old Z Z.heap.size h0) :
    MetFree l (⟨"com/example/stint/stint/model/Relation", "holds", "(JJ)Z"⟩ : MethodName) (head1 (Jvm.Cond.code (⟨"com/example/stint/stint/model/Relation", "holds", "(JJ)Z"⟩ : MethodName) prog_47_method_11_code 6 (some .boolean) :: ws) ({ frames := 1, cells := 0, slots := 0, locals := 15 } : Room)) (fun a U => a = #[(.ref (w 0)), (.long (9223372036854775807 : Int64)), (.long (0 : Int64))] ∧ Z.Warmed39 U.vm ∧ U.heap = h0) (fun _ _ _ _ _ => True) (fun _ U o U' => ∃ v L, o = .returned v ∧ OQ (some (.int (0 : Int32))) h0 Z.heap.size v U'.heap L ∧ FrameEnd U o U' L ({ frames := 1, cells := 0, slots := 0, locals := 15 } : Room).cells ({ frames := 1, cells := 0, slots := 0, locals := 15 } : Room).slots) := by
  have hN' := hN
  obtain ⟨hS0, hE0, hS1, hE1, hS2, hE2, hS3, hE3, hS4, hE4, hF0_ordinal, hF1_ordinal, hF4_ordinal, hF2_ordinal, hF3_ordinal⟩ := hN'
  refine MetFree.of_bodySF (plainFor_of_name pn_0) hisR ?_
  intro p e s m args below meth c s₁ Bd hml0 hP hK
  obtain ⟨rfl, hZ, hh⟩ := hP
  have hx := Bd.exec
  have hby := Bd.bytes
  have hml : c.maxLocals = 6 := hml0
  have hown : s.vm.findClass "com/example/stint/stint/model/Relation" = some m.cls := findClass_of_methodNamed Bd.named
  have hnm := (name_of_methodNamed Bd.named Bd.method).1
  have X0 : Stand p l e ({ frames := 1, cells := 0, slots := 0, locals := 15 } : Room) s m #[(.ref (w 0)), (.long (9223372036854775807 : Int64)), (.long (0 : Int64))] below meth c s₁ [] 0 0 := Stand.of_body Bd
  have e0 : s₁.heap = h0 := by rw [← hh, Bd.state]; rfl
  have N0 := Fr.nil Z.heap.size
  have pre0 : ∀ t, Steps p.tables e below (s₁.setTop (mkF m 0 #[.val (.ref (w 0)), .val (.long (9223372036854775807 : Int64)), .second, .val (.long (0 : Int64)), .second, .unset] [])) t → Steps p.tables e below (s₁.setTop (entryFrame m #[(.ref (w 0)), (.long (9223372036854775807 : Int64)), (.long (0 : Int64))] 6)) t := fun t k => castTop (ef_2 m (.ref (w 0)) rfl (.long (9223372036854775807 : Int64)) rfl (.long (0 : Int64)) rfl) k
  obtain ⟨_, _, ⟨T1, L1, k1, n1⟩, -, X1, ⟨Lc1, hQ1, l1, y1, z1⟩, st1⟩ := Jvm.LawKit.callS X0 hx (y := (⟨"java/lang/Long", "compare", "(JJ)I"⟩ : MethodName)) hown (mvT hZ (W hw 27 rfl)) (mvT hZ (W hw 28 rfl)) (mvT hZ (W hw 29 rfl)) (mvT hZ (W hw 30 rfl)) (by decide) (backOf (W := 0) (rm_2 l Z a0 hw w kk hN [] h0 O0) hZ (W hw 30 rfl) (W hw 29 rfl) (by decide) (by decide)) (g := (mkF m 2 #[.val (.ref (w 0)), .val (.long (9223372036854775807 : Int64)), .second, .val (.long (0 : Int64)), .second, .unset] [(.long (0 : Int64)), (.long (9223372036854775807 : Int64))])) rfl (by rw [hml]; rfl) (argsL := [(.long (9223372036854775807 : Int64)), (.long (0 : Int64))]) (rest := []) (lenOf pd_1 rfl) rfl (by show 2 * 0 + _ ≤ _; exact Nat.le_of_eq rfl) (hb hby d_prog_47_method_11_code_2) (fun _ _ => ⟨rfl, e0, (by decide : 0 + 0 ≤ _), (by decide : 0 + 0 ≤ _)⟩)
  dsimp only [Pt.U, Pt.locs, Pt.cells, Pt.slots] at X1 l1 y1 z1 st1 hQ1
  subst l1 y1 z1
  obtain ⟨rfl, N1q, e1⟩ := hQ1
  have N1 := Fr.app N0 N1q
  obtain ⟨cq2, kq2, q2a, q2b, q2c⟩ := isOf hZ e1 (hE0.ext O0.2)
  obtain ⟨_, _, ⟨T2, L2, k2, n2⟩, -, X2, ⟨Lc2, hQ2, l2, y2, z2⟩, st2⟩ := X1.virtualBackUp hx (x := (⟨"com/example/stint/stint/model/Relation", "ordinal", "()I"⟩ : MethodName)) (y := (⟨"java/lang/Enum", "ordinal", "()I"⟩ : MethodName)) (owner := "java/lang/Enum") hown (mvT hZ (W hw 31 rfl)) (mvT hZ (W hw 32 rfl)) (mvT hZ (W hw 33 rfl)) (by decide) (mvT hZ (W hw 35 rfl)) (mvT hZ (W hw 34 rfl)) (backOf (W := 0) (rm_3 l Z a0 hw w kk hN [] h0 O0) hZ (W hw 37 rfl) (W hw 36 rfl) (by decide) (by decide)) q2a q2c (g := (mkF m 8 #[.val (.ref (w 0)), .val (.long (9223372036854775807 : Int64)), .second, .val (.long (0 : Int64)), .second, .val (.int (1 : Int32))] [(.ref (w 0))])) rfl (by rw [hml]; rfl) (Steps.refl _) (argsL := []) (rest := []) (lenOf pd_2 rfl) rfl (by show 2 * 0 + _ ≤ _; exact Nat.le_of_eq rfl) (hb hby d_prog_47_method_11_code_8) (fun _ _ => ⟨rfl, e1, (by decide : 0 + 0 ≤ _), (by decide : 0 + 0 ≤ _)⟩)
  dsimp only [Pt.U, Pt.locs, Pt.cells, Pt.slots] at X2 l2 y2 z2 st2 hQ2
  subst l2 y2 z2
  obtain ⟨rfl, N2q, e2⟩ := hQ2
  have N2 := Fr.app N1 N2q
  obtain ⟨fs, hr, hrun, hended, hW, hsame⟩ := X2.leave (v := some (.int (0 : Int32))) (fun h => by rw [Bd.returns] at h; cases h)
  refine ⟨_, _, pre0 _ ?_, hrun, hended, _, _, rfl, ?_, ⟨_, rfl⟩, hW, hsame.mono (by decide) (by decide)⟩
  · show Steps p.tables e below (s₁.setTop (mkF m 0 #[.val (.ref (w 0)), .val (.long (9223372036854775807 : Int64)), .second, .val (.long (0 : Int64)), .second, .unset] [])) _
    refine XS.lloadN X0.here hx rfl (hb hby d_prog_47_method_11_code_0) rfl ?_
    show Steps p.tables e below (s₁.setTop (mkF m 1 #[.val (.ref (w 0)), .val (.long (9223372036854775807 : Int64)), .second, .val (.long (0 : Int64)), .second, .unset] [(.long (9223372036854775807 : Int64))])) _
    refine XS.lloadN X0.here hx rfl (hb hby d_prog_47_method_11_code_1) rfl ?_
    show Steps p.tables e below (s₁.setTop (mkF m 2 #[.val (.ref (w 0)), .val (.long (9223372036854775807 : Int64)), .second, .val (.long (0 : Int64)), .second, .unset] [(.long (0 : Int64)), (.long (9223372036854775807 : Int64))])) _
    refine st1 _ ?_
    show Steps p.tables e below (T1.setTop (mkF m 5 #[.val (.ref (w 0)), .val (.long (9223372036854775807 : Int64)), .second, .val (.long (0 : Int64)), .second, .unset] [(.int (1 : Int32))])) _
    refine XS.istore X1.here hx rfl (hb hby d_prog_47_method_11_code_5) rfl (l' := #[.val (.ref (w 0)), .val (.long (9223372036854775807 : Int64)), .second, .val (.long (0 : Int64)), .second, .val (.int (1 : Int32))]) rfl ?_
    show Steps p.tables e below (T1.setTop (mkF m 7 #[.val (.ref (w 0)), .val (.long (9223372036854775807 : Int64)), .second, .val (.long (0 : Int64)), .second, .val (.int (1 : Int32))] [])) _
    refine XS.aloadN X1.here hx rfl (hb hby d_prog_47_method_11_code_7) rfl rfl ?_
    show Steps p.tables e below (T1.setTop (mkF m 8 #[.val (.ref (w 0)), .val (.long (9223372036854775807 : Int64)), .second, .val (.long (0 : Int64)), .second, .val (.int (1 : Int32))] [(.ref (w 0))])) _
    refine st2.trans ?_
    show Steps p.tables e below (T2.setTop (mkF m 11 #[.val (.ref (w 0)), .val (.long (9223372036854775807 : Int64)), .second, .val (.long (0 : Int64)), .second, .val (.int (1 : Int32))] [(.int (0 : Int32))])) _
    refine XS.tswIn X2.here hx rfl (pc0 := 11) (pc' := 54) (o := 43) rfl (hb hby d_prog_47_method_11_code_11) rfl (by decide) (by decide) (by decide) (by decide) ?_
    show Steps p.tables e below (T2.setTop (mkF m 54 #[.val (.ref (w 0)), .val (.long (9223372036854775807 : Int64)), .second, .val (.long (0 : Int64)), .second, .val (.int (1 : Int32))] [])) _
    refine XS.iload X2.here hx rfl (hb hby d_prog_47_method_11_code_54) rfl ?_
    show Steps p.tables e below (T2.setTop (mkF m 56 #[.val (.ref (w 0)), .val (.long (9223372036854775807 : Int64)), .second, .val (.long (0 : Int64)), .second, .val (.int (1 : Int32))] [(.int (1 : Int32))])) _
    refine XS.ifYes X2.here hx rfl (pc0 := 56) (pc' := 63) rfl (hb hby d_prog_47_method_11_code_56) rfl ((if0 _ _).trans (flt (by decide : ¬ ((1 : Int32) < (0 : Int32)))).2.1) (by decide) (by decide) ?_
    show Steps p.tables e below (T2.setTop (mkF m 63 #[.val (.ref (w 0)), .val (.long (9223372036854775807 : Int64)), .second, .val (.long (0 : Int64)), .second, .val (.int (1 : Int32))] [])) _
    refine XS.iconst X2.here hx rfl (hb hby d_prog_47_method_11_code_63) ?_
    show Steps p.tables e below (T2.setTop (mkF m 64 #[.val (.ref (w 0)), .val (.long (9223372036854775807 : Int64)), .second, .val (.long (0 : Int64)), .second, .val (.int (1 : Int32))] [(.int (0 : Int32))])) _
    refine XS.goto X2.here hx rfl (pc0 := 64) (pc' := 116) rfl (hb hby d_prog_47_method_11_code_64) (by decide) (by decide) ?_
    show Steps p.tables e below (T2.setTop (mkF m 116 #[.val (.ref (w 0)), .val (.long (9223372036854775807 : Int64)), .second, .val (.long (0 : Int64)), .second, .val (.int (1 : Int32))] [(.int (0 : Int32))])) _
    exact retN X2 hx (t := .boolean) Bd.returns (by simp) (hb hby d_prog_47_method_11_code_116) hr
  · show OQ (some (.int (0 : Int32))) h0 Z.heap.size _ T2.heap _
    rw [e2]
    exact ⟨rfl, N2, rfl⟩
theorem pd_3 : parseMethodDescriptor "(JJ)Z" = some ⟨[.long, .long], some .boolean⟩ := by decide +kernel
theorem ef_3 (m : MethodId) (x0 : Value) (h0 : x0.category = 1) (x1 : Value) (h1 : x1.category = 2) : entryFrame m #[x0, x1] maxLocals = mkF m 0 #[.val x0, .val x1, .second, .unset, .unset, .unset, .unset, .unset, .unset, .unset, .unset] [] := by first | (simp [entryFrame, mkF, argsToLocals, h0, h1, maxLocals]; done) | rfl
theorem pn_3 : plainName "com/example/stint/stint/model/RelationBoundsAbovePinLaw" = true := by first | (simp [plainName, overriddenIn]; done) | decide +kernel
set_option maxRecDepth 65536 in
set_option maxHeartbeats 40000000 in
theorem law_5 (l : Launch) (Z : State) (a0 : Array Value) (hw : ∀ d ∈ tables_1, d.before a0 Z = true) (w : Nat → Addr) (kk : Nat → ClassId) (hN : Wd Z w kk) (ws : List Jvm.Cond) (p0 : Int32) (q1 : Int64) (h0 : Heap) (O0 : Old Z Z.heap.size h0) (hp0 : ((p0 &&& (2147483647 : Int32)) % (5 : Int32)) = (0 : Int32)) (hp1 : (lcmpW q1 (9223372036854775807 : Int64)) = (0 : Int32)) :
    MetFree l x (head1 (Jvm.Cond.code x code maxLocals ret :: ws) room_1) (fun a U => a = #[(.int p0), (.long q1)] ∧ Z.Warmed39 U.vm ∧ U.heap = h0) (fun _ _ _ _ _ => True) (fun _ U o U' => ∃ v L, o = .returned v ∧ OL (some (.int (1 : Int32))) Z.heap.size v U'.heap L ∧ FrameEnd U o U' L 16 128) := by
  have hN' := hN
  obtain ⟨hS0, hE0, hS1, hE1, hS2, hE2, hS3, hE3, hS4, hE4, hF0_ordinal, hF1_ordinal, hF4_ordinal, hF2_ordinal, hF3_ordinal⟩ := hN'
  refine MetFree.of_bodySF (plainFor_of_name pn_3) hisR ?_
  intro p e s m args below meth c s₁ Bd hml0 hP hK
  obtain ⟨rfl, hZ, hh⟩ := hP
  have hx := Bd.exec
  have hby := Bd.bytes
  have hml : c.maxLocals = 11 := hml0
  have hown : s.vm.findClass "com/example/stint/stint/model/RelationBoundsAbovePinLaw" = some m.cls := findClass_of_methodNamed Bd.named
  have hnm := (name_of_methodNamed Bd.named Bd.method).1
  have X0 : Stand p l e room_1 s m #[(.int p0), (.long q1)] below meth c s₁ [] 0 0 := Stand.of_body Bd
  have e0 : s₁.heap = h0 := by rw [← hh, Bd.state]; rfl
  have N0 := Fr.nil Z.heap.size
  have pre0 : ∀ t, Steps p.tables e below (s₁.setTop (mkF m 0 #[.val (.int p0), .val (.long q1), .second, .unset, .unset, .unset, .unset, .unset, .unset, .unset, .unset] [])) t → Steps p.tables e below (s₁.setTop (entryFrame m #[(.int p0), (.long q1)] maxLocals)) t := fun t k => castTop (ef_3 m (.int p0) rfl (.long q1) rfl) k
  obtain ⟨T1, h1, k1, X1, e1, E1, A1, Ov1, st1⟩ := newR X0 hx hZ hown (W hw 0 rfl) (W hw 1 rfl) e0 (g := (mkF m 1 #[.val (.int p0), .val (.long q1), .second, .unset, .unset, .unset, .unset, .unset, .unset, .unset, .unset] [(.int (5 : Int32))])) rfl (hb hby at_1) rfl (by decide) (cap := 5) (by decide) (by decide) (by decide) (by decide)
  obtain ⟨b1, g1⟩ : ∃ z, z = h0.size := ⟨_, rfl⟩
  rw [← g1] at A1 st1
  have gn_b1 : Z.heap.size ≤ b1 := Nat.le_trans O0.2.1 (Nat.le_of_eq g1.symm)
  have O1 := O0.ext E1
  have V_b1_v1 : Arv Z h1 b1 k1 (.object "com/example/stint/stint/model/Relation") (5 : Int32) [] .null := Arv.new A1 (by decide)
  obtain ⟨T2, X2, e2, st2⟩ := getS2 X1 hx hZ hown (host := "") (Or.inl (W hw 2 rfl)) Via.refl e1 (hS0.ext O1.2) (g := (mkF m 6 #[.val (.int p0), .val (.long q1), .second, .unset, .unset, .unset, .unset, .unset, .unset, .unset, .unset] [(.int (0 : Int32)), (.ref b1), (.ref b1)])) rfl (hb hby at_6)
  have V_b1_v3 : Arv Z h1 b1 k1 (.object "com/example/stint/stint/model/Relation") (5 : Int32) [.null] .null := V_b1_v1.pad (pad_rep [] .null 1)
  obtain ⟨cl4, Ar4, q4, Sz4, Ng4, Hv4, Gv4⟩ := V_b1_v3
  have hin4 : ¬ ((0 : Int32) < 0 ∨ cl4.slots.size ≤ ((0 : Int32)).toNatClampNeg) := inb_of Sz4 ⟨by decide, by decide⟩
  obtain ⟨T5, h5, X5, e5, W5, st5⟩ := stR X2 hx hZ e2 Ar4 (j := (0 : Int32)) (v := (.ref (w 0))) hin4 rfl (Sto.ofV Ar4 q4 Ov1 (Ins.self (hE0.ext O1.2))) (g := (mkF m 9 #[.val (.int p0), .val (.long q1), .second, .unset, .unset, .unset, .unset, .unset, .unset, .unset, .unset] [(.ref (w 0)), (.int (0 : Int32)), (.ref b1), (.ref b1)])) rfl rfl (hb hby at_9)
  have V_b1_v5 : Arv Z h5 b1 k1 (.object "com/example/stint/stint/model/Relation") (5 : Int32) [(.ref (w 0))] .null := Arv.set Ar4 q4 Sz4 Ng4 Hv4 Gv4 rfl W5 0 rfl (Nat.le_of_ble_eq_true rfl)
  have N5 := Fr.snoc X5 N0 gn_b1
  have O5 := O1.wr W5 gn_b1
  obtain ⟨T6, X6, e6, st6⟩ := getS2 X5 hx hZ hown (host := "") (Or.inl (W hw 6 rfl)) Via.refl e5 (hS1.ext O5.2) (g := (mkF m 12 #[.val (.int p0), .val (.long q1), .second, .unset, .unset, .unset, .unset, .unset, .unset, .unset, .unset] [(.int (1 : Int32)), (.ref b1), (.ref b1)])) rfl (hb hby at_12)
  have V_b1_v7 : Arv Z h5 b1 k1 (.object "com/example/stint/stint/model/Relation") (5 : Int32) [(.ref (w 0)), .null] .null := V_b1_v5.pad (pad_rep [(.ref (w 0))] .null 1)
  obtain ⟨cl8, Ar8, q8, Sz8, Ng8, Hv8, Gv8⟩ := V_b1_v7
  have hin8 : ¬ ((1 : Int32) < 0 ∨ cl8.slots.size ≤ ((1 : Int32)).toNatClampNeg) := inb_of Sz8 ⟨by decide, by decide⟩
  obtain ⟨T9, h9, X9, e9, W9, st9⟩ := stR X6 hx hZ e6 Ar8 (j := (1 : Int32)) (v := (.ref (w 1))) hin8 rfl (Sto.ofV Ar8 q8 Ov1 (Ins.self (hE1.ext O5.2))) (g := (mkF m 15 #[.val (.int p0), .val (.long q1), .second, .unset, .unset, .unset, .unset, .unset, .unset, .unset, .unset] [(.ref (w 1)), (.int (1 : Int32)), (.ref b1), (.ref b1)])) rfl rfl (hb hby at_15)
  have V_b1_v9 : Arv Z h9 b1 k1 (.object "com/example/stint/stint/model/Relation") (5 : Int32) [(.ref (w 0)), (.ref (w 1))] .null := Arv.set Ar8 q8 Sz8 Ng8 Hv8 Gv8 rfl W9 1 rfl (Nat.le_of_ble_eq_true rfl)
  have N9 := Fr.snoc X9 N5 gn_b1
  have O9 := O5.wr W9 gn_b1
  obtain ⟨T10, X10, e10, st10⟩ := getS2 X9 hx hZ hown (host := "") (Or.inl (W hw 8 rfl)) Via.refl e9 (hS2.ext O9.2) (g := (mkF m 18 #[.val (.int p0), .val (.long q1), .second, .unset, .unset, .unset, .unset, .unset, .unset, .unset, .unset] [(.int (2 : Int32)), (.ref b1), (.ref b1)])) rfl (hb hby at_18)
  have V_b1_v11 : Arv Z h9 b1 k1 (.object "com/example/stint/stint/model/Relation") (5 : Int32) [(.ref (w 0)), (.ref (w 1)), .null] .null := V_b1_v9.pad (pad_rep [(.ref (w 0)), (.ref (w 1))] .null 1)
  obtain ⟨cl12, Ar12, q12, Sz12, Ng12, Hv12, Gv12⟩ := V_b1_v11
  have hin12 : ¬ ((2 : Int32) < 0 ∨ cl12.slots.size ≤ ((2 : Int32)).toNatClampNeg) := inb_of Sz12 ⟨by decide, by decide⟩
  obtain ⟨T13, h13, X13, e13, W13, st13⟩ := stR X10 hx hZ e10 Ar12 (j := (2 : Int32)) (v := (.ref (w 2))) hin12 rfl (Sto.ofV Ar12 q12 Ov1 (Ins.self (hE2.ext O9.2))) (g := (mkF m 21 #[.val (.int p0), .val (.long q1), .second, .unset, .unset, .unset, .unset, .unset, .unset, .unset, .unset] [(.ref (w 2)), (.int (2 : Int32)), (.ref b1), (.ref b1)])) rfl rfl (hb hby at_21)
  have V_b1_v13 : Arv Z h13 b1 k1 (.object "com/example/stint/stint/model/Relation") (5 : Int32) [(.ref (w 0)), (.ref (w 1)), (.ref (w 2))] .null := Arv.set Ar12 q12 Sz12 Ng12 Hv12 Gv12 rfl W13 2 rfl (Nat.le_of_ble_eq_true rfl)
  have N13 := Fr.snoc X13 N9 gn_b1
  have O13 := O9.wr W13 gn_b1
  obtain ⟨T14, X14, e14, st14⟩ := getS2 X13 hx hZ hown (host := "") (Or.inl (W hw 10 rfl)) Via.refl e13 (hS3.ext O13.2) (g := (mkF m 24 #[.val (.int p0), .val (.long q1), .second, .unset, .unset, .unset, .unset, .unset, .unset, .unset, .unset] [(.int (3 : Int32)), (.ref b1), (.ref b1)])) rfl (hb hby at_24)
  have V_b1_v15 : Arv Z h13 b1 k1 (.object "com/example/stint/stint/model/Relation") (5 : Int32) [(.ref (w 0)), (.ref (w 1)), (.ref (w 2)), .null] .null := V_b1_v13.pad (pad_rep [(.ref (w 0)), (.ref (w 1)), (.ref (w 2))] .null 1)
  obtain ⟨cl16, Ar16, q16, Sz16, Ng16, Hv16, Gv16⟩ := V_b1_v15
  have hin16 : ¬ ((3 : Int32) < 0 ∨ cl16.slots.size ≤ ((3 : Int32)).toNatClampNeg) := inb_of Sz16 ⟨by decide, by decide⟩
  obtain ⟨T17, h17, X17, e17, W17, st17⟩ := stR X14 hx hZ e14 Ar16 (j := (3 : Int32)) (v := (.ref (w 3))) hin16 rfl (Sto.ofV Ar16 q16 Ov1 (Ins.self (hE3.ext O13.2))) (g := (mkF m 27 #[.val (.int p0), .val (.long q1), .second, .unset, .unset, .unset, .unset, .unset, .unset, .unset, .unset] [(.ref (w 3)), (.int (3 : Int32)), (.ref b1), (.ref b1)])) rfl rfl (hb hby at_27)
  have V_b1_v17 : Arv Z h17 b1 k1 (.object "com/example/stint/stint/model/Relation") (5 : Int32) [(.ref (w 0)), (.ref (w 1)), (.ref (w 2)), (.ref (w 3))] .null := Arv.set Ar16 q16 Sz16 Ng16 Hv16 Gv16 rfl W17 3 rfl (Nat.le_of_ble_eq_true rfl)
  have N17 := Fr.snoc X17 N13 gn_b1
  have O17 := O13.wr W17 gn_b1
  obtain ⟨T18, X18, e18, st18⟩ := getS2 X17 hx hZ hown (host := "") (Or.inl (W hw 12 rfl)) Via.refl e17 (hS4.ext O17.2) (g := (mkF m 30 #[.val (.int p0), .val (.long q1), .second, .unset, .unset, .unset, .unset, .unset, .unset, .unset, .unset] [(.int (4 : Int32)), (.ref b1), (.ref b1)])) rfl (hb hby at_30)
  have V_b1_v19 : Arv Z h17 b1 k1 (.object "com/example/stint/stint/model/Relation") (5 : Int32) [(.ref (w 0)), (.ref (w 1)), (.ref (w 2)), (.ref (w 3)), .null] .null := V_b1_v17.pad (pad_rep [(.ref (w 0)), (.ref (w 1)), (.ref (w 2)), (.ref (w 3))] .null 1)
  obtain ⟨cl20, Ar20, q20, Sz20, Ng20, Hv20, Gv20⟩ := V_b1_v19
  have hin20 : ¬ ((4 : Int32) < 0 ∨ cl20.slots.size ≤ ((4 : Int32)).toNatClampNeg) := inb_of Sz20 ⟨by decide, by decide⟩
  obtain ⟨T21, h21, X21, e21, W21, st21⟩ := stR X18 hx hZ e18 Ar20 (j := (4 : Int32)) (v := (.ref (w 4))) hin20 rfl (Sto.ofV Ar20 q20 Ov1 (Ins.self (hE4.ext O17.2))) (g := (mkF m 33 #[.val (.int p0), .val (.long q1), .second, .unset, .unset, .unset, .unset, .unset, .unset, .unset, .unset] [(.ref (w 4)), (.int (4 : Int32)), (.ref b1), (.ref b1)])) rfl rfl (hb hby at_33)
  have V_b1_v21 : Arv Z h21 b1 k1 (.object "com/example/stint/stint/model/Relation") (5 : Int32) [(.ref (w 0)), (.ref (w 1)), (.ref (w 2)), (.ref (w 3)), (.ref (w 4))] .null := Arv.set Ar20 q20 Sz20 Ng20 Hv20 Gv20 rfl W21 4 rfl (Nat.le_of_ble_eq_true rfl)
  have N21 := Fr.snoc X21 N17 gn_b1
  have O21 := O17.wr W21 gn_b1
  obtain ⟨cl22, Ar22, q22, Sz22, Ng22, Hv22, Gv22⟩ := V_b1_v21
  have hin22 : ¬ ((0 : Int32) < 0 ∨ cl22.slots.size ≤ ((0 : Int32)).toNatClampNeg) := inb_of Sz22 ⟨by decide, by decide⟩
  have hat22 : cl22.slots[((0 : Int32)).toNatClampNeg]? = some (.ref (w 0)) := Has.at Hv22 hin22 (by rfl)
  obtain ⟨cq23, kq23, q23a, q23b, q23c⟩ := isOf hZ e21 (hE0.ext O21.2)
  obtain ⟨_, _, ⟨T23, L23, k23, n23⟩, -, X23, ⟨Lc23, hQ23, l23, y23, z23⟩, st23⟩ := X21.virtualBack hx (y := (⟨"com/example/stint/stint/model/Relation", "boundsAbove", "()Z"⟩ : MethodName)) (z := (⟨"com/example/stint/stint/model/Relation", "boundsAbove", "()Z"⟩ : MethodName)) hown (mvT hZ (W hw 16 rfl)) (mvT hZ (W hw 17 rfl)) (notFace_of_selects (args := #[]) (mvT hZ (W hw 19 rfl))) (mvT hZ (W hw 19 rfl)) (mvT hZ (W hw 18 rfl)) (by decide) (backOf (W := 0) (rm_1 l Z a0 hw w kk hN [] h21 O21) hZ (W hw 20 rfl) (W hw 3 rfl) (by decide) (by decide)) q23a q23c (g := (mkF m 66 #[.val (.int p0), .val (.long q1), .second, .val (.ref b1), .val (.int (0 : Int32)), .val (.ref (w 0)), .val (.long (0 : Int64)), .second, .unset, .unset, .unset] [(.ref (w 0))])) rfl (by rw [hml]; rfl) (Steps.refl _) (argsL := []) (rest := []) (lenOf pd_0 rfl) rfl (by show 2 * 0 + _ ≤ _; exact Nat.le_of_eq rfl) (hb hby at_66) (fun _ _ => ⟨rfl, e21, (by decide : 1 + 0 ≤ _), (by decide : 5 + 0 ≤ _)⟩)
  dsimp only [Pt.U, Pt.locs, Pt.cells, Pt.slots] at X23 l23 y23 z23 st23 hQ23
  subst l23 y23 z23
  obtain ⟨rfl, N23q, e23⟩ := hQ23
  have N23 := Fr.app N21 N23q
  obtain ⟨cq24, kq24, q24a, q24b, q24c⟩ := isOf hZ e23 (hE0.ext O21.2)
  obtain ⟨_, _, ⟨T24, L24, k24, n24⟩, -, X24, ⟨Lc24, hQ24, l24, y24, z24⟩, st24⟩ := X23.virtualBack hx (y := (⟨"com/example/stint/stint/model/Relation", "holds", "(JJ)Z"⟩ : MethodName)) (z := (⟨"com/example/stint/stint/model/Relation", "holds", "(JJ)Z"⟩ : MethodName)) hown (mvT hZ (W hw 22 rfl)) (mvT hZ (W hw 23 rfl)) (notFace_of_selects (args := #[]) (mvT hZ (W hw 25 rfl))) (mvT hZ (W hw 25 rfl)) (mvT hZ (W hw 24 rfl)) (by decide) (backOf (W := 0) (rm_4 l Z a0 hw w kk hN [] h21 O21) hZ (W hw 26 rfl) (W hw 3 rfl) (by decide) (by decide)) q24a q24c (g := (mkF m 91 #[.val (.int p0), .val (.long q1), .second, .val (.ref b1), .val (.int (0 : Int32)), .val (.ref (w 0)), .val (.long (0 : Int64)), .second, .val (.int (1 : Int32)), .val (.int (1 : Int32)), .unset] [(.long (0 : Int64)), (.long (9223372036854775807 : Int64)), (.ref (w 0))])) rfl (by rw [hml]; rfl) (Steps.refl _) (argsL := [(.long (9223372036854775807 : Int64)), (.long (0 : Int64))]) (rest := []) (lenOf pd_3 rfl) rfl (by show 2 * 0 + _ ≤ _; exact Nat.le_of_eq rfl) (hb hby at_91) (fun _ _ => ⟨rfl, e23, (by decide : 1 + 0 ≤ _), (by decide : 5 + 0 ≤ _)⟩)
  dsimp only [Pt.U, Pt.locs, Pt.cells, Pt.slots] at X24 l24 y24 z24 st24 hQ24
  subst l24 y24 z24
  obtain ⟨rfl, N24q, e24⟩ := hQ24
  have N24 := Fr.app N23 N24q
  obtain ⟨fs, hr, hrun, hended, hW, hsame⟩ := X24.leave (v := some (.int (1 : Int32))) (fun h => by rw [Bd.returns] at h; cases h)
  refine ⟨_, _, pre0 _ ?_, hrun, hended, _, _, rfl, ?_, ⟨_, rfl⟩, hW, hsame.mono (by decide) (by decide)⟩
  · show Steps p.tables e below (s₁.setTop (mkF m 0 #[.val (.int p0), .val (.long q1), .second, .unset, .unset, .unset, .unset, .unset, .unset, .unset, .unset] [])) _
    refine XS.iconst X0.here hx rfl (hb hby at_0) ?_
    show Steps p.tables e below (s₁.setTop (mkF m 1 #[.val (.int p0), .val (.long q1), .second, .unset, .unset, .unset, .unset, .unset, .unset, .unset, .unset] [(.int (5 : Int32))])) _
    refine st1 _ ?_
    show Steps p.tables e below (T1.setTop (mkF m 4 #[.val (.int p0), .val (.long q1), .second, .unset, .unset, .unset, .unset, .unset, .unset, .unset, .unset] [(.ref b1)])) _
    refine XS.dup X1.here hx rfl (hb hby at_4) rfl rfl ?_
    show Steps p.tables e below (T1.setTop (mkF m 5 #[.val (.int p0), .val (.long q1), .second, .unset, .unset, .unset, .unset, .unset, .unset, .unset, .unset] [(.ref b1), (.ref b1)])) _
    refine XS.iconst X1.here hx rfl (hb hby at_5) ?_
    show Steps p.tables e below (T1.setTop (mkF m 6 #[.val (.int p0), .val (.long q1), .second, .unset, .unset, .unset, .unset, .unset, .unset, .unset, .unset] [(.int (0 : Int32)), (.ref b1), (.ref b1)])) _
    refine st2 _ ?_
    show Steps p.tables e below (T2.setTop (mkF m 9 #[.val (.int p0), .val (.long q1), .second, .unset, .unset, .unset, .unset, .unset, .unset, .unset, .unset] [(.ref (w 0)), (.int (0 : Int32)), (.ref b1), (.ref b1)])) _
    refine st5 _ ?_
    show Steps p.tables e below (T5.setTop (mkF m 10 #[.val (.int p0), .val (.long q1), .second, .unset, .unset, .unset, .unset, .unset, .unset, .unset, .unset] [(.ref b1)])) _
    refine XS.dup X5.here hx rfl (hb hby at_10) rfl rfl ?_
    show Steps p.tables e below (T5.setTop (mkF m 11 #[.val (.int p0), .val (.long q1), .second, .unset, .unset, .unset, .unset, .unset, .unset, .unset, .unset] [(.ref b1), (.ref b1)])) _
    refine XS.iconst X5.here hx rfl (hb hby at_11) ?_
    show Steps p.tables e below (T5.setTop (mkF m 12 #[.val (.int p0), .val (.long q1), .second, .unset, .unset, .unset, .unset, .unset, .unset, .unset, .unset] [(.int (1 : Int32)), (.ref b1), (.ref b1)])) _
    refine st6 _ ?_
    show Steps p.tables e below (T6.setTop (mkF m 15 #[.val (.int p0), .val (.long q1), .second, .unset, .unset, .unset, .unset, .unset, .unset, .unset, .unset] [(.ref (w 1)), (.int (1 : Int32)), (.ref b1), (.ref b1)])) _
    refine st9 _ ?_
    show Steps p.tables e below (T9.setTop (mkF m 16 #[.val (.int p0), .val (.long q1), .second, .unset, .unset, .unset, .unset, .unset, .unset, .unset, .unset] [(.ref b1)])) _
    refine XS.dup X9.here hx rfl (hb hby at_16) rfl rfl ?_
    show Steps p.tables e below (T9.setTop (mkF m 17 #[.val (.int p0), .val (.long q1), .second, .unset, .unset, .unset, .unset, .unset, .unset, .unset, .unset] [(.ref b1), (.ref b1)])) _
    refine XS.iconst X9.here hx rfl (hb hby at_17) ?_
    show Steps p.tables e below (T9.setTop (mkF m 18 #[.val (.int p0), .val (.long q1), .second, .unset, .unset, .unset, .unset, .unset, .unset, .unset, .unset] [(.int (2 : Int32)), (.ref b1), (.ref b1)])) _
    refine st10 _ ?_
    show Steps p.tables e below (T10.setTop (mkF m 21 #[.val (.int p0), .val (.long q1), .second, .unset, .unset, .unset, .unset, .unset, .unset, .unset, .unset] [(.ref (w 2)), (.int (2 : Int32)), (.ref b1), (.ref b1)])) _
    refine st13 _ ?_
    show Steps p.tables e below (T13.setTop (mkF m 22 #[.val (.int p0), .val (.long q1), .second, .unset, .unset, .unset, .unset, .unset, .unset, .unset, .unset] [(.ref b1)])) _
    refine XS.dup X13.here hx rfl (hb hby at_22) rfl rfl ?_
    show Steps p.tables e below (T13.setTop (mkF m 23 #[.val (.int p0), .val (.long q1), .second, .unset, .unset, .unset, .unset, .unset, .unset, .unset, .unset] [(.ref b1), (.ref b1)])) _
    refine XS.iconst X13.here hx rfl (hb hby at_23) ?_
    show Steps p.tables e below (T13.setTop (mkF m 24 #[.val (.int p0), .val (.long q1), .second, .unset, .unset, .unset, .unset, .unset, .unset, .unset, .unset] [(.int (3 : Int32)), (.ref b1), (.ref b1)])) _
    refine st14 _ ?_
    show Steps p.tables e below (T14.setTop (mkF m 27 #[.val (.int p0), .val (.long q1), .second, .unset, .unset, .unset, .unset, .unset, .unset, .unset, .unset] [(.ref (w 3)), (.int (3 : Int32)), (.ref b1), (.ref b1)])) _
    refine st17 _ ?_
    show Steps p.tables e below (T17.setTop (mkF m 28 #[.val (.int p0), .val (.long q1), .second, .unset, .unset, .unset, .unset, .unset, .unset, .unset, .unset] [(.ref b1)])) _
    refine XS.dup X17.here hx rfl (hb hby at_28) rfl rfl ?_
    show Steps p.tables e below (T17.setTop (mkF m 29 #[.val (.int p0), .val (.long q1), .second, .unset, .unset, .unset, .unset, .unset, .unset, .unset, .unset] [(.ref b1), (.ref b1)])) _
    refine XS.iconst X17.here hx rfl (hb hby at_29) ?_
    show Steps p.tables e below (T17.setTop (mkF m 30 #[.val (.int p0), .val (.long q1), .second, .unset, .unset, .unset, .unset, .unset, .unset, .unset, .unset] [(.int (4 : Int32)), (.ref b1), (.ref b1)])) _
    refine st18 _ ?_
    show Steps p.tables e below (T18.setTop (mkF m 33 #[.val (.int p0), .val (.long q1), .second, .unset, .unset, .unset, .unset, .unset, .unset, .unset, .unset] [(.ref (w 4)), (.int (4 : Int32)), (.ref b1), (.ref b1)])) _
    refine st21 _ ?_
    show Steps p.tables e below (T21.setTop (mkF m 34 #[.val (.int p0), .val (.long q1), .second, .unset, .unset, .unset, .unset, .unset, .unset, .unset, .unset] [(.ref b1)])) _
    refine XS.astoreN X21.here hx rfl (hb hby at_34) rfl rfl (l' := #[.val (.int p0), .val (.long q1), .second, .val (.ref b1), .unset, .unset, .unset, .unset, .unset, .unset, .unset]) rfl ?_
    show Steps p.tables e below (T21.setTop (mkF m 35 #[.val (.int p0), .val (.long q1), .second, .val (.ref b1), .unset, .unset, .unset, .unset, .unset, .unset, .unset] [])) _
    refine XS.iloadN X21.here hx rfl (hb hby at_35) rfl ?_
    show Steps p.tables e below (T21.setTop (mkF m 36 #[.val (.int p0), .val (.long q1), .second, .val (.ref b1), .unset, .unset, .unset, .unset, .unset, .unset, .unset] [(.int p0)])) _
    refine X21.ldcInt hx hown (mvT hZ (W hw 14 rfl)) (g := (mkF m 36 #[.val (.int p0), .val (.long q1), .second, .val (.ref b1), .unset, .unset, .unset, .unset, .unset, .unset, .unset] [(.int p0)])) rfl (hb hby at_36) _ ?_
    show Steps p.tables e below (T21.setTop (mkF m 38 #[.val (.int p0), .val (.long q1), .second, .val (.ref b1), .unset, .unset, .unset, .unset, .unset, .unset, .unset] [(.int (2147483647 : Int32)), (.int p0)])) _
    refine XS.iand X21.here hx rfl (hb hby at_38) rfl ?_
    show Steps p.tables e below (T21.setTop (mkF m 39 #[.val (.int p0), .val (.long q1), .second, .val (.ref b1), .unset, .unset, .unset, .unset, .unset, .unset, .unset] [(.int (p0 &&& (2147483647 : Int32)))])) _
    refine XS.iconst X21.here hx rfl (hb hby at_39) ?_
    show Steps p.tables e below (T21.setTop (mkF m 40 #[.val (.int p0), .val (.long q1), .second, .val (.ref b1), .unset, .unset, .unset, .unset, .unset, .unset, .unset] [(.int (5 : Int32)), (.int (p0 &&& (2147483647 : Int32)))])) _
    refine iremM X21 hx rfl (hb hby at_40) rfl (by decide : ¬ ((5 : Int32) = (0 : Int32))) ?_
    show Steps p.tables e below (T21.setTop (mkF m 41 #[.val (.int p0), .val (.long q1), .second, .val (.ref b1), .unset, .unset, .unset, .unset, .unset, .unset, .unset] [(.int ((p0 &&& (2147483647 : Int32)) % (5 : Int32)))])) _
    rw [hp0]
    show Steps p.tables e below (T21.setTop (mkF m 41 #[.val (.int p0), .val (.long q1), .second, .val (.ref b1), .unset, .unset, .unset, .unset, .unset, .unset, .unset] [(.int (0 : Int32))])) _
    refine XS.istore X21.here hx rfl (hb hby at_41) rfl (l' := #[.val (.int p0), .val (.long q1), .second, .val (.ref b1), .val (.int (0 : Int32)), .unset, .unset, .unset, .unset, .unset, .unset]) rfl ?_
    show Steps p.tables e below (T21.setTop (mkF m 43 #[.val (.int p0), .val (.long q1), .second, .val (.ref b1), .val (.int (0 : Int32)), .unset, .unset, .unset, .unset, .unset, .unset] [])) _
    refine XS.aloadN X21.here hx rfl (hb hby at_43) rfl rfl ?_
    show Steps p.tables e below (T21.setTop (mkF m 44 #[.val (.int p0), .val (.long q1), .second, .val (.ref b1), .val (.int (0 : Int32)), .unset, .unset, .unset, .unset, .unset, .unset] [(.ref b1)])) _
    refine XS.iload X21.here hx rfl (hb hby at_44) rfl ?_
    show Steps p.tables e below (T21.setTop (mkF m 46 #[.val (.int p0), .val (.long q1), .second, .val (.ref b1), .val (.int (0 : Int32)), .unset, .unset, .unset, .unset, .unset, .unset] [(.int (0 : Int32)), (.ref b1)])) _
    refine X21.aaload hx (j := (0 : Int32)) (v := (.ref (w 0))) (by rw [e21]; exact Ar22.1) (State.isArrayOf_alike hZ.alike Ar22.2.1) rfl Ar22.2.2 hin22 hat22 (g := (mkF m 46 #[.val (.int p0), .val (.long q1), .second, .val (.ref b1), .val (.int (0 : Int32)), .unset, .unset, .unset, .unset, .unset, .unset] [(.int (0 : Int32)), (.ref b1)])) rfl rfl (hb hby at_46) _ ?_
    show Steps p.tables e below (T21.setTop (mkF m 47 #[.val (.int p0), .val (.long q1), .second, .val (.ref b1), .val (.int (0 : Int32)), .unset, .unset, .unset, .unset, .unset, .unset] [(.ref (w 0))])) _
    refine XS.astore X21.here hx rfl (hb hby at_47) rfl rfl (l' := #[.val (.int p0), .val (.long q1), .second, .val (.ref b1), .val (.int (0 : Int32)), .val (.ref (w 0)), .unset, .unset, .unset, .unset, .unset]) rfl ?_
    show Steps p.tables e below (T21.setTop (mkF m 49 #[.val (.int p0), .val (.long q1), .second, .val (.ref b1), .val (.int (0 : Int32)), .val (.ref (w 0)), .unset, .unset, .unset, .unset, .unset] [])) _
    refine XS.lloadN X21.here hx rfl (hb hby at_49) rfl ?_
    show Steps p.tables e below (T21.setTop (mkF m 50 #[.val (.int p0), .val (.long q1), .second, .val (.ref b1), .val (.int (0 : Int32)), .val (.ref (w 0)), .unset, .unset, .unset, .unset, .unset] [(.long q1)])) _
    refine XS.lstore X21.here hx rfl (hb hby at_50) rfl (l' := #[.val (.int p0), .val (.long q1), .second, .val (.ref b1), .val (.int (0 : Int32)), .val (.ref (w 0)), .val (.long q1), .second, .unset, .unset, .unset]) rfl ?_
    show Steps p.tables e below (T21.setTop (mkF m 52 #[.val (.int p0), .val (.long q1), .second, .val (.ref b1), .val (.int (0 : Int32)), .val (.ref (w 0)), .val (.long q1), .second, .unset, .unset, .unset] [])) _
    refine XS.lload X21.here hx rfl (hb hby at_52) rfl ?_
    show Steps p.tables e below (T21.setTop (mkF m 54 #[.val (.int p0), .val (.long q1), .second, .val (.ref b1), .val (.int (0 : Int32)), .val (.ref (w 0)), .val (.long q1), .second, .unset, .unset, .unset] [(.long q1)])) _
    refine X21.ldc2Long hx hown (mvT hZ (W hw 15 rfl)) (g := (mkF m 54 #[.val (.int p0), .val (.long q1), .second, .val (.ref b1), .val (.int (0 : Int32)), .val (.ref (w 0)), .val (.long q1), .second, .unset, .unset, .unset] [(.long q1)])) rfl (hb hby at_54) _ ?_
    show Steps p.tables e below (T21.setTop (mkF m 57 #[.val (.int p0), .val (.long q1), .second, .val (.ref b1), .val (.int (0 : Int32)), .val (.ref (w 0)), .val (.long q1), .second, .unset, .unset, .unset] [(.long (9223372036854775807 : Int64)), (.long q1)])) _
    refine XS.lcmp X21.here hx rfl (hb hby at_57) rfl ?_
    show Steps p.tables e below (T21.setTop (mkF m 58 #[.val (.int p0), .val (.long q1), .second, .val (.ref b1), .val (.int (0 : Int32)), .val (.ref (w 0)), .val (.long q1), .second, .unset, .unset, .unset] [(.int (lcmpW q1 (9223372036854775807 : Int64)))])) _
    refine XS.ifNo X21.here hx rfl (hb hby at_58) rfl ((if0 _ _).trans (teq hp1).2) ?_
    show Steps p.tables e below (T21.setTop (mkF m 61 #[.val (.int p0), .val (.long q1), .second, .val (.ref b1), .val (.int (0 : Int32)), .val (.ref (w 0)), .val (.long q1), .second, .unset, .unset, .unset] [])) _
    refine XS.lconst X21.here hx rfl (hb hby at_61) ?_
    show Steps p.tables e below (T21.setTop (mkF m 62 #[.val (.int p0), .val (.long q1), .second, .val (.ref b1), .val (.int (0 : Int32)), .val (.ref (w 0)), .val (.long q1), .second, .unset, .unset, .unset] [(.long (0 : Int64))])) _
    refine XS.lstore X21.here hx rfl (hb hby at_62) rfl (l' := #[.val (.int p0), .val (.long q1), .second, .val (.ref b1), .val (.int (0 : Int32)), .val (.ref (w 0)), .val (.long (0 : Int64)), .second, .unset, .unset, .unset]) rfl ?_
    show Steps p.tables e below (T21.setTop (mkF m 64 #[.val (.int p0), .val (.long q1), .second, .val (.ref b1), .val (.int (0 : Int32)), .val (.ref (w 0)), .val (.long (0 : Int64)), .second, .unset, .unset, .unset] [])) _
    refine XS.aload X21.here hx rfl (hb hby at_64) rfl rfl ?_
    show Steps p.tables e below (T21.setTop (mkF m 66 #[.val (.int p0), .val (.long q1), .second, .val (.ref b1), .val (.int (0 : Int32)), .val (.ref (w 0)), .val (.long (0 : Int64)), .second, .unset, .unset, .unset] [(.ref (w 0))])) _
    refine st23.trans ?_
    show Steps p.tables e below (T23.setTop (mkF m 69 #[.val (.int p0), .val (.long q1), .second, .val (.ref b1), .val (.int (0 : Int32)), .val (.ref (w 0)), .val (.long (0 : Int64)), .second, .unset, .unset, .unset] [(.int (1 : Int32))])) _
    refine XS.istore X23.here hx rfl (hb hby at_69) rfl (l' := #[.val (.int p0), .val (.long q1), .second, .val (.ref b1), .val (.int (0 : Int32)), .val (.ref (w 0)), .val (.long (0 : Int64)), .second, .val (.int (1 : Int32)), .unset, .unset]) rfl ?_
    show Steps p.tables e below (T23.setTop (mkF m 71 #[.val (.int p0), .val (.long q1), .second, .val (.ref b1), .val (.int (0 : Int32)), .val (.ref (w 0)), .val (.long (0 : Int64)), .second, .val (.int (1 : Int32)), .unset, .unset] [])) _
    refine XS.iload X23.here hx rfl (hb hby at_71) rfl ?_
    show Steps p.tables e below (T23.setTop (mkF m 73 #[.val (.int p0), .val (.long q1), .second, .val (.ref b1), .val (.int (0 : Int32)), .val (.ref (w 0)), .val (.long (0 : Int64)), .second, .val (.int (1 : Int32)), .unset, .unset] [(.int (0 : Int32))])) _
    refine XS.iconst X23.here hx rfl (hb hby at_73) ?_
    show Steps p.tables e below (T23.setTop (mkF m 74 #[.val (.int p0), .val (.long q1), .second, .val (.ref b1), .val (.int (0 : Int32)), .val (.ref (w 0)), .val (.long (0 : Int64)), .second, .val (.int (1 : Int32)), .unset, .unset] [(.int (2 : Int32)), (.int (0 : Int32))])) _
    refine XS.icmpNo X23.here hx rfl (hb hby at_74) rfl (flt (by decide : ¬ ((2 : Int32) < (0 : Int32)))).2.2.1 ?_
    show Steps p.tables e below (T23.setTop (mkF m 77 #[.val (.int p0), .val (.long q1), .second, .val (.ref b1), .val (.int (0 : Int32)), .val (.ref (w 0)), .val (.long (0 : Int64)), .second, .val (.int (1 : Int32)), .unset, .unset] [])) _
    refine XS.iconst X23.here hx rfl (hb hby at_77) ?_
    show Steps p.tables e below (T23.setTop (mkF m 78 #[.val (.int p0), .val (.long q1), .second, .val (.ref b1), .val (.int (0 : Int32)), .val (.ref (w 0)), .val (.long (0 : Int64)), .second, .val (.int (1 : Int32)), .unset, .unset] [(.int (1 : Int32))])) _
    refine XS.goto X23.here hx rfl (pc0 := 78) (pc' := 82) rfl (hb hby at_78) (by decide) (by decide) ?_
    show Steps p.tables e below (T23.setTop (mkF m 82 #[.val (.int p0), .val (.long q1), .second, .val (.ref b1), .val (.int (0 : Int32)), .val (.ref (w 0)), .val (.long (0 : Int64)), .second, .val (.int (1 : Int32)), .unset, .unset] [(.int (1 : Int32))])) _
    refine XS.istore X23.here hx rfl (hb hby at_82) rfl (l' := #[.val (.int p0), .val (.long q1), .second, .val (.ref b1), .val (.int (0 : Int32)), .val (.ref (w 0)), .val (.long (0 : Int64)), .second, .val (.int (1 : Int32)), .val (.int (1 : Int32)), .unset]) rfl ?_
    show Steps p.tables e below (T23.setTop (mkF m 84 #[.val (.int p0), .val (.long q1), .second, .val (.ref b1), .val (.int (0 : Int32)), .val (.ref (w 0)), .val (.long (0 : Int64)), .second, .val (.int (1 : Int32)), .val (.int (1 : Int32)), .unset] [])) _
    refine XS.aload X23.here hx rfl (hb hby at_84) rfl rfl ?_
    show Steps p.tables e below (T23.setTop (mkF m 86 #[.val (.int p0), .val (.long q1), .second, .val (.ref b1), .val (.int (0 : Int32)), .val (.ref (w 0)), .val (.long (0 : Int64)), .second, .val (.int (1 : Int32)), .val (.int (1 : Int32)), .unset] [(.ref (w 0))])) _
    refine X23.ldc2Long hx hown (mvT hZ (W hw 15 rfl)) (g := (mkF m 86 #[.val (.int p0), .val (.long q1), .second, .val (.ref b1), .val (.int (0 : Int32)), .val (.ref (w 0)), .val (.long (0 : Int64)), .second, .val (.int (1 : Int32)), .val (.int (1 : Int32)), .unset] [(.ref (w 0))])) rfl (hb hby at_86) _ ?_
    show Steps p.tables e below (T23.setTop (mkF m 89 #[.val (.int p0), .val (.long q1), .second, .val (.ref b1), .val (.int (0 : Int32)), .val (.ref (w 0)), .val (.long (0 : Int64)), .second, .val (.int (1 : Int32)), .val (.int (1 : Int32)), .unset] [(.long (9223372036854775807 : Int64)), (.ref (w 0))])) _
    refine XS.lload X23.here hx rfl (hb hby at_89) rfl ?_
    show Steps p.tables e below (T23.setTop (mkF m 91 #[.val (.int p0), .val (.long q1), .second, .val (.ref b1), .val (.int (0 : Int32)), .val (.ref (w 0)), .val (.long (0 : Int64)), .second, .val (.int (1 : Int32)), .val (.int (1 : Int32)), .unset] [(.long (0 : Int64)), (.long (9223372036854775807 : Int64)), (.ref (w 0))])) _
    refine st24.trans ?_
    show Steps p.tables e below (T24.setTop (mkF m 94 #[.val (.int p0), .val (.long q1), .second, .val (.ref b1), .val (.int (0 : Int32)), .val (.ref (w 0)), .val (.long (0 : Int64)), .second, .val (.int (1 : Int32)), .val (.int (1 : Int32)), .unset] [(.int (0 : Int32))])) _
    refine XS.ifNo X24.here hx rfl (hb hby at_94) rfl ((if0 _ _).trans (teq (by decide : (0 : Int32) = (0 : Int32))).2) ?_
    show Steps p.tables e below (T24.setTop (mkF m 97 #[.val (.int p0), .val (.long q1), .second, .val (.ref b1), .val (.int (0 : Int32)), .val (.ref (w 0)), .val (.long (0 : Int64)), .second, .val (.int (1 : Int32)), .val (.int (1 : Int32)), .unset] [])) _
    refine XS.iconst X24.here hx rfl (hb hby at_97) ?_
    show Steps p.tables e below (T24.setTop (mkF m 98 #[.val (.int p0), .val (.long q1), .second, .val (.ref b1), .val (.int (0 : Int32)), .val (.ref (w 0)), .val (.long (0 : Int64)), .second, .val (.int (1 : Int32)), .val (.int (1 : Int32)), .unset] [(.int (1 : Int32))])) _
    refine XS.goto X24.here hx rfl (pc0 := 98) (pc' := 102) rfl (hb hby at_98) (by decide) (by decide) ?_
    show Steps p.tables e below (T24.setTop (mkF m 102 #[.val (.int p0), .val (.long q1), .second, .val (.ref b1), .val (.int (0 : Int32)), .val (.ref (w 0)), .val (.long (0 : Int64)), .second, .val (.int (1 : Int32)), .val (.int (1 : Int32)), .unset] [(.int (1 : Int32))])) _
    refine XS.istore X24.here hx rfl (hb hby at_102) rfl (l' := #[.val (.int p0), .val (.long q1), .second, .val (.ref b1), .val (.int (0 : Int32)), .val (.ref (w 0)), .val (.long (0 : Int64)), .second, .val (.int (1 : Int32)), .val (.int (1 : Int32)), .val (.int (1 : Int32))]) rfl ?_
    show Steps p.tables e below (T24.setTop (mkF m 104 #[.val (.int p0), .val (.long q1), .second, .val (.ref b1), .val (.int (0 : Int32)), .val (.ref (w 0)), .val (.long (0 : Int64)), .second, .val (.int (1 : Int32)), .val (.int (1 : Int32)), .val (.int (1 : Int32))] [])) _
    refine XS.iload X24.here hx rfl (hb hby at_104) rfl ?_
    show Steps p.tables e below (T24.setTop (mkF m 106 #[.val (.int p0), .val (.long q1), .second, .val (.ref b1), .val (.int (0 : Int32)), .val (.ref (w 0)), .val (.long (0 : Int64)), .second, .val (.int (1 : Int32)), .val (.int (1 : Int32)), .val (.int (1 : Int32))] [(.int (1 : Int32))])) _
    refine XS.iload X24.here hx rfl (hb hby at_106) rfl ?_
    show Steps p.tables e below (T24.setTop (mkF m 108 #[.val (.int p0), .val (.long q1), .second, .val (.ref b1), .val (.int (0 : Int32)), .val (.ref (w 0)), .val (.long (0 : Int64)), .second, .val (.int (1 : Int32)), .val (.int (1 : Int32)), .val (.int (1 : Int32))] [(.int (1 : Int32)), (.int (1 : Int32))])) _
    refine XS.icmpNo X24.here hx rfl (hb hby at_108) rfl (teq (by decide : (1 : Int32) = (1 : Int32))).2 ?_
    show Steps p.tables e below (T24.setTop (mkF m 111 #[.val (.int p0), .val (.long q1), .second, .val (.ref b1), .val (.int (0 : Int32)), .val (.ref (w 0)), .val (.long (0 : Int64)), .second, .val (.int (1 : Int32)), .val (.int (1 : Int32)), .val (.int (1 : Int32))] [])) _
    refine XS.iload X24.here hx rfl (hb hby at_111) rfl ?_
    show Steps p.tables e below (T24.setTop (mkF m 113 #[.val (.int p0), .val (.long q1), .second, .val (.ref b1), .val (.int (0 : Int32)), .val (.ref (w 0)), .val (.long (0 : Int64)), .second, .val (.int (1 : Int32)), .val (.int (1 : Int32)), .val (.int (1 : Int32))] [(.int (1 : Int32))])) _
    refine XS.iload X24.here hx rfl (hb hby at_113) rfl ?_
    show Steps p.tables e below (T24.setTop (mkF m 115 #[.val (.int p0), .val (.long q1), .second, .val (.ref b1), .val (.int (0 : Int32)), .val (.ref (w 0)), .val (.long (0 : Int64)), .second, .val (.int (1 : Int32)), .val (.int (1 : Int32)), .val (.int (1 : Int32))] [(.int (1 : Int32)), (.int (1 : Int32))])) _
    refine XS.icmpNo X24.here hx rfl (hb hby at_115) rfl (teq (by decide : (1 : Int32) = (1 : Int32))).2 ?_
    show Steps p.tables e below (T24.setTop (mkF m 118 #[.val (.int p0), .val (.long q1), .second, .val (.ref b1), .val (.int (0 : Int32)), .val (.ref (w 0)), .val (.long (0 : Int64)), .second, .val (.int (1 : Int32)), .val (.int (1 : Int32)), .val (.int (1 : Int32))] [])) _
    refine XS.iconst X24.here hx rfl (hb hby at_118) ?_
    show Steps p.tables e below (T24.setTop (mkF m 119 #[.val (.int p0), .val (.long q1), .second, .val (.ref b1), .val (.int (0 : Int32)), .val (.ref (w 0)), .val (.long (0 : Int64)), .second, .val (.int (1 : Int32)), .val (.int (1 : Int32)), .val (.int (1 : Int32))] [(.int (1 : Int32))])) _
    refine XS.goto X24.here hx rfl (pc0 := 119) (pc' := 123) rfl (hb hby at_119) (by decide) (by decide) ?_
    show Steps p.tables e below (T24.setTop (mkF m 123 #[.val (.int p0), .val (.long q1), .second, .val (.ref b1), .val (.int (0 : Int32)), .val (.ref (w 0)), .val (.long (0 : Int64)), .second, .val (.int (1 : Int32)), .val (.int (1 : Int32)), .val (.int (1 : Int32))] [(.int (1 : Int32))])) _
    exact retN X24 hx (t := .boolean) Bd.returns (by simp) (hb hby at_123) hr
  · show OL (some (.int (1 : Int32))) Z.heap.size _ T24.heap _
    exact ⟨rfl, N24⟩
set_option maxRecDepth 65536 in
set_option maxHeartbeats 40000000 in
theorem rm_6 (l : Launch) (Z : State) (a0 : Array Value) (hw : ∀ d ∈ tables_1, d.before a0 Z = true) (w : Nat → Addr) (kk : Nat → ClassId) (hN : Wd Z w kk) (ws : List Jvm.Cond) (q1 : Int64) (h0 : Heap) (O0 : Old Z Z.heap.size h0) (hp0 : ¬ ((lcmpW (9223372036854775807 : Int64) q1) < (0 : Int32))) (hp1 : ¬ ((lcmpW (9223372036854775807 : Int64) q1) = (0 : Int32))) :
    MetFree l (⟨"java/lang/Long", "compare", "(JJ)I"⟩ : MethodName) (head1 (Jvm.Cond.code (⟨"java/lang/Long", "compare", "(JJ)I"⟩ : MethodName) jdk_35_method_42_code 4 (some .int) :: ws) ({ frames := 0, cells := 0, slots := 0, locals := 0 } : Room)) (fun a U => a = #[(.long (9223372036854775807 : Int64)), (.long q1)] ∧ Z.Warmed39 U.vm ∧ U.heap = h0) (fun _ _ _ _ _ => True) (fun _ U o U' => ∃ v L, o = .returned v ∧ OQ (some (.int (1 : Int32))) h0 Z.heap.size v U'.heap L ∧ FrameEnd U o U' L ({ frames := 0, cells := 0, slots := 0, locals := 0 } : Room).cells ({ frames := 0, cells := 0, slots := 0, locals := 0 } : Room).slots) := by
  have hN' := hN
  obtain ⟨hS0, hE0, hS1, hE1, hS2, hE2, hS3, hE3, hS4, hE4, hF0_ordinal, hF1_ordinal, hF4_ordinal, hF2_ordinal, hF3_ordinal⟩ := hN'
  refine MetFree.of_bodySF (plainFor_of_name pn_1) hisR ?_
  intro p e s m args below meth c s₁ Bd hml0 hP hK
  obtain ⟨rfl, hZ, hh⟩ := hP
  have hx := Bd.exec
  have hby := Bd.bytes
  have hml : c.maxLocals = 4 := hml0
  have hown : s.vm.findClass "java/lang/Long" = some m.cls := findClass_of_methodNamed Bd.named
  have hnm := (name_of_methodNamed Bd.named Bd.method).1
  have X0 : Stand p l e ({ frames := 0, cells := 0, slots := 0, locals := 0 } : Room) s m #[(.long (9223372036854775807 : Int64)), (.long q1)] below meth c s₁ [] 0 0 := Stand.of_body Bd
  have e0 : s₁.heap = h0 := by rw [← hh, Bd.state]; rfl
  have N0 := Fr.nil Z.heap.size
  have pre0 : ∀ t, Steps p.tables e below (s₁.setTop (mkF m 0 #[.val (.long (9223372036854775807 : Int64)), .second, .val (.long q1), .second] [])) t → Steps p.tables e below (s₁.setTop (entryFrame m #[(.long (9223372036854775807 : Int64)), (.long q1)] 4)) t := fun t k => castTop (ef_1 m (.long (9223372036854775807 : Int64)) rfl (.long q1) rfl) k
  obtain ⟨fs, hr, hrun, hended, hW, hsame⟩ := X0.leave (v := some (.int (1 : Int32))) (fun h => by rw [Bd.returns] at h; cases h)
  refine ⟨_, _, pre0 _ ?_, hrun, hended, _, _, rfl, ?_, ⟨_, rfl⟩, hW, hsame.mono (by decide) (by decide)⟩
  · show Steps p.tables e below (s₁.setTop (mkF m 0 #[.val (.long (9223372036854775807 : Int64)), .second, .val (.long q1), .second] [])) _
    refine XS.lloadN X0.here hx rfl (hb hby d_jdk_35_method_42_code_0) rfl ?_
    show Steps p.tables e below (s₁.setTop (mkF m 1 #[.val (.long (9223372036854775807 : Int64)), .second, .val (.long q1), .second] [(.long (9223372036854775807 : Int64))])) _
    refine XS.lloadN X0.here hx rfl (hb hby d_jdk_35_method_42_code_1) rfl ?_
    show Steps p.tables e below (s₁.setTop (mkF m 2 #[.val (.long (9223372036854775807 : Int64)), .second, .val (.long q1), .second] [(.long q1), (.long (9223372036854775807 : Int64))])) _
    refine XS.lcmp X0.here hx rfl (hb hby d_jdk_35_method_42_code_2) rfl ?_
    show Steps p.tables e below (s₁.setTop (mkF m 3 #[.val (.long (9223372036854775807 : Int64)), .second, .val (.long q1), .second] [(.int (lcmpW (9223372036854775807 : Int64) q1))])) _
    refine XS.ifYes X0.here hx rfl (pc0 := 3) (pc' := 10) rfl (hb hby d_jdk_35_method_42_code_3) rfl ((if0 _ _).trans (flt hp0).2.1) (by decide) (by decide) ?_
    show Steps p.tables e below (s₁.setTop (mkF m 10 #[.val (.long (9223372036854775807 : Int64)), .second, .val (.long q1), .second] [])) _
    refine XS.lloadN X0.here hx rfl (hb hby d_jdk_35_method_42_code_10) rfl ?_
    show Steps p.tables e below (s₁.setTop (mkF m 11 #[.val (.long (9223372036854775807 : Int64)), .second, .val (.long q1), .second] [(.long (9223372036854775807 : Int64))])) _
    refine XS.lloadN X0.here hx rfl (hb hby d_jdk_35_method_42_code_11) rfl ?_
    show Steps p.tables e below (s₁.setTop (mkF m 12 #[.val (.long (9223372036854775807 : Int64)), .second, .val (.long q1), .second] [(.long q1), (.long (9223372036854775807 : Int64))])) _
    refine XS.lcmp X0.here hx rfl (hb hby d_jdk_35_method_42_code_12) rfl ?_
    show Steps p.tables e below (s₁.setTop (mkF m 13 #[.val (.long (9223372036854775807 : Int64)), .second, .val (.long q1), .second] [(.int (lcmpW (9223372036854775807 : Int64) q1))])) _
    refine XS.ifYes X0.here hx rfl (pc0 := 13) (pc' := 20) rfl (hb hby d_jdk_35_method_42_code_13) rfl ((if0 _ _).trans (feq hp1).2) (by decide) (by decide) ?_
    show Steps p.tables e below (s₁.setTop (mkF m 20 #[.val (.long (9223372036854775807 : Int64)), .second, .val (.long q1), .second] [])) _
    refine XS.iconst X0.here hx rfl (hb hby d_jdk_35_method_42_code_20) ?_
    show Steps p.tables e below (s₁.setTop (mkF m 21 #[.val (.long (9223372036854775807 : Int64)), .second, .val (.long q1), .second] [(.int (1 : Int32))])) _
    exact retI X0 hx Bd.returns (hb hby d_jdk_35_method_42_code_21) hr
  · show OQ (some (.int (1 : Int32))) h0 Z.heap.size _ s₁.heap _
    rw [e0]
    exact ⟨rfl, N0, rfl⟩
set_option maxRecDepth 65536 in
set_option maxHeartbeats 40000000 in
theorem rm_7 (l : Launch) (Z : State) (a0 : Array Value) (hw : ∀ d ∈ tables_1, d.before a0 Z = true) (w : Nat → Addr) (kk : Nat → ClassId) (hN : Wd Z w kk) (ws : List Jvm.Cond) (q2 : Int64) (h0 : Heap) (O0 : Old Z Z.heap.size h0) (hp0 : ¬ ((lcmpW (9223372036854775807 : Int64) q2) < (0 : Int32))) (hp1 : ¬ ((lcmpW (9223372036854775807 : Int64) q2) = (0 : Int32))) :
    MetFree l (⟨"com/example/stint/stint/model/Relation", "holds", "(JJ)Z"⟩ : MethodName) (head1 (Jvm.Cond.code (⟨"com/example/stint/stint/model/Relation", "holds", "(JJ)Z"⟩ : MethodName) prog_47_method_11_code 6 (some .boolean) :: ws) ({ frames := 1, cells := 0, slots := 0, locals := 15 } : Room)) (fun a U => a = #[(.ref (w 0)), (.long (9223372036854775807 : Int64)), (.long q2)] ∧ Z.Warmed39 U.vm ∧ U.heap = h0) (fun _ _ _ _ _ => True) (fun _ U o U' => ∃ v L, o = .returned v ∧ OQ (some (.int (0 : Int32))) h0 Z.heap.size v U'.heap L ∧ FrameEnd U o U' L ({ frames := 1, cells := 0, slots := 0, locals := 15 } : Room).cells ({ frames := 1, cells := 0, slots := 0, locals := 15 } : Room).slots) := by
  have hN' := hN
  obtain ⟨hS0, hE0, hS1, hE1, hS2, hE2, hS3, hE3, hS4, hE4, hF0_ordinal, hF1_ordinal, hF4_ordinal, hF2_ordinal, hF3_ordinal⟩ := hN'
  refine MetFree.of_bodySF (plainFor_of_name pn_0) hisR ?_
  intro p e s m args below meth c s₁ Bd hml0 hP hK
  obtain ⟨rfl, hZ, hh⟩ := hP
  have hx := Bd.exec
  have hby := Bd.bytes
  have hml : c.maxLocals = 6 := hml0
  have hown : s.vm.findClass "com/example/stint/stint/model/Relation" = some m.cls := findClass_of_methodNamed Bd.named
  have hnm := (name_of_methodNamed Bd.named Bd.method).1
  have X0 : Stand p l e ({ frames := 1, cells := 0, slots := 0, locals := 15 } : Room) s m #[(.ref (w 0)), (.long (9223372036854775807 : Int64)), (.long q2)] below meth c s₁ [] 0 0 := Stand.of_body Bd
  have e0 : s₁.heap = h0 := by rw [← hh, Bd.state]; rfl
  have N0 := Fr.nil Z.heap.size
  have pre0 : ∀ t, Steps p.tables e below (s₁.setTop (mkF m 0 #[.val (.ref (w 0)), .val (.long (9223372036854775807 : Int64)), .second, .val (.long q2), .second, .unset] [])) t → Steps p.tables e below (s₁.setTop (entryFrame m #[(.ref (w 0)), (.long (9223372036854775807 : Int64)), (.long q2)] 6)) t := fun t k => castTop (ef_2 m (.ref (w 0)) rfl (.long (9223372036854775807 : Int64)) rfl (.long q2) rfl) k
  obtain ⟨_, _, ⟨T1, L1, k1, n1⟩, -, X1, ⟨Lc1, hQ1, l1, y1, z1⟩, st1⟩ := Jvm.LawKit.callS X0 hx (y := (⟨"java/lang/Long", "compare", "(JJ)I"⟩ : MethodName)) hown (mvT hZ (W hw 27 rfl)) (mvT hZ (W hw 28 rfl)) (mvT hZ (W hw 29 rfl)) (mvT hZ (W hw 30 rfl)) (by decide) (backOf (W := 0) (rm_6 l Z a0 hw w kk hN [] q2 h0 O0 hp0 hp1) hZ (W hw 30 rfl) (W hw 29 rfl) (by decide) (by decide)) (g := (mkF m 2 #[.val (.ref (w 0)), .val (.long (9223372036854775807 : Int64)), .second, .val (.long q2), .second, .unset] [(.long q2), (.long (9223372036854775807 : Int64))])) rfl (by rw [hml]; rfl) (argsL := [(.long (9223372036854775807 : Int64)), (.long q2)]) (rest := []) (lenOf pd_1 rfl) rfl (by show 2 * 0 + _ ≤ _; exact Nat.le_of_eq rfl) (hb hby d_prog_47_method_11_code_2) (fun _ _ => ⟨rfl, e0, (by decide : 0 + 0 ≤ _), (by decide : 0 + 0 ≤ _)⟩)
  dsimp only [Pt.U, Pt.locs, Pt.cells, Pt.slots] at X1 l1 y1 z1 st1 hQ1
  subst l1 y1 z1
  obtain ⟨rfl, N1q, e1⟩ := hQ1
  have N1 := Fr.app N0 N1q
  obtain ⟨cq2, kq2, q2a, q2b, q2c⟩ := isOf hZ e1 (hE0.ext O0.2)
  obtain ⟨_, _, ⟨T2, L2, k2, n2⟩, -, X2, ⟨Lc2, hQ2, l2, y2, z2⟩, st2⟩ := X1.virtualBackUp hx (x := (⟨"com/example/stint/stint/model/Relation", "ordinal", "()I"⟩ : MethodName)) (y := (⟨"java/lang/Enum", "ordinal", "()I"⟩ : MethodName)) (owner := "java/lang/Enum") hown (mvT hZ (W hw 31 rfl)) (mvT hZ (W hw 32 rfl)) (mvT hZ (W hw 33 rfl)) (by decide) (mvT hZ (W hw 35 rfl)) (mvT hZ (W hw 34 rfl)) (backOf (W := 0) (rm_3 l Z a0 hw w kk hN [] h0 O0) hZ (W hw 37 rfl) (W hw 36 rfl) (by decide) (by decide)) q2a q2c (g := (mkF m 8 #[.val (.ref (w 0)), .val (.long (9223372036854775807 : Int64)), .second, .val (.long q2), .second, .val (.int (1 : Int32))] [(.ref (w 0))])) rfl (by rw [hml]; rfl) (Steps.refl _) (argsL := []) (rest := []) (lenOf pd_2 rfl) rfl (by show 2 * 0 + _ ≤ _; exact Nat.le_of_eq rfl) (hb hby d_prog_47_method_11_code_8) (fun _ _ => ⟨rfl, e1, (by decide : 0 + 0 ≤ _), (by decide : 0 + 0 ≤ _)⟩)
  dsimp only [Pt.U, Pt.locs, Pt.cells, Pt.slots] at X2 l2 y2 z2 st2 hQ2
  subst l2 y2 z2
  obtain ⟨rfl, N2q, e2⟩ := hQ2
  have N2 := Fr.app N1 N2q
  obtain ⟨fs, hr, hrun, hended, hW, hsame⟩ := X2.leave (v := some (.int (0 : Int32))) (fun h => by rw [Bd.returns] at h; cases h)
  refine ⟨_, _, pre0 _ ?_, hrun, hended, _, _, rfl, ?_, ⟨_, rfl⟩, hW, hsame.mono (by decide) (by decide)⟩
  · show Steps p.tables e below (s₁.setTop (mkF m 0 #[.val (.ref (w 0)), .val (.long (9223372036854775807 : Int64)), .second, .val (.long q2), .second, .unset] [])) _
    refine XS.lloadN X0.here hx rfl (hb hby d_prog_47_method_11_code_0) rfl ?_
    show Steps p.tables e below (s₁.setTop (mkF m 1 #[.val (.ref (w 0)), .val (.long (9223372036854775807 : Int64)), .second, .val (.long q2), .second, .unset] [(.long (9223372036854775807 : Int64))])) _
    refine XS.lloadN X0.here hx rfl (hb hby d_prog_47_method_11_code_1) rfl ?_
    show Steps p.tables e below (s₁.setTop (mkF m 2 #[.val (.ref (w 0)), .val (.long (9223372036854775807 : Int64)), .second, .val (.long q2), .second, .unset] [(.long q2), (.long (9223372036854775807 : Int64))])) _
    refine st1 _ ?_
    show Steps p.tables e below (T1.setTop (mkF m 5 #[.val (.ref (w 0)), .val (.long (9223372036854775807 : Int64)), .second, .val (.long q2), .second, .unset] [(.int (1 : Int32))])) _
    refine XS.istore X1.here hx rfl (hb hby d_prog_47_method_11_code_5) rfl (l' := #[.val (.ref (w 0)), .val (.long (9223372036854775807 : Int64)), .second, .val (.long q2), .second, .val (.int (1 : Int32))]) rfl ?_
    show Steps p.tables e below (T1.setTop (mkF m 7 #[.val (.ref (w 0)), .val (.long (9223372036854775807 : Int64)), .second, .val (.long q2), .second, .val (.int (1 : Int32))] [])) _
    refine XS.aloadN X1.here hx rfl (hb hby d_prog_47_method_11_code_7) rfl rfl ?_
    show Steps p.tables e below (T1.setTop (mkF m 8 #[.val (.ref (w 0)), .val (.long (9223372036854775807 : Int64)), .second, .val (.long q2), .second, .val (.int (1 : Int32))] [(.ref (w 0))])) _
    refine st2.trans ?_
    show Steps p.tables e below (T2.setTop (mkF m 11 #[.val (.ref (w 0)), .val (.long (9223372036854775807 : Int64)), .second, .val (.long q2), .second, .val (.int (1 : Int32))] [(.int (0 : Int32))])) _
    refine XS.tswIn X2.here hx rfl (pc0 := 11) (pc' := 54) (o := 43) rfl (hb hby d_prog_47_method_11_code_11) rfl (by decide) (by decide) (by decide) (by decide) ?_
    show Steps p.tables e below (T2.setTop (mkF m 54 #[.val (.ref (w 0)), .val (.long (9223372036854775807 : Int64)), .second, .val (.long q2), .second, .val (.int (1 : Int32))] [])) _
    refine XS.iload X2.here hx rfl (hb hby d_prog_47_method_11_code_54) rfl ?_
    show Steps p.tables e below (T2.setTop (mkF m 56 #[.val (.ref (w 0)), .val (.long (9223372036854775807 : Int64)), .second, .val (.long q2), .second, .val (.int (1 : Int32))] [(.int (1 : Int32))])) _
    refine XS.ifYes X2.here hx rfl (pc0 := 56) (pc' := 63) rfl (hb hby d_prog_47_method_11_code_56) rfl ((if0 _ _).trans (flt (by decide : ¬ ((1 : Int32) < (0 : Int32)))).2.1) (by decide) (by decide) ?_
    show Steps p.tables e below (T2.setTop (mkF m 63 #[.val (.ref (w 0)), .val (.long (9223372036854775807 : Int64)), .second, .val (.long q2), .second, .val (.int (1 : Int32))] [])) _
    refine XS.iconst X2.here hx rfl (hb hby d_prog_47_method_11_code_63) ?_
    show Steps p.tables e below (T2.setTop (mkF m 64 #[.val (.ref (w 0)), .val (.long (9223372036854775807 : Int64)), .second, .val (.long q2), .second, .val (.int (1 : Int32))] [(.int (0 : Int32))])) _
    refine XS.goto X2.here hx rfl (pc0 := 64) (pc' := 116) rfl (hb hby d_prog_47_method_11_code_64) (by decide) (by decide) ?_
    show Steps p.tables e below (T2.setTop (mkF m 116 #[.val (.ref (w 0)), .val (.long (9223372036854775807 : Int64)), .second, .val (.long q2), .second, .val (.int (1 : Int32))] [(.int (0 : Int32))])) _
    exact retN X2 hx (t := .boolean) Bd.returns (by simp) (hb hby d_prog_47_method_11_code_116) hr
  · show OQ (some (.int (0 : Int32))) h0 Z.heap.size _ T2.heap _
    rw [e2]
    exact ⟨rfl, N2, rfl⟩
set_option maxRecDepth 65536 in
set_option maxHeartbeats 40000000 in
theorem law_8 (l : Launch) (Z : State) (a0 : Array Value) (hw : ∀ d ∈ tables_1, d.before a0 Z = true) (w : Nat → Addr) (kk : Nat → ClassId) (hN : Wd Z w kk) (ws : List Jvm.Cond) (p0 : Int32) (q1 : Int64) (h0 : Heap) (O0 : Old Z Z.heap.size h0) (hp0 : ((p0 &&& (2147483647 : Int32)) % (5 : Int32)) = (0 : Int32)) (hp1 : ¬ ((lcmpW q1 (9223372036854775807 : Int64)) = (0 : Int32))) (hp2 : ¬ ((lcmpW (9223372036854775807 : Int64) q1) < (0 : Int32))) (hp3 : ¬ ((lcmpW (9223372036854775807 : Int64) q1) = (0 : Int32))) :
    MetFree l x (head1 (Jvm.Cond.code x code maxLocals ret :: ws) room_1) (fun a U => a = #[(.int p0), (.long q1)] ∧ Z.Warmed39 U.vm ∧ U.heap = h0) (fun _ _ _ _ _ => True) (fun _ U o U' => ∃ v L, o = .returned v ∧ OL (some (.int (1 : Int32))) Z.heap.size v U'.heap L ∧ FrameEnd U o U' L 16 128) := by
  have hN' := hN
  obtain ⟨hS0, hE0, hS1, hE1, hS2, hE2, hS3, hE3, hS4, hE4, hF0_ordinal, hF1_ordinal, hF4_ordinal, hF2_ordinal, hF3_ordinal⟩ := hN'
  refine MetFree.of_bodySF (plainFor_of_name pn_3) hisR ?_
  intro p e s m args below meth c s₁ Bd hml0 hP hK
  obtain ⟨rfl, hZ, hh⟩ := hP
  have hx := Bd.exec
  have hby := Bd.bytes
  have hml : c.maxLocals = 11 := hml0
  have hown : s.vm.findClass "com/example/stint/stint/model/RelationBoundsAbovePinLaw" = some m.cls := findClass_of_methodNamed Bd.named
  have hnm := (name_of_methodNamed Bd.named Bd.method).1
  have X0 : Stand p l e room_1 s m #[(.int p0), (.long q1)] below meth c s₁ [] 0 0 := Stand.of_body Bd
  have e0 : s₁.heap = h0 := by rw [← hh, Bd.state]; rfl
  have N0 := Fr.nil Z.heap.size
  have pre0 : ∀ t, Steps p.tables e below (s₁.setTop (mkF m 0 #[.val (.int p0), .val (.long q1), .second, .unset, .unset, .unset, .unset, .unset, .unset, .unset, .unset] [])) t → Steps p.tables e below (s₁.setTop (entryFrame m #[(.int p0), (.long q1)] maxLocals)) t := fun t k => castTop (ef_3 m (.int p0) rfl (.long q1) rfl) k
  obtain ⟨T1, h1, k1, X1, e1, E1, A1, Ov1, st1⟩ := newR X0 hx hZ hown (W hw 0 rfl) (W hw 1 rfl) e0 (g := (mkF m 1 #[.val (.int p0), .val (.long q1), .second, .unset, .unset, .unset, .unset, .unset, .unset, .unset, .unset] [(.int (5 : Int32))])) rfl (hb hby at_1) rfl (by decide) (cap := 5) (by decide) (by decide) (by decide) (by decide)
  obtain ⟨b1, g1⟩ : ∃ z, z = h0.size := ⟨_, rfl⟩
  rw [← g1] at A1 st1
  have gn_b1 : Z.heap.size ≤ b1 := Nat.le_trans O0.2.1 (Nat.le_of_eq g1.symm)
  have O1 := O0.ext E1
  have V_b1_v1 : Arv Z h1 b1 k1 (.object "com/example/stint/stint/model/Relation") (5 : Int32) [] .null := Arv.new A1 (by decide)
  obtain ⟨T2, X2, e2, st2⟩ := getS2 X1 hx hZ hown (host := "") (Or.inl (W hw 2 rfl)) Via.refl e1 (hS0.ext O1.2) (g := (mkF m 6 #[.val (.int p0), .val (.long q1), .second, .unset, .unset, .unset, .unset, .unset, .unset, .unset, .unset] [(.int (0 : Int32)), (.ref b1), (.ref b1)])) rfl (hb hby at_6)
  have V_b1_v3 : Arv Z h1 b1 k1 (.object "com/example/stint/stint/model/Relation") (5 : Int32) [.null] .null := V_b1_v1.pad (pad_rep [] .null 1)
  obtain ⟨cl4, Ar4, q4, Sz4, Ng4, Hv4, Gv4⟩ := V_b1_v3
  have hin4 : ¬ ((0 : Int32) < 0 ∨ cl4.slots.size ≤ ((0 : Int32)).toNatClampNeg) := inb_of Sz4 ⟨by decide, by decide⟩
  obtain ⟨T5, h5, X5, e5, W5, st5⟩ := stR X2 hx hZ e2 Ar4 (j := (0 : Int32)) (v := (.ref (w 0))) hin4 rfl (Sto.ofV Ar4 q4 Ov1 (Ins.self (hE0.ext O1.2))) (g := (mkF m 9 #[.val (.int p0), .val (.long q1), .second, .unset, .unset, .unset, .unset, .unset, .unset, .unset, .unset] [(.ref (w 0)), (.int (0 : Int32)), (.ref b1), (.ref b1)])) rfl rfl (hb hby at_9)
  have V_b1_v5 : Arv Z h5 b1 k1 (.object "com/example/stint/stint/model/Relation") (5 : Int32) [(.ref (w 0))] .null := Arv.set Ar4 q4 Sz4 Ng4 Hv4 Gv4 rfl W5 0 rfl (Nat.le_of_ble_eq_true rfl)
  have N5 := Fr.snoc X5 N0 gn_b1
  have O5 := O1.wr W5 gn_b1
  obtain ⟨T6, X6, e6, st6⟩ := getS2 X5 hx hZ hown (host := "") (Or.inl (W hw 6 rfl)) Via.refl e5 (hS1.ext O5.2) (g := (mkF m 12 #[.val (.int p0), .val (.long q1), .second, .unset, .unset, .unset, .unset, .unset, .unset, .unset, .unset] [(.int (1 : Int32)), (.ref b1), (.ref b1)])) rfl (hb hby at_12)
  have V_b1_v7 : Arv Z h5 b1 k1 (.object "com/example/stint/stint/model/Relation") (5 : Int32) [(.ref (w 0)), .null] .null := V_b1_v5.pad (pad_rep [(.ref (w 0))] .null 1)
  obtain ⟨cl8, Ar8, q8, Sz8, Ng8, Hv8, Gv8⟩ := V_b1_v7
  have hin8 : ¬ ((1 : Int32) < 0 ∨ cl8.slots.size ≤ ((1 : Int32)).toNatClampNeg) := inb_of Sz8 ⟨by decide, by decide⟩
  obtain ⟨T9, h9, X9, e9, W9, st9⟩ := stR X6 hx hZ e6 Ar8 (j := (1 : Int32)) (v := (.ref (w 1))) hin8 rfl (Sto.ofV Ar8 q8 Ov1 (Ins.self (hE1.ext O5.2))) (g := (mkF m 15 #[.val (.int p0), .val (.long q1), .second, .unset, .unset, .unset, .unset, .unset, .unset, .unset, .unset] [(.ref (w 1)), (.int (1 : Int32)), (.ref b1), (.ref b1)])) rfl rfl (hb hby at_15)
  have V_b1_v9 : Arv Z h9 b1 k1 (.object "com/example/stint/stint/model/Relation") (5 : Int32) [(.ref (w 0)), (.ref (w 1))] .null := Arv.set Ar8 q8 Sz8 Ng8 Hv8 Gv8 rfl W9 1 rfl (Nat.le_of_ble_eq_true rfl)
  have N9 := Fr.snoc X9 N5 gn_b1
  have O9 := O5.wr W9 gn_b1
  obtain ⟨T10, X10, e10, st10⟩ := getS2 X9 hx hZ hown (host := "") (Or.inl (W hw 8 rfl)) Via.refl e9 (hS2.ext O9.2) (g := (mkF m 18 #[.val (.int p0), .val (.long q1), .second, .unset, .unset, .unset, .unset, .unset, .unset, .unset, .unset] [(.int (2 : Int32)), (.ref b1), (.ref b1)])) rfl (hb hby at_18)
  have V_b1_v11 : Arv Z h9 b1 k1 (.object "com/example/stint/stint/model/Relation") (5 : Int32) [(.ref (w 0)), (.ref (w 1)), .null] .null := V_b1_v9.pad (pad_rep [(.ref (w 0)), (.ref (w 1))] .null 1)
  obtain ⟨cl12, Ar12, q12, Sz12, Ng12, Hv12, Gv12⟩ := V_b1_v11
  have hin12 : ¬ ((2 : Int32) < 0 ∨ cl12.slots.size ≤ ((2 : Int32)).toNatClampNeg) := inb_of Sz12 ⟨by decide, by decide⟩
  obtain ⟨T13, h13, X13, e13, W13, st13⟩ := stR X10 hx hZ e10 Ar12 (j := (2 : Int32)) (v := (.ref (w 2))) hin12 rfl (Sto.ofV Ar12 q12 Ov1 (Ins.self (hE2.ext O9.2))) (g := (mkF m 21 #[.val (.int p0), .val (.long q1), .second, .unset, .unset, .unset, .unset, .unset, .unset, .unset, .unset] [(.ref (w 2)), (.int (2 : Int32)), (.ref b1), (.ref b1)])) rfl rfl (hb hby at_21)
  have V_b1_v13 : Arv Z h13 b1 k1 (.object "com/example/stint/stint/model/Relation") (5 : Int32) [(.ref (w 0)), (.ref (w 1)), (.ref (w 2))] .null := Arv.set Ar12 q12 Sz12 Ng12 Hv12 Gv12 rfl W13 2 rfl (Nat.le_of_ble_eq_true rfl)
  have N13 := Fr.snoc X13 N9 gn_b1
  have O13 := O9.wr W13 gn_b1
  obtain ⟨T14, X14, e14, st14⟩ := getS2 X13 hx hZ hown (host := "") (Or.inl (W hw 10 rfl)) Via.refl e13 (hS3.ext O13.2) (g := (mkF m 24 #[.val (.int p0), .val (.long q1), .second, .unset, .unset, .unset, .unset, .unset, .unset, .unset, .unset] [(.int (3 : Int32)), (.ref b1), (.ref b1)])) rfl (hb hby at_24)
  have V_b1_v15 : Arv Z h13 b1 k1 (.object "com/example/stint/stint/model/Relation") (5 : Int32) [(.ref (w 0)), (.ref (w 1)), (.ref (w 2)), .null] .null := V_b1_v13.pad (pad_rep [(.ref (w 0)), (.ref (w 1)), (.ref (w 2))] .null 1)
  obtain ⟨cl16, Ar16, q16, Sz16, Ng16, Hv16, Gv16⟩ := V_b1_v15
  have hin16 : ¬ ((3 : Int32) < 0 ∨ cl16.slots.size ≤ ((3 : Int32)).toNatClampNeg) := inb_of Sz16 ⟨by decide, by decide⟩
  obtain ⟨T17, h17, X17, e17, W17, st17⟩ := stR X14 hx hZ e14 Ar16 (j := (3 : Int32)) (v := (.ref (w 3))) hin16 rfl (Sto.ofV Ar16 q16 Ov1 (Ins.self (hE3.ext O13.2))) (g := (mkF m 27 #[.val (.int p0), .val (.long q1), .second, .unset, .unset, .unset, .unset, .unset, .unset, .unset, .unset] [(.ref (w 3)), (.int (3 : Int32)), (.ref b1), (.ref b1)])) rfl rfl (hb hby at_27)
  have V_b1_v17 : Arv Z h17 b1 k1 (.object "com/example/stint/stint/model/Relation") (5 : Int32) [(.ref (w 0)), (.ref (w 1)), (.ref (w 2)), (.ref (w 3))] .null := Arv.set Ar16 q16 Sz16 Ng16 Hv16 Gv16 rfl W17 3 rfl (Nat.le_of_ble_eq_true rfl)
  have N17 := Fr.snoc X17 N13 gn_b1
  have O17 := O13.wr W17 gn_b1
  obtain ⟨T18, X18, e18, st18⟩ := getS2 X17 hx hZ hown (host := "") (Or.inl (W hw 12 rfl)) Via.refl e17 (hS4.ext O17.2) (g := (mkF m 30 #[.val (.int p0), .val (.long q1), .second, .unset, .unset, .unset, .unset, .unset, .unset, .unset, .unset] [(.int (4 : Int32)), (.ref b1), (.ref b1)])) rfl (hb hby at_30)
  have V_b1_v19 : Arv Z h17 b1 k1 (.object "com/example/stint/stint/model/Relation") (5 : Int32) [(.ref (w 0)), (.ref (w 1)), (.ref (w 2)), (.ref (w 3)), .null] .null := V_b1_v17.pad (pad_rep [(.ref (w 0)), (.ref (w 1)), (.ref (w 2)), (.ref (w 3))] .null 1)
  obtain ⟨cl20, Ar20, q20, Sz20, Ng20, Hv20, Gv20⟩ := V_b1_v19
  have hin20 : ¬ ((4 : Int32) < 0 ∨ cl20.slots.size ≤ ((4 : Int32)).toNatClampNeg) := inb_of Sz20 ⟨by decide, by decide⟩
  obtain ⟨T21, h21, X21, e21, W21, st21⟩ := stR X18 hx hZ e18 Ar20 (j := (4 : Int32)) (v := (.ref (w 4))) hin20 rfl (Sto.ofV Ar20 q20 Ov1 (Ins.self (hE4.ext O17.2))) (g := (mkF m 33 #[.val (.int p0), .val (.long q1), .second, .unset, .unset, .unset, .unset, .unset, .unset, .unset, .unset] [(.ref (w 4)), (.int (4 : Int32)), (.ref b1), (.ref b1)])) rfl rfl (hb hby at_33)
  have V_b1_v21 : Arv Z h21 b1 k1 (.object "com/example/stint/stint/model/Relation") (5 : Int32) [(.ref (w 0)), (.ref (w 1)), (.ref (w 2)), (.ref (w 3)), (.ref (w 4))] .null := Arv.set Ar20 q20 Sz20 Ng20 Hv20 Gv20 rfl W21 4 rfl (Nat.le_of_ble_eq_true rfl)
  have N21 := Fr.snoc X21 N17 gn_b1
  have O21 := O17.wr W21 gn_b1
  obtain ⟨cl22, Ar22, q22, Sz22, Ng22, Hv22, Gv22⟩ := V_b1_v21
  have hin22 : ¬ ((0 : Int32) < 0 ∨ cl22.slots.size ≤ ((0 : Int32)).toNatClampNeg) := inb_of Sz22 ⟨by decide, by decide⟩
  have hat22 : cl22.slots[((0 : Int32)).toNatClampNeg]? = some (.ref (w 0)) := Has.at Hv22 hin22 (by rfl)
  obtain ⟨cq23, kq23, q23a, q23b, q23c⟩ := isOf hZ e21 (hE0.ext O21.2)
  obtain ⟨_, _, ⟨T23, L23, k23, n23⟩, -, X23, ⟨Lc23, hQ23, l23, y23, z23⟩, st23⟩ := X21.virtualBack hx (y := (⟨"com/example/stint/stint/model/Relation", "boundsAbove", "()Z"⟩ : MethodName)) (z := (⟨"com/example/stint/stint/model/Relation", "boundsAbove", "()Z"⟩ : MethodName)) hown (mvT hZ (W hw 16 rfl)) (mvT hZ (W hw 17 rfl)) (notFace_of_selects (args := #[]) (mvT hZ (W hw 19 rfl))) (mvT hZ (W hw 19 rfl)) (mvT hZ (W hw 18 rfl)) (by decide) (backOf (W := 0) (rm_1 l Z a0 hw w kk hN [] h21 O21) hZ (W hw 20 rfl) (W hw 3 rfl) (by decide) (by decide)) q23a q23c (g := (mkF m 66 #[.val (.int p0), .val (.long q1), .second, .val (.ref b1), .val (.int (0 : Int32)), .val (.ref (w 0)), .val (.long q1), .second, .unset, .unset, .unset] [(.ref (w 0))])) rfl (by rw [hml]; rfl) (Steps.refl _) (argsL := []) (rest := []) (lenOf pd_0 rfl) rfl (by show 2 * 0 + _ ≤ _; exact Nat.le_of_eq rfl) (hb hby at_66) (fun _ _ => ⟨rfl, e21, (by decide : 1 + 0 ≤ _), (by decide : 5 + 0 ≤ _)⟩)
  dsimp only [Pt.U, Pt.locs, Pt.cells, Pt.slots] at X23 l23 y23 z23 st23 hQ23
  subst l23 y23 z23
  obtain ⟨rfl, N23q, e23⟩ := hQ23
  have N23 := Fr.app N21 N23q
  obtain ⟨cq24, kq24, q24a, q24b, q24c⟩ := isOf hZ e23 (hE0.ext O21.2)
  obtain ⟨_, _, ⟨T24, L24, k24, n24⟩, -, X24, ⟨Lc24, hQ24, l24, y24, z24⟩, st24⟩ := X23.virtualBack hx (y := (⟨"com/example/stint/stint/model/Relation", "holds", "(JJ)Z"⟩ : MethodName)) (z := (⟨"com/example/stint/stint/model/Relation", "holds", "(JJ)Z"⟩ : MethodName)) hown (mvT hZ (W hw 22 rfl)) (mvT hZ (W hw 23 rfl)) (notFace_of_selects (args := #[]) (mvT hZ (W hw 25 rfl))) (mvT hZ (W hw 25 rfl)) (mvT hZ (W hw 24 rfl)) (by decide) (backOf (W := 0) (rm_7 l Z a0 hw w kk hN [] q1 h21 O21 hp2 hp3) hZ (W hw 26 rfl) (W hw 3 rfl) (by decide) (by decide)) q24a q24c (g := (mkF m 91 #[.val (.int p0), .val (.long q1), .second, .val (.ref b1), .val (.int (0 : Int32)), .val (.ref (w 0)), .val (.long q1), .second, .val (.int (1 : Int32)), .val (.int (1 : Int32)), .unset] [(.long q1), (.long (9223372036854775807 : Int64)), (.ref (w 0))])) rfl (by rw [hml]; rfl) (Steps.refl _) (argsL := [(.long (9223372036854775807 : Int64)), (.long q1)]) (rest := []) (lenOf pd_3 rfl) rfl (by show 2 * 0 + _ ≤ _; exact Nat.le_of_eq rfl) (hb hby at_91) (fun _ _ => ⟨rfl, e23, (by decide : 1 + 0 ≤ _), (by decide : 5 + 0 ≤ _)⟩)
  dsimp only [Pt.U, Pt.locs, Pt.cells, Pt.slots] at X24 l24 y24 z24 st24 hQ24
  subst l24 y24 z24
  obtain ⟨rfl, N24q, e24⟩ := hQ24
  have N24 := Fr.app N23 N24q
  obtain ⟨fs, hr, hrun, hended, hW, hsame⟩ := X24.leave (v := some (.int (1 : Int32))) (fun h => by rw [Bd.returns] at h; cases h)
  refine ⟨_, _, pre0 _ ?_, hrun, hended, _, _, rfl, ?_, ⟨_, rfl⟩, hW, hsame.mono (by decide) (by decide)⟩
  · show Steps p.tables e below (s₁.setTop (mkF m 0 #[.val (.int p0), .val (.long q1), .second, .unset, .unset, .unset, .unset, .unset, .unset, .unset, .unset] [])) _
    refine XS.iconst X0.here hx rfl (hb hby at_0) ?_
    show Steps p.tables e below (s₁.setTop (mkF m 1 #[.val (.int p0), .val (.long q1), .second, .unset, .unset, .unset, .unset, .unset, .unset, .unset, .unset] [(.int (5 : Int32))])) _
    refine st1 _ ?_
    show Steps p.tables e below (T1.setTop (mkF m 4 #[.val (.int p0), .val (.long q1), .second, .unset, .unset, .unset, .unset, .unset, .unset, .unset, .unset] [(.ref b1)])) _
    refine XS.dup X1.here hx rfl (hb hby at_4) rfl rfl ?_
    show Steps p.tables e below (T1.setTop (mkF m 5 #[.val (.int p0), .val (.long q1), .second, .unset, .unset, .unset, .unset, .unset, .unset, .unset, .unset] [(.ref b1), (.ref b1)])) _
    refine XS.iconst X1.here hx rfl (hb hby at_5) ?_
    show Steps p.tables e below (T1.setTop (mkF m 6 #[.val (.int p0), .val (.long q1), .second, .unset, .unset, .unset, .unset, .unset, .unset, .unset, .unset] [(.int (0 : Int32)), (.ref b1), (.ref b1)])) _
    refine st2 _ ?_
    show Steps p.tables e below (T2.setTop (mkF m 9 #[.val (.int p0), .val (.long q1), .second, .unset, .unset, .unset, .unset, .unset, .unset, .unset, .unset] [(.ref (w 0)), (.int (0 : Int32)), (.ref b1), (.ref b1)])) _
    refine st5 _ ?_
    show Steps p.tables e below (T5.setTop (mkF m 10 #[.val (.int p0), .val (.long q1), .second, .unset, .unset, .unset, .unset, .unset, .unset, .unset, .unset] [(.ref b1)])) _
    refine XS.dup X5.here hx rfl (hb hby at_10) rfl rfl ?_
    show Steps p.tables e below (T5.setTop (mkF m 11 #[.val (.int p0), .val (.long q1), .second, .unset, .unset, .unset, .unset, .unset, .unset, .unset, .unset] [(.ref b1), (.ref b1)])) _
    refine XS.iconst X5.here hx rfl (hb hby at_11) ?_
    show Steps p.tables e below (T5.setTop (mkF m 12 #[.val (.int p0), .val (.long q1), .second, .unset, .unset, .unset, .unset, .unset, .unset, .unset, .unset] [(.int (1 : Int32)), (.ref b1), (.ref b1)])) _
    refine st6 _ ?_
    show Steps p.tables e below (T6.setTop (mkF m 15 #[.val (.int p0), .val (.long q1), .second, .unset, .unset, .unset, .unset, .unset, .unset, .unset, .unset] [(.ref (w 1)), (.int (1 : Int32)), (.ref b1), (.ref b1)])) _
    refine st9 _ ?_
    show Steps p.tables e below (T9.setTop (mkF m 16 #[.val (.int p0), .val (.long q1), .second, .unset, .unset, .unset, .unset, .unset, .unset, .unset, .unset] [(.ref b1)])) _
    refine XS.dup X9.here hx rfl (hb hby at_16) rfl rfl ?_
    show Steps p.tables e below (T9.setTop (mkF m 17 #[.val (.int p0), .val (.long q1), .second, .unset, .unset, .unset, .unset, .unset, .unset, .unset, .unset] [(.ref b1), (.ref b1)])) _
    refine XS.iconst X9.here hx rfl (hb hby at_17) ?_
    show Steps p.tables e below (T9.setTop (mkF m 18 #[.val (.int p0), .val (.long q1), .second, .unset, .unset, .unset, .unset, .unset, .unset, .unset, .unset] [(.int (2 : Int32)), (.ref b1), (.ref b1)])) _
    refine st10 _ ?_
    show Steps p.tables e below (T10.setTop (mkF m 21 #[.val (.int p0), .val (.long q1), .second, .unset, .unset, .unset, .unset, .unset, .unset, .unset, .unset] [(.ref (w 2)), (.int (2 : Int32)), (.ref b1), (.ref b1)])) _
    refine st13 _ ?_
    show Steps p.tables e below (T13.setTop (mkF m 22 #[.val (.int p0), .val (.long q1), .second, .unset, .unset, .unset, .unset, .unset, .unset, .unset, .unset] [(.ref b1)])) _
    refine XS.dup X13.here hx rfl (hb hby at_22) rfl rfl ?_
    show Steps p.tables e below (T13.setTop (mkF m 23 #[.val (.int p0), .val (.long q1), .second, .unset, .unset, .unset, .unset, .unset, .unset, .unset, .unset] [(.ref b1), (.ref b1)])) _
    refine XS.iconst X13.here hx rfl (hb hby at_23) ?_
    show Steps p.tables e below (T13.setTop (mkF m 24 #[.val (.int p0), .val (.long q1), .second, .unset, .unset, .unset, .unset, .unset, .unset, .unset, .unset] [(.int (3 : Int32)), (.ref b1), (.ref b1)])) _
    refine st14 _ ?_
    show Steps p.tables e below (T14.setTop (mkF m 27 #[.val (.int p0), .val (.long q1), .second, .unset, .unset, .unset, .unset, .unset, .unset, .unset, .unset] [(.ref (w 3)), (.int (3 : Int32)), (.ref b1), (.ref b1)])) _
    refine st17 _ ?_
    show Steps p.tables e below (T17.setTop (mkF m 28 #[.val (.int p0), .val (.long q1), .second, .unset, .unset, .unset, .unset, .unset, .unset, .unset, .unset] [(.ref b1)])) _
    refine XS.dup X17.here hx rfl (hb hby at_28) rfl rfl ?_
    show Steps p.tables e below (T17.setTop (mkF m 29 #[.val (.int p0), .val (.long q1), .second, .unset, .unset, .unset, .unset, .unset, .unset, .unset, .unset] [(.ref b1), (.ref b1)])) _
    refine XS.iconst X17.here hx rfl (hb hby at_29) ?_
    show Steps p.tables e below (T17.setTop (mkF m 30 #[.val (.int p0), .val (.long q1), .second, .unset, .unset, .unset, .unset, .unset, .unset, .unset, .unset] [(.int (4 : Int32)), (.ref b1), (.ref b1)])) _
    refine st18 _ ?_
    show Steps p.tables e below (T18.setTop (mkF m 33 #[.val (.int p0), .val (.long q1), .second, .unset, .unset, .unset, .unset, .unset, .unset, .unset, .unset] [(.ref (w 4)), (.int (4 : Int32)), (.ref b1), (.ref b1)])) _
    refine st21 _ ?_
    show Steps p.tables e below (T21.setTop (mkF m 34 #[.val (.int p0), .val (.long q1), .second, .unset, .unset, .unset, .unset, .unset, .unset, .unset, .unset] [(.ref b1)])) _
    refine XS.astoreN X21.here hx rfl (hb hby at_34) rfl rfl (l' := #[.val (.int p0), .val (.long q1), .second, .val (.ref b1), .unset, .unset, .unset, .unset, .unset, .unset, .unset]) rfl ?_
    show Steps p.tables e below (T21.setTop (mkF m 35 #[.val (.int p0), .val (.long q1), .second, .val (.ref b1), .unset, .unset, .unset, .unset, .unset, .unset, .unset] [])) _
    refine XS.iloadN X21.here hx rfl (hb hby at_35) rfl ?_
    show Steps p.tables e below (T21.setTop (mkF m 36 #[.val (.int p0), .val (.long q1), .second, .val (.ref b1), .unset, .unset, .unset, .unset, .unset, .unset, .unset] [(.int p0)])) _
    refine X21.ldcInt hx hown (mvT hZ (W hw 14 rfl)) (g := (mkF m 36 #[.val (.int p0), .val (.long q1), .second, .val (.ref b1), .unset, .unset, .unset, .unset, .unset, .unset, .unset] [(.int p0)])) rfl (hb hby at_36) _ ?_
    show Steps p.tables e below (T21.setTop (mkF m 38 #[.val (.int p0), .val (.long q1), .second, .val (.ref b1), .unset, .unset, .unset, .unset, .unset, .unset, .unset] [(.int (2147483647 : Int32)), (.int p0)])) _
    refine XS.iand X21.here hx rfl (hb hby at_38) rfl ?_
    show Steps p.tables e below (T21.setTop (mkF m 39 #[.val (.int p0), .val (.long q1), .second, .val (.ref b1), .unset, .unset, .unset, .unset, .unset, .unset, .unset] [(.int (p0 &&& (2147483647 : Int32)))])) _
    refine XS.iconst X21.here hx rfl (hb hby at_39) ?_
    show Steps p.tables e below (T21.setTop (mkF m 40 #[.val (.int p0), .val (.long q1), .second, .val (.ref b1), .unset, .unset, .unset, .unset, .unset, .unset, .unset] [(.int (5 : Int32)), (.int (p0 &&& (2147483647 : Int32)))])) _
    refine iremM X21 hx rfl (hb hby at_40) rfl (by decide : ¬ ((5 : Int32) = (0 : Int32))) ?_
    show Steps p.tables e below (T21.setTop (mkF m 41 #[.val (.int p0), .val (.long q1), .second, .val (.ref b1), .unset, .unset, .unset, .unset, .unset, .unset, .unset] [(.int ((p0 &&& (2147483647 : Int32)) % (5 : Int32)))])) _
    rw [hp0]
    show Steps p.tables e below (T21.setTop (mkF m 41 #[.val (.int p0), .val (.long q1), .second, .val (.ref b1), .unset, .unset, .unset, .unset, .unset, .unset, .unset] [(.int (0 : Int32))])) _
    refine XS.istore X21.here hx rfl (hb hby at_41) rfl (l' := #[.val (.int p0), .val (.long q1), .second, .val (.ref b1), .val (.int (0 : Int32)), .unset, .unset, .unset, .unset, .unset, .unset]) rfl ?_
    show Steps p.tables e below (T21.setTop (mkF m 43 #[.val (.int p0), .val (.long q1), .second, .val (.ref b1), .val (.int (0 : Int32)), .unset, .unset, .unset, .unset, .unset, .unset] [])) _
    refine XS.aloadN X21.here hx rfl (hb hby at_43) rfl rfl ?_
    show Steps p.tables e below (T21.setTop (mkF m 44 #[.val (.int p0), .val (.long q1), .second, .val (.ref b1), .val (.int (0 : Int32)), .unset, .unset, .unset, .unset, .unset, .unset] [(.ref b1)])) _
    refine XS.iload X21.here hx rfl (hb hby at_44) rfl ?_
    show Steps p.tables e below (T21.setTop (mkF m 46 #[.val (.int p0), .val (.long q1), .second, .val (.ref b1), .val (.int (0 : Int32)), .unset, .unset, .unset, .unset, .unset, .unset] [(.int (0 : Int32)), (.ref b1)])) _
    refine X21.aaload hx (j := (0 : Int32)) (v := (.ref (w 0))) (by rw [e21]; exact Ar22.1) (State.isArrayOf_alike hZ.alike Ar22.2.1) rfl Ar22.2.2 hin22 hat22 (g := (mkF m 46 #[.val (.int p0), .val (.long q1), .second, .val (.ref b1), .val (.int (0 : Int32)), .unset, .unset, .unset, .unset, .unset, .unset] [(.int (0 : Int32)), (.ref b1)])) rfl rfl (hb hby at_46) _ ?_
    show Steps p.tables e below (T21.setTop (mkF m 47 #[.val (.int p0), .val (.long q1), .second, .val (.ref b1), .val (.int (0 : Int32)), .unset, .unset, .unset, .unset, .unset, .unset] [(.ref (w 0))])) _
    refine XS.astore X21.here hx rfl (hb hby at_47) rfl rfl (l' := #[.val (.int p0), .val (.long q1), .second, .val (.ref b1), .val (.int (0 : Int32)), .val (.ref (w 0)), .unset, .unset, .unset, .unset, .unset]) rfl ?_
    show Steps p.tables e below (T21.setTop (mkF m 49 #[.val (.int p0), .val (.long q1), .second, .val (.ref b1), .val (.int (0 : Int32)), .val (.ref (w 0)), .unset, .unset, .unset, .unset, .unset] [])) _
    refine XS.lloadN X21.here hx rfl (hb hby at_49) rfl ?_
    show Steps p.tables e below (T21.setTop (mkF m 50 #[.val (.int p0), .val (.long q1), .second, .val (.ref b1), .val (.int (0 : Int32)), .val (.ref (w 0)), .unset, .unset, .unset, .unset, .unset] [(.long q1)])) _
    refine XS.lstore X21.here hx rfl (hb hby at_50) rfl (l' := #[.val (.int p0), .val (.long q1), .second, .val (.ref b1), .val (.int (0 : Int32)), .val (.ref (w 0)), .val (.long q1), .second, .unset, .unset, .unset]) rfl ?_
    show Steps p.tables e below (T21.setTop (mkF m 52 #[.val (.int p0), .val (.long q1), .second, .val (.ref b1), .val (.int (0 : Int32)), .val (.ref (w 0)), .val (.long q1), .second, .unset, .unset, .unset] [])) _
    refine XS.lload X21.here hx rfl (hb hby at_52) rfl ?_
    show Steps p.tables e below (T21.setTop (mkF m 54 #[.val (.int p0), .val (.long q1), .second, .val (.ref b1), .val (.int (0 : Int32)), .val (.ref (w 0)), .val (.long q1), .second, .unset, .unset, .unset] [(.long q1)])) _
    refine X21.ldc2Long hx hown (mvT hZ (W hw 15 rfl)) (g := (mkF m 54 #[.val (.int p0), .val (.long q1), .second, .val (.ref b1), .val (.int (0 : Int32)), .val (.ref (w 0)), .val (.long q1), .second, .unset, .unset, .unset] [(.long q1)])) rfl (hb hby at_54) _ ?_
    show Steps p.tables e below (T21.setTop (mkF m 57 #[.val (.int p0), .val (.long q1), .second, .val (.ref b1), .val (.int (0 : Int32)), .val (.ref (w 0)), .val (.long q1), .second, .unset, .unset, .unset] [(.long (9223372036854775807 : Int64)), (.long q1)])) _
    refine XS.lcmp X21.here hx rfl (hb hby at_57) rfl ?_
    show Steps p.tables e below (T21.setTop (mkF m 58 #[.val (.int p0), .val (.long q1), .second, .val (.ref b1), .val (.int (0 : Int32)), .val (.ref (w 0)), .val (.long q1), .second, .unset, .unset, .unset] [(.int (lcmpW q1 (9223372036854775807 : Int64)))])) _
    refine XS.ifYes X21.here hx rfl (pc0 := 58) (pc' := 64) rfl (hb hby at_58) rfl ((if0 _ _).trans (feq hp1).2) (by decide) (by decide) ?_
    show Steps p.tables e below (T21.setTop (mkF m 64 #[.val (.int p0), .val (.long q1), .second, .val (.ref b1), .val (.int (0 : Int32)), .val (.ref (w 0)), .val (.long q1), .second, .unset, .unset, .unset] [])) _
    refine XS.aload X21.here hx rfl (hb hby at_64) rfl rfl ?_
    show Steps p.tables e below (T21.setTop (mkF m 66 #[.val (.int p0), .val (.long q1), .second, .val (.ref b1), .val (.int (0 : Int32)), .val (.ref (w 0)), .val (.long q1), .second, .unset, .unset, .unset] [(.ref (w 0))])) _
    refine st23.trans ?_
    show Steps p.tables e below (T23.setTop (mkF m 69 #[.val (.int p0), .val (.long q1), .second, .val (.ref b1), .val (.int (0 : Int32)), .val (.ref (w 0)), .val (.long q1), .second, .unset, .unset, .unset] [(.int (1 : Int32))])) _
    refine XS.istore X23.here hx rfl (hb hby at_69) rfl (l' := #[.val (.int p0), .val (.long q1), .second, .val (.ref b1), .val (.int (0 : Int32)), .val (.ref (w 0)), .val (.long q1), .second, .val (.int (1 : Int32)), .unset, .unset]) rfl ?_
    show Steps p.tables e below (T23.setTop (mkF m 71 #[.val (.int p0), .val (.long q1), .second, .val (.ref b1), .val (.int (0 : Int32)), .val (.ref (w 0)), .val (.long q1), .second, .val (.int (1 : Int32)), .unset, .unset] [])) _
    refine XS.iload X23.here hx rfl (hb hby at_71) rfl ?_
    show Steps p.tables e below (T23.setTop (mkF m 73 #[.val (.int p0), .val (.long q1), .second, .val (.ref b1), .val (.int (0 : Int32)), .val (.ref (w 0)), .val (.long q1), .second, .val (.int (1 : Int32)), .unset, .unset] [(.int (0 : Int32))])) _
    refine XS.iconst X23.here hx rfl (hb hby at_73) ?_
    show Steps p.tables e below (T23.setTop (mkF m 74 #[.val (.int p0), .val (.long q1), .second, .val (.ref b1), .val (.int (0 : Int32)), .val (.ref (w 0)), .val (.long q1), .second, .val (.int (1 : Int32)), .unset, .unset] [(.int (2 : Int32)), (.int (0 : Int32))])) _
    refine XS.icmpNo X23.here hx rfl (hb hby at_74) rfl (flt (by decide : ¬ ((2 : Int32) < (0 : Int32)))).2.2.1 ?_
    show Steps p.tables e below (T23.setTop (mkF m 77 #[.val (.int p0), .val (.long q1), .second, .val (.ref b1), .val (.int (0 : Int32)), .val (.ref (w 0)), .val (.long q1), .second, .val (.int (1 : Int32)), .unset, .unset] [])) _
    refine XS.iconst X23.here hx rfl (hb hby at_77) ?_
    show Steps p.tables e below (T23.setTop (mkF m 78 #[.val (.int p0), .val (.long q1), .second, .val (.ref b1), .val (.int (0 : Int32)), .val (.ref (w 0)), .val (.long q1), .second, .val (.int (1 : Int32)), .unset, .unset] [(.int (1 : Int32))])) _
    refine XS.goto X23.here hx rfl (pc0 := 78) (pc' := 82) rfl (hb hby at_78) (by decide) (by decide) ?_
    show Steps p.tables e below (T23.setTop (mkF m 82 #[.val (.int p0), .val (.long q1), .second, .val (.ref b1), .val (.int (0 : Int32)), .val (.ref (w 0)), .val (.long q1), .second, .val (.int (1 : Int32)), .unset, .unset] [(.int (1 : Int32))])) _
    refine XS.istore X23.here hx rfl (hb hby at_82) rfl (l' := #[.val (.int p0), .val (.long q1), .second, .val (.ref b1), .val (.int (0 : Int32)), .val (.ref (w 0)), .val (.long q1), .second, .val (.int (1 : Int32)), .val (.int (1 : Int32)), .unset]) rfl ?_
    show Steps p.tables e below (T23.setTop (mkF m 84 #[.val (.int p0), .val (.long q1), .second, .val (.ref b1), .val (.int (0 : Int32)), .val (.ref (w 0)), .val (.long q1), .second, .val (.int (1 : Int32)), .val (.int (1 : Int32)), .unset] [])) _
    refine XS.aload X23.here hx rfl (hb hby at_84) rfl rfl ?_
    show Steps p.tables e below (T23.setTop (mkF m 86 #[.val (.int p0), .val (.long q1), .second, .val (.ref b1), .val (.int (0 : Int32)), .val (.ref (w 0)), .val (.long q1), .second, .val (.int (1 : Int32)), .val (.int (1 : Int32)), .unset] [(.ref (w 0))])) _
    refine X23.ldc2Long hx hown (mvT hZ (W hw 15 rfl)) (g := (mkF m 86 #[.val (.int p0), .val (.long q1), .second, .val (.ref b1), .val (.int (0 : Int32)), .val (.ref (w 0)), .val (.long q1), .second, .val (.int (1 : Int32)), .val (.int (1 : Int32)), .unset] [(.ref (w 0))])) rfl (hb hby at_86) _ ?_
    show Steps p.tables e below (T23.setTop (mkF m 89 #[.val (.int p0), .val (.long q1), .second, .val (.ref b1), .val (.int (0 : Int32)), .val (.ref (w 0)), .val (.long q1), .second, .val (.int (1 : Int32)), .val (.int (1 : Int32)), .unset] [(.long (9223372036854775807 : Int64)), (.ref (w 0))])) _
    refine XS.lload X23.here hx rfl (hb hby at_89) rfl ?_
    show Steps p.tables e below (T23.setTop (mkF m 91 #[.val (.int p0), .val (.long q1), .second, .val (.ref b1), .val (.int (0 : Int32)), .val (.ref (w 0)), .val (.long q1), .second, .val (.int (1 : Int32)), .val (.int (1 : Int32)), .unset] [(.long q1), (.long (9223372036854775807 : Int64)), (.ref (w 0))])) _
    refine st24.trans ?_
    show Steps p.tables e below (T24.setTop (mkF m 94 #[.val (.int p0), .val (.long q1), .second, .val (.ref b1), .val (.int (0 : Int32)), .val (.ref (w 0)), .val (.long q1), .second, .val (.int (1 : Int32)), .val (.int (1 : Int32)), .unset] [(.int (0 : Int32))])) _
    refine XS.ifNo X24.here hx rfl (hb hby at_94) rfl ((if0 _ _).trans (teq (by decide : (0 : Int32) = (0 : Int32))).2) ?_
    show Steps p.tables e below (T24.setTop (mkF m 97 #[.val (.int p0), .val (.long q1), .second, .val (.ref b1), .val (.int (0 : Int32)), .val (.ref (w 0)), .val (.long q1), .second, .val (.int (1 : Int32)), .val (.int (1 : Int32)), .unset] [])) _
    refine XS.iconst X24.here hx rfl (hb hby at_97) ?_
    show Steps p.tables e below (T24.setTop (mkF m 98 #[.val (.int p0), .val (.long q1), .second, .val (.ref b1), .val (.int (0 : Int32)), .val (.ref (w 0)), .val (.long q1), .second, .val (.int (1 : Int32)), .val (.int (1 : Int32)), .unset] [(.int (1 : Int32))])) _
    refine XS.goto X24.here hx rfl (pc0 := 98) (pc' := 102) rfl (hb hby at_98) (by decide) (by decide) ?_
    show Steps p.tables e below (T24.setTop (mkF m 102 #[.val (.int p0), .val (.long q1), .second, .val (.ref b1), .val (.int (0 : Int32)), .val (.ref (w 0)), .val (.long q1), .second, .val (.int (1 : Int32)), .val (.int (1 : Int32)), .unset] [(.int (1 : Int32))])) _
    refine XS.istore X24.here hx rfl (hb hby at_102) rfl (l' := #[.val (.int p0), .val (.long q1), .second, .val (.ref b1), .val (.int (0 : Int32)), .val (.ref (w 0)), .val (.long q1), .second, .val (.int (1 : Int32)), .val (.int (1 : Int32)), .val (.int (1 : Int32))]) rfl ?_
    show Steps p.tables e below (T24.setTop (mkF m 104 #[.val (.int p0), .val (.long q1), .second, .val (.ref b1), .val (.int (0 : Int32)), .val (.ref (w 0)), .val (.long q1), .second, .val (.int (1 : Int32)), .val (.int (1 : Int32)), .val (.int (1 : Int32))] [])) _
    refine XS.iload X24.here hx rfl (hb hby at_104) rfl ?_
    show Steps p.tables e below (T24.setTop (mkF m 106 #[.val (.int p0), .val (.long q1), .second, .val (.ref b1), .val (.int (0 : Int32)), .val (.ref (w 0)), .val (.long q1), .second, .val (.int (1 : Int32)), .val (.int (1 : Int32)), .val (.int (1 : Int32))] [(.int (1 : Int32))])) _
    refine XS.iload X24.here hx rfl (hb hby at_106) rfl ?_
    show Steps p.tables e below (T24.setTop (mkF m 108 #[.val (.int p0), .val (.long q1), .second, .val (.ref b1), .val (.int (0 : Int32)), .val (.ref (w 0)), .val (.long q1), .second, .val (.int (1 : Int32)), .val (.int (1 : Int32)), .val (.int (1 : Int32))] [(.int (1 : Int32)), (.int (1 : Int32))])) _
    refine XS.icmpNo X24.here hx rfl (hb hby at_108) rfl (teq (by decide : (1 : Int32) = (1 : Int32))).2 ?_
    show Steps p.tables e below (T24.setTop (mkF m 111 #[.val (.int p0), .val (.long q1), .second, .val (.ref b1), .val (.int (0 : Int32)), .val (.ref (w 0)), .val (.long q1), .second, .val (.int (1 : Int32)), .val (.int (1 : Int32)), .val (.int (1 : Int32))] [])) _
    refine XS.iload X24.here hx rfl (hb hby at_111) rfl ?_
    show Steps p.tables e below (T24.setTop (mkF m 113 #[.val (.int p0), .val (.long q1), .second, .val (.ref b1), .val (.int (0 : Int32)), .val (.ref (w 0)), .val (.long q1), .second, .val (.int (1 : Int32)), .val (.int (1 : Int32)), .val (.int (1 : Int32))] [(.int (1 : Int32))])) _
    refine XS.iload X24.here hx rfl (hb hby at_113) rfl ?_
    show Steps p.tables e below (T24.setTop (mkF m 115 #[.val (.int p0), .val (.long q1), .second, .val (.ref b1), .val (.int (0 : Int32)), .val (.ref (w 0)), .val (.long q1), .second, .val (.int (1 : Int32)), .val (.int (1 : Int32)), .val (.int (1 : Int32))] [(.int (1 : Int32)), (.int (1 : Int32))])) _
    refine XS.icmpNo X24.here hx rfl (hb hby at_115) rfl (teq (by decide : (1 : Int32) = (1 : Int32))).2 ?_
    show Steps p.tables e below (T24.setTop (mkF m 118 #[.val (.int p0), .val (.long q1), .second, .val (.ref b1), .val (.int (0 : Int32)), .val (.ref (w 0)), .val (.long q1), .second, .val (.int (1 : Int32)), .val (.int (1 : Int32)), .val (.int (1 : Int32))] [])) _
    refine XS.iconst X24.here hx rfl (hb hby at_118) ?_
    show Steps p.tables e below (T24.setTop (mkF m 119 #[.val (.int p0), .val (.long q1), .second, .val (.ref b1), .val (.int (0 : Int32)), .val (.ref (w 0)), .val (.long q1), .second, .val (.int (1 : Int32)), .val (.int (1 : Int32)), .val (.int (1 : Int32))] [(.int (1 : Int32))])) _
    refine XS.goto X24.here hx rfl (pc0 := 119) (pc' := 123) rfl (hb hby at_119) (by decide) (by decide) ?_
    show Steps p.tables e below (T24.setTop (mkF m 123 #[.val (.int p0), .val (.long q1), .second, .val (.ref b1), .val (.int (0 : Int32)), .val (.ref (w 0)), .val (.long q1), .second, .val (.int (1 : Int32)), .val (.int (1 : Int32)), .val (.int (1 : Int32))] [(.int (1 : Int32))])) _
    exact retN X24 hx (t := .boolean) Bd.returns (by simp) (hb hby at_123) hr
  · show OL (some (.int (1 : Int32))) Z.heap.size _ T24.heap _
    exact ⟨rfl, N24⟩
theorem d_prog_47_method_8_code_7 : decode prog_47_method_8_code 7 = .ok (.aload_n 0, 1) := by decide +kernel
theorem d_prog_47_method_8_code_8 : decode prog_47_method_8_code 8 = .ok (.getstatic 7, 3) := by decide +kernel
theorem d_prog_47_method_8_code_11 : decode prog_47_method_8_code 11 = .ok (.if_acmp .eq 10, 3) := by decide +kernel
set_option maxRecDepth 65536 in
set_option maxHeartbeats 40000000 in
theorem rm_9 (l : Launch) (Z : State) (a0 : Array Value) (hw : ∀ d ∈ tables_1, d.before a0 Z = true) (w : Nat → Addr) (kk : Nat → ClassId) (hN : Wd Z w kk) (ws : List Jvm.Cond)  (h0 : Heap) (O0 : Old Z Z.heap.size h0) :
    MetFree l (⟨"com/example/stint/stint/model/Relation", "boundsAbove", "()Z"⟩ : MethodName) (head1 (Jvm.Cond.code (⟨"com/example/stint/stint/model/Relation", "boundsAbove", "()Z"⟩ : MethodName) prog_47_method_8_code 1 (some .boolean) :: ws) ({ frames := 0, cells := 0, slots := 0, locals := 0 } : Room)) (fun a U => a = #[(.ref (w 1))] ∧ Z.Warmed39 U.vm ∧ U.heap = h0) (fun _ _ _ _ _ => True) (fun _ U o U' => ∃ v L, o = .returned v ∧ OQ (some (.int (1 : Int32))) h0 Z.heap.size v U'.heap L ∧ FrameEnd U o U' L ({ frames := 0, cells := 0, slots := 0, locals := 0 } : Room).cells ({ frames := 0, cells := 0, slots := 0, locals := 0 } : Room).slots) := by
  have hN' := hN
  obtain ⟨hS0, hE0, hS1, hE1, hS2, hE2, hS3, hE3, hS4, hE4, hF0_ordinal, hF1_ordinal, hF4_ordinal, hF2_ordinal, hF3_ordinal⟩ := hN'
  refine MetFree.of_bodySF (plainFor_of_name pn_0) hisR ?_
  intro p e s m args below meth c s₁ Bd hml0 hP hK
  obtain ⟨rfl, hZ, hh⟩ := hP
  have hx := Bd.exec
  have hby := Bd.bytes
  have hml : c.maxLocals = 1 := hml0
  have hown : s.vm.findClass "com/example/stint/stint/model/Relation" = some m.cls := findClass_of_methodNamed Bd.named
  have hnm := (name_of_methodNamed Bd.named Bd.method).1
  have X0 : Stand p l e ({ frames := 0, cells := 0, slots := 0, locals := 0 } : Room) s m #[(.ref (w 1))] below meth c s₁ [] 0 0 := Stand.of_body Bd
  have e0 : s₁.heap = h0 := by rw [← hh, Bd.state]; rfl
  have N0 := Fr.nil Z.heap.size
  have pre0 : ∀ t, Steps p.tables e below (s₁.setTop (mkF m 0 #[.val (.ref (w 1))] [])) t → Steps p.tables e below (s₁.setTop (entryFrame m #[(.ref (w 1))] 1)) t := fun t k => castTop (ef_0 m (.ref (w 1)) rfl) k
  obtain ⟨T1, X1, e1, st1⟩ := getS2 X0 hx hZ hown (host := "") (Or.inl (W hw 21 rfl)) Via.refl e0 (hS0.ext O0.2) (g := (mkF m 1 #[.val (.ref (w 1))] [(.ref (w 1))])) rfl (hb hby d_prog_47_method_8_code_1)
  obtain ⟨T2, X2, e2, st2⟩ := getS2 X1 hx hZ hown (host := "") (Or.inl (W hw 40 rfl)) Via.refl e1 (hS1.ext O0.2) (g := (mkF m 8 #[.val (.ref (w 1))] [(.ref (w 1))])) rfl (hb hby d_prog_47_method_8_code_8)
  obtain ⟨fs, hr, hrun, hended, hW, hsame⟩ := X2.leave (v := some (.int (1 : Int32))) (fun h => by rw [Bd.returns] at h; cases h)
  refine ⟨_, _, pre0 _ ?_, hrun, hended, _, _, rfl, ?_, ⟨_, rfl⟩, hW, hsame.mono (by decide) (by decide)⟩
  · show Steps p.tables e below (s₁.setTop (mkF m 0 #[.val (.ref (w 1))] [])) _
    refine XS.aloadN X0.here hx rfl (hb hby d_prog_47_method_8_code_0) rfl rfl ?_
    show Steps p.tables e below (s₁.setTop (mkF m 1 #[.val (.ref (w 1))] [(.ref (w 1))])) _
    refine st1 _ ?_
    show Steps p.tables e below (T1.setTop (mkF m 4 #[.val (.ref (w 1))] [(.ref (w 0)), (.ref (w 1))])) _
    refine Jvm.RoadKit.acmp (g := (mkF m 4 #[.val (.ref (w 1))] [(.ref (w 0)), (.ref (w 1))])) X1 hx rfl rfl rfl (pc0 := 4) (pc' := 7) (same := false) rfl (hb hby d_prog_47_method_8_code_4) rfl (decide_eq_false fun q => (Fld.ne hF1_ordinal hF0_ordinal (by decide)) (Value.ref.inj q)) (by decide) (by decide) ?_
    show Steps p.tables e below (T1.setTop (mkF m 7 #[.val (.ref (w 1))] [])) _
    refine XS.aloadN X1.here hx rfl (hb hby d_prog_47_method_8_code_7) rfl rfl ?_
    show Steps p.tables e below (T1.setTop (mkF m 8 #[.val (.ref (w 1))] [(.ref (w 1))])) _
    refine st2 _ ?_
    show Steps p.tables e below (T2.setTop (mkF m 11 #[.val (.ref (w 1))] [(.ref (w 1)), (.ref (w 1))])) _
    refine Jvm.RoadKit.acmp (g := (mkF m 11 #[.val (.ref (w 1))] [(.ref (w 1)), (.ref (w 1))])) X2 hx rfl rfl rfl (pc0 := 11) (pc' := 21) (same := true) rfl (hb hby d_prog_47_method_8_code_11) rfl (decide_eq_true rfl) (by decide) (by decide) ?_
    show Steps p.tables e below (T2.setTop (mkF m 21 #[.val (.ref (w 1))] [])) _
    refine XS.iconst X2.here hx rfl (hb hby d_prog_47_method_8_code_21) ?_
    show Steps p.tables e below (T2.setTop (mkF m 22 #[.val (.ref (w 1))] [(.int (1 : Int32))])) _
    refine XS.goto X2.here hx rfl (pc0 := 22) (pc' := 26) rfl (hb hby d_prog_47_method_8_code_22) (by decide) (by decide) ?_
    show Steps p.tables e below (T2.setTop (mkF m 26 #[.val (.ref (w 1))] [(.int (1 : Int32))])) _
    exact retN X2 hx (t := .boolean) Bd.returns (by simp) (hb hby d_prog_47_method_8_code_26) hr
  · show OQ (some (.int (1 : Int32))) h0 Z.heap.size _ T2.heap _
    rw [e2]
    exact ⟨rfl, N0, rfl⟩
set_option maxRecDepth 65536 in
set_option maxHeartbeats 40000000 in
theorem rm_10 (l : Launch) (Z : State) (a0 : Array Value) (hw : ∀ d ∈ tables_1, d.before a0 Z = true) (w : Nat → Addr) (kk : Nat → ClassId) (hN : Wd Z w kk) (ws : List Jvm.Cond)  (h0 : Heap) (O0 : Old Z Z.heap.size h0) :
    MetFree l (⟨"java/lang/Enum", "ordinal", "()I"⟩ : MethodName) (head1 (Jvm.Cond.code (⟨"java/lang/Enum", "ordinal", "()I"⟩ : MethodName) jdk_37_method_2_code 1 (some .int) :: ws) ({ frames := 0, cells := 0, slots := 0, locals := 0 } : Room)) (fun a U => a = #[(.ref (w 1))] ∧ Z.Warmed39 U.vm ∧ U.heap = h0) (fun _ _ _ _ _ => True) (fun _ U o U' => ∃ v L, o = .returned v ∧ OQ (some (.int (1 : Int32))) h0 Z.heap.size v U'.heap L ∧ FrameEnd U o U' L ({ frames := 0, cells := 0, slots := 0, locals := 0 } : Room).cells ({ frames := 0, cells := 0, slots := 0, locals := 0 } : Room).slots) := by
  have hN' := hN
  obtain ⟨hS0, hE0, hS1, hE1, hS2, hE2, hS3, hE3, hS4, hE4, hF0_ordinal, hF1_ordinal, hF4_ordinal, hF2_ordinal, hF3_ordinal⟩ := hN'
  refine MetFree.of_bodySF (plainFor_of_name pn_2) hisR ?_
  intro p e s m args below meth c s₁ Bd hml0 hP hK
  obtain ⟨rfl, hZ, hh⟩ := hP
  have hx := Bd.exec
  have hby := Bd.bytes
  have hml : c.maxLocals = 1 := hml0
  have hown : s.vm.findClass "java/lang/Enum" = some m.cls := findClass_of_methodNamed Bd.named
  have hnm := (name_of_methodNamed Bd.named Bd.method).1
  have X0 : Stand p l e ({ frames := 0, cells := 0, slots := 0, locals := 0 } : Room) s m #[(.ref (w 1))] below meth c s₁ [] 0 0 := Stand.of_body Bd
  have e0 : s₁.heap = h0 := by rw [← hh, Bd.state]; rfl
  have N0 := Fr.nil Z.heap.size
  have pre0 : ∀ t, Steps p.tables e below (s₁.setTop (mkF m 0 #[.val (.ref (w 1))] [])) t → Steps p.tables e below (s₁.setTop (entryFrame m #[(.ref (w 1))] 1)) t := fun t k => castTop (ef_0 m (.ref (w 1)) rfl) k
  obtain ⟨T1, X1, e1, st1⟩ := getF X0 hx hZ hown (host := "") (Or.inl (W hw 38 rfl)) Via.refl e0 (hF1_ordinal.ext O0.2) (g := (mkF m 1 #[.val (.ref (w 1))] [(.ref (w 1))])) rfl rfl (hb hby d_jdk_37_method_2_code_1)
  obtain ⟨fs, hr, hrun, hended, hW, hsame⟩ := X1.leave (v := some (.int (1 : Int32))) (fun h => by rw [Bd.returns] at h; cases h)
  refine ⟨_, _, pre0 _ ?_, hrun, hended, _, _, rfl, ?_, ⟨_, rfl⟩, hW, hsame.mono (by decide) (by decide)⟩
  · show Steps p.tables e below (s₁.setTop (mkF m 0 #[.val (.ref (w 1))] [])) _
    refine XS.aloadN X0.here hx rfl (hb hby d_jdk_37_method_2_code_0) rfl rfl ?_
    show Steps p.tables e below (s₁.setTop (mkF m 1 #[.val (.ref (w 1))] [(.ref (w 1))])) _
    refine st1 _ ?_
    show Steps p.tables e below (T1.setTop (mkF m 4 #[.val (.ref (w 1))] [(.int (1 : Int32))])) _
    exact retI X1 hx Bd.returns (hb hby d_jdk_37_method_2_code_4) hr
  · show OQ (some (.int (1 : Int32))) h0 Z.heap.size _ T1.heap _
    rw [e1]
    exact ⟨rfl, N0, rfl⟩
theorem d_prog_47_method_11_code_67 : decode prog_47_method_11_code 67 = .ok (.iload 5, 2) := by decide +kernel
theorem d_prog_47_method_11_code_69 : decode prog_47_method_11_code 69 = .ok (.ifCond .gt 7, 3) := by decide +kernel
theorem d_prog_47_method_11_code_76 : decode prog_47_method_11_code 76 = .ok (.iconst 0, 1) := by decide +kernel
theorem d_prog_47_method_11_code_77 : decode prog_47_method_11_code 77 = .ok (.goto 39, 3) := by decide +kernel
set_option maxRecDepth 65536 in
set_option maxHeartbeats 40000000 in
theorem rm_11 (l : Launch) (Z : State) (a0 : Array Value) (hw : ∀ d ∈ tables_1, d.before a0 Z = true) (w : Nat → Addr) (kk : Nat → ClassId) (hN : Wd Z w kk) (ws : List Jvm.Cond)  (h0 : Heap) (O0 : Old Z Z.heap.size h0) :
    MetFree l (⟨"com/example/stint/stint/model/Relation", "holds", "(JJ)Z"⟩ : MethodName) (head1 (Jvm.Cond.code (⟨"com/example/stint/stint/model/Relation", "holds", "(JJ)Z"⟩ : MethodName) prog_47_method_11_code 6 (some .boolean) :: ws) ({ frames := 1, cells := 0, slots := 0, locals := 15 } : Room)) (fun a U => a = #[(.ref (w 1)), (.long (9223372036854775807 : Int64)), (.long (0 : Int64))] ∧ Z.Warmed39 U.vm ∧ U.heap = h0) (fun _ _ _ _ _ => True) (fun _ U o U' => ∃ v L, o = .returned v ∧ OQ (some (.int (0 : Int32))) h0 Z.heap.size v U'.heap L ∧ FrameEnd U o U' L ({ frames := 1, cells := 0, slots := 0, locals := 15 } : Room).cells ({ frames := 1, cells := 0, slots := 0, locals := 15 } : Room).slots) := by
  have hN' := hN
  obtain ⟨hS0, hE0, hS1, hE1, hS2, hE2, hS3, hE3, hS4, hE4, hF0_ordinal, hF1_ordinal, hF4_ordinal, hF2_ordinal, hF3_ordinal⟩ := hN'
  refine MetFree.of_bodySF (plainFor_of_name pn_0) hisR ?_
  intro p e s m args below meth c s₁ Bd hml0 hP hK
  obtain ⟨rfl, hZ, hh⟩ := hP
  have hx := Bd.exec
  have hby := Bd.bytes
  have hml : c.maxLocals = 6 := hml0
  have hown : s.vm.findClass "com/example/stint/stint/model/Relation" = some m.cls := findClass_of_methodNamed Bd.named
  have hnm := (name_of_methodNamed Bd.named Bd.method).1
  have X0 : Stand p l e ({ frames := 1, cells := 0, slots := 0, locals := 15 } : Room) s m #[(.ref (w 1)), (.long (9223372036854775807 : Int64)), (.long (0 : Int64))] below meth c s₁ [] 0 0 := Stand.of_body Bd
  have e0 : s₁.heap = h0 := by rw [← hh, Bd.state]; rfl
  have N0 := Fr.nil Z.heap.size
  have pre0 : ∀ t, Steps p.tables e below (s₁.setTop (mkF m 0 #[.val (.ref (w 1)), .val (.long (9223372036854775807 : Int64)), .second, .val (.long (0 : Int64)), .second, .unset] [])) t → Steps p.tables e below (s₁.setTop (entryFrame m #[(.ref (w 1)), (.long (9223372036854775807 : Int64)), (.long (0 : Int64))] 6)) t := fun t k => castTop (ef_2 m (.ref (w 1)) rfl (.long (9223372036854775807 : Int64)) rfl (.long (0 : Int64)) rfl) k
  obtain ⟨_, _, ⟨T1, L1, k1, n1⟩, -, X1, ⟨Lc1, hQ1, l1, y1, z1⟩, st1⟩ := Jvm.LawKit.callS X0 hx (y := (⟨"java/lang/Long", "compare", "(JJ)I"⟩ : MethodName)) hown (mvT hZ (W hw 27 rfl)) (mvT hZ (W hw 28 rfl)) (mvT hZ (W hw 29 rfl)) (mvT hZ (W hw 30 rfl)) (by decide) (backOf (W := 0) (rm_2 l Z a0 hw w kk hN [] h0 O0) hZ (W hw 30 rfl) (W hw 29 rfl) (by decide) (by decide)) (g := (mkF m 2 #[.val (.ref (w 1)), .val (.long (9223372036854775807 : Int64)), .second, .val (.long (0 : Int64)), .second, .unset] [(.long (0 : Int64)), (.long (9223372036854775807 : Int64))])) rfl (by rw [hml]; rfl) (argsL := [(.long (9223372036854775807 : Int64)), (.long (0 : Int64))]) (rest := []) (lenOf pd_1 rfl) rfl (by show 2 * 0 + _ ≤ _; exact Nat.le_of_eq rfl) (hb hby d_prog_47_method_11_code_2) (fun _ _ => ⟨rfl, e0, (by decide : 0 + 0 ≤ _), (by decide : 0 + 0 ≤ _)⟩)
  dsimp only [Pt.U, Pt.locs, Pt.cells, Pt.slots] at X1 l1 y1 z1 st1 hQ1
  subst l1 y1 z1
  obtain ⟨rfl, N1q, e1⟩ := hQ1
  have N1 := Fr.app N0 N1q
  obtain ⟨cq2, kq2, q2a, q2b, q2c⟩ := isOf hZ e1 (hE1.ext O0.2)
  obtain ⟨_, _, ⟨T2, L2, k2, n2⟩, -, X2, ⟨Lc2, hQ2, l2, y2, z2⟩, st2⟩ := X1.virtualBackUp hx (x := (⟨"com/example/stint/stint/model/Relation", "ordinal", "()I"⟩ : MethodName)) (y := (⟨"java/lang/Enum", "ordinal", "()I"⟩ : MethodName)) (owner := "java/lang/Enum") hown (mvT hZ (W hw 31 rfl)) (mvT hZ (W hw 32 rfl)) (mvT hZ (W hw 33 rfl)) (by decide) (mvT hZ (W hw 35 rfl)) (mvT hZ (W hw 34 rfl)) (backOf (W := 0) (rm_10 l Z a0 hw w kk hN [] h0 O0) hZ (W hw 37 rfl) (W hw 36 rfl) (by decide) (by decide)) q2a q2c (g := (mkF m 8 #[.val (.ref (w 1)), .val (.long (9223372036854775807 : Int64)), .second, .val (.long (0 : Int64)), .second, .val (.int (1 : Int32))] [(.ref (w 1))])) rfl (by rw [hml]; rfl) (Steps.refl _) (argsL := []) (rest := []) (lenOf pd_2 rfl) rfl (by show 2 * 0 + _ ≤ _; exact Nat.le_of_eq rfl) (hb hby d_prog_47_method_11_code_8) (fun _ _ => ⟨rfl, e1, (by decide : 0 + 0 ≤ _), (by decide : 0 + 0 ≤ _)⟩)
  dsimp only [Pt.U, Pt.locs, Pt.cells, Pt.slots] at X2 l2 y2 z2 st2 hQ2
  subst l2 y2 z2
  obtain ⟨rfl, N2q, e2⟩ := hQ2
  have N2 := Fr.app N1 N2q
  obtain ⟨fs, hr, hrun, hended, hW, hsame⟩ := X2.leave (v := some (.int (0 : Int32))) (fun h => by rw [Bd.returns] at h; cases h)
  refine ⟨_, _, pre0 _ ?_, hrun, hended, _, _, rfl, ?_, ⟨_, rfl⟩, hW, hsame.mono (by decide) (by decide)⟩
  · show Steps p.tables e below (s₁.setTop (mkF m 0 #[.val (.ref (w 1)), .val (.long (9223372036854775807 : Int64)), .second, .val (.long (0 : Int64)), .second, .unset] [])) _
    refine XS.lloadN X0.here hx rfl (hb hby d_prog_47_method_11_code_0) rfl ?_
    show Steps p.tables e below (s₁.setTop (mkF m 1 #[.val (.ref (w 1)), .val (.long (9223372036854775807 : Int64)), .second, .val (.long (0 : Int64)), .second, .unset] [(.long (9223372036854775807 : Int64))])) _
    refine XS.lloadN X0.here hx rfl (hb hby d_prog_47_method_11_code_1) rfl ?_
    show Steps p.tables e below (s₁.setTop (mkF m 2 #[.val (.ref (w 1)), .val (.long (9223372036854775807 : Int64)), .second, .val (.long (0 : Int64)), .second, .unset] [(.long (0 : Int64)), (.long (9223372036854775807 : Int64))])) _
    refine st1 _ ?_
    show Steps p.tables e below (T1.setTop (mkF m 5 #[.val (.ref (w 1)), .val (.long (9223372036854775807 : Int64)), .second, .val (.long (0 : Int64)), .second, .unset] [(.int (1 : Int32))])) _
    refine XS.istore X1.here hx rfl (hb hby d_prog_47_method_11_code_5) rfl (l' := #[.val (.ref (w 1)), .val (.long (9223372036854775807 : Int64)), .second, .val (.long (0 : Int64)), .second, .val (.int (1 : Int32))]) rfl ?_
    show Steps p.tables e below (T1.setTop (mkF m 7 #[.val (.ref (w 1)), .val (.long (9223372036854775807 : Int64)), .second, .val (.long (0 : Int64)), .second, .val (.int (1 : Int32))] [])) _
    refine XS.aloadN X1.here hx rfl (hb hby d_prog_47_method_11_code_7) rfl rfl ?_
    show Steps p.tables e below (T1.setTop (mkF m 8 #[.val (.ref (w 1)), .val (.long (9223372036854775807 : Int64)), .second, .val (.long (0 : Int64)), .second, .val (.int (1 : Int32))] [(.ref (w 1))])) _
    refine st2.trans ?_
    show Steps p.tables e below (T2.setTop (mkF m 11 #[.val (.ref (w 1)), .val (.long (9223372036854775807 : Int64)), .second, .val (.long (0 : Int64)), .second, .val (.int (1 : Int32))] [(.int (1 : Int32))])) _
    refine XS.tswIn X2.here hx rfl (pc0 := 11) (pc' := 67) (o := 56) rfl (hb hby d_prog_47_method_11_code_11) rfl (by decide) (by decide) (by decide) (by decide) ?_
    show Steps p.tables e below (T2.setTop (mkF m 67 #[.val (.ref (w 1)), .val (.long (9223372036854775807 : Int64)), .second, .val (.long (0 : Int64)), .second, .val (.int (1 : Int32))] [])) _
    refine XS.iload X2.here hx rfl (hb hby d_prog_47_method_11_code_67) rfl ?_
    show Steps p.tables e below (T2.setTop (mkF m 69 #[.val (.ref (w 1)), .val (.long (9223372036854775807 : Int64)), .second, .val (.long (0 : Int64)), .second, .val (.int (1 : Int32))] [(.int (1 : Int32))])) _
    refine XS.ifYes X2.here hx rfl (pc0 := 69) (pc' := 76) rfl (hb hby d_prog_47_method_11_code_69) rfl ((if0 _ _).trans (tlt (by decide : (0 : Int32) < (1 : Int32))).2.2.1) (by decide) (by decide) ?_
    show Steps p.tables e below (T2.setTop (mkF m 76 #[.val (.ref (w 1)), .val (.long (9223372036854775807 : Int64)), .second, .val (.long (0 : Int64)), .second, .val (.int (1 : Int32))] [])) _
    refine XS.iconst X2.here hx rfl (hb hby d_prog_47_method_11_code_76) ?_
    show Steps p.tables e below (T2.setTop (mkF m 77 #[.val (.ref (w 1)), .val (.long (9223372036854775807 : Int64)), .second, .val (.long (0 : Int64)), .second, .val (.int (1 : Int32))] [(.int (0 : Int32))])) _
    refine XS.goto X2.here hx rfl (pc0 := 77) (pc' := 116) rfl (hb hby d_prog_47_method_11_code_77) (by decide) (by decide) ?_
    show Steps p.tables e below (T2.setTop (mkF m 116 #[.val (.ref (w 1)), .val (.long (9223372036854775807 : Int64)), .second, .val (.long (0 : Int64)), .second, .val (.int (1 : Int32))] [(.int (0 : Int32))])) _
    exact retN X2 hx (t := .boolean) Bd.returns (by simp) (hb hby d_prog_47_method_11_code_116) hr
  · show OQ (some (.int (0 : Int32))) h0 Z.heap.size _ T2.heap _
    rw [e2]
    exact ⟨rfl, N2, rfl⟩
set_option maxRecDepth 65536 in
set_option maxHeartbeats 40000000 in
theorem law_12 (l : Launch) (Z : State) (a0 : Array Value) (hw : ∀ d ∈ tables_1, d.before a0 Z = true) (w : Nat → Addr) (kk : Nat → ClassId) (hN : Wd Z w kk) (ws : List Jvm.Cond) (p0 : Int32) (q1 : Int64) (h0 : Heap) (O0 : Old Z Z.heap.size h0) (hp0 : ((p0 &&& (2147483647 : Int32)) % (5 : Int32)) = (1 : Int32)) (hp1 : (lcmpW q1 (9223372036854775807 : Int64)) = (0 : Int32)) :
    MetFree l x (head1 (Jvm.Cond.code x code maxLocals ret :: ws) room_1) (fun a U => a = #[(.int p0), (.long q1)] ∧ Z.Warmed39 U.vm ∧ U.heap = h0) (fun _ _ _ _ _ => True) (fun _ U o U' => ∃ v L, o = .returned v ∧ OL (some (.int (1 : Int32))) Z.heap.size v U'.heap L ∧ FrameEnd U o U' L 16 128) := by
  have hN' := hN
  obtain ⟨hS0, hE0, hS1, hE1, hS2, hE2, hS3, hE3, hS4, hE4, hF0_ordinal, hF1_ordinal, hF4_ordinal, hF2_ordinal, hF3_ordinal⟩ := hN'
  refine MetFree.of_bodySF (plainFor_of_name pn_3) hisR ?_
  intro p e s m args below meth c s₁ Bd hml0 hP hK
  obtain ⟨rfl, hZ, hh⟩ := hP
  have hx := Bd.exec
  have hby := Bd.bytes
  have hml : c.maxLocals = 11 := hml0
  have hown : s.vm.findClass "com/example/stint/stint/model/RelationBoundsAbovePinLaw" = some m.cls := findClass_of_methodNamed Bd.named
  have hnm := (name_of_methodNamed Bd.named Bd.method).1
  have X0 : Stand p l e room_1 s m #[(.int p0), (.long q1)] below meth c s₁ [] 0 0 := Stand.of_body Bd
  have e0 : s₁.heap = h0 := by rw [← hh, Bd.state]; rfl
  have N0 := Fr.nil Z.heap.size
  have pre0 : ∀ t, Steps p.tables e below (s₁.setTop (mkF m 0 #[.val (.int p0), .val (.long q1), .second, .unset, .unset, .unset, .unset, .unset, .unset, .unset, .unset] [])) t → Steps p.tables e below (s₁.setTop (entryFrame m #[(.int p0), (.long q1)] maxLocals)) t := fun t k => castTop (ef_3 m (.int p0) rfl (.long q1) rfl) k
  obtain ⟨T1, h1, k1, X1, e1, E1, A1, Ov1, st1⟩ := newR X0 hx hZ hown (W hw 0 rfl) (W hw 1 rfl) e0 (g := (mkF m 1 #[.val (.int p0), .val (.long q1), .second, .unset, .unset, .unset, .unset, .unset, .unset, .unset, .unset] [(.int (5 : Int32))])) rfl (hb hby at_1) rfl (by decide) (cap := 5) (by decide) (by decide) (by decide) (by decide)
  obtain ⟨b1, g1⟩ : ∃ z, z = h0.size := ⟨_, rfl⟩
  rw [← g1] at A1 st1
  have gn_b1 : Z.heap.size ≤ b1 := Nat.le_trans O0.2.1 (Nat.le_of_eq g1.symm)
  have O1 := O0.ext E1
  have V_b1_v1 : Arv Z h1 b1 k1 (.object "com/example/stint/stint/model/Relation") (5 : Int32) [] .null := Arv.new A1 (by decide)
  obtain ⟨T2, X2, e2, st2⟩ := getS2 X1 hx hZ hown (host := "") (Or.inl (W hw 2 rfl)) Via.refl e1 (hS0.ext O1.2) (g := (mkF m 6 #[.val (.int p0), .val (.long q1), .second, .unset, .unset, .unset, .unset, .unset, .unset, .unset, .unset] [(.int (0 : Int32)), (.ref b1), (.ref b1)])) rfl (hb hby at_6)
  have V_b1_v3 : Arv Z h1 b1 k1 (.object "com/example/stint/stint/model/Relation") (5 : Int32) [.null] .null := V_b1_v1.pad (pad_rep [] .null 1)
  obtain ⟨cl4, Ar4, q4, Sz4, Ng4, Hv4, Gv4⟩ := V_b1_v3
  have hin4 : ¬ ((0 : Int32) < 0 ∨ cl4.slots.size ≤ ((0 : Int32)).toNatClampNeg) := inb_of Sz4 ⟨by decide, by decide⟩
  obtain ⟨T5, h5, X5, e5, W5, st5⟩ := stR X2 hx hZ e2 Ar4 (j := (0 : Int32)) (v := (.ref (w 0))) hin4 rfl (Sto.ofV Ar4 q4 Ov1 (Ins.self (hE0.ext O1.2))) (g := (mkF m 9 #[.val (.int p0), .val (.long q1), .second, .unset, .unset, .unset, .unset, .unset, .unset, .unset, .unset] [(.ref (w 0)), (.int (0 : Int32)), (.ref b1), (.ref b1)])) rfl rfl (hb hby at_9)
  have V_b1_v5 : Arv Z h5 b1 k1 (.object "com/example/stint/stint/model/Relation") (5 : Int32) [(.ref (w 0))] .null := Arv.set Ar4 q4 Sz4 Ng4 Hv4 Gv4 rfl W5 0 rfl (Nat.le_of_ble_eq_true rfl)
  have N5 := Fr.snoc X5 N0 gn_b1
  have O5 := O1.wr W5 gn_b1
  obtain ⟨T6, X6, e6, st6⟩ := getS2 X5 hx hZ hown (host := "") (Or.inl (W hw 6 rfl)) Via.refl e5 (hS1.ext O5.2) (g := (mkF m 12 #[.val (.int p0), .val (.long q1), .second, .unset, .unset, .unset, .unset, .unset, .unset, .unset, .unset] [(.int (1 : Int32)), (.ref b1), (.ref b1)])) rfl (hb hby at_12)
  have V_b1_v7 : Arv Z h5 b1 k1 (.object "com/example/stint/stint/model/Relation") (5 : Int32) [(.ref (w 0)), .null] .null := V_b1_v5.pad (pad_rep [(.ref (w 0))] .null 1)
  obtain ⟨cl8, Ar8, q8, Sz8, Ng8, Hv8, Gv8⟩ := V_b1_v7
  have hin8 : ¬ ((1 : Int32) < 0 ∨ cl8.slots.size ≤ ((1 : Int32)).toNatClampNeg) := inb_of Sz8 ⟨by decide, by decide⟩
  obtain ⟨T9, h9, X9, e9, W9, st9⟩ := stR X6 hx hZ e6 Ar8 (j := (1 : Int32)) (v := (.ref (w 1))) hin8 rfl (Sto.ofV Ar8 q8 Ov1 (Ins.self (hE1.ext O5.2))) (g := (mkF m 15 #[.val (.int p0), .val (.long q1), .second, .unset, .unset, .unset, .unset, .unset, .unset, .unset, .unset] [(.ref (w 1)), (.int (1 : Int32)), (.ref b1), (.ref b1)])) rfl rfl (hb hby at_15)
  have V_b1_v9 : Arv Z h9 b1 k1 (.object "com/example/stint/stint/model/Relation") (5 : Int32) [(.ref (w 0)), (.ref (w 1))] .null := Arv.set Ar8 q8 Sz8 Ng8 Hv8 Gv8 rfl W9 1 rfl (Nat.le_of_ble_eq_true rfl)
  have N9 := Fr.snoc X9 N5 gn_b1
  have O9 := O5.wr W9 gn_b1
  obtain ⟨T10, X10, e10, st10⟩ := getS2 X9 hx hZ hown (host := "") (Or.inl (W hw 8 rfl)) Via.refl e9 (hS2.ext O9.2) (g := (mkF m 18 #[.val (.int p0), .val (.long q1), .second, .unset, .unset, .unset, .unset, .unset, .unset, .unset, .unset] [(.int (2 : Int32)), (.ref b1), (.ref b1)])) rfl (hb hby at_18)
  have V_b1_v11 : Arv Z h9 b1 k1 (.object "com/example/stint/stint/model/Relation") (5 : Int32) [(.ref (w 0)), (.ref (w 1)), .null] .null := V_b1_v9.pad (pad_rep [(.ref (w 0)), (.ref (w 1))] .null 1)
  obtain ⟨cl12, Ar12, q12, Sz12, Ng12, Hv12, Gv12⟩ := V_b1_v11
  have hin12 : ¬ ((2 : Int32) < 0 ∨ cl12.slots.size ≤ ((2 : Int32)).toNatClampNeg) := inb_of Sz12 ⟨by decide, by decide⟩
  obtain ⟨T13, h13, X13, e13, W13, st13⟩ := stR X10 hx hZ e10 Ar12 (j := (2 : Int32)) (v := (.ref (w 2))) hin12 rfl (Sto.ofV Ar12 q12 Ov1 (Ins.self (hE2.ext O9.2))) (g := (mkF m 21 #[.val (.int p0), .val (.long q1), .second, .unset, .unset, .unset, .unset, .unset, .unset, .unset, .unset] [(.ref (w 2)), (.int (2 : Int32)), (.ref b1), (.ref b1)])) rfl rfl (hb hby at_21)
  have V_b1_v13 : Arv Z h13 b1 k1 (.object "com/example/stint/stint/model/Relation") (5 : Int32) [(.ref (w 0)), (.ref (w 1)), (.ref (w 2))] .null := Arv.set Ar12 q12 Sz12 Ng12 Hv12 Gv12 rfl W13 2 rfl (Nat.le_of_ble_eq_true rfl)
  have N13 := Fr.snoc X13 N9 gn_b1
  have O13 := O9.wr W13 gn_b1
  obtain ⟨T14, X14, e14, st14⟩ := getS2 X13 hx hZ hown (host := "") (Or.inl (W hw 10 rfl)) Via.refl e13 (hS3.ext O13.2) (g := (mkF m 24 #[.val (.int p0), .val (.long q1), .second, .unset, .unset, .unset, .unset, .unset, .unset, .unset, .unset] [(.int (3 : Int32)), (.ref b1), (.ref b1)])) rfl (hb hby at_24)
  have V_b1_v15 : Arv Z h13 b1 k1 (.object "com/example/stint/stint/model/Relation") (5 : Int32) [(.ref (w 0)), (.ref (w 1)), (.ref (w 2)), .null] .null := V_b1_v13.pad (pad_rep [(.ref (w 0)), (.ref (w 1)), (.ref (w 2))] .null 1)
  obtain ⟨cl16, Ar16, q16, Sz16, Ng16, Hv16, Gv16⟩ := V_b1_v15
  have hin16 : ¬ ((3 : Int32) < 0 ∨ cl16.slots.size ≤ ((3 : Int32)).toNatClampNeg) := inb_of Sz16 ⟨by decide, by decide⟩
  obtain ⟨T17, h17, X17, e17, W17, st17⟩ := stR X14 hx hZ e14 Ar16 (j := (3 : Int32)) (v := (.ref (w 3))) hin16 rfl (Sto.ofV Ar16 q16 Ov1 (Ins.self (hE3.ext O13.2))) (g := (mkF m 27 #[.val (.int p0), .val (.long q1), .second, .unset, .unset, .unset, .unset, .unset, .unset, .unset, .unset] [(.ref (w 3)), (.int (3 : Int32)), (.ref b1), (.ref b1)])) rfl rfl (hb hby at_27)
  have V_b1_v17 : Arv Z h17 b1 k1 (.object "com/example/stint/stint/model/Relation") (5 : Int32) [(.ref (w 0)), (.ref (w 1)), (.ref (w 2)), (.ref (w 3))] .null := Arv.set Ar16 q16 Sz16 Ng16 Hv16 Gv16 rfl W17 3 rfl (Nat.le_of_ble_eq_true rfl)
  have N17 := Fr.snoc X17 N13 gn_b1
  have O17 := O13.wr W17 gn_b1
  obtain ⟨T18, X18, e18, st18⟩ := getS2 X17 hx hZ hown (host := "") (Or.inl (W hw 12 rfl)) Via.refl e17 (hS4.ext O17.2) (g := (mkF m 30 #[.val (.int p0), .val (.long q1), .second, .unset, .unset, .unset, .unset, .unset, .unset, .unset, .unset] [(.int (4 : Int32)), (.ref b1), (.ref b1)])) rfl (hb hby at_30)
  have V_b1_v19 : Arv Z h17 b1 k1 (.object "com/example/stint/stint/model/Relation") (5 : Int32) [(.ref (w 0)), (.ref (w 1)), (.ref (w 2)), (.ref (w 3)), .null] .null := V_b1_v17.pad (pad_rep [(.ref (w 0)), (.ref (w 1)), (.ref (w 2)), (.ref (w 3))] .null 1)
  obtain ⟨cl20, Ar20, q20, Sz20, Ng20, Hv20, Gv20⟩ := V_b1_v19
  have hin20 : ¬ ((4 : Int32) < 0 ∨ cl20.slots.size ≤ ((4 : Int32)).toNatClampNeg) := inb_of Sz20 ⟨by decide, by decide⟩
  obtain ⟨T21, h21, X21, e21, W21, st21⟩ := stR X18 hx hZ e18 Ar20 (j := (4 : Int32)) (v := (.ref (w 4))) hin20 rfl (Sto.ofV Ar20 q20 Ov1 (Ins.self (hE4.ext O17.2))) (g := (mkF m 33 #[.val (.int p0), .val (.long q1), .second, .unset, .unset, .unset, .unset, .unset, .unset, .unset, .unset] [(.ref (w 4)), (.int (4 : Int32)), (.ref b1), (.ref b1)])) rfl rfl (hb hby at_33)
  have V_b1_v21 : Arv Z h21 b1 k1 (.object "com/example/stint/stint/model/Relation") (5 : Int32) [(.ref (w 0)), (.ref (w 1)), (.ref (w 2)), (.ref (w 3)), (.ref (w 4))] .null := Arv.set Ar20 q20 Sz20 Ng20 Hv20 Gv20 rfl W21 4 rfl (Nat.le_of_ble_eq_true rfl)
  have N21 := Fr.snoc X21 N17 gn_b1
  have O21 := O17.wr W21 gn_b1
  obtain ⟨cl22, Ar22, q22, Sz22, Ng22, Hv22, Gv22⟩ := V_b1_v21
  have hin22 : ¬ ((1 : Int32) < 0 ∨ cl22.slots.size ≤ ((1 : Int32)).toNatClampNeg) := inb_of Sz22 ⟨by decide, by decide⟩
  have hat22 : cl22.slots[((1 : Int32)).toNatClampNeg]? = some (.ref (w 1)) := Has.at Hv22 hin22 (by rfl)
  obtain ⟨cq23, kq23, q23a, q23b, q23c⟩ := isOf hZ e21 (hE1.ext O21.2)
  obtain ⟨_, _, ⟨T23, L23, k23, n23⟩, -, X23, ⟨Lc23, hQ23, l23, y23, z23⟩, st23⟩ := X21.virtualBack hx (y := (⟨"com/example/stint/stint/model/Relation", "boundsAbove", "()Z"⟩ : MethodName)) (z := (⟨"com/example/stint/stint/model/Relation", "boundsAbove", "()Z"⟩ : MethodName)) hown (mvT hZ (W hw 16 rfl)) (mvT hZ (W hw 17 rfl)) (notFace_of_selects (args := #[]) (mvT hZ (W hw 19 rfl))) (mvT hZ (W hw 19 rfl)) (mvT hZ (W hw 18 rfl)) (by decide) (backOf (W := 0) (rm_9 l Z a0 hw w kk hN [] h21 O21) hZ (W hw 20 rfl) (W hw 3 rfl) (by decide) (by decide)) q23a q23c (g := (mkF m 66 #[.val (.int p0), .val (.long q1), .second, .val (.ref b1), .val (.int (1 : Int32)), .val (.ref (w 1)), .val (.long (0 : Int64)), .second, .unset, .unset, .unset] [(.ref (w 1))])) rfl (by rw [hml]; rfl) (Steps.refl _) (argsL := []) (rest := []) (lenOf pd_0 rfl) rfl (by show 2 * 0 + _ ≤ _; exact Nat.le_of_eq rfl) (hb hby at_66) (fun _ _ => ⟨rfl, e21, (by decide : 1 + 0 ≤ _), (by decide : 5 + 0 ≤ _)⟩)
  dsimp only [Pt.U, Pt.locs, Pt.cells, Pt.slots] at X23 l23 y23 z23 st23 hQ23
  subst l23 y23 z23
  obtain ⟨rfl, N23q, e23⟩ := hQ23
  have N23 := Fr.app N21 N23q
  obtain ⟨cq24, kq24, q24a, q24b, q24c⟩ := isOf hZ e23 (hE1.ext O21.2)
  obtain ⟨_, _, ⟨T24, L24, k24, n24⟩, -, X24, ⟨Lc24, hQ24, l24, y24, z24⟩, st24⟩ := X23.virtualBack hx (y := (⟨"com/example/stint/stint/model/Relation", "holds", "(JJ)Z"⟩ : MethodName)) (z := (⟨"com/example/stint/stint/model/Relation", "holds", "(JJ)Z"⟩ : MethodName)) hown (mvT hZ (W hw 22 rfl)) (mvT hZ (W hw 23 rfl)) (notFace_of_selects (args := #[]) (mvT hZ (W hw 25 rfl))) (mvT hZ (W hw 25 rfl)) (mvT hZ (W hw 24 rfl)) (by decide) (backOf (W := 0) (rm_11 l Z a0 hw w kk hN [] h21 O21) hZ (W hw 26 rfl) (W hw 3 rfl) (by decide) (by decide)) q24a q24c (g := (mkF m 91 #[.val (.int p0), .val (.long q1), .second, .val (.ref b1), .val (.int (1 : Int32)), .val (.ref (w 1)), .val (.long (0 : Int64)), .second, .val (.int (1 : Int32)), .val (.int (1 : Int32)), .unset] [(.long (0 : Int64)), (.long (9223372036854775807 : Int64)), (.ref (w 1))])) rfl (by rw [hml]; rfl) (Steps.refl _) (argsL := [(.long (9223372036854775807 : Int64)), (.long (0 : Int64))]) (rest := []) (lenOf pd_3 rfl) rfl (by show 2 * 0 + _ ≤ _; exact Nat.le_of_eq rfl) (hb hby at_91) (fun _ _ => ⟨rfl, e23, (by decide : 1 + 0 ≤ _), (by decide : 5 + 0 ≤ _)⟩)
  dsimp only [Pt.U, Pt.locs, Pt.cells, Pt.slots] at X24 l24 y24 z24 st24 hQ24
  subst l24 y24 z24
  obtain ⟨rfl, N24q, e24⟩ := hQ24
  have N24 := Fr.app N23 N24q
  obtain ⟨fs, hr, hrun, hended, hW, hsame⟩ := X24.leave (v := some (.int (1 : Int32))) (fun h => by rw [Bd.returns] at h; cases h)
  refine ⟨_, _, pre0 _ ?_, hrun, hended, _, _, rfl, ?_, ⟨_, rfl⟩, hW, hsame.mono (by decide) (by decide)⟩
  · show Steps p.tables e below (s₁.setTop (mkF m 0 #[.val (.int p0), .val (.long q1), .second, .unset, .unset, .unset, .unset, .unset, .unset, .unset, .unset] [])) _
    refine XS.iconst X0.here hx rfl (hb hby at_0) ?_
    show Steps p.tables e below (s₁.setTop (mkF m 1 #[.val (.int p0), .val (.long q1), .second, .unset, .unset, .unset, .unset, .unset, .unset, .unset, .unset] [(.int (5 : Int32))])) _
    refine st1 _ ?_
    show Steps p.tables e below (T1.setTop (mkF m 4 #[.val (.int p0), .val (.long q1), .second, .unset, .unset, .unset, .unset, .unset, .unset, .unset, .unset] [(.ref b1)])) _
    refine XS.dup X1.here hx rfl (hb hby at_4) rfl rfl ?_
    show Steps p.tables e below (T1.setTop (mkF m 5 #[.val (.int p0), .val (.long q1), .second, .unset, .unset, .unset, .unset, .unset, .unset, .unset, .unset] [(.ref b1), (.ref b1)])) _
    refine XS.iconst X1.here hx rfl (hb hby at_5) ?_
    show Steps p.tables e below (T1.setTop (mkF m 6 #[.val (.int p0), .val (.long q1), .second, .unset, .unset, .unset, .unset, .unset, .unset, .unset, .unset] [(.int (0 : Int32)), (.ref b1), (.ref b1)])) _
    refine st2 _ ?_
    show Steps p.tables e below (T2.setTop (mkF m 9 #[.val (.int p0), .val (.long q1), .second, .unset, .unset, .unset, .unset, .unset, .unset, .unset, .unset] [(.ref (w 0)), (.int (0 : Int32)), (.ref b1), (.ref b1)])) _
    refine st5 _ ?_
    show Steps p.tables e below (T5.setTop (mkF m 10 #[.val (.int p0), .val (.long q1), .second, .unset, .unset, .unset, .unset, .unset, .unset, .unset, .unset] [(.ref b1)])) _
    refine XS.dup X5.here hx rfl (hb hby at_10) rfl rfl ?_
    show Steps p.tables e below (T5.setTop (mkF m 11 #[.val (.int p0), .val (.long q1), .second, .unset, .unset, .unset, .unset, .unset, .unset, .unset, .unset] [(.ref b1), (.ref b1)])) _
    refine XS.iconst X5.here hx rfl (hb hby at_11) ?_
    show Steps p.tables e below (T5.setTop (mkF m 12 #[.val (.int p0), .val (.long q1), .second, .unset, .unset, .unset, .unset, .unset, .unset, .unset, .unset] [(.int (1 : Int32)), (.ref b1), (.ref b1)])) _
    refine st6 _ ?_
    show Steps p.tables e below (T6.setTop (mkF m 15 #[.val (.int p0), .val (.long q1), .second, .unset, .unset, .unset, .unset, .unset, .unset, .unset, .unset] [(.ref (w 1)), (.int (1 : Int32)), (.ref b1), (.ref b1)])) _
    refine st9 _ ?_
    show Steps p.tables e below (T9.setTop (mkF m 16 #[.val (.int p0), .val (.long q1), .second, .unset, .unset, .unset, .unset, .unset, .unset, .unset, .unset] [(.ref b1)])) _
    refine XS.dup X9.here hx rfl (hb hby at_16) rfl rfl ?_
    show Steps p.tables e below (T9.setTop (mkF m 17 #[.val (.int p0), .val (.long q1), .second, .unset, .unset, .unset, .unset, .unset, .unset, .unset, .unset] [(.ref b1), (.ref b1)])) _
    refine XS.iconst X9.here hx rfl (hb hby at_17) ?_
    show Steps p.tables e below (T9.setTop (mkF m 18 #[.val (.int p0), .val (.long q1), .second, .unset, .unset, .unset, .unset, .unset, .unset, .unset, .unset] [(.int (2 : Int32)), (.ref b1), (.ref b1)])) _
    refine st10 _ ?_
    show Steps p.tables e below (T10.setTop (mkF m 21 #[.val (.int p0), .val (.long q1), .second, .unset, .unset, .unset, .unset, .unset, .unset, .unset, .unset] [(.ref (w 2)), (.int (2 : Int32)), (.ref b1), (.ref b1)])) _
    refine st13 _ ?_
    show Steps p.tables e below (T13.setTop (mkF m 22 #[.val (.int p0), .val (.long q1), .second, .unset, .unset, .unset, .unset, .unset, .unset, .unset, .unset] [(.ref b1)])) _
    refine XS.dup X13.here hx rfl (hb hby at_22) rfl rfl ?_
    show Steps p.tables e below (T13.setTop (mkF m 23 #[.val (.int p0), .val (.long q1), .second, .unset, .unset, .unset, .unset, .unset, .unset, .unset, .unset] [(.ref b1), (.ref b1)])) _
    refine XS.iconst X13.here hx rfl (hb hby at_23) ?_
    show Steps p.tables e below (T13.setTop (mkF m 24 #[.val (.int p0), .val (.long q1), .second, .unset, .unset, .unset, .unset, .unset, .unset, .unset, .unset] [(.int (3 : Int32)), (.ref b1), (.ref b1)])) _
    refine st14 _ ?_
    show Steps p.tables e below (T14.setTop (mkF m 27 #[.val (.int p0), .val (.long q1), .second, .unset, .unset, .unset, .unset, .unset, .unset, .unset, .unset] [(.ref (w 3)), (.int (3 : Int32)), (.ref b1), (.ref b1)])) _
    refine st17 _ ?_
    show Steps p.tables e below (T17.setTop (mkF m 28 #[.val (.int p0), .val (.long q1), .second, .unset, .unset, .unset, .unset, .unset, .unset, .unset, .unset] [(.ref b1)])) _
    refine XS.dup X17.here hx rfl (hb hby at_28) rfl rfl ?_
    show Steps p.tables e below (T17.setTop (mkF m 29 #[.val (.int p0), .val (.long q1), .second, .unset, .unset, .unset, .unset, .unset, .unset, .unset, .unset] [(.ref b1), (.ref b1)])) _
    refine XS.iconst X17.here hx rfl (hb hby at_29) ?_
    show Steps p.tables e below (T17.setTop (mkF m 30 #[.val (.int p0), .val (.long q1), .second, .unset, .unset, .unset, .unset, .unset, .unset, .unset, .unset] [(.int (4 : Int32)), (.ref b1), (.ref b1)])) _
    refine st18 _ ?_
    show Steps p.tables e below (T18.setTop (mkF m 33 #[.val (.int p0), .val (.long q1), .second, .unset, .unset, .unset, .unset, .unset, .unset, .unset, .unset] [(.ref (w 4)), (.int (4 : Int32)), (.ref b1), (.ref b1)])) _
    refine st21 _ ?_
    show Steps p.tables e below (T21.setTop (mkF m 34 #[.val (.int p0), .val (.long q1), .second, .unset, .unset, .unset, .unset, .unset, .unset, .unset, .unset] [(.ref b1)])) _
    refine XS.astoreN X21.here hx rfl (hb hby at_34) rfl rfl (l' := #[.val (.int p0), .val (.long q1), .second, .val (.ref b1), .unset, .unset, .unset, .unset, .unset, .unset, .unset]) rfl ?_
    show Steps p.tables e below (T21.setTop (mkF m 35 #[.val (.int p0), .val (.long q1), .second, .val (.ref b1), .unset, .unset, .unset, .unset, .unset, .unset, .unset] [])) _
    refine XS.iloadN X21.here hx rfl (hb hby at_35) rfl ?_
    show Steps p.tables e below (T21.setTop (mkF m 36 #[.val (.int p0), .val (.long q1), .second, .val (.ref b1), .unset, .unset, .unset, .unset, .unset, .unset, .unset] [(.int p0)])) _
    refine X21.ldcInt hx hown (mvT hZ (W hw 14 rfl)) (g := (mkF m 36 #[.val (.int p0), .val (.long q1), .second, .val (.ref b1), .unset, .unset, .unset, .unset, .unset, .unset, .unset] [(.int p0)])) rfl (hb hby at_36) _ ?_
    show Steps p.tables e below (T21.setTop (mkF m 38 #[.val (.int p0), .val (.long q1), .second, .val (.ref b1), .unset, .unset, .unset, .unset, .unset, .unset, .unset] [(.int (2147483647 : Int32)), (.int p0)])) _
    refine XS.iand X21.here hx rfl (hb hby at_38) rfl ?_
    show Steps p.tables e below (T21.setTop (mkF m 39 #[.val (.int p0), .val (.long q1), .second, .val (.ref b1), .unset, .unset, .unset, .unset, .unset, .unset, .unset] [(.int (p0 &&& (2147483647 : Int32)))])) _
    refine XS.iconst X21.here hx rfl (hb hby at_39) ?_
    show Steps p.tables e below (T21.setTop (mkF m 40 #[.val (.int p0), .val (.long q1), .second, .val (.ref b1), .unset, .unset, .unset, .unset, .unset, .unset, .unset] [(.int (5 : Int32)), (.int (p0 &&& (2147483647 : Int32)))])) _
    refine iremM X21 hx rfl (hb hby at_40) rfl (by decide : ¬ ((5 : Int32) = (0 : Int32))) ?_
    show Steps p.tables e below (T21.setTop (mkF m 41 #[.val (.int p0), .val (.long q1), .second, .val (.ref b1), .unset, .unset, .unset, .unset, .unset, .unset, .unset] [(.int ((p0 &&& (2147483647 : Int32)) % (5 : Int32)))])) _
    rw [hp0]
    show Steps p.tables e below (T21.setTop (mkF m 41 #[.val (.int p0), .val (.long q1), .second, .val (.ref b1), .unset, .unset, .unset, .unset, .unset, .unset, .unset] [(.int (1 : Int32))])) _
    refine XS.istore X21.here hx rfl (hb hby at_41) rfl (l' := #[.val (.int p0), .val (.long q1), .second, .val (.ref b1), .val (.int (1 : Int32)), .unset, .unset, .unset, .unset, .unset, .unset]) rfl ?_
    show Steps p.tables e below (T21.setTop (mkF m 43 #[.val (.int p0), .val (.long q1), .second, .val (.ref b1), .val (.int (1 : Int32)), .unset, .unset, .unset, .unset, .unset, .unset] [])) _
    refine XS.aloadN X21.here hx rfl (hb hby at_43) rfl rfl ?_
    show Steps p.tables e below (T21.setTop (mkF m 44 #[.val (.int p0), .val (.long q1), .second, .val (.ref b1), .val (.int (1 : Int32)), .unset, .unset, .unset, .unset, .unset, .unset] [(.ref b1)])) _
    refine XS.iload X21.here hx rfl (hb hby at_44) rfl ?_
    show Steps p.tables e below (T21.setTop (mkF m 46 #[.val (.int p0), .val (.long q1), .second, .val (.ref b1), .val (.int (1 : Int32)), .unset, .unset, .unset, .unset, .unset, .unset] [(.int (1 : Int32)), (.ref b1)])) _
    refine X21.aaload hx (j := (1 : Int32)) (v := (.ref (w 1))) (by rw [e21]; exact Ar22.1) (State.isArrayOf_alike hZ.alike Ar22.2.1) rfl Ar22.2.2 hin22 hat22 (g := (mkF m 46 #[.val (.int p0), .val (.long q1), .second, .val (.ref b1), .val (.int (1 : Int32)), .unset, .unset, .unset, .unset, .unset, .unset] [(.int (1 : Int32)), (.ref b1)])) rfl rfl (hb hby at_46) _ ?_
    show Steps p.tables e below (T21.setTop (mkF m 47 #[.val (.int p0), .val (.long q1), .second, .val (.ref b1), .val (.int (1 : Int32)), .unset, .unset, .unset, .unset, .unset, .unset] [(.ref (w 1))])) _
    refine XS.astore X21.here hx rfl (hb hby at_47) rfl rfl (l' := #[.val (.int p0), .val (.long q1), .second, .val (.ref b1), .val (.int (1 : Int32)), .val (.ref (w 1)), .unset, .unset, .unset, .unset, .unset]) rfl ?_
    show Steps p.tables e below (T21.setTop (mkF m 49 #[.val (.int p0), .val (.long q1), .second, .val (.ref b1), .val (.int (1 : Int32)), .val (.ref (w 1)), .unset, .unset, .unset, .unset, .unset] [])) _
    refine XS.lloadN X21.here hx rfl (hb hby at_49) rfl ?_
    show Steps p.tables e below (T21.setTop (mkF m 50 #[.val (.int p0), .val (.long q1), .second, .val (.ref b1), .val (.int (1 : Int32)), .val (.ref (w 1)), .unset, .unset, .unset, .unset, .unset] [(.long q1)])) _
    refine XS.lstore X21.here hx rfl (hb hby at_50) rfl (l' := #[.val (.int p0), .val (.long q1), .second, .val (.ref b1), .val (.int (1 : Int32)), .val (.ref (w 1)), .val (.long q1), .second, .unset, .unset, .unset]) rfl ?_
    show Steps p.tables e below (T21.setTop (mkF m 52 #[.val (.int p0), .val (.long q1), .second, .val (.ref b1), .val (.int (1 : Int32)), .val (.ref (w 1)), .val (.long q1), .second, .unset, .unset, .unset] [])) _
    refine XS.lload X21.here hx rfl (hb hby at_52) rfl ?_
    show Steps p.tables e below (T21.setTop (mkF m 54 #[.val (.int p0), .val (.long q1), .second, .val (.ref b1), .val (.int (1 : Int32)), .val (.ref (w 1)), .val (.long q1), .second, .unset, .unset, .unset] [(.long q1)])) _
    refine X21.ldc2Long hx hown (mvT hZ (W hw 15 rfl)) (g := (mkF m 54 #[.val (.int p0), .val (.long q1), .second, .val (.ref b1), .val (.int (1 : Int32)), .val (.ref (w 1)), .val (.long q1), .second, .unset, .unset, .unset] [(.long q1)])) rfl (hb hby at_54) _ ?_
    show Steps p.tables e below (T21.setTop (mkF m 57 #[.val (.int p0), .val (.long q1), .second, .val (.ref b1), .val (.int (1 : Int32)), .val (.ref (w 1)), .val (.long q1), .second, .unset, .unset, .unset] [(.long (9223372036854775807 : Int64)), (.long q1)])) _
    refine XS.lcmp X21.here hx rfl (hb hby at_57) rfl ?_
    show Steps p.tables e below (T21.setTop (mkF m 58 #[.val (.int p0), .val (.long q1), .second, .val (.ref b1), .val (.int (1 : Int32)), .val (.ref (w 1)), .val (.long q1), .second, .unset, .unset, .unset] [(.int (lcmpW q1 (9223372036854775807 : Int64)))])) _
    refine XS.ifNo X21.here hx rfl (hb hby at_58) rfl ((if0 _ _).trans (teq hp1).2) ?_
    show Steps p.tables e below (T21.setTop (mkF m 61 #[.val (.int p0), .val (.long q1), .second, .val (.ref b1), .val (.int (1 : Int32)), .val (.ref (w 1)), .val (.long q1), .second, .unset, .unset, .unset] [])) _
    refine XS.lconst X21.here hx rfl (hb hby at_61) ?_
    show Steps p.tables e below (T21.setTop (mkF m 62 #[.val (.int p0), .val (.long q1), .second, .val (.ref b1), .val (.int (1 : Int32)), .val (.ref (w 1)), .val (.long q1), .second, .unset, .unset, .unset] [(.long (0 : Int64))])) _
    refine XS.lstore X21.here hx rfl (hb hby at_62) rfl (l' := #[.val (.int p0), .val (.long q1), .second, .val (.ref b1), .val (.int (1 : Int32)), .val (.ref (w 1)), .val (.long (0 : Int64)), .second, .unset, .unset, .unset]) rfl ?_
    show Steps p.tables e below (T21.setTop (mkF m 64 #[.val (.int p0), .val (.long q1), .second, .val (.ref b1), .val (.int (1 : Int32)), .val (.ref (w 1)), .val (.long (0 : Int64)), .second, .unset, .unset, .unset] [])) _
    refine XS.aload X21.here hx rfl (hb hby at_64) rfl rfl ?_
    show Steps p.tables e below (T21.setTop (mkF m 66 #[.val (.int p0), .val (.long q1), .second, .val (.ref b1), .val (.int (1 : Int32)), .val (.ref (w 1)), .val (.long (0 : Int64)), .second, .unset, .unset, .unset] [(.ref (w 1))])) _
    refine st23.trans ?_
    show Steps p.tables e below (T23.setTop (mkF m 69 #[.val (.int p0), .val (.long q1), .second, .val (.ref b1), .val (.int (1 : Int32)), .val (.ref (w 1)), .val (.long (0 : Int64)), .second, .unset, .unset, .unset] [(.int (1 : Int32))])) _
    refine XS.istore X23.here hx rfl (hb hby at_69) rfl (l' := #[.val (.int p0), .val (.long q1), .second, .val (.ref b1), .val (.int (1 : Int32)), .val (.ref (w 1)), .val (.long (0 : Int64)), .second, .val (.int (1 : Int32)), .unset, .unset]) rfl ?_
    show Steps p.tables e below (T23.setTop (mkF m 71 #[.val (.int p0), .val (.long q1), .second, .val (.ref b1), .val (.int (1 : Int32)), .val (.ref (w 1)), .val (.long (0 : Int64)), .second, .val (.int (1 : Int32)), .unset, .unset] [])) _
    refine XS.iload X23.here hx rfl (hb hby at_71) rfl ?_
    show Steps p.tables e below (T23.setTop (mkF m 73 #[.val (.int p0), .val (.long q1), .second, .val (.ref b1), .val (.int (1 : Int32)), .val (.ref (w 1)), .val (.long (0 : Int64)), .second, .val (.int (1 : Int32)), .unset, .unset] [(.int (1 : Int32))])) _
    refine XS.iconst X23.here hx rfl (hb hby at_73) ?_
    show Steps p.tables e below (T23.setTop (mkF m 74 #[.val (.int p0), .val (.long q1), .second, .val (.ref b1), .val (.int (1 : Int32)), .val (.ref (w 1)), .val (.long (0 : Int64)), .second, .val (.int (1 : Int32)), .unset, .unset] [(.int (2 : Int32)), (.int (1 : Int32))])) _
    refine XS.icmpNo X23.here hx rfl (hb hby at_74) rfl (flt (by decide : ¬ ((2 : Int32) < (1 : Int32)))).2.2.1 ?_
    show Steps p.tables e below (T23.setTop (mkF m 77 #[.val (.int p0), .val (.long q1), .second, .val (.ref b1), .val (.int (1 : Int32)), .val (.ref (w 1)), .val (.long (0 : Int64)), .second, .val (.int (1 : Int32)), .unset, .unset] [])) _
    refine XS.iconst X23.here hx rfl (hb hby at_77) ?_
    show Steps p.tables e below (T23.setTop (mkF m 78 #[.val (.int p0), .val (.long q1), .second, .val (.ref b1), .val (.int (1 : Int32)), .val (.ref (w 1)), .val (.long (0 : Int64)), .second, .val (.int (1 : Int32)), .unset, .unset] [(.int (1 : Int32))])) _
    refine XS.goto X23.here hx rfl (pc0 := 78) (pc' := 82) rfl (hb hby at_78) (by decide) (by decide) ?_
    show Steps p.tables e below (T23.setTop (mkF m 82 #[.val (.int p0), .val (.long q1), .second, .val (.ref b1), .val (.int (1 : Int32)), .val (.ref (w 1)), .val (.long (0 : Int64)), .second, .val (.int (1 : Int32)), .unset, .unset] [(.int (1 : Int32))])) _
    refine XS.istore X23.here hx rfl (hb hby at_82) rfl (l' := #[.val (.int p0), .val (.long q1), .second, .val (.ref b1), .val (.int (1 : Int32)), .val (.ref (w 1)), .val (.long (0 : Int64)), .second, .val (.int (1 : Int32)), .val (.int (1 : Int32)), .unset]) rfl ?_
    show Steps p.tables e below (T23.setTop (mkF m 84 #[.val (.int p0), .val (.long q1), .second, .val (.ref b1), .val (.int (1 : Int32)), .val (.ref (w 1)), .val (.long (0 : Int64)), .second, .val (.int (1 : Int32)), .val (.int (1 : Int32)), .unset] [])) _
    refine XS.aload X23.here hx rfl (hb hby at_84) rfl rfl ?_
    show Steps p.tables e below (T23.setTop (mkF m 86 #[.val (.int p0), .val (.long q1), .second, .val (.ref b1), .val (.int (1 : Int32)), .val (.ref (w 1)), .val (.long (0 : Int64)), .second, .val (.int (1 : Int32)), .val (.int (1 : Int32)), .unset] [(.ref (w 1))])) _
    refine X23.ldc2Long hx hown (mvT hZ (W hw 15 rfl)) (g := (mkF m 86 #[.val (.int p0), .val (.long q1), .second, .val (.ref b1), .val (.int (1 : Int32)), .val (.ref (w 1)), .val (.long (0 : Int64)), .second, .val (.int (1 : Int32)), .val (.int (1 : Int32)), .unset] [(.ref (w 1))])) rfl (hb hby at_86) _ ?_
    show Steps p.tables e below (T23.setTop (mkF m 89 #[.val (.int p0), .val (.long q1), .second, .val (.ref b1), .val (.int (1 : Int32)), .val (.ref (w 1)), .val (.long (0 : Int64)), .second, .val (.int (1 : Int32)), .val (.int (1 : Int32)), .unset] [(.long (9223372036854775807 : Int64)), (.ref (w 1))])) _
    refine XS.lload X23.here hx rfl (hb hby at_89) rfl ?_
    show Steps p.tables e below (T23.setTop (mkF m 91 #[.val (.int p0), .val (.long q1), .second, .val (.ref b1), .val (.int (1 : Int32)), .val (.ref (w 1)), .val (.long (0 : Int64)), .second, .val (.int (1 : Int32)), .val (.int (1 : Int32)), .unset] [(.long (0 : Int64)), (.long (9223372036854775807 : Int64)), (.ref (w 1))])) _
    refine st24.trans ?_
    show Steps p.tables e below (T24.setTop (mkF m 94 #[.val (.int p0), .val (.long q1), .second, .val (.ref b1), .val (.int (1 : Int32)), .val (.ref (w 1)), .val (.long (0 : Int64)), .second, .val (.int (1 : Int32)), .val (.int (1 : Int32)), .unset] [(.int (0 : Int32))])) _
    refine XS.ifNo X24.here hx rfl (hb hby at_94) rfl ((if0 _ _).trans (teq (by decide : (0 : Int32) = (0 : Int32))).2) ?_
    show Steps p.tables e below (T24.setTop (mkF m 97 #[.val (.int p0), .val (.long q1), .second, .val (.ref b1), .val (.int (1 : Int32)), .val (.ref (w 1)), .val (.long (0 : Int64)), .second, .val (.int (1 : Int32)), .val (.int (1 : Int32)), .unset] [])) _
    refine XS.iconst X24.here hx rfl (hb hby at_97) ?_
    show Steps p.tables e below (T24.setTop (mkF m 98 #[.val (.int p0), .val (.long q1), .second, .val (.ref b1), .val (.int (1 : Int32)), .val (.ref (w 1)), .val (.long (0 : Int64)), .second, .val (.int (1 : Int32)), .val (.int (1 : Int32)), .unset] [(.int (1 : Int32))])) _
    refine XS.goto X24.here hx rfl (pc0 := 98) (pc' := 102) rfl (hb hby at_98) (by decide) (by decide) ?_
    show Steps p.tables e below (T24.setTop (mkF m 102 #[.val (.int p0), .val (.long q1), .second, .val (.ref b1), .val (.int (1 : Int32)), .val (.ref (w 1)), .val (.long (0 : Int64)), .second, .val (.int (1 : Int32)), .val (.int (1 : Int32)), .unset] [(.int (1 : Int32))])) _
    refine XS.istore X24.here hx rfl (hb hby at_102) rfl (l' := #[.val (.int p0), .val (.long q1), .second, .val (.ref b1), .val (.int (1 : Int32)), .val (.ref (w 1)), .val (.long (0 : Int64)), .second, .val (.int (1 : Int32)), .val (.int (1 : Int32)), .val (.int (1 : Int32))]) rfl ?_
    show Steps p.tables e below (T24.setTop (mkF m 104 #[.val (.int p0), .val (.long q1), .second, .val (.ref b1), .val (.int (1 : Int32)), .val (.ref (w 1)), .val (.long (0 : Int64)), .second, .val (.int (1 : Int32)), .val (.int (1 : Int32)), .val (.int (1 : Int32))] [])) _
    refine XS.iload X24.here hx rfl (hb hby at_104) rfl ?_
    show Steps p.tables e below (T24.setTop (mkF m 106 #[.val (.int p0), .val (.long q1), .second, .val (.ref b1), .val (.int (1 : Int32)), .val (.ref (w 1)), .val (.long (0 : Int64)), .second, .val (.int (1 : Int32)), .val (.int (1 : Int32)), .val (.int (1 : Int32))] [(.int (1 : Int32))])) _
    refine XS.iload X24.here hx rfl (hb hby at_106) rfl ?_
    show Steps p.tables e below (T24.setTop (mkF m 108 #[.val (.int p0), .val (.long q1), .second, .val (.ref b1), .val (.int (1 : Int32)), .val (.ref (w 1)), .val (.long (0 : Int64)), .second, .val (.int (1 : Int32)), .val (.int (1 : Int32)), .val (.int (1 : Int32))] [(.int (1 : Int32)), (.int (1 : Int32))])) _
    refine XS.icmpNo X24.here hx rfl (hb hby at_108) rfl (teq (by decide : (1 : Int32) = (1 : Int32))).2 ?_
    show Steps p.tables e below (T24.setTop (mkF m 111 #[.val (.int p0), .val (.long q1), .second, .val (.ref b1), .val (.int (1 : Int32)), .val (.ref (w 1)), .val (.long (0 : Int64)), .second, .val (.int (1 : Int32)), .val (.int (1 : Int32)), .val (.int (1 : Int32))] [])) _
    refine XS.iload X24.here hx rfl (hb hby at_111) rfl ?_
    show Steps p.tables e below (T24.setTop (mkF m 113 #[.val (.int p0), .val (.long q1), .second, .val (.ref b1), .val (.int (1 : Int32)), .val (.ref (w 1)), .val (.long (0 : Int64)), .second, .val (.int (1 : Int32)), .val (.int (1 : Int32)), .val (.int (1 : Int32))] [(.int (1 : Int32))])) _
    refine XS.iload X24.here hx rfl (hb hby at_113) rfl ?_
    show Steps p.tables e below (T24.setTop (mkF m 115 #[.val (.int p0), .val (.long q1), .second, .val (.ref b1), .val (.int (1 : Int32)), .val (.ref (w 1)), .val (.long (0 : Int64)), .second, .val (.int (1 : Int32)), .val (.int (1 : Int32)), .val (.int (1 : Int32))] [(.int (1 : Int32)), (.int (1 : Int32))])) _
    refine XS.icmpNo X24.here hx rfl (hb hby at_115) rfl (teq (by decide : (1 : Int32) = (1 : Int32))).2 ?_
    show Steps p.tables e below (T24.setTop (mkF m 118 #[.val (.int p0), .val (.long q1), .second, .val (.ref b1), .val (.int (1 : Int32)), .val (.ref (w 1)), .val (.long (0 : Int64)), .second, .val (.int (1 : Int32)), .val (.int (1 : Int32)), .val (.int (1 : Int32))] [])) _
    refine XS.iconst X24.here hx rfl (hb hby at_118) ?_
    show Steps p.tables e below (T24.setTop (mkF m 119 #[.val (.int p0), .val (.long q1), .second, .val (.ref b1), .val (.int (1 : Int32)), .val (.ref (w 1)), .val (.long (0 : Int64)), .second, .val (.int (1 : Int32)), .val (.int (1 : Int32)), .val (.int (1 : Int32))] [(.int (1 : Int32))])) _
    refine XS.goto X24.here hx rfl (pc0 := 119) (pc' := 123) rfl (hb hby at_119) (by decide) (by decide) ?_
    show Steps p.tables e below (T24.setTop (mkF m 123 #[.val (.int p0), .val (.long q1), .second, .val (.ref b1), .val (.int (1 : Int32)), .val (.ref (w 1)), .val (.long (0 : Int64)), .second, .val (.int (1 : Int32)), .val (.int (1 : Int32)), .val (.int (1 : Int32))] [(.int (1 : Int32))])) _
    exact retN X24 hx (t := .boolean) Bd.returns (by simp) (hb hby at_123) hr
  · show OL (some (.int (1 : Int32))) Z.heap.size _ T24.heap _
    exact ⟨rfl, N24⟩
set_option maxRecDepth 65536 in
set_option maxHeartbeats 40000000 in
theorem rm_13 (l : Launch) (Z : State) (a0 : Array Value) (hw : ∀ d ∈ tables_1, d.before a0 Z = true) (w : Nat → Addr) (kk : Nat → ClassId) (hN : Wd Z w kk) (ws : List Jvm.Cond) (q2 : Int64) (h0 : Heap) (O0 : Old Z Z.heap.size h0) (hp0 : ¬ ((lcmpW (9223372036854775807 : Int64) q2) < (0 : Int32))) (hp1 : ¬ ((lcmpW (9223372036854775807 : Int64) q2) = (0 : Int32))) :
    MetFree l (⟨"com/example/stint/stint/model/Relation", "holds", "(JJ)Z"⟩ : MethodName) (head1 (Jvm.Cond.code (⟨"com/example/stint/stint/model/Relation", "holds", "(JJ)Z"⟩ : MethodName) prog_47_method_11_code 6 (some .boolean) :: ws) ({ frames := 1, cells := 0, slots := 0, locals := 15 } : Room)) (fun a U => a = #[(.ref (w 1)), (.long (9223372036854775807 : Int64)), (.long q2)] ∧ Z.Warmed39 U.vm ∧ U.heap = h0) (fun _ _ _ _ _ => True) (fun _ U o U' => ∃ v L, o = .returned v ∧ OQ (some (.int (0 : Int32))) h0 Z.heap.size v U'.heap L ∧ FrameEnd U o U' L ({ frames := 1, cells := 0, slots := 0, locals := 15 } : Room).cells ({ frames := 1, cells := 0, slots := 0, locals := 15 } : Room).slots) := by
  have hN' := hN
  obtain ⟨hS0, hE0, hS1, hE1, hS2, hE2, hS3, hE3, hS4, hE4, hF0_ordinal, hF1_ordinal, hF4_ordinal, hF2_ordinal, hF3_ordinal⟩ := hN'
  refine MetFree.of_bodySF (plainFor_of_name pn_0) hisR ?_
  intro p e s m args below meth c s₁ Bd hml0 hP hK
  obtain ⟨rfl, hZ, hh⟩ := hP
  have hx := Bd.exec
  have hby := Bd.bytes
  have hml : c.maxLocals = 6 := hml0
  have hown : s.vm.findClass "com/example/stint/stint/model/Relation" = some m.cls := findClass_of_methodNamed Bd.named
  have hnm := (name_of_methodNamed Bd.named Bd.method).1
  have X0 : Stand p l e ({ frames := 1, cells := 0, slots := 0, locals := 15 } : Room) s m #[(.ref (w 1)), (.long (9223372036854775807 : Int64)), (.long q2)] below meth c s₁ [] 0 0 := Stand.of_body Bd
  have e0 : s₁.heap = h0 := by rw [← hh, Bd.state]; rfl
  have N0 := Fr.nil Z.heap.size
  have pre0 : ∀ t, Steps p.tables e below (s₁.setTop (mkF m 0 #[.val (.ref (w 1)), .val (.long (9223372036854775807 : Int64)), .second, .val (.long q2), .second, .unset] [])) t → Steps p.tables e below (s₁.setTop (entryFrame m #[(.ref (w 1)), (.long (9223372036854775807 : Int64)), (.long q2)] 6)) t := fun t k => castTop (ef_2 m (.ref (w 1)) rfl (.long (9223372036854775807 : Int64)) rfl (.long q2) rfl) k
  obtain ⟨_, _, ⟨T1, L1, k1, n1⟩, -, X1, ⟨Lc1, hQ1, l1, y1, z1⟩, st1⟩ := Jvm.LawKit.callS X0 hx (y := (⟨"java/lang/Long", "compare", "(JJ)I"⟩ : MethodName)) hown (mvT hZ (W hw 27 rfl)) (mvT hZ (W hw 28 rfl)) (mvT hZ (W hw 29 rfl)) (mvT hZ (W hw 30 rfl)) (by decide) (backOf (W := 0) (rm_6 l Z a0 hw w kk hN [] q2 h0 O0 hp0 hp1) hZ (W hw 30 rfl) (W hw 29 rfl) (by decide) (by decide)) (g := (mkF m 2 #[.val (.ref (w 1)), .val (.long (9223372036854775807 : Int64)), .second, .val (.long q2), .second, .unset] [(.long q2), (.long (9223372036854775807 : Int64))])) rfl (by rw [hml]; rfl) (argsL := [(.long (9223372036854775807 : Int64)), (.long q2)]) (rest := []) (lenOf pd_1 rfl) rfl (by show 2 * 0 + _ ≤ _; exact Nat.le_of_eq rfl) (hb hby d_prog_47_method_11_code_2) (fun _ _ => ⟨rfl, e0, (by decide : 0 + 0 ≤ _), (by decide : 0 + 0 ≤ _)⟩)
  dsimp only [Pt.U, Pt.locs, Pt.cells, Pt.slots] at X1 l1 y1 z1 st1 hQ1
  subst l1 y1 z1
  obtain ⟨rfl, N1q, e1⟩ := hQ1
  have N1 := Fr.app N0 N1q
  obtain ⟨cq2, kq2, q2a, q2b, q2c⟩ := isOf hZ e1 (hE1.ext O0.2)
  obtain ⟨_, _, ⟨T2, L2, k2, n2⟩, -, X2, ⟨Lc2, hQ2, l2, y2, z2⟩, st2⟩ := X1.virtualBackUp hx (x := (⟨"com/example/stint/stint/model/Relation", "ordinal", "()I"⟩ : MethodName)) (y := (⟨"java/lang/Enum", "ordinal", "()I"⟩ : MethodName)) (owner := "java/lang/Enum") hown (mvT hZ (W hw 31 rfl)) (mvT hZ (W hw 32 rfl)) (mvT hZ (W hw 33 rfl)) (by decide) (mvT hZ (W hw 35 rfl)) (mvT hZ (W hw 34 rfl)) (backOf (W := 0) (rm_10 l Z a0 hw w kk hN [] h0 O0) hZ (W hw 37 rfl) (W hw 36 rfl) (by decide) (by decide)) q2a q2c (g := (mkF m 8 #[.val (.ref (w 1)), .val (.long (9223372036854775807 : Int64)), .second, .val (.long q2), .second, .val (.int (1 : Int32))] [(.ref (w 1))])) rfl (by rw [hml]; rfl) (Steps.refl _) (argsL := []) (rest := []) (lenOf pd_2 rfl) rfl (by show 2 * 0 + _ ≤ _; exact Nat.le_of_eq rfl) (hb hby d_prog_47_method_11_code_8) (fun _ _ => ⟨rfl, e1, (by decide : 0 + 0 ≤ _), (by decide : 0 + 0 ≤ _)⟩)
  dsimp only [Pt.U, Pt.locs, Pt.cells, Pt.slots] at X2 l2 y2 z2 st2 hQ2
  subst l2 y2 z2
  obtain ⟨rfl, N2q, e2⟩ := hQ2
  have N2 := Fr.app N1 N2q
  obtain ⟨fs, hr, hrun, hended, hW, hsame⟩ := X2.leave (v := some (.int (0 : Int32))) (fun h => by rw [Bd.returns] at h; cases h)
  refine ⟨_, _, pre0 _ ?_, hrun, hended, _, _, rfl, ?_, ⟨_, rfl⟩, hW, hsame.mono (by decide) (by decide)⟩
  · show Steps p.tables e below (s₁.setTop (mkF m 0 #[.val (.ref (w 1)), .val (.long (9223372036854775807 : Int64)), .second, .val (.long q2), .second, .unset] [])) _
    refine XS.lloadN X0.here hx rfl (hb hby d_prog_47_method_11_code_0) rfl ?_
    show Steps p.tables e below (s₁.setTop (mkF m 1 #[.val (.ref (w 1)), .val (.long (9223372036854775807 : Int64)), .second, .val (.long q2), .second, .unset] [(.long (9223372036854775807 : Int64))])) _
    refine XS.lloadN X0.here hx rfl (hb hby d_prog_47_method_11_code_1) rfl ?_
    show Steps p.tables e below (s₁.setTop (mkF m 2 #[.val (.ref (w 1)), .val (.long (9223372036854775807 : Int64)), .second, .val (.long q2), .second, .unset] [(.long q2), (.long (9223372036854775807 : Int64))])) _
    refine st1 _ ?_
    show Steps p.tables e below (T1.setTop (mkF m 5 #[.val (.ref (w 1)), .val (.long (9223372036854775807 : Int64)), .second, .val (.long q2), .second, .unset] [(.int (1 : Int32))])) _
    refine XS.istore X1.here hx rfl (hb hby d_prog_47_method_11_code_5) rfl (l' := #[.val (.ref (w 1)), .val (.long (9223372036854775807 : Int64)), .second, .val (.long q2), .second, .val (.int (1 : Int32))]) rfl ?_
    show Steps p.tables e below (T1.setTop (mkF m 7 #[.val (.ref (w 1)), .val (.long (9223372036854775807 : Int64)), .second, .val (.long q2), .second, .val (.int (1 : Int32))] [])) _
    refine XS.aloadN X1.here hx rfl (hb hby d_prog_47_method_11_code_7) rfl rfl ?_
    show Steps p.tables e below (T1.setTop (mkF m 8 #[.val (.ref (w 1)), .val (.long (9223372036854775807 : Int64)), .second, .val (.long q2), .second, .val (.int (1 : Int32))] [(.ref (w 1))])) _
    refine st2.trans ?_
    show Steps p.tables e below (T2.setTop (mkF m 11 #[.val (.ref (w 1)), .val (.long (9223372036854775807 : Int64)), .second, .val (.long q2), .second, .val (.int (1 : Int32))] [(.int (1 : Int32))])) _
    refine XS.tswIn X2.here hx rfl (pc0 := 11) (pc' := 67) (o := 56) rfl (hb hby d_prog_47_method_11_code_11) rfl (by decide) (by decide) (by decide) (by decide) ?_
    show Steps p.tables e below (T2.setTop (mkF m 67 #[.val (.ref (w 1)), .val (.long (9223372036854775807 : Int64)), .second, .val (.long q2), .second, .val (.int (1 : Int32))] [])) _
    refine XS.iload X2.here hx rfl (hb hby d_prog_47_method_11_code_67) rfl ?_
    show Steps p.tables e below (T2.setTop (mkF m 69 #[.val (.ref (w 1)), .val (.long (9223372036854775807 : Int64)), .second, .val (.long q2), .second, .val (.int (1 : Int32))] [(.int (1 : Int32))])) _
    refine XS.ifYes X2.here hx rfl (pc0 := 69) (pc' := 76) rfl (hb hby d_prog_47_method_11_code_69) rfl ((if0 _ _).trans (tlt (by decide : (0 : Int32) < (1 : Int32))).2.2.1) (by decide) (by decide) ?_
    show Steps p.tables e below (T2.setTop (mkF m 76 #[.val (.ref (w 1)), .val (.long (9223372036854775807 : Int64)), .second, .val (.long q2), .second, .val (.int (1 : Int32))] [])) _
    refine XS.iconst X2.here hx rfl (hb hby d_prog_47_method_11_code_76) ?_
    show Steps p.tables e below (T2.setTop (mkF m 77 #[.val (.ref (w 1)), .val (.long (9223372036854775807 : Int64)), .second, .val (.long q2), .second, .val (.int (1 : Int32))] [(.int (0 : Int32))])) _
    refine XS.goto X2.here hx rfl (pc0 := 77) (pc' := 116) rfl (hb hby d_prog_47_method_11_code_77) (by decide) (by decide) ?_
    show Steps p.tables e below (T2.setTop (mkF m 116 #[.val (.ref (w 1)), .val (.long (9223372036854775807 : Int64)), .second, .val (.long q2), .second, .val (.int (1 : Int32))] [(.int (0 : Int32))])) _
    exact retN X2 hx (t := .boolean) Bd.returns (by simp) (hb hby d_prog_47_method_11_code_116) hr
  · show OQ (some (.int (0 : Int32))) h0 Z.heap.size _ T2.heap _
    rw [e2]
    exact ⟨rfl, N2, rfl⟩
set_option maxRecDepth 65536 in
set_option maxHeartbeats 40000000 in
theorem law_14 (l : Launch) (Z : State) (a0 : Array Value) (hw : ∀ d ∈ tables_1, d.before a0 Z = true) (w : Nat → Addr) (kk : Nat → ClassId) (hN : Wd Z w kk) (ws : List Jvm.Cond) (p0 : Int32) (q1 : Int64) (h0 : Heap) (O0 : Old Z Z.heap.size h0) (hp0 : ((p0 &&& (2147483647 : Int32)) % (5 : Int32)) = (1 : Int32)) (hp1 : ¬ ((lcmpW q1 (9223372036854775807 : Int64)) = (0 : Int32))) (hp2 : ¬ ((lcmpW (9223372036854775807 : Int64) q1) < (0 : Int32))) (hp3 : ¬ ((lcmpW (9223372036854775807 : Int64) q1) = (0 : Int32))) :
    MetFree l x (head1 (Jvm.Cond.code x code maxLocals ret :: ws) room_1) (fun a U => a = #[(.int p0), (.long q1)] ∧ Z.Warmed39 U.vm ∧ U.heap = h0) (fun _ _ _ _ _ => True) (fun _ U o U' => ∃ v L, o = .returned v ∧ OL (some (.int (1 : Int32))) Z.heap.size v U'.heap L ∧ FrameEnd U o U' L 16 128) := by
  have hN' := hN
  obtain ⟨hS0, hE0, hS1, hE1, hS2, hE2, hS3, hE3, hS4, hE4, hF0_ordinal, hF1_ordinal, hF4_ordinal, hF2_ordinal, hF3_ordinal⟩ := hN'
  refine MetFree.of_bodySF (plainFor_of_name pn_3) hisR ?_
  intro p e s m args below meth c s₁ Bd hml0 hP hK
  obtain ⟨rfl, hZ, hh⟩ := hP
  have hx := Bd.exec
  have hby := Bd.bytes
  have hml : c.maxLocals = 11 := hml0
  have hown : s.vm.findClass "com/example/stint/stint/model/RelationBoundsAbovePinLaw" = some m.cls := findClass_of_methodNamed Bd.named
  have hnm := (name_of_methodNamed Bd.named Bd.method).1
  have X0 : Stand p l e room_1 s m #[(.int p0), (.long q1)] below meth c s₁ [] 0 0 := Stand.of_body Bd
  have e0 : s₁.heap = h0 := by rw [← hh, Bd.state]; rfl
  have N0 := Fr.nil Z.heap.size
  have pre0 : ∀ t, Steps p.tables e below (s₁.setTop (mkF m 0 #[.val (.int p0), .val (.long q1), .second, .unset, .unset, .unset, .unset, .unset, .unset, .unset, .unset] [])) t → Steps p.tables e below (s₁.setTop (entryFrame m #[(.int p0), (.long q1)] maxLocals)) t := fun t k => castTop (ef_3 m (.int p0) rfl (.long q1) rfl) k
  obtain ⟨T1, h1, k1, X1, e1, E1, A1, Ov1, st1⟩ := newR X0 hx hZ hown (W hw 0 rfl) (W hw 1 rfl) e0 (g := (mkF m 1 #[.val (.int p0), .val (.long q1), .second, .unset, .unset, .unset, .unset, .unset, .unset, .unset, .unset] [(.int (5 : Int32))])) rfl (hb hby at_1) rfl (by decide) (cap := 5) (by decide) (by decide) (by decide) (by decide)
  obtain ⟨b1, g1⟩ : ∃ z, z = h0.size := ⟨_, rfl⟩
  rw [← g1] at A1 st1
  have gn_b1 : Z.heap.size ≤ b1 := Nat.le_trans O0.2.1 (Nat.le_of_eq g1.symm)
  have O1 := O0.ext E1
  have V_b1_v1 : Arv Z h1 b1 k1 (.object "com/example/stint/stint/model/Relation") (5 : Int32) [] .null := Arv.new A1 (by decide)
  obtain ⟨T2, X2, e2, st2⟩ := getS2 X1 hx hZ hown (host := "") (Or.inl (W hw 2 rfl)) Via.refl e1 (hS0.ext O1.2) (g := (mkF m 6 #[.val (.int p0), .val (.long q1), .second, .unset, .unset, .unset, .unset, .unset, .unset, .unset, .unset] [(.int (0 : Int32)), (.ref b1), (.ref b1)])) rfl (hb hby at_6)
  have V_b1_v3 : Arv Z h1 b1 k1 (.object "com/example/stint/stint/model/Relation") (5 : Int32) [.null] .null := V_b1_v1.pad (pad_rep [] .null 1)
  obtain ⟨cl4, Ar4, q4, Sz4, Ng4, Hv4, Gv4⟩ := V_b1_v3
  have hin4 : ¬ ((0 : Int32) < 0 ∨ cl4.slots.size ≤ ((0 : Int32)).toNatClampNeg) := inb_of Sz4 ⟨by decide, by decide⟩
  obtain ⟨T5, h5, X5, e5, W5, st5⟩ := stR X2 hx hZ e2 Ar4 (j := (0 : Int32)) (v := (.ref (w 0))) hin4 rfl (Sto.ofV Ar4 q4 Ov1 (Ins.self (hE0.ext O1.2))) (g := (mkF m 9 #[.val (.int p0), .val (.long q1), .second, .unset, .unset, .unset, .unset, .unset, .unset, .unset, .unset] [(.ref (w 0)), (.int (0 : Int32)), (.ref b1), (.ref b1)])) rfl rfl (hb hby at_9)
  have V_b1_v5 : Arv Z h5 b1 k1 (.object "com/example/stint/stint/model/Relation") (5 : Int32) [(.ref (w 0))] .null := Arv.set Ar4 q4 Sz4 Ng4 Hv4 Gv4 rfl W5 0 rfl (Nat.le_of_ble_eq_true rfl)
  have N5 := Fr.snoc X5 N0 gn_b1
  have O5 := O1.wr W5 gn_b1
  obtain ⟨T6, X6, e6, st6⟩ := getS2 X5 hx hZ hown (host := "") (Or.inl (W hw 6 rfl)) Via.refl e5 (hS1.ext O5.2) (g := (mkF m 12 #[.val (.int p0), .val (.long q1), .second, .unset, .unset, .unset, .unset, .unset, .unset, .unset, .unset] [(.int (1 : Int32)), (.ref b1), (.ref b1)])) rfl (hb hby at_12)
  have V_b1_v7 : Arv Z h5 b1 k1 (.object "com/example/stint/stint/model/Relation") (5 : Int32) [(.ref (w 0)), .null] .null := V_b1_v5.pad (pad_rep [(.ref (w 0))] .null 1)
  obtain ⟨cl8, Ar8, q8, Sz8, Ng8, Hv8, Gv8⟩ := V_b1_v7
  have hin8 : ¬ ((1 : Int32) < 0 ∨ cl8.slots.size ≤ ((1 : Int32)).toNatClampNeg) := inb_of Sz8 ⟨by decide, by decide⟩
  obtain ⟨T9, h9, X9, e9, W9, st9⟩ := stR X6 hx hZ e6 Ar8 (j := (1 : Int32)) (v := (.ref (w 1))) hin8 rfl (Sto.ofV Ar8 q8 Ov1 (Ins.self (hE1.ext O5.2))) (g := (mkF m 15 #[.val (.int p0), .val (.long q1), .second, .unset, .unset, .unset, .unset, .unset, .unset, .unset, .unset] [(.ref (w 1)), (.int (1 : Int32)), (.ref b1), (.ref b1)])) rfl rfl (hb hby at_15)
  have V_b1_v9 : Arv Z h9 b1 k1 (.object "com/example/stint/stint/model/Relation") (5 : Int32) [(.ref (w 0)), (.ref (w 1))] .null := Arv.set Ar8 q8 Sz8 Ng8 Hv8 Gv8 rfl W9 1 rfl (Nat.le_of_ble_eq_true rfl)
  have N9 := Fr.snoc X9 N5 gn_b1
  have O9 := O5.wr W9 gn_b1
  obtain ⟨T10, X10, e10, st10⟩ := getS2 X9 hx hZ hown (host := "") (Or.inl (W hw 8 rfl)) Via.refl e9 (hS2.ext O9.2) (g := (mkF m 18 #[.val (.int p0), .val (.long q1), .second, .unset, .unset, .unset, .unset, .unset, .unset, .unset, .unset] [(.int (2 : Int32)), (.ref b1), (.ref b1)])) rfl (hb hby at_18)
  have V_b1_v11 : Arv Z h9 b1 k1 (.object "com/example/stint/stint/model/Relation") (5 : Int32) [(.ref (w 0)), (.ref (w 1)), .null] .null := V_b1_v9.pad (pad_rep [(.ref (w 0)), (.ref (w 1))] .null 1)
  obtain ⟨cl12, Ar12, q12, Sz12, Ng12, Hv12, Gv12⟩ := V_b1_v11
  have hin12 : ¬ ((2 : Int32) < 0 ∨ cl12.slots.size ≤ ((2 : Int32)).toNatClampNeg) := inb_of Sz12 ⟨by decide, by decide⟩
  obtain ⟨T13, h13, X13, e13, W13, st13⟩ := stR X10 hx hZ e10 Ar12 (j := (2 : Int32)) (v := (.ref (w 2))) hin12 rfl (Sto.ofV Ar12 q12 Ov1 (Ins.self (hE2.ext O9.2))) (g := (mkF m 21 #[.val (.int p0), .val (.long q1), .second, .unset, .unset, .unset, .unset, .unset, .unset, .unset, .unset] [(.ref (w 2)), (.int (2 : Int32)), (.ref b1), (.ref b1)])) rfl rfl (hb hby at_21)
  have V_b1_v13 : Arv Z h13 b1 k1 (.object "com/example/stint/stint/model/Relation") (5 : Int32) [(.ref (w 0)), (.ref (w 1)), (.ref (w 2))] .null := Arv.set Ar12 q12 Sz12 Ng12 Hv12 Gv12 rfl W13 2 rfl (Nat.le_of_ble_eq_true rfl)
  have N13 := Fr.snoc X13 N9 gn_b1
  have O13 := O9.wr W13 gn_b1
  obtain ⟨T14, X14, e14, st14⟩ := getS2 X13 hx hZ hown (host := "") (Or.inl (W hw 10 rfl)) Via.refl e13 (hS3.ext O13.2) (g := (mkF m 24 #[.val (.int p0), .val (.long q1), .second, .unset, .unset, .unset, .unset, .unset, .unset, .unset, .unset] [(.int (3 : Int32)), (.ref b1), (.ref b1)])) rfl (hb hby at_24)
  have V_b1_v15 : Arv Z h13 b1 k1 (.object "com/example/stint/stint/model/Relation") (5 : Int32) [(.ref (w 0)), (.ref (w 1)), (.ref (w 2)), .null] .null := V_b1_v13.pad (pad_rep [(.ref (w 0)), (.ref (w 1)), (.ref (w 2))] .null 1)
  obtain ⟨cl16, Ar16, q16, Sz16, Ng16, Hv16, Gv16⟩ := V_b1_v15
  have hin16 : ¬ ((3 : Int32) < 0 ∨ cl16.slots.size ≤ ((3 : Int32)).toNatClampNeg) := inb_of Sz16 ⟨by decide, by decide⟩
  obtain ⟨T17, h17, X17, e17, W17, st17⟩ := stR X14 hx hZ e14 Ar16 (j := (3 : Int32)) (v := (.ref (w 3))) hin16 rfl (Sto.ofV Ar16 q16 Ov1 (Ins.self (hE3.ext O13.2))) (g := (mkF m 27 #[.val (.int p0), .val (.long q1), .second, .unset, .unset, .unset, .unset, .unset, .unset, .unset, .unset] [(.ref (w 3)), (.int (3 : Int32)), (.ref b1), (.ref b1)])) rfl rfl (hb hby at_27)
  have V_b1_v17 : Arv Z h17 b1 k1 (.object "com/example/stint/stint/model/Relation") (5 : Int32) [(.ref (w 0)), (.ref (w 1)), (.ref (w 2)), (.ref (w 3))] .null := Arv.set Ar16 q16 Sz16 Ng16 Hv16 Gv16 rfl W17 3 rfl (Nat.le_of_ble_eq_true rfl)
  have N17 := Fr.snoc X17 N13 gn_b1
  have O17 := O13.wr W17 gn_b1
  obtain ⟨T18, X18, e18, st18⟩ := getS2 X17 hx hZ hown (host := "") (Or.inl (W hw 12 rfl)) Via.refl e17 (hS4.ext O17.2) (g := (mkF m 30 #[.val (.int p0), .val (.long q1), .second, .unset, .unset, .unset, .unset, .unset, .unset, .unset, .unset] [(.int (4 : Int32)), (.ref b1), (.ref b1)])) rfl (hb hby at_30)
  have V_b1_v19 : Arv Z h17 b1 k1 (.object "com/example/stint/stint/model/Relation") (5 : Int32) [(.ref (w 0)), (.ref (w 1)), (.ref (w 2)), (.ref (w 3)), .null] .null := V_b1_v17.pad (pad_rep [(.ref (w 0)), (.ref (w 1)), (.ref (w 2)), (.ref (w 3))] .null 1)
  obtain ⟨cl20, Ar20, q20, Sz20, Ng20, Hv20, Gv20⟩ := V_b1_v19
  have hin20 : ¬ ((4 : Int32) < 0 ∨ cl20.slots.size ≤ ((4 : Int32)).toNatClampNeg) := inb_of Sz20 ⟨by decide, by decide⟩
  obtain ⟨T21, h21, X21, e21, W21, st21⟩ := stR X18 hx hZ e18 Ar20 (j := (4 : Int32)) (v := (.ref (w 4))) hin20 rfl (Sto.ofV Ar20 q20 Ov1 (Ins.self (hE4.ext O17.2))) (g := (mkF m 33 #[.val (.int p0), .val (.long q1), .second, .unset, .unset, .unset, .unset, .unset, .unset, .unset, .unset] [(.ref (w 4)), (.int (4 : Int32)), (.ref b1), (.ref b1)])) rfl rfl (hb hby at_33)
  have V_b1_v21 : Arv Z h21 b1 k1 (.object "com/example/stint/stint/model/Relation") (5 : Int32) [(.ref (w 0)), (.ref (w 1)), (.ref (w 2)), (.ref (w 3)), (.ref (w 4))] .null := Arv.set Ar20 q20 Sz20 Ng20 Hv20 Gv20 rfl W21 4 rfl (Nat.le_of_ble_eq_true rfl)
  have N21 := Fr.snoc X21 N17 gn_b1
  have O21 := O17.wr W21 gn_b1
  obtain ⟨cl22, Ar22, q22, Sz22, Ng22, Hv22, Gv22⟩ := V_b1_v21
  have hin22 : ¬ ((1 : Int32) < 0 ∨ cl22.slots.size ≤ ((1 : Int32)).toNatClampNeg) := inb_of Sz22 ⟨by decide, by decide⟩
  have hat22 : cl22.slots[((1 : Int32)).toNatClampNeg]? = some (.ref (w 1)) := Has.at Hv22 hin22 (by rfl)
  obtain ⟨cq23, kq23, q23a, q23b, q23c⟩ := isOf hZ e21 (hE1.ext O21.2)
  obtain ⟨_, _, ⟨T23, L23, k23, n23⟩, -, X23, ⟨Lc23, hQ23, l23, y23, z23⟩, st23⟩ := X21.virtualBack hx (y := (⟨"com/example/stint/stint/model/Relation", "boundsAbove", "()Z"⟩ : MethodName)) (z := (⟨"com/example/stint/stint/model/Relation", "boundsAbove", "()Z"⟩ : MethodName)) hown (mvT hZ (W hw 16 rfl)) (mvT hZ (W hw 17 rfl)) (notFace_of_selects (args := #[]) (mvT hZ (W hw 19 rfl))) (mvT hZ (W hw 19 rfl)) (mvT hZ (W hw 18 rfl)) (by decide) (backOf (W := 0) (rm_9 l Z a0 hw w kk hN [] h21 O21) hZ (W hw 20 rfl) (W hw 3 rfl) (by decide) (by decide)) q23a q23c (g := (mkF m 66 #[.val (.int p0), .val (.long q1), .second, .val (.ref b1), .val (.int (1 : Int32)), .val (.ref (w 1)), .val (.long q1), .second, .unset, .unset, .unset] [(.ref (w 1))])) rfl (by rw [hml]; rfl) (Steps.refl _) (argsL := []) (rest := []) (lenOf pd_0 rfl) rfl (by show 2 * 0 + _ ≤ _; exact Nat.le_of_eq rfl) (hb hby at_66) (fun _ _ => ⟨rfl, e21, (by decide : 1 + 0 ≤ _), (by decide : 5 + 0 ≤ _)⟩)
  dsimp only [Pt.U, Pt.locs, Pt.cells, Pt.slots] at X23 l23 y23 z23 st23 hQ23
  subst l23 y23 z23
  obtain ⟨rfl, N23q, e23⟩ := hQ23
  have N23 := Fr.app N21 N23q
  obtain ⟨cq24, kq24, q24a, q24b, q24c⟩ := isOf hZ e23 (hE1.ext O21.2)
  obtain ⟨_, _, ⟨T24, L24, k24, n24⟩, -, X24, ⟨Lc24, hQ24, l24, y24, z24⟩, st24⟩ := X23.virtualBack hx (y := (⟨"com/example/stint/stint/model/Relation", "holds", "(JJ)Z"⟩ : MethodName)) (z := (⟨"com/example/stint/stint/model/Relation", "holds", "(JJ)Z"⟩ : MethodName)) hown (mvT hZ (W hw 22 rfl)) (mvT hZ (W hw 23 rfl)) (notFace_of_selects (args := #[]) (mvT hZ (W hw 25 rfl))) (mvT hZ (W hw 25 rfl)) (mvT hZ (W hw 24 rfl)) (by decide) (backOf (W := 0) (rm_13 l Z a0 hw w kk hN [] q1 h21 O21 hp2 hp3) hZ (W hw 26 rfl) (W hw 3 rfl) (by decide) (by decide)) q24a q24c (g := (mkF m 91 #[.val (.int p0), .val (.long q1), .second, .val (.ref b1), .val (.int (1 : Int32)), .val (.ref (w 1)), .val (.long q1), .second, .val (.int (1 : Int32)), .val (.int (1 : Int32)), .unset] [(.long q1), (.long (9223372036854775807 : Int64)), (.ref (w 1))])) rfl (by rw [hml]; rfl) (Steps.refl _) (argsL := [(.long (9223372036854775807 : Int64)), (.long q1)]) (rest := []) (lenOf pd_3 rfl) rfl (by show 2 * 0 + _ ≤ _; exact Nat.le_of_eq rfl) (hb hby at_91) (fun _ _ => ⟨rfl, e23, (by decide : 1 + 0 ≤ _), (by decide : 5 + 0 ≤ _)⟩)
  dsimp only [Pt.U, Pt.locs, Pt.cells, Pt.slots] at X24 l24 y24 z24 st24 hQ24
  subst l24 y24 z24
  obtain ⟨rfl, N24q, e24⟩ := hQ24
  have N24 := Fr.app N23 N24q
  obtain ⟨fs, hr, hrun, hended, hW, hsame⟩ := X24.leave (v := some (.int (1 : Int32))) (fun h => by rw [Bd.returns] at h; cases h)
  refine ⟨_, _, pre0 _ ?_, hrun, hended, _, _, rfl, ?_, ⟨_, rfl⟩, hW, hsame.mono (by decide) (by decide)⟩
  · show Steps p.tables e below (s₁.setTop (mkF m 0 #[.val (.int p0), .val (.long q1), .second, .unset, .unset, .unset, .unset, .unset, .unset, .unset, .unset] [])) _
    refine XS.iconst X0.here hx rfl (hb hby at_0) ?_
    show Steps p.tables e below (s₁.setTop (mkF m 1 #[.val (.int p0), .val (.long q1), .second, .unset, .unset, .unset, .unset, .unset, .unset, .unset, .unset] [(.int (5 : Int32))])) _
    refine st1 _ ?_
    show Steps p.tables e below (T1.setTop (mkF m 4 #[.val (.int p0), .val (.long q1), .second, .unset, .unset, .unset, .unset, .unset, .unset, .unset, .unset] [(.ref b1)])) _
    refine XS.dup X1.here hx rfl (hb hby at_4) rfl rfl ?_
    show Steps p.tables e below (T1.setTop (mkF m 5 #[.val (.int p0), .val (.long q1), .second, .unset, .unset, .unset, .unset, .unset, .unset, .unset, .unset] [(.ref b1), (.ref b1)])) _
    refine XS.iconst X1.here hx rfl (hb hby at_5) ?_
    show Steps p.tables e below (T1.setTop (mkF m 6 #[.val (.int p0), .val (.long q1), .second, .unset, .unset, .unset, .unset, .unset, .unset, .unset, .unset] [(.int (0 : Int32)), (.ref b1), (.ref b1)])) _
    refine st2 _ ?_
    show Steps p.tables e below (T2.setTop (mkF m 9 #[.val (.int p0), .val (.long q1), .second, .unset, .unset, .unset, .unset, .unset, .unset, .unset, .unset] [(.ref (w 0)), (.int (0 : Int32)), (.ref b1), (.ref b1)])) _
    refine st5 _ ?_
    show Steps p.tables e below (T5.setTop (mkF m 10 #[.val (.int p0), .val (.long q1), .second, .unset, .unset, .unset, .unset, .unset, .unset, .unset, .unset] [(.ref b1)])) _
    refine XS.dup X5.here hx rfl (hb hby at_10) rfl rfl ?_
    show Steps p.tables e below (T5.setTop (mkF m 11 #[.val (.int p0), .val (.long q1), .second, .unset, .unset, .unset, .unset, .unset, .unset, .unset, .unset] [(.ref b1), (.ref b1)])) _
    refine XS.iconst X5.here hx rfl (hb hby at_11) ?_
    show Steps p.tables e below (T5.setTop (mkF m 12 #[.val (.int p0), .val (.long q1), .second, .unset, .unset, .unset, .unset, .unset, .unset, .unset, .unset] [(.int (1 : Int32)), (.ref b1), (.ref b1)])) _
    refine st6 _ ?_
    show Steps p.tables e below (T6.setTop (mkF m 15 #[.val (.int p0), .val (.long q1), .second, .unset, .unset, .unset, .unset, .unset, .unset, .unset, .unset] [(.ref (w 1)), (.int (1 : Int32)), (.ref b1), (.ref b1)])) _
    refine st9 _ ?_
    show Steps p.tables e below (T9.setTop (mkF m 16 #[.val (.int p0), .val (.long q1), .second, .unset, .unset, .unset, .unset, .unset, .unset, .unset, .unset] [(.ref b1)])) _
    refine XS.dup X9.here hx rfl (hb hby at_16) rfl rfl ?_
    show Steps p.tables e below (T9.setTop (mkF m 17 #[.val (.int p0), .val (.long q1), .second, .unset, .unset, .unset, .unset, .unset, .unset, .unset, .unset] [(.ref b1), (.ref b1)])) _
    refine XS.iconst X9.here hx rfl (hb hby at_17) ?_
    show Steps p.tables e below (T9.setTop (mkF m 18 #[.val (.int p0), .val (.long q1), .second, .unset, .unset, .unset, .unset, .unset, .unset, .unset, .unset] [(.int (2 : Int32)), (.ref b1), (.ref b1)])) _
    refine st10 _ ?_
    show Steps p.tables e below (T10.setTop (mkF m 21 #[.val (.int p0), .val (.long q1), .second, .unset, .unset, .unset, .unset, .unset, .unset, .unset, .unset] [(.ref (w 2)), (.int (2 : Int32)), (.ref b1), (.ref b1)])) _
    refine st13 _ ?_
    show Steps p.tables e below (T13.setTop (mkF m 22 #[.val (.int p0), .val (.long q1), .second, .unset, .unset, .unset, .unset, .unset, .unset, .unset, .unset] [(.ref b1)])) _
    refine XS.dup X13.here hx rfl (hb hby at_22) rfl rfl ?_
    show Steps p.tables e below (T13.setTop (mkF m 23 #[.val (.int p0), .val (.long q1), .second, .unset, .unset, .unset, .unset, .unset, .unset, .unset, .unset] [(.ref b1), (.ref b1)])) _
    refine XS.iconst X13.here hx rfl (hb hby at_23) ?_
    show Steps p.tables e below (T13.setTop (mkF m 24 #[.val (.int p0), .val (.long q1), .second, .unset, .unset, .unset, .unset, .unset, .unset, .unset, .unset] [(.int (3 : Int32)), (.ref b1), (.ref b1)])) _
    refine st14 _ ?_
    show Steps p.tables e below (T14.setTop (mkF m 27 #[.val (.int p0), .val (.long q1), .second, .unset, .unset, .unset, .unset, .unset, .unset, .unset, .unset] [(.ref (w 3)), (.int (3 : Int32)), (.ref b1), (.ref b1)])) _
    refine st17 _ ?_
    show Steps p.tables e below (T17.setTop (mkF m 28 #[.val (.int p0), .val (.long q1), .second, .unset, .unset, .unset, .unset, .unset, .unset, .unset, .unset] [(.ref b1)])) _
    refine XS.dup X17.here hx rfl (hb hby at_28) rfl rfl ?_
    show Steps p.tables e below (T17.setTop (mkF m 29 #[.val (.int p0), .val (.long q1), .second, .unset, .unset, .unset, .unset, .unset, .unset, .unset, .unset] [(.ref b1), (.ref b1)])) _
    refine XS.iconst X17.here hx rfl (hb hby at_29) ?_
    show Steps p.tables e below (T17.setTop (mkF m 30 #[.val (.int p0), .val (.long q1), .second, .unset, .unset, .unset, .unset, .unset, .unset, .unset, .unset] [(.int (4 : Int32)), (.ref b1), (.ref b1)])) _
    refine st18 _ ?_
    show Steps p.tables e below (T18.setTop (mkF m 33 #[.val (.int p0), .val (.long q1), .second, .unset, .unset, .unset, .unset, .unset, .unset, .unset, .unset] [(.ref (w 4)), (.int (4 : Int32)), (.ref b1), (.ref b1)])) _
    refine st21 _ ?_
    show Steps p.tables e below (T21.setTop (mkF m 34 #[.val (.int p0), .val (.long q1), .second, .unset, .unset, .unset, .unset, .unset, .unset, .unset, .unset] [(.ref b1)])) _
    refine XS.astoreN X21.here hx rfl (hb hby at_34) rfl rfl (l' := #[.val (.int p0), .val (.long q1), .second, .val (.ref b1), .unset, .unset, .unset, .unset, .unset, .unset, .unset]) rfl ?_
    show Steps p.tables e below (T21.setTop (mkF m 35 #[.val (.int p0), .val (.long q1), .second, .val (.ref b1), .unset, .unset, .unset, .unset, .unset, .unset, .unset] [])) _
    refine XS.iloadN X21.here hx rfl (hb hby at_35) rfl ?_
    show Steps p.tables e below (T21.setTop (mkF m 36 #[.val (.int p0), .val (.long q1), .second, .val (.ref b1), .unset, .unset, .unset, .unset, .unset, .unset, .unset] [(.int p0)])) _
    refine X21.ldcInt hx hown (mvT hZ (W hw 14 rfl)) (g := (mkF m 36 #[.val (.int p0), .val (.long q1), .second, .val (.ref b1), .unset, .unset, .unset, .unset, .unset, .unset, .unset] [(.int p0)])) rfl (hb hby at_36) _ ?_
    show Steps p.tables e below (T21.setTop (mkF m 38 #[.val (.int p0), .val (.long q1), .second, .val (.ref b1), .unset, .unset, .unset, .unset, .unset, .unset, .unset] [(.int (2147483647 : Int32)), (.int p0)])) _
    refine XS.iand X21.here hx rfl (hb hby at_38) rfl ?_
    show Steps p.tables e below (T21.setTop (mkF m 39 #[.val (.int p0), .val (.long q1), .second, .val (.ref b1), .unset, .unset, .unset, .unset, .unset, .unset, .unset] [(.int (p0 &&& (2147483647 : Int32)))])) _
    refine XS.iconst X21.here hx rfl (hb hby at_39) ?_
    show Steps p.tables e below (T21.setTop (mkF m 40 #[.val (.int p0), .val (.long q1), .second, .val (.ref b1), .unset, .unset, .unset, .unset, .unset, .unset, .unset] [(.int (5 : Int32)), (.int (p0 &&& (2147483647 : Int32)))])) _
    refine iremM X21 hx rfl (hb hby at_40) rfl (by decide : ¬ ((5 : Int32) = (0 : Int32))) ?_
    show Steps p.tables e below (T21.setTop (mkF m 41 #[.val (.int p0), .val (.long q1), .second, .val (.ref b1), .unset, .unset, .unset, .unset, .unset, .unset, .unset] [(.int ((p0 &&& (2147483647 : Int32)) % (5 : Int32)))])) _
    rw [hp0]
    show Steps p.tables e below (T21.setTop (mkF m 41 #[.val (.int p0), .val (.long q1), .second, .val (.ref b1), .unset, .unset, .unset, .unset, .unset, .unset, .unset] [(.int (1 : Int32))])) _
    refine XS.istore X21.here hx rfl (hb hby at_41) rfl (l' := #[.val (.int p0), .val (.long q1), .second, .val (.ref b1), .val (.int (1 : Int32)), .unset, .unset, .unset, .unset, .unset, .unset]) rfl ?_
    show Steps p.tables e below (T21.setTop (mkF m 43 #[.val (.int p0), .val (.long q1), .second, .val (.ref b1), .val (.int (1 : Int32)), .unset, .unset, .unset, .unset, .unset, .unset] [])) _
    refine XS.aloadN X21.here hx rfl (hb hby at_43) rfl rfl ?_
    show Steps p.tables e below (T21.setTop (mkF m 44 #[.val (.int p0), .val (.long q1), .second, .val (.ref b1), .val (.int (1 : Int32)), .unset, .unset, .unset, .unset, .unset, .unset] [(.ref b1)])) _
    refine XS.iload X21.here hx rfl (hb hby at_44) rfl ?_
    show Steps p.tables e below (T21.setTop (mkF m 46 #[.val (.int p0), .val (.long q1), .second, .val (.ref b1), .val (.int (1 : Int32)), .unset, .unset, .unset, .unset, .unset, .unset] [(.int (1 : Int32)), (.ref b1)])) _
    refine X21.aaload hx (j := (1 : Int32)) (v := (.ref (w 1))) (by rw [e21]; exact Ar22.1) (State.isArrayOf_alike hZ.alike Ar22.2.1) rfl Ar22.2.2 hin22 hat22 (g := (mkF m 46 #[.val (.int p0), .val (.long q1), .second, .val (.ref b1), .val (.int (1 : Int32)), .unset, .unset, .unset, .unset, .unset, .unset] [(.int (1 : Int32)), (.ref b1)])) rfl rfl (hb hby at_46) _ ?_
    show Steps p.tables e below (T21.setTop (mkF m 47 #[.val (.int p0), .val (.long q1), .second, .val (.ref b1), .val (.int (1 : Int32)), .unset, .unset, .unset, .unset, .unset, .unset] [(.ref (w 1))])) _
    refine XS.astore X21.here hx rfl (hb hby at_47) rfl rfl (l' := #[.val (.int p0), .val (.long q1), .second, .val (.ref b1), .val (.int (1 : Int32)), .val (.ref (w 1)), .unset, .unset, .unset, .unset, .unset]) rfl ?_
    show Steps p.tables e below (T21.setTop (mkF m 49 #[.val (.int p0), .val (.long q1), .second, .val (.ref b1), .val (.int (1 : Int32)), .val (.ref (w 1)), .unset, .unset, .unset, .unset, .unset] [])) _
    refine XS.lloadN X21.here hx rfl (hb hby at_49) rfl ?_
    show Steps p.tables e below (T21.setTop (mkF m 50 #[.val (.int p0), .val (.long q1), .second, .val (.ref b1), .val (.int (1 : Int32)), .val (.ref (w 1)), .unset, .unset, .unset, .unset, .unset] [(.long q1)])) _
    refine XS.lstore X21.here hx rfl (hb hby at_50) rfl (l' := #[.val (.int p0), .val (.long q1), .second, .val (.ref b1), .val (.int (1 : Int32)), .val (.ref (w 1)), .val (.long q1), .second, .unset, .unset, .unset]) rfl ?_
    show Steps p.tables e below (T21.setTop (mkF m 52 #[.val (.int p0), .val (.long q1), .second, .val (.ref b1), .val (.int (1 : Int32)), .val (.ref (w 1)), .val (.long q1), .second, .unset, .unset, .unset] [])) _
    refine XS.lload X21.here hx rfl (hb hby at_52) rfl ?_
    show Steps p.tables e below (T21.setTop (mkF m 54 #[.val (.int p0), .val (.long q1), .second, .val (.ref b1), .val (.int (1 : Int32)), .val (.ref (w 1)), .val (.long q1), .second, .unset, .unset, .unset] [(.long q1)])) _
    refine X21.ldc2Long hx hown (mvT hZ (W hw 15 rfl)) (g := (mkF m 54 #[.val (.int p0), .val (.long q1), .second, .val (.ref b1), .val (.int (1 : Int32)), .val (.ref (w 1)), .val (.long q1), .second, .unset, .unset, .unset] [(.long q1)])) rfl (hb hby at_54) _ ?_
    show Steps p.tables e below (T21.setTop (mkF m 57 #[.val (.int p0), .val (.long q1), .second, .val (.ref b1), .val (.int (1 : Int32)), .val (.ref (w 1)), .val (.long q1), .second, .unset, .unset, .unset] [(.long (9223372036854775807 : Int64)), (.long q1)])) _
    refine XS.lcmp X21.here hx rfl (hb hby at_57) rfl ?_
    show Steps p.tables e below (T21.setTop (mkF m 58 #[.val (.int p0), .val (.long q1), .second, .val (.ref b1), .val (.int (1 : Int32)), .val (.ref (w 1)), .val (.long q1), .second, .unset, .unset, .unset] [(.int (lcmpW q1 (9223372036854775807 : Int64)))])) _
    refine XS.ifYes X21.here hx rfl (pc0 := 58) (pc' := 64) rfl (hb hby at_58) rfl ((if0 _ _).trans (feq hp1).2) (by decide) (by decide) ?_
    show Steps p.tables e below (T21.setTop (mkF m 64 #[.val (.int p0), .val (.long q1), .second, .val (.ref b1), .val (.int (1 : Int32)), .val (.ref (w 1)), .val (.long q1), .second, .unset, .unset, .unset] [])) _
    refine XS.aload X21.here hx rfl (hb hby at_64) rfl rfl ?_
    show Steps p.tables e below (T21.setTop (mkF m 66 #[.val (.int p0), .val (.long q1), .second, .val (.ref b1), .val (.int (1 : Int32)), .val (.ref (w 1)), .val (.long q1), .second, .unset, .unset, .unset] [(.ref (w 1))])) _
    refine st23.trans ?_
    show Steps p.tables e below (T23.setTop (mkF m 69 #[.val (.int p0), .val (.long q1), .second, .val (.ref b1), .val (.int (1 : Int32)), .val (.ref (w 1)), .val (.long q1), .second, .unset, .unset, .unset] [(.int (1 : Int32))])) _
    refine XS.istore X23.here hx rfl (hb hby at_69) rfl (l' := #[.val (.int p0), .val (.long q1), .second, .val (.ref b1), .val (.int (1 : Int32)), .val (.ref (w 1)), .val (.long q1), .second, .val (.int (1 : Int32)), .unset, .unset]) rfl ?_
    show Steps p.tables e below (T23.setTop (mkF m 71 #[.val (.int p0), .val (.long q1), .second, .val (.ref b1), .val (.int (1 : Int32)), .val (.ref (w 1)), .val (.long q1), .second, .val (.int (1 : Int32)), .unset, .unset] [])) _
    refine XS.iload X23.here hx rfl (hb hby at_71) rfl ?_
    show Steps p.tables e below (T23.setTop (mkF m 73 #[.val (.int p0), .val (.long q1), .second, .val (.ref b1), .val (.int (1 : Int32)), .val (.ref (w 1)), .val (.long q1), .second, .val (.int (1 : Int32)), .unset, .unset] [(.int (1 : Int32))])) _
    refine XS.iconst X23.here hx rfl (hb hby at_73) ?_
    show Steps p.tables e below (T23.setTop (mkF m 74 #[.val (.int p0), .val (.long q1), .second, .val (.ref b1), .val (.int (1 : Int32)), .val (.ref (w 1)), .val (.long q1), .second, .val (.int (1 : Int32)), .unset, .unset] [(.int (2 : Int32)), (.int (1 : Int32))])) _
    refine XS.icmpNo X23.here hx rfl (hb hby at_74) rfl (flt (by decide : ¬ ((2 : Int32) < (1 : Int32)))).2.2.1 ?_
    show Steps p.tables e below (T23.setTop (mkF m 77 #[.val (.int p0), .val (.long q1), .second, .val (.ref b1), .val (.int (1 : Int32)), .val (.ref (w 1)), .val (.long q1), .second, .val (.int (1 : Int32)), .unset, .unset] [])) _
    refine XS.iconst X23.here hx rfl (hb hby at_77) ?_
    show Steps p.tables e below (T23.setTop (mkF m 78 #[.val (.int p0), .val (.long q1), .second, .val (.ref b1), .val (.int (1 : Int32)), .val (.ref (w 1)), .val (.long q1), .second, .val (.int (1 : Int32)), .unset, .unset] [(.int (1 : Int32))])) _
    refine XS.goto X23.here hx rfl (pc0 := 78) (pc' := 82) rfl (hb hby at_78) (by decide) (by decide) ?_
    show Steps p.tables e below (T23.setTop (mkF m 82 #[.val (.int p0), .val (.long q1), .second, .val (.ref b1), .val (.int (1 : Int32)), .val (.ref (w 1)), .val (.long q1), .second, .val (.int (1 : Int32)), .unset, .unset] [(.int (1 : Int32))])) _
    refine XS.istore X23.here hx rfl (hb hby at_82) rfl (l' := #[.val (.int p0), .val (.long q1), .second, .val (.ref b1), .val (.int (1 : Int32)), .val (.ref (w 1)), .val (.long q1), .second, .val (.int (1 : Int32)), .val (.int (1 : Int32)), .unset]) rfl ?_
    show Steps p.tables e below (T23.setTop (mkF m 84 #[.val (.int p0), .val (.long q1), .second, .val (.ref b1), .val (.int (1 : Int32)), .val (.ref (w 1)), .val (.long q1), .second, .val (.int (1 : Int32)), .val (.int (1 : Int32)), .unset] [])) _
    refine XS.aload X23.here hx rfl (hb hby at_84) rfl rfl ?_
    show Steps p.tables e below (T23.setTop (mkF m 86 #[.val (.int p0), .val (.long q1), .second, .val (.ref b1), .val (.int (1 : Int32)), .val (.ref (w 1)), .val (.long q1), .second, .val (.int (1 : Int32)), .val (.int (1 : Int32)), .unset] [(.ref (w 1))])) _
    refine X23.ldc2Long hx hown (mvT hZ (W hw 15 rfl)) (g := (mkF m 86 #[.val (.int p0), .val (.long q1), .second, .val (.ref b1), .val (.int (1 : Int32)), .val (.ref (w 1)), .val (.long q1), .second, .val (.int (1 : Int32)), .val (.int (1 : Int32)), .unset] [(.ref (w 1))])) rfl (hb hby at_86) _ ?_
    show Steps p.tables e below (T23.setTop (mkF m 89 #[.val (.int p0), .val (.long q1), .second, .val (.ref b1), .val (.int (1 : Int32)), .val (.ref (w 1)), .val (.long q1), .second, .val (.int (1 : Int32)), .val (.int (1 : Int32)), .unset] [(.long (9223372036854775807 : Int64)), (.ref (w 1))])) _
    refine XS.lload X23.here hx rfl (hb hby at_89) rfl ?_
    show Steps p.tables e below (T23.setTop (mkF m 91 #[.val (.int p0), .val (.long q1), .second, .val (.ref b1), .val (.int (1 : Int32)), .val (.ref (w 1)), .val (.long q1), .second, .val (.int (1 : Int32)), .val (.int (1 : Int32)), .unset] [(.long q1), (.long (9223372036854775807 : Int64)), (.ref (w 1))])) _
    refine st24.trans ?_
    show Steps p.tables e below (T24.setTop (mkF m 94 #[.val (.int p0), .val (.long q1), .second, .val (.ref b1), .val (.int (1 : Int32)), .val (.ref (w 1)), .val (.long q1), .second, .val (.int (1 : Int32)), .val (.int (1 : Int32)), .unset] [(.int (0 : Int32))])) _
    refine XS.ifNo X24.here hx rfl (hb hby at_94) rfl ((if0 _ _).trans (teq (by decide : (0 : Int32) = (0 : Int32))).2) ?_
    show Steps p.tables e below (T24.setTop (mkF m 97 #[.val (.int p0), .val (.long q1), .second, .val (.ref b1), .val (.int (1 : Int32)), .val (.ref (w 1)), .val (.long q1), .second, .val (.int (1 : Int32)), .val (.int (1 : Int32)), .unset] [])) _
    refine XS.iconst X24.here hx rfl (hb hby at_97) ?_
    show Steps p.tables e below (T24.setTop (mkF m 98 #[.val (.int p0), .val (.long q1), .second, .val (.ref b1), .val (.int (1 : Int32)), .val (.ref (w 1)), .val (.long q1), .second, .val (.int (1 : Int32)), .val (.int (1 : Int32)), .unset] [(.int (1 : Int32))])) _
    refine XS.goto X24.here hx rfl (pc0 := 98) (pc' := 102) rfl (hb hby at_98) (by decide) (by decide) ?_
    show Steps p.tables e below (T24.setTop (mkF m 102 #[.val (.int p0), .val (.long q1), .second, .val (.ref b1), .val (.int (1 : Int32)), .val (.ref (w 1)), .val (.long q1), .second, .val (.int (1 : Int32)), .val (.int (1 : Int32)), .unset] [(.int (1 : Int32))])) _
    refine XS.istore X24.here hx rfl (hb hby at_102) rfl (l' := #[.val (.int p0), .val (.long q1), .second, .val (.ref b1), .val (.int (1 : Int32)), .val (.ref (w 1)), .val (.long q1), .second, .val (.int (1 : Int32)), .val (.int (1 : Int32)), .val (.int (1 : Int32))]) rfl ?_
    show Steps p.tables e below (T24.setTop (mkF m 104 #[.val (.int p0), .val (.long q1), .second, .val (.ref b1), .val (.int (1 : Int32)), .val (.ref (w 1)), .val (.long q1), .second, .val (.int (1 : Int32)), .val (.int (1 : Int32)), .val (.int (1 : Int32))] [])) _
    refine XS.iload X24.here hx rfl (hb hby at_104) rfl ?_
    show Steps p.tables e below (T24.setTop (mkF m 106 #[.val (.int p0), .val (.long q1), .second, .val (.ref b1), .val (.int (1 : Int32)), .val (.ref (w 1)), .val (.long q1), .second, .val (.int (1 : Int32)), .val (.int (1 : Int32)), .val (.int (1 : Int32))] [(.int (1 : Int32))])) _
    refine XS.iload X24.here hx rfl (hb hby at_106) rfl ?_
    show Steps p.tables e below (T24.setTop (mkF m 108 #[.val (.int p0), .val (.long q1), .second, .val (.ref b1), .val (.int (1 : Int32)), .val (.ref (w 1)), .val (.long q1), .second, .val (.int (1 : Int32)), .val (.int (1 : Int32)), .val (.int (1 : Int32))] [(.int (1 : Int32)), (.int (1 : Int32))])) _
    refine XS.icmpNo X24.here hx rfl (hb hby at_108) rfl (teq (by decide : (1 : Int32) = (1 : Int32))).2 ?_
    show Steps p.tables e below (T24.setTop (mkF m 111 #[.val (.int p0), .val (.long q1), .second, .val (.ref b1), .val (.int (1 : Int32)), .val (.ref (w 1)), .val (.long q1), .second, .val (.int (1 : Int32)), .val (.int (1 : Int32)), .val (.int (1 : Int32))] [])) _
    refine XS.iload X24.here hx rfl (hb hby at_111) rfl ?_
    show Steps p.tables e below (T24.setTop (mkF m 113 #[.val (.int p0), .val (.long q1), .second, .val (.ref b1), .val (.int (1 : Int32)), .val (.ref (w 1)), .val (.long q1), .second, .val (.int (1 : Int32)), .val (.int (1 : Int32)), .val (.int (1 : Int32))] [(.int (1 : Int32))])) _
    refine XS.iload X24.here hx rfl (hb hby at_113) rfl ?_
    show Steps p.tables e below (T24.setTop (mkF m 115 #[.val (.int p0), .val (.long q1), .second, .val (.ref b1), .val (.int (1 : Int32)), .val (.ref (w 1)), .val (.long q1), .second, .val (.int (1 : Int32)), .val (.int (1 : Int32)), .val (.int (1 : Int32))] [(.int (1 : Int32)), (.int (1 : Int32))])) _
    refine XS.icmpNo X24.here hx rfl (hb hby at_115) rfl (teq (by decide : (1 : Int32) = (1 : Int32))).2 ?_
    show Steps p.tables e below (T24.setTop (mkF m 118 #[.val (.int p0), .val (.long q1), .second, .val (.ref b1), .val (.int (1 : Int32)), .val (.ref (w 1)), .val (.long q1), .second, .val (.int (1 : Int32)), .val (.int (1 : Int32)), .val (.int (1 : Int32))] [])) _
    refine XS.iconst X24.here hx rfl (hb hby at_118) ?_
    show Steps p.tables e below (T24.setTop (mkF m 119 #[.val (.int p0), .val (.long q1), .second, .val (.ref b1), .val (.int (1 : Int32)), .val (.ref (w 1)), .val (.long q1), .second, .val (.int (1 : Int32)), .val (.int (1 : Int32)), .val (.int (1 : Int32))] [(.int (1 : Int32))])) _
    refine XS.goto X24.here hx rfl (pc0 := 119) (pc' := 123) rfl (hb hby at_119) (by decide) (by decide) ?_
    show Steps p.tables e below (T24.setTop (mkF m 123 #[.val (.int p0), .val (.long q1), .second, .val (.ref b1), .val (.int (1 : Int32)), .val (.ref (w 1)), .val (.long q1), .second, .val (.int (1 : Int32)), .val (.int (1 : Int32)), .val (.int (1 : Int32))] [(.int (1 : Int32))])) _
    exact retN X24 hx (t := .boolean) Bd.returns (by simp) (hb hby at_123) hr
  · show OL (some (.int (1 : Int32))) Z.heap.size _ T24.heap _
    exact ⟨rfl, N24⟩
theorem d_prog_47_method_8_code_14 : decode prog_47_method_8_code 14 = .ok (.aload_n 0, 1) := by decide +kernel
theorem d_prog_47_method_8_code_15 : decode prog_47_method_8_code 15 = .ok (.getstatic 10, 3) := by decide +kernel
theorem d_prog_47_method_8_code_18 : decode prog_47_method_8_code 18 = .ok (.if_acmp .ne 7, 3) := by decide +kernel
set_option maxRecDepth 65536 in
set_option maxHeartbeats 40000000 in
theorem rm_15 (l : Launch) (Z : State) (a0 : Array Value) (hw : ∀ d ∈ tables_1, d.before a0 Z = true) (w : Nat → Addr) (kk : Nat → ClassId) (hN : Wd Z w kk) (ws : List Jvm.Cond)  (h0 : Heap) (O0 : Old Z Z.heap.size h0) :
    MetFree l (⟨"com/example/stint/stint/model/Relation", "boundsAbove", "()Z"⟩ : MethodName) (head1 (Jvm.Cond.code (⟨"com/example/stint/stint/model/Relation", "boundsAbove", "()Z"⟩ : MethodName) prog_47_method_8_code 1 (some .boolean) :: ws) ({ frames := 0, cells := 0, slots := 0, locals := 0 } : Room)) (fun a U => a = #[(.ref (w 2))] ∧ Z.Warmed39 U.vm ∧ U.heap = h0) (fun _ _ _ _ _ => True) (fun _ U o U' => ∃ v L, o = .returned v ∧ OQ (some (.int (1 : Int32))) h0 Z.heap.size v U'.heap L ∧ FrameEnd U o U' L ({ frames := 0, cells := 0, slots := 0, locals := 0 } : Room).cells ({ frames := 0, cells := 0, slots := 0, locals := 0 } : Room).slots) := by
  have hN' := hN
  obtain ⟨hS0, hE0, hS1, hE1, hS2, hE2, hS3, hE3, hS4, hE4, hF0_ordinal, hF1_ordinal, hF4_ordinal, hF2_ordinal, hF3_ordinal⟩ := hN'
  refine MetFree.of_bodySF (plainFor_of_name pn_0) hisR ?_
  intro p e s m args below meth c s₁ Bd hml0 hP hK
  obtain ⟨rfl, hZ, hh⟩ := hP
  have hx := Bd.exec
  have hby := Bd.bytes
  have hml : c.maxLocals = 1 := hml0
  have hown : s.vm.findClass "com/example/stint/stint/model/Relation" = some m.cls := findClass_of_methodNamed Bd.named
  have hnm := (name_of_methodNamed Bd.named Bd.method).1
  have X0 : Stand p l e ({ frames := 0, cells := 0, slots := 0, locals := 0 } : Room) s m #[(.ref (w 2))] below meth c s₁ [] 0 0 := Stand.of_body Bd
  have e0 : s₁.heap = h0 := by rw [← hh, Bd.state]; rfl
  have N0 := Fr.nil Z.heap.size
  have pre0 : ∀ t, Steps p.tables e below (s₁.setTop (mkF m 0 #[.val (.ref (w 2))] [])) t → Steps p.tables e below (s₁.setTop (entryFrame m #[(.ref (w 2))] 1)) t := fun t k => castTop (ef_0 m (.ref (w 2)) rfl) k
  obtain ⟨T1, X1, e1, st1⟩ := getS2 X0 hx hZ hown (host := "") (Or.inl (W hw 21 rfl)) Via.refl e0 (hS0.ext O0.2) (g := (mkF m 1 #[.val (.ref (w 2))] [(.ref (w 2))])) rfl (hb hby d_prog_47_method_8_code_1)
  obtain ⟨T2, X2, e2, st2⟩ := getS2 X1 hx hZ hown (host := "") (Or.inl (W hw 40 rfl)) Via.refl e1 (hS1.ext O0.2) (g := (mkF m 8 #[.val (.ref (w 2))] [(.ref (w 2))])) rfl (hb hby d_prog_47_method_8_code_8)
  obtain ⟨T3, X3, e3, st3⟩ := getS2 X2 hx hZ hown (host := "") (Or.inl (W hw 41 rfl)) Via.refl e2 (hS2.ext O0.2) (g := (mkF m 15 #[.val (.ref (w 2))] [(.ref (w 2))])) rfl (hb hby d_prog_47_method_8_code_15)
  obtain ⟨fs, hr, hrun, hended, hW, hsame⟩ := X3.leave (v := some (.int (1 : Int32))) (fun h => by rw [Bd.returns] at h; cases h)
  refine ⟨_, _, pre0 _ ?_, hrun, hended, _, _, rfl, ?_, ⟨_, rfl⟩, hW, hsame.mono (by decide) (by decide)⟩
  · show Steps p.tables e below (s₁.setTop (mkF m 0 #[.val (.ref (w 2))] [])) _
    refine XS.aloadN X0.here hx rfl (hb hby d_prog_47_method_8_code_0) rfl rfl ?_
    show Steps p.tables e below (s₁.setTop (mkF m 1 #[.val (.ref (w 2))] [(.ref (w 2))])) _
    refine st1 _ ?_
    show Steps p.tables e below (T1.setTop (mkF m 4 #[.val (.ref (w 2))] [(.ref (w 0)), (.ref (w 2))])) _
    refine Jvm.RoadKit.acmp (g := (mkF m 4 #[.val (.ref (w 2))] [(.ref (w 0)), (.ref (w 2))])) X1 hx rfl rfl rfl (pc0 := 4) (pc' := 7) (same := false) rfl (hb hby d_prog_47_method_8_code_4) rfl (decide_eq_false fun q => (Fld.ne hF2_ordinal hF0_ordinal (by decide)) (Value.ref.inj q)) (by decide) (by decide) ?_
    show Steps p.tables e below (T1.setTop (mkF m 7 #[.val (.ref (w 2))] [])) _
    refine XS.aloadN X1.here hx rfl (hb hby d_prog_47_method_8_code_7) rfl rfl ?_
    show Steps p.tables e below (T1.setTop (mkF m 8 #[.val (.ref (w 2))] [(.ref (w 2))])) _
    refine st2 _ ?_
    show Steps p.tables e below (T2.setTop (mkF m 11 #[.val (.ref (w 2))] [(.ref (w 1)), (.ref (w 2))])) _
    refine Jvm.RoadKit.acmp (g := (mkF m 11 #[.val (.ref (w 2))] [(.ref (w 1)), (.ref (w 2))])) X2 hx rfl rfl rfl (pc0 := 11) (pc' := 14) (same := false) rfl (hb hby d_prog_47_method_8_code_11) rfl (decide_eq_false fun q => (Fld.ne hF2_ordinal hF1_ordinal (by decide)) (Value.ref.inj q)) (by decide) (by decide) ?_
    show Steps p.tables e below (T2.setTop (mkF m 14 #[.val (.ref (w 2))] [])) _
    refine XS.aloadN X2.here hx rfl (hb hby d_prog_47_method_8_code_14) rfl rfl ?_
    show Steps p.tables e below (T2.setTop (mkF m 15 #[.val (.ref (w 2))] [(.ref (w 2))])) _
    refine st3 _ ?_
    show Steps p.tables e below (T3.setTop (mkF m 18 #[.val (.ref (w 2))] [(.ref (w 2)), (.ref (w 2))])) _
    refine Jvm.RoadKit.acmp (g := (mkF m 18 #[.val (.ref (w 2))] [(.ref (w 2)), (.ref (w 2))])) X3 hx rfl rfl rfl (pc0 := 18) (pc' := 21) (same := true) rfl (hb hby d_prog_47_method_8_code_18) rfl (decide_eq_true rfl) (by decide) (by decide) ?_
    show Steps p.tables e below (T3.setTop (mkF m 21 #[.val (.ref (w 2))] [])) _
    refine XS.iconst X3.here hx rfl (hb hby d_prog_47_method_8_code_21) ?_
    show Steps p.tables e below (T3.setTop (mkF m 22 #[.val (.ref (w 2))] [(.int (1 : Int32))])) _
    refine XS.goto X3.here hx rfl (pc0 := 22) (pc' := 26) rfl (hb hby d_prog_47_method_8_code_22) (by decide) (by decide) ?_
    show Steps p.tables e below (T3.setTop (mkF m 26 #[.val (.ref (w 2))] [(.int (1 : Int32))])) _
    exact retN X3 hx (t := .boolean) Bd.returns (by simp) (hb hby d_prog_47_method_8_code_26) hr
  · show OQ (some (.int (1 : Int32))) h0 Z.heap.size _ T3.heap _
    rw [e3]
    exact ⟨rfl, N0, rfl⟩
set_option maxRecDepth 65536 in
set_option maxHeartbeats 40000000 in
theorem rm_16 (l : Launch) (Z : State) (a0 : Array Value) (hw : ∀ d ∈ tables_1, d.before a0 Z = true) (w : Nat → Addr) (kk : Nat → ClassId) (hN : Wd Z w kk) (ws : List Jvm.Cond)  (h0 : Heap) (O0 : Old Z Z.heap.size h0) :
    MetFree l (⟨"java/lang/Enum", "ordinal", "()I"⟩ : MethodName) (head1 (Jvm.Cond.code (⟨"java/lang/Enum", "ordinal", "()I"⟩ : MethodName) jdk_37_method_2_code 1 (some .int) :: ws) ({ frames := 0, cells := 0, slots := 0, locals := 0 } : Room)) (fun a U => a = #[(.ref (w 2))] ∧ Z.Warmed39 U.vm ∧ U.heap = h0) (fun _ _ _ _ _ => True) (fun _ U o U' => ∃ v L, o = .returned v ∧ OQ (some (.int (2 : Int32))) h0 Z.heap.size v U'.heap L ∧ FrameEnd U o U' L ({ frames := 0, cells := 0, slots := 0, locals := 0 } : Room).cells ({ frames := 0, cells := 0, slots := 0, locals := 0 } : Room).slots) := by
  have hN' := hN
  obtain ⟨hS0, hE0, hS1, hE1, hS2, hE2, hS3, hE3, hS4, hE4, hF0_ordinal, hF1_ordinal, hF4_ordinal, hF2_ordinal, hF3_ordinal⟩ := hN'
  refine MetFree.of_bodySF (plainFor_of_name pn_2) hisR ?_
  intro p e s m args below meth c s₁ Bd hml0 hP hK
  obtain ⟨rfl, hZ, hh⟩ := hP
  have hx := Bd.exec
  have hby := Bd.bytes
  have hml : c.maxLocals = 1 := hml0
  have hown : s.vm.findClass "java/lang/Enum" = some m.cls := findClass_of_methodNamed Bd.named
  have hnm := (name_of_methodNamed Bd.named Bd.method).1
  have X0 : Stand p l e ({ frames := 0, cells := 0, slots := 0, locals := 0 } : Room) s m #[(.ref (w 2))] below meth c s₁ [] 0 0 := Stand.of_body Bd
  have e0 : s₁.heap = h0 := by rw [← hh, Bd.state]; rfl
  have N0 := Fr.nil Z.heap.size
  have pre0 : ∀ t, Steps p.tables e below (s₁.setTop (mkF m 0 #[.val (.ref (w 2))] [])) t → Steps p.tables e below (s₁.setTop (entryFrame m #[(.ref (w 2))] 1)) t := fun t k => castTop (ef_0 m (.ref (w 2)) rfl) k
  obtain ⟨T1, X1, e1, st1⟩ := getF X0 hx hZ hown (host := "") (Or.inl (W hw 38 rfl)) Via.refl e0 (hF2_ordinal.ext O0.2) (g := (mkF m 1 #[.val (.ref (w 2))] [(.ref (w 2))])) rfl rfl (hb hby d_jdk_37_method_2_code_1)
  obtain ⟨fs, hr, hrun, hended, hW, hsame⟩ := X1.leave (v := some (.int (2 : Int32))) (fun h => by rw [Bd.returns] at h; cases h)
  refine ⟨_, _, pre0 _ ?_, hrun, hended, _, _, rfl, ?_, ⟨_, rfl⟩, hW, hsame.mono (by decide) (by decide)⟩
  · show Steps p.tables e below (s₁.setTop (mkF m 0 #[.val (.ref (w 2))] [])) _
    refine XS.aloadN X0.here hx rfl (hb hby d_jdk_37_method_2_code_0) rfl rfl ?_
    show Steps p.tables e below (s₁.setTop (mkF m 1 #[.val (.ref (w 2))] [(.ref (w 2))])) _
    refine st1 _ ?_
    show Steps p.tables e below (T1.setTop (mkF m 4 #[.val (.ref (w 2))] [(.int (2 : Int32))])) _
    exact retI X1 hx Bd.returns (hb hby d_jdk_37_method_2_code_4) hr
  · show OQ (some (.int (2 : Int32))) h0 Z.heap.size _ T1.heap _
    rw [e1]
    exact ⟨rfl, N0, rfl⟩
theorem d_prog_47_method_11_code_80 : decode prog_47_method_11_code 80 = .ok (.iload 5, 2) := by decide +kernel
theorem d_prog_47_method_11_code_82 : decode prog_47_method_11_code 82 = .ok (.ifCond .ne 7, 3) := by decide +kernel
theorem d_prog_47_method_11_code_89 : decode prog_47_method_11_code 89 = .ok (.iconst 0, 1) := by decide +kernel
theorem d_prog_47_method_11_code_90 : decode prog_47_method_11_code 90 = .ok (.goto 26, 3) := by decide +kernel
set_option maxRecDepth 65536 in
set_option maxHeartbeats 40000000 in
theorem rm_17 (l : Launch) (Z : State) (a0 : Array Value) (hw : ∀ d ∈ tables_1, d.before a0 Z = true) (w : Nat → Addr) (kk : Nat → ClassId) (hN : Wd Z w kk) (ws : List Jvm.Cond)  (h0 : Heap) (O0 : Old Z Z.heap.size h0) :
    MetFree l (⟨"com/example/stint/stint/model/Relation", "holds", "(JJ)Z"⟩ : MethodName) (head1 (Jvm.Cond.code (⟨"com/example/stint/stint/model/Relation", "holds", "(JJ)Z"⟩ : MethodName) prog_47_method_11_code 6 (some .boolean) :: ws) ({ frames := 1, cells := 0, slots := 0, locals := 15 } : Room)) (fun a U => a = #[(.ref (w 2)), (.long (9223372036854775807 : Int64)), (.long (0 : Int64))] ∧ Z.Warmed39 U.vm ∧ U.heap = h0) (fun _ _ _ _ _ => True) (fun _ U o U' => ∃ v L, o = .returned v ∧ OQ (some (.int (0 : Int32))) h0 Z.heap.size v U'.heap L ∧ FrameEnd U o U' L ({ frames := 1, cells := 0, slots := 0, locals := 15 } : Room).cells ({ frames := 1, cells := 0, slots := 0, locals := 15 } : Room).slots) := by
  have hN' := hN
  obtain ⟨hS0, hE0, hS1, hE1, hS2, hE2, hS3, hE3, hS4, hE4, hF0_ordinal, hF1_ordinal, hF4_ordinal, hF2_ordinal, hF3_ordinal⟩ := hN'
  refine MetFree.of_bodySF (plainFor_of_name pn_0) hisR ?_
  intro p e s m args below meth c s₁ Bd hml0 hP hK
  obtain ⟨rfl, hZ, hh⟩ := hP
  have hx := Bd.exec
  have hby := Bd.bytes
  have hml : c.maxLocals = 6 := hml0
  have hown : s.vm.findClass "com/example/stint/stint/model/Relation" = some m.cls := findClass_of_methodNamed Bd.named
  have hnm := (name_of_methodNamed Bd.named Bd.method).1
  have X0 : Stand p l e ({ frames := 1, cells := 0, slots := 0, locals := 15 } : Room) s m #[(.ref (w 2)), (.long (9223372036854775807 : Int64)), (.long (0 : Int64))] below meth c s₁ [] 0 0 := Stand.of_body Bd
  have e0 : s₁.heap = h0 := by rw [← hh, Bd.state]; rfl
  have N0 := Fr.nil Z.heap.size
  have pre0 : ∀ t, Steps p.tables e below (s₁.setTop (mkF m 0 #[.val (.ref (w 2)), .val (.long (9223372036854775807 : Int64)), .second, .val (.long (0 : Int64)), .second, .unset] [])) t → Steps p.tables e below (s₁.setTop (entryFrame m #[(.ref (w 2)), (.long (9223372036854775807 : Int64)), (.long (0 : Int64))] 6)) t := fun t k => castTop (ef_2 m (.ref (w 2)) rfl (.long (9223372036854775807 : Int64)) rfl (.long (0 : Int64)) rfl) k
  obtain ⟨_, _, ⟨T1, L1, k1, n1⟩, -, X1, ⟨Lc1, hQ1, l1, y1, z1⟩, st1⟩ := Jvm.LawKit.callS X0 hx (y := (⟨"java/lang/Long", "compare", "(JJ)I"⟩ : MethodName)) hown (mvT hZ (W hw 27 rfl)) (mvT hZ (W hw 28 rfl)) (mvT hZ (W hw 29 rfl)) (mvT hZ (W hw 30 rfl)) (by decide) (backOf (W := 0) (rm_2 l Z a0 hw w kk hN [] h0 O0) hZ (W hw 30 rfl) (W hw 29 rfl) (by decide) (by decide)) (g := (mkF m 2 #[.val (.ref (w 2)), .val (.long (9223372036854775807 : Int64)), .second, .val (.long (0 : Int64)), .second, .unset] [(.long (0 : Int64)), (.long (9223372036854775807 : Int64))])) rfl (by rw [hml]; rfl) (argsL := [(.long (9223372036854775807 : Int64)), (.long (0 : Int64))]) (rest := []) (lenOf pd_1 rfl) rfl (by show 2 * 0 + _ ≤ _; exact Nat.le_of_eq rfl) (hb hby d_prog_47_method_11_code_2) (fun _ _ => ⟨rfl, e0, (by decide : 0 + 0 ≤ _), (by decide : 0 + 0 ≤ _)⟩)
  dsimp only [Pt.U, Pt.locs, Pt.cells, Pt.slots] at X1 l1 y1 z1 st1 hQ1
  subst l1 y1 z1
  obtain ⟨rfl, N1q, e1⟩ := hQ1
  have N1 := Fr.app N0 N1q
  obtain ⟨cq2, kq2, q2a, q2b, q2c⟩ := isOf hZ e1 (hE2.ext O0.2)
  obtain ⟨_, _, ⟨T2, L2, k2, n2⟩, -, X2, ⟨Lc2, hQ2, l2, y2, z2⟩, st2⟩ := X1.virtualBackUp hx (x := (⟨"com/example/stint/stint/model/Relation", "ordinal", "()I"⟩ : MethodName)) (y := (⟨"java/lang/Enum", "ordinal", "()I"⟩ : MethodName)) (owner := "java/lang/Enum") hown (mvT hZ (W hw 31 rfl)) (mvT hZ (W hw 32 rfl)) (mvT hZ (W hw 33 rfl)) (by decide) (mvT hZ (W hw 35 rfl)) (mvT hZ (W hw 34 rfl)) (backOf (W := 0) (rm_16 l Z a0 hw w kk hN [] h0 O0) hZ (W hw 37 rfl) (W hw 36 rfl) (by decide) (by decide)) q2a q2c (g := (mkF m 8 #[.val (.ref (w 2)), .val (.long (9223372036854775807 : Int64)), .second, .val (.long (0 : Int64)), .second, .val (.int (1 : Int32))] [(.ref (w 2))])) rfl (by rw [hml]; rfl) (Steps.refl _) (argsL := []) (rest := []) (lenOf pd_2 rfl) rfl (by show 2 * 0 + _ ≤ _; exact Nat.le_of_eq rfl) (hb hby d_prog_47_method_11_code_8) (fun _ _ => ⟨rfl, e1, (by decide : 0 + 0 ≤ _), (by decide : 0 + 0 ≤ _)⟩)
  dsimp only [Pt.U, Pt.locs, Pt.cells, Pt.slots] at X2 l2 y2 z2 st2 hQ2
  subst l2 y2 z2
  obtain ⟨rfl, N2q, e2⟩ := hQ2
  have N2 := Fr.app N1 N2q
  obtain ⟨fs, hr, hrun, hended, hW, hsame⟩ := X2.leave (v := some (.int (0 : Int32))) (fun h => by rw [Bd.returns] at h; cases h)
  refine ⟨_, _, pre0 _ ?_, hrun, hended, _, _, rfl, ?_, ⟨_, rfl⟩, hW, hsame.mono (by decide) (by decide)⟩
  · show Steps p.tables e below (s₁.setTop (mkF m 0 #[.val (.ref (w 2)), .val (.long (9223372036854775807 : Int64)), .second, .val (.long (0 : Int64)), .second, .unset] [])) _
    refine XS.lloadN X0.here hx rfl (hb hby d_prog_47_method_11_code_0) rfl ?_
    show Steps p.tables e below (s₁.setTop (mkF m 1 #[.val (.ref (w 2)), .val (.long (9223372036854775807 : Int64)), .second, .val (.long (0 : Int64)), .second, .unset] [(.long (9223372036854775807 : Int64))])) _
    refine XS.lloadN X0.here hx rfl (hb hby d_prog_47_method_11_code_1) rfl ?_
    show Steps p.tables e below (s₁.setTop (mkF m 2 #[.val (.ref (w 2)), .val (.long (9223372036854775807 : Int64)), .second, .val (.long (0 : Int64)), .second, .unset] [(.long (0 : Int64)), (.long (9223372036854775807 : Int64))])) _
    refine st1 _ ?_
    show Steps p.tables e below (T1.setTop (mkF m 5 #[.val (.ref (w 2)), .val (.long (9223372036854775807 : Int64)), .second, .val (.long (0 : Int64)), .second, .unset] [(.int (1 : Int32))])) _
    refine XS.istore X1.here hx rfl (hb hby d_prog_47_method_11_code_5) rfl (l' := #[.val (.ref (w 2)), .val (.long (9223372036854775807 : Int64)), .second, .val (.long (0 : Int64)), .second, .val (.int (1 : Int32))]) rfl ?_
    show Steps p.tables e below (T1.setTop (mkF m 7 #[.val (.ref (w 2)), .val (.long (9223372036854775807 : Int64)), .second, .val (.long (0 : Int64)), .second, .val (.int (1 : Int32))] [])) _
    refine XS.aloadN X1.here hx rfl (hb hby d_prog_47_method_11_code_7) rfl rfl ?_
    show Steps p.tables e below (T1.setTop (mkF m 8 #[.val (.ref (w 2)), .val (.long (9223372036854775807 : Int64)), .second, .val (.long (0 : Int64)), .second, .val (.int (1 : Int32))] [(.ref (w 2))])) _
    refine st2.trans ?_
    show Steps p.tables e below (T2.setTop (mkF m 11 #[.val (.ref (w 2)), .val (.long (9223372036854775807 : Int64)), .second, .val (.long (0 : Int64)), .second, .val (.int (1 : Int32))] [(.int (2 : Int32))])) _
    refine XS.tswIn X2.here hx rfl (pc0 := 11) (pc' := 80) (o := 69) rfl (hb hby d_prog_47_method_11_code_11) rfl (by decide) (by decide) (by decide) (by decide) ?_
    show Steps p.tables e below (T2.setTop (mkF m 80 #[.val (.ref (w 2)), .val (.long (9223372036854775807 : Int64)), .second, .val (.long (0 : Int64)), .second, .val (.int (1 : Int32))] [])) _
    refine XS.iload X2.here hx rfl (hb hby d_prog_47_method_11_code_80) rfl ?_
    show Steps p.tables e below (T2.setTop (mkF m 82 #[.val (.ref (w 2)), .val (.long (9223372036854775807 : Int64)), .second, .val (.long (0 : Int64)), .second, .val (.int (1 : Int32))] [(.int (1 : Int32))])) _
    refine XS.ifYes X2.here hx rfl (pc0 := 82) (pc' := 89) rfl (hb hby d_prog_47_method_11_code_82) rfl ((if0 _ _).trans (feq (by decide : ¬ ((1 : Int32) = (0 : Int32)))).2) (by decide) (by decide) ?_
    show Steps p.tables e below (T2.setTop (mkF m 89 #[.val (.ref (w 2)), .val (.long (9223372036854775807 : Int64)), .second, .val (.long (0 : Int64)), .second, .val (.int (1 : Int32))] [])) _
    refine XS.iconst X2.here hx rfl (hb hby d_prog_47_method_11_code_89) ?_
    show Steps p.tables e below (T2.setTop (mkF m 90 #[.val (.ref (w 2)), .val (.long (9223372036854775807 : Int64)), .second, .val (.long (0 : Int64)), .second, .val (.int (1 : Int32))] [(.int (0 : Int32))])) _
    refine XS.goto X2.here hx rfl (pc0 := 90) (pc' := 116) rfl (hb hby d_prog_47_method_11_code_90) (by decide) (by decide) ?_
    show Steps p.tables e below (T2.setTop (mkF m 116 #[.val (.ref (w 2)), .val (.long (9223372036854775807 : Int64)), .second, .val (.long (0 : Int64)), .second, .val (.int (1 : Int32))] [(.int (0 : Int32))])) _
    exact retN X2 hx (t := .boolean) Bd.returns (by simp) (hb hby d_prog_47_method_11_code_116) hr
  · show OQ (some (.int (0 : Int32))) h0 Z.heap.size _ T2.heap _
    rw [e2]
    exact ⟨rfl, N2, rfl⟩
set_option maxRecDepth 65536 in
set_option maxHeartbeats 40000000 in
theorem law_18 (l : Launch) (Z : State) (a0 : Array Value) (hw : ∀ d ∈ tables_1, d.before a0 Z = true) (w : Nat → Addr) (kk : Nat → ClassId) (hN : Wd Z w kk) (ws : List Jvm.Cond) (p0 : Int32) (q1 : Int64) (h0 : Heap) (O0 : Old Z Z.heap.size h0) (hp0 : ((p0 &&& (2147483647 : Int32)) % (5 : Int32)) = (2 : Int32)) (hp1 : (lcmpW q1 (9223372036854775807 : Int64)) = (0 : Int32)) :
    MetFree l x (head1 (Jvm.Cond.code x code maxLocals ret :: ws) room_1) (fun a U => a = #[(.int p0), (.long q1)] ∧ Z.Warmed39 U.vm ∧ U.heap = h0) (fun _ _ _ _ _ => True) (fun _ U o U' => ∃ v L, o = .returned v ∧ OL (some (.int (1 : Int32))) Z.heap.size v U'.heap L ∧ FrameEnd U o U' L 16 128) := by
  have hN' := hN
  obtain ⟨hS0, hE0, hS1, hE1, hS2, hE2, hS3, hE3, hS4, hE4, hF0_ordinal, hF1_ordinal, hF4_ordinal, hF2_ordinal, hF3_ordinal⟩ := hN'
  refine MetFree.of_bodySF (plainFor_of_name pn_3) hisR ?_
  intro p e s m args below meth c s₁ Bd hml0 hP hK
  obtain ⟨rfl, hZ, hh⟩ := hP
  have hx := Bd.exec
  have hby := Bd.bytes
  have hml : c.maxLocals = 11 := hml0
  have hown : s.vm.findClass "com/example/stint/stint/model/RelationBoundsAbovePinLaw" = some m.cls := findClass_of_methodNamed Bd.named
  have hnm := (name_of_methodNamed Bd.named Bd.method).1
  have X0 : Stand p l e room_1 s m #[(.int p0), (.long q1)] below meth c s₁ [] 0 0 := Stand.of_body Bd
  have e0 : s₁.heap = h0 := by rw [← hh, Bd.state]; rfl
  have N0 := Fr.nil Z.heap.size
  have pre0 : ∀ t, Steps p.tables e below (s₁.setTop (mkF m 0 #[.val (.int p0), .val (.long q1), .second, .unset, .unset, .unset, .unset, .unset, .unset, .unset, .unset] [])) t → Steps p.tables e below (s₁.setTop (entryFrame m #[(.int p0), (.long q1)] maxLocals)) t := fun t k => castTop (ef_3 m (.int p0) rfl (.long q1) rfl) k
  obtain ⟨T1, h1, k1, X1, e1, E1, A1, Ov1, st1⟩ := newR X0 hx hZ hown (W hw 0 rfl) (W hw 1 rfl) e0 (g := (mkF m 1 #[.val (.int p0), .val (.long q1), .second, .unset, .unset, .unset, .unset, .unset, .unset, .unset, .unset] [(.int (5 : Int32))])) rfl (hb hby at_1) rfl (by decide) (cap := 5) (by decide) (by decide) (by decide) (by decide)
  obtain ⟨b1, g1⟩ : ∃ z, z = h0.size := ⟨_, rfl⟩
  rw [← g1] at A1 st1
  have gn_b1 : Z.heap.size ≤ b1 := Nat.le_trans O0.2.1 (Nat.le_of_eq g1.symm)
  have O1 := O0.ext E1
  have V_b1_v1 : Arv Z h1 b1 k1 (.object "com/example/stint/stint/model/Relation") (5 : Int32) [] .null := Arv.new A1 (by decide)
  obtain ⟨T2, X2, e2, st2⟩ := getS2 X1 hx hZ hown (host := "") (Or.inl (W hw 2 rfl)) Via.refl e1 (hS0.ext O1.2) (g := (mkF m 6 #[.val (.int p0), .val (.long q1), .second, .unset, .unset, .unset, .unset, .unset, .unset, .unset, .unset] [(.int (0 : Int32)), (.ref b1), (.ref b1)])) rfl (hb hby at_6)
  have V_b1_v3 : Arv Z h1 b1 k1 (.object "com/example/stint/stint/model/Relation") (5 : Int32) [.null] .null := V_b1_v1.pad (pad_rep [] .null 1)
  obtain ⟨cl4, Ar4, q4, Sz4, Ng4, Hv4, Gv4⟩ := V_b1_v3
  have hin4 : ¬ ((0 : Int32) < 0 ∨ cl4.slots.size ≤ ((0 : Int32)).toNatClampNeg) := inb_of Sz4 ⟨by decide, by decide⟩
  obtain ⟨T5, h5, X5, e5, W5, st5⟩ := stR X2 hx hZ e2 Ar4 (j := (0 : Int32)) (v := (.ref (w 0))) hin4 rfl (Sto.ofV Ar4 q4 Ov1 (Ins.self (hE0.ext O1.2))) (g := (mkF m 9 #[.val (.int p0), .val (.long q1), .second, .unset, .unset, .unset, .unset, .unset, .unset, .unset, .unset] [(.ref (w 0)), (.int (0 : Int32)), (.ref b1), (.ref b1)])) rfl rfl (hb hby at_9)
  have V_b1_v5 : Arv Z h5 b1 k1 (.object "com/example/stint/stint/model/Relation") (5 : Int32) [(.ref (w 0))] .null := Arv.set Ar4 q4 Sz4 Ng4 Hv4 Gv4 rfl W5 0 rfl (Nat.le_of_ble_eq_true rfl)
  have N5 := Fr.snoc X5 N0 gn_b1
  have O5 := O1.wr W5 gn_b1
  obtain ⟨T6, X6, e6, st6⟩ := getS2 X5 hx hZ hown (host := "") (Or.inl (W hw 6 rfl)) Via.refl e5 (hS1.ext O5.2) (g := (mkF m 12 #[.val (.int p0), .val (.long q1), .second, .unset, .unset, .unset, .unset, .unset, .unset, .unset, .unset] [(.int (1 : Int32)), (.ref b1), (.ref b1)])) rfl (hb hby at_12)
  have V_b1_v7 : Arv Z h5 b1 k1 (.object "com/example/stint/stint/model/Relation") (5 : Int32) [(.ref (w 0)), .null] .null := V_b1_v5.pad (pad_rep [(.ref (w 0))] .null 1)
  obtain ⟨cl8, Ar8, q8, Sz8, Ng8, Hv8, Gv8⟩ := V_b1_v7
  have hin8 : ¬ ((1 : Int32) < 0 ∨ cl8.slots.size ≤ ((1 : Int32)).toNatClampNeg) := inb_of Sz8 ⟨by decide, by decide⟩
  obtain ⟨T9, h9, X9, e9, W9, st9⟩ := stR X6 hx hZ e6 Ar8 (j := (1 : Int32)) (v := (.ref (w 1))) hin8 rfl (Sto.ofV Ar8 q8 Ov1 (Ins.self (hE1.ext O5.2))) (g := (mkF m 15 #[.val (.int p0), .val (.long q1), .second, .unset, .unset, .unset, .unset, .unset, .unset, .unset, .unset] [(.ref (w 1)), (.int (1 : Int32)), (.ref b1), (.ref b1)])) rfl rfl (hb hby at_15)
  have V_b1_v9 : Arv Z h9 b1 k1 (.object "com/example/stint/stint/model/Relation") (5 : Int32) [(.ref (w 0)), (.ref (w 1))] .null := Arv.set Ar8 q8 Sz8 Ng8 Hv8 Gv8 rfl W9 1 rfl (Nat.le_of_ble_eq_true rfl)
  have N9 := Fr.snoc X9 N5 gn_b1
  have O9 := O5.wr W9 gn_b1
  obtain ⟨T10, X10, e10, st10⟩ := getS2 X9 hx hZ hown (host := "") (Or.inl (W hw 8 rfl)) Via.refl e9 (hS2.ext O9.2) (g := (mkF m 18 #[.val (.int p0), .val (.long q1), .second, .unset, .unset, .unset, .unset, .unset, .unset, .unset, .unset] [(.int (2 : Int32)), (.ref b1), (.ref b1)])) rfl (hb hby at_18)
  have V_b1_v11 : Arv Z h9 b1 k1 (.object "com/example/stint/stint/model/Relation") (5 : Int32) [(.ref (w 0)), (.ref (w 1)), .null] .null := V_b1_v9.pad (pad_rep [(.ref (w 0)), (.ref (w 1))] .null 1)
  obtain ⟨cl12, Ar12, q12, Sz12, Ng12, Hv12, Gv12⟩ := V_b1_v11
  have hin12 : ¬ ((2 : Int32) < 0 ∨ cl12.slots.size ≤ ((2 : Int32)).toNatClampNeg) := inb_of Sz12 ⟨by decide, by decide⟩
  obtain ⟨T13, h13, X13, e13, W13, st13⟩ := stR X10 hx hZ e10 Ar12 (j := (2 : Int32)) (v := (.ref (w 2))) hin12 rfl (Sto.ofV Ar12 q12 Ov1 (Ins.self (hE2.ext O9.2))) (g := (mkF m 21 #[.val (.int p0), .val (.long q1), .second, .unset, .unset, .unset, .unset, .unset, .unset, .unset, .unset] [(.ref (w 2)), (.int (2 : Int32)), (.ref b1), (.ref b1)])) rfl rfl (hb hby at_21)
  have V_b1_v13 : Arv Z h13 b1 k1 (.object "com/example/stint/stint/model/Relation") (5 : Int32) [(.ref (w 0)), (.ref (w 1)), (.ref (w 2))] .null := Arv.set Ar12 q12 Sz12 Ng12 Hv12 Gv12 rfl W13 2 rfl (Nat.le_of_ble_eq_true rfl)
  have N13 := Fr.snoc X13 N9 gn_b1
  have O13 := O9.wr W13 gn_b1
  obtain ⟨T14, X14, e14, st14⟩ := getS2 X13 hx hZ hown (host := "") (Or.inl (W hw 10 rfl)) Via.refl e13 (hS3.ext O13.2) (g := (mkF m 24 #[.val (.int p0), .val (.long q1), .second, .unset, .unset, .unset, .unset, .unset, .unset, .unset, .unset] [(.int (3 : Int32)), (.ref b1), (.ref b1)])) rfl (hb hby at_24)
  have V_b1_v15 : Arv Z h13 b1 k1 (.object "com/example/stint/stint/model/Relation") (5 : Int32) [(.ref (w 0)), (.ref (w 1)), (.ref (w 2)), .null] .null := V_b1_v13.pad (pad_rep [(.ref (w 0)), (.ref (w 1)), (.ref (w 2))] .null 1)
  obtain ⟨cl16, Ar16, q16, Sz16, Ng16, Hv16, Gv16⟩ := V_b1_v15
  have hin16 : ¬ ((3 : Int32) < 0 ∨ cl16.slots.size ≤ ((3 : Int32)).toNatClampNeg) := inb_of Sz16 ⟨by decide, by decide⟩
  obtain ⟨T17, h17, X17, e17, W17, st17⟩ := stR X14 hx hZ e14 Ar16 (j := (3 : Int32)) (v := (.ref (w 3))) hin16 rfl (Sto.ofV Ar16 q16 Ov1 (Ins.self (hE3.ext O13.2))) (g := (mkF m 27 #[.val (.int p0), .val (.long q1), .second, .unset, .unset, .unset, .unset, .unset, .unset, .unset, .unset] [(.ref (w 3)), (.int (3 : Int32)), (.ref b1), (.ref b1)])) rfl rfl (hb hby at_27)
  have V_b1_v17 : Arv Z h17 b1 k1 (.object "com/example/stint/stint/model/Relation") (5 : Int32) [(.ref (w 0)), (.ref (w 1)), (.ref (w 2)), (.ref (w 3))] .null := Arv.set Ar16 q16 Sz16 Ng16 Hv16 Gv16 rfl W17 3 rfl (Nat.le_of_ble_eq_true rfl)
  have N17 := Fr.snoc X17 N13 gn_b1
  have O17 := O13.wr W17 gn_b1
  obtain ⟨T18, X18, e18, st18⟩ := getS2 X17 hx hZ hown (host := "") (Or.inl (W hw 12 rfl)) Via.refl e17 (hS4.ext O17.2) (g := (mkF m 30 #[.val (.int p0), .val (.long q1), .second, .unset, .unset, .unset, .unset, .unset, .unset, .unset, .unset] [(.int (4 : Int32)), (.ref b1), (.ref b1)])) rfl (hb hby at_30)
  have V_b1_v19 : Arv Z h17 b1 k1 (.object "com/example/stint/stint/model/Relation") (5 : Int32) [(.ref (w 0)), (.ref (w 1)), (.ref (w 2)), (.ref (w 3)), .null] .null := V_b1_v17.pad (pad_rep [(.ref (w 0)), (.ref (w 1)), (.ref (w 2)), (.ref (w 3))] .null 1)
  obtain ⟨cl20, Ar20, q20, Sz20, Ng20, Hv20, Gv20⟩ := V_b1_v19
  have hin20 : ¬ ((4 : Int32) < 0 ∨ cl20.slots.size ≤ ((4 : Int32)).toNatClampNeg) := inb_of Sz20 ⟨by decide, by decide⟩
  obtain ⟨T21, h21, X21, e21, W21, st21⟩ := stR X18 hx hZ e18 Ar20 (j := (4 : Int32)) (v := (.ref (w 4))) hin20 rfl (Sto.ofV Ar20 q20 Ov1 (Ins.self (hE4.ext O17.2))) (g := (mkF m 33 #[.val (.int p0), .val (.long q1), .second, .unset, .unset, .unset, .unset, .unset, .unset, .unset, .unset] [(.ref (w 4)), (.int (4 : Int32)), (.ref b1), (.ref b1)])) rfl rfl (hb hby at_33)
  have V_b1_v21 : Arv Z h21 b1 k1 (.object "com/example/stint/stint/model/Relation") (5 : Int32) [(.ref (w 0)), (.ref (w 1)), (.ref (w 2)), (.ref (w 3)), (.ref (w 4))] .null := Arv.set Ar20 q20 Sz20 Ng20 Hv20 Gv20 rfl W21 4 rfl (Nat.le_of_ble_eq_true rfl)
  have N21 := Fr.snoc X21 N17 gn_b1
  have O21 := O17.wr W21 gn_b1
  obtain ⟨cl22, Ar22, q22, Sz22, Ng22, Hv22, Gv22⟩ := V_b1_v21
  have hin22 : ¬ ((2 : Int32) < 0 ∨ cl22.slots.size ≤ ((2 : Int32)).toNatClampNeg) := inb_of Sz22 ⟨by decide, by decide⟩
  have hat22 : cl22.slots[((2 : Int32)).toNatClampNeg]? = some (.ref (w 2)) := Has.at Hv22 hin22 (by rfl)
  obtain ⟨cq23, kq23, q23a, q23b, q23c⟩ := isOf hZ e21 (hE2.ext O21.2)
  obtain ⟨_, _, ⟨T23, L23, k23, n23⟩, -, X23, ⟨Lc23, hQ23, l23, y23, z23⟩, st23⟩ := X21.virtualBack hx (y := (⟨"com/example/stint/stint/model/Relation", "boundsAbove", "()Z"⟩ : MethodName)) (z := (⟨"com/example/stint/stint/model/Relation", "boundsAbove", "()Z"⟩ : MethodName)) hown (mvT hZ (W hw 16 rfl)) (mvT hZ (W hw 17 rfl)) (notFace_of_selects (args := #[]) (mvT hZ (W hw 19 rfl))) (mvT hZ (W hw 19 rfl)) (mvT hZ (W hw 18 rfl)) (by decide) (backOf (W := 0) (rm_15 l Z a0 hw w kk hN [] h21 O21) hZ (W hw 20 rfl) (W hw 3 rfl) (by decide) (by decide)) q23a q23c (g := (mkF m 66 #[.val (.int p0), .val (.long q1), .second, .val (.ref b1), .val (.int (2 : Int32)), .val (.ref (w 2)), .val (.long (0 : Int64)), .second, .unset, .unset, .unset] [(.ref (w 2))])) rfl (by rw [hml]; rfl) (Steps.refl _) (argsL := []) (rest := []) (lenOf pd_0 rfl) rfl (by show 2 * 0 + _ ≤ _; exact Nat.le_of_eq rfl) (hb hby at_66) (fun _ _ => ⟨rfl, e21, (by decide : 1 + 0 ≤ _), (by decide : 5 + 0 ≤ _)⟩)
  dsimp only [Pt.U, Pt.locs, Pt.cells, Pt.slots] at X23 l23 y23 z23 st23 hQ23
  subst l23 y23 z23
  obtain ⟨rfl, N23q, e23⟩ := hQ23
  have N23 := Fr.app N21 N23q
  obtain ⟨cq24, kq24, q24a, q24b, q24c⟩ := isOf hZ e23 (hE2.ext O21.2)
  obtain ⟨_, _, ⟨T24, L24, k24, n24⟩, -, X24, ⟨Lc24, hQ24, l24, y24, z24⟩, st24⟩ := X23.virtualBack hx (y := (⟨"com/example/stint/stint/model/Relation", "holds", "(JJ)Z"⟩ : MethodName)) (z := (⟨"com/example/stint/stint/model/Relation", "holds", "(JJ)Z"⟩ : MethodName)) hown (mvT hZ (W hw 22 rfl)) (mvT hZ (W hw 23 rfl)) (notFace_of_selects (args := #[]) (mvT hZ (W hw 25 rfl))) (mvT hZ (W hw 25 rfl)) (mvT hZ (W hw 24 rfl)) (by decide) (backOf (W := 0) (rm_17 l Z a0 hw w kk hN [] h21 O21) hZ (W hw 26 rfl) (W hw 3 rfl) (by decide) (by decide)) q24a q24c (g := (mkF m 91 #[.val (.int p0), .val (.long q1), .second, .val (.ref b1), .val (.int (2 : Int32)), .val (.ref (w 2)), .val (.long (0 : Int64)), .second, .val (.int (1 : Int32)), .val (.int (1 : Int32)), .unset] [(.long (0 : Int64)), (.long (9223372036854775807 : Int64)), (.ref (w 2))])) rfl (by rw [hml]; rfl) (Steps.refl _) (argsL := [(.long (9223372036854775807 : Int64)), (.long (0 : Int64))]) (rest := []) (lenOf pd_3 rfl) rfl (by show 2 * 0 + _ ≤ _; exact Nat.le_of_eq rfl) (hb hby at_91) (fun _ _ => ⟨rfl, e23, (by decide : 1 + 0 ≤ _), (by decide : 5 + 0 ≤ _)⟩)
  dsimp only [Pt.U, Pt.locs, Pt.cells, Pt.slots] at X24 l24 y24 z24 st24 hQ24
  subst l24 y24 z24
  obtain ⟨rfl, N24q, e24⟩ := hQ24
  have N24 := Fr.app N23 N24q
  obtain ⟨fs, hr, hrun, hended, hW, hsame⟩ := X24.leave (v := some (.int (1 : Int32))) (fun h => by rw [Bd.returns] at h; cases h)
  refine ⟨_, _, pre0 _ ?_, hrun, hended, _, _, rfl, ?_, ⟨_, rfl⟩, hW, hsame.mono (by decide) (by decide)⟩
  · show Steps p.tables e below (s₁.setTop (mkF m 0 #[.val (.int p0), .val (.long q1), .second, .unset, .unset, .unset, .unset, .unset, .unset, .unset, .unset] [])) _
    refine XS.iconst X0.here hx rfl (hb hby at_0) ?_
    show Steps p.tables e below (s₁.setTop (mkF m 1 #[.val (.int p0), .val (.long q1), .second, .unset, .unset, .unset, .unset, .unset, .unset, .unset, .unset] [(.int (5 : Int32))])) _
    refine st1 _ ?_
    show Steps p.tables e below (T1.setTop (mkF m 4 #[.val (.int p0), .val (.long q1), .second, .unset, .unset, .unset, .unset, .unset, .unset, .unset, .unset] [(.ref b1)])) _
    refine XS.dup X1.here hx rfl (hb hby at_4) rfl rfl ?_
    show Steps p.tables e below (T1.setTop (mkF m 5 #[.val (.int p0), .val (.long q1), .second, .unset, .unset, .unset, .unset, .unset, .unset, .unset, .unset] [(.ref b1), (.ref b1)])) _
    refine XS.iconst X1.here hx rfl (hb hby at_5) ?_
    show Steps p.tables e below (T1.setTop (mkF m 6 #[.val (.int p0), .val (.long q1), .second, .unset, .unset, .unset, .unset, .unset, .unset, .unset, .unset] [(.int (0 : Int32)), (.ref b1), (.ref b1)])) _
    refine st2 _ ?_
    show Steps p.tables e below (T2.setTop (mkF m 9 #[.val (.int p0), .val (.long q1), .second, .unset, .unset, .unset, .unset, .unset, .unset, .unset, .unset] [(.ref (w 0)), (.int (0 : Int32)), (.ref b1), (.ref b1)])) _
    refine st5 _ ?_
    show Steps p.tables e below (T5.setTop (mkF m 10 #[.val (.int p0), .val (.long q1), .second, .unset, .unset, .unset, .unset, .unset, .unset, .unset, .unset] [(.ref b1)])) _
    refine XS.dup X5.here hx rfl (hb hby at_10) rfl rfl ?_
    show Steps p.tables e below (T5.setTop (mkF m 11 #[.val (.int p0), .val (.long q1), .second, .unset, .unset, .unset, .unset, .unset, .unset, .unset, .unset] [(.ref b1), (.ref b1)])) _
    refine XS.iconst X5.here hx rfl (hb hby at_11) ?_
    show Steps p.tables e below (T5.setTop (mkF m 12 #[.val (.int p0), .val (.long q1), .second, .unset, .unset, .unset, .unset, .unset, .unset, .unset, .unset] [(.int (1 : Int32)), (.ref b1), (.ref b1)])) _
    refine st6 _ ?_
    show Steps p.tables e below (T6.setTop (mkF m 15 #[.val (.int p0), .val (.long q1), .second, .unset, .unset, .unset, .unset, .unset, .unset, .unset, .unset] [(.ref (w 1)), (.int (1 : Int32)), (.ref b1), (.ref b1)])) _
    refine st9 _ ?_
    show Steps p.tables e below (T9.setTop (mkF m 16 #[.val (.int p0), .val (.long q1), .second, .unset, .unset, .unset, .unset, .unset, .unset, .unset, .unset] [(.ref b1)])) _
    refine XS.dup X9.here hx rfl (hb hby at_16) rfl rfl ?_
    show Steps p.tables e below (T9.setTop (mkF m 17 #[.val (.int p0), .val (.long q1), .second, .unset, .unset, .unset, .unset, .unset, .unset, .unset, .unset] [(.ref b1), (.ref b1)])) _
    refine XS.iconst X9.here hx rfl (hb hby at_17) ?_
    show Steps p.tables e below (T9.setTop (mkF m 18 #[.val (.int p0), .val (.long q1), .second, .unset, .unset, .unset, .unset, .unset, .unset, .unset, .unset] [(.int (2 : Int32)), (.ref b1), (.ref b1)])) _
    refine st10 _ ?_
    show Steps p.tables e below (T10.setTop (mkF m 21 #[.val (.int p0), .val (.long q1), .second, .unset, .unset, .unset, .unset, .unset, .unset, .unset, .unset] [(.ref (w 2)), (.int (2 : Int32)), (.ref b1), (.ref b1)])) _
    refine st13 _ ?_
    show Steps p.tables e below (T13.setTop (mkF m 22 #[.val (.int p0), .val (.long q1), .second, .unset, .unset, .unset, .unset, .unset, .unset, .unset, .unset] [(.ref b1)])) _
    refine XS.dup X13.here hx rfl (hb hby at_22) rfl rfl ?_
    show Steps p.tables e below (T13.setTop (mkF m 23 #[.val (.int p0), .val (.long q1), .second, .unset, .unset, .unset, .unset, .unset, .unset, .unset, .unset] [(.ref b1), (.ref b1)])) _
    refine XS.iconst X13.here hx rfl (hb hby at_23) ?_
    show Steps p.tables e below (T13.setTop (mkF m 24 #[.val (.int p0), .val (.long q1), .second, .unset, .unset, .unset, .unset, .unset, .unset, .unset, .unset] [(.int (3 : Int32)), (.ref b1), (.ref b1)])) _
    refine st14 _ ?_
    show Steps p.tables e below (T14.setTop (mkF m 27 #[.val (.int p0), .val (.long q1), .second, .unset, .unset, .unset, .unset, .unset, .unset, .unset, .unset] [(.ref (w 3)), (.int (3 : Int32)), (.ref b1), (.ref b1)])) _
    refine st17 _ ?_
    show Steps p.tables e below (T17.setTop (mkF m 28 #[.val (.int p0), .val (.long q1), .second, .unset, .unset, .unset, .unset, .unset, .unset, .unset, .unset] [(.ref b1)])) _
    refine XS.dup X17.here hx rfl (hb hby at_28) rfl rfl ?_
    show Steps p.tables e below (T17.setTop (mkF m 29 #[.val (.int p0), .val (.long q1), .second, .unset, .unset, .unset, .unset, .unset, .unset, .unset, .unset] [(.ref b1), (.ref b1)])) _
    refine XS.iconst X17.here hx rfl (hb hby at_29) ?_
    show Steps p.tables e below (T17.setTop (mkF m 30 #[.val (.int p0), .val (.long q1), .second, .unset, .unset, .unset, .unset, .unset, .unset, .unset, .unset] [(.int (4 : Int32)), (.ref b1), (.ref b1)])) _
    refine st18 _ ?_
    show Steps p.tables e below (T18.setTop (mkF m 33 #[.val (.int p0), .val (.long q1), .second, .unset, .unset, .unset, .unset, .unset, .unset, .unset, .unset] [(.ref (w 4)), (.int (4 : Int32)), (.ref b1), (.ref b1)])) _
    refine st21 _ ?_
    show Steps p.tables e below (T21.setTop (mkF m 34 #[.val (.int p0), .val (.long q1), .second, .unset, .unset, .unset, .unset, .unset, .unset, .unset, .unset] [(.ref b1)])) _
    refine XS.astoreN X21.here hx rfl (hb hby at_34) rfl rfl (l' := #[.val (.int p0), .val (.long q1), .second, .val (.ref b1), .unset, .unset, .unset, .unset, .unset, .unset, .unset]) rfl ?_
    show Steps p.tables e below (T21.setTop (mkF m 35 #[.val (.int p0), .val (.long q1), .second, .val (.ref b1), .unset, .unset, .unset, .unset, .unset, .unset, .unset] [])) _
    refine XS.iloadN X21.here hx rfl (hb hby at_35) rfl ?_
    show Steps p.tables e below (T21.setTop (mkF m 36 #[.val (.int p0), .val (.long q1), .second, .val (.ref b1), .unset, .unset, .unset, .unset, .unset, .unset, .unset] [(.int p0)])) _
    refine X21.ldcInt hx hown (mvT hZ (W hw 14 rfl)) (g := (mkF m 36 #[.val (.int p0), .val (.long q1), .second, .val (.ref b1), .unset, .unset, .unset, .unset, .unset, .unset, .unset] [(.int p0)])) rfl (hb hby at_36) _ ?_
    show Steps p.tables e below (T21.setTop (mkF m 38 #[.val (.int p0), .val (.long q1), .second, .val (.ref b1), .unset, .unset, .unset, .unset, .unset, .unset, .unset] [(.int (2147483647 : Int32)), (.int p0)])) _
    refine XS.iand X21.here hx rfl (hb hby at_38) rfl ?_
    show Steps p.tables e below (T21.setTop (mkF m 39 #[.val (.int p0), .val (.long q1), .second, .val (.ref b1), .unset, .unset, .unset, .unset, .unset, .unset, .unset] [(.int (p0 &&& (2147483647 : Int32)))])) _
    refine XS.iconst X21.here hx rfl (hb hby at_39) ?_
    show Steps p.tables e below (T21.setTop (mkF m 40 #[.val (.int p0), .val (.long q1), .second, .val (.ref b1), .unset, .unset, .unset, .unset, .unset, .unset, .unset] [(.int (5 : Int32)), (.int (p0 &&& (2147483647 : Int32)))])) _
    refine iremM X21 hx rfl (hb hby at_40) rfl (by decide : ¬ ((5 : Int32) = (0 : Int32))) ?_
    show Steps p.tables e below (T21.setTop (mkF m 41 #[.val (.int p0), .val (.long q1), .second, .val (.ref b1), .unset, .unset, .unset, .unset, .unset, .unset, .unset] [(.int ((p0 &&& (2147483647 : Int32)) % (5 : Int32)))])) _
    rw [hp0]
    show Steps p.tables e below (T21.setTop (mkF m 41 #[.val (.int p0), .val (.long q1), .second, .val (.ref b1), .unset, .unset, .unset, .unset, .unset, .unset, .unset] [(.int (2 : Int32))])) _
    refine XS.istore X21.here hx rfl (hb hby at_41) rfl (l' := #[.val (.int p0), .val (.long q1), .second, .val (.ref b1), .val (.int (2 : Int32)), .unset, .unset, .unset, .unset, .unset, .unset]) rfl ?_
    show Steps p.tables e below (T21.setTop (mkF m 43 #[.val (.int p0), .val (.long q1), .second, .val (.ref b1), .val (.int (2 : Int32)), .unset, .unset, .unset, .unset, .unset, .unset] [])) _
    refine XS.aloadN X21.here hx rfl (hb hby at_43) rfl rfl ?_
    show Steps p.tables e below (T21.setTop (mkF m 44 #[.val (.int p0), .val (.long q1), .second, .val (.ref b1), .val (.int (2 : Int32)), .unset, .unset, .unset, .unset, .unset, .unset] [(.ref b1)])) _
    refine XS.iload X21.here hx rfl (hb hby at_44) rfl ?_
    show Steps p.tables e below (T21.setTop (mkF m 46 #[.val (.int p0), .val (.long q1), .second, .val (.ref b1), .val (.int (2 : Int32)), .unset, .unset, .unset, .unset, .unset, .unset] [(.int (2 : Int32)), (.ref b1)])) _
    refine X21.aaload hx (j := (2 : Int32)) (v := (.ref (w 2))) (by rw [e21]; exact Ar22.1) (State.isArrayOf_alike hZ.alike Ar22.2.1) rfl Ar22.2.2 hin22 hat22 (g := (mkF m 46 #[.val (.int p0), .val (.long q1), .second, .val (.ref b1), .val (.int (2 : Int32)), .unset, .unset, .unset, .unset, .unset, .unset] [(.int (2 : Int32)), (.ref b1)])) rfl rfl (hb hby at_46) _ ?_
    show Steps p.tables e below (T21.setTop (mkF m 47 #[.val (.int p0), .val (.long q1), .second, .val (.ref b1), .val (.int (2 : Int32)), .unset, .unset, .unset, .unset, .unset, .unset] [(.ref (w 2))])) _
    refine XS.astore X21.here hx rfl (hb hby at_47) rfl rfl (l' := #[.val (.int p0), .val (.long q1), .second, .val (.ref b1), .val (.int (2 : Int32)), .val (.ref (w 2)), .unset, .unset, .unset, .unset, .unset]) rfl ?_
    show Steps p.tables e below (T21.setTop (mkF m 49 #[.val (.int p0), .val (.long q1), .second, .val (.ref b1), .val (.int (2 : Int32)), .val (.ref (w 2)), .unset, .unset, .unset, .unset, .unset] [])) _
    refine XS.lloadN X21.here hx rfl (hb hby at_49) rfl ?_
    show Steps p.tables e below (T21.setTop (mkF m 50 #[.val (.int p0), .val (.long q1), .second, .val (.ref b1), .val (.int (2 : Int32)), .val (.ref (w 2)), .unset, .unset, .unset, .unset, .unset] [(.long q1)])) _
    refine XS.lstore X21.here hx rfl (hb hby at_50) rfl (l' := #[.val (.int p0), .val (.long q1), .second, .val (.ref b1), .val (.int (2 : Int32)), .val (.ref (w 2)), .val (.long q1), .second, .unset, .unset, .unset]) rfl ?_
    show Steps p.tables e below (T21.setTop (mkF m 52 #[.val (.int p0), .val (.long q1), .second, .val (.ref b1), .val (.int (2 : Int32)), .val (.ref (w 2)), .val (.long q1), .second, .unset, .unset, .unset] [])) _
    refine XS.lload X21.here hx rfl (hb hby at_52) rfl ?_
    show Steps p.tables e below (T21.setTop (mkF m 54 #[.val (.int p0), .val (.long q1), .second, .val (.ref b1), .val (.int (2 : Int32)), .val (.ref (w 2)), .val (.long q1), .second, .unset, .unset, .unset] [(.long q1)])) _
    refine X21.ldc2Long hx hown (mvT hZ (W hw 15 rfl)) (g := (mkF m 54 #[.val (.int p0), .val (.long q1), .second, .val (.ref b1), .val (.int (2 : Int32)), .val (.ref (w 2)), .val (.long q1), .second, .unset, .unset, .unset] [(.long q1)])) rfl (hb hby at_54) _ ?_
    show Steps p.tables e below (T21.setTop (mkF m 57 #[.val (.int p0), .val (.long q1), .second, .val (.ref b1), .val (.int (2 : Int32)), .val (.ref (w 2)), .val (.long q1), .second, .unset, .unset, .unset] [(.long (9223372036854775807 : Int64)), (.long q1)])) _
    refine XS.lcmp X21.here hx rfl (hb hby at_57) rfl ?_
    show Steps p.tables e below (T21.setTop (mkF m 58 #[.val (.int p0), .val (.long q1), .second, .val (.ref b1), .val (.int (2 : Int32)), .val (.ref (w 2)), .val (.long q1), .second, .unset, .unset, .unset] [(.int (lcmpW q1 (9223372036854775807 : Int64)))])) _
    refine XS.ifNo X21.here hx rfl (hb hby at_58) rfl ((if0 _ _).trans (teq hp1).2) ?_
    show Steps p.tables e below (T21.setTop (mkF m 61 #[.val (.int p0), .val (.long q1), .second, .val (.ref b1), .val (.int (2 : Int32)), .val (.ref (w 2)), .val (.long q1), .second, .unset, .unset, .unset] [])) _
    refine XS.lconst X21.here hx rfl (hb hby at_61) ?_
    show Steps p.tables e below (T21.setTop (mkF m 62 #[.val (.int p0), .val (.long q1), .second, .val (.ref b1), .val (.int (2 : Int32)), .val (.ref (w 2)), .val (.long q1), .second, .unset, .unset, .unset] [(.long (0 : Int64))])) _
    refine XS.lstore X21.here hx rfl (hb hby at_62) rfl (l' := #[.val (.int p0), .val (.long q1), .second, .val (.ref b1), .val (.int (2 : Int32)), .val (.ref (w 2)), .val (.long (0 : Int64)), .second, .unset, .unset, .unset]) rfl ?_
    show Steps p.tables e below (T21.setTop (mkF m 64 #[.val (.int p0), .val (.long q1), .second, .val (.ref b1), .val (.int (2 : Int32)), .val (.ref (w 2)), .val (.long (0 : Int64)), .second, .unset, .unset, .unset] [])) _
    refine XS.aload X21.here hx rfl (hb hby at_64) rfl rfl ?_
    show Steps p.tables e below (T21.setTop (mkF m 66 #[.val (.int p0), .val (.long q1), .second, .val (.ref b1), .val (.int (2 : Int32)), .val (.ref (w 2)), .val (.long (0 : Int64)), .second, .unset, .unset, .unset] [(.ref (w 2))])) _
    refine st23.trans ?_
    show Steps p.tables e below (T23.setTop (mkF m 69 #[.val (.int p0), .val (.long q1), .second, .val (.ref b1), .val (.int (2 : Int32)), .val (.ref (w 2)), .val (.long (0 : Int64)), .second, .unset, .unset, .unset] [(.int (1 : Int32))])) _
    refine XS.istore X23.here hx rfl (hb hby at_69) rfl (l' := #[.val (.int p0), .val (.long q1), .second, .val (.ref b1), .val (.int (2 : Int32)), .val (.ref (w 2)), .val (.long (0 : Int64)), .second, .val (.int (1 : Int32)), .unset, .unset]) rfl ?_
    show Steps p.tables e below (T23.setTop (mkF m 71 #[.val (.int p0), .val (.long q1), .second, .val (.ref b1), .val (.int (2 : Int32)), .val (.ref (w 2)), .val (.long (0 : Int64)), .second, .val (.int (1 : Int32)), .unset, .unset] [])) _
    refine XS.iload X23.here hx rfl (hb hby at_71) rfl ?_
    show Steps p.tables e below (T23.setTop (mkF m 73 #[.val (.int p0), .val (.long q1), .second, .val (.ref b1), .val (.int (2 : Int32)), .val (.ref (w 2)), .val (.long (0 : Int64)), .second, .val (.int (1 : Int32)), .unset, .unset] [(.int (2 : Int32))])) _
    refine XS.iconst X23.here hx rfl (hb hby at_73) ?_
    show Steps p.tables e below (T23.setTop (mkF m 74 #[.val (.int p0), .val (.long q1), .second, .val (.ref b1), .val (.int (2 : Int32)), .val (.ref (w 2)), .val (.long (0 : Int64)), .second, .val (.int (1 : Int32)), .unset, .unset] [(.int (2 : Int32)), (.int (2 : Int32))])) _
    refine XS.icmpNo X23.here hx rfl (hb hby at_74) rfl (flt (by decide : ¬ ((2 : Int32) < (2 : Int32)))).2.2.1 ?_
    show Steps p.tables e below (T23.setTop (mkF m 77 #[.val (.int p0), .val (.long q1), .second, .val (.ref b1), .val (.int (2 : Int32)), .val (.ref (w 2)), .val (.long (0 : Int64)), .second, .val (.int (1 : Int32)), .unset, .unset] [])) _
    refine XS.iconst X23.here hx rfl (hb hby at_77) ?_
    show Steps p.tables e below (T23.setTop (mkF m 78 #[.val (.int p0), .val (.long q1), .second, .val (.ref b1), .val (.int (2 : Int32)), .val (.ref (w 2)), .val (.long (0 : Int64)), .second, .val (.int (1 : Int32)), .unset, .unset] [(.int (1 : Int32))])) _
    refine XS.goto X23.here hx rfl (pc0 := 78) (pc' := 82) rfl (hb hby at_78) (by decide) (by decide) ?_
    show Steps p.tables e below (T23.setTop (mkF m 82 #[.val (.int p0), .val (.long q1), .second, .val (.ref b1), .val (.int (2 : Int32)), .val (.ref (w 2)), .val (.long (0 : Int64)), .second, .val (.int (1 : Int32)), .unset, .unset] [(.int (1 : Int32))])) _
    refine XS.istore X23.here hx rfl (hb hby at_82) rfl (l' := #[.val (.int p0), .val (.long q1), .second, .val (.ref b1), .val (.int (2 : Int32)), .val (.ref (w 2)), .val (.long (0 : Int64)), .second, .val (.int (1 : Int32)), .val (.int (1 : Int32)), .unset]) rfl ?_
    show Steps p.tables e below (T23.setTop (mkF m 84 #[.val (.int p0), .val (.long q1), .second, .val (.ref b1), .val (.int (2 : Int32)), .val (.ref (w 2)), .val (.long (0 : Int64)), .second, .val (.int (1 : Int32)), .val (.int (1 : Int32)), .unset] [])) _
    refine XS.aload X23.here hx rfl (hb hby at_84) rfl rfl ?_
    show Steps p.tables e below (T23.setTop (mkF m 86 #[.val (.int p0), .val (.long q1), .second, .val (.ref b1), .val (.int (2 : Int32)), .val (.ref (w 2)), .val (.long (0 : Int64)), .second, .val (.int (1 : Int32)), .val (.int (1 : Int32)), .unset] [(.ref (w 2))])) _
    refine X23.ldc2Long hx hown (mvT hZ (W hw 15 rfl)) (g := (mkF m 86 #[.val (.int p0), .val (.long q1), .second, .val (.ref b1), .val (.int (2 : Int32)), .val (.ref (w 2)), .val (.long (0 : Int64)), .second, .val (.int (1 : Int32)), .val (.int (1 : Int32)), .unset] [(.ref (w 2))])) rfl (hb hby at_86) _ ?_
    show Steps p.tables e below (T23.setTop (mkF m 89 #[.val (.int p0), .val (.long q1), .second, .val (.ref b1), .val (.int (2 : Int32)), .val (.ref (w 2)), .val (.long (0 : Int64)), .second, .val (.int (1 : Int32)), .val (.int (1 : Int32)), .unset] [(.long (9223372036854775807 : Int64)), (.ref (w 2))])) _
    refine XS.lload X23.here hx rfl (hb hby at_89) rfl ?_
    show Steps p.tables e below (T23.setTop (mkF m 91 #[.val (.int p0), .val (.long q1), .second, .val (.ref b1), .val (.int (2 : Int32)), .val (.ref (w 2)), .val (.long (0 : Int64)), .second, .val (.int (1 : Int32)), .val (.int (1 : Int32)), .unset] [(.long (0 : Int64)), (.long (9223372036854775807 : Int64)), (.ref (w 2))])) _
    refine st24.trans ?_
    show Steps p.tables e below (T24.setTop (mkF m 94 #[.val (.int p0), .val (.long q1), .second, .val (.ref b1), .val (.int (2 : Int32)), .val (.ref (w 2)), .val (.long (0 : Int64)), .second, .val (.int (1 : Int32)), .val (.int (1 : Int32)), .unset] [(.int (0 : Int32))])) _
    refine XS.ifNo X24.here hx rfl (hb hby at_94) rfl ((if0 _ _).trans (teq (by decide : (0 : Int32) = (0 : Int32))).2) ?_
    show Steps p.tables e below (T24.setTop (mkF m 97 #[.val (.int p0), .val (.long q1), .second, .val (.ref b1), .val (.int (2 : Int32)), .val (.ref (w 2)), .val (.long (0 : Int64)), .second, .val (.int (1 : Int32)), .val (.int (1 : Int32)), .unset] [])) _
    refine XS.iconst X24.here hx rfl (hb hby at_97) ?_
    show Steps p.tables e below (T24.setTop (mkF m 98 #[.val (.int p0), .val (.long q1), .second, .val (.ref b1), .val (.int (2 : Int32)), .val (.ref (w 2)), .val (.long (0 : Int64)), .second, .val (.int (1 : Int32)), .val (.int (1 : Int32)), .unset] [(.int (1 : Int32))])) _
    refine XS.goto X24.here hx rfl (pc0 := 98) (pc' := 102) rfl (hb hby at_98) (by decide) (by decide) ?_
    show Steps p.tables e below (T24.setTop (mkF m 102 #[.val (.int p0), .val (.long q1), .second, .val (.ref b1), .val (.int (2 : Int32)), .val (.ref (w 2)), .val (.long (0 : Int64)), .second, .val (.int (1 : Int32)), .val (.int (1 : Int32)), .unset] [(.int (1 : Int32))])) _
    refine XS.istore X24.here hx rfl (hb hby at_102) rfl (l' := #[.val (.int p0), .val (.long q1), .second, .val (.ref b1), .val (.int (2 : Int32)), .val (.ref (w 2)), .val (.long (0 : Int64)), .second, .val (.int (1 : Int32)), .val (.int (1 : Int32)), .val (.int (1 : Int32))]) rfl ?_
    show Steps p.tables e below (T24.setTop (mkF m 104 #[.val (.int p0), .val (.long q1), .second, .val (.ref b1), .val (.int (2 : Int32)), .val (.ref (w 2)), .val (.long (0 : Int64)), .second, .val (.int (1 : Int32)), .val (.int (1 : Int32)), .val (.int (1 : Int32))] [])) _
    refine XS.iload X24.here hx rfl (hb hby at_104) rfl ?_
    show Steps p.tables e below (T24.setTop (mkF m 106 #[.val (.int p0), .val (.long q1), .second, .val (.ref b1), .val (.int (2 : Int32)), .val (.ref (w 2)), .val (.long (0 : Int64)), .second, .val (.int (1 : Int32)), .val (.int (1 : Int32)), .val (.int (1 : Int32))] [(.int (1 : Int32))])) _
    refine XS.iload X24.here hx rfl (hb hby at_106) rfl ?_
    show Steps p.tables e below (T24.setTop (mkF m 108 #[.val (.int p0), .val (.long q1), .second, .val (.ref b1), .val (.int (2 : Int32)), .val (.ref (w 2)), .val (.long (0 : Int64)), .second, .val (.int (1 : Int32)), .val (.int (1 : Int32)), .val (.int (1 : Int32))] [(.int (1 : Int32)), (.int (1 : Int32))])) _
    refine XS.icmpNo X24.here hx rfl (hb hby at_108) rfl (teq (by decide : (1 : Int32) = (1 : Int32))).2 ?_
    show Steps p.tables e below (T24.setTop (mkF m 111 #[.val (.int p0), .val (.long q1), .second, .val (.ref b1), .val (.int (2 : Int32)), .val (.ref (w 2)), .val (.long (0 : Int64)), .second, .val (.int (1 : Int32)), .val (.int (1 : Int32)), .val (.int (1 : Int32))] [])) _
    refine XS.iload X24.here hx rfl (hb hby at_111) rfl ?_
    show Steps p.tables e below (T24.setTop (mkF m 113 #[.val (.int p0), .val (.long q1), .second, .val (.ref b1), .val (.int (2 : Int32)), .val (.ref (w 2)), .val (.long (0 : Int64)), .second, .val (.int (1 : Int32)), .val (.int (1 : Int32)), .val (.int (1 : Int32))] [(.int (1 : Int32))])) _
    refine XS.iload X24.here hx rfl (hb hby at_113) rfl ?_
    show Steps p.tables e below (T24.setTop (mkF m 115 #[.val (.int p0), .val (.long q1), .second, .val (.ref b1), .val (.int (2 : Int32)), .val (.ref (w 2)), .val (.long (0 : Int64)), .second, .val (.int (1 : Int32)), .val (.int (1 : Int32)), .val (.int (1 : Int32))] [(.int (1 : Int32)), (.int (1 : Int32))])) _
    refine XS.icmpNo X24.here hx rfl (hb hby at_115) rfl (teq (by decide : (1 : Int32) = (1 : Int32))).2 ?_
    show Steps p.tables e below (T24.setTop (mkF m 118 #[.val (.int p0), .val (.long q1), .second, .val (.ref b1), .val (.int (2 : Int32)), .val (.ref (w 2)), .val (.long (0 : Int64)), .second, .val (.int (1 : Int32)), .val (.int (1 : Int32)), .val (.int (1 : Int32))] [])) _
    refine XS.iconst X24.here hx rfl (hb hby at_118) ?_
    show Steps p.tables e below (T24.setTop (mkF m 119 #[.val (.int p0), .val (.long q1), .second, .val (.ref b1), .val (.int (2 : Int32)), .val (.ref (w 2)), .val (.long (0 : Int64)), .second, .val (.int (1 : Int32)), .val (.int (1 : Int32)), .val (.int (1 : Int32))] [(.int (1 : Int32))])) _
    refine XS.goto X24.here hx rfl (pc0 := 119) (pc' := 123) rfl (hb hby at_119) (by decide) (by decide) ?_
    show Steps p.tables e below (T24.setTop (mkF m 123 #[.val (.int p0), .val (.long q1), .second, .val (.ref b1), .val (.int (2 : Int32)), .val (.ref (w 2)), .val (.long (0 : Int64)), .second, .val (.int (1 : Int32)), .val (.int (1 : Int32)), .val (.int (1 : Int32))] [(.int (1 : Int32))])) _
    exact retN X24 hx (t := .boolean) Bd.returns (by simp) (hb hby at_123) hr
  · show OL (some (.int (1 : Int32))) Z.heap.size _ T24.heap _
    exact ⟨rfl, N24⟩
set_option maxRecDepth 65536 in
set_option maxHeartbeats 40000000 in
theorem rm_19 (l : Launch) (Z : State) (a0 : Array Value) (hw : ∀ d ∈ tables_1, d.before a0 Z = true) (w : Nat → Addr) (kk : Nat → ClassId) (hN : Wd Z w kk) (ws : List Jvm.Cond) (q2 : Int64) (h0 : Heap) (O0 : Old Z Z.heap.size h0) (hp0 : ¬ ((lcmpW (9223372036854775807 : Int64) q2) < (0 : Int32))) (hp1 : ¬ ((lcmpW (9223372036854775807 : Int64) q2) = (0 : Int32))) :
    MetFree l (⟨"com/example/stint/stint/model/Relation", "holds", "(JJ)Z"⟩ : MethodName) (head1 (Jvm.Cond.code (⟨"com/example/stint/stint/model/Relation", "holds", "(JJ)Z"⟩ : MethodName) prog_47_method_11_code 6 (some .boolean) :: ws) ({ frames := 1, cells := 0, slots := 0, locals := 15 } : Room)) (fun a U => a = #[(.ref (w 2)), (.long (9223372036854775807 : Int64)), (.long q2)] ∧ Z.Warmed39 U.vm ∧ U.heap = h0) (fun _ _ _ _ _ => True) (fun _ U o U' => ∃ v L, o = .returned v ∧ OQ (some (.int (0 : Int32))) h0 Z.heap.size v U'.heap L ∧ FrameEnd U o U' L ({ frames := 1, cells := 0, slots := 0, locals := 15 } : Room).cells ({ frames := 1, cells := 0, slots := 0, locals := 15 } : Room).slots) := by
  have hN' := hN
  obtain ⟨hS0, hE0, hS1, hE1, hS2, hE2, hS3, hE3, hS4, hE4, hF0_ordinal, hF1_ordinal, hF4_ordinal, hF2_ordinal, hF3_ordinal⟩ := hN'
  refine MetFree.of_bodySF (plainFor_of_name pn_0) hisR ?_
  intro p e s m args below meth c s₁ Bd hml0 hP hK
  obtain ⟨rfl, hZ, hh⟩ := hP
  have hx := Bd.exec
  have hby := Bd.bytes
  have hml : c.maxLocals = 6 := hml0
  have hown : s.vm.findClass "com/example/stint/stint/model/Relation" = some m.cls := findClass_of_methodNamed Bd.named
  have hnm := (name_of_methodNamed Bd.named Bd.method).1
  have X0 : Stand p l e ({ frames := 1, cells := 0, slots := 0, locals := 15 } : Room) s m #[(.ref (w 2)), (.long (9223372036854775807 : Int64)), (.long q2)] below meth c s₁ [] 0 0 := Stand.of_body Bd
  have e0 : s₁.heap = h0 := by rw [← hh, Bd.state]; rfl
  have N0 := Fr.nil Z.heap.size
  have pre0 : ∀ t, Steps p.tables e below (s₁.setTop (mkF m 0 #[.val (.ref (w 2)), .val (.long (9223372036854775807 : Int64)), .second, .val (.long q2), .second, .unset] [])) t → Steps p.tables e below (s₁.setTop (entryFrame m #[(.ref (w 2)), (.long (9223372036854775807 : Int64)), (.long q2)] 6)) t := fun t k => castTop (ef_2 m (.ref (w 2)) rfl (.long (9223372036854775807 : Int64)) rfl (.long q2) rfl) k
  obtain ⟨_, _, ⟨T1, L1, k1, n1⟩, -, X1, ⟨Lc1, hQ1, l1, y1, z1⟩, st1⟩ := Jvm.LawKit.callS X0 hx (y := (⟨"java/lang/Long", "compare", "(JJ)I"⟩ : MethodName)) hown (mvT hZ (W hw 27 rfl)) (mvT hZ (W hw 28 rfl)) (mvT hZ (W hw 29 rfl)) (mvT hZ (W hw 30 rfl)) (by decide) (backOf (W := 0) (rm_6 l Z a0 hw w kk hN [] q2 h0 O0 hp0 hp1) hZ (W hw 30 rfl) (W hw 29 rfl) (by decide) (by decide)) (g := (mkF m 2 #[.val (.ref (w 2)), .val (.long (9223372036854775807 : Int64)), .second, .val (.long q2), .second, .unset] [(.long q2), (.long (9223372036854775807 : Int64))])) rfl (by rw [hml]; rfl) (argsL := [(.long (9223372036854775807 : Int64)), (.long q2)]) (rest := []) (lenOf pd_1 rfl) rfl (by show 2 * 0 + _ ≤ _; exact Nat.le_of_eq rfl) (hb hby d_prog_47_method_11_code_2) (fun _ _ => ⟨rfl, e0, (by decide : 0 + 0 ≤ _), (by decide : 0 + 0 ≤ _)⟩)
  dsimp only [Pt.U, Pt.locs, Pt.cells, Pt.slots] at X1 l1 y1 z1 st1 hQ1
  subst l1 y1 z1
  obtain ⟨rfl, N1q, e1⟩ := hQ1
  have N1 := Fr.app N0 N1q
  obtain ⟨cq2, kq2, q2a, q2b, q2c⟩ := isOf hZ e1 (hE2.ext O0.2)
  obtain ⟨_, _, ⟨T2, L2, k2, n2⟩, -, X2, ⟨Lc2, hQ2, l2, y2, z2⟩, st2⟩ := X1.virtualBackUp hx (x := (⟨"com/example/stint/stint/model/Relation", "ordinal", "()I"⟩ : MethodName)) (y := (⟨"java/lang/Enum", "ordinal", "()I"⟩ : MethodName)) (owner := "java/lang/Enum") hown (mvT hZ (W hw 31 rfl)) (mvT hZ (W hw 32 rfl)) (mvT hZ (W hw 33 rfl)) (by decide) (mvT hZ (W hw 35 rfl)) (mvT hZ (W hw 34 rfl)) (backOf (W := 0) (rm_16 l Z a0 hw w kk hN [] h0 O0) hZ (W hw 37 rfl) (W hw 36 rfl) (by decide) (by decide)) q2a q2c (g := (mkF m 8 #[.val (.ref (w 2)), .val (.long (9223372036854775807 : Int64)), .second, .val (.long q2), .second, .val (.int (1 : Int32))] [(.ref (w 2))])) rfl (by rw [hml]; rfl) (Steps.refl _) (argsL := []) (rest := []) (lenOf pd_2 rfl) rfl (by show 2 * 0 + _ ≤ _; exact Nat.le_of_eq rfl) (hb hby d_prog_47_method_11_code_8) (fun _ _ => ⟨rfl, e1, (by decide : 0 + 0 ≤ _), (by decide : 0 + 0 ≤ _)⟩)
  dsimp only [Pt.U, Pt.locs, Pt.cells, Pt.slots] at X2 l2 y2 z2 st2 hQ2
  subst l2 y2 z2
  obtain ⟨rfl, N2q, e2⟩ := hQ2
  have N2 := Fr.app N1 N2q
  obtain ⟨fs, hr, hrun, hended, hW, hsame⟩ := X2.leave (v := some (.int (0 : Int32))) (fun h => by rw [Bd.returns] at h; cases h)
  refine ⟨_, _, pre0 _ ?_, hrun, hended, _, _, rfl, ?_, ⟨_, rfl⟩, hW, hsame.mono (by decide) (by decide)⟩
  · show Steps p.tables e below (s₁.setTop (mkF m 0 #[.val (.ref (w 2)), .val (.long (9223372036854775807 : Int64)), .second, .val (.long q2), .second, .unset] [])) _
    refine XS.lloadN X0.here hx rfl (hb hby d_prog_47_method_11_code_0) rfl ?_
    show Steps p.tables e below (s₁.setTop (mkF m 1 #[.val (.ref (w 2)), .val (.long (9223372036854775807 : Int64)), .second, .val (.long q2), .second, .unset] [(.long (9223372036854775807 : Int64))])) _
    refine XS.lloadN X0.here hx rfl (hb hby d_prog_47_method_11_code_1) rfl ?_
    show Steps p.tables e below (s₁.setTop (mkF m 2 #[.val (.ref (w 2)), .val (.long (9223372036854775807 : Int64)), .second, .val (.long q2), .second, .unset] [(.long q2), (.long (9223372036854775807 : Int64))])) _
    refine st1 _ ?_
    show Steps p.tables e below (T1.setTop (mkF m 5 #[.val (.ref (w 2)), .val (.long (9223372036854775807 : Int64)), .second, .val (.long q2), .second, .unset] [(.int (1 : Int32))])) _
    refine XS.istore X1.here hx rfl (hb hby d_prog_47_method_11_code_5) rfl (l' := #[.val (.ref (w 2)), .val (.long (9223372036854775807 : Int64)), .second, .val (.long q2), .second, .val (.int (1 : Int32))]) rfl ?_
    show Steps p.tables e below (T1.setTop (mkF m 7 #[.val (.ref (w 2)), .val (.long (9223372036854775807 : Int64)), .second, .val (.long q2), .second, .val (.int (1 : Int32))] [])) _
    refine XS.aloadN X1.here hx rfl (hb hby d_prog_47_method_11_code_7) rfl rfl ?_
    show Steps p.tables e below (T1.setTop (mkF m 8 #[.val (.ref (w 2)), .val (.long (9223372036854775807 : Int64)), .second, .val (.long q2), .second, .val (.int (1 : Int32))] [(.ref (w 2))])) _
    refine st2.trans ?_
    show Steps p.tables e below (T2.setTop (mkF m 11 #[.val (.ref (w 2)), .val (.long (9223372036854775807 : Int64)), .second, .val (.long q2), .second, .val (.int (1 : Int32))] [(.int (2 : Int32))])) _
    refine XS.tswIn X2.here hx rfl (pc0 := 11) (pc' := 80) (o := 69) rfl (hb hby d_prog_47_method_11_code_11) rfl (by decide) (by decide) (by decide) (by decide) ?_
    show Steps p.tables e below (T2.setTop (mkF m 80 #[.val (.ref (w 2)), .val (.long (9223372036854775807 : Int64)), .second, .val (.long q2), .second, .val (.int (1 : Int32))] [])) _
    refine XS.iload X2.here hx rfl (hb hby d_prog_47_method_11_code_80) rfl ?_
    show Steps p.tables e below (T2.setTop (mkF m 82 #[.val (.ref (w 2)), .val (.long (9223372036854775807 : Int64)), .second, .val (.long q2), .second, .val (.int (1 : Int32))] [(.int (1 : Int32))])) _
    refine XS.ifYes X2.here hx rfl (pc0 := 82) (pc' := 89) rfl (hb hby d_prog_47_method_11_code_82) rfl ((if0 _ _).trans (feq (by decide : ¬ ((1 : Int32) = (0 : Int32)))).2) (by decide) (by decide) ?_
    show Steps p.tables e below (T2.setTop (mkF m 89 #[.val (.ref (w 2)), .val (.long (9223372036854775807 : Int64)), .second, .val (.long q2), .second, .val (.int (1 : Int32))] [])) _
    refine XS.iconst X2.here hx rfl (hb hby d_prog_47_method_11_code_89) ?_
    show Steps p.tables e below (T2.setTop (mkF m 90 #[.val (.ref (w 2)), .val (.long (9223372036854775807 : Int64)), .second, .val (.long q2), .second, .val (.int (1 : Int32))] [(.int (0 : Int32))])) _
    refine XS.goto X2.here hx rfl (pc0 := 90) (pc' := 116) rfl (hb hby d_prog_47_method_11_code_90) (by decide) (by decide) ?_
    show Steps p.tables e below (T2.setTop (mkF m 116 #[.val (.ref (w 2)), .val (.long (9223372036854775807 : Int64)), .second, .val (.long q2), .second, .val (.int (1 : Int32))] [(.int (0 : Int32))])) _
    exact retN X2 hx (t := .boolean) Bd.returns (by simp) (hb hby d_prog_47_method_11_code_116) hr
  · show OQ (some (.int (0 : Int32))) h0 Z.heap.size _ T2.heap _
    rw [e2]
    exact ⟨rfl, N2, rfl⟩
set_option maxRecDepth 65536 in
set_option maxHeartbeats 40000000 in
theorem law_20 (l : Launch) (Z : State) (a0 : Array Value) (hw : ∀ d ∈ tables_1, d.before a0 Z = true) (w : Nat → Addr) (kk : Nat → ClassId) (hN : Wd Z w kk) (ws : List Jvm.Cond) (p0 : Int32) (q1 : Int64) (h0 : Heap) (O0 : Old Z Z.heap.size h0) (hp0 : ((p0 &&& (2147483647 : Int32)) % (5 : Int32)) = (2 : Int32)) (hp1 : ¬ ((lcmpW q1 (9223372036854775807 : Int64)) = (0 : Int32))) (hp2 : ¬ ((lcmpW (9223372036854775807 : Int64) q1) < (0 : Int32))) (hp3 : ¬ ((lcmpW (9223372036854775807 : Int64) q1) = (0 : Int32))) :
    MetFree l x (head1 (Jvm.Cond.code x code maxLocals ret :: ws) room_1) (fun a U => a = #[(.int p0), (.long q1)] ∧ Z.Warmed39 U.vm ∧ U.heap = h0) (fun _ _ _ _ _ => True) (fun _ U o U' => ∃ v L, o = .returned v ∧ OL (some (.int (1 : Int32))) Z.heap.size v U'.heap L ∧ FrameEnd U o U' L 16 128) := by
  have hN' := hN
  obtain ⟨hS0, hE0, hS1, hE1, hS2, hE2, hS3, hE3, hS4, hE4, hF0_ordinal, hF1_ordinal, hF4_ordinal, hF2_ordinal, hF3_ordinal⟩ := hN'
  refine MetFree.of_bodySF (plainFor_of_name pn_3) hisR ?_
  intro p e s m args below meth c s₁ Bd hml0 hP hK
  obtain ⟨rfl, hZ, hh⟩ := hP
  have hx := Bd.exec
  have hby := Bd.bytes
  have hml : c.maxLocals = 11 := hml0
  have hown : s.vm.findClass "com/example/stint/stint/model/RelationBoundsAbovePinLaw" = some m.cls := findClass_of_methodNamed Bd.named
  have hnm := (name_of_methodNamed Bd.named Bd.method).1
  have X0 : Stand p l e room_1 s m #[(.int p0), (.long q1)] below meth c s₁ [] 0 0 := Stand.of_body Bd
  have e0 : s₁.heap = h0 := by rw [← hh, Bd.state]; rfl
  have N0 := Fr.nil Z.heap.size
  have pre0 : ∀ t, Steps p.tables e below (s₁.setTop (mkF m 0 #[.val (.int p0), .val (.long q1), .second, .unset, .unset, .unset, .unset, .unset, .unset, .unset, .unset] [])) t → Steps p.tables e below (s₁.setTop (entryFrame m #[(.int p0), (.long q1)] maxLocals)) t := fun t k => castTop (ef_3 m (.int p0) rfl (.long q1) rfl) k
  obtain ⟨T1, h1, k1, X1, e1, E1, A1, Ov1, st1⟩ := newR X0 hx hZ hown (W hw 0 rfl) (W hw 1 rfl) e0 (g := (mkF m 1 #[.val (.int p0), .val (.long q1), .second, .unset, .unset, .unset, .unset, .unset, .unset, .unset, .unset] [(.int (5 : Int32))])) rfl (hb hby at_1) rfl (by decide) (cap := 5) (by decide) (by decide) (by decide) (by decide)
  obtain ⟨b1, g1⟩ : ∃ z, z = h0.size := ⟨_, rfl⟩
  rw [← g1] at A1 st1
  have gn_b1 : Z.heap.size ≤ b1 := Nat.le_trans O0.2.1 (Nat.le_of_eq g1.symm)
  have O1 := O0.ext E1
  have V_b1_v1 : Arv Z h1 b1 k1 (.object "com/example/stint/stint/model/Relation") (5 : Int32) [] .null := Arv.new A1 (by decide)
  obtain ⟨T2, X2, e2, st2⟩ := getS2 X1 hx hZ hown (host := "") (Or.inl (W hw 2 rfl)) Via.refl e1 (hS0.ext O1.2) (g := (mkF m 6 #[.val (.int p0), .val (.long q1), .second, .unset, .unset, .unset, .unset, .unset, .unset, .unset, .unset] [(.int (0 : Int32)), (.ref b1), (.ref b1)])) rfl (hb hby at_6)
  have V_b1_v3 : Arv Z h1 b1 k1 (.object "com/example/stint/stint/model/Relation") (5 : Int32) [.null] .null := V_b1_v1.pad (pad_rep [] .null 1)
  obtain ⟨cl4, Ar4, q4, Sz4, Ng4, Hv4, Gv4⟩ := V_b1_v3
  have hin4 : ¬ ((0 : Int32) < 0 ∨ cl4.slots.size ≤ ((0 : Int32)).toNatClampNeg) := inb_of Sz4 ⟨by decide, by decide⟩
  obtain ⟨T5, h5, X5, e5, W5, st5⟩ := stR X2 hx hZ e2 Ar4 (j := (0 : Int32)) (v := (.ref (w 0))) hin4 rfl (Sto.ofV Ar4 q4 Ov1 (Ins.self (hE0.ext O1.2))) (g := (mkF m 9 #[.val (.int p0), .val (.long q1), .second, .unset, .unset, .unset, .unset, .unset, .unset, .unset, .unset] [(.ref (w 0)), (.int (0 : Int32)), (.ref b1), (.ref b1)])) rfl rfl (hb hby at_9)
  have V_b1_v5 : Arv Z h5 b1 k1 (.object "com/example/stint/stint/model/Relation") (5 : Int32) [(.ref (w 0))] .null := Arv.set Ar4 q4 Sz4 Ng4 Hv4 Gv4 rfl W5 0 rfl (Nat.le_of_ble_eq_true rfl)
  have N5 := Fr.snoc X5 N0 gn_b1
  have O5 := O1.wr W5 gn_b1
  obtain ⟨T6, X6, e6, st6⟩ := getS2 X5 hx hZ hown (host := "") (Or.inl (W hw 6 rfl)) Via.refl e5 (hS1.ext O5.2) (g := (mkF m 12 #[.val (.int p0), .val (.long q1), .second, .unset, .unset, .unset, .unset, .unset, .unset, .unset, .unset] [(.int (1 : Int32)), (.ref b1), (.ref b1)])) rfl (hb hby at_12)
  have V_b1_v7 : Arv Z h5 b1 k1 (.object "com/example/stint/stint/model/Relation") (5 : Int32) [(.ref (w 0)), .null] .null := V_b1_v5.pad (pad_rep [(.ref (w 0))] .null 1)
  obtain ⟨cl8, Ar8, q8, Sz8, Ng8, Hv8, Gv8⟩ := V_b1_v7
  have hin8 : ¬ ((1 : Int32) < 0 ∨ cl8.slots.size ≤ ((1 : Int32)).toNatClampNeg) := inb_of Sz8 ⟨by decide, by decide⟩
  obtain ⟨T9, h9, X9, e9, W9, st9⟩ := stR X6 hx hZ e6 Ar8 (j := (1 : Int32)) (v := (.ref (w 1))) hin8 rfl (Sto.ofV Ar8 q8 Ov1 (Ins.self (hE1.ext O5.2))) (g := (mkF m 15 #[.val (.int p0), .val (.long q1), .second, .unset, .unset, .unset, .unset, .unset, .unset, .unset, .unset] [(.ref (w 1)), (.int (1 : Int32)), (.ref b1), (.ref b1)])) rfl rfl (hb hby at_15)
  have V_b1_v9 : Arv Z h9 b1 k1 (.object "com/example/stint/stint/model/Relation") (5 : Int32) [(.ref (w 0)), (.ref (w 1))] .null := Arv.set Ar8 q8 Sz8 Ng8 Hv8 Gv8 rfl W9 1 rfl (Nat.le_of_ble_eq_true rfl)
  have N9 := Fr.snoc X9 N5 gn_b1
  have O9 := O5.wr W9 gn_b1
  obtain ⟨T10, X10, e10, st10⟩ := getS2 X9 hx hZ hown (host := "") (Or.inl (W hw 8 rfl)) Via.refl e9 (hS2.ext O9.2) (g := (mkF m 18 #[.val (.int p0), .val (.long q1), .second, .unset, .unset, .unset, .unset, .unset, .unset, .unset, .unset] [(.int (2 : Int32)), (.ref b1), (.ref b1)])) rfl (hb hby at_18)
  have V_b1_v11 : Arv Z h9 b1 k1 (.object "com/example/stint/stint/model/Relation") (5 : Int32) [(.ref (w 0)), (.ref (w 1)), .null] .null := V_b1_v9.pad (pad_rep [(.ref (w 0)), (.ref (w 1))] .null 1)
  obtain ⟨cl12, Ar12, q12, Sz12, Ng12, Hv12, Gv12⟩ := V_b1_v11
  have hin12 : ¬ ((2 : Int32) < 0 ∨ cl12.slots.size ≤ ((2 : Int32)).toNatClampNeg) := inb_of Sz12 ⟨by decide, by decide⟩
  obtain ⟨T13, h13, X13, e13, W13, st13⟩ := stR X10 hx hZ e10 Ar12 (j := (2 : Int32)) (v := (.ref (w 2))) hin12 rfl (Sto.ofV Ar12 q12 Ov1 (Ins.self (hE2.ext O9.2))) (g := (mkF m 21 #[.val (.int p0), .val (.long q1), .second, .unset, .unset, .unset, .unset, .unset, .unset, .unset, .unset] [(.ref (w 2)), (.int (2 : Int32)), (.ref b1), (.ref b1)])) rfl rfl (hb hby at_21)
  have V_b1_v13 : Arv Z h13 b1 k1 (.object "com/example/stint/stint/model/Relation") (5 : Int32) [(.ref (w 0)), (.ref (w 1)), (.ref (w 2))] .null := Arv.set Ar12 q12 Sz12 Ng12 Hv12 Gv12 rfl W13 2 rfl (Nat.le_of_ble_eq_true rfl)
  have N13 := Fr.snoc X13 N9 gn_b1
  have O13 := O9.wr W13 gn_b1
  obtain ⟨T14, X14, e14, st14⟩ := getS2 X13 hx hZ hown (host := "") (Or.inl (W hw 10 rfl)) Via.refl e13 (hS3.ext O13.2) (g := (mkF m 24 #[.val (.int p0), .val (.long q1), .second, .unset, .unset, .unset, .unset, .unset, .unset, .unset, .unset] [(.int (3 : Int32)), (.ref b1), (.ref b1)])) rfl (hb hby at_24)
  have V_b1_v15 : Arv Z h13 b1 k1 (.object "com/example/stint/stint/model/Relation") (5 : Int32) [(.ref (w 0)), (.ref (w 1)), (.ref (w 2)), .null] .null := V_b1_v13.pad (pad_rep [(.ref (w 0)), (.ref (w 1)), (.ref (w 2))] .null 1)
  obtain ⟨cl16, Ar16, q16, Sz16, Ng16, Hv16, Gv16⟩ := V_b1_v15
  have hin16 : ¬ ((3 : Int32) < 0 ∨ cl16.slots.size ≤ ((3 : Int32)).toNatClampNeg) := inb_of Sz16 ⟨by decide, by decide⟩
  obtain ⟨T17, h17, X17, e17, W17, st17⟩ := stR X14 hx hZ e14 Ar16 (j := (3 : Int32)) (v := (.ref (w 3))) hin16 rfl (Sto.ofV Ar16 q16 Ov1 (Ins.self (hE3.ext O13.2))) (g := (mkF m 27 #[.val (.int p0), .val (.long q1), .second, .unset, .unset, .unset, .unset, .unset, .unset, .unset, .unset] [(.ref (w 3)), (.int (3 : Int32)), (.ref b1), (.ref b1)])) rfl rfl (hb hby at_27)
  have V_b1_v17 : Arv Z h17 b1 k1 (.object "com/example/stint/stint/model/Relation") (5 : Int32) [(.ref (w 0)), (.ref (w 1)), (.ref (w 2)), (.ref (w 3))] .null := Arv.set Ar16 q16 Sz16 Ng16 Hv16 Gv16 rfl W17 3 rfl (Nat.le_of_ble_eq_true rfl)
  have N17 := Fr.snoc X17 N13 gn_b1
  have O17 := O13.wr W17 gn_b1
  obtain ⟨T18, X18, e18, st18⟩ := getS2 X17 hx hZ hown (host := "") (Or.inl (W hw 12 rfl)) Via.refl e17 (hS4.ext O17.2) (g := (mkF m 30 #[.val (.int p0), .val (.long q1), .second, .unset, .unset, .unset, .unset, .unset, .unset, .unset, .unset] [(.int (4 : Int32)), (.ref b1), (.ref b1)])) rfl (hb hby at_30)
  have V_b1_v19 : Arv Z h17 b1 k1 (.object "com/example/stint/stint/model/Relation") (5 : Int32) [(.ref (w 0)), (.ref (w 1)), (.ref (w 2)), (.ref (w 3)), .null] .null := V_b1_v17.pad (pad_rep [(.ref (w 0)), (.ref (w 1)), (.ref (w 2)), (.ref (w 3))] .null 1)
  obtain ⟨cl20, Ar20, q20, Sz20, Ng20, Hv20, Gv20⟩ := V_b1_v19
  have hin20 : ¬ ((4 : Int32) < 0 ∨ cl20.slots.size ≤ ((4 : Int32)).toNatClampNeg) := inb_of Sz20 ⟨by decide, by decide⟩
  obtain ⟨T21, h21, X21, e21, W21, st21⟩ := stR X18 hx hZ e18 Ar20 (j := (4 : Int32)) (v := (.ref (w 4))) hin20 rfl (Sto.ofV Ar20 q20 Ov1 (Ins.self (hE4.ext O17.2))) (g := (mkF m 33 #[.val (.int p0), .val (.long q1), .second, .unset, .unset, .unset, .unset, .unset, .unset, .unset, .unset] [(.ref (w 4)), (.int (4 : Int32)), (.ref b1), (.ref b1)])) rfl rfl (hb hby at_33)
  have V_b1_v21 : Arv Z h21 b1 k1 (.object "com/example/stint/stint/model/Relation") (5 : Int32) [(.ref (w 0)), (.ref (w 1)), (.ref (w 2)), (.ref (w 3)), (.ref (w 4))] .null := Arv.set Ar20 q20 Sz20 Ng20 Hv20 Gv20 rfl W21 4 rfl (Nat.le_of_ble_eq_true rfl)
  have N21 := Fr.snoc X21 N17 gn_b1
  have O21 := O17.wr W21 gn_b1
  obtain ⟨cl22, Ar22, q22, Sz22, Ng22, Hv22, Gv22⟩ := V_b1_v21
  have hin22 : ¬ ((2 : Int32) < 0 ∨ cl22.slots.size ≤ ((2 : Int32)).toNatClampNeg) := inb_of Sz22 ⟨by decide, by decide⟩
  have hat22 : cl22.slots[((2 : Int32)).toNatClampNeg]? = some (.ref (w 2)) := Has.at Hv22 hin22 (by rfl)
  obtain ⟨cq23, kq23, q23a, q23b, q23c⟩ := isOf hZ e21 (hE2.ext O21.2)
  obtain ⟨_, _, ⟨T23, L23, k23, n23⟩, -, X23, ⟨Lc23, hQ23, l23, y23, z23⟩, st23⟩ := X21.virtualBack hx (y := (⟨"com/example/stint/stint/model/Relation", "boundsAbove", "()Z"⟩ : MethodName)) (z := (⟨"com/example/stint/stint/model/Relation", "boundsAbove", "()Z"⟩ : MethodName)) hown (mvT hZ (W hw 16 rfl)) (mvT hZ (W hw 17 rfl)) (notFace_of_selects (args := #[]) (mvT hZ (W hw 19 rfl))) (mvT hZ (W hw 19 rfl)) (mvT hZ (W hw 18 rfl)) (by decide) (backOf (W := 0) (rm_15 l Z a0 hw w kk hN [] h21 O21) hZ (W hw 20 rfl) (W hw 3 rfl) (by decide) (by decide)) q23a q23c (g := (mkF m 66 #[.val (.int p0), .val (.long q1), .second, .val (.ref b1), .val (.int (2 : Int32)), .val (.ref (w 2)), .val (.long q1), .second, .unset, .unset, .unset] [(.ref (w 2))])) rfl (by rw [hml]; rfl) (Steps.refl _) (argsL := []) (rest := []) (lenOf pd_0 rfl) rfl (by show 2 * 0 + _ ≤ _; exact Nat.le_of_eq rfl) (hb hby at_66) (fun _ _ => ⟨rfl, e21, (by decide : 1 + 0 ≤ _), (by decide : 5 + 0 ≤ _)⟩)
  dsimp only [Pt.U, Pt.locs, Pt.cells, Pt.slots] at X23 l23 y23 z23 st23 hQ23
  subst l23 y23 z23
  obtain ⟨rfl, N23q, e23⟩ := hQ23
  have N23 := Fr.app N21 N23q
  obtain ⟨cq24, kq24, q24a, q24b, q24c⟩ := isOf hZ e23 (hE2.ext O21.2)
  obtain ⟨_, _, ⟨T24, L24, k24, n24⟩, -, X24, ⟨Lc24, hQ24, l24, y24, z24⟩, st24⟩ := X23.virtualBack hx (y := (⟨"com/example/stint/stint/model/Relation", "holds", "(JJ)Z"⟩ : MethodName)) (z := (⟨"com/example/stint/stint/model/Relation", "holds", "(JJ)Z"⟩ : MethodName)) hown (mvT hZ (W hw 22 rfl)) (mvT hZ (W hw 23 rfl)) (notFace_of_selects (args := #[]) (mvT hZ (W hw 25 rfl))) (mvT hZ (W hw 25 rfl)) (mvT hZ (W hw 24 rfl)) (by decide) (backOf (W := 0) (rm_19 l Z a0 hw w kk hN [] q1 h21 O21 hp2 hp3) hZ (W hw 26 rfl) (W hw 3 rfl) (by decide) (by decide)) q24a q24c (g := (mkF m 91 #[.val (.int p0), .val (.long q1), .second, .val (.ref b1), .val (.int (2 : Int32)), .val (.ref (w 2)), .val (.long q1), .second, .val (.int (1 : Int32)), .val (.int (1 : Int32)), .unset] [(.long q1), (.long (9223372036854775807 : Int64)), (.ref (w 2))])) rfl (by rw [hml]; rfl) (Steps.refl _) (argsL := [(.long (9223372036854775807 : Int64)), (.long q1)]) (rest := []) (lenOf pd_3 rfl) rfl (by show 2 * 0 + _ ≤ _; exact Nat.le_of_eq rfl) (hb hby at_91) (fun _ _ => ⟨rfl, e23, (by decide : 1 + 0 ≤ _), (by decide : 5 + 0 ≤ _)⟩)
  dsimp only [Pt.U, Pt.locs, Pt.cells, Pt.slots] at X24 l24 y24 z24 st24 hQ24
  subst l24 y24 z24
  obtain ⟨rfl, N24q, e24⟩ := hQ24
  have N24 := Fr.app N23 N24q
  obtain ⟨fs, hr, hrun, hended, hW, hsame⟩ := X24.leave (v := some (.int (1 : Int32))) (fun h => by rw [Bd.returns] at h; cases h)
  refine ⟨_, _, pre0 _ ?_, hrun, hended, _, _, rfl, ?_, ⟨_, rfl⟩, hW, hsame.mono (by decide) (by decide)⟩
  · show Steps p.tables e below (s₁.setTop (mkF m 0 #[.val (.int p0), .val (.long q1), .second, .unset, .unset, .unset, .unset, .unset, .unset, .unset, .unset] [])) _
    refine XS.iconst X0.here hx rfl (hb hby at_0) ?_
    show Steps p.tables e below (s₁.setTop (mkF m 1 #[.val (.int p0), .val (.long q1), .second, .unset, .unset, .unset, .unset, .unset, .unset, .unset, .unset] [(.int (5 : Int32))])) _
    refine st1 _ ?_
    show Steps p.tables e below (T1.setTop (mkF m 4 #[.val (.int p0), .val (.long q1), .second, .unset, .unset, .unset, .unset, .unset, .unset, .unset, .unset] [(.ref b1)])) _
    refine XS.dup X1.here hx rfl (hb hby at_4) rfl rfl ?_
    show Steps p.tables e below (T1.setTop (mkF m 5 #[.val (.int p0), .val (.long q1), .second, .unset, .unset, .unset, .unset, .unset, .unset, .unset, .unset] [(.ref b1), (.ref b1)])) _
    refine XS.iconst X1.here hx rfl (hb hby at_5) ?_
    show Steps p.tables e below (T1.setTop (mkF m 6 #[.val (.int p0), .val (.long q1), .second, .unset, .unset, .unset, .unset, .unset, .unset, .unset, .unset] [(.int (0 : Int32)), (.ref b1), (.ref b1)])) _
    refine st2 _ ?_
    show Steps p.tables e below (T2.setTop (mkF m 9 #[.val (.int p0), .val (.long q1), .second, .unset, .unset, .unset, .unset, .unset, .unset, .unset, .unset] [(.ref (w 0)), (.int (0 : Int32)), (.ref b1), (.ref b1)])) _
    refine st5 _ ?_
    show Steps p.tables e below (T5.setTop (mkF m 10 #[.val (.int p0), .val (.long q1), .second, .unset, .unset, .unset, .unset, .unset, .unset, .unset, .unset] [(.ref b1)])) _
    refine XS.dup X5.here hx rfl (hb hby at_10) rfl rfl ?_
    show Steps p.tables e below (T5.setTop (mkF m 11 #[.val (.int p0), .val (.long q1), .second, .unset, .unset, .unset, .unset, .unset, .unset, .unset, .unset] [(.ref b1), (.ref b1)])) _
    refine XS.iconst X5.here hx rfl (hb hby at_11) ?_
    show Steps p.tables e below (T5.setTop (mkF m 12 #[.val (.int p0), .val (.long q1), .second, .unset, .unset, .unset, .unset, .unset, .unset, .unset, .unset] [(.int (1 : Int32)), (.ref b1), (.ref b1)])) _
    refine st6 _ ?_
    show Steps p.tables e below (T6.setTop (mkF m 15 #[.val (.int p0), .val (.long q1), .second, .unset, .unset, .unset, .unset, .unset, .unset, .unset, .unset] [(.ref (w 1)), (.int (1 : Int32)), (.ref b1), (.ref b1)])) _
    refine st9 _ ?_
    show Steps p.tables e below (T9.setTop (mkF m 16 #[.val (.int p0), .val (.long q1), .second, .unset, .unset, .unset, .unset, .unset, .unset, .unset, .unset] [(.ref b1)])) _
    refine XS.dup X9.here hx rfl (hb hby at_16) rfl rfl ?_
    show Steps p.tables e below (T9.setTop (mkF m 17 #[.val (.int p0), .val (.long q1), .second, .unset, .unset, .unset, .unset, .unset, .unset, .unset, .unset] [(.ref b1), (.ref b1)])) _
    refine XS.iconst X9.here hx rfl (hb hby at_17) ?_
    show Steps p.tables e below (T9.setTop (mkF m 18 #[.val (.int p0), .val (.long q1), .second, .unset, .unset, .unset, .unset, .unset, .unset, .unset, .unset] [(.int (2 : Int32)), (.ref b1), (.ref b1)])) _
    refine st10 _ ?_
    show Steps p.tables e below (T10.setTop (mkF m 21 #[.val (.int p0), .val (.long q1), .second, .unset, .unset, .unset, .unset, .unset, .unset, .unset, .unset] [(.ref (w 2)), (.int (2 : Int32)), (.ref b1), (.ref b1)])) _
    refine st13 _ ?_
    show Steps p.tables e below (T13.setTop (mkF m 22 #[.val (.int p0), .val (.long q1), .second, .unset, .unset, .unset, .unset, .unset, .unset, .unset, .unset] [(.ref b1)])) _
    refine XS.dup X13.here hx rfl (hb hby at_22) rfl rfl ?_
    show Steps p.tables e below (T13.setTop (mkF m 23 #[.val (.int p0), .val (.long q1), .second, .unset, .unset, .unset, .unset, .unset, .unset, .unset, .unset] [(.ref b1), (.ref b1)])) _
    refine XS.iconst X13.here hx rfl (hb hby at_23) ?_
    show Steps p.tables e below (T13.setTop (mkF m 24 #[.val (.int p0), .val (.long q1), .second, .unset, .unset, .unset, .unset, .unset, .unset, .unset, .unset] [(.int (3 : Int32)), (.ref b1), (.ref b1)])) _
    refine st14 _ ?_
    show Steps p.tables e below (T14.setTop (mkF m 27 #[.val (.int p0), .val (.long q1), .second, .unset, .unset, .unset, .unset, .unset, .unset, .unset, .unset] [(.ref (w 3)), (.int (3 : Int32)), (.ref b1), (.ref b1)])) _
    refine st17 _ ?_
    show Steps p.tables e below (T17.setTop (mkF m 28 #[.val (.int p0), .val (.long q1), .second, .unset, .unset, .unset, .unset, .unset, .unset, .unset, .unset] [(.ref b1)])) _
    refine XS.dup X17.here hx rfl (hb hby at_28) rfl rfl ?_
    show Steps p.tables e below (T17.setTop (mkF m 29 #[.val (.int p0), .val (.long q1), .second, .unset, .unset, .unset, .unset, .unset, .unset, .unset, .unset] [(.ref b1), (.ref b1)])) _
    refine XS.iconst X17.here hx rfl (hb hby at_29) ?_
    show Steps p.tables e below (T17.setTop (mkF m 30 #[.val (.int p0), .val (.long q1), .second, .unset, .unset, .unset, .unset, .unset, .unset, .unset, .unset] [(.int (4 : Int32)), (.ref b1), (.ref b1)])) _
    refine st18 _ ?_
    show Steps p.tables e below (T18.setTop (mkF m 33 #[.val (.int p0), .val (.long q1), .second, .unset, .unset, .unset, .unset, .unset, .unset, .unset, .unset] [(.ref (w 4)), (.int (4 : Int32)), (.ref b1), (.ref b1)])) _
    refine st21 _ ?_
    show Steps p.tables e below (T21.setTop (mkF m 34 #[.val (.int p0), .val (.long q1), .second, .unset, .unset, .unset, .unset, .unset, .unset, .unset, .unset] [(.ref b1)])) _
    refine XS.astoreN X21.here hx rfl (hb hby at_34) rfl rfl (l' := #[.val (.int p0), .val (.long q1), .second, .val (.ref b1), .unset, .unset, .unset, .unset, .unset, .unset, .unset]) rfl ?_
    show Steps p.tables e below (T21.setTop (mkF m 35 #[.val (.int p0), .val (.long q1), .second, .val (.ref b1), .unset, .unset, .unset, .unset, .unset, .unset, .unset] [])) _
    refine XS.iloadN X21.here hx rfl (hb hby at_35) rfl ?_
    show Steps p.tables e below (T21.setTop (mkF m 36 #[.val (.int p0), .val (.long q1), .second, .val (.ref b1), .unset, .unset, .unset, .unset, .unset, .unset, .unset] [(.int p0)])) _
    refine X21.ldcInt hx hown (mvT hZ (W hw 14 rfl)) (g := (mkF m 36 #[.val (.int p0), .val (.long q1), .second, .val (.ref b1), .unset, .unset, .unset, .unset, .unset, .unset, .unset] [(.int p0)])) rfl (hb hby at_36) _ ?_
    show Steps p.tables e below (T21.setTop (mkF m 38 #[.val (.int p0), .val (.long q1), .second, .val (.ref b1), .unset, .unset, .unset, .unset, .unset, .unset, .unset] [(.int (2147483647 : Int32)), (.int p0)])) _
    refine XS.iand X21.here hx rfl (hb hby at_38) rfl ?_
    show Steps p.tables e below (T21.setTop (mkF m 39 #[.val (.int p0), .val (.long q1), .second, .val (.ref b1), .unset, .unset, .unset, .unset, .unset, .unset, .unset] [(.int (p0 &&& (2147483647 : Int32)))])) _
    refine XS.iconst X21.here hx rfl (hb hby at_39) ?_
    show Steps p.tables e below (T21.setTop (mkF m 40 #[.val (.int p0), .val (.long q1), .second, .val (.ref b1), .unset, .unset, .unset, .unset, .unset, .unset, .unset] [(.int (5 : Int32)), (.int (p0 &&& (2147483647 : Int32)))])) _
    refine iremM X21 hx rfl (hb hby at_40) rfl (by decide : ¬ ((5 : Int32) = (0 : Int32))) ?_
    show Steps p.tables e below (T21.setTop (mkF m 41 #[.val (.int p0), .val (.long q1), .second, .val (.ref b1), .unset, .unset, .unset, .unset, .unset, .unset, .unset] [(.int ((p0 &&& (2147483647 : Int32)) % (5 : Int32)))])) _
    rw [hp0]
    show Steps p.tables e below (T21.setTop (mkF m 41 #[.val (.int p0), .val (.long q1), .second, .val (.ref b1), .unset, .unset, .unset, .unset, .unset, .unset, .unset] [(.int (2 : Int32))])) _
    refine XS.istore X21.here hx rfl (hb hby at_41) rfl (l' := #[.val (.int p0), .val (.long q1), .second, .val (.ref b1), .val (.int (2 : Int32)), .unset, .unset, .unset, .unset, .unset, .unset]) rfl ?_
    show Steps p.tables e below (T21.setTop (mkF m 43 #[.val (.int p0), .val (.long q1), .second, .val (.ref b1), .val (.int (2 : Int32)), .unset, .unset, .unset, .unset, .unset, .unset] [])) _
    refine XS.aloadN X21.here hx rfl (hb hby at_43) rfl rfl ?_
    show Steps p.tables e below (T21.setTop (mkF m 44 #[.val (.int p0), .val (.long q1), .second, .val (.ref b1), .val (.int (2 : Int32)), .unset, .unset, .unset, .unset, .unset, .unset] [(.ref b1)])) _
    refine XS.iload X21.here hx rfl (hb hby at_44) rfl ?_
    show Steps p.tables e below (T21.setTop (mkF m 46 #[.val (.int p0), .val (.long q1), .second, .val (.ref b1), .val (.int (2 : Int32)), .unset, .unset, .unset, .unset, .unset, .unset] [(.int (2 : Int32)), (.ref b1)])) _
    refine X21.aaload hx (j := (2 : Int32)) (v := (.ref (w 2))) (by rw [e21]; exact Ar22.1) (State.isArrayOf_alike hZ.alike Ar22.2.1) rfl Ar22.2.2 hin22 hat22 (g := (mkF m 46 #[.val (.int p0), .val (.long q1), .second, .val (.ref b1), .val (.int (2 : Int32)), .unset, .unset, .unset, .unset, .unset, .unset] [(.int (2 : Int32)), (.ref b1)])) rfl rfl (hb hby at_46) _ ?_
    show Steps p.tables e below (T21.setTop (mkF m 47 #[.val (.int p0), .val (.long q1), .second, .val (.ref b1), .val (.int (2 : Int32)), .unset, .unset, .unset, .unset, .unset, .unset] [(.ref (w 2))])) _
    refine XS.astore X21.here hx rfl (hb hby at_47) rfl rfl (l' := #[.val (.int p0), .val (.long q1), .second, .val (.ref b1), .val (.int (2 : Int32)), .val (.ref (w 2)), .unset, .unset, .unset, .unset, .unset]) rfl ?_
    show Steps p.tables e below (T21.setTop (mkF m 49 #[.val (.int p0), .val (.long q1), .second, .val (.ref b1), .val (.int (2 : Int32)), .val (.ref (w 2)), .unset, .unset, .unset, .unset, .unset] [])) _
    refine XS.lloadN X21.here hx rfl (hb hby at_49) rfl ?_
    show Steps p.tables e below (T21.setTop (mkF m 50 #[.val (.int p0), .val (.long q1), .second, .val (.ref b1), .val (.int (2 : Int32)), .val (.ref (w 2)), .unset, .unset, .unset, .unset, .unset] [(.long q1)])) _
    refine XS.lstore X21.here hx rfl (hb hby at_50) rfl (l' := #[.val (.int p0), .val (.long q1), .second, .val (.ref b1), .val (.int (2 : Int32)), .val (.ref (w 2)), .val (.long q1), .second, .unset, .unset, .unset]) rfl ?_
    show Steps p.tables e below (T21.setTop (mkF m 52 #[.val (.int p0), .val (.long q1), .second, .val (.ref b1), .val (.int (2 : Int32)), .val (.ref (w 2)), .val (.long q1), .second, .unset, .unset, .unset] [])) _
    refine XS.lload X21.here hx rfl (hb hby at_52) rfl ?_
    show Steps p.tables e below (T21.setTop (mkF m 54 #[.val (.int p0), .val (.long q1), .second, .val (.ref b1), .val (.int (2 : Int32)), .val (.ref (w 2)), .val (.long q1), .second, .unset, .unset, .unset] [(.long q1)])) _
    refine X21.ldc2Long hx hown (mvT hZ (W hw 15 rfl)) (g := (mkF m 54 #[.val (.int p0), .val (.long q1), .second, .val (.ref b1), .val (.int (2 : Int32)), .val (.ref (w 2)), .val (.long q1), .second, .unset, .unset, .unset] [(.long q1)])) rfl (hb hby at_54) _ ?_
    show Steps p.tables e below (T21.setTop (mkF m 57 #[.val (.int p0), .val (.long q1), .second, .val (.ref b1), .val (.int (2 : Int32)), .val (.ref (w 2)), .val (.long q1), .second, .unset, .unset, .unset] [(.long (9223372036854775807 : Int64)), (.long q1)])) _
    refine XS.lcmp X21.here hx rfl (hb hby at_57) rfl ?_
    show Steps p.tables e below (T21.setTop (mkF m 58 #[.val (.int p0), .val (.long q1), .second, .val (.ref b1), .val (.int (2 : Int32)), .val (.ref (w 2)), .val (.long q1), .second, .unset, .unset, .unset] [(.int (lcmpW q1 (9223372036854775807 : Int64)))])) _
    refine XS.ifYes X21.here hx rfl (pc0 := 58) (pc' := 64) rfl (hb hby at_58) rfl ((if0 _ _).trans (feq hp1).2) (by decide) (by decide) ?_
    show Steps p.tables e below (T21.setTop (mkF m 64 #[.val (.int p0), .val (.long q1), .second, .val (.ref b1), .val (.int (2 : Int32)), .val (.ref (w 2)), .val (.long q1), .second, .unset, .unset, .unset] [])) _
    refine XS.aload X21.here hx rfl (hb hby at_64) rfl rfl ?_
    show Steps p.tables e below (T21.setTop (mkF m 66 #[.val (.int p0), .val (.long q1), .second, .val (.ref b1), .val (.int (2 : Int32)), .val (.ref (w 2)), .val (.long q1), .second, .unset, .unset, .unset] [(.ref (w 2))])) _
    refine st23.trans ?_
    show Steps p.tables e below (T23.setTop (mkF m 69 #[.val (.int p0), .val (.long q1), .second, .val (.ref b1), .val (.int (2 : Int32)), .val (.ref (w 2)), .val (.long q1), .second, .unset, .unset, .unset] [(.int (1 : Int32))])) _
    refine XS.istore X23.here hx rfl (hb hby at_69) rfl (l' := #[.val (.int p0), .val (.long q1), .second, .val (.ref b1), .val (.int (2 : Int32)), .val (.ref (w 2)), .val (.long q1), .second, .val (.int (1 : Int32)), .unset, .unset]) rfl ?_
    show Steps p.tables e below (T23.setTop (mkF m 71 #[.val (.int p0), .val (.long q1), .second, .val (.ref b1), .val (.int (2 : Int32)), .val (.ref (w 2)), .val (.long q1), .second, .val (.int (1 : Int32)), .unset, .unset] [])) _
    refine XS.iload X23.here hx rfl (hb hby at_71) rfl ?_
    show Steps p.tables e below (T23.setTop (mkF m 73 #[.val (.int p0), .val (.long q1), .second, .val (.ref b1), .val (.int (2 : Int32)), .val (.ref (w 2)), .val (.long q1), .second, .val (.int (1 : Int32)), .unset, .unset] [(.int (2 : Int32))])) _
    refine XS.iconst X23.here hx rfl (hb hby at_73) ?_
    show Steps p.tables e below (T23.setTop (mkF m 74 #[.val (.int p0), .val (.long q1), .second, .val (.ref b1), .val (.int (2 : Int32)), .val (.ref (w 2)), .val (.long q1), .second, .val (.int (1 : Int32)), .unset, .unset] [(.int (2 : Int32)), (.int (2 : Int32))])) _
    refine XS.icmpNo X23.here hx rfl (hb hby at_74) rfl (flt (by decide : ¬ ((2 : Int32) < (2 : Int32)))).2.2.1 ?_
    show Steps p.tables e below (T23.setTop (mkF m 77 #[.val (.int p0), .val (.long q1), .second, .val (.ref b1), .val (.int (2 : Int32)), .val (.ref (w 2)), .val (.long q1), .second, .val (.int (1 : Int32)), .unset, .unset] [])) _
    refine XS.iconst X23.here hx rfl (hb hby at_77) ?_
    show Steps p.tables e below (T23.setTop (mkF m 78 #[.val (.int p0), .val (.long q1), .second, .val (.ref b1), .val (.int (2 : Int32)), .val (.ref (w 2)), .val (.long q1), .second, .val (.int (1 : Int32)), .unset, .unset] [(.int (1 : Int32))])) _
    refine XS.goto X23.here hx rfl (pc0 := 78) (pc' := 82) rfl (hb hby at_78) (by decide) (by decide) ?_
    show Steps p.tables e below (T23.setTop (mkF m 82 #[.val (.int p0), .val (.long q1), .second, .val (.ref b1), .val (.int (2 : Int32)), .val (.ref (w 2)), .val (.long q1), .second, .val (.int (1 : Int32)), .unset, .unset] [(.int (1 : Int32))])) _
    refine XS.istore X23.here hx rfl (hb hby at_82) rfl (l' := #[.val (.int p0), .val (.long q1), .second, .val (.ref b1), .val (.int (2 : Int32)), .val (.ref (w 2)), .val (.long q1), .second, .val (.int (1 : Int32)), .val (.int (1 : Int32)), .unset]) rfl ?_
    show Steps p.tables e below (T23.setTop (mkF m 84 #[.val (.int p0), .val (.long q1), .second, .val (.ref b1), .val (.int (2 : Int32)), .val (.ref (w 2)), .val (.long q1), .second, .val (.int (1 : Int32)), .val (.int (1 : Int32)), .unset] [])) _
    refine XS.aload X23.here hx rfl (hb hby at_84) rfl rfl ?_
    show Steps p.tables e below (T23.setTop (mkF m 86 #[.val (.int p0), .val (.long q1), .second, .val (.ref b1), .val (.int (2 : Int32)), .val (.ref (w 2)), .val (.long q1), .second, .val (.int (1 : Int32)), .val (.int (1 : Int32)), .unset] [(.ref (w 2))])) _
    refine X23.ldc2Long hx hown (mvT hZ (W hw 15 rfl)) (g := (mkF m 86 #[.val (.int p0), .val (.long q1), .second, .val (.ref b1), .val (.int (2 : Int32)), .val (.ref (w 2)), .val (.long q1), .second, .val (.int (1 : Int32)), .val (.int (1 : Int32)), .unset] [(.ref (w 2))])) rfl (hb hby at_86) _ ?_
    show Steps p.tables e below (T23.setTop (mkF m 89 #[.val (.int p0), .val (.long q1), .second, .val (.ref b1), .val (.int (2 : Int32)), .val (.ref (w 2)), .val (.long q1), .second, .val (.int (1 : Int32)), .val (.int (1 : Int32)), .unset] [(.long (9223372036854775807 : Int64)), (.ref (w 2))])) _
    refine XS.lload X23.here hx rfl (hb hby at_89) rfl ?_
    show Steps p.tables e below (T23.setTop (mkF m 91 #[.val (.int p0), .val (.long q1), .second, .val (.ref b1), .val (.int (2 : Int32)), .val (.ref (w 2)), .val (.long q1), .second, .val (.int (1 : Int32)), .val (.int (1 : Int32)), .unset] [(.long q1), (.long (9223372036854775807 : Int64)), (.ref (w 2))])) _
    refine st24.trans ?_
    show Steps p.tables e below (T24.setTop (mkF m 94 #[.val (.int p0), .val (.long q1), .second, .val (.ref b1), .val (.int (2 : Int32)), .val (.ref (w 2)), .val (.long q1), .second, .val (.int (1 : Int32)), .val (.int (1 : Int32)), .unset] [(.int (0 : Int32))])) _
    refine XS.ifNo X24.here hx rfl (hb hby at_94) rfl ((if0 _ _).trans (teq (by decide : (0 : Int32) = (0 : Int32))).2) ?_
    show Steps p.tables e below (T24.setTop (mkF m 97 #[.val (.int p0), .val (.long q1), .second, .val (.ref b1), .val (.int (2 : Int32)), .val (.ref (w 2)), .val (.long q1), .second, .val (.int (1 : Int32)), .val (.int (1 : Int32)), .unset] [])) _
    refine XS.iconst X24.here hx rfl (hb hby at_97) ?_
    show Steps p.tables e below (T24.setTop (mkF m 98 #[.val (.int p0), .val (.long q1), .second, .val (.ref b1), .val (.int (2 : Int32)), .val (.ref (w 2)), .val (.long q1), .second, .val (.int (1 : Int32)), .val (.int (1 : Int32)), .unset] [(.int (1 : Int32))])) _
    refine XS.goto X24.here hx rfl (pc0 := 98) (pc' := 102) rfl (hb hby at_98) (by decide) (by decide) ?_
    show Steps p.tables e below (T24.setTop (mkF m 102 #[.val (.int p0), .val (.long q1), .second, .val (.ref b1), .val (.int (2 : Int32)), .val (.ref (w 2)), .val (.long q1), .second, .val (.int (1 : Int32)), .val (.int (1 : Int32)), .unset] [(.int (1 : Int32))])) _
    refine XS.istore X24.here hx rfl (hb hby at_102) rfl (l' := #[.val (.int p0), .val (.long q1), .second, .val (.ref b1), .val (.int (2 : Int32)), .val (.ref (w 2)), .val (.long q1), .second, .val (.int (1 : Int32)), .val (.int (1 : Int32)), .val (.int (1 : Int32))]) rfl ?_
    show Steps p.tables e below (T24.setTop (mkF m 104 #[.val (.int p0), .val (.long q1), .second, .val (.ref b1), .val (.int (2 : Int32)), .val (.ref (w 2)), .val (.long q1), .second, .val (.int (1 : Int32)), .val (.int (1 : Int32)), .val (.int (1 : Int32))] [])) _
    refine XS.iload X24.here hx rfl (hb hby at_104) rfl ?_
    show Steps p.tables e below (T24.setTop (mkF m 106 #[.val (.int p0), .val (.long q1), .second, .val (.ref b1), .val (.int (2 : Int32)), .val (.ref (w 2)), .val (.long q1), .second, .val (.int (1 : Int32)), .val (.int (1 : Int32)), .val (.int (1 : Int32))] [(.int (1 : Int32))])) _
    refine XS.iload X24.here hx rfl (hb hby at_106) rfl ?_
    show Steps p.tables e below (T24.setTop (mkF m 108 #[.val (.int p0), .val (.long q1), .second, .val (.ref b1), .val (.int (2 : Int32)), .val (.ref (w 2)), .val (.long q1), .second, .val (.int (1 : Int32)), .val (.int (1 : Int32)), .val (.int (1 : Int32))] [(.int (1 : Int32)), (.int (1 : Int32))])) _
    refine XS.icmpNo X24.here hx rfl (hb hby at_108) rfl (teq (by decide : (1 : Int32) = (1 : Int32))).2 ?_
    show Steps p.tables e below (T24.setTop (mkF m 111 #[.val (.int p0), .val (.long q1), .second, .val (.ref b1), .val (.int (2 : Int32)), .val (.ref (w 2)), .val (.long q1), .second, .val (.int (1 : Int32)), .val (.int (1 : Int32)), .val (.int (1 : Int32))] [])) _
    refine XS.iload X24.here hx rfl (hb hby at_111) rfl ?_
    show Steps p.tables e below (T24.setTop (mkF m 113 #[.val (.int p0), .val (.long q1), .second, .val (.ref b1), .val (.int (2 : Int32)), .val (.ref (w 2)), .val (.long q1), .second, .val (.int (1 : Int32)), .val (.int (1 : Int32)), .val (.int (1 : Int32))] [(.int (1 : Int32))])) _
    refine XS.iload X24.here hx rfl (hb hby at_113) rfl ?_
    show Steps p.tables e below (T24.setTop (mkF m 115 #[.val (.int p0), .val (.long q1), .second, .val (.ref b1), .val (.int (2 : Int32)), .val (.ref (w 2)), .val (.long q1), .second, .val (.int (1 : Int32)), .val (.int (1 : Int32)), .val (.int (1 : Int32))] [(.int (1 : Int32)), (.int (1 : Int32))])) _
    refine XS.icmpNo X24.here hx rfl (hb hby at_115) rfl (teq (by decide : (1 : Int32) = (1 : Int32))).2 ?_
    show Steps p.tables e below (T24.setTop (mkF m 118 #[.val (.int p0), .val (.long q1), .second, .val (.ref b1), .val (.int (2 : Int32)), .val (.ref (w 2)), .val (.long q1), .second, .val (.int (1 : Int32)), .val (.int (1 : Int32)), .val (.int (1 : Int32))] [])) _
    refine XS.iconst X24.here hx rfl (hb hby at_118) ?_
    show Steps p.tables e below (T24.setTop (mkF m 119 #[.val (.int p0), .val (.long q1), .second, .val (.ref b1), .val (.int (2 : Int32)), .val (.ref (w 2)), .val (.long q1), .second, .val (.int (1 : Int32)), .val (.int (1 : Int32)), .val (.int (1 : Int32))] [(.int (1 : Int32))])) _
    refine XS.goto X24.here hx rfl (pc0 := 119) (pc' := 123) rfl (hb hby at_119) (by decide) (by decide) ?_
    show Steps p.tables e below (T24.setTop (mkF m 123 #[.val (.int p0), .val (.long q1), .second, .val (.ref b1), .val (.int (2 : Int32)), .val (.ref (w 2)), .val (.long q1), .second, .val (.int (1 : Int32)), .val (.int (1 : Int32)), .val (.int (1 : Int32))] [(.int (1 : Int32))])) _
    exact retN X24 hx (t := .boolean) Bd.returns (by simp) (hb hby at_123) hr
  · show OL (some (.int (1 : Int32))) Z.heap.size _ T24.heap _
    exact ⟨rfl, N24⟩
theorem d_prog_47_method_8_code_25 : decode prog_47_method_8_code 25 = .ok (.iconst 0, 1) := by decide +kernel
set_option maxRecDepth 65536 in
set_option maxHeartbeats 40000000 in
theorem rm_21 (l : Launch) (Z : State) (a0 : Array Value) (hw : ∀ d ∈ tables_1, d.before a0 Z = true) (w : Nat → Addr) (kk : Nat → ClassId) (hN : Wd Z w kk) (ws : List Jvm.Cond)  (h0 : Heap) (O0 : Old Z Z.heap.size h0) :
    MetFree l (⟨"com/example/stint/stint/model/Relation", "boundsAbove", "()Z"⟩ : MethodName) (head1 (Jvm.Cond.code (⟨"com/example/stint/stint/model/Relation", "boundsAbove", "()Z"⟩ : MethodName) prog_47_method_8_code 1 (some .boolean) :: ws) ({ frames := 0, cells := 0, slots := 0, locals := 0 } : Room)) (fun a U => a = #[(.ref (w 3))] ∧ Z.Warmed39 U.vm ∧ U.heap = h0) (fun _ _ _ _ _ => True) (fun _ U o U' => ∃ v L, o = .returned v ∧ OQ (some (.int (0 : Int32))) h0 Z.heap.size v U'.heap L ∧ FrameEnd U o U' L ({ frames := 0, cells := 0, slots := 0, locals := 0 } : Room).cells ({ frames := 0, cells := 0, slots := 0, locals := 0 } : Room).slots) := by
  have hN' := hN
  obtain ⟨hS0, hE0, hS1, hE1, hS2, hE2, hS3, hE3, hS4, hE4, hF0_ordinal, hF1_ordinal, hF4_ordinal, hF2_ordinal, hF3_ordinal⟩ := hN'
  refine MetFree.of_bodySF (plainFor_of_name pn_0) hisR ?_
  intro p e s m args below meth c s₁ Bd hml0 hP hK
  obtain ⟨rfl, hZ, hh⟩ := hP
  have hx := Bd.exec
  have hby := Bd.bytes
  have hml : c.maxLocals = 1 := hml0
  have hown : s.vm.findClass "com/example/stint/stint/model/Relation" = some m.cls := findClass_of_methodNamed Bd.named
  have hnm := (name_of_methodNamed Bd.named Bd.method).1
  have X0 : Stand p l e ({ frames := 0, cells := 0, slots := 0, locals := 0 } : Room) s m #[(.ref (w 3))] below meth c s₁ [] 0 0 := Stand.of_body Bd
  have e0 : s₁.heap = h0 := by rw [← hh, Bd.state]; rfl
  have N0 := Fr.nil Z.heap.size
  have pre0 : ∀ t, Steps p.tables e below (s₁.setTop (mkF m 0 #[.val (.ref (w 3))] [])) t → Steps p.tables e below (s₁.setTop (entryFrame m #[(.ref (w 3))] 1)) t := fun t k => castTop (ef_0 m (.ref (w 3)) rfl) k
  obtain ⟨T1, X1, e1, st1⟩ := getS2 X0 hx hZ hown (host := "") (Or.inl (W hw 21 rfl)) Via.refl e0 (hS0.ext O0.2) (g := (mkF m 1 #[.val (.ref (w 3))] [(.ref (w 3))])) rfl (hb hby d_prog_47_method_8_code_1)
  obtain ⟨T2, X2, e2, st2⟩ := getS2 X1 hx hZ hown (host := "") (Or.inl (W hw 40 rfl)) Via.refl e1 (hS1.ext O0.2) (g := (mkF m 8 #[.val (.ref (w 3))] [(.ref (w 3))])) rfl (hb hby d_prog_47_method_8_code_8)
  obtain ⟨T3, X3, e3, st3⟩ := getS2 X2 hx hZ hown (host := "") (Or.inl (W hw 41 rfl)) Via.refl e2 (hS2.ext O0.2) (g := (mkF m 15 #[.val (.ref (w 3))] [(.ref (w 3))])) rfl (hb hby d_prog_47_method_8_code_15)
  obtain ⟨fs, hr, hrun, hended, hW, hsame⟩ := X3.leave (v := some (.int (0 : Int32))) (fun h => by rw [Bd.returns] at h; cases h)
  refine ⟨_, _, pre0 _ ?_, hrun, hended, _, _, rfl, ?_, ⟨_, rfl⟩, hW, hsame.mono (by decide) (by decide)⟩
  · show Steps p.tables e below (s₁.setTop (mkF m 0 #[.val (.ref (w 3))] [])) _
    refine XS.aloadN X0.here hx rfl (hb hby d_prog_47_method_8_code_0) rfl rfl ?_
    show Steps p.tables e below (s₁.setTop (mkF m 1 #[.val (.ref (w 3))] [(.ref (w 3))])) _
    refine st1 _ ?_
    show Steps p.tables e below (T1.setTop (mkF m 4 #[.val (.ref (w 3))] [(.ref (w 0)), (.ref (w 3))])) _
    refine Jvm.RoadKit.acmp (g := (mkF m 4 #[.val (.ref (w 3))] [(.ref (w 0)), (.ref (w 3))])) X1 hx rfl rfl rfl (pc0 := 4) (pc' := 7) (same := false) rfl (hb hby d_prog_47_method_8_code_4) rfl (decide_eq_false fun q => (Fld.ne hF3_ordinal hF0_ordinal (by decide)) (Value.ref.inj q)) (by decide) (by decide) ?_
    show Steps p.tables e below (T1.setTop (mkF m 7 #[.val (.ref (w 3))] [])) _
    refine XS.aloadN X1.here hx rfl (hb hby d_prog_47_method_8_code_7) rfl rfl ?_
    show Steps p.tables e below (T1.setTop (mkF m 8 #[.val (.ref (w 3))] [(.ref (w 3))])) _
    refine st2 _ ?_
    show Steps p.tables e below (T2.setTop (mkF m 11 #[.val (.ref (w 3))] [(.ref (w 1)), (.ref (w 3))])) _
    refine Jvm.RoadKit.acmp (g := (mkF m 11 #[.val (.ref (w 3))] [(.ref (w 1)), (.ref (w 3))])) X2 hx rfl rfl rfl (pc0 := 11) (pc' := 14) (same := false) rfl (hb hby d_prog_47_method_8_code_11) rfl (decide_eq_false fun q => (Fld.ne hF3_ordinal hF1_ordinal (by decide)) (Value.ref.inj q)) (by decide) (by decide) ?_
    show Steps p.tables e below (T2.setTop (mkF m 14 #[.val (.ref (w 3))] [])) _
    refine XS.aloadN X2.here hx rfl (hb hby d_prog_47_method_8_code_14) rfl rfl ?_
    show Steps p.tables e below (T2.setTop (mkF m 15 #[.val (.ref (w 3))] [(.ref (w 3))])) _
    refine st3 _ ?_
    show Steps p.tables e below (T3.setTop (mkF m 18 #[.val (.ref (w 3))] [(.ref (w 2)), (.ref (w 3))])) _
    refine Jvm.RoadKit.acmp (g := (mkF m 18 #[.val (.ref (w 3))] [(.ref (w 2)), (.ref (w 3))])) X3 hx rfl rfl rfl (pc0 := 18) (pc' := 25) (same := false) rfl (hb hby d_prog_47_method_8_code_18) rfl (decide_eq_false fun q => (Fld.ne hF3_ordinal hF2_ordinal (by decide)) (Value.ref.inj q)) (by decide) (by decide) ?_
    show Steps p.tables e below (T3.setTop (mkF m 25 #[.val (.ref (w 3))] [])) _
    refine XS.iconst X3.here hx rfl (hb hby d_prog_47_method_8_code_25) ?_
    show Steps p.tables e below (T3.setTop (mkF m 26 #[.val (.ref (w 3))] [(.int (0 : Int32))])) _
    exact retN X3 hx (t := .boolean) Bd.returns (by simp) (hb hby d_prog_47_method_8_code_26) hr
  · show OQ (some (.int (0 : Int32))) h0 Z.heap.size _ T3.heap _
    rw [e3]
    exact ⟨rfl, N0, rfl⟩
set_option maxRecDepth 65536 in
set_option maxHeartbeats 40000000 in
theorem rm_22 (l : Launch) (Z : State) (a0 : Array Value) (hw : ∀ d ∈ tables_1, d.before a0 Z = true) (w : Nat → Addr) (kk : Nat → ClassId) (hN : Wd Z w kk) (ws : List Jvm.Cond)  (h0 : Heap) (O0 : Old Z Z.heap.size h0) :
    MetFree l (⟨"java/lang/Enum", "ordinal", "()I"⟩ : MethodName) (head1 (Jvm.Cond.code (⟨"java/lang/Enum", "ordinal", "()I"⟩ : MethodName) jdk_37_method_2_code 1 (some .int) :: ws) ({ frames := 0, cells := 0, slots := 0, locals := 0 } : Room)) (fun a U => a = #[(.ref (w 3))] ∧ Z.Warmed39 U.vm ∧ U.heap = h0) (fun _ _ _ _ _ => True) (fun _ U o U' => ∃ v L, o = .returned v ∧ OQ (some (.int (3 : Int32))) h0 Z.heap.size v U'.heap L ∧ FrameEnd U o U' L ({ frames := 0, cells := 0, slots := 0, locals := 0 } : Room).cells ({ frames := 0, cells := 0, slots := 0, locals := 0 } : Room).slots) := by
  have hN' := hN
  obtain ⟨hS0, hE0, hS1, hE1, hS2, hE2, hS3, hE3, hS4, hE4, hF0_ordinal, hF1_ordinal, hF4_ordinal, hF2_ordinal, hF3_ordinal⟩ := hN'
  refine MetFree.of_bodySF (plainFor_of_name pn_2) hisR ?_
  intro p e s m args below meth c s₁ Bd hml0 hP hK
  obtain ⟨rfl, hZ, hh⟩ := hP
  have hx := Bd.exec
  have hby := Bd.bytes
  have hml : c.maxLocals = 1 := hml0
  have hown : s.vm.findClass "java/lang/Enum" = some m.cls := findClass_of_methodNamed Bd.named
  have hnm := (name_of_methodNamed Bd.named Bd.method).1
  have X0 : Stand p l e ({ frames := 0, cells := 0, slots := 0, locals := 0 } : Room) s m #[(.ref (w 3))] below meth c s₁ [] 0 0 := Stand.of_body Bd
  have e0 : s₁.heap = h0 := by rw [← hh, Bd.state]; rfl
  have N0 := Fr.nil Z.heap.size
  have pre0 : ∀ t, Steps p.tables e below (s₁.setTop (mkF m 0 #[.val (.ref (w 3))] [])) t → Steps p.tables e below (s₁.setTop (entryFrame m #[(.ref (w 3))] 1)) t := fun t k => castTop (ef_0 m (.ref (w 3)) rfl) k
  obtain ⟨T1, X1, e1, st1⟩ := getF X0 hx hZ hown (host := "") (Or.inl (W hw 38 rfl)) Via.refl e0 (hF3_ordinal.ext O0.2) (g := (mkF m 1 #[.val (.ref (w 3))] [(.ref (w 3))])) rfl rfl (hb hby d_jdk_37_method_2_code_1)
  obtain ⟨fs, hr, hrun, hended, hW, hsame⟩ := X1.leave (v := some (.int (3 : Int32))) (fun h => by rw [Bd.returns] at h; cases h)
  refine ⟨_, _, pre0 _ ?_, hrun, hended, _, _, rfl, ?_, ⟨_, rfl⟩, hW, hsame.mono (by decide) (by decide)⟩
  · show Steps p.tables e below (s₁.setTop (mkF m 0 #[.val (.ref (w 3))] [])) _
    refine XS.aloadN X0.here hx rfl (hb hby d_jdk_37_method_2_code_0) rfl rfl ?_
    show Steps p.tables e below (s₁.setTop (mkF m 1 #[.val (.ref (w 3))] [(.ref (w 3))])) _
    refine st1 _ ?_
    show Steps p.tables e below (T1.setTop (mkF m 4 #[.val (.ref (w 3))] [(.int (3 : Int32))])) _
    exact retI X1 hx Bd.returns (hb hby d_jdk_37_method_2_code_4) hr
  · show OQ (some (.int (3 : Int32))) h0 Z.heap.size _ T1.heap _
    rw [e1]
    exact ⟨rfl, N0, rfl⟩
theorem d_prog_47_method_11_code_93 : decode prog_47_method_11_code 93 = .ok (.iload 5, 2) := by decide +kernel
theorem d_prog_47_method_11_code_95 : decode prog_47_method_11_code 95 = .ok (.ifCond .lt 7, 3) := by decide +kernel
theorem d_prog_47_method_11_code_98 : decode prog_47_method_11_code 98 = .ok (.iconst 1, 1) := by decide +kernel
theorem d_prog_47_method_11_code_99 : decode prog_47_method_11_code 99 = .ok (.goto 17, 3) := by decide +kernel
set_option maxRecDepth 65536 in
set_option maxHeartbeats 40000000 in
theorem rm_23 (l : Launch) (Z : State) (a0 : Array Value) (hw : ∀ d ∈ tables_1, d.before a0 Z = true) (w : Nat → Addr) (kk : Nat → ClassId) (hN : Wd Z w kk) (ws : List Jvm.Cond)  (h0 : Heap) (O0 : Old Z Z.heap.size h0) :
    MetFree l (⟨"com/example/stint/stint/model/Relation", "holds", "(JJ)Z"⟩ : MethodName) (head1 (Jvm.Cond.code (⟨"com/example/stint/stint/model/Relation", "holds", "(JJ)Z"⟩ : MethodName) prog_47_method_11_code 6 (some .boolean) :: ws) ({ frames := 1, cells := 0, slots := 0, locals := 15 } : Room)) (fun a U => a = #[(.ref (w 3)), (.long (9223372036854775807 : Int64)), (.long (0 : Int64))] ∧ Z.Warmed39 U.vm ∧ U.heap = h0) (fun _ _ _ _ _ => True) (fun _ U o U' => ∃ v L, o = .returned v ∧ OQ (some (.int (1 : Int32))) h0 Z.heap.size v U'.heap L ∧ FrameEnd U o U' L ({ frames := 1, cells := 0, slots := 0, locals := 15 } : Room).cells ({ frames := 1, cells := 0, slots := 0, locals := 15 } : Room).slots) := by
  have hN' := hN
  obtain ⟨hS0, hE0, hS1, hE1, hS2, hE2, hS3, hE3, hS4, hE4, hF0_ordinal, hF1_ordinal, hF4_ordinal, hF2_ordinal, hF3_ordinal⟩ := hN'
  refine MetFree.of_bodySF (plainFor_of_name pn_0) hisR ?_
  intro p e s m args below meth c s₁ Bd hml0 hP hK
  obtain ⟨rfl, hZ, hh⟩ := hP
  have hx := Bd.exec
  have hby := Bd.bytes
  have hml : c.maxLocals = 6 := hml0
  have hown : s.vm.findClass "com/example/stint/stint/model/Relation" = some m.cls := findClass_of_methodNamed Bd.named
  have hnm := (name_of_methodNamed Bd.named Bd.method).1
  have X0 : Stand p l e ({ frames := 1, cells := 0, slots := 0, locals := 15 } : Room) s m #[(.ref (w 3)), (.long (9223372036854775807 : Int64)), (.long (0 : Int64))] below meth c s₁ [] 0 0 := Stand.of_body Bd
  have e0 : s₁.heap = h0 := by rw [← hh, Bd.state]; rfl
  have N0 := Fr.nil Z.heap.size
  have pre0 : ∀ t, Steps p.tables e below (s₁.setTop (mkF m 0 #[.val (.ref (w 3)), .val (.long (9223372036854775807 : Int64)), .second, .val (.long (0 : Int64)), .second, .unset] [])) t → Steps p.tables e below (s₁.setTop (entryFrame m #[(.ref (w 3)), (.long (9223372036854775807 : Int64)), (.long (0 : Int64))] 6)) t := fun t k => castTop (ef_2 m (.ref (w 3)) rfl (.long (9223372036854775807 : Int64)) rfl (.long (0 : Int64)) rfl) k
  obtain ⟨_, _, ⟨T1, L1, k1, n1⟩, -, X1, ⟨Lc1, hQ1, l1, y1, z1⟩, st1⟩ := Jvm.LawKit.callS X0 hx (y := (⟨"java/lang/Long", "compare", "(JJ)I"⟩ : MethodName)) hown (mvT hZ (W hw 27 rfl)) (mvT hZ (W hw 28 rfl)) (mvT hZ (W hw 29 rfl)) (mvT hZ (W hw 30 rfl)) (by decide) (backOf (W := 0) (rm_2 l Z a0 hw w kk hN [] h0 O0) hZ (W hw 30 rfl) (W hw 29 rfl) (by decide) (by decide)) (g := (mkF m 2 #[.val (.ref (w 3)), .val (.long (9223372036854775807 : Int64)), .second, .val (.long (0 : Int64)), .second, .unset] [(.long (0 : Int64)), (.long (9223372036854775807 : Int64))])) rfl (by rw [hml]; rfl) (argsL := [(.long (9223372036854775807 : Int64)), (.long (0 : Int64))]) (rest := []) (lenOf pd_1 rfl) rfl (by show 2 * 0 + _ ≤ _; exact Nat.le_of_eq rfl) (hb hby d_prog_47_method_11_code_2) (fun _ _ => ⟨rfl, e0, (by decide : 0 + 0 ≤ _), (by decide : 0 + 0 ≤ _)⟩)
  dsimp only [Pt.U, Pt.locs, Pt.cells, Pt.slots] at X1 l1 y1 z1 st1 hQ1
  subst l1 y1 z1
  obtain ⟨rfl, N1q, e1⟩ := hQ1
  have N1 := Fr.app N0 N1q
  obtain ⟨cq2, kq2, q2a, q2b, q2c⟩ := isOf hZ e1 (hE3.ext O0.2)
  obtain ⟨_, _, ⟨T2, L2, k2, n2⟩, -, X2, ⟨Lc2, hQ2, l2, y2, z2⟩, st2⟩ := X1.virtualBackUp hx (x := (⟨"com/example/stint/stint/model/Relation", "ordinal", "()I"⟩ : MethodName)) (y := (⟨"java/lang/Enum", "ordinal", "()I"⟩ : MethodName)) (owner := "java/lang/Enum") hown (mvT hZ (W hw 31 rfl)) (mvT hZ (W hw 32 rfl)) (mvT hZ (W hw 33 rfl)) (by decide) (mvT hZ (W hw 35 rfl)) (mvT hZ (W hw 34 rfl)) (backOf (W := 0) (rm_22 l Z a0 hw w kk hN [] h0 O0) hZ (W hw 37 rfl) (W hw 36 rfl) (by decide) (by decide)) q2a q2c (g := (mkF m 8 #[.val (.ref (w 3)), .val (.long (9223372036854775807 : Int64)), .second, .val (.long (0 : Int64)), .second, .val (.int (1 : Int32))] [(.ref (w 3))])) rfl (by rw [hml]; rfl) (Steps.refl _) (argsL := []) (rest := []) (lenOf pd_2 rfl) rfl (by show 2 * 0 + _ ≤ _; exact Nat.le_of_eq rfl) (hb hby d_prog_47_method_11_code_8) (fun _ _ => ⟨rfl, e1, (by decide : 0 + 0 ≤ _), (by decide : 0 + 0 ≤ _)⟩)
  dsimp only [Pt.U, Pt.locs, Pt.cells, Pt.slots] at X2 l2 y2 z2 st2 hQ2
  subst l2 y2 z2
  obtain ⟨rfl, N2q, e2⟩ := hQ2
  have N2 := Fr.app N1 N2q
  obtain ⟨fs, hr, hrun, hended, hW, hsame⟩ := X2.leave (v := some (.int (1 : Int32))) (fun h => by rw [Bd.returns] at h; cases h)
  refine ⟨_, _, pre0 _ ?_, hrun, hended, _, _, rfl, ?_, ⟨_, rfl⟩, hW, hsame.mono (by decide) (by decide)⟩
  · show Steps p.tables e below (s₁.setTop (mkF m 0 #[.val (.ref (w 3)), .val (.long (9223372036854775807 : Int64)), .second, .val (.long (0 : Int64)), .second, .unset] [])) _
    refine XS.lloadN X0.here hx rfl (hb hby d_prog_47_method_11_code_0) rfl ?_
    show Steps p.tables e below (s₁.setTop (mkF m 1 #[.val (.ref (w 3)), .val (.long (9223372036854775807 : Int64)), .second, .val (.long (0 : Int64)), .second, .unset] [(.long (9223372036854775807 : Int64))])) _
    refine XS.lloadN X0.here hx rfl (hb hby d_prog_47_method_11_code_1) rfl ?_
    show Steps p.tables e below (s₁.setTop (mkF m 2 #[.val (.ref (w 3)), .val (.long (9223372036854775807 : Int64)), .second, .val (.long (0 : Int64)), .second, .unset] [(.long (0 : Int64)), (.long (9223372036854775807 : Int64))])) _
    refine st1 _ ?_
    show Steps p.tables e below (T1.setTop (mkF m 5 #[.val (.ref (w 3)), .val (.long (9223372036854775807 : Int64)), .second, .val (.long (0 : Int64)), .second, .unset] [(.int (1 : Int32))])) _
    refine XS.istore X1.here hx rfl (hb hby d_prog_47_method_11_code_5) rfl (l' := #[.val (.ref (w 3)), .val (.long (9223372036854775807 : Int64)), .second, .val (.long (0 : Int64)), .second, .val (.int (1 : Int32))]) rfl ?_
    show Steps p.tables e below (T1.setTop (mkF m 7 #[.val (.ref (w 3)), .val (.long (9223372036854775807 : Int64)), .second, .val (.long (0 : Int64)), .second, .val (.int (1 : Int32))] [])) _
    refine XS.aloadN X1.here hx rfl (hb hby d_prog_47_method_11_code_7) rfl rfl ?_
    show Steps p.tables e below (T1.setTop (mkF m 8 #[.val (.ref (w 3)), .val (.long (9223372036854775807 : Int64)), .second, .val (.long (0 : Int64)), .second, .val (.int (1 : Int32))] [(.ref (w 3))])) _
    refine st2.trans ?_
    show Steps p.tables e below (T2.setTop (mkF m 11 #[.val (.ref (w 3)), .val (.long (9223372036854775807 : Int64)), .second, .val (.long (0 : Int64)), .second, .val (.int (1 : Int32))] [(.int (3 : Int32))])) _
    refine XS.tswIn X2.here hx rfl (pc0 := 11) (pc' := 93) (o := 82) rfl (hb hby d_prog_47_method_11_code_11) rfl (by decide) (by decide) (by decide) (by decide) ?_
    show Steps p.tables e below (T2.setTop (mkF m 93 #[.val (.ref (w 3)), .val (.long (9223372036854775807 : Int64)), .second, .val (.long (0 : Int64)), .second, .val (.int (1 : Int32))] [])) _
    refine XS.iload X2.here hx rfl (hb hby d_prog_47_method_11_code_93) rfl ?_
    show Steps p.tables e below (T2.setTop (mkF m 95 #[.val (.ref (w 3)), .val (.long (9223372036854775807 : Int64)), .second, .val (.long (0 : Int64)), .second, .val (.int (1 : Int32))] [(.int (1 : Int32))])) _
    refine XS.ifNo X2.here hx rfl (hb hby d_prog_47_method_11_code_95) rfl ((if0 _ _).trans (flt (by decide : ¬ ((1 : Int32) < (0 : Int32)))).1) ?_
    show Steps p.tables e below (T2.setTop (mkF m 98 #[.val (.ref (w 3)), .val (.long (9223372036854775807 : Int64)), .second, .val (.long (0 : Int64)), .second, .val (.int (1 : Int32))] [])) _
    refine XS.iconst X2.here hx rfl (hb hby d_prog_47_method_11_code_98) ?_
    show Steps p.tables e below (T2.setTop (mkF m 99 #[.val (.ref (w 3)), .val (.long (9223372036854775807 : Int64)), .second, .val (.long (0 : Int64)), .second, .val (.int (1 : Int32))] [(.int (1 : Int32))])) _
    refine XS.goto X2.here hx rfl (pc0 := 99) (pc' := 116) rfl (hb hby d_prog_47_method_11_code_99) (by decide) (by decide) ?_
    show Steps p.tables e below (T2.setTop (mkF m 116 #[.val (.ref (w 3)), .val (.long (9223372036854775807 : Int64)), .second, .val (.long (0 : Int64)), .second, .val (.int (1 : Int32))] [(.int (1 : Int32))])) _
    exact retN X2 hx (t := .boolean) Bd.returns (by simp) (hb hby d_prog_47_method_11_code_116) hr
  · show OQ (some (.int (1 : Int32))) h0 Z.heap.size _ T2.heap _
    rw [e2]
    exact ⟨rfl, N2, rfl⟩
set_option maxRecDepth 65536 in
set_option maxHeartbeats 40000000 in
theorem law_24 (l : Launch) (Z : State) (a0 : Array Value) (hw : ∀ d ∈ tables_1, d.before a0 Z = true) (w : Nat → Addr) (kk : Nat → ClassId) (hN : Wd Z w kk) (ws : List Jvm.Cond) (p0 : Int32) (q1 : Int64) (h0 : Heap) (O0 : Old Z Z.heap.size h0) (hp0 : ((p0 &&& (2147483647 : Int32)) % (5 : Int32)) = (3 : Int32)) (hp1 : (lcmpW q1 (9223372036854775807 : Int64)) = (0 : Int32)) :
    MetFree l x (head1 (Jvm.Cond.code x code maxLocals ret :: ws) room_1) (fun a U => a = #[(.int p0), (.long q1)] ∧ Z.Warmed39 U.vm ∧ U.heap = h0) (fun _ _ _ _ _ => True) (fun _ U o U' => ∃ v L, o = .returned v ∧ OL (some (.int (1 : Int32))) Z.heap.size v U'.heap L ∧ FrameEnd U o U' L 16 128) := by
  have hN' := hN
  obtain ⟨hS0, hE0, hS1, hE1, hS2, hE2, hS3, hE3, hS4, hE4, hF0_ordinal, hF1_ordinal, hF4_ordinal, hF2_ordinal, hF3_ordinal⟩ := hN'
  refine MetFree.of_bodySF (plainFor_of_name pn_3) hisR ?_
  intro p e s m args below meth c s₁ Bd hml0 hP hK
  obtain ⟨rfl, hZ, hh⟩ := hP
  have hx := Bd.exec
  have hby := Bd.bytes
  have hml : c.maxLocals = 11 := hml0
  have hown : s.vm.findClass "com/example/stint/stint/model/RelationBoundsAbovePinLaw" = some m.cls := findClass_of_methodNamed Bd.named
  have hnm := (name_of_methodNamed Bd.named Bd.method).1
  have X0 : Stand p l e room_1 s m #[(.int p0), (.long q1)] below meth c s₁ [] 0 0 := Stand.of_body Bd
  have e0 : s₁.heap = h0 := by rw [← hh, Bd.state]; rfl
  have N0 := Fr.nil Z.heap.size
  have pre0 : ∀ t, Steps p.tables e below (s₁.setTop (mkF m 0 #[.val (.int p0), .val (.long q1), .second, .unset, .unset, .unset, .unset, .unset, .unset, .unset, .unset] [])) t → Steps p.tables e below (s₁.setTop (entryFrame m #[(.int p0), (.long q1)] maxLocals)) t := fun t k => castTop (ef_3 m (.int p0) rfl (.long q1) rfl) k
  obtain ⟨T1, h1, k1, X1, e1, E1, A1, Ov1, st1⟩ := newR X0 hx hZ hown (W hw 0 rfl) (W hw 1 rfl) e0 (g := (mkF m 1 #[.val (.int p0), .val (.long q1), .second, .unset, .unset, .unset, .unset, .unset, .unset, .unset, .unset] [(.int (5 : Int32))])) rfl (hb hby at_1) rfl (by decide) (cap := 5) (by decide) (by decide) (by decide) (by decide)
  obtain ⟨b1, g1⟩ : ∃ z, z = h0.size := ⟨_, rfl⟩
  rw [← g1] at A1 st1
  have gn_b1 : Z.heap.size ≤ b1 := Nat.le_trans O0.2.1 (Nat.le_of_eq g1.symm)
  have O1 := O0.ext E1
  have V_b1_v1 : Arv Z h1 b1 k1 (.object "com/example/stint/stint/model/Relation") (5 : Int32) [] .null := Arv.new A1 (by decide)
  obtain ⟨T2, X2, e2, st2⟩ := getS2 X1 hx hZ hown (host := "") (Or.inl (W hw 2 rfl)) Via.refl e1 (hS0.ext O1.2) (g := (mkF m 6 #[.val (.int p0), .val (.long q1), .second, .unset, .unset, .unset, .unset, .unset, .unset, .unset, .unset] [(.int (0 : Int32)), (.ref b1), (.ref b1)])) rfl (hb hby at_6)
  have V_b1_v3 : Arv Z h1 b1 k1 (.object "com/example/stint/stint/model/Relation") (5 : Int32) [.null] .null := V_b1_v1.pad (pad_rep [] .null 1)
  obtain ⟨cl4, Ar4, q4, Sz4, Ng4, Hv4, Gv4⟩ := V_b1_v3
  have hin4 : ¬ ((0 : Int32) < 0 ∨ cl4.slots.size ≤ ((0 : Int32)).toNatClampNeg) := inb_of Sz4 ⟨by decide, by decide⟩
  obtain ⟨T5, h5, X5, e5, W5, st5⟩ := stR X2 hx hZ e2 Ar4 (j := (0 : Int32)) (v := (.ref (w 0))) hin4 rfl (Sto.ofV Ar4 q4 Ov1 (Ins.self (hE0.ext O1.2))) (g := (mkF m 9 #[.val (.int p0), .val (.long q1), .second, .unset, .unset, .unset, .unset, .unset, .unset, .unset, .unset] [(.ref (w 0)), (.int (0 : Int32)), (.ref b1), (.ref b1)])) rfl rfl (hb hby at_9)
  have V_b1_v5 : Arv Z h5 b1 k1 (.object "com/example/stint/stint/model/Relation") (5 : Int32) [(.ref (w 0))] .null := Arv.set Ar4 q4 Sz4 Ng4 Hv4 Gv4 rfl W5 0 rfl (Nat.le_of_ble_eq_true rfl)
  have N5 := Fr.snoc X5 N0 gn_b1
  have O5 := O1.wr W5 gn_b1
  obtain ⟨T6, X6, e6, st6⟩ := getS2 X5 hx hZ hown (host := "") (Or.inl (W hw 6 rfl)) Via.refl e5 (hS1.ext O5.2) (g := (mkF m 12 #[.val (.int p0), .val (.long q1), .second, .unset, .unset, .unset, .unset, .unset, .unset, .unset, .unset] [(.int (1 : Int32)), (.ref b1), (.ref b1)])) rfl (hb hby at_12)
  have V_b1_v7 : Arv Z h5 b1 k1 (.object "com/example/stint/stint/model/Relation") (5 : Int32) [(.ref (w 0)), .null] .null := V_b1_v5.pad (pad_rep [(.ref (w 0))] .null 1)
  obtain ⟨cl8, Ar8, q8, Sz8, Ng8, Hv8, Gv8⟩ := V_b1_v7
  have hin8 : ¬ ((1 : Int32) < 0 ∨ cl8.slots.size ≤ ((1 : Int32)).toNatClampNeg) := inb_of Sz8 ⟨by decide, by decide⟩
  obtain ⟨T9, h9, X9, e9, W9, st9⟩ := stR X6 hx hZ e6 Ar8 (j := (1 : Int32)) (v := (.ref (w 1))) hin8 rfl (Sto.ofV Ar8 q8 Ov1 (Ins.self (hE1.ext O5.2))) (g := (mkF m 15 #[.val (.int p0), .val (.long q1), .second, .unset, .unset, .unset, .unset, .unset, .unset, .unset, .unset] [(.ref (w 1)), (.int (1 : Int32)), (.ref b1), (.ref b1)])) rfl rfl (hb hby at_15)
  have V_b1_v9 : Arv Z h9 b1 k1 (.object "com/example/stint/stint/model/Relation") (5 : Int32) [(.ref (w 0)), (.ref (w 1))] .null := Arv.set Ar8 q8 Sz8 Ng8 Hv8 Gv8 rfl W9 1 rfl (Nat.le_of_ble_eq_true rfl)
  have N9 := Fr.snoc X9 N5 gn_b1
  have O9 := O5.wr W9 gn_b1
  obtain ⟨T10, X10, e10, st10⟩ := getS2 X9 hx hZ hown (host := "") (Or.inl (W hw 8 rfl)) Via.refl e9 (hS2.ext O9.2) (g := (mkF m 18 #[.val (.int p0), .val (.long q1), .second, .unset, .unset, .unset, .unset, .unset, .unset, .unset, .unset] [(.int (2 : Int32)), (.ref b1), (.ref b1)])) rfl (hb hby at_18)
  have V_b1_v11 : Arv Z h9 b1 k1 (.object "com/example/stint/stint/model/Relation") (5 : Int32) [(.ref (w 0)), (.ref (w 1)), .null] .null := V_b1_v9.pad (pad_rep [(.ref (w 0)), (.ref (w 1))] .null 1)
  obtain ⟨cl12, Ar12, q12, Sz12, Ng12, Hv12, Gv12⟩ := V_b1_v11
  have hin12 : ¬ ((2 : Int32) < 0 ∨ cl12.slots.size ≤ ((2 : Int32)).toNatClampNeg) := inb_of Sz12 ⟨by decide, by decide⟩
  obtain ⟨T13, h13, X13, e13, W13, st13⟩ := stR X10 hx hZ e10 Ar12 (j := (2 : Int32)) (v := (.ref (w 2))) hin12 rfl (Sto.ofV Ar12 q12 Ov1 (Ins.self (hE2.ext O9.2))) (g := (mkF m 21 #[.val (.int p0), .val (.long q1), .second, .unset, .unset, .unset, .unset, .unset, .unset, .unset, .unset] [(.ref (w 2)), (.int (2 : Int32)), (.ref b1), (.ref b1)])) rfl rfl (hb hby at_21)
  have V_b1_v13 : Arv Z h13 b1 k1 (.object "com/example/stint/stint/model/Relation") (5 : Int32) [(.ref (w 0)), (.ref (w 1)), (.ref (w 2))] .null := Arv.set Ar12 q12 Sz12 Ng12 Hv12 Gv12 rfl W13 2 rfl (Nat.le_of_ble_eq_true rfl)
  have N13 := Fr.snoc X13 N9 gn_b1
  have O13 := O9.wr W13 gn_b1
  obtain ⟨T14, X14, e14, st14⟩ := getS2 X13 hx hZ hown (host := "") (Or.inl (W hw 10 rfl)) Via.refl e13 (hS3.ext O13.2) (g := (mkF m 24 #[.val (.int p0), .val (.long q1), .second, .unset, .unset, .unset, .unset, .unset, .unset, .unset, .unset] [(.int (3 : Int32)), (.ref b1), (.ref b1)])) rfl (hb hby at_24)
  have V_b1_v15 : Arv Z h13 b1 k1 (.object "com/example/stint/stint/model/Relation") (5 : Int32) [(.ref (w 0)), (.ref (w 1)), (.ref (w 2)), .null] .null := V_b1_v13.pad (pad_rep [(.ref (w 0)), (.ref (w 1)), (.ref (w 2))] .null 1)
  obtain ⟨cl16, Ar16, q16, Sz16, Ng16, Hv16, Gv16⟩ := V_b1_v15
  have hin16 : ¬ ((3 : Int32) < 0 ∨ cl16.slots.size ≤ ((3 : Int32)).toNatClampNeg) := inb_of Sz16 ⟨by decide, by decide⟩
  obtain ⟨T17, h17, X17, e17, W17, st17⟩ := stR X14 hx hZ e14 Ar16 (j := (3 : Int32)) (v := (.ref (w 3))) hin16 rfl (Sto.ofV Ar16 q16 Ov1 (Ins.self (hE3.ext O13.2))) (g := (mkF m 27 #[.val (.int p0), .val (.long q1), .second, .unset, .unset, .unset, .unset, .unset, .unset, .unset, .unset] [(.ref (w 3)), (.int (3 : Int32)), (.ref b1), (.ref b1)])) rfl rfl (hb hby at_27)
  have V_b1_v17 : Arv Z h17 b1 k1 (.object "com/example/stint/stint/model/Relation") (5 : Int32) [(.ref (w 0)), (.ref (w 1)), (.ref (w 2)), (.ref (w 3))] .null := Arv.set Ar16 q16 Sz16 Ng16 Hv16 Gv16 rfl W17 3 rfl (Nat.le_of_ble_eq_true rfl)
  have N17 := Fr.snoc X17 N13 gn_b1
  have O17 := O13.wr W17 gn_b1
  obtain ⟨T18, X18, e18, st18⟩ := getS2 X17 hx hZ hown (host := "") (Or.inl (W hw 12 rfl)) Via.refl e17 (hS4.ext O17.2) (g := (mkF m 30 #[.val (.int p0), .val (.long q1), .second, .unset, .unset, .unset, .unset, .unset, .unset, .unset, .unset] [(.int (4 : Int32)), (.ref b1), (.ref b1)])) rfl (hb hby at_30)
  have V_b1_v19 : Arv Z h17 b1 k1 (.object "com/example/stint/stint/model/Relation") (5 : Int32) [(.ref (w 0)), (.ref (w 1)), (.ref (w 2)), (.ref (w 3)), .null] .null := V_b1_v17.pad (pad_rep [(.ref (w 0)), (.ref (w 1)), (.ref (w 2)), (.ref (w 3))] .null 1)
  obtain ⟨cl20, Ar20, q20, Sz20, Ng20, Hv20, Gv20⟩ := V_b1_v19
  have hin20 : ¬ ((4 : Int32) < 0 ∨ cl20.slots.size ≤ ((4 : Int32)).toNatClampNeg) := inb_of Sz20 ⟨by decide, by decide⟩
  obtain ⟨T21, h21, X21, e21, W21, st21⟩ := stR X18 hx hZ e18 Ar20 (j := (4 : Int32)) (v := (.ref (w 4))) hin20 rfl (Sto.ofV Ar20 q20 Ov1 (Ins.self (hE4.ext O17.2))) (g := (mkF m 33 #[.val (.int p0), .val (.long q1), .second, .unset, .unset, .unset, .unset, .unset, .unset, .unset, .unset] [(.ref (w 4)), (.int (4 : Int32)), (.ref b1), (.ref b1)])) rfl rfl (hb hby at_33)
  have V_b1_v21 : Arv Z h21 b1 k1 (.object "com/example/stint/stint/model/Relation") (5 : Int32) [(.ref (w 0)), (.ref (w 1)), (.ref (w 2)), (.ref (w 3)), (.ref (w 4))] .null := Arv.set Ar20 q20 Sz20 Ng20 Hv20 Gv20 rfl W21 4 rfl (Nat.le_of_ble_eq_true rfl)
  have N21 := Fr.snoc X21 N17 gn_b1
  have O21 := O17.wr W21 gn_b1
  obtain ⟨cl22, Ar22, q22, Sz22, Ng22, Hv22, Gv22⟩ := V_b1_v21
  have hin22 : ¬ ((3 : Int32) < 0 ∨ cl22.slots.size ≤ ((3 : Int32)).toNatClampNeg) := inb_of Sz22 ⟨by decide, by decide⟩
  have hat22 : cl22.slots[((3 : Int32)).toNatClampNeg]? = some (.ref (w 3)) := Has.at Hv22 hin22 (by rfl)
  obtain ⟨cq23, kq23, q23a, q23b, q23c⟩ := isOf hZ e21 (hE3.ext O21.2)
  obtain ⟨_, _, ⟨T23, L23, k23, n23⟩, -, X23, ⟨Lc23, hQ23, l23, y23, z23⟩, st23⟩ := X21.virtualBack hx (y := (⟨"com/example/stint/stint/model/Relation", "boundsAbove", "()Z"⟩ : MethodName)) (z := (⟨"com/example/stint/stint/model/Relation", "boundsAbove", "()Z"⟩ : MethodName)) hown (mvT hZ (W hw 16 rfl)) (mvT hZ (W hw 17 rfl)) (notFace_of_selects (args := #[]) (mvT hZ (W hw 19 rfl))) (mvT hZ (W hw 19 rfl)) (mvT hZ (W hw 18 rfl)) (by decide) (backOf (W := 0) (rm_21 l Z a0 hw w kk hN [] h21 O21) hZ (W hw 20 rfl) (W hw 3 rfl) (by decide) (by decide)) q23a q23c (g := (mkF m 66 #[.val (.int p0), .val (.long q1), .second, .val (.ref b1), .val (.int (3 : Int32)), .val (.ref (w 3)), .val (.long (0 : Int64)), .second, .unset, .unset, .unset] [(.ref (w 3))])) rfl (by rw [hml]; rfl) (Steps.refl _) (argsL := []) (rest := []) (lenOf pd_0 rfl) rfl (by show 2 * 0 + _ ≤ _; exact Nat.le_of_eq rfl) (hb hby at_66) (fun _ _ => ⟨rfl, e21, (by decide : 1 + 0 ≤ _), (by decide : 5 + 0 ≤ _)⟩)
  dsimp only [Pt.U, Pt.locs, Pt.cells, Pt.slots] at X23 l23 y23 z23 st23 hQ23
  subst l23 y23 z23
  obtain ⟨rfl, N23q, e23⟩ := hQ23
  have N23 := Fr.app N21 N23q
  obtain ⟨cq24, kq24, q24a, q24b, q24c⟩ := isOf hZ e23 (hE3.ext O21.2)
  obtain ⟨_, _, ⟨T24, L24, k24, n24⟩, -, X24, ⟨Lc24, hQ24, l24, y24, z24⟩, st24⟩ := X23.virtualBack hx (y := (⟨"com/example/stint/stint/model/Relation", "holds", "(JJ)Z"⟩ : MethodName)) (z := (⟨"com/example/stint/stint/model/Relation", "holds", "(JJ)Z"⟩ : MethodName)) hown (mvT hZ (W hw 22 rfl)) (mvT hZ (W hw 23 rfl)) (notFace_of_selects (args := #[]) (mvT hZ (W hw 25 rfl))) (mvT hZ (W hw 25 rfl)) (mvT hZ (W hw 24 rfl)) (by decide) (backOf (W := 0) (rm_23 l Z a0 hw w kk hN [] h21 O21) hZ (W hw 26 rfl) (W hw 3 rfl) (by decide) (by decide)) q24a q24c (g := (mkF m 91 #[.val (.int p0), .val (.long q1), .second, .val (.ref b1), .val (.int (3 : Int32)), .val (.ref (w 3)), .val (.long (0 : Int64)), .second, .val (.int (0 : Int32)), .val (.int (0 : Int32)), .unset] [(.long (0 : Int64)), (.long (9223372036854775807 : Int64)), (.ref (w 3))])) rfl (by rw [hml]; rfl) (Steps.refl _) (argsL := [(.long (9223372036854775807 : Int64)), (.long (0 : Int64))]) (rest := []) (lenOf pd_3 rfl) rfl (by show 2 * 0 + _ ≤ _; exact Nat.le_of_eq rfl) (hb hby at_91) (fun _ _ => ⟨rfl, e23, (by decide : 1 + 0 ≤ _), (by decide : 5 + 0 ≤ _)⟩)
  dsimp only [Pt.U, Pt.locs, Pt.cells, Pt.slots] at X24 l24 y24 z24 st24 hQ24
  subst l24 y24 z24
  obtain ⟨rfl, N24q, e24⟩ := hQ24
  have N24 := Fr.app N23 N24q
  obtain ⟨fs, hr, hrun, hended, hW, hsame⟩ := X24.leave (v := some (.int (1 : Int32))) (fun h => by rw [Bd.returns] at h; cases h)
  refine ⟨_, _, pre0 _ ?_, hrun, hended, _, _, rfl, ?_, ⟨_, rfl⟩, hW, hsame.mono (by decide) (by decide)⟩
  · show Steps p.tables e below (s₁.setTop (mkF m 0 #[.val (.int p0), .val (.long q1), .second, .unset, .unset, .unset, .unset, .unset, .unset, .unset, .unset] [])) _
    refine XS.iconst X0.here hx rfl (hb hby at_0) ?_
    show Steps p.tables e below (s₁.setTop (mkF m 1 #[.val (.int p0), .val (.long q1), .second, .unset, .unset, .unset, .unset, .unset, .unset, .unset, .unset] [(.int (5 : Int32))])) _
    refine st1 _ ?_
    show Steps p.tables e below (T1.setTop (mkF m 4 #[.val (.int p0), .val (.long q1), .second, .unset, .unset, .unset, .unset, .unset, .unset, .unset, .unset] [(.ref b1)])) _
    refine XS.dup X1.here hx rfl (hb hby at_4) rfl rfl ?_
    show Steps p.tables e below (T1.setTop (mkF m 5 #[.val (.int p0), .val (.long q1), .second, .unset, .unset, .unset, .unset, .unset, .unset, .unset, .unset] [(.ref b1), (.ref b1)])) _
    refine XS.iconst X1.here hx rfl (hb hby at_5) ?_
    show Steps p.tables e below (T1.setTop (mkF m 6 #[.val (.int p0), .val (.long q1), .second, .unset, .unset, .unset, .unset, .unset, .unset, .unset, .unset] [(.int (0 : Int32)), (.ref b1), (.ref b1)])) _
    refine st2 _ ?_
    show Steps p.tables e below (T2.setTop (mkF m 9 #[.val (.int p0), .val (.long q1), .second, .unset, .unset, .unset, .unset, .unset, .unset, .unset, .unset] [(.ref (w 0)), (.int (0 : Int32)), (.ref b1), (.ref b1)])) _
    refine st5 _ ?_
    show Steps p.tables e below (T5.setTop (mkF m 10 #[.val (.int p0), .val (.long q1), .second, .unset, .unset, .unset, .unset, .unset, .unset, .unset, .unset] [(.ref b1)])) _
    refine XS.dup X5.here hx rfl (hb hby at_10) rfl rfl ?_
    show Steps p.tables e below (T5.setTop (mkF m 11 #[.val (.int p0), .val (.long q1), .second, .unset, .unset, .unset, .unset, .unset, .unset, .unset, .unset] [(.ref b1), (.ref b1)])) _
    refine XS.iconst X5.here hx rfl (hb hby at_11) ?_
    show Steps p.tables e below (T5.setTop (mkF m 12 #[.val (.int p0), .val (.long q1), .second, .unset, .unset, .unset, .unset, .unset, .unset, .unset, .unset] [(.int (1 : Int32)), (.ref b1), (.ref b1)])) _
    refine st6 _ ?_
    show Steps p.tables e below (T6.setTop (mkF m 15 #[.val (.int p0), .val (.long q1), .second, .unset, .unset, .unset, .unset, .unset, .unset, .unset, .unset] [(.ref (w 1)), (.int (1 : Int32)), (.ref b1), (.ref b1)])) _
    refine st9 _ ?_
    show Steps p.tables e below (T9.setTop (mkF m 16 #[.val (.int p0), .val (.long q1), .second, .unset, .unset, .unset, .unset, .unset, .unset, .unset, .unset] [(.ref b1)])) _
    refine XS.dup X9.here hx rfl (hb hby at_16) rfl rfl ?_
    show Steps p.tables e below (T9.setTop (mkF m 17 #[.val (.int p0), .val (.long q1), .second, .unset, .unset, .unset, .unset, .unset, .unset, .unset, .unset] [(.ref b1), (.ref b1)])) _
    refine XS.iconst X9.here hx rfl (hb hby at_17) ?_
    show Steps p.tables e below (T9.setTop (mkF m 18 #[.val (.int p0), .val (.long q1), .second, .unset, .unset, .unset, .unset, .unset, .unset, .unset, .unset] [(.int (2 : Int32)), (.ref b1), (.ref b1)])) _
    refine st10 _ ?_
    show Steps p.tables e below (T10.setTop (mkF m 21 #[.val (.int p0), .val (.long q1), .second, .unset, .unset, .unset, .unset, .unset, .unset, .unset, .unset] [(.ref (w 2)), (.int (2 : Int32)), (.ref b1), (.ref b1)])) _
    refine st13 _ ?_
    show Steps p.tables e below (T13.setTop (mkF m 22 #[.val (.int p0), .val (.long q1), .second, .unset, .unset, .unset, .unset, .unset, .unset, .unset, .unset] [(.ref b1)])) _
    refine XS.dup X13.here hx rfl (hb hby at_22) rfl rfl ?_
    show Steps p.tables e below (T13.setTop (mkF m 23 #[.val (.int p0), .val (.long q1), .second, .unset, .unset, .unset, .unset, .unset, .unset, .unset, .unset] [(.ref b1), (.ref b1)])) _
    refine XS.iconst X13.here hx rfl (hb hby at_23) ?_
    show Steps p.tables e below (T13.setTop (mkF m 24 #[.val (.int p0), .val (.long q1), .second, .unset, .unset, .unset, .unset, .unset, .unset, .unset, .unset] [(.int (3 : Int32)), (.ref b1), (.ref b1)])) _
    refine st14 _ ?_
    show Steps p.tables e below (T14.setTop (mkF m 27 #[.val (.int p0), .val (.long q1), .second, .unset, .unset, .unset, .unset, .unset, .unset, .unset, .unset] [(.ref (w 3)), (.int (3 : Int32)), (.ref b1), (.ref b1)])) _
    refine st17 _ ?_
    show Steps p.tables e below (T17.setTop (mkF m 28 #[.val (.int p0), .val (.long q1), .second, .unset, .unset, .unset, .unset, .unset, .unset, .unset, .unset] [(.ref b1)])) _
    refine XS.dup X17.here hx rfl (hb hby at_28) rfl rfl ?_
    show Steps p.tables e below (T17.setTop (mkF m 29 #[.val (.int p0), .val (.long q1), .second, .unset, .unset, .unset, .unset, .unset, .unset, .unset, .unset] [(.ref b1), (.ref b1)])) _
    refine XS.iconst X17.here hx rfl (hb hby at_29) ?_
    show Steps p.tables e below (T17.setTop (mkF m 30 #[.val (.int p0), .val (.long q1), .second, .unset, .unset, .unset, .unset, .unset, .unset, .unset, .unset] [(.int (4 : Int32)), (.ref b1), (.ref b1)])) _
    refine st18 _ ?_
    show Steps p.tables e below (T18.setTop (mkF m 33 #[.val (.int p0), .val (.long q1), .second, .unset, .unset, .unset, .unset, .unset, .unset, .unset, .unset] [(.ref (w 4)), (.int (4 : Int32)), (.ref b1), (.ref b1)])) _
    refine st21 _ ?_
    show Steps p.tables e below (T21.setTop (mkF m 34 #[.val (.int p0), .val (.long q1), .second, .unset, .unset, .unset, .unset, .unset, .unset, .unset, .unset] [(.ref b1)])) _
    refine XS.astoreN X21.here hx rfl (hb hby at_34) rfl rfl (l' := #[.val (.int p0), .val (.long q1), .second, .val (.ref b1), .unset, .unset, .unset, .unset, .unset, .unset, .unset]) rfl ?_
    show Steps p.tables e below (T21.setTop (mkF m 35 #[.val (.int p0), .val (.long q1), .second, .val (.ref b1), .unset, .unset, .unset, .unset, .unset, .unset, .unset] [])) _
    refine XS.iloadN X21.here hx rfl (hb hby at_35) rfl ?_
    show Steps p.tables e below (T21.setTop (mkF m 36 #[.val (.int p0), .val (.long q1), .second, .val (.ref b1), .unset, .unset, .unset, .unset, .unset, .unset, .unset] [(.int p0)])) _
    refine X21.ldcInt hx hown (mvT hZ (W hw 14 rfl)) (g := (mkF m 36 #[.val (.int p0), .val (.long q1), .second, .val (.ref b1), .unset, .unset, .unset, .unset, .unset, .unset, .unset] [(.int p0)])) rfl (hb hby at_36) _ ?_
    show Steps p.tables e below (T21.setTop (mkF m 38 #[.val (.int p0), .val (.long q1), .second, .val (.ref b1), .unset, .unset, .unset, .unset, .unset, .unset, .unset] [(.int (2147483647 : Int32)), (.int p0)])) _
    refine XS.iand X21.here hx rfl (hb hby at_38) rfl ?_
    show Steps p.tables e below (T21.setTop (mkF m 39 #[.val (.int p0), .val (.long q1), .second, .val (.ref b1), .unset, .unset, .unset, .unset, .unset, .unset, .unset] [(.int (p0 &&& (2147483647 : Int32)))])) _
    refine XS.iconst X21.here hx rfl (hb hby at_39) ?_
    show Steps p.tables e below (T21.setTop (mkF m 40 #[.val (.int p0), .val (.long q1), .second, .val (.ref b1), .unset, .unset, .unset, .unset, .unset, .unset, .unset] [(.int (5 : Int32)), (.int (p0 &&& (2147483647 : Int32)))])) _
    refine iremM X21 hx rfl (hb hby at_40) rfl (by decide : ¬ ((5 : Int32) = (0 : Int32))) ?_
    show Steps p.tables e below (T21.setTop (mkF m 41 #[.val (.int p0), .val (.long q1), .second, .val (.ref b1), .unset, .unset, .unset, .unset, .unset, .unset, .unset] [(.int ((p0 &&& (2147483647 : Int32)) % (5 : Int32)))])) _
    rw [hp0]
    show Steps p.tables e below (T21.setTop (mkF m 41 #[.val (.int p0), .val (.long q1), .second, .val (.ref b1), .unset, .unset, .unset, .unset, .unset, .unset, .unset] [(.int (3 : Int32))])) _
    refine XS.istore X21.here hx rfl (hb hby at_41) rfl (l' := #[.val (.int p0), .val (.long q1), .second, .val (.ref b1), .val (.int (3 : Int32)), .unset, .unset, .unset, .unset, .unset, .unset]) rfl ?_
    show Steps p.tables e below (T21.setTop (mkF m 43 #[.val (.int p0), .val (.long q1), .second, .val (.ref b1), .val (.int (3 : Int32)), .unset, .unset, .unset, .unset, .unset, .unset] [])) _
    refine XS.aloadN X21.here hx rfl (hb hby at_43) rfl rfl ?_
    show Steps p.tables e below (T21.setTop (mkF m 44 #[.val (.int p0), .val (.long q1), .second, .val (.ref b1), .val (.int (3 : Int32)), .unset, .unset, .unset, .unset, .unset, .unset] [(.ref b1)])) _
    refine XS.iload X21.here hx rfl (hb hby at_44) rfl ?_
    show Steps p.tables e below (T21.setTop (mkF m 46 #[.val (.int p0), .val (.long q1), .second, .val (.ref b1), .val (.int (3 : Int32)), .unset, .unset, .unset, .unset, .unset, .unset] [(.int (3 : Int32)), (.ref b1)])) _
    refine X21.aaload hx (j := (3 : Int32)) (v := (.ref (w 3))) (by rw [e21]; exact Ar22.1) (State.isArrayOf_alike hZ.alike Ar22.2.1) rfl Ar22.2.2 hin22 hat22 (g := (mkF m 46 #[.val (.int p0), .val (.long q1), .second, .val (.ref b1), .val (.int (3 : Int32)), .unset, .unset, .unset, .unset, .unset, .unset] [(.int (3 : Int32)), (.ref b1)])) rfl rfl (hb hby at_46) _ ?_
    show Steps p.tables e below (T21.setTop (mkF m 47 #[.val (.int p0), .val (.long q1), .second, .val (.ref b1), .val (.int (3 : Int32)), .unset, .unset, .unset, .unset, .unset, .unset] [(.ref (w 3))])) _
    refine XS.astore X21.here hx rfl (hb hby at_47) rfl rfl (l' := #[.val (.int p0), .val (.long q1), .second, .val (.ref b1), .val (.int (3 : Int32)), .val (.ref (w 3)), .unset, .unset, .unset, .unset, .unset]) rfl ?_
    show Steps p.tables e below (T21.setTop (mkF m 49 #[.val (.int p0), .val (.long q1), .second, .val (.ref b1), .val (.int (3 : Int32)), .val (.ref (w 3)), .unset, .unset, .unset, .unset, .unset] [])) _
    refine XS.lloadN X21.here hx rfl (hb hby at_49) rfl ?_
    show Steps p.tables e below (T21.setTop (mkF m 50 #[.val (.int p0), .val (.long q1), .second, .val (.ref b1), .val (.int (3 : Int32)), .val (.ref (w 3)), .unset, .unset, .unset, .unset, .unset] [(.long q1)])) _
    refine XS.lstore X21.here hx rfl (hb hby at_50) rfl (l' := #[.val (.int p0), .val (.long q1), .second, .val (.ref b1), .val (.int (3 : Int32)), .val (.ref (w 3)), .val (.long q1), .second, .unset, .unset, .unset]) rfl ?_
    show Steps p.tables e below (T21.setTop (mkF m 52 #[.val (.int p0), .val (.long q1), .second, .val (.ref b1), .val (.int (3 : Int32)), .val (.ref (w 3)), .val (.long q1), .second, .unset, .unset, .unset] [])) _
    refine XS.lload X21.here hx rfl (hb hby at_52) rfl ?_
    show Steps p.tables e below (T21.setTop (mkF m 54 #[.val (.int p0), .val (.long q1), .second, .val (.ref b1), .val (.int (3 : Int32)), .val (.ref (w 3)), .val (.long q1), .second, .unset, .unset, .unset] [(.long q1)])) _
    refine X21.ldc2Long hx hown (mvT hZ (W hw 15 rfl)) (g := (mkF m 54 #[.val (.int p0), .val (.long q1), .second, .val (.ref b1), .val (.int (3 : Int32)), .val (.ref (w 3)), .val (.long q1), .second, .unset, .unset, .unset] [(.long q1)])) rfl (hb hby at_54) _ ?_
    show Steps p.tables e below (T21.setTop (mkF m 57 #[.val (.int p0), .val (.long q1), .second, .val (.ref b1), .val (.int (3 : Int32)), .val (.ref (w 3)), .val (.long q1), .second, .unset, .unset, .unset] [(.long (9223372036854775807 : Int64)), (.long q1)])) _
    refine XS.lcmp X21.here hx rfl (hb hby at_57) rfl ?_
    show Steps p.tables e below (T21.setTop (mkF m 58 #[.val (.int p0), .val (.long q1), .second, .val (.ref b1), .val (.int (3 : Int32)), .val (.ref (w 3)), .val (.long q1), .second, .unset, .unset, .unset] [(.int (lcmpW q1 (9223372036854775807 : Int64)))])) _
    refine XS.ifNo X21.here hx rfl (hb hby at_58) rfl ((if0 _ _).trans (teq hp1).2) ?_
    show Steps p.tables e below (T21.setTop (mkF m 61 #[.val (.int p0), .val (.long q1), .second, .val (.ref b1), .val (.int (3 : Int32)), .val (.ref (w 3)), .val (.long q1), .second, .unset, .unset, .unset] [])) _
    refine XS.lconst X21.here hx rfl (hb hby at_61) ?_
    show Steps p.tables e below (T21.setTop (mkF m 62 #[.val (.int p0), .val (.long q1), .second, .val (.ref b1), .val (.int (3 : Int32)), .val (.ref (w 3)), .val (.long q1), .second, .unset, .unset, .unset] [(.long (0 : Int64))])) _
    refine XS.lstore X21.here hx rfl (hb hby at_62) rfl (l' := #[.val (.int p0), .val (.long q1), .second, .val (.ref b1), .val (.int (3 : Int32)), .val (.ref (w 3)), .val (.long (0 : Int64)), .second, .unset, .unset, .unset]) rfl ?_
    show Steps p.tables e below (T21.setTop (mkF m 64 #[.val (.int p0), .val (.long q1), .second, .val (.ref b1), .val (.int (3 : Int32)), .val (.ref (w 3)), .val (.long (0 : Int64)), .second, .unset, .unset, .unset] [])) _
    refine XS.aload X21.here hx rfl (hb hby at_64) rfl rfl ?_
    show Steps p.tables e below (T21.setTop (mkF m 66 #[.val (.int p0), .val (.long q1), .second, .val (.ref b1), .val (.int (3 : Int32)), .val (.ref (w 3)), .val (.long (0 : Int64)), .second, .unset, .unset, .unset] [(.ref (w 3))])) _
    refine st23.trans ?_
    show Steps p.tables e below (T23.setTop (mkF m 69 #[.val (.int p0), .val (.long q1), .second, .val (.ref b1), .val (.int (3 : Int32)), .val (.ref (w 3)), .val (.long (0 : Int64)), .second, .unset, .unset, .unset] [(.int (0 : Int32))])) _
    refine XS.istore X23.here hx rfl (hb hby at_69) rfl (l' := #[.val (.int p0), .val (.long q1), .second, .val (.ref b1), .val (.int (3 : Int32)), .val (.ref (w 3)), .val (.long (0 : Int64)), .second, .val (.int (0 : Int32)), .unset, .unset]) rfl ?_
    show Steps p.tables e below (T23.setTop (mkF m 71 #[.val (.int p0), .val (.long q1), .second, .val (.ref b1), .val (.int (3 : Int32)), .val (.ref (w 3)), .val (.long (0 : Int64)), .second, .val (.int (0 : Int32)), .unset, .unset] [])) _
    refine XS.iload X23.here hx rfl (hb hby at_71) rfl ?_
    show Steps p.tables e below (T23.setTop (mkF m 73 #[.val (.int p0), .val (.long q1), .second, .val (.ref b1), .val (.int (3 : Int32)), .val (.ref (w 3)), .val (.long (0 : Int64)), .second, .val (.int (0 : Int32)), .unset, .unset] [(.int (3 : Int32))])) _
    refine XS.iconst X23.here hx rfl (hb hby at_73) ?_
    show Steps p.tables e below (T23.setTop (mkF m 74 #[.val (.int p0), .val (.long q1), .second, .val (.ref b1), .val (.int (3 : Int32)), .val (.ref (w 3)), .val (.long (0 : Int64)), .second, .val (.int (0 : Int32)), .unset, .unset] [(.int (2 : Int32)), (.int (3 : Int32))])) _
    refine XS.icmpYes X23.here hx rfl (pc0 := 74) (pc' := 81) rfl (hb hby at_74) rfl (tlt (by decide : (2 : Int32) < (3 : Int32))).2.2.1 (by decide) (by decide) ?_
    show Steps p.tables e below (T23.setTop (mkF m 81 #[.val (.int p0), .val (.long q1), .second, .val (.ref b1), .val (.int (3 : Int32)), .val (.ref (w 3)), .val (.long (0 : Int64)), .second, .val (.int (0 : Int32)), .unset, .unset] [])) _
    refine XS.iconst X23.here hx rfl (hb hby at_81) ?_
    show Steps p.tables e below (T23.setTop (mkF m 82 #[.val (.int p0), .val (.long q1), .second, .val (.ref b1), .val (.int (3 : Int32)), .val (.ref (w 3)), .val (.long (0 : Int64)), .second, .val (.int (0 : Int32)), .unset, .unset] [(.int (0 : Int32))])) _
    refine XS.istore X23.here hx rfl (hb hby at_82) rfl (l' := #[.val (.int p0), .val (.long q1), .second, .val (.ref b1), .val (.int (3 : Int32)), .val (.ref (w 3)), .val (.long (0 : Int64)), .second, .val (.int (0 : Int32)), .val (.int (0 : Int32)), .unset]) rfl ?_
    show Steps p.tables e below (T23.setTop (mkF m 84 #[.val (.int p0), .val (.long q1), .second, .val (.ref b1), .val (.int (3 : Int32)), .val (.ref (w 3)), .val (.long (0 : Int64)), .second, .val (.int (0 : Int32)), .val (.int (0 : Int32)), .unset] [])) _
    refine XS.aload X23.here hx rfl (hb hby at_84) rfl rfl ?_
    show Steps p.tables e below (T23.setTop (mkF m 86 #[.val (.int p0), .val (.long q1), .second, .val (.ref b1), .val (.int (3 : Int32)), .val (.ref (w 3)), .val (.long (0 : Int64)), .second, .val (.int (0 : Int32)), .val (.int (0 : Int32)), .unset] [(.ref (w 3))])) _
    refine X23.ldc2Long hx hown (mvT hZ (W hw 15 rfl)) (g := (mkF m 86 #[.val (.int p0), .val (.long q1), .second, .val (.ref b1), .val (.int (3 : Int32)), .val (.ref (w 3)), .val (.long (0 : Int64)), .second, .val (.int (0 : Int32)), .val (.int (0 : Int32)), .unset] [(.ref (w 3))])) rfl (hb hby at_86) _ ?_
    show Steps p.tables e below (T23.setTop (mkF m 89 #[.val (.int p0), .val (.long q1), .second, .val (.ref b1), .val (.int (3 : Int32)), .val (.ref (w 3)), .val (.long (0 : Int64)), .second, .val (.int (0 : Int32)), .val (.int (0 : Int32)), .unset] [(.long (9223372036854775807 : Int64)), (.ref (w 3))])) _
    refine XS.lload X23.here hx rfl (hb hby at_89) rfl ?_
    show Steps p.tables e below (T23.setTop (mkF m 91 #[.val (.int p0), .val (.long q1), .second, .val (.ref b1), .val (.int (3 : Int32)), .val (.ref (w 3)), .val (.long (0 : Int64)), .second, .val (.int (0 : Int32)), .val (.int (0 : Int32)), .unset] [(.long (0 : Int64)), (.long (9223372036854775807 : Int64)), (.ref (w 3))])) _
    refine st24.trans ?_
    show Steps p.tables e below (T24.setTop (mkF m 94 #[.val (.int p0), .val (.long q1), .second, .val (.ref b1), .val (.int (3 : Int32)), .val (.ref (w 3)), .val (.long (0 : Int64)), .second, .val (.int (0 : Int32)), .val (.int (0 : Int32)), .unset] [(.int (1 : Int32))])) _
    refine XS.ifYes X24.here hx rfl (pc0 := 94) (pc' := 101) rfl (hb hby at_94) rfl ((if0 _ _).trans (feq (by decide : ¬ ((1 : Int32) = (0 : Int32)))).2) (by decide) (by decide) ?_
    show Steps p.tables e below (T24.setTop (mkF m 101 #[.val (.int p0), .val (.long q1), .second, .val (.ref b1), .val (.int (3 : Int32)), .val (.ref (w 3)), .val (.long (0 : Int64)), .second, .val (.int (0 : Int32)), .val (.int (0 : Int32)), .unset] [])) _
    refine XS.iconst X24.here hx rfl (hb hby at_101) ?_
    show Steps p.tables e below (T24.setTop (mkF m 102 #[.val (.int p0), .val (.long q1), .second, .val (.ref b1), .val (.int (3 : Int32)), .val (.ref (w 3)), .val (.long (0 : Int64)), .second, .val (.int (0 : Int32)), .val (.int (0 : Int32)), .unset] [(.int (0 : Int32))])) _
    refine XS.istore X24.here hx rfl (hb hby at_102) rfl (l' := #[.val (.int p0), .val (.long q1), .second, .val (.ref b1), .val (.int (3 : Int32)), .val (.ref (w 3)), .val (.long (0 : Int64)), .second, .val (.int (0 : Int32)), .val (.int (0 : Int32)), .val (.int (0 : Int32))]) rfl ?_
    show Steps p.tables e below (T24.setTop (mkF m 104 #[.val (.int p0), .val (.long q1), .second, .val (.ref b1), .val (.int (3 : Int32)), .val (.ref (w 3)), .val (.long (0 : Int64)), .second, .val (.int (0 : Int32)), .val (.int (0 : Int32)), .val (.int (0 : Int32))] [])) _
    refine XS.iload X24.here hx rfl (hb hby at_104) rfl ?_
    show Steps p.tables e below (T24.setTop (mkF m 106 #[.val (.int p0), .val (.long q1), .second, .val (.ref b1), .val (.int (3 : Int32)), .val (.ref (w 3)), .val (.long (0 : Int64)), .second, .val (.int (0 : Int32)), .val (.int (0 : Int32)), .val (.int (0 : Int32))] [(.int (0 : Int32))])) _
    refine XS.iload X24.here hx rfl (hb hby at_106) rfl ?_
    show Steps p.tables e below (T24.setTop (mkF m 108 #[.val (.int p0), .val (.long q1), .second, .val (.ref b1), .val (.int (3 : Int32)), .val (.ref (w 3)), .val (.long (0 : Int64)), .second, .val (.int (0 : Int32)), .val (.int (0 : Int32)), .val (.int (0 : Int32))] [(.int (0 : Int32)), (.int (0 : Int32))])) _
    refine XS.icmpNo X24.here hx rfl (hb hby at_108) rfl (teq (by decide : (0 : Int32) = (0 : Int32))).2 ?_
    show Steps p.tables e below (T24.setTop (mkF m 111 #[.val (.int p0), .val (.long q1), .second, .val (.ref b1), .val (.int (3 : Int32)), .val (.ref (w 3)), .val (.long (0 : Int64)), .second, .val (.int (0 : Int32)), .val (.int (0 : Int32)), .val (.int (0 : Int32))] [])) _
    refine XS.iload X24.here hx rfl (hb hby at_111) rfl ?_
    show Steps p.tables e below (T24.setTop (mkF m 113 #[.val (.int p0), .val (.long q1), .second, .val (.ref b1), .val (.int (3 : Int32)), .val (.ref (w 3)), .val (.long (0 : Int64)), .second, .val (.int (0 : Int32)), .val (.int (0 : Int32)), .val (.int (0 : Int32))] [(.int (0 : Int32))])) _
    refine XS.iload X24.here hx rfl (hb hby at_113) rfl ?_
    show Steps p.tables e below (T24.setTop (mkF m 115 #[.val (.int p0), .val (.long q1), .second, .val (.ref b1), .val (.int (3 : Int32)), .val (.ref (w 3)), .val (.long (0 : Int64)), .second, .val (.int (0 : Int32)), .val (.int (0 : Int32)), .val (.int (0 : Int32))] [(.int (0 : Int32)), (.int (0 : Int32))])) _
    refine XS.icmpNo X24.here hx rfl (hb hby at_115) rfl (teq (by decide : (0 : Int32) = (0 : Int32))).2 ?_
    show Steps p.tables e below (T24.setTop (mkF m 118 #[.val (.int p0), .val (.long q1), .second, .val (.ref b1), .val (.int (3 : Int32)), .val (.ref (w 3)), .val (.long (0 : Int64)), .second, .val (.int (0 : Int32)), .val (.int (0 : Int32)), .val (.int (0 : Int32))] [])) _
    refine XS.iconst X24.here hx rfl (hb hby at_118) ?_
    show Steps p.tables e below (T24.setTop (mkF m 119 #[.val (.int p0), .val (.long q1), .second, .val (.ref b1), .val (.int (3 : Int32)), .val (.ref (w 3)), .val (.long (0 : Int64)), .second, .val (.int (0 : Int32)), .val (.int (0 : Int32)), .val (.int (0 : Int32))] [(.int (1 : Int32))])) _
    refine XS.goto X24.here hx rfl (pc0 := 119) (pc' := 123) rfl (hb hby at_119) (by decide) (by decide) ?_
    show Steps p.tables e below (T24.setTop (mkF m 123 #[.val (.int p0), .val (.long q1), .second, .val (.ref b1), .val (.int (3 : Int32)), .val (.ref (w 3)), .val (.long (0 : Int64)), .second, .val (.int (0 : Int32)), .val (.int (0 : Int32)), .val (.int (0 : Int32))] [(.int (1 : Int32))])) _
    exact retN X24 hx (t := .boolean) Bd.returns (by simp) (hb hby at_123) hr
  · show OL (some (.int (1 : Int32))) Z.heap.size _ T24.heap _
    exact ⟨rfl, N24⟩
set_option maxRecDepth 65536 in
set_option maxHeartbeats 40000000 in
theorem rm_25 (l : Launch) (Z : State) (a0 : Array Value) (hw : ∀ d ∈ tables_1, d.before a0 Z = true) (w : Nat → Addr) (kk : Nat → ClassId) (hN : Wd Z w kk) (ws : List Jvm.Cond) (q2 : Int64) (h0 : Heap) (O0 : Old Z Z.heap.size h0) (hp0 : ¬ ((lcmpW (9223372036854775807 : Int64) q2) < (0 : Int32))) (hp1 : ¬ ((lcmpW (9223372036854775807 : Int64) q2) = (0 : Int32))) :
    MetFree l (⟨"com/example/stint/stint/model/Relation", "holds", "(JJ)Z"⟩ : MethodName) (head1 (Jvm.Cond.code (⟨"com/example/stint/stint/model/Relation", "holds", "(JJ)Z"⟩ : MethodName) prog_47_method_11_code 6 (some .boolean) :: ws) ({ frames := 1, cells := 0, slots := 0, locals := 15 } : Room)) (fun a U => a = #[(.ref (w 3)), (.long (9223372036854775807 : Int64)), (.long q2)] ∧ Z.Warmed39 U.vm ∧ U.heap = h0) (fun _ _ _ _ _ => True) (fun _ U o U' => ∃ v L, o = .returned v ∧ OQ (some (.int (1 : Int32))) h0 Z.heap.size v U'.heap L ∧ FrameEnd U o U' L ({ frames := 1, cells := 0, slots := 0, locals := 15 } : Room).cells ({ frames := 1, cells := 0, slots := 0, locals := 15 } : Room).slots) := by
  have hN' := hN
  obtain ⟨hS0, hE0, hS1, hE1, hS2, hE2, hS3, hE3, hS4, hE4, hF0_ordinal, hF1_ordinal, hF4_ordinal, hF2_ordinal, hF3_ordinal⟩ := hN'
  refine MetFree.of_bodySF (plainFor_of_name pn_0) hisR ?_
  intro p e s m args below meth c s₁ Bd hml0 hP hK
  obtain ⟨rfl, hZ, hh⟩ := hP
  have hx := Bd.exec
  have hby := Bd.bytes
  have hml : c.maxLocals = 6 := hml0
  have hown : s.vm.findClass "com/example/stint/stint/model/Relation" = some m.cls := findClass_of_methodNamed Bd.named
  have hnm := (name_of_methodNamed Bd.named Bd.method).1
  have X0 : Stand p l e ({ frames := 1, cells := 0, slots := 0, locals := 15 } : Room) s m #[(.ref (w 3)), (.long (9223372036854775807 : Int64)), (.long q2)] below meth c s₁ [] 0 0 := Stand.of_body Bd
  have e0 : s₁.heap = h0 := by rw [← hh, Bd.state]; rfl
  have N0 := Fr.nil Z.heap.size
  have pre0 : ∀ t, Steps p.tables e below (s₁.setTop (mkF m 0 #[.val (.ref (w 3)), .val (.long (9223372036854775807 : Int64)), .second, .val (.long q2), .second, .unset] [])) t → Steps p.tables e below (s₁.setTop (entryFrame m #[(.ref (w 3)), (.long (9223372036854775807 : Int64)), (.long q2)] 6)) t := fun t k => castTop (ef_2 m (.ref (w 3)) rfl (.long (9223372036854775807 : Int64)) rfl (.long q2) rfl) k
  obtain ⟨_, _, ⟨T1, L1, k1, n1⟩, -, X1, ⟨Lc1, hQ1, l1, y1, z1⟩, st1⟩ := Jvm.LawKit.callS X0 hx (y := (⟨"java/lang/Long", "compare", "(JJ)I"⟩ : MethodName)) hown (mvT hZ (W hw 27 rfl)) (mvT hZ (W hw 28 rfl)) (mvT hZ (W hw 29 rfl)) (mvT hZ (W hw 30 rfl)) (by decide) (backOf (W := 0) (rm_6 l Z a0 hw w kk hN [] q2 h0 O0 hp0 hp1) hZ (W hw 30 rfl) (W hw 29 rfl) (by decide) (by decide)) (g := (mkF m 2 #[.val (.ref (w 3)), .val (.long (9223372036854775807 : Int64)), .second, .val (.long q2), .second, .unset] [(.long q2), (.long (9223372036854775807 : Int64))])) rfl (by rw [hml]; rfl) (argsL := [(.long (9223372036854775807 : Int64)), (.long q2)]) (rest := []) (lenOf pd_1 rfl) rfl (by show 2 * 0 + _ ≤ _; exact Nat.le_of_eq rfl) (hb hby d_prog_47_method_11_code_2) (fun _ _ => ⟨rfl, e0, (by decide : 0 + 0 ≤ _), (by decide : 0 + 0 ≤ _)⟩)
  dsimp only [Pt.U, Pt.locs, Pt.cells, Pt.slots] at X1 l1 y1 z1 st1 hQ1
  subst l1 y1 z1
  obtain ⟨rfl, N1q, e1⟩ := hQ1
  have N1 := Fr.app N0 N1q
  obtain ⟨cq2, kq2, q2a, q2b, q2c⟩ := isOf hZ e1 (hE3.ext O0.2)
  obtain ⟨_, _, ⟨T2, L2, k2, n2⟩, -, X2, ⟨Lc2, hQ2, l2, y2, z2⟩, st2⟩ := X1.virtualBackUp hx (x := (⟨"com/example/stint/stint/model/Relation", "ordinal", "()I"⟩ : MethodName)) (y := (⟨"java/lang/Enum", "ordinal", "()I"⟩ : MethodName)) (owner := "java/lang/Enum") hown (mvT hZ (W hw 31 rfl)) (mvT hZ (W hw 32 rfl)) (mvT hZ (W hw 33 rfl)) (by decide) (mvT hZ (W hw 35 rfl)) (mvT hZ (W hw 34 rfl)) (backOf (W := 0) (rm_22 l Z a0 hw w kk hN [] h0 O0) hZ (W hw 37 rfl) (W hw 36 rfl) (by decide) (by decide)) q2a q2c (g := (mkF m 8 #[.val (.ref (w 3)), .val (.long (9223372036854775807 : Int64)), .second, .val (.long q2), .second, .val (.int (1 : Int32))] [(.ref (w 3))])) rfl (by rw [hml]; rfl) (Steps.refl _) (argsL := []) (rest := []) (lenOf pd_2 rfl) rfl (by show 2 * 0 + _ ≤ _; exact Nat.le_of_eq rfl) (hb hby d_prog_47_method_11_code_8) (fun _ _ => ⟨rfl, e1, (by decide : 0 + 0 ≤ _), (by decide : 0 + 0 ≤ _)⟩)
  dsimp only [Pt.U, Pt.locs, Pt.cells, Pt.slots] at X2 l2 y2 z2 st2 hQ2
  subst l2 y2 z2
  obtain ⟨rfl, N2q, e2⟩ := hQ2
  have N2 := Fr.app N1 N2q
  obtain ⟨fs, hr, hrun, hended, hW, hsame⟩ := X2.leave (v := some (.int (1 : Int32))) (fun h => by rw [Bd.returns] at h; cases h)
  refine ⟨_, _, pre0 _ ?_, hrun, hended, _, _, rfl, ?_, ⟨_, rfl⟩, hW, hsame.mono (by decide) (by decide)⟩
  · show Steps p.tables e below (s₁.setTop (mkF m 0 #[.val (.ref (w 3)), .val (.long (9223372036854775807 : Int64)), .second, .val (.long q2), .second, .unset] [])) _
    refine XS.lloadN X0.here hx rfl (hb hby d_prog_47_method_11_code_0) rfl ?_
    show Steps p.tables e below (s₁.setTop (mkF m 1 #[.val (.ref (w 3)), .val (.long (9223372036854775807 : Int64)), .second, .val (.long q2), .second, .unset] [(.long (9223372036854775807 : Int64))])) _
    refine XS.lloadN X0.here hx rfl (hb hby d_prog_47_method_11_code_1) rfl ?_
    show Steps p.tables e below (s₁.setTop (mkF m 2 #[.val (.ref (w 3)), .val (.long (9223372036854775807 : Int64)), .second, .val (.long q2), .second, .unset] [(.long q2), (.long (9223372036854775807 : Int64))])) _
    refine st1 _ ?_
    show Steps p.tables e below (T1.setTop (mkF m 5 #[.val (.ref (w 3)), .val (.long (9223372036854775807 : Int64)), .second, .val (.long q2), .second, .unset] [(.int (1 : Int32))])) _
    refine XS.istore X1.here hx rfl (hb hby d_prog_47_method_11_code_5) rfl (l' := #[.val (.ref (w 3)), .val (.long (9223372036854775807 : Int64)), .second, .val (.long q2), .second, .val (.int (1 : Int32))]) rfl ?_
    show Steps p.tables e below (T1.setTop (mkF m 7 #[.val (.ref (w 3)), .val (.long (9223372036854775807 : Int64)), .second, .val (.long q2), .second, .val (.int (1 : Int32))] [])) _
    refine XS.aloadN X1.here hx rfl (hb hby d_prog_47_method_11_code_7) rfl rfl ?_
    show Steps p.tables e below (T1.setTop (mkF m 8 #[.val (.ref (w 3)), .val (.long (9223372036854775807 : Int64)), .second, .val (.long q2), .second, .val (.int (1 : Int32))] [(.ref (w 3))])) _
    refine st2.trans ?_
    show Steps p.tables e below (T2.setTop (mkF m 11 #[.val (.ref (w 3)), .val (.long (9223372036854775807 : Int64)), .second, .val (.long q2), .second, .val (.int (1 : Int32))] [(.int (3 : Int32))])) _
    refine XS.tswIn X2.here hx rfl (pc0 := 11) (pc' := 93) (o := 82) rfl (hb hby d_prog_47_method_11_code_11) rfl (by decide) (by decide) (by decide) (by decide) ?_
    show Steps p.tables e below (T2.setTop (mkF m 93 #[.val (.ref (w 3)), .val (.long (9223372036854775807 : Int64)), .second, .val (.long q2), .second, .val (.int (1 : Int32))] [])) _
    refine XS.iload X2.here hx rfl (hb hby d_prog_47_method_11_code_93) rfl ?_
    show Steps p.tables e below (T2.setTop (mkF m 95 #[.val (.ref (w 3)), .val (.long (9223372036854775807 : Int64)), .second, .val (.long q2), .second, .val (.int (1 : Int32))] [(.int (1 : Int32))])) _
    refine XS.ifNo X2.here hx rfl (hb hby d_prog_47_method_11_code_95) rfl ((if0 _ _).trans (flt (by decide : ¬ ((1 : Int32) < (0 : Int32)))).1) ?_
    show Steps p.tables e below (T2.setTop (mkF m 98 #[.val (.ref (w 3)), .val (.long (9223372036854775807 : Int64)), .second, .val (.long q2), .second, .val (.int (1 : Int32))] [])) _
    refine XS.iconst X2.here hx rfl (hb hby d_prog_47_method_11_code_98) ?_
    show Steps p.tables e below (T2.setTop (mkF m 99 #[.val (.ref (w 3)), .val (.long (9223372036854775807 : Int64)), .second, .val (.long q2), .second, .val (.int (1 : Int32))] [(.int (1 : Int32))])) _
    refine XS.goto X2.here hx rfl (pc0 := 99) (pc' := 116) rfl (hb hby d_prog_47_method_11_code_99) (by decide) (by decide) ?_
    show Steps p.tables e below (T2.setTop (mkF m 116 #[.val (.ref (w 3)), .val (.long (9223372036854775807 : Int64)), .second, .val (.long q2), .second, .val (.int (1 : Int32))] [(.int (1 : Int32))])) _
    exact retN X2 hx (t := .boolean) Bd.returns (by simp) (hb hby d_prog_47_method_11_code_116) hr
  · show OQ (some (.int (1 : Int32))) h0 Z.heap.size _ T2.heap _
    rw [e2]
    exact ⟨rfl, N2, rfl⟩
set_option maxRecDepth 65536 in
set_option maxHeartbeats 40000000 in
theorem law_26 (l : Launch) (Z : State) (a0 : Array Value) (hw : ∀ d ∈ tables_1, d.before a0 Z = true) (w : Nat → Addr) (kk : Nat → ClassId) (hN : Wd Z w kk) (ws : List Jvm.Cond) (p0 : Int32) (q1 : Int64) (h0 : Heap) (O0 : Old Z Z.heap.size h0) (hp0 : ((p0 &&& (2147483647 : Int32)) % (5 : Int32)) = (3 : Int32)) (hp1 : ¬ ((lcmpW q1 (9223372036854775807 : Int64)) = (0 : Int32))) (hp2 : ¬ ((lcmpW (9223372036854775807 : Int64) q1) < (0 : Int32))) (hp3 : ¬ ((lcmpW (9223372036854775807 : Int64) q1) = (0 : Int32))) :
    MetFree l x (head1 (Jvm.Cond.code x code maxLocals ret :: ws) room_1) (fun a U => a = #[(.int p0), (.long q1)] ∧ Z.Warmed39 U.vm ∧ U.heap = h0) (fun _ _ _ _ _ => True) (fun _ U o U' => ∃ v L, o = .returned v ∧ OL (some (.int (1 : Int32))) Z.heap.size v U'.heap L ∧ FrameEnd U o U' L 16 128) := by
  have hN' := hN
  obtain ⟨hS0, hE0, hS1, hE1, hS2, hE2, hS3, hE3, hS4, hE4, hF0_ordinal, hF1_ordinal, hF4_ordinal, hF2_ordinal, hF3_ordinal⟩ := hN'
  refine MetFree.of_bodySF (plainFor_of_name pn_3) hisR ?_
  intro p e s m args below meth c s₁ Bd hml0 hP hK
  obtain ⟨rfl, hZ, hh⟩ := hP
  have hx := Bd.exec
  have hby := Bd.bytes
  have hml : c.maxLocals = 11 := hml0
  have hown : s.vm.findClass "com/example/stint/stint/model/RelationBoundsAbovePinLaw" = some m.cls := findClass_of_methodNamed Bd.named
  have hnm := (name_of_methodNamed Bd.named Bd.method).1
  have X0 : Stand p l e room_1 s m #[(.int p0), (.long q1)] below meth c s₁ [] 0 0 := Stand.of_body Bd
  have e0 : s₁.heap = h0 := by rw [← hh, Bd.state]; rfl
  have N0 := Fr.nil Z.heap.size
  have pre0 : ∀ t, Steps p.tables e below (s₁.setTop (mkF m 0 #[.val (.int p0), .val (.long q1), .second, .unset, .unset, .unset, .unset, .unset, .unset, .unset, .unset] [])) t → Steps p.tables e below (s₁.setTop (entryFrame m #[(.int p0), (.long q1)] maxLocals)) t := fun t k => castTop (ef_3 m (.int p0) rfl (.long q1) rfl) k
  obtain ⟨T1, h1, k1, X1, e1, E1, A1, Ov1, st1⟩ := newR X0 hx hZ hown (W hw 0 rfl) (W hw 1 rfl) e0 (g := (mkF m 1 #[.val (.int p0), .val (.long q1), .second, .unset, .unset, .unset, .unset, .unset, .unset, .unset, .unset] [(.int (5 : Int32))])) rfl (hb hby at_1) rfl (by decide) (cap := 5) (by decide) (by decide) (by decide) (by decide)
  obtain ⟨b1, g1⟩ : ∃ z, z = h0.size := ⟨_, rfl⟩
  rw [← g1] at A1 st1
  have gn_b1 : Z.heap.size ≤ b1 := Nat.le_trans O0.2.1 (Nat.le_of_eq g1.symm)
  have O1 := O0.ext E1
  have V_b1_v1 : Arv Z h1 b1 k1 (.object "com/example/stint/stint/model/Relation") (5 : Int32) [] .null := Arv.new A1 (by decide)
  obtain ⟨T2, X2, e2, st2⟩ := getS2 X1 hx hZ hown (host := "") (Or.inl (W hw 2 rfl)) Via.refl e1 (hS0.ext O1.2) (g := (mkF m 6 #[.val (.int p0), .val (.long q1), .second, .unset, .unset, .unset, .unset, .unset, .unset, .unset, .unset] [(.int (0 : Int32)), (.ref b1), (.ref b1)])) rfl (hb hby at_6)
  have V_b1_v3 : Arv Z h1 b1 k1 (.object "com/example/stint/stint/model/Relation") (5 : Int32) [.null] .null := V_b1_v1.pad (pad_rep [] .null 1)
  obtain ⟨cl4, Ar4, q4, Sz4, Ng4, Hv4, Gv4⟩ := V_b1_v3
  have hin4 : ¬ ((0 : Int32) < 0 ∨ cl4.slots.size ≤ ((0 : Int32)).toNatClampNeg) := inb_of Sz4 ⟨by decide, by decide⟩
  obtain ⟨T5, h5, X5, e5, W5, st5⟩ := stR X2 hx hZ e2 Ar4 (j := (0 : Int32)) (v := (.ref (w 0))) hin4 rfl (Sto.ofV Ar4 q4 Ov1 (Ins.self (hE0.ext O1.2))) (g := (mkF m 9 #[.val (.int p0), .val (.long q1), .second, .unset, .unset, .unset, .unset, .unset, .unset, .unset, .unset] [(.ref (w 0)), (.int (0 : Int32)), (.ref b1), (.ref b1)])) rfl rfl (hb hby at_9)
  have V_b1_v5 : Arv Z h5 b1 k1 (.object "com/example/stint/stint/model/Relation") (5 : Int32) [(.ref (w 0))] .null := Arv.set Ar4 q4 Sz4 Ng4 Hv4 Gv4 rfl W5 0 rfl (Nat.le_of_ble_eq_true rfl)
  have N5 := Fr.snoc X5 N0 gn_b1
  have O5 := O1.wr W5 gn_b1
  obtain ⟨T6, X6, e6, st6⟩ := getS2 X5 hx hZ hown (host := "") (Or.inl (W hw 6 rfl)) Via.refl e5 (hS1.ext O5.2) (g := (mkF m 12 #[.val (.int p0), .val (.long q1), .second, .unset, .unset, .unset, .unset, .unset, .unset, .unset, .unset] [(.int (1 : Int32)), (.ref b1), (.ref b1)])) rfl (hb hby at_12)
  have V_b1_v7 : Arv Z h5 b1 k1 (.object "com/example/stint/stint/model/Relation") (5 : Int32) [(.ref (w 0)), .null] .null := V_b1_v5.pad (pad_rep [(.ref (w 0))] .null 1)
  obtain ⟨cl8, Ar8, q8, Sz8, Ng8, Hv8, Gv8⟩ := V_b1_v7
  have hin8 : ¬ ((1 : Int32) < 0 ∨ cl8.slots.size ≤ ((1 : Int32)).toNatClampNeg) := inb_of Sz8 ⟨by decide, by decide⟩
  obtain ⟨T9, h9, X9, e9, W9, st9⟩ := stR X6 hx hZ e6 Ar8 (j := (1 : Int32)) (v := (.ref (w 1))) hin8 rfl (Sto.ofV Ar8 q8 Ov1 (Ins.self (hE1.ext O5.2))) (g := (mkF m 15 #[.val (.int p0), .val (.long q1), .second, .unset, .unset, .unset, .unset, .unset, .unset, .unset, .unset] [(.ref (w 1)), (.int (1 : Int32)), (.ref b1), (.ref b1)])) rfl rfl (hb hby at_15)
  have V_b1_v9 : Arv Z h9 b1 k1 (.object "com/example/stint/stint/model/Relation") (5 : Int32) [(.ref (w 0)), (.ref (w 1))] .null := Arv.set Ar8 q8 Sz8 Ng8 Hv8 Gv8 rfl W9 1 rfl (Nat.le_of_ble_eq_true rfl)
  have N9 := Fr.snoc X9 N5 gn_b1
  have O9 := O5.wr W9 gn_b1
  obtain ⟨T10, X10, e10, st10⟩ := getS2 X9 hx hZ hown (host := "") (Or.inl (W hw 8 rfl)) Via.refl e9 (hS2.ext O9.2) (g := (mkF m 18 #[.val (.int p0), .val (.long q1), .second, .unset, .unset, .unset, .unset, .unset, .unset, .unset, .unset] [(.int (2 : Int32)), (.ref b1), (.ref b1)])) rfl (hb hby at_18)
  have V_b1_v11 : Arv Z h9 b1 k1 (.object "com/example/stint/stint/model/Relation") (5 : Int32) [(.ref (w 0)), (.ref (w 1)), .null] .null := V_b1_v9.pad (pad_rep [(.ref (w 0)), (.ref (w 1))] .null 1)
  obtain ⟨cl12, Ar12, q12, Sz12, Ng12, Hv12, Gv12⟩ := V_b1_v11
  have hin12 : ¬ ((2 : Int32) < 0 ∨ cl12.slots.size ≤ ((2 : Int32)).toNatClampNeg) := inb_of Sz12 ⟨by decide, by decide⟩
  obtain ⟨T13, h13, X13, e13, W13, st13⟩ := stR X10 hx hZ e10 Ar12 (j := (2 : Int32)) (v := (.ref (w 2))) hin12 rfl (Sto.ofV Ar12 q12 Ov1 (Ins.self (hE2.ext O9.2))) (g := (mkF m 21 #[.val (.int p0), .val (.long q1), .second, .unset, .unset, .unset, .unset, .unset, .unset, .unset, .unset] [(.ref (w 2)), (.int (2 : Int32)), (.ref b1), (.ref b1)])) rfl rfl (hb hby at_21)
  have V_b1_v13 : Arv Z h13 b1 k1 (.object "com/example/stint/stint/model/Relation") (5 : Int32) [(.ref (w 0)), (.ref (w 1)), (.ref (w 2))] .null := Arv.set Ar12 q12 Sz12 Ng12 Hv12 Gv12 rfl W13 2 rfl (Nat.le_of_ble_eq_true rfl)
  have N13 := Fr.snoc X13 N9 gn_b1
  have O13 := O9.wr W13 gn_b1
  obtain ⟨T14, X14, e14, st14⟩ := getS2 X13 hx hZ hown (host := "") (Or.inl (W hw 10 rfl)) Via.refl e13 (hS3.ext O13.2) (g := (mkF m 24 #[.val (.int p0), .val (.long q1), .second, .unset, .unset, .unset, .unset, .unset, .unset, .unset, .unset] [(.int (3 : Int32)), (.ref b1), (.ref b1)])) rfl (hb hby at_24)
  have V_b1_v15 : Arv Z h13 b1 k1 (.object "com/example/stint/stint/model/Relation") (5 : Int32) [(.ref (w 0)), (.ref (w 1)), (.ref (w 2)), .null] .null := V_b1_v13.pad (pad_rep [(.ref (w 0)), (.ref (w 1)), (.ref (w 2))] .null 1)
  obtain ⟨cl16, Ar16, q16, Sz16, Ng16, Hv16, Gv16⟩ := V_b1_v15
  have hin16 : ¬ ((3 : Int32) < 0 ∨ cl16.slots.size ≤ ((3 : Int32)).toNatClampNeg) := inb_of Sz16 ⟨by decide, by decide⟩
  obtain ⟨T17, h17, X17, e17, W17, st17⟩ := stR X14 hx hZ e14 Ar16 (j := (3 : Int32)) (v := (.ref (w 3))) hin16 rfl (Sto.ofV Ar16 q16 Ov1 (Ins.self (hE3.ext O13.2))) (g := (mkF m 27 #[.val (.int p0), .val (.long q1), .second, .unset, .unset, .unset, .unset, .unset, .unset, .unset, .unset] [(.ref (w 3)), (.int (3 : Int32)), (.ref b1), (.ref b1)])) rfl rfl (hb hby at_27)
  have V_b1_v17 : Arv Z h17 b1 k1 (.object "com/example/stint/stint/model/Relation") (5 : Int32) [(.ref (w 0)), (.ref (w 1)), (.ref (w 2)), (.ref (w 3))] .null := Arv.set Ar16 q16 Sz16 Ng16 Hv16 Gv16 rfl W17 3 rfl (Nat.le_of_ble_eq_true rfl)
  have N17 := Fr.snoc X17 N13 gn_b1
  have O17 := O13.wr W17 gn_b1
  obtain ⟨T18, X18, e18, st18⟩ := getS2 X17 hx hZ hown (host := "") (Or.inl (W hw 12 rfl)) Via.refl e17 (hS4.ext O17.2) (g := (mkF m 30 #[.val (.int p0), .val (.long q1), .second, .unset, .unset, .unset, .unset, .unset, .unset, .unset, .unset] [(.int (4 : Int32)), (.ref b1), (.ref b1)])) rfl (hb hby at_30)
  have V_b1_v19 : Arv Z h17 b1 k1 (.object "com/example/stint/stint/model/Relation") (5 : Int32) [(.ref (w 0)), (.ref (w 1)), (.ref (w 2)), (.ref (w 3)), .null] .null := V_b1_v17.pad (pad_rep [(.ref (w 0)), (.ref (w 1)), (.ref (w 2)), (.ref (w 3))] .null 1)
  obtain ⟨cl20, Ar20, q20, Sz20, Ng20, Hv20, Gv20⟩ := V_b1_v19
  have hin20 : ¬ ((4 : Int32) < 0 ∨ cl20.slots.size ≤ ((4 : Int32)).toNatClampNeg) := inb_of Sz20 ⟨by decide, by decide⟩
  obtain ⟨T21, h21, X21, e21, W21, st21⟩ := stR X18 hx hZ e18 Ar20 (j := (4 : Int32)) (v := (.ref (w 4))) hin20 rfl (Sto.ofV Ar20 q20 Ov1 (Ins.self (hE4.ext O17.2))) (g := (mkF m 33 #[.val (.int p0), .val (.long q1), .second, .unset, .unset, .unset, .unset, .unset, .unset, .unset, .unset] [(.ref (w 4)), (.int (4 : Int32)), (.ref b1), (.ref b1)])) rfl rfl (hb hby at_33)
  have V_b1_v21 : Arv Z h21 b1 k1 (.object "com/example/stint/stint/model/Relation") (5 : Int32) [(.ref (w 0)), (.ref (w 1)), (.ref (w 2)), (.ref (w 3)), (.ref (w 4))] .null := Arv.set Ar20 q20 Sz20 Ng20 Hv20 Gv20 rfl W21 4 rfl (Nat.le_of_ble_eq_true rfl)
  have N21 := Fr.snoc X21 N17 gn_b1
  have O21 := O17.wr W21 gn_b1
  obtain ⟨cl22, Ar22, q22, Sz22, Ng22, Hv22, Gv22⟩ := V_b1_v21
  have hin22 : ¬ ((3 : Int32) < 0 ∨ cl22.slots.size ≤ ((3 : Int32)).toNatClampNeg) := inb_of Sz22 ⟨by decide, by decide⟩
  have hat22 : cl22.slots[((3 : Int32)).toNatClampNeg]? = some (.ref (w 3)) := Has.at Hv22 hin22 (by rfl)
  obtain ⟨cq23, kq23, q23a, q23b, q23c⟩ := isOf hZ e21 (hE3.ext O21.2)
  obtain ⟨_, _, ⟨T23, L23, k23, n23⟩, -, X23, ⟨Lc23, hQ23, l23, y23, z23⟩, st23⟩ := X21.virtualBack hx (y := (⟨"com/example/stint/stint/model/Relation", "boundsAbove", "()Z"⟩ : MethodName)) (z := (⟨"com/example/stint/stint/model/Relation", "boundsAbove", "()Z"⟩ : MethodName)) hown (mvT hZ (W hw 16 rfl)) (mvT hZ (W hw 17 rfl)) (notFace_of_selects (args := #[]) (mvT hZ (W hw 19 rfl))) (mvT hZ (W hw 19 rfl)) (mvT hZ (W hw 18 rfl)) (by decide) (backOf (W := 0) (rm_21 l Z a0 hw w kk hN [] h21 O21) hZ (W hw 20 rfl) (W hw 3 rfl) (by decide) (by decide)) q23a q23c (g := (mkF m 66 #[.val (.int p0), .val (.long q1), .second, .val (.ref b1), .val (.int (3 : Int32)), .val (.ref (w 3)), .val (.long q1), .second, .unset, .unset, .unset] [(.ref (w 3))])) rfl (by rw [hml]; rfl) (Steps.refl _) (argsL := []) (rest := []) (lenOf pd_0 rfl) rfl (by show 2 * 0 + _ ≤ _; exact Nat.le_of_eq rfl) (hb hby at_66) (fun _ _ => ⟨rfl, e21, (by decide : 1 + 0 ≤ _), (by decide : 5 + 0 ≤ _)⟩)
  dsimp only [Pt.U, Pt.locs, Pt.cells, Pt.slots] at X23 l23 y23 z23 st23 hQ23
  subst l23 y23 z23
  obtain ⟨rfl, N23q, e23⟩ := hQ23
  have N23 := Fr.app N21 N23q
  obtain ⟨cq24, kq24, q24a, q24b, q24c⟩ := isOf hZ e23 (hE3.ext O21.2)
  obtain ⟨_, _, ⟨T24, L24, k24, n24⟩, -, X24, ⟨Lc24, hQ24, l24, y24, z24⟩, st24⟩ := X23.virtualBack hx (y := (⟨"com/example/stint/stint/model/Relation", "holds", "(JJ)Z"⟩ : MethodName)) (z := (⟨"com/example/stint/stint/model/Relation", "holds", "(JJ)Z"⟩ : MethodName)) hown (mvT hZ (W hw 22 rfl)) (mvT hZ (W hw 23 rfl)) (notFace_of_selects (args := #[]) (mvT hZ (W hw 25 rfl))) (mvT hZ (W hw 25 rfl)) (mvT hZ (W hw 24 rfl)) (by decide) (backOf (W := 0) (rm_25 l Z a0 hw w kk hN [] q1 h21 O21 hp2 hp3) hZ (W hw 26 rfl) (W hw 3 rfl) (by decide) (by decide)) q24a q24c (g := (mkF m 91 #[.val (.int p0), .val (.long q1), .second, .val (.ref b1), .val (.int (3 : Int32)), .val (.ref (w 3)), .val (.long q1), .second, .val (.int (0 : Int32)), .val (.int (0 : Int32)), .unset] [(.long q1), (.long (9223372036854775807 : Int64)), (.ref (w 3))])) rfl (by rw [hml]; rfl) (Steps.refl _) (argsL := [(.long (9223372036854775807 : Int64)), (.long q1)]) (rest := []) (lenOf pd_3 rfl) rfl (by show 2 * 0 + _ ≤ _; exact Nat.le_of_eq rfl) (hb hby at_91) (fun _ _ => ⟨rfl, e23, (by decide : 1 + 0 ≤ _), (by decide : 5 + 0 ≤ _)⟩)
  dsimp only [Pt.U, Pt.locs, Pt.cells, Pt.slots] at X24 l24 y24 z24 st24 hQ24
  subst l24 y24 z24
  obtain ⟨rfl, N24q, e24⟩ := hQ24
  have N24 := Fr.app N23 N24q
  obtain ⟨fs, hr, hrun, hended, hW, hsame⟩ := X24.leave (v := some (.int (1 : Int32))) (fun h => by rw [Bd.returns] at h; cases h)
  refine ⟨_, _, pre0 _ ?_, hrun, hended, _, _, rfl, ?_, ⟨_, rfl⟩, hW, hsame.mono (by decide) (by decide)⟩
  · show Steps p.tables e below (s₁.setTop (mkF m 0 #[.val (.int p0), .val (.long q1), .second, .unset, .unset, .unset, .unset, .unset, .unset, .unset, .unset] [])) _
    refine XS.iconst X0.here hx rfl (hb hby at_0) ?_
    show Steps p.tables e below (s₁.setTop (mkF m 1 #[.val (.int p0), .val (.long q1), .second, .unset, .unset, .unset, .unset, .unset, .unset, .unset, .unset] [(.int (5 : Int32))])) _
    refine st1 _ ?_
    show Steps p.tables e below (T1.setTop (mkF m 4 #[.val (.int p0), .val (.long q1), .second, .unset, .unset, .unset, .unset, .unset, .unset, .unset, .unset] [(.ref b1)])) _
    refine XS.dup X1.here hx rfl (hb hby at_4) rfl rfl ?_
    show Steps p.tables e below (T1.setTop (mkF m 5 #[.val (.int p0), .val (.long q1), .second, .unset, .unset, .unset, .unset, .unset, .unset, .unset, .unset] [(.ref b1), (.ref b1)])) _
    refine XS.iconst X1.here hx rfl (hb hby at_5) ?_
    show Steps p.tables e below (T1.setTop (mkF m 6 #[.val (.int p0), .val (.long q1), .second, .unset, .unset, .unset, .unset, .unset, .unset, .unset, .unset] [(.int (0 : Int32)), (.ref b1), (.ref b1)])) _
    refine st2 _ ?_
    show Steps p.tables e below (T2.setTop (mkF m 9 #[.val (.int p0), .val (.long q1), .second, .unset, .unset, .unset, .unset, .unset, .unset, .unset, .unset] [(.ref (w 0)), (.int (0 : Int32)), (.ref b1), (.ref b1)])) _
    refine st5 _ ?_
    show Steps p.tables e below (T5.setTop (mkF m 10 #[.val (.int p0), .val (.long q1), .second, .unset, .unset, .unset, .unset, .unset, .unset, .unset, .unset] [(.ref b1)])) _
    refine XS.dup X5.here hx rfl (hb hby at_10) rfl rfl ?_
    show Steps p.tables e below (T5.setTop (mkF m 11 #[.val (.int p0), .val (.long q1), .second, .unset, .unset, .unset, .unset, .unset, .unset, .unset, .unset] [(.ref b1), (.ref b1)])) _
    refine XS.iconst X5.here hx rfl (hb hby at_11) ?_
    show Steps p.tables e below (T5.setTop (mkF m 12 #[.val (.int p0), .val (.long q1), .second, .unset, .unset, .unset, .unset, .unset, .unset, .unset, .unset] [(.int (1 : Int32)), (.ref b1), (.ref b1)])) _
    refine st6 _ ?_
    show Steps p.tables e below (T6.setTop (mkF m 15 #[.val (.int p0), .val (.long q1), .second, .unset, .unset, .unset, .unset, .unset, .unset, .unset, .unset] [(.ref (w 1)), (.int (1 : Int32)), (.ref b1), (.ref b1)])) _
    refine st9 _ ?_
    show Steps p.tables e below (T9.setTop (mkF m 16 #[.val (.int p0), .val (.long q1), .second, .unset, .unset, .unset, .unset, .unset, .unset, .unset, .unset] [(.ref b1)])) _
    refine XS.dup X9.here hx rfl (hb hby at_16) rfl rfl ?_
    show Steps p.tables e below (T9.setTop (mkF m 17 #[.val (.int p0), .val (.long q1), .second, .unset, .unset, .unset, .unset, .unset, .unset, .unset, .unset] [(.ref b1), (.ref b1)])) _
    refine XS.iconst X9.here hx rfl (hb hby at_17) ?_
    show Steps p.tables e below (T9.setTop (mkF m 18 #[.val (.int p0), .val (.long q1), .second, .unset, .unset, .unset, .unset, .unset, .unset, .unset, .unset] [(.int (2 : Int32)), (.ref b1), (.ref b1)])) _
    refine st10 _ ?_
    show Steps p.tables e below (T10.setTop (mkF m 21 #[.val (.int p0), .val (.long q1), .second, .unset, .unset, .unset, .unset, .unset, .unset, .unset, .unset] [(.ref (w 2)), (.int (2 : Int32)), (.ref b1), (.ref b1)])) _
    refine st13 _ ?_
    show Steps p.tables e below (T13.setTop (mkF m 22 #[.val (.int p0), .val (.long q1), .second, .unset, .unset, .unset, .unset, .unset, .unset, .unset, .unset] [(.ref b1)])) _
    refine XS.dup X13.here hx rfl (hb hby at_22) rfl rfl ?_
    show Steps p.tables e below (T13.setTop (mkF m 23 #[.val (.int p0), .val (.long q1), .second, .unset, .unset, .unset, .unset, .unset, .unset, .unset, .unset] [(.ref b1), (.ref b1)])) _
    refine XS.iconst X13.here hx rfl (hb hby at_23) ?_
    show Steps p.tables e below (T13.setTop (mkF m 24 #[.val (.int p0), .val (.long q1), .second, .unset, .unset, .unset, .unset, .unset, .unset, .unset, .unset] [(.int (3 : Int32)), (.ref b1), (.ref b1)])) _
    refine st14 _ ?_
    show Steps p.tables e below (T14.setTop (mkF m 27 #[.val (.int p0), .val (.long q1), .second, .unset, .unset, .unset, .unset, .unset, .unset, .unset, .unset] [(.ref (w 3)), (.int (3 : Int32)), (.ref b1), (.ref b1)])) _
    refine st17 _ ?_
    show Steps p.tables e below (T17.setTop (mkF m 28 #[.val (.int p0), .val (.long q1), .second, .unset, .unset, .unset, .unset, .unset, .unset, .unset, .unset] [(.ref b1)])) _
    refine XS.dup X17.here hx rfl (hb hby at_28) rfl rfl ?_
    show Steps p.tables e below (T17.setTop (mkF m 29 #[.val (.int p0), .val (.long q1), .second, .unset, .unset, .unset, .unset, .unset, .unset, .unset, .unset] [(.ref b1), (.ref b1)])) _
    refine XS.iconst X17.here hx rfl (hb hby at_29) ?_
    show Steps p.tables e below (T17.setTop (mkF m 30 #[.val (.int p0), .val (.long q1), .second, .unset, .unset, .unset, .unset, .unset, .unset, .unset, .unset] [(.int (4 : Int32)), (.ref b1), (.ref b1)])) _
    refine st18 _ ?_
    show Steps p.tables e below (T18.setTop (mkF m 33 #[.val (.int p0), .val (.long q1), .second, .unset, .unset, .unset, .unset, .unset, .unset, .unset, .unset] [(.ref (w 4)), (.int (4 : Int32)), (.ref b1), (.ref b1)])) _
    refine st21 _ ?_
    show Steps p.tables e below (T21.setTop (mkF m 34 #[.val (.int p0), .val (.long q1), .second, .unset, .unset, .unset, .unset, .unset, .unset, .unset, .unset] [(.ref b1)])) _
    refine XS.astoreN X21.here hx rfl (hb hby at_34) rfl rfl (l' := #[.val (.int p0), .val (.long q1), .second, .val (.ref b1), .unset, .unset, .unset, .unset, .unset, .unset, .unset]) rfl ?_
    show Steps p.tables e below (T21.setTop (mkF m 35 #[.val (.int p0), .val (.long q1), .second, .val (.ref b1), .unset, .unset, .unset, .unset, .unset, .unset, .unset] [])) _
    refine XS.iloadN X21.here hx rfl (hb hby at_35) rfl ?_
    show Steps p.tables e below (T21.setTop (mkF m 36 #[.val (.int p0), .val (.long q1), .second, .val (.ref b1), .unset, .unset, .unset, .unset, .unset, .unset, .unset] [(.int p0)])) _
    refine X21.ldcInt hx hown (mvT hZ (W hw 14 rfl)) (g := (mkF m 36 #[.val (.int p0), .val (.long q1), .second, .val (.ref b1), .unset, .unset, .unset, .unset, .unset, .unset, .unset] [(.int p0)])) rfl (hb hby at_36) _ ?_
    show Steps p.tables e below (T21.setTop (mkF m 38 #[.val (.int p0), .val (.long q1), .second, .val (.ref b1), .unset, .unset, .unset, .unset, .unset, .unset, .unset] [(.int (2147483647 : Int32)), (.int p0)])) _
    refine XS.iand X21.here hx rfl (hb hby at_38) rfl ?_
    show Steps p.tables e below (T21.setTop (mkF m 39 #[.val (.int p0), .val (.long q1), .second, .val (.ref b1), .unset, .unset, .unset, .unset, .unset, .unset, .unset] [(.int (p0 &&& (2147483647 : Int32)))])) _
    refine XS.iconst X21.here hx rfl (hb hby at_39) ?_
    show Steps p.tables e below (T21.setTop (mkF m 40 #[.val (.int p0), .val (.long q1), .second, .val (.ref b1), .unset, .unset, .unset, .unset, .unset, .unset, .unset] [(.int (5 : Int32)), (.int (p0 &&& (2147483647 : Int32)))])) _
    refine iremM X21 hx rfl (hb hby at_40) rfl (by decide : ¬ ((5 : Int32) = (0 : Int32))) ?_
    show Steps p.tables e below (T21.setTop (mkF m 41 #[.val (.int p0), .val (.long q1), .second, .val (.ref b1), .unset, .unset, .unset, .unset, .unset, .unset, .unset] [(.int ((p0 &&& (2147483647 : Int32)) % (5 : Int32)))])) _
    rw [hp0]
    show Steps p.tables e below (T21.setTop (mkF m 41 #[.val (.int p0), .val (.long q1), .second, .val (.ref b1), .unset, .unset, .unset, .unset, .unset, .unset, .unset] [(.int (3 : Int32))])) _
    refine XS.istore X21.here hx rfl (hb hby at_41) rfl (l' := #[.val (.int p0), .val (.long q1), .second, .val (.ref b1), .val (.int (3 : Int32)), .unset, .unset, .unset, .unset, .unset, .unset]) rfl ?_
    show Steps p.tables e below (T21.setTop (mkF m 43 #[.val (.int p0), .val (.long q1), .second, .val (.ref b1), .val (.int (3 : Int32)), .unset, .unset, .unset, .unset, .unset, .unset] [])) _
    refine XS.aloadN X21.here hx rfl (hb hby at_43) rfl rfl ?_
    show Steps p.tables e below (T21.setTop (mkF m 44 #[.val (.int p0), .val (.long q1), .second, .val (.ref b1), .val (.int (3 : Int32)), .unset, .unset, .unset, .unset, .unset, .unset] [(.ref b1)])) _
    refine XS.iload X21.here hx rfl (hb hby at_44) rfl ?_
    show Steps p.tables e below (T21.setTop (mkF m 46 #[.val (.int p0), .val (.long q1), .second, .val (.ref b1), .val (.int (3 : Int32)), .unset, .unset, .unset, .unset, .unset, .unset] [(.int (3 : Int32)), (.ref b1)])) _
    refine X21.aaload hx (j := (3 : Int32)) (v := (.ref (w 3))) (by rw [e21]; exact Ar22.1) (State.isArrayOf_alike hZ.alike Ar22.2.1) rfl Ar22.2.2 hin22 hat22 (g := (mkF m 46 #[.val (.int p0), .val (.long q1), .second, .val (.ref b1), .val (.int (3 : Int32)), .unset, .unset, .unset, .unset, .unset, .unset] [(.int (3 : Int32)), (.ref b1)])) rfl rfl (hb hby at_46) _ ?_
    show Steps p.tables e below (T21.setTop (mkF m 47 #[.val (.int p0), .val (.long q1), .second, .val (.ref b1), .val (.int (3 : Int32)), .unset, .unset, .unset, .unset, .unset, .unset] [(.ref (w 3))])) _
    refine XS.astore X21.here hx rfl (hb hby at_47) rfl rfl (l' := #[.val (.int p0), .val (.long q1), .second, .val (.ref b1), .val (.int (3 : Int32)), .val (.ref (w 3)), .unset, .unset, .unset, .unset, .unset]) rfl ?_
    show Steps p.tables e below (T21.setTop (mkF m 49 #[.val (.int p0), .val (.long q1), .second, .val (.ref b1), .val (.int (3 : Int32)), .val (.ref (w 3)), .unset, .unset, .unset, .unset, .unset] [])) _
    refine XS.lloadN X21.here hx rfl (hb hby at_49) rfl ?_
    show Steps p.tables e below (T21.setTop (mkF m 50 #[.val (.int p0), .val (.long q1), .second, .val (.ref b1), .val (.int (3 : Int32)), .val (.ref (w 3)), .unset, .unset, .unset, .unset, .unset] [(.long q1)])) _
    refine XS.lstore X21.here hx rfl (hb hby at_50) rfl (l' := #[.val (.int p0), .val (.long q1), .second, .val (.ref b1), .val (.int (3 : Int32)), .val (.ref (w 3)), .val (.long q1), .second, .unset, .unset, .unset]) rfl ?_
    show Steps p.tables e below (T21.setTop (mkF m 52 #[.val (.int p0), .val (.long q1), .second, .val (.ref b1), .val (.int (3 : Int32)), .val (.ref (w 3)), .val (.long q1), .second, .unset, .unset, .unset] [])) _
    refine XS.lload X21.here hx rfl (hb hby at_52) rfl ?_
    show Steps p.tables e below (T21.setTop (mkF m 54 #[.val (.int p0), .val (.long q1), .second, .val (.ref b1), .val (.int (3 : Int32)), .val (.ref (w 3)), .val (.long q1), .second, .unset, .unset, .unset] [(.long q1)])) _
    refine X21.ldc2Long hx hown (mvT hZ (W hw 15 rfl)) (g := (mkF m 54 #[.val (.int p0), .val (.long q1), .second, .val (.ref b1), .val (.int (3 : Int32)), .val (.ref (w 3)), .val (.long q1), .second, .unset, .unset, .unset] [(.long q1)])) rfl (hb hby at_54) _ ?_
    show Steps p.tables e below (T21.setTop (mkF m 57 #[.val (.int p0), .val (.long q1), .second, .val (.ref b1), .val (.int (3 : Int32)), .val (.ref (w 3)), .val (.long q1), .second, .unset, .unset, .unset] [(.long (9223372036854775807 : Int64)), (.long q1)])) _
    refine XS.lcmp X21.here hx rfl (hb hby at_57) rfl ?_
    show Steps p.tables e below (T21.setTop (mkF m 58 #[.val (.int p0), .val (.long q1), .second, .val (.ref b1), .val (.int (3 : Int32)), .val (.ref (w 3)), .val (.long q1), .second, .unset, .unset, .unset] [(.int (lcmpW q1 (9223372036854775807 : Int64)))])) _
    refine XS.ifYes X21.here hx rfl (pc0 := 58) (pc' := 64) rfl (hb hby at_58) rfl ((if0 _ _).trans (feq hp1).2) (by decide) (by decide) ?_
    show Steps p.tables e below (T21.setTop (mkF m 64 #[.val (.int p0), .val (.long q1), .second, .val (.ref b1), .val (.int (3 : Int32)), .val (.ref (w 3)), .val (.long q1), .second, .unset, .unset, .unset] [])) _
    refine XS.aload X21.here hx rfl (hb hby at_64) rfl rfl ?_
    show Steps p.tables e below (T21.setTop (mkF m 66 #[.val (.int p0), .val (.long q1), .second, .val (.ref b1), .val (.int (3 : Int32)), .val (.ref (w 3)), .val (.long q1), .second, .unset, .unset, .unset] [(.ref (w 3))])) _
    refine st23.trans ?_
    show Steps p.tables e below (T23.setTop (mkF m 69 #[.val (.int p0), .val (.long q1), .second, .val (.ref b1), .val (.int (3 : Int32)), .val (.ref (w 3)), .val (.long q1), .second, .unset, .unset, .unset] [(.int (0 : Int32))])) _
    refine XS.istore X23.here hx rfl (hb hby at_69) rfl (l' := #[.val (.int p0), .val (.long q1), .second, .val (.ref b1), .val (.int (3 : Int32)), .val (.ref (w 3)), .val (.long q1), .second, .val (.int (0 : Int32)), .unset, .unset]) rfl ?_
    show Steps p.tables e below (T23.setTop (mkF m 71 #[.val (.int p0), .val (.long q1), .second, .val (.ref b1), .val (.int (3 : Int32)), .val (.ref (w 3)), .val (.long q1), .second, .val (.int (0 : Int32)), .unset, .unset] [])) _
    refine XS.iload X23.here hx rfl (hb hby at_71) rfl ?_
    show Steps p.tables e below (T23.setTop (mkF m 73 #[.val (.int p0), .val (.long q1), .second, .val (.ref b1), .val (.int (3 : Int32)), .val (.ref (w 3)), .val (.long q1), .second, .val (.int (0 : Int32)), .unset, .unset] [(.int (3 : Int32))])) _
    refine XS.iconst X23.here hx rfl (hb hby at_73) ?_
    show Steps p.tables e below (T23.setTop (mkF m 74 #[.val (.int p0), .val (.long q1), .second, .val (.ref b1), .val (.int (3 : Int32)), .val (.ref (w 3)), .val (.long q1), .second, .val (.int (0 : Int32)), .unset, .unset] [(.int (2 : Int32)), (.int (3 : Int32))])) _
    refine XS.icmpYes X23.here hx rfl (pc0 := 74) (pc' := 81) rfl (hb hby at_74) rfl (tlt (by decide : (2 : Int32) < (3 : Int32))).2.2.1 (by decide) (by decide) ?_
    show Steps p.tables e below (T23.setTop (mkF m 81 #[.val (.int p0), .val (.long q1), .second, .val (.ref b1), .val (.int (3 : Int32)), .val (.ref (w 3)), .val (.long q1), .second, .val (.int (0 : Int32)), .unset, .unset] [])) _
    refine XS.iconst X23.here hx rfl (hb hby at_81) ?_
    show Steps p.tables e below (T23.setTop (mkF m 82 #[.val (.int p0), .val (.long q1), .second, .val (.ref b1), .val (.int (3 : Int32)), .val (.ref (w 3)), .val (.long q1), .second, .val (.int (0 : Int32)), .unset, .unset] [(.int (0 : Int32))])) _
    refine XS.istore X23.here hx rfl (hb hby at_82) rfl (l' := #[.val (.int p0), .val (.long q1), .second, .val (.ref b1), .val (.int (3 : Int32)), .val (.ref (w 3)), .val (.long q1), .second, .val (.int (0 : Int32)), .val (.int (0 : Int32)), .unset]) rfl ?_
    show Steps p.tables e below (T23.setTop (mkF m 84 #[.val (.int p0), .val (.long q1), .second, .val (.ref b1), .val (.int (3 : Int32)), .val (.ref (w 3)), .val (.long q1), .second, .val (.int (0 : Int32)), .val (.int (0 : Int32)), .unset] [])) _
    refine XS.aload X23.here hx rfl (hb hby at_84) rfl rfl ?_
    show Steps p.tables e below (T23.setTop (mkF m 86 #[.val (.int p0), .val (.long q1), .second, .val (.ref b1), .val (.int (3 : Int32)), .val (.ref (w 3)), .val (.long q1), .second, .val (.int (0 : Int32)), .val (.int (0 : Int32)), .unset] [(.ref (w 3))])) _
    refine X23.ldc2Long hx hown (mvT hZ (W hw 15 rfl)) (g := (mkF m 86 #[.val (.int p0), .val (.long q1), .second, .val (.ref b1), .val (.int (3 : Int32)), .val (.ref (w 3)), .val (.long q1), .second, .val (.int (0 : Int32)), .val (.int (0 : Int32)), .unset] [(.ref (w 3))])) rfl (hb hby at_86) _ ?_
    show Steps p.tables e below (T23.setTop (mkF m 89 #[.val (.int p0), .val (.long q1), .second, .val (.ref b1), .val (.int (3 : Int32)), .val (.ref (w 3)), .val (.long q1), .second, .val (.int (0 : Int32)), .val (.int (0 : Int32)), .unset] [(.long (9223372036854775807 : Int64)), (.ref (w 3))])) _
    refine XS.lload X23.here hx rfl (hb hby at_89) rfl ?_
    show Steps p.tables e below (T23.setTop (mkF m 91 #[.val (.int p0), .val (.long q1), .second, .val (.ref b1), .val (.int (3 : Int32)), .val (.ref (w 3)), .val (.long q1), .second, .val (.int (0 : Int32)), .val (.int (0 : Int32)), .unset] [(.long q1), (.long (9223372036854775807 : Int64)), (.ref (w 3))])) _
    refine st24.trans ?_
    show Steps p.tables e below (T24.setTop (mkF m 94 #[.val (.int p0), .val (.long q1), .second, .val (.ref b1), .val (.int (3 : Int32)), .val (.ref (w 3)), .val (.long q1), .second, .val (.int (0 : Int32)), .val (.int (0 : Int32)), .unset] [(.int (1 : Int32))])) _
    refine XS.ifYes X24.here hx rfl (pc0 := 94) (pc' := 101) rfl (hb hby at_94) rfl ((if0 _ _).trans (feq (by decide : ¬ ((1 : Int32) = (0 : Int32)))).2) (by decide) (by decide) ?_
    show Steps p.tables e below (T24.setTop (mkF m 101 #[.val (.int p0), .val (.long q1), .second, .val (.ref b1), .val (.int (3 : Int32)), .val (.ref (w 3)), .val (.long q1), .second, .val (.int (0 : Int32)), .val (.int (0 : Int32)), .unset] [])) _
    refine XS.iconst X24.here hx rfl (hb hby at_101) ?_
    show Steps p.tables e below (T24.setTop (mkF m 102 #[.val (.int p0), .val (.long q1), .second, .val (.ref b1), .val (.int (3 : Int32)), .val (.ref (w 3)), .val (.long q1), .second, .val (.int (0 : Int32)), .val (.int (0 : Int32)), .unset] [(.int (0 : Int32))])) _
    refine XS.istore X24.here hx rfl (hb hby at_102) rfl (l' := #[.val (.int p0), .val (.long q1), .second, .val (.ref b1), .val (.int (3 : Int32)), .val (.ref (w 3)), .val (.long q1), .second, .val (.int (0 : Int32)), .val (.int (0 : Int32)), .val (.int (0 : Int32))]) rfl ?_
    show Steps p.tables e below (T24.setTop (mkF m 104 #[.val (.int p0), .val (.long q1), .second, .val (.ref b1), .val (.int (3 : Int32)), .val (.ref (w 3)), .val (.long q1), .second, .val (.int (0 : Int32)), .val (.int (0 : Int32)), .val (.int (0 : Int32))] [])) _
    refine XS.iload X24.here hx rfl (hb hby at_104) rfl ?_
    show Steps p.tables e below (T24.setTop (mkF m 106 #[.val (.int p0), .val (.long q1), .second, .val (.ref b1), .val (.int (3 : Int32)), .val (.ref (w 3)), .val (.long q1), .second, .val (.int (0 : Int32)), .val (.int (0 : Int32)), .val (.int (0 : Int32))] [(.int (0 : Int32))])) _
    refine XS.iload X24.here hx rfl (hb hby at_106) rfl ?_
    show Steps p.tables e below (T24.setTop (mkF m 108 #[.val (.int p0), .val (.long q1), .second, .val (.ref b1), .val (.int (3 : Int32)), .val (.ref (w 3)), .val (.long q1), .second, .val (.int (0 : Int32)), .val (.int (0 : Int32)), .val (.int (0 : Int32))] [(.int (0 : Int32)), (.int (0 : Int32))])) _
    refine XS.icmpNo X24.here hx rfl (hb hby at_108) rfl (teq (by decide : (0 : Int32) = (0 : Int32))).2 ?_
    show Steps p.tables e below (T24.setTop (mkF m 111 #[.val (.int p0), .val (.long q1), .second, .val (.ref b1), .val (.int (3 : Int32)), .val (.ref (w 3)), .val (.long q1), .second, .val (.int (0 : Int32)), .val (.int (0 : Int32)), .val (.int (0 : Int32))] [])) _
    refine XS.iload X24.here hx rfl (hb hby at_111) rfl ?_
    show Steps p.tables e below (T24.setTop (mkF m 113 #[.val (.int p0), .val (.long q1), .second, .val (.ref b1), .val (.int (3 : Int32)), .val (.ref (w 3)), .val (.long q1), .second, .val (.int (0 : Int32)), .val (.int (0 : Int32)), .val (.int (0 : Int32))] [(.int (0 : Int32))])) _
    refine XS.iload X24.here hx rfl (hb hby at_113) rfl ?_
    show Steps p.tables e below (T24.setTop (mkF m 115 #[.val (.int p0), .val (.long q1), .second, .val (.ref b1), .val (.int (3 : Int32)), .val (.ref (w 3)), .val (.long q1), .second, .val (.int (0 : Int32)), .val (.int (0 : Int32)), .val (.int (0 : Int32))] [(.int (0 : Int32)), (.int (0 : Int32))])) _
    refine XS.icmpNo X24.here hx rfl (hb hby at_115) rfl (teq (by decide : (0 : Int32) = (0 : Int32))).2 ?_
    show Steps p.tables e below (T24.setTop (mkF m 118 #[.val (.int p0), .val (.long q1), .second, .val (.ref b1), .val (.int (3 : Int32)), .val (.ref (w 3)), .val (.long q1), .second, .val (.int (0 : Int32)), .val (.int (0 : Int32)), .val (.int (0 : Int32))] [])) _
    refine XS.iconst X24.here hx rfl (hb hby at_118) ?_
    show Steps p.tables e below (T24.setTop (mkF m 119 #[.val (.int p0), .val (.long q1), .second, .val (.ref b1), .val (.int (3 : Int32)), .val (.ref (w 3)), .val (.long q1), .second, .val (.int (0 : Int32)), .val (.int (0 : Int32)), .val (.int (0 : Int32))] [(.int (1 : Int32))])) _
    refine XS.goto X24.here hx rfl (pc0 := 119) (pc' := 123) rfl (hb hby at_119) (by decide) (by decide) ?_
    show Steps p.tables e below (T24.setTop (mkF m 123 #[.val (.int p0), .val (.long q1), .second, .val (.ref b1), .val (.int (3 : Int32)), .val (.ref (w 3)), .val (.long q1), .second, .val (.int (0 : Int32)), .val (.int (0 : Int32)), .val (.int (0 : Int32))] [(.int (1 : Int32))])) _
    exact retN X24 hx (t := .boolean) Bd.returns (by simp) (hb hby at_123) hr
  · show OL (some (.int (1 : Int32))) Z.heap.size _ T24.heap _
    exact ⟨rfl, N24⟩
set_option maxRecDepth 65536 in
set_option maxHeartbeats 40000000 in
theorem rm_27 (l : Launch) (Z : State) (a0 : Array Value) (hw : ∀ d ∈ tables_1, d.before a0 Z = true) (w : Nat → Addr) (kk : Nat → ClassId) (hN : Wd Z w kk) (ws : List Jvm.Cond)  (h0 : Heap) (O0 : Old Z Z.heap.size h0) :
    MetFree l (⟨"com/example/stint/stint/model/Relation", "boundsAbove", "()Z"⟩ : MethodName) (head1 (Jvm.Cond.code (⟨"com/example/stint/stint/model/Relation", "boundsAbove", "()Z"⟩ : MethodName) prog_47_method_8_code 1 (some .boolean) :: ws) ({ frames := 0, cells := 0, slots := 0, locals := 0 } : Room)) (fun a U => a = #[(.ref (w 4))] ∧ Z.Warmed39 U.vm ∧ U.heap = h0) (fun _ _ _ _ _ => True) (fun _ U o U' => ∃ v L, o = .returned v ∧ OQ (some (.int (0 : Int32))) h0 Z.heap.size v U'.heap L ∧ FrameEnd U o U' L ({ frames := 0, cells := 0, slots := 0, locals := 0 } : Room).cells ({ frames := 0, cells := 0, slots := 0, locals := 0 } : Room).slots) := by
  have hN' := hN
  obtain ⟨hS0, hE0, hS1, hE1, hS2, hE2, hS3, hE3, hS4, hE4, hF0_ordinal, hF1_ordinal, hF4_ordinal, hF2_ordinal, hF3_ordinal⟩ := hN'
  refine MetFree.of_bodySF (plainFor_of_name pn_0) hisR ?_
  intro p e s m args below meth c s₁ Bd hml0 hP hK
  obtain ⟨rfl, hZ, hh⟩ := hP
  have hx := Bd.exec
  have hby := Bd.bytes
  have hml : c.maxLocals = 1 := hml0
  have hown : s.vm.findClass "com/example/stint/stint/model/Relation" = some m.cls := findClass_of_methodNamed Bd.named
  have hnm := (name_of_methodNamed Bd.named Bd.method).1
  have X0 : Stand p l e ({ frames := 0, cells := 0, slots := 0, locals := 0 } : Room) s m #[(.ref (w 4))] below meth c s₁ [] 0 0 := Stand.of_body Bd
  have e0 : s₁.heap = h0 := by rw [← hh, Bd.state]; rfl
  have N0 := Fr.nil Z.heap.size
  have pre0 : ∀ t, Steps p.tables e below (s₁.setTop (mkF m 0 #[.val (.ref (w 4))] [])) t → Steps p.tables e below (s₁.setTop (entryFrame m #[(.ref (w 4))] 1)) t := fun t k => castTop (ef_0 m (.ref (w 4)) rfl) k
  obtain ⟨T1, X1, e1, st1⟩ := getS2 X0 hx hZ hown (host := "") (Or.inl (W hw 21 rfl)) Via.refl e0 (hS0.ext O0.2) (g := (mkF m 1 #[.val (.ref (w 4))] [(.ref (w 4))])) rfl (hb hby d_prog_47_method_8_code_1)
  obtain ⟨T2, X2, e2, st2⟩ := getS2 X1 hx hZ hown (host := "") (Or.inl (W hw 40 rfl)) Via.refl e1 (hS1.ext O0.2) (g := (mkF m 8 #[.val (.ref (w 4))] [(.ref (w 4))])) rfl (hb hby d_prog_47_method_8_code_8)
  obtain ⟨T3, X3, e3, st3⟩ := getS2 X2 hx hZ hown (host := "") (Or.inl (W hw 41 rfl)) Via.refl e2 (hS2.ext O0.2) (g := (mkF m 15 #[.val (.ref (w 4))] [(.ref (w 4))])) rfl (hb hby d_prog_47_method_8_code_15)
  obtain ⟨fs, hr, hrun, hended, hW, hsame⟩ := X3.leave (v := some (.int (0 : Int32))) (fun h => by rw [Bd.returns] at h; cases h)
  refine ⟨_, _, pre0 _ ?_, hrun, hended, _, _, rfl, ?_, ⟨_, rfl⟩, hW, hsame.mono (by decide) (by decide)⟩
  · show Steps p.tables e below (s₁.setTop (mkF m 0 #[.val (.ref (w 4))] [])) _
    refine XS.aloadN X0.here hx rfl (hb hby d_prog_47_method_8_code_0) rfl rfl ?_
    show Steps p.tables e below (s₁.setTop (mkF m 1 #[.val (.ref (w 4))] [(.ref (w 4))])) _
    refine st1 _ ?_
    show Steps p.tables e below (T1.setTop (mkF m 4 #[.val (.ref (w 4))] [(.ref (w 0)), (.ref (w 4))])) _
    refine Jvm.RoadKit.acmp (g := (mkF m 4 #[.val (.ref (w 4))] [(.ref (w 0)), (.ref (w 4))])) X1 hx rfl rfl rfl (pc0 := 4) (pc' := 7) (same := false) rfl (hb hby d_prog_47_method_8_code_4) rfl (decide_eq_false fun q => (Fld.ne hF4_ordinal hF0_ordinal (by decide)) (Value.ref.inj q)) (by decide) (by decide) ?_
    show Steps p.tables e below (T1.setTop (mkF m 7 #[.val (.ref (w 4))] [])) _
    refine XS.aloadN X1.here hx rfl (hb hby d_prog_47_method_8_code_7) rfl rfl ?_
    show Steps p.tables e below (T1.setTop (mkF m 8 #[.val (.ref (w 4))] [(.ref (w 4))])) _
    refine st2 _ ?_
    show Steps p.tables e below (T2.setTop (mkF m 11 #[.val (.ref (w 4))] [(.ref (w 1)), (.ref (w 4))])) _
    refine Jvm.RoadKit.acmp (g := (mkF m 11 #[.val (.ref (w 4))] [(.ref (w 1)), (.ref (w 4))])) X2 hx rfl rfl rfl (pc0 := 11) (pc' := 14) (same := false) rfl (hb hby d_prog_47_method_8_code_11) rfl (decide_eq_false fun q => (Fld.ne hF4_ordinal hF1_ordinal (by decide)) (Value.ref.inj q)) (by decide) (by decide) ?_
    show Steps p.tables e below (T2.setTop (mkF m 14 #[.val (.ref (w 4))] [])) _
    refine XS.aloadN X2.here hx rfl (hb hby d_prog_47_method_8_code_14) rfl rfl ?_
    show Steps p.tables e below (T2.setTop (mkF m 15 #[.val (.ref (w 4))] [(.ref (w 4))])) _
    refine st3 _ ?_
    show Steps p.tables e below (T3.setTop (mkF m 18 #[.val (.ref (w 4))] [(.ref (w 2)), (.ref (w 4))])) _
    refine Jvm.RoadKit.acmp (g := (mkF m 18 #[.val (.ref (w 4))] [(.ref (w 2)), (.ref (w 4))])) X3 hx rfl rfl rfl (pc0 := 18) (pc' := 25) (same := false) rfl (hb hby d_prog_47_method_8_code_18) rfl (decide_eq_false fun q => (Fld.ne hF4_ordinal hF2_ordinal (by decide)) (Value.ref.inj q)) (by decide) (by decide) ?_
    show Steps p.tables e below (T3.setTop (mkF m 25 #[.val (.ref (w 4))] [])) _
    refine XS.iconst X3.here hx rfl (hb hby d_prog_47_method_8_code_25) ?_
    show Steps p.tables e below (T3.setTop (mkF m 26 #[.val (.ref (w 4))] [(.int (0 : Int32))])) _
    exact retN X3 hx (t := .boolean) Bd.returns (by simp) (hb hby d_prog_47_method_8_code_26) hr
  · show OQ (some (.int (0 : Int32))) h0 Z.heap.size _ T3.heap _
    rw [e3]
    exact ⟨rfl, N0, rfl⟩
set_option maxRecDepth 65536 in
set_option maxHeartbeats 40000000 in
theorem rm_28 (l : Launch) (Z : State) (a0 : Array Value) (hw : ∀ d ∈ tables_1, d.before a0 Z = true) (w : Nat → Addr) (kk : Nat → ClassId) (hN : Wd Z w kk) (ws : List Jvm.Cond)  (h0 : Heap) (O0 : Old Z Z.heap.size h0) :
    MetFree l (⟨"java/lang/Enum", "ordinal", "()I"⟩ : MethodName) (head1 (Jvm.Cond.code (⟨"java/lang/Enum", "ordinal", "()I"⟩ : MethodName) jdk_37_method_2_code 1 (some .int) :: ws) ({ frames := 0, cells := 0, slots := 0, locals := 0 } : Room)) (fun a U => a = #[(.ref (w 4))] ∧ Z.Warmed39 U.vm ∧ U.heap = h0) (fun _ _ _ _ _ => True) (fun _ U o U' => ∃ v L, o = .returned v ∧ OQ (some (.int (4 : Int32))) h0 Z.heap.size v U'.heap L ∧ FrameEnd U o U' L ({ frames := 0, cells := 0, slots := 0, locals := 0 } : Room).cells ({ frames := 0, cells := 0, slots := 0, locals := 0 } : Room).slots) := by
  have hN' := hN
  obtain ⟨hS0, hE0, hS1, hE1, hS2, hE2, hS3, hE3, hS4, hE4, hF0_ordinal, hF1_ordinal, hF4_ordinal, hF2_ordinal, hF3_ordinal⟩ := hN'
  refine MetFree.of_bodySF (plainFor_of_name pn_2) hisR ?_
  intro p e s m args below meth c s₁ Bd hml0 hP hK
  obtain ⟨rfl, hZ, hh⟩ := hP
  have hx := Bd.exec
  have hby := Bd.bytes
  have hml : c.maxLocals = 1 := hml0
  have hown : s.vm.findClass "java/lang/Enum" = some m.cls := findClass_of_methodNamed Bd.named
  have hnm := (name_of_methodNamed Bd.named Bd.method).1
  have X0 : Stand p l e ({ frames := 0, cells := 0, slots := 0, locals := 0 } : Room) s m #[(.ref (w 4))] below meth c s₁ [] 0 0 := Stand.of_body Bd
  have e0 : s₁.heap = h0 := by rw [← hh, Bd.state]; rfl
  have N0 := Fr.nil Z.heap.size
  have pre0 : ∀ t, Steps p.tables e below (s₁.setTop (mkF m 0 #[.val (.ref (w 4))] [])) t → Steps p.tables e below (s₁.setTop (entryFrame m #[(.ref (w 4))] 1)) t := fun t k => castTop (ef_0 m (.ref (w 4)) rfl) k
  obtain ⟨T1, X1, e1, st1⟩ := getF X0 hx hZ hown (host := "") (Or.inl (W hw 38 rfl)) Via.refl e0 (hF4_ordinal.ext O0.2) (g := (mkF m 1 #[.val (.ref (w 4))] [(.ref (w 4))])) rfl rfl (hb hby d_jdk_37_method_2_code_1)
  obtain ⟨fs, hr, hrun, hended, hW, hsame⟩ := X1.leave (v := some (.int (4 : Int32))) (fun h => by rw [Bd.returns] at h; cases h)
  refine ⟨_, _, pre0 _ ?_, hrun, hended, _, _, rfl, ?_, ⟨_, rfl⟩, hW, hsame.mono (by decide) (by decide)⟩
  · show Steps p.tables e below (s₁.setTop (mkF m 0 #[.val (.ref (w 4))] [])) _
    refine XS.aloadN X0.here hx rfl (hb hby d_jdk_37_method_2_code_0) rfl rfl ?_
    show Steps p.tables e below (s₁.setTop (mkF m 1 #[.val (.ref (w 4))] [(.ref (w 4))])) _
    refine st1 _ ?_
    show Steps p.tables e below (T1.setTop (mkF m 4 #[.val (.ref (w 4))] [(.int (4 : Int32))])) _
    exact retI X1 hx Bd.returns (hb hby d_jdk_37_method_2_code_4) hr
  · show OQ (some (.int (4 : Int32))) h0 Z.heap.size _ T1.heap _
    rw [e1]
    exact ⟨rfl, N0, rfl⟩
theorem d_prog_47_method_11_code_106 : decode prog_47_method_11_code 106 = .ok (.iload 5, 2) := by decide +kernel
theorem d_prog_47_method_11_code_108 : decode prog_47_method_11_code 108 = .ok (.ifCond .le 7, 3) := by decide +kernel
theorem d_prog_47_method_11_code_111 : decode prog_47_method_11_code 111 = .ok (.iconst 1, 1) := by decide +kernel
theorem d_prog_47_method_11_code_112 : decode prog_47_method_11_code 112 = .ok (.goto 4, 3) := by decide +kernel
set_option maxRecDepth 65536 in
set_option maxHeartbeats 40000000 in
theorem rm_29 (l : Launch) (Z : State) (a0 : Array Value) (hw : ∀ d ∈ tables_1, d.before a0 Z = true) (w : Nat → Addr) (kk : Nat → ClassId) (hN : Wd Z w kk) (ws : List Jvm.Cond)  (h0 : Heap) (O0 : Old Z Z.heap.size h0) :
    MetFree l (⟨"com/example/stint/stint/model/Relation", "holds", "(JJ)Z"⟩ : MethodName) (head1 (Jvm.Cond.code (⟨"com/example/stint/stint/model/Relation", "holds", "(JJ)Z"⟩ : MethodName) prog_47_method_11_code 6 (some .boolean) :: ws) ({ frames := 1, cells := 0, slots := 0, locals := 15 } : Room)) (fun a U => a = #[(.ref (w 4)), (.long (9223372036854775807 : Int64)), (.long (0 : Int64))] ∧ Z.Warmed39 U.vm ∧ U.heap = h0) (fun _ _ _ _ _ => True) (fun _ U o U' => ∃ v L, o = .returned v ∧ OQ (some (.int (1 : Int32))) h0 Z.heap.size v U'.heap L ∧ FrameEnd U o U' L ({ frames := 1, cells := 0, slots := 0, locals := 15 } : Room).cells ({ frames := 1, cells := 0, slots := 0, locals := 15 } : Room).slots) := by
  have hN' := hN
  obtain ⟨hS0, hE0, hS1, hE1, hS2, hE2, hS3, hE3, hS4, hE4, hF0_ordinal, hF1_ordinal, hF4_ordinal, hF2_ordinal, hF3_ordinal⟩ := hN'
  refine MetFree.of_bodySF (plainFor_of_name pn_0) hisR ?_
  intro p e s m args below meth c s₁ Bd hml0 hP hK
  obtain ⟨rfl, hZ, hh⟩ := hP
  have hx := Bd.exec
  have hby := Bd.bytes
  have hml : c.maxLocals = 6 := hml0
  have hown : s.vm.findClass "com/example/stint/stint/model/Relation" = some m.cls := findClass_of_methodNamed Bd.named
  have hnm := (name_of_methodNamed Bd.named Bd.method).1
  have X0 : Stand p l e ({ frames := 1, cells := 0, slots := 0, locals := 15 } : Room) s m #[(.ref (w 4)), (.long (9223372036854775807 : Int64)), (.long (0 : Int64))] below meth c s₁ [] 0 0 := Stand.of_body Bd
  have e0 : s₁.heap = h0 := by rw [← hh, Bd.state]; rfl
  have N0 := Fr.nil Z.heap.size
  have pre0 : ∀ t, Steps p.tables e below (s₁.setTop (mkF m 0 #[.val (.ref (w 4)), .val (.long (9223372036854775807 : Int64)), .second, .val (.long (0 : Int64)), .second, .unset] [])) t → Steps p.tables e below (s₁.setTop (entryFrame m #[(.ref (w 4)), (.long (9223372036854775807 : Int64)), (.long (0 : Int64))] 6)) t := fun t k => castTop (ef_2 m (.ref (w 4)) rfl (.long (9223372036854775807 : Int64)) rfl (.long (0 : Int64)) rfl) k
  obtain ⟨_, _, ⟨T1, L1, k1, n1⟩, -, X1, ⟨Lc1, hQ1, l1, y1, z1⟩, st1⟩ := Jvm.LawKit.callS X0 hx (y := (⟨"java/lang/Long", "compare", "(JJ)I"⟩ : MethodName)) hown (mvT hZ (W hw 27 rfl)) (mvT hZ (W hw 28 rfl)) (mvT hZ (W hw 29 rfl)) (mvT hZ (W hw 30 rfl)) (by decide) (backOf (W := 0) (rm_2 l Z a0 hw w kk hN [] h0 O0) hZ (W hw 30 rfl) (W hw 29 rfl) (by decide) (by decide)) (g := (mkF m 2 #[.val (.ref (w 4)), .val (.long (9223372036854775807 : Int64)), .second, .val (.long (0 : Int64)), .second, .unset] [(.long (0 : Int64)), (.long (9223372036854775807 : Int64))])) rfl (by rw [hml]; rfl) (argsL := [(.long (9223372036854775807 : Int64)), (.long (0 : Int64))]) (rest := []) (lenOf pd_1 rfl) rfl (by show 2 * 0 + _ ≤ _; exact Nat.le_of_eq rfl) (hb hby d_prog_47_method_11_code_2) (fun _ _ => ⟨rfl, e0, (by decide : 0 + 0 ≤ _), (by decide : 0 + 0 ≤ _)⟩)
  dsimp only [Pt.U, Pt.locs, Pt.cells, Pt.slots] at X1 l1 y1 z1 st1 hQ1
  subst l1 y1 z1
  obtain ⟨rfl, N1q, e1⟩ := hQ1
  have N1 := Fr.app N0 N1q
  obtain ⟨cq2, kq2, q2a, q2b, q2c⟩ := isOf hZ e1 (hE4.ext O0.2)
  obtain ⟨_, _, ⟨T2, L2, k2, n2⟩, -, X2, ⟨Lc2, hQ2, l2, y2, z2⟩, st2⟩ := X1.virtualBackUp hx (x := (⟨"com/example/stint/stint/model/Relation", "ordinal", "()I"⟩ : MethodName)) (y := (⟨"java/lang/Enum", "ordinal", "()I"⟩ : MethodName)) (owner := "java/lang/Enum") hown (mvT hZ (W hw 31 rfl)) (mvT hZ (W hw 32 rfl)) (mvT hZ (W hw 33 rfl)) (by decide) (mvT hZ (W hw 35 rfl)) (mvT hZ (W hw 34 rfl)) (backOf (W := 0) (rm_28 l Z a0 hw w kk hN [] h0 O0) hZ (W hw 37 rfl) (W hw 36 rfl) (by decide) (by decide)) q2a q2c (g := (mkF m 8 #[.val (.ref (w 4)), .val (.long (9223372036854775807 : Int64)), .second, .val (.long (0 : Int64)), .second, .val (.int (1 : Int32))] [(.ref (w 4))])) rfl (by rw [hml]; rfl) (Steps.refl _) (argsL := []) (rest := []) (lenOf pd_2 rfl) rfl (by show 2 * 0 + _ ≤ _; exact Nat.le_of_eq rfl) (hb hby d_prog_47_method_11_code_8) (fun _ _ => ⟨rfl, e1, (by decide : 0 + 0 ≤ _), (by decide : 0 + 0 ≤ _)⟩)
  dsimp only [Pt.U, Pt.locs, Pt.cells, Pt.slots] at X2 l2 y2 z2 st2 hQ2
  subst l2 y2 z2
  obtain ⟨rfl, N2q, e2⟩ := hQ2
  have N2 := Fr.app N1 N2q
  obtain ⟨fs, hr, hrun, hended, hW, hsame⟩ := X2.leave (v := some (.int (1 : Int32))) (fun h => by rw [Bd.returns] at h; cases h)
  refine ⟨_, _, pre0 _ ?_, hrun, hended, _, _, rfl, ?_, ⟨_, rfl⟩, hW, hsame.mono (by decide) (by decide)⟩
  · show Steps p.tables e below (s₁.setTop (mkF m 0 #[.val (.ref (w 4)), .val (.long (9223372036854775807 : Int64)), .second, .val (.long (0 : Int64)), .second, .unset] [])) _
    refine XS.lloadN X0.here hx rfl (hb hby d_prog_47_method_11_code_0) rfl ?_
    show Steps p.tables e below (s₁.setTop (mkF m 1 #[.val (.ref (w 4)), .val (.long (9223372036854775807 : Int64)), .second, .val (.long (0 : Int64)), .second, .unset] [(.long (9223372036854775807 : Int64))])) _
    refine XS.lloadN X0.here hx rfl (hb hby d_prog_47_method_11_code_1) rfl ?_
    show Steps p.tables e below (s₁.setTop (mkF m 2 #[.val (.ref (w 4)), .val (.long (9223372036854775807 : Int64)), .second, .val (.long (0 : Int64)), .second, .unset] [(.long (0 : Int64)), (.long (9223372036854775807 : Int64))])) _
    refine st1 _ ?_
    show Steps p.tables e below (T1.setTop (mkF m 5 #[.val (.ref (w 4)), .val (.long (9223372036854775807 : Int64)), .second, .val (.long (0 : Int64)), .second, .unset] [(.int (1 : Int32))])) _
    refine XS.istore X1.here hx rfl (hb hby d_prog_47_method_11_code_5) rfl (l' := #[.val (.ref (w 4)), .val (.long (9223372036854775807 : Int64)), .second, .val (.long (0 : Int64)), .second, .val (.int (1 : Int32))]) rfl ?_
    show Steps p.tables e below (T1.setTop (mkF m 7 #[.val (.ref (w 4)), .val (.long (9223372036854775807 : Int64)), .second, .val (.long (0 : Int64)), .second, .val (.int (1 : Int32))] [])) _
    refine XS.aloadN X1.here hx rfl (hb hby d_prog_47_method_11_code_7) rfl rfl ?_
    show Steps p.tables e below (T1.setTop (mkF m 8 #[.val (.ref (w 4)), .val (.long (9223372036854775807 : Int64)), .second, .val (.long (0 : Int64)), .second, .val (.int (1 : Int32))] [(.ref (w 4))])) _
    refine st2.trans ?_
    show Steps p.tables e below (T2.setTop (mkF m 11 #[.val (.ref (w 4)), .val (.long (9223372036854775807 : Int64)), .second, .val (.long (0 : Int64)), .second, .val (.int (1 : Int32))] [(.int (4 : Int32))])) _
    refine XS.tswIn X2.here hx rfl (pc0 := 11) (pc' := 106) (o := 95) rfl (hb hby d_prog_47_method_11_code_11) rfl (by decide) (by decide) (by decide) (by decide) ?_
    show Steps p.tables e below (T2.setTop (mkF m 106 #[.val (.ref (w 4)), .val (.long (9223372036854775807 : Int64)), .second, .val (.long (0 : Int64)), .second, .val (.int (1 : Int32))] [])) _
    refine XS.iload X2.here hx rfl (hb hby d_prog_47_method_11_code_106) rfl ?_
    show Steps p.tables e below (T2.setTop (mkF m 108 #[.val (.ref (w 4)), .val (.long (9223372036854775807 : Int64)), .second, .val (.long (0 : Int64)), .second, .val (.int (1 : Int32))] [(.int (1 : Int32))])) _
    refine XS.ifNo X2.here hx rfl (hb hby d_prog_47_method_11_code_108) rfl ((if0 _ _).trans (tlt (by decide : (0 : Int32) < (1 : Int32))).2.2.2) ?_
    show Steps p.tables e below (T2.setTop (mkF m 111 #[.val (.ref (w 4)), .val (.long (9223372036854775807 : Int64)), .second, .val (.long (0 : Int64)), .second, .val (.int (1 : Int32))] [])) _
    refine XS.iconst X2.here hx rfl (hb hby d_prog_47_method_11_code_111) ?_
    show Steps p.tables e below (T2.setTop (mkF m 112 #[.val (.ref (w 4)), .val (.long (9223372036854775807 : Int64)), .second, .val (.long (0 : Int64)), .second, .val (.int (1 : Int32))] [(.int (1 : Int32))])) _
    refine XS.goto X2.here hx rfl (pc0 := 112) (pc' := 116) rfl (hb hby d_prog_47_method_11_code_112) (by decide) (by decide) ?_
    show Steps p.tables e below (T2.setTop (mkF m 116 #[.val (.ref (w 4)), .val (.long (9223372036854775807 : Int64)), .second, .val (.long (0 : Int64)), .second, .val (.int (1 : Int32))] [(.int (1 : Int32))])) _
    exact retN X2 hx (t := .boolean) Bd.returns (by simp) (hb hby d_prog_47_method_11_code_116) hr
  · show OQ (some (.int (1 : Int32))) h0 Z.heap.size _ T2.heap _
    rw [e2]
    exact ⟨rfl, N2, rfl⟩
set_option maxRecDepth 65536 in
set_option maxHeartbeats 40000000 in
theorem law_30 (l : Launch) (Z : State) (a0 : Array Value) (hw : ∀ d ∈ tables_1, d.before a0 Z = true) (w : Nat → Addr) (kk : Nat → ClassId) (hN : Wd Z w kk) (ws : List Jvm.Cond) (p0 : Int32) (q1 : Int64) (h0 : Heap) (O0 : Old Z Z.heap.size h0) (hp0 : ((p0 &&& (2147483647 : Int32)) % (5 : Int32)) = (4 : Int32)) (hp1 : (lcmpW q1 (9223372036854775807 : Int64)) = (0 : Int32)) :
    MetFree l x (head1 (Jvm.Cond.code x code maxLocals ret :: ws) room_1) (fun a U => a = #[(.int p0), (.long q1)] ∧ Z.Warmed39 U.vm ∧ U.heap = h0) (fun _ _ _ _ _ => True) (fun _ U o U' => ∃ v L, o = .returned v ∧ OL (some (.int (1 : Int32))) Z.heap.size v U'.heap L ∧ FrameEnd U o U' L 16 128) := by
  have hN' := hN
  obtain ⟨hS0, hE0, hS1, hE1, hS2, hE2, hS3, hE3, hS4, hE4, hF0_ordinal, hF1_ordinal, hF4_ordinal, hF2_ordinal, hF3_ordinal⟩ := hN'
  refine MetFree.of_bodySF (plainFor_of_name pn_3) hisR ?_
  intro p e s m args below meth c s₁ Bd hml0 hP hK
  obtain ⟨rfl, hZ, hh⟩ := hP
  have hx := Bd.exec
  have hby := Bd.bytes
  have hml : c.maxLocals = 11 := hml0
  have hown : s.vm.findClass "com/example/stint/stint/model/RelationBoundsAbovePinLaw" = some m.cls := findClass_of_methodNamed Bd.named
  have hnm := (name_of_methodNamed Bd.named Bd.method).1
  have X0 : Stand p l e room_1 s m #[(.int p0), (.long q1)] below meth c s₁ [] 0 0 := Stand.of_body Bd
  have e0 : s₁.heap = h0 := by rw [← hh, Bd.state]; rfl
  have N0 := Fr.nil Z.heap.size
  have pre0 : ∀ t, Steps p.tables e below (s₁.setTop (mkF m 0 #[.val (.int p0), .val (.long q1), .second, .unset, .unset, .unset, .unset, .unset, .unset, .unset, .unset] [])) t → Steps p.tables e below (s₁.setTop (entryFrame m #[(.int p0), (.long q1)] maxLocals)) t := fun t k => castTop (ef_3 m (.int p0) rfl (.long q1) rfl) k
  obtain ⟨T1, h1, k1, X1, e1, E1, A1, Ov1, st1⟩ := newR X0 hx hZ hown (W hw 0 rfl) (W hw 1 rfl) e0 (g := (mkF m 1 #[.val (.int p0), .val (.long q1), .second, .unset, .unset, .unset, .unset, .unset, .unset, .unset, .unset] [(.int (5 : Int32))])) rfl (hb hby at_1) rfl (by decide) (cap := 5) (by decide) (by decide) (by decide) (by decide)
  obtain ⟨b1, g1⟩ : ∃ z, z = h0.size := ⟨_, rfl⟩
  rw [← g1] at A1 st1
  have gn_b1 : Z.heap.size ≤ b1 := Nat.le_trans O0.2.1 (Nat.le_of_eq g1.symm)
  have O1 := O0.ext E1
  have V_b1_v1 : Arv Z h1 b1 k1 (.object "com/example/stint/stint/model/Relation") (5 : Int32) [] .null := Arv.new A1 (by decide)
  obtain ⟨T2, X2, e2, st2⟩ := getS2 X1 hx hZ hown (host := "") (Or.inl (W hw 2 rfl)) Via.refl e1 (hS0.ext O1.2) (g := (mkF m 6 #[.val (.int p0), .val (.long q1), .second, .unset, .unset, .unset, .unset, .unset, .unset, .unset, .unset] [(.int (0 : Int32)), (.ref b1), (.ref b1)])) rfl (hb hby at_6)
  have V_b1_v3 : Arv Z h1 b1 k1 (.object "com/example/stint/stint/model/Relation") (5 : Int32) [.null] .null := V_b1_v1.pad (pad_rep [] .null 1)
  obtain ⟨cl4, Ar4, q4, Sz4, Ng4, Hv4, Gv4⟩ := V_b1_v3
  have hin4 : ¬ ((0 : Int32) < 0 ∨ cl4.slots.size ≤ ((0 : Int32)).toNatClampNeg) := inb_of Sz4 ⟨by decide, by decide⟩
  obtain ⟨T5, h5, X5, e5, W5, st5⟩ := stR X2 hx hZ e2 Ar4 (j := (0 : Int32)) (v := (.ref (w 0))) hin4 rfl (Sto.ofV Ar4 q4 Ov1 (Ins.self (hE0.ext O1.2))) (g := (mkF m 9 #[.val (.int p0), .val (.long q1), .second, .unset, .unset, .unset, .unset, .unset, .unset, .unset, .unset] [(.ref (w 0)), (.int (0 : Int32)), (.ref b1), (.ref b1)])) rfl rfl (hb hby at_9)
  have V_b1_v5 : Arv Z h5 b1 k1 (.object "com/example/stint/stint/model/Relation") (5 : Int32) [(.ref (w 0))] .null := Arv.set Ar4 q4 Sz4 Ng4 Hv4 Gv4 rfl W5 0 rfl (Nat.le_of_ble_eq_true rfl)
  have N5 := Fr.snoc X5 N0 gn_b1
  have O5 := O1.wr W5 gn_b1
  obtain ⟨T6, X6, e6, st6⟩ := getS2 X5 hx hZ hown (host := "") (Or.inl (W hw 6 rfl)) Via.refl e5 (hS1.ext O5.2) (g := (mkF m 12 #[.val (.int p0), .val (.long q1), .second, .unset, .unset, .unset, .unset, .unset, .unset, .unset, .unset] [(.int (1 : Int32)), (.ref b1), (.ref b1)])) rfl (hb hby at_12)
  have V_b1_v7 : Arv Z h5 b1 k1 (.object "com/example/stint/stint/model/Relation") (5 : Int32) [(.ref (w 0)), .null] .null := V_b1_v5.pad (pad_rep [(.ref (w 0))] .null 1)
  obtain ⟨cl8, Ar8, q8, Sz8, Ng8, Hv8, Gv8⟩ := V_b1_v7
  have hin8 : ¬ ((1 : Int32) < 0 ∨ cl8.slots.size ≤ ((1 : Int32)).toNatClampNeg) := inb_of Sz8 ⟨by decide, by decide⟩
  obtain ⟨T9, h9, X9, e9, W9, st9⟩ := stR X6 hx hZ e6 Ar8 (j := (1 : Int32)) (v := (.ref (w 1))) hin8 rfl (Sto.ofV Ar8 q8 Ov1 (Ins.self (hE1.ext O5.2))) (g := (mkF m 15 #[.val (.int p0), .val (.long q1), .second, .unset, .unset, .unset, .unset, .unset, .unset, .unset, .unset] [(.ref (w 1)), (.int (1 : Int32)), (.ref b1), (.ref b1)])) rfl rfl (hb hby at_15)
  have V_b1_v9 : Arv Z h9 b1 k1 (.object "com/example/stint/stint/model/Relation") (5 : Int32) [(.ref (w 0)), (.ref (w 1))] .null := Arv.set Ar8 q8 Sz8 Ng8 Hv8 Gv8 rfl W9 1 rfl (Nat.le_of_ble_eq_true rfl)
  have N9 := Fr.snoc X9 N5 gn_b1
  have O9 := O5.wr W9 gn_b1
  obtain ⟨T10, X10, e10, st10⟩ := getS2 X9 hx hZ hown (host := "") (Or.inl (W hw 8 rfl)) Via.refl e9 (hS2.ext O9.2) (g := (mkF m 18 #[.val (.int p0), .val (.long q1), .second, .unset, .unset, .unset, .unset, .unset, .unset, .unset, .unset] [(.int (2 : Int32)), (.ref b1), (.ref b1)])) rfl (hb hby at_18)
  have V_b1_v11 : Arv Z h9 b1 k1 (.object "com/example/stint/stint/model/Relation") (5 : Int32) [(.ref (w 0)), (.ref (w 1)), .null] .null := V_b1_v9.pad (pad_rep [(.ref (w 0)), (.ref (w 1))] .null 1)
  obtain ⟨cl12, Ar12, q12, Sz12, Ng12, Hv12, Gv12⟩ := V_b1_v11
  have hin12 : ¬ ((2 : Int32) < 0 ∨ cl12.slots.size ≤ ((2 : Int32)).toNatClampNeg) := inb_of Sz12 ⟨by decide, by decide⟩
  obtain ⟨T13, h13, X13, e13, W13, st13⟩ := stR X10 hx hZ e10 Ar12 (j := (2 : Int32)) (v := (.ref (w 2))) hin12 rfl (Sto.ofV Ar12 q12 Ov1 (Ins.self (hE2.ext O9.2))) (g := (mkF m 21 #[.val (.int p0), .val (.long q1), .second, .unset, .unset, .unset, .unset, .unset, .unset, .unset, .unset] [(.ref (w 2)), (.int (2 : Int32)), (.ref b1), (.ref b1)])) rfl rfl (hb hby at_21)
  have V_b1_v13 : Arv Z h13 b1 k1 (.object "com/example/stint/stint/model/Relation") (5 : Int32) [(.ref (w 0)), (.ref (w 1)), (.ref (w 2))] .null := Arv.set Ar12 q12 Sz12 Ng12 Hv12 Gv12 rfl W13 2 rfl (Nat.le_of_ble_eq_true rfl)
  have N13 := Fr.snoc X13 N9 gn_b1
  have O13 := O9.wr W13 gn_b1
  obtain ⟨T14, X14, e14, st14⟩ := getS2 X13 hx hZ hown (host := "") (Or.inl (W hw 10 rfl)) Via.refl e13 (hS3.ext O13.2) (g := (mkF m 24 #[.val (.int p0), .val (.long q1), .second, .unset, .unset, .unset, .unset, .unset, .unset, .unset, .unset] [(.int (3 : Int32)), (.ref b1), (.ref b1)])) rfl (hb hby at_24)
  have V_b1_v15 : Arv Z h13 b1 k1 (.object "com/example/stint/stint/model/Relation") (5 : Int32) [(.ref (w 0)), (.ref (w 1)), (.ref (w 2)), .null] .null := V_b1_v13.pad (pad_rep [(.ref (w 0)), (.ref (w 1)), (.ref (w 2))] .null 1)
  obtain ⟨cl16, Ar16, q16, Sz16, Ng16, Hv16, Gv16⟩ := V_b1_v15
  have hin16 : ¬ ((3 : Int32) < 0 ∨ cl16.slots.size ≤ ((3 : Int32)).toNatClampNeg) := inb_of Sz16 ⟨by decide, by decide⟩
  obtain ⟨T17, h17, X17, e17, W17, st17⟩ := stR X14 hx hZ e14 Ar16 (j := (3 : Int32)) (v := (.ref (w 3))) hin16 rfl (Sto.ofV Ar16 q16 Ov1 (Ins.self (hE3.ext O13.2))) (g := (mkF m 27 #[.val (.int p0), .val (.long q1), .second, .unset, .unset, .unset, .unset, .unset, .unset, .unset, .unset] [(.ref (w 3)), (.int (3 : Int32)), (.ref b1), (.ref b1)])) rfl rfl (hb hby at_27)
  have V_b1_v17 : Arv Z h17 b1 k1 (.object "com/example/stint/stint/model/Relation") (5 : Int32) [(.ref (w 0)), (.ref (w 1)), (.ref (w 2)), (.ref (w 3))] .null := Arv.set Ar16 q16 Sz16 Ng16 Hv16 Gv16 rfl W17 3 rfl (Nat.le_of_ble_eq_true rfl)
  have N17 := Fr.snoc X17 N13 gn_b1
  have O17 := O13.wr W17 gn_b1
  obtain ⟨T18, X18, e18, st18⟩ := getS2 X17 hx hZ hown (host := "") (Or.inl (W hw 12 rfl)) Via.refl e17 (hS4.ext O17.2) (g := (mkF m 30 #[.val (.int p0), .val (.long q1), .second, .unset, .unset, .unset, .unset, .unset, .unset, .unset, .unset] [(.int (4 : Int32)), (.ref b1), (.ref b1)])) rfl (hb hby at_30)
  have V_b1_v19 : Arv Z h17 b1 k1 (.object "com/example/stint/stint/model/Relation") (5 : Int32) [(.ref (w 0)), (.ref (w 1)), (.ref (w 2)), (.ref (w 3)), .null] .null := V_b1_v17.pad (pad_rep [(.ref (w 0)), (.ref (w 1)), (.ref (w 2)), (.ref (w 3))] .null 1)
  obtain ⟨cl20, Ar20, q20, Sz20, Ng20, Hv20, Gv20⟩ := V_b1_v19
  have hin20 : ¬ ((4 : Int32) < 0 ∨ cl20.slots.size ≤ ((4 : Int32)).toNatClampNeg) := inb_of Sz20 ⟨by decide, by decide⟩
  obtain ⟨T21, h21, X21, e21, W21, st21⟩ := stR X18 hx hZ e18 Ar20 (j := (4 : Int32)) (v := (.ref (w 4))) hin20 rfl (Sto.ofV Ar20 q20 Ov1 (Ins.self (hE4.ext O17.2))) (g := (mkF m 33 #[.val (.int p0), .val (.long q1), .second, .unset, .unset, .unset, .unset, .unset, .unset, .unset, .unset] [(.ref (w 4)), (.int (4 : Int32)), (.ref b1), (.ref b1)])) rfl rfl (hb hby at_33)
  have V_b1_v21 : Arv Z h21 b1 k1 (.object "com/example/stint/stint/model/Relation") (5 : Int32) [(.ref (w 0)), (.ref (w 1)), (.ref (w 2)), (.ref (w 3)), (.ref (w 4))] .null := Arv.set Ar20 q20 Sz20 Ng20 Hv20 Gv20 rfl W21 4 rfl (Nat.le_of_ble_eq_true rfl)
  have N21 := Fr.snoc X21 N17 gn_b1
  have O21 := O17.wr W21 gn_b1
  obtain ⟨cl22, Ar22, q22, Sz22, Ng22, Hv22, Gv22⟩ := V_b1_v21
  have hin22 : ¬ ((4 : Int32) < 0 ∨ cl22.slots.size ≤ ((4 : Int32)).toNatClampNeg) := inb_of Sz22 ⟨by decide, by decide⟩
  have hat22 : cl22.slots[((4 : Int32)).toNatClampNeg]? = some (.ref (w 4)) := Has.at Hv22 hin22 (by rfl)
  obtain ⟨cq23, kq23, q23a, q23b, q23c⟩ := isOf hZ e21 (hE4.ext O21.2)
  obtain ⟨_, _, ⟨T23, L23, k23, n23⟩, -, X23, ⟨Lc23, hQ23, l23, y23, z23⟩, st23⟩ := X21.virtualBack hx (y := (⟨"com/example/stint/stint/model/Relation", "boundsAbove", "()Z"⟩ : MethodName)) (z := (⟨"com/example/stint/stint/model/Relation", "boundsAbove", "()Z"⟩ : MethodName)) hown (mvT hZ (W hw 16 rfl)) (mvT hZ (W hw 17 rfl)) (notFace_of_selects (args := #[]) (mvT hZ (W hw 19 rfl))) (mvT hZ (W hw 19 rfl)) (mvT hZ (W hw 18 rfl)) (by decide) (backOf (W := 0) (rm_27 l Z a0 hw w kk hN [] h21 O21) hZ (W hw 20 rfl) (W hw 3 rfl) (by decide) (by decide)) q23a q23c (g := (mkF m 66 #[.val (.int p0), .val (.long q1), .second, .val (.ref b1), .val (.int (4 : Int32)), .val (.ref (w 4)), .val (.long (0 : Int64)), .second, .unset, .unset, .unset] [(.ref (w 4))])) rfl (by rw [hml]; rfl) (Steps.refl _) (argsL := []) (rest := []) (lenOf pd_0 rfl) rfl (by show 2 * 0 + _ ≤ _; exact Nat.le_of_eq rfl) (hb hby at_66) (fun _ _ => ⟨rfl, e21, (by decide : 1 + 0 ≤ _), (by decide : 5 + 0 ≤ _)⟩)
  dsimp only [Pt.U, Pt.locs, Pt.cells, Pt.slots] at X23 l23 y23 z23 st23 hQ23
  subst l23 y23 z23
  obtain ⟨rfl, N23q, e23⟩ := hQ23
  have N23 := Fr.app N21 N23q
  obtain ⟨cq24, kq24, q24a, q24b, q24c⟩ := isOf hZ e23 (hE4.ext O21.2)
  obtain ⟨_, _, ⟨T24, L24, k24, n24⟩, -, X24, ⟨Lc24, hQ24, l24, y24, z24⟩, st24⟩ := X23.virtualBack hx (y := (⟨"com/example/stint/stint/model/Relation", "holds", "(JJ)Z"⟩ : MethodName)) (z := (⟨"com/example/stint/stint/model/Relation", "holds", "(JJ)Z"⟩ : MethodName)) hown (mvT hZ (W hw 22 rfl)) (mvT hZ (W hw 23 rfl)) (notFace_of_selects (args := #[]) (mvT hZ (W hw 25 rfl))) (mvT hZ (W hw 25 rfl)) (mvT hZ (W hw 24 rfl)) (by decide) (backOf (W := 0) (rm_29 l Z a0 hw w kk hN [] h21 O21) hZ (W hw 26 rfl) (W hw 3 rfl) (by decide) (by decide)) q24a q24c (g := (mkF m 91 #[.val (.int p0), .val (.long q1), .second, .val (.ref b1), .val (.int (4 : Int32)), .val (.ref (w 4)), .val (.long (0 : Int64)), .second, .val (.int (0 : Int32)), .val (.int (0 : Int32)), .unset] [(.long (0 : Int64)), (.long (9223372036854775807 : Int64)), (.ref (w 4))])) rfl (by rw [hml]; rfl) (Steps.refl _) (argsL := [(.long (9223372036854775807 : Int64)), (.long (0 : Int64))]) (rest := []) (lenOf pd_3 rfl) rfl (by show 2 * 0 + _ ≤ _; exact Nat.le_of_eq rfl) (hb hby at_91) (fun _ _ => ⟨rfl, e23, (by decide : 1 + 0 ≤ _), (by decide : 5 + 0 ≤ _)⟩)
  dsimp only [Pt.U, Pt.locs, Pt.cells, Pt.slots] at X24 l24 y24 z24 st24 hQ24
  subst l24 y24 z24
  obtain ⟨rfl, N24q, e24⟩ := hQ24
  have N24 := Fr.app N23 N24q
  obtain ⟨fs, hr, hrun, hended, hW, hsame⟩ := X24.leave (v := some (.int (1 : Int32))) (fun h => by rw [Bd.returns] at h; cases h)
  refine ⟨_, _, pre0 _ ?_, hrun, hended, _, _, rfl, ?_, ⟨_, rfl⟩, hW, hsame.mono (by decide) (by decide)⟩
  · show Steps p.tables e below (s₁.setTop (mkF m 0 #[.val (.int p0), .val (.long q1), .second, .unset, .unset, .unset, .unset, .unset, .unset, .unset, .unset] [])) _
    refine XS.iconst X0.here hx rfl (hb hby at_0) ?_
    show Steps p.tables e below (s₁.setTop (mkF m 1 #[.val (.int p0), .val (.long q1), .second, .unset, .unset, .unset, .unset, .unset, .unset, .unset, .unset] [(.int (5 : Int32))])) _
    refine st1 _ ?_
    show Steps p.tables e below (T1.setTop (mkF m 4 #[.val (.int p0), .val (.long q1), .second, .unset, .unset, .unset, .unset, .unset, .unset, .unset, .unset] [(.ref b1)])) _
    refine XS.dup X1.here hx rfl (hb hby at_4) rfl rfl ?_
    show Steps p.tables e below (T1.setTop (mkF m 5 #[.val (.int p0), .val (.long q1), .second, .unset, .unset, .unset, .unset, .unset, .unset, .unset, .unset] [(.ref b1), (.ref b1)])) _
    refine XS.iconst X1.here hx rfl (hb hby at_5) ?_
    show Steps p.tables e below (T1.setTop (mkF m 6 #[.val (.int p0), .val (.long q1), .second, .unset, .unset, .unset, .unset, .unset, .unset, .unset, .unset] [(.int (0 : Int32)), (.ref b1), (.ref b1)])) _
    refine st2 _ ?_
    show Steps p.tables e below (T2.setTop (mkF m 9 #[.val (.int p0), .val (.long q1), .second, .unset, .unset, .unset, .unset, .unset, .unset, .unset, .unset] [(.ref (w 0)), (.int (0 : Int32)), (.ref b1), (.ref b1)])) _
    refine st5 _ ?_
    show Steps p.tables e below (T5.setTop (mkF m 10 #[.val (.int p0), .val (.long q1), .second, .unset, .unset, .unset, .unset, .unset, .unset, .unset, .unset] [(.ref b1)])) _
    refine XS.dup X5.here hx rfl (hb hby at_10) rfl rfl ?_
    show Steps p.tables e below (T5.setTop (mkF m 11 #[.val (.int p0), .val (.long q1), .second, .unset, .unset, .unset, .unset, .unset, .unset, .unset, .unset] [(.ref b1), (.ref b1)])) _
    refine XS.iconst X5.here hx rfl (hb hby at_11) ?_
    show Steps p.tables e below (T5.setTop (mkF m 12 #[.val (.int p0), .val (.long q1), .second, .unset, .unset, .unset, .unset, .unset, .unset, .unset, .unset] [(.int (1 : Int32)), (.ref b1), (.ref b1)])) _
    refine st6 _ ?_
    show Steps p.tables e below (T6.setTop (mkF m 15 #[.val (.int p0), .val (.long q1), .second, .unset, .unset, .unset, .unset, .unset, .unset, .unset, .unset] [(.ref (w 1)), (.int (1 : Int32)), (.ref b1), (.ref b1)])) _
    refine st9 _ ?_
    show Steps p.tables e below (T9.setTop (mkF m 16 #[.val (.int p0), .val (.long q1), .second, .unset, .unset, .unset, .unset, .unset, .unset, .unset, .unset] [(.ref b1)])) _
    refine XS.dup X9.here hx rfl (hb hby at_16) rfl rfl ?_
    show Steps p.tables e below (T9.setTop (mkF m 17 #[.val (.int p0), .val (.long q1), .second, .unset, .unset, .unset, .unset, .unset, .unset, .unset, .unset] [(.ref b1), (.ref b1)])) _
    refine XS.iconst X9.here hx rfl (hb hby at_17) ?_
    show Steps p.tables e below (T9.setTop (mkF m 18 #[.val (.int p0), .val (.long q1), .second, .unset, .unset, .unset, .unset, .unset, .unset, .unset, .unset] [(.int (2 : Int32)), (.ref b1), (.ref b1)])) _
    refine st10 _ ?_
    show Steps p.tables e below (T10.setTop (mkF m 21 #[.val (.int p0), .val (.long q1), .second, .unset, .unset, .unset, .unset, .unset, .unset, .unset, .unset] [(.ref (w 2)), (.int (2 : Int32)), (.ref b1), (.ref b1)])) _
    refine st13 _ ?_
    show Steps p.tables e below (T13.setTop (mkF m 22 #[.val (.int p0), .val (.long q1), .second, .unset, .unset, .unset, .unset, .unset, .unset, .unset, .unset] [(.ref b1)])) _
    refine XS.dup X13.here hx rfl (hb hby at_22) rfl rfl ?_
    show Steps p.tables e below (T13.setTop (mkF m 23 #[.val (.int p0), .val (.long q1), .second, .unset, .unset, .unset, .unset, .unset, .unset, .unset, .unset] [(.ref b1), (.ref b1)])) _
    refine XS.iconst X13.here hx rfl (hb hby at_23) ?_
    show Steps p.tables e below (T13.setTop (mkF m 24 #[.val (.int p0), .val (.long q1), .second, .unset, .unset, .unset, .unset, .unset, .unset, .unset, .unset] [(.int (3 : Int32)), (.ref b1), (.ref b1)])) _
    refine st14 _ ?_
    show Steps p.tables e below (T14.setTop (mkF m 27 #[.val (.int p0), .val (.long q1), .second, .unset, .unset, .unset, .unset, .unset, .unset, .unset, .unset] [(.ref (w 3)), (.int (3 : Int32)), (.ref b1), (.ref b1)])) _
    refine st17 _ ?_
    show Steps p.tables e below (T17.setTop (mkF m 28 #[.val (.int p0), .val (.long q1), .second, .unset, .unset, .unset, .unset, .unset, .unset, .unset, .unset] [(.ref b1)])) _
    refine XS.dup X17.here hx rfl (hb hby at_28) rfl rfl ?_
    show Steps p.tables e below (T17.setTop (mkF m 29 #[.val (.int p0), .val (.long q1), .second, .unset, .unset, .unset, .unset, .unset, .unset, .unset, .unset] [(.ref b1), (.ref b1)])) _
    refine XS.iconst X17.here hx rfl (hb hby at_29) ?_
    show Steps p.tables e below (T17.setTop (mkF m 30 #[.val (.int p0), .val (.long q1), .second, .unset, .unset, .unset, .unset, .unset, .unset, .unset, .unset] [(.int (4 : Int32)), (.ref b1), (.ref b1)])) _
    refine st18 _ ?_
    show Steps p.tables e below (T18.setTop (mkF m 33 #[.val (.int p0), .val (.long q1), .second, .unset, .unset, .unset, .unset, .unset, .unset, .unset, .unset] [(.ref (w 4)), (.int (4 : Int32)), (.ref b1), (.ref b1)])) _
    refine st21 _ ?_
    show Steps p.tables e below (T21.setTop (mkF m 34 #[.val (.int p0), .val (.long q1), .second, .unset, .unset, .unset, .unset, .unset, .unset, .unset, .unset] [(.ref b1)])) _
    refine XS.astoreN X21.here hx rfl (hb hby at_34) rfl rfl (l' := #[.val (.int p0), .val (.long q1), .second, .val (.ref b1), .unset, .unset, .unset, .unset, .unset, .unset, .unset]) rfl ?_
    show Steps p.tables e below (T21.setTop (mkF m 35 #[.val (.int p0), .val (.long q1), .second, .val (.ref b1), .unset, .unset, .unset, .unset, .unset, .unset, .unset] [])) _
    refine XS.iloadN X21.here hx rfl (hb hby at_35) rfl ?_
    show Steps p.tables e below (T21.setTop (mkF m 36 #[.val (.int p0), .val (.long q1), .second, .val (.ref b1), .unset, .unset, .unset, .unset, .unset, .unset, .unset] [(.int p0)])) _
    refine X21.ldcInt hx hown (mvT hZ (W hw 14 rfl)) (g := (mkF m 36 #[.val (.int p0), .val (.long q1), .second, .val (.ref b1), .unset, .unset, .unset, .unset, .unset, .unset, .unset] [(.int p0)])) rfl (hb hby at_36) _ ?_
    show Steps p.tables e below (T21.setTop (mkF m 38 #[.val (.int p0), .val (.long q1), .second, .val (.ref b1), .unset, .unset, .unset, .unset, .unset, .unset, .unset] [(.int (2147483647 : Int32)), (.int p0)])) _
    refine XS.iand X21.here hx rfl (hb hby at_38) rfl ?_
    show Steps p.tables e below (T21.setTop (mkF m 39 #[.val (.int p0), .val (.long q1), .second, .val (.ref b1), .unset, .unset, .unset, .unset, .unset, .unset, .unset] [(.int (p0 &&& (2147483647 : Int32)))])) _
    refine XS.iconst X21.here hx rfl (hb hby at_39) ?_
    show Steps p.tables e below (T21.setTop (mkF m 40 #[.val (.int p0), .val (.long q1), .second, .val (.ref b1), .unset, .unset, .unset, .unset, .unset, .unset, .unset] [(.int (5 : Int32)), (.int (p0 &&& (2147483647 : Int32)))])) _
    refine iremM X21 hx rfl (hb hby at_40) rfl (by decide : ¬ ((5 : Int32) = (0 : Int32))) ?_
    show Steps p.tables e below (T21.setTop (mkF m 41 #[.val (.int p0), .val (.long q1), .second, .val (.ref b1), .unset, .unset, .unset, .unset, .unset, .unset, .unset] [(.int ((p0 &&& (2147483647 : Int32)) % (5 : Int32)))])) _
    rw [hp0]
    show Steps p.tables e below (T21.setTop (mkF m 41 #[.val (.int p0), .val (.long q1), .second, .val (.ref b1), .unset, .unset, .unset, .unset, .unset, .unset, .unset] [(.int (4 : Int32))])) _
    refine XS.istore X21.here hx rfl (hb hby at_41) rfl (l' := #[.val (.int p0), .val (.long q1), .second, .val (.ref b1), .val (.int (4 : Int32)), .unset, .unset, .unset, .unset, .unset, .unset]) rfl ?_
    show Steps p.tables e below (T21.setTop (mkF m 43 #[.val (.int p0), .val (.long q1), .second, .val (.ref b1), .val (.int (4 : Int32)), .unset, .unset, .unset, .unset, .unset, .unset] [])) _
    refine XS.aloadN X21.here hx rfl (hb hby at_43) rfl rfl ?_
    show Steps p.tables e below (T21.setTop (mkF m 44 #[.val (.int p0), .val (.long q1), .second, .val (.ref b1), .val (.int (4 : Int32)), .unset, .unset, .unset, .unset, .unset, .unset] [(.ref b1)])) _
    refine XS.iload X21.here hx rfl (hb hby at_44) rfl ?_
    show Steps p.tables e below (T21.setTop (mkF m 46 #[.val (.int p0), .val (.long q1), .second, .val (.ref b1), .val (.int (4 : Int32)), .unset, .unset, .unset, .unset, .unset, .unset] [(.int (4 : Int32)), (.ref b1)])) _
    refine X21.aaload hx (j := (4 : Int32)) (v := (.ref (w 4))) (by rw [e21]; exact Ar22.1) (State.isArrayOf_alike hZ.alike Ar22.2.1) rfl Ar22.2.2 hin22 hat22 (g := (mkF m 46 #[.val (.int p0), .val (.long q1), .second, .val (.ref b1), .val (.int (4 : Int32)), .unset, .unset, .unset, .unset, .unset, .unset] [(.int (4 : Int32)), (.ref b1)])) rfl rfl (hb hby at_46) _ ?_
    show Steps p.tables e below (T21.setTop (mkF m 47 #[.val (.int p0), .val (.long q1), .second, .val (.ref b1), .val (.int (4 : Int32)), .unset, .unset, .unset, .unset, .unset, .unset] [(.ref (w 4))])) _
    refine XS.astore X21.here hx rfl (hb hby at_47) rfl rfl (l' := #[.val (.int p0), .val (.long q1), .second, .val (.ref b1), .val (.int (4 : Int32)), .val (.ref (w 4)), .unset, .unset, .unset, .unset, .unset]) rfl ?_
    show Steps p.tables e below (T21.setTop (mkF m 49 #[.val (.int p0), .val (.long q1), .second, .val (.ref b1), .val (.int (4 : Int32)), .val (.ref (w 4)), .unset, .unset, .unset, .unset, .unset] [])) _
    refine XS.lloadN X21.here hx rfl (hb hby at_49) rfl ?_
    show Steps p.tables e below (T21.setTop (mkF m 50 #[.val (.int p0), .val (.long q1), .second, .val (.ref b1), .val (.int (4 : Int32)), .val (.ref (w 4)), .unset, .unset, .unset, .unset, .unset] [(.long q1)])) _
    refine XS.lstore X21.here hx rfl (hb hby at_50) rfl (l' := #[.val (.int p0), .val (.long q1), .second, .val (.ref b1), .val (.int (4 : Int32)), .val (.ref (w 4)), .val (.long q1), .second, .unset, .unset, .unset]) rfl ?_
    show Steps p.tables e below (T21.setTop (mkF m 52 #[.val (.int p0), .val (.long q1), .second, .val (.ref b1), .val (.int (4 : Int32)), .val (.ref (w 4)), .val (.long q1), .second, .unset, .unset, .unset] [])) _
    refine XS.lload X21.here hx rfl (hb hby at_52) rfl ?_
    show Steps p.tables e below (T21.setTop (mkF m 54 #[.val (.int p0), .val (.long q1), .second, .val (.ref b1), .val (.int (4 : Int32)), .val (.ref (w 4)), .val (.long q1), .second, .unset, .unset, .unset] [(.long q1)])) _
    refine X21.ldc2Long hx hown (mvT hZ (W hw 15 rfl)) (g := (mkF m 54 #[.val (.int p0), .val (.long q1), .second, .val (.ref b1), .val (.int (4 : Int32)), .val (.ref (w 4)), .val (.long q1), .second, .unset, .unset, .unset] [(.long q1)])) rfl (hb hby at_54) _ ?_
    show Steps p.tables e below (T21.setTop (mkF m 57 #[.val (.int p0), .val (.long q1), .second, .val (.ref b1), .val (.int (4 : Int32)), .val (.ref (w 4)), .val (.long q1), .second, .unset, .unset, .unset] [(.long (9223372036854775807 : Int64)), (.long q1)])) _
    refine XS.lcmp X21.here hx rfl (hb hby at_57) rfl ?_
    show Steps p.tables e below (T21.setTop (mkF m 58 #[.val (.int p0), .val (.long q1), .second, .val (.ref b1), .val (.int (4 : Int32)), .val (.ref (w 4)), .val (.long q1), .second, .unset, .unset, .unset] [(.int (lcmpW q1 (9223372036854775807 : Int64)))])) _
    refine XS.ifNo X21.here hx rfl (hb hby at_58) rfl ((if0 _ _).trans (teq hp1).2) ?_
    show Steps p.tables e below (T21.setTop (mkF m 61 #[.val (.int p0), .val (.long q1), .second, .val (.ref b1), .val (.int (4 : Int32)), .val (.ref (w 4)), .val (.long q1), .second, .unset, .unset, .unset] [])) _
    refine XS.lconst X21.here hx rfl (hb hby at_61) ?_
    show Steps p.tables e below (T21.setTop (mkF m 62 #[.val (.int p0), .val (.long q1), .second, .val (.ref b1), .val (.int (4 : Int32)), .val (.ref (w 4)), .val (.long q1), .second, .unset, .unset, .unset] [(.long (0 : Int64))])) _
    refine XS.lstore X21.here hx rfl (hb hby at_62) rfl (l' := #[.val (.int p0), .val (.long q1), .second, .val (.ref b1), .val (.int (4 : Int32)), .val (.ref (w 4)), .val (.long (0 : Int64)), .second, .unset, .unset, .unset]) rfl ?_
    show Steps p.tables e below (T21.setTop (mkF m 64 #[.val (.int p0), .val (.long q1), .second, .val (.ref b1), .val (.int (4 : Int32)), .val (.ref (w 4)), .val (.long (0 : Int64)), .second, .unset, .unset, .unset] [])) _
    refine XS.aload X21.here hx rfl (hb hby at_64) rfl rfl ?_
    show Steps p.tables e below (T21.setTop (mkF m 66 #[.val (.int p0), .val (.long q1), .second, .val (.ref b1), .val (.int (4 : Int32)), .val (.ref (w 4)), .val (.long (0 : Int64)), .second, .unset, .unset, .unset] [(.ref (w 4))])) _
    refine st23.trans ?_
    show Steps p.tables e below (T23.setTop (mkF m 69 #[.val (.int p0), .val (.long q1), .second, .val (.ref b1), .val (.int (4 : Int32)), .val (.ref (w 4)), .val (.long (0 : Int64)), .second, .unset, .unset, .unset] [(.int (0 : Int32))])) _
    refine XS.istore X23.here hx rfl (hb hby at_69) rfl (l' := #[.val (.int p0), .val (.long q1), .second, .val (.ref b1), .val (.int (4 : Int32)), .val (.ref (w 4)), .val (.long (0 : Int64)), .second, .val (.int (0 : Int32)), .unset, .unset]) rfl ?_
    show Steps p.tables e below (T23.setTop (mkF m 71 #[.val (.int p0), .val (.long q1), .second, .val (.ref b1), .val (.int (4 : Int32)), .val (.ref (w 4)), .val (.long (0 : Int64)), .second, .val (.int (0 : Int32)), .unset, .unset] [])) _
    refine XS.iload X23.here hx rfl (hb hby at_71) rfl ?_
    show Steps p.tables e below (T23.setTop (mkF m 73 #[.val (.int p0), .val (.long q1), .second, .val (.ref b1), .val (.int (4 : Int32)), .val (.ref (w 4)), .val (.long (0 : Int64)), .second, .val (.int (0 : Int32)), .unset, .unset] [(.int (4 : Int32))])) _
    refine XS.iconst X23.here hx rfl (hb hby at_73) ?_
    show Steps p.tables e below (T23.setTop (mkF m 74 #[.val (.int p0), .val (.long q1), .second, .val (.ref b1), .val (.int (4 : Int32)), .val (.ref (w 4)), .val (.long (0 : Int64)), .second, .val (.int (0 : Int32)), .unset, .unset] [(.int (2 : Int32)), (.int (4 : Int32))])) _
    refine XS.icmpYes X23.here hx rfl (pc0 := 74) (pc' := 81) rfl (hb hby at_74) rfl (tlt (by decide : (2 : Int32) < (4 : Int32))).2.2.1 (by decide) (by decide) ?_
    show Steps p.tables e below (T23.setTop (mkF m 81 #[.val (.int p0), .val (.long q1), .second, .val (.ref b1), .val (.int (4 : Int32)), .val (.ref (w 4)), .val (.long (0 : Int64)), .second, .val (.int (0 : Int32)), .unset, .unset] [])) _
    refine XS.iconst X23.here hx rfl (hb hby at_81) ?_
    show Steps p.tables e below (T23.setTop (mkF m 82 #[.val (.int p0), .val (.long q1), .second, .val (.ref b1), .val (.int (4 : Int32)), .val (.ref (w 4)), .val (.long (0 : Int64)), .second, .val (.int (0 : Int32)), .unset, .unset] [(.int (0 : Int32))])) _
    refine XS.istore X23.here hx rfl (hb hby at_82) rfl (l' := #[.val (.int p0), .val (.long q1), .second, .val (.ref b1), .val (.int (4 : Int32)), .val (.ref (w 4)), .val (.long (0 : Int64)), .second, .val (.int (0 : Int32)), .val (.int (0 : Int32)), .unset]) rfl ?_
    show Steps p.tables e below (T23.setTop (mkF m 84 #[.val (.int p0), .val (.long q1), .second, .val (.ref b1), .val (.int (4 : Int32)), .val (.ref (w 4)), .val (.long (0 : Int64)), .second, .val (.int (0 : Int32)), .val (.int (0 : Int32)), .unset] [])) _
    refine XS.aload X23.here hx rfl (hb hby at_84) rfl rfl ?_
    show Steps p.tables e below (T23.setTop (mkF m 86 #[.val (.int p0), .val (.long q1), .second, .val (.ref b1), .val (.int (4 : Int32)), .val (.ref (w 4)), .val (.long (0 : Int64)), .second, .val (.int (0 : Int32)), .val (.int (0 : Int32)), .unset] [(.ref (w 4))])) _
    refine X23.ldc2Long hx hown (mvT hZ (W hw 15 rfl)) (g := (mkF m 86 #[.val (.int p0), .val (.long q1), .second, .val (.ref b1), .val (.int (4 : Int32)), .val (.ref (w 4)), .val (.long (0 : Int64)), .second, .val (.int (0 : Int32)), .val (.int (0 : Int32)), .unset] [(.ref (w 4))])) rfl (hb hby at_86) _ ?_
    show Steps p.tables e below (T23.setTop (mkF m 89 #[.val (.int p0), .val (.long q1), .second, .val (.ref b1), .val (.int (4 : Int32)), .val (.ref (w 4)), .val (.long (0 : Int64)), .second, .val (.int (0 : Int32)), .val (.int (0 : Int32)), .unset] [(.long (9223372036854775807 : Int64)), (.ref (w 4))])) _
    refine XS.lload X23.here hx rfl (hb hby at_89) rfl ?_
    show Steps p.tables e below (T23.setTop (mkF m 91 #[.val (.int p0), .val (.long q1), .second, .val (.ref b1), .val (.int (4 : Int32)), .val (.ref (w 4)), .val (.long (0 : Int64)), .second, .val (.int (0 : Int32)), .val (.int (0 : Int32)), .unset] [(.long (0 : Int64)), (.long (9223372036854775807 : Int64)), (.ref (w 4))])) _
    refine st24.trans ?_
    show Steps p.tables e below (T24.setTop (mkF m 94 #[.val (.int p0), .val (.long q1), .second, .val (.ref b1), .val (.int (4 : Int32)), .val (.ref (w 4)), .val (.long (0 : Int64)), .second, .val (.int (0 : Int32)), .val (.int (0 : Int32)), .unset] [(.int (1 : Int32))])) _
    refine XS.ifYes X24.here hx rfl (pc0 := 94) (pc' := 101) rfl (hb hby at_94) rfl ((if0 _ _).trans (feq (by decide : ¬ ((1 : Int32) = (0 : Int32)))).2) (by decide) (by decide) ?_
    show Steps p.tables e below (T24.setTop (mkF m 101 #[.val (.int p0), .val (.long q1), .second, .val (.ref b1), .val (.int (4 : Int32)), .val (.ref (w 4)), .val (.long (0 : Int64)), .second, .val (.int (0 : Int32)), .val (.int (0 : Int32)), .unset] [])) _
    refine XS.iconst X24.here hx rfl (hb hby at_101) ?_
    show Steps p.tables e below (T24.setTop (mkF m 102 #[.val (.int p0), .val (.long q1), .second, .val (.ref b1), .val (.int (4 : Int32)), .val (.ref (w 4)), .val (.long (0 : Int64)), .second, .val (.int (0 : Int32)), .val (.int (0 : Int32)), .unset] [(.int (0 : Int32))])) _
    refine XS.istore X24.here hx rfl (hb hby at_102) rfl (l' := #[.val (.int p0), .val (.long q1), .second, .val (.ref b1), .val (.int (4 : Int32)), .val (.ref (w 4)), .val (.long (0 : Int64)), .second, .val (.int (0 : Int32)), .val (.int (0 : Int32)), .val (.int (0 : Int32))]) rfl ?_
    show Steps p.tables e below (T24.setTop (mkF m 104 #[.val (.int p0), .val (.long q1), .second, .val (.ref b1), .val (.int (4 : Int32)), .val (.ref (w 4)), .val (.long (0 : Int64)), .second, .val (.int (0 : Int32)), .val (.int (0 : Int32)), .val (.int (0 : Int32))] [])) _
    refine XS.iload X24.here hx rfl (hb hby at_104) rfl ?_
    show Steps p.tables e below (T24.setTop (mkF m 106 #[.val (.int p0), .val (.long q1), .second, .val (.ref b1), .val (.int (4 : Int32)), .val (.ref (w 4)), .val (.long (0 : Int64)), .second, .val (.int (0 : Int32)), .val (.int (0 : Int32)), .val (.int (0 : Int32))] [(.int (0 : Int32))])) _
    refine XS.iload X24.here hx rfl (hb hby at_106) rfl ?_
    show Steps p.tables e below (T24.setTop (mkF m 108 #[.val (.int p0), .val (.long q1), .second, .val (.ref b1), .val (.int (4 : Int32)), .val (.ref (w 4)), .val (.long (0 : Int64)), .second, .val (.int (0 : Int32)), .val (.int (0 : Int32)), .val (.int (0 : Int32))] [(.int (0 : Int32)), (.int (0 : Int32))])) _
    refine XS.icmpNo X24.here hx rfl (hb hby at_108) rfl (teq (by decide : (0 : Int32) = (0 : Int32))).2 ?_
    show Steps p.tables e below (T24.setTop (mkF m 111 #[.val (.int p0), .val (.long q1), .second, .val (.ref b1), .val (.int (4 : Int32)), .val (.ref (w 4)), .val (.long (0 : Int64)), .second, .val (.int (0 : Int32)), .val (.int (0 : Int32)), .val (.int (0 : Int32))] [])) _
    refine XS.iload X24.here hx rfl (hb hby at_111) rfl ?_
    show Steps p.tables e below (T24.setTop (mkF m 113 #[.val (.int p0), .val (.long q1), .second, .val (.ref b1), .val (.int (4 : Int32)), .val (.ref (w 4)), .val (.long (0 : Int64)), .second, .val (.int (0 : Int32)), .val (.int (0 : Int32)), .val (.int (0 : Int32))] [(.int (0 : Int32))])) _
    refine XS.iload X24.here hx rfl (hb hby at_113) rfl ?_
    show Steps p.tables e below (T24.setTop (mkF m 115 #[.val (.int p0), .val (.long q1), .second, .val (.ref b1), .val (.int (4 : Int32)), .val (.ref (w 4)), .val (.long (0 : Int64)), .second, .val (.int (0 : Int32)), .val (.int (0 : Int32)), .val (.int (0 : Int32))] [(.int (0 : Int32)), (.int (0 : Int32))])) _
    refine XS.icmpNo X24.here hx rfl (hb hby at_115) rfl (teq (by decide : (0 : Int32) = (0 : Int32))).2 ?_
    show Steps p.tables e below (T24.setTop (mkF m 118 #[.val (.int p0), .val (.long q1), .second, .val (.ref b1), .val (.int (4 : Int32)), .val (.ref (w 4)), .val (.long (0 : Int64)), .second, .val (.int (0 : Int32)), .val (.int (0 : Int32)), .val (.int (0 : Int32))] [])) _
    refine XS.iconst X24.here hx rfl (hb hby at_118) ?_
    show Steps p.tables e below (T24.setTop (mkF m 119 #[.val (.int p0), .val (.long q1), .second, .val (.ref b1), .val (.int (4 : Int32)), .val (.ref (w 4)), .val (.long (0 : Int64)), .second, .val (.int (0 : Int32)), .val (.int (0 : Int32)), .val (.int (0 : Int32))] [(.int (1 : Int32))])) _
    refine XS.goto X24.here hx rfl (pc0 := 119) (pc' := 123) rfl (hb hby at_119) (by decide) (by decide) ?_
    show Steps p.tables e below (T24.setTop (mkF m 123 #[.val (.int p0), .val (.long q1), .second, .val (.ref b1), .val (.int (4 : Int32)), .val (.ref (w 4)), .val (.long (0 : Int64)), .second, .val (.int (0 : Int32)), .val (.int (0 : Int32)), .val (.int (0 : Int32))] [(.int (1 : Int32))])) _
    exact retN X24 hx (t := .boolean) Bd.returns (by simp) (hb hby at_123) hr
  · show OL (some (.int (1 : Int32))) Z.heap.size _ T24.heap _
    exact ⟨rfl, N24⟩
set_option maxRecDepth 65536 in
set_option maxHeartbeats 40000000 in
theorem rm_31 (l : Launch) (Z : State) (a0 : Array Value) (hw : ∀ d ∈ tables_1, d.before a0 Z = true) (w : Nat → Addr) (kk : Nat → ClassId) (hN : Wd Z w kk) (ws : List Jvm.Cond) (q2 : Int64) (h0 : Heap) (O0 : Old Z Z.heap.size h0) (hp0 : ¬ ((lcmpW (9223372036854775807 : Int64) q2) < (0 : Int32))) (hp1 : ¬ ((lcmpW (9223372036854775807 : Int64) q2) = (0 : Int32))) :
    MetFree l (⟨"com/example/stint/stint/model/Relation", "holds", "(JJ)Z"⟩ : MethodName) (head1 (Jvm.Cond.code (⟨"com/example/stint/stint/model/Relation", "holds", "(JJ)Z"⟩ : MethodName) prog_47_method_11_code 6 (some .boolean) :: ws) ({ frames := 1, cells := 0, slots := 0, locals := 15 } : Room)) (fun a U => a = #[(.ref (w 4)), (.long (9223372036854775807 : Int64)), (.long q2)] ∧ Z.Warmed39 U.vm ∧ U.heap = h0) (fun _ _ _ _ _ => True) (fun _ U o U' => ∃ v L, o = .returned v ∧ OQ (some (.int (1 : Int32))) h0 Z.heap.size v U'.heap L ∧ FrameEnd U o U' L ({ frames := 1, cells := 0, slots := 0, locals := 15 } : Room).cells ({ frames := 1, cells := 0, slots := 0, locals := 15 } : Room).slots) := by
  have hN' := hN
  obtain ⟨hS0, hE0, hS1, hE1, hS2, hE2, hS3, hE3, hS4, hE4, hF0_ordinal, hF1_ordinal, hF4_ordinal, hF2_ordinal, hF3_ordinal⟩ := hN'
  refine MetFree.of_bodySF (plainFor_of_name pn_0) hisR ?_
  intro p e s m args below meth c s₁ Bd hml0 hP hK
  obtain ⟨rfl, hZ, hh⟩ := hP
  have hx := Bd.exec
  have hby := Bd.bytes
  have hml : c.maxLocals = 6 := hml0
  have hown : s.vm.findClass "com/example/stint/stint/model/Relation" = some m.cls := findClass_of_methodNamed Bd.named
  have hnm := (name_of_methodNamed Bd.named Bd.method).1
  have X0 : Stand p l e ({ frames := 1, cells := 0, slots := 0, locals := 15 } : Room) s m #[(.ref (w 4)), (.long (9223372036854775807 : Int64)), (.long q2)] below meth c s₁ [] 0 0 := Stand.of_body Bd
  have e0 : s₁.heap = h0 := by rw [← hh, Bd.state]; rfl
  have N0 := Fr.nil Z.heap.size
  have pre0 : ∀ t, Steps p.tables e below (s₁.setTop (mkF m 0 #[.val (.ref (w 4)), .val (.long (9223372036854775807 : Int64)), .second, .val (.long q2), .second, .unset] [])) t → Steps p.tables e below (s₁.setTop (entryFrame m #[(.ref (w 4)), (.long (9223372036854775807 : Int64)), (.long q2)] 6)) t := fun t k => castTop (ef_2 m (.ref (w 4)) rfl (.long (9223372036854775807 : Int64)) rfl (.long q2) rfl) k
  obtain ⟨_, _, ⟨T1, L1, k1, n1⟩, -, X1, ⟨Lc1, hQ1, l1, y1, z1⟩, st1⟩ := Jvm.LawKit.callS X0 hx (y := (⟨"java/lang/Long", "compare", "(JJ)I"⟩ : MethodName)) hown (mvT hZ (W hw 27 rfl)) (mvT hZ (W hw 28 rfl)) (mvT hZ (W hw 29 rfl)) (mvT hZ (W hw 30 rfl)) (by decide) (backOf (W := 0) (rm_6 l Z a0 hw w kk hN [] q2 h0 O0 hp0 hp1) hZ (W hw 30 rfl) (W hw 29 rfl) (by decide) (by decide)) (g := (mkF m 2 #[.val (.ref (w 4)), .val (.long (9223372036854775807 : Int64)), .second, .val (.long q2), .second, .unset] [(.long q2), (.long (9223372036854775807 : Int64))])) rfl (by rw [hml]; rfl) (argsL := [(.long (9223372036854775807 : Int64)), (.long q2)]) (rest := []) (lenOf pd_1 rfl) rfl (by show 2 * 0 + _ ≤ _; exact Nat.le_of_eq rfl) (hb hby d_prog_47_method_11_code_2) (fun _ _ => ⟨rfl, e0, (by decide : 0 + 0 ≤ _), (by decide : 0 + 0 ≤ _)⟩)
  dsimp only [Pt.U, Pt.locs, Pt.cells, Pt.slots] at X1 l1 y1 z1 st1 hQ1
  subst l1 y1 z1
  obtain ⟨rfl, N1q, e1⟩ := hQ1
  have N1 := Fr.app N0 N1q
  obtain ⟨cq2, kq2, q2a, q2b, q2c⟩ := isOf hZ e1 (hE4.ext O0.2)
  obtain ⟨_, _, ⟨T2, L2, k2, n2⟩, -, X2, ⟨Lc2, hQ2, l2, y2, z2⟩, st2⟩ := X1.virtualBackUp hx (x := (⟨"com/example/stint/stint/model/Relation", "ordinal", "()I"⟩ : MethodName)) (y := (⟨"java/lang/Enum", "ordinal", "()I"⟩ : MethodName)) (owner := "java/lang/Enum") hown (mvT hZ (W hw 31 rfl)) (mvT hZ (W hw 32 rfl)) (mvT hZ (W hw 33 rfl)) (by decide) (mvT hZ (W hw 35 rfl)) (mvT hZ (W hw 34 rfl)) (backOf (W := 0) (rm_28 l Z a0 hw w kk hN [] h0 O0) hZ (W hw 37 rfl) (W hw 36 rfl) (by decide) (by decide)) q2a q2c (g := (mkF m 8 #[.val (.ref (w 4)), .val (.long (9223372036854775807 : Int64)), .second, .val (.long q2), .second, .val (.int (1 : Int32))] [(.ref (w 4))])) rfl (by rw [hml]; rfl) (Steps.refl _) (argsL := []) (rest := []) (lenOf pd_2 rfl) rfl (by show 2 * 0 + _ ≤ _; exact Nat.le_of_eq rfl) (hb hby d_prog_47_method_11_code_8) (fun _ _ => ⟨rfl, e1, (by decide : 0 + 0 ≤ _), (by decide : 0 + 0 ≤ _)⟩)
  dsimp only [Pt.U, Pt.locs, Pt.cells, Pt.slots] at X2 l2 y2 z2 st2 hQ2
  subst l2 y2 z2
  obtain ⟨rfl, N2q, e2⟩ := hQ2
  have N2 := Fr.app N1 N2q
  obtain ⟨fs, hr, hrun, hended, hW, hsame⟩ := X2.leave (v := some (.int (1 : Int32))) (fun h => by rw [Bd.returns] at h; cases h)
  refine ⟨_, _, pre0 _ ?_, hrun, hended, _, _, rfl, ?_, ⟨_, rfl⟩, hW, hsame.mono (by decide) (by decide)⟩
  · show Steps p.tables e below (s₁.setTop (mkF m 0 #[.val (.ref (w 4)), .val (.long (9223372036854775807 : Int64)), .second, .val (.long q2), .second, .unset] [])) _
    refine XS.lloadN X0.here hx rfl (hb hby d_prog_47_method_11_code_0) rfl ?_
    show Steps p.tables e below (s₁.setTop (mkF m 1 #[.val (.ref (w 4)), .val (.long (9223372036854775807 : Int64)), .second, .val (.long q2), .second, .unset] [(.long (9223372036854775807 : Int64))])) _
    refine XS.lloadN X0.here hx rfl (hb hby d_prog_47_method_11_code_1) rfl ?_
    show Steps p.tables e below (s₁.setTop (mkF m 2 #[.val (.ref (w 4)), .val (.long (9223372036854775807 : Int64)), .second, .val (.long q2), .second, .unset] [(.long q2), (.long (9223372036854775807 : Int64))])) _
    refine st1 _ ?_
    show Steps p.tables e below (T1.setTop (mkF m 5 #[.val (.ref (w 4)), .val (.long (9223372036854775807 : Int64)), .second, .val (.long q2), .second, .unset] [(.int (1 : Int32))])) _
    refine XS.istore X1.here hx rfl (hb hby d_prog_47_method_11_code_5) rfl (l' := #[.val (.ref (w 4)), .val (.long (9223372036854775807 : Int64)), .second, .val (.long q2), .second, .val (.int (1 : Int32))]) rfl ?_
    show Steps p.tables e below (T1.setTop (mkF m 7 #[.val (.ref (w 4)), .val (.long (9223372036854775807 : Int64)), .second, .val (.long q2), .second, .val (.int (1 : Int32))] [])) _
    refine XS.aloadN X1.here hx rfl (hb hby d_prog_47_method_11_code_7) rfl rfl ?_
    show Steps p.tables e below (T1.setTop (mkF m 8 #[.val (.ref (w 4)), .val (.long (9223372036854775807 : Int64)), .second, .val (.long q2), .second, .val (.int (1 : Int32))] [(.ref (w 4))])) _
    refine st2.trans ?_
    show Steps p.tables e below (T2.setTop (mkF m 11 #[.val (.ref (w 4)), .val (.long (9223372036854775807 : Int64)), .second, .val (.long q2), .second, .val (.int (1 : Int32))] [(.int (4 : Int32))])) _
    refine XS.tswIn X2.here hx rfl (pc0 := 11) (pc' := 106) (o := 95) rfl (hb hby d_prog_47_method_11_code_11) rfl (by decide) (by decide) (by decide) (by decide) ?_
    show Steps p.tables e below (T2.setTop (mkF m 106 #[.val (.ref (w 4)), .val (.long (9223372036854775807 : Int64)), .second, .val (.long q2), .second, .val (.int (1 : Int32))] [])) _
    refine XS.iload X2.here hx rfl (hb hby d_prog_47_method_11_code_106) rfl ?_
    show Steps p.tables e below (T2.setTop (mkF m 108 #[.val (.ref (w 4)), .val (.long (9223372036854775807 : Int64)), .second, .val (.long q2), .second, .val (.int (1 : Int32))] [(.int (1 : Int32))])) _
    refine XS.ifNo X2.here hx rfl (hb hby d_prog_47_method_11_code_108) rfl ((if0 _ _).trans (tlt (by decide : (0 : Int32) < (1 : Int32))).2.2.2) ?_
    show Steps p.tables e below (T2.setTop (mkF m 111 #[.val (.ref (w 4)), .val (.long (9223372036854775807 : Int64)), .second, .val (.long q2), .second, .val (.int (1 : Int32))] [])) _
    refine XS.iconst X2.here hx rfl (hb hby d_prog_47_method_11_code_111) ?_
    show Steps p.tables e below (T2.setTop (mkF m 112 #[.val (.ref (w 4)), .val (.long (9223372036854775807 : Int64)), .second, .val (.long q2), .second, .val (.int (1 : Int32))] [(.int (1 : Int32))])) _
    refine XS.goto X2.here hx rfl (pc0 := 112) (pc' := 116) rfl (hb hby d_prog_47_method_11_code_112) (by decide) (by decide) ?_
    show Steps p.tables e below (T2.setTop (mkF m 116 #[.val (.ref (w 4)), .val (.long (9223372036854775807 : Int64)), .second, .val (.long q2), .second, .val (.int (1 : Int32))] [(.int (1 : Int32))])) _
    exact retN X2 hx (t := .boolean) Bd.returns (by simp) (hb hby d_prog_47_method_11_code_116) hr
  · show OQ (some (.int (1 : Int32))) h0 Z.heap.size _ T2.heap _
    rw [e2]
    exact ⟨rfl, N2, rfl⟩
set_option maxRecDepth 65536 in
set_option maxHeartbeats 40000000 in
theorem law_32 (l : Launch) (Z : State) (a0 : Array Value) (hw : ∀ d ∈ tables_1, d.before a0 Z = true) (w : Nat → Addr) (kk : Nat → ClassId) (hN : Wd Z w kk) (ws : List Jvm.Cond) (p0 : Int32) (q1 : Int64) (h0 : Heap) (O0 : Old Z Z.heap.size h0) (hp0 : ((p0 &&& (2147483647 : Int32)) % (5 : Int32)) = (4 : Int32)) (hp1 : ¬ ((lcmpW q1 (9223372036854775807 : Int64)) = (0 : Int32))) (hp2 : ¬ ((lcmpW (9223372036854775807 : Int64) q1) < (0 : Int32))) (hp3 : ¬ ((lcmpW (9223372036854775807 : Int64) q1) = (0 : Int32))) :
    MetFree l x (head1 (Jvm.Cond.code x code maxLocals ret :: ws) room_1) (fun a U => a = #[(.int p0), (.long q1)] ∧ Z.Warmed39 U.vm ∧ U.heap = h0) (fun _ _ _ _ _ => True) (fun _ U o U' => ∃ v L, o = .returned v ∧ OL (some (.int (1 : Int32))) Z.heap.size v U'.heap L ∧ FrameEnd U o U' L 16 128) := by
  have hN' := hN
  obtain ⟨hS0, hE0, hS1, hE1, hS2, hE2, hS3, hE3, hS4, hE4, hF0_ordinal, hF1_ordinal, hF4_ordinal, hF2_ordinal, hF3_ordinal⟩ := hN'
  refine MetFree.of_bodySF (plainFor_of_name pn_3) hisR ?_
  intro p e s m args below meth c s₁ Bd hml0 hP hK
  obtain ⟨rfl, hZ, hh⟩ := hP
  have hx := Bd.exec
  have hby := Bd.bytes
  have hml : c.maxLocals = 11 := hml0
  have hown : s.vm.findClass "com/example/stint/stint/model/RelationBoundsAbovePinLaw" = some m.cls := findClass_of_methodNamed Bd.named
  have hnm := (name_of_methodNamed Bd.named Bd.method).1
  have X0 : Stand p l e room_1 s m #[(.int p0), (.long q1)] below meth c s₁ [] 0 0 := Stand.of_body Bd
  have e0 : s₁.heap = h0 := by rw [← hh, Bd.state]; rfl
  have N0 := Fr.nil Z.heap.size
  have pre0 : ∀ t, Steps p.tables e below (s₁.setTop (mkF m 0 #[.val (.int p0), .val (.long q1), .second, .unset, .unset, .unset, .unset, .unset, .unset, .unset, .unset] [])) t → Steps p.tables e below (s₁.setTop (entryFrame m #[(.int p0), (.long q1)] maxLocals)) t := fun t k => castTop (ef_3 m (.int p0) rfl (.long q1) rfl) k
  obtain ⟨T1, h1, k1, X1, e1, E1, A1, Ov1, st1⟩ := newR X0 hx hZ hown (W hw 0 rfl) (W hw 1 rfl) e0 (g := (mkF m 1 #[.val (.int p0), .val (.long q1), .second, .unset, .unset, .unset, .unset, .unset, .unset, .unset, .unset] [(.int (5 : Int32))])) rfl (hb hby at_1) rfl (by decide) (cap := 5) (by decide) (by decide) (by decide) (by decide)
  obtain ⟨b1, g1⟩ : ∃ z, z = h0.size := ⟨_, rfl⟩
  rw [← g1] at A1 st1
  have gn_b1 : Z.heap.size ≤ b1 := Nat.le_trans O0.2.1 (Nat.le_of_eq g1.symm)
  have O1 := O0.ext E1
  have V_b1_v1 : Arv Z h1 b1 k1 (.object "com/example/stint/stint/model/Relation") (5 : Int32) [] .null := Arv.new A1 (by decide)
  obtain ⟨T2, X2, e2, st2⟩ := getS2 X1 hx hZ hown (host := "") (Or.inl (W hw 2 rfl)) Via.refl e1 (hS0.ext O1.2) (g := (mkF m 6 #[.val (.int p0), .val (.long q1), .second, .unset, .unset, .unset, .unset, .unset, .unset, .unset, .unset] [(.int (0 : Int32)), (.ref b1), (.ref b1)])) rfl (hb hby at_6)
  have V_b1_v3 : Arv Z h1 b1 k1 (.object "com/example/stint/stint/model/Relation") (5 : Int32) [.null] .null := V_b1_v1.pad (pad_rep [] .null 1)
  obtain ⟨cl4, Ar4, q4, Sz4, Ng4, Hv4, Gv4⟩ := V_b1_v3
  have hin4 : ¬ ((0 : Int32) < 0 ∨ cl4.slots.size ≤ ((0 : Int32)).toNatClampNeg) := inb_of Sz4 ⟨by decide, by decide⟩
  obtain ⟨T5, h5, X5, e5, W5, st5⟩ := stR X2 hx hZ e2 Ar4 (j := (0 : Int32)) (v := (.ref (w 0))) hin4 rfl (Sto.ofV Ar4 q4 Ov1 (Ins.self (hE0.ext O1.2))) (g := (mkF m 9 #[.val (.int p0), .val (.long q1), .second, .unset, .unset, .unset, .unset, .unset, .unset, .unset, .unset] [(.ref (w 0)), (.int (0 : Int32)), (.ref b1), (.ref b1)])) rfl rfl (hb hby at_9)
  have V_b1_v5 : Arv Z h5 b1 k1 (.object "com/example/stint/stint/model/Relation") (5 : Int32) [(.ref (w 0))] .null := Arv.set Ar4 q4 Sz4 Ng4 Hv4 Gv4 rfl W5 0 rfl (Nat.le_of_ble_eq_true rfl)
  have N5 := Fr.snoc X5 N0 gn_b1
  have O5 := O1.wr W5 gn_b1
  obtain ⟨T6, X6, e6, st6⟩ := getS2 X5 hx hZ hown (host := "") (Or.inl (W hw 6 rfl)) Via.refl e5 (hS1.ext O5.2) (g := (mkF m 12 #[.val (.int p0), .val (.long q1), .second, .unset, .unset, .unset, .unset, .unset, .unset, .unset, .unset] [(.int (1 : Int32)), (.ref b1), (.ref b1)])) rfl (hb hby at_12)
  have V_b1_v7 : Arv Z h5 b1 k1 (.object "com/example/stint/stint/model/Relation") (5 : Int32) [(.ref (w 0)), .null] .null := V_b1_v5.pad (pad_rep [(.ref (w 0))] .null 1)
  obtain ⟨cl8, Ar8, q8, Sz8, Ng8, Hv8, Gv8⟩ := V_b1_v7
  have hin8 : ¬ ((1 : Int32) < 0 ∨ cl8.slots.size ≤ ((1 : Int32)).toNatClampNeg) := inb_of Sz8 ⟨by decide, by decide⟩
  obtain ⟨T9, h9, X9, e9, W9, st9⟩ := stR X6 hx hZ e6 Ar8 (j := (1 : Int32)) (v := (.ref (w 1))) hin8 rfl (Sto.ofV Ar8 q8 Ov1 (Ins.self (hE1.ext O5.2))) (g := (mkF m 15 #[.val (.int p0), .val (.long q1), .second, .unset, .unset, .unset, .unset, .unset, .unset, .unset, .unset] [(.ref (w 1)), (.int (1 : Int32)), (.ref b1), (.ref b1)])) rfl rfl (hb hby at_15)
  have V_b1_v9 : Arv Z h9 b1 k1 (.object "com/example/stint/stint/model/Relation") (5 : Int32) [(.ref (w 0)), (.ref (w 1))] .null := Arv.set Ar8 q8 Sz8 Ng8 Hv8 Gv8 rfl W9 1 rfl (Nat.le_of_ble_eq_true rfl)
  have N9 := Fr.snoc X9 N5 gn_b1
  have O9 := O5.wr W9 gn_b1
  obtain ⟨T10, X10, e10, st10⟩ := getS2 X9 hx hZ hown (host := "") (Or.inl (W hw 8 rfl)) Via.refl e9 (hS2.ext O9.2) (g := (mkF m 18 #[.val (.int p0), .val (.long q1), .second, .unset, .unset, .unset, .unset, .unset, .unset, .unset, .unset] [(.int (2 : Int32)), (.ref b1), (.ref b1)])) rfl (hb hby at_18)
  have V_b1_v11 : Arv Z h9 b1 k1 (.object "com/example/stint/stint/model/Relation") (5 : Int32) [(.ref (w 0)), (.ref (w 1)), .null] .null := V_b1_v9.pad (pad_rep [(.ref (w 0)), (.ref (w 1))] .null 1)
  obtain ⟨cl12, Ar12, q12, Sz12, Ng12, Hv12, Gv12⟩ := V_b1_v11
  have hin12 : ¬ ((2 : Int32) < 0 ∨ cl12.slots.size ≤ ((2 : Int32)).toNatClampNeg) := inb_of Sz12 ⟨by decide, by decide⟩
  obtain ⟨T13, h13, X13, e13, W13, st13⟩ := stR X10 hx hZ e10 Ar12 (j := (2 : Int32)) (v := (.ref (w 2))) hin12 rfl (Sto.ofV Ar12 q12 Ov1 (Ins.self (hE2.ext O9.2))) (g := (mkF m 21 #[.val (.int p0), .val (.long q1), .second, .unset, .unset, .unset, .unset, .unset, .unset, .unset, .unset] [(.ref (w 2)), (.int (2 : Int32)), (.ref b1), (.ref b1)])) rfl rfl (hb hby at_21)
  have V_b1_v13 : Arv Z h13 b1 k1 (.object "com/example/stint/stint/model/Relation") (5 : Int32) [(.ref (w 0)), (.ref (w 1)), (.ref (w 2))] .null := Arv.set Ar12 q12 Sz12 Ng12 Hv12 Gv12 rfl W13 2 rfl (Nat.le_of_ble_eq_true rfl)
  have N13 := Fr.snoc X13 N9 gn_b1
  have O13 := O9.wr W13 gn_b1
  obtain ⟨T14, X14, e14, st14⟩ := getS2 X13 hx hZ hown (host := "") (Or.inl (W hw 10 rfl)) Via.refl e13 (hS3.ext O13.2) (g := (mkF m 24 #[.val (.int p0), .val (.long q1), .second, .unset, .unset, .unset, .unset, .unset, .unset, .unset, .unset] [(.int (3 : Int32)), (.ref b1), (.ref b1)])) rfl (hb hby at_24)
  have V_b1_v15 : Arv Z h13 b1 k1 (.object "com/example/stint/stint/model/Relation") (5 : Int32) [(.ref (w 0)), (.ref (w 1)), (.ref (w 2)), .null] .null := V_b1_v13.pad (pad_rep [(.ref (w 0)), (.ref (w 1)), (.ref (w 2))] .null 1)
  obtain ⟨cl16, Ar16, q16, Sz16, Ng16, Hv16, Gv16⟩ := V_b1_v15
  have hin16 : ¬ ((3 : Int32) < 0 ∨ cl16.slots.size ≤ ((3 : Int32)).toNatClampNeg) := inb_of Sz16 ⟨by decide, by decide⟩
  obtain ⟨T17, h17, X17, e17, W17, st17⟩ := stR X14 hx hZ e14 Ar16 (j := (3 : Int32)) (v := (.ref (w 3))) hin16 rfl (Sto.ofV Ar16 q16 Ov1 (Ins.self (hE3.ext O13.2))) (g := (mkF m 27 #[.val (.int p0), .val (.long q1), .second, .unset, .unset, .unset, .unset, .unset, .unset, .unset, .unset] [(.ref (w 3)), (.int (3 : Int32)), (.ref b1), (.ref b1)])) rfl rfl (hb hby at_27)
  have V_b1_v17 : Arv Z h17 b1 k1 (.object "com/example/stint/stint/model/Relation") (5 : Int32) [(.ref (w 0)), (.ref (w 1)), (.ref (w 2)), (.ref (w 3))] .null := Arv.set Ar16 q16 Sz16 Ng16 Hv16 Gv16 rfl W17 3 rfl (Nat.le_of_ble_eq_true rfl)
  have N17 := Fr.snoc X17 N13 gn_b1
  have O17 := O13.wr W17 gn_b1
  obtain ⟨T18, X18, e18, st18⟩ := getS2 X17 hx hZ hown (host := "") (Or.inl (W hw 12 rfl)) Via.refl e17 (hS4.ext O17.2) (g := (mkF m 30 #[.val (.int p0), .val (.long q1), .second, .unset, .unset, .unset, .unset, .unset, .unset, .unset, .unset] [(.int (4 : Int32)), (.ref b1), (.ref b1)])) rfl (hb hby at_30)
  have V_b1_v19 : Arv Z h17 b1 k1 (.object "com/example/stint/stint/model/Relation") (5 : Int32) [(.ref (w 0)), (.ref (w 1)), (.ref (w 2)), (.ref (w 3)), .null] .null := V_b1_v17.pad (pad_rep [(.ref (w 0)), (.ref (w 1)), (.ref (w 2)), (.ref (w 3))] .null 1)
  obtain ⟨cl20, Ar20, q20, Sz20, Ng20, Hv20, Gv20⟩ := V_b1_v19
  have hin20 : ¬ ((4 : Int32) < 0 ∨ cl20.slots.size ≤ ((4 : Int32)).toNatClampNeg) := inb_of Sz20 ⟨by decide, by decide⟩
  obtain ⟨T21, h21, X21, e21, W21, st21⟩ := stR X18 hx hZ e18 Ar20 (j := (4 : Int32)) (v := (.ref (w 4))) hin20 rfl (Sto.ofV Ar20 q20 Ov1 (Ins.self (hE4.ext O17.2))) (g := (mkF m 33 #[.val (.int p0), .val (.long q1), .second, .unset, .unset, .unset, .unset, .unset, .unset, .unset, .unset] [(.ref (w 4)), (.int (4 : Int32)), (.ref b1), (.ref b1)])) rfl rfl (hb hby at_33)
  have V_b1_v21 : Arv Z h21 b1 k1 (.object "com/example/stint/stint/model/Relation") (5 : Int32) [(.ref (w 0)), (.ref (w 1)), (.ref (w 2)), (.ref (w 3)), (.ref (w 4))] .null := Arv.set Ar20 q20 Sz20 Ng20 Hv20 Gv20 rfl W21 4 rfl (Nat.le_of_ble_eq_true rfl)
  have N21 := Fr.snoc X21 N17 gn_b1
  have O21 := O17.wr W21 gn_b1
  obtain ⟨cl22, Ar22, q22, Sz22, Ng22, Hv22, Gv22⟩ := V_b1_v21
  have hin22 : ¬ ((4 : Int32) < 0 ∨ cl22.slots.size ≤ ((4 : Int32)).toNatClampNeg) := inb_of Sz22 ⟨by decide, by decide⟩
  have hat22 : cl22.slots[((4 : Int32)).toNatClampNeg]? = some (.ref (w 4)) := Has.at Hv22 hin22 (by rfl)
  obtain ⟨cq23, kq23, q23a, q23b, q23c⟩ := isOf hZ e21 (hE4.ext O21.2)
  obtain ⟨_, _, ⟨T23, L23, k23, n23⟩, -, X23, ⟨Lc23, hQ23, l23, y23, z23⟩, st23⟩ := X21.virtualBack hx (y := (⟨"com/example/stint/stint/model/Relation", "boundsAbove", "()Z"⟩ : MethodName)) (z := (⟨"com/example/stint/stint/model/Relation", "boundsAbove", "()Z"⟩ : MethodName)) hown (mvT hZ (W hw 16 rfl)) (mvT hZ (W hw 17 rfl)) (notFace_of_selects (args := #[]) (mvT hZ (W hw 19 rfl))) (mvT hZ (W hw 19 rfl)) (mvT hZ (W hw 18 rfl)) (by decide) (backOf (W := 0) (rm_27 l Z a0 hw w kk hN [] h21 O21) hZ (W hw 20 rfl) (W hw 3 rfl) (by decide) (by decide)) q23a q23c (g := (mkF m 66 #[.val (.int p0), .val (.long q1), .second, .val (.ref b1), .val (.int (4 : Int32)), .val (.ref (w 4)), .val (.long q1), .second, .unset, .unset, .unset] [(.ref (w 4))])) rfl (by rw [hml]; rfl) (Steps.refl _) (argsL := []) (rest := []) (lenOf pd_0 rfl) rfl (by show 2 * 0 + _ ≤ _; exact Nat.le_of_eq rfl) (hb hby at_66) (fun _ _ => ⟨rfl, e21, (by decide : 1 + 0 ≤ _), (by decide : 5 + 0 ≤ _)⟩)
  dsimp only [Pt.U, Pt.locs, Pt.cells, Pt.slots] at X23 l23 y23 z23 st23 hQ23
  subst l23 y23 z23
  obtain ⟨rfl, N23q, e23⟩ := hQ23
  have N23 := Fr.app N21 N23q
  obtain ⟨cq24, kq24, q24a, q24b, q24c⟩ := isOf hZ e23 (hE4.ext O21.2)
  obtain ⟨_, _, ⟨T24, L24, k24, n24⟩, -, X24, ⟨Lc24, hQ24, l24, y24, z24⟩, st24⟩ := X23.virtualBack hx (y := (⟨"com/example/stint/stint/model/Relation", "holds", "(JJ)Z"⟩ : MethodName)) (z := (⟨"com/example/stint/stint/model/Relation", "holds", "(JJ)Z"⟩ : MethodName)) hown (mvT hZ (W hw 22 rfl)) (mvT hZ (W hw 23 rfl)) (notFace_of_selects (args := #[]) (mvT hZ (W hw 25 rfl))) (mvT hZ (W hw 25 rfl)) (mvT hZ (W hw 24 rfl)) (by decide) (backOf (W := 0) (rm_31 l Z a0 hw w kk hN [] q1 h21 O21 hp2 hp3) hZ (W hw 26 rfl) (W hw 3 rfl) (by decide) (by decide)) q24a q24c (g := (mkF m 91 #[.val (.int p0), .val (.long q1), .second, .val (.ref b1), .val (.int (4 : Int32)), .val (.ref (w 4)), .val (.long q1), .second, .val (.int (0 : Int32)), .val (.int (0 : Int32)), .unset] [(.long q1), (.long (9223372036854775807 : Int64)), (.ref (w 4))])) rfl (by rw [hml]; rfl) (Steps.refl _) (argsL := [(.long (9223372036854775807 : Int64)), (.long q1)]) (rest := []) (lenOf pd_3 rfl) rfl (by show 2 * 0 + _ ≤ _; exact Nat.le_of_eq rfl) (hb hby at_91) (fun _ _ => ⟨rfl, e23, (by decide : 1 + 0 ≤ _), (by decide : 5 + 0 ≤ _)⟩)
  dsimp only [Pt.U, Pt.locs, Pt.cells, Pt.slots] at X24 l24 y24 z24 st24 hQ24
  subst l24 y24 z24
  obtain ⟨rfl, N24q, e24⟩ := hQ24
  have N24 := Fr.app N23 N24q
  obtain ⟨fs, hr, hrun, hended, hW, hsame⟩ := X24.leave (v := some (.int (1 : Int32))) (fun h => by rw [Bd.returns] at h; cases h)
  refine ⟨_, _, pre0 _ ?_, hrun, hended, _, _, rfl, ?_, ⟨_, rfl⟩, hW, hsame.mono (by decide) (by decide)⟩
  · show Steps p.tables e below (s₁.setTop (mkF m 0 #[.val (.int p0), .val (.long q1), .second, .unset, .unset, .unset, .unset, .unset, .unset, .unset, .unset] [])) _
    refine XS.iconst X0.here hx rfl (hb hby at_0) ?_
    show Steps p.tables e below (s₁.setTop (mkF m 1 #[.val (.int p0), .val (.long q1), .second, .unset, .unset, .unset, .unset, .unset, .unset, .unset, .unset] [(.int (5 : Int32))])) _
    refine st1 _ ?_
    show Steps p.tables e below (T1.setTop (mkF m 4 #[.val (.int p0), .val (.long q1), .second, .unset, .unset, .unset, .unset, .unset, .unset, .unset, .unset] [(.ref b1)])) _
    refine XS.dup X1.here hx rfl (hb hby at_4) rfl rfl ?_
    show Steps p.tables e below (T1.setTop (mkF m 5 #[.val (.int p0), .val (.long q1), .second, .unset, .unset, .unset, .unset, .unset, .unset, .unset, .unset] [(.ref b1), (.ref b1)])) _
    refine XS.iconst X1.here hx rfl (hb hby at_5) ?_
    show Steps p.tables e below (T1.setTop (mkF m 6 #[.val (.int p0), .val (.long q1), .second, .unset, .unset, .unset, .unset, .unset, .unset, .unset, .unset] [(.int (0 : Int32)), (.ref b1), (.ref b1)])) _
    refine st2 _ ?_
    show Steps p.tables e below (T2.setTop (mkF m 9 #[.val (.int p0), .val (.long q1), .second, .unset, .unset, .unset, .unset, .unset, .unset, .unset, .unset] [(.ref (w 0)), (.int (0 : Int32)), (.ref b1), (.ref b1)])) _
    refine st5 _ ?_
    show Steps p.tables e below (T5.setTop (mkF m 10 #[.val (.int p0), .val (.long q1), .second, .unset, .unset, .unset, .unset, .unset, .unset, .unset, .unset] [(.ref b1)])) _
    refine XS.dup X5.here hx rfl (hb hby at_10) rfl rfl ?_
    show Steps p.tables e below (T5.setTop (mkF m 11 #[.val (.int p0), .val (.long q1), .second, .unset, .unset, .unset, .unset, .unset, .unset, .unset, .unset] [(.ref b1), (.ref b1)])) _
    refine XS.iconst X5.here hx rfl (hb hby at_11) ?_
    show Steps p.tables e below (T5.setTop (mkF m 12 #[.val (.int p0), .val (.long q1), .second, .unset, .unset, .unset, .unset, .unset, .unset, .unset, .unset] [(.int (1 : Int32)), (.ref b1), (.ref b1)])) _
    refine st6 _ ?_
    show Steps p.tables e below (T6.setTop (mkF m 15 #[.val (.int p0), .val (.long q1), .second, .unset, .unset, .unset, .unset, .unset, .unset, .unset, .unset] [(.ref (w 1)), (.int (1 : Int32)), (.ref b1), (.ref b1)])) _
    refine st9 _ ?_
    show Steps p.tables e below (T9.setTop (mkF m 16 #[.val (.int p0), .val (.long q1), .second, .unset, .unset, .unset, .unset, .unset, .unset, .unset, .unset] [(.ref b1)])) _
    refine XS.dup X9.here hx rfl (hb hby at_16) rfl rfl ?_
    show Steps p.tables e below (T9.setTop (mkF m 17 #[.val (.int p0), .val (.long q1), .second, .unset, .unset, .unset, .unset, .unset, .unset, .unset, .unset] [(.ref b1), (.ref b1)])) _
    refine XS.iconst X9.here hx rfl (hb hby at_17) ?_
    show Steps p.tables e below (T9.setTop (mkF m 18 #[.val (.int p0), .val (.long q1), .second, .unset, .unset, .unset, .unset, .unset, .unset, .unset, .unset] [(.int (2 : Int32)), (.ref b1), (.ref b1)])) _
    refine st10 _ ?_
    show Steps p.tables e below (T10.setTop (mkF m 21 #[.val (.int p0), .val (.long q1), .second, .unset, .unset, .unset, .unset, .unset, .unset, .unset, .unset] [(.ref (w 2)), (.int (2 : Int32)), (.ref b1), (.ref b1)])) _
    refine st13 _ ?_
    show Steps p.tables e below (T13.setTop (mkF m 22 #[.val (.int p0), .val (.long q1), .second, .unset, .unset, .unset, .unset, .unset, .unset, .unset, .unset] [(.ref b1)])) _
    refine XS.dup X13.here hx rfl (hb hby at_22) rfl rfl ?_
    show Steps p.tables e below (T13.setTop (mkF m 23 #[.val (.int p0), .val (.long q1), .second, .unset, .unset, .unset, .unset, .unset, .unset, .unset, .unset] [(.ref b1), (.ref b1)])) _
    refine XS.iconst X13.here hx rfl (hb hby at_23) ?_
    show Steps p.tables e below (T13.setTop (mkF m 24 #[.val (.int p0), .val (.long q1), .second, .unset, .unset, .unset, .unset, .unset, .unset, .unset, .unset] [(.int (3 : Int32)), (.ref b1), (.ref b1)])) _
    refine st14 _ ?_
    show Steps p.tables e below (T14.setTop (mkF m 27 #[.val (.int p0), .val (.long q1), .second, .unset, .unset, .unset, .unset, .unset, .unset, .unset, .unset] [(.ref (w 3)), (.int (3 : Int32)), (.ref b1), (.ref b1)])) _
    refine st17 _ ?_
    show Steps p.tables e below (T17.setTop (mkF m 28 #[.val (.int p0), .val (.long q1), .second, .unset, .unset, .unset, .unset, .unset, .unset, .unset, .unset] [(.ref b1)])) _
    refine XS.dup X17.here hx rfl (hb hby at_28) rfl rfl ?_
    show Steps p.tables e below (T17.setTop (mkF m 29 #[.val (.int p0), .val (.long q1), .second, .unset, .unset, .unset, .unset, .unset, .unset, .unset, .unset] [(.ref b1), (.ref b1)])) _
    refine XS.iconst X17.here hx rfl (hb hby at_29) ?_
    show Steps p.tables e below (T17.setTop (mkF m 30 #[.val (.int p0), .val (.long q1), .second, .unset, .unset, .unset, .unset, .unset, .unset, .unset, .unset] [(.int (4 : Int32)), (.ref b1), (.ref b1)])) _
    refine st18 _ ?_
    show Steps p.tables e below (T18.setTop (mkF m 33 #[.val (.int p0), .val (.long q1), .second, .unset, .unset, .unset, .unset, .unset, .unset, .unset, .unset] [(.ref (w 4)), (.int (4 : Int32)), (.ref b1), (.ref b1)])) _
    refine st21 _ ?_
    show Steps p.tables e below (T21.setTop (mkF m 34 #[.val (.int p0), .val (.long q1), .second, .unset, .unset, .unset, .unset, .unset, .unset, .unset, .unset] [(.ref b1)])) _
    refine XS.astoreN X21.here hx rfl (hb hby at_34) rfl rfl (l' := #[.val (.int p0), .val (.long q1), .second, .val (.ref b1), .unset, .unset, .unset, .unset, .unset, .unset, .unset]) rfl ?_
    show Steps p.tables e below (T21.setTop (mkF m 35 #[.val (.int p0), .val (.long q1), .second, .val (.ref b1), .unset, .unset, .unset, .unset, .unset, .unset, .unset] [])) _
    refine XS.iloadN X21.here hx rfl (hb hby at_35) rfl ?_
    show Steps p.tables e below (T21.setTop (mkF m 36 #[.val (.int p0), .val (.long q1), .second, .val (.ref b1), .unset, .unset, .unset, .unset, .unset, .unset, .unset] [(.int p0)])) _
    refine X21.ldcInt hx hown (mvT hZ (W hw 14 rfl)) (g := (mkF m 36 #[.val (.int p0), .val (.long q1), .second, .val (.ref b1), .unset, .unset, .unset, .unset, .unset, .unset, .unset] [(.int p0)])) rfl (hb hby at_36) _ ?_
    show Steps p.tables e below (T21.setTop (mkF m 38 #[.val (.int p0), .val (.long q1), .second, .val (.ref b1), .unset, .unset, .unset, .unset, .unset, .unset, .unset] [(.int (2147483647 : Int32)), (.int p0)])) _
    refine XS.iand X21.here hx rfl (hb hby at_38) rfl ?_
    show Steps p.tables e below (T21.setTop (mkF m 39 #[.val (.int p0), .val (.long q1), .second, .val (.ref b1), .unset, .unset, .unset, .unset, .unset, .unset, .unset] [(.int (p0 &&& (2147483647 : Int32)))])) _
    refine XS.iconst X21.here hx rfl (hb hby at_39) ?_
    show Steps p.tables e below (T21.setTop (mkF m 40 #[.val (.int p0), .val (.long q1), .second, .val (.ref b1), .unset, .unset, .unset, .unset, .unset, .unset, .unset] [(.int (5 : Int32)), (.int (p0 &&& (2147483647 : Int32)))])) _
    refine iremM X21 hx rfl (hb hby at_40) rfl (by decide : ¬ ((5 : Int32) = (0 : Int32))) ?_
    show Steps p.tables e below (T21.setTop (mkF m 41 #[.val (.int p0), .val (.long q1), .second, .val (.ref b1), .unset, .unset, .unset, .unset, .unset, .unset, .unset] [(.int ((p0 &&& (2147483647 : Int32)) % (5 : Int32)))])) _
    rw [hp0]
    show Steps p.tables e below (T21.setTop (mkF m 41 #[.val (.int p0), .val (.long q1), .second, .val (.ref b1), .unset, .unset, .unset, .unset, .unset, .unset, .unset] [(.int (4 : Int32))])) _
    refine XS.istore X21.here hx rfl (hb hby at_41) rfl (l' := #[.val (.int p0), .val (.long q1), .second, .val (.ref b1), .val (.int (4 : Int32)), .unset, .unset, .unset, .unset, .unset, .unset]) rfl ?_
    show Steps p.tables e below (T21.setTop (mkF m 43 #[.val (.int p0), .val (.long q1), .second, .val (.ref b1), .val (.int (4 : Int32)), .unset, .unset, .unset, .unset, .unset, .unset] [])) _
    refine XS.aloadN X21.here hx rfl (hb hby at_43) rfl rfl ?_
    show Steps p.tables e below (T21.setTop (mkF m 44 #[.val (.int p0), .val (.long q1), .second, .val (.ref b1), .val (.int (4 : Int32)), .unset, .unset, .unset, .unset, .unset, .unset] [(.ref b1)])) _
    refine XS.iload X21.here hx rfl (hb hby at_44) rfl ?_
    show Steps p.tables e below (T21.setTop (mkF m 46 #[.val (.int p0), .val (.long q1), .second, .val (.ref b1), .val (.int (4 : Int32)), .unset, .unset, .unset, .unset, .unset, .unset] [(.int (4 : Int32)), (.ref b1)])) _
    refine X21.aaload hx (j := (4 : Int32)) (v := (.ref (w 4))) (by rw [e21]; exact Ar22.1) (State.isArrayOf_alike hZ.alike Ar22.2.1) rfl Ar22.2.2 hin22 hat22 (g := (mkF m 46 #[.val (.int p0), .val (.long q1), .second, .val (.ref b1), .val (.int (4 : Int32)), .unset, .unset, .unset, .unset, .unset, .unset] [(.int (4 : Int32)), (.ref b1)])) rfl rfl (hb hby at_46) _ ?_
    show Steps p.tables e below (T21.setTop (mkF m 47 #[.val (.int p0), .val (.long q1), .second, .val (.ref b1), .val (.int (4 : Int32)), .unset, .unset, .unset, .unset, .unset, .unset] [(.ref (w 4))])) _
    refine XS.astore X21.here hx rfl (hb hby at_47) rfl rfl (l' := #[.val (.int p0), .val (.long q1), .second, .val (.ref b1), .val (.int (4 : Int32)), .val (.ref (w 4)), .unset, .unset, .unset, .unset, .unset]) rfl ?_
    show Steps p.tables e below (T21.setTop (mkF m 49 #[.val (.int p0), .val (.long q1), .second, .val (.ref b1), .val (.int (4 : Int32)), .val (.ref (w 4)), .unset, .unset, .unset, .unset, .unset] [])) _
    refine XS.lloadN X21.here hx rfl (hb hby at_49) rfl ?_
    show Steps p.tables e below (T21.setTop (mkF m 50 #[.val (.int p0), .val (.long q1), .second, .val (.ref b1), .val (.int (4 : Int32)), .val (.ref (w 4)), .unset, .unset, .unset, .unset, .unset] [(.long q1)])) _
    refine XS.lstore X21.here hx rfl (hb hby at_50) rfl (l' := #[.val (.int p0), .val (.long q1), .second, .val (.ref b1), .val (.int (4 : Int32)), .val (.ref (w 4)), .val (.long q1), .second, .unset, .unset, .unset]) rfl ?_
    show Steps p.tables e below (T21.setTop (mkF m 52 #[.val (.int p0), .val (.long q1), .second, .val (.ref b1), .val (.int (4 : Int32)), .val (.ref (w 4)), .val (.long q1), .second, .unset, .unset, .unset] [])) _
    refine XS.lload X21.here hx rfl (hb hby at_52) rfl ?_
    show Steps p.tables e below (T21.setTop (mkF m 54 #[.val (.int p0), .val (.long q1), .second, .val (.ref b1), .val (.int (4 : Int32)), .val (.ref (w 4)), .val (.long q1), .second, .unset, .unset, .unset] [(.long q1)])) _
    refine X21.ldc2Long hx hown (mvT hZ (W hw 15 rfl)) (g := (mkF m 54 #[.val (.int p0), .val (.long q1), .second, .val (.ref b1), .val (.int (4 : Int32)), .val (.ref (w 4)), .val (.long q1), .second, .unset, .unset, .unset] [(.long q1)])) rfl (hb hby at_54) _ ?_
    show Steps p.tables e below (T21.setTop (mkF m 57 #[.val (.int p0), .val (.long q1), .second, .val (.ref b1), .val (.int (4 : Int32)), .val (.ref (w 4)), .val (.long q1), .second, .unset, .unset, .unset] [(.long (9223372036854775807 : Int64)), (.long q1)])) _
    refine XS.lcmp X21.here hx rfl (hb hby at_57) rfl ?_
    show Steps p.tables e below (T21.setTop (mkF m 58 #[.val (.int p0), .val (.long q1), .second, .val (.ref b1), .val (.int (4 : Int32)), .val (.ref (w 4)), .val (.long q1), .second, .unset, .unset, .unset] [(.int (lcmpW q1 (9223372036854775807 : Int64)))])) _
    refine XS.ifYes X21.here hx rfl (pc0 := 58) (pc' := 64) rfl (hb hby at_58) rfl ((if0 _ _).trans (feq hp1).2) (by decide) (by decide) ?_
    show Steps p.tables e below (T21.setTop (mkF m 64 #[.val (.int p0), .val (.long q1), .second, .val (.ref b1), .val (.int (4 : Int32)), .val (.ref (w 4)), .val (.long q1), .second, .unset, .unset, .unset] [])) _
    refine XS.aload X21.here hx rfl (hb hby at_64) rfl rfl ?_
    show Steps p.tables e below (T21.setTop (mkF m 66 #[.val (.int p0), .val (.long q1), .second, .val (.ref b1), .val (.int (4 : Int32)), .val (.ref (w 4)), .val (.long q1), .second, .unset, .unset, .unset] [(.ref (w 4))])) _
    refine st23.trans ?_
    show Steps p.tables e below (T23.setTop (mkF m 69 #[.val (.int p0), .val (.long q1), .second, .val (.ref b1), .val (.int (4 : Int32)), .val (.ref (w 4)), .val (.long q1), .second, .unset, .unset, .unset] [(.int (0 : Int32))])) _
    refine XS.istore X23.here hx rfl (hb hby at_69) rfl (l' := #[.val (.int p0), .val (.long q1), .second, .val (.ref b1), .val (.int (4 : Int32)), .val (.ref (w 4)), .val (.long q1), .second, .val (.int (0 : Int32)), .unset, .unset]) rfl ?_
    show Steps p.tables e below (T23.setTop (mkF m 71 #[.val (.int p0), .val (.long q1), .second, .val (.ref b1), .val (.int (4 : Int32)), .val (.ref (w 4)), .val (.long q1), .second, .val (.int (0 : Int32)), .unset, .unset] [])) _
    refine XS.iload X23.here hx rfl (hb hby at_71) rfl ?_
    show Steps p.tables e below (T23.setTop (mkF m 73 #[.val (.int p0), .val (.long q1), .second, .val (.ref b1), .val (.int (4 : Int32)), .val (.ref (w 4)), .val (.long q1), .second, .val (.int (0 : Int32)), .unset, .unset] [(.int (4 : Int32))])) _
    refine XS.iconst X23.here hx rfl (hb hby at_73) ?_
    show Steps p.tables e below (T23.setTop (mkF m 74 #[.val (.int p0), .val (.long q1), .second, .val (.ref b1), .val (.int (4 : Int32)), .val (.ref (w 4)), .val (.long q1), .second, .val (.int (0 : Int32)), .unset, .unset] [(.int (2 : Int32)), (.int (4 : Int32))])) _
    refine XS.icmpYes X23.here hx rfl (pc0 := 74) (pc' := 81) rfl (hb hby at_74) rfl (tlt (by decide : (2 : Int32) < (4 : Int32))).2.2.1 (by decide) (by decide) ?_
    show Steps p.tables e below (T23.setTop (mkF m 81 #[.val (.int p0), .val (.long q1), .second, .val (.ref b1), .val (.int (4 : Int32)), .val (.ref (w 4)), .val (.long q1), .second, .val (.int (0 : Int32)), .unset, .unset] [])) _
    refine XS.iconst X23.here hx rfl (hb hby at_81) ?_
    show Steps p.tables e below (T23.setTop (mkF m 82 #[.val (.int p0), .val (.long q1), .second, .val (.ref b1), .val (.int (4 : Int32)), .val (.ref (w 4)), .val (.long q1), .second, .val (.int (0 : Int32)), .unset, .unset] [(.int (0 : Int32))])) _
    refine XS.istore X23.here hx rfl (hb hby at_82) rfl (l' := #[.val (.int p0), .val (.long q1), .second, .val (.ref b1), .val (.int (4 : Int32)), .val (.ref (w 4)), .val (.long q1), .second, .val (.int (0 : Int32)), .val (.int (0 : Int32)), .unset]) rfl ?_
    show Steps p.tables e below (T23.setTop (mkF m 84 #[.val (.int p0), .val (.long q1), .second, .val (.ref b1), .val (.int (4 : Int32)), .val (.ref (w 4)), .val (.long q1), .second, .val (.int (0 : Int32)), .val (.int (0 : Int32)), .unset] [])) _
    refine XS.aload X23.here hx rfl (hb hby at_84) rfl rfl ?_
    show Steps p.tables e below (T23.setTop (mkF m 86 #[.val (.int p0), .val (.long q1), .second, .val (.ref b1), .val (.int (4 : Int32)), .val (.ref (w 4)), .val (.long q1), .second, .val (.int (0 : Int32)), .val (.int (0 : Int32)), .unset] [(.ref (w 4))])) _
    refine X23.ldc2Long hx hown (mvT hZ (W hw 15 rfl)) (g := (mkF m 86 #[.val (.int p0), .val (.long q1), .second, .val (.ref b1), .val (.int (4 : Int32)), .val (.ref (w 4)), .val (.long q1), .second, .val (.int (0 : Int32)), .val (.int (0 : Int32)), .unset] [(.ref (w 4))])) rfl (hb hby at_86) _ ?_
    show Steps p.tables e below (T23.setTop (mkF m 89 #[.val (.int p0), .val (.long q1), .second, .val (.ref b1), .val (.int (4 : Int32)), .val (.ref (w 4)), .val (.long q1), .second, .val (.int (0 : Int32)), .val (.int (0 : Int32)), .unset] [(.long (9223372036854775807 : Int64)), (.ref (w 4))])) _
    refine XS.lload X23.here hx rfl (hb hby at_89) rfl ?_
    show Steps p.tables e below (T23.setTop (mkF m 91 #[.val (.int p0), .val (.long q1), .second, .val (.ref b1), .val (.int (4 : Int32)), .val (.ref (w 4)), .val (.long q1), .second, .val (.int (0 : Int32)), .val (.int (0 : Int32)), .unset] [(.long q1), (.long (9223372036854775807 : Int64)), (.ref (w 4))])) _
    refine st24.trans ?_
    show Steps p.tables e below (T24.setTop (mkF m 94 #[.val (.int p0), .val (.long q1), .second, .val (.ref b1), .val (.int (4 : Int32)), .val (.ref (w 4)), .val (.long q1), .second, .val (.int (0 : Int32)), .val (.int (0 : Int32)), .unset] [(.int (1 : Int32))])) _
    refine XS.ifYes X24.here hx rfl (pc0 := 94) (pc' := 101) rfl (hb hby at_94) rfl ((if0 _ _).trans (feq (by decide : ¬ ((1 : Int32) = (0 : Int32)))).2) (by decide) (by decide) ?_
    show Steps p.tables e below (T24.setTop (mkF m 101 #[.val (.int p0), .val (.long q1), .second, .val (.ref b1), .val (.int (4 : Int32)), .val (.ref (w 4)), .val (.long q1), .second, .val (.int (0 : Int32)), .val (.int (0 : Int32)), .unset] [])) _
    refine XS.iconst X24.here hx rfl (hb hby at_101) ?_
    show Steps p.tables e below (T24.setTop (mkF m 102 #[.val (.int p0), .val (.long q1), .second, .val (.ref b1), .val (.int (4 : Int32)), .val (.ref (w 4)), .val (.long q1), .second, .val (.int (0 : Int32)), .val (.int (0 : Int32)), .unset] [(.int (0 : Int32))])) _
    refine XS.istore X24.here hx rfl (hb hby at_102) rfl (l' := #[.val (.int p0), .val (.long q1), .second, .val (.ref b1), .val (.int (4 : Int32)), .val (.ref (w 4)), .val (.long q1), .second, .val (.int (0 : Int32)), .val (.int (0 : Int32)), .val (.int (0 : Int32))]) rfl ?_
    show Steps p.tables e below (T24.setTop (mkF m 104 #[.val (.int p0), .val (.long q1), .second, .val (.ref b1), .val (.int (4 : Int32)), .val (.ref (w 4)), .val (.long q1), .second, .val (.int (0 : Int32)), .val (.int (0 : Int32)), .val (.int (0 : Int32))] [])) _
    refine XS.iload X24.here hx rfl (hb hby at_104) rfl ?_
    show Steps p.tables e below (T24.setTop (mkF m 106 #[.val (.int p0), .val (.long q1), .second, .val (.ref b1), .val (.int (4 : Int32)), .val (.ref (w 4)), .val (.long q1), .second, .val (.int (0 : Int32)), .val (.int (0 : Int32)), .val (.int (0 : Int32))] [(.int (0 : Int32))])) _
    refine XS.iload X24.here hx rfl (hb hby at_106) rfl ?_
    show Steps p.tables e below (T24.setTop (mkF m 108 #[.val (.int p0), .val (.long q1), .second, .val (.ref b1), .val (.int (4 : Int32)), .val (.ref (w 4)), .val (.long q1), .second, .val (.int (0 : Int32)), .val (.int (0 : Int32)), .val (.int (0 : Int32))] [(.int (0 : Int32)), (.int (0 : Int32))])) _
    refine XS.icmpNo X24.here hx rfl (hb hby at_108) rfl (teq (by decide : (0 : Int32) = (0 : Int32))).2 ?_
    show Steps p.tables e below (T24.setTop (mkF m 111 #[.val (.int p0), .val (.long q1), .second, .val (.ref b1), .val (.int (4 : Int32)), .val (.ref (w 4)), .val (.long q1), .second, .val (.int (0 : Int32)), .val (.int (0 : Int32)), .val (.int (0 : Int32))] [])) _
    refine XS.iload X24.here hx rfl (hb hby at_111) rfl ?_
    show Steps p.tables e below (T24.setTop (mkF m 113 #[.val (.int p0), .val (.long q1), .second, .val (.ref b1), .val (.int (4 : Int32)), .val (.ref (w 4)), .val (.long q1), .second, .val (.int (0 : Int32)), .val (.int (0 : Int32)), .val (.int (0 : Int32))] [(.int (0 : Int32))])) _
    refine XS.iload X24.here hx rfl (hb hby at_113) rfl ?_
    show Steps p.tables e below (T24.setTop (mkF m 115 #[.val (.int p0), .val (.long q1), .second, .val (.ref b1), .val (.int (4 : Int32)), .val (.ref (w 4)), .val (.long q1), .second, .val (.int (0 : Int32)), .val (.int (0 : Int32)), .val (.int (0 : Int32))] [(.int (0 : Int32)), (.int (0 : Int32))])) _
    refine XS.icmpNo X24.here hx rfl (hb hby at_115) rfl (teq (by decide : (0 : Int32) = (0 : Int32))).2 ?_
    show Steps p.tables e below (T24.setTop (mkF m 118 #[.val (.int p0), .val (.long q1), .second, .val (.ref b1), .val (.int (4 : Int32)), .val (.ref (w 4)), .val (.long q1), .second, .val (.int (0 : Int32)), .val (.int (0 : Int32)), .val (.int (0 : Int32))] [])) _
    refine XS.iconst X24.here hx rfl (hb hby at_118) ?_
    show Steps p.tables e below (T24.setTop (mkF m 119 #[.val (.int p0), .val (.long q1), .second, .val (.ref b1), .val (.int (4 : Int32)), .val (.ref (w 4)), .val (.long q1), .second, .val (.int (0 : Int32)), .val (.int (0 : Int32)), .val (.int (0 : Int32))] [(.int (1 : Int32))])) _
    refine XS.goto X24.here hx rfl (pc0 := 119) (pc' := 123) rfl (hb hby at_119) (by decide) (by decide) ?_
    show Steps p.tables e below (T24.setTop (mkF m 123 #[.val (.int p0), .val (.long q1), .second, .val (.ref b1), .val (.int (4 : Int32)), .val (.ref (w 4)), .val (.long q1), .second, .val (.int (0 : Int32)), .val (.int (0 : Int32)), .val (.int (0 : Int32))] [(.int (1 : Int32))])) _
    exact retN X24 hx (t := .boolean) Bd.returns (by simp) (hb hby at_123) hr
  · show OL (some (.int (1 : Int32))) Z.heap.size _ T24.heap _
    exact ⟨rfl, N24⟩
set_option maxRecDepth 65536 in
set_option maxHeartbeats 40000000 in
theorem law_all (l : Launch) (Z : State) (a0 : Array Value) (hw : ∀ d ∈ tables_1, d.before a0 Z = true) (w : Nat → Addr) (kk : Nat → ClassId) (hN : Wd Z w kk) (ws : List Jvm.Cond) (p0 : Int32) (q1 : Int64) (h0 : Heap) (O0 : Old Z Z.heap.size h0) :
    MetFree l x (head1 (Jvm.Cond.code x code maxLocals ret :: ws) room_1) (fun a U => a = #[(.int p0), (.long q1)] ∧ Z.Warmed39 U.vm ∧ U.heap = h0) (fun _ _ _ _ _ => True) (fun _ U o U' => ∃ v L, o = .returned v ∧ OL (some (.int (1 : Int32))) Z.heap.size v U'.heap L ∧ FrameEnd U o U' L 16 128) := by
  rcases (own_split_0 p0) with hd0 | hd0 | hd0 | hd0 | hd0
  · by_cases hd1 : (lcmpW q1 (9223372036854775807 : Int64)) = (0 : Int32)
    · exact law_5 l Z a0 hw w kk hN ws p0 q1 h0 O0 hd0 hd1
    · have hi3_0 : ¬ ((lcmpW (9223372036854775807 : Int64) q1) < (0 : Int32)) := own_lmax hd1
      have hi3_1 : ¬ ((lcmpW (9223372036854775807 : Int64) q1) = (0 : Int32)) := own_lmaz hd1
      exact law_8 l Z a0 hw w kk hN ws p0 q1 h0 O0 hd0 hd1 hi3_0 hi3_1
  · by_cases hd1 : (lcmpW q1 (9223372036854775807 : Int64)) = (0 : Int32)
    · exact law_12 l Z a0 hw w kk hN ws p0 q1 h0 O0 hd0 hd1
    · have hi3_0 : ¬ ((lcmpW (9223372036854775807 : Int64) q1) < (0 : Int32)) := own_lmax hd1
      have hi3_1 : ¬ ((lcmpW (9223372036854775807 : Int64) q1) = (0 : Int32)) := own_lmaz hd1
      exact law_14 l Z a0 hw w kk hN ws p0 q1 h0 O0 hd0 hd1 hi3_0 hi3_1
  · by_cases hd1 : (lcmpW q1 (9223372036854775807 : Int64)) = (0 : Int32)
    · exact law_18 l Z a0 hw w kk hN ws p0 q1 h0 O0 hd0 hd1
    · have hi3_0 : ¬ ((lcmpW (9223372036854775807 : Int64) q1) < (0 : Int32)) := own_lmax hd1
      have hi3_1 : ¬ ((lcmpW (9223372036854775807 : Int64) q1) = (0 : Int32)) := own_lmaz hd1
      exact law_20 l Z a0 hw w kk hN ws p0 q1 h0 O0 hd0 hd1 hi3_0 hi3_1
  · by_cases hd1 : (lcmpW q1 (9223372036854775807 : Int64)) = (0 : Int32)
    · exact law_24 l Z a0 hw w kk hN ws p0 q1 h0 O0 hd0 hd1
    · have hi3_0 : ¬ ((lcmpW (9223372036854775807 : Int64) q1) < (0 : Int32)) := own_lmax hd1
      have hi3_1 : ¬ ((lcmpW (9223372036854775807 : Int64) q1) = (0 : Int32)) := own_lmaz hd1
      exact law_26 l Z a0 hw w kk hN ws p0 q1 h0 O0 hd0 hd1 hi3_0 hi3_1
  · by_cases hd1 : (lcmpW q1 (9223372036854775807 : Int64)) = (0 : Int32)
    · exact law_30 l Z a0 hw w kk hN ws p0 q1 h0 O0 hd0 hd1
    · have hi3_0 : ¬ ((lcmpW (9223372036854775807 : Int64) q1) < (0 : Int32)) := own_lmax hd1
      have hi3_1 : ¬ ((lcmpW (9223372036854775807 : Int64) q1) = (0 : Int32)) := own_lmaz hd1
      exact law_32 l Z a0 hw w kk hN ws p0 q1 h0 O0 hd0 hd1 hi3_0 hi3_1
set_option maxRecDepth 65536 in
set_option maxHeartbeats 40000000 in
theorem comes_1 {Post : Tables → Env → Array Value → State → Outcome → State → Prop} (hpost : ∀ tb e args s v u, (limb_1_1.after args s (.returned v) u = true ∧ limb_1_2.after args s (.returned v) u = true ∧ True) → FrameEnd s (.returned v) u (Jvm.fieldLocs frame_1_writes args s ++ Jvm.arrayLocs frame_1_arrays args s ++ Jvm.staticLocs frame_1_statics s) 16 128 → Post tb e args s (.returned v) u) :
    ArmFor flags0 classFile x code maxLocals ret World_1 tables_1 room_1 Calls_1 rest_1 Pre_1 Post := by
  intro l hfl _ _ p e ha hc hk s m args below hf hA hF happ hP
  obtain ⟨hcalls, hrest, hpre⟩ := hP
  obtain ⟨-, -, -, hnamed, -, -, -, hat⟩ := (Spec.applies_iff hf).mp happ
  obtain ⟨hg, hn⟩ := and_e (Cond.before_iff.mp (show (Jvm.Cond.and given_1 narrow_1).before args s = true from hpre))
  obtain ⟨g1, g2⟩ := and_e hg
  obtain ⟨g3, g4⟩ := and_e g2
  obtain ⟨g5, g6⟩ := and_e hn
  obtain ⟨g7, g8⟩ := and_e g6
  obtain ⟨g9, g10⟩ := and_e g8
  obtain ⟨g11, g12⟩ := and_e g10
  obtain ⟨g13, g14⟩ := and_e g12
  obtain ⟨g15, g16⟩ := and_e g14
  obtain ⟨g17, g18⟩ := and_e g16
  obtain ⟨g19, g20⟩ := and_e g18
  obtain ⟨g21, g22⟩ := and_e g20
  obtain ⟨w0, w1, rfl⟩ : ∃ w0 w1 : Value, args = #[w0, w1] := by
    have hs : args.size = 2 := by simpa [Cond.value, given_1] using g1
    obtain ⟨L⟩ := args
    match L, hs with
    | [w0, w1], _ => exact ⟨w0, w1, rfl⟩
  have hw := fun d (hd : d ∈ tables_1) => atoms_spec (ws := Jvm.Cond.code x code maxLocals ret :: tables_1) hat d (List.mem_cons_of_mem _ hd)
  have hfit : Fit s := fun {y c} hc i hi => by
    obtain ⟨ha, rfl⟩ := Array.getElem?_eq_some_iff.mp hc
    have q := List.all_eq_true.mp ((Array.all_eq_true_iff_forall_mem.mp hF) _ (Array.getElem_mem ha)) i (List.mem_range.mpr hi)
    simpa [Array.getElem?_eq_getElem hi] using q
  obtain ⟨i0, ei0⟩ := is_v g3
  obtain rfl : w0 = (.int i0) := Option.some.inj ei0
  obtain ⟨i1, ei1⟩ := isL_v g4
  obtain rfl : w1 = (.long i1) := Option.some.inj ei1
  obtain ⟨x0, v0⟩ := exa_v g5
  obtain ⟨x1, v1⟩ := exa_v g7
  obtain ⟨x2, v2⟩ := exa_v g9
  obtain ⟨x3, v3⟩ := exa_v g11
  obtain ⟨x4, v4⟩ := exa_v g13
  have hN : Wd s (fun n => [x0, x1, x2, x3, x4].getD n 0) (fun n => [0, 0, 0, 0, 0].getD n 0) := ⟨Sta.start v0 (Or.inr ⟨(W hw 3 rfl), (W hw 4 rfl)⟩), Exa.start v0 g5, Sta.start v1 (Or.inr ⟨(W hw 3 rfl), (W hw 7 rfl)⟩), Exa.start v1 g7, Sta.start v2 (Or.inr ⟨(W hw 3 rfl), (W hw 9 rfl)⟩), Exa.start v2 g9, Sta.start v3 (Or.inr ⟨(W hw 3 rfl), (W hw 11 rfl)⟩), Exa.start v3 g11, Sta.start v4 (Or.inr ⟨(W hw 3 rfl), (W hw 13 rfl)⟩), Exa.start v4 g13, Fld.start ((fld_at v0).symm.trans (own_eqv g15 (Term.int_eval _))), Fld.start ((fld_at v1).symm.trans (own_eqv g17 (Term.int_eval _))), Fld.start ((fld_at v4).symm.trans (own_eqv g19 (Term.int_eval _))), Fld.start ((fld_at v2).symm.trans (own_eqv g21 (Term.int_eval _))), Fld.start ((fld_at v3).symm.trans (own_eqv g22 (Term.int_eval _)))⟩
  obtain ⟨n, o, h1, h2, h3, _, L, rfl, ⟨rfl, N⟩, hq⟩ := law_all l s _ hw _ _ hN tables_1 i0 i1 s.heap (Old.start s) p e ha hc hk s m _ below hf ((Spec.applies_iff_loose hf).mp happ).1 ⟨rfl, State.Warmed39.refl s, rfl⟩ trivial
  refine ⟨n, _, h1, h2, h3, hpost _ _ _ _ _ _ ⟨Cond.after_iff.mpr rfl, Cond.after_iff.mpr (eq_i res_at (Term.int_eval (1)) rfl), trivial⟩ ⟨hq.1, hq.2.1, (hq.2.2.sift fun y hy => Or.inr (N y hy)).mono (by decide) (by decide)⟩⟩
theorem main_1_1 : Claimed_1_1 := comes_1 fun _ _ _ _ _ _ h hF => ⟨h.1, hF⟩
theorem main_1_2 : Claimed_1_2 := comes_1 fun _ _ _ _ _ _ h hF => ⟨h.2.1, hF⟩
end Jvm.Pilot.@@N@@
namespace Jvm.Pilot.@@N@@
open Jvm Jvm.ClassFile Sem Op Lib Jvm.Free Jvm.Stand Jvm.Pilot.@@N@@.Jvm.D
/-! MADE BY PROGRAM (witnessworld.py) out of the Statement's table words and the real class files: 16 classes; the members and pool entries that the words name. The judged class is class 1, her method 1. -/
namespace start1
open Jvm.ClassFile
def u (s : String) : CpInfo := .utf8 (stringToUtf16 s)
/-- a pool by its gaps: so many unusable entries, then the entry; so many at the end -/
def gap : Nat → List CpInfo → List CpInfo
  | 0, r => r
  | n + 1, r => .unusable :: gap n r
def poolList (es : List (Nat × CpInfo)) (last : Nat) : List CpInfo := es.foldr (fun e r => gap e.1 (e.2 :: r)) (gap last [])
def pool (es : List (Nat × CpInfo)) (last : Nat) : Array CpInfo := ⟨poolList es last⟩
def fileOf (pool : Array CpInfo) (this : Nat) (attrs : Array Attribute := #[]) (ms : Array MethodInfo := #[]) (fl : Nat := 33) (sup : Nat := 0) (ifs : Array Nat := #[]) (fds : Array FieldInfo := #[]) : ClassFile where
  minorVersion := 0
  majorVersion := 65
  constantPool := pool
  accessFlags := fl
  thisClass := this
  superClass := sup
  interfaces := ifs
  fields := fds
  methods := ms
  attributes := attrs
def plain (name : String) (sup : Option ClassId) : Class where
  name := name
  kind := .ordinary
  loader := none
  accessFlags := 33
  super := sup
  interfaces := #[]
  cf := none
  fields := #[]
  methods := #[]
  instanceTypes := #[]
  staticTypes := #[]
  resolved := #[]
  callSites := []
  init := .initialized
  statics := none
  mirror := none

def pool0 : Array CpInfo := pool [(5, u "<init>"), (0, u "()V"), (1, .class_ 10), (1, u "java/lang/Object")] 113

def k0m0 : Method := { name := "<init>", desc := "()V", sig := { parameters := [], returnType := none }, accessFlags := 1, code := none }
/-- java/lang/Object -/
def k0 : Class := { plain "java/lang/Object" none with
  accessFlags := 33
  interfaces := #[]
  cf := some (fileOf pool0 8 #[] #[{ accessFlags := 1, nameIndex := 5, descriptorIndex := 6, attributes := #[] }] 33 0 #[] #[])
  fields := #[]
  methods := #[k0m0]
  instanceTypes := #[]
  staticTypes := #[]
  resolved := Array.replicate 124 none
  statics := none }

def pool1 : Array CpInfo := pool [(2, .class_ 4), (1, u "java/lang/Object"), (0, u "<init>"), (0, u "()V"), (0, .class_ 8), (0, u "com/example/stint/stint/model/Relation"), (0, .fieldref 7 10), (0, .nameAndType 11 12), (0, u "LESS"), (0, u "Lcom/example/stint/stint/model/Relation;"), (0, .fieldref 7 14), (0, .nameAndType 15 12), (0, u "LESS_OR_EQUAL"), (0, .fieldref 7 17), (0, .nameAndType 18 12), (0, u "EQUAL"), (0, .fieldref 7 20), (0, .nameAndType 21 12), (0, u "GREATER_OR_EQUAL"), (0, .fieldref 7 23), (0, .nameAndType 24 12), (0, u "GREATER"), (0, .integer 2147483647), (2, .long 9223372036854775807), (1, .methodref 7 31), (0, .nameAndType 32 33), (0, u "boundsAbove"), (0, u "()Z"), (0, .methodref 7 35), (0, .nameAndType 36 37), (0, u "holds"), (0, u "(JJ)Z"), (0, .class_ 39), (0, u "com/example/stint/stint/model/RelationBoundsAbovePinLaw"), (2, u "law"), (0, u "(IJ)Z")] 5

def k1m0 : Method := { name := "<init>", desc := "()V", sig := { parameters := [], returnType := none }, accessFlags := 1, code := none }
def k1c1 : Code := { maxStack := 5, maxLocals := 11, code := code, exceptionTable := #[], attributes := #[] }
def k1m1 : Method := { name := "law", desc := "(IJ)Z", sig := { parameters := [.int, .long], returnType := some .boolean }, accessFlags := 9, code := some k1c1 }
/-- com/example/stint/stint/model/RelationBoundsAbovePinLaw -/
def k1 : Class := { plain "com/example/stint/stint/model/RelationBoundsAbovePinLaw" (some 0) with
  accessFlags := 49
  interfaces := #[]
  cf := some (fileOf pool1 38 #[] #[{ accessFlags := 1, nameIndex := 5, descriptorIndex := 6, attributes := #[] }, { accessFlags := 9, nameIndex := 42, descriptorIndex := 43, attributes := #[] }] 49 2 #[] #[])
  fields := #[]
  methods := #[k1m0, k1m1]
  instanceTypes := #[]
  staticTypes := #[]
  resolved := Array.replicate 49 none
  statics := none }

def pool2 : Array CpInfo := pool [(1, .class_ 2), (0, u "java/lang/constant/Constable"), (0, .class_ 4), (0, u "java/lang/Object")] 6

/-- java/lang/constant/Constable -/
def k2 : Class := { plain "java/lang/constant/Constable" (some 0) with
  accessFlags := 1537
  interfaces := #[]
  cf := some (fileOf pool2 1 #[] #[] 1537 3 #[] #[])
  fields := #[]
  methods := #[]
  instanceTypes := #[]
  staticTypes := #[]
  resolved := Array.replicate 11 none
  statics := none }

def pool3 : Array CpInfo := pool [(1, .class_ 2), (0, u "java/lang/Comparable"), (0, .class_ 4), (0, u "java/lang/Object")] 7

/-- java/lang/Comparable -/
def k3 : Class := { plain "java/lang/Comparable" (some 0) with
  accessFlags := 1537
  interfaces := #[]
  cf := some (fileOf pool3 1 #[] #[] 1537 3 #[] #[])
  fields := #[]
  methods := #[]
  instanceTypes := #[]
  staticTypes := #[]
  resolved := Array.replicate 12 none
  statics := none }

def pool4 : Array CpInfo := pool [(1, .class_ 2), (0, u "java/io/Serializable"), (0, .class_ 4), (0, u "java/lang/Object")] 2

/-- java/io/Serializable -/
def k4 : Class := { plain "java/io/Serializable" (some 0) with
  accessFlags := 1537
  interfaces := #[]
  cf := some (fileOf pool4 1 #[] #[] 1537 3 #[] #[])
  fields := #[]
  methods := #[]
  instanceTypes := #[]
  staticTypes := #[]
  resolved := Array.replicate 7 none
  statics := none }

def pool5 : Array CpInfo := pool [(2, .class_ 4), (1, u "java/lang/Enum"), (0, u "name"), (0, u "Ljava/lang/String;"), (0, .fieldref 2 8), (0, .nameAndType 9 10), (0, u "ordinal"), (0, u "I"), (1, .class_ 14), (1, u "java/lang/Object"), (4, u "hash"), (86, .class_ 108), (1, u "java/lang/Enum$EnumDesc"), (2, .class_ 112), (0, u "java/lang/constant/Constable"), (0, .class_ 114), (0, u "java/lang/Comparable"), (0, .class_ 116), (0, u "java/io/Serializable"), (9, u "()I")] 77

def k5c0 : Code := { maxStack := 1, maxLocals := 1, code := jdk_37_method_2_code, exceptionTable := #[], attributes := #[] }
def k5m0 : Method := { name := "ordinal", desc := "()I", sig := { parameters := [], returnType := some .int }, accessFlags := 17, code := some k5c0 }
/-- java/lang/Enum -/
def k5 : Class := { plain "java/lang/Enum" (some 0) with
  accessFlags := 1057
  interfaces := #[2, 3, 4]
  cf := some (fileOf pool5 2 #[.nestMembers #[106]] #[{ accessFlags := 17, nameIndex := 9, descriptorIndex := 126, attributes := #[] }] 1057 12 #[111, 113, 115] #[{ accessFlags := 18, nameIndex := 5, descriptorIndex := 6, attributes := #[] }, { accessFlags := 18, nameIndex := 9, descriptorIndex := 10, attributes := #[] }, { accessFlags := 2, nameIndex := 19, descriptorIndex := 10, attributes := #[] }])
  fields := #[{ name := "name", type := (.object "java/lang/String"), accessFlags := 18, slot := 0, constantValue := 0 }, { name := "ordinal", type := .int, accessFlags := 18, slot := 1, constantValue := 0 }, { name := "hash", type := .int, accessFlags := 2, slot := 2, constantValue := 0 }]
  methods := #[k5m0]
  instanceTypes := #[(.object "java/lang/String"), .int, .int]
  staticTypes := #[]
  resolved := Array.replicate 204 none
  statics := none }

def pool6 : Array CpInfo := pool [(1, .class_ 2), (0, u "com/example/stint/stint/model/Relation"), (0, .fieldref 1 4), (0, .nameAndType 5 6), (0, u "LESS"), (0, u "Lcom/example/stint/stint/model/Relation;"), (0, .fieldref 1 8), (0, .nameAndType 9 6), (0, u "LESS_OR_EQUAL"), (0, .fieldref 1 11), (0, .nameAndType 12 6), (0, u "EQUAL"), (2, u "GREATER_OR_EQUAL"), (2, u "GREATER"), (2, u "$VALUES"), (0, u "[Lcom/example/stint/stint/model/Relation;"), (6, .class_ 31), (1, u "java/lang/Enum"), (8, u "symbol"), (0, u "Ljava/lang/String;"), (20, .methodref 1 63), (0, .nameAndType 64 65), (0, u "ordinal"), (0, u "()I"), (13, .methodref 80 81), (0, .class_ 82), (0, .nameAndType 83 84), (0, u "java/lang/Long"), (0, u "compare"), (0, u "(JJ)I"), (37, u "boundsAbove"), (0, u "()Z"), (2, u "holds"), (0, u "(JJ)Z")] 5

def k6c0 : Code := { maxStack := 2, maxLocals := 1, code := prog_47_method_8_code, exceptionTable := #[], attributes := #[] }
def k6m0 : Method := { name := "boundsAbove", desc := "()Z", sig := { parameters := [], returnType := some .boolean }, accessFlags := 1, code := some k6c0 }
def k6c1 : Code := { maxStack := 4, maxLocals := 6, code := prog_47_method_11_code, exceptionTable := #[], attributes := #[] }
def k6m1 : Method := { name := "holds", desc := "(JJ)Z", sig := { parameters := [.long, .long], returnType := some .boolean }, accessFlags := 1, code := some k6c1 }
/-- com/example/stint/stint/model/Relation -/
def k6 : Class := { plain "com/example/stint/stint/model/Relation" (some 5) with
  accessFlags := 16433
  interfaces := #[]
  cf := some (fileOf pool6 1 #[] #[{ accessFlags := 1, nameIndex := 122, descriptorIndex := 123, attributes := #[] }, { accessFlags := 1, nameIndex := 126, descriptorIndex := 127, attributes := #[] }] 16433 29 #[] #[{ accessFlags := 16409, nameIndex := 5, descriptorIndex := 6, attributes := #[] }, { accessFlags := 16409, nameIndex := 9, descriptorIndex := 6, attributes := #[] }, { accessFlags := 16409, nameIndex := 12, descriptorIndex := 6, attributes := #[] }, { accessFlags := 16409, nameIndex := 15, descriptorIndex := 6, attributes := #[] }, { accessFlags := 16409, nameIndex := 18, descriptorIndex := 6, attributes := #[] }, { accessFlags := 18, nameIndex := 40, descriptorIndex := 41, attributes := #[] }, { accessFlags := 4122, nameIndex := 21, descriptorIndex := 22, attributes := #[] }])
  fields := #[{ name := "LESS", type := (.object "com/example/stint/stint/model/Relation"), accessFlags := 16409, slot := 0, constantValue := 0 }, { name := "LESS_OR_EQUAL", type := (.object "com/example/stint/stint/model/Relation"), accessFlags := 16409, slot := 1, constantValue := 0 }, { name := "EQUAL", type := (.object "com/example/stint/stint/model/Relation"), accessFlags := 16409, slot := 2, constantValue := 0 }, { name := "GREATER_OR_EQUAL", type := (.object "com/example/stint/stint/model/Relation"), accessFlags := 16409, slot := 3, constantValue := 0 }, { name := "GREATER", type := (.object "com/example/stint/stint/model/Relation"), accessFlags := 16409, slot := 4, constantValue := 0 }, { name := "symbol", type := (.object "java/lang/String"), accessFlags := 18, slot := 3, constantValue := 0 }, { name := "$VALUES", type := (.array (.object "com/example/stint/stint/model/Relation")), accessFlags := 4122, slot := 5, constantValue := 0 }]
  methods := #[k6m0, k6m1]
  instanceTypes := #[(.object "java/lang/String"), .int, .int, (.object "java/lang/String")]
  staticTypes := #[(.object "com/example/stint/stint/model/Relation"), (.object "com/example/stint/stint/model/Relation"), (.object "com/example/stint/stint/model/Relation"), (.object "com/example/stint/stint/model/Relation"), (.object "com/example/stint/stint/model/Relation"), (.array (.object "com/example/stint/stint/model/Relation"))]
  resolved := Array.replicate 133 none
  statics := some 0 }

def pool7 : Array CpInfo := pool [(2, .class_ 4), (1, u "java/lang/Object"), (0, u "<init>"), (0, u "()V"), (1, .class_ 10), (1, u "java/lang/Number"), (2, .class_ 14), (0, u "java/io/Serializable"), (0, u "serialVersionUID"), (0, u "J")] 20

def k7m0 : Method := { name := "<init>", desc := "()V", sig := { parameters := [], returnType := none }, accessFlags := 1, code := none }
/-- java/lang/Number -/
def k7 : Class := { plain "java/lang/Number" (some 0) with
  accessFlags := 1057
  interfaces := #[4]
  cf := some (fileOf pool7 8 #[] #[{ accessFlags := 1, nameIndex := 5, descriptorIndex := 6, attributes := #[] }] 1057 2 #[13] #[{ accessFlags := 26, nameIndex := 15, descriptorIndex := 16, attributes := #[] }])
  fields := #[{ name := "serialVersionUID", type := .long, accessFlags := 26, slot := 0, constantValue := 0 }]
  methods := #[k7m0]
  instanceTypes := #[]
  staticTypes := #[.long]
  resolved := Array.replicate 37 none
  statics := none }

def pool8 : Array CpInfo := pool [(1, .class_ 2), (0, u "java/lang/constant/ConstantDesc"), (0, .class_ 4), (0, u "java/lang/Object")] 32

/-- java/lang/constant/ConstantDesc -/
def k8 : Class := { plain "java/lang/constant/ConstantDesc" (some 0) with
  accessFlags := 1537
  interfaces := #[]
  cf := some (fileOf pool8 1 #[] #[] 1537 3 #[] #[])
  fields := #[]
  methods := #[]
  instanceTypes := #[]
  staticTypes := #[]
  resolved := Array.replicate 37 none
  statics := none }

def pool9 : Array CpInfo := pool [(1, .class_ 2), (0, u "java/lang/Long"), (232, .class_ 237), (1, u "java/lang/Long$LongCache"), (33, .class_ 272), (0, u "java/lang/Number"), (2, u "value"), (0, u "J"), (27, u "compare"), (0, u "(JJ)I"), (55, u "TYPE"), (0, u "Ljava/lang/Class;"), (0, .class_ 364), (0, u "java/lang/Comparable"), (0, .class_ 366), (0, u "java/lang/constant/Constable"), (0, .class_ 368), (0, u "java/lang/constant/ConstantDesc"), (0, u "MIN_VALUE"), (1, u "MAX_VALUE"), (4, u "SIZE"), (0, u "I"), (1, u "BYTES"), (1, u "serialVersionUID")] 142

def k9c0 : Code := { maxStack := 4, maxLocals := 4, code := jdk_35_method_42_code, exceptionTable := #[], attributes := #[] }
def k9m0 : Method := { name := "compare", desc := "(JJ)I", sig := { parameters := [.long, .long], returnType := some .int }, accessFlags := 9, code := some k9c0 }
/-- java/lang/Long -/
def k9 : Class := { plain "java/lang/Long" (some 7) with
  accessFlags := 49
  interfaces := #[3, 2, 8]
  cf := some (fileOf pool9 1 #[.nestMembers #[235]] #[{ accessFlags := 9, nameIndex := 304, descriptorIndex := 305, attributes := #[] }] 49 271 #[363, 365, 367] #[{ accessFlags := 25, nameIndex := 369, descriptorIndex := 276, attributes := #[] }, { accessFlags := 25, nameIndex := 371, descriptorIndex := 276, attributes := #[] }, { accessFlags := 25, nameIndex := 361, descriptorIndex := 362, attributes := #[] }, { accessFlags := 18, nameIndex := 275, descriptorIndex := 276, attributes := #[] }, { accessFlags := 25, nameIndex := 376, descriptorIndex := 377, attributes := #[] }, { accessFlags := 25, nameIndex := 379, descriptorIndex := 377, attributes := #[] }, { accessFlags := 26, nameIndex := 381, descriptorIndex := 276, attributes := #[] }])
  fields := #[{ name := "MIN_VALUE", type := .long, accessFlags := 25, slot := 0, constantValue := 0 }, { name := "MAX_VALUE", type := .long, accessFlags := 25, slot := 1, constantValue := 0 }, { name := "TYPE", type := (.object "java/lang/Class"), accessFlags := 25, slot := 2, constantValue := 0 }, { name := "value", type := .long, accessFlags := 18, slot := 0, constantValue := 0 }, { name := "SIZE", type := .int, accessFlags := 25, slot := 3, constantValue := 0 }, { name := "BYTES", type := .int, accessFlags := 25, slot := 4, constantValue := 0 }, { name := "serialVersionUID", type := .long, accessFlags := 26, slot := 5, constantValue := 0 }]
  methods := #[k9m0]
  instanceTypes := #[.long]
  staticTypes := #[.long, .long, (.object "java/lang/Class"), .int, .int, .long]
  resolved := Array.replicate 524 none
  statics := none }

def pool10 : Array CpInfo := pool [(1, u "java/lang/Cloneable"), (0, .class_ 1), (0, u "java/lang/Object"), (0, .class_ 3)] 3

/-- java/lang/Cloneable -/
def k10 : Class := { plain "java/lang/Cloneable" (some 0) with
  accessFlags := 1537
  interfaces := #[]
  cf := some (fileOf pool10 2 #[] #[] 1537 4 #[] #[])
  fields := #[]
  methods := #[]
  instanceTypes := #[]
  staticTypes := #[]
  resolved := Array.replicate 8 none
  statics := none }

/-- the primitive byte -/
def k11 : Class := { plain "byte" none with kind := .primitive 'B', accessFlags := 0x411 }
/-- [B -/
def k12 : Class := { plain "[B" (some 0) with kind := .array 11 .byte, interfaces := #[10, 4], accessFlags := 1041 }

/-- the primitive int -/
def k13 : Class := { plain "int" none with kind := .primitive 'I', accessFlags := 0x411 }
/-- [I -/
def k14 : Class := { plain "[I" (some 0) with kind := .array 13 .int, interfaces := #[10, 4], accessFlags := 1041 }

/-- [Lcom/example/stint/stint/model/Relation; -/
def k15 : Class := { plain "[Lcom/example/stint/stint/model/Relation;" (some 0) with kind := .array 6 (.object "com/example/stint/stint/model/Relation"), interfaces := #[10, 4], accessFlags := 1041 }

def heap : Heap := #[{ cls := 6, slots := #[.ref 1, .ref 2, .ref 3, .ref 4, .ref 5, .null], vm := .statics 6 },
  { cls := 6, slots := #[.null, .int 0, .int 0, .null], vm := .none },
  { cls := 6, slots := #[.null, .int 1, .int 0, .null], vm := .none },
  { cls := 6, slots := #[.null, .int 2, .int 0, .null], vm := .none },
  { cls := 6, slots := #[.null, .int 3, .int 0, .null], vm := .none },
  { cls := 6, slots := #[.null, .int 4, .int 0, .null], vm := .none }]
def classes : Array Class := #[k0, k1, k2, k3, k4, k5, k6, k7, k8, k9, k10, k11, k12, k13, k14, k15]
def interned : List (Array UInt16 × Addr) := []
def slotsUsed : Nat := 26
def theMethod : MethodId := ⟨1, 1⟩
def args0 : Array Value := #[.int 5, .long 7]
def aboutOver (below : List Frame) : State where
  vm := { classes := classes, interned := interned.toArray }
  heap := heap
  slotsUsed := slotsUsed
  threads := #[{ frames := .invoking theMethod args0 :: below }]
def below0 : List Frame := [.native { method := ⟨0, 0⟩, args := #[] }]
def about1 : State := aboutOver below0
def p0 : Program := .bare "" "" ""
def e0 : Env := launch0.env 0 0 0
theorem w_frames : about1.frames = Frame.invoking theMethod args0 :: below0 := rfl
set_option maxRecDepth 65536 in
theorem w_args : argsFit about1.vm theMethod args0 = true := by decide +kernel
set_option maxRecDepth 65536 in
theorem w_heap : heapFits about1 = true := by decide +kernel
set_option maxRecDepth 65536 in
theorem w_runnable : about1.curStatus? = some .runnable := by decide +kernel
set_option maxRecDepth 65536 in
theorem w_alone : about1.alone = true := by decide +kernel
set_option maxRecDepth 65536 in
theorem w_named : about1.methodNamed? x = some theMethod := by decide +kernel
set_option maxRecDepth 65536 in
theorem w_hears : about1.hears theMethod below0 = true := by decide +kernel
set_option maxRecDepth 65536 in
theorem w_ripe : about1.ripe theMethod args0 below0 = true := by decide +kernel
theorem w_running : about1.status = .running := rfl
set_option maxRecDepth 65536 in
theorem w_room : about1.hasRoom e0.platform room_1 = true :=
  launch0.hasRoom_least _ room_1 (by decide +kernel) (by decide +kernel) (by decide +kernel) (by decide +kernel) (by decide +kernel) (by decide +kernel)
theorem allAtoms_all (ts : List Jvm.Cond) (a : Array Jvm.Value) (st : Jvm.State) : (allAtoms ts).before a st = ts.all (fun c => c.before a st) := by
  induction ts with
  | nil => rfl
  | cons c t ih =>
    show (Jvm.Cond.and c (allAtoms t)).before a st = _
    rw [Jvm.Cond.before_and, ih, List.all_cons]
def words1 : List Jvm.Cond := Jvm.Cond.code x code maxLocals ret :: tables_1
/-- a 'code' word, met by the world's own term for the bytes: nothing is compared byte by byte -/
theorem code_word {y : MethodName} {bytes : ByteArray} {mx : Nat} {rt : Option FieldType} {a : Array Value} {s : State} {m : MethodId} {meth : Method} {c : Code} (h1 : s.methodNamed? y = some m) (h2 : s.vm.method? m = some meth) (h3 : meth.code = some c) (h4 : c.code = bytes)
    (h5 : (c.maxLocals == mx && c.exceptionTable.isEmpty && decide (c.maxStack ≤ mostOperands) && decide (meth.sig.returnType = rt) && !meth.locks && decide (parseMethodDescriptor y.desc = some meth.sig)) = true) : (Jvm.Cond.code y bytes mx rt).before a s = true := by
  simp only [Bool.and_eq_true, beq_iff_eq, Bool.not_eq_true', decide_eq_true_eq] at h5
  obtain ⟨⟨⟨⟨⟨g1, g2⟩, g3⟩, g4⟩, g5⟩, g6⟩ := h5
  simp [Cond.before, Cond.holds, Cond.value, h1, h2, h3, h4, g1, g2, g3, g4, g5, g6]
def isCode : Jvm.Cond → Bool
  | .code _ _ _ _ => true
  | _ => false
theorem all_split {L : List Jvm.Cond} {P : Jvm.Cond → Bool} (h1 : L.all (fun c => isCode c || P c) = true) (h2 : ∀ c ∈ L.filter isCode, P c = true) : L.all P = true := by
  refine List.all_eq_true.mpr fun c hc => ?_
  have h := List.all_eq_true.mp h1 c hc
  rcases Bool.eq_false_or_eq_true (isCode c) with hi | hi
  · exact h2 c (List.mem_filter.mpr ⟨hc, hi⟩)
  · simpa [hi] using h
set_option maxRecDepth 65536 in
theorem w_c0 : (Jvm.Cond.code x code maxLocals ret).before args0 about1 = true := code_word (m := ⟨1, 1⟩) (meth := k1m1) (c := k1c1) (by decide +kernel) rfl rfl rfl (by decide +kernel)
set_option maxRecDepth 65536 in
theorem w_c1 : (Jvm.Cond.code ({ cls := "com/example/stint/stint/model/Relation", name := "boundsAbove", desc := "()Z" } : Jvm.MethodName) prog_47_method_8_code (1 : Nat) (Option.some Jvm.ClassFile.FieldType.boolean)).before args0 about1 = true := code_word (m := ⟨6, 0⟩) (meth := k6m0) (c := k6c0) (by decide +kernel) rfl rfl rfl (by decide +kernel)
set_option maxRecDepth 65536 in
theorem w_c2 : (Jvm.Cond.code ({ cls := "com/example/stint/stint/model/Relation", name := "holds", desc := "(JJ)Z" } : Jvm.MethodName) prog_47_method_11_code (6 : Nat) (Option.some Jvm.ClassFile.FieldType.boolean)).before args0 about1 = true := code_word (m := ⟨6, 1⟩) (meth := k6m1) (c := k6c1) (by decide +kernel) rfl rfl rfl (by decide +kernel)
set_option maxRecDepth 65536 in
theorem w_c3 : (Jvm.Cond.code ({ cls := "java/lang/Long", name := "compare", desc := "(JJ)I" } : Jvm.MethodName) jdk_35_method_42_code (4 : Nat) (Option.some Jvm.ClassFile.FieldType.int)).before args0 about1 = true := code_word (m := ⟨9, 0⟩) (meth := k9m0) (c := k9c0) (by decide +kernel) rfl rfl rfl (by decide +kernel)
set_option maxRecDepth 65536 in
theorem w_c4 : (Jvm.Cond.code ({ cls := "java/lang/Enum", name := "ordinal", desc := "()I" } : Jvm.MethodName) jdk_37_method_2_code (1 : Nat) (Option.some Jvm.ClassFile.FieldType.int)).before args0 about1 = true := code_word (m := ⟨5, 0⟩) (meth := k5m0) (c := k5c0) (by decide +kernel) rfl rfl rfl (by decide +kernel)
def codes1 : List Jvm.Cond := [Jvm.Cond.code x code maxLocals ret, Jvm.Cond.code ({ cls := "com/example/stint/stint/model/Relation", name := "boundsAbove", desc := "()Z" } : Jvm.MethodName) prog_47_method_8_code (1 : Nat) (Option.some Jvm.ClassFile.FieldType.boolean), Jvm.Cond.code ({ cls := "com/example/stint/stint/model/Relation", name := "holds", desc := "(JJ)Z" } : Jvm.MethodName) prog_47_method_11_code (6 : Nat) (Option.some Jvm.ClassFile.FieldType.boolean), Jvm.Cond.code ({ cls := "java/lang/Long", name := "compare", desc := "(JJ)I" } : Jvm.MethodName) jdk_35_method_42_code (4 : Nat) (Option.some Jvm.ClassFile.FieldType.int), Jvm.Cond.code ({ cls := "java/lang/Enum", name := "ordinal", desc := "()I" } : Jvm.MethodName) jdk_37_method_2_code (1 : Nat) (Option.some Jvm.ClassFile.FieldType.int)]
set_option maxRecDepth 65536 in
theorem codes_eq : words1.filter isCode = codes1 := rfl
theorem w_codes : ∀ c ∈ words1.filter isCode, c.before args0 about1 = true := by
  rw [codes_eq]
  intro c hc
  simp only [codes1, List.mem_cons, List.not_mem_nil, or_false] at hc
  rcases hc with rfl | rfl | rfl | rfl | rfl
  · exact w_c0
  · exact w_c1
  · exact w_c2
  · exact w_c3
  · exact w_c4
set_option maxRecDepth 65536 in
theorem w_t1 : (words1.take 24).all (fun c => isCode c || c.before args0 about1) = true := by decide +kernel
set_option maxRecDepth 65536 in
theorem w_t2 : (words1.drop 24).all (fun c => isCode c || c.before args0 about1) = true := by decide +kernel
theorem w_tables : (allAtoms (Jvm.Cond.code x code maxLocals ret :: tables_1)).before args0 about1 = true := by
  rw [allAtoms_all]
  show words1.all (fun c => c.before args0 about1) = true
  refine all_split ?_ w_codes
  rw [← List.take_append_drop 24 words1, List.all_append, w_t1, w_t2]
  rfl
set_option maxRecDepth 65536 in
theorem w_case : (Jvm.Cond.and given_1 narrow_1).before args0 about1 = true := by decide +kernel
theorem w_applies : (headSpec (Jvm.Cond.code x code maxLocals ret :: tables_1) room_1).applies x e0.platform about1 = true :=
  (Spec.applies_iff w_frames).mpr ⟨w_running, w_runnable, w_alone, w_named, w_hears, w_ripe, w_room, w_tables⟩
theorem atStart : AtStart classFile x code maxLocals ret World_1 tables_1 room_1 Calls_1 rest_1 Pre_1 launch0 p0 e0 about1 theMethod args0 below0 :=
  ⟨lists_1, trivial, launch0.admits_env _ _ _, launch0.least_env, fairChoices_fair.cas, fairChoices_fair.clock, w_frames, w_args, w_heap, w_applies, trivial, trivial, w_case⟩
end start1
theorem witness_1 : WitnessClaimed_1 := ⟨start1.p0, start1.e0, start1.about1, start1.theMethod, start1.args0, start1.below0, start1.atStart⟩
end Jvm.Pilot.@@N@@
