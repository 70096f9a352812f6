import JvmDerived
import JvmDerived.Pilot.@@N@@Statement
import JvmDerived.Pilot.@@N@@Code
set_option linter.unusedVariables false
set_option linter.unusedSimpArgs false
namespace Jvm.RoadKit
open Sem ClassFile Op Lib Jvm.Stand Jvm.Free Jvm.LawKit
section New
variable {p : Program} {l : Launch} {e : Env} {R : Room} {s : State} {m : MethodId} {args : Array Value} {below : List Frame} {meth : Method} {c : Code} {T : State} {locs : List Loc} {cells slots : Nat}
theorem retI (X : Stand p l e R s m args below meth c T locs cells slots) (hx : p.tables.exec = Jvm.exec) {pc : Nat} {Ls : Array Slot} {z : Int32} {rest : List Value} (hret : meth.sig.returnType = some .int) (hd : decode c.code pc = .ok (.ireturn, 1)) {fs : List Frame}
    (hl : ∀ (f : JFrame) (acts : List Action), f.method = m → f.locked = none → f.entered = [] → (doReturn e (T.setTop f) acts (some (.int z))).1 = T.setFrames fs) : Steps p.tables e below (T.setTop (mkF m pc Ls (.int z :: rest))) (T.setFrames fs) :=
  retOut X hx hret rfl (Or.inl ⟨rfl, Or.inl rfl, z, rfl⟩) hd hl
end New
end Jvm.RoadKit
namespace Jvm.Pilot.@@N@@
open Jvm Jvm.ClassFile Sem Op Lib Jvm.Free Jvm.Stand Jvm.LawKit Jvm.RoadKit Bundle Jvm.Pilot.@@N@@.Jvm.D
theorem W {a0 : Array Value} {Z : State} (hw : ∀ d ∈ tables_1, d.before a0 Z = true) (i : Nat) {d : Jvm.Cond} (h : tables_1[i]? = some d) : d.before a0 Z = true := hw d (List.mem_of_getElem? h)
theorem own_eqv {args : Array Value} {first s : State} {o : Option Outcome} {idx : List Nat} {a b : Term} {x : Value} (h : (Cond.eq a b).value args first o s idx = some true) (hb : b.eval args first o idx s = some x) : a.eval args first o idx s = some x := by
  simp only [Cond.value, hb] at h
  cases ha : a.eval args first o idx s with
  | none => rw [ha] at h; cases h
  | some y => rw [ha] at h; cases x <;> cases y <;> simp at h <;> first | rw [h] | rfl
theorem own_cat {v : Value} (h : v.isRef = true) : v.category = 1 := by rcases ref_cases h with rfl | ⟨a, rfl⟩ <;> rfl
def OL (val : Option Value) (n0 : Nat) (v : Option Value) (h : Heap) (L : List Loc) : Prop := v = val ∧ Fr n0 L
def OQ (val : Option Value) (h0 : Heap) (n0 : Nat) (v : Option Value) (h : Heap) (L : List Loc) : Prop := v = val ∧ Fr n0 L ∧ h = h0
theorem own_len {args : Array Value} {s : State} {t : Term} {x : Addr} {cl : Cell} {n : Int32} (hat : s.arrayAt? x = some cl) (ht : t.eval args s none [] s = some (.ref x)) (h : (Term.length t).eval args s none [] s = some (.int n)) : cl.slots.size < 2 ^ 31 ∧ cl.slots.size.toInt32 = n := by
  by_cases q : cl.slots.size < 2 ^ 31
  · rw [len_f ht hat q] at h; exact ⟨q, by injection h with h; injection h⟩
  · simp [Term.eval, ht, hat, q] at h
theorem own_elem {args : Array Value} {s : State} {t : Term} {x : Addr} {cl : Cell} {j : Int32} {v : Value} (hat : s.arrayAt? x = some cl) (ht : t.eval args s none [] s = some (.ref x)) (h : (Term.elem t (.int j)).eval args s none [] s = some v) (hn : ¬ j < 0) : cl.slots[j.toNatClampNeg]? = some v := by
  rw [elem_f ht (Term.int_eval j) hat hn] at h; exact h
def own_of (w : Nat → Addr) (p : Int32) : Value := if p = (49 : Int32) then .ref (w 2) else if p = (50 : Int32) then .ref (w 5) else if p = (51 : Int32) then .ref (w 1) else if p = (52 : Int32) then .ref (w 3) else if p = (53 : Int32) then .ref (w 4) else .null
theorem own_ref (w : Nat → Addr) (p : Int32) : (own_of w p).isRef = true := by
  simp only [own_of]; repeat' split
  all_goals rfl
theorem own_far {p : Int32} (h0 : ¬ (p = (49 : Int32))) (h1 : ¬ (p = (50 : Int32))) (h2 : ¬ (p = (51 : Int32))) (h3 : ¬ (p = (52 : Int32))) (h4 : ¬ (p = (53 : Int32))) (h : ¬ ((p - (49 : Int32)) < (0 : Int32))) : ¬ ((p - (49 : Int32)) < (5 : Int32)) := by
  have q := c_isub p (49 : Int32)
  have r := rng32 p
  simp only [← Int32.toInt_inj, Int32.lt_iff_toInt_lt, (by decide : (0 : Int32).toInt = 0), (by decide : (5 : Int32).toInt = 5), (by decide : (49 : Int32).toInt = 49), (by decide : (50 : Int32).toInt = 50), (by decide : (51 : Int32).toInt = 51), (by decide : (52 : Int32).toInt = 52), (by decide : (53 : Int32).toInt = 53)] at *
  omega
def Wd (Z : State) (w : Nat → Addr) (kk : Nat → ClassId) : Prop :=
  Sta Z Z.heap "com/example/tsunagi/tsunagi/model/CatpStatusClass" "ALL" "[Lcom/example/tsunagi/tsunagi/model/CatpStatusClass;" (.ref (w 0)) ∧
  Sta Z Z.heap "com/example/tsunagi/tsunagi/model/CatpStatusClass" "WARNING" "Lcom/example/tsunagi/tsunagi/model/CatpStatusClass;" (.ref (w 1)) ∧
  Exa Z Z.heap (w 1) "com/example/tsunagi/tsunagi/model/CatpStatusClass" ∧
  Sta Z Z.heap "com/example/tsunagi/tsunagi/model/CatpStatusClass" "RESERVED" "Lcom/example/tsunagi/tsunagi/model/CatpStatusClass;" (.ref (w 2)) ∧
  Exa Z Z.heap (w 2) "com/example/tsunagi/tsunagi/model/CatpStatusClass" ∧
  Sta Z Z.heap "com/example/tsunagi/tsunagi/model/CatpStatusClass" "CLIENT_ERROR" "Lcom/example/tsunagi/tsunagi/model/CatpStatusClass;" (.ref (w 3)) ∧
  Exa Z Z.heap (w 3) "com/example/tsunagi/tsunagi/model/CatpStatusClass" ∧
  Sta Z Z.heap "com/example/tsunagi/tsunagi/model/CatpStatusClass" "SERVER_ERROR" "Lcom/example/tsunagi/tsunagi/model/CatpStatusClass;" (.ref (w 4)) ∧
  Exa Z Z.heap (w 4) "com/example/tsunagi/tsunagi/model/CatpStatusClass" ∧
  Sta Z Z.heap "com/example/tsunagi/tsunagi/model/CatpStatusClass" "SUCCESS" "Lcom/example/tsunagi/tsunagi/model/CatpStatusClass;" (.ref (w 5)) ∧
  Exa Z Z.heap (w 5) "com/example/tsunagi/tsunagi/model/CatpStatusClass" ∧
  Arv Z Z.heap (w 0) (kk 0) (.object "com/example/tsunagi/tsunagi/model/CatpStatusClass") (5 : Int32) [(.ref (w 2)), (.ref (w 5)), (.ref (w 1)), (.ref (w 3)), (.ref (w 4))] .null
theorem d_prog_28_method_4_code_0 : decode prog_28_method_4_code 0 = .ok (.iload_n 0, 1) := by decide +kernel
theorem d_prog_28_method_4_code_1 : decode prog_28_method_4_code 1 = .ok (.bipush 49, 2) := by decide +kernel
theorem d_prog_28_method_4_code_3 : decode prog_28_method_4_code 3 = .ok (.isub, 1) := by decide +kernel
theorem lf_0 : ((49 : Int32) - (49 : Int32)) = (0 : Int32) := by decide
theorem d_prog_28_method_4_code_4 : decode prog_28_method_4_code 4 = .ok (.istore_n 1, 1) := by decide +kernel
theorem d_prog_28_method_4_code_5 : decode prog_28_method_4_code 5 = .ok (.iload_n 1, 1) := by decide +kernel
theorem d_prog_28_method_4_code_6 : decode prog_28_method_4_code 6 = .ok (.ifCond .lt 11, 3) := by decide +kernel
theorem d_prog_28_method_4_code_9 : decode prog_28_method_4_code 9 = .ok (.iload_n 1, 1) := by decide +kernel
theorem d_prog_28_method_4_code_10 : decode prog_28_method_4_code 10 = .ok (.getstatic 38, 3) := by decide +kernel
theorem d_prog_28_method_4_code_13 : decode prog_28_method_4_code 13 = .ok (.arraylength, 1) := by decide +kernel
theorem d_prog_28_method_4_code_14 : decode prog_28_method_4_code 14 = .ok (.if_icmp .lt 5, 3) := by decide +kernel
theorem d_prog_28_method_4_code_19 : decode prog_28_method_4_code 19 = .ok (.getstatic 38, 3) := by decide +kernel
theorem d_prog_28_method_4_code_22 : decode prog_28_method_4_code 22 = .ok (.iload_n 1, 1) := by decide +kernel
theorem d_prog_28_method_4_code_23 : decode prog_28_method_4_code 23 = .ok (.aaload, 1) := by decide +kernel
theorem d_prog_28_method_4_code_24 : decode prog_28_method_4_code 24 = .ok (.areturn, 1) := by decide +kernel
theorem ef_0 (m : MethodId) (x0 : Value) (h0 : x0.category = 1) : entryFrame m #[x0] 2 = mkF m 0 #[.val x0, .unset] [] := by first | (simp [entryFrame, mkF, argsToLocals, h0]; done) | rfl
theorem pn_0 : plainName "com/example/tsunagi/tsunagi/model/CatpStatusClass" = true := by first | (simp [plainName, overriddenIn]; done) | decide +kernel
set_option maxRecDepth 65536 in
set_option maxHeartbeats 40000000 in
theorem rm_1 (l : Launch) (Z : State) (a0 : Array Value) (hw : ∀ d ∈ tables_1, d.before a0 Z = true) (w : Nat → Addr) (kk : Nat → ClassId) (hN : Wd Z w kk) (ws : List Jvm.Cond)  (h0 : Heap) (O0 : Old Z Z.heap.size h0) :
    MetFree l (⟨"com/example/tsunagi/tsunagi/model/CatpStatusClass", "of", "(C)Lcom/example/tsunagi/tsunagi/model/CatpStatusClass;"⟩ : MethodName) (head1 (Jvm.Cond.code (⟨"com/example/tsunagi/tsunagi/model/CatpStatusClass", "of", "(C)Lcom/example/tsunagi/tsunagi/model/CatpStatusClass;"⟩ : MethodName) prog_28_method_4_code 2 (some (.object "com/example/tsunagi/tsunagi/model/CatpStatusClass")) :: ws) ({ frames := 0, cells := 0, slots := 0, locals := 0 } : Room)) (fun a U => a = #[(.int (49 : Int32))] ∧ Z.Warmed39 U.vm ∧ U.heap = h0) (fun _ _ _ _ _ => True) (fun _ U o U' => ∃ v L, o = .returned v ∧ OQ (some (.ref (w 2))) h0 Z.heap.size v U'.heap L ∧ FrameEnd U o U' L ({ frames := 0, cells := 0, slots := 0, locals := 0 } : Room).cells ({ frames := 0, cells := 0, slots := 0, locals := 0 } : Room).slots) := by
  have hN' := hN
  obtain ⟨hS0, hS1, hE1, hS2, hE2, hS3, hE3, hS4, hE4, hS5, hE5, hA0⟩ := hN'
  refine MetFree.of_bodySF (plainFor_of_name pn_0) hisR ?_
  intro p e s m args below meth c s₁ Bd hml0 hP hK
  obtain ⟨rfl, hZ, hh⟩ := hP
  have hx := Bd.exec
  have hby := Bd.bytes
  have hml : c.maxLocals = 2 := hml0
  have hown : s.vm.findClass "com/example/tsunagi/tsunagi/model/CatpStatusClass" = some m.cls := findClass_of_methodNamed Bd.named
  have hnm := (name_of_methodNamed Bd.named Bd.method).1
  have X0 : Stand p l e ({ frames := 0, cells := 0, slots := 0, locals := 0 } : Room) s m #[(.int (49 : Int32))] below meth c s₁ [] 0 0 := Stand.of_body Bd
  have e0 : s₁.heap = h0 := by rw [← hh, Bd.state]; rfl
  have N0 := Fr.nil Z.heap.size
  have pre0 : ∀ t, Steps p.tables e below (s₁.setTop (mkF m 0 #[.val (.int (49 : Int32)), .unset] [])) t → Steps p.tables e below (s₁.setTop (entryFrame m #[(.int (49 : Int32))] 2)) t := fun t k => castTop (ef_0 m (.int (49 : Int32)) rfl) k
  obtain ⟨T1, X1, e1, st1⟩ := getS2 X0 hx hZ hown (host := "") (Or.inl (W hw 5 rfl)) Via.refl e0 (hS0.ext O0.2) (g := (mkF m 10 #[.val (.int (49 : Int32)), .val (.int (0 : Int32))] [(.int (0 : Int32))])) rfl (hb hby d_prog_28_method_4_code_10)
  obtain ⟨cl2, Ar2, q2, Sz2, Ng2, Hv2, Gv2⟩ := (hA0.ext O0.2)
  obtain ⟨T3, X3, e3, st3⟩ := getS2 X1 hx hZ hown (host := "") (Or.inl (W hw 5 rfl)) Via.refl e1 (hS0.ext O0.2) (g := (mkF m 19 #[.val (.int (49 : Int32)), .val (.int (0 : Int32))] [])) rfl (hb hby d_prog_28_method_4_code_19)
  obtain ⟨cl4, Ar4, q4, Sz4, Ng4, Hv4, Gv4⟩ := (hA0.ext O0.2)
  have hin4 : ¬ ((0 : Int32) < 0 ∨ cl4.slots.size ≤ ((0 : Int32)).toNatClampNeg) := inb_of Sz4 ⟨by decide, by decide⟩
  have hat4 : cl4.slots[((0 : Int32)).toNatClampNeg]? = some (.ref (w 2)) := Has.at Hv4 hin4 (by rfl)
  obtain ⟨fs, hr, hrun, hended, hW, hsame⟩ := X3.leave (v := some (.ref (w 2))) (fun h => by rw [Bd.returns] at h; cases h)
  refine ⟨_, _, pre0 _ ?_, hrun, hended, _, _, rfl, ?_, ⟨_, rfl⟩, hW, hsame.mono (by decide) (by decide)⟩
  · show Steps p.tables e below (s₁.setTop (mkF m 0 #[.val (.int (49 : Int32)), .unset] [])) _
    refine XS.iloadN X0.here hx rfl (hb hby d_prog_28_method_4_code_0) rfl ?_
    show Steps p.tables e below (s₁.setTop (mkF m 1 #[.val (.int (49 : Int32)), .unset] [(.int (49 : Int32))])) _
    refine XS.bipush X0.here hx rfl (hb hby d_prog_28_method_4_code_1) ?_
    show Steps p.tables e below (s₁.setTop (mkF m 3 #[.val (.int (49 : Int32)), .unset] [(.int (49 : Int32)), (.int (49 : Int32))])) _
    refine XS.isub X0.here hx rfl (hb hby d_prog_28_method_4_code_3) rfl ?_
    show Steps p.tables e below (s₁.setTop (mkF m 4 #[.val (.int (49 : Int32)), .unset] [(.int ((49 : Int32) - (49 : Int32)))])) _
    rw [lf_0]
    show Steps p.tables e below (s₁.setTop (mkF m 4 #[.val (.int (49 : Int32)), .unset] [(.int (0 : Int32))])) _
    refine XS.istoreN X0.here hx rfl (hb hby d_prog_28_method_4_code_4) rfl (l' := #[.val (.int (49 : Int32)), .val (.int (0 : Int32))]) rfl ?_
    show Steps p.tables e below (s₁.setTop (mkF m 5 #[.val (.int (49 : Int32)), .val (.int (0 : Int32))] [])) _
    refine XS.iloadN X0.here hx rfl (hb hby d_prog_28_method_4_code_5) rfl ?_
    show Steps p.tables e below (s₁.setTop (mkF m 6 #[.val (.int (49 : Int32)), .val (.int (0 : Int32))] [(.int (0 : Int32))])) _
    refine XS.ifNo X0.here hx rfl (hb hby d_prog_28_method_4_code_6) rfl ((if0 _ _).trans (flt (by decide : ¬ ((0 : Int32) < (0 : Int32)))).1) ?_
    show Steps p.tables e below (s₁.setTop (mkF m 9 #[.val (.int (49 : Int32)), .val (.int (0 : Int32))] [])) _
    refine XS.iloadN X0.here hx rfl (hb hby d_prog_28_method_4_code_9) rfl ?_
    show Steps p.tables e below (s₁.setTop (mkF m 10 #[.val (.int (49 : Int32)), .val (.int (0 : Int32))] [(.int (0 : Int32))])) _
    refine st1 _ ?_
    show Steps p.tables e below (T1.setTop (mkF m 13 #[.val (.int (49 : Int32)), .val (.int (0 : Int32))] [(.ref (w 0)), (.int (0 : Int32))])) _
    refine X1.arraylength hx (by rw [e1]; exact Ar2.1) (State.isArrayOf_alike hZ.alike Ar2.2.1) (g := (mkF m 13 #[.val (.int (49 : Int32)), .val (.int (0 : Int32))] [(.ref (w 0)), (.int (0 : Int32))])) rfl rfl (hb hby d_prog_28_method_4_code_13) _ ?_
    rw [len_of Sz2 Ng2]
    show Steps p.tables e below (T1.setTop (mkF m 14 #[.val (.int (49 : Int32)), .val (.int (0 : Int32))] [(.int (5 : Int32)), (.int (0 : Int32))])) _
    refine XS.icmpYes X1.here hx rfl (pc0 := 14) (pc' := 19) rfl (hb hby d_prog_28_method_4_code_14) rfl (tlt (by decide : (0 : Int32) < (5 : Int32))).1 (by decide) (by decide) ?_
    show Steps p.tables e below (T1.setTop (mkF m 19 #[.val (.int (49 : Int32)), .val (.int (0 : Int32))] [])) _
    refine st3 _ ?_
    show Steps p.tables e below (T3.setTop (mkF m 22 #[.val (.int (49 : Int32)), .val (.int (0 : Int32))] [(.ref (w 0))])) _
    refine XS.iloadN X3.here hx rfl (hb hby d_prog_28_method_4_code_22) rfl ?_
    show Steps p.tables e below (T3.setTop (mkF m 23 #[.val (.int (49 : Int32)), .val (.int (0 : Int32))] [(.int (0 : Int32)), (.ref (w 0))])) _
    refine X3.aaload hx (j := (0 : Int32)) (v := (.ref (w 2))) (by rw [e3]; exact Ar4.1) (State.isArrayOf_alike hZ.alike Ar4.2.1) rfl Ar4.2.2 hin4 hat4 (g := (mkF m 23 #[.val (.int (49 : Int32)), .val (.int (0 : Int32))] [(.int (0 : Int32)), (.ref (w 0))])) rfl rfl (hb hby d_prog_28_method_4_code_23) _ ?_
    show Steps p.tables e below (T3.setTop (mkF m 24 #[.val (.int (49 : Int32)), .val (.int (0 : Int32))] [(.ref (w 2))])) _
    exact retOut X3 hx Bd.returns rfl (Or.inr (Or.inr (Or.inr (Or.inr ⟨rfl, rfl, rfl⟩)))) (hb hby d_prog_28_method_4_code_24) hr
  · show OQ (some (.ref (w 2))) h0 Z.heap.size _ T3.heap _
    rw [e3]
    exact ⟨rfl, N0, rfl⟩
theorem lf_1 : ((50 : Int32) - (49 : Int32)) = (1 : Int32) := by decide
set_option maxRecDepth 65536 in
set_option maxHeartbeats 40000000 in
theorem rm_2 (l : Launch) (Z : State) (a0 : Array Value) (hw : ∀ d ∈ tables_1, d.before a0 Z = true) (w : Nat → Addr) (kk : Nat → ClassId) (hN : Wd Z w kk) (ws : List Jvm.Cond)  (h0 : Heap) (O0 : Old Z Z.heap.size h0) :
    MetFree l (⟨"com/example/tsunagi/tsunagi/model/CatpStatusClass", "of", "(C)Lcom/example/tsunagi/tsunagi/model/CatpStatusClass;"⟩ : MethodName) (head1 (Jvm.Cond.code (⟨"com/example/tsunagi/tsunagi/model/CatpStatusClass", "of", "(C)Lcom/example/tsunagi/tsunagi/model/CatpStatusClass;"⟩ : MethodName) prog_28_method_4_code 2 (some (.object "com/example/tsunagi/tsunagi/model/CatpStatusClass")) :: ws) ({ frames := 0, cells := 0, slots := 0, locals := 0 } : Room)) (fun a U => a = #[(.int (50 : Int32))] ∧ Z.Warmed39 U.vm ∧ U.heap = h0) (fun _ _ _ _ _ => True) (fun _ U o U' => ∃ v L, o = .returned v ∧ OQ (some (.ref (w 5))) h0 Z.heap.size v U'.heap L ∧ FrameEnd U o U' L ({ frames := 0, cells := 0, slots := 0, locals := 0 } : Room).cells ({ frames := 0, cells := 0, slots := 0, locals := 0 } : Room).slots) := by
  have hN' := hN
  obtain ⟨hS0, hS1, hE1, hS2, hE2, hS3, hE3, hS4, hE4, hS5, hE5, hA0⟩ := hN'
  refine MetFree.of_bodySF (plainFor_of_name pn_0) hisR ?_
  intro p e s m args below meth c s₁ Bd hml0 hP hK
  obtain ⟨rfl, hZ, hh⟩ := hP
  have hx := Bd.exec
  have hby := Bd.bytes
  have hml : c.maxLocals = 2 := hml0
  have hown : s.vm.findClass "com/example/tsunagi/tsunagi/model/CatpStatusClass" = some m.cls := findClass_of_methodNamed Bd.named
  have hnm := (name_of_methodNamed Bd.named Bd.method).1
  have X0 : Stand p l e ({ frames := 0, cells := 0, slots := 0, locals := 0 } : Room) s m #[(.int (50 : Int32))] below meth c s₁ [] 0 0 := Stand.of_body Bd
  have e0 : s₁.heap = h0 := by rw [← hh, Bd.state]; rfl
  have N0 := Fr.nil Z.heap.size
  have pre0 : ∀ t, Steps p.tables e below (s₁.setTop (mkF m 0 #[.val (.int (50 : Int32)), .unset] [])) t → Steps p.tables e below (s₁.setTop (entryFrame m #[(.int (50 : Int32))] 2)) t := fun t k => castTop (ef_0 m (.int (50 : Int32)) rfl) k
  obtain ⟨T1, X1, e1, st1⟩ := getS2 X0 hx hZ hown (host := "") (Or.inl (W hw 5 rfl)) Via.refl e0 (hS0.ext O0.2) (g := (mkF m 10 #[.val (.int (50 : Int32)), .val (.int (1 : Int32))] [(.int (1 : Int32))])) rfl (hb hby d_prog_28_method_4_code_10)
  obtain ⟨cl2, Ar2, q2, Sz2, Ng2, Hv2, Gv2⟩ := (hA0.ext O0.2)
  obtain ⟨T3, X3, e3, st3⟩ := getS2 X1 hx hZ hown (host := "") (Or.inl (W hw 5 rfl)) Via.refl e1 (hS0.ext O0.2) (g := (mkF m 19 #[.val (.int (50 : Int32)), .val (.int (1 : Int32))] [])) rfl (hb hby d_prog_28_method_4_code_19)
  obtain ⟨cl4, Ar4, q4, Sz4, Ng4, Hv4, Gv4⟩ := (hA0.ext O0.2)
  have hin4 : ¬ ((1 : Int32) < 0 ∨ cl4.slots.size ≤ ((1 : Int32)).toNatClampNeg) := inb_of Sz4 ⟨by decide, by decide⟩
  have hat4 : cl4.slots[((1 : Int32)).toNatClampNeg]? = some (.ref (w 5)) := Has.at Hv4 hin4 (by rfl)
  obtain ⟨fs, hr, hrun, hended, hW, hsame⟩ := X3.leave (v := some (.ref (w 5))) (fun h => by rw [Bd.returns] at h; cases h)
  refine ⟨_, _, pre0 _ ?_, hrun, hended, _, _, rfl, ?_, ⟨_, rfl⟩, hW, hsame.mono (by decide) (by decide)⟩
  · show Steps p.tables e below (s₁.setTop (mkF m 0 #[.val (.int (50 : Int32)), .unset] [])) _
    refine XS.iloadN X0.here hx rfl (hb hby d_prog_28_method_4_code_0) rfl ?_
    show Steps p.tables e below (s₁.setTop (mkF m 1 #[.val (.int (50 : Int32)), .unset] [(.int (50 : Int32))])) _
    refine XS.bipush X0.here hx rfl (hb hby d_prog_28_method_4_code_1) ?_
    show Steps p.tables e below (s₁.setTop (mkF m 3 #[.val (.int (50 : Int32)), .unset] [(.int (49 : Int32)), (.int (50 : Int32))])) _
    refine XS.isub X0.here hx rfl (hb hby d_prog_28_method_4_code_3) rfl ?_
    show Steps p.tables e below (s₁.setTop (mkF m 4 #[.val (.int (50 : Int32)), .unset] [(.int ((50 : Int32) - (49 : Int32)))])) _
    rw [lf_1]
    show Steps p.tables e below (s₁.setTop (mkF m 4 #[.val (.int (50 : Int32)), .unset] [(.int (1 : Int32))])) _
    refine XS.istoreN X0.here hx rfl (hb hby d_prog_28_method_4_code_4) rfl (l' := #[.val (.int (50 : Int32)), .val (.int (1 : Int32))]) rfl ?_
    show Steps p.tables e below (s₁.setTop (mkF m 5 #[.val (.int (50 : Int32)), .val (.int (1 : Int32))] [])) _
    refine XS.iloadN X0.here hx rfl (hb hby d_prog_28_method_4_code_5) rfl ?_
    show Steps p.tables e below (s₁.setTop (mkF m 6 #[.val (.int (50 : Int32)), .val (.int (1 : Int32))] [(.int (1 : Int32))])) _
    refine XS.ifNo X0.here hx rfl (hb hby d_prog_28_method_4_code_6) rfl ((if0 _ _).trans (flt (by decide : ¬ ((1 : Int32) < (0 : Int32)))).1) ?_
    show Steps p.tables e below (s₁.setTop (mkF m 9 #[.val (.int (50 : Int32)), .val (.int (1 : Int32))] [])) _
    refine XS.iloadN X0.here hx rfl (hb hby d_prog_28_method_4_code_9) rfl ?_
    show Steps p.tables e below (s₁.setTop (mkF m 10 #[.val (.int (50 : Int32)), .val (.int (1 : Int32))] [(.int (1 : Int32))])) _
    refine st1 _ ?_
    show Steps p.tables e below (T1.setTop (mkF m 13 #[.val (.int (50 : Int32)), .val (.int (1 : Int32))] [(.ref (w 0)), (.int (1 : Int32))])) _
    refine X1.arraylength hx (by rw [e1]; exact Ar2.1) (State.isArrayOf_alike hZ.alike Ar2.2.1) (g := (mkF m 13 #[.val (.int (50 : Int32)), .val (.int (1 : Int32))] [(.ref (w 0)), (.int (1 : Int32))])) rfl rfl (hb hby d_prog_28_method_4_code_13) _ ?_
    rw [len_of Sz2 Ng2]
    show Steps p.tables e below (T1.setTop (mkF m 14 #[.val (.int (50 : Int32)), .val (.int (1 : Int32))] [(.int (5 : Int32)), (.int (1 : Int32))])) _
    refine XS.icmpYes X1.here hx rfl (pc0 := 14) (pc' := 19) rfl (hb hby d_prog_28_method_4_code_14) rfl (tlt (by decide : (1 : Int32) < (5 : Int32))).1 (by decide) (by decide) ?_
    show Steps p.tables e below (T1.setTop (mkF m 19 #[.val (.int (50 : Int32)), .val (.int (1 : Int32))] [])) _
    refine st3 _ ?_
    show Steps p.tables e below (T3.setTop (mkF m 22 #[.val (.int (50 : Int32)), .val (.int (1 : Int32))] [(.ref (w 0))])) _
    refine XS.iloadN X3.here hx rfl (hb hby d_prog_28_method_4_code_22) rfl ?_
    show Steps p.tables e below (T3.setTop (mkF m 23 #[.val (.int (50 : Int32)), .val (.int (1 : Int32))] [(.int (1 : Int32)), (.ref (w 0))])) _
    refine X3.aaload hx (j := (1 : Int32)) (v := (.ref (w 5))) (by rw [e3]; exact Ar4.1) (State.isArrayOf_alike hZ.alike Ar4.2.1) rfl Ar4.2.2 hin4 hat4 (g := (mkF m 23 #[.val (.int (50 : Int32)), .val (.int (1 : Int32))] [(.int (1 : Int32)), (.ref (w 0))])) rfl rfl (hb hby d_prog_28_method_4_code_23) _ ?_
    show Steps p.tables e below (T3.setTop (mkF m 24 #[.val (.int (50 : Int32)), .val (.int (1 : Int32))] [(.ref (w 5))])) _
    exact retOut X3 hx Bd.returns rfl (Or.inr (Or.inr (Or.inr (Or.inr ⟨rfl, rfl, rfl⟩)))) (hb hby d_prog_28_method_4_code_24) hr
  · show OQ (some (.ref (w 5))) h0 Z.heap.size _ T3.heap _
    rw [e3]
    exact ⟨rfl, N0, rfl⟩
theorem lf_2 : ((51 : Int32) - (49 : Int32)) = (2 : Int32) := by decide
set_option maxRecDepth 65536 in
set_option maxHeartbeats 40000000 in
theorem rm_3 (l : Launch) (Z : State) (a0 : Array Value) (hw : ∀ d ∈ tables_1, d.before a0 Z = true) (w : Nat → Addr) (kk : Nat → ClassId) (hN : Wd Z w kk) (ws : List Jvm.Cond)  (h0 : Heap) (O0 : Old Z Z.heap.size h0) :
    MetFree l (⟨"com/example/tsunagi/tsunagi/model/CatpStatusClass", "of", "(C)Lcom/example/tsunagi/tsunagi/model/CatpStatusClass;"⟩ : MethodName) (head1 (Jvm.Cond.code (⟨"com/example/tsunagi/tsunagi/model/CatpStatusClass", "of", "(C)Lcom/example/tsunagi/tsunagi/model/CatpStatusClass;"⟩ : MethodName) prog_28_method_4_code 2 (some (.object "com/example/tsunagi/tsunagi/model/CatpStatusClass")) :: ws) ({ frames := 0, cells := 0, slots := 0, locals := 0 } : Room)) (fun a U => a = #[(.int (51 : Int32))] ∧ Z.Warmed39 U.vm ∧ U.heap = h0) (fun _ _ _ _ _ => True) (fun _ U o U' => ∃ v L, o = .returned v ∧ OQ (some (.ref (w 1))) h0 Z.heap.size v U'.heap L ∧ FrameEnd U o U' L ({ frames := 0, cells := 0, slots := 0, locals := 0 } : Room).cells ({ frames := 0, cells := 0, slots := 0, locals := 0 } : Room).slots) := by
  have hN' := hN
  obtain ⟨hS0, hS1, hE1, hS2, hE2, hS3, hE3, hS4, hE4, hS5, hE5, hA0⟩ := hN'
  refine MetFree.of_bodySF (plainFor_of_name pn_0) hisR ?_
  intro p e s m args below meth c s₁ Bd hml0 hP hK
  obtain ⟨rfl, hZ, hh⟩ := hP
  have hx := Bd.exec
  have hby := Bd.bytes
  have hml : c.maxLocals = 2 := hml0
  have hown : s.vm.findClass "com/example/tsunagi/tsunagi/model/CatpStatusClass" = some m.cls := findClass_of_methodNamed Bd.named
  have hnm := (name_of_methodNamed Bd.named Bd.method).1
  have X0 : Stand p l e ({ frames := 0, cells := 0, slots := 0, locals := 0 } : Room) s m #[(.int (51 : Int32))] below meth c s₁ [] 0 0 := Stand.of_body Bd
  have e0 : s₁.heap = h0 := by rw [← hh, Bd.state]; rfl
  have N0 := Fr.nil Z.heap.size
  have pre0 : ∀ t, Steps p.tables e below (s₁.setTop (mkF m 0 #[.val (.int (51 : Int32)), .unset] [])) t → Steps p.tables e below (s₁.setTop (entryFrame m #[(.int (51 : Int32))] 2)) t := fun t k => castTop (ef_0 m (.int (51 : Int32)) rfl) k
  obtain ⟨T1, X1, e1, st1⟩ := getS2 X0 hx hZ hown (host := "") (Or.inl (W hw 5 rfl)) Via.refl e0 (hS0.ext O0.2) (g := (mkF m 10 #[.val (.int (51 : Int32)), .val (.int (2 : Int32))] [(.int (2 : Int32))])) rfl (hb hby d_prog_28_method_4_code_10)
  obtain ⟨cl2, Ar2, q2, Sz2, Ng2, Hv2, Gv2⟩ := (hA0.ext O0.2)
  obtain ⟨T3, X3, e3, st3⟩ := getS2 X1 hx hZ hown (host := "") (Or.inl (W hw 5 rfl)) Via.refl e1 (hS0.ext O0.2) (g := (mkF m 19 #[.val (.int (51 : Int32)), .val (.int (2 : Int32))] [])) rfl (hb hby d_prog_28_method_4_code_19)
  obtain ⟨cl4, Ar4, q4, Sz4, Ng4, Hv4, Gv4⟩ := (hA0.ext O0.2)
  have hin4 : ¬ ((2 : Int32) < 0 ∨ cl4.slots.size ≤ ((2 : Int32)).toNatClampNeg) := inb_of Sz4 ⟨by decide, by decide⟩
  have hat4 : cl4.slots[((2 : Int32)).toNatClampNeg]? = some (.ref (w 1)) := Has.at Hv4 hin4 (by rfl)
  obtain ⟨fs, hr, hrun, hended, hW, hsame⟩ := X3.leave (v := some (.ref (w 1))) (fun h => by rw [Bd.returns] at h; cases h)
  refine ⟨_, _, pre0 _ ?_, hrun, hended, _, _, rfl, ?_, ⟨_, rfl⟩, hW, hsame.mono (by decide) (by decide)⟩
  · show Steps p.tables e below (s₁.setTop (mkF m 0 #[.val (.int (51 : Int32)), .unset] [])) _
    refine XS.iloadN X0.here hx rfl (hb hby d_prog_28_method_4_code_0) rfl ?_
    show Steps p.tables e below (s₁.setTop (mkF m 1 #[.val (.int (51 : Int32)), .unset] [(.int (51 : Int32))])) _
    refine XS.bipush X0.here hx rfl (hb hby d_prog_28_method_4_code_1) ?_
    show Steps p.tables e below (s₁.setTop (mkF m 3 #[.val (.int (51 : Int32)), .unset] [(.int (49 : Int32)), (.int (51 : Int32))])) _
    refine XS.isub X0.here hx rfl (hb hby d_prog_28_method_4_code_3) rfl ?_
    show Steps p.tables e below (s₁.setTop (mkF m 4 #[.val (.int (51 : Int32)), .unset] [(.int ((51 : Int32) - (49 : Int32)))])) _
    rw [lf_2]
    show Steps p.tables e below (s₁.setTop (mkF m 4 #[.val (.int (51 : Int32)), .unset] [(.int (2 : Int32))])) _
    refine XS.istoreN X0.here hx rfl (hb hby d_prog_28_method_4_code_4) rfl (l' := #[.val (.int (51 : Int32)), .val (.int (2 : Int32))]) rfl ?_
    show Steps p.tables e below (s₁.setTop (mkF m 5 #[.val (.int (51 : Int32)), .val (.int (2 : Int32))] [])) _
    refine XS.iloadN X0.here hx rfl (hb hby d_prog_28_method_4_code_5) rfl ?_
    show Steps p.tables e below (s₁.setTop (mkF m 6 #[.val (.int (51 : Int32)), .val (.int (2 : Int32))] [(.int (2 : Int32))])) _
    refine XS.ifNo X0.here hx rfl (hb hby d_prog_28_method_4_code_6) rfl ((if0 _ _).trans (flt (by decide : ¬ ((2 : Int32) < (0 : Int32)))).1) ?_
    show Steps p.tables e below (s₁.setTop (mkF m 9 #[.val (.int (51 : Int32)), .val (.int (2 : Int32))] [])) _
    refine XS.iloadN X0.here hx rfl (hb hby d_prog_28_method_4_code_9) rfl ?_
    show Steps p.tables e below (s₁.setTop (mkF m 10 #[.val (.int (51 : Int32)), .val (.int (2 : Int32))] [(.int (2 : Int32))])) _
    refine st1 _ ?_
    show Steps p.tables e below (T1.setTop (mkF m 13 #[.val (.int (51 : Int32)), .val (.int (2 : Int32))] [(.ref (w 0)), (.int (2 : Int32))])) _
    refine X1.arraylength hx (by rw [e1]; exact Ar2.1) (State.isArrayOf_alike hZ.alike Ar2.2.1) (g := (mkF m 13 #[.val (.int (51 : Int32)), .val (.int (2 : Int32))] [(.ref (w 0)), (.int (2 : Int32))])) rfl rfl (hb hby d_prog_28_method_4_code_13) _ ?_
    rw [len_of Sz2 Ng2]
    show Steps p.tables e below (T1.setTop (mkF m 14 #[.val (.int (51 : Int32)), .val (.int (2 : Int32))] [(.int (5 : Int32)), (.int (2 : Int32))])) _
    refine XS.icmpYes X1.here hx rfl (pc0 := 14) (pc' := 19) rfl (hb hby d_prog_28_method_4_code_14) rfl (tlt (by decide : (2 : Int32) < (5 : Int32))).1 (by decide) (by decide) ?_
    show Steps p.tables e below (T1.setTop (mkF m 19 #[.val (.int (51 : Int32)), .val (.int (2 : Int32))] [])) _
    refine st3 _ ?_
    show Steps p.tables e below (T3.setTop (mkF m 22 #[.val (.int (51 : Int32)), .val (.int (2 : Int32))] [(.ref (w 0))])) _
    refine XS.iloadN X3.here hx rfl (hb hby d_prog_28_method_4_code_22) rfl ?_
    show Steps p.tables e below (T3.setTop (mkF m 23 #[.val (.int (51 : Int32)), .val (.int (2 : Int32))] [(.int (2 : Int32)), (.ref (w 0))])) _
    refine X3.aaload hx (j := (2 : Int32)) (v := (.ref (w 1))) (by rw [e3]; exact Ar4.1) (State.isArrayOf_alike hZ.alike Ar4.2.1) rfl Ar4.2.2 hin4 hat4 (g := (mkF m 23 #[.val (.int (51 : Int32)), .val (.int (2 : Int32))] [(.int (2 : Int32)), (.ref (w 0))])) rfl rfl (hb hby d_prog_28_method_4_code_23) _ ?_
    show Steps p.tables e below (T3.setTop (mkF m 24 #[.val (.int (51 : Int32)), .val (.int (2 : Int32))] [(.ref (w 1))])) _
    exact retOut X3 hx Bd.returns rfl (Or.inr (Or.inr (Or.inr (Or.inr ⟨rfl, rfl, rfl⟩)))) (hb hby d_prog_28_method_4_code_24) hr
  · show OQ (some (.ref (w 1))) h0 Z.heap.size _ T3.heap _
    rw [e3]
    exact ⟨rfl, N0, rfl⟩
theorem lf_3 : ((52 : Int32) - (49 : Int32)) = (3 : Int32) := by decide
set_option maxRecDepth 65536 in
set_option maxHeartbeats 40000000 in
theorem rm_4 (l : Launch) (Z : State) (a0 : Array Value) (hw : ∀ d ∈ tables_1, d.before a0 Z = true) (w : Nat → Addr) (kk : Nat → ClassId) (hN : Wd Z w kk) (ws : List Jvm.Cond)  (h0 : Heap) (O0 : Old Z Z.heap.size h0) :
    MetFree l (⟨"com/example/tsunagi/tsunagi/model/CatpStatusClass", "of", "(C)Lcom/example/tsunagi/tsunagi/model/CatpStatusClass;"⟩ : MethodName) (head1 (Jvm.Cond.code (⟨"com/example/tsunagi/tsunagi/model/CatpStatusClass", "of", "(C)Lcom/example/tsunagi/tsunagi/model/CatpStatusClass;"⟩ : MethodName) prog_28_method_4_code 2 (some (.object "com/example/tsunagi/tsunagi/model/CatpStatusClass")) :: ws) ({ frames := 0, cells := 0, slots := 0, locals := 0 } : Room)) (fun a U => a = #[(.int (52 : Int32))] ∧ Z.Warmed39 U.vm ∧ U.heap = h0) (fun _ _ _ _ _ => True) (fun _ U o U' => ∃ v L, o = .returned v ∧ OQ (some (.ref (w 3))) h0 Z.heap.size v U'.heap L ∧ FrameEnd U o U' L ({ frames := 0, cells := 0, slots := 0, locals := 0 } : Room).cells ({ frames := 0, cells := 0, slots := 0, locals := 0 } : Room).slots) := by
  have hN' := hN
  obtain ⟨hS0, hS1, hE1, hS2, hE2, hS3, hE3, hS4, hE4, hS5, hE5, hA0⟩ := hN'
  refine MetFree.of_bodySF (plainFor_of_name pn_0) hisR ?_
  intro p e s m args below meth c s₁ Bd hml0 hP hK
  obtain ⟨rfl, hZ, hh⟩ := hP
  have hx := Bd.exec
  have hby := Bd.bytes
  have hml : c.maxLocals = 2 := hml0
  have hown : s.vm.findClass "com/example/tsunagi/tsunagi/model/CatpStatusClass" = some m.cls := findClass_of_methodNamed Bd.named
  have hnm := (name_of_methodNamed Bd.named Bd.method).1
  have X0 : Stand p l e ({ frames := 0, cells := 0, slots := 0, locals := 0 } : Room) s m #[(.int (52 : Int32))] below meth c s₁ [] 0 0 := Stand.of_body Bd
  have e0 : s₁.heap = h0 := by rw [← hh, Bd.state]; rfl
  have N0 := Fr.nil Z.heap.size
  have pre0 : ∀ t, Steps p.tables e below (s₁.setTop (mkF m 0 #[.val (.int (52 : Int32)), .unset] [])) t → Steps p.tables e below (s₁.setTop (entryFrame m #[(.int (52 : Int32))] 2)) t := fun t k => castTop (ef_0 m (.int (52 : Int32)) rfl) k
  obtain ⟨T1, X1, e1, st1⟩ := getS2 X0 hx hZ hown (host := "") (Or.inl (W hw 5 rfl)) Via.refl e0 (hS0.ext O0.2) (g := (mkF m 10 #[.val (.int (52 : Int32)), .val (.int (3 : Int32))] [(.int (3 : Int32))])) rfl (hb hby d_prog_28_method_4_code_10)
  obtain ⟨cl2, Ar2, q2, Sz2, Ng2, Hv2, Gv2⟩ := (hA0.ext O0.2)
  obtain ⟨T3, X3, e3, st3⟩ := getS2 X1 hx hZ hown (host := "") (Or.inl (W hw 5 rfl)) Via.refl e1 (hS0.ext O0.2) (g := (mkF m 19 #[.val (.int (52 : Int32)), .val (.int (3 : Int32))] [])) rfl (hb hby d_prog_28_method_4_code_19)
  obtain ⟨cl4, Ar4, q4, Sz4, Ng4, Hv4, Gv4⟩ := (hA0.ext O0.2)
  have hin4 : ¬ ((3 : Int32) < 0 ∨ cl4.slots.size ≤ ((3 : Int32)).toNatClampNeg) := inb_of Sz4 ⟨by decide, by decide⟩
  have hat4 : cl4.slots[((3 : Int32)).toNatClampNeg]? = some (.ref (w 3)) := Has.at Hv4 hin4 (by rfl)
  obtain ⟨fs, hr, hrun, hended, hW, hsame⟩ := X3.leave (v := some (.ref (w 3))) (fun h => by rw [Bd.returns] at h; cases h)
  refine ⟨_, _, pre0 _ ?_, hrun, hended, _, _, rfl, ?_, ⟨_, rfl⟩, hW, hsame.mono (by decide) (by decide)⟩
  · show Steps p.tables e below (s₁.setTop (mkF m 0 #[.val (.int (52 : Int32)), .unset] [])) _
    refine XS.iloadN X0.here hx rfl (hb hby d_prog_28_method_4_code_0) rfl ?_
    show Steps p.tables e below (s₁.setTop (mkF m 1 #[.val (.int (52 : Int32)), .unset] [(.int (52 : Int32))])) _
    refine XS.bipush X0.here hx rfl (hb hby d_prog_28_method_4_code_1) ?_
    show Steps p.tables e below (s₁.setTop (mkF m 3 #[.val (.int (52 : Int32)), .unset] [(.int (49 : Int32)), (.int (52 : Int32))])) _
    refine XS.isub X0.here hx rfl (hb hby d_prog_28_method_4_code_3) rfl ?_
    show Steps p.tables e below (s₁.setTop (mkF m 4 #[.val (.int (52 : Int32)), .unset] [(.int ((52 : Int32) - (49 : Int32)))])) _
    rw [lf_3]
    show Steps p.tables e below (s₁.setTop (mkF m 4 #[.val (.int (52 : Int32)), .unset] [(.int (3 : Int32))])) _
    refine XS.istoreN X0.here hx rfl (hb hby d_prog_28_method_4_code_4) rfl (l' := #[.val (.int (52 : Int32)), .val (.int (3 : Int32))]) rfl ?_
    show Steps p.tables e below (s₁.setTop (mkF m 5 #[.val (.int (52 : Int32)), .val (.int (3 : Int32))] [])) _
    refine XS.iloadN X0.here hx rfl (hb hby d_prog_28_method_4_code_5) rfl ?_
    show Steps p.tables e below (s₁.setTop (mkF m 6 #[.val (.int (52 : Int32)), .val (.int (3 : Int32))] [(.int (3 : Int32))])) _
    refine XS.ifNo X0.here hx rfl (hb hby d_prog_28_method_4_code_6) rfl ((if0 _ _).trans (flt (by decide : ¬ ((3 : Int32) < (0 : Int32)))).1) ?_
    show Steps p.tables e below (s₁.setTop (mkF m 9 #[.val (.int (52 : Int32)), .val (.int (3 : Int32))] [])) _
    refine XS.iloadN X0.here hx rfl (hb hby d_prog_28_method_4_code_9) rfl ?_
    show Steps p.tables e below (s₁.setTop (mkF m 10 #[.val (.int (52 : Int32)), .val (.int (3 : Int32))] [(.int (3 : Int32))])) _
    refine st1 _ ?_
    show Steps p.tables e below (T1.setTop (mkF m 13 #[.val (.int (52 : Int32)), .val (.int (3 : Int32))] [(.ref (w 0)), (.int (3 : Int32))])) _
    refine X1.arraylength hx (by rw [e1]; exact Ar2.1) (State.isArrayOf_alike hZ.alike Ar2.2.1) (g := (mkF m 13 #[.val (.int (52 : Int32)), .val (.int (3 : Int32))] [(.ref (w 0)), (.int (3 : Int32))])) rfl rfl (hb hby d_prog_28_method_4_code_13) _ ?_
    rw [len_of Sz2 Ng2]
    show Steps p.tables e below (T1.setTop (mkF m 14 #[.val (.int (52 : Int32)), .val (.int (3 : Int32))] [(.int (5 : Int32)), (.int (3 : Int32))])) _
    refine XS.icmpYes X1.here hx rfl (pc0 := 14) (pc' := 19) rfl (hb hby d_prog_28_method_4_code_14) rfl (tlt (by decide : (3 : Int32) < (5 : Int32))).1 (by decide) (by decide) ?_
    show Steps p.tables e below (T1.setTop (mkF m 19 #[.val (.int (52 : Int32)), .val (.int (3 : Int32))] [])) _
    refine st3 _ ?_
    show Steps p.tables e below (T3.setTop (mkF m 22 #[.val (.int (52 : Int32)), .val (.int (3 : Int32))] [(.ref (w 0))])) _
    refine XS.iloadN X3.here hx rfl (hb hby d_prog_28_method_4_code_22) rfl ?_
    show Steps p.tables e below (T3.setTop (mkF m 23 #[.val (.int (52 : Int32)), .val (.int (3 : Int32))] [(.int (3 : Int32)), (.ref (w 0))])) _
    refine X3.aaload hx (j := (3 : Int32)) (v := (.ref (w 3))) (by rw [e3]; exact Ar4.1) (State.isArrayOf_alike hZ.alike Ar4.2.1) rfl Ar4.2.2 hin4 hat4 (g := (mkF m 23 #[.val (.int (52 : Int32)), .val (.int (3 : Int32))] [(.int (3 : Int32)), (.ref (w 0))])) rfl rfl (hb hby d_prog_28_method_4_code_23) _ ?_
    show Steps p.tables e below (T3.setTop (mkF m 24 #[.val (.int (52 : Int32)), .val (.int (3 : Int32))] [(.ref (w 3))])) _
    exact retOut X3 hx Bd.returns rfl (Or.inr (Or.inr (Or.inr (Or.inr ⟨rfl, rfl, rfl⟩)))) (hb hby d_prog_28_method_4_code_24) hr
  · show OQ (some (.ref (w 3))) h0 Z.heap.size _ T3.heap _
    rw [e3]
    exact ⟨rfl, N0, rfl⟩
theorem lf_4 : ((53 : Int32) - (49 : Int32)) = (4 : Int32) := by decide
set_option maxRecDepth 65536 in
set_option maxHeartbeats 40000000 in
theorem rm_5 (l : Launch) (Z : State) (a0 : Array Value) (hw : ∀ d ∈ tables_1, d.before a0 Z = true) (w : Nat → Addr) (kk : Nat → ClassId) (hN : Wd Z w kk) (ws : List Jvm.Cond)  (h0 : Heap) (O0 : Old Z Z.heap.size h0) :
    MetFree l (⟨"com/example/tsunagi/tsunagi/model/CatpStatusClass", "of", "(C)Lcom/example/tsunagi/tsunagi/model/CatpStatusClass;"⟩ : MethodName) (head1 (Jvm.Cond.code (⟨"com/example/tsunagi/tsunagi/model/CatpStatusClass", "of", "(C)Lcom/example/tsunagi/tsunagi/model/CatpStatusClass;"⟩ : MethodName) prog_28_method_4_code 2 (some (.object "com/example/tsunagi/tsunagi/model/CatpStatusClass")) :: ws) ({ frames := 0, cells := 0, slots := 0, locals := 0 } : Room)) (fun a U => a = #[(.int (53 : Int32))] ∧ Z.Warmed39 U.vm ∧ U.heap = h0) (fun _ _ _ _ _ => True) (fun _ U o U' => ∃ v L, o = .returned v ∧ OQ (some (.ref (w 4))) h0 Z.heap.size v U'.heap L ∧ FrameEnd U o U' L ({ frames := 0, cells := 0, slots := 0, locals := 0 } : Room).cells ({ frames := 0, cells := 0, slots := 0, locals := 0 } : Room).slots) := by
  have hN' := hN
  obtain ⟨hS0, hS1, hE1, hS2, hE2, hS3, hE3, hS4, hE4, hS5, hE5, hA0⟩ := hN'
  refine MetFree.of_bodySF (plainFor_of_name pn_0) hisR ?_
  intro p e s m args below meth c s₁ Bd hml0 hP hK
  obtain ⟨rfl, hZ, hh⟩ := hP
  have hx := Bd.exec
  have hby := Bd.bytes
  have hml : c.maxLocals = 2 := hml0
  have hown : s.vm.findClass "com/example/tsunagi/tsunagi/model/CatpStatusClass" = some m.cls := findClass_of_methodNamed Bd.named
  have hnm := (name_of_methodNamed Bd.named Bd.method).1
  have X0 : Stand p l e ({ frames := 0, cells := 0, slots := 0, locals := 0 } : Room) s m #[(.int (53 : Int32))] below meth c s₁ [] 0 0 := Stand.of_body Bd
  have e0 : s₁.heap = h0 := by rw [← hh, Bd.state]; rfl
  have N0 := Fr.nil Z.heap.size
  have pre0 : ∀ t, Steps p.tables e below (s₁.setTop (mkF m 0 #[.val (.int (53 : Int32)), .unset] [])) t → Steps p.tables e below (s₁.setTop (entryFrame m #[(.int (53 : Int32))] 2)) t := fun t k => castTop (ef_0 m (.int (53 : Int32)) rfl) k
  obtain ⟨T1, X1, e1, st1⟩ := getS2 X0 hx hZ hown (host := "") (Or.inl (W hw 5 rfl)) Via.refl e0 (hS0.ext O0.2) (g := (mkF m 10 #[.val (.int (53 : Int32)), .val (.int (4 : Int32))] [(.int (4 : Int32))])) rfl (hb hby d_prog_28_method_4_code_10)
  obtain ⟨cl2, Ar2, q2, Sz2, Ng2, Hv2, Gv2⟩ := (hA0.ext O0.2)
  obtain ⟨T3, X3, e3, st3⟩ := getS2 X1 hx hZ hown (host := "") (Or.inl (W hw 5 rfl)) Via.refl e1 (hS0.ext O0.2) (g := (mkF m 19 #[.val (.int (53 : Int32)), .val (.int (4 : Int32))] [])) rfl (hb hby d_prog_28_method_4_code_19)
  obtain ⟨cl4, Ar4, q4, Sz4, Ng4, Hv4, Gv4⟩ := (hA0.ext O0.2)
  have hin4 : ¬ ((4 : Int32) < 0 ∨ cl4.slots.size ≤ ((4 : Int32)).toNatClampNeg) := inb_of Sz4 ⟨by decide, by decide⟩
  have hat4 : cl4.slots[((4 : Int32)).toNatClampNeg]? = some (.ref (w 4)) := Has.at Hv4 hin4 (by rfl)
  obtain ⟨fs, hr, hrun, hended, hW, hsame⟩ := X3.leave (v := some (.ref (w 4))) (fun h => by rw [Bd.returns] at h; cases h)
  refine ⟨_, _, pre0 _ ?_, hrun, hended, _, _, rfl, ?_, ⟨_, rfl⟩, hW, hsame.mono (by decide) (by decide)⟩
  · show Steps p.tables e below (s₁.setTop (mkF m 0 #[.val (.int (53 : Int32)), .unset] [])) _
    refine XS.iloadN X0.here hx rfl (hb hby d_prog_28_method_4_code_0) rfl ?_
    show Steps p.tables e below (s₁.setTop (mkF m 1 #[.val (.int (53 : Int32)), .unset] [(.int (53 : Int32))])) _
    refine XS.bipush X0.here hx rfl (hb hby d_prog_28_method_4_code_1) ?_
    show Steps p.tables e below (s₁.setTop (mkF m 3 #[.val (.int (53 : Int32)), .unset] [(.int (49 : Int32)), (.int (53 : Int32))])) _
    refine XS.isub X0.here hx rfl (hb hby d_prog_28_method_4_code_3) rfl ?_
    show Steps p.tables e below (s₁.setTop (mkF m 4 #[.val (.int (53 : Int32)), .unset] [(.int ((53 : Int32) - (49 : Int32)))])) _
    rw [lf_4]
    show Steps p.tables e below (s₁.setTop (mkF m 4 #[.val (.int (53 : Int32)), .unset] [(.int (4 : Int32))])) _
    refine XS.istoreN X0.here hx rfl (hb hby d_prog_28_method_4_code_4) rfl (l' := #[.val (.int (53 : Int32)), .val (.int (4 : Int32))]) rfl ?_
    show Steps p.tables e below (s₁.setTop (mkF m 5 #[.val (.int (53 : Int32)), .val (.int (4 : Int32))] [])) _
    refine XS.iloadN X0.here hx rfl (hb hby d_prog_28_method_4_code_5) rfl ?_
    show Steps p.tables e below (s₁.setTop (mkF m 6 #[.val (.int (53 : Int32)), .val (.int (4 : Int32))] [(.int (4 : Int32))])) _
    refine XS.ifNo X0.here hx rfl (hb hby d_prog_28_method_4_code_6) rfl ((if0 _ _).trans (flt (by decide : ¬ ((4 : Int32) < (0 : Int32)))).1) ?_
    show Steps p.tables e below (s₁.setTop (mkF m 9 #[.val (.int (53 : Int32)), .val (.int (4 : Int32))] [])) _
    refine XS.iloadN X0.here hx rfl (hb hby d_prog_28_method_4_code_9) rfl ?_
    show Steps p.tables e below (s₁.setTop (mkF m 10 #[.val (.int (53 : Int32)), .val (.int (4 : Int32))] [(.int (4 : Int32))])) _
    refine st1 _ ?_
    show Steps p.tables e below (T1.setTop (mkF m 13 #[.val (.int (53 : Int32)), .val (.int (4 : Int32))] [(.ref (w 0)), (.int (4 : Int32))])) _
    refine X1.arraylength hx (by rw [e1]; exact Ar2.1) (State.isArrayOf_alike hZ.alike Ar2.2.1) (g := (mkF m 13 #[.val (.int (53 : Int32)), .val (.int (4 : Int32))] [(.ref (w 0)), (.int (4 : Int32))])) rfl rfl (hb hby d_prog_28_method_4_code_13) _ ?_
    rw [len_of Sz2 Ng2]
    show Steps p.tables e below (T1.setTop (mkF m 14 #[.val (.int (53 : Int32)), .val (.int (4 : Int32))] [(.int (5 : Int32)), (.int (4 : Int32))])) _
    refine XS.icmpYes X1.here hx rfl (pc0 := 14) (pc' := 19) rfl (hb hby d_prog_28_method_4_code_14) rfl (tlt (by decide : (4 : Int32) < (5 : Int32))).1 (by decide) (by decide) ?_
    show Steps p.tables e below (T1.setTop (mkF m 19 #[.val (.int (53 : Int32)), .val (.int (4 : Int32))] [])) _
    refine st3 _ ?_
    show Steps p.tables e below (T3.setTop (mkF m 22 #[.val (.int (53 : Int32)), .val (.int (4 : Int32))] [(.ref (w 0))])) _
    refine XS.iloadN X3.here hx rfl (hb hby d_prog_28_method_4_code_22) rfl ?_
    show Steps p.tables e below (T3.setTop (mkF m 23 #[.val (.int (53 : Int32)), .val (.int (4 : Int32))] [(.int (4 : Int32)), (.ref (w 0))])) _
    refine X3.aaload hx (j := (4 : Int32)) (v := (.ref (w 4))) (by rw [e3]; exact Ar4.1) (State.isArrayOf_alike hZ.alike Ar4.2.1) rfl Ar4.2.2 hin4 hat4 (g := (mkF m 23 #[.val (.int (53 : Int32)), .val (.int (4 : Int32))] [(.int (4 : Int32)), (.ref (w 0))])) rfl rfl (hb hby d_prog_28_method_4_code_23) _ ?_
    show Steps p.tables e below (T3.setTop (mkF m 24 #[.val (.int (53 : Int32)), .val (.int (4 : Int32))] [(.ref (w 4))])) _
    exact retOut X3 hx Bd.returns rfl (Or.inr (Or.inr (Or.inr (Or.inr ⟨rfl, rfl, rfl⟩)))) (hb hby d_prog_28_method_4_code_24) hr
  · show OQ (some (.ref (w 4))) h0 Z.heap.size _ T3.heap _
    rw [e3]
    exact ⟨rfl, N0, rfl⟩
theorem d_prog_28_method_4_code_17 : decode prog_28_method_4_code 17 = .ok (.aconst_null, 1) := by decide +kernel
theorem d_prog_28_method_4_code_18 : decode prog_28_method_4_code 18 = .ok (.areturn, 1) := by decide +kernel
set_option maxRecDepth 65536 in
set_option maxHeartbeats 40000000 in
theorem rm_6 (l : Launch) (Z : State) (a0 : Array Value) (hw : ∀ d ∈ tables_1, d.before a0 Z = true) (w : Nat → Addr) (kk : Nat → ClassId) (hN : Wd Z w kk) (ws : List Jvm.Cond) (p0 : Int32) (h0 : Heap) (O0 : Old Z Z.heap.size h0) (hp0 : (p0 - (49 : Int32)) < (0 : Int32)) :
    MetFree l (⟨"com/example/tsunagi/tsunagi/model/CatpStatusClass", "of", "(C)Lcom/example/tsunagi/tsunagi/model/CatpStatusClass;"⟩ : MethodName) (head1 (Jvm.Cond.code (⟨"com/example/tsunagi/tsunagi/model/CatpStatusClass", "of", "(C)Lcom/example/tsunagi/tsunagi/model/CatpStatusClass;"⟩ : MethodName) prog_28_method_4_code 2 (some (.object "com/example/tsunagi/tsunagi/model/CatpStatusClass")) :: ws) ({ frames := 0, cells := 0, slots := 0, locals := 0 } : Room)) (fun a U => a = #[(.int p0)] ∧ Z.Warmed39 U.vm ∧ U.heap = h0) (fun _ _ _ _ _ => True) (fun _ U o U' => ∃ v L, o = .returned v ∧ OQ (some .null) h0 Z.heap.size v U'.heap L ∧ FrameEnd U o U' L ({ frames := 0, cells := 0, slots := 0, locals := 0 } : Room).cells ({ frames := 0, cells := 0, slots := 0, locals := 0 } : Room).slots) := by
  have hN' := hN
  obtain ⟨hS0, hS1, hE1, hS2, hE2, hS3, hE3, hS4, hE4, hS5, hE5, hA0⟩ := hN'
  refine MetFree.of_bodySF (plainFor_of_name pn_0) hisR ?_
  intro p e s m args below meth c s₁ Bd hml0 hP hK
  obtain ⟨rfl, hZ, hh⟩ := hP
  have hx := Bd.exec
  have hby := Bd.bytes
  have hml : c.maxLocals = 2 := hml0
  have hown : s.vm.findClass "com/example/tsunagi/tsunagi/model/CatpStatusClass" = some m.cls := findClass_of_methodNamed Bd.named
  have hnm := (name_of_methodNamed Bd.named Bd.method).1
  have X0 : Stand p l e ({ frames := 0, cells := 0, slots := 0, locals := 0 } : Room) s m #[(.int p0)] below meth c s₁ [] 0 0 := Stand.of_body Bd
  have e0 : s₁.heap = h0 := by rw [← hh, Bd.state]; rfl
  have N0 := Fr.nil Z.heap.size
  have pre0 : ∀ t, Steps p.tables e below (s₁.setTop (mkF m 0 #[.val (.int p0), .unset] [])) t → Steps p.tables e below (s₁.setTop (entryFrame m #[(.int p0)] 2)) t := fun t k => castTop (ef_0 m (.int p0) rfl) k
  obtain ⟨fs, hr, hrun, hended, hW, hsame⟩ := X0.leave (v := some .null) (fun h => by rw [Bd.returns] at h; cases h)
  refine ⟨_, _, pre0 _ ?_, hrun, hended, _, _, rfl, ?_, ⟨_, rfl⟩, hW, hsame.mono (by decide) (by decide)⟩
  · show Steps p.tables e below (s₁.setTop (mkF m 0 #[.val (.int p0), .unset] [])) _
    refine XS.iloadN X0.here hx rfl (hb hby d_prog_28_method_4_code_0) rfl ?_
    show Steps p.tables e below (s₁.setTop (mkF m 1 #[.val (.int p0), .unset] [(.int p0)])) _
    refine XS.bipush X0.here hx rfl (hb hby d_prog_28_method_4_code_1) ?_
    show Steps p.tables e below (s₁.setTop (mkF m 3 #[.val (.int p0), .unset] [(.int (49 : Int32)), (.int p0)])) _
    refine XS.isub X0.here hx rfl (hb hby d_prog_28_method_4_code_3) rfl ?_
    show Steps p.tables e below (s₁.setTop (mkF m 4 #[.val (.int p0), .unset] [(.int (p0 - (49 : Int32)))])) _
    refine XS.istoreN X0.here hx rfl (hb hby d_prog_28_method_4_code_4) rfl (l' := #[.val (.int p0), .val (.int (p0 - (49 : Int32)))]) rfl ?_
    show Steps p.tables e below (s₁.setTop (mkF m 5 #[.val (.int p0), .val (.int (p0 - (49 : Int32)))] [])) _
    refine XS.iloadN X0.here hx rfl (hb hby d_prog_28_method_4_code_5) rfl ?_
    show Steps p.tables e below (s₁.setTop (mkF m 6 #[.val (.int p0), .val (.int (p0 - (49 : Int32)))] [(.int (p0 - (49 : Int32)))])) _
    refine XS.ifYes X0.here hx rfl (pc0 := 6) (pc' := 17) rfl (hb hby d_prog_28_method_4_code_6) rfl ((if0 _ _).trans (tlt hp0).1) (by decide) (by decide) ?_
    show Steps p.tables e below (s₁.setTop (mkF m 17 #[.val (.int p0), .val (.int (p0 - (49 : Int32)))] [])) _
    refine XS.aconstNull X0.here hx rfl (hb hby d_prog_28_method_4_code_17) ?_
    show Steps p.tables e below (s₁.setTop (mkF m 18 #[.val (.int p0), .val (.int (p0 - (49 : Int32)))] [.null])) _
    exact retOut X0 hx Bd.returns rfl (Or.inr (Or.inr (Or.inr (Or.inr ⟨rfl, rfl, rfl⟩)))) (hb hby d_prog_28_method_4_code_18) hr
  · show OQ (some .null) h0 Z.heap.size _ s₁.heap _
    rw [e0]
    exact ⟨rfl, N0, rfl⟩
set_option maxRecDepth 65536 in
set_option maxHeartbeats 40000000 in
theorem rm_7 (l : Launch) (Z : State) (a0 : Array Value) (hw : ∀ d ∈ tables_1, d.before a0 Z = true) (w : Nat → Addr) (kk : Nat → ClassId) (hN : Wd Z w kk) (ws : List Jvm.Cond) (p0 : Int32) (h0 : Heap) (O0 : Old Z Z.heap.size h0) (hp0 : ¬ ((p0 - (49 : Int32)) < (0 : Int32))) (hp1 : ¬ ((p0 - (49 : Int32)) < (5 : Int32))) :
    MetFree l (⟨"com/example/tsunagi/tsunagi/model/CatpStatusClass", "of", "(C)Lcom/example/tsunagi/tsunagi/model/CatpStatusClass;"⟩ : MethodName) (head1 (Jvm.Cond.code (⟨"com/example/tsunagi/tsunagi/model/CatpStatusClass", "of", "(C)Lcom/example/tsunagi/tsunagi/model/CatpStatusClass;"⟩ : MethodName) prog_28_method_4_code 2 (some (.object "com/example/tsunagi/tsunagi/model/CatpStatusClass")) :: ws) ({ frames := 0, cells := 0, slots := 0, locals := 0 } : Room)) (fun a U => a = #[(.int p0)] ∧ Z.Warmed39 U.vm ∧ U.heap = h0) (fun _ _ _ _ _ => True) (fun _ U o U' => ∃ v L, o = .returned v ∧ OQ (some .null) h0 Z.heap.size v U'.heap L ∧ FrameEnd U o U' L ({ frames := 0, cells := 0, slots := 0, locals := 0 } : Room).cells ({ frames := 0, cells := 0, slots := 0, locals := 0 } : Room).slots) := by
  have hN' := hN
  obtain ⟨hS0, hS1, hE1, hS2, hE2, hS3, hE3, hS4, hE4, hS5, hE5, hA0⟩ := hN'
  refine MetFree.of_bodySF (plainFor_of_name pn_0) hisR ?_
  intro p e s m args below meth c s₁ Bd hml0 hP hK
  obtain ⟨rfl, hZ, hh⟩ := hP
  have hx := Bd.exec
  have hby := Bd.bytes
  have hml : c.maxLocals = 2 := hml0
  have hown : s.vm.findClass "com/example/tsunagi/tsunagi/model/CatpStatusClass" = some m.cls := findClass_of_methodNamed Bd.named
  have hnm := (name_of_methodNamed Bd.named Bd.method).1
  have X0 : Stand p l e ({ frames := 0, cells := 0, slots := 0, locals := 0 } : Room) s m #[(.int p0)] below meth c s₁ [] 0 0 := Stand.of_body Bd
  have e0 : s₁.heap = h0 := by rw [← hh, Bd.state]; rfl
  have N0 := Fr.nil Z.heap.size
  have pre0 : ∀ t, Steps p.tables e below (s₁.setTop (mkF m 0 #[.val (.int p0), .unset] [])) t → Steps p.tables e below (s₁.setTop (entryFrame m #[(.int p0)] 2)) t := fun t k => castTop (ef_0 m (.int p0) rfl) k
  obtain ⟨T1, X1, e1, st1⟩ := getS2 X0 hx hZ hown (host := "") (Or.inl (W hw 5 rfl)) Via.refl e0 (hS0.ext O0.2) (g := (mkF m 10 #[.val (.int p0), .val (.int (p0 - (49 : Int32)))] [(.int (p0 - (49 : Int32)))])) rfl (hb hby d_prog_28_method_4_code_10)
  obtain ⟨cl2, Ar2, q2, Sz2, Ng2, Hv2, Gv2⟩ := (hA0.ext O0.2)
  obtain ⟨fs, hr, hrun, hended, hW, hsame⟩ := X1.leave (v := some .null) (fun h => by rw [Bd.returns] at h; cases h)
  refine ⟨_, _, pre0 _ ?_, hrun, hended, _, _, rfl, ?_, ⟨_, rfl⟩, hW, hsame.mono (by decide) (by decide)⟩
  · show Steps p.tables e below (s₁.setTop (mkF m 0 #[.val (.int p0), .unset] [])) _
    refine XS.iloadN X0.here hx rfl (hb hby d_prog_28_method_4_code_0) rfl ?_
    show Steps p.tables e below (s₁.setTop (mkF m 1 #[.val (.int p0), .unset] [(.int p0)])) _
    refine XS.bipush X0.here hx rfl (hb hby d_prog_28_method_4_code_1) ?_
    show Steps p.tables e below (s₁.setTop (mkF m 3 #[.val (.int p0), .unset] [(.int (49 : Int32)), (.int p0)])) _
    refine XS.isub X0.here hx rfl (hb hby d_prog_28_method_4_code_3) rfl ?_
    show Steps p.tables e below (s₁.setTop (mkF m 4 #[.val (.int p0), .unset] [(.int (p0 - (49 : Int32)))])) _
    refine XS.istoreN X0.here hx rfl (hb hby d_prog_28_method_4_code_4) rfl (l' := #[.val (.int p0), .val (.int (p0 - (49 : Int32)))]) rfl ?_
    show Steps p.tables e below (s₁.setTop (mkF m 5 #[.val (.int p0), .val (.int (p0 - (49 : Int32)))] [])) _
    refine XS.iloadN X0.here hx rfl (hb hby d_prog_28_method_4_code_5) rfl ?_
    show Steps p.tables e below (s₁.setTop (mkF m 6 #[.val (.int p0), .val (.int (p0 - (49 : Int32)))] [(.int (p0 - (49 : Int32)))])) _
    refine XS.ifNo X0.here hx rfl (hb hby d_prog_28_method_4_code_6) rfl ((if0 _ _).trans (flt hp0).1) ?_
    show Steps p.tables e below (s₁.setTop (mkF m 9 #[.val (.int p0), .val (.int (p0 - (49 : Int32)))] [])) _
    refine XS.iloadN X0.here hx rfl (hb hby d_prog_28_method_4_code_9) rfl ?_
    show Steps p.tables e below (s₁.setTop (mkF m 10 #[.val (.int p0), .val (.int (p0 - (49 : Int32)))] [(.int (p0 - (49 : Int32)))])) _
    refine st1 _ ?_
    show Steps p.tables e below (T1.setTop (mkF m 13 #[.val (.int p0), .val (.int (p0 - (49 : Int32)))] [(.ref (w 0)), (.int (p0 - (49 : Int32)))])) _
    refine X1.arraylength hx (by rw [e1]; exact Ar2.1) (State.isArrayOf_alike hZ.alike Ar2.2.1) (g := (mkF m 13 #[.val (.int p0), .val (.int (p0 - (49 : Int32)))] [(.ref (w 0)), (.int (p0 - (49 : Int32)))])) rfl rfl (hb hby d_prog_28_method_4_code_13) _ ?_
    rw [len_of Sz2 Ng2]
    show Steps p.tables e below (T1.setTop (mkF m 14 #[.val (.int p0), .val (.int (p0 - (49 : Int32)))] [(.int (5 : Int32)), (.int (p0 - (49 : Int32)))])) _
    refine XS.icmpNo X1.here hx rfl (hb hby d_prog_28_method_4_code_14) rfl (flt hp1).1 ?_
    show Steps p.tables e below (T1.setTop (mkF m 17 #[.val (.int p0), .val (.int (p0 - (49 : Int32)))] [])) _
    refine XS.aconstNull X1.here hx rfl (hb hby d_prog_28_method_4_code_17) ?_
    show Steps p.tables e below (T1.setTop (mkF m 18 #[.val (.int p0), .val (.int (p0 - (49 : Int32)))] [.null])) _
    exact retOut X1 hx Bd.returns rfl (Or.inr (Or.inr (Or.inr (Or.inr ⟨rfl, rfl, rfl⟩)))) (hb hby d_prog_28_method_4_code_18) hr
  · show OQ (some .null) h0 Z.heap.size _ T1.heap _
    rw [e1]
    exact ⟨rfl, N0, rfl⟩
set_option maxRecDepth 65536 in
set_option maxHeartbeats 40000000 in
theorem sum_0 (l : Launch) (Z : State) (a0 : Array Value) (hw : ∀ d ∈ tables_1, d.before a0 Z = true) (w : Nat → Addr) (kk : Nat → ClassId) (hN : Wd Z w kk) (ws : List Jvm.Cond) (p0 : Int32) (h0 : Heap) (O0 : Old Z Z.heap.size h0) :
    MetFree l (⟨"com/example/tsunagi/tsunagi/model/CatpStatusClass", "of", "(C)Lcom/example/tsunagi/tsunagi/model/CatpStatusClass;"⟩ : MethodName) (head1 (Jvm.Cond.code (⟨"com/example/tsunagi/tsunagi/model/CatpStatusClass", "of", "(C)Lcom/example/tsunagi/tsunagi/model/CatpStatusClass;"⟩ : MethodName) prog_28_method_4_code 2 (some (.object "com/example/tsunagi/tsunagi/model/CatpStatusClass")) :: ws) ({ frames := 0, cells := 0, slots := 0, locals := 0 } : Room)) (fun a U => a = #[(.int p0)] ∧ Z.Warmed39 U.vm ∧ U.heap = h0) (fun _ _ _ _ _ => True) (fun _ U o U' => ∃ v L, o = .returned v ∧ OQ (some (own_of w p0)) h0 Z.heap.size v U'.heap L ∧ FrameEnd U o U' L ({ frames := 0, cells := 0, slots := 0, locals := 0 } : Room).cells ({ frames := 0, cells := 0, slots := 0, locals := 0 } : Room).slots) := by
  by_cases hd0 : p0 = (49 : Int32)
  · subst hd0
    rw [show own_of w (49 : Int32) = (.ref (w 2)) from by rfl]
    exact rm_1 l Z a0 hw w kk hN ws  h0 O0
  · by_cases hd1 : p0 = (50 : Int32)
    · subst hd1
      rw [show own_of w (50 : Int32) = (.ref (w 5)) from by rfl]
      exact rm_2 l Z a0 hw w kk hN ws  h0 O0
    · by_cases hd2 : p0 = (51 : Int32)
      · subst hd2
        rw [show own_of w (51 : Int32) = (.ref (w 1)) from by rfl]
        exact rm_3 l Z a0 hw w kk hN ws  h0 O0
      · by_cases hd3 : p0 = (52 : Int32)
        · subst hd3
          rw [show own_of w (52 : Int32) = (.ref (w 3)) from by rfl]
          exact rm_4 l Z a0 hw w kk hN ws  h0 O0
        · by_cases hd4 : p0 = (53 : Int32)
          · subst hd4
            rw [show own_of w (53 : Int32) = (.ref (w 4)) from by rfl]
            exact rm_5 l Z a0 hw w kk hN ws  h0 O0
          · by_cases hd5 : (p0 - (49 : Int32)) < (0 : Int32)
            · rw [show own_of w p0 = .null from by simp only [own_of, hd0, hd1, hd2, hd3, hd4, if_false]]
              exact rm_6 l Z a0 hw w kk hN ws p0 h0 O0 hd5
            · have hi7_0 : ¬ ((p0 - (49 : Int32)) < (5 : Int32)) := own_far hd0 hd1 hd2 hd3 hd4 hd5
              rw [show own_of w p0 = .null from by simp only [own_of, hd0, hd1, hd2, hd3, hd4, if_false]]
              exact rm_7 l Z a0 hw w kk hN ws p0 h0 O0 hd5 hi7_0
theorem pd_0 : parseMethodDescriptor "(C)Lcom/example/tsunagi/tsunagi/model/CatpStatusClass;" = some ⟨[.char], some (.object "com/example/tsunagi/tsunagi/model/CatpStatusClass")⟩ := by decide +kernel
theorem d_method_2_code_0 : decode method_2_code 0 = .ok (.iload_n 0, 1) := by decide +kernel
theorem d_method_2_code_1 : decode method_2_code 1 = .ok (.bipush 49, 2) := by decide +kernel
theorem d_method_2_code_3 : decode method_2_code 3 = .ok (.if_icmp .ne 7, 3) := by decide +kernel
theorem d_method_2_code_6 : decode method_2_code 6 = .ok (.getstatic 7, 3) := by decide +kernel
theorem d_method_2_code_9 : decode method_2_code 9 = .ok (.areturn, 1) := by decide +kernel
theorem ef_1 (m : MethodId) (x0 : Value) (h0 : x0.category = 1) : entryFrame m #[x0] 1 = mkF m 0 #[.val x0] [] := by first | (simp [entryFrame, mkF, argsToLocals, h0]; done) | rfl
theorem pn_1 : plainName "com/example/tsunagi/tsunagi/model/CatpStatusClassOfPinLaw" = true := by first | (simp [plainName, overriddenIn]; done) | decide +kernel
set_option maxRecDepth 65536 in
set_option maxHeartbeats 40000000 in
theorem rm_8 (l : Launch) (Z : State) (a0 : Array Value) (hw : ∀ d ∈ tables_1, d.before a0 Z = true) (w : Nat → Addr) (kk : Nat → ClassId) (hN : Wd Z w kk) (ws : List Jvm.Cond)  (h0 : Heap) (O0 : Old Z Z.heap.size h0) :
    MetFree l (⟨"com/example/tsunagi/tsunagi/model/CatpStatusClassOfPinLaw", "expected", "(C)Lcom/example/tsunagi/tsunagi/model/CatpStatusClass;"⟩ : MethodName) (head1 (Jvm.Cond.code (⟨"com/example/tsunagi/tsunagi/model/CatpStatusClassOfPinLaw", "expected", "(C)Lcom/example/tsunagi/tsunagi/model/CatpStatusClass;"⟩ : MethodName) method_2_code 1 (some (.object "com/example/tsunagi/tsunagi/model/CatpStatusClass")) :: ws) ({ frames := 0, cells := 0, slots := 0, locals := 0 } : Room)) (fun a U => a = #[(.int (49 : Int32))] ∧ Z.Warmed39 U.vm ∧ U.heap = h0) (fun _ _ _ _ _ => True) (fun _ U o U' => ∃ v L, o = .returned v ∧ OQ (some (.ref (w 2))) h0 Z.heap.size v U'.heap L ∧ FrameEnd U o U' L ({ frames := 0, cells := 0, slots := 0, locals := 0 } : Room).cells ({ frames := 0, cells := 0, slots := 0, locals := 0 } : Room).slots) := by
  have hN' := hN
  obtain ⟨hS0, hS1, hE1, hS2, hE2, hS3, hE3, hS4, hE4, hS5, hE5, hA0⟩ := hN'
  refine MetFree.of_bodySF (plainFor_of_name pn_1) hisR ?_
  intro p e s m args below meth c s₁ Bd hml0 hP hK
  obtain ⟨rfl, hZ, hh⟩ := hP
  have hx := Bd.exec
  have hby := Bd.bytes
  have hml : c.maxLocals = 1 := hml0
  have hown : s.vm.findClass "com/example/tsunagi/tsunagi/model/CatpStatusClassOfPinLaw" = some m.cls := findClass_of_methodNamed Bd.named
  have hnm := (name_of_methodNamed Bd.named Bd.method).1
  have X0 : Stand p l e ({ frames := 0, cells := 0, slots := 0, locals := 0 } : Room) s m #[(.int (49 : Int32))] below meth c s₁ [] 0 0 := Stand.of_body Bd
  have e0 : s₁.heap = h0 := by rw [← hh, Bd.state]; rfl
  have N0 := Fr.nil Z.heap.size
  have pre0 : ∀ t, Steps p.tables e below (s₁.setTop (mkF m 0 #[.val (.int (49 : Int32))] [])) t → Steps p.tables e below (s₁.setTop (entryFrame m #[(.int (49 : Int32))] 1)) t := fun t k => castTop (ef_1 m (.int (49 : Int32)) rfl) k
  obtain ⟨T1, X1, e1, st1⟩ := getS2 X0 hx hZ hown (host := "") (Or.inl (W hw 14 rfl)) Via.refl e0 (hS2.ext O0.2) (g := (mkF m 6 #[.val (.int (49 : Int32))] [])) rfl (hb hby d_method_2_code_6)
  obtain ⟨fs, hr, hrun, hended, hW, hsame⟩ := X1.leave (v := some (.ref (w 2))) (fun h => by rw [Bd.returns] at h; cases h)
  refine ⟨_, _, pre0 _ ?_, hrun, hended, _, _, rfl, ?_, ⟨_, rfl⟩, hW, hsame.mono (by decide) (by decide)⟩
  · show Steps p.tables e below (s₁.setTop (mkF m 0 #[.val (.int (49 : Int32))] [])) _
    refine XS.iloadN X0.here hx rfl (hb hby d_method_2_code_0) rfl ?_
    show Steps p.tables e below (s₁.setTop (mkF m 1 #[.val (.int (49 : Int32))] [(.int (49 : Int32))])) _
    refine XS.bipush X0.here hx rfl (hb hby d_method_2_code_1) ?_
    show Steps p.tables e below (s₁.setTop (mkF m 3 #[.val (.int (49 : Int32))] [(.int (49 : Int32)), (.int (49 : Int32))])) _
    refine XS.icmpNo X0.here hx rfl (hb hby d_method_2_code_3) rfl (teq (by decide : (49 : Int32) = (49 : Int32))).2 ?_
    show Steps p.tables e below (s₁.setTop (mkF m 6 #[.val (.int (49 : Int32))] [])) _
    refine st1 _ ?_
    show Steps p.tables e below (T1.setTop (mkF m 9 #[.val (.int (49 : Int32))] [(.ref (w 2))])) _
    exact retOut X1 hx Bd.returns rfl (Or.inr (Or.inr (Or.inr (Or.inr ⟨rfl, rfl, rfl⟩)))) (hb hby d_method_2_code_9) hr
  · show OQ (some (.ref (w 2))) h0 Z.heap.size _ T1.heap _
    rw [e1]
    exact ⟨rfl, N0, rfl⟩
theorem d_method_2_code_10 : decode method_2_code 10 = .ok (.iload_n 0, 1) := by decide +kernel
theorem d_method_2_code_11 : decode method_2_code 11 = .ok (.bipush 50, 2) := by decide +kernel
theorem d_method_2_code_13 : decode method_2_code 13 = .ok (.if_icmp .ne 7, 3) := by decide +kernel
theorem d_method_2_code_16 : decode method_2_code 16 = .ok (.getstatic 13, 3) := by decide +kernel
theorem d_method_2_code_19 : decode method_2_code 19 = .ok (.areturn, 1) := by decide +kernel
set_option maxRecDepth 65536 in
set_option maxHeartbeats 40000000 in
theorem rm_9 (l : Launch) (Z : State) (a0 : Array Value) (hw : ∀ d ∈ tables_1, d.before a0 Z = true) (w : Nat → Addr) (kk : Nat → ClassId) (hN : Wd Z w kk) (ws : List Jvm.Cond)  (h0 : Heap) (O0 : Old Z Z.heap.size h0) :
    MetFree l (⟨"com/example/tsunagi/tsunagi/model/CatpStatusClassOfPinLaw", "expected", "(C)Lcom/example/tsunagi/tsunagi/model/CatpStatusClass;"⟩ : MethodName) (head1 (Jvm.Cond.code (⟨"com/example/tsunagi/tsunagi/model/CatpStatusClassOfPinLaw", "expected", "(C)Lcom/example/tsunagi/tsunagi/model/CatpStatusClass;"⟩ : MethodName) method_2_code 1 (some (.object "com/example/tsunagi/tsunagi/model/CatpStatusClass")) :: ws) ({ frames := 0, cells := 0, slots := 0, locals := 0 } : Room)) (fun a U => a = #[(.int (50 : Int32))] ∧ Z.Warmed39 U.vm ∧ U.heap = h0) (fun _ _ _ _ _ => True) (fun _ U o U' => ∃ v L, o = .returned v ∧ OQ (some (.ref (w 5))) h0 Z.heap.size v U'.heap L ∧ FrameEnd U o U' L ({ frames := 0, cells := 0, slots := 0, locals := 0 } : Room).cells ({ frames := 0, cells := 0, slots := 0, locals := 0 } : Room).slots) := by
  have hN' := hN
  obtain ⟨hS0, hS1, hE1, hS2, hE2, hS3, hE3, hS4, hE4, hS5, hE5, hA0⟩ := hN'
  refine MetFree.of_bodySF (plainFor_of_name pn_1) hisR ?_
  intro p e s m args below meth c s₁ Bd hml0 hP hK
  obtain ⟨rfl, hZ, hh⟩ := hP
  have hx := Bd.exec
  have hby := Bd.bytes
  have hml : c.maxLocals = 1 := hml0
  have hown : s.vm.findClass "com/example/tsunagi/tsunagi/model/CatpStatusClassOfPinLaw" = some m.cls := findClass_of_methodNamed Bd.named
  have hnm := (name_of_methodNamed Bd.named Bd.method).1
  have X0 : Stand p l e ({ frames := 0, cells := 0, slots := 0, locals := 0 } : Room) s m #[(.int (50 : Int32))] below meth c s₁ [] 0 0 := Stand.of_body Bd
  have e0 : s₁.heap = h0 := by rw [← hh, Bd.state]; rfl
  have N0 := Fr.nil Z.heap.size
  have pre0 : ∀ t, Steps p.tables e below (s₁.setTop (mkF m 0 #[.val (.int (50 : Int32))] [])) t → Steps p.tables e below (s₁.setTop (entryFrame m #[(.int (50 : Int32))] 1)) t := fun t k => castTop (ef_1 m (.int (50 : Int32)) rfl) k
  obtain ⟨T1, X1, e1, st1⟩ := getS2 X0 hx hZ hown (host := "") (Or.inl (W hw 20 rfl)) Via.refl e0 (hS5.ext O0.2) (g := (mkF m 16 #[.val (.int (50 : Int32))] [])) rfl (hb hby d_method_2_code_16)
  obtain ⟨fs, hr, hrun, hended, hW, hsame⟩ := X1.leave (v := some (.ref (w 5))) (fun h => by rw [Bd.returns] at h; cases h)
  refine ⟨_, _, pre0 _ ?_, hrun, hended, _, _, rfl, ?_, ⟨_, rfl⟩, hW, hsame.mono (by decide) (by decide)⟩
  · show Steps p.tables e below (s₁.setTop (mkF m 0 #[.val (.int (50 : Int32))] [])) _
    refine XS.iloadN X0.here hx rfl (hb hby d_method_2_code_0) rfl ?_
    show Steps p.tables e below (s₁.setTop (mkF m 1 #[.val (.int (50 : Int32))] [(.int (50 : Int32))])) _
    refine XS.bipush X0.here hx rfl (hb hby d_method_2_code_1) ?_
    show Steps p.tables e below (s₁.setTop (mkF m 3 #[.val (.int (50 : Int32))] [(.int (49 : Int32)), (.int (50 : Int32))])) _
    refine XS.icmpYes X0.here hx rfl (pc0 := 3) (pc' := 10) rfl (hb hby d_method_2_code_3) rfl (feq (by decide : ¬ ((50 : Int32) = (49 : Int32)))).2 (by decide) (by decide) ?_
    show Steps p.tables e below (s₁.setTop (mkF m 10 #[.val (.int (50 : Int32))] [])) _
    refine XS.iloadN X0.here hx rfl (hb hby d_method_2_code_10) rfl ?_
    show Steps p.tables e below (s₁.setTop (mkF m 11 #[.val (.int (50 : Int32))] [(.int (50 : Int32))])) _
    refine XS.bipush X0.here hx rfl (hb hby d_method_2_code_11) ?_
    show Steps p.tables e below (s₁.setTop (mkF m 13 #[.val (.int (50 : Int32))] [(.int (50 : Int32)), (.int (50 : Int32))])) _
    refine XS.icmpNo X0.here hx rfl (hb hby d_method_2_code_13) rfl (teq (by decide : (50 : Int32) = (50 : Int32))).2 ?_
    show Steps p.tables e below (s₁.setTop (mkF m 16 #[.val (.int (50 : Int32))] [])) _
    refine st1 _ ?_
    show Steps p.tables e below (T1.setTop (mkF m 19 #[.val (.int (50 : Int32))] [(.ref (w 5))])) _
    exact retOut X1 hx Bd.returns rfl (Or.inr (Or.inr (Or.inr (Or.inr ⟨rfl, rfl, rfl⟩)))) (hb hby d_method_2_code_19) hr
  · show OQ (some (.ref (w 5))) h0 Z.heap.size _ T1.heap _
    rw [e1]
    exact ⟨rfl, N0, rfl⟩
theorem d_method_2_code_20 : decode method_2_code 20 = .ok (.iload_n 0, 1) := by decide +kernel
theorem d_method_2_code_21 : decode method_2_code 21 = .ok (.bipush 51, 2) := by decide +kernel
theorem d_method_2_code_23 : decode method_2_code 23 = .ok (.if_icmp .ne 7, 3) := by decide +kernel
theorem d_method_2_code_26 : decode method_2_code 26 = .ok (.getstatic 16, 3) := by decide +kernel
theorem d_method_2_code_29 : decode method_2_code 29 = .ok (.areturn, 1) := by decide +kernel
set_option maxRecDepth 65536 in
set_option maxHeartbeats 40000000 in
theorem rm_10 (l : Launch) (Z : State) (a0 : Array Value) (hw : ∀ d ∈ tables_1, d.before a0 Z = true) (w : Nat → Addr) (kk : Nat → ClassId) (hN : Wd Z w kk) (ws : List Jvm.Cond)  (h0 : Heap) (O0 : Old Z Z.heap.size h0) :
    MetFree l (⟨"com/example/tsunagi/tsunagi/model/CatpStatusClassOfPinLaw", "expected", "(C)Lcom/example/tsunagi/tsunagi/model/CatpStatusClass;"⟩ : MethodName) (head1 (Jvm.Cond.code (⟨"com/example/tsunagi/tsunagi/model/CatpStatusClassOfPinLaw", "expected", "(C)Lcom/example/tsunagi/tsunagi/model/CatpStatusClass;"⟩ : MethodName) method_2_code 1 (some (.object "com/example/tsunagi/tsunagi/model/CatpStatusClass")) :: ws) ({ frames := 0, cells := 0, slots := 0, locals := 0 } : Room)) (fun a U => a = #[(.int (51 : Int32))] ∧ Z.Warmed39 U.vm ∧ U.heap = h0) (fun _ _ _ _ _ => True) (fun _ U o U' => ∃ v L, o = .returned v ∧ OQ (some (.ref (w 1))) h0 Z.heap.size v U'.heap L ∧ FrameEnd U o U' L ({ frames := 0, cells := 0, slots := 0, locals := 0 } : Room).cells ({ frames := 0, cells := 0, slots := 0, locals := 0 } : Room).slots) := by
  have hN' := hN
  obtain ⟨hS0, hS1, hE1, hS2, hE2, hS3, hE3, hS4, hE4, hS5, hE5, hA0⟩ := hN'
  refine MetFree.of_bodySF (plainFor_of_name pn_1) hisR ?_
  intro p e s m args below meth c s₁ Bd hml0 hP hK
  obtain ⟨rfl, hZ, hh⟩ := hP
  have hx := Bd.exec
  have hby := Bd.bytes
  have hml : c.maxLocals = 1 := hml0
  have hown : s.vm.findClass "com/example/tsunagi/tsunagi/model/CatpStatusClassOfPinLaw" = some m.cls := findClass_of_methodNamed Bd.named
  have hnm := (name_of_methodNamed Bd.named Bd.method).1
  have X0 : Stand p l e ({ frames := 0, cells := 0, slots := 0, locals := 0 } : Room) s m #[(.int (51 : Int32))] below meth c s₁ [] 0 0 := Stand.of_body Bd
  have e0 : s₁.heap = h0 := by rw [← hh, Bd.state]; rfl
  have N0 := Fr.nil Z.heap.size
  have pre0 : ∀ t, Steps p.tables e below (s₁.setTop (mkF m 0 #[.val (.int (51 : Int32))] [])) t → Steps p.tables e below (s₁.setTop (entryFrame m #[(.int (51 : Int32))] 1)) t := fun t k => castTop (ef_1 m (.int (51 : Int32)) rfl) k
  obtain ⟨T1, X1, e1, st1⟩ := getS2 X0 hx hZ hown (host := "") (Or.inl (W hw 12 rfl)) Via.refl e0 (hS1.ext O0.2) (g := (mkF m 26 #[.val (.int (51 : Int32))] [])) rfl (hb hby d_method_2_code_26)
  obtain ⟨fs, hr, hrun, hended, hW, hsame⟩ := X1.leave (v := some (.ref (w 1))) (fun h => by rw [Bd.returns] at h; cases h)
  refine ⟨_, _, pre0 _ ?_, hrun, hended, _, _, rfl, ?_, ⟨_, rfl⟩, hW, hsame.mono (by decide) (by decide)⟩
  · show Steps p.tables e below (s₁.setTop (mkF m 0 #[.val (.int (51 : Int32))] [])) _
    refine XS.iloadN X0.here hx rfl (hb hby d_method_2_code_0) rfl ?_
    show Steps p.tables e below (s₁.setTop (mkF m 1 #[.val (.int (51 : Int32))] [(.int (51 : Int32))])) _
    refine XS.bipush X0.here hx rfl (hb hby d_method_2_code_1) ?_
    show Steps p.tables e below (s₁.setTop (mkF m 3 #[.val (.int (51 : Int32))] [(.int (49 : Int32)), (.int (51 : Int32))])) _
    refine XS.icmpYes X0.here hx rfl (pc0 := 3) (pc' := 10) rfl (hb hby d_method_2_code_3) rfl (feq (by decide : ¬ ((51 : Int32) = (49 : Int32)))).2 (by decide) (by decide) ?_
    show Steps p.tables e below (s₁.setTop (mkF m 10 #[.val (.int (51 : Int32))] [])) _
    refine XS.iloadN X0.here hx rfl (hb hby d_method_2_code_10) rfl ?_
    show Steps p.tables e below (s₁.setTop (mkF m 11 #[.val (.int (51 : Int32))] [(.int (51 : Int32))])) _
    refine XS.bipush X0.here hx rfl (hb hby d_method_2_code_11) ?_
    show Steps p.tables e below (s₁.setTop (mkF m 13 #[.val (.int (51 : Int32))] [(.int (50 : Int32)), (.int (51 : Int32))])) _
    refine XS.icmpYes X0.here hx rfl (pc0 := 13) (pc' := 20) rfl (hb hby d_method_2_code_13) rfl (feq (by decide : ¬ ((51 : Int32) = (50 : Int32)))).2 (by decide) (by decide) ?_
    show Steps p.tables e below (s₁.setTop (mkF m 20 #[.val (.int (51 : Int32))] [])) _
    refine XS.iloadN X0.here hx rfl (hb hby d_method_2_code_20) rfl ?_
    show Steps p.tables e below (s₁.setTop (mkF m 21 #[.val (.int (51 : Int32))] [(.int (51 : Int32))])) _
    refine XS.bipush X0.here hx rfl (hb hby d_method_2_code_21) ?_
    show Steps p.tables e below (s₁.setTop (mkF m 23 #[.val (.int (51 : Int32))] [(.int (51 : Int32)), (.int (51 : Int32))])) _
    refine XS.icmpNo X0.here hx rfl (hb hby d_method_2_code_23) rfl (teq (by decide : (51 : Int32) = (51 : Int32))).2 ?_
    show Steps p.tables e below (s₁.setTop (mkF m 26 #[.val (.int (51 : Int32))] [])) _
    refine st1 _ ?_
    show Steps p.tables e below (T1.setTop (mkF m 29 #[.val (.int (51 : Int32))] [(.ref (w 1))])) _
    exact retOut X1 hx Bd.returns rfl (Or.inr (Or.inr (Or.inr (Or.inr ⟨rfl, rfl, rfl⟩)))) (hb hby d_method_2_code_29) hr
  · show OQ (some (.ref (w 1))) h0 Z.heap.size _ T1.heap _
    rw [e1]
    exact ⟨rfl, N0, rfl⟩
theorem d_method_2_code_30 : decode method_2_code 30 = .ok (.iload_n 0, 1) := by decide +kernel
theorem d_method_2_code_31 : decode method_2_code 31 = .ok (.bipush 52, 2) := by decide +kernel
theorem d_method_2_code_33 : decode method_2_code 33 = .ok (.if_icmp .ne 7, 3) := by decide +kernel
theorem d_method_2_code_36 : decode method_2_code 36 = .ok (.getstatic 19, 3) := by decide +kernel
theorem d_method_2_code_39 : decode method_2_code 39 = .ok (.areturn, 1) := by decide +kernel
set_option maxRecDepth 65536 in
set_option maxHeartbeats 40000000 in
theorem rm_11 (l : Launch) (Z : State) (a0 : Array Value) (hw : ∀ d ∈ tables_1, d.before a0 Z = true) (w : Nat → Addr) (kk : Nat → ClassId) (hN : Wd Z w kk) (ws : List Jvm.Cond)  (h0 : Heap) (O0 : Old Z Z.heap.size h0) :
    MetFree l (⟨"com/example/tsunagi/tsunagi/model/CatpStatusClassOfPinLaw", "expected", "(C)Lcom/example/tsunagi/tsunagi/model/CatpStatusClass;"⟩ : MethodName) (head1 (Jvm.Cond.code (⟨"com/example/tsunagi/tsunagi/model/CatpStatusClassOfPinLaw", "expected", "(C)Lcom/example/tsunagi/tsunagi/model/CatpStatusClass;"⟩ : MethodName) method_2_code 1 (some (.object "com/example/tsunagi/tsunagi/model/CatpStatusClass")) :: ws) ({ frames := 0, cells := 0, slots := 0, locals := 0 } : Room)) (fun a U => a = #[(.int (52 : Int32))] ∧ Z.Warmed39 U.vm ∧ U.heap = h0) (fun _ _ _ _ _ => True) (fun _ U o U' => ∃ v L, o = .returned v ∧ OQ (some (.ref (w 3))) h0 Z.heap.size v U'.heap L ∧ FrameEnd U o U' L ({ frames := 0, cells := 0, slots := 0, locals := 0 } : Room).cells ({ frames := 0, cells := 0, slots := 0, locals := 0 } : Room).slots) := by
  have hN' := hN
  obtain ⟨hS0, hS1, hE1, hS2, hE2, hS3, hE3, hS4, hE4, hS5, hE5, hA0⟩ := hN'
  refine MetFree.of_bodySF (plainFor_of_name pn_1) hisR ?_
  intro p e s m args below meth c s₁ Bd hml0 hP hK
  obtain ⟨rfl, hZ, hh⟩ := hP
  have hx := Bd.exec
  have hby := Bd.bytes
  have hml : c.maxLocals = 1 := hml0
  have hown : s.vm.findClass "com/example/tsunagi/tsunagi/model/CatpStatusClassOfPinLaw" = some m.cls := findClass_of_methodNamed Bd.named
  have hnm := (name_of_methodNamed Bd.named Bd.method).1
  have X0 : Stand p l e ({ frames := 0, cells := 0, slots := 0, locals := 0 } : Room) s m #[(.int (52 : Int32))] below meth c s₁ [] 0 0 := Stand.of_body Bd
  have e0 : s₁.heap = h0 := by rw [← hh, Bd.state]; rfl
  have N0 := Fr.nil Z.heap.size
  have pre0 : ∀ t, Steps p.tables e below (s₁.setTop (mkF m 0 #[.val (.int (52 : Int32))] [])) t → Steps p.tables e below (s₁.setTop (entryFrame m #[(.int (52 : Int32))] 1)) t := fun t k => castTop (ef_1 m (.int (52 : Int32)) rfl) k
  obtain ⟨T1, X1, e1, st1⟩ := getS2 X0 hx hZ hown (host := "") (Or.inl (W hw 16 rfl)) Via.refl e0 (hS3.ext O0.2) (g := (mkF m 36 #[.val (.int (52 : Int32))] [])) rfl (hb hby d_method_2_code_36)
  obtain ⟨fs, hr, hrun, hended, hW, hsame⟩ := X1.leave (v := some (.ref (w 3))) (fun h => by rw [Bd.returns] at h; cases h)
  refine ⟨_, _, pre0 _ ?_, hrun, hended, _, _, rfl, ?_, ⟨_, rfl⟩, hW, hsame.mono (by decide) (by decide)⟩
  · show Steps p.tables e below (s₁.setTop (mkF m 0 #[.val (.int (52 : Int32))] [])) _
    refine XS.iloadN X0.here hx rfl (hb hby d_method_2_code_0) rfl ?_
    show Steps p.tables e below (s₁.setTop (mkF m 1 #[.val (.int (52 : Int32))] [(.int (52 : Int32))])) _
    refine XS.bipush X0.here hx rfl (hb hby d_method_2_code_1) ?_
    show Steps p.tables e below (s₁.setTop (mkF m 3 #[.val (.int (52 : Int32))] [(.int (49 : Int32)), (.int (52 : Int32))])) _
    refine XS.icmpYes X0.here hx rfl (pc0 := 3) (pc' := 10) rfl (hb hby d_method_2_code_3) rfl (feq (by decide : ¬ ((52 : Int32) = (49 : Int32)))).2 (by decide) (by decide) ?_
    show Steps p.tables e below (s₁.setTop (mkF m 10 #[.val (.int (52 : Int32))] [])) _
    refine XS.iloadN X0.here hx rfl (hb hby d_method_2_code_10) rfl ?_
    show Steps p.tables e below (s₁.setTop (mkF m 11 #[.val (.int (52 : Int32))] [(.int (52 : Int32))])) _
    refine XS.bipush X0.here hx rfl (hb hby d_method_2_code_11) ?_
    show Steps p.tables e below (s₁.setTop (mkF m 13 #[.val (.int (52 : Int32))] [(.int (50 : Int32)), (.int (52 : Int32))])) _
    refine XS.icmpYes X0.here hx rfl (pc0 := 13) (pc' := 20) rfl (hb hby d_method_2_code_13) rfl (feq (by decide : ¬ ((52 : Int32) = (50 : Int32)))).2 (by decide) (by decide) ?_
    show Steps p.tables e below (s₁.setTop (mkF m 20 #[.val (.int (52 : Int32))] [])) _
    refine XS.iloadN X0.here hx rfl (hb hby d_method_2_code_20) rfl ?_
    show Steps p.tables e below (s₁.setTop (mkF m 21 #[.val (.int (52 : Int32))] [(.int (52 : Int32))])) _
    refine XS.bipush X0.here hx rfl (hb hby d_method_2_code_21) ?_
    show Steps p.tables e below (s₁.setTop (mkF m 23 #[.val (.int (52 : Int32))] [(.int (51 : Int32)), (.int (52 : Int32))])) _
    refine XS.icmpYes X0.here hx rfl (pc0 := 23) (pc' := 30) rfl (hb hby d_method_2_code_23) rfl (feq (by decide : ¬ ((52 : Int32) = (51 : Int32)))).2 (by decide) (by decide) ?_
    show Steps p.tables e below (s₁.setTop (mkF m 30 #[.val (.int (52 : Int32))] [])) _
    refine XS.iloadN X0.here hx rfl (hb hby d_method_2_code_30) rfl ?_
    show Steps p.tables e below (s₁.setTop (mkF m 31 #[.val (.int (52 : Int32))] [(.int (52 : Int32))])) _
    refine XS.bipush X0.here hx rfl (hb hby d_method_2_code_31) ?_
    show Steps p.tables e below (s₁.setTop (mkF m 33 #[.val (.int (52 : Int32))] [(.int (52 : Int32)), (.int (52 : Int32))])) _
    refine XS.icmpNo X0.here hx rfl (hb hby d_method_2_code_33) rfl (teq (by decide : (52 : Int32) = (52 : Int32))).2 ?_
    show Steps p.tables e below (s₁.setTop (mkF m 36 #[.val (.int (52 : Int32))] [])) _
    refine st1 _ ?_
    show Steps p.tables e below (T1.setTop (mkF m 39 #[.val (.int (52 : Int32))] [(.ref (w 3))])) _
    exact retOut X1 hx Bd.returns rfl (Or.inr (Or.inr (Or.inr (Or.inr ⟨rfl, rfl, rfl⟩)))) (hb hby d_method_2_code_39) hr
  · show OQ (some (.ref (w 3))) h0 Z.heap.size _ T1.heap _
    rw [e1]
    exact ⟨rfl, N0, rfl⟩
theorem d_method_2_code_40 : decode method_2_code 40 = .ok (.iload_n 0, 1) := by decide +kernel
theorem d_method_2_code_41 : decode method_2_code 41 = .ok (.bipush 53, 2) := by decide +kernel
theorem d_method_2_code_43 : decode method_2_code 43 = .ok (.if_icmp .ne 7, 3) := by decide +kernel
theorem d_method_2_code_46 : decode method_2_code 46 = .ok (.getstatic 22, 3) := by decide +kernel
theorem d_method_2_code_49 : decode method_2_code 49 = .ok (.areturn, 1) := by decide +kernel
set_option maxRecDepth 65536 in
set_option maxHeartbeats 40000000 in
theorem rm_12 (l : Launch) (Z : State) (a0 : Array Value) (hw : ∀ d ∈ tables_1, d.before a0 Z = true) (w : Nat → Addr) (kk : Nat → ClassId) (hN : Wd Z w kk) (ws : List Jvm.Cond)  (h0 : Heap) (O0 : Old Z Z.heap.size h0) :
    MetFree l (⟨"com/example/tsunagi/tsunagi/model/CatpStatusClassOfPinLaw", "expected", "(C)Lcom/example/tsunagi/tsunagi/model/CatpStatusClass;"⟩ : MethodName) (head1 (Jvm.Cond.code (⟨"com/example/tsunagi/tsunagi/model/CatpStatusClassOfPinLaw", "expected", "(C)Lcom/example/tsunagi/tsunagi/model/CatpStatusClass;"⟩ : MethodName) method_2_code 1 (some (.object "com/example/tsunagi/tsunagi/model/CatpStatusClass")) :: ws) ({ frames := 0, cells := 0, slots := 0, locals := 0 } : Room)) (fun a U => a = #[(.int (53 : Int32))] ∧ Z.Warmed39 U.vm ∧ U.heap = h0) (fun _ _ _ _ _ => True) (fun _ U o U' => ∃ v L, o = .returned v ∧ OQ (some (.ref (w 4))) h0 Z.heap.size v U'.heap L ∧ FrameEnd U o U' L ({ frames := 0, cells := 0, slots := 0, locals := 0 } : Room).cells ({ frames := 0, cells := 0, slots := 0, locals := 0 } : Room).slots) := by
  have hN' := hN
  obtain ⟨hS0, hS1, hE1, hS2, hE2, hS3, hE3, hS4, hE4, hS5, hE5, hA0⟩ := hN'
  refine MetFree.of_bodySF (plainFor_of_name pn_1) hisR ?_
  intro p e s m args below meth c s₁ Bd hml0 hP hK
  obtain ⟨rfl, hZ, hh⟩ := hP
  have hx := Bd.exec
  have hby := Bd.bytes
  have hml : c.maxLocals = 1 := hml0
  have hown : s.vm.findClass "com/example/tsunagi/tsunagi/model/CatpStatusClassOfPinLaw" = some m.cls := findClass_of_methodNamed Bd.named
  have hnm := (name_of_methodNamed Bd.named Bd.method).1
  have X0 : Stand p l e ({ frames := 0, cells := 0, slots := 0, locals := 0 } : Room) s m #[(.int (53 : Int32))] below meth c s₁ [] 0 0 := Stand.of_body Bd
  have e0 : s₁.heap = h0 := by rw [← hh, Bd.state]; rfl
  have N0 := Fr.nil Z.heap.size
  have pre0 : ∀ t, Steps p.tables e below (s₁.setTop (mkF m 0 #[.val (.int (53 : Int32))] [])) t → Steps p.tables e below (s₁.setTop (entryFrame m #[(.int (53 : Int32))] 1)) t := fun t k => castTop (ef_1 m (.int (53 : Int32)) rfl) k
  obtain ⟨T1, X1, e1, st1⟩ := getS2 X0 hx hZ hown (host := "") (Or.inl (W hw 18 rfl)) Via.refl e0 (hS4.ext O0.2) (g := (mkF m 46 #[.val (.int (53 : Int32))] [])) rfl (hb hby d_method_2_code_46)
  obtain ⟨fs, hr, hrun, hended, hW, hsame⟩ := X1.leave (v := some (.ref (w 4))) (fun h => by rw [Bd.returns] at h; cases h)
  refine ⟨_, _, pre0 _ ?_, hrun, hended, _, _, rfl, ?_, ⟨_, rfl⟩, hW, hsame.mono (by decide) (by decide)⟩
  · show Steps p.tables e below (s₁.setTop (mkF m 0 #[.val (.int (53 : Int32))] [])) _
    refine XS.iloadN X0.here hx rfl (hb hby d_method_2_code_0) rfl ?_
    show Steps p.tables e below (s₁.setTop (mkF m 1 #[.val (.int (53 : Int32))] [(.int (53 : Int32))])) _
    refine XS.bipush X0.here hx rfl (hb hby d_method_2_code_1) ?_
    show Steps p.tables e below (s₁.setTop (mkF m 3 #[.val (.int (53 : Int32))] [(.int (49 : Int32)), (.int (53 : Int32))])) _
    refine XS.icmpYes X0.here hx rfl (pc0 := 3) (pc' := 10) rfl (hb hby d_method_2_code_3) rfl (feq (by decide : ¬ ((53 : Int32) = (49 : Int32)))).2 (by decide) (by decide) ?_
    show Steps p.tables e below (s₁.setTop (mkF m 10 #[.val (.int (53 : Int32))] [])) _
    refine XS.iloadN X0.here hx rfl (hb hby d_method_2_code_10) rfl ?_
    show Steps p.tables e below (s₁.setTop (mkF m 11 #[.val (.int (53 : Int32))] [(.int (53 : Int32))])) _
    refine XS.bipush X0.here hx rfl (hb hby d_method_2_code_11) ?_
    show Steps p.tables e below (s₁.setTop (mkF m 13 #[.val (.int (53 : Int32))] [(.int (50 : Int32)), (.int (53 : Int32))])) _
    refine XS.icmpYes X0.here hx rfl (pc0 := 13) (pc' := 20) rfl (hb hby d_method_2_code_13) rfl (feq (by decide : ¬ ((53 : Int32) = (50 : Int32)))).2 (by decide) (by decide) ?_
    show Steps p.tables e below (s₁.setTop (mkF m 20 #[.val (.int (53 : Int32))] [])) _
    refine XS.iloadN X0.here hx rfl (hb hby d_method_2_code_20) rfl ?_
    show Steps p.tables e below (s₁.setTop (mkF m 21 #[.val (.int (53 : Int32))] [(.int (53 : Int32))])) _
    refine XS.bipush X0.here hx rfl (hb hby d_method_2_code_21) ?_
    show Steps p.tables e below (s₁.setTop (mkF m 23 #[.val (.int (53 : Int32))] [(.int (51 : Int32)), (.int (53 : Int32))])) _
    refine XS.icmpYes X0.here hx rfl (pc0 := 23) (pc' := 30) rfl (hb hby d_method_2_code_23) rfl (feq (by decide : ¬ ((53 : Int32) = (51 : Int32)))).2 (by decide) (by decide) ?_
    show Steps p.tables e below (s₁.setTop (mkF m 30 #[.val (.int (53 : Int32))] [])) _
    refine XS.iloadN X0.here hx rfl (hb hby d_method_2_code_30) rfl ?_
    show Steps p.tables e below (s₁.setTop (mkF m 31 #[.val (.int (53 : Int32))] [(.int (53 : Int32))])) _
    refine XS.bipush X0.here hx rfl (hb hby d_method_2_code_31) ?_
    show Steps p.tables e below (s₁.setTop (mkF m 33 #[.val (.int (53 : Int32))] [(.int (52 : Int32)), (.int (53 : Int32))])) _
    refine XS.icmpYes X0.here hx rfl (pc0 := 33) (pc' := 40) rfl (hb hby d_method_2_code_33) rfl (feq (by decide : ¬ ((53 : Int32) = (52 : Int32)))).2 (by decide) (by decide) ?_
    show Steps p.tables e below (s₁.setTop (mkF m 40 #[.val (.int (53 : Int32))] [])) _
    refine XS.iloadN X0.here hx rfl (hb hby d_method_2_code_40) rfl ?_
    show Steps p.tables e below (s₁.setTop (mkF m 41 #[.val (.int (53 : Int32))] [(.int (53 : Int32))])) _
    refine XS.bipush X0.here hx rfl (hb hby d_method_2_code_41) ?_
    show Steps p.tables e below (s₁.setTop (mkF m 43 #[.val (.int (53 : Int32))] [(.int (53 : Int32)), (.int (53 : Int32))])) _
    refine XS.icmpNo X0.here hx rfl (hb hby d_method_2_code_43) rfl (teq (by decide : (53 : Int32) = (53 : Int32))).2 ?_
    show Steps p.tables e below (s₁.setTop (mkF m 46 #[.val (.int (53 : Int32))] [])) _
    refine st1 _ ?_
    show Steps p.tables e below (T1.setTop (mkF m 49 #[.val (.int (53 : Int32))] [(.ref (w 4))])) _
    exact retOut X1 hx Bd.returns rfl (Or.inr (Or.inr (Or.inr (Or.inr ⟨rfl, rfl, rfl⟩)))) (hb hby d_method_2_code_49) hr
  · show OQ (some (.ref (w 4))) h0 Z.heap.size _ T1.heap _
    rw [e1]
    exact ⟨rfl, N0, rfl⟩
theorem d_method_2_code_50 : decode method_2_code 50 = .ok (.aconst_null, 1) := by decide +kernel
theorem d_method_2_code_51 : decode method_2_code 51 = .ok (.areturn, 1) := by decide +kernel
set_option maxRecDepth 65536 in
set_option maxHeartbeats 40000000 in
theorem rm_13 (l : Launch) (Z : State) (a0 : Array Value) (hw : ∀ d ∈ tables_1, d.before a0 Z = true) (w : Nat → Addr) (kk : Nat → ClassId) (hN : Wd Z w kk) (ws : List Jvm.Cond) (p0 : Int32) (h0 : Heap) (O0 : Old Z Z.heap.size h0) (hp0 : ¬ (p0 = (49 : Int32))) (hp1 : ¬ (p0 = (50 : Int32))) (hp2 : ¬ (p0 = (51 : Int32))) (hp3 : ¬ (p0 = (52 : Int32))) (hp4 : ¬ (p0 = (53 : Int32))) :
    MetFree l (⟨"com/example/tsunagi/tsunagi/model/CatpStatusClassOfPinLaw", "expected", "(C)Lcom/example/tsunagi/tsunagi/model/CatpStatusClass;"⟩ : MethodName) (head1 (Jvm.Cond.code (⟨"com/example/tsunagi/tsunagi/model/CatpStatusClassOfPinLaw", "expected", "(C)Lcom/example/tsunagi/tsunagi/model/CatpStatusClass;"⟩ : MethodName) method_2_code 1 (some (.object "com/example/tsunagi/tsunagi/model/CatpStatusClass")) :: ws) ({ frames := 0, cells := 0, slots := 0, locals := 0 } : Room)) (fun a U => a = #[(.int p0)] ∧ Z.Warmed39 U.vm ∧ U.heap = h0) (fun _ _ _ _ _ => True) (fun _ U o U' => ∃ v L, o = .returned v ∧ OQ (some .null) h0 Z.heap.size v U'.heap L ∧ FrameEnd U o U' L ({ frames := 0, cells := 0, slots := 0, locals := 0 } : Room).cells ({ frames := 0, cells := 0, slots := 0, locals := 0 } : Room).slots) := by
  have hN' := hN
  obtain ⟨hS0, hS1, hE1, hS2, hE2, hS3, hE3, hS4, hE4, hS5, hE5, hA0⟩ := hN'
  refine MetFree.of_bodySF (plainFor_of_name pn_1) hisR ?_
  intro p e s m args below meth c s₁ Bd hml0 hP hK
  obtain ⟨rfl, hZ, hh⟩ := hP
  have hx := Bd.exec
  have hby := Bd.bytes
  have hml : c.maxLocals = 1 := hml0
  have hown : s.vm.findClass "com/example/tsunagi/tsunagi/model/CatpStatusClassOfPinLaw" = some m.cls := findClass_of_methodNamed Bd.named
  have hnm := (name_of_methodNamed Bd.named Bd.method).1
  have X0 : Stand p l e ({ frames := 0, cells := 0, slots := 0, locals := 0 } : Room) s m #[(.int p0)] below meth c s₁ [] 0 0 := Stand.of_body Bd
  have e0 : s₁.heap = h0 := by rw [← hh, Bd.state]; rfl
  have N0 := Fr.nil Z.heap.size
  have pre0 : ∀ t, Steps p.tables e below (s₁.setTop (mkF m 0 #[.val (.int p0)] [])) t → Steps p.tables e below (s₁.setTop (entryFrame m #[(.int p0)] 1)) t := fun t k => castTop (ef_1 m (.int p0) rfl) k
  obtain ⟨fs, hr, hrun, hended, hW, hsame⟩ := X0.leave (v := some .null) (fun h => by rw [Bd.returns] at h; cases h)
  refine ⟨_, _, pre0 _ ?_, hrun, hended, _, _, rfl, ?_, ⟨_, rfl⟩, hW, hsame.mono (by decide) (by decide)⟩
  · show Steps p.tables e below (s₁.setTop (mkF m 0 #[.val (.int p0)] [])) _
    refine XS.iloadN X0.here hx rfl (hb hby d_method_2_code_0) rfl ?_
    show Steps p.tables e below (s₁.setTop (mkF m 1 #[.val (.int p0)] [(.int p0)])) _
    refine XS.bipush X0.here hx rfl (hb hby d_method_2_code_1) ?_
    show Steps p.tables e below (s₁.setTop (mkF m 3 #[.val (.int p0)] [(.int (49 : Int32)), (.int p0)])) _
    refine XS.icmpYes X0.here hx rfl (pc0 := 3) (pc' := 10) rfl (hb hby d_method_2_code_3) rfl (feq hp0).2 (by decide) (by decide) ?_
    show Steps p.tables e below (s₁.setTop (mkF m 10 #[.val (.int p0)] [])) _
    refine XS.iloadN X0.here hx rfl (hb hby d_method_2_code_10) rfl ?_
    show Steps p.tables e below (s₁.setTop (mkF m 11 #[.val (.int p0)] [(.int p0)])) _
    refine XS.bipush X0.here hx rfl (hb hby d_method_2_code_11) ?_
    show Steps p.tables e below (s₁.setTop (mkF m 13 #[.val (.int p0)] [(.int (50 : Int32)), (.int p0)])) _
    refine XS.icmpYes X0.here hx rfl (pc0 := 13) (pc' := 20) rfl (hb hby d_method_2_code_13) rfl (feq hp1).2 (by decide) (by decide) ?_
    show Steps p.tables e below (s₁.setTop (mkF m 20 #[.val (.int p0)] [])) _
    refine XS.iloadN X0.here hx rfl (hb hby d_method_2_code_20) rfl ?_
    show Steps p.tables e below (s₁.setTop (mkF m 21 #[.val (.int p0)] [(.int p0)])) _
    refine XS.bipush X0.here hx rfl (hb hby d_method_2_code_21) ?_
    show Steps p.tables e below (s₁.setTop (mkF m 23 #[.val (.int p0)] [(.int (51 : Int32)), (.int p0)])) _
    refine XS.icmpYes X0.here hx rfl (pc0 := 23) (pc' := 30) rfl (hb hby d_method_2_code_23) rfl (feq hp2).2 (by decide) (by decide) ?_
    show Steps p.tables e below (s₁.setTop (mkF m 30 #[.val (.int p0)] [])) _
    refine XS.iloadN X0.here hx rfl (hb hby d_method_2_code_30) rfl ?_
    show Steps p.tables e below (s₁.setTop (mkF m 31 #[.val (.int p0)] [(.int p0)])) _
    refine XS.bipush X0.here hx rfl (hb hby d_method_2_code_31) ?_
    show Steps p.tables e below (s₁.setTop (mkF m 33 #[.val (.int p0)] [(.int (52 : Int32)), (.int p0)])) _
    refine XS.icmpYes X0.here hx rfl (pc0 := 33) (pc' := 40) rfl (hb hby d_method_2_code_33) rfl (feq hp3).2 (by decide) (by decide) ?_
    show Steps p.tables e below (s₁.setTop (mkF m 40 #[.val (.int p0)] [])) _
    refine XS.iloadN X0.here hx rfl (hb hby d_method_2_code_40) rfl ?_
    show Steps p.tables e below (s₁.setTop (mkF m 41 #[.val (.int p0)] [(.int p0)])) _
    refine XS.bipush X0.here hx rfl (hb hby d_method_2_code_41) ?_
    show Steps p.tables e below (s₁.setTop (mkF m 43 #[.val (.int p0)] [(.int (53 : Int32)), (.int p0)])) _
    refine XS.icmpYes X0.here hx rfl (pc0 := 43) (pc' := 50) rfl (hb hby d_method_2_code_43) rfl (feq hp4).2 (by decide) (by decide) ?_
    show Steps p.tables e below (s₁.setTop (mkF m 50 #[.val (.int p0)] [])) _
    refine XS.aconstNull X0.here hx rfl (hb hby d_method_2_code_50) ?_
    show Steps p.tables e below (s₁.setTop (mkF m 51 #[.val (.int p0)] [.null])) _
    exact retOut X0 hx Bd.returns rfl (Or.inr (Or.inr (Or.inr (Or.inr ⟨rfl, rfl, rfl⟩)))) (hb hby d_method_2_code_51) hr
  · show OQ (some .null) h0 Z.heap.size _ s₁.heap _
    rw [e0]
    exact ⟨rfl, N0, rfl⟩
set_option maxRecDepth 65536 in
set_option maxHeartbeats 40000000 in
theorem sum_1 (l : Launch) (Z : State) (a0 : Array Value) (hw : ∀ d ∈ tables_1, d.before a0 Z = true) (w : Nat → Addr) (kk : Nat → ClassId) (hN : Wd Z w kk) (ws : List Jvm.Cond) (p0 : Int32) (h0 : Heap) (O0 : Old Z Z.heap.size h0) :
    MetFree l (⟨"com/example/tsunagi/tsunagi/model/CatpStatusClassOfPinLaw", "expected", "(C)Lcom/example/tsunagi/tsunagi/model/CatpStatusClass;"⟩ : MethodName) (head1 (Jvm.Cond.code (⟨"com/example/tsunagi/tsunagi/model/CatpStatusClassOfPinLaw", "expected", "(C)Lcom/example/tsunagi/tsunagi/model/CatpStatusClass;"⟩ : MethodName) method_2_code 1 (some (.object "com/example/tsunagi/tsunagi/model/CatpStatusClass")) :: ws) ({ frames := 0, cells := 0, slots := 0, locals := 0 } : Room)) (fun a U => a = #[(.int p0)] ∧ Z.Warmed39 U.vm ∧ U.heap = h0) (fun _ _ _ _ _ => True) (fun _ U o U' => ∃ v L, o = .returned v ∧ OQ (some (own_of w p0)) h0 Z.heap.size v U'.heap L ∧ FrameEnd U o U' L ({ frames := 0, cells := 0, slots := 0, locals := 0 } : Room).cells ({ frames := 0, cells := 0, slots := 0, locals := 0 } : Room).slots) := by
  by_cases hd0 : p0 = (49 : Int32)
  · subst hd0
    rw [show own_of w (49 : Int32) = (.ref (w 2)) from by rfl]
    exact rm_8 l Z a0 hw w kk hN ws  h0 O0
  · by_cases hd1 : p0 = (50 : Int32)
    · subst hd1
      rw [show own_of w (50 : Int32) = (.ref (w 5)) from by rfl]
      exact rm_9 l Z a0 hw w kk hN ws  h0 O0
    · by_cases hd2 : p0 = (51 : Int32)
      · subst hd2
        rw [show own_of w (51 : Int32) = (.ref (w 1)) from by rfl]
        exact rm_10 l Z a0 hw w kk hN ws  h0 O0
      · by_cases hd3 : p0 = (52 : Int32)
        · subst hd3
          rw [show own_of w (52 : Int32) = (.ref (w 3)) from by rfl]
          exact rm_11 l Z a0 hw w kk hN ws  h0 O0
        · by_cases hd4 : p0 = (53 : Int32)
          · subst hd4
            rw [show own_of w (53 : Int32) = (.ref (w 4)) from by rfl]
            exact rm_12 l Z a0 hw w kk hN ws  h0 O0
          · rw [show own_of w p0 = .null from by simp only [own_of, hd0, hd1, hd2, hd3, hd4, if_false]]
            exact rm_13 l Z a0 hw w kk hN ws p0 h0 O0 hd0 hd1 hd2 hd3 hd4
theorem ef_2 (m : MethodId) (x0 : Value) (h0 : x0.category = 1) (x1 : Value) (h1 : x1.category = 1) : entryFrame m #[x0, x1] maxLocals = mkF m 0 #[.val x0, .val x1, .unset, .unset, .unset, .unset] [] := by first | (simp [entryFrame, mkF, argsToLocals, h0, h1, maxLocals]; done) | rfl
set_option maxRecDepth 65536 in
set_option maxHeartbeats 40000000 in
theorem law_14 (l : Launch) (Z : State) (a0 : Array Value) (hw : ∀ d ∈ tables_1, d.before a0 Z = true) (w : Nat → Addr) (kk : Nat → ClassId) (hN : Wd Z w kk) (ws : List Jvm.Cond) (p0 : Int32) (p1 : Int32) (h0 : Heap) (O0 : Old Z Z.heap.size h0) :
    MetFree l x (head1 (Jvm.Cond.code x code maxLocals ret :: ws) room_1) (fun a U => a = #[(.int p0), (.int p1)] ∧ Z.Warmed39 U.vm ∧ U.heap = h0) (fun _ _ _ _ _ => True) (fun _ U o U' => ∃ v L, o = .returned v ∧ OL (some (.int (1 : Int32))) Z.heap.size v U'.heap L ∧ FrameEnd U o U' L 0 0) := by
  have hN' := hN
  obtain ⟨hS0, hS1, hE1, hS2, hE2, hS3, hE3, hS4, hE4, hS5, hE5, hA0⟩ := hN'
  refine MetFree.of_bodySF (plainFor_of_name pn_1) hisR ?_
  intro p e s m args below meth c s₁ Bd hml0 hP hK
  obtain ⟨rfl, hZ, hh⟩ := hP
  have hx := Bd.exec
  have hby := Bd.bytes
  have hml : c.maxLocals = 6 := hml0
  have hown : s.vm.findClass "com/example/tsunagi/tsunagi/model/CatpStatusClassOfPinLaw" = some m.cls := findClass_of_methodNamed Bd.named
  have hnm := (name_of_methodNamed Bd.named Bd.method).1
  have X0 : Stand p l e room_1 s m #[(.int p0), (.int p1)] below meth c s₁ [] 0 0 := Stand.of_body Bd
  have e0 : s₁.heap = h0 := by rw [← hh, Bd.state]; rfl
  have N0 := Fr.nil Z.heap.size
  have pre0 : ∀ t, Steps p.tables e below (s₁.setTop (mkF m 0 #[.val (.int p0), .val (.int p1), .unset, .unset, .unset, .unset] [])) t → Steps p.tables e below (s₁.setTop (entryFrame m #[(.int p0), (.int p1)] maxLocals)) t := fun t k => castTop (ef_2 m (.int p0) rfl (.int p1) rfl) k
  obtain ⟨_, _, ⟨T1, L1, k1, n1⟩, -, X1, ⟨Lc1, hQ1, l1, y1, z1⟩, st1⟩ := Jvm.LawKit.callS X0 hx (y := (⟨"com/example/tsunagi/tsunagi/model/CatpStatusClass", "of", "(C)Lcom/example/tsunagi/tsunagi/model/CatpStatusClass;"⟩ : MethodName)) hown (mvT hZ (W hw 1 rfl)) (mvT hZ (W hw 2 rfl)) (mvT hZ (W hw 3 rfl)) (mvT hZ (W hw 4 rfl)) (by decide) (backOf (W := 0) (sum_0 l Z a0 hw w kk hN [] ((p0 &&& (65535 : Int32)).toUInt32.toUInt16.toUInt32.toInt32) h0 O0) hZ (W hw 4 rfl) (W hw 3 rfl) (by decide) (by decide)) (g := (mkF m 16 #[.val (.int p0), .val (.int p1), .val (.int ((p0 &&& (65535 : Int32)).toUInt32.toUInt16.toUInt32.toInt32)), .val (.int (((48 : Int32) + (p1 &&& (7 : Int32))).toUInt32.toUInt16.toUInt32.toInt32)), .unset, .unset] [(.int ((p0 &&& (65535 : Int32)).toUInt32.toUInt16.toUInt32.toInt32))])) rfl (by rw [hml]; rfl) (argsL := [(.int ((p0 &&& (65535 : Int32)).toUInt32.toUInt16.toUInt32.toInt32))]) (rest := []) (lenOf pd_0 rfl) rfl (by show 2 * 0 + _ ≤ _; exact Nat.le_of_eq rfl) (hb hby at_16) (fun _ _ => ⟨rfl, e0, (by decide : 0 + 0 ≤ _), (by decide : 0 + 0 ≤ _)⟩)
  dsimp only [Pt.U, Pt.locs, Pt.cells, Pt.slots] at X1 l1 y1 z1 st1 hQ1
  subst l1 y1 z1
  obtain ⟨rfl, N1q, e1⟩ := hQ1
  have N1 := Fr.app N0 N1q
  obtain ⟨_, _, ⟨T2, L2, k2, n2⟩, -, X2, ⟨Lc2, hQ2, l2, y2, z2⟩, st2⟩ := Jvm.LawKit.callS X1 hx (y := (⟨"com/example/tsunagi/tsunagi/model/CatpStatusClass", "of", "(C)Lcom/example/tsunagi/tsunagi/model/CatpStatusClass;"⟩ : MethodName)) hown (mvT hZ (W hw 1 rfl)) (mvT hZ (W hw 2 rfl)) (mvT hZ (W hw 3 rfl)) (mvT hZ (W hw 4 rfl)) (by decide) (backOf (W := 0) (sum_0 l Z a0 hw w kk hN [] (((48 : Int32) + (p1 &&& (7 : Int32))).toUInt32.toUInt16.toUInt32.toInt32) h0 O0) hZ (W hw 4 rfl) (W hw 3 rfl) (by decide) (by decide)) (g := (mkF m 22 #[.val (.int p0), .val (.int p1), .val (.int ((p0 &&& (65535 : Int32)).toUInt32.toUInt16.toUInt32.toInt32)), .val (.int (((48 : Int32) + (p1 &&& (7 : Int32))).toUInt32.toUInt16.toUInt32.toInt32)), .val (own_of w ((p0 &&& (65535 : Int32)).toUInt32.toUInt16.toUInt32.toInt32)), .unset] [(.int (((48 : Int32) + (p1 &&& (7 : Int32))).toUInt32.toUInt16.toUInt32.toInt32))])) rfl (by rw [hml]; rfl) (argsL := [(.int (((48 : Int32) + (p1 &&& (7 : Int32))).toUInt32.toUInt16.toUInt32.toInt32))]) (rest := []) (lenOf pd_0 rfl) rfl (by show 2 * 0 + _ ≤ _; exact Nat.le_of_eq rfl) (hb hby at_22) (fun _ _ => ⟨rfl, e1, (by decide : 0 + 0 ≤ _), (by decide : 0 + 0 ≤ _)⟩)
  dsimp only [Pt.U, Pt.locs, Pt.cells, Pt.slots] at X2 l2 y2 z2 st2 hQ2
  subst l2 y2 z2
  obtain ⟨rfl, N2q, e2⟩ := hQ2
  have N2 := Fr.app N1 N2q
  obtain ⟨_, _, ⟨T3, L3, k3, n3⟩, -, X3, ⟨Lc3, hQ3, l3, y3, z3⟩, st3⟩ := Jvm.LawKit.callS X2 hx (y := (⟨"com/example/tsunagi/tsunagi/model/CatpStatusClassOfPinLaw", "expected", "(C)Lcom/example/tsunagi/tsunagi/model/CatpStatusClass;"⟩ : MethodName)) hown (mvT hZ (W hw 8 rfl)) (mvT hZ (W hw 9 rfl)) (mvT hZ (W hw 10 rfl)) (mvT hZ (W hw 11 rfl)) (by decide) (backOf (W := 1) (sum_1 l Z a0 hw w kk hN [] ((p0 &&& (65535 : Int32)).toUInt32.toUInt16.toUInt32.toInt32) h0 O0) hZ (W hw 11 rfl) (W hw 10 rfl) (by decide) (by decide)) (g := (mkF m 30 #[.val (.int p0), .val (.int p1), .val (.int ((p0 &&& (65535 : Int32)).toUInt32.toUInt16.toUInt32.toInt32)), .val (.int (((48 : Int32) + (p1 &&& (7 : Int32))).toUInt32.toUInt16.toUInt32.toInt32)), .val (own_of w ((p0 &&& (65535 : Int32)).toUInt32.toUInt16.toUInt32.toInt32)), .val (own_of w (((48 : Int32) + (p1 &&& (7 : Int32))).toUInt32.toUInt16.toUInt32.toInt32))] [(.int ((p0 &&& (65535 : Int32)).toUInt32.toUInt16.toUInt32.toInt32)), (own_of w ((p0 &&& (65535 : Int32)).toUInt32.toUInt16.toUInt32.toInt32))])) rfl (by rw [hml]; rfl) (argsL := [(.int ((p0 &&& (65535 : Int32)).toUInt32.toUInt16.toUInt32.toInt32))]) (rest := [(own_of w ((p0 &&& (65535 : Int32)).toUInt32.toUInt16.toUInt32.toInt32))]) (lenOf pd_0 rfl) rfl (by show 2 * 0 + _ ≤ _; simp only [List.map_cons, List.map_nil, List.sum_cons, List.sum_nil, own_cat (own_ref w ((p0 &&& (65535 : Int32)).toUInt32.toUInt16.toUInt32.toInt32))]; decide) (hb hby at_30) (fun _ _ => ⟨rfl, e2, (by decide : 0 + 0 ≤ _), (by decide : 0 + 0 ≤ _)⟩)
  dsimp only [Pt.U, Pt.locs, Pt.cells, Pt.slots] at X3 l3 y3 z3 st3 hQ3
  subst l3 y3 z3
  obtain ⟨rfl, N3q, e3⟩ := hQ3
  have N3 := Fr.app N2 N3q
  obtain ⟨_, _, ⟨T4, L4, k4, n4⟩, -, X4, ⟨Lc4, hQ4, l4, y4, z4⟩, st4⟩ := Jvm.LawKit.callS X3 hx (y := (⟨"com/example/tsunagi/tsunagi/model/CatpStatusClassOfPinLaw", "expected", "(C)Lcom/example/tsunagi/tsunagi/model/CatpStatusClass;"⟩ : MethodName)) hown (mvT hZ (W hw 8 rfl)) (mvT hZ (W hw 9 rfl)) (mvT hZ (W hw 10 rfl)) (mvT hZ (W hw 11 rfl)) (by decide) (backOf (W := 1) (sum_1 l Z a0 hw w kk hN [] (((48 : Int32) + (p1 &&& (7 : Int32))).toUInt32.toUInt16.toUInt32.toInt32) h0 O0) hZ (W hw 11 rfl) (W hw 10 rfl) (by decide) (by decide)) (g := (mkF m 39 #[.val (.int p0), .val (.int p1), .val (.int ((p0 &&& (65535 : Int32)).toUInt32.toUInt16.toUInt32.toInt32)), .val (.int (((48 : Int32) + (p1 &&& (7 : Int32))).toUInt32.toUInt16.toUInt32.toInt32)), .val (own_of w ((p0 &&& (65535 : Int32)).toUInt32.toUInt16.toUInt32.toInt32)), .val (own_of w (((48 : Int32) + (p1 &&& (7 : Int32))).toUInt32.toUInt16.toUInt32.toInt32))] [(.int (((48 : Int32) + (p1 &&& (7 : Int32))).toUInt32.toUInt16.toUInt32.toInt32)), (own_of w (((48 : Int32) + (p1 &&& (7 : Int32))).toUInt32.toUInt16.toUInt32.toInt32))])) rfl (by rw [hml]; rfl) (argsL := [(.int (((48 : Int32) + (p1 &&& (7 : Int32))).toUInt32.toUInt16.toUInt32.toInt32))]) (rest := [(own_of w (((48 : Int32) + (p1 &&& (7 : Int32))).toUInt32.toUInt16.toUInt32.toInt32))]) (lenOf pd_0 rfl) rfl (by show 2 * 0 + _ ≤ _; simp only [List.map_cons, List.map_nil, List.sum_cons, List.sum_nil, own_cat (own_ref w (((48 : Int32) + (p1 &&& (7 : Int32))).toUInt32.toUInt16.toUInt32.toInt32))]; decide) (hb hby at_39) (fun _ _ => ⟨rfl, e3, (by decide : 0 + 0 ≤ _), (by decide : 0 + 0 ≤ _)⟩)
  dsimp only [Pt.U, Pt.locs, Pt.cells, Pt.slots] at X4 l4 y4 z4 st4 hQ4
  subst l4 y4 z4
  obtain ⟨rfl, N4q, e4⟩ := hQ4
  have N4 := Fr.app N3 N4q
  obtain ⟨fs, hr, hrun, hended, hW, hsame⟩ := X4.leave (v := some (.int (1 : Int32))) (fun h => by rw [Bd.returns] at h; cases h)
  refine ⟨_, _, pre0 _ ?_, hrun, hended, _, _, rfl, ?_, ⟨_, rfl⟩, hW, hsame.mono (by decide) (by decide)⟩
  · show Steps p.tables e below (s₁.setTop (mkF m 0 #[.val (.int p0), .val (.int p1), .unset, .unset, .unset, .unset] [])) _
    refine XS.iloadN X0.here hx rfl (hb hby at_0) rfl ?_
    show Steps p.tables e below (s₁.setTop (mkF m 1 #[.val (.int p0), .val (.int p1), .unset, .unset, .unset, .unset] [(.int p0)])) _
    refine X0.ldcInt hx hown (mvT hZ (W hw 0 rfl)) (g := (mkF m 1 #[.val (.int p0), .val (.int p1), .unset, .unset, .unset, .unset] [(.int p0)])) rfl (hb hby at_1) _ ?_
    show Steps p.tables e below (s₁.setTop (mkF m 3 #[.val (.int p0), .val (.int p1), .unset, .unset, .unset, .unset] [(.int (65535 : Int32)), (.int p0)])) _
    refine XS.iand X0.here hx rfl (hb hby at_3) rfl ?_
    show Steps p.tables e below (s₁.setTop (mkF m 4 #[.val (.int p0), .val (.int p1), .unset, .unset, .unset, .unset] [(.int (p0 &&& (65535 : Int32)))])) _
    refine XS.i2c X0.here hx rfl (hb hby at_4) rfl ?_
    show Steps p.tables e below (s₁.setTop (mkF m 5 #[.val (.int p0), .val (.int p1), .unset, .unset, .unset, .unset] [(.int ((p0 &&& (65535 : Int32)).toUInt32.toUInt16.toUInt32.toInt32))])) _
    refine XS.istoreN X0.here hx rfl (hb hby at_5) rfl (l' := #[.val (.int p0), .val (.int p1), .val (.int ((p0 &&& (65535 : Int32)).toUInt32.toUInt16.toUInt32.toInt32)), .unset, .unset, .unset]) rfl ?_
    show Steps p.tables e below (s₁.setTop (mkF m 6 #[.val (.int p0), .val (.int p1), .val (.int ((p0 &&& (65535 : Int32)).toUInt32.toUInt16.toUInt32.toInt32)), .unset, .unset, .unset] [])) _
    refine XS.bipush X0.here hx rfl (hb hby at_6) ?_
    show Steps p.tables e below (s₁.setTop (mkF m 8 #[.val (.int p0), .val (.int p1), .val (.int ((p0 &&& (65535 : Int32)).toUInt32.toUInt16.toUInt32.toInt32)), .unset, .unset, .unset] [(.int (48 : Int32))])) _
    refine XS.iloadN X0.here hx rfl (hb hby at_8) rfl ?_
    show Steps p.tables e below (s₁.setTop (mkF m 9 #[.val (.int p0), .val (.int p1), .val (.int ((p0 &&& (65535 : Int32)).toUInt32.toUInt16.toUInt32.toInt32)), .unset, .unset, .unset] [(.int p1), (.int (48 : Int32))])) _
    refine XS.bipush X0.here hx rfl (hb hby at_9) ?_
    show Steps p.tables e below (s₁.setTop (mkF m 11 #[.val (.int p0), .val (.int p1), .val (.int ((p0 &&& (65535 : Int32)).toUInt32.toUInt16.toUInt32.toInt32)), .unset, .unset, .unset] [(.int (7 : Int32)), (.int p1), (.int (48 : Int32))])) _
    refine XS.iand X0.here hx rfl (hb hby at_11) rfl ?_
    show Steps p.tables e below (s₁.setTop (mkF m 12 #[.val (.int p0), .val (.int p1), .val (.int ((p0 &&& (65535 : Int32)).toUInt32.toUInt16.toUInt32.toInt32)), .unset, .unset, .unset] [(.int (p1 &&& (7 : Int32))), (.int (48 : Int32))])) _
    refine XS.iadd X0.here hx rfl (hb hby at_12) rfl ?_
    show Steps p.tables e below (s₁.setTop (mkF m 13 #[.val (.int p0), .val (.int p1), .val (.int ((p0 &&& (65535 : Int32)).toUInt32.toUInt16.toUInt32.toInt32)), .unset, .unset, .unset] [(.int ((48 : Int32) + (p1 &&& (7 : Int32))))])) _
    refine XS.i2c X0.here hx rfl (hb hby at_13) rfl ?_
    show Steps p.tables e below (s₁.setTop (mkF m 14 #[.val (.int p0), .val (.int p1), .val (.int ((p0 &&& (65535 : Int32)).toUInt32.toUInt16.toUInt32.toInt32)), .unset, .unset, .unset] [(.int (((48 : Int32) + (p1 &&& (7 : Int32))).toUInt32.toUInt16.toUInt32.toInt32))])) _
    refine XS.istoreN X0.here hx rfl (hb hby at_14) rfl (l' := #[.val (.int p0), .val (.int p1), .val (.int ((p0 &&& (65535 : Int32)).toUInt32.toUInt16.toUInt32.toInt32)), .val (.int (((48 : Int32) + (p1 &&& (7 : Int32))).toUInt32.toUInt16.toUInt32.toInt32)), .unset, .unset]) rfl ?_
    show Steps p.tables e below (s₁.setTop (mkF m 15 #[.val (.int p0), .val (.int p1), .val (.int ((p0 &&& (65535 : Int32)).toUInt32.toUInt16.toUInt32.toInt32)), .val (.int (((48 : Int32) + (p1 &&& (7 : Int32))).toUInt32.toUInt16.toUInt32.toInt32)), .unset, .unset] [])) _
    refine XS.iloadN X0.here hx rfl (hb hby at_15) rfl ?_
    show Steps p.tables e below (s₁.setTop (mkF m 16 #[.val (.int p0), .val (.int p1), .val (.int ((p0 &&& (65535 : Int32)).toUInt32.toUInt16.toUInt32.toInt32)), .val (.int (((48 : Int32) + (p1 &&& (7 : Int32))).toUInt32.toUInt16.toUInt32.toInt32)), .unset, .unset] [(.int ((p0 &&& (65535 : Int32)).toUInt32.toUInt16.toUInt32.toInt32))])) _
    refine st1 _ ?_
    show Steps p.tables e below (T1.setTop (mkF m 19 #[.val (.int p0), .val (.int p1), .val (.int ((p0 &&& (65535 : Int32)).toUInt32.toUInt16.toUInt32.toInt32)), .val (.int (((48 : Int32) + (p1 &&& (7 : Int32))).toUInt32.toUInt16.toUInt32.toInt32)), .unset, .unset] [(own_of w ((p0 &&& (65535 : Int32)).toUInt32.toUInt16.toUInt32.toInt32))])) _
    refine XS.astore X1.here hx rfl (hb hby at_19) rfl (own_ref w ((p0 &&& (65535 : Int32)).toUInt32.toUInt16.toUInt32.toInt32)) (l' := #[.val (.int p0), .val (.int p1), .val (.int ((p0 &&& (65535 : Int32)).toUInt32.toUInt16.toUInt32.toInt32)), .val (.int (((48 : Int32) + (p1 &&& (7 : Int32))).toUInt32.toUInt16.toUInt32.toInt32)), .val (own_of w ((p0 &&& (65535 : Int32)).toUInt32.toUInt16.toUInt32.toInt32)), .unset]) (by rcases ref_cases (own_ref w ((p0 &&& (65535 : Int32)).toUInt32.toUInt16.toUInt32.toInt32)) with h | ⟨z, h⟩ <;> rw [h] <;> rfl) ?_
    show Steps p.tables e below (T1.setTop (mkF m 21 #[.val (.int p0), .val (.int p1), .val (.int ((p0 &&& (65535 : Int32)).toUInt32.toUInt16.toUInt32.toInt32)), .val (.int (((48 : Int32) + (p1 &&& (7 : Int32))).toUInt32.toUInt16.toUInt32.toInt32)), .val (own_of w ((p0 &&& (65535 : Int32)).toUInt32.toUInt16.toUInt32.toInt32)), .unset] [])) _
    refine XS.iloadN X1.here hx rfl (hb hby at_21) rfl ?_
    show Steps p.tables e below (T1.setTop (mkF m 22 #[.val (.int p0), .val (.int p1), .val (.int ((p0 &&& (65535 : Int32)).toUInt32.toUInt16.toUInt32.toInt32)), .val (.int (((48 : Int32) + (p1 &&& (7 : Int32))).toUInt32.toUInt16.toUInt32.toInt32)), .val (own_of w ((p0 &&& (65535 : Int32)).toUInt32.toUInt16.toUInt32.toInt32)), .unset] [(.int (((48 : Int32) + (p1 &&& (7 : Int32))).toUInt32.toUInt16.toUInt32.toInt32))])) _
    refine st2 _ ?_
    show Steps p.tables e below (T2.setTop (mkF m 25 #[.val (.int p0), .val (.int p1), .val (.int ((p0 &&& (65535 : Int32)).toUInt32.toUInt16.toUInt32.toInt32)), .val (.int (((48 : Int32) + (p1 &&& (7 : Int32))).toUInt32.toUInt16.toUInt32.toInt32)), .val (own_of w ((p0 &&& (65535 : Int32)).toUInt32.toUInt16.toUInt32.toInt32)), .unset] [(own_of w (((48 : Int32) + (p1 &&& (7 : Int32))).toUInt32.toUInt16.toUInt32.toInt32))])) _
    refine XS.astore X2.here hx rfl (hb hby at_25) rfl (own_ref w (((48 : Int32) + (p1 &&& (7 : Int32))).toUInt32.toUInt16.toUInt32.toInt32)) (l' := #[.val (.int p0), .val (.int p1), .val (.int ((p0 &&& (65535 : Int32)).toUInt32.toUInt16.toUInt32.toInt32)), .val (.int (((48 : Int32) + (p1 &&& (7 : Int32))).toUInt32.toUInt16.toUInt32.toInt32)), .val (own_of w ((p0 &&& (65535 : Int32)).toUInt32.toUInt16.toUInt32.toInt32)), .val (own_of w (((48 : Int32) + (p1 &&& (7 : Int32))).toUInt32.toUInt16.toUInt32.toInt32))]) (by rcases ref_cases (own_ref w (((48 : Int32) + (p1 &&& (7 : Int32))).toUInt32.toUInt16.toUInt32.toInt32)) with h | ⟨z, h⟩ <;> rw [h] <;> rfl) ?_
    show Steps p.tables e below (T2.setTop (mkF m 27 #[.val (.int p0), .val (.int p1), .val (.int ((p0 &&& (65535 : Int32)).toUInt32.toUInt16.toUInt32.toInt32)), .val (.int (((48 : Int32) + (p1 &&& (7 : Int32))).toUInt32.toUInt16.toUInt32.toInt32)), .val (own_of w ((p0 &&& (65535 : Int32)).toUInt32.toUInt16.toUInt32.toInt32)), .val (own_of w (((48 : Int32) + (p1 &&& (7 : Int32))).toUInt32.toUInt16.toUInt32.toInt32))] [])) _
    refine XS.aload X2.here hx rfl (hb hby at_27) rfl (own_ref w ((p0 &&& (65535 : Int32)).toUInt32.toUInt16.toUInt32.toInt32)) ?_
    show Steps p.tables e below (T2.setTop (mkF m 29 #[.val (.int p0), .val (.int p1), .val (.int ((p0 &&& (65535 : Int32)).toUInt32.toUInt16.toUInt32.toInt32)), .val (.int (((48 : Int32) + (p1 &&& (7 : Int32))).toUInt32.toUInt16.toUInt32.toInt32)), .val (own_of w ((p0 &&& (65535 : Int32)).toUInt32.toUInt16.toUInt32.toInt32)), .val (own_of w (((48 : Int32) + (p1 &&& (7 : Int32))).toUInt32.toUInt16.toUInt32.toInt32))] [(own_of w ((p0 &&& (65535 : Int32)).toUInt32.toUInt16.toUInt32.toInt32))])) _
    refine XS.iloadN X2.here hx rfl (hb hby at_29) rfl ?_
    show Steps p.tables e below (T2.setTop (mkF m 30 #[.val (.int p0), .val (.int p1), .val (.int ((p0 &&& (65535 : Int32)).toUInt32.toUInt16.toUInt32.toInt32)), .val (.int (((48 : Int32) + (p1 &&& (7 : Int32))).toUInt32.toUInt16.toUInt32.toInt32)), .val (own_of w ((p0 &&& (65535 : Int32)).toUInt32.toUInt16.toUInt32.toInt32)), .val (own_of w (((48 : Int32) + (p1 &&& (7 : Int32))).toUInt32.toUInt16.toUInt32.toInt32))] [(.int ((p0 &&& (65535 : Int32)).toUInt32.toUInt16.toUInt32.toInt32)), (own_of w ((p0 &&& (65535 : Int32)).toUInt32.toUInt16.toUInt32.toInt32))])) _
    refine st3 _ ?_
    show Steps p.tables e below (T3.setTop (mkF m 33 #[.val (.int p0), .val (.int p1), .val (.int ((p0 &&& (65535 : Int32)).toUInt32.toUInt16.toUInt32.toInt32)), .val (.int (((48 : Int32) + (p1 &&& (7 : Int32))).toUInt32.toUInt16.toUInt32.toInt32)), .val (own_of w ((p0 &&& (65535 : Int32)).toUInt32.toUInt16.toUInt32.toInt32)), .val (own_of w (((48 : Int32) + (p1 &&& (7 : Int32))).toUInt32.toUInt16.toUInt32.toInt32))] [(own_of w ((p0 &&& (65535 : Int32)).toUInt32.toUInt16.toUInt32.toInt32)), (own_of w ((p0 &&& (65535 : Int32)).toUInt32.toUInt16.toUInt32.toInt32))])) _
    refine Jvm.RoadKit.acmp (g := (mkF m 33 #[.val (.int p0), .val (.int p1), .val (.int ((p0 &&& (65535 : Int32)).toUInt32.toUInt16.toUInt32.toInt32)), .val (.int (((48 : Int32) + (p1 &&& (7 : Int32))).toUInt32.toUInt16.toUInt32.toInt32)), .val (own_of w ((p0 &&& (65535 : Int32)).toUInt32.toUInt16.toUInt32.toInt32)), .val (own_of w (((48 : Int32) + (p1 &&& (7 : Int32))).toUInt32.toUInt16.toUInt32.toInt32))] [(own_of w ((p0 &&& (65535 : Int32)).toUInt32.toUInt16.toUInt32.toInt32)), (own_of w ((p0 &&& (65535 : Int32)).toUInt32.toUInt16.toUInt32.toInt32))])) X3 hx rfl (own_ref w ((p0 &&& (65535 : Int32)).toUInt32.toUInt16.toUInt32.toInt32)) (own_ref w ((p0 &&& (65535 : Int32)).toUInt32.toUInt16.toUInt32.toInt32)) (pc0 := 33) (pc' := 36) (same := true) rfl (hb hby at_33) rfl (decide_eq_true rfl) (by decide) (by decide) ?_
    show Steps p.tables e below (T3.setTop (mkF m 36 #[.val (.int p0), .val (.int p1), .val (.int ((p0 &&& (65535 : Int32)).toUInt32.toUInt16.toUInt32.toInt32)), .val (.int (((48 : Int32) + (p1 &&& (7 : Int32))).toUInt32.toUInt16.toUInt32.toInt32)), .val (own_of w ((p0 &&& (65535 : Int32)).toUInt32.toUInt16.toUInt32.toInt32)), .val (own_of w (((48 : Int32) + (p1 &&& (7 : Int32))).toUInt32.toUInt16.toUInt32.toInt32))] [])) _
    refine XS.aload X3.here hx rfl (hb hby at_36) rfl (own_ref w (((48 : Int32) + (p1 &&& (7 : Int32))).toUInt32.toUInt16.toUInt32.toInt32)) ?_
    show Steps p.tables e below (T3.setTop (mkF m 38 #[.val (.int p0), .val (.int p1), .val (.int ((p0 &&& (65535 : Int32)).toUInt32.toUInt16.toUInt32.toInt32)), .val (.int (((48 : Int32) + (p1 &&& (7 : Int32))).toUInt32.toUInt16.toUInt32.toInt32)), .val (own_of w ((p0 &&& (65535 : Int32)).toUInt32.toUInt16.toUInt32.toInt32)), .val (own_of w (((48 : Int32) + (p1 &&& (7 : Int32))).toUInt32.toUInt16.toUInt32.toInt32))] [(own_of w (((48 : Int32) + (p1 &&& (7 : Int32))).toUInt32.toUInt16.toUInt32.toInt32))])) _
    refine XS.iloadN X3.here hx rfl (hb hby at_38) rfl ?_
    show Steps p.tables e below (T3.setTop (mkF m 39 #[.val (.int p0), .val (.int p1), .val (.int ((p0 &&& (65535 : Int32)).toUInt32.toUInt16.toUInt32.toInt32)), .val (.int (((48 : Int32) + (p1 &&& (7 : Int32))).toUInt32.toUInt16.toUInt32.toInt32)), .val (own_of w ((p0 &&& (65535 : Int32)).toUInt32.toUInt16.toUInt32.toInt32)), .val (own_of w (((48 : Int32) + (p1 &&& (7 : Int32))).toUInt32.toUInt16.toUInt32.toInt32))] [(.int (((48 : Int32) + (p1 &&& (7 : Int32))).toUInt32.toUInt16.toUInt32.toInt32)), (own_of w (((48 : Int32) + (p1 &&& (7 : Int32))).toUInt32.toUInt16.toUInt32.toInt32))])) _
    refine st4 _ ?_
    show Steps p.tables e below (T4.setTop (mkF m 42 #[.val (.int p0), .val (.int p1), .val (.int ((p0 &&& (65535 : Int32)).toUInt32.toUInt16.toUInt32.toInt32)), .val (.int (((48 : Int32) + (p1 &&& (7 : Int32))).toUInt32.toUInt16.toUInt32.toInt32)), .val (own_of w ((p0 &&& (65535 : Int32)).toUInt32.toUInt16.toUInt32.toInt32)), .val (own_of w (((48 : Int32) + (p1 &&& (7 : Int32))).toUInt32.toUInt16.toUInt32.toInt32))] [(own_of w (((48 : Int32) + (p1 &&& (7 : Int32))).toUInt32.toUInt16.toUInt32.toInt32)), (own_of w (((48 : Int32) + (p1 &&& (7 : Int32))).toUInt32.toUInt16.toUInt32.toInt32))])) _
    refine Jvm.RoadKit.acmp (g := (mkF m 42 #[.val (.int p0), .val (.int p1), .val (.int ((p0 &&& (65535 : Int32)).toUInt32.toUInt16.toUInt32.toInt32)), .val (.int (((48 : Int32) + (p1 &&& (7 : Int32))).toUInt32.toUInt16.toUInt32.toInt32)), .val (own_of w ((p0 &&& (65535 : Int32)).toUInt32.toUInt16.toUInt32.toInt32)), .val (own_of w (((48 : Int32) + (p1 &&& (7 : Int32))).toUInt32.toUInt16.toUInt32.toInt32))] [(own_of w (((48 : Int32) + (p1 &&& (7 : Int32))).toUInt32.toUInt16.toUInt32.toInt32)), (own_of w (((48 : Int32) + (p1 &&& (7 : Int32))).toUInt32.toUInt16.toUInt32.toInt32))])) X4 hx rfl (own_ref w (((48 : Int32) + (p1 &&& (7 : Int32))).toUInt32.toUInt16.toUInt32.toInt32)) (own_ref w (((48 : Int32) + (p1 &&& (7 : Int32))).toUInt32.toUInt16.toUInt32.toInt32)) (pc0 := 42) (pc' := 45) (same := true) rfl (hb hby at_42) rfl (decide_eq_true rfl) (by decide) (by decide) ?_
    show Steps p.tables e below (T4.setTop (mkF m 45 #[.val (.int p0), .val (.int p1), .val (.int ((p0 &&& (65535 : Int32)).toUInt32.toUInt16.toUInt32.toInt32)), .val (.int (((48 : Int32) + (p1 &&& (7 : Int32))).toUInt32.toUInt16.toUInt32.toInt32)), .val (own_of w ((p0 &&& (65535 : Int32)).toUInt32.toUInt16.toUInt32.toInt32)), .val (own_of w (((48 : Int32) + (p1 &&& (7 : Int32))).toUInt32.toUInt16.toUInt32.toInt32))] [])) _
    refine XS.iconst X4.here hx rfl (hb hby at_45) ?_
    show Steps p.tables e below (T4.setTop (mkF m 46 #[.val (.int p0), .val (.int p1), .val (.int ((p0 &&& (65535 : Int32)).toUInt32.toUInt16.toUInt32.toInt32)), .val (.int (((48 : Int32) + (p1 &&& (7 : Int32))).toUInt32.toUInt16.toUInt32.toInt32)), .val (own_of w ((p0 &&& (65535 : Int32)).toUInt32.toUInt16.toUInt32.toInt32)), .val (own_of w (((48 : Int32) + (p1 &&& (7 : Int32))).toUInt32.toUInt16.toUInt32.toInt32))] [(.int (1 : Int32))])) _
    refine XS.goto X4.here hx rfl (pc0 := 46) (pc' := 50) rfl (hb hby at_46) (by decide) (by decide) ?_
    show Steps p.tables e below (T4.setTop (mkF m 50 #[.val (.int p0), .val (.int p1), .val (.int ((p0 &&& (65535 : Int32)).toUInt32.toUInt16.toUInt32.toInt32)), .val (.int (((48 : Int32) + (p1 &&& (7 : Int32))).toUInt32.toUInt16.toUInt32.toInt32)), .val (own_of w ((p0 &&& (65535 : Int32)).toUInt32.toUInt16.toUInt32.toInt32)), .val (own_of w (((48 : Int32) + (p1 &&& (7 : Int32))).toUInt32.toUInt16.toUInt32.toInt32))] [(.int (1 : Int32))])) _
    exact retN X4 hx (t := .boolean) Bd.returns (by simp) (hb hby at_50) hr
  · show OL (some (.int (1 : Int32))) Z.heap.size _ T4.heap _
    exact ⟨rfl, N4⟩
set_option maxRecDepth 65536 in
set_option maxHeartbeats 40000000 in
theorem law_all (l : Launch) (Z : State) (a0 : Array Value) (hw : ∀ d ∈ tables_1, d.before a0 Z = true) (w : Nat → Addr) (kk : Nat → ClassId) (hN : Wd Z w kk) (ws : List Jvm.Cond) (p0 : Int32) (p1 : Int32) (h0 : Heap) (O0 : Old Z Z.heap.size h0) :
    MetFree l x (head1 (Jvm.Cond.code x code maxLocals ret :: ws) room_1) (fun a U => a = #[(.int p0), (.int p1)] ∧ Z.Warmed39 U.vm ∧ U.heap = h0) (fun _ _ _ _ _ => True) (fun _ U o U' => ∃ v L, o = .returned v ∧ OL (some (.int (1 : Int32))) Z.heap.size v U'.heap L ∧ FrameEnd U o U' L 0 0) := by
  exact law_14 l Z a0 hw w kk hN ws p0 p1 h0 O0
set_option maxRecDepth 65536 in
set_option maxHeartbeats 40000000 in
theorem comes_1 {Post : Tables → Env → Array Value → State → Outcome → State → Prop} (hpost : ∀ tb e args s v u, (limb_1_1.after args s (.returned v) u = true ∧ limb_1_2.after args s (.returned v) u = true ∧ True) → FrameEnd s (.returned v) u (Jvm.fieldLocs frame_1_writes args s ++ Jvm.arrayLocs frame_1_arrays args s ++ Jvm.staticLocs frame_1_statics s) 0 0 → Post tb e args s (.returned v) u) :
    ArmFor flags0 classFile x code maxLocals ret World_1 tables_1 room_1 Calls_1 rest_1 Pre_1 Post := by
  intro l hfl _ _ p e ha hc hk s m args below hf hA hF happ hP
  obtain ⟨hcalls, hrest, hpre⟩ := hP
  obtain ⟨-, -, -, hnamed, -, -, -, hat⟩ := (Spec.applies_iff hf).mp happ
  obtain ⟨hg, hn⟩ := and_e (Cond.before_iff.mp (show (Jvm.Cond.and given_1 narrow_1).before args s = true from hpre))
  obtain ⟨g1, g2⟩ := and_e hg
  obtain ⟨g3, g4⟩ := and_e g2
  obtain ⟨g5, g6⟩ := and_e hn
  obtain ⟨g7, g8⟩ := and_e g6
  obtain ⟨g9, g10⟩ := and_e g8
  obtain ⟨g11, g12⟩ := and_e g10
  obtain ⟨g13, g14⟩ := and_e g12
  obtain ⟨g15, g16⟩ := and_e g14
  obtain ⟨g17, g18⟩ := and_e g16
  obtain ⟨g19, g20⟩ := and_e g18
  obtain ⟨g21, g22⟩ := and_e g20
  obtain ⟨g23, g24⟩ := and_e g22
  obtain ⟨g25, g26⟩ := and_e g24
  obtain ⟨w0, w1, rfl⟩ : ∃ w0 w1 : Value, args = #[w0, w1] := by
    have hs : args.size = 2 := by simpa [Cond.value, given_1] using g1
    obtain ⟨L⟩ := args
    match L, hs with
    | [w0, w1], _ => exact ⟨w0, w1, rfl⟩
  have hw := fun d (hd : d ∈ tables_1) => atoms_spec (ws := Jvm.Cond.code x code maxLocals ret :: tables_1) hat d (List.mem_cons_of_mem _ hd)
  have hfit : Fit s := fun {y c} hc i hi => by
    obtain ⟨ha, rfl⟩ := Array.getElem?_eq_some_iff.mp hc
    have q := List.all_eq_true.mp ((Array.all_eq_true_iff_forall_mem.mp hF) _ (Array.getElem_mem ha)) i (List.mem_range.mpr hi)
    simpa [Array.getElem?_eq_getElem hi] using q
  obtain ⟨i0, ei0⟩ := is_v g3
  obtain rfl : w0 = (.int i0) := Option.some.inj ei0
  obtain ⟨i1, ei1⟩ := is_v g4
  obtain rfl : w1 = (.int i1) := Option.some.inj ei1
  obtain ⟨x0, v0⟩ := arr_v g5
  obtain ⟨x1, v1⟩ := exa_v g9
  obtain ⟨x2, v2⟩ := exa_v g13
  obtain ⟨x3, v3⟩ := exa_v g17
  obtain ⟨x4, v4⟩ := exa_v g21
  obtain ⟨x5, v5⟩ := exa_v g25
  obtain ⟨cl0, ar0⟩ := Arr.start v0 g5
  have hat0 : s.arrayAt? x0 = some cl0 := ar0.fin (Vm.Alike.refl _)
  have hsz0 := own_len hat0 v0 (own_eqv g7 (Term.int_eval _))
  have hel0_0 := own_elem hat0 v0 (own_eqv g15 v2) (by decide)
  have hel0_1 := own_elem hat0 v0 (own_eqv g26 v5) (by decide)
  have hel0_2 := own_elem hat0 v0 (own_eqv g11 v1) (by decide)
  have hel0_3 := own_elem hat0 v0 (own_eqv g19 v3) (by decide)
  have hel0_4 := own_elem hat0 v0 (own_eqv g23 v4) (by decide)
  obtain ⟨ka0, hka0⟩ : ∃ k, k = cl0.cls := ⟨_, rfl⟩
  have hArv0 : Arv s s.heap x0 ka0 (.object "com/example/tsunagi/tsunagi/model/CatpStatusClass") (5 : Int32) [(.ref x2), (.ref x5), (.ref x1), (.ref x3), (.ref x4)] .null := hka0 ▸ Arv.start hfit ar0 hsz0.1 hsz0.2 (by decide) (by rfl) ⟨hel0_0, hel0_1, hel0_2, hel0_3, hel0_4, trivial⟩
  have hN : Wd s (fun n => [x0, x1, x2, x3, x4, x5].getD n 0) (fun n => [ka0, 0, 0, 0, 0, 0].getD n 0) := ⟨Sta.start v0 (Or.inr ⟨(W hw 3 rfl), (W hw 6 rfl)⟩), Sta.start v1 (Or.inr ⟨(W hw 3 rfl), (W hw 7 rfl)⟩), Exa.start v1 g9, Sta.start v2 (Or.inr ⟨(W hw 3 rfl), (W hw 13 rfl)⟩), Exa.start v2 g13, Sta.start v3 (Or.inr ⟨(W hw 3 rfl), (W hw 15 rfl)⟩), Exa.start v3 g17, Sta.start v4 (Or.inr ⟨(W hw 3 rfl), (W hw 17 rfl)⟩), Exa.start v4 g21, Sta.start v5 (Or.inr ⟨(W hw 3 rfl), (W hw 19 rfl)⟩), Exa.start v5 g25, hArv0⟩
  obtain ⟨n, o, h1, h2, h3, _, L, rfl, ⟨rfl, N⟩, hq⟩ := law_all l s _ hw _ _ hN tables_1 i0 i1 s.heap (Old.start s) p e ha hc hk s m _ below hf ((Spec.applies_iff_loose hf).mp happ).1 ⟨rfl, State.Warmed39.refl s, rfl⟩ trivial
  refine ⟨n, _, h1, h2, h3, hpost _ _ _ _ _ _ ⟨Cond.after_iff.mpr rfl, Cond.after_iff.mpr (eq_i res_at (Term.int_eval (1)) rfl), trivial⟩ ⟨hq.1, hq.2.1, (hq.2.2.sift fun y hy => Or.inr (N y hy)).mono (by decide) (by decide)⟩⟩
theorem main_1_1 : Claimed_1_1 := comes_1 fun _ _ _ _ _ _ h hF => ⟨h.1, hF⟩
theorem main_1_2 : Claimed_1_2 := comes_1 fun _ _ _ _ _ _ h hF => ⟨h.2.1, hF⟩
end Jvm.Pilot.@@N@@
namespace Jvm.Pilot.@@N@@
open Jvm Jvm.ClassFile Sem Op Lib Jvm.Free Jvm.Stand Jvm.Pilot.@@N@@.Jvm.D
/-! MADE BY PROGRAM (witnessworld.py) out of the Statement's table words and the real class files: 13 classes; the members and pool entries that the words name. The judged class is class 1, her method 2. -/
namespace start1
open Jvm.ClassFile
def u (s : String) : CpInfo := .utf8 (stringToUtf16 s)
/-- a pool by its gaps: so many unusable entries, then the entry; so many at the end -/
def gap : Nat → List CpInfo → List CpInfo
  | 0, r => r
  | n + 1, r => .unusable :: gap n r
def poolList (es : List (Nat × CpInfo)) (last : Nat) : List CpInfo := es.foldr (fun e r => gap e.1 (e.2 :: r)) (gap last [])
def pool (es : List (Nat × CpInfo)) (last : Nat) : Array CpInfo := ⟨poolList es last⟩
def fileOf (pool : Array CpInfo) (this : Nat) (attrs : Array Attribute := #[]) (ms : Array MethodInfo := #[]) (fl : Nat := 33) (sup : Nat := 0) (ifs : Array Nat := #[]) (fds : Array FieldInfo := #[]) : ClassFile where
  minorVersion := 0
  majorVersion := 65
  constantPool := pool
  accessFlags := fl
  thisClass := this
  superClass := sup
  interfaces := ifs
  fields := fds
  methods := ms
  attributes := attrs
def plain (name : String) (sup : Option ClassId) : Class where
  name := name
  kind := .ordinary
  loader := none
  accessFlags := 33
  super := sup
  interfaces := #[]
  cf := none
  fields := #[]
  methods := #[]
  instanceTypes := #[]
  staticTypes := #[]
  resolved := #[]
  callSites := []
  init := .initialized
  statics := none
  mirror := none

def pool0 : Array CpInfo := pool [(5, u "<init>"), (0, u "()V"), (1, .class_ 10), (1, u "java/lang/Object")] 113

def k0m0 : Method := { name := "<init>", desc := "()V", sig := { parameters := [], returnType := none }, accessFlags := 1, code := none }
/-- java/lang/Object -/
def k0 : Class := { plain "java/lang/Object" none with
  accessFlags := 33
  interfaces := #[]
  cf := some (fileOf pool0 8 #[] #[{ accessFlags := 1, nameIndex := 5, descriptorIndex := 6, attributes := #[] }] 33 0 #[] #[])
  fields := #[]
  methods := #[k0m0]
  instanceTypes := #[]
  staticTypes := #[]
  resolved := Array.replicate 124 none
  statics := none }

def pool1 : Array CpInfo := pool [(2, .class_ 4), (1, u "java/lang/Object"), (0, u "<init>"), (0, u "()V"), (0, .fieldref 8 9), (0, .class_ 10), (0, .nameAndType 11 12), (0, u "com/example/tsunagi/tsunagi/model/CatpStatusClass"), (0, u "RESERVED"), (0, u "Lcom/example/tsunagi/tsunagi/model/CatpStatusClass;"), (0, .fieldref 8 14), (0, .nameAndType 15 12), (0, u "SUCCESS"), (0, .fieldref 8 17), (0, .nameAndType 18 12), (0, u "WARNING"), (0, .fieldref 8 20), (0, .nameAndType 21 12), (0, u "CLIENT_ERROR"), (0, .fieldref 8 23), (0, .nameAndType 24 12), (0, u "SERVER_ERROR"), (0, .integer 65535), (0, .methodref 8 27), (0, .nameAndType 28 29), (0, u "of"), (0, u "(C)Lcom/example/tsunagi/tsunagi/model/CatpStatusClass;"), (0, .methodref 31 32), (0, .class_ 33), (0, .nameAndType 34 29), (0, u "com/example/tsunagi/tsunagi/model/CatpStatusClassOfPinLaw"), (0, u "expected"), (3, u "law"), (0, u "(II)Z")] 2

def k1m0 : Method := { name := "<init>", desc := "()V", sig := { parameters := [], returnType := none }, accessFlags := 1, code := none }
def k1c1 : Code := { maxStack := 2, maxLocals := 1, code := method_2_code, exceptionTable := #[], attributes := #[] }
def k1m1 : Method := { name := "expected", desc := "(C)Lcom/example/tsunagi/tsunagi/model/CatpStatusClass;", sig := { parameters := [.char], returnType := some (.object "com/example/tsunagi/tsunagi/model/CatpStatusClass") }, accessFlags := 10, code := some k1c1 }
def k1c2 : Code := { maxStack := 3, maxLocals := 6, code := code, exceptionTable := #[], attributes := #[] }
def k1m2 : Method := { name := "law", desc := "(II)Z", sig := { parameters := [.int, .int], returnType := some .boolean }, accessFlags := 9, code := some k1c2 }
/-- com/example/tsunagi/tsunagi/model/CatpStatusClassOfPinLaw -/
def k1 : Class := { plain "com/example/tsunagi/tsunagi/model/CatpStatusClassOfPinLaw" (some 0) with
  accessFlags := 49
  interfaces := #[]
  cf := some (fileOf pool1 31 #[] #[{ accessFlags := 1, nameIndex := 5, descriptorIndex := 6, attributes := #[] }, { accessFlags := 10, nameIndex := 34, descriptorIndex := 29, attributes := #[] }, { accessFlags := 9, nameIndex := 38, descriptorIndex := 39, attributes := #[] }] 49 2 #[] #[])
  fields := #[]
  methods := #[k1m0, k1m1, k1m2]
  instanceTypes := #[]
  staticTypes := #[]
  resolved := Array.replicate 42 none
  statics := none }

def pool2 : Array CpInfo := pool [(1, .class_ 2), (0, u "java/lang/constant/Constable"), (0, .class_ 4), (0, u "java/lang/Object")] 6

/-- java/lang/constant/Constable -/
def k2 : Class := { plain "java/lang/constant/Constable" (some 0) with
  accessFlags := 1537
  interfaces := #[]
  cf := some (fileOf pool2 1 #[] #[] 1537 3 #[] #[])
  fields := #[]
  methods := #[]
  instanceTypes := #[]
  staticTypes := #[]
  resolved := Array.replicate 11 none
  statics := none }

def pool3 : Array CpInfo := pool [(1, .class_ 2), (0, u "java/lang/Comparable"), (0, .class_ 4), (0, u "java/lang/Object")] 7

/-- java/lang/Comparable -/
def k3 : Class := { plain "java/lang/Comparable" (some 0) with
  accessFlags := 1537
  interfaces := #[]
  cf := some (fileOf pool3 1 #[] #[] 1537 3 #[] #[])
  fields := #[]
  methods := #[]
  instanceTypes := #[]
  staticTypes := #[]
  resolved := Array.replicate 12 none
  statics := none }

def pool4 : Array CpInfo := pool [(1, .class_ 2), (0, u "java/io/Serializable"), (0, .class_ 4), (0, u "java/lang/Object")] 2

/-- java/io/Serializable -/
def k4 : Class := { plain "java/io/Serializable" (some 0) with
  accessFlags := 1537
  interfaces := #[]
  cf := some (fileOf pool4 1 #[] #[] 1537 3 #[] #[])
  fields := #[]
  methods := #[]
  instanceTypes := #[]
  staticTypes := #[]
  resolved := Array.replicate 7 none
  statics := none }

def pool5 : Array CpInfo := pool [(2, .class_ 4), (1, u "java/lang/Enum"), (0, u "name"), (0, u "Ljava/lang/String;"), (2, u "ordinal"), (0, u "I"), (1, .class_ 14), (1, u "java/lang/Object"), (4, u "hash"), (86, .class_ 108), (1, u "java/lang/Enum$EnumDesc"), (2, .class_ 112), (0, u "java/lang/constant/Constable"), (0, .class_ 114), (0, u "java/lang/Comparable"), (0, .class_ 116), (0, u "java/io/Serializable")] 87

/-- java/lang/Enum -/
def k5 : Class := { plain "java/lang/Enum" (some 0) with
  accessFlags := 1057
  interfaces := #[2, 3, 4]
  cf := some (fileOf pool5 2 #[.nestMembers #[106]] #[] 1057 12 #[111, 113, 115] #[{ accessFlags := 18, nameIndex := 5, descriptorIndex := 6, attributes := #[] }, { accessFlags := 18, nameIndex := 9, descriptorIndex := 10, attributes := #[] }, { accessFlags := 2, nameIndex := 19, descriptorIndex := 10, attributes := #[] }])
  fields := #[{ name := "name", type := (.object "java/lang/String"), accessFlags := 18, slot := 0, constantValue := 0 }, { name := "ordinal", type := .int, accessFlags := 18, slot := 1, constantValue := 0 }, { name := "hash", type := .int, accessFlags := 2, slot := 2, constantValue := 0 }]
  methods := #[]
  instanceTypes := #[(.object "java/lang/String"), .int, .int]
  staticTypes := #[]
  resolved := Array.replicate 204 none
  statics := none }

def pool6 : Array CpInfo := pool [(1, .class_ 2), (0, u "com/example/tsunagi/tsunagi/model/CatpStatusClass"), (2, u "RESERVED"), (0, u "Lcom/example/tsunagi/tsunagi/model/CatpStatusClass;"), (2, u "SUCCESS"), (2, u "WARNING"), (2, u "CLIENT_ERROR"), (2, u "SERVER_ERROR"), (2, u "$VALUES"), (0, u "[Lcom/example/tsunagi/tsunagi/model/CatpStatusClass;"), (6, .class_ 31), (1, u "java/lang/Enum"), (6, .fieldref 1 39), (0, .nameAndType 40 22), (0, u "ALL"), (19, u "of"), (0, u "(C)Lcom/example/tsunagi/tsunagi/model/CatpStatusClass;")] 5

def k6c0 : Code := { maxStack := 2, maxLocals := 2, code := prog_28_method_4_code, exceptionTable := #[], attributes := #[] }
def k6m0 : Method := { name := "of", desc := "(C)Lcom/example/tsunagi/tsunagi/model/CatpStatusClass;", sig := { parameters := [.char], returnType := some (.object "com/example/tsunagi/tsunagi/model/CatpStatusClass") }, accessFlags := 9, code := some k6c0 }
/-- com/example/tsunagi/tsunagi/model/CatpStatusClass -/
def k6 : Class := { plain "com/example/tsunagi/tsunagi/model/CatpStatusClass" (some 5) with
  accessFlags := 16433
  interfaces := #[]
  cf := some (fileOf pool6 1 #[] #[{ accessFlags := 9, nameIndex := 60, descriptorIndex := 61, attributes := #[] }] 16433 29 #[] #[{ accessFlags := 16409, nameIndex := 5, descriptorIndex := 6, attributes := #[] }, { accessFlags := 16409, nameIndex := 9, descriptorIndex := 6, attributes := #[] }, { accessFlags := 16409, nameIndex := 12, descriptorIndex := 6, attributes := #[] }, { accessFlags := 16409, nameIndex := 15, descriptorIndex := 6, attributes := #[] }, { accessFlags := 16409, nameIndex := 18, descriptorIndex := 6, attributes := #[] }, { accessFlags := 26, nameIndex := 40, descriptorIndex := 22, attributes := #[] }, { accessFlags := 4122, nameIndex := 21, descriptorIndex := 22, attributes := #[] }])
  fields := #[{ name := "RESERVED", type := (.object "com/example/tsunagi/tsunagi/model/CatpStatusClass"), accessFlags := 16409, slot := 0, constantValue := 0 }, { name := "SUCCESS", type := (.object "com/example/tsunagi/tsunagi/model/CatpStatusClass"), accessFlags := 16409, slot := 1, constantValue := 0 }, { name := "WARNING", type := (.object "com/example/tsunagi/tsunagi/model/CatpStatusClass"), accessFlags := 16409, slot := 2, constantValue := 0 }, { name := "CLIENT_ERROR", type := (.object "com/example/tsunagi/tsunagi/model/CatpStatusClass"), accessFlags := 16409, slot := 3, constantValue := 0 }, { name := "SERVER_ERROR", type := (.object "com/example/tsunagi/tsunagi/model/CatpStatusClass"), accessFlags := 16409, slot := 4, constantValue := 0 }, { name := "ALL", type := (.array (.object "com/example/tsunagi/tsunagi/model/CatpStatusClass")), accessFlags := 26, slot := 5, constantValue := 0 }, { name := "$VALUES", type := (.array (.object "com/example/tsunagi/tsunagi/model/CatpStatusClass")), accessFlags := 4122, slot := 6, constantValue := 0 }]
  methods := #[k6m0]
  instanceTypes := #[(.object "java/lang/String"), .int, .int]
  staticTypes := #[(.object "com/example/tsunagi/tsunagi/model/CatpStatusClass"), (.object "com/example/tsunagi/tsunagi/model/CatpStatusClass"), (.object "com/example/tsunagi/tsunagi/model/CatpStatusClass"), (.object "com/example/tsunagi/tsunagi/model/CatpStatusClass"), (.object "com/example/tsunagi/tsunagi/model/CatpStatusClass"), (.array (.object "com/example/tsunagi/tsunagi/model/CatpStatusClass")), (.array (.object "com/example/tsunagi/tsunagi/model/CatpStatusClass"))]
  resolved := Array.replicate 67 none
  statics := some 0 }

def pool7 : Array CpInfo := pool [(1, u "java/lang/Cloneable"), (0, .class_ 1), (0, u "java/lang/Object"), (0, .class_ 3)] 3

/-- java/lang/Cloneable -/
def k7 : Class := { plain "java/lang/Cloneable" (some 0) with
  accessFlags := 1537
  interfaces := #[]
  cf := some (fileOf pool7 2 #[] #[] 1537 4 #[] #[])
  fields := #[]
  methods := #[]
  instanceTypes := #[]
  staticTypes := #[]
  resolved := Array.replicate 8 none
  statics := none }

/-- the primitive byte -/
def k8 : Class := { plain "byte" none with kind := .primitive 'B', accessFlags := 0x411 }
/-- [B -/
def k9 : Class := { plain "[B" (some 0) with kind := .array 8 .byte, interfaces := #[7, 4], accessFlags := 1041 }

/-- the primitive int -/
def k10 : Class := { plain "int" none with kind := .primitive 'I', accessFlags := 0x411 }
/-- [I -/
def k11 : Class := { plain "[I" (some 0) with kind := .array 10 .int, interfaces := #[7, 4], accessFlags := 1041 }

/-- [Lcom/example/tsunagi/tsunagi/model/CatpStatusClass; -/
def k12 : Class := { plain "[Lcom/example/tsunagi/tsunagi/model/CatpStatusClass;" (some 0) with kind := .array 6 (.object "com/example/tsunagi/tsunagi/model/CatpStatusClass"), interfaces := #[7, 4], accessFlags := 1041 }

def heap : Heap := #[{ cls := 6, slots := #[.ref 3, .ref 6, .ref 2, .ref 4, .ref 5, .ref 1, .null], vm := .statics 6 },
  { cls := 12, slots := #[.ref 3, .ref 6, .ref 2, .ref 4, .ref 5], vm := .none },
  { cls := 6, slots := #[.null, .int 0, .int 0], vm := .none },
  { cls := 6, slots := #[.null, .int 0, .int 0], vm := .none },
  { cls := 6, slots := #[.null, .int 0, .int 0], vm := .none },
  { cls := 6, slots := #[.null, .int 0, .int 0], vm := .none },
  { cls := 6, slots := #[.null, .int 0, .int 0], vm := .none }]
def classes : Array Class := #[k0, k1, k2, k3, k4, k5, k6, k7, k8, k9, k10, k11, k12]
def interned : List (Array UInt16 × Addr) := []
def slotsUsed : Nat := 27
def theMethod : MethodId := ⟨1, 2⟩
def args0 : Array Value := #[.int 5, .int 5]
def aboutOver (below : List Frame) : State where
  vm := { classes := classes, interned := interned.toArray }
  heap := heap
  slotsUsed := slotsUsed
  threads := #[{ frames := .invoking theMethod args0 :: below }]
def below0 : List Frame := [.native { method := ⟨0, 0⟩, args := #[] }]
def about1 : State := aboutOver below0
def p0 : Program := .bare "" "" ""
def e0 : Env := launch0.env 0 0 0
theorem w_frames : about1.frames = Frame.invoking theMethod args0 :: below0 := rfl
set_option maxRecDepth 65536 in
theorem w_args : argsFit about1.vm theMethod args0 = true := by decide +kernel
set_option maxRecDepth 65536 in
theorem w_heap : heapFits about1 = true := by decide +kernel
set_option maxRecDepth 65536 in
theorem w_runnable : about1.curStatus? = some .runnable := by decide +kernel
set_option maxRecDepth 65536 in
theorem w_alone : about1.alone = true := by decide +kernel
set_option maxRecDepth 65536 in
theorem w_named : about1.methodNamed? x = some theMethod := by decide +kernel
set_option maxRecDepth 65536 in
theorem w_hears : about1.hears theMethod below0 = true := by decide +kernel
set_option maxRecDepth 65536 in
theorem w_ripe : about1.ripe theMethod args0 below0 = true := by decide +kernel
theorem w_running : about1.status = .running := rfl
set_option maxRecDepth 65536 in
theorem w_room : about1.hasRoom e0.platform room_1 = true :=
  launch0.hasRoom_least _ room_1 (by decide +kernel) (by decide +kernel) (by decide +kernel) (by decide +kernel) (by decide +kernel) (by decide +kernel)
theorem allAtoms_all (ts : List Jvm.Cond) (a : Array Jvm.Value) (st : Jvm.State) : (allAtoms ts).before a st = ts.all (fun c => c.before a st) := by
  induction ts with
  | nil => rfl
  | cons c t ih =>
    show (Jvm.Cond.and c (allAtoms t)).before a st = _
    rw [Jvm.Cond.before_and, ih, List.all_cons]
def words1 : List Jvm.Cond := Jvm.Cond.code x code maxLocals ret :: tables_1
/-- a 'code' word, met by the world's own term for the bytes: nothing is compared byte by byte -/
theorem code_word {y : MethodName} {bytes : ByteArray} {mx : Nat} {rt : Option FieldType} {a : Array Value} {s : State} {m : MethodId} {meth : Method} {c : Code} (h1 : s.methodNamed? y = some m) (h2 : s.vm.method? m = some meth) (h3 : meth.code = some c) (h4 : c.code = bytes)
    (h5 : (c.maxLocals == mx && c.exceptionTable.isEmpty && decide (c.maxStack ≤ mostOperands) && decide (meth.sig.returnType = rt) && !meth.locks && decide (parseMethodDescriptor y.desc = some meth.sig)) = true) : (Jvm.Cond.code y bytes mx rt).before a s = true := by
  simp only [Bool.and_eq_true, beq_iff_eq, Bool.not_eq_true', decide_eq_true_eq] at h5
  obtain ⟨⟨⟨⟨⟨g1, g2⟩, g3⟩, g4⟩, g5⟩, g6⟩ := h5
  simp [Cond.before, Cond.holds, Cond.value, h1, h2, h3, h4, g1, g2, g3, g4, g5, g6]
def isCode : Jvm.Cond → Bool
  | .code _ _ _ _ => true
  | _ => false
theorem all_split {L : List Jvm.Cond} {P : Jvm.Cond → Bool} (h1 : L.all (fun c => isCode c || P c) = true) (h2 : ∀ c ∈ L.filter isCode, P c = true) : L.all P = true := by
  refine List.all_eq_true.mpr fun c hc => ?_
  have h := List.all_eq_true.mp h1 c hc
  rcases Bool.eq_false_or_eq_true (isCode c) with hi | hi
  · exact h2 c (List.mem_filter.mpr ⟨hc, hi⟩)
  · simpa [hi] using h
set_option maxRecDepth 65536 in
theorem w_c0 : (Jvm.Cond.code x code maxLocals ret).before args0 about1 = true := code_word (m := ⟨1, 2⟩) (meth := k1m2) (c := k1c2) (by decide +kernel) rfl rfl rfl (by decide +kernel)
set_option maxRecDepth 65536 in
theorem w_c1 : (Jvm.Cond.code ({ cls := "com/example/tsunagi/tsunagi/model/CatpStatusClass", name := "of", desc := "(C)Lcom/example/tsunagi/tsunagi/model/CatpStatusClass;" } : Jvm.MethodName) prog_28_method_4_code (2 : Nat) (Option.some (Jvm.ClassFile.FieldType.object "com/example/tsunagi/tsunagi/model/CatpStatusClass"))).before args0 about1 = true := code_word (m := ⟨6, 0⟩) (meth := k6m0) (c := k6c0) (by decide +kernel) rfl rfl rfl (by decide +kernel)
set_option maxRecDepth 65536 in
theorem w_c2 : (Jvm.Cond.code ({ cls := "com/example/tsunagi/tsunagi/model/CatpStatusClassOfPinLaw", name := "expected", desc := "(C)Lcom/example/tsunagi/tsunagi/model/CatpStatusClass;" } : Jvm.MethodName) method_2_code (1 : Nat) (Option.some (Jvm.ClassFile.FieldType.object "com/example/tsunagi/tsunagi/model/CatpStatusClass"))).before args0 about1 = true := code_word (m := ⟨1, 1⟩) (meth := k1m1) (c := k1c1) (by decide +kernel) rfl rfl rfl (by decide +kernel)
def codes1 : List Jvm.Cond := [Jvm.Cond.code x code maxLocals ret, Jvm.Cond.code ({ cls := "com/example/tsunagi/tsunagi/model/CatpStatusClass", name := "of", desc := "(C)Lcom/example/tsunagi/tsunagi/model/CatpStatusClass;" } : Jvm.MethodName) prog_28_method_4_code (2 : Nat) (Option.some (Jvm.ClassFile.FieldType.object "com/example/tsunagi/tsunagi/model/CatpStatusClass")), Jvm.Cond.code ({ cls := "com/example/tsunagi/tsunagi/model/CatpStatusClassOfPinLaw", name := "expected", desc := "(C)Lcom/example/tsunagi/tsunagi/model/CatpStatusClass;" } : Jvm.MethodName) method_2_code (1 : Nat) (Option.some (Jvm.ClassFile.FieldType.object "com/example/tsunagi/tsunagi/model/CatpStatusClass"))]
set_option maxRecDepth 65536 in
theorem codes_eq : words1.filter isCode = codes1 := rfl
theorem w_codes : ∀ c ∈ words1.filter isCode, c.before args0 about1 = true := by
  rw [codes_eq]
  intro c hc
  simp only [codes1, List.mem_cons, List.not_mem_nil, or_false] at hc
  rcases hc with rfl | rfl | rfl
  · exact w_c0
  · exact w_c1
  · exact w_c2
set_option maxRecDepth 65536 in
theorem w_t1 : words1.all (fun c => isCode c || c.before args0 about1) = true := by decide +kernel
theorem w_tables : (allAtoms (Jvm.Cond.code x code maxLocals ret :: tables_1)).before args0 about1 = true := by
  rw [allAtoms_all]
  show words1.all (fun c => c.before args0 about1) = true
  refine all_split ?_ w_codes
  rw [w_t1]
set_option maxRecDepth 65536 in
theorem w_case : (Jvm.Cond.and given_1 narrow_1).before args0 about1 = true := by decide +kernel
theorem w_applies : (headSpec (Jvm.Cond.code x code maxLocals ret :: tables_1) room_1).applies x e0.platform about1 = true :=
  (Spec.applies_iff w_frames).mpr ⟨w_running, w_runnable, w_alone, w_named, w_hears, w_ripe, w_room, w_tables⟩
theorem atStart : AtStart classFile x code maxLocals ret World_1 tables_1 room_1 Calls_1 rest_1 Pre_1 launch0 p0 e0 about1 theMethod args0 below0 :=
  ⟨lists_1, trivial, launch0.admits_env _ _ _, launch0.least_env, fairChoices_fair.cas, fairChoices_fair.clock, w_frames, w_args, w_heap, w_applies, trivial, trivial, w_case⟩
end start1
theorem witness_1 : WitnessClaimed_1 := ⟨start1.p0, start1.e0, start1.about1, start1.theMethod, start1.args0, start1.below0, start1.atStart⟩
end Jvm.Pilot.@@N@@
