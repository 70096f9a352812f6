import JvmDerived
import JvmDerived.Pilot.@@N@@Statement
import JvmDerived.Pilot.@@N@@Code
set_option linter.unusedVariables false
set_option linter.unusedSimpArgs false
namespace Jvm.RoadKit
open Sem ClassFile Op Lib Jvm.Stand Jvm.Free Jvm.LawKit
section New
variable {p : Program} {l : Launch} {e : Env} {R : Room} {s : State} {m : MethodId} {args : Array Value} {below : List Frame} {meth : Method} {c : Code} {T : State} {locs : List Loc} {cells slots : Nat}
theorem retI (X : Stand p l e R s m args below meth c T locs cells slots) (hx : p.tables.exec = Jvm.exec) {pc : Nat} {Ls : Array Slot} {z : Int32} {rest : List Value} (hret : meth.sig.returnType = some .int) (hd : decode c.code pc = .ok (.ireturn, 1)) {fs : List Frame}
    (hl : ∀ (f : JFrame) (acts : List Action), f.method = m → f.locked = none → f.entered = [] → (doReturn e (T.setTop f) acts (some (.int z))).1 = T.setFrames fs) : Steps p.tables e below (T.setTop (mkF m pc Ls (.int z :: rest))) (T.setFrames fs) :=
  retOut X hx hret rfl (Or.inl ⟨rfl, Or.inl rfl, z, rfl⟩) hd hl
end New
end Jvm.RoadKit
namespace Jvm.Pilot.@@N@@
open Jvm Jvm.ClassFile Sem Op Lib Jvm.Free Jvm.Stand Jvm.LawKit Jvm.RoadKit Bundle Jvm.Pilot.@@N@@.Jvm.D
theorem W {a0 : Array Value} {Z : State} (hw : ∀ d ∈ tables_1, d.before a0 Z = true) (i : Nat) {d : Jvm.Cond} (h : tables_1[i]? = some d) : d.before a0 Z = true := hw d (List.mem_of_getElem? h)
theorem own_eqv {args : Array Value} {first s : State} {o : Option Outcome} {idx : List Nat} {a b : Term} {x : Value} (h : (Cond.eq a b).value args first o s idx = some true) (hb : b.eval args first o idx s = some x) : a.eval args first o idx s = some x := by
  simp only [Cond.value, hb] at h
  cases ha : a.eval args first o idx s with
  | none => rw [ha] at h; cases h
  | some y => rw [ha] at h; cases x <;> cases y <;> simp at h <;> first | rw [h] | rfl
theorem own_cat {v : Value} (h : v.isRef = true) : v.category = 1 := by rcases ref_cases h with rfl | ⟨a, rfl⟩ <;> rfl
theorem own_store {Z : State} {h h' : Heap} {a : Addr} {k : ClassId} {ty : FieldType} {z j : Int32} {vs : List Value} {dv v : Value} (F : Arv Z h a k ty z vs dv) (W : Wr h h' a j.toNatClampNeg v) (hv : fits ty v = true) (hj : ¬ j < 0 ∧ j < z) : ∃ vs', Arv Z h' a k ty z vs' dv := by
  obtain ⟨c, A, q1, S, q3, H, G⟩ := F.pad (pad_rep vs dv z.toNatClampNeg)
  have hin := inb_of S hj
  have hlt : j.toNatClampNeg < z.toNatClampNeg := by rw [← S]; exact Nat.lt_of_not_le fun q => hin (Or.inr q)
  exact ⟨_, Arv.set A q1 S q3 H G hv W _ rfl (by rw [List.length_append, List.length_replicate]; omega)⟩
def OL (val : Option Value) (n0 : Nat) (v : Option Value) (h : Heap) (L : List Loc) : Prop := v = val ∧ Fr n0 L
def OQ (val : Option Value) (h0 : Heap) (n0 : Nat) (v : Option Value) (h : Heap) (L : List Loc) : Prop := v = val ∧ Fr n0 L ∧ h = h0
abbrev Met (l : Launch) (Z : State) (y : MethodName) (w : Jvm.Cond) (ws : List Jvm.Cond) (rm : Room) (as : Array Value) (h0 : Heap) (Q : Option Value → Heap → List Loc → Prop) : Prop :=
  MetFree l y (head1 (w :: ws) rm) (fun a U => a = as ∧ Z.Warmed39 U.vm ∧ U.heap = h0) (fun _ _ _ _ _ => True) (fun _ U o U' => ∃ v L, o = .returned v ∧ Q v U'.heap L ∧ FrameEnd U o U' L rm.cells rm.slots)
abbrev MetW (l : Launch) (Z : State) (y : MethodName) (w : Jvm.Cond) (ws : List Jvm.Cond) (rm : Room) (as : Array Value) (h0 : Heap) (Q : Option Value → Heap → List Loc → Prop) : Prop :=
  MetFree l y (head1 (w :: ws) rm) (fun a U => a = as ∧ Z.Warmed39 U.vm ∧ U.heap = h0) (fun _ _ _ _ _ => True) (fun _ U o U' => ∃ v L, o = .returned v ∧ Q v U'.heap L ∧ ReturnedEndW U o U' L rm.cells rm.slots)
theorem own_body {l : Launch} {Z : State} {y : MethodName} {w : Jvm.Cond} {ws : List Jvm.Cond} {rm : Room} {as : Array Value} {h0 : Heap} {Q : Option Value → Heap → List Loc → Prop} {bytes : ByteArray} {maxL : Nat} {ret : Option FieldType} (hp : plainFor y = true)
    (his : ∀ args (s : State) m, (head1 (w :: ws) rm).pre.before args s = true → s.methodNamed? y = some m → ∃ meth c, s.vm.method? m = some meth ∧ meth.code = some c ∧ c.code = bytes ∧ c.maxLocals = maxL ∧ meth.sig.returnType = ret ∧ meth.locks = false)
    (body : ∀ (p : Program) (e : Env) (s : State) (m : MethodId) (below : List Frame) (meth : Method) (c : Code) (s₁ : State), p.tables.exec = Jvm.exec → c.code = bytes → c.maxLocals = maxL → s.vm.findClass y.cls = some m.cls → meth.name = y.name → meth.sig.returnType = ret →
      Stand p l e rm s m as below meth c s₁ [] 0 0 → Z.Warmed39 s.vm → s₁.heap = h0 → ∃ (T : State) (v : Option Value) (L : List Loc) (k n : Nat), k ≤ rm.cells ∧ n ≤ rm.slots ∧ Stand p l e rm s m as below meth c T L k n ∧ (ret = none → v = none) ∧ Q v T.heap L ∧
      ∀ fs, (∀ (f : JFrame) (acts : List Action), f.method = m → f.locked = none → f.entered = [] → (doReturn e (T.setTop f) acts v).1 = T.setFrames fs) → Steps p.tables e below (s₁.setTop (entryFrame m as maxL)) (T.setFrames fs)) : Met l Z y w ws rm as h0 Q := by
  refine MetFree.of_bodySF hp his ?_
  intro p e s m args below meth c s₁ Bd hml0 hP hK
  obtain ⟨rfl, hZ, hh⟩ := hP
  obtain ⟨T, v, L, k, n, hk, hn, X, hv, hQ, st⟩ := body p e s m below meth c s₁ Bd.exec Bd.bytes hml0 (findClass_of_methodNamed Bd.named) (name_of_methodNamed Bd.named Bd.method).1 Bd.returns (Stand.of_body Bd) hZ (by rw [← hh, Bd.state]; rfl)
  obtain ⟨fs, hr, hrun, hended, hW, hsame⟩ := X.leave (v := v) (fun h => hv (Bd.returns ▸ h))
  exact ⟨_, _, st fs hr, hrun, hended, v, L, rfl, hQ, ⟨_, rfl⟩, hW, hsame.mono hk hn⟩
theorem own_bodyW {l : Launch} {Z : State} {y : MethodName} {w : Jvm.Cond} {ws : List Jvm.Cond} {rm : Room} {as : Array Value} {h0 : Heap} {Q : Option Value → Heap → List Loc → Prop} {bytes : ByteArray} {maxL : Nat} {ret : Option FieldType} (hp : plainFor y = true)
    (his : ∀ args (s : State) m, (head1 (w :: ws) rm).pre.before args s = true → s.methodNamed? y = some m → ∃ meth c, s.vm.method? m = some meth ∧ meth.code = some c ∧ c.code = bytes ∧ c.maxLocals = maxL ∧ meth.sig.returnType = ret ∧ meth.locks = false)
    (body : ∀ (p : Program) (e : Env) (s : State) (m : MethodId) (below : List Frame) (meth : Method) (c : Code) (s₁ : State), p.tables.exec = Jvm.exec → c.code = bytes → c.maxLocals = maxL → s.vm.findClass y.cls = some m.cls → meth.name = y.name → meth.sig.returnType = ret →
      Stand p l e rm s m as below meth c s₁ [] 0 0 → Z.Warmed39 s.vm → s₁.heap = h0 → ∃ (T : State) (vm₁ : Vm) (v : Option Value) (L : List Loc) (k n j : Nat), k ≤ rm.cells ∧ n ≤ rm.slots ∧ Stand p l e rm (s.setVm vm₁) m as below meth c T L k n ∧ s.Since vm₁ j ∧ j ≤ T.heap.size ∧ (ret = none → v = none) ∧ Q v T.heap L ∧
      ∀ fs, (∀ (f : JFrame) (acts : List Action), f.method = m → f.locked = none → f.entered = [] → (doReturn e (T.setTop f) acts v).1 = T.setFrames fs) → Steps p.tables e below (s₁.setTop (entryFrame m as maxL)) (T.setFrames fs)) : MetW l Z y w ws rm as h0 Q := by
  refine MetFree.of_bodySF hp his ?_
  intro p e s m args below meth c s₁ Bd hml0 hP hK
  obtain ⟨rfl, hZ, hh⟩ := hP
  obtain ⟨T, vm₁, v, L, k, n, j, hk, hn, X, hS, hj, hv, hQ, st⟩ := body p e s m below meth c s₁ Bd.exec Bd.bytes hml0 (findClass_of_methodNamed Bd.named) (name_of_methodNamed Bd.named Bd.method).1 Bd.returns (Stand.of_body Bd) hZ (by rw [← hh, Bd.state]; rfl)
  obtain ⟨fs, hr, hrun, hended, w1, w2, w3, w4⟩ := X.leaveW hS hj (v := v) (fun h => hv (Bd.returns ▸ h))
  exact ⟨_, _, st fs hr, hrun, hended, v, L, rfl, hQ, w1, w2, w3, w4.mono hk hn⟩
abbrev Rm (f c s l : Nat) : Room := { frames := f, cells := c, slots := s, locals := l }
abbrev s_0 : String := "com/example/tsunagi/tsunagi/client/FragmentedResult"
abbrev s_1 : String := "java/util/BitSet"
abbrev s_2 : String := "com/example/tsunagi/tsunagi/client/FragmentedResultHasBlocksPinLaw"
abbrev s_3 : String := "Ljava/util/BitSet;"
abbrev s_4 : String := "$assertionsDisabled"
abbrev s_5 : String := "previousBlock"
abbrev s_6 : String := "sizeIsSticky"
abbrev s_7 : String := "(ILjava/lang/String;)I"
theorem own_since (s : State) (n : Nat) : s.Since s.vm n := (State.WarmedH.refl s).since n
theorem own_atoms {a0 : Array Value} {Z : State} (hw : ∀ d ∈ tables_1, d.before a0 Z = true) : ∀ a ∈ Bundle.stringAtoms, a.before a0 Z = true := fun a ha => by
  simp only [Bundle.stringAtoms, List.mem_cons, List.not_mem_nil, or_false] at ha
  rcases ha with rfl | rfl | rfl | rfl | rfl | rfl | rfl
  · exact W hw 76 rfl
  · exact W hw 77 rfl
  · exact W hw 78 rfl
  · exact W hw 79 rfl
  · exact W hw 80 rfl
  · exact W hw 81 rfl
  · exact W hw 82 rfl
theorem own_selpriv {s : State} {args : Array Value} {y : MethodName} {n : Nat} (wi : (Cond.instantiable y.cls n).before args s = true) (hp : s.PrivateAt y) (wm : (Cond.instanceMethod y).before args s = true) (hy : y.cls ≠ "java/lang/invoke/MethodHandle" ∧ y.cls ≠ "java/lang/invoke/VarHandle") : (Cond.selects y.cls y y).before args s = true := by
  obtain ⟨c, k, h1, h2, -, h4, -⟩ := Cond.instantiable_spec wi
  exact selects_self_of_private h1 h2 (by revert h4; cases k.isInterface <;> simp) hp wm hy
theorem own_rm_1 (x : Int32) : ¬ (((x &&& (2147483647 : Int32)) % (1 : Int32)) < (0 : Int32)) ∧ ((x &&& (2147483647 : Int32)) % (1 : Int32)) < (1 : Int32) ∧ ((x &&& (2147483647 : Int32)) % (1 : Int32)) < (2 : Int32) ∧ (((x &&& (2147483647 : Int32)) % (1 : Int32)) >>> ((6 : Int32) &&& 31)) = (0 : Int32) := by
  have h1 := c_mask x (2147483647 : Int32) 31 (by decide) (by decide)
  have h2 := (c_irem (x &&& (2147483647 : Int32)) (1 : Int32) 1 (by decide)).1 (by omega)
  have h3 := c_ishr ((x &&& (2147483647 : Int32)) % (1 : Int32)) (6 : Int32) 6 (by decide)
  have e0 : (0 : Int32).toInt = 0 := by decide
  have e1 : (1 : Int32).toInt = 1 := by decide
  have e2 : (2 : Int32).toInt = 2 := by decide
  simp only [Int32.lt_iff_toInt_lt, ← Int32.toInt_inj, h3]
  rw [h2]
  refine ⟨by omega, by omega, by omega, by omega⟩
theorem own_rm_2 (x : Int32) : ¬ (((x &&& (2147483647 : Int32)) % (2 : Int32)) < (0 : Int32)) ∧ ((x &&& (2147483647 : Int32)) % (2 : Int32)) < (2 : Int32) ∧ ((x &&& (2147483647 : Int32)) % (2 : Int32)) < (3 : Int32) ∧ (((x &&& (2147483647 : Int32)) % (2 : Int32)) >>> ((6 : Int32) &&& 31)) = (0 : Int32) := by
  have h1 := c_mask x (2147483647 : Int32) 31 (by decide) (by decide)
  have h2 := (c_irem (x &&& (2147483647 : Int32)) (2 : Int32) 2 (by decide)).1 (by omega)
  have h3 := c_ishr ((x &&& (2147483647 : Int32)) % (2 : Int32)) (6 : Int32) 6 (by decide)
  have e0 : (0 : Int32).toInt = 0 := by decide
  have e1 : (2 : Int32).toInt = 2 := by decide
  have e2 : (3 : Int32).toInt = 3 := by decide
  simp only [Int32.lt_iff_toInt_lt, ← Int32.toInt_inj, h3]
  rw [h2]
  refine ⟨by omega, by omega, by omega, by omega⟩
theorem own_rm_3 (x : Int32) : ¬ (((x &&& (2147483647 : Int32)) % (3 : Int32)) < (0 : Int32)) ∧ ((x &&& (2147483647 : Int32)) % (3 : Int32)) < (3 : Int32) ∧ ((x &&& (2147483647 : Int32)) % (3 : Int32)) < (4 : Int32) ∧ (((x &&& (2147483647 : Int32)) % (3 : Int32)) >>> ((6 : Int32) &&& 31)) = (0 : Int32) := by
  have h1 := c_mask x (2147483647 : Int32) 31 (by decide) (by decide)
  have h2 := (c_irem (x &&& (2147483647 : Int32)) (3 : Int32) 3 (by decide)).1 (by omega)
  have h3 := c_ishr ((x &&& (2147483647 : Int32)) % (3 : Int32)) (6 : Int32) 6 (by decide)
  have e0 : (0 : Int32).toInt = 0 := by decide
  have e1 : (3 : Int32).toInt = 3 := by decide
  have e2 : (4 : Int32).toInt = 4 := by decide
  simp only [Int32.lt_iff_toInt_lt, ← Int32.toInt_inj, h3]
  rw [h2]
  refine ⟨by omega, by omega, by omega, by omega⟩
def Wd (Z : State) (w : Nat → Addr) (kk : Nat → ClassId) (iw : Nat → Int32) (vw : Nat → Value) : Prop :=
  Sta Z Z.heap s_1 s_4 "Z" (.int (1 : Int32))
theorem own_split_0 (x : Int32) : (x &&& (3 : Int32)) = (0 : Int32) ∨ (x &&& (3 : Int32)) = (1 : Int32) ∨ (x &&& (3 : Int32)) = (2 : Int32) ∨ (x &&& (3 : Int32)) = (3 : Int32) := by
  have h1 := c_mask x (3 : Int32) 2 (by decide) (by decide)
  simp only [← Int32.toInt_inj, h1, (by decide : (0 : Int32).toInt = 0), (by decide : (1 : Int32).toInt = 1), (by decide : (2 : Int32).toInt = 2), (by decide : (3 : Int32).toInt = 3)]
  omega
theorem d0_0 : decode prog_20_method_1_code 0 = .ok (.aload_n 0, 1) := by decide +kernel
theorem d0_1 : decode prog_20_method_1_code 1 = .ok (.invokespecial 1, 3) := by decide +kernel
theorem d0_4 : decode prog_20_method_1_code 4 = .ok (.aload_n 0, 1) := by decide +kernel
theorem d0_5 : decode prog_20_method_1_code 5 = .ok (.bipush 64, 2) := by decide +kernel
theorem d0_7 : decode prog_20_method_1_code 7 = .ok (.newarray .int, 2) := by decide +kernel
theorem d0_9 : decode prog_20_method_1_code 9 = .ok (.putfield 9, 3) := by decide +kernel
theorem sn_0 {a0 : Array Value} {Z : State} (hw : ∀ d ∈ tables_1, d.before a0 Z = true) : Jvm.RoadKit.slotOf Z s_0 s_5 "[I" ≠ Jvm.RoadKit.slotOf Z s_0 "nextBlock" "[I" := slot_ne (Or.inl (W hw 13 rfl)) (Or.inl (W hw 11 rfl)) (by decide) (t := (.array .int)) (t' := (.array .int)) (by decide) (by decide)
theorem sn_1 {a0 : Array Value} {Z : State} (hw : ∀ d ∈ tables_1, d.before a0 Z = true) : Jvm.RoadKit.slotOf Z s_0 "firstPiece" "[I" ≠ Jvm.RoadKit.slotOf Z s_0 "nextBlock" "[I" := slot_ne (Or.inl (W hw 15 rfl)) (Or.inl (W hw 11 rfl)) (by decide) (t := (.array .int)) (t' := (.array .int)) (by decide) (by decide)
theorem sn_2 {a0 : Array Value} {Z : State} (hw : ∀ d ∈ tables_1, d.before a0 Z = true) : Jvm.RoadKit.slotOf Z s_0 "lastPiece" "[I" ≠ Jvm.RoadKit.slotOf Z s_0 "nextBlock" "[I" := slot_ne (Or.inl (W hw 17 rfl)) (Or.inl (W hw 11 rfl)) (by decide) (t := (.array .int)) (t' := (.array .int)) (by decide) (by decide)
theorem sn_3 {a0 : Array Value} {Z : State} (hw : ∀ d ∈ tables_1, d.before a0 Z = true) : Jvm.RoadKit.slotOf Z s_0 "closed" s_3 ≠ Jvm.RoadKit.slotOf Z s_0 "nextBlock" "[I" := slot_ne (Or.inr (W hw 41 rfl)) (Or.inl (W hw 11 rfl)) (by decide) (t := (.object s_1)) (t' := (.array .int)) (by decide) (by decide)
theorem sn_4 {a0 : Array Value} {Z : State} (hw : ∀ d ∈ tables_1, d.before a0 Z = true) : Jvm.RoadKit.slotOf Z s_0 "firstBlock" "I" ≠ Jvm.RoadKit.slotOf Z s_0 "nextBlock" "[I" := slot_ne (Or.inl (W hw 43 rfl)) (Or.inl (W hw 11 rfl)) (by decide) (t := .int) (t' := (.array .int)) (by decide) (by decide)
theorem sn_5 {a0 : Array Value} {Z : State} (hw : ∀ d ∈ tables_1, d.before a0 Z = true) : Jvm.RoadKit.slotOf Z s_0 "lastBlock" "I" ≠ Jvm.RoadKit.slotOf Z s_0 "nextBlock" "[I" := slot_ne (Or.inl (W hw 45 rfl)) (Or.inl (W hw 11 rfl)) (by decide) (t := .int) (t' := (.array .int)) (by decide) (by decide)
theorem sn_6 {a0 : Array Value} {Z : State} (hw : ∀ d ∈ tables_1, d.before a0 Z = true) : Jvm.RoadKit.slotOf Z s_0 "pieceStart" "[J" ≠ Jvm.RoadKit.slotOf Z s_0 "nextBlock" "[I" := slot_ne (Or.inl (W hw 47 rfl)) (Or.inl (W hw 11 rfl)) (by decide) (t := (.array .long)) (t' := (.array .int)) (by decide) (by decide)
theorem sn_7 {a0 : Array Value} {Z : State} (hw : ∀ d ∈ tables_1, d.before a0 Z = true) : Jvm.RoadKit.slotOf Z s_0 "pieceLength" "[I" ≠ Jvm.RoadKit.slotOf Z s_0 "nextBlock" "[I" := slot_ne (Or.inl (W hw 49 rfl)) (Or.inl (W hw 11 rfl)) (by decide) (t := (.array .int)) (t' := (.array .int)) (by decide) (by decide)
theorem sn_8 {a0 : Array Value} {Z : State} (hw : ∀ d ∈ tables_1, d.before a0 Z = true) : Jvm.RoadKit.slotOf Z s_0 "nextPiece" "[I" ≠ Jvm.RoadKit.slotOf Z s_0 "nextBlock" "[I" := slot_ne (Or.inl (W hw 51 rfl)) (Or.inl (W hw 11 rfl)) (by decide) (t := (.array .int)) (t' := (.array .int)) (by decide) (by decide)
theorem sn_9 {a0 : Array Value} {Z : State} (hw : ∀ d ∈ tables_1, d.before a0 Z = true) : Jvm.RoadKit.slotOf Z s_0 "blockCount" "I" ≠ Jvm.RoadKit.slotOf Z s_0 "nextBlock" "[I" := slot_ne (Or.inl (W hw 58 rfl)) (Or.inl (W hw 11 rfl)) (by decide) (t := .int) (t' := (.array .int)) (by decide) (by decide)
theorem d0_12 : decode prog_20_method_1_code 12 = .ok (.aload_n 0, 1) := by decide +kernel
theorem d0_13 : decode prog_20_method_1_code 13 = .ok (.bipush 64, 2) := by decide +kernel
theorem d0_15 : decode prog_20_method_1_code 15 = .ok (.newarray .int, 2) := by decide +kernel
theorem d0_17 : decode prog_20_method_1_code 17 = .ok (.putfield 13, 3) := by decide +kernel
theorem sn_10 {a0 : Array Value} {Z : State} (hw : ∀ d ∈ tables_1, d.before a0 Z = true) : Jvm.RoadKit.slotOf Z s_0 "nextBlock" "[I" ≠ Jvm.RoadKit.slotOf Z s_0 s_5 "[I" := slot_ne (Or.inl (W hw 11 rfl)) (Or.inl (W hw 13 rfl)) (by decide) (t := (.array .int)) (t' := (.array .int)) (by decide) (by decide)
theorem sn_11 {a0 : Array Value} {Z : State} (hw : ∀ d ∈ tables_1, d.before a0 Z = true) : Jvm.RoadKit.slotOf Z s_0 "firstPiece" "[I" ≠ Jvm.RoadKit.slotOf Z s_0 s_5 "[I" := slot_ne (Or.inl (W hw 15 rfl)) (Or.inl (W hw 13 rfl)) (by decide) (t := (.array .int)) (t' := (.array .int)) (by decide) (by decide)
theorem sn_12 {a0 : Array Value} {Z : State} (hw : ∀ d ∈ tables_1, d.before a0 Z = true) : Jvm.RoadKit.slotOf Z s_0 "lastPiece" "[I" ≠ Jvm.RoadKit.slotOf Z s_0 s_5 "[I" := slot_ne (Or.inl (W hw 17 rfl)) (Or.inl (W hw 13 rfl)) (by decide) (t := (.array .int)) (t' := (.array .int)) (by decide) (by decide)
theorem sn_13 {a0 : Array Value} {Z : State} (hw : ∀ d ∈ tables_1, d.before a0 Z = true) : Jvm.RoadKit.slotOf Z s_0 "closed" s_3 ≠ Jvm.RoadKit.slotOf Z s_0 s_5 "[I" := slot_ne (Or.inr (W hw 41 rfl)) (Or.inl (W hw 13 rfl)) (by decide) (t := (.object s_1)) (t' := (.array .int)) (by decide) (by decide)
theorem sn_14 {a0 : Array Value} {Z : State} (hw : ∀ d ∈ tables_1, d.before a0 Z = true) : Jvm.RoadKit.slotOf Z s_0 "firstBlock" "I" ≠ Jvm.RoadKit.slotOf Z s_0 s_5 "[I" := slot_ne (Or.inl (W hw 43 rfl)) (Or.inl (W hw 13 rfl)) (by decide) (t := .int) (t' := (.array .int)) (by decide) (by decide)
theorem sn_15 {a0 : Array Value} {Z : State} (hw : ∀ d ∈ tables_1, d.before a0 Z = true) : Jvm.RoadKit.slotOf Z s_0 "lastBlock" "I" ≠ Jvm.RoadKit.slotOf Z s_0 s_5 "[I" := slot_ne (Or.inl (W hw 45 rfl)) (Or.inl (W hw 13 rfl)) (by decide) (t := .int) (t' := (.array .int)) (by decide) (by decide)
theorem sn_16 {a0 : Array Value} {Z : State} (hw : ∀ d ∈ tables_1, d.before a0 Z = true) : Jvm.RoadKit.slotOf Z s_0 "pieceStart" "[J" ≠ Jvm.RoadKit.slotOf Z s_0 s_5 "[I" := slot_ne (Or.inl (W hw 47 rfl)) (Or.inl (W hw 13 rfl)) (by decide) (t := (.array .long)) (t' := (.array .int)) (by decide) (by decide)
theorem sn_17 {a0 : Array Value} {Z : State} (hw : ∀ d ∈ tables_1, d.before a0 Z = true) : Jvm.RoadKit.slotOf Z s_0 "pieceLength" "[I" ≠ Jvm.RoadKit.slotOf Z s_0 s_5 "[I" := slot_ne (Or.inl (W hw 49 rfl)) (Or.inl (W hw 13 rfl)) (by decide) (t := (.array .int)) (t' := (.array .int)) (by decide) (by decide)
theorem sn_18 {a0 : Array Value} {Z : State} (hw : ∀ d ∈ tables_1, d.before a0 Z = true) : Jvm.RoadKit.slotOf Z s_0 "nextPiece" "[I" ≠ Jvm.RoadKit.slotOf Z s_0 s_5 "[I" := slot_ne (Or.inl (W hw 51 rfl)) (Or.inl (W hw 13 rfl)) (by decide) (t := (.array .int)) (t' := (.array .int)) (by decide) (by decide)
theorem sn_19 {a0 : Array Value} {Z : State} (hw : ∀ d ∈ tables_1, d.before a0 Z = true) : Jvm.RoadKit.slotOf Z s_0 "blockCount" "I" ≠ Jvm.RoadKit.slotOf Z s_0 s_5 "[I" := slot_ne (Or.inl (W hw 58 rfl)) (Or.inl (W hw 13 rfl)) (by decide) (t := .int) (t' := (.array .int)) (by decide) (by decide)
theorem d0_20 : decode prog_20_method_1_code 20 = .ok (.aload_n 0, 1) := by decide +kernel
theorem d0_21 : decode prog_20_method_1_code 21 = .ok (.bipush 64, 2) := by decide +kernel
theorem d0_23 : decode prog_20_method_1_code 23 = .ok (.newarray .int, 2) := by decide +kernel
theorem d0_25 : decode prog_20_method_1_code 25 = .ok (.putfield 16, 3) := by decide +kernel
theorem sn_20 {a0 : Array Value} {Z : State} (hw : ∀ d ∈ tables_1, d.before a0 Z = true) : Jvm.RoadKit.slotOf Z s_0 "nextBlock" "[I" ≠ Jvm.RoadKit.slotOf Z s_0 "firstPiece" "[I" := slot_ne (Or.inl (W hw 11 rfl)) (Or.inl (W hw 15 rfl)) (by decide) (t := (.array .int)) (t' := (.array .int)) (by decide) (by decide)
theorem sn_21 {a0 : Array Value} {Z : State} (hw : ∀ d ∈ tables_1, d.before a0 Z = true) : Jvm.RoadKit.slotOf Z s_0 s_5 "[I" ≠ Jvm.RoadKit.slotOf Z s_0 "firstPiece" "[I" := slot_ne (Or.inl (W hw 13 rfl)) (Or.inl (W hw 15 rfl)) (by decide) (t := (.array .int)) (t' := (.array .int)) (by decide) (by decide)
theorem sn_22 {a0 : Array Value} {Z : State} (hw : ∀ d ∈ tables_1, d.before a0 Z = true) : Jvm.RoadKit.slotOf Z s_0 "lastPiece" "[I" ≠ Jvm.RoadKit.slotOf Z s_0 "firstPiece" "[I" := slot_ne (Or.inl (W hw 17 rfl)) (Or.inl (W hw 15 rfl)) (by decide) (t := (.array .int)) (t' := (.array .int)) (by decide) (by decide)
theorem sn_23 {a0 : Array Value} {Z : State} (hw : ∀ d ∈ tables_1, d.before a0 Z = true) : Jvm.RoadKit.slotOf Z s_0 "closed" s_3 ≠ Jvm.RoadKit.slotOf Z s_0 "firstPiece" "[I" := slot_ne (Or.inr (W hw 41 rfl)) (Or.inl (W hw 15 rfl)) (by decide) (t := (.object s_1)) (t' := (.array .int)) (by decide) (by decide)
theorem sn_24 {a0 : Array Value} {Z : State} (hw : ∀ d ∈ tables_1, d.before a0 Z = true) : Jvm.RoadKit.slotOf Z s_0 "firstBlock" "I" ≠ Jvm.RoadKit.slotOf Z s_0 "firstPiece" "[I" := slot_ne (Or.inl (W hw 43 rfl)) (Or.inl (W hw 15 rfl)) (by decide) (t := .int) (t' := (.array .int)) (by decide) (by decide)
theorem sn_25 {a0 : Array Value} {Z : State} (hw : ∀ d ∈ tables_1, d.before a0 Z = true) : Jvm.RoadKit.slotOf Z s_0 "lastBlock" "I" ≠ Jvm.RoadKit.slotOf Z s_0 "firstPiece" "[I" := slot_ne (Or.inl (W hw 45 rfl)) (Or.inl (W hw 15 rfl)) (by decide) (t := .int) (t' := (.array .int)) (by decide) (by decide)
theorem sn_26 {a0 : Array Value} {Z : State} (hw : ∀ d ∈ tables_1, d.before a0 Z = true) : Jvm.RoadKit.slotOf Z s_0 "pieceStart" "[J" ≠ Jvm.RoadKit.slotOf Z s_0 "firstPiece" "[I" := slot_ne (Or.inl (W hw 47 rfl)) (Or.inl (W hw 15 rfl)) (by decide) (t := (.array .long)) (t' := (.array .int)) (by decide) (by decide)
theorem sn_27 {a0 : Array Value} {Z : State} (hw : ∀ d ∈ tables_1, d.before a0 Z = true) : Jvm.RoadKit.slotOf Z s_0 "pieceLength" "[I" ≠ Jvm.RoadKit.slotOf Z s_0 "firstPiece" "[I" := slot_ne (Or.inl (W hw 49 rfl)) (Or.inl (W hw 15 rfl)) (by decide) (t := (.array .int)) (t' := (.array .int)) (by decide) (by decide)
theorem sn_28 {a0 : Array Value} {Z : State} (hw : ∀ d ∈ tables_1, d.before a0 Z = true) : Jvm.RoadKit.slotOf Z s_0 "nextPiece" "[I" ≠ Jvm.RoadKit.slotOf Z s_0 "firstPiece" "[I" := slot_ne (Or.inl (W hw 51 rfl)) (Or.inl (W hw 15 rfl)) (by decide) (t := (.array .int)) (t' := (.array .int)) (by decide) (by decide)
theorem sn_29 {a0 : Array Value} {Z : State} (hw : ∀ d ∈ tables_1, d.before a0 Z = true) : Jvm.RoadKit.slotOf Z s_0 "blockCount" "I" ≠ Jvm.RoadKit.slotOf Z s_0 "firstPiece" "[I" := slot_ne (Or.inl (W hw 58 rfl)) (Or.inl (W hw 15 rfl)) (by decide) (t := .int) (t' := (.array .int)) (by decide) (by decide)
theorem d0_28 : decode prog_20_method_1_code 28 = .ok (.aload_n 0, 1) := by decide +kernel
theorem d0_29 : decode prog_20_method_1_code 29 = .ok (.bipush 64, 2) := by decide +kernel
theorem d0_31 : decode prog_20_method_1_code 31 = .ok (.newarray .int, 2) := by decide +kernel
theorem d0_33 : decode prog_20_method_1_code 33 = .ok (.putfield 19, 3) := by decide +kernel
theorem sn_30 {a0 : Array Value} {Z : State} (hw : ∀ d ∈ tables_1, d.before a0 Z = true) : Jvm.RoadKit.slotOf Z s_0 "nextBlock" "[I" ≠ Jvm.RoadKit.slotOf Z s_0 "lastPiece" "[I" := slot_ne (Or.inl (W hw 11 rfl)) (Or.inl (W hw 17 rfl)) (by decide) (t := (.array .int)) (t' := (.array .int)) (by decide) (by decide)
theorem sn_31 {a0 : Array Value} {Z : State} (hw : ∀ d ∈ tables_1, d.before a0 Z = true) : Jvm.RoadKit.slotOf Z s_0 s_5 "[I" ≠ Jvm.RoadKit.slotOf Z s_0 "lastPiece" "[I" := slot_ne (Or.inl (W hw 13 rfl)) (Or.inl (W hw 17 rfl)) (by decide) (t := (.array .int)) (t' := (.array .int)) (by decide) (by decide)
theorem sn_32 {a0 : Array Value} {Z : State} (hw : ∀ d ∈ tables_1, d.before a0 Z = true) : Jvm.RoadKit.slotOf Z s_0 "firstPiece" "[I" ≠ Jvm.RoadKit.slotOf Z s_0 "lastPiece" "[I" := slot_ne (Or.inl (W hw 15 rfl)) (Or.inl (W hw 17 rfl)) (by decide) (t := (.array .int)) (t' := (.array .int)) (by decide) (by decide)
theorem sn_33 {a0 : Array Value} {Z : State} (hw : ∀ d ∈ tables_1, d.before a0 Z = true) : Jvm.RoadKit.slotOf Z s_0 "closed" s_3 ≠ Jvm.RoadKit.slotOf Z s_0 "lastPiece" "[I" := slot_ne (Or.inr (W hw 41 rfl)) (Or.inl (W hw 17 rfl)) (by decide) (t := (.object s_1)) (t' := (.array .int)) (by decide) (by decide)
theorem sn_34 {a0 : Array Value} {Z : State} (hw : ∀ d ∈ tables_1, d.before a0 Z = true) : Jvm.RoadKit.slotOf Z s_0 "firstBlock" "I" ≠ Jvm.RoadKit.slotOf Z s_0 "lastPiece" "[I" := slot_ne (Or.inl (W hw 43 rfl)) (Or.inl (W hw 17 rfl)) (by decide) (t := .int) (t' := (.array .int)) (by decide) (by decide)
theorem sn_35 {a0 : Array Value} {Z : State} (hw : ∀ d ∈ tables_1, d.before a0 Z = true) : Jvm.RoadKit.slotOf Z s_0 "lastBlock" "I" ≠ Jvm.RoadKit.slotOf Z s_0 "lastPiece" "[I" := slot_ne (Or.inl (W hw 45 rfl)) (Or.inl (W hw 17 rfl)) (by decide) (t := .int) (t' := (.array .int)) (by decide) (by decide)
theorem sn_36 {a0 : Array Value} {Z : State} (hw : ∀ d ∈ tables_1, d.before a0 Z = true) : Jvm.RoadKit.slotOf Z s_0 "pieceStart" "[J" ≠ Jvm.RoadKit.slotOf Z s_0 "lastPiece" "[I" := slot_ne (Or.inl (W hw 47 rfl)) (Or.inl (W hw 17 rfl)) (by decide) (t := (.array .long)) (t' := (.array .int)) (by decide) (by decide)
theorem sn_37 {a0 : Array Value} {Z : State} (hw : ∀ d ∈ tables_1, d.before a0 Z = true) : Jvm.RoadKit.slotOf Z s_0 "pieceLength" "[I" ≠ Jvm.RoadKit.slotOf Z s_0 "lastPiece" "[I" := slot_ne (Or.inl (W hw 49 rfl)) (Or.inl (W hw 17 rfl)) (by decide) (t := (.array .int)) (t' := (.array .int)) (by decide) (by decide)
theorem sn_38 {a0 : Array Value} {Z : State} (hw : ∀ d ∈ tables_1, d.before a0 Z = true) : Jvm.RoadKit.slotOf Z s_0 "nextPiece" "[I" ≠ Jvm.RoadKit.slotOf Z s_0 "lastPiece" "[I" := slot_ne (Or.inl (W hw 51 rfl)) (Or.inl (W hw 17 rfl)) (by decide) (t := (.array .int)) (t' := (.array .int)) (by decide) (by decide)
theorem sn_39 {a0 : Array Value} {Z : State} (hw : ∀ d ∈ tables_1, d.before a0 Z = true) : Jvm.RoadKit.slotOf Z s_0 "blockCount" "I" ≠ Jvm.RoadKit.slotOf Z s_0 "lastPiece" "[I" := slot_ne (Or.inl (W hw 58 rfl)) (Or.inl (W hw 17 rfl)) (by decide) (t := .int) (t' := (.array .int)) (by decide) (by decide)
theorem d0_36 : decode prog_20_method_1_code 36 = .ok (.aload_n 0, 1) := by decide +kernel
theorem d0_37 : decode prog_20_method_1_code 37 = .ok (.new 22, 3) := by decide +kernel
theorem d0_40 : decode prog_20_method_1_code 40 = .ok (.dup, 1) := by decide +kernel
theorem d0_41 : decode prog_20_method_1_code 41 = .ok (.invokespecial 24, 3) := by decide +kernel
theorem d1_0 : decode jdk_92_method_4_code 0 = .ok (.aload_n 0, 1) := by decide +kernel
theorem d1_1 : decode jdk_92_method_4_code 1 = .ok (.invokespecial 21, 3) := by decide +kernel
theorem d1_4 : decode jdk_92_method_4_code 4 = .ok (.aload_n 0, 1) := by decide +kernel
theorem d1_5 : decode jdk_92_method_4_code 5 = .ok (.iconst 0, 1) := by decide +kernel
theorem d1_6 : decode jdk_92_method_4_code 6 = .ok (.putfield 7, 3) := by decide +kernel
theorem sn_40 {a0 : Array Value} {Z : State} (hw : ∀ d ∈ tables_1, d.before a0 Z = true) : Jvm.RoadKit.slotOf Z s_1 s_6 "Z" ≠ Jvm.RoadKit.slotOf Z s_1 "wordsInUse" "I" := slot_ne (Or.inl (W hw 28 rfl)) (Or.inl (W hw 26 rfl)) (by decide) (t := .boolean) (t' := .int) (by decide) (by decide)
theorem sn_41 {a0 : Array Value} {Z : State} (hw : ∀ d ∈ tables_1, d.before a0 Z = true) : Jvm.RoadKit.slotOf Z s_1 "words" "[J" ≠ Jvm.RoadKit.slotOf Z s_1 "wordsInUse" "I" := slot_ne (Or.inl (W hw 39 rfl)) (Or.inl (W hw 26 rfl)) (by decide) (t := (.array .long)) (t' := .int) (by decide) (by decide)
theorem d1_9 : decode jdk_92_method_4_code 9 = .ok (.aload_n 0, 1) := by decide +kernel
theorem d1_10 : decode jdk_92_method_4_code 10 = .ok (.iconst 0, 1) := by decide +kernel
theorem d1_11 : decode jdk_92_method_4_code 11 = .ok (.putfield 24, 3) := by decide +kernel
theorem sn_42 {a0 : Array Value} {Z : State} (hw : ∀ d ∈ tables_1, d.before a0 Z = true) : Jvm.RoadKit.slotOf Z s_1 "wordsInUse" "I" ≠ Jvm.RoadKit.slotOf Z s_1 s_6 "Z" := slot_ne (Or.inl (W hw 26 rfl)) (Or.inl (W hw 28 rfl)) (by decide) (t := .int) (t' := .boolean) (by decide) (by decide)
theorem sn_43 {a0 : Array Value} {Z : State} (hw : ∀ d ∈ tables_1, d.before a0 Z = true) : Jvm.RoadKit.slotOf Z s_1 "words" "[J" ≠ Jvm.RoadKit.slotOf Z s_1 s_6 "Z" := slot_ne (Or.inl (W hw 39 rfl)) (Or.inl (W hw 28 rfl)) (by decide) (t := (.array .long)) (t' := .boolean) (by decide) (by decide)
theorem d1_14 : decode jdk_92_method_4_code 14 = .ok (.aload_n 0, 1) := by decide +kernel
theorem d1_15 : decode jdk_92_method_4_code 15 = .ok (.bipush 64, 2) := by decide +kernel
theorem d1_17 : decode jdk_92_method_4_code 17 = .ok (.invokevirtual 27, 3) := by decide +kernel
theorem d2_0 : decode jdk_92_method_6_code 0 = .ok (.aload_n 0, 1) := by decide +kernel
theorem d2_1 : decode jdk_92_method_6_code 1 = .ok (.iload_n 1, 1) := by decide +kernel
theorem d2_2 : decode jdk_92_method_6_code 2 = .ok (.iconst 1, 1) := by decide +kernel
theorem d2_3 : decode jdk_92_method_6_code 3 = .ok (.isub, 1) := by decide +kernel
theorem lf_0 : ((64 : Int32) - (1 : Int32)) = (63 : Int32) := by decide
theorem d2_4 : decode jdk_92_method_6_code 4 = .ok (.invokestatic 52, 3) := by decide +kernel
theorem d3_0 : decode jdk_92_method_1_code 0 = .ok (.iload_n 0, 1) := by decide +kernel
theorem d3_1 : decode jdk_92_method_1_code 1 = .ok (.bipush 6, 2) := by decide +kernel
theorem d3_3 : decode jdk_92_method_1_code 3 = .ok (.ishr, 1) := by decide +kernel
theorem lf_1 : ((63 : Int32) >>> ((6 : Int32) &&& 31)) = (0 : Int32) := by decide
theorem d3_4 : decode jdk_92_method_1_code 4 = .ok (.ireturn, 1) := by decide +kernel
theorem ef_0 (m : MethodId) (x0 : Value) (h0 : x0.category = 1) : entryFrame m #[x0] 1 = mkF m 0 #[.val x0] [] := by first | (simp [entryFrame, mkF, argsToLocals, h0]; done) | rfl
theorem pn_0 : plainName s_1 = true := by first | (simp [plainName, overriddenIn]; done) | decide +kernel
set_option maxRecDepth 65536 in
set_option maxHeartbeats 40000000 in
theorem rm_1 (l : Launch) (Z : State) (a0 : Array Value) (hw : ∀ d ∈ tables_1, d.before a0 Z = true) (w : Nat → Addr) (kk : Nat → ClassId) (iw : Nat → Int32) (vw : Nat → Value) (hN : Wd Z w kk iw vw) (ws : List Jvm.Cond)  (h0 : Heap) (O0 : Old Z Z.heap.size h0) :
    Met l Z (⟨s_1, "wordIndex", "(I)I"⟩ : MethodName) (Jvm.Cond.code (⟨s_1, "wordIndex", "(I)I"⟩ : MethodName) jdk_92_method_1_code 1 (some .int)) ws (Rm 0 0 0 0) #[(.int (63 : Int32))] h0 (OQ (some (.int (0 : Int32))) h0 Z.heap.size) := by
  have hN' := hN
  have hL0 : Sta Z Z.heap s_1 s_4 "Z" (.int (1 : Int32)) := hN'
  refine own_body (plainFor_of_name pn_0) hisR ?_
  intro p e s m below meth c s₁ hx hby hml hown hnm hret X0 hZ e0
  have N0 := Fr.nil Z.heap.size
  refine ⟨s₁, some (.int (0 : Int32)), _, _, _, by decide, by decide, X0, nofun, (by rw [e0]; exact ⟨rfl, N0, rfl⟩), fun fs hr => castTop (ef_0 m (.int (63 : Int32)) rfl) ?_⟩
  show Steps p.tables e below (s₁.setTop (mkF m 0 #[.val (.int (63 : Int32))] [])) _
  refine XS.iloadN X0.here hx rfl (hb hby d3_0) rfl ?_
  refine XS.bipush X0.here hx rfl (hb hby d3_1) ?_
  refine XS.ishr X0.here hx rfl (hb hby d3_3) rfl ?_
  show Steps p.tables e below (s₁.setTop (mkF m 4 #[.val (.int (63 : Int32))] [(.int ((63 : Int32) >>> ((6 : Int32) &&& 31)))])) _
  rw [lf_1]
  show Steps p.tables e below (s₁.setTop (mkF m 4 #[.val (.int (63 : Int32))] [(.int (0 : Int32))])) _
  exact retI X0 hx hret (hb hby d3_4) hr
theorem pd_0 : parseMethodDescriptor "(I)I" = some ⟨[.int], some .int⟩ := by decide +kernel
theorem d2_7 : decode jdk_92_method_6_code 7 = .ok (.iconst 1, 1) := by decide +kernel
theorem d2_8 : decode jdk_92_method_6_code 8 = .ok (.iadd, 1) := by decide +kernel
theorem lf_2 : ((0 : Int32) + (1 : Int32)) = (1 : Int32) := by decide
theorem d2_9 : decode jdk_92_method_6_code 9 = .ok (.newarray .long, 2) := by decide +kernel
theorem d2_11 : decode jdk_92_method_6_code 11 = .ok (.putfield 11, 3) := by decide +kernel
theorem sn_44 {a0 : Array Value} {Z : State} (hw : ∀ d ∈ tables_1, d.before a0 Z = true) : Jvm.RoadKit.slotOf Z s_1 "wordsInUse" "I" ≠ Jvm.RoadKit.slotOf Z s_1 "words" "[J" := slot_ne (Or.inl (W hw 26 rfl)) (Or.inl (W hw 39 rfl)) (by decide) (t := .int) (t' := (.array .long)) (by decide) (by decide)
theorem sn_45 {a0 : Array Value} {Z : State} (hw : ∀ d ∈ tables_1, d.before a0 Z = true) : Jvm.RoadKit.slotOf Z s_1 s_6 "Z" ≠ Jvm.RoadKit.slotOf Z s_1 "words" "[J" := slot_ne (Or.inl (W hw 28 rfl)) (Or.inl (W hw 39 rfl)) (by decide) (t := .boolean) (t' := (.array .long)) (by decide) (by decide)
theorem d2_14 : decode jdk_92_method_6_code 14 = .ok (.return_, 1) := by decide +kernel
theorem ef_1 (m : MethodId) (x0 : Value) (h0 : x0.category = 1) (x1 : Value) (h1 : x1.category = 1) : entryFrame m #[x0, x1] 2 = mkF m 0 #[.val x0, .val x1] [] := by first | (simp [entryFrame, mkF, argsToLocals, h0, h1]; done) | rfl
def Qd_0 (Z : State) (w : Nat → Addr) (kk : Nat → ClassId) (iw : Nat → Int32) (vw : Nat → Value) (o1 : Addr) (h0 : Heap) (n0 : Nat) (v : Option Value) (h : Heap) (L : List Loc) : Prop := ∃ (c1 : Addr) (kc1 : ClassId), v = none ∧ Fr n0 L ∧ Keep h0 h [o1] ∧ h0.size ≤ c1 ∧ Exa Z h o1 s_1 ∧ Fld Z h o1 s_1 "wordsInUse" "I" (.int (0 : Int32)) ∧ Fld Z h o1 s_1 s_6 "Z" (.int (0 : Int32)) ∧ Fld Z h o1 s_1 "words" "[J" (.ref c1) ∧ Arv Z h c1 kc1 .long (1 : Int32) [] (.long (0 : Int64))
set_option maxRecDepth 65536 in
set_option maxHeartbeats 40000000 in
theorem rm_2 (l : Launch) (Z : State) (a0 : Array Value) (hw : ∀ d ∈ tables_1, d.before a0 Z = true) (w : Nat → Addr) (kk : Nat → ClassId) (iw : Nat → Int32) (vw : Nat → Value) (hN : Wd Z w kk iw vw) (ws : List Jvm.Cond) (o1 : Addr) (h0 : Heap) (O0 : Old Z Z.heap.size h0) (gn_o1 : Z.heap.size ≤ o1) (lt_o1 : o1 < h0.size) (E_o1 : Exa Z h0 o1 s_1) (F_o1_wordsInUse : Fld Z h0 o1 s_1 "wordsInUse" "I" (.int (0 : Int32))) (F_o1_sizeIsSticky : Fld Z h0 o1 s_1 s_6 "Z" (.int (0 : Int32))) (F_o1_words : Fld Z h0 o1 s_1 "words" "[J" .null) :
    Met l Z (⟨s_1, "initWords", "(I)V"⟩ : MethodName) (Jvm.Cond.code (⟨s_1, "initWords", "(I)V"⟩ : MethodName) jdk_92_method_6_code 2 none) ws (Rm 1 1 1 13) #[(.ref o1), (.int (64 : Int32))] h0 (Qd_0 Z w kk iw vw o1 h0 Z.heap.size) := by
  have hN' := hN
  have hL0 : Sta Z Z.heap s_1 s_4 "Z" (.int (1 : Int32)) := hN'
  refine own_body (plainFor_of_name pn_0) hisR ?_
  intro p e s m below meth c s₁ hx hby hml hown hnm hret X0 hZ e0
  have N0 := Fr.nil Z.heap.size
  have K0 : Keep h0 h0 [o1] := Keep.refl _ _
  obtain ⟨_, _, ⟨T1, L1, k1, n1⟩, -, X1, ⟨Lc1, hQ1, l1, y1, z1⟩, st1⟩ := Jvm.LawKit.callS X0 hx (y := (⟨s_1, "wordIndex", "(I)I"⟩ : MethodName)) hown (mvT hZ (W hw 34 rfl)) (mvT hZ (W hw 35 rfl)) (mvT hZ (W hw 20 rfl)) (mvT hZ (W hw 36 rfl)) (by decide) (backOf (W := 1) (rm_1 l Z a0 hw w kk iw vw hN [] h0 O0) hZ (W hw 36 rfl) (W hw 20 rfl) (by decide) (by decide)) (g := (mkF m 4 #[.val (.ref o1), .val (.int (64 : Int32))] [(.int (63 : Int32)), (.ref o1)])) rfl (by rw [hml]; rfl) (argsL := [(.int (63 : Int32))]) (rest := [(.ref o1)]) (lenOf pd_0 rfl) rfl (by show 2 * 0 + _ ≤ _; exact Nat.le_of_eq rfl) (hb hby d2_4) (fun _ _ => ⟨rfl, e0, (by decide : 0 + 0 ≤ _), (by decide : 0 + 0 ≤ _)⟩)
  dsimp only [Pt.U, Pt.locs, Pt.cells, Pt.slots] at X1 l1 y1 z1 st1 hQ1
  subst l1 y1 z1
  obtain ⟨rfl, N1q, e1⟩ := hQ1
  have N1 := Fr.app N0 N1q
  obtain ⟨T2, h2, k2, X2, e2, E2, A2, st2⟩ := newP X1 hx hZ (W hw 37 rfl) e1 (g := (mkF m 9 #[.val (.ref o1), .val (.int (64 : Int32))] [(.int (1 : Int32)), (.ref o1)])) rfl (hb hby d2_9) rfl (by decide) (cap := 1) (by decide) (by decide) (by decide) (by decide)
  obtain ⟨b2, g2⟩ : ∃ z, z = h0.size := ⟨_, rfl⟩
  rw [← g2] at A2 st2
  have gn_b2 : Z.heap.size ≤ b2 := Nat.le_trans O0.2.1 (Nat.le_of_eq g2.symm)
  have sz_b2 : h0.size ≤ b2 := Nat.le_trans K0.1 (Nat.le_of_eq g2.symm)
  have ne_o1_b2 : o1 ≠ b2 := Nat.ne_of_lt (Nat.lt_of_lt_of_le E_o1.lt (Nat.le_of_eq g2.symm))
  have E_o1_v2 := E_o1.ext E2
  have F_o1_wordsInUse_v2 := F_o1_wordsInUse.ext E2
  have F_o1_sizeIsSticky_v2 := F_o1_sizeIsSticky.ext E2
  have F_o1_words_v2 := F_o1_words.ext E2
  have O2 := O0.ext E2
  have K2 := K0.ext E2
  have V_b2_v2 : Arv Z h2 b2 k2 .long (1 : Int32) [] (.long (0 : Int64)) := Arv.new A2 (by decide)
  obtain ⟨T3, h3, X3, e3, W3, st3⟩ := putF X2 hx hZ hown (host := "") (Or.inl (W hw 38 rfl)) Via.refl e2 F_o1_words_v2 E_o1_v2 (Or.inl (W hw 39 rfl)) (W hw 19 rfl) (ty := (.array .long)) (by decide) rfl rfl (g := (mkF m 11 #[.val (.ref o1), .val (.int (64 : Int32))] [(.ref b2), (.ref o1)])) rfl rfl (hb hby d2_11)
  have F_o1_words_v3 := F_o1_words_v2.same W3
  have N3 := Fr.snoc X3 N1 gn_o1
  have E_o1_v3 := E_o1_v2.wr W3
  have F_o1_wordsInUse_v3 := F_o1_wordsInUse_v2.other W3 (Or.inr (sn_44 hw))
  have F_o1_sizeIsSticky_v3 := F_o1_sizeIsSticky_v2.other W3 (Or.inr (sn_45 hw))
  have V_b2_v3 := V_b2_v2.other W3 (Ne.symm ne_o1_b2)
  have O3 := O2.wr W3 gn_o1
  have K3 : Keep h0 h3 [o1] := K2.wr W3 (Or.inl (List.mem_of_getElem? (i := 0) rfl))
  refine ⟨T3, none, _, _, _, by decide, by decide, X3, (fun _ => rfl), (by rw [e3]; exact ⟨b2, k2, rfl, N3, K3, sz_b2, E_o1_v3, F_o1_wordsInUse_v3, F_o1_sizeIsSticky_v3, F_o1_words_v3, V_b2_v3⟩), fun fs hr => castTop (ef_1 m (.ref o1) rfl (.int (64 : Int32)) rfl) ?_⟩
  show Steps p.tables e below (s₁.setTop (mkF m 0 #[.val (.ref o1), .val (.int (64 : Int32))] [])) _
  refine XS.aloadN X0.here hx rfl (hb hby d2_0) rfl rfl ?_
  refine XS.iloadN X0.here hx rfl (hb hby d2_1) rfl ?_
  refine XS.iconst X0.here hx rfl (hb hby d2_2) ?_
  refine XS.isub X0.here hx rfl (hb hby d2_3) rfl ?_
  show Steps p.tables e below (s₁.setTop (mkF m 4 #[.val (.ref o1), .val (.int (64 : Int32))] [(.int ((64 : Int32) - (1 : Int32))), (.ref o1)])) _
  rw [lf_0]
  refine st1 _ ?_
  refine XS.iconst X1.here hx rfl (hb hby d2_7) ?_
  refine XS.iadd X1.here hx rfl (hb hby d2_8) rfl ?_
  show Steps p.tables e below (T1.setTop (mkF m 9 #[.val (.ref o1), .val (.int (64 : Int32))] [(.int ((0 : Int32) + (1 : Int32))), (.ref o1)])) _
  rw [lf_2]
  refine st2 _ ?_
  show Steps p.tables e below (T2.setTop (mkF m 11 #[.val (.ref o1), .val (.int (64 : Int32))] [(.ref b2), (.ref o1)])) _
  refine st3 _ ?_
  show Steps p.tables e below (T3.setTop (mkF m 14 #[.val (.ref o1), .val (.int (64 : Int32))] [])) _
  exact X3.returnOut hx hret (hb hby d2_14) hr
theorem pd_1 : parseMethodDescriptor "(I)V" = some ⟨[.int], none⟩ := by decide +kernel
theorem d1_20 : decode jdk_92_method_4_code 20 = .ok (.aload_n 0, 1) := by decide +kernel
theorem d1_21 : decode jdk_92_method_4_code 21 = .ok (.iconst 0, 1) := by decide +kernel
theorem d1_22 : decode jdk_92_method_4_code 22 = .ok (.putfield 24, 3) := by decide +kernel
theorem d1_25 : decode jdk_92_method_4_code 25 = .ok (.return_, 1) := by decide +kernel
theorem ef_2 (m : MethodId) (x0 : Value) (h0 : x0.category = 1) : entryFrame m #[x0] 1 = mkF m 0 #[.val x0] [] := by first | (simp [entryFrame, mkF, argsToLocals, h0]; done) | rfl
set_option maxRecDepth 65536 in
set_option maxHeartbeats 40000000 in
theorem rm_3 (l : Launch) (Z : State) (a0 : Array Value) (hw : ∀ d ∈ tables_1, d.before a0 Z = true) (w : Nat → Addr) (kk : Nat → ClassId) (iw : Nat → Int32) (vw : Nat → Value) (hN : Wd Z w kk iw vw) (ws : List Jvm.Cond) (o1 : Addr) (h0 : Heap) (O0 : Old Z Z.heap.size h0) (gn_o1 : Z.heap.size ≤ o1) (lt_o1 : o1 < h0.size) (E_o1 : Exa Z h0 o1 s_1) (F_o1_wordsInUse : Fld Z h0 o1 s_1 "wordsInUse" "I" (.int (0 : Int32))) (F_o1_sizeIsSticky : Fld Z h0 o1 s_1 s_6 "Z" (.int (0 : Int32))) (F_o1_words : Fld Z h0 o1 s_1 "words" "[J" .null) :
    Met l Z (⟨s_1, "<init>", "()V"⟩ : MethodName) (Jvm.Cond.code (⟨s_1, "<init>", "()V"⟩ : MethodName) jdk_92_method_4_code 1 none) ws (Rm 2 1 1 26) #[(.ref o1)] h0 (Qd_0 Z w kk iw vw o1 h0 Z.heap.size) := by
  have hN' := hN
  have hL0 : Sta Z Z.heap s_1 s_4 "Z" (.int (1 : Int32)) := hN'
  refine own_body (plainFor_of_name pn_0) hisR ?_
  intro p e s m below meth c s₁ hx hby hml hown hnm hret X0 hZ e0
  have N0 := Fr.nil Z.heap.size
  have K0 : Keep h0 h0 [o1] := Keep.refl _ _
  obtain ⟨T1, X1, e1, st1⟩ := initO X0 hx hZ hown (W hw 24 rfl) (W hw 7 rfl) (W hw 8 rfl) e0 (g := (mkF m 1 #[.val (.ref o1)] [(.ref o1)])) rfl (by rw [hml]; rfl) rfl (hb hby d1_1) (by decide) (W := 0) (by show 2 * 0 + _ ≤ _; exact Nat.le_of_eq rfl) (by decide)
  obtain ⟨T2, h2, X2, e2, W2, st2⟩ := putF X1 hx hZ hown (host := "") (Or.inl (W hw 25 rfl)) Via.refl e1 F_o1_wordsInUse E_o1 (Or.inl (W hw 26 rfl)) (W hw 19 rfl) (ty := .int) (by decide) rfl rfl (g := (mkF m 6 #[.val (.ref o1)] [(.int (0 : Int32)), (.ref o1)])) rfl rfl (hb hby d1_6)
  have F_o1_wordsInUse_v2 := F_o1_wordsInUse.same W2
  have N2 := Fr.snoc X2 N0 gn_o1
  have E_o1_v2 := E_o1.wr W2
  have F_o1_sizeIsSticky_v2 := F_o1_sizeIsSticky.other W2 (Or.inr (sn_40 hw))
  have F_o1_words_v2 := F_o1_words.other W2 (Or.inr (sn_41 hw))
  have O2 := O0.wr W2 gn_o1
  have K2 : Keep h0 h2 [o1] := K0.wr W2 (Or.inl (List.mem_of_getElem? (i := 0) rfl))
  obtain ⟨T3, h3, X3, e3, W3, st3⟩ := putFN X2 hx hZ hown (W hw 27 rfl) Via.refl e2 F_o1_sizeIsSticky_v2 E_o1_v2 (Or.inl (W hw 28 rfl)) (W hw 19 rfl) (ty := .boolean) (v' := (.int (0 : Int32))) (by decide) rfl rfl (g := (mkF m 11 #[.val (.ref o1)] [(.int (0 : Int32)), (.ref o1)])) rfl rfl (hb hby d1_11)
  have F_o1_sizeIsSticky_v3 := F_o1_sizeIsSticky_v2.same W3
  have N3 := Fr.snoc X3 N2 gn_o1
  have E_o1_v3 := E_o1_v2.wr W3
  have F_o1_wordsInUse_v3 := F_o1_wordsInUse_v2.other W3 (Or.inr (sn_42 hw))
  have F_o1_words_v3 := F_o1_words_v2.other W3 (Or.inr (sn_43 hw))
  have O3 := O2.wr W3 gn_o1
  have K3 : Keep h0 h3 [o1] := K2.wr W3 (Or.inl (List.mem_of_getElem? (i := 0) rfl))
  obtain ⟨cq4, q4, q4'⟩ := E_o1_v3.cell
  obtain ⟨_, _, ⟨T4, L4, k4, n4⟩, -, X4, ⟨Lc4, hQ4, l4, y4, z4⟩, st4⟩ := X3.privateBack hx (y := (⟨s_1, "initWords", "(I)V"⟩ : MethodName)) hown (mvT hZ (W hw 29 rfl)) (mvT hZ (W hw 30 rfl)) (mvT hZ (W hw 32 rfl)) (Cond.privateMethod_at (mvP hZ (W hw 31 rfl) (args := #[]))) (mvT hZ (W hw 33 rfl)) (by decide) (backOf (W := 0) (rm_2 l Z a0 hw w kk iw vw hN [] o1 h3 O3 gn_o1 E_o1_v3.lt E_o1_v3 F_o1_wordsInUse_v3 F_o1_sizeIsSticky_v3 F_o1_words_v3) hZ (W hw 33 rfl) (W hw 20 rfl) (by decide) (by decide)) (g := (mkF m 17 #[.val (.ref o1)] [(.int (64 : Int32)), (.ref o1)])) rfl (by rw [hml]; rfl) (Steps.refl _) (a := o1) (by rw [e3]; exact q4) q4' (argsL := [(.int (64 : Int32))]) (rest := []) (lenOf pd_1 rfl) rfl (by show 2 * 0 + _ ≤ _; exact Nat.le_of_eq rfl) (hb hby d1_17) (fun _ _ => ⟨rfl, e3, (by decide : 0 + 1 ≤ _), (by decide : 0 + 1 ≤ _)⟩)
  dsimp only [Pt.U, Pt.locs, Pt.cells, Pt.slots] at X4 l4 y4 z4 st4 hQ4
  subst l4 y4 z4
  obtain ⟨b4_0, kb4_0, rfl, N4q, Kq4, tk4_0, tk4_1, tk4_2, tk4_3, tk4_4, tk4_5⟩ := hQ4
  have N4 := Fr.app N3 N4q
  have gn_b4_0 : Z.heap.size ≤ b4_0 := Nat.le_trans O3.2.1 tk4_0
  have sz_b4_0 : h0.size ≤ b4_0 := Nat.le_trans K3.1 tk4_0
  have ne_o1_b4_0 : o1 ≠ b4_0 := Nat.ne_of_lt (Nat.lt_of_lt_of_le E_o1_v3.lt tk4_0)
  have E_o1_v4 := E_o1_v3.keep Kq4
  have O4 := O3.keep Kq4 (allS gn_o1 all0)
  have K4 : Keep h0 T4.heap [o1] := K3.trans Kq4 (allS (Or.inl (List.mem_of_getElem? (i := 0) rfl)) all0)
  obtain ⟨T5, h5, X5, e5, W5, st5⟩ := putFN X4 hx hZ hown (W hw 27 rfl) Via.refl rfl tk4_3 tk4_1 (Or.inl (W hw 28 rfl)) (W hw 19 rfl) (ty := .boolean) (v' := (.int (0 : Int32))) (by decide) rfl rfl (g := (mkF m 22 #[.val (.ref o1)] [(.int (0 : Int32)), (.ref o1)])) rfl rfl (hb hby d1_22)
  have tk4_3_v5 := tk4_3.same W5
  have N5 := Fr.snoc X5 N4 gn_o1
  have tk4_1_v5 := tk4_1.wr W5
  have tk4_2_v5 := tk4_2.other W5 (Or.inr (sn_42 hw))
  have tk4_4_v5 := tk4_4.other W5 (Or.inr (sn_43 hw))
  have tk4_5_v5 := tk4_5.other W5 (Ne.symm ne_o1_b4_0)
  have O5 := O4.wr W5 gn_o1
  have K5 : Keep h0 h5 [o1] := K4.wr W5 (Or.inl (List.mem_of_getElem? (i := 0) rfl))
  refine ⟨T5, none, _, _, _, by decide, by decide, X5, (fun _ => rfl), (by rw [e5]; exact ⟨b4_0, kb4_0, rfl, N5, K5, sz_b4_0, tk4_1_v5, tk4_2_v5, tk4_3_v5, tk4_4_v5, tk4_5_v5⟩), fun fs hr => castTop (ef_2 m (.ref o1) rfl) ?_⟩
  show Steps p.tables e below (s₁.setTop (mkF m 0 #[.val (.ref o1)] [])) _
  refine XS.aloadN X0.here hx rfl (hb hby d1_0) rfl rfl ?_
  refine st1 _ ?_
  refine XS.aloadN X1.here hx rfl (hb hby d1_4) rfl rfl ?_
  refine XS.iconst X1.here hx rfl (hb hby d1_5) ?_
  refine st2 _ ?_
  refine XS.aloadN X2.here hx rfl (hb hby d1_9) rfl rfl ?_
  refine XS.iconst X2.here hx rfl (hb hby d1_10) ?_
  refine st3 _ ?_
  show Steps p.tables e below (T3.setTop (mkF m 14 #[.val (.ref o1)] [])) _
  refine XS.aloadN X3.here hx rfl (hb hby d1_14) rfl rfl ?_
  refine XS.bipush X3.here hx rfl (hb hby d1_15) ?_
  refine st4.trans ?_
  refine XS.aloadN X4.here hx rfl (hb hby d1_20) rfl rfl ?_
  refine XS.iconst X4.here hx rfl (hb hby d1_21) ?_
  refine st5 _ ?_
  show Steps p.tables e below (T5.setTop (mkF m 25 #[.val (.ref o1)] [])) _
  exact X5.returnOut hx hret (hb hby d1_25) hr
theorem pd_2 : parseMethodDescriptor "()V" = some ⟨[], none⟩ := by decide +kernel
theorem d0_44 : decode prog_20_method_1_code 44 = .ok (.putfield 25, 3) := by decide +kernel
theorem sn_46 {a0 : Array Value} {Z : State} (hw : ∀ d ∈ tables_1, d.before a0 Z = true) : Jvm.RoadKit.slotOf Z s_0 "nextBlock" "[I" ≠ Jvm.RoadKit.slotOf Z s_0 "closed" s_3 := slot_ne (Or.inl (W hw 11 rfl)) (Or.inr (W hw 41 rfl)) (by decide) (t := (.array .int)) (t' := (.object s_1)) (by decide) (by decide)
theorem sn_47 {a0 : Array Value} {Z : State} (hw : ∀ d ∈ tables_1, d.before a0 Z = true) : Jvm.RoadKit.slotOf Z s_0 s_5 "[I" ≠ Jvm.RoadKit.slotOf Z s_0 "closed" s_3 := slot_ne (Or.inl (W hw 13 rfl)) (Or.inr (W hw 41 rfl)) (by decide) (t := (.array .int)) (t' := (.object s_1)) (by decide) (by decide)
theorem sn_48 {a0 : Array Value} {Z : State} (hw : ∀ d ∈ tables_1, d.before a0 Z = true) : Jvm.RoadKit.slotOf Z s_0 "firstPiece" "[I" ≠ Jvm.RoadKit.slotOf Z s_0 "closed" s_3 := slot_ne (Or.inl (W hw 15 rfl)) (Or.inr (W hw 41 rfl)) (by decide) (t := (.array .int)) (t' := (.object s_1)) (by decide) (by decide)
theorem sn_49 {a0 : Array Value} {Z : State} (hw : ∀ d ∈ tables_1, d.before a0 Z = true) : Jvm.RoadKit.slotOf Z s_0 "lastPiece" "[I" ≠ Jvm.RoadKit.slotOf Z s_0 "closed" s_3 := slot_ne (Or.inl (W hw 17 rfl)) (Or.inr (W hw 41 rfl)) (by decide) (t := (.array .int)) (t' := (.object s_1)) (by decide) (by decide)
theorem sn_50 {a0 : Array Value} {Z : State} (hw : ∀ d ∈ tables_1, d.before a0 Z = true) : Jvm.RoadKit.slotOf Z s_0 "firstBlock" "I" ≠ Jvm.RoadKit.slotOf Z s_0 "closed" s_3 := slot_ne (Or.inl (W hw 43 rfl)) (Or.inr (W hw 41 rfl)) (by decide) (t := .int) (t' := (.object s_1)) (by decide) (by decide)
theorem sn_51 {a0 : Array Value} {Z : State} (hw : ∀ d ∈ tables_1, d.before a0 Z = true) : Jvm.RoadKit.slotOf Z s_0 "lastBlock" "I" ≠ Jvm.RoadKit.slotOf Z s_0 "closed" s_3 := slot_ne (Or.inl (W hw 45 rfl)) (Or.inr (W hw 41 rfl)) (by decide) (t := .int) (t' := (.object s_1)) (by decide) (by decide)
theorem sn_52 {a0 : Array Value} {Z : State} (hw : ∀ d ∈ tables_1, d.before a0 Z = true) : Jvm.RoadKit.slotOf Z s_0 "pieceStart" "[J" ≠ Jvm.RoadKit.slotOf Z s_0 "closed" s_3 := slot_ne (Or.inl (W hw 47 rfl)) (Or.inr (W hw 41 rfl)) (by decide) (t := (.array .long)) (t' := (.object s_1)) (by decide) (by decide)
theorem sn_53 {a0 : Array Value} {Z : State} (hw : ∀ d ∈ tables_1, d.before a0 Z = true) : Jvm.RoadKit.slotOf Z s_0 "pieceLength" "[I" ≠ Jvm.RoadKit.slotOf Z s_0 "closed" s_3 := slot_ne (Or.inl (W hw 49 rfl)) (Or.inr (W hw 41 rfl)) (by decide) (t := (.array .int)) (t' := (.object s_1)) (by decide) (by decide)
theorem sn_54 {a0 : Array Value} {Z : State} (hw : ∀ d ∈ tables_1, d.before a0 Z = true) : Jvm.RoadKit.slotOf Z s_0 "nextPiece" "[I" ≠ Jvm.RoadKit.slotOf Z s_0 "closed" s_3 := slot_ne (Or.inl (W hw 51 rfl)) (Or.inr (W hw 41 rfl)) (by decide) (t := (.array .int)) (t' := (.object s_1)) (by decide) (by decide)
theorem sn_55 {a0 : Array Value} {Z : State} (hw : ∀ d ∈ tables_1, d.before a0 Z = true) : Jvm.RoadKit.slotOf Z s_0 "blockCount" "I" ≠ Jvm.RoadKit.slotOf Z s_0 "closed" s_3 := slot_ne (Or.inl (W hw 58 rfl)) (Or.inr (W hw 41 rfl)) (by decide) (t := .int) (t' := (.object s_1)) (by decide) (by decide)
theorem d0_47 : decode prog_20_method_1_code 47 = .ok (.aload_n 0, 1) := by decide +kernel
theorem d0_48 : decode prog_20_method_1_code 48 = .ok (.iconst (-1), 1) := by decide +kernel
theorem d0_49 : decode prog_20_method_1_code 49 = .ok (.putfield 29, 3) := by decide +kernel
theorem sn_56 {a0 : Array Value} {Z : State} (hw : ∀ d ∈ tables_1, d.before a0 Z = true) : Jvm.RoadKit.slotOf Z s_0 "nextBlock" "[I" ≠ Jvm.RoadKit.slotOf Z s_0 "firstBlock" "I" := slot_ne (Or.inl (W hw 11 rfl)) (Or.inl (W hw 43 rfl)) (by decide) (t := (.array .int)) (t' := .int) (by decide) (by decide)
theorem sn_57 {a0 : Array Value} {Z : State} (hw : ∀ d ∈ tables_1, d.before a0 Z = true) : Jvm.RoadKit.slotOf Z s_0 s_5 "[I" ≠ Jvm.RoadKit.slotOf Z s_0 "firstBlock" "I" := slot_ne (Or.inl (W hw 13 rfl)) (Or.inl (W hw 43 rfl)) (by decide) (t := (.array .int)) (t' := .int) (by decide) (by decide)
theorem sn_58 {a0 : Array Value} {Z : State} (hw : ∀ d ∈ tables_1, d.before a0 Z = true) : Jvm.RoadKit.slotOf Z s_0 "firstPiece" "[I" ≠ Jvm.RoadKit.slotOf Z s_0 "firstBlock" "I" := slot_ne (Or.inl (W hw 15 rfl)) (Or.inl (W hw 43 rfl)) (by decide) (t := (.array .int)) (t' := .int) (by decide) (by decide)
theorem sn_59 {a0 : Array Value} {Z : State} (hw : ∀ d ∈ tables_1, d.before a0 Z = true) : Jvm.RoadKit.slotOf Z s_0 "lastPiece" "[I" ≠ Jvm.RoadKit.slotOf Z s_0 "firstBlock" "I" := slot_ne (Or.inl (W hw 17 rfl)) (Or.inl (W hw 43 rfl)) (by decide) (t := (.array .int)) (t' := .int) (by decide) (by decide)
theorem sn_60 {a0 : Array Value} {Z : State} (hw : ∀ d ∈ tables_1, d.before a0 Z = true) : Jvm.RoadKit.slotOf Z s_0 "closed" s_3 ≠ Jvm.RoadKit.slotOf Z s_0 "firstBlock" "I" := slot_ne (Or.inr (W hw 41 rfl)) (Or.inl (W hw 43 rfl)) (by decide) (t := (.object s_1)) (t' := .int) (by decide) (by decide)
theorem sn_61 {a0 : Array Value} {Z : State} (hw : ∀ d ∈ tables_1, d.before a0 Z = true) : Jvm.RoadKit.slotOf Z s_0 "lastBlock" "I" ≠ Jvm.RoadKit.slotOf Z s_0 "firstBlock" "I" := slot_ne (Or.inl (W hw 45 rfl)) (Or.inl (W hw 43 rfl)) (by decide) (t := .int) (t' := .int) (by decide) (by decide)
theorem sn_62 {a0 : Array Value} {Z : State} (hw : ∀ d ∈ tables_1, d.before a0 Z = true) : Jvm.RoadKit.slotOf Z s_0 "pieceStart" "[J" ≠ Jvm.RoadKit.slotOf Z s_0 "firstBlock" "I" := slot_ne (Or.inl (W hw 47 rfl)) (Or.inl (W hw 43 rfl)) (by decide) (t := (.array .long)) (t' := .int) (by decide) (by decide)
theorem sn_63 {a0 : Array Value} {Z : State} (hw : ∀ d ∈ tables_1, d.before a0 Z = true) : Jvm.RoadKit.slotOf Z s_0 "pieceLength" "[I" ≠ Jvm.RoadKit.slotOf Z s_0 "firstBlock" "I" := slot_ne (Or.inl (W hw 49 rfl)) (Or.inl (W hw 43 rfl)) (by decide) (t := (.array .int)) (t' := .int) (by decide) (by decide)
theorem sn_64 {a0 : Array Value} {Z : State} (hw : ∀ d ∈ tables_1, d.before a0 Z = true) : Jvm.RoadKit.slotOf Z s_0 "nextPiece" "[I" ≠ Jvm.RoadKit.slotOf Z s_0 "firstBlock" "I" := slot_ne (Or.inl (W hw 51 rfl)) (Or.inl (W hw 43 rfl)) (by decide) (t := (.array .int)) (t' := .int) (by decide) (by decide)
theorem sn_65 {a0 : Array Value} {Z : State} (hw : ∀ d ∈ tables_1, d.before a0 Z = true) : Jvm.RoadKit.slotOf Z s_0 "blockCount" "I" ≠ Jvm.RoadKit.slotOf Z s_0 "firstBlock" "I" := slot_ne (Or.inl (W hw 58 rfl)) (Or.inl (W hw 43 rfl)) (by decide) (t := .int) (t' := .int) (by decide) (by decide)
theorem d0_52 : decode prog_20_method_1_code 52 = .ok (.aload_n 0, 1) := by decide +kernel
theorem d0_53 : decode prog_20_method_1_code 53 = .ok (.iconst (-1), 1) := by decide +kernel
theorem d0_54 : decode prog_20_method_1_code 54 = .ok (.putfield 33, 3) := by decide +kernel
theorem sn_66 {a0 : Array Value} {Z : State} (hw : ∀ d ∈ tables_1, d.before a0 Z = true) : Jvm.RoadKit.slotOf Z s_0 "nextBlock" "[I" ≠ Jvm.RoadKit.slotOf Z s_0 "lastBlock" "I" := slot_ne (Or.inl (W hw 11 rfl)) (Or.inl (W hw 45 rfl)) (by decide) (t := (.array .int)) (t' := .int) (by decide) (by decide)
theorem sn_67 {a0 : Array Value} {Z : State} (hw : ∀ d ∈ tables_1, d.before a0 Z = true) : Jvm.RoadKit.slotOf Z s_0 s_5 "[I" ≠ Jvm.RoadKit.slotOf Z s_0 "lastBlock" "I" := slot_ne (Or.inl (W hw 13 rfl)) (Or.inl (W hw 45 rfl)) (by decide) (t := (.array .int)) (t' := .int) (by decide) (by decide)
theorem sn_68 {a0 : Array Value} {Z : State} (hw : ∀ d ∈ tables_1, d.before a0 Z = true) : Jvm.RoadKit.slotOf Z s_0 "firstPiece" "[I" ≠ Jvm.RoadKit.slotOf Z s_0 "lastBlock" "I" := slot_ne (Or.inl (W hw 15 rfl)) (Or.inl (W hw 45 rfl)) (by decide) (t := (.array .int)) (t' := .int) (by decide) (by decide)
theorem sn_69 {a0 : Array Value} {Z : State} (hw : ∀ d ∈ tables_1, d.before a0 Z = true) : Jvm.RoadKit.slotOf Z s_0 "lastPiece" "[I" ≠ Jvm.RoadKit.slotOf Z s_0 "lastBlock" "I" := slot_ne (Or.inl (W hw 17 rfl)) (Or.inl (W hw 45 rfl)) (by decide) (t := (.array .int)) (t' := .int) (by decide) (by decide)
theorem sn_70 {a0 : Array Value} {Z : State} (hw : ∀ d ∈ tables_1, d.before a0 Z = true) : Jvm.RoadKit.slotOf Z s_0 "closed" s_3 ≠ Jvm.RoadKit.slotOf Z s_0 "lastBlock" "I" := slot_ne (Or.inr (W hw 41 rfl)) (Or.inl (W hw 45 rfl)) (by decide) (t := (.object s_1)) (t' := .int) (by decide) (by decide)
theorem sn_71 {a0 : Array Value} {Z : State} (hw : ∀ d ∈ tables_1, d.before a0 Z = true) : Jvm.RoadKit.slotOf Z s_0 "firstBlock" "I" ≠ Jvm.RoadKit.slotOf Z s_0 "lastBlock" "I" := slot_ne (Or.inl (W hw 43 rfl)) (Or.inl (W hw 45 rfl)) (by decide) (t := .int) (t' := .int) (by decide) (by decide)
theorem sn_72 {a0 : Array Value} {Z : State} (hw : ∀ d ∈ tables_1, d.before a0 Z = true) : Jvm.RoadKit.slotOf Z s_0 "pieceStart" "[J" ≠ Jvm.RoadKit.slotOf Z s_0 "lastBlock" "I" := slot_ne (Or.inl (W hw 47 rfl)) (Or.inl (W hw 45 rfl)) (by decide) (t := (.array .long)) (t' := .int) (by decide) (by decide)
theorem sn_73 {a0 : Array Value} {Z : State} (hw : ∀ d ∈ tables_1, d.before a0 Z = true) : Jvm.RoadKit.slotOf Z s_0 "pieceLength" "[I" ≠ Jvm.RoadKit.slotOf Z s_0 "lastBlock" "I" := slot_ne (Or.inl (W hw 49 rfl)) (Or.inl (W hw 45 rfl)) (by decide) (t := (.array .int)) (t' := .int) (by decide) (by decide)
theorem sn_74 {a0 : Array Value} {Z : State} (hw : ∀ d ∈ tables_1, d.before a0 Z = true) : Jvm.RoadKit.slotOf Z s_0 "nextPiece" "[I" ≠ Jvm.RoadKit.slotOf Z s_0 "lastBlock" "I" := slot_ne (Or.inl (W hw 51 rfl)) (Or.inl (W hw 45 rfl)) (by decide) (t := (.array .int)) (t' := .int) (by decide) (by decide)
theorem sn_75 {a0 : Array Value} {Z : State} (hw : ∀ d ∈ tables_1, d.before a0 Z = true) : Jvm.RoadKit.slotOf Z s_0 "blockCount" "I" ≠ Jvm.RoadKit.slotOf Z s_0 "lastBlock" "I" := slot_ne (Or.inl (W hw 58 rfl)) (Or.inl (W hw 45 rfl)) (by decide) (t := .int) (t' := .int) (by decide) (by decide)
theorem d0_57 : decode prog_20_method_1_code 57 = .ok (.aload_n 0, 1) := by decide +kernel
theorem d0_58 : decode prog_20_method_1_code 58 = .ok (.bipush 64, 2) := by decide +kernel
theorem d0_60 : decode prog_20_method_1_code 60 = .ok (.newarray .long, 2) := by decide +kernel
theorem d0_62 : decode prog_20_method_1_code 62 = .ok (.putfield 36, 3) := by decide +kernel
theorem sn_76 {a0 : Array Value} {Z : State} (hw : ∀ d ∈ tables_1, d.before a0 Z = true) : Jvm.RoadKit.slotOf Z s_0 "nextBlock" "[I" ≠ Jvm.RoadKit.slotOf Z s_0 "pieceStart" "[J" := slot_ne (Or.inl (W hw 11 rfl)) (Or.inl (W hw 47 rfl)) (by decide) (t := (.array .int)) (t' := (.array .long)) (by decide) (by decide)
theorem sn_77 {a0 : Array Value} {Z : State} (hw : ∀ d ∈ tables_1, d.before a0 Z = true) : Jvm.RoadKit.slotOf Z s_0 s_5 "[I" ≠ Jvm.RoadKit.slotOf Z s_0 "pieceStart" "[J" := slot_ne (Or.inl (W hw 13 rfl)) (Or.inl (W hw 47 rfl)) (by decide) (t := (.array .int)) (t' := (.array .long)) (by decide) (by decide)
theorem sn_78 {a0 : Array Value} {Z : State} (hw : ∀ d ∈ tables_1, d.before a0 Z = true) : Jvm.RoadKit.slotOf Z s_0 "firstPiece" "[I" ≠ Jvm.RoadKit.slotOf Z s_0 "pieceStart" "[J" := slot_ne (Or.inl (W hw 15 rfl)) (Or.inl (W hw 47 rfl)) (by decide) (t := (.array .int)) (t' := (.array .long)) (by decide) (by decide)
theorem sn_79 {a0 : Array Value} {Z : State} (hw : ∀ d ∈ tables_1, d.before a0 Z = true) : Jvm.RoadKit.slotOf Z s_0 "lastPiece" "[I" ≠ Jvm.RoadKit.slotOf Z s_0 "pieceStart" "[J" := slot_ne (Or.inl (W hw 17 rfl)) (Or.inl (W hw 47 rfl)) (by decide) (t := (.array .int)) (t' := (.array .long)) (by decide) (by decide)
theorem sn_80 {a0 : Array Value} {Z : State} (hw : ∀ d ∈ tables_1, d.before a0 Z = true) : Jvm.RoadKit.slotOf Z s_0 "closed" s_3 ≠ Jvm.RoadKit.slotOf Z s_0 "pieceStart" "[J" := slot_ne (Or.inr (W hw 41 rfl)) (Or.inl (W hw 47 rfl)) (by decide) (t := (.object s_1)) (t' := (.array .long)) (by decide) (by decide)
theorem sn_81 {a0 : Array Value} {Z : State} (hw : ∀ d ∈ tables_1, d.before a0 Z = true) : Jvm.RoadKit.slotOf Z s_0 "firstBlock" "I" ≠ Jvm.RoadKit.slotOf Z s_0 "pieceStart" "[J" := slot_ne (Or.inl (W hw 43 rfl)) (Or.inl (W hw 47 rfl)) (by decide) (t := .int) (t' := (.array .long)) (by decide) (by decide)
theorem sn_82 {a0 : Array Value} {Z : State} (hw : ∀ d ∈ tables_1, d.before a0 Z = true) : Jvm.RoadKit.slotOf Z s_0 "lastBlock" "I" ≠ Jvm.RoadKit.slotOf Z s_0 "pieceStart" "[J" := slot_ne (Or.inl (W hw 45 rfl)) (Or.inl (W hw 47 rfl)) (by decide) (t := .int) (t' := (.array .long)) (by decide) (by decide)
theorem sn_83 {a0 : Array Value} {Z : State} (hw : ∀ d ∈ tables_1, d.before a0 Z = true) : Jvm.RoadKit.slotOf Z s_0 "pieceLength" "[I" ≠ Jvm.RoadKit.slotOf Z s_0 "pieceStart" "[J" := slot_ne (Or.inl (W hw 49 rfl)) (Or.inl (W hw 47 rfl)) (by decide) (t := (.array .int)) (t' := (.array .long)) (by decide) (by decide)
theorem sn_84 {a0 : Array Value} {Z : State} (hw : ∀ d ∈ tables_1, d.before a0 Z = true) : Jvm.RoadKit.slotOf Z s_0 "nextPiece" "[I" ≠ Jvm.RoadKit.slotOf Z s_0 "pieceStart" "[J" := slot_ne (Or.inl (W hw 51 rfl)) (Or.inl (W hw 47 rfl)) (by decide) (t := (.array .int)) (t' := (.array .long)) (by decide) (by decide)
theorem sn_85 {a0 : Array Value} {Z : State} (hw : ∀ d ∈ tables_1, d.before a0 Z = true) : Jvm.RoadKit.slotOf Z s_0 "blockCount" "I" ≠ Jvm.RoadKit.slotOf Z s_0 "pieceStart" "[J" := slot_ne (Or.inl (W hw 58 rfl)) (Or.inl (W hw 47 rfl)) (by decide) (t := .int) (t' := (.array .long)) (by decide) (by decide)
theorem d0_65 : decode prog_20_method_1_code 65 = .ok (.aload_n 0, 1) := by decide +kernel
theorem d0_66 : decode prog_20_method_1_code 66 = .ok (.bipush 64, 2) := by decide +kernel
theorem d0_68 : decode prog_20_method_1_code 68 = .ok (.newarray .int, 2) := by decide +kernel
theorem d0_70 : decode prog_20_method_1_code 70 = .ok (.putfield 40, 3) := by decide +kernel
theorem sn_86 {a0 : Array Value} {Z : State} (hw : ∀ d ∈ tables_1, d.before a0 Z = true) : Jvm.RoadKit.slotOf Z s_0 "nextBlock" "[I" ≠ Jvm.RoadKit.slotOf Z s_0 "pieceLength" "[I" := slot_ne (Or.inl (W hw 11 rfl)) (Or.inl (W hw 49 rfl)) (by decide) (t := (.array .int)) (t' := (.array .int)) (by decide) (by decide)
theorem sn_87 {a0 : Array Value} {Z : State} (hw : ∀ d ∈ tables_1, d.before a0 Z = true) : Jvm.RoadKit.slotOf Z s_0 s_5 "[I" ≠ Jvm.RoadKit.slotOf Z s_0 "pieceLength" "[I" := slot_ne (Or.inl (W hw 13 rfl)) (Or.inl (W hw 49 rfl)) (by decide) (t := (.array .int)) (t' := (.array .int)) (by decide) (by decide)
theorem sn_88 {a0 : Array Value} {Z : State} (hw : ∀ d ∈ tables_1, d.before a0 Z = true) : Jvm.RoadKit.slotOf Z s_0 "firstPiece" "[I" ≠ Jvm.RoadKit.slotOf Z s_0 "pieceLength" "[I" := slot_ne (Or.inl (W hw 15 rfl)) (Or.inl (W hw 49 rfl)) (by decide) (t := (.array .int)) (t' := (.array .int)) (by decide) (by decide)
theorem sn_89 {a0 : Array Value} {Z : State} (hw : ∀ d ∈ tables_1, d.before a0 Z = true) : Jvm.RoadKit.slotOf Z s_0 "lastPiece" "[I" ≠ Jvm.RoadKit.slotOf Z s_0 "pieceLength" "[I" := slot_ne (Or.inl (W hw 17 rfl)) (Or.inl (W hw 49 rfl)) (by decide) (t := (.array .int)) (t' := (.array .int)) (by decide) (by decide)
theorem sn_90 {a0 : Array Value} {Z : State} (hw : ∀ d ∈ tables_1, d.before a0 Z = true) : Jvm.RoadKit.slotOf Z s_0 "closed" s_3 ≠ Jvm.RoadKit.slotOf Z s_0 "pieceLength" "[I" := slot_ne (Or.inr (W hw 41 rfl)) (Or.inl (W hw 49 rfl)) (by decide) (t := (.object s_1)) (t' := (.array .int)) (by decide) (by decide)
theorem sn_91 {a0 : Array Value} {Z : State} (hw : ∀ d ∈ tables_1, d.before a0 Z = true) : Jvm.RoadKit.slotOf Z s_0 "firstBlock" "I" ≠ Jvm.RoadKit.slotOf Z s_0 "pieceLength" "[I" := slot_ne (Or.inl (W hw 43 rfl)) (Or.inl (W hw 49 rfl)) (by decide) (t := .int) (t' := (.array .int)) (by decide) (by decide)
theorem sn_92 {a0 : Array Value} {Z : State} (hw : ∀ d ∈ tables_1, d.before a0 Z = true) : Jvm.RoadKit.slotOf Z s_0 "lastBlock" "I" ≠ Jvm.RoadKit.slotOf Z s_0 "pieceLength" "[I" := slot_ne (Or.inl (W hw 45 rfl)) (Or.inl (W hw 49 rfl)) (by decide) (t := .int) (t' := (.array .int)) (by decide) (by decide)
theorem sn_93 {a0 : Array Value} {Z : State} (hw : ∀ d ∈ tables_1, d.before a0 Z = true) : Jvm.RoadKit.slotOf Z s_0 "pieceStart" "[J" ≠ Jvm.RoadKit.slotOf Z s_0 "pieceLength" "[I" := slot_ne (Or.inl (W hw 47 rfl)) (Or.inl (W hw 49 rfl)) (by decide) (t := (.array .long)) (t' := (.array .int)) (by decide) (by decide)
theorem sn_94 {a0 : Array Value} {Z : State} (hw : ∀ d ∈ tables_1, d.before a0 Z = true) : Jvm.RoadKit.slotOf Z s_0 "nextPiece" "[I" ≠ Jvm.RoadKit.slotOf Z s_0 "pieceLength" "[I" := slot_ne (Or.inl (W hw 51 rfl)) (Or.inl (W hw 49 rfl)) (by decide) (t := (.array .int)) (t' := (.array .int)) (by decide) (by decide)
theorem sn_95 {a0 : Array Value} {Z : State} (hw : ∀ d ∈ tables_1, d.before a0 Z = true) : Jvm.RoadKit.slotOf Z s_0 "blockCount" "I" ≠ Jvm.RoadKit.slotOf Z s_0 "pieceLength" "[I" := slot_ne (Or.inl (W hw 58 rfl)) (Or.inl (W hw 49 rfl)) (by decide) (t := .int) (t' := (.array .int)) (by decide) (by decide)
theorem d0_73 : decode prog_20_method_1_code 73 = .ok (.aload_n 0, 1) := by decide +kernel
theorem d0_74 : decode prog_20_method_1_code 74 = .ok (.bipush 64, 2) := by decide +kernel
theorem d0_76 : decode prog_20_method_1_code 76 = .ok (.newarray .int, 2) := by decide +kernel
theorem d0_78 : decode prog_20_method_1_code 78 = .ok (.putfield 43, 3) := by decide +kernel
theorem sn_96 {a0 : Array Value} {Z : State} (hw : ∀ d ∈ tables_1, d.before a0 Z = true) : Jvm.RoadKit.slotOf Z s_0 "nextBlock" "[I" ≠ Jvm.RoadKit.slotOf Z s_0 "nextPiece" "[I" := slot_ne (Or.inl (W hw 11 rfl)) (Or.inl (W hw 51 rfl)) (by decide) (t := (.array .int)) (t' := (.array .int)) (by decide) (by decide)
theorem sn_97 {a0 : Array Value} {Z : State} (hw : ∀ d ∈ tables_1, d.before a0 Z = true) : Jvm.RoadKit.slotOf Z s_0 s_5 "[I" ≠ Jvm.RoadKit.slotOf Z s_0 "nextPiece" "[I" := slot_ne (Or.inl (W hw 13 rfl)) (Or.inl (W hw 51 rfl)) (by decide) (t := (.array .int)) (t' := (.array .int)) (by decide) (by decide)
theorem sn_98 {a0 : Array Value} {Z : State} (hw : ∀ d ∈ tables_1, d.before a0 Z = true) : Jvm.RoadKit.slotOf Z s_0 "firstPiece" "[I" ≠ Jvm.RoadKit.slotOf Z s_0 "nextPiece" "[I" := slot_ne (Or.inl (W hw 15 rfl)) (Or.inl (W hw 51 rfl)) (by decide) (t := (.array .int)) (t' := (.array .int)) (by decide) (by decide)
theorem sn_99 {a0 : Array Value} {Z : State} (hw : ∀ d ∈ tables_1, d.before a0 Z = true) : Jvm.RoadKit.slotOf Z s_0 "lastPiece" "[I" ≠ Jvm.RoadKit.slotOf Z s_0 "nextPiece" "[I" := slot_ne (Or.inl (W hw 17 rfl)) (Or.inl (W hw 51 rfl)) (by decide) (t := (.array .int)) (t' := (.array .int)) (by decide) (by decide)
theorem sn_100 {a0 : Array Value} {Z : State} (hw : ∀ d ∈ tables_1, d.before a0 Z = true) : Jvm.RoadKit.slotOf Z s_0 "closed" s_3 ≠ Jvm.RoadKit.slotOf Z s_0 "nextPiece" "[I" := slot_ne (Or.inr (W hw 41 rfl)) (Or.inl (W hw 51 rfl)) (by decide) (t := (.object s_1)) (t' := (.array .int)) (by decide) (by decide)
theorem sn_101 {a0 : Array Value} {Z : State} (hw : ∀ d ∈ tables_1, d.before a0 Z = true) : Jvm.RoadKit.slotOf Z s_0 "firstBlock" "I" ≠ Jvm.RoadKit.slotOf Z s_0 "nextPiece" "[I" := slot_ne (Or.inl (W hw 43 rfl)) (Or.inl (W hw 51 rfl)) (by decide) (t := .int) (t' := (.array .int)) (by decide) (by decide)
theorem sn_102 {a0 : Array Value} {Z : State} (hw : ∀ d ∈ tables_1, d.before a0 Z = true) : Jvm.RoadKit.slotOf Z s_0 "lastBlock" "I" ≠ Jvm.RoadKit.slotOf Z s_0 "nextPiece" "[I" := slot_ne (Or.inl (W hw 45 rfl)) (Or.inl (W hw 51 rfl)) (by decide) (t := .int) (t' := (.array .int)) (by decide) (by decide)
theorem sn_103 {a0 : Array Value} {Z : State} (hw : ∀ d ∈ tables_1, d.before a0 Z = true) : Jvm.RoadKit.slotOf Z s_0 "pieceStart" "[J" ≠ Jvm.RoadKit.slotOf Z s_0 "nextPiece" "[I" := slot_ne (Or.inl (W hw 47 rfl)) (Or.inl (W hw 51 rfl)) (by decide) (t := (.array .long)) (t' := (.array .int)) (by decide) (by decide)
theorem sn_104 {a0 : Array Value} {Z : State} (hw : ∀ d ∈ tables_1, d.before a0 Z = true) : Jvm.RoadKit.slotOf Z s_0 "pieceLength" "[I" ≠ Jvm.RoadKit.slotOf Z s_0 "nextPiece" "[I" := slot_ne (Or.inl (W hw 49 rfl)) (Or.inl (W hw 51 rfl)) (by decide) (t := (.array .int)) (t' := (.array .int)) (by decide) (by decide)
theorem sn_105 {a0 : Array Value} {Z : State} (hw : ∀ d ∈ tables_1, d.before a0 Z = true) : Jvm.RoadKit.slotOf Z s_0 "blockCount" "I" ≠ Jvm.RoadKit.slotOf Z s_0 "nextPiece" "[I" := slot_ne (Or.inl (W hw 58 rfl)) (Or.inl (W hw 51 rfl)) (by decide) (t := .int) (t' := (.array .int)) (by decide) (by decide)
theorem d0_81 : decode prog_20_method_1_code 81 = .ok (.return_, 1) := by decide +kernel
def Qd_1 (Z : State) (w : Nat → Addr) (kk : Nat → ClassId) (iw : Nat → Int32) (vw : Nat → Value) (o1 : Addr) (h0 : Heap) (n0 : Nat) (v : Option Value) (h : Heap) (L : List Loc) : Prop := ∃ (c1 : Addr) (c2 : Addr) (c3 : Addr) (c4 : Addr) (c5 : Addr) (c6 : Addr) (c7 : Addr) (c8 : Addr) (c9 : Addr) (kc1 : ClassId) (kc2 : ClassId) (kc3 : ClassId) (kc4 : ClassId) (kc5 : ClassId) (kc6 : ClassId) (kc7 : ClassId) (kc8 : ClassId), v = none ∧ Fr n0 L ∧ Keep h0 h [o1] ∧ h0.size ≤ c1 ∧ h0.size ≤ c2 ∧ h0.size ≤ c3 ∧ h0.size ≤ c4 ∧ h0.size ≤ c5 ∧ h0.size ≤ c6 ∧ h0.size ≤ c7 ∧ h0.size ≤ c8 ∧ h0.size ≤ c9 ∧ c1 ≠ c2 ∧ c1 ≠ c3 ∧ c1 ≠ c4 ∧ c1 ≠ c5 ∧ c1 ≠ c6 ∧ c1 ≠ c7 ∧ c1 ≠ c8 ∧ c1 ≠ c9 ∧ c2 ≠ c3 ∧ c2 ≠ c4 ∧ c2 ≠ c5 ∧ c2 ≠ c6 ∧ c2 ≠ c7 ∧ c2 ≠ c8 ∧ c2 ≠ c9 ∧ c3 ≠ c4 ∧ c3 ≠ c5 ∧ c3 ≠ c6 ∧ c3 ≠ c7 ∧ c3 ≠ c8 ∧ c3 ≠ c9 ∧ c4 ≠ c5 ∧ c4 ≠ c6 ∧ c4 ≠ c7 ∧ c4 ≠ c8 ∧ c4 ≠ c9 ∧ c5 ≠ c6 ∧ c5 ≠ c7 ∧ c5 ≠ c8 ∧ c5 ≠ c9 ∧ c6 ≠ c7 ∧ c6 ≠ c8 ∧ c6 ≠ c9 ∧ c7 ≠ c8 ∧ c7 ≠ c9 ∧ c8 ≠ c9 ∧ Exa Z h o1 s_0 ∧ Fld Z h o1 s_0 "nextBlock" "[I" (.ref c1) ∧ Fld Z h o1 s_0 s_5 "[I" (.ref c2) ∧ Fld Z h o1 s_0 "firstPiece" "[I" (.ref c3) ∧ Fld Z h o1 s_0 "lastPiece" "[I" (.ref c4) ∧ Fld Z h o1 s_0 "closed" s_3 (.ref c5) ∧ Fld Z h o1 s_0 "firstBlock" "I" (.int (-1 : Int32)) ∧ Fld Z h o1 s_0 "lastBlock" "I" (.int (-1 : Int32)) ∧ Fld Z h o1 s_0 "pieceStart" "[J" (.ref c6) ∧ Fld Z h o1 s_0 "pieceLength" "[I" (.ref c7) ∧ Fld Z h o1 s_0 "nextPiece" "[I" (.ref c8) ∧ Fld Z h o1 s_0 "blockCount" "I" (.int (0 : Int32)) ∧ Arv Z h c1 kc1 .int (64 : Int32) [] (.int (0 : Int32)) ∧ Arv Z h c2 kc2 .int (64 : Int32) [] (.int (0 : Int32)) ∧ Arv Z h c3 kc3 .int (64 : Int32) [] (.int (0 : Int32)) ∧ Arv Z h c4 kc4 .int (64 : Int32) [] (.int (0 : Int32)) ∧ Exa Z h c5 s_1 ∧ Fld Z h c5 s_1 "wordsInUse" "I" (.int (0 : Int32)) ∧ Fld Z h c5 s_1 s_6 "Z" (.int (0 : Int32)) ∧ Fld Z h c5 s_1 "words" "[J" (.ref c9) ∧ Arv Z h c6 kc5 .long (64 : Int32) [] (.long (0 : Int64)) ∧ Arv Z h c7 kc6 .int (64 : Int32) [] (.int (0 : Int32)) ∧ Arv Z h c8 kc7 .int (64 : Int32) [] (.int (0 : Int32)) ∧ Arv Z h c9 kc8 .long (1 : Int32) [] (.long (0 : Int64))
theorem pn_1 : plainName s_0 = true := by first | (simp [plainName, overriddenIn]; done) | decide +kernel
set_option maxRecDepth 65536 in
set_option maxHeartbeats 40000000 in
theorem rm_4 (l : Launch) (Z : State) (a0 : Array Value) (hw : ∀ d ∈ tables_1, d.before a0 Z = true) (w : Nat → Addr) (kk : Nat → ClassId) (iw : Nat → Int32) (vw : Nat → Value) (hN : Wd Z w kk iw vw) (ws : List Jvm.Cond) (o1 : Addr) (h0 : Heap) (O0 : Old Z Z.heap.size h0) (gn_o1 : Z.heap.size ≤ o1) (lt_o1 : o1 < h0.size) (E_o1 : Exa Z h0 o1 s_0) (F_o1_nextBlock : Fld Z h0 o1 s_0 "nextBlock" "[I" .null) (F_o1_previousBlock : Fld Z h0 o1 s_0 s_5 "[I" .null) (F_o1_firstPiece : Fld Z h0 o1 s_0 "firstPiece" "[I" .null) (F_o1_lastPiece : Fld Z h0 o1 s_0 "lastPiece" "[I" .null) (F_o1_closed : Fld Z h0 o1 s_0 "closed" s_3 .null) (F_o1_firstBlock : Fld Z h0 o1 s_0 "firstBlock" "I" (.int (0 : Int32))) (F_o1_lastBlock : Fld Z h0 o1 s_0 "lastBlock" "I" (.int (0 : Int32))) (F_o1_pieceStart : Fld Z h0 o1 s_0 "pieceStart" "[J" .null) (F_o1_pieceLength : Fld Z h0 o1 s_0 "pieceLength" "[I" .null) (F_o1_nextPiece : Fld Z h0 o1 s_0 "nextPiece" "[I" .null) (F_o1_blockCount : Fld Z h0 o1 s_0 "blockCount" "I" (.int (0 : Int32))) :
    Met l Z (⟨s_0, "<init>", "()V"⟩ : MethodName) (Jvm.Cond.code (⟨s_0, "<init>", "()V"⟩ : MethodName) prog_20_method_1_code 1 none) ws (Rm 3 9 452 40) #[(.ref o1)] h0 (Qd_1 Z w kk iw vw o1 h0 Z.heap.size) := by
  have hN' := hN
  have hL0 : Sta Z Z.heap s_1 s_4 "Z" (.int (1 : Int32)) := hN'
  refine own_body (plainFor_of_name pn_1) hisR ?_
  intro p e s m below meth c s₁ hx hby hml hown hnm hret X0 hZ e0
  have N0 := Fr.nil Z.heap.size
  have K0 : Keep h0 h0 [o1] := Keep.refl _ _
  obtain ⟨T1, X1, e1, st1⟩ := initO X0 hx hZ hown (W hw 6 rfl) (W hw 7 rfl) (W hw 8 rfl) e0 (g := (mkF m 1 #[.val (.ref o1)] [(.ref o1)])) rfl (by rw [hml]; rfl) rfl (hb hby d0_1) (by decide) (W := 0) (by show 2 * 0 + _ ≤ _; exact Nat.le_of_eq rfl) (by decide)
  obtain ⟨T2, h2, k2, X2, e2, E2, A2, st2⟩ := newP X1 hx hZ (W hw 9 rfl) e1 (g := (mkF m 7 #[.val (.ref o1)] [(.int (64 : Int32)), (.ref o1)])) rfl (hb hby d0_7) rfl (by decide) (cap := 64) (by decide) (by decide) (by decide) (by decide)
  obtain ⟨b2, g2⟩ : ∃ z, z = h0.size := ⟨_, rfl⟩
  rw [← g2] at A2 st2
  have gn_b2 : Z.heap.size ≤ b2 := Nat.le_trans O0.2.1 (Nat.le_of_eq g2.symm)
  have sz_b2 : h0.size ≤ b2 := Nat.le_trans K0.1 (Nat.le_of_eq g2.symm)
  have ne_o1_b2 : o1 ≠ b2 := Nat.ne_of_lt (Nat.lt_of_lt_of_le E_o1.lt (Nat.le_of_eq g2.symm))
  have E_o1_v2 := E_o1.ext E2
  have F_o1_nextBlock_v2 := F_o1_nextBlock.ext E2
  have F_o1_previousBlock_v2 := F_o1_previousBlock.ext E2
  have F_o1_firstPiece_v2 := F_o1_firstPiece.ext E2
  have F_o1_lastPiece_v2 := F_o1_lastPiece.ext E2
  have F_o1_closed_v2 := F_o1_closed.ext E2
  have F_o1_firstBlock_v2 := F_o1_firstBlock.ext E2
  have F_o1_lastBlock_v2 := F_o1_lastBlock.ext E2
  have F_o1_pieceStart_v2 := F_o1_pieceStart.ext E2
  have F_o1_pieceLength_v2 := F_o1_pieceLength.ext E2
  have F_o1_nextPiece_v2 := F_o1_nextPiece.ext E2
  have F_o1_blockCount_v2 := F_o1_blockCount.ext E2
  have O2 := O0.ext E2
  have K2 := K0.ext E2
  have V_b2_v2 : Arv Z h2 b2 k2 .int (64 : Int32) [] (.int (0 : Int32)) := Arv.new A2 (by decide)
  obtain ⟨T3, h3, X3, e3, W3, st3⟩ := putF X2 hx hZ hown (host := "") (Or.inl (W hw 10 rfl)) Via.refl e2 F_o1_nextBlock_v2 E_o1_v2 (Or.inl (W hw 11 rfl)) (W hw 1 rfl) (ty := (.array .int)) (by decide) rfl rfl (g := (mkF m 9 #[.val (.ref o1)] [(.ref b2), (.ref o1)])) rfl rfl (hb hby d0_9)
  have F_o1_nextBlock_v3 := F_o1_nextBlock_v2.same W3
  have N3 := Fr.snoc X3 N0 gn_o1
  have E_o1_v3 := E_o1_v2.wr W3
  have F_o1_previousBlock_v3 := F_o1_previousBlock_v2.other W3 (Or.inr (sn_0 hw))
  have F_o1_firstPiece_v3 := F_o1_firstPiece_v2.other W3 (Or.inr (sn_1 hw))
  have F_o1_lastPiece_v3 := F_o1_lastPiece_v2.other W3 (Or.inr (sn_2 hw))
  have F_o1_closed_v3 := F_o1_closed_v2.other W3 (Or.inr (sn_3 hw))
  have F_o1_firstBlock_v3 := F_o1_firstBlock_v2.other W3 (Or.inr (sn_4 hw))
  have F_o1_lastBlock_v3 := F_o1_lastBlock_v2.other W3 (Or.inr (sn_5 hw))
  have F_o1_pieceStart_v3 := F_o1_pieceStart_v2.other W3 (Or.inr (sn_6 hw))
  have F_o1_pieceLength_v3 := F_o1_pieceLength_v2.other W3 (Or.inr (sn_7 hw))
  have F_o1_nextPiece_v3 := F_o1_nextPiece_v2.other W3 (Or.inr (sn_8 hw))
  have F_o1_blockCount_v3 := F_o1_blockCount_v2.other W3 (Or.inr (sn_9 hw))
  have V_b2_v3 := V_b2_v2.other W3 (Ne.symm ne_o1_b2)
  have O3 := O2.wr W3 gn_o1
  have K3 : Keep h0 h3 [o1] := K2.wr W3 (Or.inl (List.mem_of_getElem? (i := 0) rfl))
  obtain ⟨T4, h4, k4, X4, e4, E4, A4, st4⟩ := newP X3 hx hZ (W hw 9 rfl) e3 (g := (mkF m 15 #[.val (.ref o1)] [(.int (64 : Int32)), (.ref o1)])) rfl (hb hby d0_15) rfl (by decide) (cap := 64) (by decide) (by decide) (by decide) (by decide)
  obtain ⟨b4, g4⟩ : ∃ z, z = h3.size := ⟨_, rfl⟩
  rw [← g4] at A4 st4
  have gn_b4 : Z.heap.size ≤ b4 := Nat.le_trans O3.2.1 (Nat.le_of_eq g4.symm)
  have sz_b4 : h0.size ≤ b4 := Nat.le_trans K3.1 (Nat.le_of_eq g4.symm)
  have ne_o1_b4 : o1 ≠ b4 := Nat.ne_of_lt (Nat.lt_of_lt_of_le E_o1_v3.lt (Nat.le_of_eq g4.symm))
  have ne_b2_b4 : b2 ≠ b4 := Nat.ne_of_lt (Nat.lt_of_lt_of_le V_b2_v3.lt (Nat.le_of_eq g4.symm))
  have E_o1_v4 := E_o1_v3.ext E4
  have F_o1_nextBlock_v4 := F_o1_nextBlock_v3.ext E4
  have F_o1_previousBlock_v4 := F_o1_previousBlock_v3.ext E4
  have F_o1_firstPiece_v4 := F_o1_firstPiece_v3.ext E4
  have F_o1_lastPiece_v4 := F_o1_lastPiece_v3.ext E4
  have F_o1_closed_v4 := F_o1_closed_v3.ext E4
  have F_o1_firstBlock_v4 := F_o1_firstBlock_v3.ext E4
  have F_o1_lastBlock_v4 := F_o1_lastBlock_v3.ext E4
  have F_o1_pieceStart_v4 := F_o1_pieceStart_v3.ext E4
  have F_o1_pieceLength_v4 := F_o1_pieceLength_v3.ext E4
  have F_o1_nextPiece_v4 := F_o1_nextPiece_v3.ext E4
  have F_o1_blockCount_v4 := F_o1_blockCount_v3.ext E4
  have V_b2_v4 := V_b2_v3.ext E4
  have O4 := O3.ext E4
  have K4 := K3.ext E4
  have V_b4_v4 : Arv Z h4 b4 k4 .int (64 : Int32) [] (.int (0 : Int32)) := Arv.new A4 (by decide)
  obtain ⟨T5, h5, X5, e5, W5, st5⟩ := putF X4 hx hZ hown (host := "") (Or.inl (W hw 12 rfl)) Via.refl e4 F_o1_previousBlock_v4 E_o1_v4 (Or.inl (W hw 13 rfl)) (W hw 1 rfl) (ty := (.array .int)) (by decide) rfl rfl (g := (mkF m 17 #[.val (.ref o1)] [(.ref b4), (.ref o1)])) rfl rfl (hb hby d0_17)
  have F_o1_previousBlock_v5 := F_o1_previousBlock_v4.same W5
  have N5 := Fr.snoc X5 N3 gn_o1
  have E_o1_v5 := E_o1_v4.wr W5
  have F_o1_nextBlock_v5 := F_o1_nextBlock_v4.other W5 (Or.inr (sn_10 hw))
  have F_o1_firstPiece_v5 := F_o1_firstPiece_v4.other W5 (Or.inr (sn_11 hw))
  have F_o1_lastPiece_v5 := F_o1_lastPiece_v4.other W5 (Or.inr (sn_12 hw))
  have F_o1_closed_v5 := F_o1_closed_v4.other W5 (Or.inr (sn_13 hw))
  have F_o1_firstBlock_v5 := F_o1_firstBlock_v4.other W5 (Or.inr (sn_14 hw))
  have F_o1_lastBlock_v5 := F_o1_lastBlock_v4.other W5 (Or.inr (sn_15 hw))
  have F_o1_pieceStart_v5 := F_o1_pieceStart_v4.other W5 (Or.inr (sn_16 hw))
  have F_o1_pieceLength_v5 := F_o1_pieceLength_v4.other W5 (Or.inr (sn_17 hw))
  have F_o1_nextPiece_v5 := F_o1_nextPiece_v4.other W5 (Or.inr (sn_18 hw))
  have F_o1_blockCount_v5 := F_o1_blockCount_v4.other W5 (Or.inr (sn_19 hw))
  have V_b2_v5 := V_b2_v4.other W5 (Ne.symm ne_o1_b2)
  have V_b4_v5 := V_b4_v4.other W5 (Ne.symm ne_o1_b4)
  have O5 := O4.wr W5 gn_o1
  have K5 : Keep h0 h5 [o1] := K4.wr W5 (Or.inl (List.mem_of_getElem? (i := 0) rfl))
  obtain ⟨T6, h6, k6, X6, e6, E6, A6, st6⟩ := newP X5 hx hZ (W hw 9 rfl) e5 (g := (mkF m 23 #[.val (.ref o1)] [(.int (64 : Int32)), (.ref o1)])) rfl (hb hby d0_23) rfl (by decide) (cap := 64) (by decide) (by decide) (by decide) (by decide)
  obtain ⟨b6, g6⟩ : ∃ z, z = h5.size := ⟨_, rfl⟩
  rw [← g6] at A6 st6
  have gn_b6 : Z.heap.size ≤ b6 := Nat.le_trans O5.2.1 (Nat.le_of_eq g6.symm)
  have sz_b6 : h0.size ≤ b6 := Nat.le_trans K5.1 (Nat.le_of_eq g6.symm)
  have ne_o1_b6 : o1 ≠ b6 := Nat.ne_of_lt (Nat.lt_of_lt_of_le E_o1_v5.lt (Nat.le_of_eq g6.symm))
  have ne_b2_b6 : b2 ≠ b6 := Nat.ne_of_lt (Nat.lt_of_lt_of_le V_b2_v5.lt (Nat.le_of_eq g6.symm))
  have ne_b4_b6 : b4 ≠ b6 := Nat.ne_of_lt (Nat.lt_of_lt_of_le V_b4_v5.lt (Nat.le_of_eq g6.symm))
  have E_o1_v6 := E_o1_v5.ext E6
  have F_o1_nextBlock_v6 := F_o1_nextBlock_v5.ext E6
  have F_o1_previousBlock_v6 := F_o1_previousBlock_v5.ext E6
  have F_o1_firstPiece_v6 := F_o1_firstPiece_v5.ext E6
  have F_o1_lastPiece_v6 := F_o1_lastPiece_v5.ext E6
  have F_o1_closed_v6 := F_o1_closed_v5.ext E6
  have F_o1_firstBlock_v6 := F_o1_firstBlock_v5.ext E6
  have F_o1_lastBlock_v6 := F_o1_lastBlock_v5.ext E6
  have F_o1_pieceStart_v6 := F_o1_pieceStart_v5.ext E6
  have F_o1_pieceLength_v6 := F_o1_pieceLength_v5.ext E6
  have F_o1_nextPiece_v6 := F_o1_nextPiece_v5.ext E6
  have F_o1_blockCount_v6 := F_o1_blockCount_v5.ext E6
  have V_b2_v6 := V_b2_v5.ext E6
  have V_b4_v6 := V_b4_v5.ext E6
  have O6 := O5.ext E6
  have K6 := K5.ext E6
  have V_b6_v6 : Arv Z h6 b6 k6 .int (64 : Int32) [] (.int (0 : Int32)) := Arv.new A6 (by decide)
  obtain ⟨T7, h7, X7, e7, W7, st7⟩ := putF X6 hx hZ hown (host := "") (Or.inl (W hw 14 rfl)) Via.refl e6 F_o1_firstPiece_v6 E_o1_v6 (Or.inl (W hw 15 rfl)) (W hw 1 rfl) (ty := (.array .int)) (by decide) rfl rfl (g := (mkF m 25 #[.val (.ref o1)] [(.ref b6), (.ref o1)])) rfl rfl (hb hby d0_25)
  have F_o1_firstPiece_v7 := F_o1_firstPiece_v6.same W7
  have N7 := Fr.snoc X7 N5 gn_o1
  have E_o1_v7 := E_o1_v6.wr W7
  have F_o1_nextBlock_v7 := F_o1_nextBlock_v6.other W7 (Or.inr (sn_20 hw))
  have F_o1_previousBlock_v7 := F_o1_previousBlock_v6.other W7 (Or.inr (sn_21 hw))
  have F_o1_lastPiece_v7 := F_o1_lastPiece_v6.other W7 (Or.inr (sn_22 hw))
  have F_o1_closed_v7 := F_o1_closed_v6.other W7 (Or.inr (sn_23 hw))
  have F_o1_firstBlock_v7 := F_o1_firstBlock_v6.other W7 (Or.inr (sn_24 hw))
  have F_o1_lastBlock_v7 := F_o1_lastBlock_v6.other W7 (Or.inr (sn_25 hw))
  have F_o1_pieceStart_v7 := F_o1_pieceStart_v6.other W7 (Or.inr (sn_26 hw))
  have F_o1_pieceLength_v7 := F_o1_pieceLength_v6.other W7 (Or.inr (sn_27 hw))
  have F_o1_nextPiece_v7 := F_o1_nextPiece_v6.other W7 (Or.inr (sn_28 hw))
  have F_o1_blockCount_v7 := F_o1_blockCount_v6.other W7 (Or.inr (sn_29 hw))
  have V_b2_v7 := V_b2_v6.other W7 (Ne.symm ne_o1_b2)
  have V_b4_v7 := V_b4_v6.other W7 (Ne.symm ne_o1_b4)
  have V_b6_v7 := V_b6_v6.other W7 (Ne.symm ne_o1_b6)
  have O7 := O6.wr W7 gn_o1
  have K7 : Keep h0 h7 [o1] := K6.wr W7 (Or.inl (List.mem_of_getElem? (i := 0) rfl))
  obtain ⟨T8, h8, k8, X8, e8, E8, A8, st8⟩ := newP X7 hx hZ (W hw 9 rfl) e7 (g := (mkF m 31 #[.val (.ref o1)] [(.int (64 : Int32)), (.ref o1)])) rfl (hb hby d0_31) rfl (by decide) (cap := 64) (by decide) (by decide) (by decide) (by decide)
  obtain ⟨b8, g8⟩ : ∃ z, z = h7.size := ⟨_, rfl⟩
  rw [← g8] at A8 st8
  have gn_b8 : Z.heap.size ≤ b8 := Nat.le_trans O7.2.1 (Nat.le_of_eq g8.symm)
  have sz_b8 : h0.size ≤ b8 := Nat.le_trans K7.1 (Nat.le_of_eq g8.symm)
  have ne_o1_b8 : o1 ≠ b8 := Nat.ne_of_lt (Nat.lt_of_lt_of_le E_o1_v7.lt (Nat.le_of_eq g8.symm))
  have ne_b2_b8 : b2 ≠ b8 := Nat.ne_of_lt (Nat.lt_of_lt_of_le V_b2_v7.lt (Nat.le_of_eq g8.symm))
  have ne_b6_b8 : b6 ≠ b8 := Nat.ne_of_lt (Nat.lt_of_lt_of_le V_b6_v7.lt (Nat.le_of_eq g8.symm))
  have ne_b4_b8 : b4 ≠ b8 := Nat.ne_of_lt (Nat.lt_of_lt_of_le V_b4_v7.lt (Nat.le_of_eq g8.symm))
  have E_o1_v8 := E_o1_v7.ext E8
  have F_o1_nextBlock_v8 := F_o1_nextBlock_v7.ext E8
  have F_o1_previousBlock_v8 := F_o1_previousBlock_v7.ext E8
  have F_o1_firstPiece_v8 := F_o1_firstPiece_v7.ext E8
  have F_o1_lastPiece_v8 := F_o1_lastPiece_v7.ext E8
  have F_o1_closed_v8 := F_o1_closed_v7.ext E8
  have F_o1_firstBlock_v8 := F_o1_firstBlock_v7.ext E8
  have F_o1_lastBlock_v8 := F_o1_lastBlock_v7.ext E8
  have F_o1_pieceStart_v8 := F_o1_pieceStart_v7.ext E8
  have F_o1_pieceLength_v8 := F_o1_pieceLength_v7.ext E8
  have F_o1_nextPiece_v8 := F_o1_nextPiece_v7.ext E8
  have F_o1_blockCount_v8 := F_o1_blockCount_v7.ext E8
  have V_b2_v8 := V_b2_v7.ext E8
  have V_b4_v8 := V_b4_v7.ext E8
  have V_b6_v8 := V_b6_v7.ext E8
  have O8 := O7.ext E8
  have K8 := K7.ext E8
  have V_b8_v8 : Arv Z h8 b8 k8 .int (64 : Int32) [] (.int (0 : Int32)) := Arv.new A8 (by decide)
  obtain ⟨T9, h9, X9, e9, W9, st9⟩ := putF X8 hx hZ hown (host := "") (Or.inl (W hw 16 rfl)) Via.refl e8 F_o1_lastPiece_v8 E_o1_v8 (Or.inl (W hw 17 rfl)) (W hw 1 rfl) (ty := (.array .int)) (by decide) rfl rfl (g := (mkF m 33 #[.val (.ref o1)] [(.ref b8), (.ref o1)])) rfl rfl (hb hby d0_33)
  have F_o1_lastPiece_v9 := F_o1_lastPiece_v8.same W9
  have N9 := Fr.snoc X9 N7 gn_o1
  have E_o1_v9 := E_o1_v8.wr W9
  have F_o1_nextBlock_v9 := F_o1_nextBlock_v8.other W9 (Or.inr (sn_30 hw))
  have F_o1_previousBlock_v9 := F_o1_previousBlock_v8.other W9 (Or.inr (sn_31 hw))
  have F_o1_firstPiece_v9 := F_o1_firstPiece_v8.other W9 (Or.inr (sn_32 hw))
  have F_o1_closed_v9 := F_o1_closed_v8.other W9 (Or.inr (sn_33 hw))
  have F_o1_firstBlock_v9 := F_o1_firstBlock_v8.other W9 (Or.inr (sn_34 hw))
  have F_o1_lastBlock_v9 := F_o1_lastBlock_v8.other W9 (Or.inr (sn_35 hw))
  have F_o1_pieceStart_v9 := F_o1_pieceStart_v8.other W9 (Or.inr (sn_36 hw))
  have F_o1_pieceLength_v9 := F_o1_pieceLength_v8.other W9 (Or.inr (sn_37 hw))
  have F_o1_nextPiece_v9 := F_o1_nextPiece_v8.other W9 (Or.inr (sn_38 hw))
  have F_o1_blockCount_v9 := F_o1_blockCount_v8.other W9 (Or.inr (sn_39 hw))
  have V_b2_v9 := V_b2_v8.other W9 (Ne.symm ne_o1_b2)
  have V_b4_v9 := V_b4_v8.other W9 (Ne.symm ne_o1_b4)
  have V_b6_v9 := V_b6_v8.other W9 (Ne.symm ne_o1_b6)
  have V_b8_v9 := V_b8_v8.other W9 (Ne.symm ne_o1_b8)
  have O9 := O8.wr W9 gn_o1
  have K9 : Keep h0 h9 [o1] := K8.wr W9 (Or.inl (List.mem_of_getElem? (i := 0) rfl))
  obtain ⟨T10, h10, X10, e10, E10, A10, D10, -, st10⟩ := newO X9 hx hZ hown (W hw 18 rfl) (W hw 19 rfl) (W hw 20 rfl) e9 (g := (mkF m 37 #[.val (.ref o1)] [(.ref o1)])) rfl (hb hby d0_37) (by decide) (by decide)
  obtain ⟨b10, g10⟩ : ∃ z, z = h9.size := ⟨_, rfl⟩
  rw [← g10] at A10 st10 D10
  have gn_b10 : Z.heap.size ≤ b10 := Nat.le_trans O9.2.1 (Nat.le_of_eq g10.symm)
  have sz_b10 : h0.size ≤ b10 := Nat.le_trans K9.1 (Nat.le_of_eq g10.symm)
  have ne_o1_b10 : o1 ≠ b10 := Nat.ne_of_lt (Nat.lt_of_lt_of_le E_o1_v9.lt (Nat.le_of_eq g10.symm))
  have ne_b4_b10 : b4 ≠ b10 := Nat.ne_of_lt (Nat.lt_of_lt_of_le V_b4_v9.lt (Nat.le_of_eq g10.symm))
  have ne_b6_b10 : b6 ≠ b10 := Nat.ne_of_lt (Nat.lt_of_lt_of_le V_b6_v9.lt (Nat.le_of_eq g10.symm))
  have ne_b8_b10 : b8 ≠ b10 := Nat.ne_of_lt (Nat.lt_of_lt_of_le V_b8_v9.lt (Nat.le_of_eq g10.symm))
  have ne_b2_b10 : b2 ≠ b10 := Nat.ne_of_lt (Nat.lt_of_lt_of_le V_b2_v9.lt (Nat.le_of_eq g10.symm))
  have E_o1_v10 := E_o1_v9.ext E10
  have F_o1_nextBlock_v10 := F_o1_nextBlock_v9.ext E10
  have F_o1_previousBlock_v10 := F_o1_previousBlock_v9.ext E10
  have F_o1_firstPiece_v10 := F_o1_firstPiece_v9.ext E10
  have F_o1_lastPiece_v10 := F_o1_lastPiece_v9.ext E10
  have F_o1_closed_v10 := F_o1_closed_v9.ext E10
  have F_o1_firstBlock_v10 := F_o1_firstBlock_v9.ext E10
  have F_o1_lastBlock_v10 := F_o1_lastBlock_v9.ext E10
  have F_o1_pieceStart_v10 := F_o1_pieceStart_v9.ext E10
  have F_o1_pieceLength_v10 := F_o1_pieceLength_v9.ext E10
  have F_o1_nextPiece_v10 := F_o1_nextPiece_v9.ext E10
  have F_o1_blockCount_v10 := F_o1_blockCount_v9.ext E10
  have V_b2_v10 := V_b2_v9.ext E10
  have V_b4_v10 := V_b4_v9.ext E10
  have V_b6_v10 := V_b6_v9.ext E10
  have V_b8_v10 := V_b8_v9.ext E10
  have O10 := O9.ext E10
  have K10 := K9.ext E10
  have E_b10_v10 := A10
  have F_b10_wordsInUse_v10 : Fld Z h10 b10 s_1 "wordsInUse" "I" (.int (0 : Int32)) := D10 (Or.inl (W hw 26 rfl)) (ty := .int) (by decide)
  have F_b10_sizeIsSticky_v10 : Fld Z h10 b10 s_1 s_6 "Z" (.int (0 : Int32)) := D10 (Or.inl (W hw 28 rfl)) (ty := .boolean) (by decide)
  have F_b10_words_v10 : Fld Z h10 b10 s_1 "words" "[J" .null := D10 (Or.inl (W hw 39 rfl)) (ty := (.array .long)) (by decide)
  obtain ⟨_, _, ⟨T11, L11, k11, n11⟩, -, X11, ⟨Lc11, hQ11, l11, y11, z11⟩, st11⟩ := X10.specialBack hx (y := (⟨s_1, "<init>", "()V"⟩ : MethodName)) rfl hown (mvT hZ (W hw 21 rfl)) (mvT hZ (W hw 22 rfl)) (mvT hZ (W hw 23 rfl)) (by decide) (backOf (W := 2) (rm_3 l Z a0 hw w kk iw vw hN [] b10 h10 O10 gn_b10 E_b10_v10.lt E_b10_v10 F_b10_wordsInUse_v10 F_b10_sizeIsSticky_v10 F_b10_words_v10) hZ (W hw 23 rfl) (W hw 20 rfl) (by decide) (by decide)) (g := (mkF m 41 #[.val (.ref o1)] [(.ref b10), (.ref b10), (.ref o1)])) rfl (by rw [hml]; rfl) (Steps.refl _) (a := b10) (argsL := []) (rest := [(.ref b10), (.ref o1)]) (lenOf pd_2 rfl) rfl (by show 2 * 0 + _ ≤ _; exact Nat.le_of_eq rfl) (hb hby d0_41) (fun _ _ => ⟨rfl, e10, (by decide : 5 + 1 ≤ _), (by decide : 259 + 1 ≤ _)⟩)
  dsimp only [Pt.U, Pt.locs, Pt.cells, Pt.slots] at X11 l11 y11 z11 st11 hQ11
  subst l11 y11 z11
  obtain ⟨b11_0, kb11_0, rfl, N11q, Kq11, tk11_0, tk11_1, tk11_2, tk11_3, tk11_4, tk11_5⟩ := hQ11
  have N11 := Fr.app N9 N11q
  have gn_b11_0 : Z.heap.size ≤ b11_0 := Nat.le_trans O10.2.1 tk11_0
  have sz_b11_0 : h0.size ≤ b11_0 := Nat.le_trans K10.1 tk11_0
  have ne_b6_b11_0 : b6 ≠ b11_0 := Nat.ne_of_lt (Nat.lt_of_lt_of_le V_b6_v10.lt tk11_0)
  have ne_b8_b11_0 : b8 ≠ b11_0 := Nat.ne_of_lt (Nat.lt_of_lt_of_le V_b8_v10.lt tk11_0)
  have ne_b2_b11_0 : b2 ≠ b11_0 := Nat.ne_of_lt (Nat.lt_of_lt_of_le V_b2_v10.lt tk11_0)
  have ne_b10_b11_0 : b10 ≠ b11_0 := Nat.ne_of_lt (Nat.lt_of_lt_of_le E_b10_v10.lt tk11_0)
  have ne_o1_b11_0 : o1 ≠ b11_0 := Nat.ne_of_lt (Nat.lt_of_lt_of_le E_o1_v10.lt tk11_0)
  have ne_b4_b11_0 : b4 ≠ b11_0 := Nat.ne_of_lt (Nat.lt_of_lt_of_le V_b4_v10.lt tk11_0)
  have E_o1_v11 := E_o1_v10.keep Kq11
  have F_o1_nextBlock_v11 := F_o1_nextBlock_v10.keep Kq11 (ninS ne_o1_b10 nin0)
  have F_o1_previousBlock_v11 := F_o1_previousBlock_v10.keep Kq11 (ninS ne_o1_b10 nin0)
  have F_o1_firstPiece_v11 := F_o1_firstPiece_v10.keep Kq11 (ninS ne_o1_b10 nin0)
  have F_o1_lastPiece_v11 := F_o1_lastPiece_v10.keep Kq11 (ninS ne_o1_b10 nin0)
  have F_o1_closed_v11 := F_o1_closed_v10.keep Kq11 (ninS ne_o1_b10 nin0)
  have F_o1_firstBlock_v11 := F_o1_firstBlock_v10.keep Kq11 (ninS ne_o1_b10 nin0)
  have F_o1_lastBlock_v11 := F_o1_lastBlock_v10.keep Kq11 (ninS ne_o1_b10 nin0)
  have F_o1_pieceStart_v11 := F_o1_pieceStart_v10.keep Kq11 (ninS ne_o1_b10 nin0)
  have F_o1_pieceLength_v11 := F_o1_pieceLength_v10.keep Kq11 (ninS ne_o1_b10 nin0)
  have F_o1_nextPiece_v11 := F_o1_nextPiece_v10.keep Kq11 (ninS ne_o1_b10 nin0)
  have F_o1_blockCount_v11 := F_o1_blockCount_v10.keep Kq11 (ninS ne_o1_b10 nin0)
  have V_b2_v11 := V_b2_v10.keep Kq11 (ninS ne_b2_b10 nin0)
  have V_b4_v11 := V_b4_v10.keep Kq11 (ninS ne_b4_b10 nin0)
  have V_b6_v11 := V_b6_v10.keep Kq11 (ninS ne_b6_b10 nin0)
  have V_b8_v11 := V_b8_v10.keep Kq11 (ninS ne_b8_b10 nin0)
  have E_b10_v11 := E_b10_v10.keep Kq11
  have O11 := O10.keep Kq11 (allS gn_b10 all0)
  have K11 : Keep h0 T11.heap [o1] := K10.trans Kq11 (allS (Or.inr sz_b10) all0)
  obtain ⟨T12, h12, X12, e12, W12, st12⟩ := putF X11 hx hZ hown (host := "") (Or.inl (W hw 40 rfl)) Via.refl rfl F_o1_closed_v11 E_o1_v11 (Or.inr ⟨(W hw 41 rfl), rfl, hnm⟩) (W hw 1 rfl) (ty := (.object s_1)) (by decide) rfl rfl (g := (mkF m 44 #[.val (.ref o1)] [(.ref b10), (.ref o1)])) rfl rfl (hb hby d0_44)
  have F_o1_closed_v12 := F_o1_closed_v11.same W12
  have N12 := Fr.snoc X12 N11 gn_o1
  have E_o1_v12 := E_o1_v11.wr W12
  have F_o1_nextBlock_v12 := F_o1_nextBlock_v11.other W12 (Or.inr (sn_46 hw))
  have F_o1_previousBlock_v12 := F_o1_previousBlock_v11.other W12 (Or.inr (sn_47 hw))
  have F_o1_firstPiece_v12 := F_o1_firstPiece_v11.other W12 (Or.inr (sn_48 hw))
  have F_o1_lastPiece_v12 := F_o1_lastPiece_v11.other W12 (Or.inr (sn_49 hw))
  have F_o1_firstBlock_v12 := F_o1_firstBlock_v11.other W12 (Or.inr (sn_50 hw))
  have F_o1_lastBlock_v12 := F_o1_lastBlock_v11.other W12 (Or.inr (sn_51 hw))
  have F_o1_pieceStart_v12 := F_o1_pieceStart_v11.other W12 (Or.inr (sn_52 hw))
  have F_o1_pieceLength_v12 := F_o1_pieceLength_v11.other W12 (Or.inr (sn_53 hw))
  have F_o1_nextPiece_v12 := F_o1_nextPiece_v11.other W12 (Or.inr (sn_54 hw))
  have F_o1_blockCount_v12 := F_o1_blockCount_v11.other W12 (Or.inr (sn_55 hw))
  have V_b2_v12 := V_b2_v11.other W12 (Ne.symm ne_o1_b2)
  have V_b4_v12 := V_b4_v11.other W12 (Ne.symm ne_o1_b4)
  have V_b6_v12 := V_b6_v11.other W12 (Ne.symm ne_o1_b6)
  have V_b8_v12 := V_b8_v11.other W12 (Ne.symm ne_o1_b8)
  have tk11_1_v12 := tk11_1.wr W12
  have tk11_2_v12 := tk11_2.other W12 (Or.inl (Ne.symm ne_o1_b10))
  have tk11_3_v12 := tk11_3.other W12 (Or.inl (Ne.symm ne_o1_b10))
  have tk11_4_v12 := tk11_4.other W12 (Or.inl (Ne.symm ne_o1_b10))
  have tk11_5_v12 := tk11_5.other W12 (Ne.symm ne_o1_b11_0)
  have O12 := O11.wr W12 gn_o1
  have K12 : Keep h0 h12 [o1] := K11.wr W12 (Or.inl (List.mem_of_getElem? (i := 0) rfl))
  obtain ⟨T13, h13, X13, e13, W13, st13⟩ := putF X12 hx hZ hown (host := "") (Or.inl (W hw 42 rfl)) Via.refl e12 F_o1_firstBlock_v12 E_o1_v12 (Or.inl (W hw 43 rfl)) (W hw 1 rfl) (ty := .int) (by decide) rfl rfl (g := (mkF m 49 #[.val (.ref o1)] [(.int (-1 : Int32)), (.ref o1)])) rfl rfl (hb hby d0_49)
  have F_o1_firstBlock_v13 := F_o1_firstBlock_v12.same W13
  have N13 := Fr.snoc X13 N12 gn_o1
  have E_o1_v13 := E_o1_v12.wr W13
  have F_o1_nextBlock_v13 := F_o1_nextBlock_v12.other W13 (Or.inr (sn_56 hw))
  have F_o1_previousBlock_v13 := F_o1_previousBlock_v12.other W13 (Or.inr (sn_57 hw))
  have F_o1_firstPiece_v13 := F_o1_firstPiece_v12.other W13 (Or.inr (sn_58 hw))
  have F_o1_lastPiece_v13 := F_o1_lastPiece_v12.other W13 (Or.inr (sn_59 hw))
  have F_o1_closed_v13 := F_o1_closed_v12.other W13 (Or.inr (sn_60 hw))
  have F_o1_lastBlock_v13 := F_o1_lastBlock_v12.other W13 (Or.inr (sn_61 hw))
  have F_o1_pieceStart_v13 := F_o1_pieceStart_v12.other W13 (Or.inr (sn_62 hw))
  have F_o1_pieceLength_v13 := F_o1_pieceLength_v12.other W13 (Or.inr (sn_63 hw))
  have F_o1_nextPiece_v13 := F_o1_nextPiece_v12.other W13 (Or.inr (sn_64 hw))
  have F_o1_blockCount_v13 := F_o1_blockCount_v12.other W13 (Or.inr (sn_65 hw))
  have V_b2_v13 := V_b2_v12.other W13 (Ne.symm ne_o1_b2)
  have V_b4_v13 := V_b4_v12.other W13 (Ne.symm ne_o1_b4)
  have V_b6_v13 := V_b6_v12.other W13 (Ne.symm ne_o1_b6)
  have V_b8_v13 := V_b8_v12.other W13 (Ne.symm ne_o1_b8)
  have tk11_1_v13 := tk11_1_v12.wr W13
  have tk11_2_v13 := tk11_2_v12.other W13 (Or.inl (Ne.symm ne_o1_b10))
  have tk11_3_v13 := tk11_3_v12.other W13 (Or.inl (Ne.symm ne_o1_b10))
  have tk11_4_v13 := tk11_4_v12.other W13 (Or.inl (Ne.symm ne_o1_b10))
  have tk11_5_v13 := tk11_5_v12.other W13 (Ne.symm ne_o1_b11_0)
  have O13 := O12.wr W13 gn_o1
  have K13 : Keep h0 h13 [o1] := K12.wr W13 (Or.inl (List.mem_of_getElem? (i := 0) rfl))
  obtain ⟨T14, h14, X14, e14, W14, st14⟩ := putF X13 hx hZ hown (host := "") (Or.inl (W hw 44 rfl)) Via.refl e13 F_o1_lastBlock_v13 E_o1_v13 (Or.inl (W hw 45 rfl)) (W hw 1 rfl) (ty := .int) (by decide) rfl rfl (g := (mkF m 54 #[.val (.ref o1)] [(.int (-1 : Int32)), (.ref o1)])) rfl rfl (hb hby d0_54)
  have F_o1_lastBlock_v14 := F_o1_lastBlock_v13.same W14
  have N14 := Fr.snoc X14 N13 gn_o1
  have E_o1_v14 := E_o1_v13.wr W14
  have F_o1_nextBlock_v14 := F_o1_nextBlock_v13.other W14 (Or.inr (sn_66 hw))
  have F_o1_previousBlock_v14 := F_o1_previousBlock_v13.other W14 (Or.inr (sn_67 hw))
  have F_o1_firstPiece_v14 := F_o1_firstPiece_v13.other W14 (Or.inr (sn_68 hw))
  have F_o1_lastPiece_v14 := F_o1_lastPiece_v13.other W14 (Or.inr (sn_69 hw))
  have F_o1_closed_v14 := F_o1_closed_v13.other W14 (Or.inr (sn_70 hw))
  have F_o1_firstBlock_v14 := F_o1_firstBlock_v13.other W14 (Or.inr (sn_71 hw))
  have F_o1_pieceStart_v14 := F_o1_pieceStart_v13.other W14 (Or.inr (sn_72 hw))
  have F_o1_pieceLength_v14 := F_o1_pieceLength_v13.other W14 (Or.inr (sn_73 hw))
  have F_o1_nextPiece_v14 := F_o1_nextPiece_v13.other W14 (Or.inr (sn_74 hw))
  have F_o1_blockCount_v14 := F_o1_blockCount_v13.other W14 (Or.inr (sn_75 hw))
  have V_b2_v14 := V_b2_v13.other W14 (Ne.symm ne_o1_b2)
  have V_b4_v14 := V_b4_v13.other W14 (Ne.symm ne_o1_b4)
  have V_b6_v14 := V_b6_v13.other W14 (Ne.symm ne_o1_b6)
  have V_b8_v14 := V_b8_v13.other W14 (Ne.symm ne_o1_b8)
  have tk11_1_v14 := tk11_1_v13.wr W14
  have tk11_2_v14 := tk11_2_v13.other W14 (Or.inl (Ne.symm ne_o1_b10))
  have tk11_3_v14 := tk11_3_v13.other W14 (Or.inl (Ne.symm ne_o1_b10))
  have tk11_4_v14 := tk11_4_v13.other W14 (Or.inl (Ne.symm ne_o1_b10))
  have tk11_5_v14 := tk11_5_v13.other W14 (Ne.symm ne_o1_b11_0)
  have O14 := O13.wr W14 gn_o1
  have K14 : Keep h0 h14 [o1] := K13.wr W14 (Or.inl (List.mem_of_getElem? (i := 0) rfl))
  obtain ⟨T15, h15, k15, X15, e15, E15, A15, st15⟩ := newP X14 hx hZ (W hw 37 rfl) e14 (g := (mkF m 60 #[.val (.ref o1)] [(.int (64 : Int32)), (.ref o1)])) rfl (hb hby d0_60) rfl (by decide) (cap := 64) (by decide) (by decide) (by decide) (by decide)
  obtain ⟨b15, g15⟩ : ∃ z, z = h14.size := ⟨_, rfl⟩
  rw [← g15] at A15 st15
  have gn_b15 : Z.heap.size ≤ b15 := Nat.le_trans O14.2.1 (Nat.le_of_eq g15.symm)
  have sz_b15 : h0.size ≤ b15 := Nat.le_trans K14.1 (Nat.le_of_eq g15.symm)
  have ne_b10_b15 : b10 ≠ b15 := Nat.ne_of_lt (Nat.lt_of_lt_of_le tk11_1_v14.lt (Nat.le_of_eq g15.symm))
  have ne_o1_b15 : o1 ≠ b15 := Nat.ne_of_lt (Nat.lt_of_lt_of_le E_o1_v14.lt (Nat.le_of_eq g15.symm))
  have ne_b11_0_b15 : b11_0 ≠ b15 := Nat.ne_of_lt (Nat.lt_of_lt_of_le tk11_5_v14.lt (Nat.le_of_eq g15.symm))
  have ne_b4_b15 : b4 ≠ b15 := Nat.ne_of_lt (Nat.lt_of_lt_of_le V_b4_v14.lt (Nat.le_of_eq g15.symm))
  have ne_b6_b15 : b6 ≠ b15 := Nat.ne_of_lt (Nat.lt_of_lt_of_le V_b6_v14.lt (Nat.le_of_eq g15.symm))
  have ne_b8_b15 : b8 ≠ b15 := Nat.ne_of_lt (Nat.lt_of_lt_of_le V_b8_v14.lt (Nat.le_of_eq g15.symm))
  have ne_b2_b15 : b2 ≠ b15 := Nat.ne_of_lt (Nat.lt_of_lt_of_le V_b2_v14.lt (Nat.le_of_eq g15.symm))
  have E_o1_v15 := E_o1_v14.ext E15
  have F_o1_nextBlock_v15 := F_o1_nextBlock_v14.ext E15
  have F_o1_previousBlock_v15 := F_o1_previousBlock_v14.ext E15
  have F_o1_firstPiece_v15 := F_o1_firstPiece_v14.ext E15
  have F_o1_lastPiece_v15 := F_o1_lastPiece_v14.ext E15
  have F_o1_closed_v15 := F_o1_closed_v14.ext E15
  have F_o1_firstBlock_v15 := F_o1_firstBlock_v14.ext E15
  have F_o1_lastBlock_v15 := F_o1_lastBlock_v14.ext E15
  have F_o1_pieceStart_v15 := F_o1_pieceStart_v14.ext E15
  have F_o1_pieceLength_v15 := F_o1_pieceLength_v14.ext E15
  have F_o1_nextPiece_v15 := F_o1_nextPiece_v14.ext E15
  have F_o1_blockCount_v15 := F_o1_blockCount_v14.ext E15
  have V_b2_v15 := V_b2_v14.ext E15
  have V_b4_v15 := V_b4_v14.ext E15
  have V_b6_v15 := V_b6_v14.ext E15
  have V_b8_v15 := V_b8_v14.ext E15
  have tk11_1_v15 := tk11_1_v14.ext E15
  have tk11_2_v15 := tk11_2_v14.ext E15
  have tk11_3_v15 := tk11_3_v14.ext E15
  have tk11_4_v15 := tk11_4_v14.ext E15
  have tk11_5_v15 := tk11_5_v14.ext E15
  have O15 := O14.ext E15
  have K15 := K14.ext E15
  have V_b15_v15 : Arv Z h15 b15 k15 .long (64 : Int32) [] (.long (0 : Int64)) := Arv.new A15 (by decide)
  obtain ⟨T16, h16, X16, e16, W16, st16⟩ := putF X15 hx hZ hown (host := "") (Or.inl (W hw 46 rfl)) Via.refl e15 F_o1_pieceStart_v15 E_o1_v15 (Or.inl (W hw 47 rfl)) (W hw 1 rfl) (ty := (.array .long)) (by decide) rfl rfl (g := (mkF m 62 #[.val (.ref o1)] [(.ref b15), (.ref o1)])) rfl rfl (hb hby d0_62)
  have F_o1_pieceStart_v16 := F_o1_pieceStart_v15.same W16
  have N16 := Fr.snoc X16 N14 gn_o1
  have E_o1_v16 := E_o1_v15.wr W16
  have F_o1_nextBlock_v16 := F_o1_nextBlock_v15.other W16 (Or.inr (sn_76 hw))
  have F_o1_previousBlock_v16 := F_o1_previousBlock_v15.other W16 (Or.inr (sn_77 hw))
  have F_o1_firstPiece_v16 := F_o1_firstPiece_v15.other W16 (Or.inr (sn_78 hw))
  have F_o1_lastPiece_v16 := F_o1_lastPiece_v15.other W16 (Or.inr (sn_79 hw))
  have F_o1_closed_v16 := F_o1_closed_v15.other W16 (Or.inr (sn_80 hw))
  have F_o1_firstBlock_v16 := F_o1_firstBlock_v15.other W16 (Or.inr (sn_81 hw))
  have F_o1_lastBlock_v16 := F_o1_lastBlock_v15.other W16 (Or.inr (sn_82 hw))
  have F_o1_pieceLength_v16 := F_o1_pieceLength_v15.other W16 (Or.inr (sn_83 hw))
  have F_o1_nextPiece_v16 := F_o1_nextPiece_v15.other W16 (Or.inr (sn_84 hw))
  have F_o1_blockCount_v16 := F_o1_blockCount_v15.other W16 (Or.inr (sn_85 hw))
  have V_b2_v16 := V_b2_v15.other W16 (Ne.symm ne_o1_b2)
  have V_b4_v16 := V_b4_v15.other W16 (Ne.symm ne_o1_b4)
  have V_b6_v16 := V_b6_v15.other W16 (Ne.symm ne_o1_b6)
  have V_b8_v16 := V_b8_v15.other W16 (Ne.symm ne_o1_b8)
  have tk11_1_v16 := tk11_1_v15.wr W16
  have tk11_2_v16 := tk11_2_v15.other W16 (Or.inl (Ne.symm ne_o1_b10))
  have tk11_3_v16 := tk11_3_v15.other W16 (Or.inl (Ne.symm ne_o1_b10))
  have tk11_4_v16 := tk11_4_v15.other W16 (Or.inl (Ne.symm ne_o1_b10))
  have tk11_5_v16 := tk11_5_v15.other W16 (Ne.symm ne_o1_b11_0)
  have V_b15_v16 := V_b15_v15.other W16 (Ne.symm ne_o1_b15)
  have O16 := O15.wr W16 gn_o1
  have K16 : Keep h0 h16 [o1] := K15.wr W16 (Or.inl (List.mem_of_getElem? (i := 0) rfl))
  obtain ⟨T17, h17, k17, X17, e17, E17, A17, st17⟩ := newP X16 hx hZ (W hw 9 rfl) e16 (g := (mkF m 68 #[.val (.ref o1)] [(.int (64 : Int32)), (.ref o1)])) rfl (hb hby d0_68) rfl (by decide) (cap := 64) (by decide) (by decide) (by decide) (by decide)
  obtain ⟨b17, g17⟩ : ∃ z, z = h16.size := ⟨_, rfl⟩
  rw [← g17] at A17 st17
  have gn_b17 : Z.heap.size ≤ b17 := Nat.le_trans O16.2.1 (Nat.le_of_eq g17.symm)
  have sz_b17 : h0.size ≤ b17 := Nat.le_trans K16.1 (Nat.le_of_eq g17.symm)
  have ne_b10_b17 : b10 ≠ b17 := Nat.ne_of_lt (Nat.lt_of_lt_of_le tk11_1_v16.lt (Nat.le_of_eq g17.symm))
  have ne_o1_b17 : o1 ≠ b17 := Nat.ne_of_lt (Nat.lt_of_lt_of_le E_o1_v16.lt (Nat.le_of_eq g17.symm))
  have ne_b11_0_b17 : b11_0 ≠ b17 := Nat.ne_of_lt (Nat.lt_of_lt_of_le tk11_5_v16.lt (Nat.le_of_eq g17.symm))
  have ne_b4_b17 : b4 ≠ b17 := Nat.ne_of_lt (Nat.lt_of_lt_of_le V_b4_v16.lt (Nat.le_of_eq g17.symm))
  have ne_b6_b17 : b6 ≠ b17 := Nat.ne_of_lt (Nat.lt_of_lt_of_le V_b6_v16.lt (Nat.le_of_eq g17.symm))
  have ne_b8_b17 : b8 ≠ b17 := Nat.ne_of_lt (Nat.lt_of_lt_of_le V_b8_v16.lt (Nat.le_of_eq g17.symm))
  have ne_b15_b17 : b15 ≠ b17 := Nat.ne_of_lt (Nat.lt_of_lt_of_le V_b15_v16.lt (Nat.le_of_eq g17.symm))
  have ne_b2_b17 : b2 ≠ b17 := Nat.ne_of_lt (Nat.lt_of_lt_of_le V_b2_v16.lt (Nat.le_of_eq g17.symm))
  have E_o1_v17 := E_o1_v16.ext E17
  have F_o1_nextBlock_v17 := F_o1_nextBlock_v16.ext E17
  have F_o1_previousBlock_v17 := F_o1_previousBlock_v16.ext E17
  have F_o1_firstPiece_v17 := F_o1_firstPiece_v16.ext E17
  have F_o1_lastPiece_v17 := F_o1_lastPiece_v16.ext E17
  have F_o1_closed_v17 := F_o1_closed_v16.ext E17
  have F_o1_firstBlock_v17 := F_o1_firstBlock_v16.ext E17
  have F_o1_lastBlock_v17 := F_o1_lastBlock_v16.ext E17
  have F_o1_pieceStart_v17 := F_o1_pieceStart_v16.ext E17
  have F_o1_pieceLength_v17 := F_o1_pieceLength_v16.ext E17
  have F_o1_nextPiece_v17 := F_o1_nextPiece_v16.ext E17
  have F_o1_blockCount_v17 := F_o1_blockCount_v16.ext E17
  have V_b2_v17 := V_b2_v16.ext E17
  have V_b4_v17 := V_b4_v16.ext E17
  have V_b6_v17 := V_b6_v16.ext E17
  have V_b8_v17 := V_b8_v16.ext E17
  have tk11_1_v17 := tk11_1_v16.ext E17
  have tk11_2_v17 := tk11_2_v16.ext E17
  have tk11_3_v17 := tk11_3_v16.ext E17
  have tk11_4_v17 := tk11_4_v16.ext E17
  have tk11_5_v17 := tk11_5_v16.ext E17
  have V_b15_v17 := V_b15_v16.ext E17
  have O17 := O16.ext E17
  have K17 := K16.ext E17
  have V_b17_v17 : Arv Z h17 b17 k17 .int (64 : Int32) [] (.int (0 : Int32)) := Arv.new A17 (by decide)
  obtain ⟨T18, h18, X18, e18, W18, st18⟩ := putF X17 hx hZ hown (host := "") (Or.inl (W hw 48 rfl)) Via.refl e17 F_o1_pieceLength_v17 E_o1_v17 (Or.inl (W hw 49 rfl)) (W hw 1 rfl) (ty := (.array .int)) (by decide) rfl rfl (g := (mkF m 70 #[.val (.ref o1)] [(.ref b17), (.ref o1)])) rfl rfl (hb hby d0_70)
  have F_o1_pieceLength_v18 := F_o1_pieceLength_v17.same W18
  have N18 := Fr.snoc X18 N16 gn_o1
  have E_o1_v18 := E_o1_v17.wr W18
  have F_o1_nextBlock_v18 := F_o1_nextBlock_v17.other W18 (Or.inr (sn_86 hw))
  have F_o1_previousBlock_v18 := F_o1_previousBlock_v17.other W18 (Or.inr (sn_87 hw))
  have F_o1_firstPiece_v18 := F_o1_firstPiece_v17.other W18 (Or.inr (sn_88 hw))
  have F_o1_lastPiece_v18 := F_o1_lastPiece_v17.other W18 (Or.inr (sn_89 hw))
  have F_o1_closed_v18 := F_o1_closed_v17.other W18 (Or.inr (sn_90 hw))
  have F_o1_firstBlock_v18 := F_o1_firstBlock_v17.other W18 (Or.inr (sn_91 hw))
  have F_o1_lastBlock_v18 := F_o1_lastBlock_v17.other W18 (Or.inr (sn_92 hw))
  have F_o1_pieceStart_v18 := F_o1_pieceStart_v17.other W18 (Or.inr (sn_93 hw))
  have F_o1_nextPiece_v18 := F_o1_nextPiece_v17.other W18 (Or.inr (sn_94 hw))
  have F_o1_blockCount_v18 := F_o1_blockCount_v17.other W18 (Or.inr (sn_95 hw))
  have V_b2_v18 := V_b2_v17.other W18 (Ne.symm ne_o1_b2)
  have V_b4_v18 := V_b4_v17.other W18 (Ne.symm ne_o1_b4)
  have V_b6_v18 := V_b6_v17.other W18 (Ne.symm ne_o1_b6)
  have V_b8_v18 := V_b8_v17.other W18 (Ne.symm ne_o1_b8)
  have tk11_1_v18 := tk11_1_v17.wr W18
  have tk11_2_v18 := tk11_2_v17.other W18 (Or.inl (Ne.symm ne_o1_b10))
  have tk11_3_v18 := tk11_3_v17.other W18 (Or.inl (Ne.symm ne_o1_b10))
  have tk11_4_v18 := tk11_4_v17.other W18 (Or.inl (Ne.symm ne_o1_b10))
  have tk11_5_v18 := tk11_5_v17.other W18 (Ne.symm ne_o1_b11_0)
  have V_b15_v18 := V_b15_v17.other W18 (Ne.symm ne_o1_b15)
  have V_b17_v18 := V_b17_v17.other W18 (Ne.symm ne_o1_b17)
  have O18 := O17.wr W18 gn_o1
  have K18 : Keep h0 h18 [o1] := K17.wr W18 (Or.inl (List.mem_of_getElem? (i := 0) rfl))
  obtain ⟨T19, h19, k19, X19, e19, E19, A19, st19⟩ := newP X18 hx hZ (W hw 9 rfl) e18 (g := (mkF m 76 #[.val (.ref o1)] [(.int (64 : Int32)), (.ref o1)])) rfl (hb hby d0_76) rfl (by decide) (cap := 64) (by decide) (by decide) (by decide) (by decide)
  obtain ⟨b19, g19⟩ : ∃ z, z = h18.size := ⟨_, rfl⟩
  rw [← g19] at A19 st19
  have gn_b19 : Z.heap.size ≤ b19 := Nat.le_trans O18.2.1 (Nat.le_of_eq g19.symm)
  have sz_b19 : h0.size ≤ b19 := Nat.le_trans K18.1 (Nat.le_of_eq g19.symm)
  have ne_b10_b19 : b10 ≠ b19 := Nat.ne_of_lt (Nat.lt_of_lt_of_le tk11_1_v18.lt (Nat.le_of_eq g19.symm))
  have ne_o1_b19 : o1 ≠ b19 := Nat.ne_of_lt (Nat.lt_of_lt_of_le E_o1_v18.lt (Nat.le_of_eq g19.symm))
  have ne_b11_0_b19 : b11_0 ≠ b19 := Nat.ne_of_lt (Nat.lt_of_lt_of_le tk11_5_v18.lt (Nat.le_of_eq g19.symm))
  have ne_b4_b19 : b4 ≠ b19 := Nat.ne_of_lt (Nat.lt_of_lt_of_le V_b4_v18.lt (Nat.le_of_eq g19.symm))
  have ne_b6_b19 : b6 ≠ b19 := Nat.ne_of_lt (Nat.lt_of_lt_of_le V_b6_v18.lt (Nat.le_of_eq g19.symm))
  have ne_b8_b19 : b8 ≠ b19 := Nat.ne_of_lt (Nat.lt_of_lt_of_le V_b8_v18.lt (Nat.le_of_eq g19.symm))
  have ne_b15_b19 : b15 ≠ b19 := Nat.ne_of_lt (Nat.lt_of_lt_of_le V_b15_v18.lt (Nat.le_of_eq g19.symm))
  have ne_b2_b19 : b2 ≠ b19 := Nat.ne_of_lt (Nat.lt_of_lt_of_le V_b2_v18.lt (Nat.le_of_eq g19.symm))
  have ne_b17_b19 : b17 ≠ b19 := Nat.ne_of_lt (Nat.lt_of_lt_of_le V_b17_v18.lt (Nat.le_of_eq g19.symm))
  have E_o1_v19 := E_o1_v18.ext E19
  have F_o1_nextBlock_v19 := F_o1_nextBlock_v18.ext E19
  have F_o1_previousBlock_v19 := F_o1_previousBlock_v18.ext E19
  have F_o1_firstPiece_v19 := F_o1_firstPiece_v18.ext E19
  have F_o1_lastPiece_v19 := F_o1_lastPiece_v18.ext E19
  have F_o1_closed_v19 := F_o1_closed_v18.ext E19
  have F_o1_firstBlock_v19 := F_o1_firstBlock_v18.ext E19
  have F_o1_lastBlock_v19 := F_o1_lastBlock_v18.ext E19
  have F_o1_pieceStart_v19 := F_o1_pieceStart_v18.ext E19
  have F_o1_pieceLength_v19 := F_o1_pieceLength_v18.ext E19
  have F_o1_nextPiece_v19 := F_o1_nextPiece_v18.ext E19
  have F_o1_blockCount_v19 := F_o1_blockCount_v18.ext E19
  have V_b2_v19 := V_b2_v18.ext E19
  have V_b4_v19 := V_b4_v18.ext E19
  have V_b6_v19 := V_b6_v18.ext E19
  have V_b8_v19 := V_b8_v18.ext E19
  have tk11_1_v19 := tk11_1_v18.ext E19
  have tk11_2_v19 := tk11_2_v18.ext E19
  have tk11_3_v19 := tk11_3_v18.ext E19
  have tk11_4_v19 := tk11_4_v18.ext E19
  have tk11_5_v19 := tk11_5_v18.ext E19
  have V_b15_v19 := V_b15_v18.ext E19
  have V_b17_v19 := V_b17_v18.ext E19
  have O19 := O18.ext E19
  have K19 := K18.ext E19
  have V_b19_v19 : Arv Z h19 b19 k19 .int (64 : Int32) [] (.int (0 : Int32)) := Arv.new A19 (by decide)
  obtain ⟨T20, h20, X20, e20, W20, st20⟩ := putF X19 hx hZ hown (host := "") (Or.inl (W hw 50 rfl)) Via.refl e19 F_o1_nextPiece_v19 E_o1_v19 (Or.inl (W hw 51 rfl)) (W hw 1 rfl) (ty := (.array .int)) (by decide) rfl rfl (g := (mkF m 78 #[.val (.ref o1)] [(.ref b19), (.ref o1)])) rfl rfl (hb hby d0_78)
  have F_o1_nextPiece_v20 := F_o1_nextPiece_v19.same W20
  have N20 := Fr.snoc X20 N18 gn_o1
  have E_o1_v20 := E_o1_v19.wr W20
  have F_o1_nextBlock_v20 := F_o1_nextBlock_v19.other W20 (Or.inr (sn_96 hw))
  have F_o1_previousBlock_v20 := F_o1_previousBlock_v19.other W20 (Or.inr (sn_97 hw))
  have F_o1_firstPiece_v20 := F_o1_firstPiece_v19.other W20 (Or.inr (sn_98 hw))
  have F_o1_lastPiece_v20 := F_o1_lastPiece_v19.other W20 (Or.inr (sn_99 hw))
  have F_o1_closed_v20 := F_o1_closed_v19.other W20 (Or.inr (sn_100 hw))
  have F_o1_firstBlock_v20 := F_o1_firstBlock_v19.other W20 (Or.inr (sn_101 hw))
  have F_o1_lastBlock_v20 := F_o1_lastBlock_v19.other W20 (Or.inr (sn_102 hw))
  have F_o1_pieceStart_v20 := F_o1_pieceStart_v19.other W20 (Or.inr (sn_103 hw))
  have F_o1_pieceLength_v20 := F_o1_pieceLength_v19.other W20 (Or.inr (sn_104 hw))
  have F_o1_blockCount_v20 := F_o1_blockCount_v19.other W20 (Or.inr (sn_105 hw))
  have V_b2_v20 := V_b2_v19.other W20 (Ne.symm ne_o1_b2)
  have V_b4_v20 := V_b4_v19.other W20 (Ne.symm ne_o1_b4)
  have V_b6_v20 := V_b6_v19.other W20 (Ne.symm ne_o1_b6)
  have V_b8_v20 := V_b8_v19.other W20 (Ne.symm ne_o1_b8)
  have tk11_1_v20 := tk11_1_v19.wr W20
  have tk11_2_v20 := tk11_2_v19.other W20 (Or.inl (Ne.symm ne_o1_b10))
  have tk11_3_v20 := tk11_3_v19.other W20 (Or.inl (Ne.symm ne_o1_b10))
  have tk11_4_v20 := tk11_4_v19.other W20 (Or.inl (Ne.symm ne_o1_b10))
  have tk11_5_v20 := tk11_5_v19.other W20 (Ne.symm ne_o1_b11_0)
  have V_b15_v20 := V_b15_v19.other W20 (Ne.symm ne_o1_b15)
  have V_b17_v20 := V_b17_v19.other W20 (Ne.symm ne_o1_b17)
  have V_b19_v20 := V_b19_v19.other W20 (Ne.symm ne_o1_b19)
  have O20 := O19.wr W20 gn_o1
  have K20 : Keep h0 h20 [o1] := K19.wr W20 (Or.inl (List.mem_of_getElem? (i := 0) rfl))
  refine ⟨T20, none, _, _, _, by decide, by decide, X20, (fun _ => rfl), (by rw [e20]; exact ⟨b2, b4, b6, b8, b10, b15, b17, b19, b11_0, k2, k4, k6, k8, k15, k17, k19, kb11_0, rfl, N20, K20, sz_b2, sz_b4, sz_b6, sz_b8, sz_b10, sz_b15, sz_b17, sz_b19, sz_b11_0, ne_b2_b4, ne_b2_b6, ne_b2_b8, ne_b2_b10, ne_b2_b15, ne_b2_b17, ne_b2_b19, ne_b2_b11_0, ne_b4_b6, ne_b4_b8, ne_b4_b10, ne_b4_b15, ne_b4_b17, ne_b4_b19, ne_b4_b11_0, ne_b6_b8, ne_b6_b10, ne_b6_b15, ne_b6_b17, ne_b6_b19, ne_b6_b11_0, ne_b8_b10, ne_b8_b15, ne_b8_b17, ne_b8_b19, ne_b8_b11_0, ne_b10_b15, ne_b10_b17, ne_b10_b19, ne_b10_b11_0, ne_b15_b17, ne_b15_b19, (Ne.symm ne_b11_0_b15), ne_b17_b19, (Ne.symm ne_b11_0_b17), (Ne.symm ne_b11_0_b19), E_o1_v20, F_o1_nextBlock_v20, F_o1_previousBlock_v20, F_o1_firstPiece_v20, F_o1_lastPiece_v20, F_o1_closed_v20, F_o1_firstBlock_v20, F_o1_lastBlock_v20, F_o1_pieceStart_v20, F_o1_pieceLength_v20, F_o1_nextPiece_v20, F_o1_blockCount_v20, V_b2_v20, V_b4_v20, V_b6_v20, V_b8_v20, tk11_1_v20, tk11_2_v20, tk11_3_v20, tk11_4_v20, V_b15_v20, V_b17_v20, V_b19_v20, tk11_5_v20⟩), fun fs hr => castTop (ef_2 m (.ref o1) rfl) ?_⟩
  show Steps p.tables e below (s₁.setTop (mkF m 0 #[.val (.ref o1)] [])) _
  refine XS.aloadN X0.here hx rfl (hb hby d0_0) rfl rfl ?_
  refine st1 _ ?_
  refine XS.aloadN X1.here hx rfl (hb hby d0_4) rfl rfl ?_
  refine XS.bipush X1.here hx rfl (hb hby d0_5) ?_
  refine st2 _ ?_
  refine st3 _ ?_
  refine XS.aloadN X3.here hx rfl (hb hby d0_12) rfl rfl ?_
  refine XS.bipush X3.here hx rfl (hb hby d0_13) ?_
  show Steps p.tables e below (T3.setTop (mkF m 15 #[.val (.ref o1)] [(.int (64 : Int32)), (.ref o1)])) _
  refine st4 _ ?_
  refine st5 _ ?_
  refine XS.aloadN X5.here hx rfl (hb hby d0_20) rfl rfl ?_
  refine XS.bipush X5.here hx rfl (hb hby d0_21) ?_
  refine st6 _ ?_
  refine st7 _ ?_
  refine XS.aloadN X7.here hx rfl (hb hby d0_28) rfl rfl ?_
  refine XS.bipush X7.here hx rfl (hb hby d0_29) ?_
  show Steps p.tables e below (T7.setTop (mkF m 31 #[.val (.ref o1)] [(.int (64 : Int32)), (.ref o1)])) _
  refine st8 _ ?_
  refine st9 _ ?_
  refine XS.aloadN X9.here hx rfl (hb hby d0_36) rfl rfl ?_
  refine st10 _ ?_
  refine XS.dup X10.here hx rfl (hb hby d0_40) rfl rfl ?_
  refine st11.trans ?_
  refine st12 _ ?_
  refine XS.aloadN X12.here hx rfl (hb hby d0_47) rfl rfl ?_
  show Steps p.tables e below (T12.setTop (mkF m 48 #[.val (.ref o1)] [(.ref o1)])) _
  refine XS.iconst X12.here hx rfl (hb hby d0_48) ?_
  refine st13 _ ?_
  refine XS.aloadN X13.here hx rfl (hb hby d0_52) rfl rfl ?_
  refine XS.iconst X13.here hx rfl (hb hby d0_53) ?_
  refine st14 _ ?_
  refine XS.aloadN X14.here hx rfl (hb hby d0_57) rfl rfl ?_
  refine XS.bipush X14.here hx rfl (hb hby d0_58) ?_
  refine st15 _ ?_
  show Steps p.tables e below (T15.setTop (mkF m 62 #[.val (.ref o1)] [(.ref b15), (.ref o1)])) _
  refine st16 _ ?_
  refine XS.aloadN X16.here hx rfl (hb hby d0_65) rfl rfl ?_
  refine XS.bipush X16.here hx rfl (hb hby d0_66) ?_
  refine st17 _ ?_
  refine st18 _ ?_
  refine XS.aloadN X18.here hx rfl (hb hby d0_73) rfl rfl ?_
  refine XS.bipush X18.here hx rfl (hb hby d0_74) ?_
  refine st19 _ ?_
  show Steps p.tables e below (T19.setTop (mkF m 78 #[.val (.ref o1)] [(.ref b19), (.ref o1)])) _
  refine st20 _ ?_
  show Steps p.tables e below (T20.setTop (mkF m 81 #[.val (.ref o1)] [])) _
  exact X20.returnOut hx hret (hb hby d0_81) hr
theorem d4_0 : decode prog_20_method_2_code 0 = .ok (.aload_n 0, 1) := by decide +kernel
theorem d4_1 : decode prog_20_method_2_code 1 = .ok (.getfield 46, 3) := by decide +kernel
theorem d4_4 : decode prog_20_method_2_code 4 = .ok (.ifCond .le 7, 3) := by decide +kernel
theorem d4_11 : decode prog_20_method_2_code 11 = .ok (.iconst 0, 1) := by decide +kernel
theorem d4_12 : decode prog_20_method_2_code 12 = .ok (.ireturn, 1) := by decide +kernel
set_option maxRecDepth 65536 in
set_option maxHeartbeats 40000000 in
theorem rm_5 (l : Launch) (Z : State) (a0 : Array Value) (hw : ∀ d ∈ tables_1, d.before a0 Z = true) (w : Nat → Addr) (kk : Nat → ClassId) (iw : Nat → Int32) (vw : Nat → Value) (hN : Wd Z w kk iw vw) (ws : List Jvm.Cond) (o1 : Addr) (o2 : Addr) (o3 : Addr) (o4 : Addr) (o5 : Addr) (o6 : Addr) (kc_o2 : ClassId) (kc_o3 : ClassId) (kc_o4 : ClassId) (kc_o5 : ClassId) (o7 : Addr) (kc_o7 : ClassId) (h0 : Heap) (O0 : Old Z Z.heap.size h0) (gn_o1 : Z.heap.size ≤ o1) (lt_o1 : o1 < h0.size) (E_o1 : Exa Z h0 o1 s_0) (gn_o2 : Z.heap.size ≤ o2) (lt_o2 : o2 < h0.size) (F_o1_nextBlock : Fld Z h0 o1 s_0 "nextBlock" "[I" (.ref o2)) (gn_o3 : Z.heap.size ≤ o3) (lt_o3 : o3 < h0.size) (F_o1_previousBlock : Fld Z h0 o1 s_0 s_5 "[I" (.ref o3)) (gn_o4 : Z.heap.size ≤ o4) (lt_o4 : o4 < h0.size) (F_o1_firstPiece : Fld Z h0 o1 s_0 "firstPiece" "[I" (.ref o4)) (gn_o5 : Z.heap.size ≤ o5) (lt_o5 : o5 < h0.size) (F_o1_lastPiece : Fld Z h0 o1 s_0 "lastPiece" "[I" (.ref o5)) (gn_o6 : Z.heap.size ≤ o6) (lt_o6 : o6 < h0.size) (F_o1_closed : Fld Z h0 o1 s_0 "closed" s_3 (.ref o6)) (F_o1_firstBlock : Fld Z h0 o1 s_0 "firstBlock" "I" (.int (-1 : Int32))) (F_o1_lastBlock : Fld Z h0 o1 s_0 "lastBlock" "I" (.int (-1 : Int32))) (F_o1_blockCount : Fld Z h0 o1 s_0 "blockCount" "I" (.int (0 : Int32))) (V_o2 : Arv Z h0 o2 kc_o2 .int (64 : Int32) [] (.int (0 : Int32))) (V_o3 : Arv Z h0 o3 kc_o3 .int (64 : Int32) [] (.int (0 : Int32))) (V_o4 : Arv Z h0 o4 kc_o4 .int (64 : Int32) [] (.int (0 : Int32))) (V_o5 : Arv Z h0 o5 kc_o5 .int (64 : Int32) [] (.int (0 : Int32))) (E_o6 : Exa Z h0 o6 s_1) (F_o6_wordsInUse : Fld Z h0 o6 s_1 "wordsInUse" "I" (.int (0 : Int32))) (F_o6_sizeIsSticky : Fld Z h0 o6 s_1 s_6 "Z" (.int (0 : Int32))) (gn_o7 : Z.heap.size ≤ o7) (lt_o7 : o7 < h0.size) (F_o6_words : Fld Z h0 o6 s_1 "words" "[J" (.ref o7)) (V_o7 : Arv Z h0 o7 kc_o7 .long (1 : Int32) [] (.long (0 : Int64))) (ne_o1_o2 : o1 ≠ o2) (ne_o1_o3 : o1 ≠ o3) (ne_o1_o4 : o1 ≠ o4) (ne_o1_o5 : o1 ≠ o5) (ne_o1_o6 : o1 ≠ o6) (ne_o1_o7 : o1 ≠ o7) (ne_o2_o3 : o2 ≠ o3) (ne_o2_o4 : o2 ≠ o4) (ne_o2_o5 : o2 ≠ o5) (ne_o2_o6 : o2 ≠ o6) (ne_o2_o7 : o2 ≠ o7) (ne_o3_o4 : o3 ≠ o4) (ne_o3_o5 : o3 ≠ o5) (ne_o3_o6 : o3 ≠ o6) (ne_o3_o7 : o3 ≠ o7) (ne_o4_o5 : o4 ≠ o5) (ne_o4_o6 : o4 ≠ o6) (ne_o4_o7 : o4 ≠ o7) (ne_o5_o6 : o5 ≠ o6) (ne_o5_o7 : o5 ≠ o7) (ne_o6_o7 : o6 ≠ o7) :
    Met l Z (⟨s_0, "hasBlocks", "()Z"⟩ : MethodName) (Jvm.Cond.code (⟨s_0, "hasBlocks", "()Z"⟩ : MethodName) prog_20_method_2_code 1 (some .boolean)) ws (Rm 0 0 0 0) #[(.ref o1)] h0 (OQ (some (.int (0 : Int32))) h0 Z.heap.size) := by
  have hN' := hN
  have hL0 : Sta Z Z.heap s_1 s_4 "Z" (.int (1 : Int32)) := hN'
  refine own_body (plainFor_of_name pn_1) hisR ?_
  intro p e s m below meth c s₁ hx hby hml hown hnm hret X0 hZ e0
  have N0 := Fr.nil Z.heap.size
  obtain ⟨T1, X1, e1, st1⟩ := getF X0 hx hZ hown (host := "") (Or.inl (W hw 57 rfl)) Via.refl e0 F_o1_blockCount (g := (mkF m 1 #[.val (.ref o1)] [(.ref o1)])) rfl rfl (hb hby d4_1)
  refine ⟨T1, some (.int (0 : Int32)), _, _, _, by decide, by decide, X1, nofun, (by rw [e1]; exact ⟨rfl, N0, rfl⟩), fun fs hr => castTop (ef_2 m (.ref o1) rfl) ?_⟩
  show Steps p.tables e below (s₁.setTop (mkF m 0 #[.val (.ref o1)] [])) _
  refine XS.aloadN X0.here hx rfl (hb hby d4_0) rfl rfl ?_
  refine st1 _ ?_
  refine XS.ifYes X1.here hx rfl (pc0 := 4) (pc' := 11) rfl (hb hby d4_4) rfl ((if0 _ _).trans (flt (by decide : ¬ ((0 : Int32) < (0 : Int32)))).2.2.2) (by decide) (by decide) ?_
  refine XS.iconst X1.here hx rfl (hb hby d4_11) ?_
  show Steps p.tables e below (T1.setTop (mkF m 12 #[.val (.ref o1)] [(.int (0 : Int32))])) _
  exact retN X1 hx (t := .boolean) hret (by simp) (hb hby d4_12) hr
theorem pd_3 : parseMethodDescriptor "()Z" = some ⟨[], some .boolean⟩ := by decide +kernel
set_option maxRecDepth 65536 in
set_option maxHeartbeats 40000000 in
theorem sg_6 {p : Program} {l : Launch} {e : Env} {s : State} {m : MethodId} {args : Array Value} {below : List Frame} {meth : Method} {c : Code} {T0 : State} {Z : State} {a0 : Array Value} (w : Nat → Addr) (kk : Nat → ClassId) (iw : Nat → Int32) (vw : Nat → Value) (hN : Wd Z w kk iw vw) (i0 : Int32) (i1 : Int32) (i2 : Int32) (i3 : Int32) {h0 : Heap}
    (X0 : Stand p l e room_1 s m args below meth c T0 [] 0 0) (hx : p.tables.exec = Jvm.exec) (hZ : Z.Warmed39 s.vm) (hw : ∀ d ∈ tables_1, d.before a0 Z = true) (hby : c.code = code) (hml : c.maxLocals = 7) (hown : s.vm.findClass s_2 = some m.cls) (e0 : T0.heap = h0) (O0 : Old Z Z.heap.size h0) (N0 : Fr Z.heap.size []) :
    ∃ (T' : State) (L' : List Loc) (c1 : Addr) (c2 : Addr) (c3 : Addr) (c4 : Addr) (c5 : Addr) (c6 : Addr) (c7 : Addr) (kc1 : ClassId) (kc2 : ClassId) (kc3 : ClassId) (kc4 : ClassId) (kc5 : ClassId), Stand p l e room_1 s m args below meth c T' L' 10 467 ∧ (∀ target, Steps p.tables e below (T'.setTop (mkF m 102 #[.val (.int i0), .val (.int i1), .val (.int i2), .val (.int i3), .val (.int (0 : Int32)), .val (.ref c1), .val (.int (1 : Int32))] [])) target → Steps p.tables e below (T0.setTop (mkF m 5 #[.val (.int i0), .val (.int i1), .val (.int i2), .val (.int i3), .val (.int (0 : Int32)), .unset, .unset] [])) target) ∧ Fr Z.heap.size L' ∧ Keep h0 T'.heap [] ∧ h0.size ≤ c1 ∧ h0.size ≤ c2 ∧ h0.size ≤ c3 ∧ h0.size ≤ c4 ∧ h0.size ≤ c5 ∧ h0.size ≤ c6 ∧ h0.size ≤ c7 ∧ c1 ≠ c2 ∧ c1 ≠ c3 ∧ c1 ≠ c4 ∧ c1 ≠ c5 ∧ c1 ≠ c6 ∧ c1 ≠ c7 ∧ c2 ≠ c3 ∧ c2 ≠ c4 ∧ c2 ≠ c5 ∧ c2 ≠ c6 ∧ c2 ≠ c7 ∧ c3 ≠ c4 ∧ c3 ≠ c5 ∧ c3 ≠ c6 ∧ c3 ≠ c7 ∧ c4 ≠ c5 ∧ c4 ≠ c6 ∧ c4 ≠ c7 ∧ c5 ≠ c6 ∧ c5 ≠ c7 ∧ c6 ≠ c7 ∧ Exa Z T'.heap c1 s_0 ∧ Fld Z T'.heap c1 s_0 "nextBlock" "[I" (.ref c2) ∧ Fld Z T'.heap c1 s_0 s_5 "[I" (.ref c3) ∧ Fld Z T'.heap c1 s_0 "firstPiece" "[I" (.ref c4) ∧ Fld Z T'.heap c1 s_0 "lastPiece" "[I" (.ref c5) ∧ Fld Z T'.heap c1 s_0 "closed" s_3 (.ref c6) ∧ Fld Z T'.heap c1 s_0 "firstBlock" "I" (.int (-1 : Int32)) ∧ Fld Z T'.heap c1 s_0 "lastBlock" "I" (.int (-1 : Int32)) ∧ Fld Z T'.heap c1 s_0 "blockCount" "I" (.int (0 : Int32)) ∧ Arv Z T'.heap c2 kc1 .int (64 : Int32) [] (.int (0 : Int32)) ∧ Arv Z T'.heap c3 kc2 .int (64 : Int32) [] (.int (0 : Int32)) ∧ Arv Z T'.heap c4 kc3 .int (64 : Int32) [] (.int (0 : Int32)) ∧ Arv Z T'.heap c5 kc4 .int (64 : Int32) [] (.int (0 : Int32)) ∧ Exa Z T'.heap c6 s_1 ∧ Fld Z T'.heap c6 s_1 "wordsInUse" "I" (.int (0 : Int32)) ∧ Fld Z T'.heap c6 s_1 s_6 "Z" (.int (0 : Int32)) ∧ Fld Z T'.heap c6 s_1 "words" "[J" (.ref c7) ∧ Arv Z T'.heap c7 kc5 .long (1 : Int32) [] (.long (0 : Int64)) := by
  have hN' := hN
  have hL0 : Sta Z Z.heap s_1 s_4 "Z" (.int (1 : Int32)) := hN'
  have K0 : Keep h0 h0 [] := Keep.refl _ _
  obtain ⟨T1, h1, X1, e1, E1, A1, D1, -, st1⟩ := newO X0 hx hZ hown (W hw 0 rfl) (W hw 1 rfl) (W hw 2 rfl) e0 (g := (mkF m 5 #[.val (.int i0), .val (.int i1), .val (.int i2), .val (.int i3), .val (.int (0 : Int32)), .unset, .unset] [])) rfl (hb hby at_5) (by decide) (by decide)
  obtain ⟨b1, g1⟩ : ∃ z, z = h0.size := ⟨_, rfl⟩
  rw [← g1] at A1 st1 D1
  have gn_b1 : Z.heap.size ≤ b1 := Nat.le_trans O0.2.1 (Nat.le_of_eq g1.symm)
  have sz_b1 : h0.size ≤ b1 := Nat.le_trans K0.1 (Nat.le_of_eq g1.symm)
  have O1 := O0.ext E1
  have K1 := K0.ext E1
  have E_b1_v1 := A1
  have F_b1_nextBlock_v1 : Fld Z h1 b1 s_0 "nextBlock" "[I" .null := D1 (Or.inl (W hw 11 rfl)) (ty := (.array .int)) (by decide)
  have F_b1_previousBlock_v1 : Fld Z h1 b1 s_0 s_5 "[I" .null := D1 (Or.inl (W hw 13 rfl)) (ty := (.array .int)) (by decide)
  have F_b1_firstPiece_v1 : Fld Z h1 b1 s_0 "firstPiece" "[I" .null := D1 (Or.inl (W hw 15 rfl)) (ty := (.array .int)) (by decide)
  have F_b1_lastPiece_v1 : Fld Z h1 b1 s_0 "lastPiece" "[I" .null := D1 (Or.inl (W hw 17 rfl)) (ty := (.array .int)) (by decide)
  have F_b1_closed_v1 : Fld Z h1 b1 s_0 "closed" s_3 .null := D1 (Or.inr (W hw 41 rfl)) (ty := (.object s_1)) (by decide)
  have F_b1_firstBlock_v1 : Fld Z h1 b1 s_0 "firstBlock" "I" (.int (0 : Int32)) := D1 (Or.inl (W hw 43 rfl)) (ty := .int) (by decide)
  have F_b1_lastBlock_v1 : Fld Z h1 b1 s_0 "lastBlock" "I" (.int (0 : Int32)) := D1 (Or.inl (W hw 45 rfl)) (ty := .int) (by decide)
  have F_b1_pieceStart_v1 : Fld Z h1 b1 s_0 "pieceStart" "[J" .null := D1 (Or.inl (W hw 47 rfl)) (ty := (.array .long)) (by decide)
  have F_b1_pieceLength_v1 : Fld Z h1 b1 s_0 "pieceLength" "[I" .null := D1 (Or.inl (W hw 49 rfl)) (ty := (.array .int)) (by decide)
  have F_b1_nextPiece_v1 : Fld Z h1 b1 s_0 "nextPiece" "[I" .null := D1 (Or.inl (W hw 51 rfl)) (ty := (.array .int)) (by decide)
  have F_b1_blockCount_v1 : Fld Z h1 b1 s_0 "blockCount" "I" (.int (0 : Int32)) := D1 (Or.inl (W hw 58 rfl)) (ty := .int) (by decide)
  obtain ⟨_, _, ⟨T2, L2, k2, n2⟩, -, X2, ⟨Lc2, hQ2, l2, y2, z2⟩, st2⟩ := X1.specialBack hx (y := (⟨s_0, "<init>", "()V"⟩ : MethodName)) rfl hown (mvT hZ (W hw 3 rfl)) (mvT hZ (W hw 4 rfl)) (mvT hZ (W hw 5 rfl)) (by decide) (backOf (W := 1) (rm_4 l Z a0 hw w kk iw vw hN [] b1 h1 O1 gn_b1 E_b1_v1.lt E_b1_v1 F_b1_nextBlock_v1 F_b1_previousBlock_v1 F_b1_firstPiece_v1 F_b1_lastPiece_v1 F_b1_closed_v1 F_b1_firstBlock_v1 F_b1_lastBlock_v1 F_b1_pieceStart_v1 F_b1_pieceLength_v1 F_b1_nextPiece_v1 F_b1_blockCount_v1) hZ (W hw 5 rfl) (W hw 2 rfl) (by decide) (by decide)) (g := (mkF m 9 #[.val (.int i0), .val (.int i1), .val (.int i2), .val (.int i3), .val (.int (0 : Int32)), .unset, .unset] [(.ref b1), (.ref b1)])) rfl (by rw [hml]; rfl) (Steps.refl _) (a := b1) (argsL := []) (rest := [(.ref b1)]) (lenOf pd_2 rfl) rfl (by show 2 * 0 + _ ≤ _; exact Nat.le_of_eq rfl) (hb hby at_9) (fun _ _ => ⟨rfl, e1, (by decide : 1 + 9 ≤ _), (by decide : 15 + 452 ≤ _)⟩)
  dsimp only [Pt.U, Pt.locs, Pt.cells, Pt.slots] at X2 l2 y2 z2 st2 hQ2
  subst l2 y2 z2
  obtain ⟨b2_0, b2_1, b2_2, b2_3, b2_4, b2_5, b2_6, b2_7, b2_8, kb2_0, kb2_1, kb2_2, kb2_3, kb2_4, kb2_5, kb2_6, kb2_7, rfl, N2q, Kq2, tk2_0, tk2_1, tk2_2, tk2_3, tk2_4, tk2_5, tk2_6, tk2_7, tk2_8, tk2_9, tk2_10, tk2_11, tk2_12, tk2_13, tk2_14, tk2_15, tk2_16, tk2_17, tk2_18, tk2_19, tk2_20, tk2_21, tk2_22, tk2_23, tk2_24, tk2_25, tk2_26, tk2_27, tk2_28, tk2_29, tk2_30, tk2_31, tk2_32, tk2_33, tk2_34, tk2_35, tk2_36, tk2_37, tk2_38, tk2_39, tk2_40, tk2_41, tk2_42, tk2_43, tk2_44, tk2_45, tk2_46, tk2_47, tk2_48, tk2_49, tk2_50, tk2_51, tk2_52, tk2_53, tk2_54, tk2_55, tk2_56, tk2_57, tk2_58, tk2_59, tk2_60, tk2_61, tk2_62, tk2_63, tk2_64, tk2_65, tk2_66, tk2_67, tk2_68⟩ := hQ2
  have N2 := Fr.app N0 N2q
  have gn_b2_0 : Z.heap.size ≤ b2_0 := Nat.le_trans O1.2.1 tk2_0
  have sz_b2_0 : h0.size ≤ b2_0 := Nat.le_trans K1.1 tk2_0
  have ne_b1_b2_0 : b1 ≠ b2_0 := Nat.ne_of_lt (Nat.lt_of_lt_of_le E_b1_v1.lt tk2_0)
  have gn_b2_1 : Z.heap.size ≤ b2_1 := Nat.le_trans O1.2.1 tk2_1
  have sz_b2_1 : h0.size ≤ b2_1 := Nat.le_trans K1.1 tk2_1
  have ne_b1_b2_1 : b1 ≠ b2_1 := Nat.ne_of_lt (Nat.lt_of_lt_of_le E_b1_v1.lt tk2_1)
  have gn_b2_2 : Z.heap.size ≤ b2_2 := Nat.le_trans O1.2.1 tk2_2
  have sz_b2_2 : h0.size ≤ b2_2 := Nat.le_trans K1.1 tk2_2
  have ne_b1_b2_2 : b1 ≠ b2_2 := Nat.ne_of_lt (Nat.lt_of_lt_of_le E_b1_v1.lt tk2_2)
  have gn_b2_3 : Z.heap.size ≤ b2_3 := Nat.le_trans O1.2.1 tk2_3
  have sz_b2_3 : h0.size ≤ b2_3 := Nat.le_trans K1.1 tk2_3
  have ne_b1_b2_3 : b1 ≠ b2_3 := Nat.ne_of_lt (Nat.lt_of_lt_of_le E_b1_v1.lt tk2_3)
  have gn_b2_4 : Z.heap.size ≤ b2_4 := Nat.le_trans O1.2.1 tk2_4
  have sz_b2_4 : h0.size ≤ b2_4 := Nat.le_trans K1.1 tk2_4
  have ne_b1_b2_4 : b1 ≠ b2_4 := Nat.ne_of_lt (Nat.lt_of_lt_of_le E_b1_v1.lt tk2_4)
  have gn_b2_5 : Z.heap.size ≤ b2_5 := Nat.le_trans O1.2.1 tk2_5
  have sz_b2_5 : h0.size ≤ b2_5 := Nat.le_trans K1.1 tk2_5
  have ne_b1_b2_5 : b1 ≠ b2_5 := Nat.ne_of_lt (Nat.lt_of_lt_of_le E_b1_v1.lt tk2_5)
  have gn_b2_6 : Z.heap.size ≤ b2_6 := Nat.le_trans O1.2.1 tk2_6
  have sz_b2_6 : h0.size ≤ b2_6 := Nat.le_trans K1.1 tk2_6
  have ne_b1_b2_6 : b1 ≠ b2_6 := Nat.ne_of_lt (Nat.lt_of_lt_of_le E_b1_v1.lt tk2_6)
  have gn_b2_7 : Z.heap.size ≤ b2_7 := Nat.le_trans O1.2.1 tk2_7
  have sz_b2_7 : h0.size ≤ b2_7 := Nat.le_trans K1.1 tk2_7
  have ne_b1_b2_7 : b1 ≠ b2_7 := Nat.ne_of_lt (Nat.lt_of_lt_of_le E_b1_v1.lt tk2_7)
  have gn_b2_8 : Z.heap.size ≤ b2_8 := Nat.le_trans O1.2.1 tk2_8
  have sz_b2_8 : h0.size ≤ b2_8 := Nat.le_trans K1.1 tk2_8
  have ne_b1_b2_8 : b1 ≠ b2_8 := Nat.ne_of_lt (Nat.lt_of_lt_of_le E_b1_v1.lt tk2_8)
  have E_b1_v2 := E_b1_v1.keep Kq2
  have O2 := O1.keep Kq2 (allS gn_b1 all0)
  have K2 : Keep h0 T2.heap [] := K1.trans Kq2 (allS (Or.inr sz_b1) all0)
  obtain ⟨cq3, kq3, q3a, q3b, q3c⟩ := isOf hZ rfl tk2_45
  obtain ⟨_, _, ⟨T3, L3, k3, n3⟩, -, X3, ⟨Lc3, hQ3, l3, y3, z3⟩, st3⟩ := X2.virtualBack hx (y := (⟨s_0, "hasBlocks", "()Z"⟩ : MethodName)) (z := (⟨s_0, "hasBlocks", "()Z"⟩ : MethodName)) hown (mvT hZ (W hw 52 rfl)) (mvT hZ (W hw 53 rfl)) (notFace_of_selects (args := #[]) (mvT hZ (W hw 55 rfl))) (mvT hZ (W hw 55 rfl)) (mvT hZ (W hw 54 rfl)) (by decide) (backOf (W := 0) (rm_5 l Z a0 hw w kk iw vw hN [] b1 b2_0 b2_1 b2_2 b2_3 b2_4 kb2_0 kb2_1 kb2_2 kb2_3 b2_8 kb2_7 T2.heap O2 gn_b1 tk2_45.lt tk2_45 gn_b2_0 tk2_57.lt tk2_46 gn_b2_1 tk2_58.lt tk2_47 gn_b2_2 tk2_59.lt tk2_48 gn_b2_3 tk2_60.lt tk2_49 gn_b2_4 tk2_61.lt tk2_50 tk2_51 tk2_52 tk2_56 tk2_57 tk2_58 tk2_59 tk2_60 tk2_61 tk2_62 tk2_63 gn_b2_8 tk2_68.lt tk2_64 tk2_68 ne_b1_b2_0 ne_b1_b2_1 ne_b1_b2_2 ne_b1_b2_3 ne_b1_b2_4 ne_b1_b2_8 tk2_9 tk2_10 tk2_11 tk2_12 tk2_16 tk2_17 tk2_18 tk2_19 tk2_23 tk2_24 tk2_25 tk2_29 tk2_30 tk2_34 tk2_38) hZ (W hw 56 rfl) (W hw 2 rfl) (by decide) (by decide)) q3a q3c (g := (mkF m 16 #[.val (.int i0), .val (.int i1), .val (.int i2), .val (.int i3), .val (.int (0 : Int32)), .val (.ref b1), .unset] [(.ref b1)])) rfl (by rw [hml]; rfl) (Steps.refl _) (argsL := []) (rest := []) (lenOf pd_3 rfl) rfl (by show 2 * 0 + _ ≤ _; exact Nat.le_of_eq rfl) (hb hby at_16) (fun _ _ => ⟨rfl, rfl, (by decide : 10 + 0 ≤ _), (by decide : 467 + 0 ≤ _)⟩)
  dsimp only [Pt.U, Pt.locs, Pt.cells, Pt.slots] at X3 l3 y3 z3 st3 hQ3
  subst l3 y3 z3
  obtain ⟨rfl, N3q, e3⟩ := hQ3
  have N3 := Fr.app N2 N3q
  refine ⟨T3, _, b1, b2_0, b2_1, b2_2, b2_3, b2_4, b2_8, kb2_0, kb2_1, kb2_2, kb2_3, kb2_7, X3, fun target kt => ?_, N3, (by rw [e3]; exact ⟨K2, sz_b1, sz_b2_0, sz_b2_1, sz_b2_2, sz_b2_3, sz_b2_4, sz_b2_8, ne_b1_b2_0, ne_b1_b2_1, ne_b1_b2_2, ne_b1_b2_3, ne_b1_b2_4, ne_b1_b2_8, tk2_9, tk2_10, tk2_11, tk2_12, tk2_16, tk2_17, tk2_18, tk2_19, tk2_23, tk2_24, tk2_25, tk2_29, tk2_30, tk2_34, tk2_38, tk2_45, tk2_46, tk2_47, tk2_48, tk2_49, tk2_50, tk2_51, tk2_52, tk2_56, tk2_57, tk2_58, tk2_59, tk2_60, tk2_61, tk2_62, tk2_63, tk2_64, tk2_68⟩)⟩
  show Steps p.tables e below (T0.setTop (mkF m 5 #[.val (.int i0), .val (.int i1), .val (.int i2), .val (.int i3), .val (.int (0 : Int32)), .unset, .unset] [])) _
  refine st1 _ ?_
  refine XS.dup X1.here hx rfl (hb hby at_8) rfl rfl ?_
  refine st2.trans ?_
  refine XS.astore X2.here hx rfl (hb hby at_12) rfl rfl (l' := #[.val (.int i0), .val (.int i1), .val (.int i2), .val (.int i3), .val (.int (0 : Int32)), .val (.ref b1), .unset]) rfl ?_
  refine XS.aload X2.here hx rfl (hb hby at_14) rfl rfl ?_
  refine st3.trans ?_
  refine XS.ifNo X3.here hx rfl (hb hby at_19) rfl ((if0 _ _).trans (teq (by decide : (0 : Int32) = (0 : Int32))).2) ?_
  refine XS.iconst X3.here hx rfl (hb hby at_22) ?_
  show Steps p.tables e below (T3.setTop (mkF m 23 #[.val (.int i0), .val (.int i1), .val (.int i2), .val (.int i3), .val (.int (0 : Int32)), .val (.ref b1), .unset] [(.int (1 : Int32))])) _
  refine XS.goto X3.here hx rfl (pc0 := 23) (pc' := 27) rfl (hb hby at_23) (by decide) (by decide) ?_
  refine XS.istore X3.here hx rfl (hb hby at_27) rfl (l' := #[.val (.int i0), .val (.int i1), .val (.int i2), .val (.int i3), .val (.int (0 : Int32)), .val (.ref b1), .val (.int (1 : Int32))]) rfl ?_
  refine XS.iload X3.here hx rfl (hb hby at_29) rfl ?_
  refine XS.iconst X3.here hx rfl (hb hby at_31) ?_
  refine XS.icmpYes X3.here hx rfl (pc0 := 32) (pc' := 60) rfl (hb hby at_32) rfl (tlt (by decide : (0 : Int32) < (1 : Int32))).1 (by decide) (by decide) ?_
  refine XS.iload X3.here hx rfl (hb hby at_60) rfl ?_
  refine XS.iconst X3.here hx rfl (hb hby at_62) ?_
  refine XS.icmpYes X3.here hx rfl (pc0 := 63) (pc' := 91) rfl (hb hby at_63) rfl (tlt (by decide : (0 : Int32) < (2 : Int32))).1 (by decide) (by decide) ?_
  show Steps p.tables e below (T3.setTop (mkF m 91 #[.val (.int i0), .val (.int i1), .val (.int i2), .val (.int i3), .val (.int (0 : Int32)), .val (.ref b1), .val (.int (1 : Int32))] [])) _
  refine XS.iload X3.here hx rfl (hb hby at_91) rfl ?_
  refine XS.iconst X3.here hx rfl (hb hby at_93) ?_
  refine XS.icmpYes X3.here hx rfl (pc0 := 94) (pc' := 102) rfl (hb hby at_94) rfl (tlt (by decide : (0 : Int32) < (3 : Int32))).1 (by decide) (by decide) ?_
  exact kt
theorem ef_3 (m : MethodId) (x0 : Value) (h0 : x0.category = 1) (x1 : Value) (h1 : x1.category = 1) (x2 : Value) (h2 : x2.category = 1) (x3 : Value) (h3 : x3.category = 1) : entryFrame m #[x0, x1, x2, x3] maxLocals = mkF m 0 #[.val x0, .val x1, .val x2, .val x3, .unset, .unset, .unset] [] := by first | (simp [entryFrame, mkF, argsToLocals, h0, h1, h2, h3, maxLocals]; done) | rfl
theorem pn_2 : plainName s_2 = true := by first | (simp [plainName, overriddenIn]; done) | decide +kernel
set_option maxRecDepth 65536 in
set_option maxHeartbeats 40000000 in
theorem law_7 (l : Launch) (Z : State) (a0 : Array Value) (hw : ∀ d ∈ tables_1, d.before a0 Z = true) (w : Nat → Addr) (kk : Nat → ClassId) (iw : Nat → Int32) (vw : Nat → Value) (hN : Wd Z w kk iw vw) (ws : List Jvm.Cond) (p0 : Int32) (p1 : Int32) (p2 : Int32) (p3 : Int32) (h0 : Heap) (O0 : Old Z Z.heap.size h0) (hp0 : (p0 &&& (3 : Int32)) = (0 : Int32)) :
    MetFree l x (head1 (Jvm.Cond.code x code maxLocals ret :: ws) room_1) (fun a U => a = #[(.int p0), (.int p1), (.int p2), (.int p3)] ∧ Z.Warmed39 U.vm ∧ U.heap = h0) (fun _ _ _ _ _ => True) (fun _ U o U' => ∃ v L, o = .returned v ∧ OL (some (.int (1 : Int32))) Z.heap.size v U'.heap L ∧ ReturnedEndW U o U' L 32 3072) := by
  have hN' := hN
  have hL0 : Sta Z Z.heap s_1 s_4 "Z" (.int (1 : Int32)) := hN'
  refine MetFree.of_bodySF (plainFor_of_name pn_2) hisR ?_
  intro p e s m args below meth c s₁ Bd hml0 hP hK
  obtain ⟨rfl, hZ, hh⟩ := hP
  have hx := Bd.exec
  have hby := Bd.bytes
  have hml : c.maxLocals = 7 := hml0
  have hown : s.vm.findClass s_2 = some m.cls := findClass_of_methodNamed Bd.named
  have hnm := (name_of_methodNamed Bd.named Bd.method).1
  have X0 : Stand p l e room_1 s m #[(.int p0), (.int p1), (.int p2), (.int p3)] below meth c s₁ [] 0 0 := Stand.of_body Bd
  have e0 : s₁.heap = h0 := by rw [← hh, Bd.state]; rfl
  have N0 := Fr.nil Z.heap.size
  obtain ⟨T1, L1, b1_0, b1_1, b1_2, b1_3, b1_4, b1_5, b1_6, kb1_0, kb1_1, kb1_2, kb1_3, kb1_4, X1, st1, N1, Kq1, tk1_0, tk1_1, tk1_2, tk1_3, tk1_4, tk1_5, tk1_6, tk1_7, tk1_8, tk1_9, tk1_10, tk1_11, tk1_12, tk1_13, tk1_14, tk1_15, tk1_16, tk1_17, tk1_18, tk1_19, tk1_20, tk1_21, tk1_22, tk1_23, tk1_24, tk1_25, tk1_26, tk1_27, tk1_28, tk1_29, tk1_30, tk1_31, tk1_32, tk1_33, tk1_34, tk1_35, tk1_36, tk1_37, tk1_38, tk1_39, tk1_40, tk1_41, tk1_42, tk1_43, tk1_44, tk1_45⟩ := sg_6 w kk iw vw hN p0 p1 p2 p3 X0 hx hZ hw hby hml hown e0 O0 N0
  have gn_b1_0 : Z.heap.size ≤ b1_0 := Nat.le_trans O0.2.1 tk1_0
  have gn_b1_1 : Z.heap.size ≤ b1_1 := Nat.le_trans O0.2.1 tk1_1
  have gn_b1_2 : Z.heap.size ≤ b1_2 := Nat.le_trans O0.2.1 tk1_2
  have gn_b1_3 : Z.heap.size ≤ b1_3 := Nat.le_trans O0.2.1 tk1_3
  have gn_b1_4 : Z.heap.size ≤ b1_4 := Nat.le_trans O0.2.1 tk1_4
  have gn_b1_5 : Z.heap.size ≤ b1_5 := Nat.le_trans O0.2.1 tk1_5
  have gn_b1_6 : Z.heap.size ≤ b1_6 := Nat.le_trans O0.2.1 tk1_6
  have O1 := O0.keep Kq1 all0
  obtain ⟨cq2, kq2, q2a, q2b, q2c⟩ := isOf hZ rfl tk1_28
  obtain ⟨_, _, ⟨T2, L2, k2, n2⟩, -, X2, ⟨Lc2, hQ2, l2, y2, z2⟩, st2⟩ := X1.virtualBack hx (y := (⟨s_0, "hasBlocks", "()Z"⟩ : MethodName)) (z := (⟨s_0, "hasBlocks", "()Z"⟩ : MethodName)) hown (mvT hZ (W hw 52 rfl)) (mvT hZ (W hw 53 rfl)) (notFace_of_selects (args := #[]) (mvT hZ (W hw 55 rfl))) (mvT hZ (W hw 55 rfl)) (mvT hZ (W hw 54 rfl)) (by decide) (backOf (W := 0) (rm_5 l Z a0 hw w kk iw vw hN [] b1_0 b1_1 b1_2 b1_3 b1_4 b1_5 kb1_0 kb1_1 kb1_2 kb1_3 b1_6 kb1_4 T1.heap O1 gn_b1_0 tk1_28.lt tk1_28 gn_b1_1 tk1_37.lt tk1_29 gn_b1_2 tk1_38.lt tk1_30 gn_b1_3 tk1_39.lt tk1_31 gn_b1_4 tk1_40.lt tk1_32 gn_b1_5 tk1_41.lt tk1_33 tk1_34 tk1_35 tk1_36 tk1_37 tk1_38 tk1_39 tk1_40 tk1_41 tk1_42 tk1_43 gn_b1_6 tk1_45.lt tk1_44 tk1_45 tk1_7 tk1_8 tk1_9 tk1_10 tk1_11 tk1_12 tk1_13 tk1_14 tk1_15 tk1_16 tk1_17 tk1_18 tk1_19 tk1_20 tk1_21 tk1_22 tk1_23 tk1_24 tk1_25 tk1_26 tk1_27) hZ (W hw 56 rfl) (W hw 2 rfl) (by decide) (by decide)) q2a q2c (g := (mkF m 157 #[.val (.int p0), .val (.int p1), .val (.int p2), .val (.int p3), .val (.int (0 : Int32)), .val (.ref b1_0), .val (.int (1 : Int32))] [(.ref b1_0)])) rfl (by rw [hml]; rfl) (Steps.refl _) (argsL := []) (rest := []) (lenOf pd_3 rfl) rfl (by show 2 * 0 + _ ≤ _; exact Nat.le_of_eq rfl) (hb hby at_157) (fun _ _ => ⟨rfl, rfl, (by decide : 10 + 0 ≤ _), (by decide : 467 + 0 ≤ _)⟩)
  dsimp only [Pt.U, Pt.locs, Pt.cells, Pt.slots] at X2 l2 y2 z2 st2 hQ2
  subst l2 y2 z2
  obtain ⟨rfl, N2q, e2⟩ := hQ2
  have N2 := Fr.app N1 N2q
  obtain ⟨fs, hr, hrun, hended, hW, hsame⟩ := X2.leave (v := some (.int (1 : Int32))) (fun h => by rw [Bd.returns] at h; cases h)
  refine ⟨_, _, castTop (ef_3 m (.int p0) rfl (.int p1) rfl (.int p2) rfl (.int p3) rfl) ?_, hrun, hended, _, _, rfl, ?_, ⟨_, rfl⟩, hW.wide, hW.no_new_pair _, hsame.mono (by decide) (by decide)⟩
  · show Steps p.tables e below (s₁.setTop (mkF m 0 #[.val (.int p0), .val (.int p1), .val (.int p2), .val (.int p3), .unset, .unset, .unset] [])) _
    refine XS.iloadN X0.here hx rfl (hb hby at_0) rfl ?_
    refine XS.iconst X0.here hx rfl (hb hby at_1) ?_
    refine XS.iand X0.here hx rfl (hb hby at_2) rfl ?_
    show Steps p.tables e below (s₁.setTop (mkF m 3 #[.val (.int p0), .val (.int p1), .val (.int p2), .val (.int p3), .unset, .unset, .unset] [(.int (p0 &&& (3 : Int32)))])) _
    rw [hp0]
    refine XS.istore X0.here hx rfl (hb hby at_3) rfl (l' := #[.val (.int p0), .val (.int p1), .val (.int p2), .val (.int p3), .val (.int (0 : Int32)), .unset, .unset]) rfl ?_
    show Steps p.tables e below (s₁.setTop (mkF m 5 #[.val (.int p0), .val (.int p1), .val (.int p2), .val (.int p3), .val (.int (0 : Int32)), .unset, .unset] [])) _
    refine st1 _ ?_
    refine XS.iload X1.here hx rfl (hb hby at_102) rfl ?_
    refine XS.ifYes X1.here hx rfl (pc0 := 104) (pc' := 125) rfl (hb hby at_104) rfl ((if0 _ _).trans (flt (by decide : ¬ ((0 : Int32) < (0 : Int32)))).2.2.2) (by decide) (by decide) ?_
    refine XS.iload X1.here hx rfl (hb hby at_125) rfl ?_
    refine XS.ifYes X1.here hx rfl (pc0 := 127) (pc' := 150) rfl (hb hby at_127) rfl ((if0 _ _).trans (flt (by decide : ¬ ((0 : Int32) < (0 : Int32)))).2.2.2) (by decide) (by decide) ?_
    refine XS.iload X1.here hx rfl (hb hby at_150) rfl ?_
    refine XS.ifNo X1.here hx rfl (hb hby at_152) rfl ((if0 _ _).trans (feq (by decide : ¬ ((1 : Int32) = (0 : Int32)))).1) ?_
    refine XS.aload X1.here hx rfl (hb hby at_155) rfl rfl ?_
    show Steps p.tables e below (T1.setTop (mkF m 157 #[.val (.int p0), .val (.int p1), .val (.int p2), .val (.int p3), .val (.int (0 : Int32)), .val (.ref b1_0), .val (.int (1 : Int32))] [(.ref b1_0)])) _
    refine st2.trans ?_
    refine XS.iload X2.here hx rfl (hb hby at_160) rfl ?_
    refine XS.ifYes X2.here hx rfl (pc0 := 162) (pc' := 169) rfl (hb hby at_162) rfl ((if0 _ _).trans (flt (by decide : ¬ ((0 : Int32) < (0 : Int32)))).2.2.2) (by decide) (by decide) ?_
    refine XS.iconst X2.here hx rfl (hb hby at_169) ?_
    refine XS.icmpNo X2.here hx rfl (hb hby at_170) rfl (teq (by decide : (0 : Int32) = (0 : Int32))).2 ?_
    refine XS.iconst X2.here hx rfl (hb hby at_173) ?_
    refine XS.goto X2.here hx rfl (pc0 := 174) (pc' := 178) rfl (hb hby at_174) (by decide) (by decide) ?_
    refine XS.istore X2.here hx rfl (hb hby at_178) rfl (l' := #[.val (.int p0), .val (.int p1), .val (.int p2), .val (.int p3), .val (.int (0 : Int32)), .val (.ref b1_0), .val (.int (1 : Int32))]) rfl ?_
    show Steps p.tables e below (T2.setTop (mkF m 180 #[.val (.int p0), .val (.int p1), .val (.int p2), .val (.int p3), .val (.int (0 : Int32)), .val (.ref b1_0), .val (.int (1 : Int32))] [])) _
    refine XS.iload X2.here hx rfl (hb hby at_180) rfl ?_
    show Steps p.tables e below (T2.setTop (mkF m 182 #[.val (.int p0), .val (.int p1), .val (.int p2), .val (.int p3), .val (.int (0 : Int32)), .val (.ref b1_0), .val (.int (1 : Int32))] [(.int (1 : Int32))])) _
    exact retN X2 hx (t := .boolean) Bd.returns (by simp) (hb hby at_182) hr
  · show OL (some (.int (1 : Int32))) Z.heap.size _ T2.heap _
    exact ⟨rfl, N2⟩
theorem d5_0 : decode prog_20_method_3_code 0 = .ok (.aload_n 0, 1) := by decide +kernel
theorem d5_1 : decode prog_20_method_3_code 1 = .ok (.invokevirtual 49, 3) := by decide +kernel
theorem d6_0 : decode prog_20_method_9_code 0 = .ok (.aload_n 0, 1) := by decide +kernel
theorem d6_1 : decode prog_20_method_9_code 1 = .ok (.getfield 46, 3) := by decide +kernel
theorem d6_4 : decode prog_20_method_9_code 4 = .ok (.ldc 134, 2) := by decide +kernel
theorem d6_6 : decode prog_20_method_9_code 6 = .ok (.if_icmp .ne 13, 3) := by decide +kernel
theorem d6_19 : decode prog_20_method_9_code 19 = .ok (.aload_n 0, 1) := by decide +kernel
theorem d6_20 : decode prog_20_method_9_code 20 = .ok (.getfield 46, 3) := by decide +kernel
theorem d6_23 : decode prog_20_method_9_code 23 = .ok (.aload_n 0, 1) := by decide +kernel
theorem d6_24 : decode prog_20_method_9_code 24 = .ok (.getfield 9, 3) := by decide +kernel
theorem d6_27 : decode prog_20_method_9_code 27 = .ok (.arraylength, 1) := by decide +kernel
theorem d6_28 : decode prog_20_method_9_code 28 = .ok (.if_icmp .ne 58, 3) := by decide +kernel
theorem d6_86 : decode prog_20_method_9_code 86 = .ok (.aload_n 0, 1) := by decide +kernel
theorem d6_87 : decode prog_20_method_9_code 87 = .ok (.dup, 1) := by decide +kernel
theorem d6_88 : decode prog_20_method_9_code 88 = .ok (.getfield 46, 3) := by decide +kernel
theorem d6_91 : decode prog_20_method_9_code 91 = .ok (.dup_x1, 1) := by decide +kernel
theorem d6_92 : decode prog_20_method_9_code 92 = .ok (.iconst 1, 1) := by decide +kernel
theorem d6_93 : decode prog_20_method_9_code 93 = .ok (.iadd, 1) := by decide +kernel
theorem d6_94 : decode prog_20_method_9_code 94 = .ok (.putfield 46, 3) := by decide +kernel
theorem sn_106 {a0 : Array Value} {Z : State} (hw : ∀ d ∈ tables_1, d.before a0 Z = true) : Jvm.RoadKit.slotOf Z s_0 "nextBlock" "[I" ≠ Jvm.RoadKit.slotOf Z s_0 "blockCount" "I" := slot_ne (Or.inl (W hw 11 rfl)) (Or.inl (W hw 58 rfl)) (by decide) (t := (.array .int)) (t' := .int) (by decide) (by decide)
theorem sn_107 {a0 : Array Value} {Z : State} (hw : ∀ d ∈ tables_1, d.before a0 Z = true) : Jvm.RoadKit.slotOf Z s_0 s_5 "[I" ≠ Jvm.RoadKit.slotOf Z s_0 "blockCount" "I" := slot_ne (Or.inl (W hw 13 rfl)) (Or.inl (W hw 58 rfl)) (by decide) (t := (.array .int)) (t' := .int) (by decide) (by decide)
theorem sn_108 {a0 : Array Value} {Z : State} (hw : ∀ d ∈ tables_1, d.before a0 Z = true) : Jvm.RoadKit.slotOf Z s_0 "firstPiece" "[I" ≠ Jvm.RoadKit.slotOf Z s_0 "blockCount" "I" := slot_ne (Or.inl (W hw 15 rfl)) (Or.inl (W hw 58 rfl)) (by decide) (t := (.array .int)) (t' := .int) (by decide) (by decide)
theorem sn_109 {a0 : Array Value} {Z : State} (hw : ∀ d ∈ tables_1, d.before a0 Z = true) : Jvm.RoadKit.slotOf Z s_0 "lastPiece" "[I" ≠ Jvm.RoadKit.slotOf Z s_0 "blockCount" "I" := slot_ne (Or.inl (W hw 17 rfl)) (Or.inl (W hw 58 rfl)) (by decide) (t := (.array .int)) (t' := .int) (by decide) (by decide)
theorem sn_110 {a0 : Array Value} {Z : State} (hw : ∀ d ∈ tables_1, d.before a0 Z = true) : Jvm.RoadKit.slotOf Z s_0 "closed" s_3 ≠ Jvm.RoadKit.slotOf Z s_0 "blockCount" "I" := slot_ne (Or.inr (W hw 41 rfl)) (Or.inl (W hw 58 rfl)) (by decide) (t := (.object s_1)) (t' := .int) (by decide) (by decide)
theorem sn_111 {a0 : Array Value} {Z : State} (hw : ∀ d ∈ tables_1, d.before a0 Z = true) : Jvm.RoadKit.slotOf Z s_0 "firstBlock" "I" ≠ Jvm.RoadKit.slotOf Z s_0 "blockCount" "I" := slot_ne (Or.inl (W hw 43 rfl)) (Or.inl (W hw 58 rfl)) (by decide) (t := .int) (t' := .int) (by decide) (by decide)
theorem sn_112 {a0 : Array Value} {Z : State} (hw : ∀ d ∈ tables_1, d.before a0 Z = true) : Jvm.RoadKit.slotOf Z s_0 "lastBlock" "I" ≠ Jvm.RoadKit.slotOf Z s_0 "blockCount" "I" := slot_ne (Or.inl (W hw 45 rfl)) (Or.inl (W hw 58 rfl)) (by decide) (t := .int) (t' := .int) (by decide) (by decide)
theorem d6_97 : decode prog_20_method_9_code 97 = .ok (.istore_n 1, 1) := by decide +kernel
theorem d6_98 : decode prog_20_method_9_code 98 = .ok (.aload_n 0, 1) := by decide +kernel
theorem d6_99 : decode prog_20_method_9_code 99 = .ok (.getfield 9, 3) := by decide +kernel
theorem d6_102 : decode prog_20_method_9_code 102 = .ok (.iload_n 1, 1) := by decide +kernel
theorem d6_103 : decode prog_20_method_9_code 103 = .ok (.iconst (-1), 1) := by decide +kernel
theorem d6_104 : decode prog_20_method_9_code 104 = .ok (.iastore, 1) := by decide +kernel
theorem d6_105 : decode prog_20_method_9_code 105 = .ok (.aload_n 0, 1) := by decide +kernel
theorem d6_106 : decode prog_20_method_9_code 106 = .ok (.getfield 13, 3) := by decide +kernel
theorem d6_109 : decode prog_20_method_9_code 109 = .ok (.iload_n 1, 1) := by decide +kernel
theorem d6_110 : decode prog_20_method_9_code 110 = .ok (.iconst (-1), 1) := by decide +kernel
theorem d6_111 : decode prog_20_method_9_code 111 = .ok (.iastore, 1) := by decide +kernel
theorem d6_112 : decode prog_20_method_9_code 112 = .ok (.aload_n 0, 1) := by decide +kernel
theorem d6_113 : decode prog_20_method_9_code 113 = .ok (.getfield 16, 3) := by decide +kernel
theorem d6_116 : decode prog_20_method_9_code 116 = .ok (.iload_n 1, 1) := by decide +kernel
theorem d6_117 : decode prog_20_method_9_code 117 = .ok (.iconst (-1), 1) := by decide +kernel
theorem d6_118 : decode prog_20_method_9_code 118 = .ok (.iastore, 1) := by decide +kernel
theorem d6_119 : decode prog_20_method_9_code 119 = .ok (.aload_n 0, 1) := by decide +kernel
theorem d6_120 : decode prog_20_method_9_code 120 = .ok (.getfield 19, 3) := by decide +kernel
theorem d6_123 : decode prog_20_method_9_code 123 = .ok (.iload_n 1, 1) := by decide +kernel
theorem d6_124 : decode prog_20_method_9_code 124 = .ok (.iconst (-1), 1) := by decide +kernel
theorem d6_125 : decode prog_20_method_9_code 125 = .ok (.iastore, 1) := by decide +kernel
theorem d6_126 : decode prog_20_method_9_code 126 = .ok (.iload_n 1, 1) := by decide +kernel
theorem d6_127 : decode prog_20_method_9_code 127 = .ok (.ireturn, 1) := by decide +kernel
theorem ef_4 (m : MethodId) (x0 : Value) (h0 : x0.category = 1) : entryFrame m #[x0] 2 = mkF m 0 #[.val x0, .unset] [] := by first | (simp [entryFrame, mkF, argsToLocals, h0]; done) | rfl
def Qd_2 (Z : State) (w : Nat → Addr) (kk : Nat → ClassId) (iw : Nat → Int32) (vw : Nat → Value) (o1 : Addr) (o2 : Addr) (o3 : Addr) (o4 : Addr) (o5 : Addr) (o6 : Addr) (kc_o2 : ClassId) (kc_o3 : ClassId) (kc_o4 : ClassId) (kc_o5 : ClassId) (o7 : Addr) (kc_o7 : ClassId) (h0 : Heap) (n0 : Nat) (v : Option Value) (h : Heap) (L : List Loc) : Prop := v = some (.int (0 : Int32)) ∧ Fr n0 L ∧ Keep h0 h [o1, o2, o3, o4, o5] ∧ Exa Z h o1 s_0 ∧ Fld Z h o1 s_0 "nextBlock" "[I" (.ref o2) ∧ Fld Z h o1 s_0 s_5 "[I" (.ref o3) ∧ Fld Z h o1 s_0 "firstPiece" "[I" (.ref o4) ∧ Fld Z h o1 s_0 "lastPiece" "[I" (.ref o5) ∧ Fld Z h o1 s_0 "closed" s_3 (.ref o6) ∧ Fld Z h o1 s_0 "firstBlock" "I" (.int (-1 : Int32)) ∧ Fld Z h o1 s_0 "lastBlock" "I" (.int (-1 : Int32)) ∧ Fld Z h o1 s_0 "blockCount" "I" (.int (1 : Int32)) ∧ Arv Z h o2 kc_o2 .int (64 : Int32) [(.int (-1 : Int32))] (.int (0 : Int32)) ∧ Arv Z h o3 kc_o3 .int (64 : Int32) [(.int (-1 : Int32))] (.int (0 : Int32)) ∧ Arv Z h o4 kc_o4 .int (64 : Int32) [(.int (-1 : Int32))] (.int (0 : Int32)) ∧ Arv Z h o5 kc_o5 .int (64 : Int32) [(.int (-1 : Int32))] (.int (0 : Int32))
set_option maxRecDepth 65536 in
set_option maxHeartbeats 40000000 in
theorem rm_8 (l : Launch) (Z : State) (a0 : Array Value) (hw : ∀ d ∈ tables_1, d.before a0 Z = true) (w : Nat → Addr) (kk : Nat → ClassId) (iw : Nat → Int32) (vw : Nat → Value) (hN : Wd Z w kk iw vw) (ws : List Jvm.Cond) (o1 : Addr) (o2 : Addr) (o3 : Addr) (o4 : Addr) (o5 : Addr) (o6 : Addr) (kc_o2 : ClassId) (kc_o3 : ClassId) (kc_o4 : ClassId) (kc_o5 : ClassId) (o7 : Addr) (kc_o7 : ClassId) (h0 : Heap) (O0 : Old Z Z.heap.size h0) (gn_o1 : Z.heap.size ≤ o1) (lt_o1 : o1 < h0.size) (E_o1 : Exa Z h0 o1 s_0) (gn_o2 : Z.heap.size ≤ o2) (lt_o2 : o2 < h0.size) (F_o1_nextBlock : Fld Z h0 o1 s_0 "nextBlock" "[I" (.ref o2)) (gn_o3 : Z.heap.size ≤ o3) (lt_o3 : o3 < h0.size) (F_o1_previousBlock : Fld Z h0 o1 s_0 s_5 "[I" (.ref o3)) (gn_o4 : Z.heap.size ≤ o4) (lt_o4 : o4 < h0.size) (F_o1_firstPiece : Fld Z h0 o1 s_0 "firstPiece" "[I" (.ref o4)) (gn_o5 : Z.heap.size ≤ o5) (lt_o5 : o5 < h0.size) (F_o1_lastPiece : Fld Z h0 o1 s_0 "lastPiece" "[I" (.ref o5)) (gn_o6 : Z.heap.size ≤ o6) (lt_o6 : o6 < h0.size) (F_o1_closed : Fld Z h0 o1 s_0 "closed" s_3 (.ref o6)) (F_o1_firstBlock : Fld Z h0 o1 s_0 "firstBlock" "I" (.int (-1 : Int32))) (F_o1_lastBlock : Fld Z h0 o1 s_0 "lastBlock" "I" (.int (-1 : Int32))) (F_o1_blockCount : Fld Z h0 o1 s_0 "blockCount" "I" (.int (0 : Int32))) (V_o2 : Arv Z h0 o2 kc_o2 .int (64 : Int32) [] (.int (0 : Int32))) (V_o3 : Arv Z h0 o3 kc_o3 .int (64 : Int32) [] (.int (0 : Int32))) (V_o4 : Arv Z h0 o4 kc_o4 .int (64 : Int32) [] (.int (0 : Int32))) (V_o5 : Arv Z h0 o5 kc_o5 .int (64 : Int32) [] (.int (0 : Int32))) (E_o6 : Exa Z h0 o6 s_1) (F_o6_wordsInUse : Fld Z h0 o6 s_1 "wordsInUse" "I" (.int (0 : Int32))) (F_o6_sizeIsSticky : Fld Z h0 o6 s_1 s_6 "Z" (.int (0 : Int32))) (gn_o7 : Z.heap.size ≤ o7) (lt_o7 : o7 < h0.size) (F_o6_words : Fld Z h0 o6 s_1 "words" "[J" (.ref o7)) (V_o7 : Arv Z h0 o7 kc_o7 .long (1 : Int32) [] (.long (0 : Int64))) (ne_o1_o2 : o1 ≠ o2) (ne_o1_o3 : o1 ≠ o3) (ne_o1_o4 : o1 ≠ o4) (ne_o1_o5 : o1 ≠ o5) (ne_o1_o6 : o1 ≠ o6) (ne_o1_o7 : o1 ≠ o7) (ne_o2_o3 : o2 ≠ o3) (ne_o2_o4 : o2 ≠ o4) (ne_o2_o5 : o2 ≠ o5) (ne_o2_o6 : o2 ≠ o6) (ne_o2_o7 : o2 ≠ o7) (ne_o3_o4 : o3 ≠ o4) (ne_o3_o5 : o3 ≠ o5) (ne_o3_o6 : o3 ≠ o6) (ne_o3_o7 : o3 ≠ o7) (ne_o4_o5 : o4 ≠ o5) (ne_o4_o6 : o4 ≠ o6) (ne_o4_o7 : o4 ≠ o7) (ne_o5_o6 : o5 ≠ o6) (ne_o5_o7 : o5 ≠ o7) (ne_o6_o7 : o6 ≠ o7) :
    Met l Z (⟨s_0, "newBlock", "()I"⟩ : MethodName) (Jvm.Cond.code (⟨s_0, "newBlock", "()I"⟩ : MethodName) prog_20_method_9_code 2 (some .int)) ws (Rm 0 0 0 0) #[(.ref o1)] h0 (Qd_2 Z w kk iw vw o1 o2 o3 o4 o5 o6 kc_o2 kc_o3 kc_o4 kc_o5 o7 kc_o7 h0 Z.heap.size) := by
  have hN' := hN
  have hL0 : Sta Z Z.heap s_1 s_4 "Z" (.int (1 : Int32)) := hN'
  refine own_body (plainFor_of_name pn_1) hisR ?_
  intro p e s m below meth c s₁ hx hby hml hown hnm hret X0 hZ e0
  have N0 := Fr.nil Z.heap.size
  have K0 : Keep h0 h0 [o1, o2, o3, o4, o5] := Keep.refl _ _
  obtain ⟨T1, X1, e1, st1⟩ := getF X0 hx hZ hown (host := "") (Or.inl (W hw 57 rfl)) Via.refl e0 F_o1_blockCount (g := (mkF m 1 #[.val (.ref o1), .unset] [(.ref o1)])) rfl rfl (hb hby d6_1)
  obtain ⟨T2, X2, e2, st2⟩ := getF X1 hx hZ hown (host := "") (Or.inl (W hw 57 rfl)) Via.refl e1 F_o1_blockCount (g := (mkF m 20 #[.val (.ref o1), .unset] [(.ref o1)])) rfl rfl (hb hby d6_20)
  obtain ⟨T3, X3, e3, st3⟩ := getF X2 hx hZ hown (host := "") (Or.inl (W hw 10 rfl)) Via.refl e2 F_o1_nextBlock (g := (mkF m 24 #[.val (.ref o1), .unset] [(.ref o1), (.int (0 : Int32))])) rfl rfl (hb hby d6_24)
  obtain ⟨cl4, Ar4, q4, Sz4, Ng4, Hv4, Gv4⟩ := id V_o2
  obtain ⟨T5, X5, e5, st5⟩ := getF X3 hx hZ hown (host := "") (Or.inl (W hw 57 rfl)) Via.refl e3 F_o1_blockCount (g := (mkF m 88 #[.val (.ref o1), .unset] [(.ref o1), (.ref o1)])) rfl rfl (hb hby d6_88)
  obtain ⟨T6, h6, X6, e6, W6, st6⟩ := putF X5 hx hZ hown (host := "") (Or.inl (W hw 57 rfl)) Via.refl e5 F_o1_blockCount E_o1 (Or.inl (W hw 58 rfl)) (W hw 1 rfl) (ty := .int) (by decide) rfl rfl (g := (mkF m 94 #[.val (.ref o1), .unset] [(.int (1 : Int32)), (.ref o1), (.int (0 : Int32))])) rfl rfl (hb hby d6_94)
  have F_o1_blockCount_v6 := F_o1_blockCount.same W6
  have N6 := Fr.snoc X6 N0 gn_o1
  have E_o1_v6 := E_o1.wr W6
  have F_o1_nextBlock_v6 := F_o1_nextBlock.other W6 (Or.inr (sn_106 hw))
  have F_o1_previousBlock_v6 := F_o1_previousBlock.other W6 (Or.inr (sn_107 hw))
  have F_o1_firstPiece_v6 := F_o1_firstPiece.other W6 (Or.inr (sn_108 hw))
  have F_o1_lastPiece_v6 := F_o1_lastPiece.other W6 (Or.inr (sn_109 hw))
  have F_o1_closed_v6 := F_o1_closed.other W6 (Or.inr (sn_110 hw))
  have F_o1_firstBlock_v6 := F_o1_firstBlock.other W6 (Or.inr (sn_111 hw))
  have F_o1_lastBlock_v6 := F_o1_lastBlock.other W6 (Or.inr (sn_112 hw))
  have V_o2_v6 := V_o2.other W6 (Ne.symm ne_o1_o2)
  have V_o3_v6 := V_o3.other W6 (Ne.symm ne_o1_o3)
  have V_o4_v6 := V_o4.other W6 (Ne.symm ne_o1_o4)
  have V_o5_v6 := V_o5.other W6 (Ne.symm ne_o1_o5)
  have E_o6_v6 := E_o6.wr W6
  have F_o6_wordsInUse_v6 := F_o6_wordsInUse.other W6 (Or.inl (Ne.symm ne_o1_o6))
  have F_o6_sizeIsSticky_v6 := F_o6_sizeIsSticky.other W6 (Or.inl (Ne.symm ne_o1_o6))
  have F_o6_words_v6 := F_o6_words.other W6 (Or.inl (Ne.symm ne_o1_o6))
  have V_o7_v6 := V_o7.other W6 (Ne.symm ne_o1_o7)
  have O6 := O0.wr W6 gn_o1
  have K6 : Keep h0 h6 [o1, o2, o3, o4, o5] := K0.wr W6 (Or.inl (List.mem_of_getElem? (i := 0) rfl))
  obtain ⟨T7, X7, e7, st7⟩ := getF X6 hx hZ hown (host := "") (Or.inl (W hw 10 rfl)) Via.refl e6 F_o1_nextBlock_v6 (g := (mkF m 99 #[.val (.ref o1), .val (.int (0 : Int32))] [(.ref o1)])) rfl rfl (hb hby d6_99)
  have V_o2_v8 : Arv Z h6 o2 kc_o2 .int (64 : Int32) [(.int (0 : Int32))] (.int (0 : Int32)) := V_o2_v6.pad (pad_rep [] (.int (0 : Int32)) 1)
  obtain ⟨cl9, Ar9, q9, Sz9, Ng9, Hv9, Gv9⟩ := V_o2_v8
  have hin9 : ¬ ((0 : Int32) < 0 ∨ cl9.slots.size ≤ ((0 : Int32)).toNatClampNeg) := inb_of Sz9 ⟨by decide, by decide⟩
  obtain ⟨T10, h10, X10, e10, W10, st10⟩ := stI X7 hx hZ e7 Ar9 (j := (0 : Int32)) hin9 (g := (mkF m 104 #[.val (.ref o1), .val (.int (0 : Int32))] [(.int (-1 : Int32)), (.int (0 : Int32)), (.ref o2)])) rfl rfl (hb hby d6_104)
  have V_o2_v10 : Arv Z h10 o2 kc_o2 .int (64 : Int32) [(.int (-1 : Int32))] (.int (0 : Int32)) := Arv.set Ar9 q9 Sz9 Ng9 Hv9 Gv9 rfl W10 0 rfl (Nat.le_of_ble_eq_true rfl)
  have N10 := Fr.snoc X10 N6 gn_o2
  have E_o1_v10 := E_o1_v6.wr W10
  have F_o1_nextBlock_v10 := F_o1_nextBlock_v6.other W10 (Or.inl ne_o1_o2)
  have F_o1_previousBlock_v10 := F_o1_previousBlock_v6.other W10 (Or.inl ne_o1_o2)
  have F_o1_firstPiece_v10 := F_o1_firstPiece_v6.other W10 (Or.inl ne_o1_o2)
  have F_o1_lastPiece_v10 := F_o1_lastPiece_v6.other W10 (Or.inl ne_o1_o2)
  have F_o1_closed_v10 := F_o1_closed_v6.other W10 (Or.inl ne_o1_o2)
  have F_o1_firstBlock_v10 := F_o1_firstBlock_v6.other W10 (Or.inl ne_o1_o2)
  have F_o1_lastBlock_v10 := F_o1_lastBlock_v6.other W10 (Or.inl ne_o1_o2)
  have F_o1_blockCount_v10 := F_o1_blockCount_v6.other W10 (Or.inl ne_o1_o2)
  have V_o3_v10 := V_o3_v6.other W10 (Ne.symm ne_o2_o3)
  have V_o4_v10 := V_o4_v6.other W10 (Ne.symm ne_o2_o4)
  have V_o5_v10 := V_o5_v6.other W10 (Ne.symm ne_o2_o5)
  have E_o6_v10 := E_o6_v6.wr W10
  have F_o6_wordsInUse_v10 := F_o6_wordsInUse_v6.other W10 (Or.inl (Ne.symm ne_o2_o6))
  have F_o6_sizeIsSticky_v10 := F_o6_sizeIsSticky_v6.other W10 (Or.inl (Ne.symm ne_o2_o6))
  have F_o6_words_v10 := F_o6_words_v6.other W10 (Or.inl (Ne.symm ne_o2_o6))
  have V_o7_v10 := V_o7_v6.other W10 (Ne.symm ne_o2_o7)
  have O10 := O6.wr W10 gn_o2
  have K10 : Keep h0 h10 [o1, o2, o3, o4, o5] := K6.wr W10 (Or.inl (List.mem_of_getElem? (i := 1) rfl))
  obtain ⟨T11, X11, e11, st11⟩ := getF X10 hx hZ hown (host := "") (Or.inl (W hw 12 rfl)) Via.refl e10 F_o1_previousBlock_v10 (g := (mkF m 106 #[.val (.ref o1), .val (.int (0 : Int32))] [(.ref o1)])) rfl rfl (hb hby d6_106)
  have V_o3_v12 : Arv Z h10 o3 kc_o3 .int (64 : Int32) [(.int (0 : Int32))] (.int (0 : Int32)) := V_o3_v10.pad (pad_rep [] (.int (0 : Int32)) 1)
  obtain ⟨cl13, Ar13, q13, Sz13, Ng13, Hv13, Gv13⟩ := V_o3_v12
  have hin13 : ¬ ((0 : Int32) < 0 ∨ cl13.slots.size ≤ ((0 : Int32)).toNatClampNeg) := inb_of Sz13 ⟨by decide, by decide⟩
  obtain ⟨T14, h14, X14, e14, W14, st14⟩ := stI X11 hx hZ e11 Ar13 (j := (0 : Int32)) hin13 (g := (mkF m 111 #[.val (.ref o1), .val (.int (0 : Int32))] [(.int (-1 : Int32)), (.int (0 : Int32)), (.ref o3)])) rfl rfl (hb hby d6_111)
  have V_o3_v14 : Arv Z h14 o3 kc_o3 .int (64 : Int32) [(.int (-1 : Int32))] (.int (0 : Int32)) := Arv.set Ar13 q13 Sz13 Ng13 Hv13 Gv13 rfl W14 0 rfl (Nat.le_of_ble_eq_true rfl)
  have N14 := Fr.snoc X14 N10 gn_o3
  have E_o1_v14 := E_o1_v10.wr W14
  have F_o1_nextBlock_v14 := F_o1_nextBlock_v10.other W14 (Or.inl ne_o1_o3)
  have F_o1_previousBlock_v14 := F_o1_previousBlock_v10.other W14 (Or.inl ne_o1_o3)
  have F_o1_firstPiece_v14 := F_o1_firstPiece_v10.other W14 (Or.inl ne_o1_o3)
  have F_o1_lastPiece_v14 := F_o1_lastPiece_v10.other W14 (Or.inl ne_o1_o3)
  have F_o1_closed_v14 := F_o1_closed_v10.other W14 (Or.inl ne_o1_o3)
  have F_o1_firstBlock_v14 := F_o1_firstBlock_v10.other W14 (Or.inl ne_o1_o3)
  have F_o1_lastBlock_v14 := F_o1_lastBlock_v10.other W14 (Or.inl ne_o1_o3)
  have F_o1_blockCount_v14 := F_o1_blockCount_v10.other W14 (Or.inl ne_o1_o3)
  have V_o2_v14 := V_o2_v10.other W14 ne_o2_o3
  have V_o4_v14 := V_o4_v10.other W14 (Ne.symm ne_o3_o4)
  have V_o5_v14 := V_o5_v10.other W14 (Ne.symm ne_o3_o5)
  have E_o6_v14 := E_o6_v10.wr W14
  have F_o6_wordsInUse_v14 := F_o6_wordsInUse_v10.other W14 (Or.inl (Ne.symm ne_o3_o6))
  have F_o6_sizeIsSticky_v14 := F_o6_sizeIsSticky_v10.other W14 (Or.inl (Ne.symm ne_o3_o6))
  have F_o6_words_v14 := F_o6_words_v10.other W14 (Or.inl (Ne.symm ne_o3_o6))
  have V_o7_v14 := V_o7_v10.other W14 (Ne.symm ne_o3_o7)
  have O14 := O10.wr W14 gn_o3
  have K14 : Keep h0 h14 [o1, o2, o3, o4, o5] := K10.wr W14 (Or.inl (List.mem_of_getElem? (i := 2) rfl))
  obtain ⟨T15, X15, e15, st15⟩ := getF X14 hx hZ hown (host := "") (Or.inl (W hw 14 rfl)) Via.refl e14 F_o1_firstPiece_v14 (g := (mkF m 113 #[.val (.ref o1), .val (.int (0 : Int32))] [(.ref o1)])) rfl rfl (hb hby d6_113)
  have V_o4_v16 : Arv Z h14 o4 kc_o4 .int (64 : Int32) [(.int (0 : Int32))] (.int (0 : Int32)) := V_o4_v14.pad (pad_rep [] (.int (0 : Int32)) 1)
  obtain ⟨cl17, Ar17, q17, Sz17, Ng17, Hv17, Gv17⟩ := V_o4_v16
  have hin17 : ¬ ((0 : Int32) < 0 ∨ cl17.slots.size ≤ ((0 : Int32)).toNatClampNeg) := inb_of Sz17 ⟨by decide, by decide⟩
  obtain ⟨T18, h18, X18, e18, W18, st18⟩ := stI X15 hx hZ e15 Ar17 (j := (0 : Int32)) hin17 (g := (mkF m 118 #[.val (.ref o1), .val (.int (0 : Int32))] [(.int (-1 : Int32)), (.int (0 : Int32)), (.ref o4)])) rfl rfl (hb hby d6_118)
  have V_o4_v18 : Arv Z h18 o4 kc_o4 .int (64 : Int32) [(.int (-1 : Int32))] (.int (0 : Int32)) := Arv.set Ar17 q17 Sz17 Ng17 Hv17 Gv17 rfl W18 0 rfl (Nat.le_of_ble_eq_true rfl)
  have N18 := Fr.snoc X18 N14 gn_o4
  have E_o1_v18 := E_o1_v14.wr W18
  have F_o1_nextBlock_v18 := F_o1_nextBlock_v14.other W18 (Or.inl ne_o1_o4)
  have F_o1_previousBlock_v18 := F_o1_previousBlock_v14.other W18 (Or.inl ne_o1_o4)
  have F_o1_firstPiece_v18 := F_o1_firstPiece_v14.other W18 (Or.inl ne_o1_o4)
  have F_o1_lastPiece_v18 := F_o1_lastPiece_v14.other W18 (Or.inl ne_o1_o4)
  have F_o1_closed_v18 := F_o1_closed_v14.other W18 (Or.inl ne_o1_o4)
  have F_o1_firstBlock_v18 := F_o1_firstBlock_v14.other W18 (Or.inl ne_o1_o4)
  have F_o1_lastBlock_v18 := F_o1_lastBlock_v14.other W18 (Or.inl ne_o1_o4)
  have F_o1_blockCount_v18 := F_o1_blockCount_v14.other W18 (Or.inl ne_o1_o4)
  have V_o2_v18 := V_o2_v14.other W18 ne_o2_o4
  have V_o3_v18 := V_o3_v14.other W18 ne_o3_o4
  have V_o5_v18 := V_o5_v14.other W18 (Ne.symm ne_o4_o5)
  have E_o6_v18 := E_o6_v14.wr W18
  have F_o6_wordsInUse_v18 := F_o6_wordsInUse_v14.other W18 (Or.inl (Ne.symm ne_o4_o6))
  have F_o6_sizeIsSticky_v18 := F_o6_sizeIsSticky_v14.other W18 (Or.inl (Ne.symm ne_o4_o6))
  have F_o6_words_v18 := F_o6_words_v14.other W18 (Or.inl (Ne.symm ne_o4_o6))
  have V_o7_v18 := V_o7_v14.other W18 (Ne.symm ne_o4_o7)
  have O18 := O14.wr W18 gn_o4
  have K18 : Keep h0 h18 [o1, o2, o3, o4, o5] := K14.wr W18 (Or.inl (List.mem_of_getElem? (i := 3) rfl))
  obtain ⟨T19, X19, e19, st19⟩ := getF X18 hx hZ hown (host := "") (Or.inl (W hw 16 rfl)) Via.refl e18 F_o1_lastPiece_v18 (g := (mkF m 120 #[.val (.ref o1), .val (.int (0 : Int32))] [(.ref o1)])) rfl rfl (hb hby d6_120)
  have V_o5_v20 : Arv Z h18 o5 kc_o5 .int (64 : Int32) [(.int (0 : Int32))] (.int (0 : Int32)) := V_o5_v18.pad (pad_rep [] (.int (0 : Int32)) 1)
  obtain ⟨cl21, Ar21, q21, Sz21, Ng21, Hv21, Gv21⟩ := V_o5_v20
  have hin21 : ¬ ((0 : Int32) < 0 ∨ cl21.slots.size ≤ ((0 : Int32)).toNatClampNeg) := inb_of Sz21 ⟨by decide, by decide⟩
  obtain ⟨T22, h22, X22, e22, W22, st22⟩ := stI X19 hx hZ e19 Ar21 (j := (0 : Int32)) hin21 (g := (mkF m 125 #[.val (.ref o1), .val (.int (0 : Int32))] [(.int (-1 : Int32)), (.int (0 : Int32)), (.ref o5)])) rfl rfl (hb hby d6_125)
  have V_o5_v22 : Arv Z h22 o5 kc_o5 .int (64 : Int32) [(.int (-1 : Int32))] (.int (0 : Int32)) := Arv.set Ar21 q21 Sz21 Ng21 Hv21 Gv21 rfl W22 0 rfl (Nat.le_of_ble_eq_true rfl)
  have N22 := Fr.snoc X22 N18 gn_o5
  have E_o1_v22 := E_o1_v18.wr W22
  have F_o1_nextBlock_v22 := F_o1_nextBlock_v18.other W22 (Or.inl ne_o1_o5)
  have F_o1_previousBlock_v22 := F_o1_previousBlock_v18.other W22 (Or.inl ne_o1_o5)
  have F_o1_firstPiece_v22 := F_o1_firstPiece_v18.other W22 (Or.inl ne_o1_o5)
  have F_o1_lastPiece_v22 := F_o1_lastPiece_v18.other W22 (Or.inl ne_o1_o5)
  have F_o1_closed_v22 := F_o1_closed_v18.other W22 (Or.inl ne_o1_o5)
  have F_o1_firstBlock_v22 := F_o1_firstBlock_v18.other W22 (Or.inl ne_o1_o5)
  have F_o1_lastBlock_v22 := F_o1_lastBlock_v18.other W22 (Or.inl ne_o1_o5)
  have F_o1_blockCount_v22 := F_o1_blockCount_v18.other W22 (Or.inl ne_o1_o5)
  have V_o2_v22 := V_o2_v18.other W22 ne_o2_o5
  have V_o3_v22 := V_o3_v18.other W22 ne_o3_o5
  have V_o4_v22 := V_o4_v18.other W22 ne_o4_o5
  have E_o6_v22 := E_o6_v18.wr W22
  have F_o6_wordsInUse_v22 := F_o6_wordsInUse_v18.other W22 (Or.inl (Ne.symm ne_o5_o6))
  have F_o6_sizeIsSticky_v22 := F_o6_sizeIsSticky_v18.other W22 (Or.inl (Ne.symm ne_o5_o6))
  have F_o6_words_v22 := F_o6_words_v18.other W22 (Or.inl (Ne.symm ne_o5_o6))
  have V_o7_v22 := V_o7_v18.other W22 (Ne.symm ne_o5_o7)
  have O22 := O18.wr W22 gn_o5
  have K22 : Keep h0 h22 [o1, o2, o3, o4, o5] := K18.wr W22 (Or.inl (List.mem_of_getElem? (i := 4) rfl))
  refine ⟨T22, some (.int (0 : Int32)), _, _, _, by decide, by decide, X22, nofun, (by rw [e22]; exact ⟨rfl, N22, K22, E_o1_v22, F_o1_nextBlock_v22, F_o1_previousBlock_v22, F_o1_firstPiece_v22, F_o1_lastPiece_v22, F_o1_closed_v22, F_o1_firstBlock_v22, F_o1_lastBlock_v22, F_o1_blockCount_v22, V_o2_v22, V_o3_v22, V_o4_v22, V_o5_v22⟩), fun fs hr => castTop (ef_4 m (.ref o1) rfl) ?_⟩
  show Steps p.tables e below (s₁.setTop (mkF m 0 #[.val (.ref o1), .unset] [])) _
  refine XS.aloadN X0.here hx rfl (hb hby d6_0) rfl rfl ?_
  refine st1 _ ?_
  refine X1.ldcInt hx hown (mvT hZ (W hw 68 rfl)) (g := (mkF m 4 #[.val (.ref o1), .unset] [(.int (0 : Int32))])) rfl (hb hby d6_4) _ ?_
  refine XS.icmpYes X1.here hx rfl (pc0 := 6) (pc' := 19) rfl (hb hby d6_6) rfl (feq (by decide : ¬ ((0 : Int32) = (524288 : Int32)))).2 (by decide) (by decide) ?_
  refine XS.aloadN X1.here hx rfl (hb hby d6_19) rfl rfl ?_
  refine st2 _ ?_
  refine XS.aloadN X2.here hx rfl (hb hby d6_23) rfl rfl ?_
  refine st3 _ ?_
  show Steps p.tables e below (T3.setTop (mkF m 27 #[.val (.ref o1), .unset] [(.ref o2), (.int (0 : Int32))])) _
  refine X3.arraylength hx (by rw [e3]; exact Ar4.1) (State.isArrayOf_alike hZ.alike Ar4.2.1) (g := (mkF m 27 #[.val (.ref o1), .unset] [(.ref o2), (.int (0 : Int32))])) rfl rfl (hb hby d6_27) _ ?_
  rw [len_of Sz4 Ng4]
  refine XS.icmpYes X3.here hx rfl (pc0 := 28) (pc' := 86) rfl (hb hby d6_28) rfl (feq (by decide : ¬ ((0 : Int32) = (64 : Int32)))).2 (by decide) (by decide) ?_
  refine XS.aloadN X3.here hx rfl (hb hby d6_86) rfl rfl ?_
  refine XS.dup X3.here hx rfl (hb hby d6_87) rfl rfl ?_
  refine st5 _ ?_
  refine XS.dupX1 X5.here hx rfl (hb hby d6_91) rfl rfl rfl ?_
  refine XS.iconst X5.here hx rfl (hb hby d6_92) ?_
  refine XS.iadd X5.here hx rfl (hb hby d6_93) rfl ?_
  show Steps p.tables e below (T5.setTop (mkF m 94 #[.val (.ref o1), .unset] [(.int ((0 : Int32) + (1 : Int32))), (.ref o1), (.int (0 : Int32))])) _
  rw [lf_2]
  show Steps p.tables e below (T5.setTop (mkF m 94 #[.val (.ref o1), .unset] [(.int (1 : Int32)), (.ref o1), (.int (0 : Int32))])) _
  refine st6 _ ?_
  refine XS.istoreN X6.here hx rfl (hb hby d6_97) rfl (l' := #[.val (.ref o1), .val (.int (0 : Int32))]) rfl ?_
  refine XS.aloadN X6.here hx rfl (hb hby d6_98) rfl rfl ?_
  refine st7 _ ?_
  refine XS.iloadN X7.here hx rfl (hb hby d6_102) rfl ?_
  refine XS.iconst X7.here hx rfl (hb hby d6_103) ?_
  refine st10 _ ?_
  refine XS.aloadN X10.here hx rfl (hb hby d6_105) rfl rfl ?_
  show Steps p.tables e below (T10.setTop (mkF m 106 #[.val (.ref o1), .val (.int (0 : Int32))] [(.ref o1)])) _
  refine st11 _ ?_
  refine XS.iloadN X11.here hx rfl (hb hby d6_109) rfl ?_
  refine XS.iconst X11.here hx rfl (hb hby d6_110) ?_
  refine st14 _ ?_
  refine XS.aloadN X14.here hx rfl (hb hby d6_112) rfl rfl ?_
  refine st15 _ ?_
  refine XS.iloadN X15.here hx rfl (hb hby d6_116) rfl ?_
  refine XS.iconst X15.here hx rfl (hb hby d6_117) ?_
  show Steps p.tables e below (T15.setTop (mkF m 118 #[.val (.ref o1), .val (.int (0 : Int32))] [(.int (-1 : Int32)), (.int (0 : Int32)), (.ref o4)])) _
  refine st18 _ ?_
  refine XS.aloadN X18.here hx rfl (hb hby d6_119) rfl rfl ?_
  refine st19 _ ?_
  refine XS.iloadN X19.here hx rfl (hb hby d6_123) rfl ?_
  refine XS.iconst X19.here hx rfl (hb hby d6_124) ?_
  refine st22 _ ?_
  refine XS.iloadN X22.here hx rfl (hb hby d6_126) rfl ?_
  show Steps p.tables e below (T22.setTop (mkF m 127 #[.val (.ref o1), .val (.int (0 : Int32))] [(.int (0 : Int32))])) _
  exact retI X22 hx hret (hb hby d6_127) hr
theorem pd_4 : parseMethodDescriptor "()I" = some ⟨[], some .int⟩ := by decide +kernel
theorem d5_4 : decode prog_20_method_3_code 4 = .ok (.istore_n 1, 1) := by decide +kernel
theorem d5_5 : decode prog_20_method_3_code 5 = .ok (.aload_n 0, 1) := by decide +kernel
theorem d5_6 : decode prog_20_method_3_code 6 = .ok (.getfield 13, 3) := by decide +kernel
theorem d5_9 : decode prog_20_method_3_code 9 = .ok (.iload_n 1, 1) := by decide +kernel
theorem d5_10 : decode prog_20_method_3_code 10 = .ok (.aload_n 0, 1) := by decide +kernel
theorem d5_11 : decode prog_20_method_3_code 11 = .ok (.getfield 33, 3) := by decide +kernel
theorem d5_14 : decode prog_20_method_3_code 14 = .ok (.iastore, 1) := by decide +kernel
theorem d5_15 : decode prog_20_method_3_code 15 = .ok (.aload_n 0, 1) := by decide +kernel
theorem d5_16 : decode prog_20_method_3_code 16 = .ok (.getfield 33, 3) := by decide +kernel
theorem d5_19 : decode prog_20_method_3_code 19 = .ok (.iconst (-1), 1) := by decide +kernel
theorem d5_20 : decode prog_20_method_3_code 20 = .ok (.if_icmp .ne 11, 3) := by decide +kernel
theorem d5_23 : decode prog_20_method_3_code 23 = .ok (.aload_n 0, 1) := by decide +kernel
theorem d5_24 : decode prog_20_method_3_code 24 = .ok (.iload_n 1, 1) := by decide +kernel
theorem d5_25 : decode prog_20_method_3_code 25 = .ok (.putfield 29, 3) := by decide +kernel
theorem d5_28 : decode prog_20_method_3_code 28 = .ok (.goto 13, 3) := by decide +kernel
theorem d5_41 : decode prog_20_method_3_code 41 = .ok (.aload_n 0, 1) := by decide +kernel
theorem d5_42 : decode prog_20_method_3_code 42 = .ok (.iload_n 1, 1) := by decide +kernel
theorem d5_43 : decode prog_20_method_3_code 43 = .ok (.putfield 33, 3) := by decide +kernel
theorem d5_46 : decode prog_20_method_3_code 46 = .ok (.return_, 1) := by decide +kernel
def Qd_3 (Z : State) (w : Nat → Addr) (kk : Nat → ClassId) (iw : Nat → Int32) (vw : Nat → Value) (o1 : Addr) (o2 : Addr) (o3 : Addr) (o4 : Addr) (o5 : Addr) (o6 : Addr) (kc_o2 : ClassId) (kc_o3 : ClassId) (kc_o4 : ClassId) (kc_o5 : ClassId) (o7 : Addr) (kc_o7 : ClassId) (h0 : Heap) (n0 : Nat) (v : Option Value) (h : Heap) (L : List Loc) : Prop := v = none ∧ Fr n0 L ∧ Keep h0 h [o5, o4, o3, o2, o1] ∧ Exa Z h o1 s_0 ∧ Fld Z h o1 s_0 "nextBlock" "[I" (.ref o2) ∧ Fld Z h o1 s_0 s_5 "[I" (.ref o3) ∧ Fld Z h o1 s_0 "firstPiece" "[I" (.ref o4) ∧ Fld Z h o1 s_0 "lastPiece" "[I" (.ref o5) ∧ Fld Z h o1 s_0 "closed" s_3 (.ref o6) ∧ Fld Z h o1 s_0 "firstBlock" "I" (.int (0 : Int32)) ∧ Fld Z h o1 s_0 "lastBlock" "I" (.int (0 : Int32)) ∧ Fld Z h o1 s_0 "blockCount" "I" (.int (1 : Int32)) ∧ Arv Z h o2 kc_o2 .int (64 : Int32) [(.int (-1 : Int32))] (.int (0 : Int32)) ∧ Arv Z h o3 kc_o3 .int (64 : Int32) [(.int (-1 : Int32))] (.int (0 : Int32)) ∧ Arv Z h o4 kc_o4 .int (64 : Int32) [(.int (-1 : Int32))] (.int (0 : Int32)) ∧ Arv Z h o5 kc_o5 .int (64 : Int32) [(.int (-1 : Int32))] (.int (0 : Int32))
set_option maxRecDepth 65536 in
set_option maxHeartbeats 40000000 in
theorem rm_9 (l : Launch) (Z : State) (a0 : Array Value) (hw : ∀ d ∈ tables_1, d.before a0 Z = true) (w : Nat → Addr) (kk : Nat → ClassId) (iw : Nat → Int32) (vw : Nat → Value) (hN : Wd Z w kk iw vw) (ws : List Jvm.Cond) (o1 : Addr) (o2 : Addr) (o3 : Addr) (o4 : Addr) (o5 : Addr) (o6 : Addr) (kc_o2 : ClassId) (kc_o3 : ClassId) (kc_o4 : ClassId) (kc_o5 : ClassId) (o7 : Addr) (kc_o7 : ClassId) (h0 : Heap) (O0 : Old Z Z.heap.size h0) (gn_o1 : Z.heap.size ≤ o1) (lt_o1 : o1 < h0.size) (E_o1 : Exa Z h0 o1 s_0) (gn_o2 : Z.heap.size ≤ o2) (lt_o2 : o2 < h0.size) (F_o1_nextBlock : Fld Z h0 o1 s_0 "nextBlock" "[I" (.ref o2)) (gn_o3 : Z.heap.size ≤ o3) (lt_o3 : o3 < h0.size) (F_o1_previousBlock : Fld Z h0 o1 s_0 s_5 "[I" (.ref o3)) (gn_o4 : Z.heap.size ≤ o4) (lt_o4 : o4 < h0.size) (F_o1_firstPiece : Fld Z h0 o1 s_0 "firstPiece" "[I" (.ref o4)) (gn_o5 : Z.heap.size ≤ o5) (lt_o5 : o5 < h0.size) (F_o1_lastPiece : Fld Z h0 o1 s_0 "lastPiece" "[I" (.ref o5)) (gn_o6 : Z.heap.size ≤ o6) (lt_o6 : o6 < h0.size) (F_o1_closed : Fld Z h0 o1 s_0 "closed" s_3 (.ref o6)) (F_o1_firstBlock : Fld Z h0 o1 s_0 "firstBlock" "I" (.int (-1 : Int32))) (F_o1_lastBlock : Fld Z h0 o1 s_0 "lastBlock" "I" (.int (-1 : Int32))) (F_o1_blockCount : Fld Z h0 o1 s_0 "blockCount" "I" (.int (0 : Int32))) (V_o2 : Arv Z h0 o2 kc_o2 .int (64 : Int32) [] (.int (0 : Int32))) (V_o3 : Arv Z h0 o3 kc_o3 .int (64 : Int32) [] (.int (0 : Int32))) (V_o4 : Arv Z h0 o4 kc_o4 .int (64 : Int32) [] (.int (0 : Int32))) (V_o5 : Arv Z h0 o5 kc_o5 .int (64 : Int32) [] (.int (0 : Int32))) (E_o6 : Exa Z h0 o6 s_1) (F_o6_wordsInUse : Fld Z h0 o6 s_1 "wordsInUse" "I" (.int (0 : Int32))) (F_o6_sizeIsSticky : Fld Z h0 o6 s_1 s_6 "Z" (.int (0 : Int32))) (gn_o7 : Z.heap.size ≤ o7) (lt_o7 : o7 < h0.size) (F_o6_words : Fld Z h0 o6 s_1 "words" "[J" (.ref o7)) (V_o7 : Arv Z h0 o7 kc_o7 .long (1 : Int32) [] (.long (0 : Int64))) (ne_o1_o2 : o1 ≠ o2) (ne_o1_o3 : o1 ≠ o3) (ne_o1_o4 : o1 ≠ o4) (ne_o1_o5 : o1 ≠ o5) (ne_o1_o6 : o1 ≠ o6) (ne_o1_o7 : o1 ≠ o7) (ne_o2_o3 : o2 ≠ o3) (ne_o2_o4 : o2 ≠ o4) (ne_o2_o5 : o2 ≠ o5) (ne_o2_o6 : o2 ≠ o6) (ne_o2_o7 : o2 ≠ o7) (ne_o3_o4 : o3 ≠ o4) (ne_o3_o5 : o3 ≠ o5) (ne_o3_o6 : o3 ≠ o6) (ne_o3_o7 : o3 ≠ o7) (ne_o4_o5 : o4 ≠ o5) (ne_o4_o6 : o4 ≠ o6) (ne_o4_o7 : o4 ≠ o7) (ne_o5_o6 : o5 ≠ o6) (ne_o5_o7 : o5 ≠ o7) (ne_o6_o7 : o6 ≠ o7) :
    Met l Z (⟨s_0, "addBlock", "()V"⟩ : MethodName) (Jvm.Cond.code (⟨s_0, "addBlock", "()V"⟩ : MethodName) prog_20_method_3_code 2 none) ws (Rm 1 0 0 13) #[(.ref o1)] h0 (Qd_3 Z w kk iw vw o1 o2 o3 o4 o5 o6 kc_o2 kc_o3 kc_o4 kc_o5 o7 kc_o7 h0 Z.heap.size) := by
  have hN' := hN
  have hL0 : Sta Z Z.heap s_1 s_4 "Z" (.int (1 : Int32)) := hN'
  refine own_body (plainFor_of_name pn_1) hisR ?_
  intro p e s m below meth c s₁ hx hby hml hown hnm hret X0 hZ e0
  have N0 := Fr.nil Z.heap.size
  have K0 : Keep h0 h0 [o5, o4, o3, o2, o1] := Keep.refl _ _
  obtain ⟨cq1, q1, q1'⟩ := E_o1.cell
  obtain ⟨_, _, ⟨T1, L1, k1, n1⟩, -, X1, ⟨Lc1, hQ1, l1, y1, z1⟩, st1⟩ := X0.privateBack hx (y := (⟨s_0, "newBlock", "()I"⟩ : MethodName)) hown (mvT hZ (W hw 64 rfl)) (mvT hZ (W hw 65 rfl)) (own_selpriv (mvT hZ (W hw 1 rfl)) (Cond.privateMethod_at (mvP hZ (W hw 66 rfl) (args := #[]))) (mvT hZ (W hw 65 rfl)) (by decide)) (Cond.privateMethod_at (mvP hZ (W hw 66 rfl) (args := #[]))) (mvT hZ (W hw 67 rfl)) (by decide) (backOf (W := 0) (rm_8 l Z a0 hw w kk iw vw hN [] o1 o2 o3 o4 o5 o6 kc_o2 kc_o3 kc_o4 kc_o5 o7 kc_o7 h0 O0 gn_o1 E_o1.lt E_o1 gn_o2 V_o2.lt F_o1_nextBlock gn_o3 V_o3.lt F_o1_previousBlock gn_o4 V_o4.lt F_o1_firstPiece gn_o5 V_o5.lt F_o1_lastPiece gn_o6 E_o6.lt F_o1_closed F_o1_firstBlock F_o1_lastBlock F_o1_blockCount V_o2 V_o3 V_o4 V_o5 E_o6 F_o6_wordsInUse F_o6_sizeIsSticky gn_o7 V_o7.lt F_o6_words V_o7 ne_o1_o2 ne_o1_o3 ne_o1_o4 ne_o1_o5 ne_o1_o6 ne_o1_o7 ne_o2_o3 ne_o2_o4 ne_o2_o5 ne_o2_o6 ne_o2_o7 ne_o3_o4 ne_o3_o5 ne_o3_o6 ne_o3_o7 ne_o4_o5 ne_o4_o6 ne_o4_o7 ne_o5_o6 ne_o5_o7 ne_o6_o7) hZ (W hw 67 rfl) (W hw 2 rfl) (by decide) (by decide)) (g := (mkF m 1 #[.val (.ref o1), .unset] [(.ref o1)])) rfl (by rw [hml]; rfl) (Steps.refl _) (a := o1) (by rw [e0]; exact q1) q1' (argsL := []) (rest := []) (lenOf pd_4 rfl) rfl (by show 2 * 0 + _ ≤ _; exact Nat.le_of_eq rfl) (hb hby d5_1) (fun _ _ => ⟨rfl, e0, (by decide : 0 + 0 ≤ _), (by decide : 0 + 0 ≤ _)⟩)
  dsimp only [Pt.U, Pt.locs, Pt.cells, Pt.slots] at X1 l1 y1 z1 st1 hQ1
  subst l1 y1 z1
  obtain ⟨rfl, N1q, Kq1, tk1_0, tk1_1, tk1_2, tk1_3, tk1_4, tk1_5, tk1_6, tk1_7, tk1_8, tk1_9, tk1_10, tk1_11, tk1_12⟩ := hQ1
  have N1 := Fr.app N0 N1q
  have E_o1_v1 := E_o1.keep Kq1
  have E_o6_v1 := E_o6.keep Kq1
  have F_o6_wordsInUse_v1 := F_o6_wordsInUse.keep Kq1 (ninS (Ne.symm ne_o1_o6) (ninS (Ne.symm ne_o2_o6) (ninS (Ne.symm ne_o3_o6) (ninS (Ne.symm ne_o4_o6) (ninS (Ne.symm ne_o5_o6) nin0)))))
  have F_o6_sizeIsSticky_v1 := F_o6_sizeIsSticky.keep Kq1 (ninS (Ne.symm ne_o1_o6) (ninS (Ne.symm ne_o2_o6) (ninS (Ne.symm ne_o3_o6) (ninS (Ne.symm ne_o4_o6) (ninS (Ne.symm ne_o5_o6) nin0)))))
  have F_o6_words_v1 := F_o6_words.keep Kq1 (ninS (Ne.symm ne_o1_o6) (ninS (Ne.symm ne_o2_o6) (ninS (Ne.symm ne_o3_o6) (ninS (Ne.symm ne_o4_o6) (ninS (Ne.symm ne_o5_o6) nin0)))))
  have V_o7_v1 := V_o7.keep Kq1 (ninS (Ne.symm ne_o1_o7) (ninS (Ne.symm ne_o2_o7) (ninS (Ne.symm ne_o3_o7) (ninS (Ne.symm ne_o4_o7) (ninS (Ne.symm ne_o5_o7) nin0)))))
  have O1 := O0.keep Kq1 (allS gn_o1 (allS gn_o2 (allS gn_o3 (allS gn_o4 (allS gn_o5 all0)))))
  have K1 : Keep h0 T1.heap [o5, o4, o3, o2, o1] := K0.trans Kq1 (allS (Or.inl (List.mem_of_getElem? (i := 4) rfl)) (allS (Or.inl (List.mem_of_getElem? (i := 3) rfl)) (allS (Or.inl (List.mem_of_getElem? (i := 2) rfl)) (allS (Or.inl (List.mem_of_getElem? (i := 1) rfl)) (allS (Or.inl (List.mem_of_getElem? (i := 0) rfl)) all0)))))
  obtain ⟨T2, X2, e2, st2⟩ := getF X1 hx hZ hown (host := "") (Or.inl (W hw 12 rfl)) Via.refl rfl tk1_2 (g := (mkF m 6 #[.val (.ref o1), .val (.int (0 : Int32))] [(.ref o1)])) rfl rfl (hb hby d5_6)
  obtain ⟨T3, X3, e3, st3⟩ := getF X2 hx hZ hown (host := "") (Or.inl (W hw 44 rfl)) Via.refl e2 tk1_7 (g := (mkF m 11 #[.val (.ref o1), .val (.int (0 : Int32))] [(.ref o1), (.int (0 : Int32)), (.ref o3)])) rfl rfl (hb hby d5_11)
  obtain ⟨cl4, Ar4, q4, Sz4, Ng4, Hv4, Gv4⟩ := tk1_10
  have hin4 : ¬ ((0 : Int32) < 0 ∨ cl4.slots.size ≤ ((0 : Int32)).toNatClampNeg) := inb_of Sz4 ⟨by decide, by decide⟩
  obtain ⟨T5, h5, X5, e5, W5, st5⟩ := stI X3 hx hZ e3 Ar4 (j := (0 : Int32)) hin4 (g := (mkF m 14 #[.val (.ref o1), .val (.int (0 : Int32))] [(.int (-1 : Int32)), (.int (0 : Int32)), (.ref o3)])) rfl rfl (hb hby d5_14)
  have V_o3_v5 : Arv Z h5 o3 kc_o3 .int (64 : Int32) [(.int (-1 : Int32))] (.int (0 : Int32)) := Arv.set Ar4 q4 Sz4 Ng4 Hv4 Gv4 rfl W5 0 rfl (Nat.le_of_ble_eq_true rfl)
  have N5 := Fr.snoc X5 N1 gn_o3
  have tk1_0_v5 := tk1_0.wr W5
  have E_o6_v5 := E_o6_v1.wr W5
  have F_o6_wordsInUse_v5 := F_o6_wordsInUse_v1.other W5 (Or.inl (Ne.symm ne_o3_o6))
  have F_o6_sizeIsSticky_v5 := F_o6_sizeIsSticky_v1.other W5 (Or.inl (Ne.symm ne_o3_o6))
  have F_o6_words_v5 := F_o6_words_v1.other W5 (Or.inl (Ne.symm ne_o3_o6))
  have V_o7_v5 := V_o7_v1.other W5 (Ne.symm ne_o3_o7)
  have tk1_1_v5 := tk1_1.other W5 (Or.inl ne_o1_o3)
  have tk1_2_v5 := tk1_2.other W5 (Or.inl ne_o1_o3)
  have tk1_3_v5 := tk1_3.other W5 (Or.inl ne_o1_o3)
  have tk1_4_v5 := tk1_4.other W5 (Or.inl ne_o1_o3)
  have tk1_5_v5 := tk1_5.other W5 (Or.inl ne_o1_o3)
  have tk1_6_v5 := tk1_6.other W5 (Or.inl ne_o1_o3)
  have tk1_7_v5 := tk1_7.other W5 (Or.inl ne_o1_o3)
  have tk1_8_v5 := tk1_8.other W5 (Or.inl ne_o1_o3)
  have tk1_9_v5 := tk1_9.other W5 ne_o2_o3
  have tk1_11_v5 := tk1_11.other W5 (Ne.symm ne_o3_o4)
  have tk1_12_v5 := tk1_12.other W5 (Ne.symm ne_o3_o5)
  have O5 := O1.wr W5 gn_o3
  have K5 : Keep h0 h5 [o5, o4, o3, o2, o1] := K1.wr W5 (Or.inl (List.mem_of_getElem? (i := 2) rfl))
  obtain ⟨T6, X6, e6, st6⟩ := getF X5 hx hZ hown (host := "") (Or.inl (W hw 44 rfl)) Via.refl e5 tk1_7_v5 (g := (mkF m 16 #[.val (.ref o1), .val (.int (0 : Int32))] [(.ref o1)])) rfl rfl (hb hby d5_16)
  obtain ⟨T7, h7, X7, e7, W7, st7⟩ := putF X6 hx hZ hown (host := "") (Or.inl (W hw 42 rfl)) Via.refl e6 tk1_6_v5 tk1_0_v5 (Or.inl (W hw 43 rfl)) (W hw 1 rfl) (ty := .int) (by decide) rfl rfl (g := (mkF m 25 #[.val (.ref o1), .val (.int (0 : Int32))] [(.int (0 : Int32)), (.ref o1)])) rfl rfl (hb hby d5_25)
  have tk1_6_v7 := tk1_6_v5.same W7
  have N7 := Fr.snoc X7 N5 gn_o1
  have tk1_0_v7 := tk1_0_v5.wr W7
  have E_o6_v7 := E_o6_v5.wr W7
  have F_o6_wordsInUse_v7 := F_o6_wordsInUse_v5.other W7 (Or.inl (Ne.symm ne_o1_o6))
  have F_o6_sizeIsSticky_v7 := F_o6_sizeIsSticky_v5.other W7 (Or.inl (Ne.symm ne_o1_o6))
  have F_o6_words_v7 := F_o6_words_v5.other W7 (Or.inl (Ne.symm ne_o1_o6))
  have V_o7_v7 := V_o7_v5.other W7 (Ne.symm ne_o1_o7)
  have tk1_1_v7 := tk1_1_v5.other W7 (Or.inr (sn_56 hw))
  have tk1_2_v7 := tk1_2_v5.other W7 (Or.inr (sn_57 hw))
  have tk1_3_v7 := tk1_3_v5.other W7 (Or.inr (sn_58 hw))
  have tk1_4_v7 := tk1_4_v5.other W7 (Or.inr (sn_59 hw))
  have tk1_5_v7 := tk1_5_v5.other W7 (Or.inr (sn_60 hw))
  have tk1_7_v7 := tk1_7_v5.other W7 (Or.inr (sn_61 hw))
  have tk1_8_v7 := tk1_8_v5.other W7 (Or.inr (sn_65 hw))
  have tk1_9_v7 := tk1_9_v5.other W7 (Ne.symm ne_o1_o2)
  have V_o3_v7 := V_o3_v5.other W7 (Ne.symm ne_o1_o3)
  have tk1_11_v7 := tk1_11_v5.other W7 (Ne.symm ne_o1_o4)
  have tk1_12_v7 := tk1_12_v5.other W7 (Ne.symm ne_o1_o5)
  have O7 := O5.wr W7 gn_o1
  have K7 : Keep h0 h7 [o5, o4, o3, o2, o1] := K5.wr W7 (Or.inl (List.mem_of_getElem? (i := 4) rfl))
  obtain ⟨T8, h8, X8, e8, W8, st8⟩ := putF X7 hx hZ hown (host := "") (Or.inl (W hw 44 rfl)) Via.refl e7 tk1_7_v7 tk1_0_v7 (Or.inl (W hw 45 rfl)) (W hw 1 rfl) (ty := .int) (by decide) rfl rfl (g := (mkF m 43 #[.val (.ref o1), .val (.int (0 : Int32))] [(.int (0 : Int32)), (.ref o1)])) rfl rfl (hb hby d5_43)
  have tk1_7_v8 := tk1_7_v7.same W8
  have N8 := Fr.snoc X8 N7 gn_o1
  have tk1_0_v8 := tk1_0_v7.wr W8
  have E_o6_v8 := E_o6_v7.wr W8
  have F_o6_wordsInUse_v8 := F_o6_wordsInUse_v7.other W8 (Or.inl (Ne.symm ne_o1_o6))
  have F_o6_sizeIsSticky_v8 := F_o6_sizeIsSticky_v7.other W8 (Or.inl (Ne.symm ne_o1_o6))
  have F_o6_words_v8 := F_o6_words_v7.other W8 (Or.inl (Ne.symm ne_o1_o6))
  have V_o7_v8 := V_o7_v7.other W8 (Ne.symm ne_o1_o7)
  have tk1_1_v8 := tk1_1_v7.other W8 (Or.inr (sn_66 hw))
  have tk1_2_v8 := tk1_2_v7.other W8 (Or.inr (sn_67 hw))
  have tk1_3_v8 := tk1_3_v7.other W8 (Or.inr (sn_68 hw))
  have tk1_4_v8 := tk1_4_v7.other W8 (Or.inr (sn_69 hw))
  have tk1_5_v8 := tk1_5_v7.other W8 (Or.inr (sn_70 hw))
  have tk1_6_v8 := tk1_6_v7.other W8 (Or.inr (sn_71 hw))
  have tk1_8_v8 := tk1_8_v7.other W8 (Or.inr (sn_75 hw))
  have tk1_9_v8 := tk1_9_v7.other W8 (Ne.symm ne_o1_o2)
  have V_o3_v8 := V_o3_v7.other W8 (Ne.symm ne_o1_o3)
  have tk1_11_v8 := tk1_11_v7.other W8 (Ne.symm ne_o1_o4)
  have tk1_12_v8 := tk1_12_v7.other W8 (Ne.symm ne_o1_o5)
  have O8 := O7.wr W8 gn_o1
  have K8 : Keep h0 h8 [o5, o4, o3, o2, o1] := K7.wr W8 (Or.inl (List.mem_of_getElem? (i := 4) rfl))
  refine ⟨T8, none, _, _, _, by decide, by decide, X8, (fun _ => rfl), (by rw [e8]; exact ⟨rfl, N8, K8, tk1_0_v8, tk1_1_v8, tk1_2_v8, tk1_3_v8, tk1_4_v8, tk1_5_v8, tk1_6_v8, tk1_7_v8, tk1_8_v8, tk1_9_v8, V_o3_v8, tk1_11_v8, tk1_12_v8⟩), fun fs hr => castTop (ef_4 m (.ref o1) rfl) ?_⟩
  show Steps p.tables e below (s₁.setTop (mkF m 0 #[.val (.ref o1), .unset] [])) _
  refine XS.aloadN X0.here hx rfl (hb hby d5_0) rfl rfl ?_
  refine st1.trans ?_
  refine XS.istoreN X1.here hx rfl (hb hby d5_4) rfl (l' := #[.val (.ref o1), .val (.int (0 : Int32))]) rfl ?_
  refine XS.aloadN X1.here hx rfl (hb hby d5_5) rfl rfl ?_
  refine st2 _ ?_
  refine XS.iloadN X2.here hx rfl (hb hby d5_9) rfl ?_
  refine XS.aloadN X2.here hx rfl (hb hby d5_10) rfl rfl ?_
  refine st3 _ ?_
  show Steps p.tables e below (T3.setTop (mkF m 14 #[.val (.ref o1), .val (.int (0 : Int32))] [(.int (-1 : Int32)), (.int (0 : Int32)), (.ref o3)])) _
  refine st5 _ ?_
  refine XS.aloadN X5.here hx rfl (hb hby d5_15) rfl rfl ?_
  refine st6 _ ?_
  refine XS.iconst X6.here hx rfl (hb hby d5_19) ?_
  refine XS.icmpNo X6.here hx rfl (hb hby d5_20) rfl (teq (by decide : (-1 : Int32) = (-1 : Int32))).2 ?_
  refine XS.aloadN X6.here hx rfl (hb hby d5_23) rfl rfl ?_
  refine XS.iloadN X6.here hx rfl (hb hby d5_24) rfl ?_
  refine st7 _ ?_
  show Steps p.tables e below (T7.setTop (mkF m 28 #[.val (.ref o1), .val (.int (0 : Int32))] [])) _
  refine XS.goto X7.here hx rfl (pc0 := 28) (pc' := 41) rfl (hb hby d5_28) (by decide) (by decide) ?_
  refine XS.aloadN X7.here hx rfl (hb hby d5_41) rfl rfl ?_
  refine XS.iloadN X7.here hx rfl (hb hby d5_42) rfl ?_
  refine st8 _ ?_
  show Steps p.tables e below (T8.setTop (mkF m 46 #[.val (.ref o1), .val (.int (0 : Int32))] [])) _
  exact X8.returnOut hx hret (hb hby d5_46) hr
theorem d4_7 : decode prog_20_method_2_code 7 = .ok (.iconst 1, 1) := by decide +kernel
theorem d4_8 : decode prog_20_method_2_code 8 = .ok (.goto 4, 3) := by decide +kernel
set_option maxRecDepth 65536 in
set_option maxHeartbeats 40000000 in
theorem rm_10 (l : Launch) (Z : State) (a0 : Array Value) (hw : ∀ d ∈ tables_1, d.before a0 Z = true) (w : Nat → Addr) (kk : Nat → ClassId) (iw : Nat → Int32) (vw : Nat → Value) (hN : Wd Z w kk iw vw) (ws : List Jvm.Cond) (o1 : Addr) (o2 : Addr) (o3 : Addr) (o4 : Addr) (o5 : Addr) (o6 : Addr) (kc_o2 : ClassId) (kc_o3 : ClassId) (kc_o4 : ClassId) (kc_o5 : ClassId) (o7 : Addr) (kc_o7 : ClassId) (h0 : Heap) (O0 : Old Z Z.heap.size h0) (gn_o1 : Z.heap.size ≤ o1) (lt_o1 : o1 < h0.size) (E_o1 : Exa Z h0 o1 s_0) (gn_o2 : Z.heap.size ≤ o2) (lt_o2 : o2 < h0.size) (F_o1_nextBlock : Fld Z h0 o1 s_0 "nextBlock" "[I" (.ref o2)) (gn_o3 : Z.heap.size ≤ o3) (lt_o3 : o3 < h0.size) (F_o1_previousBlock : Fld Z h0 o1 s_0 s_5 "[I" (.ref o3)) (gn_o4 : Z.heap.size ≤ o4) (lt_o4 : o4 < h0.size) (F_o1_firstPiece : Fld Z h0 o1 s_0 "firstPiece" "[I" (.ref o4)) (gn_o5 : Z.heap.size ≤ o5) (lt_o5 : o5 < h0.size) (F_o1_lastPiece : Fld Z h0 o1 s_0 "lastPiece" "[I" (.ref o5)) (gn_o6 : Z.heap.size ≤ o6) (lt_o6 : o6 < h0.size) (F_o1_closed : Fld Z h0 o1 s_0 "closed" s_3 (.ref o6)) (F_o1_firstBlock : Fld Z h0 o1 s_0 "firstBlock" "I" (.int (0 : Int32))) (F_o1_lastBlock : Fld Z h0 o1 s_0 "lastBlock" "I" (.int (0 : Int32))) (F_o1_blockCount : Fld Z h0 o1 s_0 "blockCount" "I" (.int (1 : Int32))) (V_o2 : Arv Z h0 o2 kc_o2 .int (64 : Int32) [(.int (-1 : Int32))] (.int (0 : Int32))) (V_o3 : Arv Z h0 o3 kc_o3 .int (64 : Int32) [(.int (-1 : Int32))] (.int (0 : Int32))) (V_o4 : Arv Z h0 o4 kc_o4 .int (64 : Int32) [(.int (-1 : Int32))] (.int (0 : Int32))) (V_o5 : Arv Z h0 o5 kc_o5 .int (64 : Int32) [(.int (-1 : Int32))] (.int (0 : Int32))) (E_o6 : Exa Z h0 o6 s_1) (F_o6_wordsInUse : Fld Z h0 o6 s_1 "wordsInUse" "I" (.int (0 : Int32))) (F_o6_sizeIsSticky : Fld Z h0 o6 s_1 s_6 "Z" (.int (0 : Int32))) (gn_o7 : Z.heap.size ≤ o7) (lt_o7 : o7 < h0.size) (F_o6_words : Fld Z h0 o6 s_1 "words" "[J" (.ref o7)) (V_o7 : Arv Z h0 o7 kc_o7 .long (1 : Int32) [] (.long (0 : Int64))) (ne_o1_o2 : o1 ≠ o2) (ne_o1_o3 : o1 ≠ o3) (ne_o1_o4 : o1 ≠ o4) (ne_o1_o5 : o1 ≠ o5) (ne_o1_o6 : o1 ≠ o6) (ne_o1_o7 : o1 ≠ o7) (ne_o2_o3 : o2 ≠ o3) (ne_o2_o4 : o2 ≠ o4) (ne_o2_o5 : o2 ≠ o5) (ne_o2_o6 : o2 ≠ o6) (ne_o2_o7 : o2 ≠ o7) (ne_o3_o4 : o3 ≠ o4) (ne_o3_o5 : o3 ≠ o5) (ne_o3_o6 : o3 ≠ o6) (ne_o3_o7 : o3 ≠ o7) (ne_o4_o5 : o4 ≠ o5) (ne_o4_o6 : o4 ≠ o6) (ne_o4_o7 : o4 ≠ o7) (ne_o5_o6 : o5 ≠ o6) (ne_o5_o7 : o5 ≠ o7) (ne_o6_o7 : o6 ≠ o7) :
    Met l Z (⟨s_0, "hasBlocks", "()Z"⟩ : MethodName) (Jvm.Cond.code (⟨s_0, "hasBlocks", "()Z"⟩ : MethodName) prog_20_method_2_code 1 (some .boolean)) ws (Rm 0 0 0 0) #[(.ref o1)] h0 (OQ (some (.int (1 : Int32))) h0 Z.heap.size) := by
  have hN' := hN
  have hL0 : Sta Z Z.heap s_1 s_4 "Z" (.int (1 : Int32)) := hN'
  refine own_body (plainFor_of_name pn_1) hisR ?_
  intro p e s m below meth c s₁ hx hby hml hown hnm hret X0 hZ e0
  have N0 := Fr.nil Z.heap.size
  obtain ⟨T1, X1, e1, st1⟩ := getF X0 hx hZ hown (host := "") (Or.inl (W hw 57 rfl)) Via.refl e0 F_o1_blockCount (g := (mkF m 1 #[.val (.ref o1)] [(.ref o1)])) rfl rfl (hb hby d4_1)
  refine ⟨T1, some (.int (1 : Int32)), _, _, _, by decide, by decide, X1, nofun, (by rw [e1]; exact ⟨rfl, N0, rfl⟩), fun fs hr => castTop (ef_2 m (.ref o1) rfl) ?_⟩
  show Steps p.tables e below (s₁.setTop (mkF m 0 #[.val (.ref o1)] [])) _
  refine XS.aloadN X0.here hx rfl (hb hby d4_0) rfl rfl ?_
  refine st1 _ ?_
  refine XS.ifNo X1.here hx rfl (hb hby d4_4) rfl ((if0 _ _).trans (tlt (by decide : (0 : Int32) < (1 : Int32))).2.2.2) ?_
  refine XS.iconst X1.here hx rfl (hb hby d4_7) ?_
  refine XS.goto X1.here hx rfl (pc0 := 8) (pc' := 12) rfl (hb hby d4_8) (by decide) (by decide) ?_
  show Steps p.tables e below (T1.setTop (mkF m 12 #[.val (.ref o1)] [(.int (1 : Int32))])) _
  exact retN X1 hx (t := .boolean) hret (by simp) (hb hby d4_12) hr
set_option maxRecDepth 65536 in
set_option maxHeartbeats 40000000 in
theorem sg_11 {p : Program} {l : Launch} {e : Env} {s : State} {m : MethodId} {args : Array Value} {below : List Frame} {meth : Method} {c : Code} {T0 : State} {Z : State} {a0 : Array Value} (w : Nat → Addr) (kk : Nat → ClassId) (iw : Nat → Int32) (vw : Nat → Value) (hN : Wd Z w kk iw vw) (i0 : Int32) (i1 : Int32) (i2 : Int32) (i3 : Int32) {h0 : Heap}
    (X0 : Stand p l e room_1 s m args below meth c T0 [] 0 0) (hx : p.tables.exec = Jvm.exec) (hZ : Z.Warmed39 s.vm) (hw : ∀ d ∈ tables_1, d.before a0 Z = true) (hby : c.code = code) (hml : c.maxLocals = 7) (hown : s.vm.findClass s_2 = some m.cls) (e0 : T0.heap = h0) (O0 : Old Z Z.heap.size h0) (N0 : Fr Z.heap.size []) :
    ∃ (T' : State) (L' : List Loc) (c1 : Addr) (c2 : Addr) (c3 : Addr) (c4 : Addr) (c5 : Addr) (c6 : Addr) (c7 : Addr) (kc1 : ClassId) (kc2 : ClassId) (kc3 : ClassId) (kc4 : ClassId) (kc5 : ClassId), Stand p l e room_1 s m args below meth c T' L' 10 467 ∧ (∀ target, Steps p.tables e below (T'.setTop (mkF m 102 #[.val (.int i0), .val (.int i1), .val (.int i2), .val (.int i3), .val (.int (1 : Int32)), .val (.ref c1), .val (.int (1 : Int32))] [])) target → Steps p.tables e below (T0.setTop (mkF m 5 #[.val (.int i0), .val (.int i1), .val (.int i2), .val (.int i3), .val (.int (1 : Int32)), .unset, .unset] [])) target) ∧ Fr Z.heap.size L' ∧ Keep h0 T'.heap [] ∧ h0.size ≤ c1 ∧ h0.size ≤ c2 ∧ h0.size ≤ c3 ∧ h0.size ≤ c4 ∧ h0.size ≤ c5 ∧ h0.size ≤ c6 ∧ h0.size ≤ c7 ∧ c1 ≠ c2 ∧ c1 ≠ c3 ∧ c1 ≠ c4 ∧ c1 ≠ c5 ∧ c1 ≠ c6 ∧ c1 ≠ c7 ∧ c2 ≠ c3 ∧ c2 ≠ c4 ∧ c2 ≠ c5 ∧ c2 ≠ c6 ∧ c2 ≠ c7 ∧ c3 ≠ c4 ∧ c3 ≠ c5 ∧ c3 ≠ c6 ∧ c3 ≠ c7 ∧ c4 ≠ c5 ∧ c4 ≠ c6 ∧ c4 ≠ c7 ∧ c5 ≠ c6 ∧ c5 ≠ c7 ∧ c6 ≠ c7 ∧ Exa Z T'.heap c1 s_0 ∧ Fld Z T'.heap c1 s_0 "nextBlock" "[I" (.ref c2) ∧ Fld Z T'.heap c1 s_0 s_5 "[I" (.ref c3) ∧ Fld Z T'.heap c1 s_0 "firstPiece" "[I" (.ref c4) ∧ Fld Z T'.heap c1 s_0 "lastPiece" "[I" (.ref c5) ∧ Fld Z T'.heap c1 s_0 "closed" s_3 (.ref c6) ∧ Fld Z T'.heap c1 s_0 "firstBlock" "I" (.int (0 : Int32)) ∧ Fld Z T'.heap c1 s_0 "lastBlock" "I" (.int (0 : Int32)) ∧ Fld Z T'.heap c1 s_0 "blockCount" "I" (.int (1 : Int32)) ∧ Arv Z T'.heap c2 kc1 .int (64 : Int32) [(.int (-1 : Int32))] (.int (0 : Int32)) ∧ Arv Z T'.heap c3 kc2 .int (64 : Int32) [(.int (-1 : Int32))] (.int (0 : Int32)) ∧ Arv Z T'.heap c4 kc3 .int (64 : Int32) [(.int (-1 : Int32))] (.int (0 : Int32)) ∧ Arv Z T'.heap c5 kc4 .int (64 : Int32) [(.int (-1 : Int32))] (.int (0 : Int32)) ∧ Exa Z T'.heap c6 s_1 ∧ Fld Z T'.heap c6 s_1 "wordsInUse" "I" (.int (0 : Int32)) ∧ Fld Z T'.heap c6 s_1 s_6 "Z" (.int (0 : Int32)) ∧ Fld Z T'.heap c6 s_1 "words" "[J" (.ref c7) ∧ Arv Z T'.heap c7 kc5 .long (1 : Int32) [] (.long (0 : Int64)) := by
  have hN' := hN
  have hL0 : Sta Z Z.heap s_1 s_4 "Z" (.int (1 : Int32)) := hN'
  have K0 : Keep h0 h0 [] := Keep.refl _ _
  obtain ⟨T1, h1, X1, e1, E1, A1, D1, -, st1⟩ := newO X0 hx hZ hown (W hw 0 rfl) (W hw 1 rfl) (W hw 2 rfl) e0 (g := (mkF m 5 #[.val (.int i0), .val (.int i1), .val (.int i2), .val (.int i3), .val (.int (1 : Int32)), .unset, .unset] [])) rfl (hb hby at_5) (by decide) (by decide)
  obtain ⟨b1, g1⟩ : ∃ z, z = h0.size := ⟨_, rfl⟩
  rw [← g1] at A1 st1 D1
  have gn_b1 : Z.heap.size ≤ b1 := Nat.le_trans O0.2.1 (Nat.le_of_eq g1.symm)
  have sz_b1 : h0.size ≤ b1 := Nat.le_trans K0.1 (Nat.le_of_eq g1.symm)
  have O1 := O0.ext E1
  have K1 := K0.ext E1
  have E_b1_v1 := A1
  have F_b1_nextBlock_v1 : Fld Z h1 b1 s_0 "nextBlock" "[I" .null := D1 (Or.inl (W hw 11 rfl)) (ty := (.array .int)) (by decide)
  have F_b1_previousBlock_v1 : Fld Z h1 b1 s_0 s_5 "[I" .null := D1 (Or.inl (W hw 13 rfl)) (ty := (.array .int)) (by decide)
  have F_b1_firstPiece_v1 : Fld Z h1 b1 s_0 "firstPiece" "[I" .null := D1 (Or.inl (W hw 15 rfl)) (ty := (.array .int)) (by decide)
  have F_b1_lastPiece_v1 : Fld Z h1 b1 s_0 "lastPiece" "[I" .null := D1 (Or.inl (W hw 17 rfl)) (ty := (.array .int)) (by decide)
  have F_b1_closed_v1 : Fld Z h1 b1 s_0 "closed" s_3 .null := D1 (Or.inr (W hw 41 rfl)) (ty := (.object s_1)) (by decide)
  have F_b1_firstBlock_v1 : Fld Z h1 b1 s_0 "firstBlock" "I" (.int (0 : Int32)) := D1 (Or.inl (W hw 43 rfl)) (ty := .int) (by decide)
  have F_b1_lastBlock_v1 : Fld Z h1 b1 s_0 "lastBlock" "I" (.int (0 : Int32)) := D1 (Or.inl (W hw 45 rfl)) (ty := .int) (by decide)
  have F_b1_pieceStart_v1 : Fld Z h1 b1 s_0 "pieceStart" "[J" .null := D1 (Or.inl (W hw 47 rfl)) (ty := (.array .long)) (by decide)
  have F_b1_pieceLength_v1 : Fld Z h1 b1 s_0 "pieceLength" "[I" .null := D1 (Or.inl (W hw 49 rfl)) (ty := (.array .int)) (by decide)
  have F_b1_nextPiece_v1 : Fld Z h1 b1 s_0 "nextPiece" "[I" .null := D1 (Or.inl (W hw 51 rfl)) (ty := (.array .int)) (by decide)
  have F_b1_blockCount_v1 : Fld Z h1 b1 s_0 "blockCount" "I" (.int (0 : Int32)) := D1 (Or.inl (W hw 58 rfl)) (ty := .int) (by decide)
  obtain ⟨_, _, ⟨T2, L2, k2, n2⟩, -, X2, ⟨Lc2, hQ2, l2, y2, z2⟩, st2⟩ := X1.specialBack hx (y := (⟨s_0, "<init>", "()V"⟩ : MethodName)) rfl hown (mvT hZ (W hw 3 rfl)) (mvT hZ (W hw 4 rfl)) (mvT hZ (W hw 5 rfl)) (by decide) (backOf (W := 1) (rm_4 l Z a0 hw w kk iw vw hN [] b1 h1 O1 gn_b1 E_b1_v1.lt E_b1_v1 F_b1_nextBlock_v1 F_b1_previousBlock_v1 F_b1_firstPiece_v1 F_b1_lastPiece_v1 F_b1_closed_v1 F_b1_firstBlock_v1 F_b1_lastBlock_v1 F_b1_pieceStart_v1 F_b1_pieceLength_v1 F_b1_nextPiece_v1 F_b1_blockCount_v1) hZ (W hw 5 rfl) (W hw 2 rfl) (by decide) (by decide)) (g := (mkF m 9 #[.val (.int i0), .val (.int i1), .val (.int i2), .val (.int i3), .val (.int (1 : Int32)), .unset, .unset] [(.ref b1), (.ref b1)])) rfl (by rw [hml]; rfl) (Steps.refl _) (a := b1) (argsL := []) (rest := [(.ref b1)]) (lenOf pd_2 rfl) rfl (by show 2 * 0 + _ ≤ _; exact Nat.le_of_eq rfl) (hb hby at_9) (fun _ _ => ⟨rfl, e1, (by decide : 1 + 9 ≤ _), (by decide : 15 + 452 ≤ _)⟩)
  dsimp only [Pt.U, Pt.locs, Pt.cells, Pt.slots] at X2 l2 y2 z2 st2 hQ2
  subst l2 y2 z2
  obtain ⟨b2_0, b2_1, b2_2, b2_3, b2_4, b2_5, b2_6, b2_7, b2_8, kb2_0, kb2_1, kb2_2, kb2_3, kb2_4, kb2_5, kb2_6, kb2_7, rfl, N2q, Kq2, tk2_0, tk2_1, tk2_2, tk2_3, tk2_4, tk2_5, tk2_6, tk2_7, tk2_8, tk2_9, tk2_10, tk2_11, tk2_12, tk2_13, tk2_14, tk2_15, tk2_16, tk2_17, tk2_18, tk2_19, tk2_20, tk2_21, tk2_22, tk2_23, tk2_24, tk2_25, tk2_26, tk2_27, tk2_28, tk2_29, tk2_30, tk2_31, tk2_32, tk2_33, tk2_34, tk2_35, tk2_36, tk2_37, tk2_38, tk2_39, tk2_40, tk2_41, tk2_42, tk2_43, tk2_44, tk2_45, tk2_46, tk2_47, tk2_48, tk2_49, tk2_50, tk2_51, tk2_52, tk2_53, tk2_54, tk2_55, tk2_56, tk2_57, tk2_58, tk2_59, tk2_60, tk2_61, tk2_62, tk2_63, tk2_64, tk2_65, tk2_66, tk2_67, tk2_68⟩ := hQ2
  have N2 := Fr.app N0 N2q
  have gn_b2_0 : Z.heap.size ≤ b2_0 := Nat.le_trans O1.2.1 tk2_0
  have sz_b2_0 : h0.size ≤ b2_0 := Nat.le_trans K1.1 tk2_0
  have ne_b1_b2_0 : b1 ≠ b2_0 := Nat.ne_of_lt (Nat.lt_of_lt_of_le E_b1_v1.lt tk2_0)
  have gn_b2_1 : Z.heap.size ≤ b2_1 := Nat.le_trans O1.2.1 tk2_1
  have sz_b2_1 : h0.size ≤ b2_1 := Nat.le_trans K1.1 tk2_1
  have ne_b1_b2_1 : b1 ≠ b2_1 := Nat.ne_of_lt (Nat.lt_of_lt_of_le E_b1_v1.lt tk2_1)
  have gn_b2_2 : Z.heap.size ≤ b2_2 := Nat.le_trans O1.2.1 tk2_2
  have sz_b2_2 : h0.size ≤ b2_2 := Nat.le_trans K1.1 tk2_2
  have ne_b1_b2_2 : b1 ≠ b2_2 := Nat.ne_of_lt (Nat.lt_of_lt_of_le E_b1_v1.lt tk2_2)
  have gn_b2_3 : Z.heap.size ≤ b2_3 := Nat.le_trans O1.2.1 tk2_3
  have sz_b2_3 : h0.size ≤ b2_3 := Nat.le_trans K1.1 tk2_3
  have ne_b1_b2_3 : b1 ≠ b2_3 := Nat.ne_of_lt (Nat.lt_of_lt_of_le E_b1_v1.lt tk2_3)
  have gn_b2_4 : Z.heap.size ≤ b2_4 := Nat.le_trans O1.2.1 tk2_4
  have sz_b2_4 : h0.size ≤ b2_4 := Nat.le_trans K1.1 tk2_4
  have ne_b1_b2_4 : b1 ≠ b2_4 := Nat.ne_of_lt (Nat.lt_of_lt_of_le E_b1_v1.lt tk2_4)
  have gn_b2_5 : Z.heap.size ≤ b2_5 := Nat.le_trans O1.2.1 tk2_5
  have sz_b2_5 : h0.size ≤ b2_5 := Nat.le_trans K1.1 tk2_5
  have ne_b1_b2_5 : b1 ≠ b2_5 := Nat.ne_of_lt (Nat.lt_of_lt_of_le E_b1_v1.lt tk2_5)
  have gn_b2_6 : Z.heap.size ≤ b2_6 := Nat.le_trans O1.2.1 tk2_6
  have sz_b2_6 : h0.size ≤ b2_6 := Nat.le_trans K1.1 tk2_6
  have ne_b1_b2_6 : b1 ≠ b2_6 := Nat.ne_of_lt (Nat.lt_of_lt_of_le E_b1_v1.lt tk2_6)
  have gn_b2_7 : Z.heap.size ≤ b2_7 := Nat.le_trans O1.2.1 tk2_7
  have sz_b2_7 : h0.size ≤ b2_7 := Nat.le_trans K1.1 tk2_7
  have ne_b1_b2_7 : b1 ≠ b2_7 := Nat.ne_of_lt (Nat.lt_of_lt_of_le E_b1_v1.lt tk2_7)
  have gn_b2_8 : Z.heap.size ≤ b2_8 := Nat.le_trans O1.2.1 tk2_8
  have sz_b2_8 : h0.size ≤ b2_8 := Nat.le_trans K1.1 tk2_8
  have ne_b1_b2_8 : b1 ≠ b2_8 := Nat.ne_of_lt (Nat.lt_of_lt_of_le E_b1_v1.lt tk2_8)
  have E_b1_v2 := E_b1_v1.keep Kq2
  have O2 := O1.keep Kq2 (allS gn_b1 all0)
  have K2 : Keep h0 T2.heap [] := K1.trans Kq2 (allS (Or.inr sz_b1) all0)
  obtain ⟨cq3, kq3, q3a, q3b, q3c⟩ := isOf hZ rfl tk2_45
  obtain ⟨_, _, ⟨T3, L3, k3, n3⟩, -, X3, ⟨Lc3, hQ3, l3, y3, z3⟩, st3⟩ := X2.virtualBack hx (y := (⟨s_0, "hasBlocks", "()Z"⟩ : MethodName)) (z := (⟨s_0, "hasBlocks", "()Z"⟩ : MethodName)) hown (mvT hZ (W hw 52 rfl)) (mvT hZ (W hw 53 rfl)) (notFace_of_selects (args := #[]) (mvT hZ (W hw 55 rfl))) (mvT hZ (W hw 55 rfl)) (mvT hZ (W hw 54 rfl)) (by decide) (backOf (W := 0) (rm_5 l Z a0 hw w kk iw vw hN [] b1 b2_0 b2_1 b2_2 b2_3 b2_4 kb2_0 kb2_1 kb2_2 kb2_3 b2_8 kb2_7 T2.heap O2 gn_b1 tk2_45.lt tk2_45 gn_b2_0 tk2_57.lt tk2_46 gn_b2_1 tk2_58.lt tk2_47 gn_b2_2 tk2_59.lt tk2_48 gn_b2_3 tk2_60.lt tk2_49 gn_b2_4 tk2_61.lt tk2_50 tk2_51 tk2_52 tk2_56 tk2_57 tk2_58 tk2_59 tk2_60 tk2_61 tk2_62 tk2_63 gn_b2_8 tk2_68.lt tk2_64 tk2_68 ne_b1_b2_0 ne_b1_b2_1 ne_b1_b2_2 ne_b1_b2_3 ne_b1_b2_4 ne_b1_b2_8 tk2_9 tk2_10 tk2_11 tk2_12 tk2_16 tk2_17 tk2_18 tk2_19 tk2_23 tk2_24 tk2_25 tk2_29 tk2_30 tk2_34 tk2_38) hZ (W hw 56 rfl) (W hw 2 rfl) (by decide) (by decide)) q3a q3c (g := (mkF m 16 #[.val (.int i0), .val (.int i1), .val (.int i2), .val (.int i3), .val (.int (1 : Int32)), .val (.ref b1), .unset] [(.ref b1)])) rfl (by rw [hml]; rfl) (Steps.refl _) (argsL := []) (rest := []) (lenOf pd_3 rfl) rfl (by show 2 * 0 + _ ≤ _; exact Nat.le_of_eq rfl) (hb hby at_16) (fun _ _ => ⟨rfl, rfl, (by decide : 10 + 0 ≤ _), (by decide : 467 + 0 ≤ _)⟩)
  dsimp only [Pt.U, Pt.locs, Pt.cells, Pt.slots] at X3 l3 y3 z3 st3 hQ3
  subst l3 y3 z3
  obtain ⟨rfl, N3q, e3⟩ := hQ3
  have N3 := Fr.app N2 N3q
  obtain ⟨cq4, kq4, q4a, q4b, q4c⟩ := isOf hZ e3 tk2_45
  obtain ⟨_, _, ⟨T4, L4, k4, n4⟩, -, X4, ⟨Lc4, hQ4, l4, y4, z4⟩, st4⟩ := X3.virtualBack hx (y := (⟨s_0, "addBlock", "()V"⟩ : MethodName)) (z := (⟨s_0, "addBlock", "()V"⟩ : MethodName)) hown (mvT hZ (W hw 59 rfl)) (mvT hZ (W hw 60 rfl)) (notFace_of_selects (args := #[]) (mvT hZ (W hw 62 rfl))) (mvT hZ (W hw 62 rfl)) (mvT hZ (W hw 61 rfl)) (by decide) (backOf (W := 0) (rm_9 l Z a0 hw w kk iw vw hN [] b1 b2_0 b2_1 b2_2 b2_3 b2_4 kb2_0 kb2_1 kb2_2 kb2_3 b2_8 kb2_7 T2.heap O2 gn_b1 tk2_45.lt tk2_45 gn_b2_0 tk2_57.lt tk2_46 gn_b2_1 tk2_58.lt tk2_47 gn_b2_2 tk2_59.lt tk2_48 gn_b2_3 tk2_60.lt tk2_49 gn_b2_4 tk2_61.lt tk2_50 tk2_51 tk2_52 tk2_56 tk2_57 tk2_58 tk2_59 tk2_60 tk2_61 tk2_62 tk2_63 gn_b2_8 tk2_68.lt tk2_64 tk2_68 ne_b1_b2_0 ne_b1_b2_1 ne_b1_b2_2 ne_b1_b2_3 ne_b1_b2_4 ne_b1_b2_8 tk2_9 tk2_10 tk2_11 tk2_12 tk2_16 tk2_17 tk2_18 tk2_19 tk2_23 tk2_24 tk2_25 tk2_29 tk2_30 tk2_34 tk2_38) hZ (W hw 63 rfl) (W hw 2 rfl) (by decide) (by decide)) q4a q4c (g := (mkF m 37 #[.val (.int i0), .val (.int i1), .val (.int i2), .val (.int i3), .val (.int (1 : Int32)), .val (.ref b1), .val (.int (1 : Int32))] [(.ref b1)])) rfl (by rw [hml]; rfl) (Steps.refl _) (argsL := []) (rest := []) (lenOf pd_2 rfl) rfl (by show 2 * 0 + _ ≤ _; exact Nat.le_of_eq rfl) (hb hby at_37) (fun _ _ => ⟨rfl, e3, (by decide : 10 + 0 ≤ _), (by decide : 467 + 0 ≤ _)⟩)
  dsimp only [Pt.U, Pt.locs, Pt.cells, Pt.slots] at X4 l4 y4 z4 st4 hQ4
  subst l4 y4 z4
  obtain ⟨rfl, N4q, Kq4, tk4_0, tk4_1, tk4_2, tk4_3, tk4_4, tk4_5, tk4_6, tk4_7, tk4_8, tk4_9, tk4_10, tk4_11, tk4_12⟩ := hQ4
  have N4 := Fr.app N3 N4q
  have tk2_45_v4 := tk2_45.keep Kq4
  have tk2_61_v4 := tk2_61.keep Kq4
  have tk2_62_v4 := tk2_62.keep Kq4 (ninS (Ne.symm tk2_30) (ninS (Ne.symm tk2_25) (ninS (Ne.symm tk2_19) (ninS (Ne.symm tk2_12) (ninS (Ne.symm ne_b1_b2_4) nin0)))))
  have tk2_63_v4 := tk2_63.keep Kq4 (ninS (Ne.symm tk2_30) (ninS (Ne.symm tk2_25) (ninS (Ne.symm tk2_19) (ninS (Ne.symm tk2_12) (ninS (Ne.symm ne_b1_b2_4) nin0)))))
  have tk2_64_v4 := tk2_64.keep Kq4 (ninS (Ne.symm tk2_30) (ninS (Ne.symm tk2_25) (ninS (Ne.symm tk2_19) (ninS (Ne.symm tk2_12) (ninS (Ne.symm ne_b1_b2_4) nin0)))))
  have tk2_68_v4 := tk2_68.keep Kq4 (ninS (Ne.symm tk2_34) (ninS (Ne.symm tk2_29) (ninS (Ne.symm tk2_23) (ninS (Ne.symm tk2_16) (ninS (Ne.symm ne_b1_b2_8) nin0)))))
  have O4 := O2.keep Kq4 (allS gn_b2_3 (allS gn_b2_2 (allS gn_b2_1 (allS gn_b2_0 (allS gn_b1 all0)))))
  have K4 : Keep h0 T4.heap [] := K2.trans Kq4 (allS (Or.inr sz_b2_3) (allS (Or.inr sz_b2_2) (allS (Or.inr sz_b2_1) (allS (Or.inr sz_b2_0) (allS (Or.inr sz_b1) all0)))))
  obtain ⟨cq5, kq5, q5a, q5b, q5c⟩ := isOf hZ rfl tk4_0
  obtain ⟨_, _, ⟨T5, L5, k5, n5⟩, -, X5, ⟨Lc5, hQ5, l5, y5, z5⟩, st5⟩ := X4.virtualBack hx (y := (⟨s_0, "hasBlocks", "()Z"⟩ : MethodName)) (z := (⟨s_0, "hasBlocks", "()Z"⟩ : MethodName)) hown (mvT hZ (W hw 52 rfl)) (mvT hZ (W hw 53 rfl)) (notFace_of_selects (args := #[]) (mvT hZ (W hw 55 rfl))) (mvT hZ (W hw 55 rfl)) (mvT hZ (W hw 54 rfl)) (by decide) (backOf (W := 0) (rm_10 l Z a0 hw w kk iw vw hN [] b1 b2_0 b2_1 b2_2 b2_3 b2_4 kb2_0 kb2_1 kb2_2 kb2_3 b2_8 kb2_7 T4.heap O4 gn_b1 tk4_0.lt tk4_0 gn_b2_0 tk4_9.lt tk4_1 gn_b2_1 tk4_10.lt tk4_2 gn_b2_2 tk4_11.lt tk4_3 gn_b2_3 tk4_12.lt tk4_4 gn_b2_4 tk2_61_v4.lt tk4_5 tk4_6 tk4_7 tk4_8 tk4_9 tk4_10 tk4_11 tk4_12 tk2_61_v4 tk2_62_v4 tk2_63_v4 gn_b2_8 tk2_68_v4.lt tk2_64_v4 tk2_68_v4 ne_b1_b2_0 ne_b1_b2_1 ne_b1_b2_2 ne_b1_b2_3 ne_b1_b2_4 ne_b1_b2_8 tk2_9 tk2_10 tk2_11 tk2_12 tk2_16 tk2_17 tk2_18 tk2_19 tk2_23 tk2_24 tk2_25 tk2_29 tk2_30 tk2_34 tk2_38) hZ (W hw 56 rfl) (W hw 2 rfl) (by decide) (by decide)) q5a q5c (g := (mkF m 47 #[.val (.int i0), .val (.int i1), .val (.int i2), .val (.int i3), .val (.int (1 : Int32)), .val (.ref b1), .val (.int (1 : Int32))] [(.ref b1)])) rfl (by rw [hml]; rfl) (Steps.refl _) (argsL := []) (rest := []) (lenOf pd_3 rfl) rfl (by show 2 * 0 + _ ≤ _; exact Nat.le_of_eq rfl) (hb hby at_47) (fun _ _ => ⟨rfl, rfl, (by decide : 10 + 0 ≤ _), (by decide : 467 + 0 ≤ _)⟩)
  dsimp only [Pt.U, Pt.locs, Pt.cells, Pt.slots] at X5 l5 y5 z5 st5 hQ5
  subst l5 y5 z5
  obtain ⟨rfl, N5q, e5⟩ := hQ5
  have N5 := Fr.app N4 N5q
  refine ⟨T5, _, b1, b2_0, b2_1, b2_2, b2_3, b2_4, b2_8, kb2_0, kb2_1, kb2_2, kb2_3, kb2_7, X5, fun target kt => ?_, N5, (by rw [e5]; exact ⟨K4, sz_b1, sz_b2_0, sz_b2_1, sz_b2_2, sz_b2_3, sz_b2_4, sz_b2_8, ne_b1_b2_0, ne_b1_b2_1, ne_b1_b2_2, ne_b1_b2_3, ne_b1_b2_4, ne_b1_b2_8, tk2_9, tk2_10, tk2_11, tk2_12, tk2_16, tk2_17, tk2_18, tk2_19, tk2_23, tk2_24, tk2_25, tk2_29, tk2_30, tk2_34, tk2_38, tk4_0, tk4_1, tk4_2, tk4_3, tk4_4, tk4_5, tk4_6, tk4_7, tk4_8, tk4_9, tk4_10, tk4_11, tk4_12, tk2_61_v4, tk2_62_v4, tk2_63_v4, tk2_64_v4, tk2_68_v4⟩)⟩
  show Steps p.tables e below (T0.setTop (mkF m 5 #[.val (.int i0), .val (.int i1), .val (.int i2), .val (.int i3), .val (.int (1 : Int32)), .unset, .unset] [])) _
  refine st1 _ ?_
  refine XS.dup X1.here hx rfl (hb hby at_8) rfl rfl ?_
  refine st2.trans ?_
  refine XS.astore X2.here hx rfl (hb hby at_12) rfl rfl (l' := #[.val (.int i0), .val (.int i1), .val (.int i2), .val (.int i3), .val (.int (1 : Int32)), .val (.ref b1), .unset]) rfl ?_
  refine XS.aload X2.here hx rfl (hb hby at_14) rfl rfl ?_
  refine st3.trans ?_
  refine XS.ifNo X3.here hx rfl (hb hby at_19) rfl ((if0 _ _).trans (teq (by decide : (0 : Int32) = (0 : Int32))).2) ?_
  refine XS.iconst X3.here hx rfl (hb hby at_22) ?_
  show Steps p.tables e below (T3.setTop (mkF m 23 #[.val (.int i0), .val (.int i1), .val (.int i2), .val (.int i3), .val (.int (1 : Int32)), .val (.ref b1), .unset] [(.int (1 : Int32))])) _
  refine XS.goto X3.here hx rfl (pc0 := 23) (pc' := 27) rfl (hb hby at_23) (by decide) (by decide) ?_
  refine XS.istore X3.here hx rfl (hb hby at_27) rfl (l' := #[.val (.int i0), .val (.int i1), .val (.int i2), .val (.int i3), .val (.int (1 : Int32)), .val (.ref b1), .val (.int (1 : Int32))]) rfl ?_
  refine XS.iload X3.here hx rfl (hb hby at_29) rfl ?_
  refine XS.iconst X3.here hx rfl (hb hby at_31) ?_
  refine XS.icmpNo X3.here hx rfl (hb hby at_32) rfl (flt (by decide : ¬ ((1 : Int32) < (1 : Int32)))).1 ?_
  refine XS.aload X3.here hx rfl (hb hby at_35) rfl rfl ?_
  refine st4.trans ?_
  refine XS.iload X4.here hx rfl (hb hby at_40) rfl ?_
  show Steps p.tables e below (T4.setTop (mkF m 42 #[.val (.int i0), .val (.int i1), .val (.int i2), .val (.int i3), .val (.int (1 : Int32)), .val (.ref b1), .val (.int (1 : Int32))] [(.int (1 : Int32))])) _
  refine XS.ifNo X4.here hx rfl (hb hby at_42) rfl ((if0 _ _).trans (feq (by decide : ¬ ((1 : Int32) = (0 : Int32)))).1) ?_
  refine XS.aload X4.here hx rfl (hb hby at_45) rfl rfl ?_
  refine st5.trans ?_
  refine XS.ifNo X5.here hx rfl (hb hby at_50) rfl ((if0 _ _).trans (feq (by decide : ¬ ((1 : Int32) = (0 : Int32)))).1) ?_
  refine XS.iconst X5.here hx rfl (hb hby at_53) ?_
  refine XS.goto X5.here hx rfl (pc0 := 54) (pc' := 58) rfl (hb hby at_54) (by decide) (by decide) ?_
  refine XS.istore X5.here hx rfl (hb hby at_58) rfl (l' := #[.val (.int i0), .val (.int i1), .val (.int i2), .val (.int i3), .val (.int (1 : Int32)), .val (.ref b1), .val (.int (1 : Int32))]) rfl ?_
  refine XS.iload X5.here hx rfl (hb hby at_60) rfl ?_
  show Steps p.tables e below (T5.setTop (mkF m 62 #[.val (.int i0), .val (.int i1), .val (.int i2), .val (.int i3), .val (.int (1 : Int32)), .val (.ref b1), .val (.int (1 : Int32))] [(.int (1 : Int32))])) _
  refine XS.iconst X5.here hx rfl (hb hby at_62) ?_
  refine XS.icmpYes X5.here hx rfl (pc0 := 63) (pc' := 91) rfl (hb hby at_63) rfl (tlt (by decide : (1 : Int32) < (2 : Int32))).1 (by decide) (by decide) ?_
  refine XS.iload X5.here hx rfl (hb hby at_91) rfl ?_
  refine XS.iconst X5.here hx rfl (hb hby at_93) ?_
  refine XS.icmpYes X5.here hx rfl (pc0 := 94) (pc' := 102) rfl (hb hby at_94) rfl (tlt (by decide : (1 : Int32) < (3 : Int32))).1 (by decide) (by decide) ?_
  exact kt
theorem own_split_1 (x : Int32) : (x &&& (1 : Int32)) = (0 : Int32) ∨ (x &&& (1 : Int32)) = (1 : Int32) := by
  have h1 := c_mask x (1 : Int32) 1 (by decide) (by decide)
  simp only [← Int32.toInt_inj, h1, (by decide : (0 : Int32).toInt = 0), (by decide : (1 : Int32).toInt = 1)]
  omega
set_option maxRecDepth 65536 in
set_option maxHeartbeats 40000000 in
theorem law_12 (l : Launch) (Z : State) (a0 : Array Value) (hw : ∀ d ∈ tables_1, d.before a0 Z = true) (w : Nat → Addr) (kk : Nat → ClassId) (iw : Nat → Int32) (vw : Nat → Value) (hN : Wd Z w kk iw vw) (ws : List Jvm.Cond) (p0 : Int32) (p1 : Int32) (p2 : Int32) (p3 : Int32) (h0 : Heap) (O0 : Old Z Z.heap.size h0) (hp0 : (p0 &&& (3 : Int32)) = (1 : Int32)) (hp1 : (p1 &&& (1 : Int32)) = (0 : Int32)) (hp2 : (p3 &&& (1 : Int32)) = (0 : Int32)) :
    MetFree l x (head1 (Jvm.Cond.code x code maxLocals ret :: ws) room_1) (fun a U => a = #[(.int p0), (.int p1), (.int p2), (.int p3)] ∧ Z.Warmed39 U.vm ∧ U.heap = h0) (fun _ _ _ _ _ => True) (fun _ U o U' => ∃ v L, o = .returned v ∧ OL (some (.int (1 : Int32))) Z.heap.size v U'.heap L ∧ ReturnedEndW U o U' L 32 3072) := by
  have hN' := hN
  have hL0 : Sta Z Z.heap s_1 s_4 "Z" (.int (1 : Int32)) := hN'
  refine MetFree.of_bodySF (plainFor_of_name pn_2) hisR ?_
  intro p e s m args below meth c s₁ Bd hml0 hP hK
  obtain ⟨rfl, hZ, hh⟩ := hP
  have hx := Bd.exec
  have hby := Bd.bytes
  have hml : c.maxLocals = 7 := hml0
  have hown : s.vm.findClass s_2 = some m.cls := findClass_of_methodNamed Bd.named
  have hnm := (name_of_methodNamed Bd.named Bd.method).1
  have X0 : Stand p l e room_1 s m #[(.int p0), (.int p1), (.int p2), (.int p3)] below meth c s₁ [] 0 0 := Stand.of_body Bd
  have e0 : s₁.heap = h0 := by rw [← hh, Bd.state]; rfl
  have N0 := Fr.nil Z.heap.size
  obtain ⟨T1, L1, b1_0, b1_1, b1_2, b1_3, b1_4, b1_5, b1_6, kb1_0, kb1_1, kb1_2, kb1_3, kb1_4, X1, st1, N1, Kq1, tk1_0, tk1_1, tk1_2, tk1_3, tk1_4, tk1_5, tk1_6, tk1_7, tk1_8, tk1_9, tk1_10, tk1_11, tk1_12, tk1_13, tk1_14, tk1_15, tk1_16, tk1_17, tk1_18, tk1_19, tk1_20, tk1_21, tk1_22, tk1_23, tk1_24, tk1_25, tk1_26, tk1_27, tk1_28, tk1_29, tk1_30, tk1_31, tk1_32, tk1_33, tk1_34, tk1_35, tk1_36, tk1_37, tk1_38, tk1_39, tk1_40, tk1_41, tk1_42, tk1_43, tk1_44, tk1_45⟩ := sg_11 w kk iw vw hN p0 p1 p2 p3 X0 hx hZ hw hby hml hown e0 O0 N0
  have gn_b1_0 : Z.heap.size ≤ b1_0 := Nat.le_trans O0.2.1 tk1_0
  have gn_b1_1 : Z.heap.size ≤ b1_1 := Nat.le_trans O0.2.1 tk1_1
  have gn_b1_2 : Z.heap.size ≤ b1_2 := Nat.le_trans O0.2.1 tk1_2
  have gn_b1_3 : Z.heap.size ≤ b1_3 := Nat.le_trans O0.2.1 tk1_3
  have gn_b1_4 : Z.heap.size ≤ b1_4 := Nat.le_trans O0.2.1 tk1_4
  have gn_b1_5 : Z.heap.size ≤ b1_5 := Nat.le_trans O0.2.1 tk1_5
  have gn_b1_6 : Z.heap.size ≤ b1_6 := Nat.le_trans O0.2.1 tk1_6
  have O1 := O0.keep Kq1 all0
  obtain ⟨cq2, kq2, q2a, q2b, q2c⟩ := isOf hZ rfl tk1_28
  obtain ⟨_, _, ⟨T2, L2, k2, n2⟩, -, X2, ⟨Lc2, hQ2, l2, y2, z2⟩, st2⟩ := X1.virtualBack hx (y := (⟨s_0, "hasBlocks", "()Z"⟩ : MethodName)) (z := (⟨s_0, "hasBlocks", "()Z"⟩ : MethodName)) hown (mvT hZ (W hw 52 rfl)) (mvT hZ (W hw 53 rfl)) (notFace_of_selects (args := #[]) (mvT hZ (W hw 55 rfl))) (mvT hZ (W hw 55 rfl)) (mvT hZ (W hw 54 rfl)) (by decide) (backOf (W := 0) (rm_10 l Z a0 hw w kk iw vw hN [] b1_0 b1_1 b1_2 b1_3 b1_4 b1_5 kb1_0 kb1_1 kb1_2 kb1_3 b1_6 kb1_4 T1.heap O1 gn_b1_0 tk1_28.lt tk1_28 gn_b1_1 tk1_37.lt tk1_29 gn_b1_2 tk1_38.lt tk1_30 gn_b1_3 tk1_39.lt tk1_31 gn_b1_4 tk1_40.lt tk1_32 gn_b1_5 tk1_41.lt tk1_33 tk1_34 tk1_35 tk1_36 tk1_37 tk1_38 tk1_39 tk1_40 tk1_41 tk1_42 tk1_43 gn_b1_6 tk1_45.lt tk1_44 tk1_45 tk1_7 tk1_8 tk1_9 tk1_10 tk1_11 tk1_12 tk1_13 tk1_14 tk1_15 tk1_16 tk1_17 tk1_18 tk1_19 tk1_20 tk1_21 tk1_22 tk1_23 tk1_24 tk1_25 tk1_26 tk1_27) hZ (W hw 56 rfl) (W hw 2 rfl) (by decide) (by decide)) q2a q2c (g := (mkF m 157 #[.val (.int p0), .val (.int p1), .val (.int p2), .val (.int p3), .val (.int (1 : Int32)), .val (.ref b1_0), .val (.int (1 : Int32))] [(.ref b1_0)])) rfl (by rw [hml]; rfl) (Steps.refl _) (argsL := []) (rest := []) (lenOf pd_3 rfl) rfl (by show 2 * 0 + _ ≤ _; exact Nat.le_of_eq rfl) (hb hby at_157) (fun _ _ => ⟨rfl, rfl, (by decide : 10 + 0 ≤ _), (by decide : 467 + 0 ≤ _)⟩)
  dsimp only [Pt.U, Pt.locs, Pt.cells, Pt.slots] at X2 l2 y2 z2 st2 hQ2
  subst l2 y2 z2
  obtain ⟨rfl, N2q, e2⟩ := hQ2
  have N2 := Fr.app N1 N2q
  obtain ⟨fs, hr, hrun, hended, hW, hsame⟩ := X2.leave (v := some (.int (1 : Int32))) (fun h => by rw [Bd.returns] at h; cases h)
  refine ⟨_, _, castTop (ef_3 m (.int p0) rfl (.int p1) rfl (.int p2) rfl (.int p3) rfl) ?_, hrun, hended, _, _, rfl, ?_, ⟨_, rfl⟩, hW.wide, hW.no_new_pair _, hsame.mono (by decide) (by decide)⟩
  · show Steps p.tables e below (s₁.setTop (mkF m 0 #[.val (.int p0), .val (.int p1), .val (.int p2), .val (.int p3), .unset, .unset, .unset] [])) _
    refine XS.iloadN X0.here hx rfl (hb hby at_0) rfl ?_
    refine XS.iconst X0.here hx rfl (hb hby at_1) ?_
    refine XS.iand X0.here hx rfl (hb hby at_2) rfl ?_
    show Steps p.tables e below (s₁.setTop (mkF m 3 #[.val (.int p0), .val (.int p1), .val (.int p2), .val (.int p3), .unset, .unset, .unset] [(.int (p0 &&& (3 : Int32)))])) _
    rw [hp0]
    refine XS.istore X0.here hx rfl (hb hby at_3) rfl (l' := #[.val (.int p0), .val (.int p1), .val (.int p2), .val (.int p3), .val (.int (1 : Int32)), .unset, .unset]) rfl ?_
    show Steps p.tables e below (s₁.setTop (mkF m 5 #[.val (.int p0), .val (.int p1), .val (.int p2), .val (.int p3), .val (.int (1 : Int32)), .unset, .unset] [])) _
    refine st1 _ ?_
    refine XS.iload X1.here hx rfl (hb hby at_102) rfl ?_
    refine XS.ifNo X1.here hx rfl (hb hby at_104) rfl ((if0 _ _).trans (tlt (by decide : (0 : Int32) < (1 : Int32))).2.2.2) ?_
    refine XS.iloadN X1.here hx rfl (hb hby at_107) rfl ?_
    refine XS.iconst X1.here hx rfl (hb hby at_108) ?_
    refine XS.iand X1.here hx rfl (hb hby at_109) rfl ?_
    show Steps p.tables e below (T1.setTop (mkF m 110 #[.val (.int p0), .val (.int p1), .val (.int p2), .val (.int p3), .val (.int (1 : Int32)), .val (.ref b1_0), .val (.int (1 : Int32))] [(.int (p1 &&& (1 : Int32)))])) _
    rw [hp1]
    refine XS.ifYes X1.here hx rfl (pc0 := 110) (pc' := 125) rfl (hb hby at_110) rfl ((if0 _ _).trans (teq (by decide : (0 : Int32) = (0 : Int32))).1) (by decide) (by decide) ?_
    refine XS.iload X1.here hx rfl (hb hby at_125) rfl ?_
    show Steps p.tables e below (T1.setTop (mkF m 127 #[.val (.int p0), .val (.int p1), .val (.int p2), .val (.int p3), .val (.int (1 : Int32)), .val (.ref b1_0), .val (.int (1 : Int32))] [(.int (1 : Int32))])) _
    refine XS.ifNo X1.here hx rfl (hb hby at_127) rfl ((if0 _ _).trans (tlt (by decide : (0 : Int32) < (1 : Int32))).2.2.2) ?_
    refine XS.iloadN X1.here hx rfl (hb hby at_130) rfl ?_
    refine XS.iconst X1.here hx rfl (hb hby at_131) ?_
    refine XS.iand X1.here hx rfl (hb hby at_132) rfl ?_
    show Steps p.tables e below (T1.setTop (mkF m 133 #[.val (.int p0), .val (.int p1), .val (.int p2), .val (.int p3), .val (.int (1 : Int32)), .val (.ref b1_0), .val (.int (1 : Int32))] [(.int (p3 &&& (1 : Int32)))])) _
    rw [hp2]
    refine XS.ifYes X1.here hx rfl (pc0 := 133) (pc' := 150) rfl (hb hby at_133) rfl ((if0 _ _).trans (teq (by decide : (0 : Int32) = (0 : Int32))).1) (by decide) (by decide) ?_
    refine XS.iload X1.here hx rfl (hb hby at_150) rfl ?_
    refine XS.ifNo X1.here hx rfl (hb hby at_152) rfl ((if0 _ _).trans (feq (by decide : ¬ ((1 : Int32) = (0 : Int32)))).1) ?_
    refine XS.aload X1.here hx rfl (hb hby at_155) rfl rfl ?_
    show Steps p.tables e below (T1.setTop (mkF m 157 #[.val (.int p0), .val (.int p1), .val (.int p2), .val (.int p3), .val (.int (1 : Int32)), .val (.ref b1_0), .val (.int (1 : Int32))] [(.ref b1_0)])) _
    refine st2.trans ?_
    refine XS.iload X2.here hx rfl (hb hby at_160) rfl ?_
    refine XS.ifNo X2.here hx rfl (hb hby at_162) rfl ((if0 _ _).trans (tlt (by decide : (0 : Int32) < (1 : Int32))).2.2.2) ?_
    refine XS.iconst X2.here hx rfl (hb hby at_165) ?_
    refine XS.goto X2.here hx rfl (pc0 := 166) (pc' := 170) rfl (hb hby at_166) (by decide) (by decide) ?_
    refine XS.icmpNo X2.here hx rfl (hb hby at_170) rfl (teq (by decide : (1 : Int32) = (1 : Int32))).2 ?_
    refine XS.iconst X2.here hx rfl (hb hby at_173) ?_
    refine XS.goto X2.here hx rfl (pc0 := 174) (pc' := 178) rfl (hb hby at_174) (by decide) (by decide) ?_
    show Steps p.tables e below (T2.setTop (mkF m 178 #[.val (.int p0), .val (.int p1), .val (.int p2), .val (.int p3), .val (.int (1 : Int32)), .val (.ref b1_0), .val (.int (1 : Int32))] [(.int (1 : Int32))])) _
    refine XS.istore X2.here hx rfl (hb hby at_178) rfl (l' := #[.val (.int p0), .val (.int p1), .val (.int p2), .val (.int p3), .val (.int (1 : Int32)), .val (.ref b1_0), .val (.int (1 : Int32))]) rfl ?_
    refine XS.iload X2.here hx rfl (hb hby at_180) rfl ?_
    show Steps p.tables e below (T2.setTop (mkF m 182 #[.val (.int p0), .val (.int p1), .val (.int p2), .val (.int p3), .val (.int (1 : Int32)), .val (.ref b1_0), .val (.int (1 : Int32))] [(.int (1 : Int32))])) _
    exact retN X2 hx (t := .boolean) Bd.returns (by simp) (hb hby at_182) hr
  · show OL (some (.int (1 : Int32))) Z.heap.size _ T2.heap _
    exact ⟨rfl, N2⟩
theorem d7_0 : decode prog_20_method_6_code 0 = .ok (.aload_n 0, 1) := by decide +kernel
theorem d7_1 : decode prog_20_method_6_code 1 = .ok (.getfield 25, 3) := by decide +kernel
theorem d7_4 : decode prog_20_method_6_code 4 = .ok (.aload_n 0, 1) := by decide +kernel
theorem d7_5 : decode prog_20_method_6_code 5 = .ok (.iload_n 1, 1) := by decide +kernel
theorem d7_6 : decode prog_20_method_6_code 6 = .ok (.ldc 98, 2) := by decide +kernel
theorem d7_8 : decode prog_20_method_6_code 8 = .ok (.invokevirtual 55, 3) := by decide +kernel
theorem d8_0 : decode prog_20_method_11_code 0 = .ok (.iload_n 1, 1) := by decide +kernel
theorem d8_1 : decode prog_20_method_11_code 1 = .ok (.ifCond .lt 11, 3) := by decide +kernel
theorem d8_4 : decode prog_20_method_11_code 4 = .ok (.iload_n 1, 1) := by decide +kernel
theorem d8_5 : decode prog_20_method_11_code 5 = .ok (.aload_n 0, 1) := by decide +kernel
theorem d8_6 : decode prog_20_method_11_code 6 = .ok (.getfield 46, 3) := by decide +kernel
theorem d8_9 : decode prog_20_method_11_code 9 = .ok (.if_icmp .lt 18, 3) := by decide +kernel
theorem d8_27 : decode prog_20_method_11_code 27 = .ok (.iload_n 1, 1) := by decide +kernel
theorem d8_28 : decode prog_20_method_11_code 28 = .ok (.ireturn, 1) := by decide +kernel
theorem ef_5 (m : MethodId) (x0 : Value) (h0 : x0.category = 1) (x1 : Value) (h1 : x1.category = 1) (x2 : Value) (h2 : x2.category = 1) : entryFrame m #[x0, x1, x2] 3 = mkF m 0 #[.val x0, .val x1, .val x2] [] := by first | (simp [entryFrame, mkF, argsToLocals, h0, h1, h2]; done) | rfl
set_option maxRecDepth 65536 in
set_option maxHeartbeats 40000000 in
theorem rm_13 (l : Launch) (Z : State) (a0 : Array Value) (hw : ∀ d ∈ tables_1, d.before a0 Z = true) (w : Nat → Addr) (kk : Nat → ClassId) (iw : Nat → Int32) (vw : Nat → Value) (hN : Wd Z w kk iw vw) (ws : List Jvm.Cond) (o1 : Addr) (p1 : Int32) (o2 : Addr) (o3 : Addr) (o4 : Addr) (o5 : Addr) (o6 : Addr) (o7 : Addr) (kc_o3 : ClassId) (kc_o4 : ClassId) (kc_o5 : ClassId) (kc_o6 : ClassId) (o8 : Addr) (kc_o8 : ClassId) (h0 : Heap) (O0 : Old Z Z.heap.size h0) (gn_o1 : Z.heap.size ≤ o1) (lt_o1 : o1 < h0.size) (E_o1 : Exa Z h0 o1 s_0) (gn_o3 : Z.heap.size ≤ o3) (lt_o3 : o3 < h0.size) (F_o1_nextBlock : Fld Z h0 o1 s_0 "nextBlock" "[I" (.ref o3)) (gn_o4 : Z.heap.size ≤ o4) (lt_o4 : o4 < h0.size) (F_o1_previousBlock : Fld Z h0 o1 s_0 s_5 "[I" (.ref o4)) (gn_o5 : Z.heap.size ≤ o5) (lt_o5 : o5 < h0.size) (F_o1_firstPiece : Fld Z h0 o1 s_0 "firstPiece" "[I" (.ref o5)) (gn_o6 : Z.heap.size ≤ o6) (lt_o6 : o6 < h0.size) (F_o1_lastPiece : Fld Z h0 o1 s_0 "lastPiece" "[I" (.ref o6)) (gn_o7 : Z.heap.size ≤ o7) (lt_o7 : o7 < h0.size) (F_o1_closed : Fld Z h0 o1 s_0 "closed" s_3 (.ref o7)) (F_o1_firstBlock : Fld Z h0 o1 s_0 "firstBlock" "I" (.int (0 : Int32))) (F_o1_lastBlock : Fld Z h0 o1 s_0 "lastBlock" "I" (.int (0 : Int32))) (F_o1_blockCount : Fld Z h0 o1 s_0 "blockCount" "I" (.int (1 : Int32))) (V_o3 : Arv Z h0 o3 kc_o3 .int (64 : Int32) [(.int (-1 : Int32))] (.int (0 : Int32))) (V_o4 : Arv Z h0 o4 kc_o4 .int (64 : Int32) [(.int (-1 : Int32))] (.int (0 : Int32))) (V_o5 : Arv Z h0 o5 kc_o5 .int (64 : Int32) [(.int (-1 : Int32))] (.int (0 : Int32))) (V_o6 : Arv Z h0 o6 kc_o6 .int (64 : Int32) [(.int (-1 : Int32))] (.int (0 : Int32))) (E_o7 : Exa Z h0 o7 s_1) (F_o7_wordsInUse : Fld Z h0 o7 s_1 "wordsInUse" "I" (.int (0 : Int32))) (F_o7_sizeIsSticky : Fld Z h0 o7 s_1 s_6 "Z" (.int (0 : Int32))) (gn_o8 : Z.heap.size ≤ o8) (lt_o8 : o8 < h0.size) (F_o7_words : Fld Z h0 o7 s_1 "words" "[J" (.ref o8)) (V_o8 : Arv Z h0 o8 kc_o8 .long (1 : Int32) [] (.long (0 : Int64))) (ne_o1_o3 : o1 ≠ o3) (ne_o1_o4 : o1 ≠ o4) (ne_o1_o5 : o1 ≠ o5) (ne_o1_o6 : o1 ≠ o6) (ne_o1_o7 : o1 ≠ o7) (ne_o1_o8 : o1 ≠ o8) (ne_o3_o4 : o3 ≠ o4) (ne_o3_o5 : o3 ≠ o5) (ne_o3_o6 : o3 ≠ o6) (ne_o3_o7 : o3 ≠ o7) (ne_o3_o8 : o3 ≠ o8) (ne_o4_o5 : o4 ≠ o5) (ne_o4_o6 : o4 ≠ o6) (ne_o4_o7 : o4 ≠ o7) (ne_o4_o8 : o4 ≠ o8) (ne_o5_o6 : o5 ≠ o6) (ne_o5_o7 : o5 ≠ o7) (ne_o5_o8 : o5 ≠ o8) (ne_o6_o7 : o6 ≠ o7) (ne_o6_o8 : o6 ≠ o8) (ne_o7_o8 : o7 ≠ o8) (hp0 : ¬ (p1 < (0 : Int32))) (hp1 : p1 < (1 : Int32)) :
    Met l Z (⟨s_0, "find", s_7⟩ : MethodName) (Jvm.Cond.code (⟨s_0, "find", s_7⟩ : MethodName) prog_20_method_11_code 3 (some .int)) ws (Rm 0 0 0 0) #[(.ref o1), (.int p1), (.ref o2)] h0 (OQ (some (.int p1)) h0 Z.heap.size) := by
  have hN' := hN
  have hL0 : Sta Z Z.heap s_1 s_4 "Z" (.int (1 : Int32)) := hN'
  refine own_body (plainFor_of_name pn_1) hisR ?_
  intro p e s m below meth c s₁ hx hby hml hown hnm hret X0 hZ e0
  have N0 := Fr.nil Z.heap.size
  obtain ⟨T1, X1, e1, st1⟩ := getF X0 hx hZ hown (host := "") (Or.inl (W hw 57 rfl)) Via.refl e0 F_o1_blockCount (g := (mkF m 6 #[.val (.ref o1), .val (.int p1), .val (.ref o2)] [(.ref o1), (.int p1)])) rfl rfl (hb hby d8_6)
  refine ⟨T1, some (.int p1), _, _, _, by decide, by decide, X1, nofun, (by rw [e1]; exact ⟨rfl, N0, rfl⟩), fun fs hr => castTop (ef_5 m (.ref o1) rfl (.int p1) rfl (.ref o2) rfl) ?_⟩
  show Steps p.tables e below (s₁.setTop (mkF m 0 #[.val (.ref o1), .val (.int p1), .val (.ref o2)] [])) _
  refine XS.iloadN X0.here hx rfl (hb hby d8_0) rfl ?_
  refine XS.ifNo X0.here hx rfl (hb hby d8_1) rfl ((if0 _ _).trans (flt hp0).1) ?_
  refine XS.iloadN X0.here hx rfl (hb hby d8_4) rfl ?_
  refine XS.aloadN X0.here hx rfl (hb hby d8_5) rfl rfl ?_
  refine st1 _ ?_
  refine XS.icmpYes X1.here hx rfl (pc0 := 9) (pc' := 27) rfl (hb hby d8_9) rfl (tlt hp1).1 (by decide) (by decide) ?_
  refine XS.iloadN X1.here hx rfl (hb hby d8_27) rfl ?_
  show Steps p.tables e below (T1.setTop (mkF m 28 #[.val (.ref o1), .val (.int p1), .val (.ref o2)] [(.int p1)])) _
  exact retI X1 hx hret (hb hby d8_28) hr
theorem pd_5 : parseMethodDescriptor s_7 = some ⟨[.int, (.object "java/lang/String")], some .int⟩ := by decide +kernel
theorem d7_11 : decode prog_20_method_6_code 11 = .ok (.invokevirtual 100, 3) := by decide +kernel
theorem d9_0 : decode jdk_92_method_19_code 0 = .ok (.iload_n 1, 1) := by decide +kernel
theorem d9_1 : decode jdk_92_method_19_code 1 = .ok (.ifCond .ge 30, 3) := by decide +kernel
theorem d9_31 : decode jdk_92_method_19_code 31 = .ok (.iload_n 1, 1) := by decide +kernel
theorem d9_32 : decode jdk_92_method_19_code 32 = .ok (.invokestatic 52, 3) := by decide +kernel
set_option maxRecDepth 65536 in
set_option maxHeartbeats 40000000 in
theorem rm_14 (l : Launch) (Z : State) (a0 : Array Value) (hw : ∀ d ∈ tables_1, d.before a0 Z = true) (w : Nat → Addr) (kk : Nat → ClassId) (iw : Nat → Int32) (vw : Nat → Value) (hN : Wd Z w kk iw vw) (ws : List Jvm.Cond) (p0 : Int32) (h0 : Heap) (O0 : Old Z Z.heap.size h0) (hp0 : (p0 >>> ((6 : Int32) &&& 31)) = (0 : Int32)) :
    Met l Z (⟨s_1, "wordIndex", "(I)I"⟩ : MethodName) (Jvm.Cond.code (⟨s_1, "wordIndex", "(I)I"⟩ : MethodName) jdk_92_method_1_code 1 (some .int)) ws (Rm 0 0 0 0) #[(.int p0)] h0 (OQ (some (.int (0 : Int32))) h0 Z.heap.size) := by
  have hN' := hN
  have hL0 : Sta Z Z.heap s_1 s_4 "Z" (.int (1 : Int32)) := hN'
  refine own_body (plainFor_of_name pn_0) hisR ?_
  intro p e s m below meth c s₁ hx hby hml hown hnm hret X0 hZ e0
  have N0 := Fr.nil Z.heap.size
  refine ⟨s₁, some (.int (0 : Int32)), _, _, _, by decide, by decide, X0, nofun, (by rw [e0]; exact ⟨rfl, N0, rfl⟩), fun fs hr => castTop (ef_0 m (.int p0) rfl) ?_⟩
  show Steps p.tables e below (s₁.setTop (mkF m 0 #[.val (.int p0)] [])) _
  refine XS.iloadN X0.here hx rfl (hb hby d3_0) rfl ?_
  refine XS.bipush X0.here hx rfl (hb hby d3_1) ?_
  refine XS.ishr X0.here hx rfl (hb hby d3_3) rfl ?_
  show Steps p.tables e below (s₁.setTop (mkF m 4 #[.val (.int p0)] [(.int (p0 >>> ((6 : Int32) &&& 31)))])) _
  rw [hp0]
  show Steps p.tables e below (s₁.setTop (mkF m 4 #[.val (.int p0)] [(.int (0 : Int32))])) _
  exact retI X0 hx hret (hb hby d3_4) hr
theorem d9_35 : decode jdk_92_method_19_code 35 = .ok (.istore_n 2, 1) := by decide +kernel
theorem d9_36 : decode jdk_92_method_19_code 36 = .ok (.aload_n 0, 1) := by decide +kernel
theorem d9_37 : decode jdk_92_method_19_code 37 = .ok (.iload_n 2, 1) := by decide +kernel
theorem d9_38 : decode jdk_92_method_19_code 38 = .ok (.invokevirtual 155, 3) := by decide +kernel
theorem d10_0 : decode jdk_92_method_15_code 0 = .ok (.iload_n 1, 1) := by decide +kernel
theorem d10_1 : decode jdk_92_method_15_code 1 = .ok (.iconst 1, 1) := by decide +kernel
theorem d10_2 : decode jdk_92_method_15_code 2 = .ok (.iadd, 1) := by decide +kernel
theorem d10_3 : decode jdk_92_method_15_code 3 = .ok (.istore_n 2, 1) := by decide +kernel
theorem d10_4 : decode jdk_92_method_15_code 4 = .ok (.aload_n 0, 1) := by decide +kernel
theorem d10_5 : decode jdk_92_method_15_code 5 = .ok (.getfield 7, 3) := by decide +kernel
theorem d10_8 : decode jdk_92_method_15_code 8 = .ok (.iload_n 2, 1) := by decide +kernel
theorem d10_9 : decode jdk_92_method_15_code 9 = .ok (.if_icmp .ge 13, 3) := by decide +kernel
theorem d10_12 : decode jdk_92_method_15_code 12 = .ok (.aload_n 0, 1) := by decide +kernel
theorem d10_13 : decode jdk_92_method_15_code 13 = .ok (.iload_n 2, 1) := by decide +kernel
theorem d10_14 : decode jdk_92_method_15_code 14 = .ok (.invokevirtual 139, 3) := by decide +kernel
theorem d11_0 : decode jdk_92_method_14_code 0 = .ok (.aload_n 0, 1) := by decide +kernel
theorem d11_1 : decode jdk_92_method_14_code 1 = .ok (.getfield 11, 3) := by decide +kernel
theorem d11_4 : decode jdk_92_method_14_code 4 = .ok (.arraylength, 1) := by decide +kernel
theorem d11_5 : decode jdk_92_method_14_code 5 = .ok (.iload_n 1, 1) := by decide +kernel
theorem d11_6 : decode jdk_92_method_14_code 6 = .ok (.if_icmp .ge 32, 3) := by decide +kernel
theorem d11_38 : decode jdk_92_method_14_code 38 = .ok (.return_, 1) := by decide +kernel
theorem ef_6 (m : MethodId) (x0 : Value) (h0 : x0.category = 1) (x1 : Value) (h1 : x1.category = 1) : entryFrame m #[x0, x1] 3 = mkF m 0 #[.val x0, .val x1, .unset] [] := by first | (simp [entryFrame, mkF, argsToLocals, h0, h1]; done) | rfl
set_option maxRecDepth 65536 in
set_option maxHeartbeats 40000000 in
theorem rm_15 (l : Launch) (Z : State) (a0 : Array Value) (hw : ∀ d ∈ tables_1, d.before a0 Z = true) (w : Nat → Addr) (kk : Nat → ClassId) (iw : Nat → Int32) (vw : Nat → Value) (hN : Wd Z w kk iw vw) (ws : List Jvm.Cond) (o1 : Addr) (o2 : Addr) (kc_o2 : ClassId) (h0 : Heap) (O0 : Old Z Z.heap.size h0) (gn_o1 : Z.heap.size ≤ o1) (lt_o1 : o1 < h0.size) (E_o1 : Exa Z h0 o1 s_1) (F_o1_wordsInUse : Fld Z h0 o1 s_1 "wordsInUse" "I" (.int (0 : Int32))) (F_o1_sizeIsSticky : Fld Z h0 o1 s_1 s_6 "Z" (.int (0 : Int32))) (gn_o2 : Z.heap.size ≤ o2) (lt_o2 : o2 < h0.size) (F_o1_words : Fld Z h0 o1 s_1 "words" "[J" (.ref o2)) (V_o2 : Arv Z h0 o2 kc_o2 .long (1 : Int32) [] (.long (0 : Int64))) (ne_o1_o2 : o1 ≠ o2) :
    Met l Z (⟨s_1, "ensureCapacity", "(I)V"⟩ : MethodName) (Jvm.Cond.code (⟨s_1, "ensureCapacity", "(I)V"⟩ : MethodName) jdk_92_method_14_code 3 none) ws (Rm 0 0 0 0) #[(.ref o1), (.int (1 : Int32))] h0 (OQ (none) h0 Z.heap.size) := by
  have hN' := hN
  have hL0 : Sta Z Z.heap s_1 s_4 "Z" (.int (1 : Int32)) := hN'
  refine own_body (plainFor_of_name pn_0) hisR ?_
  intro p e s m below meth c s₁ hx hby hml hown hnm hret X0 hZ e0
  have N0 := Fr.nil Z.heap.size
  obtain ⟨T1, X1, e1, st1⟩ := getF X0 hx hZ hown (host := "") (Or.inl (W hw 38 rfl)) Via.refl e0 F_o1_words (g := (mkF m 1 #[.val (.ref o1), .val (.int (1 : Int32)), .unset] [(.ref o1)])) rfl rfl (hb hby d11_1)
  obtain ⟨cl2, Ar2, q2, Sz2, Ng2, Hv2, Gv2⟩ := id V_o2
  refine ⟨T1, none, _, _, _, by decide, by decide, X1, (fun _ => rfl), (by rw [e1]; exact ⟨rfl, N0, rfl⟩), fun fs hr => castTop (ef_6 m (.ref o1) rfl (.int (1 : Int32)) rfl) ?_⟩
  show Steps p.tables e below (s₁.setTop (mkF m 0 #[.val (.ref o1), .val (.int (1 : Int32)), .unset] [])) _
  refine XS.aloadN X0.here hx rfl (hb hby d11_0) rfl rfl ?_
  refine st1 _ ?_
  refine X1.arraylength hx (by rw [e1]; exact Ar2.1) (State.isArrayOf_alike hZ.alike Ar2.2.1) (g := (mkF m 4 #[.val (.ref o1), .val (.int (1 : Int32)), .unset] [(.ref o2)])) rfl rfl (hb hby d11_4) _ ?_
  rw [len_of Sz2 Ng2]
  refine XS.iloadN X1.here hx rfl (hb hby d11_5) rfl ?_
  refine XS.icmpYes X1.here hx rfl (pc0 := 6) (pc' := 38) rfl (hb hby d11_6) rfl (flt (by decide : ¬ ((1 : Int32) < (1 : Int32)))).2.1 (by decide) (by decide) ?_
  show Steps p.tables e below (T1.setTop (mkF m 38 #[.val (.ref o1), .val (.int (1 : Int32)), .unset] [])) _
  exact X1.returnOut hx hret (hb hby d11_38) hr
theorem d10_17 : decode jdk_92_method_15_code 17 = .ok (.aload_n 0, 1) := by decide +kernel
theorem d10_18 : decode jdk_92_method_15_code 18 = .ok (.iload_n 2, 1) := by decide +kernel
theorem d10_19 : decode jdk_92_method_15_code 19 = .ok (.putfield 7, 3) := by decide +kernel
theorem d10_22 : decode jdk_92_method_15_code 22 = .ok (.return_, 1) := by decide +kernel
def Qd_4 (Z : State) (w : Nat → Addr) (kk : Nat → ClassId) (iw : Nat → Int32) (vw : Nat → Value) (o1 : Addr) (o2 : Addr) (kc_o2 : ClassId) (h0 : Heap) (n0 : Nat) (v : Option Value) (h : Heap) (L : List Loc) : Prop := v = none ∧ Fr n0 L ∧ Keep h0 h [o1] ∧ Exa Z h o1 s_1 ∧ Fld Z h o1 s_1 "wordsInUse" "I" (.int (1 : Int32)) ∧ Fld Z h o1 s_1 s_6 "Z" (.int (0 : Int32)) ∧ Fld Z h o1 s_1 "words" "[J" (.ref o2)
set_option maxRecDepth 65536 in
set_option maxHeartbeats 40000000 in
theorem rm_16 (l : Launch) (Z : State) (a0 : Array Value) (hw : ∀ d ∈ tables_1, d.before a0 Z = true) (w : Nat → Addr) (kk : Nat → ClassId) (iw : Nat → Int32) (vw : Nat → Value) (hN : Wd Z w kk iw vw) (ws : List Jvm.Cond) (o1 : Addr) (o2 : Addr) (kc_o2 : ClassId) (h0 : Heap) (O0 : Old Z Z.heap.size h0) (gn_o1 : Z.heap.size ≤ o1) (lt_o1 : o1 < h0.size) (E_o1 : Exa Z h0 o1 s_1) (F_o1_wordsInUse : Fld Z h0 o1 s_1 "wordsInUse" "I" (.int (0 : Int32))) (F_o1_sizeIsSticky : Fld Z h0 o1 s_1 s_6 "Z" (.int (0 : Int32))) (gn_o2 : Z.heap.size ≤ o2) (lt_o2 : o2 < h0.size) (F_o1_words : Fld Z h0 o1 s_1 "words" "[J" (.ref o2)) (V_o2 : Arv Z h0 o2 kc_o2 .long (1 : Int32) [] (.long (0 : Int64))) (ne_o1_o2 : o1 ≠ o2) :
    Met l Z (⟨s_1, "expandTo", "(I)V"⟩ : MethodName) (Jvm.Cond.code (⟨s_1, "expandTo", "(I)V"⟩ : MethodName) jdk_92_method_15_code 3 none) ws (Rm 1 0 0 14) #[(.ref o1), (.int (0 : Int32))] h0 (Qd_4 Z w kk iw vw o1 o2 kc_o2 h0 Z.heap.size) := by
  have hN' := hN
  have hL0 : Sta Z Z.heap s_1 s_4 "Z" (.int (1 : Int32)) := hN'
  refine own_body (plainFor_of_name pn_0) hisR ?_
  intro p e s m below meth c s₁ hx hby hml hown hnm hret X0 hZ e0
  have N0 := Fr.nil Z.heap.size
  have K0 : Keep h0 h0 [o1] := Keep.refl _ _
  obtain ⟨T1, X1, e1, st1⟩ := getF X0 hx hZ hown (host := "") (Or.inl (W hw 25 rfl)) Via.refl e0 F_o1_wordsInUse (g := (mkF m 5 #[.val (.ref o1), .val (.int (0 : Int32)), .val (.int (1 : Int32))] [(.ref o1)])) rfl rfl (hb hby d10_5)
  obtain ⟨cq2, q2, q2'⟩ := E_o1.cell
  obtain ⟨_, _, ⟨T2, L2, k2, n2⟩, -, X2, ⟨Lc2, hQ2, l2, y2, z2⟩, st2⟩ := X1.privateBack hx (y := (⟨s_1, "ensureCapacity", "(I)V"⟩ : MethodName)) hown (mvT hZ (W hw 103 rfl)) (mvT hZ (W hw 104 rfl)) (mvT hZ (W hw 106 rfl)) (Cond.privateMethod_at (mvP hZ (W hw 105 rfl) (args := #[]))) (mvT hZ (W hw 107 rfl)) (by decide) (backOf (W := 0) (rm_15 l Z a0 hw w kk iw vw hN [] o1 o2 kc_o2 h0 O0 gn_o1 E_o1.lt E_o1 F_o1_wordsInUse F_o1_sizeIsSticky gn_o2 V_o2.lt F_o1_words V_o2 ne_o1_o2) hZ (W hw 107 rfl) (W hw 20 rfl) (by decide) (by decide)) (g := (mkF m 14 #[.val (.ref o1), .val (.int (0 : Int32)), .val (.int (1 : Int32))] [(.int (1 : Int32)), (.ref o1)])) rfl (by rw [hml]; rfl) (Steps.refl _) (a := o1) (by rw [e1]; exact q2) q2' (argsL := [(.int (1 : Int32))]) (rest := []) (lenOf pd_1 rfl) rfl (by show 2 * 0 + _ ≤ _; exact Nat.le_of_eq rfl) (hb hby d10_14) (fun _ _ => ⟨rfl, e1, (by decide : 0 + 0 ≤ _), (by decide : 0 + 0 ≤ _)⟩)
  dsimp only [Pt.U, Pt.locs, Pt.cells, Pt.slots] at X2 l2 y2 z2 st2 hQ2
  subst l2 y2 z2
  obtain ⟨rfl, N2q, e2⟩ := hQ2
  have N2 := Fr.app N0 N2q
  obtain ⟨T3, h3, X3, e3, W3, st3⟩ := putF X2 hx hZ hown (host := "") (Or.inl (W hw 25 rfl)) Via.refl e2 F_o1_wordsInUse E_o1 (Or.inl (W hw 26 rfl)) (W hw 19 rfl) (ty := .int) (by decide) rfl rfl (g := (mkF m 19 #[.val (.ref o1), .val (.int (0 : Int32)), .val (.int (1 : Int32))] [(.int (1 : Int32)), (.ref o1)])) rfl rfl (hb hby d10_19)
  have F_o1_wordsInUse_v3 := F_o1_wordsInUse.same W3
  have N3 := Fr.snoc X3 N2 gn_o1
  have E_o1_v3 := E_o1.wr W3
  have F_o1_sizeIsSticky_v3 := F_o1_sizeIsSticky.other W3 (Or.inr (sn_40 hw))
  have F_o1_words_v3 := F_o1_words.other W3 (Or.inr (sn_41 hw))
  have V_o2_v3 := V_o2.other W3 (Ne.symm ne_o1_o2)
  have O3 := O0.wr W3 gn_o1
  have K3 : Keep h0 h3 [o1] := K0.wr W3 (Or.inl (List.mem_of_getElem? (i := 0) rfl))
  refine ⟨T3, none, _, _, _, by decide, by decide, X3, (fun _ => rfl), (by rw [e3]; exact ⟨rfl, N3, K3, E_o1_v3, F_o1_wordsInUse_v3, F_o1_sizeIsSticky_v3, F_o1_words_v3⟩), fun fs hr => castTop (ef_6 m (.ref o1) rfl (.int (0 : Int32)) rfl) ?_⟩
  show Steps p.tables e below (s₁.setTop (mkF m 0 #[.val (.ref o1), .val (.int (0 : Int32)), .unset] [])) _
  refine XS.iloadN X0.here hx rfl (hb hby d10_0) rfl ?_
  refine XS.iconst X0.here hx rfl (hb hby d10_1) ?_
  refine XS.iadd X0.here hx rfl (hb hby d10_2) rfl ?_
  show Steps p.tables e below (s₁.setTop (mkF m 3 #[.val (.ref o1), .val (.int (0 : Int32)), .unset] [(.int ((0 : Int32) + (1 : Int32)))])) _
  rw [lf_2]
  refine XS.istoreN X0.here hx rfl (hb hby d10_3) rfl (l' := #[.val (.ref o1), .val (.int (0 : Int32)), .val (.int (1 : Int32))]) rfl ?_
  refine XS.aloadN X0.here hx rfl (hb hby d10_4) rfl rfl ?_
  refine st1 _ ?_
  refine XS.iloadN X1.here hx rfl (hb hby d10_8) rfl ?_
  refine XS.icmpNo X1.here hx rfl (hb hby d10_9) rfl (tlt (by decide : (0 : Int32) < (1 : Int32))).2.1 ?_
  show Steps p.tables e below (T1.setTop (mkF m 12 #[.val (.ref o1), .val (.int (0 : Int32)), .val (.int (1 : Int32))] [])) _
  refine XS.aloadN X1.here hx rfl (hb hby d10_12) rfl rfl ?_
  refine XS.iloadN X1.here hx rfl (hb hby d10_13) rfl ?_
  refine st2.trans ?_
  refine XS.aloadN X2.here hx rfl (hb hby d10_17) rfl rfl ?_
  refine XS.iloadN X2.here hx rfl (hb hby d10_18) rfl ?_
  refine st3 _ ?_
  show Steps p.tables e below (T3.setTop (mkF m 22 #[.val (.ref o1), .val (.int (0 : Int32)), .val (.int (1 : Int32))] [])) _
  exact X3.returnOut hx hret (hb hby d10_22) hr
theorem d9_41 : decode jdk_92_method_19_code 41 = .ok (.aload_n 0, 1) := by decide +kernel
theorem d9_42 : decode jdk_92_method_19_code 42 = .ok (.getfield 11, 3) := by decide +kernel
theorem d9_45 : decode jdk_92_method_19_code 45 = .ok (.iload_n 2, 1) := by decide +kernel
theorem d9_46 : decode jdk_92_method_19_code 46 = .ok (.dup2, 1) := by decide +kernel
theorem d9_47 : decode jdk_92_method_19_code 47 = .ok (.laload, 1) := by decide +kernel
theorem d9_48 : decode jdk_92_method_19_code 48 = .ok (.lconst 1, 1) := by decide +kernel
theorem d9_49 : decode jdk_92_method_19_code 49 = .ok (.iload_n 1, 1) := by decide +kernel
theorem d9_50 : decode jdk_92_method_19_code 50 = .ok (.lshl, 1) := by decide +kernel
theorem d9_51 : decode jdk_92_method_19_code 51 = .ok (.lor, 1) := by decide +kernel
theorem d9_52 : decode jdk_92_method_19_code 52 = .ok (.lastore, 1) := by decide +kernel
theorem d9_53 : decode jdk_92_method_19_code 53 = .ok (.aload_n 0, 1) := by decide +kernel
theorem d9_54 : decode jdk_92_method_19_code 54 = .ok (.invokevirtual 56, 3) := by decide +kernel
theorem d12_0 : decode jdk_92_method_2_code 0 = .ok (.getstatic 3, 3) := by decide +kernel
theorem d12_3 : decode jdk_92_method_2_code 3 = .ok (.ifCond .ne 34, 3) := by decide +kernel
theorem d12_37 : decode jdk_92_method_2_code 37 = .ok (.getstatic 3, 3) := by decide +kernel
theorem d12_40 : decode jdk_92_method_2_code 40 = .ok (.ifCond .ne 30, 3) := by decide +kernel
theorem d12_70 : decode jdk_92_method_2_code 70 = .ok (.getstatic 3, 3) := by decide +kernel
theorem d12_73 : decode jdk_92_method_2_code 73 = .ok (.ifCond .ne 37, 3) := by decide +kernel
theorem d12_110 : decode jdk_92_method_2_code 110 = .ok (.return_, 1) := by decide +kernel
set_option maxRecDepth 65536 in
set_option maxHeartbeats 40000000 in
theorem rm_17 (l : Launch) (Z : State) (a0 : Array Value) (hw : ∀ d ∈ tables_1, d.before a0 Z = true) (w : Nat → Addr) (kk : Nat → ClassId) (iw : Nat → Int32) (vw : Nat → Value) (hN : Wd Z w kk iw vw) (ws : List Jvm.Cond) (o1 : Addr) (o2 : Addr) (t0 : Int64) (kc_o2 : ClassId) (h0 : Heap) (O0 : Old Z Z.heap.size h0) (gn_o1 : Z.heap.size ≤ o1) (lt_o1 : o1 < h0.size) (E_o1 : Exa Z h0 o1 s_1) (F_o1_wordsInUse : Fld Z h0 o1 s_1 "wordsInUse" "I" (.int (1 : Int32))) (F_o1_sizeIsSticky : Fld Z h0 o1 s_1 s_6 "Z" (.int (0 : Int32))) (gn_o2 : Z.heap.size ≤ o2) (lt_o2 : o2 < h0.size) (F_o1_words : Fld Z h0 o1 s_1 "words" "[J" (.ref o2)) (V_o2 : Arv Z h0 o2 kc_o2 .long (1 : Int32) [(.long t0)] (.long (0 : Int64))) (ne_o1_o2 : o1 ≠ o2) :
    Met l Z (⟨s_1, "checkInvariants", "()V"⟩ : MethodName) (Jvm.Cond.code (⟨s_1, "checkInvariants", "()V"⟩ : MethodName) jdk_92_method_2_code 1 none) ws (Rm 0 0 0 0) #[(.ref o1)] h0 (OQ (none) h0 Z.heap.size) := by
  have hN' := hN
  have hL0 : Sta Z Z.heap s_1 s_4 "Z" (.int (1 : Int32)) := hN'
  refine own_body (plainFor_of_name pn_0) hisR ?_
  intro p e s m below meth c s₁ hx hby hml hown hnm hret X0 hZ e0
  have N0 := Fr.nil Z.heap.size
  obtain ⟨T1, X1, e1, st1⟩ := getS2 X0 hx hZ hown (host := "") (Or.inl (W hw 113 rfl)) Via.refl e0 (hL0.ext O0.2) (g := (mkF m 0 #[.val (.ref o1)] [])) rfl (hb hby d12_0)
  obtain ⟨T2, X2, e2, st2⟩ := getS2 X1 hx hZ hown (host := "") (Or.inl (W hw 113 rfl)) Via.refl e1 (hL0.ext O0.2) (g := (mkF m 37 #[.val (.ref o1)] [])) rfl (hb hby d12_37)
  obtain ⟨T3, X3, e3, st3⟩ := getS2 X2 hx hZ hown (host := "") (Or.inl (W hw 113 rfl)) Via.refl e2 (hL0.ext O0.2) (g := (mkF m 70 #[.val (.ref o1)] [])) rfl (hb hby d12_70)
  refine ⟨T3, none, _, _, _, by decide, by decide, X3, (fun _ => rfl), (by rw [e3]; exact ⟨rfl, N0, rfl⟩), fun fs hr => castTop (ef_2 m (.ref o1) rfl) ?_⟩
  show Steps p.tables e below (s₁.setTop (mkF m 0 #[.val (.ref o1)] [])) _
  refine st1 _ ?_
  refine XS.ifYes X1.here hx rfl (pc0 := 3) (pc' := 37) rfl (hb hby d12_3) rfl ((if0 _ _).trans (feq (by decide : ¬ ((1 : Int32) = (0 : Int32)))).2) (by decide) (by decide) ?_
  refine st2 _ ?_
  refine XS.ifYes X2.here hx rfl (pc0 := 40) (pc' := 70) rfl (hb hby d12_40) rfl ((if0 _ _).trans (feq (by decide : ¬ ((1 : Int32) = (0 : Int32)))).2) (by decide) (by decide) ?_
  refine st3 _ ?_
  refine XS.ifYes X3.here hx rfl (pc0 := 73) (pc' := 110) rfl (hb hby d12_73) rfl ((if0 _ _).trans (feq (by decide : ¬ ((1 : Int32) = (0 : Int32)))).2) (by decide) (by decide) ?_
  show Steps p.tables e below (T3.setTop (mkF m 110 #[.val (.ref o1)] [])) _
  exact X3.returnOut hx hret (hb hby d12_110) hr
theorem d9_57 : decode jdk_92_method_19_code 57 = .ok (.return_, 1) := by decide +kernel
def Qd_5 (Z : State) (w : Nat → Addr) (kk : Nat → ClassId) (iw : Nat → Int32) (vw : Nat → Value) (o1 : Addr) (p1 : Int32) (o2 : Addr) (kc_o2 : ClassId) (h0 : Heap) (n0 : Nat) (v : Option Value) (h : Heap) (L : List Loc) : Prop := v = none ∧ Fr n0 L ∧ Keep h0 h [o1, o2] ∧ Exa Z h o1 s_1 ∧ Fld Z h o1 s_1 "wordsInUse" "I" (.int (1 : Int32)) ∧ Fld Z h o1 s_1 s_6 "Z" (.int (0 : Int32)) ∧ Fld Z h o1 s_1 "words" "[J" (.ref o2) ∧ Arv Z h o2 kc_o2 .long (1 : Int32) [(.long ((0 : Int64) ||| ((1 : Int64) <<< (p1 &&& 0x3f).toInt64)))] (.long (0 : Int64))
set_option maxRecDepth 65536 in
set_option maxHeartbeats 40000000 in
theorem rm_18 (l : Launch) (Z : State) (a0 : Array Value) (hw : ∀ d ∈ tables_1, d.before a0 Z = true) (w : Nat → Addr) (kk : Nat → ClassId) (iw : Nat → Int32) (vw : Nat → Value) (hN : Wd Z w kk iw vw) (ws : List Jvm.Cond) (o1 : Addr) (p1 : Int32) (o2 : Addr) (kc_o2 : ClassId) (h0 : Heap) (O0 : Old Z Z.heap.size h0) (gn_o1 : Z.heap.size ≤ o1) (lt_o1 : o1 < h0.size) (E_o1 : Exa Z h0 o1 s_1) (F_o1_wordsInUse : Fld Z h0 o1 s_1 "wordsInUse" "I" (.int (0 : Int32))) (F_o1_sizeIsSticky : Fld Z h0 o1 s_1 s_6 "Z" (.int (0 : Int32))) (gn_o2 : Z.heap.size ≤ o2) (lt_o2 : o2 < h0.size) (F_o1_words : Fld Z h0 o1 s_1 "words" "[J" (.ref o2)) (V_o2 : Arv Z h0 o2 kc_o2 .long (1 : Int32) [] (.long (0 : Int64))) (ne_o1_o2 : o1 ≠ o2) (hp0 : ¬ (p1 < (0 : Int32))) (hp1 : (p1 >>> ((6 : Int32) &&& 31)) = (0 : Int32)) :
    Met l Z (⟨s_1, "set", "(I)V"⟩ : MethodName) (Jvm.Cond.code (⟨s_1, "set", "(I)V"⟩ : MethodName) jdk_92_method_19_code 3 none) ws (Rm 2 0 0 28) #[(.ref o1), (.int p1)] h0 (Qd_5 Z w kk iw vw o1 p1 o2 kc_o2 h0 Z.heap.size) := by
  have hN' := hN
  have hL0 : Sta Z Z.heap s_1 s_4 "Z" (.int (1 : Int32)) := hN'
  refine own_body (plainFor_of_name pn_0) hisR ?_
  intro p e s m below meth c s₁ hx hby hml hown hnm hret X0 hZ e0
  have N0 := Fr.nil Z.heap.size
  have K0 : Keep h0 h0 [o1, o2] := Keep.refl _ _
  obtain ⟨_, _, ⟨T1, L1, k1, n1⟩, -, X1, ⟨Lc1, hQ1, l1, y1, z1⟩, st1⟩ := Jvm.LawKit.callS X0 hx (y := (⟨s_1, "wordIndex", "(I)I"⟩ : MethodName)) hown (mvT hZ (W hw 34 rfl)) (mvT hZ (W hw 35 rfl)) (mvT hZ (W hw 20 rfl)) (mvT hZ (W hw 36 rfl)) (by decide) (backOf (W := 0) (rm_14 l Z a0 hw w kk iw vw hN [] p1 h0 O0 hp1) hZ (W hw 36 rfl) (W hw 20 rfl) (by decide) (by decide)) (g := (mkF m 32 #[.val (.ref o1), .val (.int p1), .unset] [(.int p1)])) rfl (by rw [hml]; rfl) (argsL := [(.int p1)]) (rest := []) (lenOf pd_0 rfl) rfl (by show 2 * 0 + _ ≤ _; exact Nat.le_of_eq rfl) (hb hby d9_32) (fun _ _ => ⟨rfl, e0, (by decide : 0 + 0 ≤ _), (by decide : 0 + 0 ≤ _)⟩)
  dsimp only [Pt.U, Pt.locs, Pt.cells, Pt.slots] at X1 l1 y1 z1 st1 hQ1
  subst l1 y1 z1
  obtain ⟨rfl, N1q, e1⟩ := hQ1
  have N1 := Fr.app N0 N1q
  obtain ⟨cq2, q2, q2'⟩ := E_o1.cell
  obtain ⟨_, _, ⟨T2, L2, k2, n2⟩, -, X2, ⟨Lc2, hQ2, l2, y2, z2⟩, st2⟩ := X1.privateBack hx (y := (⟨s_1, "expandTo", "(I)V"⟩ : MethodName)) hown (mvT hZ (W hw 98 rfl)) (mvT hZ (W hw 99 rfl)) (mvT hZ (W hw 101 rfl)) (Cond.privateMethod_at (mvP hZ (W hw 100 rfl) (args := #[]))) (mvT hZ (W hw 102 rfl)) (by decide) (backOf (W := 0) (rm_16 l Z a0 hw w kk iw vw hN [] o1 o2 kc_o2 h0 O0 gn_o1 E_o1.lt E_o1 F_o1_wordsInUse F_o1_sizeIsSticky gn_o2 V_o2.lt F_o1_words V_o2 ne_o1_o2) hZ (W hw 102 rfl) (W hw 20 rfl) (by decide) (by decide)) (g := (mkF m 38 #[.val (.ref o1), .val (.int p1), .val (.int (0 : Int32))] [(.int (0 : Int32)), (.ref o1)])) rfl (by rw [hml]; rfl) (Steps.refl _) (a := o1) (by rw [e1]; exact q2) q2' (argsL := [(.int (0 : Int32))]) (rest := []) (lenOf pd_1 rfl) rfl (by show 2 * 0 + _ ≤ _; exact Nat.le_of_eq rfl) (hb hby d9_38) (fun _ _ => ⟨rfl, e1, (by decide : 0 + 0 ≤ _), (by decide : 0 + 0 ≤ _)⟩)
  dsimp only [Pt.U, Pt.locs, Pt.cells, Pt.slots] at X2 l2 y2 z2 st2 hQ2
  subst l2 y2 z2
  obtain ⟨rfl, N2q, Kq2, tk2_0, tk2_1, tk2_2, tk2_3⟩ := hQ2
  have N2 := Fr.app N1 N2q
  have E_o1_v2 := E_o1.keep Kq2
  have V_o2_v2 := V_o2.keep Kq2 (ninS (Ne.symm ne_o1_o2) nin0)
  have O2 := O0.keep Kq2 (allS gn_o1 all0)
  have K2 : Keep h0 T2.heap [o1, o2] := K0.trans Kq2 (allS (Or.inl (List.mem_of_getElem? (i := 0) rfl)) all0)
  obtain ⟨T3, X3, e3, st3⟩ := getF X2 hx hZ hown (host := "") (Or.inl (W hw 38 rfl)) Via.refl rfl tk2_3 (g := (mkF m 42 #[.val (.ref o1), .val (.int p1), .val (.int (0 : Int32))] [(.ref o1)])) rfl rfl (hb hby d9_42)
  obtain ⟨cl4, Ar4, q4, Sz4, Ng4, Hv4, Gv4⟩ := id V_o2_v2
  have hin4 : ¬ ((0 : Int32) < 0 ∨ cl4.slots.size ≤ ((0 : Int32)).toNatClampNeg) := inb_of Sz4 ⟨by decide, by decide⟩
  have hat4 : cl4.slots[((0 : Int32)).toNatClampNeg]? = some (.long (0 : Int64)) := Has.at Hv4 hin4 (by rfl)
  have V_o2_v5 : Arv Z T2.heap o2 kc_o2 .long (1 : Int32) [(.long (0 : Int64))] (.long (0 : Int64)) := V_o2_v2.pad (pad_rep [] (.long (0 : Int64)) 1)
  obtain ⟨cl6, Ar6, q6, Sz6, Ng6, Hv6, Gv6⟩ := V_o2_v5
  have hin6 : ¬ ((0 : Int32) < 0 ∨ cl6.slots.size ≤ ((0 : Int32)).toNatClampNeg) := inb_of Sz6 ⟨by decide, by decide⟩
  obtain ⟨T7, h7, X7, e7, W7, st7⟩ := stJ X3 hx hZ e3 Ar6 (j := (0 : Int32)) hin6 (g := (mkF m 52 #[.val (.ref o1), .val (.int p1), .val (.int (0 : Int32))] [(.long ((0 : Int64) ||| ((1 : Int64) <<< (p1 &&& 0x3f).toInt64))), (.int (0 : Int32)), (.ref o2)])) rfl rfl (hb hby d9_52)
  have V_o2_v7 : Arv Z h7 o2 kc_o2 .long (1 : Int32) [(.long ((0 : Int64) ||| ((1 : Int64) <<< (p1 &&& 0x3f).toInt64)))] (.long (0 : Int64)) := Arv.set Ar6 q6 Sz6 Ng6 Hv6 Gv6 rfl W7 0 rfl (Nat.le_of_ble_eq_true rfl)
  have N7 := Fr.snoc X7 N2 gn_o2
  have tk2_0_v7 := tk2_0.wr W7
  have tk2_1_v7 := tk2_1.other W7 (Or.inl ne_o1_o2)
  have tk2_2_v7 := tk2_2.other W7 (Or.inl ne_o1_o2)
  have tk2_3_v7 := tk2_3.other W7 (Or.inl ne_o1_o2)
  have O7 := O2.wr W7 gn_o2
  have K7 : Keep h0 h7 [o1, o2] := K2.wr W7 (Or.inl (List.mem_of_getElem? (i := 1) rfl))
  obtain ⟨cq8, q8, q8'⟩ := tk2_0_v7.cell
  obtain ⟨_, _, ⟨T8, L8, k8, n8⟩, -, X8, ⟨Lc8, hQ8, l8, y8, z8⟩, st8⟩ := X7.privateBack hx (y := (⟨s_1, "checkInvariants", "()V"⟩ : MethodName)) hown (mvT hZ (W hw 108 rfl)) (mvT hZ (W hw 109 rfl)) (mvT hZ (W hw 111 rfl)) (Cond.privateMethod_at (mvP hZ (W hw 110 rfl) (args := #[]))) (mvT hZ (W hw 112 rfl)) (by decide) (backOf (W := 0) (rm_17 l Z a0 hw w kk iw vw hN [] o1 o2 ((0 : Int64) ||| ((1 : Int64) <<< (p1 &&& 0x3f).toInt64)) kc_o2 h7 O7 gn_o1 tk2_0_v7.lt tk2_0_v7 tk2_1_v7 tk2_2_v7 gn_o2 V_o2_v7.lt tk2_3_v7 V_o2_v7 ne_o1_o2) hZ (W hw 112 rfl) (W hw 20 rfl) (by decide) (by decide)) (g := (mkF m 54 #[.val (.ref o1), .val (.int p1), .val (.int (0 : Int32))] [(.ref o1)])) rfl (by rw [hml]; rfl) (Steps.refl _) (a := o1) (by rw [e7]; exact q8) q8' (argsL := []) (rest := []) (lenOf pd_2 rfl) rfl (by show 2 * 0 + _ ≤ _; exact Nat.le_of_eq rfl) (hb hby d9_54) (fun _ _ => ⟨rfl, e7, (by decide : 0 + 0 ≤ _), (by decide : 0 + 0 ≤ _)⟩)
  dsimp only [Pt.U, Pt.locs, Pt.cells, Pt.slots] at X8 l8 y8 z8 st8 hQ8
  subst l8 y8 z8
  obtain ⟨rfl, N8q, e8⟩ := hQ8
  have N8 := Fr.app N7 N8q
  refine ⟨T8, none, _, _, _, by decide, by decide, X8, (fun _ => rfl), (by rw [e8]; exact ⟨rfl, N8, K7, tk2_0_v7, tk2_1_v7, tk2_2_v7, tk2_3_v7, V_o2_v7⟩), fun fs hr => castTop (ef_6 m (.ref o1) rfl (.int p1) rfl) ?_⟩
  show Steps p.tables e below (s₁.setTop (mkF m 0 #[.val (.ref o1), .val (.int p1), .unset] [])) _
  refine XS.iloadN X0.here hx rfl (hb hby d9_0) rfl ?_
  refine XS.ifYes X0.here hx rfl (pc0 := 1) (pc' := 31) rfl (hb hby d9_1) rfl ((if0 _ _).trans (flt hp0).2.1) (by decide) (by decide) ?_
  refine XS.iloadN X0.here hx rfl (hb hby d9_31) rfl ?_
  refine st1 _ ?_
  refine XS.istoreN X1.here hx rfl (hb hby d9_35) rfl (l' := #[.val (.ref o1), .val (.int p1), .val (.int (0 : Int32))]) rfl ?_
  refine XS.aloadN X1.here hx rfl (hb hby d9_36) rfl rfl ?_
  refine XS.iloadN X1.here hx rfl (hb hby d9_37) rfl ?_
  refine st2.trans ?_
  show Steps p.tables e below (T2.setTop (mkF m 41 #[.val (.ref o1), .val (.int p1), .val (.int (0 : Int32))] [])) _
  refine XS.aloadN X2.here hx rfl (hb hby d9_41) rfl rfl ?_
  refine st3 _ ?_
  refine XS.iloadN X3.here hx rfl (hb hby d9_45) rfl ?_
  refine Jvm.Free.XT.dup2 X3.here hx rfl (hb hby d9_46) rfl rfl rfl ?_
  refine X3.laload hx (j := (0 : Int32)) (v := (.long (0 : Int64))) (by rw [e3]; exact Ar4.1) (State.isArrayOf_alike hZ.alike Ar4.2.1) Ar4.2.2 hin4 hat4 (g := (mkF m 47 #[.val (.ref o1), .val (.int p1), .val (.int (0 : Int32))] [(.int (0 : Int32)), (.ref o2), (.int (0 : Int32)), (.ref o2)])) rfl rfl (hb hby d9_47) _ ?_
  refine XS.lconst X3.here hx rfl (hb hby d9_48) ?_
  refine XS.iloadN X3.here hx rfl (hb hby d9_49) rfl ?_
  refine XS.lshl X3.here hx rfl (hb hby d9_50) rfl ?_
  show Steps p.tables e below (T3.setTop (mkF m 51 #[.val (.ref o1), .val (.int p1), .val (.int (0 : Int32))] [(.long ((1 : Int64) <<< (p1 &&& 0x3f).toInt64)), (.long (0 : Int64)), (.int (0 : Int32)), (.ref o2)])) _
  refine XS.lor X3.here hx rfl (hb hby d9_51) rfl ?_
  refine st7 _ ?_
  refine XS.aloadN X7.here hx rfl (hb hby d9_53) rfl rfl ?_
  refine st8.trans ?_
  show Steps p.tables e below (T8.setTop (mkF m 57 #[.val (.ref o1), .val (.int p1), .val (.int (0 : Int32))] [])) _
  exact X8.returnOut hx hret (hb hby d9_57) hr
theorem d7_14 : decode prog_20_method_6_code 14 = .ok (.return_, 1) := by decide +kernel
def Qd_6 (Z : State) (w : Nat → Addr) (kk : Nat → ClassId) (iw : Nat → Int32) (vw : Nat → Value) (o1 : Addr) (p1 : Int32) (o2 : Addr) (o3 : Addr) (o4 : Addr) (o5 : Addr) (o6 : Addr) (kc_o2 : ClassId) (kc_o3 : ClassId) (kc_o4 : ClassId) (kc_o5 : ClassId) (o7 : Addr) (kc_o7 : ClassId) (h0 : Heap) (n0 : Nat) (v : Option Value) (h : Heap) (L : List Loc) : Prop := v = none ∧ Fr n0 L ∧ Keep h0 h [o7, o6] ∧ Exa Z h o6 s_1 ∧ Fld Z h o6 s_1 "wordsInUse" "I" (.int (1 : Int32)) ∧ Fld Z h o6 s_1 s_6 "Z" (.int (0 : Int32)) ∧ Fld Z h o6 s_1 "words" "[J" (.ref o7) ∧ Arv Z h o7 kc_o7 .long (1 : Int32) [(.long ((0 : Int64) ||| ((1 : Int64) <<< (p1 &&& 0x3f).toInt64)))] (.long (0 : Int64))
set_option maxRecDepth 65536 in
set_option maxHeartbeats 40000000 in
theorem rm_19 (l : Launch) (Z : State) (a0 : Array Value) (hw : ∀ d ∈ tables_1, d.before a0 Z = true) (w : Nat → Addr) (kk : Nat → ClassId) (iw : Nat → Int32) (vw : Nat → Value) (hN : Wd Z w kk iw vw) (ws : List Jvm.Cond) (o1 : Addr) (p1 : Int32) (o2 : Addr) (o3 : Addr) (o4 : Addr) (o5 : Addr) (o6 : Addr) (kc_o2 : ClassId) (kc_o3 : ClassId) (kc_o4 : ClassId) (kc_o5 : ClassId) (o7 : Addr) (kc_o7 : ClassId) (h0 : Heap) (O0 : Old Z Z.heap.size h0) (gn_o1 : Z.heap.size ≤ o1) (lt_o1 : o1 < h0.size) (E_o1 : Exa Z h0 o1 s_0) (gn_o2 : Z.heap.size ≤ o2) (lt_o2 : o2 < h0.size) (F_o1_nextBlock : Fld Z h0 o1 s_0 "nextBlock" "[I" (.ref o2)) (gn_o3 : Z.heap.size ≤ o3) (lt_o3 : o3 < h0.size) (F_o1_previousBlock : Fld Z h0 o1 s_0 s_5 "[I" (.ref o3)) (gn_o4 : Z.heap.size ≤ o4) (lt_o4 : o4 < h0.size) (F_o1_firstPiece : Fld Z h0 o1 s_0 "firstPiece" "[I" (.ref o4)) (gn_o5 : Z.heap.size ≤ o5) (lt_o5 : o5 < h0.size) (F_o1_lastPiece : Fld Z h0 o1 s_0 "lastPiece" "[I" (.ref o5)) (gn_o6 : Z.heap.size ≤ o6) (lt_o6 : o6 < h0.size) (F_o1_closed : Fld Z h0 o1 s_0 "closed" s_3 (.ref o6)) (F_o1_firstBlock : Fld Z h0 o1 s_0 "firstBlock" "I" (.int (0 : Int32))) (F_o1_lastBlock : Fld Z h0 o1 s_0 "lastBlock" "I" (.int (0 : Int32))) (F_o1_blockCount : Fld Z h0 o1 s_0 "blockCount" "I" (.int (1 : Int32))) (V_o2 : Arv Z h0 o2 kc_o2 .int (64 : Int32) [(.int (-1 : Int32))] (.int (0 : Int32))) (V_o3 : Arv Z h0 o3 kc_o3 .int (64 : Int32) [(.int (-1 : Int32))] (.int (0 : Int32))) (V_o4 : Arv Z h0 o4 kc_o4 .int (64 : Int32) [(.int (-1 : Int32))] (.int (0 : Int32))) (V_o5 : Arv Z h0 o5 kc_o5 .int (64 : Int32) [(.int (-1 : Int32))] (.int (0 : Int32))) (E_o6 : Exa Z h0 o6 s_1) (F_o6_wordsInUse : Fld Z h0 o6 s_1 "wordsInUse" "I" (.int (0 : Int32))) (F_o6_sizeIsSticky : Fld Z h0 o6 s_1 s_6 "Z" (.int (0 : Int32))) (gn_o7 : Z.heap.size ≤ o7) (lt_o7 : o7 < h0.size) (F_o6_words : Fld Z h0 o6 s_1 "words" "[J" (.ref o7)) (V_o7 : Arv Z h0 o7 kc_o7 .long (1 : Int32) [] (.long (0 : Int64))) (ne_o1_o2 : o1 ≠ o2) (ne_o1_o3 : o1 ≠ o3) (ne_o1_o4 : o1 ≠ o4) (ne_o1_o5 : o1 ≠ o5) (ne_o1_o6 : o1 ≠ o6) (ne_o1_o7 : o1 ≠ o7) (ne_o2_o3 : o2 ≠ o3) (ne_o2_o4 : o2 ≠ o4) (ne_o2_o5 : o2 ≠ o5) (ne_o2_o6 : o2 ≠ o6) (ne_o2_o7 : o2 ≠ o7) (ne_o3_o4 : o3 ≠ o4) (ne_o3_o5 : o3 ≠ o5) (ne_o3_o6 : o3 ≠ o6) (ne_o3_o7 : o3 ≠ o7) (ne_o4_o5 : o4 ≠ o5) (ne_o4_o6 : o4 ≠ o6) (ne_o4_o7 : o4 ≠ o7) (ne_o5_o6 : o5 ≠ o6) (ne_o5_o7 : o5 ≠ o7) (ne_o6_o7 : o6 ≠ o7) (hp0 : ¬ (p1 < (0 : Int32))) (hp1 : p1 < (1 : Int32)) (hp2 : (p1 >>> ((6 : Int32) &&& 31)) = (0 : Int32)) :
    MetW l Z (⟨s_0, "closeBlock", "(I)V"⟩ : MethodName) (Jvm.Cond.code (⟨s_0, "closeBlock", "(I)V"⟩ : MethodName) prog_20_method_6_code 2 none) ws (Rm 3 2 60 42) #[(.ref o1), (.int p1)] h0 (Qd_6 Z w kk iw vw o1 p1 o2 o3 o4 o5 o6 kc_o2 kc_o3 kc_o4 kc_o5 o7 kc_o7 h0 Z.heap.size) := by
  have hN' := hN
  have hL0 : Sta Z Z.heap s_1 s_4 "Z" (.int (1 : Int32)) := hN'
  refine own_bodyW (plainFor_of_name pn_1) hisR ?_
  intro p e s m below meth c s₁ hx hby hml hown hnm hret X0 hZ e0
  have N0 := Fr.nil Z.heap.size
  have K0 : Keep h0 h0 [o7, o6] := Keep.refl _ _
  obtain ⟨T1, X1, e1, st1⟩ := getF X0 hx hZ hown (host := "") (Or.inl (W hw 40 rfl)) Via.refl e0 F_o1_closed (g := (mkF m 1 #[.val (.ref o1), .val (.int p1)] [(.ref o1)])) rfl rfl (hb hby d7_1)
  obtain ⟨b2, T2, h2, k2, X2, e2, E2, hS2, hk2, hZ2, hown2, st2⟩ := ldcS (s := s) (vm0 := s.vm) X1 hx hZ hown (W hw 92 rfl) (own_atoms hw) e1 (own_since s 0) (Nat.zero_le _) (g := (mkF m 6 #[.val (.ref o1), .val (.int p1)] [(.int p1), (.ref o1), (.ref o6)])) rfl (hb hby d7_6) (n := 56) (by decide) (by decide) (by decide) (by decide)
  have E_o1_v2 := E_o1.ext E2
  have F_o1_nextBlock_v2 := F_o1_nextBlock.ext E2
  have F_o1_previousBlock_v2 := F_o1_previousBlock.ext E2
  have F_o1_firstPiece_v2 := F_o1_firstPiece.ext E2
  have F_o1_lastPiece_v2 := F_o1_lastPiece.ext E2
  have F_o1_closed_v2 := F_o1_closed.ext E2
  have F_o1_firstBlock_v2 := F_o1_firstBlock.ext E2
  have F_o1_lastBlock_v2 := F_o1_lastBlock.ext E2
  have F_o1_blockCount_v2 := F_o1_blockCount.ext E2
  have V_o2_v2 := V_o2.ext E2
  have V_o3_v2 := V_o3.ext E2
  have V_o4_v2 := V_o4.ext E2
  have V_o5_v2 := V_o5.ext E2
  have E_o6_v2 := E_o6.ext E2
  have F_o6_wordsInUse_v2 := F_o6_wordsInUse.ext E2
  have F_o6_sizeIsSticky_v2 := F_o6_sizeIsSticky.ext E2
  have F_o6_words_v2 := F_o6_words.ext E2
  have V_o7_v2 := V_o7.ext E2
  have O2 := O0.ext E2
  have K2 := K0.ext E2
  obtain ⟨cq3, q3, q3'⟩ := E_o1_v2.cell
  obtain ⟨_, _, ⟨T3, L3, k3, n3⟩, -, X3, ⟨Lc3, hQ3, l3, y3, z3⟩, st3⟩ := X2.privateBack hx (y := (⟨s_0, "find", s_7⟩ : MethodName)) hown2 (mvT hZ2 (W hw 83 rfl)) (mvT hZ2 (W hw 84 rfl)) (own_selpriv (mvT hZ2 (W hw 1 rfl)) (Cond.privateMethod_at (mvP hZ2 (W hw 85 rfl) (args := #[]))) (mvT hZ2 (W hw 84 rfl)) (by decide)) (Cond.privateMethod_at (mvP hZ2 (W hw 85 rfl) (args := #[]))) (mvT hZ2 (W hw 86 rfl)) (by decide) (backOf (W := 1) (rm_13 l Z a0 hw w kk iw vw hN [] o1 p1 b2 o2 o3 o4 o5 o6 kc_o2 kc_o3 kc_o4 kc_o5 o7 kc_o7 h2 O2 gn_o1 E_o1_v2.lt E_o1_v2 gn_o2 V_o2_v2.lt F_o1_nextBlock_v2 gn_o3 V_o3_v2.lt F_o1_previousBlock_v2 gn_o4 V_o4_v2.lt F_o1_firstPiece_v2 gn_o5 V_o5_v2.lt F_o1_lastPiece_v2 gn_o6 E_o6_v2.lt F_o1_closed_v2 F_o1_firstBlock_v2 F_o1_lastBlock_v2 F_o1_blockCount_v2 V_o2_v2 V_o3_v2 V_o4_v2 V_o5_v2 E_o6_v2 F_o6_wordsInUse_v2 F_o6_sizeIsSticky_v2 gn_o7 V_o7_v2.lt F_o6_words_v2 V_o7_v2 ne_o1_o2 ne_o1_o3 ne_o1_o4 ne_o1_o5 ne_o1_o6 ne_o1_o7 ne_o2_o3 ne_o2_o4 ne_o2_o5 ne_o2_o6 ne_o2_o7 ne_o3_o4 ne_o3_o5 ne_o3_o6 ne_o3_o7 ne_o4_o5 ne_o4_o6 ne_o4_o7 ne_o5_o6 ne_o5_o7 ne_o6_o7 hp0 hp1) hZ2 (W hw 86 rfl) (W hw 2 rfl) (by decide) (by decide)) (g := (mkF m 8 #[.val (.ref o1), .val (.int p1)] [(.ref b2), (.int p1), (.ref o1), (.ref o6)])) rfl (by rw [hml]; rfl) (Steps.refl _) (a := o1) (by rw [e2]; exact q3) q3' (argsL := [(.int p1), (.ref b2)]) (rest := [(.ref o6)]) (lenOf pd_5 rfl) rfl (by show 2 * 0 + _ ≤ _; exact Nat.le_of_eq rfl) (hb hby d7_8) (fun _ _ => ⟨rfl, e2, (by decide : 2 + 0 ≤ _), (by decide : 60 + 0 ≤ _)⟩)
  dsimp only [Pt.U, Pt.locs, Pt.cells, Pt.slots] at X3 l3 y3 z3 st3 hQ3
  subst l3 y3 z3
  obtain ⟨rfl, N3q, e3⟩ := hQ3
  have N3 := Fr.app N0 N3q
  obtain ⟨cq4, kq4, q4a, q4b, q4c⟩ := isOf hZ2 e3 E_o6_v2
  obtain ⟨_, _, ⟨T4, L4, k4, n4⟩, -, X4, ⟨Lc4, hQ4, l4, y4, z4⟩, st4⟩ := X3.virtualBack hx (y := (⟨s_1, "set", "(I)V"⟩ : MethodName)) (z := (⟨s_1, "set", "(I)V"⟩ : MethodName)) hown2 (mvT hZ2 (W hw 93 rfl)) (mvT hZ2 (W hw 94 rfl)) (notFace_of_selects (args := #[]) (mvT hZ2 (W hw 96 rfl))) (mvT hZ2 (W hw 96 rfl)) (mvT hZ2 (W hw 95 rfl)) (by decide) (backOf (W := 0) (rm_18 l Z a0 hw w kk iw vw hN [] o6 p1 o7 kc_o7 h2 O2 gn_o6 E_o6_v2.lt E_o6_v2 F_o6_wordsInUse_v2 F_o6_sizeIsSticky_v2 gn_o7 V_o7_v2.lt F_o6_words_v2 V_o7_v2 ne_o6_o7 hp0 hp2) hZ2 (W hw 97 rfl) (W hw 20 rfl) (by decide) (by decide)) q4a q4c (g := (mkF m 11 #[.val (.ref o1), .val (.int p1)] [(.int p1), (.ref o6)])) rfl (by rw [hml]; rfl) (Steps.refl _) (argsL := [(.int p1)]) (rest := []) (lenOf pd_1 rfl) rfl (by show 2 * 0 + _ ≤ _; exact Nat.le_of_eq rfl) (hb hby d7_11) (fun _ _ => ⟨rfl, e3, (by decide : 2 + 0 ≤ _), (by decide : 60 + 0 ≤ _)⟩)
  dsimp only [Pt.U, Pt.locs, Pt.cells, Pt.slots] at X4 l4 y4 z4 st4 hQ4
  subst l4 y4 z4
  obtain ⟨rfl, N4q, Kq4, tk4_0, tk4_1, tk4_2, tk4_3, tk4_4⟩ := hQ4
  have N4 := Fr.app N3 N4q
  have E_o1_v4 := E_o1_v2.keep Kq4
  have F_o1_nextBlock_v4 := F_o1_nextBlock_v2.keep Kq4 (ninS ne_o1_o6 (ninS ne_o1_o7 nin0))
  have F_o1_previousBlock_v4 := F_o1_previousBlock_v2.keep Kq4 (ninS ne_o1_o6 (ninS ne_o1_o7 nin0))
  have F_o1_firstPiece_v4 := F_o1_firstPiece_v2.keep Kq4 (ninS ne_o1_o6 (ninS ne_o1_o7 nin0))
  have F_o1_lastPiece_v4 := F_o1_lastPiece_v2.keep Kq4 (ninS ne_o1_o6 (ninS ne_o1_o7 nin0))
  have F_o1_closed_v4 := F_o1_closed_v2.keep Kq4 (ninS ne_o1_o6 (ninS ne_o1_o7 nin0))
  have F_o1_firstBlock_v4 := F_o1_firstBlock_v2.keep Kq4 (ninS ne_o1_o6 (ninS ne_o1_o7 nin0))
  have F_o1_lastBlock_v4 := F_o1_lastBlock_v2.keep Kq4 (ninS ne_o1_o6 (ninS ne_o1_o7 nin0))
  have F_o1_blockCount_v4 := F_o1_blockCount_v2.keep Kq4 (ninS ne_o1_o6 (ninS ne_o1_o7 nin0))
  have V_o2_v4 := V_o2_v2.keep Kq4 (ninS ne_o2_o6 (ninS ne_o2_o7 nin0))
  have V_o3_v4 := V_o3_v2.keep Kq4 (ninS ne_o3_o6 (ninS ne_o3_o7 nin0))
  have V_o4_v4 := V_o4_v2.keep Kq4 (ninS ne_o4_o6 (ninS ne_o4_o7 nin0))
  have V_o5_v4 := V_o5_v2.keep Kq4 (ninS ne_o5_o6 (ninS ne_o5_o7 nin0))
  have E_o6_v4 := E_o6_v2.keep Kq4
  have hk4 := Nat.le_trans hk2 Kq4.1
  have O4 := O2.keep Kq4 (allS gn_o6 (allS gn_o7 all0))
  have K4 : Keep h0 T4.heap [o7, o6] := K2.trans Kq4 (allS (Or.inl (List.mem_of_getElem? (i := 1) rfl)) (allS (Or.inl (List.mem_of_getElem? (i := 0) rfl)) all0))
  refine ⟨T4, _, none, _, _, _, _, by decide, by decide, X4, hS2, hk4, (fun _ => rfl), ⟨rfl, N4, K4, tk4_0, tk4_1, tk4_2, tk4_3, tk4_4⟩, fun fs hr => castTop (ef_1 m (.ref o1) rfl (.int p1) rfl) ?_⟩
  show Steps p.tables e below (s₁.setTop (mkF m 0 #[.val (.ref o1), .val (.int p1)] [])) _
  refine XS.aloadN X0.here hx rfl (hb hby d7_0) rfl rfl ?_
  refine st1 _ ?_
  refine XS.aloadN X1.here hx rfl (hb hby d7_4) rfl rfl ?_
  refine XS.iloadN X1.here hx rfl (hb hby d7_5) rfl ?_
  refine st2 _ ?_
  refine st3.trans ?_
  refine st4.trans ?_
  show Steps p.tables e below (T4.setTop (mkF m 14 #[.val (.ref o1), .val (.int p1)] [])) _
  exact X4.returnOut hx hret (hb hby d7_14) hr
set_option maxRecDepth 65536 in
set_option maxHeartbeats 40000000 in
theorem rm_20 (l : Launch) (Z : State) (a0 : Array Value) (hw : ∀ d ∈ tables_1, d.before a0 Z = true) (w : Nat → Addr) (kk : Nat → ClassId) (iw : Nat → Int32) (vw : Nat → Value) (hN : Wd Z w kk iw vw) (ws : List Jvm.Cond) (o1 : Addr) (o2 : Addr) (o3 : Addr) (o4 : Addr) (o5 : Addr) (o6 : Addr) (kc_o2 : ClassId) (kc_o3 : ClassId) (kc_o4 : ClassId) (kc_o5 : ClassId) (o7 : Addr) (t0 : Int64) (kc_o7 : ClassId) (h0 : Heap) (O0 : Old Z Z.heap.size h0) (gn_o1 : Z.heap.size ≤ o1) (lt_o1 : o1 < h0.size) (E_o1 : Exa Z h0 o1 s_0) (gn_o2 : Z.heap.size ≤ o2) (lt_o2 : o2 < h0.size) (F_o1_nextBlock : Fld Z h0 o1 s_0 "nextBlock" "[I" (.ref o2)) (gn_o3 : Z.heap.size ≤ o3) (lt_o3 : o3 < h0.size) (F_o1_previousBlock : Fld Z h0 o1 s_0 s_5 "[I" (.ref o3)) (gn_o4 : Z.heap.size ≤ o4) (lt_o4 : o4 < h0.size) (F_o1_firstPiece : Fld Z h0 o1 s_0 "firstPiece" "[I" (.ref o4)) (gn_o5 : Z.heap.size ≤ o5) (lt_o5 : o5 < h0.size) (F_o1_lastPiece : Fld Z h0 o1 s_0 "lastPiece" "[I" (.ref o5)) (gn_o6 : Z.heap.size ≤ o6) (lt_o6 : o6 < h0.size) (F_o1_closed : Fld Z h0 o1 s_0 "closed" s_3 (.ref o6)) (F_o1_firstBlock : Fld Z h0 o1 s_0 "firstBlock" "I" (.int (0 : Int32))) (F_o1_lastBlock : Fld Z h0 o1 s_0 "lastBlock" "I" (.int (0 : Int32))) (F_o1_blockCount : Fld Z h0 o1 s_0 "blockCount" "I" (.int (1 : Int32))) (V_o2 : Arv Z h0 o2 kc_o2 .int (64 : Int32) [(.int (-1 : Int32))] (.int (0 : Int32))) (V_o3 : Arv Z h0 o3 kc_o3 .int (64 : Int32) [(.int (-1 : Int32))] (.int (0 : Int32))) (V_o4 : Arv Z h0 o4 kc_o4 .int (64 : Int32) [(.int (-1 : Int32))] (.int (0 : Int32))) (V_o5 : Arv Z h0 o5 kc_o5 .int (64 : Int32) [(.int (-1 : Int32))] (.int (0 : Int32))) (E_o6 : Exa Z h0 o6 s_1) (F_o6_wordsInUse : Fld Z h0 o6 s_1 "wordsInUse" "I" (.int (1 : Int32))) (F_o6_sizeIsSticky : Fld Z h0 o6 s_1 s_6 "Z" (.int (0 : Int32))) (gn_o7 : Z.heap.size ≤ o7) (lt_o7 : o7 < h0.size) (F_o6_words : Fld Z h0 o6 s_1 "words" "[J" (.ref o7)) (V_o7 : Arv Z h0 o7 kc_o7 .long (1 : Int32) [(.long t0)] (.long (0 : Int64))) (ne_o1_o2 : o1 ≠ o2) (ne_o1_o3 : o1 ≠ o3) (ne_o1_o4 : o1 ≠ o4) (ne_o1_o5 : o1 ≠ o5) (ne_o1_o6 : o1 ≠ o6) (ne_o1_o7 : o1 ≠ o7) (ne_o2_o3 : o2 ≠ o3) (ne_o2_o4 : o2 ≠ o4) (ne_o2_o5 : o2 ≠ o5) (ne_o2_o6 : o2 ≠ o6) (ne_o2_o7 : o2 ≠ o7) (ne_o3_o4 : o3 ≠ o4) (ne_o3_o5 : o3 ≠ o5) (ne_o3_o6 : o3 ≠ o6) (ne_o3_o7 : o3 ≠ o7) (ne_o4_o5 : o4 ≠ o5) (ne_o4_o6 : o4 ≠ o6) (ne_o4_o7 : o4 ≠ o7) (ne_o5_o6 : o5 ≠ o6) (ne_o5_o7 : o5 ≠ o7) (ne_o6_o7 : o6 ≠ o7) :
    Met l Z (⟨s_0, "hasBlocks", "()Z"⟩ : MethodName) (Jvm.Cond.code (⟨s_0, "hasBlocks", "()Z"⟩ : MethodName) prog_20_method_2_code 1 (some .boolean)) ws (Rm 0 0 0 0) #[(.ref o1)] h0 (OQ (some (.int (1 : Int32))) h0 Z.heap.size) := by
  have hN' := hN
  have hL0 : Sta Z Z.heap s_1 s_4 "Z" (.int (1 : Int32)) := hN'
  refine own_body (plainFor_of_name pn_1) hisR ?_
  intro p e s m below meth c s₁ hx hby hml hown hnm hret X0 hZ e0
  have N0 := Fr.nil Z.heap.size
  obtain ⟨T1, X1, e1, st1⟩ := getF X0 hx hZ hown (host := "") (Or.inl (W hw 57 rfl)) Via.refl e0 F_o1_blockCount (g := (mkF m 1 #[.val (.ref o1)] [(.ref o1)])) rfl rfl (hb hby d4_1)
  refine ⟨T1, some (.int (1 : Int32)), _, _, _, by decide, by decide, X1, nofun, (by rw [e1]; exact ⟨rfl, N0, rfl⟩), fun fs hr => castTop (ef_2 m (.ref o1) rfl) ?_⟩
  show Steps p.tables e below (s₁.setTop (mkF m 0 #[.val (.ref o1)] [])) _
  refine XS.aloadN X0.here hx rfl (hb hby d4_0) rfl rfl ?_
  refine st1 _ ?_
  refine XS.ifNo X1.here hx rfl (hb hby d4_4) rfl ((if0 _ _).trans (tlt (by decide : (0 : Int32) < (1 : Int32))).2.2.2) ?_
  refine XS.iconst X1.here hx rfl (hb hby d4_7) ?_
  refine XS.goto X1.here hx rfl (pc0 := 8) (pc' := 12) rfl (hb hby d4_8) (by decide) (by decide) ?_
  show Steps p.tables e below (T1.setTop (mkF m 12 #[.val (.ref o1)] [(.int (1 : Int32))])) _
  exact retN X1 hx (t := .boolean) hret (by simp) (hb hby d4_12) hr
set_option maxRecDepth 65536 in
set_option maxHeartbeats 40000000 in
theorem law_21 (l : Launch) (Z : State) (a0 : Array Value) (hw : ∀ d ∈ tables_1, d.before a0 Z = true) (w : Nat → Addr) (kk : Nat → ClassId) (iw : Nat → Int32) (vw : Nat → Value) (hN : Wd Z w kk iw vw) (ws : List Jvm.Cond) (p0 : Int32) (p1 : Int32) (p2 : Int32) (p3 : Int32) (h0 : Heap) (O0 : Old Z Z.heap.size h0) (hp0 : (p0 &&& (3 : Int32)) = (1 : Int32)) (hp1 : (p1 &&& (1 : Int32)) = (0 : Int32)) (hp2 : (p3 &&& (1 : Int32)) = (1 : Int32)) (hp3 : ¬ (((((p3.toUInt32 >>> ((1 : Int32) &&& 31).toUInt32).toInt32) &&& (2147483647 : Int32)) % (1 : Int32)) < (0 : Int32))) (hp4 : ((((p3.toUInt32 >>> ((1 : Int32) &&& 31).toUInt32).toInt32) &&& (2147483647 : Int32)) % (1 : Int32)) < (1 : Int32)) (hp5 : (((((p3.toUInt32 >>> ((1 : Int32) &&& 31).toUInt32).toInt32) &&& (2147483647 : Int32)) % (1 : Int32)) >>> ((6 : Int32) &&& 31)) = (0 : Int32)) :
    MetFree l x (head1 (Jvm.Cond.code x code maxLocals ret :: ws) room_1) (fun a U => a = #[(.int p0), (.int p1), (.int p2), (.int p3)] ∧ Z.Warmed39 U.vm ∧ U.heap = h0) (fun _ _ _ _ _ => True) (fun _ U o U' => ∃ v L, o = .returned v ∧ OL (some (.int (1 : Int32))) Z.heap.size v U'.heap L ∧ ReturnedEndW U o U' L 32 3072) := by
  have hN' := hN
  have hL0 : Sta Z Z.heap s_1 s_4 "Z" (.int (1 : Int32)) := hN'
  refine MetFree.of_bodySF (plainFor_of_name pn_2) hisR ?_
  intro p e s m args below meth c s₁ Bd hml0 hP hK
  obtain ⟨rfl, hZ, hh⟩ := hP
  have hx := Bd.exec
  have hby := Bd.bytes
  have hml : c.maxLocals = 7 := hml0
  have hown : s.vm.findClass s_2 = some m.cls := findClass_of_methodNamed Bd.named
  have hnm := (name_of_methodNamed Bd.named Bd.method).1
  have X0 : Stand p l e room_1 s m #[(.int p0), (.int p1), (.int p2), (.int p3)] below meth c s₁ [] 0 0 := Stand.of_body Bd
  have e0 : s₁.heap = h0 := by rw [← hh, Bd.state]; rfl
  have N0 := Fr.nil Z.heap.size
  obtain ⟨T1, L1, b1_0, b1_1, b1_2, b1_3, b1_4, b1_5, b1_6, kb1_0, kb1_1, kb1_2, kb1_3, kb1_4, X1, st1, N1, Kq1, tk1_0, tk1_1, tk1_2, tk1_3, tk1_4, tk1_5, tk1_6, tk1_7, tk1_8, tk1_9, tk1_10, tk1_11, tk1_12, tk1_13, tk1_14, tk1_15, tk1_16, tk1_17, tk1_18, tk1_19, tk1_20, tk1_21, tk1_22, tk1_23, tk1_24, tk1_25, tk1_26, tk1_27, tk1_28, tk1_29, tk1_30, tk1_31, tk1_32, tk1_33, tk1_34, tk1_35, tk1_36, tk1_37, tk1_38, tk1_39, tk1_40, tk1_41, tk1_42, tk1_43, tk1_44, tk1_45⟩ := sg_11 w kk iw vw hN p0 p1 p2 p3 X0 hx hZ hw hby hml hown e0 O0 N0
  have gn_b1_0 : Z.heap.size ≤ b1_0 := Nat.le_trans O0.2.1 tk1_0
  have gn_b1_1 : Z.heap.size ≤ b1_1 := Nat.le_trans O0.2.1 tk1_1
  have gn_b1_2 : Z.heap.size ≤ b1_2 := Nat.le_trans O0.2.1 tk1_2
  have gn_b1_3 : Z.heap.size ≤ b1_3 := Nat.le_trans O0.2.1 tk1_3
  have gn_b1_4 : Z.heap.size ≤ b1_4 := Nat.le_trans O0.2.1 tk1_4
  have gn_b1_5 : Z.heap.size ≤ b1_5 := Nat.le_trans O0.2.1 tk1_5
  have gn_b1_6 : Z.heap.size ≤ b1_6 := Nat.le_trans O0.2.1 tk1_6
  have O1 := O0.keep Kq1 all0
  obtain ⟨cq2, kq2, q2a, q2b, q2c⟩ := isOf hZ rfl tk1_28
  obtain ⟨_, _, ⟨T2, L2, k2, n2⟩, -, X2, hSq2, hgr2, ⟨Lc2, hQ2, l2, y2, z2⟩, st2⟩ := X1.virtualBackS hx (y := (⟨s_0, "closeBlock", "(I)V"⟩ : MethodName)) (z := (⟨s_0, "closeBlock", "(I)V"⟩ : MethodName)) hown (mvT hZ (W hw 87 rfl)) (mvT hZ (W hw 88 rfl)) (notFace_of_selects (args := #[]) (mvT hZ (W hw 90 rfl))) (mvT hZ (W hw 90 rfl)) (mvT hZ (W hw 89 rfl)) (by decide) (backOfS (W := 0) (rm_19 l Z a0 hw w kk iw vw hN [] b1_0 ((((p3.toUInt32 >>> ((1 : Int32) &&& 31).toUInt32).toInt32) &&& (2147483647 : Int32)) % (1 : Int32)) b1_1 b1_2 b1_3 b1_4 b1_5 kb1_0 kb1_1 kb1_2 kb1_3 b1_6 kb1_4 T1.heap O1 gn_b1_0 tk1_28.lt tk1_28 gn_b1_1 tk1_37.lt tk1_29 gn_b1_2 tk1_38.lt tk1_30 gn_b1_3 tk1_39.lt tk1_31 gn_b1_4 tk1_40.lt tk1_32 gn_b1_5 tk1_41.lt tk1_33 tk1_34 tk1_35 tk1_36 tk1_37 tk1_38 tk1_39 tk1_40 tk1_41 tk1_42 tk1_43 gn_b1_6 tk1_45.lt tk1_44 tk1_45 tk1_7 tk1_8 tk1_9 tk1_10 tk1_11 tk1_12 tk1_13 tk1_14 tk1_15 tk1_16 tk1_17 tk1_18 tk1_19 tk1_20 tk1_21 tk1_22 tk1_23 tk1_24 tk1_25 tk1_26 tk1_27 hp3 hp4 hp5) hZ (W hw 91 rfl) (W hw 2 rfl) (by decide) (by decide)) q2a q2c (g := (mkF m 147 #[.val (.int p0), .val (.int p1), .val (.int p2), .val (.int p3), .val (.int (1 : Int32)), .val (.ref b1_0), .val (.int (1 : Int32))] [(.int ((((p3.toUInt32 >>> ((1 : Int32) &&& 31).toUInt32).toInt32) &&& (2147483647 : Int32)) % (1 : Int32))), (.ref b1_0)])) rfl (by rw [hml]; rfl) (Steps.refl _) (argsL := [(.int ((((p3.toUInt32 >>> ((1 : Int32) &&& 31).toUInt32).toInt32) &&& (2147483647 : Int32)) % (1 : Int32)))]) (rest := []) (lenOf pd_1 rfl) rfl (by show 2 * 0 + _ ≤ _; exact Nat.le_of_eq rfl) (hb hby at_147) (fun _ _ => ⟨rfl, rfl, (by decide : 10 + 2 ≤ _), (by decide : 467 + 60 ≤ _)⟩)
  dsimp only [Pt.U, Pt.locs, Pt.cells, Pt.slots] at X2 l2 y2 z2 st2 hQ2 hSq2 hgr2
  subst l2 y2 z2
  have hS2 : s.Since T2.vm T2.heap.size := hSq2
  have hk2 : T2.heap.size ≤ T2.heap.size := Nat.le_refl _
  have hZ2 : Z.Warmed39 (s.setVm T2.vm).vm := State.Warmed39.trans (t := (s.setVm s.vm)) hZ hSq2.1
  have hown2 : (s.setVm T2.vm).vm.findClass s_2 = some m.cls := by rw [show (s.setVm T2.vm).vm = T2.vm from rfl, hSq2.1.alike.findClass]; exact hown
  have X2' : Stand p l e _ (s.setVm T2.vm) m _ below meth c T2 _ _ _ := X2
  obtain ⟨rfl, N2q, Kq2, tk2_0, tk2_1, tk2_2, tk2_3, tk2_4⟩ := hQ2
  have N2 := Fr.app N1 N2q
  have tk1_28_v2 := tk1_28.keep Kq2
  have tk1_29_v2 := tk1_29.keep Kq2 (ninS tk1_12 (ninS tk1_11 nin0))
  have tk1_30_v2 := tk1_30.keep Kq2 (ninS tk1_12 (ninS tk1_11 nin0))
  have tk1_31_v2 := tk1_31.keep Kq2 (ninS tk1_12 (ninS tk1_11 nin0))
  have tk1_32_v2 := tk1_32.keep Kq2 (ninS tk1_12 (ninS tk1_11 nin0))
  have tk1_33_v2 := tk1_33.keep Kq2 (ninS tk1_12 (ninS tk1_11 nin0))
  have tk1_34_v2 := tk1_34.keep Kq2 (ninS tk1_12 (ninS tk1_11 nin0))
  have tk1_35_v2 := tk1_35.keep Kq2 (ninS tk1_12 (ninS tk1_11 nin0))
  have tk1_36_v2 := tk1_36.keep Kq2 (ninS tk1_12 (ninS tk1_11 nin0))
  have tk1_37_v2 := tk1_37.keep Kq2 (ninS tk1_17 (ninS tk1_16 nin0))
  have tk1_38_v2 := tk1_38.keep Kq2 (ninS tk1_21 (ninS tk1_20 nin0))
  have tk1_39_v2 := tk1_39.keep Kq2 (ninS tk1_24 (ninS tk1_23 nin0))
  have tk1_40_v2 := tk1_40.keep Kq2 (ninS tk1_26 (ninS tk1_25 nin0))
  have tk1_41_v2 := tk1_41.keep Kq2
  have O2 := O1.keep Kq2 (allS gn_b1_6 (allS gn_b1_5 all0))
  obtain ⟨cq3, kq3, q3a, q3b, q3c⟩ := isOf hZ2 rfl tk1_28_v2
  obtain ⟨_, _, ⟨T3, L3, k3, n3⟩, -, X3, ⟨Lc3, hQ3, l3, y3, z3⟩, st3⟩ := X2'.virtualBack hx (y := (⟨s_0, "hasBlocks", "()Z"⟩ : MethodName)) (z := (⟨s_0, "hasBlocks", "()Z"⟩ : MethodName)) hown2 (mvT hZ2 (W hw 52 rfl)) (mvT hZ2 (W hw 53 rfl)) (notFace_of_selects (args := #[]) (mvT hZ2 (W hw 55 rfl))) (mvT hZ2 (W hw 55 rfl)) (mvT hZ2 (W hw 54 rfl)) (by decide) (backOf (W := 0) (rm_20 l Z a0 hw w kk iw vw hN [] b1_0 b1_1 b1_2 b1_3 b1_4 b1_5 kb1_0 kb1_1 kb1_2 kb1_3 b1_6 ((0 : Int64) ||| ((1 : Int64) <<< (((((p3.toUInt32 >>> ((1 : Int32) &&& 31).toUInt32).toInt32) &&& (2147483647 : Int32)) % (1 : Int32)) &&& 0x3f).toInt64)) kb1_4 T2.heap O2 gn_b1_0 tk1_28_v2.lt tk1_28_v2 gn_b1_1 tk1_37_v2.lt tk1_29_v2 gn_b1_2 tk1_38_v2.lt tk1_30_v2 gn_b1_3 tk1_39_v2.lt tk1_31_v2 gn_b1_4 tk1_40_v2.lt tk1_32_v2 gn_b1_5 tk2_0.lt tk1_33_v2 tk1_34_v2 tk1_35_v2 tk1_36_v2 tk1_37_v2 tk1_38_v2 tk1_39_v2 tk1_40_v2 tk2_0 tk2_1 tk2_2 gn_b1_6 tk2_4.lt tk2_3 tk2_4 tk1_7 tk1_8 tk1_9 tk1_10 tk1_11 tk1_12 tk1_13 tk1_14 tk1_15 tk1_16 tk1_17 tk1_18 tk1_19 tk1_20 tk1_21 tk1_22 tk1_23 tk1_24 tk1_25 tk1_26 tk1_27) hZ2 (W hw 56 rfl) (W hw 2 rfl) (by decide) (by decide)) q3a q3c (g := (mkF m 157 #[.val (.int p0), .val (.int p1), .val (.int p2), .val (.int p3), .val (.int (1 : Int32)), .val (.ref b1_0), .val (.int (1 : Int32))] [(.ref b1_0)])) rfl (by rw [hml]; rfl) (Steps.refl _) (argsL := []) (rest := []) (lenOf pd_3 rfl) rfl (by show 2 * 0 + _ ≤ _; exact Nat.le_of_eq rfl) (hb hby at_157) (fun _ _ => ⟨rfl, rfl, (by decide : 12 + 0 ≤ _), (by decide : 527 + 0 ≤ _)⟩)
  dsimp only [Pt.U, Pt.locs, Pt.cells, Pt.slots] at X3 l3 y3 z3 st3 hQ3
  subst l3 y3 z3
  obtain ⟨rfl, N3q, e3⟩ := hQ3
  have N3 := Fr.app N2 N3q
  obtain ⟨fs, hr, hrun, hended, w1, w2, w3, w4⟩ := X3.leaveW hS2 (by rw [e3]; exact hk2) (v := some (.int (1 : Int32))) (fun h => by rw [Bd.returns] at h; cases h)
  refine ⟨_, _, castTop (ef_3 m (.int p0) rfl (.int p1) rfl (.int p2) rfl (.int p3) rfl) ?_, hrun, hended, _, _, rfl, ?_, w1, w2, w3, w4.mono (by decide) (by decide)⟩
  · show Steps p.tables e below (s₁.setTop (mkF m 0 #[.val (.int p0), .val (.int p1), .val (.int p2), .val (.int p3), .unset, .unset, .unset] [])) _
    refine XS.iloadN X0.here hx rfl (hb hby at_0) rfl ?_
    refine XS.iconst X0.here hx rfl (hb hby at_1) ?_
    refine XS.iand X0.here hx rfl (hb hby at_2) rfl ?_
    show Steps p.tables e below (s₁.setTop (mkF m 3 #[.val (.int p0), .val (.int p1), .val (.int p2), .val (.int p3), .unset, .unset, .unset] [(.int (p0 &&& (3 : Int32)))])) _
    rw [hp0]
    refine XS.istore X0.here hx rfl (hb hby at_3) rfl (l' := #[.val (.int p0), .val (.int p1), .val (.int p2), .val (.int p3), .val (.int (1 : Int32)), .unset, .unset]) rfl ?_
    show Steps p.tables e below (s₁.setTop (mkF m 5 #[.val (.int p0), .val (.int p1), .val (.int p2), .val (.int p3), .val (.int (1 : Int32)), .unset, .unset] [])) _
    refine st1 _ ?_
    refine XS.iload X1.here hx rfl (hb hby at_102) rfl ?_
    refine XS.ifNo X1.here hx rfl (hb hby at_104) rfl ((if0 _ _).trans (tlt (by decide : (0 : Int32) < (1 : Int32))).2.2.2) ?_
    refine XS.iloadN X1.here hx rfl (hb hby at_107) rfl ?_
    refine XS.iconst X1.here hx rfl (hb hby at_108) ?_
    refine XS.iand X1.here hx rfl (hb hby at_109) rfl ?_
    show Steps p.tables e below (T1.setTop (mkF m 110 #[.val (.int p0), .val (.int p1), .val (.int p2), .val (.int p3), .val (.int (1 : Int32)), .val (.ref b1_0), .val (.int (1 : Int32))] [(.int (p1 &&& (1 : Int32)))])) _
    rw [hp1]
    refine XS.ifYes X1.here hx rfl (pc0 := 110) (pc' := 125) rfl (hb hby at_110) rfl ((if0 _ _).trans (teq (by decide : (0 : Int32) = (0 : Int32))).1) (by decide) (by decide) ?_
    refine XS.iload X1.here hx rfl (hb hby at_125) rfl ?_
    show Steps p.tables e below (T1.setTop (mkF m 127 #[.val (.int p0), .val (.int p1), .val (.int p2), .val (.int p3), .val (.int (1 : Int32)), .val (.ref b1_0), .val (.int (1 : Int32))] [(.int (1 : Int32))])) _
    refine XS.ifNo X1.here hx rfl (hb hby at_127) rfl ((if0 _ _).trans (tlt (by decide : (0 : Int32) < (1 : Int32))).2.2.2) ?_
    refine XS.iloadN X1.here hx rfl (hb hby at_130) rfl ?_
    refine XS.iconst X1.here hx rfl (hb hby at_131) ?_
    refine XS.iand X1.here hx rfl (hb hby at_132) rfl ?_
    show Steps p.tables e below (T1.setTop (mkF m 133 #[.val (.int p0), .val (.int p1), .val (.int p2), .val (.int p3), .val (.int (1 : Int32)), .val (.ref b1_0), .val (.int (1 : Int32))] [(.int (p3 &&& (1 : Int32)))])) _
    rw [hp2]
    refine XS.ifNo X1.here hx rfl (hb hby at_133) rfl ((if0 _ _).trans (feq (by decide : ¬ ((1 : Int32) = (0 : Int32)))).1) ?_
    refine XS.aload X1.here hx rfl (hb hby at_136) rfl rfl ?_
    refine XS.iloadN X1.here hx rfl (hb hby at_138) rfl ?_
    refine XS.iconst X1.here hx rfl (hb hby at_139) ?_
    show Steps p.tables e below (T1.setTop (mkF m 140 #[.val (.int p0), .val (.int p1), .val (.int p2), .val (.int p3), .val (.int (1 : Int32)), .val (.ref b1_0), .val (.int (1 : Int32))] [(.int (1 : Int32)), (.int p3), (.ref b1_0)])) _
    refine XS.iushr X1.here hx rfl (hb hby at_140) rfl ?_
    refine X1.ldcInt hx hown (mvT hZ (W hw 69 rfl)) (g := (mkF m 141 #[.val (.int p0), .val (.int p1), .val (.int p2), .val (.int p3), .val (.int (1 : Int32)), .val (.ref b1_0), .val (.int (1 : Int32))] [(.int ((p3.toUInt32 >>> ((1 : Int32) &&& 31).toUInt32).toInt32)), (.ref b1_0)])) rfl (hb hby at_141) _ ?_
    refine XS.iand X1.here hx rfl (hb hby at_143) rfl ?_
    refine XS.iload X1.here hx rfl (hb hby at_144) rfl ?_
    refine iremM X1 hx rfl (hb hby at_146) rfl (by decide : ¬ ((1 : Int32) = (0 : Int32))) ?_
    refine st2.trans ?_
    refine XS.iload X2'.here hx rfl (hb hby at_150) rfl ?_
    refine XS.ifNo X2'.here hx rfl (hb hby at_152) rfl ((if0 _ _).trans (feq (by decide : ¬ ((1 : Int32) = (0 : Int32)))).1) ?_
    show Steps p.tables e below (T2.setTop (mkF m 155 #[.val (.int p0), .val (.int p1), .val (.int p2), .val (.int p3), .val (.int (1 : Int32)), .val (.ref b1_0), .val (.int (1 : Int32))] [])) _
    refine XS.aload X2'.here hx rfl (hb hby at_155) rfl rfl ?_
    refine st3.trans ?_
    refine XS.iload X3.here hx rfl (hb hby at_160) rfl ?_
    refine XS.ifNo X3.here hx rfl (hb hby at_162) rfl ((if0 _ _).trans (tlt (by decide : (0 : Int32) < (1 : Int32))).2.2.2) ?_
    refine XS.iconst X3.here hx rfl (hb hby at_165) ?_
    refine XS.goto X3.here hx rfl (pc0 := 166) (pc' := 170) rfl (hb hby at_166) (by decide) (by decide) ?_
    refine XS.icmpNo X3.here hx rfl (hb hby at_170) rfl (teq (by decide : (1 : Int32) = (1 : Int32))).2 ?_
    refine XS.iconst X3.here hx rfl (hb hby at_173) ?_
    show Steps p.tables e below (T3.setTop (mkF m 174 #[.val (.int p0), .val (.int p1), .val (.int p2), .val (.int p3), .val (.int (1 : Int32)), .val (.ref b1_0), .val (.int (1 : Int32))] [(.int (1 : Int32))])) _
    refine XS.goto X3.here hx rfl (pc0 := 174) (pc' := 178) rfl (hb hby at_174) (by decide) (by decide) ?_
    refine XS.istore X3.here hx rfl (hb hby at_178) rfl (l' := #[.val (.int p0), .val (.int p1), .val (.int p2), .val (.int p3), .val (.int (1 : Int32)), .val (.ref b1_0), .val (.int (1 : Int32))]) rfl ?_
    refine XS.iload X3.here hx rfl (hb hby at_180) rfl ?_
    show Steps p.tables e below (T3.setTop (mkF m 182 #[.val (.int p0), .val (.int p1), .val (.int p2), .val (.int p3), .val (.int (1 : Int32)), .val (.ref b1_0), .val (.int (1 : Int32))] [(.int (1 : Int32))])) _
    exact retN X3 hx (t := .boolean) Bd.returns (by simp) (hb hby at_182) hr
  · show OL (some (.int (1 : Int32))) Z.heap.size _ T3.heap _
    exact ⟨rfl, N3⟩
theorem own_split_2 (x : Int32) : ((x &&& (2147483647 : Int32)) % (1 : Int32)) = (0 : Int32) := by
  have h1 := c_mask x (2147483647 : Int32) 31 (by decide) (by decide)
  have h2 := (c_irem (x &&& (2147483647 : Int32)) (1 : Int32) 1 (by decide)).1 (by omega)
  simp only [← Int32.toInt_inj, h2, (by decide : (0 : Int32).toInt = 0)]
  omega
theorem d13_0 : decode prog_20_method_4_code 0 = .ok (.aload_n 0, 1) := by decide +kernel
theorem d13_1 : decode prog_20_method_4_code 1 = .ok (.iload_n 1, 1) := by decide +kernel
theorem d13_2 : decode prog_20_method_4_code 2 = .ok (.ldc 53, 2) := by decide +kernel
theorem d13_4 : decode prog_20_method_4_code 4 = .ok (.invokevirtual 55, 3) := by decide +kernel
set_option maxRecDepth 65536 in
set_option maxHeartbeats 40000000 in
theorem rm_22 (l : Launch) (Z : State) (a0 : Array Value) (hw : ∀ d ∈ tables_1, d.before a0 Z = true) (w : Nat → Addr) (kk : Nat → ClassId) (iw : Nat → Int32) (vw : Nat → Value) (hN : Wd Z w kk iw vw) (ws : List Jvm.Cond) (o1 : Addr) (o2 : Addr) (o3 : Addr) (o4 : Addr) (o5 : Addr) (o6 : Addr) (o7 : Addr) (kc_o3 : ClassId) (kc_o4 : ClassId) (kc_o5 : ClassId) (kc_o6 : ClassId) (o8 : Addr) (kc_o8 : ClassId) (h0 : Heap) (O0 : Old Z Z.heap.size h0) (gn_o1 : Z.heap.size ≤ o1) (lt_o1 : o1 < h0.size) (E_o1 : Exa Z h0 o1 s_0) (gn_o3 : Z.heap.size ≤ o3) (lt_o3 : o3 < h0.size) (F_o1_nextBlock : Fld Z h0 o1 s_0 "nextBlock" "[I" (.ref o3)) (gn_o4 : Z.heap.size ≤ o4) (lt_o4 : o4 < h0.size) (F_o1_previousBlock : Fld Z h0 o1 s_0 s_5 "[I" (.ref o4)) (gn_o5 : Z.heap.size ≤ o5) (lt_o5 : o5 < h0.size) (F_o1_firstPiece : Fld Z h0 o1 s_0 "firstPiece" "[I" (.ref o5)) (gn_o6 : Z.heap.size ≤ o6) (lt_o6 : o6 < h0.size) (F_o1_lastPiece : Fld Z h0 o1 s_0 "lastPiece" "[I" (.ref o6)) (gn_o7 : Z.heap.size ≤ o7) (lt_o7 : o7 < h0.size) (F_o1_closed : Fld Z h0 o1 s_0 "closed" s_3 (.ref o7)) (F_o1_firstBlock : Fld Z h0 o1 s_0 "firstBlock" "I" (.int (0 : Int32))) (F_o1_lastBlock : Fld Z h0 o1 s_0 "lastBlock" "I" (.int (0 : Int32))) (F_o1_blockCount : Fld Z h0 o1 s_0 "blockCount" "I" (.int (1 : Int32))) (V_o3 : Arv Z h0 o3 kc_o3 .int (64 : Int32) [(.int (-1 : Int32))] (.int (0 : Int32))) (V_o4 : Arv Z h0 o4 kc_o4 .int (64 : Int32) [(.int (-1 : Int32))] (.int (0 : Int32))) (V_o5 : Arv Z h0 o5 kc_o5 .int (64 : Int32) [(.int (-1 : Int32))] (.int (0 : Int32))) (V_o6 : Arv Z h0 o6 kc_o6 .int (64 : Int32) [(.int (-1 : Int32))] (.int (0 : Int32))) (E_o7 : Exa Z h0 o7 s_1) (F_o7_wordsInUse : Fld Z h0 o7 s_1 "wordsInUse" "I" (.int (0 : Int32))) (F_o7_sizeIsSticky : Fld Z h0 o7 s_1 s_6 "Z" (.int (0 : Int32))) (gn_o8 : Z.heap.size ≤ o8) (lt_o8 : o8 < h0.size) (F_o7_words : Fld Z h0 o7 s_1 "words" "[J" (.ref o8)) (V_o8 : Arv Z h0 o8 kc_o8 .long (1 : Int32) [] (.long (0 : Int64))) (ne_o1_o3 : o1 ≠ o3) (ne_o1_o4 : o1 ≠ o4) (ne_o1_o5 : o1 ≠ o5) (ne_o1_o6 : o1 ≠ o6) (ne_o1_o7 : o1 ≠ o7) (ne_o1_o8 : o1 ≠ o8) (ne_o3_o4 : o3 ≠ o4) (ne_o3_o5 : o3 ≠ o5) (ne_o3_o6 : o3 ≠ o6) (ne_o3_o7 : o3 ≠ o7) (ne_o3_o8 : o3 ≠ o8) (ne_o4_o5 : o4 ≠ o5) (ne_o4_o6 : o4 ≠ o6) (ne_o4_o7 : o4 ≠ o7) (ne_o4_o8 : o4 ≠ o8) (ne_o5_o6 : o5 ≠ o6) (ne_o5_o7 : o5 ≠ o7) (ne_o5_o8 : o5 ≠ o8) (ne_o6_o7 : o6 ≠ o7) (ne_o6_o8 : o6 ≠ o8) (ne_o7_o8 : o7 ≠ o8) :
    Met l Z (⟨s_0, "find", s_7⟩ : MethodName) (Jvm.Cond.code (⟨s_0, "find", s_7⟩ : MethodName) prog_20_method_11_code 3 (some .int)) ws (Rm 0 0 0 0) #[(.ref o1), (.int (0 : Int32)), (.ref o2)] h0 (OQ (some (.int (0 : Int32))) h0 Z.heap.size) := by
  have hN' := hN
  have hL0 : Sta Z Z.heap s_1 s_4 "Z" (.int (1 : Int32)) := hN'
  refine own_body (plainFor_of_name pn_1) hisR ?_
  intro p e s m below meth c s₁ hx hby hml hown hnm hret X0 hZ e0
  have N0 := Fr.nil Z.heap.size
  obtain ⟨T1, X1, e1, st1⟩ := getF X0 hx hZ hown (host := "") (Or.inl (W hw 57 rfl)) Via.refl e0 F_o1_blockCount (g := (mkF m 6 #[.val (.ref o1), .val (.int (0 : Int32)), .val (.ref o2)] [(.ref o1), (.int (0 : Int32))])) rfl rfl (hb hby d8_6)
  refine ⟨T1, some (.int (0 : Int32)), _, _, _, by decide, by decide, X1, nofun, (by rw [e1]; exact ⟨rfl, N0, rfl⟩), fun fs hr => castTop (ef_5 m (.ref o1) rfl (.int (0 : Int32)) rfl (.ref o2) rfl) ?_⟩
  show Steps p.tables e below (s₁.setTop (mkF m 0 #[.val (.ref o1), .val (.int (0 : Int32)), .val (.ref o2)] [])) _
  refine XS.iloadN X0.here hx rfl (hb hby d8_0) rfl ?_
  refine XS.ifNo X0.here hx rfl (hb hby d8_1) rfl ((if0 _ _).trans (flt (by decide : ¬ ((0 : Int32) < (0 : Int32)))).1) ?_
  refine XS.iloadN X0.here hx rfl (hb hby d8_4) rfl ?_
  refine XS.aloadN X0.here hx rfl (hb hby d8_5) rfl rfl ?_
  refine st1 _ ?_
  refine XS.icmpYes X1.here hx rfl (pc0 := 9) (pc' := 27) rfl (hb hby d8_9) rfl (tlt (by decide : (0 : Int32) < (1 : Int32))).1 (by decide) (by decide) ?_
  refine XS.iloadN X1.here hx rfl (hb hby d8_27) rfl ?_
  show Steps p.tables e below (T1.setTop (mkF m 28 #[.val (.ref o1), .val (.int (0 : Int32)), .val (.ref o2)] [(.int (0 : Int32))])) _
  exact retI X1 hx hret (hb hby d8_28) hr
theorem d13_7 : decode prog_20_method_4_code 7 = .ok (.istore_n 2, 1) := by decide +kernel
theorem d13_8 : decode prog_20_method_4_code 8 = .ok (.aload_n 0, 1) := by decide +kernel
theorem d13_9 : decode prog_20_method_4_code 9 = .ok (.invokevirtual 49, 3) := by decide +kernel
theorem lf_3 : ((1 : Int32) + (1 : Int32)) = (2 : Int32) := by decide
def Qd_7 (Z : State) (w : Nat → Addr) (kk : Nat → ClassId) (iw : Nat → Int32) (vw : Nat → Value) (o1 : Addr) (o2 : Addr) (o3 : Addr) (o4 : Addr) (o5 : Addr) (o6 : Addr) (kc_o2 : ClassId) (kc_o3 : ClassId) (kc_o4 : ClassId) (kc_o5 : ClassId) (o7 : Addr) (kc_o7 : ClassId) (h0 : Heap) (n0 : Nat) (v : Option Value) (h : Heap) (L : List Loc) : Prop := v = some (.int (1 : Int32)) ∧ Fr n0 L ∧ Keep h0 h [o1, o2, o3, o4, o5] ∧ Exa Z h o1 s_0 ∧ Fld Z h o1 s_0 "nextBlock" "[I" (.ref o2) ∧ Fld Z h o1 s_0 s_5 "[I" (.ref o3) ∧ Fld Z h o1 s_0 "firstPiece" "[I" (.ref o4) ∧ Fld Z h o1 s_0 "lastPiece" "[I" (.ref o5) ∧ Fld Z h o1 s_0 "closed" s_3 (.ref o6) ∧ Fld Z h o1 s_0 "firstBlock" "I" (.int (0 : Int32)) ∧ Fld Z h o1 s_0 "lastBlock" "I" (.int (0 : Int32)) ∧ Fld Z h o1 s_0 "blockCount" "I" (.int (2 : Int32)) ∧ Arv Z h o2 kc_o2 .int (64 : Int32) [(.int (-1 : Int32)), (.int (-1 : Int32))] (.int (0 : Int32)) ∧ Arv Z h o3 kc_o3 .int (64 : Int32) [(.int (-1 : Int32)), (.int (-1 : Int32))] (.int (0 : Int32)) ∧ Arv Z h o4 kc_o4 .int (64 : Int32) [(.int (-1 : Int32)), (.int (-1 : Int32))] (.int (0 : Int32)) ∧ Arv Z h o5 kc_o5 .int (64 : Int32) [(.int (-1 : Int32)), (.int (-1 : Int32))] (.int (0 : Int32))
set_option maxRecDepth 65536 in
set_option maxHeartbeats 40000000 in
theorem rm_23 (l : Launch) (Z : State) (a0 : Array Value) (hw : ∀ d ∈ tables_1, d.before a0 Z = true) (w : Nat → Addr) (kk : Nat → ClassId) (iw : Nat → Int32) (vw : Nat → Value) (hN : Wd Z w kk iw vw) (ws : List Jvm.Cond) (o1 : Addr) (o2 : Addr) (o3 : Addr) (o4 : Addr) (o5 : Addr) (o6 : Addr) (kc_o2 : ClassId) (kc_o3 : ClassId) (kc_o4 : ClassId) (kc_o5 : ClassId) (o7 : Addr) (kc_o7 : ClassId) (h0 : Heap) (O0 : Old Z Z.heap.size h0) (gn_o1 : Z.heap.size ≤ o1) (lt_o1 : o1 < h0.size) (E_o1 : Exa Z h0 o1 s_0) (gn_o2 : Z.heap.size ≤ o2) (lt_o2 : o2 < h0.size) (F_o1_nextBlock : Fld Z h0 o1 s_0 "nextBlock" "[I" (.ref o2)) (gn_o3 : Z.heap.size ≤ o3) (lt_o3 : o3 < h0.size) (F_o1_previousBlock : Fld Z h0 o1 s_0 s_5 "[I" (.ref o3)) (gn_o4 : Z.heap.size ≤ o4) (lt_o4 : o4 < h0.size) (F_o1_firstPiece : Fld Z h0 o1 s_0 "firstPiece" "[I" (.ref o4)) (gn_o5 : Z.heap.size ≤ o5) (lt_o5 : o5 < h0.size) (F_o1_lastPiece : Fld Z h0 o1 s_0 "lastPiece" "[I" (.ref o5)) (gn_o6 : Z.heap.size ≤ o6) (lt_o6 : o6 < h0.size) (F_o1_closed : Fld Z h0 o1 s_0 "closed" s_3 (.ref o6)) (F_o1_firstBlock : Fld Z h0 o1 s_0 "firstBlock" "I" (.int (0 : Int32))) (F_o1_lastBlock : Fld Z h0 o1 s_0 "lastBlock" "I" (.int (0 : Int32))) (F_o1_blockCount : Fld Z h0 o1 s_0 "blockCount" "I" (.int (1 : Int32))) (V_o2 : Arv Z h0 o2 kc_o2 .int (64 : Int32) [(.int (-1 : Int32))] (.int (0 : Int32))) (V_o3 : Arv Z h0 o3 kc_o3 .int (64 : Int32) [(.int (-1 : Int32))] (.int (0 : Int32))) (V_o4 : Arv Z h0 o4 kc_o4 .int (64 : Int32) [(.int (-1 : Int32))] (.int (0 : Int32))) (V_o5 : Arv Z h0 o5 kc_o5 .int (64 : Int32) [(.int (-1 : Int32))] (.int (0 : Int32))) (E_o6 : Exa Z h0 o6 s_1) (F_o6_wordsInUse : Fld Z h0 o6 s_1 "wordsInUse" "I" (.int (0 : Int32))) (F_o6_sizeIsSticky : Fld Z h0 o6 s_1 s_6 "Z" (.int (0 : Int32))) (gn_o7 : Z.heap.size ≤ o7) (lt_o7 : o7 < h0.size) (F_o6_words : Fld Z h0 o6 s_1 "words" "[J" (.ref o7)) (V_o7 : Arv Z h0 o7 kc_o7 .long (1 : Int32) [] (.long (0 : Int64))) (ne_o1_o2 : o1 ≠ o2) (ne_o1_o3 : o1 ≠ o3) (ne_o1_o4 : o1 ≠ o4) (ne_o1_o5 : o1 ≠ o5) (ne_o1_o6 : o1 ≠ o6) (ne_o1_o7 : o1 ≠ o7) (ne_o2_o3 : o2 ≠ o3) (ne_o2_o4 : o2 ≠ o4) (ne_o2_o5 : o2 ≠ o5) (ne_o2_o6 : o2 ≠ o6) (ne_o2_o7 : o2 ≠ o7) (ne_o3_o4 : o3 ≠ o4) (ne_o3_o5 : o3 ≠ o5) (ne_o3_o6 : o3 ≠ o6) (ne_o3_o7 : o3 ≠ o7) (ne_o4_o5 : o4 ≠ o5) (ne_o4_o6 : o4 ≠ o6) (ne_o4_o7 : o4 ≠ o7) (ne_o5_o6 : o5 ≠ o6) (ne_o5_o7 : o5 ≠ o7) (ne_o6_o7 : o6 ≠ o7) :
    Met l Z (⟨s_0, "newBlock", "()I"⟩ : MethodName) (Jvm.Cond.code (⟨s_0, "newBlock", "()I"⟩ : MethodName) prog_20_method_9_code 2 (some .int)) ws (Rm 0 0 0 0) #[(.ref o1)] h0 (Qd_7 Z w kk iw vw o1 o2 o3 o4 o5 o6 kc_o2 kc_o3 kc_o4 kc_o5 o7 kc_o7 h0 Z.heap.size) := by
  have hN' := hN
  have hL0 : Sta Z Z.heap s_1 s_4 "Z" (.int (1 : Int32)) := hN'
  refine own_body (plainFor_of_name pn_1) hisR ?_
  intro p e s m below meth c s₁ hx hby hml hown hnm hret X0 hZ e0
  have N0 := Fr.nil Z.heap.size
  have K0 : Keep h0 h0 [o1, o2, o3, o4, o5] := Keep.refl _ _
  obtain ⟨T1, X1, e1, st1⟩ := getF X0 hx hZ hown (host := "") (Or.inl (W hw 57 rfl)) Via.refl e0 F_o1_blockCount (g := (mkF m 1 #[.val (.ref o1), .unset] [(.ref o1)])) rfl rfl (hb hby d6_1)
  obtain ⟨T2, X2, e2, st2⟩ := getF X1 hx hZ hown (host := "") (Or.inl (W hw 57 rfl)) Via.refl e1 F_o1_blockCount (g := (mkF m 20 #[.val (.ref o1), .unset] [(.ref o1)])) rfl rfl (hb hby d6_20)
  obtain ⟨T3, X3, e3, st3⟩ := getF X2 hx hZ hown (host := "") (Or.inl (W hw 10 rfl)) Via.refl e2 F_o1_nextBlock (g := (mkF m 24 #[.val (.ref o1), .unset] [(.ref o1), (.int (1 : Int32))])) rfl rfl (hb hby d6_24)
  obtain ⟨cl4, Ar4, q4, Sz4, Ng4, Hv4, Gv4⟩ := id V_o2
  obtain ⟨T5, X5, e5, st5⟩ := getF X3 hx hZ hown (host := "") (Or.inl (W hw 57 rfl)) Via.refl e3 F_o1_blockCount (g := (mkF m 88 #[.val (.ref o1), .unset] [(.ref o1), (.ref o1)])) rfl rfl (hb hby d6_88)
  obtain ⟨T6, h6, X6, e6, W6, st6⟩ := putF X5 hx hZ hown (host := "") (Or.inl (W hw 57 rfl)) Via.refl e5 F_o1_blockCount E_o1 (Or.inl (W hw 58 rfl)) (W hw 1 rfl) (ty := .int) (by decide) rfl rfl (g := (mkF m 94 #[.val (.ref o1), .unset] [(.int (2 : Int32)), (.ref o1), (.int (1 : Int32))])) rfl rfl (hb hby d6_94)
  have F_o1_blockCount_v6 := F_o1_blockCount.same W6
  have N6 := Fr.snoc X6 N0 gn_o1
  have E_o1_v6 := E_o1.wr W6
  have F_o1_nextBlock_v6 := F_o1_nextBlock.other W6 (Or.inr (sn_106 hw))
  have F_o1_previousBlock_v6 := F_o1_previousBlock.other W6 (Or.inr (sn_107 hw))
  have F_o1_firstPiece_v6 := F_o1_firstPiece.other W6 (Or.inr (sn_108 hw))
  have F_o1_lastPiece_v6 := F_o1_lastPiece.other W6 (Or.inr (sn_109 hw))
  have F_o1_closed_v6 := F_o1_closed.other W6 (Or.inr (sn_110 hw))
  have F_o1_firstBlock_v6 := F_o1_firstBlock.other W6 (Or.inr (sn_111 hw))
  have F_o1_lastBlock_v6 := F_o1_lastBlock.other W6 (Or.inr (sn_112 hw))
  have V_o2_v6 := V_o2.other W6 (Ne.symm ne_o1_o2)
  have V_o3_v6 := V_o3.other W6 (Ne.symm ne_o1_o3)
  have V_o4_v6 := V_o4.other W6 (Ne.symm ne_o1_o4)
  have V_o5_v6 := V_o5.other W6 (Ne.symm ne_o1_o5)
  have E_o6_v6 := E_o6.wr W6
  have F_o6_wordsInUse_v6 := F_o6_wordsInUse.other W6 (Or.inl (Ne.symm ne_o1_o6))
  have F_o6_sizeIsSticky_v6 := F_o6_sizeIsSticky.other W6 (Or.inl (Ne.symm ne_o1_o6))
  have F_o6_words_v6 := F_o6_words.other W6 (Or.inl (Ne.symm ne_o1_o6))
  have V_o7_v6 := V_o7.other W6 (Ne.symm ne_o1_o7)
  have O6 := O0.wr W6 gn_o1
  have K6 : Keep h0 h6 [o1, o2, o3, o4, o5] := K0.wr W6 (Or.inl (List.mem_of_getElem? (i := 0) rfl))
  obtain ⟨T7, X7, e7, st7⟩ := getF X6 hx hZ hown (host := "") (Or.inl (W hw 10 rfl)) Via.refl e6 F_o1_nextBlock_v6 (g := (mkF m 99 #[.val (.ref o1), .val (.int (1 : Int32))] [(.ref o1)])) rfl rfl (hb hby d6_99)
  have V_o2_v8 : Arv Z h6 o2 kc_o2 .int (64 : Int32) [(.int (-1 : Int32)), (.int (0 : Int32))] (.int (0 : Int32)) := V_o2_v6.pad (pad_rep [(.int (-1 : Int32))] (.int (0 : Int32)) 1)
  obtain ⟨cl9, Ar9, q9, Sz9, Ng9, Hv9, Gv9⟩ := V_o2_v8
  have hin9 : ¬ ((1 : Int32) < 0 ∨ cl9.slots.size ≤ ((1 : Int32)).toNatClampNeg) := inb_of Sz9 ⟨by decide, by decide⟩
  obtain ⟨T10, h10, X10, e10, W10, st10⟩ := stI X7 hx hZ e7 Ar9 (j := (1 : Int32)) hin9 (g := (mkF m 104 #[.val (.ref o1), .val (.int (1 : Int32))] [(.int (-1 : Int32)), (.int (1 : Int32)), (.ref o2)])) rfl rfl (hb hby d6_104)
  have V_o2_v10 : Arv Z h10 o2 kc_o2 .int (64 : Int32) [(.int (-1 : Int32)), (.int (-1 : Int32))] (.int (0 : Int32)) := Arv.set Ar9 q9 Sz9 Ng9 Hv9 Gv9 rfl W10 1 rfl (Nat.le_of_ble_eq_true rfl)
  have N10 := Fr.snoc X10 N6 gn_o2
  have E_o1_v10 := E_o1_v6.wr W10
  have F_o1_nextBlock_v10 := F_o1_nextBlock_v6.other W10 (Or.inl ne_o1_o2)
  have F_o1_previousBlock_v10 := F_o1_previousBlock_v6.other W10 (Or.inl ne_o1_o2)
  have F_o1_firstPiece_v10 := F_o1_firstPiece_v6.other W10 (Or.inl ne_o1_o2)
  have F_o1_lastPiece_v10 := F_o1_lastPiece_v6.other W10 (Or.inl ne_o1_o2)
  have F_o1_closed_v10 := F_o1_closed_v6.other W10 (Or.inl ne_o1_o2)
  have F_o1_firstBlock_v10 := F_o1_firstBlock_v6.other W10 (Or.inl ne_o1_o2)
  have F_o1_lastBlock_v10 := F_o1_lastBlock_v6.other W10 (Or.inl ne_o1_o2)
  have F_o1_blockCount_v10 := F_o1_blockCount_v6.other W10 (Or.inl ne_o1_o2)
  have V_o3_v10 := V_o3_v6.other W10 (Ne.symm ne_o2_o3)
  have V_o4_v10 := V_o4_v6.other W10 (Ne.symm ne_o2_o4)
  have V_o5_v10 := V_o5_v6.other W10 (Ne.symm ne_o2_o5)
  have E_o6_v10 := E_o6_v6.wr W10
  have F_o6_wordsInUse_v10 := F_o6_wordsInUse_v6.other W10 (Or.inl (Ne.symm ne_o2_o6))
  have F_o6_sizeIsSticky_v10 := F_o6_sizeIsSticky_v6.other W10 (Or.inl (Ne.symm ne_o2_o6))
  have F_o6_words_v10 := F_o6_words_v6.other W10 (Or.inl (Ne.symm ne_o2_o6))
  have V_o7_v10 := V_o7_v6.other W10 (Ne.symm ne_o2_o7)
  have O10 := O6.wr W10 gn_o2
  have K10 : Keep h0 h10 [o1, o2, o3, o4, o5] := K6.wr W10 (Or.inl (List.mem_of_getElem? (i := 1) rfl))
  obtain ⟨T11, X11, e11, st11⟩ := getF X10 hx hZ hown (host := "") (Or.inl (W hw 12 rfl)) Via.refl e10 F_o1_previousBlock_v10 (g := (mkF m 106 #[.val (.ref o1), .val (.int (1 : Int32))] [(.ref o1)])) rfl rfl (hb hby d6_106)
  have V_o3_v12 : Arv Z h10 o3 kc_o3 .int (64 : Int32) [(.int (-1 : Int32)), (.int (0 : Int32))] (.int (0 : Int32)) := V_o3_v10.pad (pad_rep [(.int (-1 : Int32))] (.int (0 : Int32)) 1)
  obtain ⟨cl13, Ar13, q13, Sz13, Ng13, Hv13, Gv13⟩ := V_o3_v12
  have hin13 : ¬ ((1 : Int32) < 0 ∨ cl13.slots.size ≤ ((1 : Int32)).toNatClampNeg) := inb_of Sz13 ⟨by decide, by decide⟩
  obtain ⟨T14, h14, X14, e14, W14, st14⟩ := stI X11 hx hZ e11 Ar13 (j := (1 : Int32)) hin13 (g := (mkF m 111 #[.val (.ref o1), .val (.int (1 : Int32))] [(.int (-1 : Int32)), (.int (1 : Int32)), (.ref o3)])) rfl rfl (hb hby d6_111)
  have V_o3_v14 : Arv Z h14 o3 kc_o3 .int (64 : Int32) [(.int (-1 : Int32)), (.int (-1 : Int32))] (.int (0 : Int32)) := Arv.set Ar13 q13 Sz13 Ng13 Hv13 Gv13 rfl W14 1 rfl (Nat.le_of_ble_eq_true rfl)
  have N14 := Fr.snoc X14 N10 gn_o3
  have E_o1_v14 := E_o1_v10.wr W14
  have F_o1_nextBlock_v14 := F_o1_nextBlock_v10.other W14 (Or.inl ne_o1_o3)
  have F_o1_previousBlock_v14 := F_o1_previousBlock_v10.other W14 (Or.inl ne_o1_o3)
  have F_o1_firstPiece_v14 := F_o1_firstPiece_v10.other W14 (Or.inl ne_o1_o3)
  have F_o1_lastPiece_v14 := F_o1_lastPiece_v10.other W14 (Or.inl ne_o1_o3)
  have F_o1_closed_v14 := F_o1_closed_v10.other W14 (Or.inl ne_o1_o3)
  have F_o1_firstBlock_v14 := F_o1_firstBlock_v10.other W14 (Or.inl ne_o1_o3)
  have F_o1_lastBlock_v14 := F_o1_lastBlock_v10.other W14 (Or.inl ne_o1_o3)
  have F_o1_blockCount_v14 := F_o1_blockCount_v10.other W14 (Or.inl ne_o1_o3)
  have V_o2_v14 := V_o2_v10.other W14 ne_o2_o3
  have V_o4_v14 := V_o4_v10.other W14 (Ne.symm ne_o3_o4)
  have V_o5_v14 := V_o5_v10.other W14 (Ne.symm ne_o3_o5)
  have E_o6_v14 := E_o6_v10.wr W14
  have F_o6_wordsInUse_v14 := F_o6_wordsInUse_v10.other W14 (Or.inl (Ne.symm ne_o3_o6))
  have F_o6_sizeIsSticky_v14 := F_o6_sizeIsSticky_v10.other W14 (Or.inl (Ne.symm ne_o3_o6))
  have F_o6_words_v14 := F_o6_words_v10.other W14 (Or.inl (Ne.symm ne_o3_o6))
  have V_o7_v14 := V_o7_v10.other W14 (Ne.symm ne_o3_o7)
  have O14 := O10.wr W14 gn_o3
  have K14 : Keep h0 h14 [o1, o2, o3, o4, o5] := K10.wr W14 (Or.inl (List.mem_of_getElem? (i := 2) rfl))
  obtain ⟨T15, X15, e15, st15⟩ := getF X14 hx hZ hown (host := "") (Or.inl (W hw 14 rfl)) Via.refl e14 F_o1_firstPiece_v14 (g := (mkF m 113 #[.val (.ref o1), .val (.int (1 : Int32))] [(.ref o1)])) rfl rfl (hb hby d6_113)
  have V_o4_v16 : Arv Z h14 o4 kc_o4 .int (64 : Int32) [(.int (-1 : Int32)), (.int (0 : Int32))] (.int (0 : Int32)) := V_o4_v14.pad (pad_rep [(.int (-1 : Int32))] (.int (0 : Int32)) 1)
  obtain ⟨cl17, Ar17, q17, Sz17, Ng17, Hv17, Gv17⟩ := V_o4_v16
  have hin17 : ¬ ((1 : Int32) < 0 ∨ cl17.slots.size ≤ ((1 : Int32)).toNatClampNeg) := inb_of Sz17 ⟨by decide, by decide⟩
  obtain ⟨T18, h18, X18, e18, W18, st18⟩ := stI X15 hx hZ e15 Ar17 (j := (1 : Int32)) hin17 (g := (mkF m 118 #[.val (.ref o1), .val (.int (1 : Int32))] [(.int (-1 : Int32)), (.int (1 : Int32)), (.ref o4)])) rfl rfl (hb hby d6_118)
  have V_o4_v18 : Arv Z h18 o4 kc_o4 .int (64 : Int32) [(.int (-1 : Int32)), (.int (-1 : Int32))] (.int (0 : Int32)) := Arv.set Ar17 q17 Sz17 Ng17 Hv17 Gv17 rfl W18 1 rfl (Nat.le_of_ble_eq_true rfl)
  have N18 := Fr.snoc X18 N14 gn_o4
  have E_o1_v18 := E_o1_v14.wr W18
  have F_o1_nextBlock_v18 := F_o1_nextBlock_v14.other W18 (Or.inl ne_o1_o4)
  have F_o1_previousBlock_v18 := F_o1_previousBlock_v14.other W18 (Or.inl ne_o1_o4)
  have F_o1_firstPiece_v18 := F_o1_firstPiece_v14.other W18 (Or.inl ne_o1_o4)
  have F_o1_lastPiece_v18 := F_o1_lastPiece_v14.other W18 (Or.inl ne_o1_o4)
  have F_o1_closed_v18 := F_o1_closed_v14.other W18 (Or.inl ne_o1_o4)
  have F_o1_firstBlock_v18 := F_o1_firstBlock_v14.other W18 (Or.inl ne_o1_o4)
  have F_o1_lastBlock_v18 := F_o1_lastBlock_v14.other W18 (Or.inl ne_o1_o4)
  have F_o1_blockCount_v18 := F_o1_blockCount_v14.other W18 (Or.inl ne_o1_o4)
  have V_o2_v18 := V_o2_v14.other W18 ne_o2_o4
  have V_o3_v18 := V_o3_v14.other W18 ne_o3_o4
  have V_o5_v18 := V_o5_v14.other W18 (Ne.symm ne_o4_o5)
  have E_o6_v18 := E_o6_v14.wr W18
  have F_o6_wordsInUse_v18 := F_o6_wordsInUse_v14.other W18 (Or.inl (Ne.symm ne_o4_o6))
  have F_o6_sizeIsSticky_v18 := F_o6_sizeIsSticky_v14.other W18 (Or.inl (Ne.symm ne_o4_o6))
  have F_o6_words_v18 := F_o6_words_v14.other W18 (Or.inl (Ne.symm ne_o4_o6))
  have V_o7_v18 := V_o7_v14.other W18 (Ne.symm ne_o4_o7)
  have O18 := O14.wr W18 gn_o4
  have K18 : Keep h0 h18 [o1, o2, o3, o4, o5] := K14.wr W18 (Or.inl (List.mem_of_getElem? (i := 3) rfl))
  obtain ⟨T19, X19, e19, st19⟩ := getF X18 hx hZ hown (host := "") (Or.inl (W hw 16 rfl)) Via.refl e18 F_o1_lastPiece_v18 (g := (mkF m 120 #[.val (.ref o1), .val (.int (1 : Int32))] [(.ref o1)])) rfl rfl (hb hby d6_120)
  have V_o5_v20 : Arv Z h18 o5 kc_o5 .int (64 : Int32) [(.int (-1 : Int32)), (.int (0 : Int32))] (.int (0 : Int32)) := V_o5_v18.pad (pad_rep [(.int (-1 : Int32))] (.int (0 : Int32)) 1)
  obtain ⟨cl21, Ar21, q21, Sz21, Ng21, Hv21, Gv21⟩ := V_o5_v20
  have hin21 : ¬ ((1 : Int32) < 0 ∨ cl21.slots.size ≤ ((1 : Int32)).toNatClampNeg) := inb_of Sz21 ⟨by decide, by decide⟩
  obtain ⟨T22, h22, X22, e22, W22, st22⟩ := stI X19 hx hZ e19 Ar21 (j := (1 : Int32)) hin21 (g := (mkF m 125 #[.val (.ref o1), .val (.int (1 : Int32))] [(.int (-1 : Int32)), (.int (1 : Int32)), (.ref o5)])) rfl rfl (hb hby d6_125)
  have V_o5_v22 : Arv Z h22 o5 kc_o5 .int (64 : Int32) [(.int (-1 : Int32)), (.int (-1 : Int32))] (.int (0 : Int32)) := Arv.set Ar21 q21 Sz21 Ng21 Hv21 Gv21 rfl W22 1 rfl (Nat.le_of_ble_eq_true rfl)
  have N22 := Fr.snoc X22 N18 gn_o5
  have E_o1_v22 := E_o1_v18.wr W22
  have F_o1_nextBlock_v22 := F_o1_nextBlock_v18.other W22 (Or.inl ne_o1_o5)
  have F_o1_previousBlock_v22 := F_o1_previousBlock_v18.other W22 (Or.inl ne_o1_o5)
  have F_o1_firstPiece_v22 := F_o1_firstPiece_v18.other W22 (Or.inl ne_o1_o5)
  have F_o1_lastPiece_v22 := F_o1_lastPiece_v18.other W22 (Or.inl ne_o1_o5)
  have F_o1_closed_v22 := F_o1_closed_v18.other W22 (Or.inl ne_o1_o5)
  have F_o1_firstBlock_v22 := F_o1_firstBlock_v18.other W22 (Or.inl ne_o1_o5)
  have F_o1_lastBlock_v22 := F_o1_lastBlock_v18.other W22 (Or.inl ne_o1_o5)
  have F_o1_blockCount_v22 := F_o1_blockCount_v18.other W22 (Or.inl ne_o1_o5)
  have V_o2_v22 := V_o2_v18.other W22 ne_o2_o5
  have V_o3_v22 := V_o3_v18.other W22 ne_o3_o5
  have V_o4_v22 := V_o4_v18.other W22 ne_o4_o5
  have E_o6_v22 := E_o6_v18.wr W22
  have F_o6_wordsInUse_v22 := F_o6_wordsInUse_v18.other W22 (Or.inl (Ne.symm ne_o5_o6))
  have F_o6_sizeIsSticky_v22 := F_o6_sizeIsSticky_v18.other W22 (Or.inl (Ne.symm ne_o5_o6))
  have F_o6_words_v22 := F_o6_words_v18.other W22 (Or.inl (Ne.symm ne_o5_o6))
  have V_o7_v22 := V_o7_v18.other W22 (Ne.symm ne_o5_o7)
  have O22 := O18.wr W22 gn_o5
  have K22 : Keep h0 h22 [o1, o2, o3, o4, o5] := K18.wr W22 (Or.inl (List.mem_of_getElem? (i := 4) rfl))
  refine ⟨T22, some (.int (1 : Int32)), _, _, _, by decide, by decide, X22, nofun, (by rw [e22]; exact ⟨rfl, N22, K22, E_o1_v22, F_o1_nextBlock_v22, F_o1_previousBlock_v22, F_o1_firstPiece_v22, F_o1_lastPiece_v22, F_o1_closed_v22, F_o1_firstBlock_v22, F_o1_lastBlock_v22, F_o1_blockCount_v22, V_o2_v22, V_o3_v22, V_o4_v22, V_o5_v22⟩), fun fs hr => castTop (ef_4 m (.ref o1) rfl) ?_⟩
  show Steps p.tables e below (s₁.setTop (mkF m 0 #[.val (.ref o1), .unset] [])) _
  refine XS.aloadN X0.here hx rfl (hb hby d6_0) rfl rfl ?_
  refine st1 _ ?_
  refine X1.ldcInt hx hown (mvT hZ (W hw 68 rfl)) (g := (mkF m 4 #[.val (.ref o1), .unset] [(.int (1 : Int32))])) rfl (hb hby d6_4) _ ?_
  refine XS.icmpYes X1.here hx rfl (pc0 := 6) (pc' := 19) rfl (hb hby d6_6) rfl (feq (by decide : ¬ ((1 : Int32) = (524288 : Int32)))).2 (by decide) (by decide) ?_
  refine XS.aloadN X1.here hx rfl (hb hby d6_19) rfl rfl ?_
  refine st2 _ ?_
  refine XS.aloadN X2.here hx rfl (hb hby d6_23) rfl rfl ?_
  refine st3 _ ?_
  show Steps p.tables e below (T3.setTop (mkF m 27 #[.val (.ref o1), .unset] [(.ref o2), (.int (1 : Int32))])) _
  refine X3.arraylength hx (by rw [e3]; exact Ar4.1) (State.isArrayOf_alike hZ.alike Ar4.2.1) (g := (mkF m 27 #[.val (.ref o1), .unset] [(.ref o2), (.int (1 : Int32))])) rfl rfl (hb hby d6_27) _ ?_
  rw [len_of Sz4 Ng4]
  refine XS.icmpYes X3.here hx rfl (pc0 := 28) (pc' := 86) rfl (hb hby d6_28) rfl (feq (by decide : ¬ ((1 : Int32) = (64 : Int32)))).2 (by decide) (by decide) ?_
  refine XS.aloadN X3.here hx rfl (hb hby d6_86) rfl rfl ?_
  refine XS.dup X3.here hx rfl (hb hby d6_87) rfl rfl ?_
  refine st5 _ ?_
  refine XS.dupX1 X5.here hx rfl (hb hby d6_91) rfl rfl rfl ?_
  refine XS.iconst X5.here hx rfl (hb hby d6_92) ?_
  refine XS.iadd X5.here hx rfl (hb hby d6_93) rfl ?_
  show Steps p.tables e below (T5.setTop (mkF m 94 #[.val (.ref o1), .unset] [(.int ((1 : Int32) + (1 : Int32))), (.ref o1), (.int (1 : Int32))])) _
  rw [lf_3]
  show Steps p.tables e below (T5.setTop (mkF m 94 #[.val (.ref o1), .unset] [(.int (2 : Int32)), (.ref o1), (.int (1 : Int32))])) _
  refine st6 _ ?_
  refine XS.istoreN X6.here hx rfl (hb hby d6_97) rfl (l' := #[.val (.ref o1), .val (.int (1 : Int32))]) rfl ?_
  refine XS.aloadN X6.here hx rfl (hb hby d6_98) rfl rfl ?_
  refine st7 _ ?_
  refine XS.iloadN X7.here hx rfl (hb hby d6_102) rfl ?_
  refine XS.iconst X7.here hx rfl (hb hby d6_103) ?_
  refine st10 _ ?_
  refine XS.aloadN X10.here hx rfl (hb hby d6_105) rfl rfl ?_
  show Steps p.tables e below (T10.setTop (mkF m 106 #[.val (.ref o1), .val (.int (1 : Int32))] [(.ref o1)])) _
  refine st11 _ ?_
  refine XS.iloadN X11.here hx rfl (hb hby d6_109) rfl ?_
  refine XS.iconst X11.here hx rfl (hb hby d6_110) ?_
  refine st14 _ ?_
  refine XS.aloadN X14.here hx rfl (hb hby d6_112) rfl rfl ?_
  refine st15 _ ?_
  refine XS.iloadN X15.here hx rfl (hb hby d6_116) rfl ?_
  refine XS.iconst X15.here hx rfl (hb hby d6_117) ?_
  show Steps p.tables e below (T15.setTop (mkF m 118 #[.val (.ref o1), .val (.int (1 : Int32))] [(.int (-1 : Int32)), (.int (1 : Int32)), (.ref o4)])) _
  refine st18 _ ?_
  refine XS.aloadN X18.here hx rfl (hb hby d6_119) rfl rfl ?_
  refine st19 _ ?_
  refine XS.iloadN X19.here hx rfl (hb hby d6_123) rfl ?_
  refine XS.iconst X19.here hx rfl (hb hby d6_124) ?_
  refine st22 _ ?_
  refine XS.iloadN X22.here hx rfl (hb hby d6_126) rfl ?_
  show Steps p.tables e below (T22.setTop (mkF m 127 #[.val (.ref o1), .val (.int (1 : Int32))] [(.int (1 : Int32))])) _
  exact retI X22 hx hret (hb hby d6_127) hr
theorem d13_12 : decode prog_20_method_4_code 12 = .ok (.istore_n 3, 1) := by decide +kernel
theorem d13_13 : decode prog_20_method_4_code 13 = .ok (.aload_n 0, 1) := by decide +kernel
theorem d13_14 : decode prog_20_method_4_code 14 = .ok (.getfield 13, 3) := by decide +kernel
theorem d13_17 : decode prog_20_method_4_code 17 = .ok (.iload_n 2, 1) := by decide +kernel
theorem d13_18 : decode prog_20_method_4_code 18 = .ok (.iaload, 1) := by decide +kernel
theorem d13_19 : decode prog_20_method_4_code 19 = .ok (.istore 4, 2) := by decide +kernel
theorem d13_21 : decode prog_20_method_4_code 21 = .ok (.aload_n 0, 1) := by decide +kernel
theorem d13_22 : decode prog_20_method_4_code 22 = .ok (.getfield 9, 3) := by decide +kernel
theorem d13_25 : decode prog_20_method_4_code 25 = .ok (.iload_n 3, 1) := by decide +kernel
theorem d13_26 : decode prog_20_method_4_code 26 = .ok (.iload_n 2, 1) := by decide +kernel
theorem d13_27 : decode prog_20_method_4_code 27 = .ok (.iastore, 1) := by decide +kernel
theorem d13_28 : decode prog_20_method_4_code 28 = .ok (.aload_n 0, 1) := by decide +kernel
theorem d13_29 : decode prog_20_method_4_code 29 = .ok (.getfield 13, 3) := by decide +kernel
theorem d13_32 : decode prog_20_method_4_code 32 = .ok (.iload_n 3, 1) := by decide +kernel
theorem d13_33 : decode prog_20_method_4_code 33 = .ok (.iload 4, 2) := by decide +kernel
theorem d13_35 : decode prog_20_method_4_code 35 = .ok (.iastore, 1) := by decide +kernel
theorem d13_36 : decode prog_20_method_4_code 36 = .ok (.iload 4, 2) := by decide +kernel
theorem d13_38 : decode prog_20_method_4_code 38 = .ok (.iconst (-1), 1) := by decide +kernel
theorem d13_39 : decode prog_20_method_4_code 39 = .ok (.if_icmp .ne 11, 3) := by decide +kernel
theorem d13_42 : decode prog_20_method_4_code 42 = .ok (.aload_n 0, 1) := by decide +kernel
theorem d13_43 : decode prog_20_method_4_code 43 = .ok (.iload_n 3, 1) := by decide +kernel
theorem d13_44 : decode prog_20_method_4_code 44 = .ok (.putfield 29, 3) := by decide +kernel
theorem d13_47 : decode prog_20_method_4_code 47 = .ok (.goto 11, 3) := by decide +kernel
theorem d13_58 : decode prog_20_method_4_code 58 = .ok (.aload_n 0, 1) := by decide +kernel
theorem d13_59 : decode prog_20_method_4_code 59 = .ok (.getfield 13, 3) := by decide +kernel
theorem d13_62 : decode prog_20_method_4_code 62 = .ok (.iload_n 2, 1) := by decide +kernel
theorem d13_63 : decode prog_20_method_4_code 63 = .ok (.iload_n 3, 1) := by decide +kernel
theorem d13_64 : decode prog_20_method_4_code 64 = .ok (.iastore, 1) := by decide +kernel
theorem d13_65 : decode prog_20_method_4_code 65 = .ok (.return_, 1) := by decide +kernel
theorem ef_7 (m : MethodId) (x0 : Value) (h0 : x0.category = 1) (x1 : Value) (h1 : x1.category = 1) : entryFrame m #[x0, x1] 5 = mkF m 0 #[.val x0, .val x1, .unset, .unset, .unset] [] := by first | (simp [entryFrame, mkF, argsToLocals, h0, h1]; done) | rfl
def Qd_8 (Z : State) (w : Nat → Addr) (kk : Nat → ClassId) (iw : Nat → Int32) (vw : Nat → Value) (o1 : Addr) (o2 : Addr) (o3 : Addr) (o4 : Addr) (o5 : Addr) (o6 : Addr) (kc_o2 : ClassId) (kc_o3 : ClassId) (kc_o4 : ClassId) (kc_o5 : ClassId) (o7 : Addr) (kc_o7 : ClassId) (h0 : Heap) (n0 : Nat) (v : Option Value) (h : Heap) (L : List Loc) : Prop := v = none ∧ Fr n0 L ∧ Keep h0 h [o5, o4, o3, o2, o1] ∧ Exa Z h o1 s_0 ∧ Fld Z h o1 s_0 "nextBlock" "[I" (.ref o2) ∧ Fld Z h o1 s_0 s_5 "[I" (.ref o3) ∧ Fld Z h o1 s_0 "firstPiece" "[I" (.ref o4) ∧ Fld Z h o1 s_0 "lastPiece" "[I" (.ref o5) ∧ Fld Z h o1 s_0 "closed" s_3 (.ref o6) ∧ Fld Z h o1 s_0 "firstBlock" "I" (.int (1 : Int32)) ∧ Fld Z h o1 s_0 "lastBlock" "I" (.int (0 : Int32)) ∧ Fld Z h o1 s_0 "blockCount" "I" (.int (2 : Int32)) ∧ Arv Z h o2 kc_o2 .int (64 : Int32) [(.int (-1 : Int32)), (.int (0 : Int32))] (.int (0 : Int32)) ∧ Arv Z h o3 kc_o3 .int (64 : Int32) [(.int (1 : Int32)), (.int (-1 : Int32))] (.int (0 : Int32)) ∧ Arv Z h o4 kc_o4 .int (64 : Int32) [(.int (-1 : Int32)), (.int (-1 : Int32))] (.int (0 : Int32)) ∧ Arv Z h o5 kc_o5 .int (64 : Int32) [(.int (-1 : Int32)), (.int (-1 : Int32))] (.int (0 : Int32))
set_option maxRecDepth 65536 in
set_option maxHeartbeats 40000000 in
theorem rm_24 (l : Launch) (Z : State) (a0 : Array Value) (hw : ∀ d ∈ tables_1, d.before a0 Z = true) (w : Nat → Addr) (kk : Nat → ClassId) (iw : Nat → Int32) (vw : Nat → Value) (hN : Wd Z w kk iw vw) (ws : List Jvm.Cond) (o1 : Addr) (o2 : Addr) (o3 : Addr) (o4 : Addr) (o5 : Addr) (o6 : Addr) (kc_o2 : ClassId) (kc_o3 : ClassId) (kc_o4 : ClassId) (kc_o5 : ClassId) (o7 : Addr) (kc_o7 : ClassId) (h0 : Heap) (O0 : Old Z Z.heap.size h0) (gn_o1 : Z.heap.size ≤ o1) (lt_o1 : o1 < h0.size) (E_o1 : Exa Z h0 o1 s_0) (gn_o2 : Z.heap.size ≤ o2) (lt_o2 : o2 < h0.size) (F_o1_nextBlock : Fld Z h0 o1 s_0 "nextBlock" "[I" (.ref o2)) (gn_o3 : Z.heap.size ≤ o3) (lt_o3 : o3 < h0.size) (F_o1_previousBlock : Fld Z h0 o1 s_0 s_5 "[I" (.ref o3)) (gn_o4 : Z.heap.size ≤ o4) (lt_o4 : o4 < h0.size) (F_o1_firstPiece : Fld Z h0 o1 s_0 "firstPiece" "[I" (.ref o4)) (gn_o5 : Z.heap.size ≤ o5) (lt_o5 : o5 < h0.size) (F_o1_lastPiece : Fld Z h0 o1 s_0 "lastPiece" "[I" (.ref o5)) (gn_o6 : Z.heap.size ≤ o6) (lt_o6 : o6 < h0.size) (F_o1_closed : Fld Z h0 o1 s_0 "closed" s_3 (.ref o6)) (F_o1_firstBlock : Fld Z h0 o1 s_0 "firstBlock" "I" (.int (0 : Int32))) (F_o1_lastBlock : Fld Z h0 o1 s_0 "lastBlock" "I" (.int (0 : Int32))) (F_o1_blockCount : Fld Z h0 o1 s_0 "blockCount" "I" (.int (1 : Int32))) (V_o2 : Arv Z h0 o2 kc_o2 .int (64 : Int32) [(.int (-1 : Int32))] (.int (0 : Int32))) (V_o3 : Arv Z h0 o3 kc_o3 .int (64 : Int32) [(.int (-1 : Int32))] (.int (0 : Int32))) (V_o4 : Arv Z h0 o4 kc_o4 .int (64 : Int32) [(.int (-1 : Int32))] (.int (0 : Int32))) (V_o5 : Arv Z h0 o5 kc_o5 .int (64 : Int32) [(.int (-1 : Int32))] (.int (0 : Int32))) (E_o6 : Exa Z h0 o6 s_1) (F_o6_wordsInUse : Fld Z h0 o6 s_1 "wordsInUse" "I" (.int (0 : Int32))) (F_o6_sizeIsSticky : Fld Z h0 o6 s_1 s_6 "Z" (.int (0 : Int32))) (gn_o7 : Z.heap.size ≤ o7) (lt_o7 : o7 < h0.size) (F_o6_words : Fld Z h0 o6 s_1 "words" "[J" (.ref o7)) (V_o7 : Arv Z h0 o7 kc_o7 .long (1 : Int32) [] (.long (0 : Int64))) (ne_o1_o2 : o1 ≠ o2) (ne_o1_o3 : o1 ≠ o3) (ne_o1_o4 : o1 ≠ o4) (ne_o1_o5 : o1 ≠ o5) (ne_o1_o6 : o1 ≠ o6) (ne_o1_o7 : o1 ≠ o7) (ne_o2_o3 : o2 ≠ o3) (ne_o2_o4 : o2 ≠ o4) (ne_o2_o5 : o2 ≠ o5) (ne_o2_o6 : o2 ≠ o6) (ne_o2_o7 : o2 ≠ o7) (ne_o3_o4 : o3 ≠ o4) (ne_o3_o5 : o3 ≠ o5) (ne_o3_o6 : o3 ≠ o6) (ne_o3_o7 : o3 ≠ o7) (ne_o4_o5 : o4 ≠ o5) (ne_o4_o6 : o4 ≠ o6) (ne_o4_o7 : o4 ≠ o7) (ne_o5_o6 : o5 ≠ o6) (ne_o5_o7 : o5 ≠ o7) (ne_o6_o7 : o6 ≠ o7) :
    MetW l Z (⟨s_0, "insertBlock", "(I)V"⟩ : MethodName) (Jvm.Cond.code (⟨s_0, "insertBlock", "(I)V"⟩ : MethodName) prog_20_method_4_code 5 none) ws (Rm 1 2 68 14) #[(.ref o1), (.int (0 : Int32))] h0 (Qd_8 Z w kk iw vw o1 o2 o3 o4 o5 o6 kc_o2 kc_o3 kc_o4 kc_o5 o7 kc_o7 h0 Z.heap.size) := by
  have hN' := hN
  have hL0 : Sta Z Z.heap s_1 s_4 "Z" (.int (1 : Int32)) := hN'
  refine own_bodyW (plainFor_of_name pn_1) hisR ?_
  intro p e s m below meth c s₁ hx hby hml hown hnm hret X0 hZ e0
  have N0 := Fr.nil Z.heap.size
  have K0 : Keep h0 h0 [o5, o4, o3, o2, o1] := Keep.refl _ _
  obtain ⟨b1, T1, h1, k1, X1, e1, E1, hS1, hk1, hZ1, hown1, st1⟩ := ldcS (s := s) (vm0 := s.vm) X0 hx hZ hown (W hw 75 rfl) (own_atoms hw) e0 (own_since s 0) (Nat.zero_le _) (g := (mkF m 2 #[.val (.ref o1), .val (.int (0 : Int32)), .unset, .unset, .unset] [(.int (0 : Int32)), (.ref o1)])) rfl (hb hby d13_2) (n := 64) (by decide) (by decide) (by decide) (by decide)
  have E_o1_v1 := E_o1.ext E1
  have F_o1_nextBlock_v1 := F_o1_nextBlock.ext E1
  have F_o1_previousBlock_v1 := F_o1_previousBlock.ext E1
  have F_o1_firstPiece_v1 := F_o1_firstPiece.ext E1
  have F_o1_lastPiece_v1 := F_o1_lastPiece.ext E1
  have F_o1_closed_v1 := F_o1_closed.ext E1
  have F_o1_firstBlock_v1 := F_o1_firstBlock.ext E1
  have F_o1_lastBlock_v1 := F_o1_lastBlock.ext E1
  have F_o1_blockCount_v1 := F_o1_blockCount.ext E1
  have V_o2_v1 := V_o2.ext E1
  have V_o3_v1 := V_o3.ext E1
  have V_o4_v1 := V_o4.ext E1
  have V_o5_v1 := V_o5.ext E1
  have E_o6_v1 := E_o6.ext E1
  have F_o6_wordsInUse_v1 := F_o6_wordsInUse.ext E1
  have F_o6_sizeIsSticky_v1 := F_o6_sizeIsSticky.ext E1
  have F_o6_words_v1 := F_o6_words.ext E1
  have V_o7_v1 := V_o7.ext E1
  have O1 := O0.ext E1
  have K1 := K0.ext E1
  obtain ⟨cq2, q2, q2'⟩ := E_o1_v1.cell
  obtain ⟨_, _, ⟨T2, L2, k2, n2⟩, -, X2, ⟨Lc2, hQ2, l2, y2, z2⟩, st2⟩ := X1.privateBack hx (y := (⟨s_0, "find", s_7⟩ : MethodName)) hown1 (mvT hZ1 (W hw 83 rfl)) (mvT hZ1 (W hw 84 rfl)) (own_selpriv (mvT hZ1 (W hw 1 rfl)) (Cond.privateMethod_at (mvP hZ1 (W hw 85 rfl) (args := #[]))) (mvT hZ1 (W hw 84 rfl)) (by decide)) (Cond.privateMethod_at (mvP hZ1 (W hw 85 rfl) (args := #[]))) (mvT hZ1 (W hw 86 rfl)) (by decide) (backOf (W := 0) (rm_22 l Z a0 hw w kk iw vw hN [] o1 b1 o2 o3 o4 o5 o6 kc_o2 kc_o3 kc_o4 kc_o5 o7 kc_o7 h1 O1 gn_o1 E_o1_v1.lt E_o1_v1 gn_o2 V_o2_v1.lt F_o1_nextBlock_v1 gn_o3 V_o3_v1.lt F_o1_previousBlock_v1 gn_o4 V_o4_v1.lt F_o1_firstPiece_v1 gn_o5 V_o5_v1.lt F_o1_lastPiece_v1 gn_o6 E_o6_v1.lt F_o1_closed_v1 F_o1_firstBlock_v1 F_o1_lastBlock_v1 F_o1_blockCount_v1 V_o2_v1 V_o3_v1 V_o4_v1 V_o5_v1 E_o6_v1 F_o6_wordsInUse_v1 F_o6_sizeIsSticky_v1 gn_o7 V_o7_v1.lt F_o6_words_v1 V_o7_v1 ne_o1_o2 ne_o1_o3 ne_o1_o4 ne_o1_o5 ne_o1_o6 ne_o1_o7 ne_o2_o3 ne_o2_o4 ne_o2_o5 ne_o2_o6 ne_o2_o7 ne_o3_o4 ne_o3_o5 ne_o3_o6 ne_o3_o7 ne_o4_o5 ne_o4_o6 ne_o4_o7 ne_o5_o6 ne_o5_o7 ne_o6_o7) hZ1 (W hw 86 rfl) (W hw 2 rfl) (by decide) (by decide)) (g := (mkF m 4 #[.val (.ref o1), .val (.int (0 : Int32)), .unset, .unset, .unset] [(.ref b1), (.int (0 : Int32)), (.ref o1)])) rfl (by rw [hml]; rfl) (Steps.refl _) (a := o1) (by rw [e1]; exact q2) q2' (argsL := [(.int (0 : Int32)), (.ref b1)]) (rest := []) (lenOf pd_5 rfl) rfl (by show 2 * 0 + _ ≤ _; exact Nat.le_of_eq rfl) (hb hby d13_4) (fun _ _ => ⟨rfl, e1, (by decide : 2 + 0 ≤ _), (by decide : 68 + 0 ≤ _)⟩)
  dsimp only [Pt.U, Pt.locs, Pt.cells, Pt.slots] at X2 l2 y2 z2 st2 hQ2
  subst l2 y2 z2
  obtain ⟨rfl, N2q, e2⟩ := hQ2
  have N2 := Fr.app N0 N2q
  obtain ⟨cq3, q3, q3'⟩ := E_o1_v1.cell
  obtain ⟨_, _, ⟨T3, L3, k3, n3⟩, -, X3, ⟨Lc3, hQ3, l3, y3, z3⟩, st3⟩ := X2.privateBack hx (y := (⟨s_0, "newBlock", "()I"⟩ : MethodName)) hown1 (mvT hZ1 (W hw 64 rfl)) (mvT hZ1 (W hw 65 rfl)) (own_selpriv (mvT hZ1 (W hw 1 rfl)) (Cond.privateMethod_at (mvP hZ1 (W hw 66 rfl) (args := #[]))) (mvT hZ1 (W hw 65 rfl)) (by decide)) (Cond.privateMethod_at (mvP hZ1 (W hw 66 rfl) (args := #[]))) (mvT hZ1 (W hw 67 rfl)) (by decide) (backOf (W := 0) (rm_23 l Z a0 hw w kk iw vw hN [] o1 o2 o3 o4 o5 o6 kc_o2 kc_o3 kc_o4 kc_o5 o7 kc_o7 h1 O1 gn_o1 E_o1_v1.lt E_o1_v1 gn_o2 V_o2_v1.lt F_o1_nextBlock_v1 gn_o3 V_o3_v1.lt F_o1_previousBlock_v1 gn_o4 V_o4_v1.lt F_o1_firstPiece_v1 gn_o5 V_o5_v1.lt F_o1_lastPiece_v1 gn_o6 E_o6_v1.lt F_o1_closed_v1 F_o1_firstBlock_v1 F_o1_lastBlock_v1 F_o1_blockCount_v1 V_o2_v1 V_o3_v1 V_o4_v1 V_o5_v1 E_o6_v1 F_o6_wordsInUse_v1 F_o6_sizeIsSticky_v1 gn_o7 V_o7_v1.lt F_o6_words_v1 V_o7_v1 ne_o1_o2 ne_o1_o3 ne_o1_o4 ne_o1_o5 ne_o1_o6 ne_o1_o7 ne_o2_o3 ne_o2_o4 ne_o2_o5 ne_o2_o6 ne_o2_o7 ne_o3_o4 ne_o3_o5 ne_o3_o6 ne_o3_o7 ne_o4_o5 ne_o4_o6 ne_o4_o7 ne_o5_o6 ne_o5_o7 ne_o6_o7) hZ1 (W hw 67 rfl) (W hw 2 rfl) (by decide) (by decide)) (g := (mkF m 9 #[.val (.ref o1), .val (.int (0 : Int32)), .val (.int (0 : Int32)), .unset, .unset] [(.ref o1)])) rfl (by rw [hml]; rfl) (Steps.refl _) (a := o1) (by rw [e2]; exact q3) q3' (argsL := []) (rest := []) (lenOf pd_4 rfl) rfl (by show 2 * 0 + _ ≤ _; exact Nat.le_of_eq rfl) (hb hby d13_9) (fun _ _ => ⟨rfl, e2, (by decide : 2 + 0 ≤ _), (by decide : 68 + 0 ≤ _)⟩)
  dsimp only [Pt.U, Pt.locs, Pt.cells, Pt.slots] at X3 l3 y3 z3 st3 hQ3
  subst l3 y3 z3
  obtain ⟨rfl, N3q, Kq3, tk3_0, tk3_1, tk3_2, tk3_3, tk3_4, tk3_5, tk3_6, tk3_7, tk3_8, tk3_9, tk3_10, tk3_11, tk3_12⟩ := hQ3
  have N3 := Fr.app N2 N3q
  have E_o1_v3 := E_o1_v1.keep Kq3
  have E_o6_v3 := E_o6_v1.keep Kq3
  have F_o6_wordsInUse_v3 := F_o6_wordsInUse_v1.keep Kq3 (ninS (Ne.symm ne_o1_o6) (ninS (Ne.symm ne_o2_o6) (ninS (Ne.symm ne_o3_o6) (ninS (Ne.symm ne_o4_o6) (ninS (Ne.symm ne_o5_o6) nin0)))))
  have F_o6_sizeIsSticky_v3 := F_o6_sizeIsSticky_v1.keep Kq3 (ninS (Ne.symm ne_o1_o6) (ninS (Ne.symm ne_o2_o6) (ninS (Ne.symm ne_o3_o6) (ninS (Ne.symm ne_o4_o6) (ninS (Ne.symm ne_o5_o6) nin0)))))
  have F_o6_words_v3 := F_o6_words_v1.keep Kq3 (ninS (Ne.symm ne_o1_o6) (ninS (Ne.symm ne_o2_o6) (ninS (Ne.symm ne_o3_o6) (ninS (Ne.symm ne_o4_o6) (ninS (Ne.symm ne_o5_o6) nin0)))))
  have V_o7_v3 := V_o7_v1.keep Kq3 (ninS (Ne.symm ne_o1_o7) (ninS (Ne.symm ne_o2_o7) (ninS (Ne.symm ne_o3_o7) (ninS (Ne.symm ne_o4_o7) (ninS (Ne.symm ne_o5_o7) nin0)))))
  have hk3 := Nat.le_trans hk1 Kq3.1
  have O3 := O1.keep Kq3 (allS gn_o1 (allS gn_o2 (allS gn_o3 (allS gn_o4 (allS gn_o5 all0)))))
  have K3 : Keep h0 T3.heap [o5, o4, o3, o2, o1] := K1.trans Kq3 (allS (Or.inl (List.mem_of_getElem? (i := 4) rfl)) (allS (Or.inl (List.mem_of_getElem? (i := 3) rfl)) (allS (Or.inl (List.mem_of_getElem? (i := 2) rfl)) (allS (Or.inl (List.mem_of_getElem? (i := 1) rfl)) (allS (Or.inl (List.mem_of_getElem? (i := 0) rfl)) all0)))))
  obtain ⟨T4, X4, e4, st4⟩ := getF X3 hx hZ1 hown1 (host := "") (Or.inl (W hw 12 rfl)) Via.refl rfl tk3_2 (g := (mkF m 14 #[.val (.ref o1), .val (.int (0 : Int32)), .val (.int (0 : Int32)), .val (.int (1 : Int32)), .unset] [(.ref o1)])) rfl rfl (hb hby d13_14)
  obtain ⟨cl5, Ar5, q5, Sz5, Ng5, Hv5, Gv5⟩ := id tk3_10
  have hin5 : ¬ ((0 : Int32) < 0 ∨ cl5.slots.size ≤ ((0 : Int32)).toNatClampNeg) := inb_of Sz5 ⟨by decide, by decide⟩
  have hat5 : cl5.slots[((0 : Int32)).toNatClampNeg]? = some (.int (-1 : Int32)) := Has.at Hv5 hin5 (by rfl)
  obtain ⟨T6, X6, e6, st6⟩ := getF X4 hx hZ1 hown1 (host := "") (Or.inl (W hw 10 rfl)) Via.refl e4 tk3_1 (g := (mkF m 22 #[.val (.ref o1), .val (.int (0 : Int32)), .val (.int (0 : Int32)), .val (.int (1 : Int32)), .val (.int (-1 : Int32))] [(.ref o1)])) rfl rfl (hb hby d13_22)
  obtain ⟨cl7, Ar7, q7, Sz7, Ng7, Hv7, Gv7⟩ := tk3_9
  have hin7 : ¬ ((1 : Int32) < 0 ∨ cl7.slots.size ≤ ((1 : Int32)).toNatClampNeg) := inb_of Sz7 ⟨by decide, by decide⟩
  obtain ⟨T8, h8, X8, e8, W8, st8⟩ := stI X6 hx hZ1 e6 Ar7 (j := (1 : Int32)) hin7 (g := (mkF m 27 #[.val (.ref o1), .val (.int (0 : Int32)), .val (.int (0 : Int32)), .val (.int (1 : Int32)), .val (.int (-1 : Int32))] [(.int (0 : Int32)), (.int (1 : Int32)), (.ref o2)])) rfl rfl (hb hby d13_27)
  have V_o2_v8 : Arv Z h8 o2 kc_o2 .int (64 : Int32) [(.int (-1 : Int32)), (.int (0 : Int32))] (.int (0 : Int32)) := Arv.set Ar7 q7 Sz7 Ng7 Hv7 Gv7 rfl W8 1 rfl (Nat.le_of_ble_eq_true rfl)
  have N8 := Fr.snoc X8 N3 gn_o2
  have tk3_0_v8 := tk3_0.wr W8
  have E_o6_v8 := E_o6_v3.wr W8
  have F_o6_wordsInUse_v8 := F_o6_wordsInUse_v3.other W8 (Or.inl (Ne.symm ne_o2_o6))
  have F_o6_sizeIsSticky_v8 := F_o6_sizeIsSticky_v3.other W8 (Or.inl (Ne.symm ne_o2_o6))
  have F_o6_words_v8 := F_o6_words_v3.other W8 (Or.inl (Ne.symm ne_o2_o6))
  have V_o7_v8 := V_o7_v3.other W8 (Ne.symm ne_o2_o7)
  have tk3_1_v8 := tk3_1.other W8 (Or.inl ne_o1_o2)
  have tk3_2_v8 := tk3_2.other W8 (Or.inl ne_o1_o2)
  have tk3_3_v8 := tk3_3.other W8 (Or.inl ne_o1_o2)
  have tk3_4_v8 := tk3_4.other W8 (Or.inl ne_o1_o2)
  have tk3_5_v8 := tk3_5.other W8 (Or.inl ne_o1_o2)
  have tk3_6_v8 := tk3_6.other W8 (Or.inl ne_o1_o2)
  have tk3_7_v8 := tk3_7.other W8 (Or.inl ne_o1_o2)
  have tk3_8_v8 := tk3_8.other W8 (Or.inl ne_o1_o2)
  have tk3_10_v8 := tk3_10.other W8 (Ne.symm ne_o2_o3)
  have tk3_11_v8 := tk3_11.other W8 (Ne.symm ne_o2_o4)
  have tk3_12_v8 := tk3_12.other W8 (Ne.symm ne_o2_o5)
  have O8 := O3.wr W8 gn_o2
  have K8 : Keep h0 h8 [o5, o4, o3, o2, o1] := K3.wr W8 (Or.inl (List.mem_of_getElem? (i := 3) rfl))
  have hk8 := Nat.le_trans hk3 (Keep.of_wr W8).1
  obtain ⟨T9, X9, e9, st9⟩ := getF X8 hx hZ1 hown1 (host := "") (Or.inl (W hw 12 rfl)) Via.refl e8 tk3_2_v8 (g := (mkF m 29 #[.val (.ref o1), .val (.int (0 : Int32)), .val (.int (0 : Int32)), .val (.int (1 : Int32)), .val (.int (-1 : Int32))] [(.ref o1)])) rfl rfl (hb hby d13_29)
  obtain ⟨cl10, Ar10, q10, Sz10, Ng10, Hv10, Gv10⟩ := tk3_10_v8
  have hin10 : ¬ ((1 : Int32) < 0 ∨ cl10.slots.size ≤ ((1 : Int32)).toNatClampNeg) := inb_of Sz10 ⟨by decide, by decide⟩
  obtain ⟨T11, h11, X11, e11, W11, st11⟩ := stI X9 hx hZ1 e9 Ar10 (j := (1 : Int32)) hin10 (g := (mkF m 35 #[.val (.ref o1), .val (.int (0 : Int32)), .val (.int (0 : Int32)), .val (.int (1 : Int32)), .val (.int (-1 : Int32))] [(.int (-1 : Int32)), (.int (1 : Int32)), (.ref o3)])) rfl rfl (hb hby d13_35)
  have V_o3_v11 : Arv Z h11 o3 kc_o3 .int (64 : Int32) [(.int (-1 : Int32)), (.int (-1 : Int32))] (.int (0 : Int32)) := Arv.set Ar10 q10 Sz10 Ng10 Hv10 Gv10 rfl W11 1 rfl (Nat.le_of_ble_eq_true rfl)
  have N11 := Fr.snoc X11 N8 gn_o3
  have tk3_0_v11 := tk3_0_v8.wr W11
  have E_o6_v11 := E_o6_v8.wr W11
  have F_o6_wordsInUse_v11 := F_o6_wordsInUse_v8.other W11 (Or.inl (Ne.symm ne_o3_o6))
  have F_o6_sizeIsSticky_v11 := F_o6_sizeIsSticky_v8.other W11 (Or.inl (Ne.symm ne_o3_o6))
  have F_o6_words_v11 := F_o6_words_v8.other W11 (Or.inl (Ne.symm ne_o3_o6))
  have V_o7_v11 := V_o7_v8.other W11 (Ne.symm ne_o3_o7)
  have tk3_1_v11 := tk3_1_v8.other W11 (Or.inl ne_o1_o3)
  have tk3_2_v11 := tk3_2_v8.other W11 (Or.inl ne_o1_o3)
  have tk3_3_v11 := tk3_3_v8.other W11 (Or.inl ne_o1_o3)
  have tk3_4_v11 := tk3_4_v8.other W11 (Or.inl ne_o1_o3)
  have tk3_5_v11 := tk3_5_v8.other W11 (Or.inl ne_o1_o3)
  have tk3_6_v11 := tk3_6_v8.other W11 (Or.inl ne_o1_o3)
  have tk3_7_v11 := tk3_7_v8.other W11 (Or.inl ne_o1_o3)
  have tk3_8_v11 := tk3_8_v8.other W11 (Or.inl ne_o1_o3)
  have V_o2_v11 := V_o2_v8.other W11 ne_o2_o3
  have tk3_11_v11 := tk3_11_v8.other W11 (Ne.symm ne_o3_o4)
  have tk3_12_v11 := tk3_12_v8.other W11 (Ne.symm ne_o3_o5)
  have O11 := O8.wr W11 gn_o3
  have K11 : Keep h0 h11 [o5, o4, o3, o2, o1] := K8.wr W11 (Or.inl (List.mem_of_getElem? (i := 2) rfl))
  have hk11 := Nat.le_trans hk8 (Keep.of_wr W11).1
  obtain ⟨T12, h12, X12, e12, W12, st12⟩ := putF X11 hx hZ1 hown1 (host := "") (Or.inl (W hw 42 rfl)) Via.refl e11 tk3_6_v11 tk3_0_v11 (Or.inl (W hw 43 rfl)) (W hw 1 rfl) (ty := .int) (by decide) rfl rfl (g := (mkF m 44 #[.val (.ref o1), .val (.int (0 : Int32)), .val (.int (0 : Int32)), .val (.int (1 : Int32)), .val (.int (-1 : Int32))] [(.int (1 : Int32)), (.ref o1)])) rfl rfl (hb hby d13_44)
  have tk3_6_v12 := tk3_6_v11.same W12
  have N12 := Fr.snoc X12 N11 gn_o1
  have tk3_0_v12 := tk3_0_v11.wr W12
  have E_o6_v12 := E_o6_v11.wr W12
  have F_o6_wordsInUse_v12 := F_o6_wordsInUse_v11.other W12 (Or.inl (Ne.symm ne_o1_o6))
  have F_o6_sizeIsSticky_v12 := F_o6_sizeIsSticky_v11.other W12 (Or.inl (Ne.symm ne_o1_o6))
  have F_o6_words_v12 := F_o6_words_v11.other W12 (Or.inl (Ne.symm ne_o1_o6))
  have V_o7_v12 := V_o7_v11.other W12 (Ne.symm ne_o1_o7)
  have tk3_1_v12 := tk3_1_v11.other W12 (Or.inr (sn_56 hw))
  have tk3_2_v12 := tk3_2_v11.other W12 (Or.inr (sn_57 hw))
  have tk3_3_v12 := tk3_3_v11.other W12 (Or.inr (sn_58 hw))
  have tk3_4_v12 := tk3_4_v11.other W12 (Or.inr (sn_59 hw))
  have tk3_5_v12 := tk3_5_v11.other W12 (Or.inr (sn_60 hw))
  have tk3_7_v12 := tk3_7_v11.other W12 (Or.inr (sn_61 hw))
  have tk3_8_v12 := tk3_8_v11.other W12 (Or.inr (sn_65 hw))
  have V_o2_v12 := V_o2_v11.other W12 (Ne.symm ne_o1_o2)
  have V_o3_v12 := V_o3_v11.other W12 (Ne.symm ne_o1_o3)
  have tk3_11_v12 := tk3_11_v11.other W12 (Ne.symm ne_o1_o4)
  have tk3_12_v12 := tk3_12_v11.other W12 (Ne.symm ne_o1_o5)
  have O12 := O11.wr W12 gn_o1
  have K12 : Keep h0 h12 [o5, o4, o3, o2, o1] := K11.wr W12 (Or.inl (List.mem_of_getElem? (i := 4) rfl))
  have hk12 := Nat.le_trans hk11 (Keep.of_wr W12).1
  obtain ⟨T13, X13, e13, st13⟩ := getF X12 hx hZ1 hown1 (host := "") (Or.inl (W hw 12 rfl)) Via.refl e12 tk3_2_v12 (g := (mkF m 59 #[.val (.ref o1), .val (.int (0 : Int32)), .val (.int (0 : Int32)), .val (.int (1 : Int32)), .val (.int (-1 : Int32))] [(.ref o1)])) rfl rfl (hb hby d13_59)
  obtain ⟨cl14, Ar14, q14, Sz14, Ng14, Hv14, Gv14⟩ := V_o3_v12
  have hin14 : ¬ ((0 : Int32) < 0 ∨ cl14.slots.size ≤ ((0 : Int32)).toNatClampNeg) := inb_of Sz14 ⟨by decide, by decide⟩
  obtain ⟨T15, h15, X15, e15, W15, st15⟩ := stI X13 hx hZ1 e13 Ar14 (j := (0 : Int32)) hin14 (g := (mkF m 64 #[.val (.ref o1), .val (.int (0 : Int32)), .val (.int (0 : Int32)), .val (.int (1 : Int32)), .val (.int (-1 : Int32))] [(.int (1 : Int32)), (.int (0 : Int32)), (.ref o3)])) rfl rfl (hb hby d13_64)
  have V_o3_v15 : Arv Z h15 o3 kc_o3 .int (64 : Int32) [(.int (1 : Int32)), (.int (-1 : Int32))] (.int (0 : Int32)) := Arv.set Ar14 q14 Sz14 Ng14 Hv14 Gv14 rfl W15 0 rfl (Nat.le_of_ble_eq_true rfl)
  have N15 := Fr.snoc X15 N12 gn_o3
  have tk3_0_v15 := tk3_0_v12.wr W15
  have E_o6_v15 := E_o6_v12.wr W15
  have F_o6_wordsInUse_v15 := F_o6_wordsInUse_v12.other W15 (Or.inl (Ne.symm ne_o3_o6))
  have F_o6_sizeIsSticky_v15 := F_o6_sizeIsSticky_v12.other W15 (Or.inl (Ne.symm ne_o3_o6))
  have F_o6_words_v15 := F_o6_words_v12.other W15 (Or.inl (Ne.symm ne_o3_o6))
  have V_o7_v15 := V_o7_v12.other W15 (Ne.symm ne_o3_o7)
  have tk3_1_v15 := tk3_1_v12.other W15 (Or.inl ne_o1_o3)
  have tk3_2_v15 := tk3_2_v12.other W15 (Or.inl ne_o1_o3)
  have tk3_3_v15 := tk3_3_v12.other W15 (Or.inl ne_o1_o3)
  have tk3_4_v15 := tk3_4_v12.other W15 (Or.inl ne_o1_o3)
  have tk3_5_v15 := tk3_5_v12.other W15 (Or.inl ne_o1_o3)
  have tk3_6_v15 := tk3_6_v12.other W15 (Or.inl ne_o1_o3)
  have tk3_7_v15 := tk3_7_v12.other W15 (Or.inl ne_o1_o3)
  have tk3_8_v15 := tk3_8_v12.other W15 (Or.inl ne_o1_o3)
  have V_o2_v15 := V_o2_v12.other W15 ne_o2_o3
  have tk3_11_v15 := tk3_11_v12.other W15 (Ne.symm ne_o3_o4)
  have tk3_12_v15 := tk3_12_v12.other W15 (Ne.symm ne_o3_o5)
  have O15 := O12.wr W15 gn_o3
  have K15 : Keep h0 h15 [o5, o4, o3, o2, o1] := K12.wr W15 (Or.inl (List.mem_of_getElem? (i := 2) rfl))
  have hk15 := Nat.le_trans hk12 (Keep.of_wr W15).1
  refine ⟨T15, _, none, _, _, _, _, by decide, by decide, X15, hS1, (by rw [e15]; exact hk15), (fun _ => rfl), (by rw [e15]; exact ⟨rfl, N15, K15, tk3_0_v15, tk3_1_v15, tk3_2_v15, tk3_3_v15, tk3_4_v15, tk3_5_v15, tk3_6_v15, tk3_7_v15, tk3_8_v15, V_o2_v15, V_o3_v15, tk3_11_v15, tk3_12_v15⟩), fun fs hr => castTop (ef_7 m (.ref o1) rfl (.int (0 : Int32)) rfl) ?_⟩
  show Steps p.tables e below (s₁.setTop (mkF m 0 #[.val (.ref o1), .val (.int (0 : Int32)), .unset, .unset, .unset] [])) _
  refine XS.aloadN X0.here hx rfl (hb hby d13_0) rfl rfl ?_
  refine XS.iloadN X0.here hx rfl (hb hby d13_1) rfl ?_
  refine st1 _ ?_
  refine st2.trans ?_
  refine XS.istoreN X2.here hx rfl (hb hby d13_7) rfl (l' := #[.val (.ref o1), .val (.int (0 : Int32)), .val (.int (0 : Int32)), .unset, .unset]) rfl ?_
  refine XS.aloadN X2.here hx rfl (hb hby d13_8) rfl rfl ?_
  refine st3.trans ?_
  refine XS.istoreN X3.here hx rfl (hb hby d13_12) rfl (l' := #[.val (.ref o1), .val (.int (0 : Int32)), .val (.int (0 : Int32)), .val (.int (1 : Int32)), .unset]) rfl ?_
  show Steps p.tables e below (T3.setTop (mkF m 13 #[.val (.ref o1), .val (.int (0 : Int32)), .val (.int (0 : Int32)), .val (.int (1 : Int32)), .unset] [])) _
  refine XS.aloadN X3.here hx rfl (hb hby d13_13) rfl rfl ?_
  refine st4 _ ?_
  refine XS.iloadN X4.here hx rfl (hb hby d13_17) rfl ?_
  refine X4.iaload hx (j := (0 : Int32)) (v := (.int (-1 : Int32))) (by rw [e4]; exact Ar5.1) (State.isArrayOf_alike hZ1.alike Ar5.2.1) Ar5.2.2 hin5 hat5 (g := (mkF m 18 #[.val (.ref o1), .val (.int (0 : Int32)), .val (.int (0 : Int32)), .val (.int (1 : Int32)), .unset] [(.int (0 : Int32)), (.ref o3)])) rfl rfl (hb hby d13_18) _ ?_
  refine XS.istore X4.here hx rfl (hb hby d13_19) rfl (l' := #[.val (.ref o1), .val (.int (0 : Int32)), .val (.int (0 : Int32)), .val (.int (1 : Int32)), .val (.int (-1 : Int32))]) rfl ?_
  refine XS.aloadN X4.here hx rfl (hb hby d13_21) rfl rfl ?_
  refine st6 _ ?_
  refine XS.iloadN X6.here hx rfl (hb hby d13_25) rfl ?_
  show Steps p.tables e below (T6.setTop (mkF m 26 #[.val (.ref o1), .val (.int (0 : Int32)), .val (.int (0 : Int32)), .val (.int (1 : Int32)), .val (.int (-1 : Int32))] [(.int (1 : Int32)), (.ref o2)])) _
  refine XS.iloadN X6.here hx rfl (hb hby d13_26) rfl ?_
  refine st8 _ ?_
  refine XS.aloadN X8.here hx rfl (hb hby d13_28) rfl rfl ?_
  refine st9 _ ?_
  refine XS.iloadN X9.here hx rfl (hb hby d13_32) rfl ?_
  refine XS.iload X9.here hx rfl (hb hby d13_33) rfl ?_
  refine st11 _ ?_
  refine XS.iload X11.here hx rfl (hb hby d13_36) rfl ?_
  show Steps p.tables e below (T11.setTop (mkF m 38 #[.val (.ref o1), .val (.int (0 : Int32)), .val (.int (0 : Int32)), .val (.int (1 : Int32)), .val (.int (-1 : Int32))] [(.int (-1 : Int32))])) _
  refine XS.iconst X11.here hx rfl (hb hby d13_38) ?_
  refine XS.icmpNo X11.here hx rfl (hb hby d13_39) rfl (teq (by decide : (-1 : Int32) = (-1 : Int32))).2 ?_
  refine XS.aloadN X11.here hx rfl (hb hby d13_42) rfl rfl ?_
  refine XS.iloadN X11.here hx rfl (hb hby d13_43) rfl ?_
  refine st12 _ ?_
  refine XS.goto X12.here hx rfl (pc0 := 47) (pc' := 58) rfl (hb hby d13_47) (by decide) (by decide) ?_
  refine XS.aloadN X12.here hx rfl (hb hby d13_58) rfl rfl ?_
  refine st13 _ ?_
  show Steps p.tables e below (T13.setTop (mkF m 62 #[.val (.ref o1), .val (.int (0 : Int32)), .val (.int (0 : Int32)), .val (.int (1 : Int32)), .val (.int (-1 : Int32))] [(.ref o3)])) _
  refine XS.iloadN X13.here hx rfl (hb hby d13_62) rfl ?_
  refine XS.iloadN X13.here hx rfl (hb hby d13_63) rfl ?_
  refine st15 _ ?_
  show Steps p.tables e below (T15.setTop (mkF m 65 #[.val (.ref o1), .val (.int (0 : Int32)), .val (.int (0 : Int32)), .val (.int (1 : Int32)), .val (.int (-1 : Int32))] [])) _
  exact X15.returnOut hx hret (hb hby d13_65) hr
set_option maxRecDepth 65536 in
set_option maxHeartbeats 40000000 in
theorem rm_25 (l : Launch) (Z : State) (a0 : Array Value) (hw : ∀ d ∈ tables_1, d.before a0 Z = true) (w : Nat → Addr) (kk : Nat → ClassId) (iw : Nat → Int32) (vw : Nat → Value) (hN : Wd Z w kk iw vw) (ws : List Jvm.Cond) (o1 : Addr) (o2 : Addr) (o3 : Addr) (kc_o3 : ClassId) (h0 : Heap) (O0 : Old Z Z.heap.size h0) (gn_o1 : Z.heap.size ≤ o1) (lt_o1 : o1 < h0.size) (E_o1 : Exa Z h0 o1 s_0) (gn_o2 : Z.heap.size ≤ o2) (lt_o2 : o2 < h0.size) (F_o1_closed : Fld Z h0 o1 s_0 "closed" s_3 (.ref o2)) (F_o1_blockCount : Fld Z h0 o1 s_0 "blockCount" "I" (.int (2 : Int32))) (E_o2 : Exa Z h0 o2 s_1) (F_o2_wordsInUse : Fld Z h0 o2 s_1 "wordsInUse" "I" (.int (0 : Int32))) (F_o2_sizeIsSticky : Fld Z h0 o2 s_1 s_6 "Z" (.int (0 : Int32))) (gn_o3 : Z.heap.size ≤ o3) (lt_o3 : o3 < h0.size) (F_o2_words : Fld Z h0 o2 s_1 "words" "[J" (.ref o3)) (V_o3 : Arv Z h0 o3 kc_o3 .long (1 : Int32) [] (.long (0 : Int64))) (ne_o1_o2 : o1 ≠ o2) (ne_o1_o3 : o1 ≠ o3) (ne_o2_o3 : o2 ≠ o3) :
    Met l Z (⟨s_0, "hasBlocks", "()Z"⟩ : MethodName) (Jvm.Cond.code (⟨s_0, "hasBlocks", "()Z"⟩ : MethodName) prog_20_method_2_code 1 (some .boolean)) ws (Rm 0 0 0 0) #[(.ref o1)] h0 (OQ (some (.int (1 : Int32))) h0 Z.heap.size) := by
  have hN' := hN
  have hL0 : Sta Z Z.heap s_1 s_4 "Z" (.int (1 : Int32)) := hN'
  refine own_body (plainFor_of_name pn_1) hisR ?_
  intro p e s m below meth c s₁ hx hby hml hown hnm hret X0 hZ e0
  have N0 := Fr.nil Z.heap.size
  obtain ⟨T1, X1, e1, st1⟩ := getF X0 hx hZ hown (host := "") (Or.inl (W hw 57 rfl)) Via.refl e0 F_o1_blockCount (g := (mkF m 1 #[.val (.ref o1)] [(.ref o1)])) rfl rfl (hb hby d4_1)
  refine ⟨T1, some (.int (1 : Int32)), _, _, _, by decide, by decide, X1, nofun, (by rw [e1]; exact ⟨rfl, N0, rfl⟩), fun fs hr => castTop (ef_2 m (.ref o1) rfl) ?_⟩
  show Steps p.tables e below (s₁.setTop (mkF m 0 #[.val (.ref o1)] [])) _
  refine XS.aloadN X0.here hx rfl (hb hby d4_0) rfl rfl ?_
  refine st1 _ ?_
  refine XS.ifNo X1.here hx rfl (hb hby d4_4) rfl ((if0 _ _).trans (tlt (by decide : (0 : Int32) < (2 : Int32))).2.2.2) ?_
  refine XS.iconst X1.here hx rfl (hb hby d4_7) ?_
  refine XS.goto X1.here hx rfl (pc0 := 8) (pc' := 12) rfl (hb hby d4_8) (by decide) (by decide) ?_
  show Steps p.tables e below (T1.setTop (mkF m 12 #[.val (.ref o1)] [(.int (1 : Int32))])) _
  exact retN X1 hx (t := .boolean) hret (by simp) (hb hby d4_12) hr
set_option maxRecDepth 65536 in
set_option maxHeartbeats 40000000 in
theorem law_26 (l : Launch) (Z : State) (a0 : Array Value) (hw : ∀ d ∈ tables_1, d.before a0 Z = true) (w : Nat → Addr) (kk : Nat → ClassId) (iw : Nat → Int32) (vw : Nat → Value) (hN : Wd Z w kk iw vw) (ws : List Jvm.Cond) (p0 : Int32) (p1 : Int32) (p2 : Int32) (p3 : Int32) (h0 : Heap) (O0 : Old Z Z.heap.size h0) (hp0 : (p0 &&& (3 : Int32)) = (1 : Int32)) (hp1 : (p1 &&& (1 : Int32)) = (1 : Int32)) (hp2 : ((p2 &&& (2147483647 : Int32)) % (1 : Int32)) = (0 : Int32)) (hp3 : (p3 &&& (1 : Int32)) = (0 : Int32)) :
    MetFree l x (head1 (Jvm.Cond.code x code maxLocals ret :: ws) room_1) (fun a U => a = #[(.int p0), (.int p1), (.int p2), (.int p3)] ∧ Z.Warmed39 U.vm ∧ U.heap = h0) (fun _ _ _ _ _ => True) (fun _ U o U' => ∃ v L, o = .returned v ∧ OL (some (.int (1 : Int32))) Z.heap.size v U'.heap L ∧ ReturnedEndW U o U' L 32 3072) := by
  have hN' := hN
  have hL0 : Sta Z Z.heap s_1 s_4 "Z" (.int (1 : Int32)) := hN'
  refine MetFree.of_bodySF (plainFor_of_name pn_2) hisR ?_
  intro p e s m args below meth c s₁ Bd hml0 hP hK
  obtain ⟨rfl, hZ, hh⟩ := hP
  have hx := Bd.exec
  have hby := Bd.bytes
  have hml : c.maxLocals = 7 := hml0
  have hown : s.vm.findClass s_2 = some m.cls := findClass_of_methodNamed Bd.named
  have hnm := (name_of_methodNamed Bd.named Bd.method).1
  have X0 : Stand p l e room_1 s m #[(.int p0), (.int p1), (.int p2), (.int p3)] below meth c s₁ [] 0 0 := Stand.of_body Bd
  have e0 : s₁.heap = h0 := by rw [← hh, Bd.state]; rfl
  have N0 := Fr.nil Z.heap.size
  obtain ⟨T1, L1, b1_0, b1_1, b1_2, b1_3, b1_4, b1_5, b1_6, kb1_0, kb1_1, kb1_2, kb1_3, kb1_4, X1, st1, N1, Kq1, tk1_0, tk1_1, tk1_2, tk1_3, tk1_4, tk1_5, tk1_6, tk1_7, tk1_8, tk1_9, tk1_10, tk1_11, tk1_12, tk1_13, tk1_14, tk1_15, tk1_16, tk1_17, tk1_18, tk1_19, tk1_20, tk1_21, tk1_22, tk1_23, tk1_24, tk1_25, tk1_26, tk1_27, tk1_28, tk1_29, tk1_30, tk1_31, tk1_32, tk1_33, tk1_34, tk1_35, tk1_36, tk1_37, tk1_38, tk1_39, tk1_40, tk1_41, tk1_42, tk1_43, tk1_44, tk1_45⟩ := sg_11 w kk iw vw hN p0 p1 p2 p3 X0 hx hZ hw hby hml hown e0 O0 N0
  have gn_b1_0 : Z.heap.size ≤ b1_0 := Nat.le_trans O0.2.1 tk1_0
  have gn_b1_1 : Z.heap.size ≤ b1_1 := Nat.le_trans O0.2.1 tk1_1
  have gn_b1_2 : Z.heap.size ≤ b1_2 := Nat.le_trans O0.2.1 tk1_2
  have gn_b1_3 : Z.heap.size ≤ b1_3 := Nat.le_trans O0.2.1 tk1_3
  have gn_b1_4 : Z.heap.size ≤ b1_4 := Nat.le_trans O0.2.1 tk1_4
  have gn_b1_5 : Z.heap.size ≤ b1_5 := Nat.le_trans O0.2.1 tk1_5
  have gn_b1_6 : Z.heap.size ≤ b1_6 := Nat.le_trans O0.2.1 tk1_6
  have O1 := O0.keep Kq1 all0
  obtain ⟨cq2, kq2, q2a, q2b, q2c⟩ := isOf hZ rfl tk1_28
  obtain ⟨_, _, ⟨T2, L2, k2, n2⟩, -, X2, hSq2, hgr2, ⟨Lc2, hQ2, l2, y2, z2⟩, st2⟩ := X1.virtualBackS hx (y := (⟨s_0, "insertBlock", "(I)V"⟩ : MethodName)) (z := (⟨s_0, "insertBlock", "(I)V"⟩ : MethodName)) hown (mvT hZ (W hw 70 rfl)) (mvT hZ (W hw 71 rfl)) (notFace_of_selects (args := #[]) (mvT hZ (W hw 73 rfl))) (mvT hZ (W hw 73 rfl)) (mvT hZ (W hw 72 rfl)) (by decide) (backOfS (W := 0) (rm_24 l Z a0 hw w kk iw vw hN [] b1_0 b1_1 b1_2 b1_3 b1_4 b1_5 kb1_0 kb1_1 kb1_2 kb1_3 b1_6 kb1_4 T1.heap O1 gn_b1_0 tk1_28.lt tk1_28 gn_b1_1 tk1_37.lt tk1_29 gn_b1_2 tk1_38.lt tk1_30 gn_b1_3 tk1_39.lt tk1_31 gn_b1_4 tk1_40.lt tk1_32 gn_b1_5 tk1_41.lt tk1_33 tk1_34 tk1_35 tk1_36 tk1_37 tk1_38 tk1_39 tk1_40 tk1_41 tk1_42 tk1_43 gn_b1_6 tk1_45.lt tk1_44 tk1_45 tk1_7 tk1_8 tk1_9 tk1_10 tk1_11 tk1_12 tk1_13 tk1_14 tk1_15 tk1_16 tk1_17 tk1_18 tk1_19 tk1_20 tk1_21 tk1_22 tk1_23 tk1_24 tk1_25 tk1_26 tk1_27) hZ (W hw 74 rfl) (W hw 2 rfl) (by decide) (by decide)) q2a q2c (g := (mkF m 122 #[.val (.int p0), .val (.int p1), .val (.int p2), .val (.int p3), .val (.int (1 : Int32)), .val (.ref b1_0), .val (.int (1 : Int32))] [(.int (0 : Int32)), (.ref b1_0)])) rfl (by rw [hml]; rfl) (Steps.refl _) (argsL := [(.int (0 : Int32))]) (rest := []) (lenOf pd_1 rfl) rfl (by show 2 * 0 + _ ≤ _; exact Nat.le_of_eq rfl) (hb hby at_122) (fun _ _ => ⟨rfl, rfl, (by decide : 10 + 2 ≤ _), (by decide : 467 + 68 ≤ _)⟩)
  dsimp only [Pt.U, Pt.locs, Pt.cells, Pt.slots] at X2 l2 y2 z2 st2 hQ2 hSq2 hgr2
  subst l2 y2 z2
  have hS2 : s.Since T2.vm T2.heap.size := hSq2
  have hk2 : T2.heap.size ≤ T2.heap.size := Nat.le_refl _
  have hZ2 : Z.Warmed39 (s.setVm T2.vm).vm := State.Warmed39.trans (t := (s.setVm s.vm)) hZ hSq2.1
  have hown2 : (s.setVm T2.vm).vm.findClass s_2 = some m.cls := by rw [show (s.setVm T2.vm).vm = T2.vm from rfl, hSq2.1.alike.findClass]; exact hown
  have X2' : Stand p l e _ (s.setVm T2.vm) m _ below meth c T2 _ _ _ := X2
  obtain ⟨rfl, N2q, Kq2, tk2_0, tk2_1, tk2_2, tk2_3, tk2_4, tk2_5, tk2_6, tk2_7, tk2_8, tk2_9, tk2_10, tk2_11, tk2_12⟩ := hQ2
  have N2 := Fr.app N1 N2q
  have tk1_28_v2 := tk1_28.keep Kq2
  have tk1_41_v2 := tk1_41.keep Kq2
  have tk1_42_v2 := tk1_42.keep Kq2 (ninS (Ne.symm tk1_25) (ninS (Ne.symm tk1_23) (ninS (Ne.symm tk1_20) (ninS (Ne.symm tk1_16) (ninS (Ne.symm tk1_11) nin0)))))
  have tk1_43_v2 := tk1_43.keep Kq2 (ninS (Ne.symm tk1_25) (ninS (Ne.symm tk1_23) (ninS (Ne.symm tk1_20) (ninS (Ne.symm tk1_16) (ninS (Ne.symm tk1_11) nin0)))))
  have tk1_44_v2 := tk1_44.keep Kq2 (ninS (Ne.symm tk1_25) (ninS (Ne.symm tk1_23) (ninS (Ne.symm tk1_20) (ninS (Ne.symm tk1_16) (ninS (Ne.symm tk1_11) nin0)))))
  have tk1_45_v2 := tk1_45.keep Kq2 (ninS (Ne.symm tk1_26) (ninS (Ne.symm tk1_24) (ninS (Ne.symm tk1_21) (ninS (Ne.symm tk1_17) (ninS (Ne.symm tk1_12) nin0)))))
  have O2 := O1.keep Kq2 (allS gn_b1_4 (allS gn_b1_3 (allS gn_b1_2 (allS gn_b1_1 (allS gn_b1_0 all0)))))
  obtain ⟨cq3, kq3, q3a, q3b, q3c⟩ := isOf hZ2 rfl tk2_0
  obtain ⟨_, _, ⟨T3, L3, k3, n3⟩, -, X3, ⟨Lc3, hQ3, l3, y3, z3⟩, st3⟩ := X2'.virtualBack hx (y := (⟨s_0, "hasBlocks", "()Z"⟩ : MethodName)) (z := (⟨s_0, "hasBlocks", "()Z"⟩ : MethodName)) hown2 (mvT hZ2 (W hw 52 rfl)) (mvT hZ2 (W hw 53 rfl)) (notFace_of_selects (args := #[]) (mvT hZ2 (W hw 55 rfl))) (mvT hZ2 (W hw 55 rfl)) (mvT hZ2 (W hw 54 rfl)) (by decide) (backOf (W := 0) (rm_25 l Z a0 hw w kk iw vw hN [] b1_0 b1_5 b1_6 kb1_4 T2.heap O2 gn_b1_0 tk2_0.lt tk2_0 gn_b1_5 tk1_41_v2.lt tk2_5 tk2_8 tk1_41_v2 tk1_42_v2 tk1_43_v2 gn_b1_6 tk1_45_v2.lt tk1_44_v2 tk1_45_v2 tk1_11 tk1_12 tk1_27) hZ2 (W hw 56 rfl) (W hw 2 rfl) (by decide) (by decide)) q3a q3c (g := (mkF m 157 #[.val (.int p0), .val (.int p1), .val (.int p2), .val (.int p3), .val (.int (1 : Int32)), .val (.ref b1_0), .val (.int (1 : Int32))] [(.ref b1_0)])) rfl (by rw [hml]; rfl) (Steps.refl _) (argsL := []) (rest := []) (lenOf pd_3 rfl) rfl (by show 2 * 0 + _ ≤ _; exact Nat.le_of_eq rfl) (hb hby at_157) (fun _ _ => ⟨rfl, rfl, (by decide : 12 + 0 ≤ _), (by decide : 535 + 0 ≤ _)⟩)
  dsimp only [Pt.U, Pt.locs, Pt.cells, Pt.slots] at X3 l3 y3 z3 st3 hQ3
  subst l3 y3 z3
  obtain ⟨rfl, N3q, e3⟩ := hQ3
  have N3 := Fr.app N2 N3q
  obtain ⟨fs, hr, hrun, hended, w1, w2, w3, w4⟩ := X3.leaveW hS2 (by rw [e3]; exact hk2) (v := some (.int (1 : Int32))) (fun h => by rw [Bd.returns] at h; cases h)
  refine ⟨_, _, castTop (ef_3 m (.int p0) rfl (.int p1) rfl (.int p2) rfl (.int p3) rfl) ?_, hrun, hended, _, _, rfl, ?_, w1, w2, w3, w4.mono (by decide) (by decide)⟩
  · show Steps p.tables e below (s₁.setTop (mkF m 0 #[.val (.int p0), .val (.int p1), .val (.int p2), .val (.int p3), .unset, .unset, .unset] [])) _
    refine XS.iloadN X0.here hx rfl (hb hby at_0) rfl ?_
    refine XS.iconst X0.here hx rfl (hb hby at_1) ?_
    refine XS.iand X0.here hx rfl (hb hby at_2) rfl ?_
    show Steps p.tables e below (s₁.setTop (mkF m 3 #[.val (.int p0), .val (.int p1), .val (.int p2), .val (.int p3), .unset, .unset, .unset] [(.int (p0 &&& (3 : Int32)))])) _
    rw [hp0]
    refine XS.istore X0.here hx rfl (hb hby at_3) rfl (l' := #[.val (.int p0), .val (.int p1), .val (.int p2), .val (.int p3), .val (.int (1 : Int32)), .unset, .unset]) rfl ?_
    show Steps p.tables e below (s₁.setTop (mkF m 5 #[.val (.int p0), .val (.int p1), .val (.int p2), .val (.int p3), .val (.int (1 : Int32)), .unset, .unset] [])) _
    refine st1 _ ?_
    refine XS.iload X1.here hx rfl (hb hby at_102) rfl ?_
    refine XS.ifNo X1.here hx rfl (hb hby at_104) rfl ((if0 _ _).trans (tlt (by decide : (0 : Int32) < (1 : Int32))).2.2.2) ?_
    refine XS.iloadN X1.here hx rfl (hb hby at_107) rfl ?_
    refine XS.iconst X1.here hx rfl (hb hby at_108) ?_
    refine XS.iand X1.here hx rfl (hb hby at_109) rfl ?_
    show Steps p.tables e below (T1.setTop (mkF m 110 #[.val (.int p0), .val (.int p1), .val (.int p2), .val (.int p3), .val (.int (1 : Int32)), .val (.ref b1_0), .val (.int (1 : Int32))] [(.int (p1 &&& (1 : Int32)))])) _
    rw [hp1]
    refine XS.ifNo X1.here hx rfl (hb hby at_110) rfl ((if0 _ _).trans (feq (by decide : ¬ ((1 : Int32) = (0 : Int32)))).1) ?_
    refine XS.aload X1.here hx rfl (hb hby at_113) rfl rfl ?_
    show Steps p.tables e below (T1.setTop (mkF m 115 #[.val (.int p0), .val (.int p1), .val (.int p2), .val (.int p3), .val (.int (1 : Int32)), .val (.ref b1_0), .val (.int (1 : Int32))] [(.ref b1_0)])) _
    refine XS.iloadN X1.here hx rfl (hb hby at_115) rfl ?_
    refine X1.ldcInt hx hown (mvT hZ (W hw 69 rfl)) (g := (mkF m 116 #[.val (.int p0), .val (.int p1), .val (.int p2), .val (.int p3), .val (.int (1 : Int32)), .val (.ref b1_0), .val (.int (1 : Int32))] [(.int p2), (.ref b1_0)])) rfl (hb hby at_116) _ ?_
    refine XS.iand X1.here hx rfl (hb hby at_118) rfl ?_
    refine XS.iload X1.here hx rfl (hb hby at_119) rfl ?_
    refine iremM X1 hx rfl (hb hby at_121) rfl (by decide : ¬ ((1 : Int32) = (0 : Int32))) ?_
    show Steps p.tables e below (T1.setTop (mkF m 122 #[.val (.int p0), .val (.int p1), .val (.int p2), .val (.int p3), .val (.int (1 : Int32)), .val (.ref b1_0), .val (.int (1 : Int32))] [(.int ((p2 &&& (2147483647 : Int32)) % (1 : Int32))), (.ref b1_0)])) _
    rw [hp2]
    refine st2.trans ?_
    refine XS.iload X2'.here hx rfl (hb hby at_125) rfl ?_
    refine XS.ifNo X2'.here hx rfl (hb hby at_127) rfl ((if0 _ _).trans (tlt (by decide : (0 : Int32) < (1 : Int32))).2.2.2) ?_
    show Steps p.tables e below (T2.setTop (mkF m 130 #[.val (.int p0), .val (.int p1), .val (.int p2), .val (.int p3), .val (.int (1 : Int32)), .val (.ref b1_0), .val (.int (1 : Int32))] [])) _
    refine XS.iloadN X2'.here hx rfl (hb hby at_130) rfl ?_
    refine XS.iconst X2'.here hx rfl (hb hby at_131) ?_
    refine XS.iand X2'.here hx rfl (hb hby at_132) rfl ?_
    show Steps p.tables e below (T2.setTop (mkF m 133 #[.val (.int p0), .val (.int p1), .val (.int p2), .val (.int p3), .val (.int (1 : Int32)), .val (.ref b1_0), .val (.int (1 : Int32))] [(.int (p3 &&& (1 : Int32)))])) _
    rw [hp3]
    refine XS.ifYes X2'.here hx rfl (pc0 := 133) (pc' := 150) rfl (hb hby at_133) rfl ((if0 _ _).trans (teq (by decide : (0 : Int32) = (0 : Int32))).1) (by decide) (by decide) ?_
    refine XS.iload X2'.here hx rfl (hb hby at_150) rfl ?_
    refine XS.ifNo X2'.here hx rfl (hb hby at_152) rfl ((if0 _ _).trans (feq (by decide : ¬ ((1 : Int32) = (0 : Int32)))).1) ?_
    refine XS.aload X2'.here hx rfl (hb hby at_155) rfl rfl ?_
    refine st3.trans ?_
    show Steps p.tables e below (T3.setTop (mkF m 160 #[.val (.int p0), .val (.int p1), .val (.int p2), .val (.int p3), .val (.int (1 : Int32)), .val (.ref b1_0), .val (.int (1 : Int32))] [(.int (1 : Int32))])) _
    refine XS.iload X3.here hx rfl (hb hby at_160) rfl ?_
    refine XS.ifNo X3.here hx rfl (hb hby at_162) rfl ((if0 _ _).trans (tlt (by decide : (0 : Int32) < (1 : Int32))).2.2.2) ?_
    refine XS.iconst X3.here hx rfl (hb hby at_165) ?_
    refine XS.goto X3.here hx rfl (pc0 := 166) (pc' := 170) rfl (hb hby at_166) (by decide) (by decide) ?_
    refine XS.icmpNo X3.here hx rfl (hb hby at_170) rfl (teq (by decide : (1 : Int32) = (1 : Int32))).2 ?_
    refine XS.iconst X3.here hx rfl (hb hby at_173) ?_
    refine XS.goto X3.here hx rfl (pc0 := 174) (pc' := 178) rfl (hb hby at_174) (by decide) (by decide) ?_
    refine XS.istore X3.here hx rfl (hb hby at_178) rfl (l' := #[.val (.int p0), .val (.int p1), .val (.int p2), .val (.int p3), .val (.int (1 : Int32)), .val (.ref b1_0), .val (.int (1 : Int32))]) rfl ?_
    show Steps p.tables e below (T3.setTop (mkF m 180 #[.val (.int p0), .val (.int p1), .val (.int p2), .val (.int p3), .val (.int (1 : Int32)), .val (.ref b1_0), .val (.int (1 : Int32))] [])) _
    refine XS.iload X3.here hx rfl (hb hby at_180) rfl ?_
    show Steps p.tables e below (T3.setTop (mkF m 182 #[.val (.int p0), .val (.int p1), .val (.int p2), .val (.int p3), .val (.int (1 : Int32)), .val (.ref b1_0), .val (.int (1 : Int32))] [(.int (1 : Int32))])) _
    exact retN X3 hx (t := .boolean) Bd.returns (by simp) (hb hby at_182) hr
  · show OL (some (.int (1 : Int32))) Z.heap.size _ T3.heap _
    exact ⟨rfl, N3⟩
set_option maxRecDepth 65536 in
set_option maxHeartbeats 40000000 in
theorem rm_27 (l : Launch) (Z : State) (a0 : Array Value) (hw : ∀ d ∈ tables_1, d.before a0 Z = true) (w : Nat → Addr) (kk : Nat → ClassId) (iw : Nat → Int32) (vw : Nat → Value) (hN : Wd Z w kk iw vw) (ws : List Jvm.Cond) (o1 : Addr) (p1 : Int32) (o2 : Addr) (o3 : Addr) (o4 : Addr) (kc_o4 : ClassId) (h0 : Heap) (O0 : Old Z Z.heap.size h0) (gn_o1 : Z.heap.size ≤ o1) (lt_o1 : o1 < h0.size) (E_o1 : Exa Z h0 o1 s_0) (gn_o3 : Z.heap.size ≤ o3) (lt_o3 : o3 < h0.size) (F_o1_closed : Fld Z h0 o1 s_0 "closed" s_3 (.ref o3)) (F_o1_blockCount : Fld Z h0 o1 s_0 "blockCount" "I" (.int (2 : Int32))) (E_o3 : Exa Z h0 o3 s_1) (F_o3_wordsInUse : Fld Z h0 o3 s_1 "wordsInUse" "I" (.int (0 : Int32))) (F_o3_sizeIsSticky : Fld Z h0 o3 s_1 s_6 "Z" (.int (0 : Int32))) (gn_o4 : Z.heap.size ≤ o4) (lt_o4 : o4 < h0.size) (F_o3_words : Fld Z h0 o3 s_1 "words" "[J" (.ref o4)) (V_o4 : Arv Z h0 o4 kc_o4 .long (1 : Int32) [] (.long (0 : Int64))) (ne_o1_o3 : o1 ≠ o3) (ne_o1_o4 : o1 ≠ o4) (ne_o3_o4 : o3 ≠ o4) (hp0 : ¬ (p1 < (0 : Int32))) (hp1 : p1 < (2 : Int32)) :
    Met l Z (⟨s_0, "find", s_7⟩ : MethodName) (Jvm.Cond.code (⟨s_0, "find", s_7⟩ : MethodName) prog_20_method_11_code 3 (some .int)) ws (Rm 0 0 0 0) #[(.ref o1), (.int p1), (.ref o2)] h0 (OQ (some (.int p1)) h0 Z.heap.size) := by
  have hN' := hN
  have hL0 : Sta Z Z.heap s_1 s_4 "Z" (.int (1 : Int32)) := hN'
  refine own_body (plainFor_of_name pn_1) hisR ?_
  intro p e s m below meth c s₁ hx hby hml hown hnm hret X0 hZ e0
  have N0 := Fr.nil Z.heap.size
  obtain ⟨T1, X1, e1, st1⟩ := getF X0 hx hZ hown (host := "") (Or.inl (W hw 57 rfl)) Via.refl e0 F_o1_blockCount (g := (mkF m 6 #[.val (.ref o1), .val (.int p1), .val (.ref o2)] [(.ref o1), (.int p1)])) rfl rfl (hb hby d8_6)
  refine ⟨T1, some (.int p1), _, _, _, by decide, by decide, X1, nofun, (by rw [e1]; exact ⟨rfl, N0, rfl⟩), fun fs hr => castTop (ef_5 m (.ref o1) rfl (.int p1) rfl (.ref o2) rfl) ?_⟩
  show Steps p.tables e below (s₁.setTop (mkF m 0 #[.val (.ref o1), .val (.int p1), .val (.ref o2)] [])) _
  refine XS.iloadN X0.here hx rfl (hb hby d8_0) rfl ?_
  refine XS.ifNo X0.here hx rfl (hb hby d8_1) rfl ((if0 _ _).trans (flt hp0).1) ?_
  refine XS.iloadN X0.here hx rfl (hb hby d8_4) rfl ?_
  refine XS.aloadN X0.here hx rfl (hb hby d8_5) rfl rfl ?_
  refine st1 _ ?_
  refine XS.icmpYes X1.here hx rfl (pc0 := 9) (pc' := 27) rfl (hb hby d8_9) rfl (tlt hp1).1 (by decide) (by decide) ?_
  refine XS.iloadN X1.here hx rfl (hb hby d8_27) rfl ?_
  show Steps p.tables e below (T1.setTop (mkF m 28 #[.val (.ref o1), .val (.int p1), .val (.ref o2)] [(.int p1)])) _
  exact retI X1 hx hret (hb hby d8_28) hr
def Qd_9 (Z : State) (w : Nat → Addr) (kk : Nat → ClassId) (iw : Nat → Int32) (vw : Nat → Value) (o1 : Addr) (p1 : Int32) (o2 : Addr) (o3 : Addr) (kc_o3 : ClassId) (h0 : Heap) (n0 : Nat) (v : Option Value) (h : Heap) (L : List Loc) : Prop := v = none ∧ Fr n0 L ∧ Keep h0 h [o3, o2] ∧ Exa Z h o2 s_1 ∧ Fld Z h o2 s_1 "wordsInUse" "I" (.int (1 : Int32)) ∧ Fld Z h o2 s_1 s_6 "Z" (.int (0 : Int32)) ∧ Fld Z h o2 s_1 "words" "[J" (.ref o3) ∧ Arv Z h o3 kc_o3 .long (1 : Int32) [(.long ((0 : Int64) ||| ((1 : Int64) <<< (p1 &&& 0x3f).toInt64)))] (.long (0 : Int64))
set_option maxRecDepth 65536 in
set_option maxHeartbeats 40000000 in
theorem rm_28 (l : Launch) (Z : State) (a0 : Array Value) (hw : ∀ d ∈ tables_1, d.before a0 Z = true) (w : Nat → Addr) (kk : Nat → ClassId) (iw : Nat → Int32) (vw : Nat → Value) (hN : Wd Z w kk iw vw) (ws : List Jvm.Cond) (o1 : Addr) (p1 : Int32) (o2 : Addr) (o3 : Addr) (kc_o3 : ClassId) (h0 : Heap) (O0 : Old Z Z.heap.size h0) (gn_o1 : Z.heap.size ≤ o1) (lt_o1 : o1 < h0.size) (E_o1 : Exa Z h0 o1 s_0) (gn_o2 : Z.heap.size ≤ o2) (lt_o2 : o2 < h0.size) (F_o1_closed : Fld Z h0 o1 s_0 "closed" s_3 (.ref o2)) (F_o1_blockCount : Fld Z h0 o1 s_0 "blockCount" "I" (.int (2 : Int32))) (E_o2 : Exa Z h0 o2 s_1) (F_o2_wordsInUse : Fld Z h0 o2 s_1 "wordsInUse" "I" (.int (0 : Int32))) (F_o2_sizeIsSticky : Fld Z h0 o2 s_1 s_6 "Z" (.int (0 : Int32))) (gn_o3 : Z.heap.size ≤ o3) (lt_o3 : o3 < h0.size) (F_o2_words : Fld Z h0 o2 s_1 "words" "[J" (.ref o3)) (V_o3 : Arv Z h0 o3 kc_o3 .long (1 : Int32) [] (.long (0 : Int64))) (ne_o1_o2 : o1 ≠ o2) (ne_o1_o3 : o1 ≠ o3) (ne_o2_o3 : o2 ≠ o3) (hp0 : ¬ (p1 < (0 : Int32))) (hp1 : p1 < (2 : Int32)) (hp2 : (p1 >>> ((6 : Int32) &&& 31)) = (0 : Int32)) :
    MetW l Z (⟨s_0, "closeBlock", "(I)V"⟩ : MethodName) (Jvm.Cond.code (⟨s_0, "closeBlock", "(I)V"⟩ : MethodName) prog_20_method_6_code 2 none) ws (Rm 3 2 60 42) #[(.ref o1), (.int p1)] h0 (Qd_9 Z w kk iw vw o1 p1 o2 o3 kc_o3 h0 Z.heap.size) := by
  have hN' := hN
  have hL0 : Sta Z Z.heap s_1 s_4 "Z" (.int (1 : Int32)) := hN'
  refine own_bodyW (plainFor_of_name pn_1) hisR ?_
  intro p e s m below meth c s₁ hx hby hml hown hnm hret X0 hZ e0
  have N0 := Fr.nil Z.heap.size
  have K0 : Keep h0 h0 [o3, o2] := Keep.refl _ _
  obtain ⟨T1, X1, e1, st1⟩ := getF X0 hx hZ hown (host := "") (Or.inl (W hw 40 rfl)) Via.refl e0 F_o1_closed (g := (mkF m 1 #[.val (.ref o1), .val (.int p1)] [(.ref o1)])) rfl rfl (hb hby d7_1)
  obtain ⟨b2, T2, h2, k2, X2, e2, E2, hS2, hk2, hZ2, hown2, st2⟩ := ldcS (s := s) (vm0 := s.vm) X1 hx hZ hown (W hw 92 rfl) (own_atoms hw) e1 (own_since s 0) (Nat.zero_le _) (g := (mkF m 6 #[.val (.ref o1), .val (.int p1)] [(.int p1), (.ref o1), (.ref o2)])) rfl (hb hby d7_6) (n := 56) (by decide) (by decide) (by decide) (by decide)
  have E_o1_v2 := E_o1.ext E2
  have F_o1_closed_v2 := F_o1_closed.ext E2
  have F_o1_blockCount_v2 := F_o1_blockCount.ext E2
  have E_o2_v2 := E_o2.ext E2
  have F_o2_wordsInUse_v2 := F_o2_wordsInUse.ext E2
  have F_o2_sizeIsSticky_v2 := F_o2_sizeIsSticky.ext E2
  have F_o2_words_v2 := F_o2_words.ext E2
  have V_o3_v2 := V_o3.ext E2
  have O2 := O0.ext E2
  have K2 := K0.ext E2
  obtain ⟨cq3, q3, q3'⟩ := E_o1_v2.cell
  obtain ⟨_, _, ⟨T3, L3, k3, n3⟩, -, X3, ⟨Lc3, hQ3, l3, y3, z3⟩, st3⟩ := X2.privateBack hx (y := (⟨s_0, "find", s_7⟩ : MethodName)) hown2 (mvT hZ2 (W hw 83 rfl)) (mvT hZ2 (W hw 84 rfl)) (own_selpriv (mvT hZ2 (W hw 1 rfl)) (Cond.privateMethod_at (mvP hZ2 (W hw 85 rfl) (args := #[]))) (mvT hZ2 (W hw 84 rfl)) (by decide)) (Cond.privateMethod_at (mvP hZ2 (W hw 85 rfl) (args := #[]))) (mvT hZ2 (W hw 86 rfl)) (by decide) (backOf (W := 1) (rm_27 l Z a0 hw w kk iw vw hN [] o1 p1 b2 o2 o3 kc_o3 h2 O2 gn_o1 E_o1_v2.lt E_o1_v2 gn_o2 E_o2_v2.lt F_o1_closed_v2 F_o1_blockCount_v2 E_o2_v2 F_o2_wordsInUse_v2 F_o2_sizeIsSticky_v2 gn_o3 V_o3_v2.lt F_o2_words_v2 V_o3_v2 ne_o1_o2 ne_o1_o3 ne_o2_o3 hp0 hp1) hZ2 (W hw 86 rfl) (W hw 2 rfl) (by decide) (by decide)) (g := (mkF m 8 #[.val (.ref o1), .val (.int p1)] [(.ref b2), (.int p1), (.ref o1), (.ref o2)])) rfl (by rw [hml]; rfl) (Steps.refl _) (a := o1) (by rw [e2]; exact q3) q3' (argsL := [(.int p1), (.ref b2)]) (rest := [(.ref o2)]) (lenOf pd_5 rfl) rfl (by show 2 * 0 + _ ≤ _; exact Nat.le_of_eq rfl) (hb hby d7_8) (fun _ _ => ⟨rfl, e2, (by decide : 2 + 0 ≤ _), (by decide : 60 + 0 ≤ _)⟩)
  dsimp only [Pt.U, Pt.locs, Pt.cells, Pt.slots] at X3 l3 y3 z3 st3 hQ3
  subst l3 y3 z3
  obtain ⟨rfl, N3q, e3⟩ := hQ3
  have N3 := Fr.app N0 N3q
  obtain ⟨cq4, kq4, q4a, q4b, q4c⟩ := isOf hZ2 e3 E_o2_v2
  obtain ⟨_, _, ⟨T4, L4, k4, n4⟩, -, X4, ⟨Lc4, hQ4, l4, y4, z4⟩, st4⟩ := X3.virtualBack hx (y := (⟨s_1, "set", "(I)V"⟩ : MethodName)) (z := (⟨s_1, "set", "(I)V"⟩ : MethodName)) hown2 (mvT hZ2 (W hw 93 rfl)) (mvT hZ2 (W hw 94 rfl)) (notFace_of_selects (args := #[]) (mvT hZ2 (W hw 96 rfl))) (mvT hZ2 (W hw 96 rfl)) (mvT hZ2 (W hw 95 rfl)) (by decide) (backOf (W := 0) (rm_18 l Z a0 hw w kk iw vw hN [] o2 p1 o3 kc_o3 h2 O2 gn_o2 E_o2_v2.lt E_o2_v2 F_o2_wordsInUse_v2 F_o2_sizeIsSticky_v2 gn_o3 V_o3_v2.lt F_o2_words_v2 V_o3_v2 ne_o2_o3 hp0 hp2) hZ2 (W hw 97 rfl) (W hw 20 rfl) (by decide) (by decide)) q4a q4c (g := (mkF m 11 #[.val (.ref o1), .val (.int p1)] [(.int p1), (.ref o2)])) rfl (by rw [hml]; rfl) (Steps.refl _) (argsL := [(.int p1)]) (rest := []) (lenOf pd_1 rfl) rfl (by show 2 * 0 + _ ≤ _; exact Nat.le_of_eq rfl) (hb hby d7_11) (fun _ _ => ⟨rfl, e3, (by decide : 2 + 0 ≤ _), (by decide : 60 + 0 ≤ _)⟩)
  dsimp only [Pt.U, Pt.locs, Pt.cells, Pt.slots] at X4 l4 y4 z4 st4 hQ4
  subst l4 y4 z4
  obtain ⟨rfl, N4q, Kq4, tk4_0, tk4_1, tk4_2, tk4_3, tk4_4⟩ := hQ4
  have N4 := Fr.app N3 N4q
  have E_o1_v4 := E_o1_v2.keep Kq4
  have F_o1_closed_v4 := F_o1_closed_v2.keep Kq4 (ninS ne_o1_o2 (ninS ne_o1_o3 nin0))
  have F_o1_blockCount_v4 := F_o1_blockCount_v2.keep Kq4 (ninS ne_o1_o2 (ninS ne_o1_o3 nin0))
  have E_o2_v4 := E_o2_v2.keep Kq4
  have hk4 := Nat.le_trans hk2 Kq4.1
  have O4 := O2.keep Kq4 (allS gn_o2 (allS gn_o3 all0))
  have K4 : Keep h0 T4.heap [o3, o2] := K2.trans Kq4 (allS (Or.inl (List.mem_of_getElem? (i := 1) rfl)) (allS (Or.inl (List.mem_of_getElem? (i := 0) rfl)) all0))
  refine ⟨T4, _, none, _, _, _, _, by decide, by decide, X4, hS2, hk4, (fun _ => rfl), ⟨rfl, N4, K4, tk4_0, tk4_1, tk4_2, tk4_3, tk4_4⟩, fun fs hr => castTop (ef_1 m (.ref o1) rfl (.int p1) rfl) ?_⟩
  show Steps p.tables e below (s₁.setTop (mkF m 0 #[.val (.ref o1), .val (.int p1)] [])) _
  refine XS.aloadN X0.here hx rfl (hb hby d7_0) rfl rfl ?_
  refine st1 _ ?_
  refine XS.aloadN X1.here hx rfl (hb hby d7_4) rfl rfl ?_
  refine XS.iloadN X1.here hx rfl (hb hby d7_5) rfl ?_
  refine st2 _ ?_
  refine st3.trans ?_
  refine st4.trans ?_
  show Steps p.tables e below (T4.setTop (mkF m 14 #[.val (.ref o1), .val (.int p1)] [])) _
  exact X4.returnOut hx hret (hb hby d7_14) hr
set_option maxRecDepth 65536 in
set_option maxHeartbeats 40000000 in
theorem rm_29 (l : Launch) (Z : State) (a0 : Array Value) (hw : ∀ d ∈ tables_1, d.before a0 Z = true) (w : Nat → Addr) (kk : Nat → ClassId) (iw : Nat → Int32) (vw : Nat → Value) (hN : Wd Z w kk iw vw) (ws : List Jvm.Cond) (o1 : Addr) (o2 : Addr) (o3 : Addr) (t0 : Int64) (kc_o3 : ClassId) (h0 : Heap) (O0 : Old Z Z.heap.size h0) (gn_o1 : Z.heap.size ≤ o1) (lt_o1 : o1 < h0.size) (E_o1 : Exa Z h0 o1 s_0) (gn_o2 : Z.heap.size ≤ o2) (lt_o2 : o2 < h0.size) (F_o1_closed : Fld Z h0 o1 s_0 "closed" s_3 (.ref o2)) (F_o1_blockCount : Fld Z h0 o1 s_0 "blockCount" "I" (.int (2 : Int32))) (E_o2 : Exa Z h0 o2 s_1) (F_o2_wordsInUse : Fld Z h0 o2 s_1 "wordsInUse" "I" (.int (1 : Int32))) (F_o2_sizeIsSticky : Fld Z h0 o2 s_1 s_6 "Z" (.int (0 : Int32))) (gn_o3 : Z.heap.size ≤ o3) (lt_o3 : o3 < h0.size) (F_o2_words : Fld Z h0 o2 s_1 "words" "[J" (.ref o3)) (V_o3 : Arv Z h0 o3 kc_o3 .long (1 : Int32) [(.long t0)] (.long (0 : Int64))) (ne_o1_o2 : o1 ≠ o2) (ne_o1_o3 : o1 ≠ o3) (ne_o2_o3 : o2 ≠ o3) :
    Met l Z (⟨s_0, "hasBlocks", "()Z"⟩ : MethodName) (Jvm.Cond.code (⟨s_0, "hasBlocks", "()Z"⟩ : MethodName) prog_20_method_2_code 1 (some .boolean)) ws (Rm 0 0 0 0) #[(.ref o1)] h0 (OQ (some (.int (1 : Int32))) h0 Z.heap.size) := by
  have hN' := hN
  have hL0 : Sta Z Z.heap s_1 s_4 "Z" (.int (1 : Int32)) := hN'
  refine own_body (plainFor_of_name pn_1) hisR ?_
  intro p e s m below meth c s₁ hx hby hml hown hnm hret X0 hZ e0
  have N0 := Fr.nil Z.heap.size
  obtain ⟨T1, X1, e1, st1⟩ := getF X0 hx hZ hown (host := "") (Or.inl (W hw 57 rfl)) Via.refl e0 F_o1_blockCount (g := (mkF m 1 #[.val (.ref o1)] [(.ref o1)])) rfl rfl (hb hby d4_1)
  refine ⟨T1, some (.int (1 : Int32)), _, _, _, by decide, by decide, X1, nofun, (by rw [e1]; exact ⟨rfl, N0, rfl⟩), fun fs hr => castTop (ef_2 m (.ref o1) rfl) ?_⟩
  show Steps p.tables e below (s₁.setTop (mkF m 0 #[.val (.ref o1)] [])) _
  refine XS.aloadN X0.here hx rfl (hb hby d4_0) rfl rfl ?_
  refine st1 _ ?_
  refine XS.ifNo X1.here hx rfl (hb hby d4_4) rfl ((if0 _ _).trans (tlt (by decide : (0 : Int32) < (2 : Int32))).2.2.2) ?_
  refine XS.iconst X1.here hx rfl (hb hby d4_7) ?_
  refine XS.goto X1.here hx rfl (pc0 := 8) (pc' := 12) rfl (hb hby d4_8) (by decide) (by decide) ?_
  show Steps p.tables e below (T1.setTop (mkF m 12 #[.val (.ref o1)] [(.int (1 : Int32))])) _
  exact retN X1 hx (t := .boolean) hret (by simp) (hb hby d4_12) hr
set_option maxRecDepth 65536 in
set_option maxHeartbeats 40000000 in
theorem law_30 (l : Launch) (Z : State) (a0 : Array Value) (hw : ∀ d ∈ tables_1, d.before a0 Z = true) (w : Nat → Addr) (kk : Nat → ClassId) (iw : Nat → Int32) (vw : Nat → Value) (hN : Wd Z w kk iw vw) (ws : List Jvm.Cond) (p0 : Int32) (p1 : Int32) (p2 : Int32) (p3 : Int32) (h0 : Heap) (O0 : Old Z Z.heap.size h0) (hp0 : (p0 &&& (3 : Int32)) = (1 : Int32)) (hp1 : (p1 &&& (1 : Int32)) = (1 : Int32)) (hp2 : ((p2 &&& (2147483647 : Int32)) % (1 : Int32)) = (0 : Int32)) (hp3 : (p3 &&& (1 : Int32)) = (1 : Int32)) (hp4 : ¬ (((((p3.toUInt32 >>> ((1 : Int32) &&& 31).toUInt32).toInt32) &&& (2147483647 : Int32)) % (1 : Int32)) < (0 : Int32))) (hp5 : ((((p3.toUInt32 >>> ((1 : Int32) &&& 31).toUInt32).toInt32) &&& (2147483647 : Int32)) % (1 : Int32)) < (2 : Int32)) (hp6 : (((((p3.toUInt32 >>> ((1 : Int32) &&& 31).toUInt32).toInt32) &&& (2147483647 : Int32)) % (1 : Int32)) >>> ((6 : Int32) &&& 31)) = (0 : Int32)) :
    MetFree l x (head1 (Jvm.Cond.code x code maxLocals ret :: ws) room_1) (fun a U => a = #[(.int p0), (.int p1), (.int p2), (.int p3)] ∧ Z.Warmed39 U.vm ∧ U.heap = h0) (fun _ _ _ _ _ => True) (fun _ U o U' => ∃ v L, o = .returned v ∧ OL (some (.int (1 : Int32))) Z.heap.size v U'.heap L ∧ ReturnedEndW U o U' L 32 3072) := by
  have hN' := hN
  have hL0 : Sta Z Z.heap s_1 s_4 "Z" (.int (1 : Int32)) := hN'
  refine MetFree.of_bodySF (plainFor_of_name pn_2) hisR ?_
  intro p e s m args below meth c s₁ Bd hml0 hP hK
  obtain ⟨rfl, hZ, hh⟩ := hP
  have hx := Bd.exec
  have hby := Bd.bytes
  have hml : c.maxLocals = 7 := hml0
  have hown : s.vm.findClass s_2 = some m.cls := findClass_of_methodNamed Bd.named
  have hnm := (name_of_methodNamed Bd.named Bd.method).1
  have X0 : Stand p l e room_1 s m #[(.int p0), (.int p1), (.int p2), (.int p3)] below meth c s₁ [] 0 0 := Stand.of_body Bd
  have e0 : s₁.heap = h0 := by rw [← hh, Bd.state]; rfl
  have N0 := Fr.nil Z.heap.size
  obtain ⟨T1, L1, b1_0, b1_1, b1_2, b1_3, b1_4, b1_5, b1_6, kb1_0, kb1_1, kb1_2, kb1_3, kb1_4, X1, st1, N1, Kq1, tk1_0, tk1_1, tk1_2, tk1_3, tk1_4, tk1_5, tk1_6, tk1_7, tk1_8, tk1_9, tk1_10, tk1_11, tk1_12, tk1_13, tk1_14, tk1_15, tk1_16, tk1_17, tk1_18, tk1_19, tk1_20, tk1_21, tk1_22, tk1_23, tk1_24, tk1_25, tk1_26, tk1_27, tk1_28, tk1_29, tk1_30, tk1_31, tk1_32, tk1_33, tk1_34, tk1_35, tk1_36, tk1_37, tk1_38, tk1_39, tk1_40, tk1_41, tk1_42, tk1_43, tk1_44, tk1_45⟩ := sg_11 w kk iw vw hN p0 p1 p2 p3 X0 hx hZ hw hby hml hown e0 O0 N0
  have gn_b1_0 : Z.heap.size ≤ b1_0 := Nat.le_trans O0.2.1 tk1_0
  have gn_b1_1 : Z.heap.size ≤ b1_1 := Nat.le_trans O0.2.1 tk1_1
  have gn_b1_2 : Z.heap.size ≤ b1_2 := Nat.le_trans O0.2.1 tk1_2
  have gn_b1_3 : Z.heap.size ≤ b1_3 := Nat.le_trans O0.2.1 tk1_3
  have gn_b1_4 : Z.heap.size ≤ b1_4 := Nat.le_trans O0.2.1 tk1_4
  have gn_b1_5 : Z.heap.size ≤ b1_5 := Nat.le_trans O0.2.1 tk1_5
  have gn_b1_6 : Z.heap.size ≤ b1_6 := Nat.le_trans O0.2.1 tk1_6
  have O1 := O0.keep Kq1 all0
  obtain ⟨cq2, kq2, q2a, q2b, q2c⟩ := isOf hZ rfl tk1_28
  obtain ⟨_, _, ⟨T2, L2, k2, n2⟩, -, X2, hSq2, hgr2, ⟨Lc2, hQ2, l2, y2, z2⟩, st2⟩ := X1.virtualBackS hx (y := (⟨s_0, "insertBlock", "(I)V"⟩ : MethodName)) (z := (⟨s_0, "insertBlock", "(I)V"⟩ : MethodName)) hown (mvT hZ (W hw 70 rfl)) (mvT hZ (W hw 71 rfl)) (notFace_of_selects (args := #[]) (mvT hZ (W hw 73 rfl))) (mvT hZ (W hw 73 rfl)) (mvT hZ (W hw 72 rfl)) (by decide) (backOfS (W := 0) (rm_24 l Z a0 hw w kk iw vw hN [] b1_0 b1_1 b1_2 b1_3 b1_4 b1_5 kb1_0 kb1_1 kb1_2 kb1_3 b1_6 kb1_4 T1.heap O1 gn_b1_0 tk1_28.lt tk1_28 gn_b1_1 tk1_37.lt tk1_29 gn_b1_2 tk1_38.lt tk1_30 gn_b1_3 tk1_39.lt tk1_31 gn_b1_4 tk1_40.lt tk1_32 gn_b1_5 tk1_41.lt tk1_33 tk1_34 tk1_35 tk1_36 tk1_37 tk1_38 tk1_39 tk1_40 tk1_41 tk1_42 tk1_43 gn_b1_6 tk1_45.lt tk1_44 tk1_45 tk1_7 tk1_8 tk1_9 tk1_10 tk1_11 tk1_12 tk1_13 tk1_14 tk1_15 tk1_16 tk1_17 tk1_18 tk1_19 tk1_20 tk1_21 tk1_22 tk1_23 tk1_24 tk1_25 tk1_26 tk1_27) hZ (W hw 74 rfl) (W hw 2 rfl) (by decide) (by decide)) q2a q2c (g := (mkF m 122 #[.val (.int p0), .val (.int p1), .val (.int p2), .val (.int p3), .val (.int (1 : Int32)), .val (.ref b1_0), .val (.int (1 : Int32))] [(.int (0 : Int32)), (.ref b1_0)])) rfl (by rw [hml]; rfl) (Steps.refl _) (argsL := [(.int (0 : Int32))]) (rest := []) (lenOf pd_1 rfl) rfl (by show 2 * 0 + _ ≤ _; exact Nat.le_of_eq rfl) (hb hby at_122) (fun _ _ => ⟨rfl, rfl, (by decide : 10 + 2 ≤ _), (by decide : 467 + 68 ≤ _)⟩)
  dsimp only [Pt.U, Pt.locs, Pt.cells, Pt.slots] at X2 l2 y2 z2 st2 hQ2 hSq2 hgr2
  subst l2 y2 z2
  have hS2 : s.Since T2.vm T2.heap.size := hSq2
  have hk2 : T2.heap.size ≤ T2.heap.size := Nat.le_refl _
  have hZ2 : Z.Warmed39 (s.setVm T2.vm).vm := State.Warmed39.trans (t := (s.setVm s.vm)) hZ hSq2.1
  have hown2 : (s.setVm T2.vm).vm.findClass s_2 = some m.cls := by rw [show (s.setVm T2.vm).vm = T2.vm from rfl, hSq2.1.alike.findClass]; exact hown
  have X2' : Stand p l e _ (s.setVm T2.vm) m _ below meth c T2 _ _ _ := X2
  obtain ⟨rfl, N2q, Kq2, tk2_0, tk2_1, tk2_2, tk2_3, tk2_4, tk2_5, tk2_6, tk2_7, tk2_8, tk2_9, tk2_10, tk2_11, tk2_12⟩ := hQ2
  have N2 := Fr.app N1 N2q
  have tk1_28_v2 := tk1_28.keep Kq2
  have tk1_41_v2 := tk1_41.keep Kq2
  have tk1_42_v2 := tk1_42.keep Kq2 (ninS (Ne.symm tk1_25) (ninS (Ne.symm tk1_23) (ninS (Ne.symm tk1_20) (ninS (Ne.symm tk1_16) (ninS (Ne.symm tk1_11) nin0)))))
  have tk1_43_v2 := tk1_43.keep Kq2 (ninS (Ne.symm tk1_25) (ninS (Ne.symm tk1_23) (ninS (Ne.symm tk1_20) (ninS (Ne.symm tk1_16) (ninS (Ne.symm tk1_11) nin0)))))
  have tk1_44_v2 := tk1_44.keep Kq2 (ninS (Ne.symm tk1_25) (ninS (Ne.symm tk1_23) (ninS (Ne.symm tk1_20) (ninS (Ne.symm tk1_16) (ninS (Ne.symm tk1_11) nin0)))))
  have tk1_45_v2 := tk1_45.keep Kq2 (ninS (Ne.symm tk1_26) (ninS (Ne.symm tk1_24) (ninS (Ne.symm tk1_21) (ninS (Ne.symm tk1_17) (ninS (Ne.symm tk1_12) nin0)))))
  have O2 := O1.keep Kq2 (allS gn_b1_4 (allS gn_b1_3 (allS gn_b1_2 (allS gn_b1_1 (allS gn_b1_0 all0)))))
  obtain ⟨cq3, kq3, q3a, q3b, q3c⟩ := isOf hZ2 rfl tk2_0
  obtain ⟨_, _, ⟨T3, L3, k3, n3⟩, -, X3, hSq3, hgr3, ⟨Lc3, hQ3, l3, y3, z3⟩, st3⟩ := X2'.virtualBackS hx (y := (⟨s_0, "closeBlock", "(I)V"⟩ : MethodName)) (z := (⟨s_0, "closeBlock", "(I)V"⟩ : MethodName)) hown2 (mvT hZ2 (W hw 87 rfl)) (mvT hZ2 (W hw 88 rfl)) (notFace_of_selects (args := #[]) (mvT hZ2 (W hw 90 rfl))) (mvT hZ2 (W hw 90 rfl)) (mvT hZ2 (W hw 89 rfl)) (by decide) (backOfS (W := 0) (rm_28 l Z a0 hw w kk iw vw hN [] b1_0 ((((p3.toUInt32 >>> ((1 : Int32) &&& 31).toUInt32).toInt32) &&& (2147483647 : Int32)) % (1 : Int32)) b1_5 b1_6 kb1_4 T2.heap O2 gn_b1_0 tk2_0.lt tk2_0 gn_b1_5 tk1_41_v2.lt tk2_5 tk2_8 tk1_41_v2 tk1_42_v2 tk1_43_v2 gn_b1_6 tk1_45_v2.lt tk1_44_v2 tk1_45_v2 tk1_11 tk1_12 tk1_27 hp4 hp5 hp6) hZ2 (W hw 91 rfl) (W hw 2 rfl) (by decide) (by decide)) q3a q3c (g := (mkF m 147 #[.val (.int p0), .val (.int p1), .val (.int p2), .val (.int p3), .val (.int (1 : Int32)), .val (.ref b1_0), .val (.int (1 : Int32))] [(.int ((((p3.toUInt32 >>> ((1 : Int32) &&& 31).toUInt32).toInt32) &&& (2147483647 : Int32)) % (1 : Int32))), (.ref b1_0)])) rfl (by rw [hml]; rfl) (Steps.refl _) (argsL := [(.int ((((p3.toUInt32 >>> ((1 : Int32) &&& 31).toUInt32).toInt32) &&& (2147483647 : Int32)) % (1 : Int32)))]) (rest := []) (lenOf pd_1 rfl) rfl (by show 2 * 0 + _ ≤ _; exact Nat.le_of_eq rfl) (hb hby at_147) (fun _ _ => ⟨rfl, rfl, (by decide : 12 + 2 ≤ _), (by decide : 535 + 60 ≤ _)⟩)
  dsimp only [Pt.U, Pt.locs, Pt.cells, Pt.slots] at X3 l3 y3 z3 st3 hQ3 hSq3 hgr3
  subst l3 y3 z3
  have hS3 : s.Since T3.vm T3.heap.size := foldS (T := T2) hS2 hk2 hSq3 hgr3
  have hk3 : T3.heap.size ≤ T3.heap.size := Nat.le_refl _
  have hZ3 : Z.Warmed39 (s.setVm T3.vm).vm := State.Warmed39.trans (t := (s.setVm T2.vm)) hZ2 hSq3.1
  have hown3 : (s.setVm T3.vm).vm.findClass s_2 = some m.cls := by rw [show (s.setVm T3.vm).vm = T3.vm from rfl, hSq3.1.alike.findClass]; exact hown2
  have X3' : Stand p l e _ (s.setVm T3.vm) m _ below meth c T3 _ _ _ := X3
  obtain ⟨rfl, N3q, Kq3, tk3_0, tk3_1, tk3_2, tk3_3, tk3_4⟩ := hQ3
  have N3 := Fr.app N2 N3q
  have tk2_0_v3 := tk2_0.keep Kq3
  have tk1_41_v3 := tk1_41_v2.keep Kq3
  have tk2_5_v3 := tk2_5.keep Kq3 (ninS tk1_12 (ninS tk1_11 nin0))
  have tk2_8_v3 := tk2_8.keep Kq3 (ninS tk1_12 (ninS tk1_11 nin0))
  have O3 := O2.keep Kq3 (allS gn_b1_6 (allS gn_b1_5 all0))
  obtain ⟨cq4, kq4, q4a, q4b, q4c⟩ := isOf hZ3 rfl tk2_0_v3
  obtain ⟨_, _, ⟨T4, L4, k4, n4⟩, -, X4, ⟨Lc4, hQ4, l4, y4, z4⟩, st4⟩ := X3'.virtualBack hx (y := (⟨s_0, "hasBlocks", "()Z"⟩ : MethodName)) (z := (⟨s_0, "hasBlocks", "()Z"⟩ : MethodName)) hown3 (mvT hZ3 (W hw 52 rfl)) (mvT hZ3 (W hw 53 rfl)) (notFace_of_selects (args := #[]) (mvT hZ3 (W hw 55 rfl))) (mvT hZ3 (W hw 55 rfl)) (mvT hZ3 (W hw 54 rfl)) (by decide) (backOf (W := 0) (rm_29 l Z a0 hw w kk iw vw hN [] b1_0 b1_5 b1_6 ((0 : Int64) ||| ((1 : Int64) <<< (((((p3.toUInt32 >>> ((1 : Int32) &&& 31).toUInt32).toInt32) &&& (2147483647 : Int32)) % (1 : Int32)) &&& 0x3f).toInt64)) kb1_4 T3.heap O3 gn_b1_0 tk2_0_v3.lt tk2_0_v3 gn_b1_5 tk3_0.lt tk2_5_v3 tk2_8_v3 tk3_0 tk3_1 tk3_2 gn_b1_6 tk3_4.lt tk3_3 tk3_4 tk1_11 tk1_12 tk1_27) hZ3 (W hw 56 rfl) (W hw 2 rfl) (by decide) (by decide)) q4a q4c (g := (mkF m 157 #[.val (.int p0), .val (.int p1), .val (.int p2), .val (.int p3), .val (.int (1 : Int32)), .val (.ref b1_0), .val (.int (1 : Int32))] [(.ref b1_0)])) rfl (by rw [hml]; rfl) (Steps.refl _) (argsL := []) (rest := []) (lenOf pd_3 rfl) rfl (by show 2 * 0 + _ ≤ _; exact Nat.le_of_eq rfl) (hb hby at_157) (fun _ _ => ⟨rfl, rfl, (by decide : 14 + 0 ≤ _), (by decide : 595 + 0 ≤ _)⟩)
  dsimp only [Pt.U, Pt.locs, Pt.cells, Pt.slots] at X4 l4 y4 z4 st4 hQ4
  subst l4 y4 z4
  obtain ⟨rfl, N4q, e4⟩ := hQ4
  have N4 := Fr.app N3 N4q
  obtain ⟨fs, hr, hrun, hended, w1, w2, w3, w4⟩ := X4.leaveW hS3 (by rw [e4]; exact hk3) (v := some (.int (1 : Int32))) (fun h => by rw [Bd.returns] at h; cases h)
  refine ⟨_, _, castTop (ef_3 m (.int p0) rfl (.int p1) rfl (.int p2) rfl (.int p3) rfl) ?_, hrun, hended, _, _, rfl, ?_, w1, w2, w3, w4.mono (by decide) (by decide)⟩
  · show Steps p.tables e below (s₁.setTop (mkF m 0 #[.val (.int p0), .val (.int p1), .val (.int p2), .val (.int p3), .unset, .unset, .unset] [])) _
    refine XS.iloadN X0.here hx rfl (hb hby at_0) rfl ?_
    refine XS.iconst X0.here hx rfl (hb hby at_1) ?_
    refine XS.iand X0.here hx rfl (hb hby at_2) rfl ?_
    show Steps p.tables e below (s₁.setTop (mkF m 3 #[.val (.int p0), .val (.int p1), .val (.int p2), .val (.int p3), .unset, .unset, .unset] [(.int (p0 &&& (3 : Int32)))])) _
    rw [hp0]
    refine XS.istore X0.here hx rfl (hb hby at_3) rfl (l' := #[.val (.int p0), .val (.int p1), .val (.int p2), .val (.int p3), .val (.int (1 : Int32)), .unset, .unset]) rfl ?_
    show Steps p.tables e below (s₁.setTop (mkF m 5 #[.val (.int p0), .val (.int p1), .val (.int p2), .val (.int p3), .val (.int (1 : Int32)), .unset, .unset] [])) _
    refine st1 _ ?_
    refine XS.iload X1.here hx rfl (hb hby at_102) rfl ?_
    refine XS.ifNo X1.here hx rfl (hb hby at_104) rfl ((if0 _ _).trans (tlt (by decide : (0 : Int32) < (1 : Int32))).2.2.2) ?_
    refine XS.iloadN X1.here hx rfl (hb hby at_107) rfl ?_
    refine XS.iconst X1.here hx rfl (hb hby at_108) ?_
    refine XS.iand X1.here hx rfl (hb hby at_109) rfl ?_
    show Steps p.tables e below (T1.setTop (mkF m 110 #[.val (.int p0), .val (.int p1), .val (.int p2), .val (.int p3), .val (.int (1 : Int32)), .val (.ref b1_0), .val (.int (1 : Int32))] [(.int (p1 &&& (1 : Int32)))])) _
    rw [hp1]
    refine XS.ifNo X1.here hx rfl (hb hby at_110) rfl ((if0 _ _).trans (feq (by decide : ¬ ((1 : Int32) = (0 : Int32)))).1) ?_
    refine XS.aload X1.here hx rfl (hb hby at_113) rfl rfl ?_
    show Steps p.tables e below (T1.setTop (mkF m 115 #[.val (.int p0), .val (.int p1), .val (.int p2), .val (.int p3), .val (.int (1 : Int32)), .val (.ref b1_0), .val (.int (1 : Int32))] [(.ref b1_0)])) _
    refine XS.iloadN X1.here hx rfl (hb hby at_115) rfl ?_
    refine X1.ldcInt hx hown (mvT hZ (W hw 69 rfl)) (g := (mkF m 116 #[.val (.int p0), .val (.int p1), .val (.int p2), .val (.int p3), .val (.int (1 : Int32)), .val (.ref b1_0), .val (.int (1 : Int32))] [(.int p2), (.ref b1_0)])) rfl (hb hby at_116) _ ?_
    refine XS.iand X1.here hx rfl (hb hby at_118) rfl ?_
    refine XS.iload X1.here hx rfl (hb hby at_119) rfl ?_
    refine iremM X1 hx rfl (hb hby at_121) rfl (by decide : ¬ ((1 : Int32) = (0 : Int32))) ?_
    show Steps p.tables e below (T1.setTop (mkF m 122 #[.val (.int p0), .val (.int p1), .val (.int p2), .val (.int p3), .val (.int (1 : Int32)), .val (.ref b1_0), .val (.int (1 : Int32))] [(.int ((p2 &&& (2147483647 : Int32)) % (1 : Int32))), (.ref b1_0)])) _
    rw [hp2]
    refine st2.trans ?_
    refine XS.iload X2'.here hx rfl (hb hby at_125) rfl ?_
    refine XS.ifNo X2'.here hx rfl (hb hby at_127) rfl ((if0 _ _).trans (tlt (by decide : (0 : Int32) < (1 : Int32))).2.2.2) ?_
    show Steps p.tables e below (T2.setTop (mkF m 130 #[.val (.int p0), .val (.int p1), .val (.int p2), .val (.int p3), .val (.int (1 : Int32)), .val (.ref b1_0), .val (.int (1 : Int32))] [])) _
    refine XS.iloadN X2'.here hx rfl (hb hby at_130) rfl ?_
    refine XS.iconst X2'.here hx rfl (hb hby at_131) ?_
    refine XS.iand X2'.here hx rfl (hb hby at_132) rfl ?_
    show Steps p.tables e below (T2.setTop (mkF m 133 #[.val (.int p0), .val (.int p1), .val (.int p2), .val (.int p3), .val (.int (1 : Int32)), .val (.ref b1_0), .val (.int (1 : Int32))] [(.int (p3 &&& (1 : Int32)))])) _
    rw [hp3]
    refine XS.ifNo X2'.here hx rfl (hb hby at_133) rfl ((if0 _ _).trans (feq (by decide : ¬ ((1 : Int32) = (0 : Int32)))).1) ?_
    refine XS.aload X2'.here hx rfl (hb hby at_136) rfl rfl ?_
    refine XS.iloadN X2'.here hx rfl (hb hby at_138) rfl ?_
    refine XS.iconst X2'.here hx rfl (hb hby at_139) ?_
    refine XS.iushr X2'.here hx rfl (hb hby at_140) rfl ?_
    show Steps p.tables e below (T2.setTop (mkF m 141 #[.val (.int p0), .val (.int p1), .val (.int p2), .val (.int p3), .val (.int (1 : Int32)), .val (.ref b1_0), .val (.int (1 : Int32))] [(.int ((p3.toUInt32 >>> ((1 : Int32) &&& 31).toUInt32).toInt32)), (.ref b1_0)])) _
    refine X2'.ldcInt hx hown2 (mvT hZ2 (W hw 69 rfl)) (g := (mkF m 141 #[.val (.int p0), .val (.int p1), .val (.int p2), .val (.int p3), .val (.int (1 : Int32)), .val (.ref b1_0), .val (.int (1 : Int32))] [(.int ((p3.toUInt32 >>> ((1 : Int32) &&& 31).toUInt32).toInt32)), (.ref b1_0)])) rfl (hb hby at_141) _ ?_
    refine XS.iand X2'.here hx rfl (hb hby at_143) rfl ?_
    refine XS.iload X2'.here hx rfl (hb hby at_144) rfl ?_
    refine iremM X2' hx rfl (hb hby at_146) rfl (by decide : ¬ ((1 : Int32) = (0 : Int32))) ?_
    refine st3.trans ?_
    refine XS.iload X3'.here hx rfl (hb hby at_150) rfl ?_
    refine XS.ifNo X3'.here hx rfl (hb hby at_152) rfl ((if0 _ _).trans (feq (by decide : ¬ ((1 : Int32) = (0 : Int32)))).1) ?_
    refine XS.aload X3'.here hx rfl (hb hby at_155) rfl rfl ?_
    show Steps p.tables e below (T3.setTop (mkF m 157 #[.val (.int p0), .val (.int p1), .val (.int p2), .val (.int p3), .val (.int (1 : Int32)), .val (.ref b1_0), .val (.int (1 : Int32))] [(.ref b1_0)])) _
    refine st4.trans ?_
    refine XS.iload X4.here hx rfl (hb hby at_160) rfl ?_
    refine XS.ifNo X4.here hx rfl (hb hby at_162) rfl ((if0 _ _).trans (tlt (by decide : (0 : Int32) < (1 : Int32))).2.2.2) ?_
    refine XS.iconst X4.here hx rfl (hb hby at_165) ?_
    refine XS.goto X4.here hx rfl (pc0 := 166) (pc' := 170) rfl (hb hby at_166) (by decide) (by decide) ?_
    refine XS.icmpNo X4.here hx rfl (hb hby at_170) rfl (teq (by decide : (1 : Int32) = (1 : Int32))).2 ?_
    refine XS.iconst X4.here hx rfl (hb hby at_173) ?_
    refine XS.goto X4.here hx rfl (pc0 := 174) (pc' := 178) rfl (hb hby at_174) (by decide) (by decide) ?_
    show Steps p.tables e below (T4.setTop (mkF m 178 #[.val (.int p0), .val (.int p1), .val (.int p2), .val (.int p3), .val (.int (1 : Int32)), .val (.ref b1_0), .val (.int (1 : Int32))] [(.int (1 : Int32))])) _
    refine XS.istore X4.here hx rfl (hb hby at_178) rfl (l' := #[.val (.int p0), .val (.int p1), .val (.int p2), .val (.int p3), .val (.int (1 : Int32)), .val (.ref b1_0), .val (.int (1 : Int32))]) rfl ?_
    refine XS.iload X4.here hx rfl (hb hby at_180) rfl ?_
    show Steps p.tables e below (T4.setTop (mkF m 182 #[.val (.int p0), .val (.int p1), .val (.int p2), .val (.int p3), .val (.int (1 : Int32)), .val (.ref b1_0), .val (.int (1 : Int32))] [(.int (1 : Int32))])) _
    exact retN X4 hx (t := .boolean) Bd.returns (by simp) (hb hby at_182) hr
  · show OL (some (.int (1 : Int32))) Z.heap.size _ T4.heap _
    exact ⟨rfl, N4⟩
theorem d5_31 : decode prog_20_method_3_code 31 = .ok (.aload_n 0, 1) := by decide +kernel
theorem d5_32 : decode prog_20_method_3_code 32 = .ok (.getfield 9, 3) := by decide +kernel
theorem d5_35 : decode prog_20_method_3_code 35 = .ok (.aload_n 0, 1) := by decide +kernel
theorem d5_36 : decode prog_20_method_3_code 36 = .ok (.getfield 33, 3) := by decide +kernel
theorem d5_39 : decode prog_20_method_3_code 39 = .ok (.iload_n 1, 1) := by decide +kernel
theorem d5_40 : decode prog_20_method_3_code 40 = .ok (.iastore, 1) := by decide +kernel
def Qd_10 (Z : State) (w : Nat → Addr) (kk : Nat → ClassId) (iw : Nat → Int32) (vw : Nat → Value) (o1 : Addr) (o2 : Addr) (o3 : Addr) (o4 : Addr) (o5 : Addr) (o6 : Addr) (kc_o2 : ClassId) (kc_o3 : ClassId) (kc_o4 : ClassId) (kc_o5 : ClassId) (o7 : Addr) (kc_o7 : ClassId) (h0 : Heap) (n0 : Nat) (v : Option Value) (h : Heap) (L : List Loc) : Prop := v = none ∧ Fr n0 L ∧ Keep h0 h [o5, o4, o3, o2, o1] ∧ Exa Z h o1 s_0 ∧ Fld Z h o1 s_0 "nextBlock" "[I" (.ref o2) ∧ Fld Z h o1 s_0 s_5 "[I" (.ref o3) ∧ Fld Z h o1 s_0 "firstPiece" "[I" (.ref o4) ∧ Fld Z h o1 s_0 "lastPiece" "[I" (.ref o5) ∧ Fld Z h o1 s_0 "closed" s_3 (.ref o6) ∧ Fld Z h o1 s_0 "firstBlock" "I" (.int (0 : Int32)) ∧ Fld Z h o1 s_0 "lastBlock" "I" (.int (1 : Int32)) ∧ Fld Z h o1 s_0 "blockCount" "I" (.int (2 : Int32)) ∧ Arv Z h o2 kc_o2 .int (64 : Int32) [(.int (1 : Int32)), (.int (-1 : Int32))] (.int (0 : Int32)) ∧ Arv Z h o3 kc_o3 .int (64 : Int32) [(.int (-1 : Int32)), (.int (0 : Int32))] (.int (0 : Int32)) ∧ Arv Z h o4 kc_o4 .int (64 : Int32) [(.int (-1 : Int32)), (.int (-1 : Int32))] (.int (0 : Int32)) ∧ Arv Z h o5 kc_o5 .int (64 : Int32) [(.int (-1 : Int32)), (.int (-1 : Int32))] (.int (0 : Int32))
set_option maxRecDepth 65536 in
set_option maxHeartbeats 40000000 in
theorem rm_31 (l : Launch) (Z : State) (a0 : Array Value) (hw : ∀ d ∈ tables_1, d.before a0 Z = true) (w : Nat → Addr) (kk : Nat → ClassId) (iw : Nat → Int32) (vw : Nat → Value) (hN : Wd Z w kk iw vw) (ws : List Jvm.Cond) (o1 : Addr) (o2 : Addr) (o3 : Addr) (o4 : Addr) (o5 : Addr) (o6 : Addr) (kc_o2 : ClassId) (kc_o3 : ClassId) (kc_o4 : ClassId) (kc_o5 : ClassId) (o7 : Addr) (kc_o7 : ClassId) (h0 : Heap) (O0 : Old Z Z.heap.size h0) (gn_o1 : Z.heap.size ≤ o1) (lt_o1 : o1 < h0.size) (E_o1 : Exa Z h0 o1 s_0) (gn_o2 : Z.heap.size ≤ o2) (lt_o2 : o2 < h0.size) (F_o1_nextBlock : Fld Z h0 o1 s_0 "nextBlock" "[I" (.ref o2)) (gn_o3 : Z.heap.size ≤ o3) (lt_o3 : o3 < h0.size) (F_o1_previousBlock : Fld Z h0 o1 s_0 s_5 "[I" (.ref o3)) (gn_o4 : Z.heap.size ≤ o4) (lt_o4 : o4 < h0.size) (F_o1_firstPiece : Fld Z h0 o1 s_0 "firstPiece" "[I" (.ref o4)) (gn_o5 : Z.heap.size ≤ o5) (lt_o5 : o5 < h0.size) (F_o1_lastPiece : Fld Z h0 o1 s_0 "lastPiece" "[I" (.ref o5)) (gn_o6 : Z.heap.size ≤ o6) (lt_o6 : o6 < h0.size) (F_o1_closed : Fld Z h0 o1 s_0 "closed" s_3 (.ref o6)) (F_o1_firstBlock : Fld Z h0 o1 s_0 "firstBlock" "I" (.int (0 : Int32))) (F_o1_lastBlock : Fld Z h0 o1 s_0 "lastBlock" "I" (.int (0 : Int32))) (F_o1_blockCount : Fld Z h0 o1 s_0 "blockCount" "I" (.int (1 : Int32))) (V_o2 : Arv Z h0 o2 kc_o2 .int (64 : Int32) [(.int (-1 : Int32))] (.int (0 : Int32))) (V_o3 : Arv Z h0 o3 kc_o3 .int (64 : Int32) [(.int (-1 : Int32))] (.int (0 : Int32))) (V_o4 : Arv Z h0 o4 kc_o4 .int (64 : Int32) [(.int (-1 : Int32))] (.int (0 : Int32))) (V_o5 : Arv Z h0 o5 kc_o5 .int (64 : Int32) [(.int (-1 : Int32))] (.int (0 : Int32))) (E_o6 : Exa Z h0 o6 s_1) (F_o6_wordsInUse : Fld Z h0 o6 s_1 "wordsInUse" "I" (.int (0 : Int32))) (F_o6_sizeIsSticky : Fld Z h0 o6 s_1 s_6 "Z" (.int (0 : Int32))) (gn_o7 : Z.heap.size ≤ o7) (lt_o7 : o7 < h0.size) (F_o6_words : Fld Z h0 o6 s_1 "words" "[J" (.ref o7)) (V_o7 : Arv Z h0 o7 kc_o7 .long (1 : Int32) [] (.long (0 : Int64))) (ne_o1_o2 : o1 ≠ o2) (ne_o1_o3 : o1 ≠ o3) (ne_o1_o4 : o1 ≠ o4) (ne_o1_o5 : o1 ≠ o5) (ne_o1_o6 : o1 ≠ o6) (ne_o1_o7 : o1 ≠ o7) (ne_o2_o3 : o2 ≠ o3) (ne_o2_o4 : o2 ≠ o4) (ne_o2_o5 : o2 ≠ o5) (ne_o2_o6 : o2 ≠ o6) (ne_o2_o7 : o2 ≠ o7) (ne_o3_o4 : o3 ≠ o4) (ne_o3_o5 : o3 ≠ o5) (ne_o3_o6 : o3 ≠ o6) (ne_o3_o7 : o3 ≠ o7) (ne_o4_o5 : o4 ≠ o5) (ne_o4_o6 : o4 ≠ o6) (ne_o4_o7 : o4 ≠ o7) (ne_o5_o6 : o5 ≠ o6) (ne_o5_o7 : o5 ≠ o7) (ne_o6_o7 : o6 ≠ o7) :
    Met l Z (⟨s_0, "addBlock", "()V"⟩ : MethodName) (Jvm.Cond.code (⟨s_0, "addBlock", "()V"⟩ : MethodName) prog_20_method_3_code 2 none) ws (Rm 1 0 0 13) #[(.ref o1)] h0 (Qd_10 Z w kk iw vw o1 o2 o3 o4 o5 o6 kc_o2 kc_o3 kc_o4 kc_o5 o7 kc_o7 h0 Z.heap.size) := by
  have hN' := hN
  have hL0 : Sta Z Z.heap s_1 s_4 "Z" (.int (1 : Int32)) := hN'
  refine own_body (plainFor_of_name pn_1) hisR ?_
  intro p e s m below meth c s₁ hx hby hml hown hnm hret X0 hZ e0
  have N0 := Fr.nil Z.heap.size
  have K0 : Keep h0 h0 [o5, o4, o3, o2, o1] := Keep.refl _ _
  obtain ⟨cq1, q1, q1'⟩ := E_o1.cell
  obtain ⟨_, _, ⟨T1, L1, k1, n1⟩, -, X1, ⟨Lc1, hQ1, l1, y1, z1⟩, st1⟩ := X0.privateBack hx (y := (⟨s_0, "newBlock", "()I"⟩ : MethodName)) hown (mvT hZ (W hw 64 rfl)) (mvT hZ (W hw 65 rfl)) (own_selpriv (mvT hZ (W hw 1 rfl)) (Cond.privateMethod_at (mvP hZ (W hw 66 rfl) (args := #[]))) (mvT hZ (W hw 65 rfl)) (by decide)) (Cond.privateMethod_at (mvP hZ (W hw 66 rfl) (args := #[]))) (mvT hZ (W hw 67 rfl)) (by decide) (backOf (W := 0) (rm_23 l Z a0 hw w kk iw vw hN [] o1 o2 o3 o4 o5 o6 kc_o2 kc_o3 kc_o4 kc_o5 o7 kc_o7 h0 O0 gn_o1 E_o1.lt E_o1 gn_o2 V_o2.lt F_o1_nextBlock gn_o3 V_o3.lt F_o1_previousBlock gn_o4 V_o4.lt F_o1_firstPiece gn_o5 V_o5.lt F_o1_lastPiece gn_o6 E_o6.lt F_o1_closed F_o1_firstBlock F_o1_lastBlock F_o1_blockCount V_o2 V_o3 V_o4 V_o5 E_o6 F_o6_wordsInUse F_o6_sizeIsSticky gn_o7 V_o7.lt F_o6_words V_o7 ne_o1_o2 ne_o1_o3 ne_o1_o4 ne_o1_o5 ne_o1_o6 ne_o1_o7 ne_o2_o3 ne_o2_o4 ne_o2_o5 ne_o2_o6 ne_o2_o7 ne_o3_o4 ne_o3_o5 ne_o3_o6 ne_o3_o7 ne_o4_o5 ne_o4_o6 ne_o4_o7 ne_o5_o6 ne_o5_o7 ne_o6_o7) hZ (W hw 67 rfl) (W hw 2 rfl) (by decide) (by decide)) (g := (mkF m 1 #[.val (.ref o1), .unset] [(.ref o1)])) rfl (by rw [hml]; rfl) (Steps.refl _) (a := o1) (by rw [e0]; exact q1) q1' (argsL := []) (rest := []) (lenOf pd_4 rfl) rfl (by show 2 * 0 + _ ≤ _; exact Nat.le_of_eq rfl) (hb hby d5_1) (fun _ _ => ⟨rfl, e0, (by decide : 0 + 0 ≤ _), (by decide : 0 + 0 ≤ _)⟩)
  dsimp only [Pt.U, Pt.locs, Pt.cells, Pt.slots] at X1 l1 y1 z1 st1 hQ1
  subst l1 y1 z1
  obtain ⟨rfl, N1q, Kq1, tk1_0, tk1_1, tk1_2, tk1_3, tk1_4, tk1_5, tk1_6, tk1_7, tk1_8, tk1_9, tk1_10, tk1_11, tk1_12⟩ := hQ1
  have N1 := Fr.app N0 N1q
  have E_o1_v1 := E_o1.keep Kq1
  have E_o6_v1 := E_o6.keep Kq1
  have F_o6_wordsInUse_v1 := F_o6_wordsInUse.keep Kq1 (ninS (Ne.symm ne_o1_o6) (ninS (Ne.symm ne_o2_o6) (ninS (Ne.symm ne_o3_o6) (ninS (Ne.symm ne_o4_o6) (ninS (Ne.symm ne_o5_o6) nin0)))))
  have F_o6_sizeIsSticky_v1 := F_o6_sizeIsSticky.keep Kq1 (ninS (Ne.symm ne_o1_o6) (ninS (Ne.symm ne_o2_o6) (ninS (Ne.symm ne_o3_o6) (ninS (Ne.symm ne_o4_o6) (ninS (Ne.symm ne_o5_o6) nin0)))))
  have F_o6_words_v1 := F_o6_words.keep Kq1 (ninS (Ne.symm ne_o1_o6) (ninS (Ne.symm ne_o2_o6) (ninS (Ne.symm ne_o3_o6) (ninS (Ne.symm ne_o4_o6) (ninS (Ne.symm ne_o5_o6) nin0)))))
  have V_o7_v1 := V_o7.keep Kq1 (ninS (Ne.symm ne_o1_o7) (ninS (Ne.symm ne_o2_o7) (ninS (Ne.symm ne_o3_o7) (ninS (Ne.symm ne_o4_o7) (ninS (Ne.symm ne_o5_o7) nin0)))))
  have O1 := O0.keep Kq1 (allS gn_o1 (allS gn_o2 (allS gn_o3 (allS gn_o4 (allS gn_o5 all0)))))
  have K1 : Keep h0 T1.heap [o5, o4, o3, o2, o1] := K0.trans Kq1 (allS (Or.inl (List.mem_of_getElem? (i := 4) rfl)) (allS (Or.inl (List.mem_of_getElem? (i := 3) rfl)) (allS (Or.inl (List.mem_of_getElem? (i := 2) rfl)) (allS (Or.inl (List.mem_of_getElem? (i := 1) rfl)) (allS (Or.inl (List.mem_of_getElem? (i := 0) rfl)) all0)))))
  obtain ⟨T2, X2, e2, st2⟩ := getF X1 hx hZ hown (host := "") (Or.inl (W hw 12 rfl)) Via.refl rfl tk1_2 (g := (mkF m 6 #[.val (.ref o1), .val (.int (1 : Int32))] [(.ref o1)])) rfl rfl (hb hby d5_6)
  obtain ⟨T3, X3, e3, st3⟩ := getF X2 hx hZ hown (host := "") (Or.inl (W hw 44 rfl)) Via.refl e2 tk1_7 (g := (mkF m 11 #[.val (.ref o1), .val (.int (1 : Int32))] [(.ref o1), (.int (1 : Int32)), (.ref o3)])) rfl rfl (hb hby d5_11)
  obtain ⟨cl4, Ar4, q4, Sz4, Ng4, Hv4, Gv4⟩ := tk1_10
  have hin4 : ¬ ((1 : Int32) < 0 ∨ cl4.slots.size ≤ ((1 : Int32)).toNatClampNeg) := inb_of Sz4 ⟨by decide, by decide⟩
  obtain ⟨T5, h5, X5, e5, W5, st5⟩ := stI X3 hx hZ e3 Ar4 (j := (1 : Int32)) hin4 (g := (mkF m 14 #[.val (.ref o1), .val (.int (1 : Int32))] [(.int (0 : Int32)), (.int (1 : Int32)), (.ref o3)])) rfl rfl (hb hby d5_14)
  have V_o3_v5 : Arv Z h5 o3 kc_o3 .int (64 : Int32) [(.int (-1 : Int32)), (.int (0 : Int32))] (.int (0 : Int32)) := Arv.set Ar4 q4 Sz4 Ng4 Hv4 Gv4 rfl W5 1 rfl (Nat.le_of_ble_eq_true rfl)
  have N5 := Fr.snoc X5 N1 gn_o3
  have tk1_0_v5 := tk1_0.wr W5
  have E_o6_v5 := E_o6_v1.wr W5
  have F_o6_wordsInUse_v5 := F_o6_wordsInUse_v1.other W5 (Or.inl (Ne.symm ne_o3_o6))
  have F_o6_sizeIsSticky_v5 := F_o6_sizeIsSticky_v1.other W5 (Or.inl (Ne.symm ne_o3_o6))
  have F_o6_words_v5 := F_o6_words_v1.other W5 (Or.inl (Ne.symm ne_o3_o6))
  have V_o7_v5 := V_o7_v1.other W5 (Ne.symm ne_o3_o7)
  have tk1_1_v5 := tk1_1.other W5 (Or.inl ne_o1_o3)
  have tk1_2_v5 := tk1_2.other W5 (Or.inl ne_o1_o3)
  have tk1_3_v5 := tk1_3.other W5 (Or.inl ne_o1_o3)
  have tk1_4_v5 := tk1_4.other W5 (Or.inl ne_o1_o3)
  have tk1_5_v5 := tk1_5.other W5 (Or.inl ne_o1_o3)
  have tk1_6_v5 := tk1_6.other W5 (Or.inl ne_o1_o3)
  have tk1_7_v5 := tk1_7.other W5 (Or.inl ne_o1_o3)
  have tk1_8_v5 := tk1_8.other W5 (Or.inl ne_o1_o3)
  have tk1_9_v5 := tk1_9.other W5 ne_o2_o3
  have tk1_11_v5 := tk1_11.other W5 (Ne.symm ne_o3_o4)
  have tk1_12_v5 := tk1_12.other W5 (Ne.symm ne_o3_o5)
  have O5 := O1.wr W5 gn_o3
  have K5 : Keep h0 h5 [o5, o4, o3, o2, o1] := K1.wr W5 (Or.inl (List.mem_of_getElem? (i := 2) rfl))
  obtain ⟨T6, X6, e6, st6⟩ := getF X5 hx hZ hown (host := "") (Or.inl (W hw 44 rfl)) Via.refl e5 tk1_7_v5 (g := (mkF m 16 #[.val (.ref o1), .val (.int (1 : Int32))] [(.ref o1)])) rfl rfl (hb hby d5_16)
  obtain ⟨T7, X7, e7, st7⟩ := getF X6 hx hZ hown (host := "") (Or.inl (W hw 10 rfl)) Via.refl e6 tk1_1_v5 (g := (mkF m 32 #[.val (.ref o1), .val (.int (1 : Int32))] [(.ref o1)])) rfl rfl (hb hby d5_32)
  obtain ⟨T8, X8, e8, st8⟩ := getF X7 hx hZ hown (host := "") (Or.inl (W hw 44 rfl)) Via.refl e7 tk1_7_v5 (g := (mkF m 36 #[.val (.ref o1), .val (.int (1 : Int32))] [(.ref o1), (.ref o2)])) rfl rfl (hb hby d5_36)
  obtain ⟨cl9, Ar9, q9, Sz9, Ng9, Hv9, Gv9⟩ := tk1_9_v5
  have hin9 : ¬ ((0 : Int32) < 0 ∨ cl9.slots.size ≤ ((0 : Int32)).toNatClampNeg) := inb_of Sz9 ⟨by decide, by decide⟩
  obtain ⟨T10, h10, X10, e10, W10, st10⟩ := stI X8 hx hZ e8 Ar9 (j := (0 : Int32)) hin9 (g := (mkF m 40 #[.val (.ref o1), .val (.int (1 : Int32))] [(.int (1 : Int32)), (.int (0 : Int32)), (.ref o2)])) rfl rfl (hb hby d5_40)
  have V_o2_v10 : Arv Z h10 o2 kc_o2 .int (64 : Int32) [(.int (1 : Int32)), (.int (-1 : Int32))] (.int (0 : Int32)) := Arv.set Ar9 q9 Sz9 Ng9 Hv9 Gv9 rfl W10 0 rfl (Nat.le_of_ble_eq_true rfl)
  have N10 := Fr.snoc X10 N5 gn_o2
  have tk1_0_v10 := tk1_0_v5.wr W10
  have E_o6_v10 := E_o6_v5.wr W10
  have F_o6_wordsInUse_v10 := F_o6_wordsInUse_v5.other W10 (Or.inl (Ne.symm ne_o2_o6))
  have F_o6_sizeIsSticky_v10 := F_o6_sizeIsSticky_v5.other W10 (Or.inl (Ne.symm ne_o2_o6))
  have F_o6_words_v10 := F_o6_words_v5.other W10 (Or.inl (Ne.symm ne_o2_o6))
  have V_o7_v10 := V_o7_v5.other W10 (Ne.symm ne_o2_o7)
  have tk1_1_v10 := tk1_1_v5.other W10 (Or.inl ne_o1_o2)
  have tk1_2_v10 := tk1_2_v5.other W10 (Or.inl ne_o1_o2)
  have tk1_3_v10 := tk1_3_v5.other W10 (Or.inl ne_o1_o2)
  have tk1_4_v10 := tk1_4_v5.other W10 (Or.inl ne_o1_o2)
  have tk1_5_v10 := tk1_5_v5.other W10 (Or.inl ne_o1_o2)
  have tk1_6_v10 := tk1_6_v5.other W10 (Or.inl ne_o1_o2)
  have tk1_7_v10 := tk1_7_v5.other W10 (Or.inl ne_o1_o2)
  have tk1_8_v10 := tk1_8_v5.other W10 (Or.inl ne_o1_o2)
  have V_o3_v10 := V_o3_v5.other W10 (Ne.symm ne_o2_o3)
  have tk1_11_v10 := tk1_11_v5.other W10 (Ne.symm ne_o2_o4)
  have tk1_12_v10 := tk1_12_v5.other W10 (Ne.symm ne_o2_o5)
  have O10 := O5.wr W10 gn_o2
  have K10 : Keep h0 h10 [o5, o4, o3, o2, o1] := K5.wr W10 (Or.inl (List.mem_of_getElem? (i := 3) rfl))
  obtain ⟨T11, h11, X11, e11, W11, st11⟩ := putF X10 hx hZ hown (host := "") (Or.inl (W hw 44 rfl)) Via.refl e10 tk1_7_v10 tk1_0_v10 (Or.inl (W hw 45 rfl)) (W hw 1 rfl) (ty := .int) (by decide) rfl rfl (g := (mkF m 43 #[.val (.ref o1), .val (.int (1 : Int32))] [(.int (1 : Int32)), (.ref o1)])) rfl rfl (hb hby d5_43)
  have tk1_7_v11 := tk1_7_v10.same W11
  have N11 := Fr.snoc X11 N10 gn_o1
  have tk1_0_v11 := tk1_0_v10.wr W11
  have E_o6_v11 := E_o6_v10.wr W11
  have F_o6_wordsInUse_v11 := F_o6_wordsInUse_v10.other W11 (Or.inl (Ne.symm ne_o1_o6))
  have F_o6_sizeIsSticky_v11 := F_o6_sizeIsSticky_v10.other W11 (Or.inl (Ne.symm ne_o1_o6))
  have F_o6_words_v11 := F_o6_words_v10.other W11 (Or.inl (Ne.symm ne_o1_o6))
  have V_o7_v11 := V_o7_v10.other W11 (Ne.symm ne_o1_o7)
  have tk1_1_v11 := tk1_1_v10.other W11 (Or.inr (sn_66 hw))
  have tk1_2_v11 := tk1_2_v10.other W11 (Or.inr (sn_67 hw))
  have tk1_3_v11 := tk1_3_v10.other W11 (Or.inr (sn_68 hw))
  have tk1_4_v11 := tk1_4_v10.other W11 (Or.inr (sn_69 hw))
  have tk1_5_v11 := tk1_5_v10.other W11 (Or.inr (sn_70 hw))
  have tk1_6_v11 := tk1_6_v10.other W11 (Or.inr (sn_71 hw))
  have tk1_8_v11 := tk1_8_v10.other W11 (Or.inr (sn_75 hw))
  have V_o2_v11 := V_o2_v10.other W11 (Ne.symm ne_o1_o2)
  have V_o3_v11 := V_o3_v10.other W11 (Ne.symm ne_o1_o3)
  have tk1_11_v11 := tk1_11_v10.other W11 (Ne.symm ne_o1_o4)
  have tk1_12_v11 := tk1_12_v10.other W11 (Ne.symm ne_o1_o5)
  have O11 := O10.wr W11 gn_o1
  have K11 : Keep h0 h11 [o5, o4, o3, o2, o1] := K10.wr W11 (Or.inl (List.mem_of_getElem? (i := 4) rfl))
  refine ⟨T11, none, _, _, _, by decide, by decide, X11, (fun _ => rfl), (by rw [e11]; exact ⟨rfl, N11, K11, tk1_0_v11, tk1_1_v11, tk1_2_v11, tk1_3_v11, tk1_4_v11, tk1_5_v11, tk1_6_v11, tk1_7_v11, tk1_8_v11, V_o2_v11, V_o3_v11, tk1_11_v11, tk1_12_v11⟩), fun fs hr => castTop (ef_4 m (.ref o1) rfl) ?_⟩
  show Steps p.tables e below (s₁.setTop (mkF m 0 #[.val (.ref o1), .unset] [])) _
  refine XS.aloadN X0.here hx rfl (hb hby d5_0) rfl rfl ?_
  refine st1.trans ?_
  refine XS.istoreN X1.here hx rfl (hb hby d5_4) rfl (l' := #[.val (.ref o1), .val (.int (1 : Int32))]) rfl ?_
  refine XS.aloadN X1.here hx rfl (hb hby d5_5) rfl rfl ?_
  refine st2 _ ?_
  refine XS.iloadN X2.here hx rfl (hb hby d5_9) rfl ?_
  refine XS.aloadN X2.here hx rfl (hb hby d5_10) rfl rfl ?_
  refine st3 _ ?_
  show Steps p.tables e below (T3.setTop (mkF m 14 #[.val (.ref o1), .val (.int (1 : Int32))] [(.int (0 : Int32)), (.int (1 : Int32)), (.ref o3)])) _
  refine st5 _ ?_
  refine XS.aloadN X5.here hx rfl (hb hby d5_15) rfl rfl ?_
  refine st6 _ ?_
  refine XS.iconst X6.here hx rfl (hb hby d5_19) ?_
  refine XS.icmpYes X6.here hx rfl (pc0 := 20) (pc' := 31) rfl (hb hby d5_20) rfl (feq (by decide : ¬ ((0 : Int32) = (-1 : Int32)))).2 (by decide) (by decide) ?_
  refine XS.aloadN X6.here hx rfl (hb hby d5_31) rfl rfl ?_
  refine st7 _ ?_
  refine XS.aloadN X7.here hx rfl (hb hby d5_35) rfl rfl ?_
  show Steps p.tables e below (T7.setTop (mkF m 36 #[.val (.ref o1), .val (.int (1 : Int32))] [(.ref o1), (.ref o2)])) _
  refine st8 _ ?_
  refine XS.iloadN X8.here hx rfl (hb hby d5_39) rfl ?_
  refine st10 _ ?_
  refine XS.aloadN X10.here hx rfl (hb hby d5_41) rfl rfl ?_
  refine XS.iloadN X10.here hx rfl (hb hby d5_42) rfl ?_
  refine st11 _ ?_
  show Steps p.tables e below (T11.setTop (mkF m 46 #[.val (.ref o1), .val (.int (1 : Int32))] [])) _
  exact X11.returnOut hx hret (hb hby d5_46) hr
set_option maxRecDepth 65536 in
set_option maxHeartbeats 40000000 in
theorem rm_32 (l : Launch) (Z : State) (a0 : Array Value) (hw : ∀ d ∈ tables_1, d.before a0 Z = true) (w : Nat → Addr) (kk : Nat → ClassId) (iw : Nat → Int32) (vw : Nat → Value) (hN : Wd Z w kk iw vw) (ws : List Jvm.Cond) (o1 : Addr) (o2 : Addr) (o3 : Addr) (o4 : Addr) (o5 : Addr) (o6 : Addr) (kc_o2 : ClassId) (kc_o3 : ClassId) (kc_o4 : ClassId) (kc_o5 : ClassId) (o7 : Addr) (kc_o7 : ClassId) (h0 : Heap) (O0 : Old Z Z.heap.size h0) (gn_o1 : Z.heap.size ≤ o1) (lt_o1 : o1 < h0.size) (E_o1 : Exa Z h0 o1 s_0) (gn_o2 : Z.heap.size ≤ o2) (lt_o2 : o2 < h0.size) (F_o1_nextBlock : Fld Z h0 o1 s_0 "nextBlock" "[I" (.ref o2)) (gn_o3 : Z.heap.size ≤ o3) (lt_o3 : o3 < h0.size) (F_o1_previousBlock : Fld Z h0 o1 s_0 s_5 "[I" (.ref o3)) (gn_o4 : Z.heap.size ≤ o4) (lt_o4 : o4 < h0.size) (F_o1_firstPiece : Fld Z h0 o1 s_0 "firstPiece" "[I" (.ref o4)) (gn_o5 : Z.heap.size ≤ o5) (lt_o5 : o5 < h0.size) (F_o1_lastPiece : Fld Z h0 o1 s_0 "lastPiece" "[I" (.ref o5)) (gn_o6 : Z.heap.size ≤ o6) (lt_o6 : o6 < h0.size) (F_o1_closed : Fld Z h0 o1 s_0 "closed" s_3 (.ref o6)) (F_o1_firstBlock : Fld Z h0 o1 s_0 "firstBlock" "I" (.int (0 : Int32))) (F_o1_lastBlock : Fld Z h0 o1 s_0 "lastBlock" "I" (.int (1 : Int32))) (F_o1_blockCount : Fld Z h0 o1 s_0 "blockCount" "I" (.int (2 : Int32))) (V_o2 : Arv Z h0 o2 kc_o2 .int (64 : Int32) [(.int (1 : Int32)), (.int (-1 : Int32))] (.int (0 : Int32))) (V_o3 : Arv Z h0 o3 kc_o3 .int (64 : Int32) [(.int (-1 : Int32)), (.int (0 : Int32))] (.int (0 : Int32))) (V_o4 : Arv Z h0 o4 kc_o4 .int (64 : Int32) [(.int (-1 : Int32)), (.int (-1 : Int32))] (.int (0 : Int32))) (V_o5 : Arv Z h0 o5 kc_o5 .int (64 : Int32) [(.int (-1 : Int32)), (.int (-1 : Int32))] (.int (0 : Int32))) (E_o6 : Exa Z h0 o6 s_1) (F_o6_wordsInUse : Fld Z h0 o6 s_1 "wordsInUse" "I" (.int (0 : Int32))) (F_o6_sizeIsSticky : Fld Z h0 o6 s_1 s_6 "Z" (.int (0 : Int32))) (gn_o7 : Z.heap.size ≤ o7) (lt_o7 : o7 < h0.size) (F_o6_words : Fld Z h0 o6 s_1 "words" "[J" (.ref o7)) (V_o7 : Arv Z h0 o7 kc_o7 .long (1 : Int32) [] (.long (0 : Int64))) (ne_o1_o2 : o1 ≠ o2) (ne_o1_o3 : o1 ≠ o3) (ne_o1_o4 : o1 ≠ o4) (ne_o1_o5 : o1 ≠ o5) (ne_o1_o6 : o1 ≠ o6) (ne_o1_o7 : o1 ≠ o7) (ne_o2_o3 : o2 ≠ o3) (ne_o2_o4 : o2 ≠ o4) (ne_o2_o5 : o2 ≠ o5) (ne_o2_o6 : o2 ≠ o6) (ne_o2_o7 : o2 ≠ o7) (ne_o3_o4 : o3 ≠ o4) (ne_o3_o5 : o3 ≠ o5) (ne_o3_o6 : o3 ≠ o6) (ne_o3_o7 : o3 ≠ o7) (ne_o4_o5 : o4 ≠ o5) (ne_o4_o6 : o4 ≠ o6) (ne_o4_o7 : o4 ≠ o7) (ne_o5_o6 : o5 ≠ o6) (ne_o5_o7 : o5 ≠ o7) (ne_o6_o7 : o6 ≠ o7) :
    Met l Z (⟨s_0, "hasBlocks", "()Z"⟩ : MethodName) (Jvm.Cond.code (⟨s_0, "hasBlocks", "()Z"⟩ : MethodName) prog_20_method_2_code 1 (some .boolean)) ws (Rm 0 0 0 0) #[(.ref o1)] h0 (OQ (some (.int (1 : Int32))) h0 Z.heap.size) := by
  have hN' := hN
  have hL0 : Sta Z Z.heap s_1 s_4 "Z" (.int (1 : Int32)) := hN'
  refine own_body (plainFor_of_name pn_1) hisR ?_
  intro p e s m below meth c s₁ hx hby hml hown hnm hret X0 hZ e0
  have N0 := Fr.nil Z.heap.size
  obtain ⟨T1, X1, e1, st1⟩ := getF X0 hx hZ hown (host := "") (Or.inl (W hw 57 rfl)) Via.refl e0 F_o1_blockCount (g := (mkF m 1 #[.val (.ref o1)] [(.ref o1)])) rfl rfl (hb hby d4_1)
  refine ⟨T1, some (.int (1 : Int32)), _, _, _, by decide, by decide, X1, nofun, (by rw [e1]; exact ⟨rfl, N0, rfl⟩), fun fs hr => castTop (ef_2 m (.ref o1) rfl) ?_⟩
  show Steps p.tables e below (s₁.setTop (mkF m 0 #[.val (.ref o1)] [])) _
  refine XS.aloadN X0.here hx rfl (hb hby d4_0) rfl rfl ?_
  refine st1 _ ?_
  refine XS.ifNo X1.here hx rfl (hb hby d4_4) rfl ((if0 _ _).trans (tlt (by decide : (0 : Int32) < (2 : Int32))).2.2.2) ?_
  refine XS.iconst X1.here hx rfl (hb hby d4_7) ?_
  refine XS.goto X1.here hx rfl (pc0 := 8) (pc' := 12) rfl (hb hby d4_8) (by decide) (by decide) ?_
  show Steps p.tables e below (T1.setTop (mkF m 12 #[.val (.ref o1)] [(.int (1 : Int32))])) _
  exact retN X1 hx (t := .boolean) hret (by simp) (hb hby d4_12) hr
set_option maxRecDepth 65536 in
set_option maxHeartbeats 40000000 in
theorem sg_33 {p : Program} {l : Launch} {e : Env} {s : State} {m : MethodId} {args : Array Value} {below : List Frame} {meth : Method} {c : Code} {T0 : State} {Z : State} {a0 : Array Value} (w : Nat → Addr) (kk : Nat → ClassId) (iw : Nat → Int32) (vw : Nat → Value) (hN : Wd Z w kk iw vw) (i0 : Int32) (i1 : Int32) (i2 : Int32) (i3 : Int32) {h0 : Heap}
    (X0 : Stand p l e room_1 s m args below meth c T0 [] 0 0) (hx : p.tables.exec = Jvm.exec) (hZ : Z.Warmed39 s.vm) (hw : ∀ d ∈ tables_1, d.before a0 Z = true) (hby : c.code = code) (hml : c.maxLocals = 7) (hown : s.vm.findClass s_2 = some m.cls) (e0 : T0.heap = h0) (O0 : Old Z Z.heap.size h0) (N0 : Fr Z.heap.size []) :
    ∃ (T' : State) (L' : List Loc) (c1 : Addr) (c2 : Addr) (c3 : Addr) (c4 : Addr) (c5 : Addr) (c6 : Addr) (c7 : Addr) (kc1 : ClassId) (kc2 : ClassId) (kc3 : ClassId) (kc4 : ClassId) (kc5 : ClassId), Stand p l e room_1 s m args below meth c T' L' 10 467 ∧ (∀ target, Steps p.tables e below (T'.setTop (mkF m 102 #[.val (.int i0), .val (.int i1), .val (.int i2), .val (.int i3), .val (.int (2 : Int32)), .val (.ref c1), .val (.int (1 : Int32))] [])) target → Steps p.tables e below (T0.setTop (mkF m 5 #[.val (.int i0), .val (.int i1), .val (.int i2), .val (.int i3), .val (.int (2 : Int32)), .unset, .unset] [])) target) ∧ Fr Z.heap.size L' ∧ Keep h0 T'.heap [] ∧ h0.size ≤ c1 ∧ h0.size ≤ c2 ∧ h0.size ≤ c3 ∧ h0.size ≤ c4 ∧ h0.size ≤ c5 ∧ h0.size ≤ c6 ∧ h0.size ≤ c7 ∧ c1 ≠ c2 ∧ c1 ≠ c3 ∧ c1 ≠ c4 ∧ c1 ≠ c5 ∧ c1 ≠ c6 ∧ c1 ≠ c7 ∧ c2 ≠ c3 ∧ c2 ≠ c4 ∧ c2 ≠ c5 ∧ c2 ≠ c6 ∧ c2 ≠ c7 ∧ c3 ≠ c4 ∧ c3 ≠ c5 ∧ c3 ≠ c6 ∧ c3 ≠ c7 ∧ c4 ≠ c5 ∧ c4 ≠ c6 ∧ c4 ≠ c7 ∧ c5 ≠ c6 ∧ c5 ≠ c7 ∧ c6 ≠ c7 ∧ Exa Z T'.heap c1 s_0 ∧ Fld Z T'.heap c1 s_0 "nextBlock" "[I" (.ref c2) ∧ Fld Z T'.heap c1 s_0 s_5 "[I" (.ref c3) ∧ Fld Z T'.heap c1 s_0 "firstPiece" "[I" (.ref c4) ∧ Fld Z T'.heap c1 s_0 "lastPiece" "[I" (.ref c5) ∧ Fld Z T'.heap c1 s_0 "closed" s_3 (.ref c6) ∧ Fld Z T'.heap c1 s_0 "firstBlock" "I" (.int (0 : Int32)) ∧ Fld Z T'.heap c1 s_0 "lastBlock" "I" (.int (1 : Int32)) ∧ Fld Z T'.heap c1 s_0 "blockCount" "I" (.int (2 : Int32)) ∧ Arv Z T'.heap c2 kc1 .int (64 : Int32) [(.int (1 : Int32)), (.int (-1 : Int32))] (.int (0 : Int32)) ∧ Arv Z T'.heap c3 kc2 .int (64 : Int32) [(.int (-1 : Int32)), (.int (0 : Int32))] (.int (0 : Int32)) ∧ Arv Z T'.heap c4 kc3 .int (64 : Int32) [(.int (-1 : Int32)), (.int (-1 : Int32))] (.int (0 : Int32)) ∧ Arv Z T'.heap c5 kc4 .int (64 : Int32) [(.int (-1 : Int32)), (.int (-1 : Int32))] (.int (0 : Int32)) ∧ Exa Z T'.heap c6 s_1 ∧ Fld Z T'.heap c6 s_1 "wordsInUse" "I" (.int (0 : Int32)) ∧ Fld Z T'.heap c6 s_1 s_6 "Z" (.int (0 : Int32)) ∧ Fld Z T'.heap c6 s_1 "words" "[J" (.ref c7) ∧ Arv Z T'.heap c7 kc5 .long (1 : Int32) [] (.long (0 : Int64)) := by
  have hN' := hN
  have hL0 : Sta Z Z.heap s_1 s_4 "Z" (.int (1 : Int32)) := hN'
  have K0 : Keep h0 h0 [] := Keep.refl _ _
  obtain ⟨T1, h1, X1, e1, E1, A1, D1, -, st1⟩ := newO X0 hx hZ hown (W hw 0 rfl) (W hw 1 rfl) (W hw 2 rfl) e0 (g := (mkF m 5 #[.val (.int i0), .val (.int i1), .val (.int i2), .val (.int i3), .val (.int (2 : Int32)), .unset, .unset] [])) rfl (hb hby at_5) (by decide) (by decide)
  obtain ⟨b1, g1⟩ : ∃ z, z = h0.size := ⟨_, rfl⟩
  rw [← g1] at A1 st1 D1
  have gn_b1 : Z.heap.size ≤ b1 := Nat.le_trans O0.2.1 (Nat.le_of_eq g1.symm)
  have sz_b1 : h0.size ≤ b1 := Nat.le_trans K0.1 (Nat.le_of_eq g1.symm)
  have O1 := O0.ext E1
  have K1 := K0.ext E1
  have E_b1_v1 := A1
  have F_b1_nextBlock_v1 : Fld Z h1 b1 s_0 "nextBlock" "[I" .null := D1 (Or.inl (W hw 11 rfl)) (ty := (.array .int)) (by decide)
  have F_b1_previousBlock_v1 : Fld Z h1 b1 s_0 s_5 "[I" .null := D1 (Or.inl (W hw 13 rfl)) (ty := (.array .int)) (by decide)
  have F_b1_firstPiece_v1 : Fld Z h1 b1 s_0 "firstPiece" "[I" .null := D1 (Or.inl (W hw 15 rfl)) (ty := (.array .int)) (by decide)
  have F_b1_lastPiece_v1 : Fld Z h1 b1 s_0 "lastPiece" "[I" .null := D1 (Or.inl (W hw 17 rfl)) (ty := (.array .int)) (by decide)
  have F_b1_closed_v1 : Fld Z h1 b1 s_0 "closed" s_3 .null := D1 (Or.inr (W hw 41 rfl)) (ty := (.object s_1)) (by decide)
  have F_b1_firstBlock_v1 : Fld Z h1 b1 s_0 "firstBlock" "I" (.int (0 : Int32)) := D1 (Or.inl (W hw 43 rfl)) (ty := .int) (by decide)
  have F_b1_lastBlock_v1 : Fld Z h1 b1 s_0 "lastBlock" "I" (.int (0 : Int32)) := D1 (Or.inl (W hw 45 rfl)) (ty := .int) (by decide)
  have F_b1_pieceStart_v1 : Fld Z h1 b1 s_0 "pieceStart" "[J" .null := D1 (Or.inl (W hw 47 rfl)) (ty := (.array .long)) (by decide)
  have F_b1_pieceLength_v1 : Fld Z h1 b1 s_0 "pieceLength" "[I" .null := D1 (Or.inl (W hw 49 rfl)) (ty := (.array .int)) (by decide)
  have F_b1_nextPiece_v1 : Fld Z h1 b1 s_0 "nextPiece" "[I" .null := D1 (Or.inl (W hw 51 rfl)) (ty := (.array .int)) (by decide)
  have F_b1_blockCount_v1 : Fld Z h1 b1 s_0 "blockCount" "I" (.int (0 : Int32)) := D1 (Or.inl (W hw 58 rfl)) (ty := .int) (by decide)
  obtain ⟨_, _, ⟨T2, L2, k2, n2⟩, -, X2, ⟨Lc2, hQ2, l2, y2, z2⟩, st2⟩ := X1.specialBack hx (y := (⟨s_0, "<init>", "()V"⟩ : MethodName)) rfl hown (mvT hZ (W hw 3 rfl)) (mvT hZ (W hw 4 rfl)) (mvT hZ (W hw 5 rfl)) (by decide) (backOf (W := 1) (rm_4 l Z a0 hw w kk iw vw hN [] b1 h1 O1 gn_b1 E_b1_v1.lt E_b1_v1 F_b1_nextBlock_v1 F_b1_previousBlock_v1 F_b1_firstPiece_v1 F_b1_lastPiece_v1 F_b1_closed_v1 F_b1_firstBlock_v1 F_b1_lastBlock_v1 F_b1_pieceStart_v1 F_b1_pieceLength_v1 F_b1_nextPiece_v1 F_b1_blockCount_v1) hZ (W hw 5 rfl) (W hw 2 rfl) (by decide) (by decide)) (g := (mkF m 9 #[.val (.int i0), .val (.int i1), .val (.int i2), .val (.int i3), .val (.int (2 : Int32)), .unset, .unset] [(.ref b1), (.ref b1)])) rfl (by rw [hml]; rfl) (Steps.refl _) (a := b1) (argsL := []) (rest := [(.ref b1)]) (lenOf pd_2 rfl) rfl (by show 2 * 0 + _ ≤ _; exact Nat.le_of_eq rfl) (hb hby at_9) (fun _ _ => ⟨rfl, e1, (by decide : 1 + 9 ≤ _), (by decide : 15 + 452 ≤ _)⟩)
  dsimp only [Pt.U, Pt.locs, Pt.cells, Pt.slots] at X2 l2 y2 z2 st2 hQ2
  subst l2 y2 z2
  obtain ⟨b2_0, b2_1, b2_2, b2_3, b2_4, b2_5, b2_6, b2_7, b2_8, kb2_0, kb2_1, kb2_2, kb2_3, kb2_4, kb2_5, kb2_6, kb2_7, rfl, N2q, Kq2, tk2_0, tk2_1, tk2_2, tk2_3, tk2_4, tk2_5, tk2_6, tk2_7, tk2_8, tk2_9, tk2_10, tk2_11, tk2_12, tk2_13, tk2_14, tk2_15, tk2_16, tk2_17, tk2_18, tk2_19, tk2_20, tk2_21, tk2_22, tk2_23, tk2_24, tk2_25, tk2_26, tk2_27, tk2_28, tk2_29, tk2_30, tk2_31, tk2_32, tk2_33, tk2_34, tk2_35, tk2_36, tk2_37, tk2_38, tk2_39, tk2_40, tk2_41, tk2_42, tk2_43, tk2_44, tk2_45, tk2_46, tk2_47, tk2_48, tk2_49, tk2_50, tk2_51, tk2_52, tk2_53, tk2_54, tk2_55, tk2_56, tk2_57, tk2_58, tk2_59, tk2_60, tk2_61, tk2_62, tk2_63, tk2_64, tk2_65, tk2_66, tk2_67, tk2_68⟩ := hQ2
  have N2 := Fr.app N0 N2q
  have gn_b2_0 : Z.heap.size ≤ b2_0 := Nat.le_trans O1.2.1 tk2_0
  have sz_b2_0 : h0.size ≤ b2_0 := Nat.le_trans K1.1 tk2_0
  have ne_b1_b2_0 : b1 ≠ b2_0 := Nat.ne_of_lt (Nat.lt_of_lt_of_le E_b1_v1.lt tk2_0)
  have gn_b2_1 : Z.heap.size ≤ b2_1 := Nat.le_trans O1.2.1 tk2_1
  have sz_b2_1 : h0.size ≤ b2_1 := Nat.le_trans K1.1 tk2_1
  have ne_b1_b2_1 : b1 ≠ b2_1 := Nat.ne_of_lt (Nat.lt_of_lt_of_le E_b1_v1.lt tk2_1)
  have gn_b2_2 : Z.heap.size ≤ b2_2 := Nat.le_trans O1.2.1 tk2_2
  have sz_b2_2 : h0.size ≤ b2_2 := Nat.le_trans K1.1 tk2_2
  have ne_b1_b2_2 : b1 ≠ b2_2 := Nat.ne_of_lt (Nat.lt_of_lt_of_le E_b1_v1.lt tk2_2)
  have gn_b2_3 : Z.heap.size ≤ b2_3 := Nat.le_trans O1.2.1 tk2_3
  have sz_b2_3 : h0.size ≤ b2_3 := Nat.le_trans K1.1 tk2_3
  have ne_b1_b2_3 : b1 ≠ b2_3 := Nat.ne_of_lt (Nat.lt_of_lt_of_le E_b1_v1.lt tk2_3)
  have gn_b2_4 : Z.heap.size ≤ b2_4 := Nat.le_trans O1.2.1 tk2_4
  have sz_b2_4 : h0.size ≤ b2_4 := Nat.le_trans K1.1 tk2_4
  have ne_b1_b2_4 : b1 ≠ b2_4 := Nat.ne_of_lt (Nat.lt_of_lt_of_le E_b1_v1.lt tk2_4)
  have gn_b2_5 : Z.heap.size ≤ b2_5 := Nat.le_trans O1.2.1 tk2_5
  have sz_b2_5 : h0.size ≤ b2_5 := Nat.le_trans K1.1 tk2_5
  have ne_b1_b2_5 : b1 ≠ b2_5 := Nat.ne_of_lt (Nat.lt_of_lt_of_le E_b1_v1.lt tk2_5)
  have gn_b2_6 : Z.heap.size ≤ b2_6 := Nat.le_trans O1.2.1 tk2_6
  have sz_b2_6 : h0.size ≤ b2_6 := Nat.le_trans K1.1 tk2_6
  have ne_b1_b2_6 : b1 ≠ b2_6 := Nat.ne_of_lt (Nat.lt_of_lt_of_le E_b1_v1.lt tk2_6)
  have gn_b2_7 : Z.heap.size ≤ b2_7 := Nat.le_trans O1.2.1 tk2_7
  have sz_b2_7 : h0.size ≤ b2_7 := Nat.le_trans K1.1 tk2_7
  have ne_b1_b2_7 : b1 ≠ b2_7 := Nat.ne_of_lt (Nat.lt_of_lt_of_le E_b1_v1.lt tk2_7)
  have gn_b2_8 : Z.heap.size ≤ b2_8 := Nat.le_trans O1.2.1 tk2_8
  have sz_b2_8 : h0.size ≤ b2_8 := Nat.le_trans K1.1 tk2_8
  have ne_b1_b2_8 : b1 ≠ b2_8 := Nat.ne_of_lt (Nat.lt_of_lt_of_le E_b1_v1.lt tk2_8)
  have E_b1_v2 := E_b1_v1.keep Kq2
  have O2 := O1.keep Kq2 (allS gn_b1 all0)
  have K2 : Keep h0 T2.heap [] := K1.trans Kq2 (allS (Or.inr sz_b1) all0)
  obtain ⟨cq3, kq3, q3a, q3b, q3c⟩ := isOf hZ rfl tk2_45
  obtain ⟨_, _, ⟨T3, L3, k3, n3⟩, -, X3, ⟨Lc3, hQ3, l3, y3, z3⟩, st3⟩ := X2.virtualBack hx (y := (⟨s_0, "hasBlocks", "()Z"⟩ : MethodName)) (z := (⟨s_0, "hasBlocks", "()Z"⟩ : MethodName)) hown (mvT hZ (W hw 52 rfl)) (mvT hZ (W hw 53 rfl)) (notFace_of_selects (args := #[]) (mvT hZ (W hw 55 rfl))) (mvT hZ (W hw 55 rfl)) (mvT hZ (W hw 54 rfl)) (by decide) (backOf (W := 0) (rm_5 l Z a0 hw w kk iw vw hN [] b1 b2_0 b2_1 b2_2 b2_3 b2_4 kb2_0 kb2_1 kb2_2 kb2_3 b2_8 kb2_7 T2.heap O2 gn_b1 tk2_45.lt tk2_45 gn_b2_0 tk2_57.lt tk2_46 gn_b2_1 tk2_58.lt tk2_47 gn_b2_2 tk2_59.lt tk2_48 gn_b2_3 tk2_60.lt tk2_49 gn_b2_4 tk2_61.lt tk2_50 tk2_51 tk2_52 tk2_56 tk2_57 tk2_58 tk2_59 tk2_60 tk2_61 tk2_62 tk2_63 gn_b2_8 tk2_68.lt tk2_64 tk2_68 ne_b1_b2_0 ne_b1_b2_1 ne_b1_b2_2 ne_b1_b2_3 ne_b1_b2_4 ne_b1_b2_8 tk2_9 tk2_10 tk2_11 tk2_12 tk2_16 tk2_17 tk2_18 tk2_19 tk2_23 tk2_24 tk2_25 tk2_29 tk2_30 tk2_34 tk2_38) hZ (W hw 56 rfl) (W hw 2 rfl) (by decide) (by decide)) q3a q3c (g := (mkF m 16 #[.val (.int i0), .val (.int i1), .val (.int i2), .val (.int i3), .val (.int (2 : Int32)), .val (.ref b1), .unset] [(.ref b1)])) rfl (by rw [hml]; rfl) (Steps.refl _) (argsL := []) (rest := []) (lenOf pd_3 rfl) rfl (by show 2 * 0 + _ ≤ _; exact Nat.le_of_eq rfl) (hb hby at_16) (fun _ _ => ⟨rfl, rfl, (by decide : 10 + 0 ≤ _), (by decide : 467 + 0 ≤ _)⟩)
  dsimp only [Pt.U, Pt.locs, Pt.cells, Pt.slots] at X3 l3 y3 z3 st3 hQ3
  subst l3 y3 z3
  obtain ⟨rfl, N3q, e3⟩ := hQ3
  have N3 := Fr.app N2 N3q
  obtain ⟨cq4, kq4, q4a, q4b, q4c⟩ := isOf hZ e3 tk2_45
  obtain ⟨_, _, ⟨T4, L4, k4, n4⟩, -, X4, ⟨Lc4, hQ4, l4, y4, z4⟩, st4⟩ := X3.virtualBack hx (y := (⟨s_0, "addBlock", "()V"⟩ : MethodName)) (z := (⟨s_0, "addBlock", "()V"⟩ : MethodName)) hown (mvT hZ (W hw 59 rfl)) (mvT hZ (W hw 60 rfl)) (notFace_of_selects (args := #[]) (mvT hZ (W hw 62 rfl))) (mvT hZ (W hw 62 rfl)) (mvT hZ (W hw 61 rfl)) (by decide) (backOf (W := 0) (rm_9 l Z a0 hw w kk iw vw hN [] b1 b2_0 b2_1 b2_2 b2_3 b2_4 kb2_0 kb2_1 kb2_2 kb2_3 b2_8 kb2_7 T2.heap O2 gn_b1 tk2_45.lt tk2_45 gn_b2_0 tk2_57.lt tk2_46 gn_b2_1 tk2_58.lt tk2_47 gn_b2_2 tk2_59.lt tk2_48 gn_b2_3 tk2_60.lt tk2_49 gn_b2_4 tk2_61.lt tk2_50 tk2_51 tk2_52 tk2_56 tk2_57 tk2_58 tk2_59 tk2_60 tk2_61 tk2_62 tk2_63 gn_b2_8 tk2_68.lt tk2_64 tk2_68 ne_b1_b2_0 ne_b1_b2_1 ne_b1_b2_2 ne_b1_b2_3 ne_b1_b2_4 ne_b1_b2_8 tk2_9 tk2_10 tk2_11 tk2_12 tk2_16 tk2_17 tk2_18 tk2_19 tk2_23 tk2_24 tk2_25 tk2_29 tk2_30 tk2_34 tk2_38) hZ (W hw 63 rfl) (W hw 2 rfl) (by decide) (by decide)) q4a q4c (g := (mkF m 37 #[.val (.int i0), .val (.int i1), .val (.int i2), .val (.int i3), .val (.int (2 : Int32)), .val (.ref b1), .val (.int (1 : Int32))] [(.ref b1)])) rfl (by rw [hml]; rfl) (Steps.refl _) (argsL := []) (rest := []) (lenOf pd_2 rfl) rfl (by show 2 * 0 + _ ≤ _; exact Nat.le_of_eq rfl) (hb hby at_37) (fun _ _ => ⟨rfl, e3, (by decide : 10 + 0 ≤ _), (by decide : 467 + 0 ≤ _)⟩)
  dsimp only [Pt.U, Pt.locs, Pt.cells, Pt.slots] at X4 l4 y4 z4 st4 hQ4
  subst l4 y4 z4
  obtain ⟨rfl, N4q, Kq4, tk4_0, tk4_1, tk4_2, tk4_3, tk4_4, tk4_5, tk4_6, tk4_7, tk4_8, tk4_9, tk4_10, tk4_11, tk4_12⟩ := hQ4
  have N4 := Fr.app N3 N4q
  have tk2_45_v4 := tk2_45.keep Kq4
  have tk2_61_v4 := tk2_61.keep Kq4
  have tk2_62_v4 := tk2_62.keep Kq4 (ninS (Ne.symm tk2_30) (ninS (Ne.symm tk2_25) (ninS (Ne.symm tk2_19) (ninS (Ne.symm tk2_12) (ninS (Ne.symm ne_b1_b2_4) nin0)))))
  have tk2_63_v4 := tk2_63.keep Kq4 (ninS (Ne.symm tk2_30) (ninS (Ne.symm tk2_25) (ninS (Ne.symm tk2_19) (ninS (Ne.symm tk2_12) (ninS (Ne.symm ne_b1_b2_4) nin0)))))
  have tk2_64_v4 := tk2_64.keep Kq4 (ninS (Ne.symm tk2_30) (ninS (Ne.symm tk2_25) (ninS (Ne.symm tk2_19) (ninS (Ne.symm tk2_12) (ninS (Ne.symm ne_b1_b2_4) nin0)))))
  have tk2_68_v4 := tk2_68.keep Kq4 (ninS (Ne.symm tk2_34) (ninS (Ne.symm tk2_29) (ninS (Ne.symm tk2_23) (ninS (Ne.symm tk2_16) (ninS (Ne.symm ne_b1_b2_8) nin0)))))
  have O4 := O2.keep Kq4 (allS gn_b2_3 (allS gn_b2_2 (allS gn_b2_1 (allS gn_b2_0 (allS gn_b1 all0)))))
  have K4 : Keep h0 T4.heap [] := K2.trans Kq4 (allS (Or.inr sz_b2_3) (allS (Or.inr sz_b2_2) (allS (Or.inr sz_b2_1) (allS (Or.inr sz_b2_0) (allS (Or.inr sz_b1) all0)))))
  obtain ⟨cq5, kq5, q5a, q5b, q5c⟩ := isOf hZ rfl tk4_0
  obtain ⟨_, _, ⟨T5, L5, k5, n5⟩, -, X5, ⟨Lc5, hQ5, l5, y5, z5⟩, st5⟩ := X4.virtualBack hx (y := (⟨s_0, "hasBlocks", "()Z"⟩ : MethodName)) (z := (⟨s_0, "hasBlocks", "()Z"⟩ : MethodName)) hown (mvT hZ (W hw 52 rfl)) (mvT hZ (W hw 53 rfl)) (notFace_of_selects (args := #[]) (mvT hZ (W hw 55 rfl))) (mvT hZ (W hw 55 rfl)) (mvT hZ (W hw 54 rfl)) (by decide) (backOf (W := 0) (rm_10 l Z a0 hw w kk iw vw hN [] b1 b2_0 b2_1 b2_2 b2_3 b2_4 kb2_0 kb2_1 kb2_2 kb2_3 b2_8 kb2_7 T4.heap O4 gn_b1 tk4_0.lt tk4_0 gn_b2_0 tk4_9.lt tk4_1 gn_b2_1 tk4_10.lt tk4_2 gn_b2_2 tk4_11.lt tk4_3 gn_b2_3 tk4_12.lt tk4_4 gn_b2_4 tk2_61_v4.lt tk4_5 tk4_6 tk4_7 tk4_8 tk4_9 tk4_10 tk4_11 tk4_12 tk2_61_v4 tk2_62_v4 tk2_63_v4 gn_b2_8 tk2_68_v4.lt tk2_64_v4 tk2_68_v4 ne_b1_b2_0 ne_b1_b2_1 ne_b1_b2_2 ne_b1_b2_3 ne_b1_b2_4 ne_b1_b2_8 tk2_9 tk2_10 tk2_11 tk2_12 tk2_16 tk2_17 tk2_18 tk2_19 tk2_23 tk2_24 tk2_25 tk2_29 tk2_30 tk2_34 tk2_38) hZ (W hw 56 rfl) (W hw 2 rfl) (by decide) (by decide)) q5a q5c (g := (mkF m 47 #[.val (.int i0), .val (.int i1), .val (.int i2), .val (.int i3), .val (.int (2 : Int32)), .val (.ref b1), .val (.int (1 : Int32))] [(.ref b1)])) rfl (by rw [hml]; rfl) (Steps.refl _) (argsL := []) (rest := []) (lenOf pd_3 rfl) rfl (by show 2 * 0 + _ ≤ _; exact Nat.le_of_eq rfl) (hb hby at_47) (fun _ _ => ⟨rfl, rfl, (by decide : 10 + 0 ≤ _), (by decide : 467 + 0 ≤ _)⟩)
  dsimp only [Pt.U, Pt.locs, Pt.cells, Pt.slots] at X5 l5 y5 z5 st5 hQ5
  subst l5 y5 z5
  obtain ⟨rfl, N5q, e5⟩ := hQ5
  have N5 := Fr.app N4 N5q
  obtain ⟨cq6, kq6, q6a, q6b, q6c⟩ := isOf hZ e5 tk4_0
  obtain ⟨_, _, ⟨T6, L6, k6, n6⟩, -, X6, ⟨Lc6, hQ6, l6, y6, z6⟩, st6⟩ := X5.virtualBack hx (y := (⟨s_0, "addBlock", "()V"⟩ : MethodName)) (z := (⟨s_0, "addBlock", "()V"⟩ : MethodName)) hown (mvT hZ (W hw 59 rfl)) (mvT hZ (W hw 60 rfl)) (notFace_of_selects (args := #[]) (mvT hZ (W hw 62 rfl))) (mvT hZ (W hw 62 rfl)) (mvT hZ (W hw 61 rfl)) (by decide) (backOf (W := 0) (rm_31 l Z a0 hw w kk iw vw hN [] b1 b2_0 b2_1 b2_2 b2_3 b2_4 kb2_0 kb2_1 kb2_2 kb2_3 b2_8 kb2_7 T4.heap O4 gn_b1 tk4_0.lt tk4_0 gn_b2_0 tk4_9.lt tk4_1 gn_b2_1 tk4_10.lt tk4_2 gn_b2_2 tk4_11.lt tk4_3 gn_b2_3 tk4_12.lt tk4_4 gn_b2_4 tk2_61_v4.lt tk4_5 tk4_6 tk4_7 tk4_8 tk4_9 tk4_10 tk4_11 tk4_12 tk2_61_v4 tk2_62_v4 tk2_63_v4 gn_b2_8 tk2_68_v4.lt tk2_64_v4 tk2_68_v4 ne_b1_b2_0 ne_b1_b2_1 ne_b1_b2_2 ne_b1_b2_3 ne_b1_b2_4 ne_b1_b2_8 tk2_9 tk2_10 tk2_11 tk2_12 tk2_16 tk2_17 tk2_18 tk2_19 tk2_23 tk2_24 tk2_25 tk2_29 tk2_30 tk2_34 tk2_38) hZ (W hw 63 rfl) (W hw 2 rfl) (by decide) (by decide)) q6a q6c (g := (mkF m 68 #[.val (.int i0), .val (.int i1), .val (.int i2), .val (.int i3), .val (.int (2 : Int32)), .val (.ref b1), .val (.int (1 : Int32))] [(.ref b1)])) rfl (by rw [hml]; rfl) (Steps.refl _) (argsL := []) (rest := []) (lenOf pd_2 rfl) rfl (by show 2 * 0 + _ ≤ _; exact Nat.le_of_eq rfl) (hb hby at_68) (fun _ _ => ⟨rfl, e5, (by decide : 10 + 0 ≤ _), (by decide : 467 + 0 ≤ _)⟩)
  dsimp only [Pt.U, Pt.locs, Pt.cells, Pt.slots] at X6 l6 y6 z6 st6 hQ6
  subst l6 y6 z6
  obtain ⟨rfl, N6q, Kq6, tk6_0, tk6_1, tk6_2, tk6_3, tk6_4, tk6_5, tk6_6, tk6_7, tk6_8, tk6_9, tk6_10, tk6_11, tk6_12⟩ := hQ6
  have N6 := Fr.app N5 N6q
  have tk4_0_v6 := tk4_0.keep Kq6
  have tk2_61_v6 := tk2_61_v4.keep Kq6
  have tk2_62_v6 := tk2_62_v4.keep Kq6 (ninS (Ne.symm tk2_30) (ninS (Ne.symm tk2_25) (ninS (Ne.symm tk2_19) (ninS (Ne.symm tk2_12) (ninS (Ne.symm ne_b1_b2_4) nin0)))))
  have tk2_63_v6 := tk2_63_v4.keep Kq6 (ninS (Ne.symm tk2_30) (ninS (Ne.symm tk2_25) (ninS (Ne.symm tk2_19) (ninS (Ne.symm tk2_12) (ninS (Ne.symm ne_b1_b2_4) nin0)))))
  have tk2_64_v6 := tk2_64_v4.keep Kq6 (ninS (Ne.symm tk2_30) (ninS (Ne.symm tk2_25) (ninS (Ne.symm tk2_19) (ninS (Ne.symm tk2_12) (ninS (Ne.symm ne_b1_b2_4) nin0)))))
  have tk2_68_v6 := tk2_68_v4.keep Kq6 (ninS (Ne.symm tk2_34) (ninS (Ne.symm tk2_29) (ninS (Ne.symm tk2_23) (ninS (Ne.symm tk2_16) (ninS (Ne.symm ne_b1_b2_8) nin0)))))
  have O6 := O4.keep Kq6 (allS gn_b2_3 (allS gn_b2_2 (allS gn_b2_1 (allS gn_b2_0 (allS gn_b1 all0)))))
  have K6 : Keep h0 T6.heap [] := K4.trans Kq6 (allS (Or.inr sz_b2_3) (allS (Or.inr sz_b2_2) (allS (Or.inr sz_b2_1) (allS (Or.inr sz_b2_0) (allS (Or.inr sz_b1) all0)))))
  obtain ⟨cq7, kq7, q7a, q7b, q7c⟩ := isOf hZ rfl tk6_0
  obtain ⟨_, _, ⟨T7, L7, k7, n7⟩, -, X7, ⟨Lc7, hQ7, l7, y7, z7⟩, st7⟩ := X6.virtualBack hx (y := (⟨s_0, "hasBlocks", "()Z"⟩ : MethodName)) (z := (⟨s_0, "hasBlocks", "()Z"⟩ : MethodName)) hown (mvT hZ (W hw 52 rfl)) (mvT hZ (W hw 53 rfl)) (notFace_of_selects (args := #[]) (mvT hZ (W hw 55 rfl))) (mvT hZ (W hw 55 rfl)) (mvT hZ (W hw 54 rfl)) (by decide) (backOf (W := 0) (rm_32 l Z a0 hw w kk iw vw hN [] b1 b2_0 b2_1 b2_2 b2_3 b2_4 kb2_0 kb2_1 kb2_2 kb2_3 b2_8 kb2_7 T6.heap O6 gn_b1 tk6_0.lt tk6_0 gn_b2_0 tk6_9.lt tk6_1 gn_b2_1 tk6_10.lt tk6_2 gn_b2_2 tk6_11.lt tk6_3 gn_b2_3 tk6_12.lt tk6_4 gn_b2_4 tk2_61_v6.lt tk6_5 tk6_6 tk6_7 tk6_8 tk6_9 tk6_10 tk6_11 tk6_12 tk2_61_v6 tk2_62_v6 tk2_63_v6 gn_b2_8 tk2_68_v6.lt tk2_64_v6 tk2_68_v6 ne_b1_b2_0 ne_b1_b2_1 ne_b1_b2_2 ne_b1_b2_3 ne_b1_b2_4 ne_b1_b2_8 tk2_9 tk2_10 tk2_11 tk2_12 tk2_16 tk2_17 tk2_18 tk2_19 tk2_23 tk2_24 tk2_25 tk2_29 tk2_30 tk2_34 tk2_38) hZ (W hw 56 rfl) (W hw 2 rfl) (by decide) (by decide)) q7a q7c (g := (mkF m 78 #[.val (.int i0), .val (.int i1), .val (.int i2), .val (.int i3), .val (.int (2 : Int32)), .val (.ref b1), .val (.int (1 : Int32))] [(.ref b1)])) rfl (by rw [hml]; rfl) (Steps.refl _) (argsL := []) (rest := []) (lenOf pd_3 rfl) rfl (by show 2 * 0 + _ ≤ _; exact Nat.le_of_eq rfl) (hb hby at_78) (fun _ _ => ⟨rfl, rfl, (by decide : 10 + 0 ≤ _), (by decide : 467 + 0 ≤ _)⟩)
  dsimp only [Pt.U, Pt.locs, Pt.cells, Pt.slots] at X7 l7 y7 z7 st7 hQ7
  subst l7 y7 z7
  obtain ⟨rfl, N7q, e7⟩ := hQ7
  have N7 := Fr.app N6 N7q
  refine ⟨T7, _, b1, b2_0, b2_1, b2_2, b2_3, b2_4, b2_8, kb2_0, kb2_1, kb2_2, kb2_3, kb2_7, X7, fun target kt => ?_, N7, (by rw [e7]; exact ⟨K6, sz_b1, sz_b2_0, sz_b2_1, sz_b2_2, sz_b2_3, sz_b2_4, sz_b2_8, ne_b1_b2_0, ne_b1_b2_1, ne_b1_b2_2, ne_b1_b2_3, ne_b1_b2_4, ne_b1_b2_8, tk2_9, tk2_10, tk2_11, tk2_12, tk2_16, tk2_17, tk2_18, tk2_19, tk2_23, tk2_24, tk2_25, tk2_29, tk2_30, tk2_34, tk2_38, tk6_0, tk6_1, tk6_2, tk6_3, tk6_4, tk6_5, tk6_6, tk6_7, tk6_8, tk6_9, tk6_10, tk6_11, tk6_12, tk2_61_v6, tk2_62_v6, tk2_63_v6, tk2_64_v6, tk2_68_v6⟩)⟩
  show Steps p.tables e below (T0.setTop (mkF m 5 #[.val (.int i0), .val (.int i1), .val (.int i2), .val (.int i3), .val (.int (2 : Int32)), .unset, .unset] [])) _
  refine st1 _ ?_
  refine XS.dup X1.here hx rfl (hb hby at_8) rfl rfl ?_
  refine st2.trans ?_
  refine XS.astore X2.here hx rfl (hb hby at_12) rfl rfl (l' := #[.val (.int i0), .val (.int i1), .val (.int i2), .val (.int i3), .val (.int (2 : Int32)), .val (.ref b1), .unset]) rfl ?_
  refine XS.aload X2.here hx rfl (hb hby at_14) rfl rfl ?_
  refine st3.trans ?_
  refine XS.ifNo X3.here hx rfl (hb hby at_19) rfl ((if0 _ _).trans (teq (by decide : (0 : Int32) = (0 : Int32))).2) ?_
  refine XS.iconst X3.here hx rfl (hb hby at_22) ?_
  show Steps p.tables e below (T3.setTop (mkF m 23 #[.val (.int i0), .val (.int i1), .val (.int i2), .val (.int i3), .val (.int (2 : Int32)), .val (.ref b1), .unset] [(.int (1 : Int32))])) _
  refine XS.goto X3.here hx rfl (pc0 := 23) (pc' := 27) rfl (hb hby at_23) (by decide) (by decide) ?_
  refine XS.istore X3.here hx rfl (hb hby at_27) rfl (l' := #[.val (.int i0), .val (.int i1), .val (.int i2), .val (.int i3), .val (.int (2 : Int32)), .val (.ref b1), .val (.int (1 : Int32))]) rfl ?_
  refine XS.iload X3.here hx rfl (hb hby at_29) rfl ?_
  refine XS.iconst X3.here hx rfl (hb hby at_31) ?_
  refine XS.icmpNo X3.here hx rfl (hb hby at_32) rfl (flt (by decide : ¬ ((2 : Int32) < (1 : Int32)))).1 ?_
  refine XS.aload X3.here hx rfl (hb hby at_35) rfl rfl ?_
  refine st4.trans ?_
  refine XS.iload X4.here hx rfl (hb hby at_40) rfl ?_
  show Steps p.tables e below (T4.setTop (mkF m 42 #[.val (.int i0), .val (.int i1), .val (.int i2), .val (.int i3), .val (.int (2 : Int32)), .val (.ref b1), .val (.int (1 : Int32))] [(.int (1 : Int32))])) _
  refine XS.ifNo X4.here hx rfl (hb hby at_42) rfl ((if0 _ _).trans (feq (by decide : ¬ ((1 : Int32) = (0 : Int32)))).1) ?_
  refine XS.aload X4.here hx rfl (hb hby at_45) rfl rfl ?_
  refine st5.trans ?_
  refine XS.ifNo X5.here hx rfl (hb hby at_50) rfl ((if0 _ _).trans (feq (by decide : ¬ ((1 : Int32) = (0 : Int32)))).1) ?_
  refine XS.iconst X5.here hx rfl (hb hby at_53) ?_
  refine XS.goto X5.here hx rfl (pc0 := 54) (pc' := 58) rfl (hb hby at_54) (by decide) (by decide) ?_
  refine XS.istore X5.here hx rfl (hb hby at_58) rfl (l' := #[.val (.int i0), .val (.int i1), .val (.int i2), .val (.int i3), .val (.int (2 : Int32)), .val (.ref b1), .val (.int (1 : Int32))]) rfl ?_
  refine XS.iload X5.here hx rfl (hb hby at_60) rfl ?_
  show Steps p.tables e below (T5.setTop (mkF m 62 #[.val (.int i0), .val (.int i1), .val (.int i2), .val (.int i3), .val (.int (2 : Int32)), .val (.ref b1), .val (.int (1 : Int32))] [(.int (2 : Int32))])) _
  refine XS.iconst X5.here hx rfl (hb hby at_62) ?_
  refine XS.icmpNo X5.here hx rfl (hb hby at_63) rfl (flt (by decide : ¬ ((2 : Int32) < (2 : Int32)))).1 ?_
  refine XS.aload X5.here hx rfl (hb hby at_66) rfl rfl ?_
  refine st6.trans ?_
  refine XS.iload X6.here hx rfl (hb hby at_71) rfl ?_
  refine XS.ifNo X6.here hx rfl (hb hby at_73) rfl ((if0 _ _).trans (feq (by decide : ¬ ((1 : Int32) = (0 : Int32)))).1) ?_
  refine XS.aload X6.here hx rfl (hb hby at_76) rfl rfl ?_
  refine st7.trans ?_
  show Steps p.tables e below (T7.setTop (mkF m 81 #[.val (.int i0), .val (.int i1), .val (.int i2), .val (.int i3), .val (.int (2 : Int32)), .val (.ref b1), .val (.int (1 : Int32))] [(.int (1 : Int32))])) _
  refine XS.ifNo X7.here hx rfl (hb hby at_81) rfl ((if0 _ _).trans (feq (by decide : ¬ ((1 : Int32) = (0 : Int32)))).1) ?_
  refine XS.iconst X7.here hx rfl (hb hby at_84) ?_
  refine XS.goto X7.here hx rfl (pc0 := 85) (pc' := 89) rfl (hb hby at_85) (by decide) (by decide) ?_
  refine XS.istore X7.here hx rfl (hb hby at_89) rfl (l' := #[.val (.int i0), .val (.int i1), .val (.int i2), .val (.int i3), .val (.int (2 : Int32)), .val (.ref b1), .val (.int (1 : Int32))]) rfl ?_
  refine XS.iload X7.here hx rfl (hb hby at_91) rfl ?_
  refine XS.iconst X7.here hx rfl (hb hby at_93) ?_
  refine XS.icmpYes X7.here hx rfl (pc0 := 94) (pc' := 102) rfl (hb hby at_94) rfl (tlt (by decide : (2 : Int32) < (3 : Int32))).1 (by decide) (by decide) ?_
  exact kt
set_option maxRecDepth 65536 in
set_option maxHeartbeats 40000000 in
theorem law_34 (l : Launch) (Z : State) (a0 : Array Value) (hw : ∀ d ∈ tables_1, d.before a0 Z = true) (w : Nat → Addr) (kk : Nat → ClassId) (iw : Nat → Int32) (vw : Nat → Value) (hN : Wd Z w kk iw vw) (ws : List Jvm.Cond) (p0 : Int32) (p1 : Int32) (p2 : Int32) (p3 : Int32) (h0 : Heap) (O0 : Old Z Z.heap.size h0) (hp0 : (p0 &&& (3 : Int32)) = (2 : Int32)) (hp1 : (p1 &&& (1 : Int32)) = (0 : Int32)) (hp2 : (p3 &&& (1 : Int32)) = (0 : Int32)) :
    MetFree l x (head1 (Jvm.Cond.code x code maxLocals ret :: ws) room_1) (fun a U => a = #[(.int p0), (.int p1), (.int p2), (.int p3)] ∧ Z.Warmed39 U.vm ∧ U.heap = h0) (fun _ _ _ _ _ => True) (fun _ U o U' => ∃ v L, o = .returned v ∧ OL (some (.int (1 : Int32))) Z.heap.size v U'.heap L ∧ ReturnedEndW U o U' L 32 3072) := by
  have hN' := hN
  have hL0 : Sta Z Z.heap s_1 s_4 "Z" (.int (1 : Int32)) := hN'
  refine MetFree.of_bodySF (plainFor_of_name pn_2) hisR ?_
  intro p e s m args below meth c s₁ Bd hml0 hP hK
  obtain ⟨rfl, hZ, hh⟩ := hP
  have hx := Bd.exec
  have hby := Bd.bytes
  have hml : c.maxLocals = 7 := hml0
  have hown : s.vm.findClass s_2 = some m.cls := findClass_of_methodNamed Bd.named
  have hnm := (name_of_methodNamed Bd.named Bd.method).1
  have X0 : Stand p l e room_1 s m #[(.int p0), (.int p1), (.int p2), (.int p3)] below meth c s₁ [] 0 0 := Stand.of_body Bd
  have e0 : s₁.heap = h0 := by rw [← hh, Bd.state]; rfl
  have N0 := Fr.nil Z.heap.size
  obtain ⟨T1, L1, b1_0, b1_1, b1_2, b1_3, b1_4, b1_5, b1_6, kb1_0, kb1_1, kb1_2, kb1_3, kb1_4, X1, st1, N1, Kq1, tk1_0, tk1_1, tk1_2, tk1_3, tk1_4, tk1_5, tk1_6, tk1_7, tk1_8, tk1_9, tk1_10, tk1_11, tk1_12, tk1_13, tk1_14, tk1_15, tk1_16, tk1_17, tk1_18, tk1_19, tk1_20, tk1_21, tk1_22, tk1_23, tk1_24, tk1_25, tk1_26, tk1_27, tk1_28, tk1_29, tk1_30, tk1_31, tk1_32, tk1_33, tk1_34, tk1_35, tk1_36, tk1_37, tk1_38, tk1_39, tk1_40, tk1_41, tk1_42, tk1_43, tk1_44, tk1_45⟩ := sg_33 w kk iw vw hN p0 p1 p2 p3 X0 hx hZ hw hby hml hown e0 O0 N0
  have gn_b1_0 : Z.heap.size ≤ b1_0 := Nat.le_trans O0.2.1 tk1_0
  have gn_b1_1 : Z.heap.size ≤ b1_1 := Nat.le_trans O0.2.1 tk1_1
  have gn_b1_2 : Z.heap.size ≤ b1_2 := Nat.le_trans O0.2.1 tk1_2
  have gn_b1_3 : Z.heap.size ≤ b1_3 := Nat.le_trans O0.2.1 tk1_3
  have gn_b1_4 : Z.heap.size ≤ b1_4 := Nat.le_trans O0.2.1 tk1_4
  have gn_b1_5 : Z.heap.size ≤ b1_5 := Nat.le_trans O0.2.1 tk1_5
  have gn_b1_6 : Z.heap.size ≤ b1_6 := Nat.le_trans O0.2.1 tk1_6
  have O1 := O0.keep Kq1 all0
  obtain ⟨cq2, kq2, q2a, q2b, q2c⟩ := isOf hZ rfl tk1_28
  obtain ⟨_, _, ⟨T2, L2, k2, n2⟩, -, X2, ⟨Lc2, hQ2, l2, y2, z2⟩, st2⟩ := X1.virtualBack hx (y := (⟨s_0, "hasBlocks", "()Z"⟩ : MethodName)) (z := (⟨s_0, "hasBlocks", "()Z"⟩ : MethodName)) hown (mvT hZ (W hw 52 rfl)) (mvT hZ (W hw 53 rfl)) (notFace_of_selects (args := #[]) (mvT hZ (W hw 55 rfl))) (mvT hZ (W hw 55 rfl)) (mvT hZ (W hw 54 rfl)) (by decide) (backOf (W := 0) (rm_32 l Z a0 hw w kk iw vw hN [] b1_0 b1_1 b1_2 b1_3 b1_4 b1_5 kb1_0 kb1_1 kb1_2 kb1_3 b1_6 kb1_4 T1.heap O1 gn_b1_0 tk1_28.lt tk1_28 gn_b1_1 tk1_37.lt tk1_29 gn_b1_2 tk1_38.lt tk1_30 gn_b1_3 tk1_39.lt tk1_31 gn_b1_4 tk1_40.lt tk1_32 gn_b1_5 tk1_41.lt tk1_33 tk1_34 tk1_35 tk1_36 tk1_37 tk1_38 tk1_39 tk1_40 tk1_41 tk1_42 tk1_43 gn_b1_6 tk1_45.lt tk1_44 tk1_45 tk1_7 tk1_8 tk1_9 tk1_10 tk1_11 tk1_12 tk1_13 tk1_14 tk1_15 tk1_16 tk1_17 tk1_18 tk1_19 tk1_20 tk1_21 tk1_22 tk1_23 tk1_24 tk1_25 tk1_26 tk1_27) hZ (W hw 56 rfl) (W hw 2 rfl) (by decide) (by decide)) q2a q2c (g := (mkF m 157 #[.val (.int p0), .val (.int p1), .val (.int p2), .val (.int p3), .val (.int (2 : Int32)), .val (.ref b1_0), .val (.int (1 : Int32))] [(.ref b1_0)])) rfl (by rw [hml]; rfl) (Steps.refl _) (argsL := []) (rest := []) (lenOf pd_3 rfl) rfl (by show 2 * 0 + _ ≤ _; exact Nat.le_of_eq rfl) (hb hby at_157) (fun _ _ => ⟨rfl, rfl, (by decide : 10 + 0 ≤ _), (by decide : 467 + 0 ≤ _)⟩)
  dsimp only [Pt.U, Pt.locs, Pt.cells, Pt.slots] at X2 l2 y2 z2 st2 hQ2
  subst l2 y2 z2
  obtain ⟨rfl, N2q, e2⟩ := hQ2
  have N2 := Fr.app N1 N2q
  obtain ⟨fs, hr, hrun, hended, hW, hsame⟩ := X2.leave (v := some (.int (1 : Int32))) (fun h => by rw [Bd.returns] at h; cases h)
  refine ⟨_, _, castTop (ef_3 m (.int p0) rfl (.int p1) rfl (.int p2) rfl (.int p3) rfl) ?_, hrun, hended, _, _, rfl, ?_, ⟨_, rfl⟩, hW.wide, hW.no_new_pair _, hsame.mono (by decide) (by decide)⟩
  · show Steps p.tables e below (s₁.setTop (mkF m 0 #[.val (.int p0), .val (.int p1), .val (.int p2), .val (.int p3), .unset, .unset, .unset] [])) _
    refine XS.iloadN X0.here hx rfl (hb hby at_0) rfl ?_
    refine XS.iconst X0.here hx rfl (hb hby at_1) ?_
    refine XS.iand X0.here hx rfl (hb hby at_2) rfl ?_
    show Steps p.tables e below (s₁.setTop (mkF m 3 #[.val (.int p0), .val (.int p1), .val (.int p2), .val (.int p3), .unset, .unset, .unset] [(.int (p0 &&& (3 : Int32)))])) _
    rw [hp0]
    refine XS.istore X0.here hx rfl (hb hby at_3) rfl (l' := #[.val (.int p0), .val (.int p1), .val (.int p2), .val (.int p3), .val (.int (2 : Int32)), .unset, .unset]) rfl ?_
    show Steps p.tables e below (s₁.setTop (mkF m 5 #[.val (.int p0), .val (.int p1), .val (.int p2), .val (.int p3), .val (.int (2 : Int32)), .unset, .unset] [])) _
    refine st1 _ ?_
    refine XS.iload X1.here hx rfl (hb hby at_102) rfl ?_
    refine XS.ifNo X1.here hx rfl (hb hby at_104) rfl ((if0 _ _).trans (tlt (by decide : (0 : Int32) < (2 : Int32))).2.2.2) ?_
    refine XS.iloadN X1.here hx rfl (hb hby at_107) rfl ?_
    refine XS.iconst X1.here hx rfl (hb hby at_108) ?_
    refine XS.iand X1.here hx rfl (hb hby at_109) rfl ?_
    show Steps p.tables e below (T1.setTop (mkF m 110 #[.val (.int p0), .val (.int p1), .val (.int p2), .val (.int p3), .val (.int (2 : Int32)), .val (.ref b1_0), .val (.int (1 : Int32))] [(.int (p1 &&& (1 : Int32)))])) _
    rw [hp1]
    refine XS.ifYes X1.here hx rfl (pc0 := 110) (pc' := 125) rfl (hb hby at_110) rfl ((if0 _ _).trans (teq (by decide : (0 : Int32) = (0 : Int32))).1) (by decide) (by decide) ?_
    refine XS.iload X1.here hx rfl (hb hby at_125) rfl ?_
    show Steps p.tables e below (T1.setTop (mkF m 127 #[.val (.int p0), .val (.int p1), .val (.int p2), .val (.int p3), .val (.int (2 : Int32)), .val (.ref b1_0), .val (.int (1 : Int32))] [(.int (2 : Int32))])) _
    refine XS.ifNo X1.here hx rfl (hb hby at_127) rfl ((if0 _ _).trans (tlt (by decide : (0 : Int32) < (2 : Int32))).2.2.2) ?_
    refine XS.iloadN X1.here hx rfl (hb hby at_130) rfl ?_
    refine XS.iconst X1.here hx rfl (hb hby at_131) ?_
    refine XS.iand X1.here hx rfl (hb hby at_132) rfl ?_
    show Steps p.tables e below (T1.setTop (mkF m 133 #[.val (.int p0), .val (.int p1), .val (.int p2), .val (.int p3), .val (.int (2 : Int32)), .val (.ref b1_0), .val (.int (1 : Int32))] [(.int (p3 &&& (1 : Int32)))])) _
    rw [hp2]
    refine XS.ifYes X1.here hx rfl (pc0 := 133) (pc' := 150) rfl (hb hby at_133) rfl ((if0 _ _).trans (teq (by decide : (0 : Int32) = (0 : Int32))).1) (by decide) (by decide) ?_
    refine XS.iload X1.here hx rfl (hb hby at_150) rfl ?_
    refine XS.ifNo X1.here hx rfl (hb hby at_152) rfl ((if0 _ _).trans (feq (by decide : ¬ ((1 : Int32) = (0 : Int32)))).1) ?_
    refine XS.aload X1.here hx rfl (hb hby at_155) rfl rfl ?_
    show Steps p.tables e below (T1.setTop (mkF m 157 #[.val (.int p0), .val (.int p1), .val (.int p2), .val (.int p3), .val (.int (2 : Int32)), .val (.ref b1_0), .val (.int (1 : Int32))] [(.ref b1_0)])) _
    refine st2.trans ?_
    refine XS.iload X2.here hx rfl (hb hby at_160) rfl ?_
    refine XS.ifNo X2.here hx rfl (hb hby at_162) rfl ((if0 _ _).trans (tlt (by decide : (0 : Int32) < (2 : Int32))).2.2.2) ?_
    refine XS.iconst X2.here hx rfl (hb hby at_165) ?_
    refine XS.goto X2.here hx rfl (pc0 := 166) (pc' := 170) rfl (hb hby at_166) (by decide) (by decide) ?_
    refine XS.icmpNo X2.here hx rfl (hb hby at_170) rfl (teq (by decide : (1 : Int32) = (1 : Int32))).2 ?_
    refine XS.iconst X2.here hx rfl (hb hby at_173) ?_
    refine XS.goto X2.here hx rfl (pc0 := 174) (pc' := 178) rfl (hb hby at_174) (by decide) (by decide) ?_
    show Steps p.tables e below (T2.setTop (mkF m 178 #[.val (.int p0), .val (.int p1), .val (.int p2), .val (.int p3), .val (.int (2 : Int32)), .val (.ref b1_0), .val (.int (1 : Int32))] [(.int (1 : Int32))])) _
    refine XS.istore X2.here hx rfl (hb hby at_178) rfl (l' := #[.val (.int p0), .val (.int p1), .val (.int p2), .val (.int p3), .val (.int (2 : Int32)), .val (.ref b1_0), .val (.int (1 : Int32))]) rfl ?_
    refine XS.iload X2.here hx rfl (hb hby at_180) rfl ?_
    show Steps p.tables e below (T2.setTop (mkF m 182 #[.val (.int p0), .val (.int p1), .val (.int p2), .val (.int p3), .val (.int (2 : Int32)), .val (.ref b1_0), .val (.int (1 : Int32))] [(.int (1 : Int32))])) _
    exact retN X2 hx (t := .boolean) Bd.returns (by simp) (hb hby at_182) hr
  · show OL (some (.int (1 : Int32))) Z.heap.size _ T2.heap _
    exact ⟨rfl, N2⟩
set_option maxRecDepth 65536 in
set_option maxHeartbeats 40000000 in
theorem rm_35 (l : Launch) (Z : State) (a0 : Array Value) (hw : ∀ d ∈ tables_1, d.before a0 Z = true) (w : Nat → Addr) (kk : Nat → ClassId) (iw : Nat → Int32) (vw : Nat → Value) (hN : Wd Z w kk iw vw) (ws : List Jvm.Cond) (o1 : Addr) (p1 : Int32) (o2 : Addr) (o3 : Addr) (o4 : Addr) (o5 : Addr) (o6 : Addr) (o7 : Addr) (kc_o3 : ClassId) (kc_o4 : ClassId) (kc_o5 : ClassId) (kc_o6 : ClassId) (o8 : Addr) (kc_o8 : ClassId) (h0 : Heap) (O0 : Old Z Z.heap.size h0) (gn_o1 : Z.heap.size ≤ o1) (lt_o1 : o1 < h0.size) (E_o1 : Exa Z h0 o1 s_0) (gn_o3 : Z.heap.size ≤ o3) (lt_o3 : o3 < h0.size) (F_o1_nextBlock : Fld Z h0 o1 s_0 "nextBlock" "[I" (.ref o3)) (gn_o4 : Z.heap.size ≤ o4) (lt_o4 : o4 < h0.size) (F_o1_previousBlock : Fld Z h0 o1 s_0 s_5 "[I" (.ref o4)) (gn_o5 : Z.heap.size ≤ o5) (lt_o5 : o5 < h0.size) (F_o1_firstPiece : Fld Z h0 o1 s_0 "firstPiece" "[I" (.ref o5)) (gn_o6 : Z.heap.size ≤ o6) (lt_o6 : o6 < h0.size) (F_o1_lastPiece : Fld Z h0 o1 s_0 "lastPiece" "[I" (.ref o6)) (gn_o7 : Z.heap.size ≤ o7) (lt_o7 : o7 < h0.size) (F_o1_closed : Fld Z h0 o1 s_0 "closed" s_3 (.ref o7)) (F_o1_firstBlock : Fld Z h0 o1 s_0 "firstBlock" "I" (.int (0 : Int32))) (F_o1_lastBlock : Fld Z h0 o1 s_0 "lastBlock" "I" (.int (1 : Int32))) (F_o1_blockCount : Fld Z h0 o1 s_0 "blockCount" "I" (.int (2 : Int32))) (V_o3 : Arv Z h0 o3 kc_o3 .int (64 : Int32) [(.int (1 : Int32)), (.int (-1 : Int32))] (.int (0 : Int32))) (V_o4 : Arv Z h0 o4 kc_o4 .int (64 : Int32) [(.int (-1 : Int32)), (.int (0 : Int32))] (.int (0 : Int32))) (V_o5 : Arv Z h0 o5 kc_o5 .int (64 : Int32) [(.int (-1 : Int32)), (.int (-1 : Int32))] (.int (0 : Int32))) (V_o6 : Arv Z h0 o6 kc_o6 .int (64 : Int32) [(.int (-1 : Int32)), (.int (-1 : Int32))] (.int (0 : Int32))) (E_o7 : Exa Z h0 o7 s_1) (F_o7_wordsInUse : Fld Z h0 o7 s_1 "wordsInUse" "I" (.int (0 : Int32))) (F_o7_sizeIsSticky : Fld Z h0 o7 s_1 s_6 "Z" (.int (0 : Int32))) (gn_o8 : Z.heap.size ≤ o8) (lt_o8 : o8 < h0.size) (F_o7_words : Fld Z h0 o7 s_1 "words" "[J" (.ref o8)) (V_o8 : Arv Z h0 o8 kc_o8 .long (1 : Int32) [] (.long (0 : Int64))) (ne_o1_o3 : o1 ≠ o3) (ne_o1_o4 : o1 ≠ o4) (ne_o1_o5 : o1 ≠ o5) (ne_o1_o6 : o1 ≠ o6) (ne_o1_o7 : o1 ≠ o7) (ne_o1_o8 : o1 ≠ o8) (ne_o3_o4 : o3 ≠ o4) (ne_o3_o5 : o3 ≠ o5) (ne_o3_o6 : o3 ≠ o6) (ne_o3_o7 : o3 ≠ o7) (ne_o3_o8 : o3 ≠ o8) (ne_o4_o5 : o4 ≠ o5) (ne_o4_o6 : o4 ≠ o6) (ne_o4_o7 : o4 ≠ o7) (ne_o4_o8 : o4 ≠ o8) (ne_o5_o6 : o5 ≠ o6) (ne_o5_o7 : o5 ≠ o7) (ne_o5_o8 : o5 ≠ o8) (ne_o6_o7 : o6 ≠ o7) (ne_o6_o8 : o6 ≠ o8) (ne_o7_o8 : o7 ≠ o8) (hp0 : ¬ (p1 < (0 : Int32))) (hp1 : p1 < (2 : Int32)) :
    Met l Z (⟨s_0, "find", s_7⟩ : MethodName) (Jvm.Cond.code (⟨s_0, "find", s_7⟩ : MethodName) prog_20_method_11_code 3 (some .int)) ws (Rm 0 0 0 0) #[(.ref o1), (.int p1), (.ref o2)] h0 (OQ (some (.int p1)) h0 Z.heap.size) := by
  have hN' := hN
  have hL0 : Sta Z Z.heap s_1 s_4 "Z" (.int (1 : Int32)) := hN'
  refine own_body (plainFor_of_name pn_1) hisR ?_
  intro p e s m below meth c s₁ hx hby hml hown hnm hret X0 hZ e0
  have N0 := Fr.nil Z.heap.size
  obtain ⟨T1, X1, e1, st1⟩ := getF X0 hx hZ hown (host := "") (Or.inl (W hw 57 rfl)) Via.refl e0 F_o1_blockCount (g := (mkF m 6 #[.val (.ref o1), .val (.int p1), .val (.ref o2)] [(.ref o1), (.int p1)])) rfl rfl (hb hby d8_6)
  refine ⟨T1, some (.int p1), _, _, _, by decide, by decide, X1, nofun, (by rw [e1]; exact ⟨rfl, N0, rfl⟩), fun fs hr => castTop (ef_5 m (.ref o1) rfl (.int p1) rfl (.ref o2) rfl) ?_⟩
  show Steps p.tables e below (s₁.setTop (mkF m 0 #[.val (.ref o1), .val (.int p1), .val (.ref o2)] [])) _
  refine XS.iloadN X0.here hx rfl (hb hby d8_0) rfl ?_
  refine XS.ifNo X0.here hx rfl (hb hby d8_1) rfl ((if0 _ _).trans (flt hp0).1) ?_
  refine XS.iloadN X0.here hx rfl (hb hby d8_4) rfl ?_
  refine XS.aloadN X0.here hx rfl (hb hby d8_5) rfl rfl ?_
  refine st1 _ ?_
  refine XS.icmpYes X1.here hx rfl (pc0 := 9) (pc' := 27) rfl (hb hby d8_9) rfl (tlt hp1).1 (by decide) (by decide) ?_
  refine XS.iloadN X1.here hx rfl (hb hby d8_27) rfl ?_
  show Steps p.tables e below (T1.setTop (mkF m 28 #[.val (.ref o1), .val (.int p1), .val (.ref o2)] [(.int p1)])) _
  exact retI X1 hx hret (hb hby d8_28) hr
set_option maxRecDepth 65536 in
set_option maxHeartbeats 40000000 in
theorem rm_36 (l : Launch) (Z : State) (a0 : Array Value) (hw : ∀ d ∈ tables_1, d.before a0 Z = true) (w : Nat → Addr) (kk : Nat → ClassId) (iw : Nat → Int32) (vw : Nat → Value) (hN : Wd Z w kk iw vw) (ws : List Jvm.Cond) (o1 : Addr) (p1 : Int32) (o2 : Addr) (o3 : Addr) (o4 : Addr) (o5 : Addr) (o6 : Addr) (kc_o2 : ClassId) (kc_o3 : ClassId) (kc_o4 : ClassId) (kc_o5 : ClassId) (o7 : Addr) (kc_o7 : ClassId) (h0 : Heap) (O0 : Old Z Z.heap.size h0) (gn_o1 : Z.heap.size ≤ o1) (lt_o1 : o1 < h0.size) (E_o1 : Exa Z h0 o1 s_0) (gn_o2 : Z.heap.size ≤ o2) (lt_o2 : o2 < h0.size) (F_o1_nextBlock : Fld Z h0 o1 s_0 "nextBlock" "[I" (.ref o2)) (gn_o3 : Z.heap.size ≤ o3) (lt_o3 : o3 < h0.size) (F_o1_previousBlock : Fld Z h0 o1 s_0 s_5 "[I" (.ref o3)) (gn_o4 : Z.heap.size ≤ o4) (lt_o4 : o4 < h0.size) (F_o1_firstPiece : Fld Z h0 o1 s_0 "firstPiece" "[I" (.ref o4)) (gn_o5 : Z.heap.size ≤ o5) (lt_o5 : o5 < h0.size) (F_o1_lastPiece : Fld Z h0 o1 s_0 "lastPiece" "[I" (.ref o5)) (gn_o6 : Z.heap.size ≤ o6) (lt_o6 : o6 < h0.size) (F_o1_closed : Fld Z h0 o1 s_0 "closed" s_3 (.ref o6)) (F_o1_firstBlock : Fld Z h0 o1 s_0 "firstBlock" "I" (.int (0 : Int32))) (F_o1_lastBlock : Fld Z h0 o1 s_0 "lastBlock" "I" (.int (1 : Int32))) (F_o1_blockCount : Fld Z h0 o1 s_0 "blockCount" "I" (.int (2 : Int32))) (V_o2 : Arv Z h0 o2 kc_o2 .int (64 : Int32) [(.int (1 : Int32)), (.int (-1 : Int32))] (.int (0 : Int32))) (V_o3 : Arv Z h0 o3 kc_o3 .int (64 : Int32) [(.int (-1 : Int32)), (.int (0 : Int32))] (.int (0 : Int32))) (V_o4 : Arv Z h0 o4 kc_o4 .int (64 : Int32) [(.int (-1 : Int32)), (.int (-1 : Int32))] (.int (0 : Int32))) (V_o5 : Arv Z h0 o5 kc_o5 .int (64 : Int32) [(.int (-1 : Int32)), (.int (-1 : Int32))] (.int (0 : Int32))) (E_o6 : Exa Z h0 o6 s_1) (F_o6_wordsInUse : Fld Z h0 o6 s_1 "wordsInUse" "I" (.int (0 : Int32))) (F_o6_sizeIsSticky : Fld Z h0 o6 s_1 s_6 "Z" (.int (0 : Int32))) (gn_o7 : Z.heap.size ≤ o7) (lt_o7 : o7 < h0.size) (F_o6_words : Fld Z h0 o6 s_1 "words" "[J" (.ref o7)) (V_o7 : Arv Z h0 o7 kc_o7 .long (1 : Int32) [] (.long (0 : Int64))) (ne_o1_o2 : o1 ≠ o2) (ne_o1_o3 : o1 ≠ o3) (ne_o1_o4 : o1 ≠ o4) (ne_o1_o5 : o1 ≠ o5) (ne_o1_o6 : o1 ≠ o6) (ne_o1_o7 : o1 ≠ o7) (ne_o2_o3 : o2 ≠ o3) (ne_o2_o4 : o2 ≠ o4) (ne_o2_o5 : o2 ≠ o5) (ne_o2_o6 : o2 ≠ o6) (ne_o2_o7 : o2 ≠ o7) (ne_o3_o4 : o3 ≠ o4) (ne_o3_o5 : o3 ≠ o5) (ne_o3_o6 : o3 ≠ o6) (ne_o3_o7 : o3 ≠ o7) (ne_o4_o5 : o4 ≠ o5) (ne_o4_o6 : o4 ≠ o6) (ne_o4_o7 : o4 ≠ o7) (ne_o5_o6 : o5 ≠ o6) (ne_o5_o7 : o5 ≠ o7) (ne_o6_o7 : o6 ≠ o7) (hp0 : ¬ (p1 < (0 : Int32))) (hp1 : p1 < (2 : Int32)) (hp2 : (p1 >>> ((6 : Int32) &&& 31)) = (0 : Int32)) :
    MetW l Z (⟨s_0, "closeBlock", "(I)V"⟩ : MethodName) (Jvm.Cond.code (⟨s_0, "closeBlock", "(I)V"⟩ : MethodName) prog_20_method_6_code 2 none) ws (Rm 3 2 60 42) #[(.ref o1), (.int p1)] h0 (Qd_6 Z w kk iw vw o1 p1 o2 o3 o4 o5 o6 kc_o2 kc_o3 kc_o4 kc_o5 o7 kc_o7 h0 Z.heap.size) := by
  have hN' := hN
  have hL0 : Sta Z Z.heap s_1 s_4 "Z" (.int (1 : Int32)) := hN'
  refine own_bodyW (plainFor_of_name pn_1) hisR ?_
  intro p e s m below meth c s₁ hx hby hml hown hnm hret X0 hZ e0
  have N0 := Fr.nil Z.heap.size
  have K0 : Keep h0 h0 [o7, o6] := Keep.refl _ _
  obtain ⟨T1, X1, e1, st1⟩ := getF X0 hx hZ hown (host := "") (Or.inl (W hw 40 rfl)) Via.refl e0 F_o1_closed (g := (mkF m 1 #[.val (.ref o1), .val (.int p1)] [(.ref o1)])) rfl rfl (hb hby d7_1)
  obtain ⟨b2, T2, h2, k2, X2, e2, E2, hS2, hk2, hZ2, hown2, st2⟩ := ldcS (s := s) (vm0 := s.vm) X1 hx hZ hown (W hw 92 rfl) (own_atoms hw) e1 (own_since s 0) (Nat.zero_le _) (g := (mkF m 6 #[.val (.ref o1), .val (.int p1)] [(.int p1), (.ref o1), (.ref o6)])) rfl (hb hby d7_6) (n := 56) (by decide) (by decide) (by decide) (by decide)
  have E_o1_v2 := E_o1.ext E2
  have F_o1_nextBlock_v2 := F_o1_nextBlock.ext E2
  have F_o1_previousBlock_v2 := F_o1_previousBlock.ext E2
  have F_o1_firstPiece_v2 := F_o1_firstPiece.ext E2
  have F_o1_lastPiece_v2 := F_o1_lastPiece.ext E2
  have F_o1_closed_v2 := F_o1_closed.ext E2
  have F_o1_firstBlock_v2 := F_o1_firstBlock.ext E2
  have F_o1_lastBlock_v2 := F_o1_lastBlock.ext E2
  have F_o1_blockCount_v2 := F_o1_blockCount.ext E2
  have V_o2_v2 := V_o2.ext E2
  have V_o3_v2 := V_o3.ext E2
  have V_o4_v2 := V_o4.ext E2
  have V_o5_v2 := V_o5.ext E2
  have E_o6_v2 := E_o6.ext E2
  have F_o6_wordsInUse_v2 := F_o6_wordsInUse.ext E2
  have F_o6_sizeIsSticky_v2 := F_o6_sizeIsSticky.ext E2
  have F_o6_words_v2 := F_o6_words.ext E2
  have V_o7_v2 := V_o7.ext E2
  have O2 := O0.ext E2
  have K2 := K0.ext E2
  obtain ⟨cq3, q3, q3'⟩ := E_o1_v2.cell
  obtain ⟨_, _, ⟨T3, L3, k3, n3⟩, -, X3, ⟨Lc3, hQ3, l3, y3, z3⟩, st3⟩ := X2.privateBack hx (y := (⟨s_0, "find", s_7⟩ : MethodName)) hown2 (mvT hZ2 (W hw 83 rfl)) (mvT hZ2 (W hw 84 rfl)) (own_selpriv (mvT hZ2 (W hw 1 rfl)) (Cond.privateMethod_at (mvP hZ2 (W hw 85 rfl) (args := #[]))) (mvT hZ2 (W hw 84 rfl)) (by decide)) (Cond.privateMethod_at (mvP hZ2 (W hw 85 rfl) (args := #[]))) (mvT hZ2 (W hw 86 rfl)) (by decide) (backOf (W := 1) (rm_35 l Z a0 hw w kk iw vw hN [] o1 p1 b2 o2 o3 o4 o5 o6 kc_o2 kc_o3 kc_o4 kc_o5 o7 kc_o7 h2 O2 gn_o1 E_o1_v2.lt E_o1_v2 gn_o2 V_o2_v2.lt F_o1_nextBlock_v2 gn_o3 V_o3_v2.lt F_o1_previousBlock_v2 gn_o4 V_o4_v2.lt F_o1_firstPiece_v2 gn_o5 V_o5_v2.lt F_o1_lastPiece_v2 gn_o6 E_o6_v2.lt F_o1_closed_v2 F_o1_firstBlock_v2 F_o1_lastBlock_v2 F_o1_blockCount_v2 V_o2_v2 V_o3_v2 V_o4_v2 V_o5_v2 E_o6_v2 F_o6_wordsInUse_v2 F_o6_sizeIsSticky_v2 gn_o7 V_o7_v2.lt F_o6_words_v2 V_o7_v2 ne_o1_o2 ne_o1_o3 ne_o1_o4 ne_o1_o5 ne_o1_o6 ne_o1_o7 ne_o2_o3 ne_o2_o4 ne_o2_o5 ne_o2_o6 ne_o2_o7 ne_o3_o4 ne_o3_o5 ne_o3_o6 ne_o3_o7 ne_o4_o5 ne_o4_o6 ne_o4_o7 ne_o5_o6 ne_o5_o7 ne_o6_o7 hp0 hp1) hZ2 (W hw 86 rfl) (W hw 2 rfl) (by decide) (by decide)) (g := (mkF m 8 #[.val (.ref o1), .val (.int p1)] [(.ref b2), (.int p1), (.ref o1), (.ref o6)])) rfl (by rw [hml]; rfl) (Steps.refl _) (a := o1) (by rw [e2]; exact q3) q3' (argsL := [(.int p1), (.ref b2)]) (rest := [(.ref o6)]) (lenOf pd_5 rfl) rfl (by show 2 * 0 + _ ≤ _; exact Nat.le_of_eq rfl) (hb hby d7_8) (fun _ _ => ⟨rfl, e2, (by decide : 2 + 0 ≤ _), (by decide : 60 + 0 ≤ _)⟩)
  dsimp only [Pt.U, Pt.locs, Pt.cells, Pt.slots] at X3 l3 y3 z3 st3 hQ3
  subst l3 y3 z3
  obtain ⟨rfl, N3q, e3⟩ := hQ3
  have N3 := Fr.app N0 N3q
  obtain ⟨cq4, kq4, q4a, q4b, q4c⟩ := isOf hZ2 e3 E_o6_v2
  obtain ⟨_, _, ⟨T4, L4, k4, n4⟩, -, X4, ⟨Lc4, hQ4, l4, y4, z4⟩, st4⟩ := X3.virtualBack hx (y := (⟨s_1, "set", "(I)V"⟩ : MethodName)) (z := (⟨s_1, "set", "(I)V"⟩ : MethodName)) hown2 (mvT hZ2 (W hw 93 rfl)) (mvT hZ2 (W hw 94 rfl)) (notFace_of_selects (args := #[]) (mvT hZ2 (W hw 96 rfl))) (mvT hZ2 (W hw 96 rfl)) (mvT hZ2 (W hw 95 rfl)) (by decide) (backOf (W := 0) (rm_18 l Z a0 hw w kk iw vw hN [] o6 p1 o7 kc_o7 h2 O2 gn_o6 E_o6_v2.lt E_o6_v2 F_o6_wordsInUse_v2 F_o6_sizeIsSticky_v2 gn_o7 V_o7_v2.lt F_o6_words_v2 V_o7_v2 ne_o6_o7 hp0 hp2) hZ2 (W hw 97 rfl) (W hw 20 rfl) (by decide) (by decide)) q4a q4c (g := (mkF m 11 #[.val (.ref o1), .val (.int p1)] [(.int p1), (.ref o6)])) rfl (by rw [hml]; rfl) (Steps.refl _) (argsL := [(.int p1)]) (rest := []) (lenOf pd_1 rfl) rfl (by show 2 * 0 + _ ≤ _; exact Nat.le_of_eq rfl) (hb hby d7_11) (fun _ _ => ⟨rfl, e3, (by decide : 2 + 0 ≤ _), (by decide : 60 + 0 ≤ _)⟩)
  dsimp only [Pt.U, Pt.locs, Pt.cells, Pt.slots] at X4 l4 y4 z4 st4 hQ4
  subst l4 y4 z4
  obtain ⟨rfl, N4q, Kq4, tk4_0, tk4_1, tk4_2, tk4_3, tk4_4⟩ := hQ4
  have N4 := Fr.app N3 N4q
  have E_o1_v4 := E_o1_v2.keep Kq4
  have F_o1_nextBlock_v4 := F_o1_nextBlock_v2.keep Kq4 (ninS ne_o1_o6 (ninS ne_o1_o7 nin0))
  have F_o1_previousBlock_v4 := F_o1_previousBlock_v2.keep Kq4 (ninS ne_o1_o6 (ninS ne_o1_o7 nin0))
  have F_o1_firstPiece_v4 := F_o1_firstPiece_v2.keep Kq4 (ninS ne_o1_o6 (ninS ne_o1_o7 nin0))
  have F_o1_lastPiece_v4 := F_o1_lastPiece_v2.keep Kq4 (ninS ne_o1_o6 (ninS ne_o1_o7 nin0))
  have F_o1_closed_v4 := F_o1_closed_v2.keep Kq4 (ninS ne_o1_o6 (ninS ne_o1_o7 nin0))
  have F_o1_firstBlock_v4 := F_o1_firstBlock_v2.keep Kq4 (ninS ne_o1_o6 (ninS ne_o1_o7 nin0))
  have F_o1_lastBlock_v4 := F_o1_lastBlock_v2.keep Kq4 (ninS ne_o1_o6 (ninS ne_o1_o7 nin0))
  have F_o1_blockCount_v4 := F_o1_blockCount_v2.keep Kq4 (ninS ne_o1_o6 (ninS ne_o1_o7 nin0))
  have V_o2_v4 := V_o2_v2.keep Kq4 (ninS ne_o2_o6 (ninS ne_o2_o7 nin0))
  have V_o3_v4 := V_o3_v2.keep Kq4 (ninS ne_o3_o6 (ninS ne_o3_o7 nin0))
  have V_o4_v4 := V_o4_v2.keep Kq4 (ninS ne_o4_o6 (ninS ne_o4_o7 nin0))
  have V_o5_v4 := V_o5_v2.keep Kq4 (ninS ne_o5_o6 (ninS ne_o5_o7 nin0))
  have E_o6_v4 := E_o6_v2.keep Kq4
  have hk4 := Nat.le_trans hk2 Kq4.1
  have O4 := O2.keep Kq4 (allS gn_o6 (allS gn_o7 all0))
  have K4 : Keep h0 T4.heap [o7, o6] := K2.trans Kq4 (allS (Or.inl (List.mem_of_getElem? (i := 1) rfl)) (allS (Or.inl (List.mem_of_getElem? (i := 0) rfl)) all0))
  refine ⟨T4, _, none, _, _, _, _, by decide, by decide, X4, hS2, hk4, (fun _ => rfl), ⟨rfl, N4, K4, tk4_0, tk4_1, tk4_2, tk4_3, tk4_4⟩, fun fs hr => castTop (ef_1 m (.ref o1) rfl (.int p1) rfl) ?_⟩
  show Steps p.tables e below (s₁.setTop (mkF m 0 #[.val (.ref o1), .val (.int p1)] [])) _
  refine XS.aloadN X0.here hx rfl (hb hby d7_0) rfl rfl ?_
  refine st1 _ ?_
  refine XS.aloadN X1.here hx rfl (hb hby d7_4) rfl rfl ?_
  refine XS.iloadN X1.here hx rfl (hb hby d7_5) rfl ?_
  refine st2 _ ?_
  refine st3.trans ?_
  refine st4.trans ?_
  show Steps p.tables e below (T4.setTop (mkF m 14 #[.val (.ref o1), .val (.int p1)] [])) _
  exact X4.returnOut hx hret (hb hby d7_14) hr
set_option maxRecDepth 65536 in
set_option maxHeartbeats 40000000 in
theorem rm_37 (l : Launch) (Z : State) (a0 : Array Value) (hw : ∀ d ∈ tables_1, d.before a0 Z = true) (w : Nat → Addr) (kk : Nat → ClassId) (iw : Nat → Int32) (vw : Nat → Value) (hN : Wd Z w kk iw vw) (ws : List Jvm.Cond) (o1 : Addr) (o2 : Addr) (o3 : Addr) (o4 : Addr) (o5 : Addr) (o6 : Addr) (kc_o2 : ClassId) (kc_o3 : ClassId) (kc_o4 : ClassId) (kc_o5 : ClassId) (o7 : Addr) (t0 : Int64) (kc_o7 : ClassId) (h0 : Heap) (O0 : Old Z Z.heap.size h0) (gn_o1 : Z.heap.size ≤ o1) (lt_o1 : o1 < h0.size) (E_o1 : Exa Z h0 o1 s_0) (gn_o2 : Z.heap.size ≤ o2) (lt_o2 : o2 < h0.size) (F_o1_nextBlock : Fld Z h0 o1 s_0 "nextBlock" "[I" (.ref o2)) (gn_o3 : Z.heap.size ≤ o3) (lt_o3 : o3 < h0.size) (F_o1_previousBlock : Fld Z h0 o1 s_0 s_5 "[I" (.ref o3)) (gn_o4 : Z.heap.size ≤ o4) (lt_o4 : o4 < h0.size) (F_o1_firstPiece : Fld Z h0 o1 s_0 "firstPiece" "[I" (.ref o4)) (gn_o5 : Z.heap.size ≤ o5) (lt_o5 : o5 < h0.size) (F_o1_lastPiece : Fld Z h0 o1 s_0 "lastPiece" "[I" (.ref o5)) (gn_o6 : Z.heap.size ≤ o6) (lt_o6 : o6 < h0.size) (F_o1_closed : Fld Z h0 o1 s_0 "closed" s_3 (.ref o6)) (F_o1_firstBlock : Fld Z h0 o1 s_0 "firstBlock" "I" (.int (0 : Int32))) (F_o1_lastBlock : Fld Z h0 o1 s_0 "lastBlock" "I" (.int (1 : Int32))) (F_o1_blockCount : Fld Z h0 o1 s_0 "blockCount" "I" (.int (2 : Int32))) (V_o2 : Arv Z h0 o2 kc_o2 .int (64 : Int32) [(.int (1 : Int32)), (.int (-1 : Int32))] (.int (0 : Int32))) (V_o3 : Arv Z h0 o3 kc_o3 .int (64 : Int32) [(.int (-1 : Int32)), (.int (0 : Int32))] (.int (0 : Int32))) (V_o4 : Arv Z h0 o4 kc_o4 .int (64 : Int32) [(.int (-1 : Int32)), (.int (-1 : Int32))] (.int (0 : Int32))) (V_o5 : Arv Z h0 o5 kc_o5 .int (64 : Int32) [(.int (-1 : Int32)), (.int (-1 : Int32))] (.int (0 : Int32))) (E_o6 : Exa Z h0 o6 s_1) (F_o6_wordsInUse : Fld Z h0 o6 s_1 "wordsInUse" "I" (.int (1 : Int32))) (F_o6_sizeIsSticky : Fld Z h0 o6 s_1 s_6 "Z" (.int (0 : Int32))) (gn_o7 : Z.heap.size ≤ o7) (lt_o7 : o7 < h0.size) (F_o6_words : Fld Z h0 o6 s_1 "words" "[J" (.ref o7)) (V_o7 : Arv Z h0 o7 kc_o7 .long (1 : Int32) [(.long t0)] (.long (0 : Int64))) (ne_o1_o2 : o1 ≠ o2) (ne_o1_o3 : o1 ≠ o3) (ne_o1_o4 : o1 ≠ o4) (ne_o1_o5 : o1 ≠ o5) (ne_o1_o6 : o1 ≠ o6) (ne_o1_o7 : o1 ≠ o7) (ne_o2_o3 : o2 ≠ o3) (ne_o2_o4 : o2 ≠ o4) (ne_o2_o5 : o2 ≠ o5) (ne_o2_o6 : o2 ≠ o6) (ne_o2_o7 : o2 ≠ o7) (ne_o3_o4 : o3 ≠ o4) (ne_o3_o5 : o3 ≠ o5) (ne_o3_o6 : o3 ≠ o6) (ne_o3_o7 : o3 ≠ o7) (ne_o4_o5 : o4 ≠ o5) (ne_o4_o6 : o4 ≠ o6) (ne_o4_o7 : o4 ≠ o7) (ne_o5_o6 : o5 ≠ o6) (ne_o5_o7 : o5 ≠ o7) (ne_o6_o7 : o6 ≠ o7) :
    Met l Z (⟨s_0, "hasBlocks", "()Z"⟩ : MethodName) (Jvm.Cond.code (⟨s_0, "hasBlocks", "()Z"⟩ : MethodName) prog_20_method_2_code 1 (some .boolean)) ws (Rm 0 0 0 0) #[(.ref o1)] h0 (OQ (some (.int (1 : Int32))) h0 Z.heap.size) := by
  have hN' := hN
  have hL0 : Sta Z Z.heap s_1 s_4 "Z" (.int (1 : Int32)) := hN'
  refine own_body (plainFor_of_name pn_1) hisR ?_
  intro p e s m below meth c s₁ hx hby hml hown hnm hret X0 hZ e0
  have N0 := Fr.nil Z.heap.size
  obtain ⟨T1, X1, e1, st1⟩ := getF X0 hx hZ hown (host := "") (Or.inl (W hw 57 rfl)) Via.refl e0 F_o1_blockCount (g := (mkF m 1 #[.val (.ref o1)] [(.ref o1)])) rfl rfl (hb hby d4_1)
  refine ⟨T1, some (.int (1 : Int32)), _, _, _, by decide, by decide, X1, nofun, (by rw [e1]; exact ⟨rfl, N0, rfl⟩), fun fs hr => castTop (ef_2 m (.ref o1) rfl) ?_⟩
  show Steps p.tables e below (s₁.setTop (mkF m 0 #[.val (.ref o1)] [])) _
  refine XS.aloadN X0.here hx rfl (hb hby d4_0) rfl rfl ?_
  refine st1 _ ?_
  refine XS.ifNo X1.here hx rfl (hb hby d4_4) rfl ((if0 _ _).trans (tlt (by decide : (0 : Int32) < (2 : Int32))).2.2.2) ?_
  refine XS.iconst X1.here hx rfl (hb hby d4_7) ?_
  refine XS.goto X1.here hx rfl (pc0 := 8) (pc' := 12) rfl (hb hby d4_8) (by decide) (by decide) ?_
  show Steps p.tables e below (T1.setTop (mkF m 12 #[.val (.ref o1)] [(.int (1 : Int32))])) _
  exact retN X1 hx (t := .boolean) hret (by simp) (hb hby d4_12) hr
set_option maxRecDepth 65536 in
set_option maxHeartbeats 40000000 in
theorem law_38 (l : Launch) (Z : State) (a0 : Array Value) (hw : ∀ d ∈ tables_1, d.before a0 Z = true) (w : Nat → Addr) (kk : Nat → ClassId) (iw : Nat → Int32) (vw : Nat → Value) (hN : Wd Z w kk iw vw) (ws : List Jvm.Cond) (p0 : Int32) (p1 : Int32) (p2 : Int32) (p3 : Int32) (h0 : Heap) (O0 : Old Z Z.heap.size h0) (hp0 : (p0 &&& (3 : Int32)) = (2 : Int32)) (hp1 : (p1 &&& (1 : Int32)) = (0 : Int32)) (hp2 : (p3 &&& (1 : Int32)) = (1 : Int32)) (hp3 : ¬ (((((p3.toUInt32 >>> ((1 : Int32) &&& 31).toUInt32).toInt32) &&& (2147483647 : Int32)) % (2 : Int32)) < (0 : Int32))) (hp4 : ((((p3.toUInt32 >>> ((1 : Int32) &&& 31).toUInt32).toInt32) &&& (2147483647 : Int32)) % (2 : Int32)) < (2 : Int32)) (hp5 : (((((p3.toUInt32 >>> ((1 : Int32) &&& 31).toUInt32).toInt32) &&& (2147483647 : Int32)) % (2 : Int32)) >>> ((6 : Int32) &&& 31)) = (0 : Int32)) :
    MetFree l x (head1 (Jvm.Cond.code x code maxLocals ret :: ws) room_1) (fun a U => a = #[(.int p0), (.int p1), (.int p2), (.int p3)] ∧ Z.Warmed39 U.vm ∧ U.heap = h0) (fun _ _ _ _ _ => True) (fun _ U o U' => ∃ v L, o = .returned v ∧ OL (some (.int (1 : Int32))) Z.heap.size v U'.heap L ∧ ReturnedEndW U o U' L 32 3072) := by
  have hN' := hN
  have hL0 : Sta Z Z.heap s_1 s_4 "Z" (.int (1 : Int32)) := hN'
  refine MetFree.of_bodySF (plainFor_of_name pn_2) hisR ?_
  intro p e s m args below meth c s₁ Bd hml0 hP hK
  obtain ⟨rfl, hZ, hh⟩ := hP
  have hx := Bd.exec
  have hby := Bd.bytes
  have hml : c.maxLocals = 7 := hml0
  have hown : s.vm.findClass s_2 = some m.cls := findClass_of_methodNamed Bd.named
  have hnm := (name_of_methodNamed Bd.named Bd.method).1
  have X0 : Stand p l e room_1 s m #[(.int p0), (.int p1), (.int p2), (.int p3)] below meth c s₁ [] 0 0 := Stand.of_body Bd
  have e0 : s₁.heap = h0 := by rw [← hh, Bd.state]; rfl
  have N0 := Fr.nil Z.heap.size
  obtain ⟨T1, L1, b1_0, b1_1, b1_2, b1_3, b1_4, b1_5, b1_6, kb1_0, kb1_1, kb1_2, kb1_3, kb1_4, X1, st1, N1, Kq1, tk1_0, tk1_1, tk1_2, tk1_3, tk1_4, tk1_5, tk1_6, tk1_7, tk1_8, tk1_9, tk1_10, tk1_11, tk1_12, tk1_13, tk1_14, tk1_15, tk1_16, tk1_17, tk1_18, tk1_19, tk1_20, tk1_21, tk1_22, tk1_23, tk1_24, tk1_25, tk1_26, tk1_27, tk1_28, tk1_29, tk1_30, tk1_31, tk1_32, tk1_33, tk1_34, tk1_35, tk1_36, tk1_37, tk1_38, tk1_39, tk1_40, tk1_41, tk1_42, tk1_43, tk1_44, tk1_45⟩ := sg_33 w kk iw vw hN p0 p1 p2 p3 X0 hx hZ hw hby hml hown e0 O0 N0
  have gn_b1_0 : Z.heap.size ≤ b1_0 := Nat.le_trans O0.2.1 tk1_0
  have gn_b1_1 : Z.heap.size ≤ b1_1 := Nat.le_trans O0.2.1 tk1_1
  have gn_b1_2 : Z.heap.size ≤ b1_2 := Nat.le_trans O0.2.1 tk1_2
  have gn_b1_3 : Z.heap.size ≤ b1_3 := Nat.le_trans O0.2.1 tk1_3
  have gn_b1_4 : Z.heap.size ≤ b1_4 := Nat.le_trans O0.2.1 tk1_4
  have gn_b1_5 : Z.heap.size ≤ b1_5 := Nat.le_trans O0.2.1 tk1_5
  have gn_b1_6 : Z.heap.size ≤ b1_6 := Nat.le_trans O0.2.1 tk1_6
  have O1 := O0.keep Kq1 all0
  obtain ⟨cq2, kq2, q2a, q2b, q2c⟩ := isOf hZ rfl tk1_28
  obtain ⟨_, _, ⟨T2, L2, k2, n2⟩, -, X2, hSq2, hgr2, ⟨Lc2, hQ2, l2, y2, z2⟩, st2⟩ := X1.virtualBackS hx (y := (⟨s_0, "closeBlock", "(I)V"⟩ : MethodName)) (z := (⟨s_0, "closeBlock", "(I)V"⟩ : MethodName)) hown (mvT hZ (W hw 87 rfl)) (mvT hZ (W hw 88 rfl)) (notFace_of_selects (args := #[]) (mvT hZ (W hw 90 rfl))) (mvT hZ (W hw 90 rfl)) (mvT hZ (W hw 89 rfl)) (by decide) (backOfS (W := 0) (rm_36 l Z a0 hw w kk iw vw hN [] b1_0 ((((p3.toUInt32 >>> ((1 : Int32) &&& 31).toUInt32).toInt32) &&& (2147483647 : Int32)) % (2 : Int32)) b1_1 b1_2 b1_3 b1_4 b1_5 kb1_0 kb1_1 kb1_2 kb1_3 b1_6 kb1_4 T1.heap O1 gn_b1_0 tk1_28.lt tk1_28 gn_b1_1 tk1_37.lt tk1_29 gn_b1_2 tk1_38.lt tk1_30 gn_b1_3 tk1_39.lt tk1_31 gn_b1_4 tk1_40.lt tk1_32 gn_b1_5 tk1_41.lt tk1_33 tk1_34 tk1_35 tk1_36 tk1_37 tk1_38 tk1_39 tk1_40 tk1_41 tk1_42 tk1_43 gn_b1_6 tk1_45.lt tk1_44 tk1_45 tk1_7 tk1_8 tk1_9 tk1_10 tk1_11 tk1_12 tk1_13 tk1_14 tk1_15 tk1_16 tk1_17 tk1_18 tk1_19 tk1_20 tk1_21 tk1_22 tk1_23 tk1_24 tk1_25 tk1_26 tk1_27 hp3 hp4 hp5) hZ (W hw 91 rfl) (W hw 2 rfl) (by decide) (by decide)) q2a q2c (g := (mkF m 147 #[.val (.int p0), .val (.int p1), .val (.int p2), .val (.int p3), .val (.int (2 : Int32)), .val (.ref b1_0), .val (.int (1 : Int32))] [(.int ((((p3.toUInt32 >>> ((1 : Int32) &&& 31).toUInt32).toInt32) &&& (2147483647 : Int32)) % (2 : Int32))), (.ref b1_0)])) rfl (by rw [hml]; rfl) (Steps.refl _) (argsL := [(.int ((((p3.toUInt32 >>> ((1 : Int32) &&& 31).toUInt32).toInt32) &&& (2147483647 : Int32)) % (2 : Int32)))]) (rest := []) (lenOf pd_1 rfl) rfl (by show 2 * 0 + _ ≤ _; exact Nat.le_of_eq rfl) (hb hby at_147) (fun _ _ => ⟨rfl, rfl, (by decide : 10 + 2 ≤ _), (by decide : 467 + 60 ≤ _)⟩)
  dsimp only [Pt.U, Pt.locs, Pt.cells, Pt.slots] at X2 l2 y2 z2 st2 hQ2 hSq2 hgr2
  subst l2 y2 z2
  have hS2 : s.Since T2.vm T2.heap.size := hSq2
  have hk2 : T2.heap.size ≤ T2.heap.size := Nat.le_refl _
  have hZ2 : Z.Warmed39 (s.setVm T2.vm).vm := State.Warmed39.trans (t := (s.setVm s.vm)) hZ hSq2.1
  have hown2 : (s.setVm T2.vm).vm.findClass s_2 = some m.cls := by rw [show (s.setVm T2.vm).vm = T2.vm from rfl, hSq2.1.alike.findClass]; exact hown
  have X2' : Stand p l e _ (s.setVm T2.vm) m _ below meth c T2 _ _ _ := X2
  obtain ⟨rfl, N2q, Kq2, tk2_0, tk2_1, tk2_2, tk2_3, tk2_4⟩ := hQ2
  have N2 := Fr.app N1 N2q
  have tk1_28_v2 := tk1_28.keep Kq2
  have tk1_29_v2 := tk1_29.keep Kq2 (ninS tk1_12 (ninS tk1_11 nin0))
  have tk1_30_v2 := tk1_30.keep Kq2 (ninS tk1_12 (ninS tk1_11 nin0))
  have tk1_31_v2 := tk1_31.keep Kq2 (ninS tk1_12 (ninS tk1_11 nin0))
  have tk1_32_v2 := tk1_32.keep Kq2 (ninS tk1_12 (ninS tk1_11 nin0))
  have tk1_33_v2 := tk1_33.keep Kq2 (ninS tk1_12 (ninS tk1_11 nin0))
  have tk1_34_v2 := tk1_34.keep Kq2 (ninS tk1_12 (ninS tk1_11 nin0))
  have tk1_35_v2 := tk1_35.keep Kq2 (ninS tk1_12 (ninS tk1_11 nin0))
  have tk1_36_v2 := tk1_36.keep Kq2 (ninS tk1_12 (ninS tk1_11 nin0))
  have tk1_37_v2 := tk1_37.keep Kq2 (ninS tk1_17 (ninS tk1_16 nin0))
  have tk1_38_v2 := tk1_38.keep Kq2 (ninS tk1_21 (ninS tk1_20 nin0))
  have tk1_39_v2 := tk1_39.keep Kq2 (ninS tk1_24 (ninS tk1_23 nin0))
  have tk1_40_v2 := tk1_40.keep Kq2 (ninS tk1_26 (ninS tk1_25 nin0))
  have tk1_41_v2 := tk1_41.keep Kq2
  have O2 := O1.keep Kq2 (allS gn_b1_6 (allS gn_b1_5 all0))
  obtain ⟨cq3, kq3, q3a, q3b, q3c⟩ := isOf hZ2 rfl tk1_28_v2
  obtain ⟨_, _, ⟨T3, L3, k3, n3⟩, -, X3, ⟨Lc3, hQ3, l3, y3, z3⟩, st3⟩ := X2'.virtualBack hx (y := (⟨s_0, "hasBlocks", "()Z"⟩ : MethodName)) (z := (⟨s_0, "hasBlocks", "()Z"⟩ : MethodName)) hown2 (mvT hZ2 (W hw 52 rfl)) (mvT hZ2 (W hw 53 rfl)) (notFace_of_selects (args := #[]) (mvT hZ2 (W hw 55 rfl))) (mvT hZ2 (W hw 55 rfl)) (mvT hZ2 (W hw 54 rfl)) (by decide) (backOf (W := 0) (rm_37 l Z a0 hw w kk iw vw hN [] b1_0 b1_1 b1_2 b1_3 b1_4 b1_5 kb1_0 kb1_1 kb1_2 kb1_3 b1_6 ((0 : Int64) ||| ((1 : Int64) <<< (((((p3.toUInt32 >>> ((1 : Int32) &&& 31).toUInt32).toInt32) &&& (2147483647 : Int32)) % (2 : Int32)) &&& 0x3f).toInt64)) kb1_4 T2.heap O2 gn_b1_0 tk1_28_v2.lt tk1_28_v2 gn_b1_1 tk1_37_v2.lt tk1_29_v2 gn_b1_2 tk1_38_v2.lt tk1_30_v2 gn_b1_3 tk1_39_v2.lt tk1_31_v2 gn_b1_4 tk1_40_v2.lt tk1_32_v2 gn_b1_5 tk2_0.lt tk1_33_v2 tk1_34_v2 tk1_35_v2 tk1_36_v2 tk1_37_v2 tk1_38_v2 tk1_39_v2 tk1_40_v2 tk2_0 tk2_1 tk2_2 gn_b1_6 tk2_4.lt tk2_3 tk2_4 tk1_7 tk1_8 tk1_9 tk1_10 tk1_11 tk1_12 tk1_13 tk1_14 tk1_15 tk1_16 tk1_17 tk1_18 tk1_19 tk1_20 tk1_21 tk1_22 tk1_23 tk1_24 tk1_25 tk1_26 tk1_27) hZ2 (W hw 56 rfl) (W hw 2 rfl) (by decide) (by decide)) q3a q3c (g := (mkF m 157 #[.val (.int p0), .val (.int p1), .val (.int p2), .val (.int p3), .val (.int (2 : Int32)), .val (.ref b1_0), .val (.int (1 : Int32))] [(.ref b1_0)])) rfl (by rw [hml]; rfl) (Steps.refl _) (argsL := []) (rest := []) (lenOf pd_3 rfl) rfl (by show 2 * 0 + _ ≤ _; exact Nat.le_of_eq rfl) (hb hby at_157) (fun _ _ => ⟨rfl, rfl, (by decide : 12 + 0 ≤ _), (by decide : 527 + 0 ≤ _)⟩)
  dsimp only [Pt.U, Pt.locs, Pt.cells, Pt.slots] at X3 l3 y3 z3 st3 hQ3
  subst l3 y3 z3
  obtain ⟨rfl, N3q, e3⟩ := hQ3
  have N3 := Fr.app N2 N3q
  obtain ⟨fs, hr, hrun, hended, w1, w2, w3, w4⟩ := X3.leaveW hS2 (by rw [e3]; exact hk2) (v := some (.int (1 : Int32))) (fun h => by rw [Bd.returns] at h; cases h)
  refine ⟨_, _, castTop (ef_3 m (.int p0) rfl (.int p1) rfl (.int p2) rfl (.int p3) rfl) ?_, hrun, hended, _, _, rfl, ?_, w1, w2, w3, w4.mono (by decide) (by decide)⟩
  · show Steps p.tables e below (s₁.setTop (mkF m 0 #[.val (.int p0), .val (.int p1), .val (.int p2), .val (.int p3), .unset, .unset, .unset] [])) _
    refine XS.iloadN X0.here hx rfl (hb hby at_0) rfl ?_
    refine XS.iconst X0.here hx rfl (hb hby at_1) ?_
    refine XS.iand X0.here hx rfl (hb hby at_2) rfl ?_
    show Steps p.tables e below (s₁.setTop (mkF m 3 #[.val (.int p0), .val (.int p1), .val (.int p2), .val (.int p3), .unset, .unset, .unset] [(.int (p0 &&& (3 : Int32)))])) _
    rw [hp0]
    refine XS.istore X0.here hx rfl (hb hby at_3) rfl (l' := #[.val (.int p0), .val (.int p1), .val (.int p2), .val (.int p3), .val (.int (2 : Int32)), .unset, .unset]) rfl ?_
    show Steps p.tables e below (s₁.setTop (mkF m 5 #[.val (.int p0), .val (.int p1), .val (.int p2), .val (.int p3), .val (.int (2 : Int32)), .unset, .unset] [])) _
    refine st1 _ ?_
    refine XS.iload X1.here hx rfl (hb hby at_102) rfl ?_
    refine XS.ifNo X1.here hx rfl (hb hby at_104) rfl ((if0 _ _).trans (tlt (by decide : (0 : Int32) < (2 : Int32))).2.2.2) ?_
    refine XS.iloadN X1.here hx rfl (hb hby at_107) rfl ?_
    refine XS.iconst X1.here hx rfl (hb hby at_108) ?_
    refine XS.iand X1.here hx rfl (hb hby at_109) rfl ?_
    show Steps p.tables e below (T1.setTop (mkF m 110 #[.val (.int p0), .val (.int p1), .val (.int p2), .val (.int p3), .val (.int (2 : Int32)), .val (.ref b1_0), .val (.int (1 : Int32))] [(.int (p1 &&& (1 : Int32)))])) _
    rw [hp1]
    refine XS.ifYes X1.here hx rfl (pc0 := 110) (pc' := 125) rfl (hb hby at_110) rfl ((if0 _ _).trans (teq (by decide : (0 : Int32) = (0 : Int32))).1) (by decide) (by decide) ?_
    refine XS.iload X1.here hx rfl (hb hby at_125) rfl ?_
    show Steps p.tables e below (T1.setTop (mkF m 127 #[.val (.int p0), .val (.int p1), .val (.int p2), .val (.int p3), .val (.int (2 : Int32)), .val (.ref b1_0), .val (.int (1 : Int32))] [(.int (2 : Int32))])) _
    refine XS.ifNo X1.here hx rfl (hb hby at_127) rfl ((if0 _ _).trans (tlt (by decide : (0 : Int32) < (2 : Int32))).2.2.2) ?_
    refine XS.iloadN X1.here hx rfl (hb hby at_130) rfl ?_
    refine XS.iconst X1.here hx rfl (hb hby at_131) ?_
    refine XS.iand X1.here hx rfl (hb hby at_132) rfl ?_
    show Steps p.tables e below (T1.setTop (mkF m 133 #[.val (.int p0), .val (.int p1), .val (.int p2), .val (.int p3), .val (.int (2 : Int32)), .val (.ref b1_0), .val (.int (1 : Int32))] [(.int (p3 &&& (1 : Int32)))])) _
    rw [hp2]
    refine XS.ifNo X1.here hx rfl (hb hby at_133) rfl ((if0 _ _).trans (feq (by decide : ¬ ((1 : Int32) = (0 : Int32)))).1) ?_
    refine XS.aload X1.here hx rfl (hb hby at_136) rfl rfl ?_
    refine XS.iloadN X1.here hx rfl (hb hby at_138) rfl ?_
    refine XS.iconst X1.here hx rfl (hb hby at_139) ?_
    show Steps p.tables e below (T1.setTop (mkF m 140 #[.val (.int p0), .val (.int p1), .val (.int p2), .val (.int p3), .val (.int (2 : Int32)), .val (.ref b1_0), .val (.int (1 : Int32))] [(.int (1 : Int32)), (.int p3), (.ref b1_0)])) _
    refine XS.iushr X1.here hx rfl (hb hby at_140) rfl ?_
    refine X1.ldcInt hx hown (mvT hZ (W hw 69 rfl)) (g := (mkF m 141 #[.val (.int p0), .val (.int p1), .val (.int p2), .val (.int p3), .val (.int (2 : Int32)), .val (.ref b1_0), .val (.int (1 : Int32))] [(.int ((p3.toUInt32 >>> ((1 : Int32) &&& 31).toUInt32).toInt32)), (.ref b1_0)])) rfl (hb hby at_141) _ ?_
    refine XS.iand X1.here hx rfl (hb hby at_143) rfl ?_
    refine XS.iload X1.here hx rfl (hb hby at_144) rfl ?_
    refine iremM X1 hx rfl (hb hby at_146) rfl (by decide : ¬ ((2 : Int32) = (0 : Int32))) ?_
    refine st2.trans ?_
    refine XS.iload X2'.here hx rfl (hb hby at_150) rfl ?_
    refine XS.ifNo X2'.here hx rfl (hb hby at_152) rfl ((if0 _ _).trans (feq (by decide : ¬ ((1 : Int32) = (0 : Int32)))).1) ?_
    show Steps p.tables e below (T2.setTop (mkF m 155 #[.val (.int p0), .val (.int p1), .val (.int p2), .val (.int p3), .val (.int (2 : Int32)), .val (.ref b1_0), .val (.int (1 : Int32))] [])) _
    refine XS.aload X2'.here hx rfl (hb hby at_155) rfl rfl ?_
    refine st3.trans ?_
    refine XS.iload X3.here hx rfl (hb hby at_160) rfl ?_
    refine XS.ifNo X3.here hx rfl (hb hby at_162) rfl ((if0 _ _).trans (tlt (by decide : (0 : Int32) < (2 : Int32))).2.2.2) ?_
    refine XS.iconst X3.here hx rfl (hb hby at_165) ?_
    refine XS.goto X3.here hx rfl (pc0 := 166) (pc' := 170) rfl (hb hby at_166) (by decide) (by decide) ?_
    refine XS.icmpNo X3.here hx rfl (hb hby at_170) rfl (teq (by decide : (1 : Int32) = (1 : Int32))).2 ?_
    refine XS.iconst X3.here hx rfl (hb hby at_173) ?_
    show Steps p.tables e below (T3.setTop (mkF m 174 #[.val (.int p0), .val (.int p1), .val (.int p2), .val (.int p3), .val (.int (2 : Int32)), .val (.ref b1_0), .val (.int (1 : Int32))] [(.int (1 : Int32))])) _
    refine XS.goto X3.here hx rfl (pc0 := 174) (pc' := 178) rfl (hb hby at_174) (by decide) (by decide) ?_
    refine XS.istore X3.here hx rfl (hb hby at_178) rfl (l' := #[.val (.int p0), .val (.int p1), .val (.int p2), .val (.int p3), .val (.int (2 : Int32)), .val (.ref b1_0), .val (.int (1 : Int32))]) rfl ?_
    refine XS.iload X3.here hx rfl (hb hby at_180) rfl ?_
    show Steps p.tables e below (T3.setTop (mkF m 182 #[.val (.int p0), .val (.int p1), .val (.int p2), .val (.int p3), .val (.int (2 : Int32)), .val (.ref b1_0), .val (.int (1 : Int32))] [(.int (1 : Int32))])) _
    exact retN X3 hx (t := .boolean) Bd.returns (by simp) (hb hby at_182) hr
  · show OL (some (.int (1 : Int32))) Z.heap.size _ T3.heap _
    exact ⟨rfl, N3⟩
theorem own_split_3 (x : Int32) : ((x &&& (2147483647 : Int32)) % (2 : Int32)) = (0 : Int32) ∨ ((x &&& (2147483647 : Int32)) % (2 : Int32)) = (1 : Int32) := by
  have h1 := c_mask x (2147483647 : Int32) 31 (by decide) (by decide)
  have h2 := (c_irem (x &&& (2147483647 : Int32)) (2 : Int32) 2 (by decide)).1 (by omega)
  simp only [← Int32.toInt_inj, h2, (by decide : (0 : Int32).toInt = 0), (by decide : (1 : Int32).toInt = 1)]
  omega
set_option maxRecDepth 65536 in
set_option maxHeartbeats 40000000 in
theorem rm_39 (l : Launch) (Z : State) (a0 : Array Value) (hw : ∀ d ∈ tables_1, d.before a0 Z = true) (w : Nat → Addr) (kk : Nat → ClassId) (iw : Nat → Int32) (vw : Nat → Value) (hN : Wd Z w kk iw vw) (ws : List Jvm.Cond) (o1 : Addr) (o2 : Addr) (o3 : Addr) (o4 : Addr) (o5 : Addr) (o6 : Addr) (o7 : Addr) (kc_o3 : ClassId) (kc_o4 : ClassId) (kc_o5 : ClassId) (kc_o6 : ClassId) (o8 : Addr) (kc_o8 : ClassId) (h0 : Heap) (O0 : Old Z Z.heap.size h0) (gn_o1 : Z.heap.size ≤ o1) (lt_o1 : o1 < h0.size) (E_o1 : Exa Z h0 o1 s_0) (gn_o3 : Z.heap.size ≤ o3) (lt_o3 : o3 < h0.size) (F_o1_nextBlock : Fld Z h0 o1 s_0 "nextBlock" "[I" (.ref o3)) (gn_o4 : Z.heap.size ≤ o4) (lt_o4 : o4 < h0.size) (F_o1_previousBlock : Fld Z h0 o1 s_0 s_5 "[I" (.ref o4)) (gn_o5 : Z.heap.size ≤ o5) (lt_o5 : o5 < h0.size) (F_o1_firstPiece : Fld Z h0 o1 s_0 "firstPiece" "[I" (.ref o5)) (gn_o6 : Z.heap.size ≤ o6) (lt_o6 : o6 < h0.size) (F_o1_lastPiece : Fld Z h0 o1 s_0 "lastPiece" "[I" (.ref o6)) (gn_o7 : Z.heap.size ≤ o7) (lt_o7 : o7 < h0.size) (F_o1_closed : Fld Z h0 o1 s_0 "closed" s_3 (.ref o7)) (F_o1_firstBlock : Fld Z h0 o1 s_0 "firstBlock" "I" (.int (0 : Int32))) (F_o1_lastBlock : Fld Z h0 o1 s_0 "lastBlock" "I" (.int (1 : Int32))) (F_o1_blockCount : Fld Z h0 o1 s_0 "blockCount" "I" (.int (2 : Int32))) (V_o3 : Arv Z h0 o3 kc_o3 .int (64 : Int32) [(.int (1 : Int32)), (.int (-1 : Int32))] (.int (0 : Int32))) (V_o4 : Arv Z h0 o4 kc_o4 .int (64 : Int32) [(.int (-1 : Int32)), (.int (0 : Int32))] (.int (0 : Int32))) (V_o5 : Arv Z h0 o5 kc_o5 .int (64 : Int32) [(.int (-1 : Int32)), (.int (-1 : Int32))] (.int (0 : Int32))) (V_o6 : Arv Z h0 o6 kc_o6 .int (64 : Int32) [(.int (-1 : Int32)), (.int (-1 : Int32))] (.int (0 : Int32))) (E_o7 : Exa Z h0 o7 s_1) (F_o7_wordsInUse : Fld Z h0 o7 s_1 "wordsInUse" "I" (.int (0 : Int32))) (F_o7_sizeIsSticky : Fld Z h0 o7 s_1 s_6 "Z" (.int (0 : Int32))) (gn_o8 : Z.heap.size ≤ o8) (lt_o8 : o8 < h0.size) (F_o7_words : Fld Z h0 o7 s_1 "words" "[J" (.ref o8)) (V_o8 : Arv Z h0 o8 kc_o8 .long (1 : Int32) [] (.long (0 : Int64))) (ne_o1_o3 : o1 ≠ o3) (ne_o1_o4 : o1 ≠ o4) (ne_o1_o5 : o1 ≠ o5) (ne_o1_o6 : o1 ≠ o6) (ne_o1_o7 : o1 ≠ o7) (ne_o1_o8 : o1 ≠ o8) (ne_o3_o4 : o3 ≠ o4) (ne_o3_o5 : o3 ≠ o5) (ne_o3_o6 : o3 ≠ o6) (ne_o3_o7 : o3 ≠ o7) (ne_o3_o8 : o3 ≠ o8) (ne_o4_o5 : o4 ≠ o5) (ne_o4_o6 : o4 ≠ o6) (ne_o4_o7 : o4 ≠ o7) (ne_o4_o8 : o4 ≠ o8) (ne_o5_o6 : o5 ≠ o6) (ne_o5_o7 : o5 ≠ o7) (ne_o5_o8 : o5 ≠ o8) (ne_o6_o7 : o6 ≠ o7) (ne_o6_o8 : o6 ≠ o8) (ne_o7_o8 : o7 ≠ o8) :
    Met l Z (⟨s_0, "find", s_7⟩ : MethodName) (Jvm.Cond.code (⟨s_0, "find", s_7⟩ : MethodName) prog_20_method_11_code 3 (some .int)) ws (Rm 0 0 0 0) #[(.ref o1), (.int (0 : Int32)), (.ref o2)] h0 (OQ (some (.int (0 : Int32))) h0 Z.heap.size) := by
  have hN' := hN
  have hL0 : Sta Z Z.heap s_1 s_4 "Z" (.int (1 : Int32)) := hN'
  refine own_body (plainFor_of_name pn_1) hisR ?_
  intro p e s m below meth c s₁ hx hby hml hown hnm hret X0 hZ e0
  have N0 := Fr.nil Z.heap.size
  obtain ⟨T1, X1, e1, st1⟩ := getF X0 hx hZ hown (host := "") (Or.inl (W hw 57 rfl)) Via.refl e0 F_o1_blockCount (g := (mkF m 6 #[.val (.ref o1), .val (.int (0 : Int32)), .val (.ref o2)] [(.ref o1), (.int (0 : Int32))])) rfl rfl (hb hby d8_6)
  refine ⟨T1, some (.int (0 : Int32)), _, _, _, by decide, by decide, X1, nofun, (by rw [e1]; exact ⟨rfl, N0, rfl⟩), fun fs hr => castTop (ef_5 m (.ref o1) rfl (.int (0 : Int32)) rfl (.ref o2) rfl) ?_⟩
  show Steps p.tables e below (s₁.setTop (mkF m 0 #[.val (.ref o1), .val (.int (0 : Int32)), .val (.ref o2)] [])) _
  refine XS.iloadN X0.here hx rfl (hb hby d8_0) rfl ?_
  refine XS.ifNo X0.here hx rfl (hb hby d8_1) rfl ((if0 _ _).trans (flt (by decide : ¬ ((0 : Int32) < (0 : Int32)))).1) ?_
  refine XS.iloadN X0.here hx rfl (hb hby d8_4) rfl ?_
  refine XS.aloadN X0.here hx rfl (hb hby d8_5) rfl rfl ?_
  refine st1 _ ?_
  refine XS.icmpYes X1.here hx rfl (pc0 := 9) (pc' := 27) rfl (hb hby d8_9) rfl (tlt (by decide : (0 : Int32) < (2 : Int32))).1 (by decide) (by decide) ?_
  refine XS.iloadN X1.here hx rfl (hb hby d8_27) rfl ?_
  show Steps p.tables e below (T1.setTop (mkF m 28 #[.val (.ref o1), .val (.int (0 : Int32)), .val (.ref o2)] [(.int (0 : Int32))])) _
  exact retI X1 hx hret (hb hby d8_28) hr
theorem lf_4 : ((2 : Int32) + (1 : Int32)) = (3 : Int32) := by decide
def Qd_11 (Z : State) (w : Nat → Addr) (kk : Nat → ClassId) (iw : Nat → Int32) (vw : Nat → Value) (o1 : Addr) (o2 : Addr) (o3 : Addr) (o4 : Addr) (o5 : Addr) (o6 : Addr) (kc_o2 : ClassId) (kc_o3 : ClassId) (kc_o4 : ClassId) (kc_o5 : ClassId) (o7 : Addr) (kc_o7 : ClassId) (h0 : Heap) (n0 : Nat) (v : Option Value) (h : Heap) (L : List Loc) : Prop := v = some (.int (2 : Int32)) ∧ Fr n0 L ∧ Keep h0 h [o1, o2, o3, o4, o5] ∧ Exa Z h o1 s_0 ∧ Fld Z h o1 s_0 "nextBlock" "[I" (.ref o2) ∧ Fld Z h o1 s_0 s_5 "[I" (.ref o3) ∧ Fld Z h o1 s_0 "firstPiece" "[I" (.ref o4) ∧ Fld Z h o1 s_0 "lastPiece" "[I" (.ref o5) ∧ Fld Z h o1 s_0 "closed" s_3 (.ref o6) ∧ Fld Z h o1 s_0 "firstBlock" "I" (.int (0 : Int32)) ∧ Fld Z h o1 s_0 "lastBlock" "I" (.int (1 : Int32)) ∧ Fld Z h o1 s_0 "blockCount" "I" (.int (3 : Int32)) ∧ Arv Z h o2 kc_o2 .int (64 : Int32) [(.int (1 : Int32)), (.int (-1 : Int32)), (.int (-1 : Int32))] (.int (0 : Int32)) ∧ Arv Z h o3 kc_o3 .int (64 : Int32) [(.int (-1 : Int32)), (.int (0 : Int32)), (.int (-1 : Int32))] (.int (0 : Int32)) ∧ Arv Z h o4 kc_o4 .int (64 : Int32) [(.int (-1 : Int32)), (.int (-1 : Int32)), (.int (-1 : Int32))] (.int (0 : Int32)) ∧ Arv Z h o5 kc_o5 .int (64 : Int32) [(.int (-1 : Int32)), (.int (-1 : Int32)), (.int (-1 : Int32))] (.int (0 : Int32))
set_option maxRecDepth 65536 in
set_option maxHeartbeats 40000000 in
theorem rm_40 (l : Launch) (Z : State) (a0 : Array Value) (hw : ∀ d ∈ tables_1, d.before a0 Z = true) (w : Nat → Addr) (kk : Nat → ClassId) (iw : Nat → Int32) (vw : Nat → Value) (hN : Wd Z w kk iw vw) (ws : List Jvm.Cond) (o1 : Addr) (o2 : Addr) (o3 : Addr) (o4 : Addr) (o5 : Addr) (o6 : Addr) (kc_o2 : ClassId) (kc_o3 : ClassId) (kc_o4 : ClassId) (kc_o5 : ClassId) (o7 : Addr) (kc_o7 : ClassId) (h0 : Heap) (O0 : Old Z Z.heap.size h0) (gn_o1 : Z.heap.size ≤ o1) (lt_o1 : o1 < h0.size) (E_o1 : Exa Z h0 o1 s_0) (gn_o2 : Z.heap.size ≤ o2) (lt_o2 : o2 < h0.size) (F_o1_nextBlock : Fld Z h0 o1 s_0 "nextBlock" "[I" (.ref o2)) (gn_o3 : Z.heap.size ≤ o3) (lt_o3 : o3 < h0.size) (F_o1_previousBlock : Fld Z h0 o1 s_0 s_5 "[I" (.ref o3)) (gn_o4 : Z.heap.size ≤ o4) (lt_o4 : o4 < h0.size) (F_o1_firstPiece : Fld Z h0 o1 s_0 "firstPiece" "[I" (.ref o4)) (gn_o5 : Z.heap.size ≤ o5) (lt_o5 : o5 < h0.size) (F_o1_lastPiece : Fld Z h0 o1 s_0 "lastPiece" "[I" (.ref o5)) (gn_o6 : Z.heap.size ≤ o6) (lt_o6 : o6 < h0.size) (F_o1_closed : Fld Z h0 o1 s_0 "closed" s_3 (.ref o6)) (F_o1_firstBlock : Fld Z h0 o1 s_0 "firstBlock" "I" (.int (0 : Int32))) (F_o1_lastBlock : Fld Z h0 o1 s_0 "lastBlock" "I" (.int (1 : Int32))) (F_o1_blockCount : Fld Z h0 o1 s_0 "blockCount" "I" (.int (2 : Int32))) (V_o2 : Arv Z h0 o2 kc_o2 .int (64 : Int32) [(.int (1 : Int32)), (.int (-1 : Int32))] (.int (0 : Int32))) (V_o3 : Arv Z h0 o3 kc_o3 .int (64 : Int32) [(.int (-1 : Int32)), (.int (0 : Int32))] (.int (0 : Int32))) (V_o4 : Arv Z h0 o4 kc_o4 .int (64 : Int32) [(.int (-1 : Int32)), (.int (-1 : Int32))] (.int (0 : Int32))) (V_o5 : Arv Z h0 o5 kc_o5 .int (64 : Int32) [(.int (-1 : Int32)), (.int (-1 : Int32))] (.int (0 : Int32))) (E_o6 : Exa Z h0 o6 s_1) (F_o6_wordsInUse : Fld Z h0 o6 s_1 "wordsInUse" "I" (.int (0 : Int32))) (F_o6_sizeIsSticky : Fld Z h0 o6 s_1 s_6 "Z" (.int (0 : Int32))) (gn_o7 : Z.heap.size ≤ o7) (lt_o7 : o7 < h0.size) (F_o6_words : Fld Z h0 o6 s_1 "words" "[J" (.ref o7)) (V_o7 : Arv Z h0 o7 kc_o7 .long (1 : Int32) [] (.long (0 : Int64))) (ne_o1_o2 : o1 ≠ o2) (ne_o1_o3 : o1 ≠ o3) (ne_o1_o4 : o1 ≠ o4) (ne_o1_o5 : o1 ≠ o5) (ne_o1_o6 : o1 ≠ o6) (ne_o1_o7 : o1 ≠ o7) (ne_o2_o3 : o2 ≠ o3) (ne_o2_o4 : o2 ≠ o4) (ne_o2_o5 : o2 ≠ o5) (ne_o2_o6 : o2 ≠ o6) (ne_o2_o7 : o2 ≠ o7) (ne_o3_o4 : o3 ≠ o4) (ne_o3_o5 : o3 ≠ o5) (ne_o3_o6 : o3 ≠ o6) (ne_o3_o7 : o3 ≠ o7) (ne_o4_o5 : o4 ≠ o5) (ne_o4_o6 : o4 ≠ o6) (ne_o4_o7 : o4 ≠ o7) (ne_o5_o6 : o5 ≠ o6) (ne_o5_o7 : o5 ≠ o7) (ne_o6_o7 : o6 ≠ o7) :
    Met l Z (⟨s_0, "newBlock", "()I"⟩ : MethodName) (Jvm.Cond.code (⟨s_0, "newBlock", "()I"⟩ : MethodName) prog_20_method_9_code 2 (some .int)) ws (Rm 0 0 0 0) #[(.ref o1)] h0 (Qd_11 Z w kk iw vw o1 o2 o3 o4 o5 o6 kc_o2 kc_o3 kc_o4 kc_o5 o7 kc_o7 h0 Z.heap.size) := by
  have hN' := hN
  have hL0 : Sta Z Z.heap s_1 s_4 "Z" (.int (1 : Int32)) := hN'
  refine own_body (plainFor_of_name pn_1) hisR ?_
  intro p e s m below meth c s₁ hx hby hml hown hnm hret X0 hZ e0
  have N0 := Fr.nil Z.heap.size
  have K0 : Keep h0 h0 [o1, o2, o3, o4, o5] := Keep.refl _ _
  obtain ⟨T1, X1, e1, st1⟩ := getF X0 hx hZ hown (host := "") (Or.inl (W hw 57 rfl)) Via.refl e0 F_o1_blockCount (g := (mkF m 1 #[.val (.ref o1), .unset] [(.ref o1)])) rfl rfl (hb hby d6_1)
  obtain ⟨T2, X2, e2, st2⟩ := getF X1 hx hZ hown (host := "") (Or.inl (W hw 57 rfl)) Via.refl e1 F_o1_blockCount (g := (mkF m 20 #[.val (.ref o1), .unset] [(.ref o1)])) rfl rfl (hb hby d6_20)
  obtain ⟨T3, X3, e3, st3⟩ := getF X2 hx hZ hown (host := "") (Or.inl (W hw 10 rfl)) Via.refl e2 F_o1_nextBlock (g := (mkF m 24 #[.val (.ref o1), .unset] [(.ref o1), (.int (2 : Int32))])) rfl rfl (hb hby d6_24)
  obtain ⟨cl4, Ar4, q4, Sz4, Ng4, Hv4, Gv4⟩ := id V_o2
  obtain ⟨T5, X5, e5, st5⟩ := getF X3 hx hZ hown (host := "") (Or.inl (W hw 57 rfl)) Via.refl e3 F_o1_blockCount (g := (mkF m 88 #[.val (.ref o1), .unset] [(.ref o1), (.ref o1)])) rfl rfl (hb hby d6_88)
  obtain ⟨T6, h6, X6, e6, W6, st6⟩ := putF X5 hx hZ hown (host := "") (Or.inl (W hw 57 rfl)) Via.refl e5 F_o1_blockCount E_o1 (Or.inl (W hw 58 rfl)) (W hw 1 rfl) (ty := .int) (by decide) rfl rfl (g := (mkF m 94 #[.val (.ref o1), .unset] [(.int (3 : Int32)), (.ref o1), (.int (2 : Int32))])) rfl rfl (hb hby d6_94)
  have F_o1_blockCount_v6 := F_o1_blockCount.same W6
  have N6 := Fr.snoc X6 N0 gn_o1
  have E_o1_v6 := E_o1.wr W6
  have F_o1_nextBlock_v6 := F_o1_nextBlock.other W6 (Or.inr (sn_106 hw))
  have F_o1_previousBlock_v6 := F_o1_previousBlock.other W6 (Or.inr (sn_107 hw))
  have F_o1_firstPiece_v6 := F_o1_firstPiece.other W6 (Or.inr (sn_108 hw))
  have F_o1_lastPiece_v6 := F_o1_lastPiece.other W6 (Or.inr (sn_109 hw))
  have F_o1_closed_v6 := F_o1_closed.other W6 (Or.inr (sn_110 hw))
  have F_o1_firstBlock_v6 := F_o1_firstBlock.other W6 (Or.inr (sn_111 hw))
  have F_o1_lastBlock_v6 := F_o1_lastBlock.other W6 (Or.inr (sn_112 hw))
  have V_o2_v6 := V_o2.other W6 (Ne.symm ne_o1_o2)
  have V_o3_v6 := V_o3.other W6 (Ne.symm ne_o1_o3)
  have V_o4_v6 := V_o4.other W6 (Ne.symm ne_o1_o4)
  have V_o5_v6 := V_o5.other W6 (Ne.symm ne_o1_o5)
  have E_o6_v6 := E_o6.wr W6
  have F_o6_wordsInUse_v6 := F_o6_wordsInUse.other W6 (Or.inl (Ne.symm ne_o1_o6))
  have F_o6_sizeIsSticky_v6 := F_o6_sizeIsSticky.other W6 (Or.inl (Ne.symm ne_o1_o6))
  have F_o6_words_v6 := F_o6_words.other W6 (Or.inl (Ne.symm ne_o1_o6))
  have V_o7_v6 := V_o7.other W6 (Ne.symm ne_o1_o7)
  have O6 := O0.wr W6 gn_o1
  have K6 : Keep h0 h6 [o1, o2, o3, o4, o5] := K0.wr W6 (Or.inl (List.mem_of_getElem? (i := 0) rfl))
  obtain ⟨T7, X7, e7, st7⟩ := getF X6 hx hZ hown (host := "") (Or.inl (W hw 10 rfl)) Via.refl e6 F_o1_nextBlock_v6 (g := (mkF m 99 #[.val (.ref o1), .val (.int (2 : Int32))] [(.ref o1)])) rfl rfl (hb hby d6_99)
  have V_o2_v8 : Arv Z h6 o2 kc_o2 .int (64 : Int32) [(.int (1 : Int32)), (.int (-1 : Int32)), (.int (0 : Int32))] (.int (0 : Int32)) := V_o2_v6.pad (pad_rep [(.int (1 : Int32)), (.int (-1 : Int32))] (.int (0 : Int32)) 1)
  obtain ⟨cl9, Ar9, q9, Sz9, Ng9, Hv9, Gv9⟩ := V_o2_v8
  have hin9 : ¬ ((2 : Int32) < 0 ∨ cl9.slots.size ≤ ((2 : Int32)).toNatClampNeg) := inb_of Sz9 ⟨by decide, by decide⟩
  obtain ⟨T10, h10, X10, e10, W10, st10⟩ := stI X7 hx hZ e7 Ar9 (j := (2 : Int32)) hin9 (g := (mkF m 104 #[.val (.ref o1), .val (.int (2 : Int32))] [(.int (-1 : Int32)), (.int (2 : Int32)), (.ref o2)])) rfl rfl (hb hby d6_104)
  have V_o2_v10 : Arv Z h10 o2 kc_o2 .int (64 : Int32) [(.int (1 : Int32)), (.int (-1 : Int32)), (.int (-1 : Int32))] (.int (0 : Int32)) := Arv.set Ar9 q9 Sz9 Ng9 Hv9 Gv9 rfl W10 2 rfl (Nat.le_of_ble_eq_true rfl)
  have N10 := Fr.snoc X10 N6 gn_o2
  have E_o1_v10 := E_o1_v6.wr W10
  have F_o1_nextBlock_v10 := F_o1_nextBlock_v6.other W10 (Or.inl ne_o1_o2)
  have F_o1_previousBlock_v10 := F_o1_previousBlock_v6.other W10 (Or.inl ne_o1_o2)
  have F_o1_firstPiece_v10 := F_o1_firstPiece_v6.other W10 (Or.inl ne_o1_o2)
  have F_o1_lastPiece_v10 := F_o1_lastPiece_v6.other W10 (Or.inl ne_o1_o2)
  have F_o1_closed_v10 := F_o1_closed_v6.other W10 (Or.inl ne_o1_o2)
  have F_o1_firstBlock_v10 := F_o1_firstBlock_v6.other W10 (Or.inl ne_o1_o2)
  have F_o1_lastBlock_v10 := F_o1_lastBlock_v6.other W10 (Or.inl ne_o1_o2)
  have F_o1_blockCount_v10 := F_o1_blockCount_v6.other W10 (Or.inl ne_o1_o2)
  have V_o3_v10 := V_o3_v6.other W10 (Ne.symm ne_o2_o3)
  have V_o4_v10 := V_o4_v6.other W10 (Ne.symm ne_o2_o4)
  have V_o5_v10 := V_o5_v6.other W10 (Ne.symm ne_o2_o5)
  have E_o6_v10 := E_o6_v6.wr W10
  have F_o6_wordsInUse_v10 := F_o6_wordsInUse_v6.other W10 (Or.inl (Ne.symm ne_o2_o6))
  have F_o6_sizeIsSticky_v10 := F_o6_sizeIsSticky_v6.other W10 (Or.inl (Ne.symm ne_o2_o6))
  have F_o6_words_v10 := F_o6_words_v6.other W10 (Or.inl (Ne.symm ne_o2_o6))
  have V_o7_v10 := V_o7_v6.other W10 (Ne.symm ne_o2_o7)
  have O10 := O6.wr W10 gn_o2
  have K10 : Keep h0 h10 [o1, o2, o3, o4, o5] := K6.wr W10 (Or.inl (List.mem_of_getElem? (i := 1) rfl))
  obtain ⟨T11, X11, e11, st11⟩ := getF X10 hx hZ hown (host := "") (Or.inl (W hw 12 rfl)) Via.refl e10 F_o1_previousBlock_v10 (g := (mkF m 106 #[.val (.ref o1), .val (.int (2 : Int32))] [(.ref o1)])) rfl rfl (hb hby d6_106)
  have V_o3_v12 : Arv Z h10 o3 kc_o3 .int (64 : Int32) [(.int (-1 : Int32)), (.int (0 : Int32)), (.int (0 : Int32))] (.int (0 : Int32)) := V_o3_v10.pad (pad_rep [(.int (-1 : Int32)), (.int (0 : Int32))] (.int (0 : Int32)) 1)
  obtain ⟨cl13, Ar13, q13, Sz13, Ng13, Hv13, Gv13⟩ := V_o3_v12
  have hin13 : ¬ ((2 : Int32) < 0 ∨ cl13.slots.size ≤ ((2 : Int32)).toNatClampNeg) := inb_of Sz13 ⟨by decide, by decide⟩
  obtain ⟨T14, h14, X14, e14, W14, st14⟩ := stI X11 hx hZ e11 Ar13 (j := (2 : Int32)) hin13 (g := (mkF m 111 #[.val (.ref o1), .val (.int (2 : Int32))] [(.int (-1 : Int32)), (.int (2 : Int32)), (.ref o3)])) rfl rfl (hb hby d6_111)
  have V_o3_v14 : Arv Z h14 o3 kc_o3 .int (64 : Int32) [(.int (-1 : Int32)), (.int (0 : Int32)), (.int (-1 : Int32))] (.int (0 : Int32)) := Arv.set Ar13 q13 Sz13 Ng13 Hv13 Gv13 rfl W14 2 rfl (Nat.le_of_ble_eq_true rfl)
  have N14 := Fr.snoc X14 N10 gn_o3
  have E_o1_v14 := E_o1_v10.wr W14
  have F_o1_nextBlock_v14 := F_o1_nextBlock_v10.other W14 (Or.inl ne_o1_o3)
  have F_o1_previousBlock_v14 := F_o1_previousBlock_v10.other W14 (Or.inl ne_o1_o3)
  have F_o1_firstPiece_v14 := F_o1_firstPiece_v10.other W14 (Or.inl ne_o1_o3)
  have F_o1_lastPiece_v14 := F_o1_lastPiece_v10.other W14 (Or.inl ne_o1_o3)
  have F_o1_closed_v14 := F_o1_closed_v10.other W14 (Or.inl ne_o1_o3)
  have F_o1_firstBlock_v14 := F_o1_firstBlock_v10.other W14 (Or.inl ne_o1_o3)
  have F_o1_lastBlock_v14 := F_o1_lastBlock_v10.other W14 (Or.inl ne_o1_o3)
  have F_o1_blockCount_v14 := F_o1_blockCount_v10.other W14 (Or.inl ne_o1_o3)
  have V_o2_v14 := V_o2_v10.other W14 ne_o2_o3
  have V_o4_v14 := V_o4_v10.other W14 (Ne.symm ne_o3_o4)
  have V_o5_v14 := V_o5_v10.other W14 (Ne.symm ne_o3_o5)
  have E_o6_v14 := E_o6_v10.wr W14
  have F_o6_wordsInUse_v14 := F_o6_wordsInUse_v10.other W14 (Or.inl (Ne.symm ne_o3_o6))
  have F_o6_sizeIsSticky_v14 := F_o6_sizeIsSticky_v10.other W14 (Or.inl (Ne.symm ne_o3_o6))
  have F_o6_words_v14 := F_o6_words_v10.other W14 (Or.inl (Ne.symm ne_o3_o6))
  have V_o7_v14 := V_o7_v10.other W14 (Ne.symm ne_o3_o7)
  have O14 := O10.wr W14 gn_o3
  have K14 : Keep h0 h14 [o1, o2, o3, o4, o5] := K10.wr W14 (Or.inl (List.mem_of_getElem? (i := 2) rfl))
  obtain ⟨T15, X15, e15, st15⟩ := getF X14 hx hZ hown (host := "") (Or.inl (W hw 14 rfl)) Via.refl e14 F_o1_firstPiece_v14 (g := (mkF m 113 #[.val (.ref o1), .val (.int (2 : Int32))] [(.ref o1)])) rfl rfl (hb hby d6_113)
  have V_o4_v16 : Arv Z h14 o4 kc_o4 .int (64 : Int32) [(.int (-1 : Int32)), (.int (-1 : Int32)), (.int (0 : Int32))] (.int (0 : Int32)) := V_o4_v14.pad (pad_rep [(.int (-1 : Int32)), (.int (-1 : Int32))] (.int (0 : Int32)) 1)
  obtain ⟨cl17, Ar17, q17, Sz17, Ng17, Hv17, Gv17⟩ := V_o4_v16
  have hin17 : ¬ ((2 : Int32) < 0 ∨ cl17.slots.size ≤ ((2 : Int32)).toNatClampNeg) := inb_of Sz17 ⟨by decide, by decide⟩
  obtain ⟨T18, h18, X18, e18, W18, st18⟩ := stI X15 hx hZ e15 Ar17 (j := (2 : Int32)) hin17 (g := (mkF m 118 #[.val (.ref o1), .val (.int (2 : Int32))] [(.int (-1 : Int32)), (.int (2 : Int32)), (.ref o4)])) rfl rfl (hb hby d6_118)
  have V_o4_v18 : Arv Z h18 o4 kc_o4 .int (64 : Int32) [(.int (-1 : Int32)), (.int (-1 : Int32)), (.int (-1 : Int32))] (.int (0 : Int32)) := Arv.set Ar17 q17 Sz17 Ng17 Hv17 Gv17 rfl W18 2 rfl (Nat.le_of_ble_eq_true rfl)
  have N18 := Fr.snoc X18 N14 gn_o4
  have E_o1_v18 := E_o1_v14.wr W18
  have F_o1_nextBlock_v18 := F_o1_nextBlock_v14.other W18 (Or.inl ne_o1_o4)
  have F_o1_previousBlock_v18 := F_o1_previousBlock_v14.other W18 (Or.inl ne_o1_o4)
  have F_o1_firstPiece_v18 := F_o1_firstPiece_v14.other W18 (Or.inl ne_o1_o4)
  have F_o1_lastPiece_v18 := F_o1_lastPiece_v14.other W18 (Or.inl ne_o1_o4)
  have F_o1_closed_v18 := F_o1_closed_v14.other W18 (Or.inl ne_o1_o4)
  have F_o1_firstBlock_v18 := F_o1_firstBlock_v14.other W18 (Or.inl ne_o1_o4)
  have F_o1_lastBlock_v18 := F_o1_lastBlock_v14.other W18 (Or.inl ne_o1_o4)
  have F_o1_blockCount_v18 := F_o1_blockCount_v14.other W18 (Or.inl ne_o1_o4)
  have V_o2_v18 := V_o2_v14.other W18 ne_o2_o4
  have V_o3_v18 := V_o3_v14.other W18 ne_o3_o4
  have V_o5_v18 := V_o5_v14.other W18 (Ne.symm ne_o4_o5)
  have E_o6_v18 := E_o6_v14.wr W18
  have F_o6_wordsInUse_v18 := F_o6_wordsInUse_v14.other W18 (Or.inl (Ne.symm ne_o4_o6))
  have F_o6_sizeIsSticky_v18 := F_o6_sizeIsSticky_v14.other W18 (Or.inl (Ne.symm ne_o4_o6))
  have F_o6_words_v18 := F_o6_words_v14.other W18 (Or.inl (Ne.symm ne_o4_o6))
  have V_o7_v18 := V_o7_v14.other W18 (Ne.symm ne_o4_o7)
  have O18 := O14.wr W18 gn_o4
  have K18 : Keep h0 h18 [o1, o2, o3, o4, o5] := K14.wr W18 (Or.inl (List.mem_of_getElem? (i := 3) rfl))
  obtain ⟨T19, X19, e19, st19⟩ := getF X18 hx hZ hown (host := "") (Or.inl (W hw 16 rfl)) Via.refl e18 F_o1_lastPiece_v18 (g := (mkF m 120 #[.val (.ref o1), .val (.int (2 : Int32))] [(.ref o1)])) rfl rfl (hb hby d6_120)
  have V_o5_v20 : Arv Z h18 o5 kc_o5 .int (64 : Int32) [(.int (-1 : Int32)), (.int (-1 : Int32)), (.int (0 : Int32))] (.int (0 : Int32)) := V_o5_v18.pad (pad_rep [(.int (-1 : Int32)), (.int (-1 : Int32))] (.int (0 : Int32)) 1)
  obtain ⟨cl21, Ar21, q21, Sz21, Ng21, Hv21, Gv21⟩ := V_o5_v20
  have hin21 : ¬ ((2 : Int32) < 0 ∨ cl21.slots.size ≤ ((2 : Int32)).toNatClampNeg) := inb_of Sz21 ⟨by decide, by decide⟩
  obtain ⟨T22, h22, X22, e22, W22, st22⟩ := stI X19 hx hZ e19 Ar21 (j := (2 : Int32)) hin21 (g := (mkF m 125 #[.val (.ref o1), .val (.int (2 : Int32))] [(.int (-1 : Int32)), (.int (2 : Int32)), (.ref o5)])) rfl rfl (hb hby d6_125)
  have V_o5_v22 : Arv Z h22 o5 kc_o5 .int (64 : Int32) [(.int (-1 : Int32)), (.int (-1 : Int32)), (.int (-1 : Int32))] (.int (0 : Int32)) := Arv.set Ar21 q21 Sz21 Ng21 Hv21 Gv21 rfl W22 2 rfl (Nat.le_of_ble_eq_true rfl)
  have N22 := Fr.snoc X22 N18 gn_o5
  have E_o1_v22 := E_o1_v18.wr W22
  have F_o1_nextBlock_v22 := F_o1_nextBlock_v18.other W22 (Or.inl ne_o1_o5)
  have F_o1_previousBlock_v22 := F_o1_previousBlock_v18.other W22 (Or.inl ne_o1_o5)
  have F_o1_firstPiece_v22 := F_o1_firstPiece_v18.other W22 (Or.inl ne_o1_o5)
  have F_o1_lastPiece_v22 := F_o1_lastPiece_v18.other W22 (Or.inl ne_o1_o5)
  have F_o1_closed_v22 := F_o1_closed_v18.other W22 (Or.inl ne_o1_o5)
  have F_o1_firstBlock_v22 := F_o1_firstBlock_v18.other W22 (Or.inl ne_o1_o5)
  have F_o1_lastBlock_v22 := F_o1_lastBlock_v18.other W22 (Or.inl ne_o1_o5)
  have F_o1_blockCount_v22 := F_o1_blockCount_v18.other W22 (Or.inl ne_o1_o5)
  have V_o2_v22 := V_o2_v18.other W22 ne_o2_o5
  have V_o3_v22 := V_o3_v18.other W22 ne_o3_o5
  have V_o4_v22 := V_o4_v18.other W22 ne_o4_o5
  have E_o6_v22 := E_o6_v18.wr W22
  have F_o6_wordsInUse_v22 := F_o6_wordsInUse_v18.other W22 (Or.inl (Ne.symm ne_o5_o6))
  have F_o6_sizeIsSticky_v22 := F_o6_sizeIsSticky_v18.other W22 (Or.inl (Ne.symm ne_o5_o6))
  have F_o6_words_v22 := F_o6_words_v18.other W22 (Or.inl (Ne.symm ne_o5_o6))
  have V_o7_v22 := V_o7_v18.other W22 (Ne.symm ne_o5_o7)
  have O22 := O18.wr W22 gn_o5
  have K22 : Keep h0 h22 [o1, o2, o3, o4, o5] := K18.wr W22 (Or.inl (List.mem_of_getElem? (i := 4) rfl))
  refine ⟨T22, some (.int (2 : Int32)), _, _, _, by decide, by decide, X22, nofun, (by rw [e22]; exact ⟨rfl, N22, K22, E_o1_v22, F_o1_nextBlock_v22, F_o1_previousBlock_v22, F_o1_firstPiece_v22, F_o1_lastPiece_v22, F_o1_closed_v22, F_o1_firstBlock_v22, F_o1_lastBlock_v22, F_o1_blockCount_v22, V_o2_v22, V_o3_v22, V_o4_v22, V_o5_v22⟩), fun fs hr => castTop (ef_4 m (.ref o1) rfl) ?_⟩
  show Steps p.tables e below (s₁.setTop (mkF m 0 #[.val (.ref o1), .unset] [])) _
  refine XS.aloadN X0.here hx rfl (hb hby d6_0) rfl rfl ?_
  refine st1 _ ?_
  refine X1.ldcInt hx hown (mvT hZ (W hw 68 rfl)) (g := (mkF m 4 #[.val (.ref o1), .unset] [(.int (2 : Int32))])) rfl (hb hby d6_4) _ ?_
  refine XS.icmpYes X1.here hx rfl (pc0 := 6) (pc' := 19) rfl (hb hby d6_6) rfl (feq (by decide : ¬ ((2 : Int32) = (524288 : Int32)))).2 (by decide) (by decide) ?_
  refine XS.aloadN X1.here hx rfl (hb hby d6_19) rfl rfl ?_
  refine st2 _ ?_
  refine XS.aloadN X2.here hx rfl (hb hby d6_23) rfl rfl ?_
  refine st3 _ ?_
  show Steps p.tables e below (T3.setTop (mkF m 27 #[.val (.ref o1), .unset] [(.ref o2), (.int (2 : Int32))])) _
  refine X3.arraylength hx (by rw [e3]; exact Ar4.1) (State.isArrayOf_alike hZ.alike Ar4.2.1) (g := (mkF m 27 #[.val (.ref o1), .unset] [(.ref o2), (.int (2 : Int32))])) rfl rfl (hb hby d6_27) _ ?_
  rw [len_of Sz4 Ng4]
  refine XS.icmpYes X3.here hx rfl (pc0 := 28) (pc' := 86) rfl (hb hby d6_28) rfl (feq (by decide : ¬ ((2 : Int32) = (64 : Int32)))).2 (by decide) (by decide) ?_
  refine XS.aloadN X3.here hx rfl (hb hby d6_86) rfl rfl ?_
  refine XS.dup X3.here hx rfl (hb hby d6_87) rfl rfl ?_
  refine st5 _ ?_
  refine XS.dupX1 X5.here hx rfl (hb hby d6_91) rfl rfl rfl ?_
  refine XS.iconst X5.here hx rfl (hb hby d6_92) ?_
  refine XS.iadd X5.here hx rfl (hb hby d6_93) rfl ?_
  show Steps p.tables e below (T5.setTop (mkF m 94 #[.val (.ref o1), .unset] [(.int ((2 : Int32) + (1 : Int32))), (.ref o1), (.int (2 : Int32))])) _
  rw [lf_4]
  show Steps p.tables e below (T5.setTop (mkF m 94 #[.val (.ref o1), .unset] [(.int (3 : Int32)), (.ref o1), (.int (2 : Int32))])) _
  refine st6 _ ?_
  refine XS.istoreN X6.here hx rfl (hb hby d6_97) rfl (l' := #[.val (.ref o1), .val (.int (2 : Int32))]) rfl ?_
  refine XS.aloadN X6.here hx rfl (hb hby d6_98) rfl rfl ?_
  refine st7 _ ?_
  refine XS.iloadN X7.here hx rfl (hb hby d6_102) rfl ?_
  refine XS.iconst X7.here hx rfl (hb hby d6_103) ?_
  refine st10 _ ?_
  refine XS.aloadN X10.here hx rfl (hb hby d6_105) rfl rfl ?_
  show Steps p.tables e below (T10.setTop (mkF m 106 #[.val (.ref o1), .val (.int (2 : Int32))] [(.ref o1)])) _
  refine st11 _ ?_
  refine XS.iloadN X11.here hx rfl (hb hby d6_109) rfl ?_
  refine XS.iconst X11.here hx rfl (hb hby d6_110) ?_
  refine st14 _ ?_
  refine XS.aloadN X14.here hx rfl (hb hby d6_112) rfl rfl ?_
  refine st15 _ ?_
  refine XS.iloadN X15.here hx rfl (hb hby d6_116) rfl ?_
  refine XS.iconst X15.here hx rfl (hb hby d6_117) ?_
  show Steps p.tables e below (T15.setTop (mkF m 118 #[.val (.ref o1), .val (.int (2 : Int32))] [(.int (-1 : Int32)), (.int (2 : Int32)), (.ref o4)])) _
  refine st18 _ ?_
  refine XS.aloadN X18.here hx rfl (hb hby d6_119) rfl rfl ?_
  refine st19 _ ?_
  refine XS.iloadN X19.here hx rfl (hb hby d6_123) rfl ?_
  refine XS.iconst X19.here hx rfl (hb hby d6_124) ?_
  refine st22 _ ?_
  refine XS.iloadN X22.here hx rfl (hb hby d6_126) rfl ?_
  show Steps p.tables e below (T22.setTop (mkF m 127 #[.val (.ref o1), .val (.int (2 : Int32))] [(.int (2 : Int32))])) _
  exact retI X22 hx hret (hb hby d6_127) hr
def Qd_12 (Z : State) (w : Nat → Addr) (kk : Nat → ClassId) (iw : Nat → Int32) (vw : Nat → Value) (o1 : Addr) (o2 : Addr) (o3 : Addr) (o4 : Addr) (o5 : Addr) (o6 : Addr) (kc_o2 : ClassId) (kc_o3 : ClassId) (kc_o4 : ClassId) (kc_o5 : ClassId) (o7 : Addr) (kc_o7 : ClassId) (h0 : Heap) (n0 : Nat) (v : Option Value) (h : Heap) (L : List Loc) : Prop := v = none ∧ Fr n0 L ∧ Keep h0 h [o5, o4, o3, o2, o1] ∧ Exa Z h o1 s_0 ∧ Fld Z h o1 s_0 "nextBlock" "[I" (.ref o2) ∧ Fld Z h o1 s_0 s_5 "[I" (.ref o3) ∧ Fld Z h o1 s_0 "firstPiece" "[I" (.ref o4) ∧ Fld Z h o1 s_0 "lastPiece" "[I" (.ref o5) ∧ Fld Z h o1 s_0 "closed" s_3 (.ref o6) ∧ Fld Z h o1 s_0 "firstBlock" "I" (.int (2 : Int32)) ∧ Fld Z h o1 s_0 "lastBlock" "I" (.int (1 : Int32)) ∧ Fld Z h o1 s_0 "blockCount" "I" (.int (3 : Int32)) ∧ Arv Z h o2 kc_o2 .int (64 : Int32) [(.int (1 : Int32)), (.int (-1 : Int32)), (.int (0 : Int32))] (.int (0 : Int32)) ∧ Arv Z h o3 kc_o3 .int (64 : Int32) [(.int (2 : Int32)), (.int (0 : Int32)), (.int (-1 : Int32))] (.int (0 : Int32)) ∧ Arv Z h o4 kc_o4 .int (64 : Int32) [(.int (-1 : Int32)), (.int (-1 : Int32)), (.int (-1 : Int32))] (.int (0 : Int32)) ∧ Arv Z h o5 kc_o5 .int (64 : Int32) [(.int (-1 : Int32)), (.int (-1 : Int32)), (.int (-1 : Int32))] (.int (0 : Int32))
set_option maxRecDepth 65536 in
set_option maxHeartbeats 40000000 in
theorem rm_41 (l : Launch) (Z : State) (a0 : Array Value) (hw : ∀ d ∈ tables_1, d.before a0 Z = true) (w : Nat → Addr) (kk : Nat → ClassId) (iw : Nat → Int32) (vw : Nat → Value) (hN : Wd Z w kk iw vw) (ws : List Jvm.Cond) (o1 : Addr) (o2 : Addr) (o3 : Addr) (o4 : Addr) (o5 : Addr) (o6 : Addr) (kc_o2 : ClassId) (kc_o3 : ClassId) (kc_o4 : ClassId) (kc_o5 : ClassId) (o7 : Addr) (kc_o7 : ClassId) (h0 : Heap) (O0 : Old Z Z.heap.size h0) (gn_o1 : Z.heap.size ≤ o1) (lt_o1 : o1 < h0.size) (E_o1 : Exa Z h0 o1 s_0) (gn_o2 : Z.heap.size ≤ o2) (lt_o2 : o2 < h0.size) (F_o1_nextBlock : Fld Z h0 o1 s_0 "nextBlock" "[I" (.ref o2)) (gn_o3 : Z.heap.size ≤ o3) (lt_o3 : o3 < h0.size) (F_o1_previousBlock : Fld Z h0 o1 s_0 s_5 "[I" (.ref o3)) (gn_o4 : Z.heap.size ≤ o4) (lt_o4 : o4 < h0.size) (F_o1_firstPiece : Fld Z h0 o1 s_0 "firstPiece" "[I" (.ref o4)) (gn_o5 : Z.heap.size ≤ o5) (lt_o5 : o5 < h0.size) (F_o1_lastPiece : Fld Z h0 o1 s_0 "lastPiece" "[I" (.ref o5)) (gn_o6 : Z.heap.size ≤ o6) (lt_o6 : o6 < h0.size) (F_o1_closed : Fld Z h0 o1 s_0 "closed" s_3 (.ref o6)) (F_o1_firstBlock : Fld Z h0 o1 s_0 "firstBlock" "I" (.int (0 : Int32))) (F_o1_lastBlock : Fld Z h0 o1 s_0 "lastBlock" "I" (.int (1 : Int32))) (F_o1_blockCount : Fld Z h0 o1 s_0 "blockCount" "I" (.int (2 : Int32))) (V_o2 : Arv Z h0 o2 kc_o2 .int (64 : Int32) [(.int (1 : Int32)), (.int (-1 : Int32))] (.int (0 : Int32))) (V_o3 : Arv Z h0 o3 kc_o3 .int (64 : Int32) [(.int (-1 : Int32)), (.int (0 : Int32))] (.int (0 : Int32))) (V_o4 : Arv Z h0 o4 kc_o4 .int (64 : Int32) [(.int (-1 : Int32)), (.int (-1 : Int32))] (.int (0 : Int32))) (V_o5 : Arv Z h0 o5 kc_o5 .int (64 : Int32) [(.int (-1 : Int32)), (.int (-1 : Int32))] (.int (0 : Int32))) (E_o6 : Exa Z h0 o6 s_1) (F_o6_wordsInUse : Fld Z h0 o6 s_1 "wordsInUse" "I" (.int (0 : Int32))) (F_o6_sizeIsSticky : Fld Z h0 o6 s_1 s_6 "Z" (.int (0 : Int32))) (gn_o7 : Z.heap.size ≤ o7) (lt_o7 : o7 < h0.size) (F_o6_words : Fld Z h0 o6 s_1 "words" "[J" (.ref o7)) (V_o7 : Arv Z h0 o7 kc_o7 .long (1 : Int32) [] (.long (0 : Int64))) (ne_o1_o2 : o1 ≠ o2) (ne_o1_o3 : o1 ≠ o3) (ne_o1_o4 : o1 ≠ o4) (ne_o1_o5 : o1 ≠ o5) (ne_o1_o6 : o1 ≠ o6) (ne_o1_o7 : o1 ≠ o7) (ne_o2_o3 : o2 ≠ o3) (ne_o2_o4 : o2 ≠ o4) (ne_o2_o5 : o2 ≠ o5) (ne_o2_o6 : o2 ≠ o6) (ne_o2_o7 : o2 ≠ o7) (ne_o3_o4 : o3 ≠ o4) (ne_o3_o5 : o3 ≠ o5) (ne_o3_o6 : o3 ≠ o6) (ne_o3_o7 : o3 ≠ o7) (ne_o4_o5 : o4 ≠ o5) (ne_o4_o6 : o4 ≠ o6) (ne_o4_o7 : o4 ≠ o7) (ne_o5_o6 : o5 ≠ o6) (ne_o5_o7 : o5 ≠ o7) (ne_o6_o7 : o6 ≠ o7) :
    MetW l Z (⟨s_0, "insertBlock", "(I)V"⟩ : MethodName) (Jvm.Cond.code (⟨s_0, "insertBlock", "(I)V"⟩ : MethodName) prog_20_method_4_code 5 none) ws (Rm 1 2 68 14) #[(.ref o1), (.int (0 : Int32))] h0 (Qd_12 Z w kk iw vw o1 o2 o3 o4 o5 o6 kc_o2 kc_o3 kc_o4 kc_o5 o7 kc_o7 h0 Z.heap.size) := by
  have hN' := hN
  have hL0 : Sta Z Z.heap s_1 s_4 "Z" (.int (1 : Int32)) := hN'
  refine own_bodyW (plainFor_of_name pn_1) hisR ?_
  intro p e s m below meth c s₁ hx hby hml hown hnm hret X0 hZ e0
  have N0 := Fr.nil Z.heap.size
  have K0 : Keep h0 h0 [o5, o4, o3, o2, o1] := Keep.refl _ _
  obtain ⟨b1, T1, h1, k1, X1, e1, E1, hS1, hk1, hZ1, hown1, st1⟩ := ldcS (s := s) (vm0 := s.vm) X0 hx hZ hown (W hw 75 rfl) (own_atoms hw) e0 (own_since s 0) (Nat.zero_le _) (g := (mkF m 2 #[.val (.ref o1), .val (.int (0 : Int32)), .unset, .unset, .unset] [(.int (0 : Int32)), (.ref o1)])) rfl (hb hby d13_2) (n := 64) (by decide) (by decide) (by decide) (by decide)
  have E_o1_v1 := E_o1.ext E1
  have F_o1_nextBlock_v1 := F_o1_nextBlock.ext E1
  have F_o1_previousBlock_v1 := F_o1_previousBlock.ext E1
  have F_o1_firstPiece_v1 := F_o1_firstPiece.ext E1
  have F_o1_lastPiece_v1 := F_o1_lastPiece.ext E1
  have F_o1_closed_v1 := F_o1_closed.ext E1
  have F_o1_firstBlock_v1 := F_o1_firstBlock.ext E1
  have F_o1_lastBlock_v1 := F_o1_lastBlock.ext E1
  have F_o1_blockCount_v1 := F_o1_blockCount.ext E1
  have V_o2_v1 := V_o2.ext E1
  have V_o3_v1 := V_o3.ext E1
  have V_o4_v1 := V_o4.ext E1
  have V_o5_v1 := V_o5.ext E1
  have E_o6_v1 := E_o6.ext E1
  have F_o6_wordsInUse_v1 := F_o6_wordsInUse.ext E1
  have F_o6_sizeIsSticky_v1 := F_o6_sizeIsSticky.ext E1
  have F_o6_words_v1 := F_o6_words.ext E1
  have V_o7_v1 := V_o7.ext E1
  have O1 := O0.ext E1
  have K1 := K0.ext E1
  obtain ⟨cq2, q2, q2'⟩ := E_o1_v1.cell
  obtain ⟨_, _, ⟨T2, L2, k2, n2⟩, -, X2, ⟨Lc2, hQ2, l2, y2, z2⟩, st2⟩ := X1.privateBack hx (y := (⟨s_0, "find", s_7⟩ : MethodName)) hown1 (mvT hZ1 (W hw 83 rfl)) (mvT hZ1 (W hw 84 rfl)) (own_selpriv (mvT hZ1 (W hw 1 rfl)) (Cond.privateMethod_at (mvP hZ1 (W hw 85 rfl) (args := #[]))) (mvT hZ1 (W hw 84 rfl)) (by decide)) (Cond.privateMethod_at (mvP hZ1 (W hw 85 rfl) (args := #[]))) (mvT hZ1 (W hw 86 rfl)) (by decide) (backOf (W := 0) (rm_39 l Z a0 hw w kk iw vw hN [] o1 b1 o2 o3 o4 o5 o6 kc_o2 kc_o3 kc_o4 kc_o5 o7 kc_o7 h1 O1 gn_o1 E_o1_v1.lt E_o1_v1 gn_o2 V_o2_v1.lt F_o1_nextBlock_v1 gn_o3 V_o3_v1.lt F_o1_previousBlock_v1 gn_o4 V_o4_v1.lt F_o1_firstPiece_v1 gn_o5 V_o5_v1.lt F_o1_lastPiece_v1 gn_o6 E_o6_v1.lt F_o1_closed_v1 F_o1_firstBlock_v1 F_o1_lastBlock_v1 F_o1_blockCount_v1 V_o2_v1 V_o3_v1 V_o4_v1 V_o5_v1 E_o6_v1 F_o6_wordsInUse_v1 F_o6_sizeIsSticky_v1 gn_o7 V_o7_v1.lt F_o6_words_v1 V_o7_v1 ne_o1_o2 ne_o1_o3 ne_o1_o4 ne_o1_o5 ne_o1_o6 ne_o1_o7 ne_o2_o3 ne_o2_o4 ne_o2_o5 ne_o2_o6 ne_o2_o7 ne_o3_o4 ne_o3_o5 ne_o3_o6 ne_o3_o7 ne_o4_o5 ne_o4_o6 ne_o4_o7 ne_o5_o6 ne_o5_o7 ne_o6_o7) hZ1 (W hw 86 rfl) (W hw 2 rfl) (by decide) (by decide)) (g := (mkF m 4 #[.val (.ref o1), .val (.int (0 : Int32)), .unset, .unset, .unset] [(.ref b1), (.int (0 : Int32)), (.ref o1)])) rfl (by rw [hml]; rfl) (Steps.refl _) (a := o1) (by rw [e1]; exact q2) q2' (argsL := [(.int (0 : Int32)), (.ref b1)]) (rest := []) (lenOf pd_5 rfl) rfl (by show 2 * 0 + _ ≤ _; exact Nat.le_of_eq rfl) (hb hby d13_4) (fun _ _ => ⟨rfl, e1, (by decide : 2 + 0 ≤ _), (by decide : 68 + 0 ≤ _)⟩)
  dsimp only [Pt.U, Pt.locs, Pt.cells, Pt.slots] at X2 l2 y2 z2 st2 hQ2
  subst l2 y2 z2
  obtain ⟨rfl, N2q, e2⟩ := hQ2
  have N2 := Fr.app N0 N2q
  obtain ⟨cq3, q3, q3'⟩ := E_o1_v1.cell
  obtain ⟨_, _, ⟨T3, L3, k3, n3⟩, -, X3, ⟨Lc3, hQ3, l3, y3, z3⟩, st3⟩ := X2.privateBack hx (y := (⟨s_0, "newBlock", "()I"⟩ : MethodName)) hown1 (mvT hZ1 (W hw 64 rfl)) (mvT hZ1 (W hw 65 rfl)) (own_selpriv (mvT hZ1 (W hw 1 rfl)) (Cond.privateMethod_at (mvP hZ1 (W hw 66 rfl) (args := #[]))) (mvT hZ1 (W hw 65 rfl)) (by decide)) (Cond.privateMethod_at (mvP hZ1 (W hw 66 rfl) (args := #[]))) (mvT hZ1 (W hw 67 rfl)) (by decide) (backOf (W := 0) (rm_40 l Z a0 hw w kk iw vw hN [] o1 o2 o3 o4 o5 o6 kc_o2 kc_o3 kc_o4 kc_o5 o7 kc_o7 h1 O1 gn_o1 E_o1_v1.lt E_o1_v1 gn_o2 V_o2_v1.lt F_o1_nextBlock_v1 gn_o3 V_o3_v1.lt F_o1_previousBlock_v1 gn_o4 V_o4_v1.lt F_o1_firstPiece_v1 gn_o5 V_o5_v1.lt F_o1_lastPiece_v1 gn_o6 E_o6_v1.lt F_o1_closed_v1 F_o1_firstBlock_v1 F_o1_lastBlock_v1 F_o1_blockCount_v1 V_o2_v1 V_o3_v1 V_o4_v1 V_o5_v1 E_o6_v1 F_o6_wordsInUse_v1 F_o6_sizeIsSticky_v1 gn_o7 V_o7_v1.lt F_o6_words_v1 V_o7_v1 ne_o1_o2 ne_o1_o3 ne_o1_o4 ne_o1_o5 ne_o1_o6 ne_o1_o7 ne_o2_o3 ne_o2_o4 ne_o2_o5 ne_o2_o6 ne_o2_o7 ne_o3_o4 ne_o3_o5 ne_o3_o6 ne_o3_o7 ne_o4_o5 ne_o4_o6 ne_o4_o7 ne_o5_o6 ne_o5_o7 ne_o6_o7) hZ1 (W hw 67 rfl) (W hw 2 rfl) (by decide) (by decide)) (g := (mkF m 9 #[.val (.ref o1), .val (.int (0 : Int32)), .val (.int (0 : Int32)), .unset, .unset] [(.ref o1)])) rfl (by rw [hml]; rfl) (Steps.refl _) (a := o1) (by rw [e2]; exact q3) q3' (argsL := []) (rest := []) (lenOf pd_4 rfl) rfl (by show 2 * 0 + _ ≤ _; exact Nat.le_of_eq rfl) (hb hby d13_9) (fun _ _ => ⟨rfl, e2, (by decide : 2 + 0 ≤ _), (by decide : 68 + 0 ≤ _)⟩)
  dsimp only [Pt.U, Pt.locs, Pt.cells, Pt.slots] at X3 l3 y3 z3 st3 hQ3
  subst l3 y3 z3
  obtain ⟨rfl, N3q, Kq3, tk3_0, tk3_1, tk3_2, tk3_3, tk3_4, tk3_5, tk3_6, tk3_7, tk3_8, tk3_9, tk3_10, tk3_11, tk3_12⟩ := hQ3
  have N3 := Fr.app N2 N3q
  have E_o1_v3 := E_o1_v1.keep Kq3
  have E_o6_v3 := E_o6_v1.keep Kq3
  have F_o6_wordsInUse_v3 := F_o6_wordsInUse_v1.keep Kq3 (ninS (Ne.symm ne_o1_o6) (ninS (Ne.symm ne_o2_o6) (ninS (Ne.symm ne_o3_o6) (ninS (Ne.symm ne_o4_o6) (ninS (Ne.symm ne_o5_o6) nin0)))))
  have F_o6_sizeIsSticky_v3 := F_o6_sizeIsSticky_v1.keep Kq3 (ninS (Ne.symm ne_o1_o6) (ninS (Ne.symm ne_o2_o6) (ninS (Ne.symm ne_o3_o6) (ninS (Ne.symm ne_o4_o6) (ninS (Ne.symm ne_o5_o6) nin0)))))
  have F_o6_words_v3 := F_o6_words_v1.keep Kq3 (ninS (Ne.symm ne_o1_o6) (ninS (Ne.symm ne_o2_o6) (ninS (Ne.symm ne_o3_o6) (ninS (Ne.symm ne_o4_o6) (ninS (Ne.symm ne_o5_o6) nin0)))))
  have V_o7_v3 := V_o7_v1.keep Kq3 (ninS (Ne.symm ne_o1_o7) (ninS (Ne.symm ne_o2_o7) (ninS (Ne.symm ne_o3_o7) (ninS (Ne.symm ne_o4_o7) (ninS (Ne.symm ne_o5_o7) nin0)))))
  have hk3 := Nat.le_trans hk1 Kq3.1
  have O3 := O1.keep Kq3 (allS gn_o1 (allS gn_o2 (allS gn_o3 (allS gn_o4 (allS gn_o5 all0)))))
  have K3 : Keep h0 T3.heap [o5, o4, o3, o2, o1] := K1.trans Kq3 (allS (Or.inl (List.mem_of_getElem? (i := 4) rfl)) (allS (Or.inl (List.mem_of_getElem? (i := 3) rfl)) (allS (Or.inl (List.mem_of_getElem? (i := 2) rfl)) (allS (Or.inl (List.mem_of_getElem? (i := 1) rfl)) (allS (Or.inl (List.mem_of_getElem? (i := 0) rfl)) all0)))))
  obtain ⟨T4, X4, e4, st4⟩ := getF X3 hx hZ1 hown1 (host := "") (Or.inl (W hw 12 rfl)) Via.refl rfl tk3_2 (g := (mkF m 14 #[.val (.ref o1), .val (.int (0 : Int32)), .val (.int (0 : Int32)), .val (.int (2 : Int32)), .unset] [(.ref o1)])) rfl rfl (hb hby d13_14)
  obtain ⟨cl5, Ar5, q5, Sz5, Ng5, Hv5, Gv5⟩ := id tk3_10
  have hin5 : ¬ ((0 : Int32) < 0 ∨ cl5.slots.size ≤ ((0 : Int32)).toNatClampNeg) := inb_of Sz5 ⟨by decide, by decide⟩
  have hat5 : cl5.slots[((0 : Int32)).toNatClampNeg]? = some (.int (-1 : Int32)) := Has.at Hv5 hin5 (by rfl)
  obtain ⟨T6, X6, e6, st6⟩ := getF X4 hx hZ1 hown1 (host := "") (Or.inl (W hw 10 rfl)) Via.refl e4 tk3_1 (g := (mkF m 22 #[.val (.ref o1), .val (.int (0 : Int32)), .val (.int (0 : Int32)), .val (.int (2 : Int32)), .val (.int (-1 : Int32))] [(.ref o1)])) rfl rfl (hb hby d13_22)
  obtain ⟨cl7, Ar7, q7, Sz7, Ng7, Hv7, Gv7⟩ := tk3_9
  have hin7 : ¬ ((2 : Int32) < 0 ∨ cl7.slots.size ≤ ((2 : Int32)).toNatClampNeg) := inb_of Sz7 ⟨by decide, by decide⟩
  obtain ⟨T8, h8, X8, e8, W8, st8⟩ := stI X6 hx hZ1 e6 Ar7 (j := (2 : Int32)) hin7 (g := (mkF m 27 #[.val (.ref o1), .val (.int (0 : Int32)), .val (.int (0 : Int32)), .val (.int (2 : Int32)), .val (.int (-1 : Int32))] [(.int (0 : Int32)), (.int (2 : Int32)), (.ref o2)])) rfl rfl (hb hby d13_27)
  have V_o2_v8 : Arv Z h8 o2 kc_o2 .int (64 : Int32) [(.int (1 : Int32)), (.int (-1 : Int32)), (.int (0 : Int32))] (.int (0 : Int32)) := Arv.set Ar7 q7 Sz7 Ng7 Hv7 Gv7 rfl W8 2 rfl (Nat.le_of_ble_eq_true rfl)
  have N8 := Fr.snoc X8 N3 gn_o2
  have tk3_0_v8 := tk3_0.wr W8
  have E_o6_v8 := E_o6_v3.wr W8
  have F_o6_wordsInUse_v8 := F_o6_wordsInUse_v3.other W8 (Or.inl (Ne.symm ne_o2_o6))
  have F_o6_sizeIsSticky_v8 := F_o6_sizeIsSticky_v3.other W8 (Or.inl (Ne.symm ne_o2_o6))
  have F_o6_words_v8 := F_o6_words_v3.other W8 (Or.inl (Ne.symm ne_o2_o6))
  have V_o7_v8 := V_o7_v3.other W8 (Ne.symm ne_o2_o7)
  have tk3_1_v8 := tk3_1.other W8 (Or.inl ne_o1_o2)
  have tk3_2_v8 := tk3_2.other W8 (Or.inl ne_o1_o2)
  have tk3_3_v8 := tk3_3.other W8 (Or.inl ne_o1_o2)
  have tk3_4_v8 := tk3_4.other W8 (Or.inl ne_o1_o2)
  have tk3_5_v8 := tk3_5.other W8 (Or.inl ne_o1_o2)
  have tk3_6_v8 := tk3_6.other W8 (Or.inl ne_o1_o2)
  have tk3_7_v8 := tk3_7.other W8 (Or.inl ne_o1_o2)
  have tk3_8_v8 := tk3_8.other W8 (Or.inl ne_o1_o2)
  have tk3_10_v8 := tk3_10.other W8 (Ne.symm ne_o2_o3)
  have tk3_11_v8 := tk3_11.other W8 (Ne.symm ne_o2_o4)
  have tk3_12_v8 := tk3_12.other W8 (Ne.symm ne_o2_o5)
  have O8 := O3.wr W8 gn_o2
  have K8 : Keep h0 h8 [o5, o4, o3, o2, o1] := K3.wr W8 (Or.inl (List.mem_of_getElem? (i := 3) rfl))
  have hk8 := Nat.le_trans hk3 (Keep.of_wr W8).1
  obtain ⟨T9, X9, e9, st9⟩ := getF X8 hx hZ1 hown1 (host := "") (Or.inl (W hw 12 rfl)) Via.refl e8 tk3_2_v8 (g := (mkF m 29 #[.val (.ref o1), .val (.int (0 : Int32)), .val (.int (0 : Int32)), .val (.int (2 : Int32)), .val (.int (-1 : Int32))] [(.ref o1)])) rfl rfl (hb hby d13_29)
  obtain ⟨cl10, Ar10, q10, Sz10, Ng10, Hv10, Gv10⟩ := tk3_10_v8
  have hin10 : ¬ ((2 : Int32) < 0 ∨ cl10.slots.size ≤ ((2 : Int32)).toNatClampNeg) := inb_of Sz10 ⟨by decide, by decide⟩
  obtain ⟨T11, h11, X11, e11, W11, st11⟩ := stI X9 hx hZ1 e9 Ar10 (j := (2 : Int32)) hin10 (g := (mkF m 35 #[.val (.ref o1), .val (.int (0 : Int32)), .val (.int (0 : Int32)), .val (.int (2 : Int32)), .val (.int (-1 : Int32))] [(.int (-1 : Int32)), (.int (2 : Int32)), (.ref o3)])) rfl rfl (hb hby d13_35)
  have V_o3_v11 : Arv Z h11 o3 kc_o3 .int (64 : Int32) [(.int (-1 : Int32)), (.int (0 : Int32)), (.int (-1 : Int32))] (.int (0 : Int32)) := Arv.set Ar10 q10 Sz10 Ng10 Hv10 Gv10 rfl W11 2 rfl (Nat.le_of_ble_eq_true rfl)
  have N11 := Fr.snoc X11 N8 gn_o3
  have tk3_0_v11 := tk3_0_v8.wr W11
  have E_o6_v11 := E_o6_v8.wr W11
  have F_o6_wordsInUse_v11 := F_o6_wordsInUse_v8.other W11 (Or.inl (Ne.symm ne_o3_o6))
  have F_o6_sizeIsSticky_v11 := F_o6_sizeIsSticky_v8.other W11 (Or.inl (Ne.symm ne_o3_o6))
  have F_o6_words_v11 := F_o6_words_v8.other W11 (Or.inl (Ne.symm ne_o3_o6))
  have V_o7_v11 := V_o7_v8.other W11 (Ne.symm ne_o3_o7)
  have tk3_1_v11 := tk3_1_v8.other W11 (Or.inl ne_o1_o3)
  have tk3_2_v11 := tk3_2_v8.other W11 (Or.inl ne_o1_o3)
  have tk3_3_v11 := tk3_3_v8.other W11 (Or.inl ne_o1_o3)
  have tk3_4_v11 := tk3_4_v8.other W11 (Or.inl ne_o1_o3)
  have tk3_5_v11 := tk3_5_v8.other W11 (Or.inl ne_o1_o3)
  have tk3_6_v11 := tk3_6_v8.other W11 (Or.inl ne_o1_o3)
  have tk3_7_v11 := tk3_7_v8.other W11 (Or.inl ne_o1_o3)
  have tk3_8_v11 := tk3_8_v8.other W11 (Or.inl ne_o1_o3)
  have V_o2_v11 := V_o2_v8.other W11 ne_o2_o3
  have tk3_11_v11 := tk3_11_v8.other W11 (Ne.symm ne_o3_o4)
  have tk3_12_v11 := tk3_12_v8.other W11 (Ne.symm ne_o3_o5)
  have O11 := O8.wr W11 gn_o3
  have K11 : Keep h0 h11 [o5, o4, o3, o2, o1] := K8.wr W11 (Or.inl (List.mem_of_getElem? (i := 2) rfl))
  have hk11 := Nat.le_trans hk8 (Keep.of_wr W11).1
  obtain ⟨T12, h12, X12, e12, W12, st12⟩ := putF X11 hx hZ1 hown1 (host := "") (Or.inl (W hw 42 rfl)) Via.refl e11 tk3_6_v11 tk3_0_v11 (Or.inl (W hw 43 rfl)) (W hw 1 rfl) (ty := .int) (by decide) rfl rfl (g := (mkF m 44 #[.val (.ref o1), .val (.int (0 : Int32)), .val (.int (0 : Int32)), .val (.int (2 : Int32)), .val (.int (-1 : Int32))] [(.int (2 : Int32)), (.ref o1)])) rfl rfl (hb hby d13_44)
  have tk3_6_v12 := tk3_6_v11.same W12
  have N12 := Fr.snoc X12 N11 gn_o1
  have tk3_0_v12 := tk3_0_v11.wr W12
  have E_o6_v12 := E_o6_v11.wr W12
  have F_o6_wordsInUse_v12 := F_o6_wordsInUse_v11.other W12 (Or.inl (Ne.symm ne_o1_o6))
  have F_o6_sizeIsSticky_v12 := F_o6_sizeIsSticky_v11.other W12 (Or.inl (Ne.symm ne_o1_o6))
  have F_o6_words_v12 := F_o6_words_v11.other W12 (Or.inl (Ne.symm ne_o1_o6))
  have V_o7_v12 := V_o7_v11.other W12 (Ne.symm ne_o1_o7)
  have tk3_1_v12 := tk3_1_v11.other W12 (Or.inr (sn_56 hw))
  have tk3_2_v12 := tk3_2_v11.other W12 (Or.inr (sn_57 hw))
  have tk3_3_v12 := tk3_3_v11.other W12 (Or.inr (sn_58 hw))
  have tk3_4_v12 := tk3_4_v11.other W12 (Or.inr (sn_59 hw))
  have tk3_5_v12 := tk3_5_v11.other W12 (Or.inr (sn_60 hw))
  have tk3_7_v12 := tk3_7_v11.other W12 (Or.inr (sn_61 hw))
  have tk3_8_v12 := tk3_8_v11.other W12 (Or.inr (sn_65 hw))
  have V_o2_v12 := V_o2_v11.other W12 (Ne.symm ne_o1_o2)
  have V_o3_v12 := V_o3_v11.other W12 (Ne.symm ne_o1_o3)
  have tk3_11_v12 := tk3_11_v11.other W12 (Ne.symm ne_o1_o4)
  have tk3_12_v12 := tk3_12_v11.other W12 (Ne.symm ne_o1_o5)
  have O12 := O11.wr W12 gn_o1
  have K12 : Keep h0 h12 [o5, o4, o3, o2, o1] := K11.wr W12 (Or.inl (List.mem_of_getElem? (i := 4) rfl))
  have hk12 := Nat.le_trans hk11 (Keep.of_wr W12).1
  obtain ⟨T13, X13, e13, st13⟩ := getF X12 hx hZ1 hown1 (host := "") (Or.inl (W hw 12 rfl)) Via.refl e12 tk3_2_v12 (g := (mkF m 59 #[.val (.ref o1), .val (.int (0 : Int32)), .val (.int (0 : Int32)), .val (.int (2 : Int32)), .val (.int (-1 : Int32))] [(.ref o1)])) rfl rfl (hb hby d13_59)
  obtain ⟨cl14, Ar14, q14, Sz14, Ng14, Hv14, Gv14⟩ := V_o3_v12
  have hin14 : ¬ ((0 : Int32) < 0 ∨ cl14.slots.size ≤ ((0 : Int32)).toNatClampNeg) := inb_of Sz14 ⟨by decide, by decide⟩
  obtain ⟨T15, h15, X15, e15, W15, st15⟩ := stI X13 hx hZ1 e13 Ar14 (j := (0 : Int32)) hin14 (g := (mkF m 64 #[.val (.ref o1), .val (.int (0 : Int32)), .val (.int (0 : Int32)), .val (.int (2 : Int32)), .val (.int (-1 : Int32))] [(.int (2 : Int32)), (.int (0 : Int32)), (.ref o3)])) rfl rfl (hb hby d13_64)
  have V_o3_v15 : Arv Z h15 o3 kc_o3 .int (64 : Int32) [(.int (2 : Int32)), (.int (0 : Int32)), (.int (-1 : Int32))] (.int (0 : Int32)) := Arv.set Ar14 q14 Sz14 Ng14 Hv14 Gv14 rfl W15 0 rfl (Nat.le_of_ble_eq_true rfl)
  have N15 := Fr.snoc X15 N12 gn_o3
  have tk3_0_v15 := tk3_0_v12.wr W15
  have E_o6_v15 := E_o6_v12.wr W15
  have F_o6_wordsInUse_v15 := F_o6_wordsInUse_v12.other W15 (Or.inl (Ne.symm ne_o3_o6))
  have F_o6_sizeIsSticky_v15 := F_o6_sizeIsSticky_v12.other W15 (Or.inl (Ne.symm ne_o3_o6))
  have F_o6_words_v15 := F_o6_words_v12.other W15 (Or.inl (Ne.symm ne_o3_o6))
  have V_o7_v15 := V_o7_v12.other W15 (Ne.symm ne_o3_o7)
  have tk3_1_v15 := tk3_1_v12.other W15 (Or.inl ne_o1_o3)
  have tk3_2_v15 := tk3_2_v12.other W15 (Or.inl ne_o1_o3)
  have tk3_3_v15 := tk3_3_v12.other W15 (Or.inl ne_o1_o3)
  have tk3_4_v15 := tk3_4_v12.other W15 (Or.inl ne_o1_o3)
  have tk3_5_v15 := tk3_5_v12.other W15 (Or.inl ne_o1_o3)
  have tk3_6_v15 := tk3_6_v12.other W15 (Or.inl ne_o1_o3)
  have tk3_7_v15 := tk3_7_v12.other W15 (Or.inl ne_o1_o3)
  have tk3_8_v15 := tk3_8_v12.other W15 (Or.inl ne_o1_o3)
  have V_o2_v15 := V_o2_v12.other W15 ne_o2_o3
  have tk3_11_v15 := tk3_11_v12.other W15 (Ne.symm ne_o3_o4)
  have tk3_12_v15 := tk3_12_v12.other W15 (Ne.symm ne_o3_o5)
  have O15 := O12.wr W15 gn_o3
  have K15 : Keep h0 h15 [o5, o4, o3, o2, o1] := K12.wr W15 (Or.inl (List.mem_of_getElem? (i := 2) rfl))
  have hk15 := Nat.le_trans hk12 (Keep.of_wr W15).1
  refine ⟨T15, _, none, _, _, _, _, by decide, by decide, X15, hS1, (by rw [e15]; exact hk15), (fun _ => rfl), (by rw [e15]; exact ⟨rfl, N15, K15, tk3_0_v15, tk3_1_v15, tk3_2_v15, tk3_3_v15, tk3_4_v15, tk3_5_v15, tk3_6_v15, tk3_7_v15, tk3_8_v15, V_o2_v15, V_o3_v15, tk3_11_v15, tk3_12_v15⟩), fun fs hr => castTop (ef_7 m (.ref o1) rfl (.int (0 : Int32)) rfl) ?_⟩
  show Steps p.tables e below (s₁.setTop (mkF m 0 #[.val (.ref o1), .val (.int (0 : Int32)), .unset, .unset, .unset] [])) _
  refine XS.aloadN X0.here hx rfl (hb hby d13_0) rfl rfl ?_
  refine XS.iloadN X0.here hx rfl (hb hby d13_1) rfl ?_
  refine st1 _ ?_
  refine st2.trans ?_
  refine XS.istoreN X2.here hx rfl (hb hby d13_7) rfl (l' := #[.val (.ref o1), .val (.int (0 : Int32)), .val (.int (0 : Int32)), .unset, .unset]) rfl ?_
  refine XS.aloadN X2.here hx rfl (hb hby d13_8) rfl rfl ?_
  refine st3.trans ?_
  refine XS.istoreN X3.here hx rfl (hb hby d13_12) rfl (l' := #[.val (.ref o1), .val (.int (0 : Int32)), .val (.int (0 : Int32)), .val (.int (2 : Int32)), .unset]) rfl ?_
  show Steps p.tables e below (T3.setTop (mkF m 13 #[.val (.ref o1), .val (.int (0 : Int32)), .val (.int (0 : Int32)), .val (.int (2 : Int32)), .unset] [])) _
  refine XS.aloadN X3.here hx rfl (hb hby d13_13) rfl rfl ?_
  refine st4 _ ?_
  refine XS.iloadN X4.here hx rfl (hb hby d13_17) rfl ?_
  refine X4.iaload hx (j := (0 : Int32)) (v := (.int (-1 : Int32))) (by rw [e4]; exact Ar5.1) (State.isArrayOf_alike hZ1.alike Ar5.2.1) Ar5.2.2 hin5 hat5 (g := (mkF m 18 #[.val (.ref o1), .val (.int (0 : Int32)), .val (.int (0 : Int32)), .val (.int (2 : Int32)), .unset] [(.int (0 : Int32)), (.ref o3)])) rfl rfl (hb hby d13_18) _ ?_
  refine XS.istore X4.here hx rfl (hb hby d13_19) rfl (l' := #[.val (.ref o1), .val (.int (0 : Int32)), .val (.int (0 : Int32)), .val (.int (2 : Int32)), .val (.int (-1 : Int32))]) rfl ?_
  refine XS.aloadN X4.here hx rfl (hb hby d13_21) rfl rfl ?_
  refine st6 _ ?_
  refine XS.iloadN X6.here hx rfl (hb hby d13_25) rfl ?_
  show Steps p.tables e below (T6.setTop (mkF m 26 #[.val (.ref o1), .val (.int (0 : Int32)), .val (.int (0 : Int32)), .val (.int (2 : Int32)), .val (.int (-1 : Int32))] [(.int (2 : Int32)), (.ref o2)])) _
  refine XS.iloadN X6.here hx rfl (hb hby d13_26) rfl ?_
  refine st8 _ ?_
  refine XS.aloadN X8.here hx rfl (hb hby d13_28) rfl rfl ?_
  refine st9 _ ?_
  refine XS.iloadN X9.here hx rfl (hb hby d13_32) rfl ?_
  refine XS.iload X9.here hx rfl (hb hby d13_33) rfl ?_
  refine st11 _ ?_
  refine XS.iload X11.here hx rfl (hb hby d13_36) rfl ?_
  show Steps p.tables e below (T11.setTop (mkF m 38 #[.val (.ref o1), .val (.int (0 : Int32)), .val (.int (0 : Int32)), .val (.int (2 : Int32)), .val (.int (-1 : Int32))] [(.int (-1 : Int32))])) _
  refine XS.iconst X11.here hx rfl (hb hby d13_38) ?_
  refine XS.icmpNo X11.here hx rfl (hb hby d13_39) rfl (teq (by decide : (-1 : Int32) = (-1 : Int32))).2 ?_
  refine XS.aloadN X11.here hx rfl (hb hby d13_42) rfl rfl ?_
  refine XS.iloadN X11.here hx rfl (hb hby d13_43) rfl ?_
  refine st12 _ ?_
  refine XS.goto X12.here hx rfl (pc0 := 47) (pc' := 58) rfl (hb hby d13_47) (by decide) (by decide) ?_
  refine XS.aloadN X12.here hx rfl (hb hby d13_58) rfl rfl ?_
  refine st13 _ ?_
  show Steps p.tables e below (T13.setTop (mkF m 62 #[.val (.ref o1), .val (.int (0 : Int32)), .val (.int (0 : Int32)), .val (.int (2 : Int32)), .val (.int (-1 : Int32))] [(.ref o3)])) _
  refine XS.iloadN X13.here hx rfl (hb hby d13_62) rfl ?_
  refine XS.iloadN X13.here hx rfl (hb hby d13_63) rfl ?_
  refine st15 _ ?_
  show Steps p.tables e below (T15.setTop (mkF m 65 #[.val (.ref o1), .val (.int (0 : Int32)), .val (.int (0 : Int32)), .val (.int (2 : Int32)), .val (.int (-1 : Int32))] [])) _
  exact X15.returnOut hx hret (hb hby d13_65) hr
set_option maxRecDepth 65536 in
set_option maxHeartbeats 40000000 in
theorem rm_42 (l : Launch) (Z : State) (a0 : Array Value) (hw : ∀ d ∈ tables_1, d.before a0 Z = true) (w : Nat → Addr) (kk : Nat → ClassId) (iw : Nat → Int32) (vw : Nat → Value) (hN : Wd Z w kk iw vw) (ws : List Jvm.Cond) (o1 : Addr) (o2 : Addr) (o3 : Addr) (kc_o3 : ClassId) (h0 : Heap) (O0 : Old Z Z.heap.size h0) (gn_o1 : Z.heap.size ≤ o1) (lt_o1 : o1 < h0.size) (E_o1 : Exa Z h0 o1 s_0) (gn_o2 : Z.heap.size ≤ o2) (lt_o2 : o2 < h0.size) (F_o1_closed : Fld Z h0 o1 s_0 "closed" s_3 (.ref o2)) (F_o1_blockCount : Fld Z h0 o1 s_0 "blockCount" "I" (.int (3 : Int32))) (E_o2 : Exa Z h0 o2 s_1) (F_o2_wordsInUse : Fld Z h0 o2 s_1 "wordsInUse" "I" (.int (0 : Int32))) (F_o2_sizeIsSticky : Fld Z h0 o2 s_1 s_6 "Z" (.int (0 : Int32))) (gn_o3 : Z.heap.size ≤ o3) (lt_o3 : o3 < h0.size) (F_o2_words : Fld Z h0 o2 s_1 "words" "[J" (.ref o3)) (V_o3 : Arv Z h0 o3 kc_o3 .long (1 : Int32) [] (.long (0 : Int64))) (ne_o1_o2 : o1 ≠ o2) (ne_o1_o3 : o1 ≠ o3) (ne_o2_o3 : o2 ≠ o3) :
    Met l Z (⟨s_0, "hasBlocks", "()Z"⟩ : MethodName) (Jvm.Cond.code (⟨s_0, "hasBlocks", "()Z"⟩ : MethodName) prog_20_method_2_code 1 (some .boolean)) ws (Rm 0 0 0 0) #[(.ref o1)] h0 (OQ (some (.int (1 : Int32))) h0 Z.heap.size) := by
  have hN' := hN
  have hL0 : Sta Z Z.heap s_1 s_4 "Z" (.int (1 : Int32)) := hN'
  refine own_body (plainFor_of_name pn_1) hisR ?_
  intro p e s m below meth c s₁ hx hby hml hown hnm hret X0 hZ e0
  have N0 := Fr.nil Z.heap.size
  obtain ⟨T1, X1, e1, st1⟩ := getF X0 hx hZ hown (host := "") (Or.inl (W hw 57 rfl)) Via.refl e0 F_o1_blockCount (g := (mkF m 1 #[.val (.ref o1)] [(.ref o1)])) rfl rfl (hb hby d4_1)
  refine ⟨T1, some (.int (1 : Int32)), _, _, _, by decide, by decide, X1, nofun, (by rw [e1]; exact ⟨rfl, N0, rfl⟩), fun fs hr => castTop (ef_2 m (.ref o1) rfl) ?_⟩
  show Steps p.tables e below (s₁.setTop (mkF m 0 #[.val (.ref o1)] [])) _
  refine XS.aloadN X0.here hx rfl (hb hby d4_0) rfl rfl ?_
  refine st1 _ ?_
  refine XS.ifNo X1.here hx rfl (hb hby d4_4) rfl ((if0 _ _).trans (tlt (by decide : (0 : Int32) < (3 : Int32))).2.2.2) ?_
  refine XS.iconst X1.here hx rfl (hb hby d4_7) ?_
  refine XS.goto X1.here hx rfl (pc0 := 8) (pc' := 12) rfl (hb hby d4_8) (by decide) (by decide) ?_
  show Steps p.tables e below (T1.setTop (mkF m 12 #[.val (.ref o1)] [(.int (1 : Int32))])) _
  exact retN X1 hx (t := .boolean) hret (by simp) (hb hby d4_12) hr
set_option maxRecDepth 65536 in
set_option maxHeartbeats 40000000 in
theorem law_43 (l : Launch) (Z : State) (a0 : Array Value) (hw : ∀ d ∈ tables_1, d.before a0 Z = true) (w : Nat → Addr) (kk : Nat → ClassId) (iw : Nat → Int32) (vw : Nat → Value) (hN : Wd Z w kk iw vw) (ws : List Jvm.Cond) (p0 : Int32) (p1 : Int32) (p2 : Int32) (p3 : Int32) (h0 : Heap) (O0 : Old Z Z.heap.size h0) (hp0 : (p0 &&& (3 : Int32)) = (2 : Int32)) (hp1 : (p1 &&& (1 : Int32)) = (1 : Int32)) (hp2 : ((p2 &&& (2147483647 : Int32)) % (2 : Int32)) = (0 : Int32)) (hp3 : (p3 &&& (1 : Int32)) = (0 : Int32)) :
    MetFree l x (head1 (Jvm.Cond.code x code maxLocals ret :: ws) room_1) (fun a U => a = #[(.int p0), (.int p1), (.int p2), (.int p3)] ∧ Z.Warmed39 U.vm ∧ U.heap = h0) (fun _ _ _ _ _ => True) (fun _ U o U' => ∃ v L, o = .returned v ∧ OL (some (.int (1 : Int32))) Z.heap.size v U'.heap L ∧ ReturnedEndW U o U' L 32 3072) := by
  have hN' := hN
  have hL0 : Sta Z Z.heap s_1 s_4 "Z" (.int (1 : Int32)) := hN'
  refine MetFree.of_bodySF (plainFor_of_name pn_2) hisR ?_
  intro p e s m args below meth c s₁ Bd hml0 hP hK
  obtain ⟨rfl, hZ, hh⟩ := hP
  have hx := Bd.exec
  have hby := Bd.bytes
  have hml : c.maxLocals = 7 := hml0
  have hown : s.vm.findClass s_2 = some m.cls := findClass_of_methodNamed Bd.named
  have hnm := (name_of_methodNamed Bd.named Bd.method).1
  have X0 : Stand p l e room_1 s m #[(.int p0), (.int p1), (.int p2), (.int p3)] below meth c s₁ [] 0 0 := Stand.of_body Bd
  have e0 : s₁.heap = h0 := by rw [← hh, Bd.state]; rfl
  have N0 := Fr.nil Z.heap.size
  obtain ⟨T1, L1, b1_0, b1_1, b1_2, b1_3, b1_4, b1_5, b1_6, kb1_0, kb1_1, kb1_2, kb1_3, kb1_4, X1, st1, N1, Kq1, tk1_0, tk1_1, tk1_2, tk1_3, tk1_4, tk1_5, tk1_6, tk1_7, tk1_8, tk1_9, tk1_10, tk1_11, tk1_12, tk1_13, tk1_14, tk1_15, tk1_16, tk1_17, tk1_18, tk1_19, tk1_20, tk1_21, tk1_22, tk1_23, tk1_24, tk1_25, tk1_26, tk1_27, tk1_28, tk1_29, tk1_30, tk1_31, tk1_32, tk1_33, tk1_34, tk1_35, tk1_36, tk1_37, tk1_38, tk1_39, tk1_40, tk1_41, tk1_42, tk1_43, tk1_44, tk1_45⟩ := sg_33 w kk iw vw hN p0 p1 p2 p3 X0 hx hZ hw hby hml hown e0 O0 N0
  have gn_b1_0 : Z.heap.size ≤ b1_0 := Nat.le_trans O0.2.1 tk1_0
  have gn_b1_1 : Z.heap.size ≤ b1_1 := Nat.le_trans O0.2.1 tk1_1
  have gn_b1_2 : Z.heap.size ≤ b1_2 := Nat.le_trans O0.2.1 tk1_2
  have gn_b1_3 : Z.heap.size ≤ b1_3 := Nat.le_trans O0.2.1 tk1_3
  have gn_b1_4 : Z.heap.size ≤ b1_4 := Nat.le_trans O0.2.1 tk1_4
  have gn_b1_5 : Z.heap.size ≤ b1_5 := Nat.le_trans O0.2.1 tk1_5
  have gn_b1_6 : Z.heap.size ≤ b1_6 := Nat.le_trans O0.2.1 tk1_6
  have O1 := O0.keep Kq1 all0
  obtain ⟨cq2, kq2, q2a, q2b, q2c⟩ := isOf hZ rfl tk1_28
  obtain ⟨_, _, ⟨T2, L2, k2, n2⟩, -, X2, hSq2, hgr2, ⟨Lc2, hQ2, l2, y2, z2⟩, st2⟩ := X1.virtualBackS hx (y := (⟨s_0, "insertBlock", "(I)V"⟩ : MethodName)) (z := (⟨s_0, "insertBlock", "(I)V"⟩ : MethodName)) hown (mvT hZ (W hw 70 rfl)) (mvT hZ (W hw 71 rfl)) (notFace_of_selects (args := #[]) (mvT hZ (W hw 73 rfl))) (mvT hZ (W hw 73 rfl)) (mvT hZ (W hw 72 rfl)) (by decide) (backOfS (W := 0) (rm_41 l Z a0 hw w kk iw vw hN [] b1_0 b1_1 b1_2 b1_3 b1_4 b1_5 kb1_0 kb1_1 kb1_2 kb1_3 b1_6 kb1_4 T1.heap O1 gn_b1_0 tk1_28.lt tk1_28 gn_b1_1 tk1_37.lt tk1_29 gn_b1_2 tk1_38.lt tk1_30 gn_b1_3 tk1_39.lt tk1_31 gn_b1_4 tk1_40.lt tk1_32 gn_b1_5 tk1_41.lt tk1_33 tk1_34 tk1_35 tk1_36 tk1_37 tk1_38 tk1_39 tk1_40 tk1_41 tk1_42 tk1_43 gn_b1_6 tk1_45.lt tk1_44 tk1_45 tk1_7 tk1_8 tk1_9 tk1_10 tk1_11 tk1_12 tk1_13 tk1_14 tk1_15 tk1_16 tk1_17 tk1_18 tk1_19 tk1_20 tk1_21 tk1_22 tk1_23 tk1_24 tk1_25 tk1_26 tk1_27) hZ (W hw 74 rfl) (W hw 2 rfl) (by decide) (by decide)) q2a q2c (g := (mkF m 122 #[.val (.int p0), .val (.int p1), .val (.int p2), .val (.int p3), .val (.int (2 : Int32)), .val (.ref b1_0), .val (.int (1 : Int32))] [(.int (0 : Int32)), (.ref b1_0)])) rfl (by rw [hml]; rfl) (Steps.refl _) (argsL := [(.int (0 : Int32))]) (rest := []) (lenOf pd_1 rfl) rfl (by show 2 * 0 + _ ≤ _; exact Nat.le_of_eq rfl) (hb hby at_122) (fun _ _ => ⟨rfl, rfl, (by decide : 10 + 2 ≤ _), (by decide : 467 + 68 ≤ _)⟩)
  dsimp only [Pt.U, Pt.locs, Pt.cells, Pt.slots] at X2 l2 y2 z2 st2 hQ2 hSq2 hgr2
  subst l2 y2 z2
  have hS2 : s.Since T2.vm T2.heap.size := hSq2
  have hk2 : T2.heap.size ≤ T2.heap.size := Nat.le_refl _
  have hZ2 : Z.Warmed39 (s.setVm T2.vm).vm := State.Warmed39.trans (t := (s.setVm s.vm)) hZ hSq2.1
  have hown2 : (s.setVm T2.vm).vm.findClass s_2 = some m.cls := by rw [show (s.setVm T2.vm).vm = T2.vm from rfl, hSq2.1.alike.findClass]; exact hown
  have X2' : Stand p l e _ (s.setVm T2.vm) m _ below meth c T2 _ _ _ := X2
  obtain ⟨rfl, N2q, Kq2, tk2_0, tk2_1, tk2_2, tk2_3, tk2_4, tk2_5, tk2_6, tk2_7, tk2_8, tk2_9, tk2_10, tk2_11, tk2_12⟩ := hQ2
  have N2 := Fr.app N1 N2q
  have tk1_28_v2 := tk1_28.keep Kq2
  have tk1_41_v2 := tk1_41.keep Kq2
  have tk1_42_v2 := tk1_42.keep Kq2 (ninS (Ne.symm tk1_25) (ninS (Ne.symm tk1_23) (ninS (Ne.symm tk1_20) (ninS (Ne.symm tk1_16) (ninS (Ne.symm tk1_11) nin0)))))
  have tk1_43_v2 := tk1_43.keep Kq2 (ninS (Ne.symm tk1_25) (ninS (Ne.symm tk1_23) (ninS (Ne.symm tk1_20) (ninS (Ne.symm tk1_16) (ninS (Ne.symm tk1_11) nin0)))))
  have tk1_44_v2 := tk1_44.keep Kq2 (ninS (Ne.symm tk1_25) (ninS (Ne.symm tk1_23) (ninS (Ne.symm tk1_20) (ninS (Ne.symm tk1_16) (ninS (Ne.symm tk1_11) nin0)))))
  have tk1_45_v2 := tk1_45.keep Kq2 (ninS (Ne.symm tk1_26) (ninS (Ne.symm tk1_24) (ninS (Ne.symm tk1_21) (ninS (Ne.symm tk1_17) (ninS (Ne.symm tk1_12) nin0)))))
  have O2 := O1.keep Kq2 (allS gn_b1_4 (allS gn_b1_3 (allS gn_b1_2 (allS gn_b1_1 (allS gn_b1_0 all0)))))
  obtain ⟨cq3, kq3, q3a, q3b, q3c⟩ := isOf hZ2 rfl tk2_0
  obtain ⟨_, _, ⟨T3, L3, k3, n3⟩, -, X3, ⟨Lc3, hQ3, l3, y3, z3⟩, st3⟩ := X2'.virtualBack hx (y := (⟨s_0, "hasBlocks", "()Z"⟩ : MethodName)) (z := (⟨s_0, "hasBlocks", "()Z"⟩ : MethodName)) hown2 (mvT hZ2 (W hw 52 rfl)) (mvT hZ2 (W hw 53 rfl)) (notFace_of_selects (args := #[]) (mvT hZ2 (W hw 55 rfl))) (mvT hZ2 (W hw 55 rfl)) (mvT hZ2 (W hw 54 rfl)) (by decide) (backOf (W := 0) (rm_42 l Z a0 hw w kk iw vw hN [] b1_0 b1_5 b1_6 kb1_4 T2.heap O2 gn_b1_0 tk2_0.lt tk2_0 gn_b1_5 tk1_41_v2.lt tk2_5 tk2_8 tk1_41_v2 tk1_42_v2 tk1_43_v2 gn_b1_6 tk1_45_v2.lt tk1_44_v2 tk1_45_v2 tk1_11 tk1_12 tk1_27) hZ2 (W hw 56 rfl) (W hw 2 rfl) (by decide) (by decide)) q3a q3c (g := (mkF m 157 #[.val (.int p0), .val (.int p1), .val (.int p2), .val (.int p3), .val (.int (2 : Int32)), .val (.ref b1_0), .val (.int (1 : Int32))] [(.ref b1_0)])) rfl (by rw [hml]; rfl) (Steps.refl _) (argsL := []) (rest := []) (lenOf pd_3 rfl) rfl (by show 2 * 0 + _ ≤ _; exact Nat.le_of_eq rfl) (hb hby at_157) (fun _ _ => ⟨rfl, rfl, (by decide : 12 + 0 ≤ _), (by decide : 535 + 0 ≤ _)⟩)
  dsimp only [Pt.U, Pt.locs, Pt.cells, Pt.slots] at X3 l3 y3 z3 st3 hQ3
  subst l3 y3 z3
  obtain ⟨rfl, N3q, e3⟩ := hQ3
  have N3 := Fr.app N2 N3q
  obtain ⟨fs, hr, hrun, hended, w1, w2, w3, w4⟩ := X3.leaveW hS2 (by rw [e3]; exact hk2) (v := some (.int (1 : Int32))) (fun h => by rw [Bd.returns] at h; cases h)
  refine ⟨_, _, castTop (ef_3 m (.int p0) rfl (.int p1) rfl (.int p2) rfl (.int p3) rfl) ?_, hrun, hended, _, _, rfl, ?_, w1, w2, w3, w4.mono (by decide) (by decide)⟩
  · show Steps p.tables e below (s₁.setTop (mkF m 0 #[.val (.int p0), .val (.int p1), .val (.int p2), .val (.int p3), .unset, .unset, .unset] [])) _
    refine XS.iloadN X0.here hx rfl (hb hby at_0) rfl ?_
    refine XS.iconst X0.here hx rfl (hb hby at_1) ?_
    refine XS.iand X0.here hx rfl (hb hby at_2) rfl ?_
    show Steps p.tables e below (s₁.setTop (mkF m 3 #[.val (.int p0), .val (.int p1), .val (.int p2), .val (.int p3), .unset, .unset, .unset] [(.int (p0 &&& (3 : Int32)))])) _
    rw [hp0]
    refine XS.istore X0.here hx rfl (hb hby at_3) rfl (l' := #[.val (.int p0), .val (.int p1), .val (.int p2), .val (.int p3), .val (.int (2 : Int32)), .unset, .unset]) rfl ?_
    show Steps p.tables e below (s₁.setTop (mkF m 5 #[.val (.int p0), .val (.int p1), .val (.int p2), .val (.int p3), .val (.int (2 : Int32)), .unset, .unset] [])) _
    refine st1 _ ?_
    refine XS.iload X1.here hx rfl (hb hby at_102) rfl ?_
    refine XS.ifNo X1.here hx rfl (hb hby at_104) rfl ((if0 _ _).trans (tlt (by decide : (0 : Int32) < (2 : Int32))).2.2.2) ?_
    refine XS.iloadN X1.here hx rfl (hb hby at_107) rfl ?_
    refine XS.iconst X1.here hx rfl (hb hby at_108) ?_
    refine XS.iand X1.here hx rfl (hb hby at_109) rfl ?_
    show Steps p.tables e below (T1.setTop (mkF m 110 #[.val (.int p0), .val (.int p1), .val (.int p2), .val (.int p3), .val (.int (2 : Int32)), .val (.ref b1_0), .val (.int (1 : Int32))] [(.int (p1 &&& (1 : Int32)))])) _
    rw [hp1]
    refine XS.ifNo X1.here hx rfl (hb hby at_110) rfl ((if0 _ _).trans (feq (by decide : ¬ ((1 : Int32) = (0 : Int32)))).1) ?_
    refine XS.aload X1.here hx rfl (hb hby at_113) rfl rfl ?_
    show Steps p.tables e below (T1.setTop (mkF m 115 #[.val (.int p0), .val (.int p1), .val (.int p2), .val (.int p3), .val (.int (2 : Int32)), .val (.ref b1_0), .val (.int (1 : Int32))] [(.ref b1_0)])) _
    refine XS.iloadN X1.here hx rfl (hb hby at_115) rfl ?_
    refine X1.ldcInt hx hown (mvT hZ (W hw 69 rfl)) (g := (mkF m 116 #[.val (.int p0), .val (.int p1), .val (.int p2), .val (.int p3), .val (.int (2 : Int32)), .val (.ref b1_0), .val (.int (1 : Int32))] [(.int p2), (.ref b1_0)])) rfl (hb hby at_116) _ ?_
    refine XS.iand X1.here hx rfl (hb hby at_118) rfl ?_
    refine XS.iload X1.here hx rfl (hb hby at_119) rfl ?_
    refine iremM X1 hx rfl (hb hby at_121) rfl (by decide : ¬ ((2 : Int32) = (0 : Int32))) ?_
    show Steps p.tables e below (T1.setTop (mkF m 122 #[.val (.int p0), .val (.int p1), .val (.int p2), .val (.int p3), .val (.int (2 : Int32)), .val (.ref b1_0), .val (.int (1 : Int32))] [(.int ((p2 &&& (2147483647 : Int32)) % (2 : Int32))), (.ref b1_0)])) _
    rw [hp2]
    refine st2.trans ?_
    refine XS.iload X2'.here hx rfl (hb hby at_125) rfl ?_
    refine XS.ifNo X2'.here hx rfl (hb hby at_127) rfl ((if0 _ _).trans (tlt (by decide : (0 : Int32) < (2 : Int32))).2.2.2) ?_
    show Steps p.tables e below (T2.setTop (mkF m 130 #[.val (.int p0), .val (.int p1), .val (.int p2), .val (.int p3), .val (.int (2 : Int32)), .val (.ref b1_0), .val (.int (1 : Int32))] [])) _
    refine XS.iloadN X2'.here hx rfl (hb hby at_130) rfl ?_
    refine XS.iconst X2'.here hx rfl (hb hby at_131) ?_
    refine XS.iand X2'.here hx rfl (hb hby at_132) rfl ?_
    show Steps p.tables e below (T2.setTop (mkF m 133 #[.val (.int p0), .val (.int p1), .val (.int p2), .val (.int p3), .val (.int (2 : Int32)), .val (.ref b1_0), .val (.int (1 : Int32))] [(.int (p3 &&& (1 : Int32)))])) _
    rw [hp3]
    refine XS.ifYes X2'.here hx rfl (pc0 := 133) (pc' := 150) rfl (hb hby at_133) rfl ((if0 _ _).trans (teq (by decide : (0 : Int32) = (0 : Int32))).1) (by decide) (by decide) ?_
    refine XS.iload X2'.here hx rfl (hb hby at_150) rfl ?_
    refine XS.ifNo X2'.here hx rfl (hb hby at_152) rfl ((if0 _ _).trans (feq (by decide : ¬ ((1 : Int32) = (0 : Int32)))).1) ?_
    refine XS.aload X2'.here hx rfl (hb hby at_155) rfl rfl ?_
    refine st3.trans ?_
    show Steps p.tables e below (T3.setTop (mkF m 160 #[.val (.int p0), .val (.int p1), .val (.int p2), .val (.int p3), .val (.int (2 : Int32)), .val (.ref b1_0), .val (.int (1 : Int32))] [(.int (1 : Int32))])) _
    refine XS.iload X3.here hx rfl (hb hby at_160) rfl ?_
    refine XS.ifNo X3.here hx rfl (hb hby at_162) rfl ((if0 _ _).trans (tlt (by decide : (0 : Int32) < (2 : Int32))).2.2.2) ?_
    refine XS.iconst X3.here hx rfl (hb hby at_165) ?_
    refine XS.goto X3.here hx rfl (pc0 := 166) (pc' := 170) rfl (hb hby at_166) (by decide) (by decide) ?_
    refine XS.icmpNo X3.here hx rfl (hb hby at_170) rfl (teq (by decide : (1 : Int32) = (1 : Int32))).2 ?_
    refine XS.iconst X3.here hx rfl (hb hby at_173) ?_
    refine XS.goto X3.here hx rfl (pc0 := 174) (pc' := 178) rfl (hb hby at_174) (by decide) (by decide) ?_
    refine XS.istore X3.here hx rfl (hb hby at_178) rfl (l' := #[.val (.int p0), .val (.int p1), .val (.int p2), .val (.int p3), .val (.int (2 : Int32)), .val (.ref b1_0), .val (.int (1 : Int32))]) rfl ?_
    show Steps p.tables e below (T3.setTop (mkF m 180 #[.val (.int p0), .val (.int p1), .val (.int p2), .val (.int p3), .val (.int (2 : Int32)), .val (.ref b1_0), .val (.int (1 : Int32))] [])) _
    refine XS.iload X3.here hx rfl (hb hby at_180) rfl ?_
    show Steps p.tables e below (T3.setTop (mkF m 182 #[.val (.int p0), .val (.int p1), .val (.int p2), .val (.int p3), .val (.int (2 : Int32)), .val (.ref b1_0), .val (.int (1 : Int32))] [(.int (1 : Int32))])) _
    exact retN X3 hx (t := .boolean) Bd.returns (by simp) (hb hby at_182) hr
  · show OL (some (.int (1 : Int32))) Z.heap.size _ T3.heap _
    exact ⟨rfl, N3⟩
set_option maxRecDepth 65536 in
set_option maxHeartbeats 40000000 in
theorem rm_44 (l : Launch) (Z : State) (a0 : Array Value) (hw : ∀ d ∈ tables_1, d.before a0 Z = true) (w : Nat → Addr) (kk : Nat → ClassId) (iw : Nat → Int32) (vw : Nat → Value) (hN : Wd Z w kk iw vw) (ws : List Jvm.Cond) (o1 : Addr) (p1 : Int32) (o2 : Addr) (o3 : Addr) (o4 : Addr) (kc_o4 : ClassId) (h0 : Heap) (O0 : Old Z Z.heap.size h0) (gn_o1 : Z.heap.size ≤ o1) (lt_o1 : o1 < h0.size) (E_o1 : Exa Z h0 o1 s_0) (gn_o3 : Z.heap.size ≤ o3) (lt_o3 : o3 < h0.size) (F_o1_closed : Fld Z h0 o1 s_0 "closed" s_3 (.ref o3)) (F_o1_blockCount : Fld Z h0 o1 s_0 "blockCount" "I" (.int (3 : Int32))) (E_o3 : Exa Z h0 o3 s_1) (F_o3_wordsInUse : Fld Z h0 o3 s_1 "wordsInUse" "I" (.int (0 : Int32))) (F_o3_sizeIsSticky : Fld Z h0 o3 s_1 s_6 "Z" (.int (0 : Int32))) (gn_o4 : Z.heap.size ≤ o4) (lt_o4 : o4 < h0.size) (F_o3_words : Fld Z h0 o3 s_1 "words" "[J" (.ref o4)) (V_o4 : Arv Z h0 o4 kc_o4 .long (1 : Int32) [] (.long (0 : Int64))) (ne_o1_o3 : o1 ≠ o3) (ne_o1_o4 : o1 ≠ o4) (ne_o3_o4 : o3 ≠ o4) (hp0 : ¬ (p1 < (0 : Int32))) (hp1 : p1 < (3 : Int32)) :
    Met l Z (⟨s_0, "find", s_7⟩ : MethodName) (Jvm.Cond.code (⟨s_0, "find", s_7⟩ : MethodName) prog_20_method_11_code 3 (some .int)) ws (Rm 0 0 0 0) #[(.ref o1), (.int p1), (.ref o2)] h0 (OQ (some (.int p1)) h0 Z.heap.size) := by
  have hN' := hN
  have hL0 : Sta Z Z.heap s_1 s_4 "Z" (.int (1 : Int32)) := hN'
  refine own_body (plainFor_of_name pn_1) hisR ?_
  intro p e s m below meth c s₁ hx hby hml hown hnm hret X0 hZ e0
  have N0 := Fr.nil Z.heap.size
  obtain ⟨T1, X1, e1, st1⟩ := getF X0 hx hZ hown (host := "") (Or.inl (W hw 57 rfl)) Via.refl e0 F_o1_blockCount (g := (mkF m 6 #[.val (.ref o1), .val (.int p1), .val (.ref o2)] [(.ref o1), (.int p1)])) rfl rfl (hb hby d8_6)
  refine ⟨T1, some (.int p1), _, _, _, by decide, by decide, X1, nofun, (by rw [e1]; exact ⟨rfl, N0, rfl⟩), fun fs hr => castTop (ef_5 m (.ref o1) rfl (.int p1) rfl (.ref o2) rfl) ?_⟩
  show Steps p.tables e below (s₁.setTop (mkF m 0 #[.val (.ref o1), .val (.int p1), .val (.ref o2)] [])) _
  refine XS.iloadN X0.here hx rfl (hb hby d8_0) rfl ?_
  refine XS.ifNo X0.here hx rfl (hb hby d8_1) rfl ((if0 _ _).trans (flt hp0).1) ?_
  refine XS.iloadN X0.here hx rfl (hb hby d8_4) rfl ?_
  refine XS.aloadN X0.here hx rfl (hb hby d8_5) rfl rfl ?_
  refine st1 _ ?_
  refine XS.icmpYes X1.here hx rfl (pc0 := 9) (pc' := 27) rfl (hb hby d8_9) rfl (tlt hp1).1 (by decide) (by decide) ?_
  refine XS.iloadN X1.here hx rfl (hb hby d8_27) rfl ?_
  show Steps p.tables e below (T1.setTop (mkF m 28 #[.val (.ref o1), .val (.int p1), .val (.ref o2)] [(.int p1)])) _
  exact retI X1 hx hret (hb hby d8_28) hr
set_option maxRecDepth 65536 in
set_option maxHeartbeats 40000000 in
theorem rm_45 (l : Launch) (Z : State) (a0 : Array Value) (hw : ∀ d ∈ tables_1, d.before a0 Z = true) (w : Nat → Addr) (kk : Nat → ClassId) (iw : Nat → Int32) (vw : Nat → Value) (hN : Wd Z w kk iw vw) (ws : List Jvm.Cond) (o1 : Addr) (p1 : Int32) (o2 : Addr) (o3 : Addr) (kc_o3 : ClassId) (h0 : Heap) (O0 : Old Z Z.heap.size h0) (gn_o1 : Z.heap.size ≤ o1) (lt_o1 : o1 < h0.size) (E_o1 : Exa Z h0 o1 s_0) (gn_o2 : Z.heap.size ≤ o2) (lt_o2 : o2 < h0.size) (F_o1_closed : Fld Z h0 o1 s_0 "closed" s_3 (.ref o2)) (F_o1_blockCount : Fld Z h0 o1 s_0 "blockCount" "I" (.int (3 : Int32))) (E_o2 : Exa Z h0 o2 s_1) (F_o2_wordsInUse : Fld Z h0 o2 s_1 "wordsInUse" "I" (.int (0 : Int32))) (F_o2_sizeIsSticky : Fld Z h0 o2 s_1 s_6 "Z" (.int (0 : Int32))) (gn_o3 : Z.heap.size ≤ o3) (lt_o3 : o3 < h0.size) (F_o2_words : Fld Z h0 o2 s_1 "words" "[J" (.ref o3)) (V_o3 : Arv Z h0 o3 kc_o3 .long (1 : Int32) [] (.long (0 : Int64))) (ne_o1_o2 : o1 ≠ o2) (ne_o1_o3 : o1 ≠ o3) (ne_o2_o3 : o2 ≠ o3) (hp0 : ¬ (p1 < (0 : Int32))) (hp1 : p1 < (3 : Int32)) (hp2 : (p1 >>> ((6 : Int32) &&& 31)) = (0 : Int32)) :
    MetW l Z (⟨s_0, "closeBlock", "(I)V"⟩ : MethodName) (Jvm.Cond.code (⟨s_0, "closeBlock", "(I)V"⟩ : MethodName) prog_20_method_6_code 2 none) ws (Rm 3 2 60 42) #[(.ref o1), (.int p1)] h0 (Qd_9 Z w kk iw vw o1 p1 o2 o3 kc_o3 h0 Z.heap.size) := by
  have hN' := hN
  have hL0 : Sta Z Z.heap s_1 s_4 "Z" (.int (1 : Int32)) := hN'
  refine own_bodyW (plainFor_of_name pn_1) hisR ?_
  intro p e s m below meth c s₁ hx hby hml hown hnm hret X0 hZ e0
  have N0 := Fr.nil Z.heap.size
  have K0 : Keep h0 h0 [o3, o2] := Keep.refl _ _
  obtain ⟨T1, X1, e1, st1⟩ := getF X0 hx hZ hown (host := "") (Or.inl (W hw 40 rfl)) Via.refl e0 F_o1_closed (g := (mkF m 1 #[.val (.ref o1), .val (.int p1)] [(.ref o1)])) rfl rfl (hb hby d7_1)
  obtain ⟨b2, T2, h2, k2, X2, e2, E2, hS2, hk2, hZ2, hown2, st2⟩ := ldcS (s := s) (vm0 := s.vm) X1 hx hZ hown (W hw 92 rfl) (own_atoms hw) e1 (own_since s 0) (Nat.zero_le _) (g := (mkF m 6 #[.val (.ref o1), .val (.int p1)] [(.int p1), (.ref o1), (.ref o2)])) rfl (hb hby d7_6) (n := 56) (by decide) (by decide) (by decide) (by decide)
  have E_o1_v2 := E_o1.ext E2
  have F_o1_closed_v2 := F_o1_closed.ext E2
  have F_o1_blockCount_v2 := F_o1_blockCount.ext E2
  have E_o2_v2 := E_o2.ext E2
  have F_o2_wordsInUse_v2 := F_o2_wordsInUse.ext E2
  have F_o2_sizeIsSticky_v2 := F_o2_sizeIsSticky.ext E2
  have F_o2_words_v2 := F_o2_words.ext E2
  have V_o3_v2 := V_o3.ext E2
  have O2 := O0.ext E2
  have K2 := K0.ext E2
  obtain ⟨cq3, q3, q3'⟩ := E_o1_v2.cell
  obtain ⟨_, _, ⟨T3, L3, k3, n3⟩, -, X3, ⟨Lc3, hQ3, l3, y3, z3⟩, st3⟩ := X2.privateBack hx (y := (⟨s_0, "find", s_7⟩ : MethodName)) hown2 (mvT hZ2 (W hw 83 rfl)) (mvT hZ2 (W hw 84 rfl)) (own_selpriv (mvT hZ2 (W hw 1 rfl)) (Cond.privateMethod_at (mvP hZ2 (W hw 85 rfl) (args := #[]))) (mvT hZ2 (W hw 84 rfl)) (by decide)) (Cond.privateMethod_at (mvP hZ2 (W hw 85 rfl) (args := #[]))) (mvT hZ2 (W hw 86 rfl)) (by decide) (backOf (W := 1) (rm_44 l Z a0 hw w kk iw vw hN [] o1 p1 b2 o2 o3 kc_o3 h2 O2 gn_o1 E_o1_v2.lt E_o1_v2 gn_o2 E_o2_v2.lt F_o1_closed_v2 F_o1_blockCount_v2 E_o2_v2 F_o2_wordsInUse_v2 F_o2_sizeIsSticky_v2 gn_o3 V_o3_v2.lt F_o2_words_v2 V_o3_v2 ne_o1_o2 ne_o1_o3 ne_o2_o3 hp0 hp1) hZ2 (W hw 86 rfl) (W hw 2 rfl) (by decide) (by decide)) (g := (mkF m 8 #[.val (.ref o1), .val (.int p1)] [(.ref b2), (.int p1), (.ref o1), (.ref o2)])) rfl (by rw [hml]; rfl) (Steps.refl _) (a := o1) (by rw [e2]; exact q3) q3' (argsL := [(.int p1), (.ref b2)]) (rest := [(.ref o2)]) (lenOf pd_5 rfl) rfl (by show 2 * 0 + _ ≤ _; exact Nat.le_of_eq rfl) (hb hby d7_8) (fun _ _ => ⟨rfl, e2, (by decide : 2 + 0 ≤ _), (by decide : 60 + 0 ≤ _)⟩)
  dsimp only [Pt.U, Pt.locs, Pt.cells, Pt.slots] at X3 l3 y3 z3 st3 hQ3
  subst l3 y3 z3
  obtain ⟨rfl, N3q, e3⟩ := hQ3
  have N3 := Fr.app N0 N3q
  obtain ⟨cq4, kq4, q4a, q4b, q4c⟩ := isOf hZ2 e3 E_o2_v2
  obtain ⟨_, _, ⟨T4, L4, k4, n4⟩, -, X4, ⟨Lc4, hQ4, l4, y4, z4⟩, st4⟩ := X3.virtualBack hx (y := (⟨s_1, "set", "(I)V"⟩ : MethodName)) (z := (⟨s_1, "set", "(I)V"⟩ : MethodName)) hown2 (mvT hZ2 (W hw 93 rfl)) (mvT hZ2 (W hw 94 rfl)) (notFace_of_selects (args := #[]) (mvT hZ2 (W hw 96 rfl))) (mvT hZ2 (W hw 96 rfl)) (mvT hZ2 (W hw 95 rfl)) (by decide) (backOf (W := 0) (rm_18 l Z a0 hw w kk iw vw hN [] o2 p1 o3 kc_o3 h2 O2 gn_o2 E_o2_v2.lt E_o2_v2 F_o2_wordsInUse_v2 F_o2_sizeIsSticky_v2 gn_o3 V_o3_v2.lt F_o2_words_v2 V_o3_v2 ne_o2_o3 hp0 hp2) hZ2 (W hw 97 rfl) (W hw 20 rfl) (by decide) (by decide)) q4a q4c (g := (mkF m 11 #[.val (.ref o1), .val (.int p1)] [(.int p1), (.ref o2)])) rfl (by rw [hml]; rfl) (Steps.refl _) (argsL := [(.int p1)]) (rest := []) (lenOf pd_1 rfl) rfl (by show 2 * 0 + _ ≤ _; exact Nat.le_of_eq rfl) (hb hby d7_11) (fun _ _ => ⟨rfl, e3, (by decide : 2 + 0 ≤ _), (by decide : 60 + 0 ≤ _)⟩)
  dsimp only [Pt.U, Pt.locs, Pt.cells, Pt.slots] at X4 l4 y4 z4 st4 hQ4
  subst l4 y4 z4
  obtain ⟨rfl, N4q, Kq4, tk4_0, tk4_1, tk4_2, tk4_3, tk4_4⟩ := hQ4
  have N4 := Fr.app N3 N4q
  have E_o1_v4 := E_o1_v2.keep Kq4
  have F_o1_closed_v4 := F_o1_closed_v2.keep Kq4 (ninS ne_o1_o2 (ninS ne_o1_o3 nin0))
  have F_o1_blockCount_v4 := F_o1_blockCount_v2.keep Kq4 (ninS ne_o1_o2 (ninS ne_o1_o3 nin0))
  have E_o2_v4 := E_o2_v2.keep Kq4
  have hk4 := Nat.le_trans hk2 Kq4.1
  have O4 := O2.keep Kq4 (allS gn_o2 (allS gn_o3 all0))
  have K4 : Keep h0 T4.heap [o3, o2] := K2.trans Kq4 (allS (Or.inl (List.mem_of_getElem? (i := 1) rfl)) (allS (Or.inl (List.mem_of_getElem? (i := 0) rfl)) all0))
  refine ⟨T4, _, none, _, _, _, _, by decide, by decide, X4, hS2, hk4, (fun _ => rfl), ⟨rfl, N4, K4, tk4_0, tk4_1, tk4_2, tk4_3, tk4_4⟩, fun fs hr => castTop (ef_1 m (.ref o1) rfl (.int p1) rfl) ?_⟩
  show Steps p.tables e below (s₁.setTop (mkF m 0 #[.val (.ref o1), .val (.int p1)] [])) _
  refine XS.aloadN X0.here hx rfl (hb hby d7_0) rfl rfl ?_
  refine st1 _ ?_
  refine XS.aloadN X1.here hx rfl (hb hby d7_4) rfl rfl ?_
  refine XS.iloadN X1.here hx rfl (hb hby d7_5) rfl ?_
  refine st2 _ ?_
  refine st3.trans ?_
  refine st4.trans ?_
  show Steps p.tables e below (T4.setTop (mkF m 14 #[.val (.ref o1), .val (.int p1)] [])) _
  exact X4.returnOut hx hret (hb hby d7_14) hr
set_option maxRecDepth 65536 in
set_option maxHeartbeats 40000000 in
theorem rm_46 (l : Launch) (Z : State) (a0 : Array Value) (hw : ∀ d ∈ tables_1, d.before a0 Z = true) (w : Nat → Addr) (kk : Nat → ClassId) (iw : Nat → Int32) (vw : Nat → Value) (hN : Wd Z w kk iw vw) (ws : List Jvm.Cond) (o1 : Addr) (o2 : Addr) (o3 : Addr) (t0 : Int64) (kc_o3 : ClassId) (h0 : Heap) (O0 : Old Z Z.heap.size h0) (gn_o1 : Z.heap.size ≤ o1) (lt_o1 : o1 < h0.size) (E_o1 : Exa Z h0 o1 s_0) (gn_o2 : Z.heap.size ≤ o2) (lt_o2 : o2 < h0.size) (F_o1_closed : Fld Z h0 o1 s_0 "closed" s_3 (.ref o2)) (F_o1_blockCount : Fld Z h0 o1 s_0 "blockCount" "I" (.int (3 : Int32))) (E_o2 : Exa Z h0 o2 s_1) (F_o2_wordsInUse : Fld Z h0 o2 s_1 "wordsInUse" "I" (.int (1 : Int32))) (F_o2_sizeIsSticky : Fld Z h0 o2 s_1 s_6 "Z" (.int (0 : Int32))) (gn_o3 : Z.heap.size ≤ o3) (lt_o3 : o3 < h0.size) (F_o2_words : Fld Z h0 o2 s_1 "words" "[J" (.ref o3)) (V_o3 : Arv Z h0 o3 kc_o3 .long (1 : Int32) [(.long t0)] (.long (0 : Int64))) (ne_o1_o2 : o1 ≠ o2) (ne_o1_o3 : o1 ≠ o3) (ne_o2_o3 : o2 ≠ o3) :
    Met l Z (⟨s_0, "hasBlocks", "()Z"⟩ : MethodName) (Jvm.Cond.code (⟨s_0, "hasBlocks", "()Z"⟩ : MethodName) prog_20_method_2_code 1 (some .boolean)) ws (Rm 0 0 0 0) #[(.ref o1)] h0 (OQ (some (.int (1 : Int32))) h0 Z.heap.size) := by
  have hN' := hN
  have hL0 : Sta Z Z.heap s_1 s_4 "Z" (.int (1 : Int32)) := hN'
  refine own_body (plainFor_of_name pn_1) hisR ?_
  intro p e s m below meth c s₁ hx hby hml hown hnm hret X0 hZ e0
  have N0 := Fr.nil Z.heap.size
  obtain ⟨T1, X1, e1, st1⟩ := getF X0 hx hZ hown (host := "") (Or.inl (W hw 57 rfl)) Via.refl e0 F_o1_blockCount (g := (mkF m 1 #[.val (.ref o1)] [(.ref o1)])) rfl rfl (hb hby d4_1)
  refine ⟨T1, some (.int (1 : Int32)), _, _, _, by decide, by decide, X1, nofun, (by rw [e1]; exact ⟨rfl, N0, rfl⟩), fun fs hr => castTop (ef_2 m (.ref o1) rfl) ?_⟩
  show Steps p.tables e below (s₁.setTop (mkF m 0 #[.val (.ref o1)] [])) _
  refine XS.aloadN X0.here hx rfl (hb hby d4_0) rfl rfl ?_
  refine st1 _ ?_
  refine XS.ifNo X1.here hx rfl (hb hby d4_4) rfl ((if0 _ _).trans (tlt (by decide : (0 : Int32) < (3 : Int32))).2.2.2) ?_
  refine XS.iconst X1.here hx rfl (hb hby d4_7) ?_
  refine XS.goto X1.here hx rfl (pc0 := 8) (pc' := 12) rfl (hb hby d4_8) (by decide) (by decide) ?_
  show Steps p.tables e below (T1.setTop (mkF m 12 #[.val (.ref o1)] [(.int (1 : Int32))])) _
  exact retN X1 hx (t := .boolean) hret (by simp) (hb hby d4_12) hr
set_option maxRecDepth 65536 in
set_option maxHeartbeats 40000000 in
theorem law_47 (l : Launch) (Z : State) (a0 : Array Value) (hw : ∀ d ∈ tables_1, d.before a0 Z = true) (w : Nat → Addr) (kk : Nat → ClassId) (iw : Nat → Int32) (vw : Nat → Value) (hN : Wd Z w kk iw vw) (ws : List Jvm.Cond) (p0 : Int32) (p1 : Int32) (p2 : Int32) (p3 : Int32) (h0 : Heap) (O0 : Old Z Z.heap.size h0) (hp0 : (p0 &&& (3 : Int32)) = (2 : Int32)) (hp1 : (p1 &&& (1 : Int32)) = (1 : Int32)) (hp2 : ((p2 &&& (2147483647 : Int32)) % (2 : Int32)) = (0 : Int32)) (hp3 : (p3 &&& (1 : Int32)) = (1 : Int32)) (hp4 : ¬ (((((p3.toUInt32 >>> ((1 : Int32) &&& 31).toUInt32).toInt32) &&& (2147483647 : Int32)) % (2 : Int32)) < (0 : Int32))) (hp5 : ((((p3.toUInt32 >>> ((1 : Int32) &&& 31).toUInt32).toInt32) &&& (2147483647 : Int32)) % (2 : Int32)) < (3 : Int32)) (hp6 : (((((p3.toUInt32 >>> ((1 : Int32) &&& 31).toUInt32).toInt32) &&& (2147483647 : Int32)) % (2 : Int32)) >>> ((6 : Int32) &&& 31)) = (0 : Int32)) :
    MetFree l x (head1 (Jvm.Cond.code x code maxLocals ret :: ws) room_1) (fun a U => a = #[(.int p0), (.int p1), (.int p2), (.int p3)] ∧ Z.Warmed39 U.vm ∧ U.heap = h0) (fun _ _ _ _ _ => True) (fun _ U o U' => ∃ v L, o = .returned v ∧ OL (some (.int (1 : Int32))) Z.heap.size v U'.heap L ∧ ReturnedEndW U o U' L 32 3072) := by
  have hN' := hN
  have hL0 : Sta Z Z.heap s_1 s_4 "Z" (.int (1 : Int32)) := hN'
  refine MetFree.of_bodySF (plainFor_of_name pn_2) hisR ?_
  intro p e s m args below meth c s₁ Bd hml0 hP hK
  obtain ⟨rfl, hZ, hh⟩ := hP
  have hx := Bd.exec
  have hby := Bd.bytes
  have hml : c.maxLocals = 7 := hml0
  have hown : s.vm.findClass s_2 = some m.cls := findClass_of_methodNamed Bd.named
  have hnm := (name_of_methodNamed Bd.named Bd.method).1
  have X0 : Stand p l e room_1 s m #[(.int p0), (.int p1), (.int p2), (.int p3)] below meth c s₁ [] 0 0 := Stand.of_body Bd
  have e0 : s₁.heap = h0 := by rw [← hh, Bd.state]; rfl
  have N0 := Fr.nil Z.heap.size
  obtain ⟨T1, L1, b1_0, b1_1, b1_2, b1_3, b1_4, b1_5, b1_6, kb1_0, kb1_1, kb1_2, kb1_3, kb1_4, X1, st1, N1, Kq1, tk1_0, tk1_1, tk1_2, tk1_3, tk1_4, tk1_5, tk1_6, tk1_7, tk1_8, tk1_9, tk1_10, tk1_11, tk1_12, tk1_13, tk1_14, tk1_15, tk1_16, tk1_17, tk1_18, tk1_19, tk1_20, tk1_21, tk1_22, tk1_23, tk1_24, tk1_25, tk1_26, tk1_27, tk1_28, tk1_29, tk1_30, tk1_31, tk1_32, tk1_33, tk1_34, tk1_35, tk1_36, tk1_37, tk1_38, tk1_39, tk1_40, tk1_41, tk1_42, tk1_43, tk1_44, tk1_45⟩ := sg_33 w kk iw vw hN p0 p1 p2 p3 X0 hx hZ hw hby hml hown e0 O0 N0
  have gn_b1_0 : Z.heap.size ≤ b1_0 := Nat.le_trans O0.2.1 tk1_0
  have gn_b1_1 : Z.heap.size ≤ b1_1 := Nat.le_trans O0.2.1 tk1_1
  have gn_b1_2 : Z.heap.size ≤ b1_2 := Nat.le_trans O0.2.1 tk1_2
  have gn_b1_3 : Z.heap.size ≤ b1_3 := Nat.le_trans O0.2.1 tk1_3
  have gn_b1_4 : Z.heap.size ≤ b1_4 := Nat.le_trans O0.2.1 tk1_4
  have gn_b1_5 : Z.heap.size ≤ b1_5 := Nat.le_trans O0.2.1 tk1_5
  have gn_b1_6 : Z.heap.size ≤ b1_6 := Nat.le_trans O0.2.1 tk1_6
  have O1 := O0.keep Kq1 all0
  obtain ⟨cq2, kq2, q2a, q2b, q2c⟩ := isOf hZ rfl tk1_28
  obtain ⟨_, _, ⟨T2, L2, k2, n2⟩, -, X2, hSq2, hgr2, ⟨Lc2, hQ2, l2, y2, z2⟩, st2⟩ := X1.virtualBackS hx (y := (⟨s_0, "insertBlock", "(I)V"⟩ : MethodName)) (z := (⟨s_0, "insertBlock", "(I)V"⟩ : MethodName)) hown (mvT hZ (W hw 70 rfl)) (mvT hZ (W hw 71 rfl)) (notFace_of_selects (args := #[]) (mvT hZ (W hw 73 rfl))) (mvT hZ (W hw 73 rfl)) (mvT hZ (W hw 72 rfl)) (by decide) (backOfS (W := 0) (rm_41 l Z a0 hw w kk iw vw hN [] b1_0 b1_1 b1_2 b1_3 b1_4 b1_5 kb1_0 kb1_1 kb1_2 kb1_3 b1_6 kb1_4 T1.heap O1 gn_b1_0 tk1_28.lt tk1_28 gn_b1_1 tk1_37.lt tk1_29 gn_b1_2 tk1_38.lt tk1_30 gn_b1_3 tk1_39.lt tk1_31 gn_b1_4 tk1_40.lt tk1_32 gn_b1_5 tk1_41.lt tk1_33 tk1_34 tk1_35 tk1_36 tk1_37 tk1_38 tk1_39 tk1_40 tk1_41 tk1_42 tk1_43 gn_b1_6 tk1_45.lt tk1_44 tk1_45 tk1_7 tk1_8 tk1_9 tk1_10 tk1_11 tk1_12 tk1_13 tk1_14 tk1_15 tk1_16 tk1_17 tk1_18 tk1_19 tk1_20 tk1_21 tk1_22 tk1_23 tk1_24 tk1_25 tk1_26 tk1_27) hZ (W hw 74 rfl) (W hw 2 rfl) (by decide) (by decide)) q2a q2c (g := (mkF m 122 #[.val (.int p0), .val (.int p1), .val (.int p2), .val (.int p3), .val (.int (2 : Int32)), .val (.ref b1_0), .val (.int (1 : Int32))] [(.int (0 : Int32)), (.ref b1_0)])) rfl (by rw [hml]; rfl) (Steps.refl _) (argsL := [(.int (0 : Int32))]) (rest := []) (lenOf pd_1 rfl) rfl (by show 2 * 0 + _ ≤ _; exact Nat.le_of_eq rfl) (hb hby at_122) (fun _ _ => ⟨rfl, rfl, (by decide : 10 + 2 ≤ _), (by decide : 467 + 68 ≤ _)⟩)
  dsimp only [Pt.U, Pt.locs, Pt.cells, Pt.slots] at X2 l2 y2 z2 st2 hQ2 hSq2 hgr2
  subst l2 y2 z2
  have hS2 : s.Since T2.vm T2.heap.size := hSq2
  have hk2 : T2.heap.size ≤ T2.heap.size := Nat.le_refl _
  have hZ2 : Z.Warmed39 (s.setVm T2.vm).vm := State.Warmed39.trans (t := (s.setVm s.vm)) hZ hSq2.1
  have hown2 : (s.setVm T2.vm).vm.findClass s_2 = some m.cls := by rw [show (s.setVm T2.vm).vm = T2.vm from rfl, hSq2.1.alike.findClass]; exact hown
  have X2' : Stand p l e _ (s.setVm T2.vm) m _ below meth c T2 _ _ _ := X2
  obtain ⟨rfl, N2q, Kq2, tk2_0, tk2_1, tk2_2, tk2_3, tk2_4, tk2_5, tk2_6, tk2_7, tk2_8, tk2_9, tk2_10, tk2_11, tk2_12⟩ := hQ2
  have N2 := Fr.app N1 N2q
  have tk1_28_v2 := tk1_28.keep Kq2
  have tk1_41_v2 := tk1_41.keep Kq2
  have tk1_42_v2 := tk1_42.keep Kq2 (ninS (Ne.symm tk1_25) (ninS (Ne.symm tk1_23) (ninS (Ne.symm tk1_20) (ninS (Ne.symm tk1_16) (ninS (Ne.symm tk1_11) nin0)))))
  have tk1_43_v2 := tk1_43.keep Kq2 (ninS (Ne.symm tk1_25) (ninS (Ne.symm tk1_23) (ninS (Ne.symm tk1_20) (ninS (Ne.symm tk1_16) (ninS (Ne.symm tk1_11) nin0)))))
  have tk1_44_v2 := tk1_44.keep Kq2 (ninS (Ne.symm tk1_25) (ninS (Ne.symm tk1_23) (ninS (Ne.symm tk1_20) (ninS (Ne.symm tk1_16) (ninS (Ne.symm tk1_11) nin0)))))
  have tk1_45_v2 := tk1_45.keep Kq2 (ninS (Ne.symm tk1_26) (ninS (Ne.symm tk1_24) (ninS (Ne.symm tk1_21) (ninS (Ne.symm tk1_17) (ninS (Ne.symm tk1_12) nin0)))))
  have O2 := O1.keep Kq2 (allS gn_b1_4 (allS gn_b1_3 (allS gn_b1_2 (allS gn_b1_1 (allS gn_b1_0 all0)))))
  obtain ⟨cq3, kq3, q3a, q3b, q3c⟩ := isOf hZ2 rfl tk2_0
  obtain ⟨_, _, ⟨T3, L3, k3, n3⟩, -, X3, hSq3, hgr3, ⟨Lc3, hQ3, l3, y3, z3⟩, st3⟩ := X2'.virtualBackS hx (y := (⟨s_0, "closeBlock", "(I)V"⟩ : MethodName)) (z := (⟨s_0, "closeBlock", "(I)V"⟩ : MethodName)) hown2 (mvT hZ2 (W hw 87 rfl)) (mvT hZ2 (W hw 88 rfl)) (notFace_of_selects (args := #[]) (mvT hZ2 (W hw 90 rfl))) (mvT hZ2 (W hw 90 rfl)) (mvT hZ2 (W hw 89 rfl)) (by decide) (backOfS (W := 0) (rm_45 l Z a0 hw w kk iw vw hN [] b1_0 ((((p3.toUInt32 >>> ((1 : Int32) &&& 31).toUInt32).toInt32) &&& (2147483647 : Int32)) % (2 : Int32)) b1_5 b1_6 kb1_4 T2.heap O2 gn_b1_0 tk2_0.lt tk2_0 gn_b1_5 tk1_41_v2.lt tk2_5 tk2_8 tk1_41_v2 tk1_42_v2 tk1_43_v2 gn_b1_6 tk1_45_v2.lt tk1_44_v2 tk1_45_v2 tk1_11 tk1_12 tk1_27 hp4 hp5 hp6) hZ2 (W hw 91 rfl) (W hw 2 rfl) (by decide) (by decide)) q3a q3c (g := (mkF m 147 #[.val (.int p0), .val (.int p1), .val (.int p2), .val (.int p3), .val (.int (2 : Int32)), .val (.ref b1_0), .val (.int (1 : Int32))] [(.int ((((p3.toUInt32 >>> ((1 : Int32) &&& 31).toUInt32).toInt32) &&& (2147483647 : Int32)) % (2 : Int32))), (.ref b1_0)])) rfl (by rw [hml]; rfl) (Steps.refl _) (argsL := [(.int ((((p3.toUInt32 >>> ((1 : Int32) &&& 31).toUInt32).toInt32) &&& (2147483647 : Int32)) % (2 : Int32)))]) (rest := []) (lenOf pd_1 rfl) rfl (by show 2 * 0 + _ ≤ _; exact Nat.le_of_eq rfl) (hb hby at_147) (fun _ _ => ⟨rfl, rfl, (by decide : 12 + 2 ≤ _), (by decide : 535 + 60 ≤ _)⟩)
  dsimp only [Pt.U, Pt.locs, Pt.cells, Pt.slots] at X3 l3 y3 z3 st3 hQ3 hSq3 hgr3
  subst l3 y3 z3
  have hS3 : s.Since T3.vm T3.heap.size := foldS (T := T2) hS2 hk2 hSq3 hgr3
  have hk3 : T3.heap.size ≤ T3.heap.size := Nat.le_refl _
  have hZ3 : Z.Warmed39 (s.setVm T3.vm).vm := State.Warmed39.trans (t := (s.setVm T2.vm)) hZ2 hSq3.1
  have hown3 : (s.setVm T3.vm).vm.findClass s_2 = some m.cls := by rw [show (s.setVm T3.vm).vm = T3.vm from rfl, hSq3.1.alike.findClass]; exact hown2
  have X3' : Stand p l e _ (s.setVm T3.vm) m _ below meth c T3 _ _ _ := X3
  obtain ⟨rfl, N3q, Kq3, tk3_0, tk3_1, tk3_2, tk3_3, tk3_4⟩ := hQ3
  have N3 := Fr.app N2 N3q
  have tk2_0_v3 := tk2_0.keep Kq3
  have tk1_41_v3 := tk1_41_v2.keep Kq3
  have tk2_5_v3 := tk2_5.keep Kq3 (ninS tk1_12 (ninS tk1_11 nin0))
  have tk2_8_v3 := tk2_8.keep Kq3 (ninS tk1_12 (ninS tk1_11 nin0))
  have O3 := O2.keep Kq3 (allS gn_b1_6 (allS gn_b1_5 all0))
  obtain ⟨cq4, kq4, q4a, q4b, q4c⟩ := isOf hZ3 rfl tk2_0_v3
  obtain ⟨_, _, ⟨T4, L4, k4, n4⟩, -, X4, ⟨Lc4, hQ4, l4, y4, z4⟩, st4⟩ := X3'.virtualBack hx (y := (⟨s_0, "hasBlocks", "()Z"⟩ : MethodName)) (z := (⟨s_0, "hasBlocks", "()Z"⟩ : MethodName)) hown3 (mvT hZ3 (W hw 52 rfl)) (mvT hZ3 (W hw 53 rfl)) (notFace_of_selects (args := #[]) (mvT hZ3 (W hw 55 rfl))) (mvT hZ3 (W hw 55 rfl)) (mvT hZ3 (W hw 54 rfl)) (by decide) (backOf (W := 0) (rm_46 l Z a0 hw w kk iw vw hN [] b1_0 b1_5 b1_6 ((0 : Int64) ||| ((1 : Int64) <<< (((((p3.toUInt32 >>> ((1 : Int32) &&& 31).toUInt32).toInt32) &&& (2147483647 : Int32)) % (2 : Int32)) &&& 0x3f).toInt64)) kb1_4 T3.heap O3 gn_b1_0 tk2_0_v3.lt tk2_0_v3 gn_b1_5 tk3_0.lt tk2_5_v3 tk2_8_v3 tk3_0 tk3_1 tk3_2 gn_b1_6 tk3_4.lt tk3_3 tk3_4 tk1_11 tk1_12 tk1_27) hZ3 (W hw 56 rfl) (W hw 2 rfl) (by decide) (by decide)) q4a q4c (g := (mkF m 157 #[.val (.int p0), .val (.int p1), .val (.int p2), .val (.int p3), .val (.int (2 : Int32)), .val (.ref b1_0), .val (.int (1 : Int32))] [(.ref b1_0)])) rfl (by rw [hml]; rfl) (Steps.refl _) (argsL := []) (rest := []) (lenOf pd_3 rfl) rfl (by show 2 * 0 + _ ≤ _; exact Nat.le_of_eq rfl) (hb hby at_157) (fun _ _ => ⟨rfl, rfl, (by decide : 14 + 0 ≤ _), (by decide : 595 + 0 ≤ _)⟩)
  dsimp only [Pt.U, Pt.locs, Pt.cells, Pt.slots] at X4 l4 y4 z4 st4 hQ4
  subst l4 y4 z4
  obtain ⟨rfl, N4q, e4⟩ := hQ4
  have N4 := Fr.app N3 N4q
  obtain ⟨fs, hr, hrun, hended, w1, w2, w3, w4⟩ := X4.leaveW hS3 (by rw [e4]; exact hk3) (v := some (.int (1 : Int32))) (fun h => by rw [Bd.returns] at h; cases h)
  refine ⟨_, _, castTop (ef_3 m (.int p0) rfl (.int p1) rfl (.int p2) rfl (.int p3) rfl) ?_, hrun, hended, _, _, rfl, ?_, w1, w2, w3, w4.mono (by decide) (by decide)⟩
  · show Steps p.tables e below (s₁.setTop (mkF m 0 #[.val (.int p0), .val (.int p1), .val (.int p2), .val (.int p3), .unset, .unset, .unset] [])) _
    refine XS.iloadN X0.here hx rfl (hb hby at_0) rfl ?_
    refine XS.iconst X0.here hx rfl (hb hby at_1) ?_
    refine XS.iand X0.here hx rfl (hb hby at_2) rfl ?_
    show Steps p.tables e below (s₁.setTop (mkF m 3 #[.val (.int p0), .val (.int p1), .val (.int p2), .val (.int p3), .unset, .unset, .unset] [(.int (p0 &&& (3 : Int32)))])) _
    rw [hp0]
    refine XS.istore X0.here hx rfl (hb hby at_3) rfl (l' := #[.val (.int p0), .val (.int p1), .val (.int p2), .val (.int p3), .val (.int (2 : Int32)), .unset, .unset]) rfl ?_
    show Steps p.tables e below (s₁.setTop (mkF m 5 #[.val (.int p0), .val (.int p1), .val (.int p2), .val (.int p3), .val (.int (2 : Int32)), .unset, .unset] [])) _
    refine st1 _ ?_
    refine XS.iload X1.here hx rfl (hb hby at_102) rfl ?_
    refine XS.ifNo X1.here hx rfl (hb hby at_104) rfl ((if0 _ _).trans (tlt (by decide : (0 : Int32) < (2 : Int32))).2.2.2) ?_
    refine XS.iloadN X1.here hx rfl (hb hby at_107) rfl ?_
    refine XS.iconst X1.here hx rfl (hb hby at_108) ?_
    refine XS.iand X1.here hx rfl (hb hby at_109) rfl ?_
    show Steps p.tables e below (T1.setTop (mkF m 110 #[.val (.int p0), .val (.int p1), .val (.int p2), .val (.int p3), .val (.int (2 : Int32)), .val (.ref b1_0), .val (.int (1 : Int32))] [(.int (p1 &&& (1 : Int32)))])) _
    rw [hp1]
    refine XS.ifNo X1.here hx rfl (hb hby at_110) rfl ((if0 _ _).trans (feq (by decide : ¬ ((1 : Int32) = (0 : Int32)))).1) ?_
    refine XS.aload X1.here hx rfl (hb hby at_113) rfl rfl ?_
    show Steps p.tables e below (T1.setTop (mkF m 115 #[.val (.int p0), .val (.int p1), .val (.int p2), .val (.int p3), .val (.int (2 : Int32)), .val (.ref b1_0), .val (.int (1 : Int32))] [(.ref b1_0)])) _
    refine XS.iloadN X1.here hx rfl (hb hby at_115) rfl ?_
    refine X1.ldcInt hx hown (mvT hZ (W hw 69 rfl)) (g := (mkF m 116 #[.val (.int p0), .val (.int p1), .val (.int p2), .val (.int p3), .val (.int (2 : Int32)), .val (.ref b1_0), .val (.int (1 : Int32))] [(.int p2), (.ref b1_0)])) rfl (hb hby at_116) _ ?_
    refine XS.iand X1.here hx rfl (hb hby at_118) rfl ?_
    refine XS.iload X1.here hx rfl (hb hby at_119) rfl ?_
    refine iremM X1 hx rfl (hb hby at_121) rfl (by decide : ¬ ((2 : Int32) = (0 : Int32))) ?_
    show Steps p.tables e below (T1.setTop (mkF m 122 #[.val (.int p0), .val (.int p1), .val (.int p2), .val (.int p3), .val (.int (2 : Int32)), .val (.ref b1_0), .val (.int (1 : Int32))] [(.int ((p2 &&& (2147483647 : Int32)) % (2 : Int32))), (.ref b1_0)])) _
    rw [hp2]
    refine st2.trans ?_
    refine XS.iload X2'.here hx rfl (hb hby at_125) rfl ?_
    refine XS.ifNo X2'.here hx rfl (hb hby at_127) rfl ((if0 _ _).trans (tlt (by decide : (0 : Int32) < (2 : Int32))).2.2.2) ?_
    show Steps p.tables e below (T2.setTop (mkF m 130 #[.val (.int p0), .val (.int p1), .val (.int p2), .val (.int p3), .val (.int (2 : Int32)), .val (.ref b1_0), .val (.int (1 : Int32))] [])) _
    refine XS.iloadN X2'.here hx rfl (hb hby at_130) rfl ?_
    refine XS.iconst X2'.here hx rfl (hb hby at_131) ?_
    refine XS.iand X2'.here hx rfl (hb hby at_132) rfl ?_
    show Steps p.tables e below (T2.setTop (mkF m 133 #[.val (.int p0), .val (.int p1), .val (.int p2), .val (.int p3), .val (.int (2 : Int32)), .val (.ref b1_0), .val (.int (1 : Int32))] [(.int (p3 &&& (1 : Int32)))])) _
    rw [hp3]
    refine XS.ifNo X2'.here hx rfl (hb hby at_133) rfl ((if0 _ _).trans (feq (by decide : ¬ ((1 : Int32) = (0 : Int32)))).1) ?_
    refine XS.aload X2'.here hx rfl (hb hby at_136) rfl rfl ?_
    refine XS.iloadN X2'.here hx rfl (hb hby at_138) rfl ?_
    refine XS.iconst X2'.here hx rfl (hb hby at_139) ?_
    refine XS.iushr X2'.here hx rfl (hb hby at_140) rfl ?_
    show Steps p.tables e below (T2.setTop (mkF m 141 #[.val (.int p0), .val (.int p1), .val (.int p2), .val (.int p3), .val (.int (2 : Int32)), .val (.ref b1_0), .val (.int (1 : Int32))] [(.int ((p3.toUInt32 >>> ((1 : Int32) &&& 31).toUInt32).toInt32)), (.ref b1_0)])) _
    refine X2'.ldcInt hx hown2 (mvT hZ2 (W hw 69 rfl)) (g := (mkF m 141 #[.val (.int p0), .val (.int p1), .val (.int p2), .val (.int p3), .val (.int (2 : Int32)), .val (.ref b1_0), .val (.int (1 : Int32))] [(.int ((p3.toUInt32 >>> ((1 : Int32) &&& 31).toUInt32).toInt32)), (.ref b1_0)])) rfl (hb hby at_141) _ ?_
    refine XS.iand X2'.here hx rfl (hb hby at_143) rfl ?_
    refine XS.iload X2'.here hx rfl (hb hby at_144) rfl ?_
    refine iremM X2' hx rfl (hb hby at_146) rfl (by decide : ¬ ((2 : Int32) = (0 : Int32))) ?_
    refine st3.trans ?_
    refine XS.iload X3'.here hx rfl (hb hby at_150) rfl ?_
    refine XS.ifNo X3'.here hx rfl (hb hby at_152) rfl ((if0 _ _).trans (feq (by decide : ¬ ((1 : Int32) = (0 : Int32)))).1) ?_
    refine XS.aload X3'.here hx rfl (hb hby at_155) rfl rfl ?_
    show Steps p.tables e below (T3.setTop (mkF m 157 #[.val (.int p0), .val (.int p1), .val (.int p2), .val (.int p3), .val (.int (2 : Int32)), .val (.ref b1_0), .val (.int (1 : Int32))] [(.ref b1_0)])) _
    refine st4.trans ?_
    refine XS.iload X4.here hx rfl (hb hby at_160) rfl ?_
    refine XS.ifNo X4.here hx rfl (hb hby at_162) rfl ((if0 _ _).trans (tlt (by decide : (0 : Int32) < (2 : Int32))).2.2.2) ?_
    refine XS.iconst X4.here hx rfl (hb hby at_165) ?_
    refine XS.goto X4.here hx rfl (pc0 := 166) (pc' := 170) rfl (hb hby at_166) (by decide) (by decide) ?_
    refine XS.icmpNo X4.here hx rfl (hb hby at_170) rfl (teq (by decide : (1 : Int32) = (1 : Int32))).2 ?_
    refine XS.iconst X4.here hx rfl (hb hby at_173) ?_
    refine XS.goto X4.here hx rfl (pc0 := 174) (pc' := 178) rfl (hb hby at_174) (by decide) (by decide) ?_
    show Steps p.tables e below (T4.setTop (mkF m 178 #[.val (.int p0), .val (.int p1), .val (.int p2), .val (.int p3), .val (.int (2 : Int32)), .val (.ref b1_0), .val (.int (1 : Int32))] [(.int (1 : Int32))])) _
    refine XS.istore X4.here hx rfl (hb hby at_178) rfl (l' := #[.val (.int p0), .val (.int p1), .val (.int p2), .val (.int p3), .val (.int (2 : Int32)), .val (.ref b1_0), .val (.int (1 : Int32))]) rfl ?_
    refine XS.iload X4.here hx rfl (hb hby at_180) rfl ?_
    show Steps p.tables e below (T4.setTop (mkF m 182 #[.val (.int p0), .val (.int p1), .val (.int p2), .val (.int p3), .val (.int (2 : Int32)), .val (.ref b1_0), .val (.int (1 : Int32))] [(.int (1 : Int32))])) _
    exact retN X4 hx (t := .boolean) Bd.returns (by simp) (hb hby at_182) hr
  · show OL (some (.int (1 : Int32))) Z.heap.size _ T4.heap _
    exact ⟨rfl, N4⟩
set_option maxRecDepth 65536 in
set_option maxHeartbeats 40000000 in
theorem rm_48 (l : Launch) (Z : State) (a0 : Array Value) (hw : ∀ d ∈ tables_1, d.before a0 Z = true) (w : Nat → Addr) (kk : Nat → ClassId) (iw : Nat → Int32) (vw : Nat → Value) (hN : Wd Z w kk iw vw) (ws : List Jvm.Cond) (o1 : Addr) (o2 : Addr) (o3 : Addr) (o4 : Addr) (o5 : Addr) (o6 : Addr) (o7 : Addr) (kc_o3 : ClassId) (kc_o4 : ClassId) (kc_o5 : ClassId) (kc_o6 : ClassId) (o8 : Addr) (kc_o8 : ClassId) (h0 : Heap) (O0 : Old Z Z.heap.size h0) (gn_o1 : Z.heap.size ≤ o1) (lt_o1 : o1 < h0.size) (E_o1 : Exa Z h0 o1 s_0) (gn_o3 : Z.heap.size ≤ o3) (lt_o3 : o3 < h0.size) (F_o1_nextBlock : Fld Z h0 o1 s_0 "nextBlock" "[I" (.ref o3)) (gn_o4 : Z.heap.size ≤ o4) (lt_o4 : o4 < h0.size) (F_o1_previousBlock : Fld Z h0 o1 s_0 s_5 "[I" (.ref o4)) (gn_o5 : Z.heap.size ≤ o5) (lt_o5 : o5 < h0.size) (F_o1_firstPiece : Fld Z h0 o1 s_0 "firstPiece" "[I" (.ref o5)) (gn_o6 : Z.heap.size ≤ o6) (lt_o6 : o6 < h0.size) (F_o1_lastPiece : Fld Z h0 o1 s_0 "lastPiece" "[I" (.ref o6)) (gn_o7 : Z.heap.size ≤ o7) (lt_o7 : o7 < h0.size) (F_o1_closed : Fld Z h0 o1 s_0 "closed" s_3 (.ref o7)) (F_o1_firstBlock : Fld Z h0 o1 s_0 "firstBlock" "I" (.int (0 : Int32))) (F_o1_lastBlock : Fld Z h0 o1 s_0 "lastBlock" "I" (.int (1 : Int32))) (F_o1_blockCount : Fld Z h0 o1 s_0 "blockCount" "I" (.int (2 : Int32))) (V_o3 : Arv Z h0 o3 kc_o3 .int (64 : Int32) [(.int (1 : Int32)), (.int (-1 : Int32))] (.int (0 : Int32))) (V_o4 : Arv Z h0 o4 kc_o4 .int (64 : Int32) [(.int (-1 : Int32)), (.int (0 : Int32))] (.int (0 : Int32))) (V_o5 : Arv Z h0 o5 kc_o5 .int (64 : Int32) [(.int (-1 : Int32)), (.int (-1 : Int32))] (.int (0 : Int32))) (V_o6 : Arv Z h0 o6 kc_o6 .int (64 : Int32) [(.int (-1 : Int32)), (.int (-1 : Int32))] (.int (0 : Int32))) (E_o7 : Exa Z h0 o7 s_1) (F_o7_wordsInUse : Fld Z h0 o7 s_1 "wordsInUse" "I" (.int (0 : Int32))) (F_o7_sizeIsSticky : Fld Z h0 o7 s_1 s_6 "Z" (.int (0 : Int32))) (gn_o8 : Z.heap.size ≤ o8) (lt_o8 : o8 < h0.size) (F_o7_words : Fld Z h0 o7 s_1 "words" "[J" (.ref o8)) (V_o8 : Arv Z h0 o8 kc_o8 .long (1 : Int32) [] (.long (0 : Int64))) (ne_o1_o3 : o1 ≠ o3) (ne_o1_o4 : o1 ≠ o4) (ne_o1_o5 : o1 ≠ o5) (ne_o1_o6 : o1 ≠ o6) (ne_o1_o7 : o1 ≠ o7) (ne_o1_o8 : o1 ≠ o8) (ne_o3_o4 : o3 ≠ o4) (ne_o3_o5 : o3 ≠ o5) (ne_o3_o6 : o3 ≠ o6) (ne_o3_o7 : o3 ≠ o7) (ne_o3_o8 : o3 ≠ o8) (ne_o4_o5 : o4 ≠ o5) (ne_o4_o6 : o4 ≠ o6) (ne_o4_o7 : o4 ≠ o7) (ne_o4_o8 : o4 ≠ o8) (ne_o5_o6 : o5 ≠ o6) (ne_o5_o7 : o5 ≠ o7) (ne_o5_o8 : o5 ≠ o8) (ne_o6_o7 : o6 ≠ o7) (ne_o6_o8 : o6 ≠ o8) (ne_o7_o8 : o7 ≠ o8) :
    Met l Z (⟨s_0, "find", s_7⟩ : MethodName) (Jvm.Cond.code (⟨s_0, "find", s_7⟩ : MethodName) prog_20_method_11_code 3 (some .int)) ws (Rm 0 0 0 0) #[(.ref o1), (.int (1 : Int32)), (.ref o2)] h0 (OQ (some (.int (1 : Int32))) h0 Z.heap.size) := by
  have hN' := hN
  have hL0 : Sta Z Z.heap s_1 s_4 "Z" (.int (1 : Int32)) := hN'
  refine own_body (plainFor_of_name pn_1) hisR ?_
  intro p e s m below meth c s₁ hx hby hml hown hnm hret X0 hZ e0
  have N0 := Fr.nil Z.heap.size
  obtain ⟨T1, X1, e1, st1⟩ := getF X0 hx hZ hown (host := "") (Or.inl (W hw 57 rfl)) Via.refl e0 F_o1_blockCount (g := (mkF m 6 #[.val (.ref o1), .val (.int (1 : Int32)), .val (.ref o2)] [(.ref o1), (.int (1 : Int32))])) rfl rfl (hb hby d8_6)
  refine ⟨T1, some (.int (1 : Int32)), _, _, _, by decide, by decide, X1, nofun, (by rw [e1]; exact ⟨rfl, N0, rfl⟩), fun fs hr => castTop (ef_5 m (.ref o1) rfl (.int (1 : Int32)) rfl (.ref o2) rfl) ?_⟩
  show Steps p.tables e below (s₁.setTop (mkF m 0 #[.val (.ref o1), .val (.int (1 : Int32)), .val (.ref o2)] [])) _
  refine XS.iloadN X0.here hx rfl (hb hby d8_0) rfl ?_
  refine XS.ifNo X0.here hx rfl (hb hby d8_1) rfl ((if0 _ _).trans (flt (by decide : ¬ ((1 : Int32) < (0 : Int32)))).1) ?_
  refine XS.iloadN X0.here hx rfl (hb hby d8_4) rfl ?_
  refine XS.aloadN X0.here hx rfl (hb hby d8_5) rfl rfl ?_
  refine st1 _ ?_
  refine XS.icmpYes X1.here hx rfl (pc0 := 9) (pc' := 27) rfl (hb hby d8_9) rfl (tlt (by decide : (1 : Int32) < (2 : Int32))).1 (by decide) (by decide) ?_
  refine XS.iloadN X1.here hx rfl (hb hby d8_27) rfl ?_
  show Steps p.tables e below (T1.setTop (mkF m 28 #[.val (.ref o1), .val (.int (1 : Int32)), .val (.ref o2)] [(.int (1 : Int32))])) _
  exact retI X1 hx hret (hb hby d8_28) hr
theorem d13_50 : decode prog_20_method_4_code 50 = .ok (.aload_n 0, 1) := by decide +kernel
theorem d13_51 : decode prog_20_method_4_code 51 = .ok (.getfield 9, 3) := by decide +kernel
theorem d13_54 : decode prog_20_method_4_code 54 = .ok (.iload 4, 2) := by decide +kernel
theorem d13_56 : decode prog_20_method_4_code 56 = .ok (.iload_n 3, 1) := by decide +kernel
theorem d13_57 : decode prog_20_method_4_code 57 = .ok (.iastore, 1) := by decide +kernel
def Qd_13 (Z : State) (w : Nat → Addr) (kk : Nat → ClassId) (iw : Nat → Int32) (vw : Nat → Value) (o1 : Addr) (o2 : Addr) (o3 : Addr) (o4 : Addr) (o5 : Addr) (o6 : Addr) (kc_o2 : ClassId) (kc_o3 : ClassId) (kc_o4 : ClassId) (kc_o5 : ClassId) (o7 : Addr) (kc_o7 : ClassId) (h0 : Heap) (n0 : Nat) (v : Option Value) (h : Heap) (L : List Loc) : Prop := v = none ∧ Fr n0 L ∧ Keep h0 h [o5, o4, o3, o2, o1] ∧ Exa Z h o1 s_0 ∧ Fld Z h o1 s_0 "nextBlock" "[I" (.ref o2) ∧ Fld Z h o1 s_0 s_5 "[I" (.ref o3) ∧ Fld Z h o1 s_0 "firstPiece" "[I" (.ref o4) ∧ Fld Z h o1 s_0 "lastPiece" "[I" (.ref o5) ∧ Fld Z h o1 s_0 "closed" s_3 (.ref o6) ∧ Fld Z h o1 s_0 "firstBlock" "I" (.int (0 : Int32)) ∧ Fld Z h o1 s_0 "lastBlock" "I" (.int (1 : Int32)) ∧ Fld Z h o1 s_0 "blockCount" "I" (.int (3 : Int32)) ∧ Arv Z h o2 kc_o2 .int (64 : Int32) [(.int (2 : Int32)), (.int (-1 : Int32)), (.int (1 : Int32))] (.int (0 : Int32)) ∧ Arv Z h o3 kc_o3 .int (64 : Int32) [(.int (-1 : Int32)), (.int (2 : Int32)), (.int (0 : Int32))] (.int (0 : Int32)) ∧ Arv Z h o4 kc_o4 .int (64 : Int32) [(.int (-1 : Int32)), (.int (-1 : Int32)), (.int (-1 : Int32))] (.int (0 : Int32)) ∧ Arv Z h o5 kc_o5 .int (64 : Int32) [(.int (-1 : Int32)), (.int (-1 : Int32)), (.int (-1 : Int32))] (.int (0 : Int32))
set_option maxRecDepth 65536 in
set_option maxHeartbeats 40000000 in
theorem rm_49 (l : Launch) (Z : State) (a0 : Array Value) (hw : ∀ d ∈ tables_1, d.before a0 Z = true) (w : Nat → Addr) (kk : Nat → ClassId) (iw : Nat → Int32) (vw : Nat → Value) (hN : Wd Z w kk iw vw) (ws : List Jvm.Cond) (o1 : Addr) (o2 : Addr) (o3 : Addr) (o4 : Addr) (o5 : Addr) (o6 : Addr) (kc_o2 : ClassId) (kc_o3 : ClassId) (kc_o4 : ClassId) (kc_o5 : ClassId) (o7 : Addr) (kc_o7 : ClassId) (h0 : Heap) (O0 : Old Z Z.heap.size h0) (gn_o1 : Z.heap.size ≤ o1) (lt_o1 : o1 < h0.size) (E_o1 : Exa Z h0 o1 s_0) (gn_o2 : Z.heap.size ≤ o2) (lt_o2 : o2 < h0.size) (F_o1_nextBlock : Fld Z h0 o1 s_0 "nextBlock" "[I" (.ref o2)) (gn_o3 : Z.heap.size ≤ o3) (lt_o3 : o3 < h0.size) (F_o1_previousBlock : Fld Z h0 o1 s_0 s_5 "[I" (.ref o3)) (gn_o4 : Z.heap.size ≤ o4) (lt_o4 : o4 < h0.size) (F_o1_firstPiece : Fld Z h0 o1 s_0 "firstPiece" "[I" (.ref o4)) (gn_o5 : Z.heap.size ≤ o5) (lt_o5 : o5 < h0.size) (F_o1_lastPiece : Fld Z h0 o1 s_0 "lastPiece" "[I" (.ref o5)) (gn_o6 : Z.heap.size ≤ o6) (lt_o6 : o6 < h0.size) (F_o1_closed : Fld Z h0 o1 s_0 "closed" s_3 (.ref o6)) (F_o1_firstBlock : Fld Z h0 o1 s_0 "firstBlock" "I" (.int (0 : Int32))) (F_o1_lastBlock : Fld Z h0 o1 s_0 "lastBlock" "I" (.int (1 : Int32))) (F_o1_blockCount : Fld Z h0 o1 s_0 "blockCount" "I" (.int (2 : Int32))) (V_o2 : Arv Z h0 o2 kc_o2 .int (64 : Int32) [(.int (1 : Int32)), (.int (-1 : Int32))] (.int (0 : Int32))) (V_o3 : Arv Z h0 o3 kc_o3 .int (64 : Int32) [(.int (-1 : Int32)), (.int (0 : Int32))] (.int (0 : Int32))) (V_o4 : Arv Z h0 o4 kc_o4 .int (64 : Int32) [(.int (-1 : Int32)), (.int (-1 : Int32))] (.int (0 : Int32))) (V_o5 : Arv Z h0 o5 kc_o5 .int (64 : Int32) [(.int (-1 : Int32)), (.int (-1 : Int32))] (.int (0 : Int32))) (E_o6 : Exa Z h0 o6 s_1) (F_o6_wordsInUse : Fld Z h0 o6 s_1 "wordsInUse" "I" (.int (0 : Int32))) (F_o6_sizeIsSticky : Fld Z h0 o6 s_1 s_6 "Z" (.int (0 : Int32))) (gn_o7 : Z.heap.size ≤ o7) (lt_o7 : o7 < h0.size) (F_o6_words : Fld Z h0 o6 s_1 "words" "[J" (.ref o7)) (V_o7 : Arv Z h0 o7 kc_o7 .long (1 : Int32) [] (.long (0 : Int64))) (ne_o1_o2 : o1 ≠ o2) (ne_o1_o3 : o1 ≠ o3) (ne_o1_o4 : o1 ≠ o4) (ne_o1_o5 : o1 ≠ o5) (ne_o1_o6 : o1 ≠ o6) (ne_o1_o7 : o1 ≠ o7) (ne_o2_o3 : o2 ≠ o3) (ne_o2_o4 : o2 ≠ o4) (ne_o2_o5 : o2 ≠ o5) (ne_o2_o6 : o2 ≠ o6) (ne_o2_o7 : o2 ≠ o7) (ne_o3_o4 : o3 ≠ o4) (ne_o3_o5 : o3 ≠ o5) (ne_o3_o6 : o3 ≠ o6) (ne_o3_o7 : o3 ≠ o7) (ne_o4_o5 : o4 ≠ o5) (ne_o4_o6 : o4 ≠ o6) (ne_o4_o7 : o4 ≠ o7) (ne_o5_o6 : o5 ≠ o6) (ne_o5_o7 : o5 ≠ o7) (ne_o6_o7 : o6 ≠ o7) :
    MetW l Z (⟨s_0, "insertBlock", "(I)V"⟩ : MethodName) (Jvm.Cond.code (⟨s_0, "insertBlock", "(I)V"⟩ : MethodName) prog_20_method_4_code 5 none) ws (Rm 1 2 68 14) #[(.ref o1), (.int (1 : Int32))] h0 (Qd_13 Z w kk iw vw o1 o2 o3 o4 o5 o6 kc_o2 kc_o3 kc_o4 kc_o5 o7 kc_o7 h0 Z.heap.size) := by
  have hN' := hN
  have hL0 : Sta Z Z.heap s_1 s_4 "Z" (.int (1 : Int32)) := hN'
  refine own_bodyW (plainFor_of_name pn_1) hisR ?_
  intro p e s m below meth c s₁ hx hby hml hown hnm hret X0 hZ e0
  have N0 := Fr.nil Z.heap.size
  have K0 : Keep h0 h0 [o5, o4, o3, o2, o1] := Keep.refl _ _
  obtain ⟨b1, T1, h1, k1, X1, e1, E1, hS1, hk1, hZ1, hown1, st1⟩ := ldcS (s := s) (vm0 := s.vm) X0 hx hZ hown (W hw 75 rfl) (own_atoms hw) e0 (own_since s 0) (Nat.zero_le _) (g := (mkF m 2 #[.val (.ref o1), .val (.int (1 : Int32)), .unset, .unset, .unset] [(.int (1 : Int32)), (.ref o1)])) rfl (hb hby d13_2) (n := 64) (by decide) (by decide) (by decide) (by decide)
  have E_o1_v1 := E_o1.ext E1
  have F_o1_nextBlock_v1 := F_o1_nextBlock.ext E1
  have F_o1_previousBlock_v1 := F_o1_previousBlock.ext E1
  have F_o1_firstPiece_v1 := F_o1_firstPiece.ext E1
  have F_o1_lastPiece_v1 := F_o1_lastPiece.ext E1
  have F_o1_closed_v1 := F_o1_closed.ext E1
  have F_o1_firstBlock_v1 := F_o1_firstBlock.ext E1
  have F_o1_lastBlock_v1 := F_o1_lastBlock.ext E1
  have F_o1_blockCount_v1 := F_o1_blockCount.ext E1
  have V_o2_v1 := V_o2.ext E1
  have V_o3_v1 := V_o3.ext E1
  have V_o4_v1 := V_o4.ext E1
  have V_o5_v1 := V_o5.ext E1
  have E_o6_v1 := E_o6.ext E1
  have F_o6_wordsInUse_v1 := F_o6_wordsInUse.ext E1
  have F_o6_sizeIsSticky_v1 := F_o6_sizeIsSticky.ext E1
  have F_o6_words_v1 := F_o6_words.ext E1
  have V_o7_v1 := V_o7.ext E1
  have O1 := O0.ext E1
  have K1 := K0.ext E1
  obtain ⟨cq2, q2, q2'⟩ := E_o1_v1.cell
  obtain ⟨_, _, ⟨T2, L2, k2, n2⟩, -, X2, ⟨Lc2, hQ2, l2, y2, z2⟩, st2⟩ := X1.privateBack hx (y := (⟨s_0, "find", s_7⟩ : MethodName)) hown1 (mvT hZ1 (W hw 83 rfl)) (mvT hZ1 (W hw 84 rfl)) (own_selpriv (mvT hZ1 (W hw 1 rfl)) (Cond.privateMethod_at (mvP hZ1 (W hw 85 rfl) (args := #[]))) (mvT hZ1 (W hw 84 rfl)) (by decide)) (Cond.privateMethod_at (mvP hZ1 (W hw 85 rfl) (args := #[]))) (mvT hZ1 (W hw 86 rfl)) (by decide) (backOf (W := 0) (rm_48 l Z a0 hw w kk iw vw hN [] o1 b1 o2 o3 o4 o5 o6 kc_o2 kc_o3 kc_o4 kc_o5 o7 kc_o7 h1 O1 gn_o1 E_o1_v1.lt E_o1_v1 gn_o2 V_o2_v1.lt F_o1_nextBlock_v1 gn_o3 V_o3_v1.lt F_o1_previousBlock_v1 gn_o4 V_o4_v1.lt F_o1_firstPiece_v1 gn_o5 V_o5_v1.lt F_o1_lastPiece_v1 gn_o6 E_o6_v1.lt F_o1_closed_v1 F_o1_firstBlock_v1 F_o1_lastBlock_v1 F_o1_blockCount_v1 V_o2_v1 V_o3_v1 V_o4_v1 V_o5_v1 E_o6_v1 F_o6_wordsInUse_v1 F_o6_sizeIsSticky_v1 gn_o7 V_o7_v1.lt F_o6_words_v1 V_o7_v1 ne_o1_o2 ne_o1_o3 ne_o1_o4 ne_o1_o5 ne_o1_o6 ne_o1_o7 ne_o2_o3 ne_o2_o4 ne_o2_o5 ne_o2_o6 ne_o2_o7 ne_o3_o4 ne_o3_o5 ne_o3_o6 ne_o3_o7 ne_o4_o5 ne_o4_o6 ne_o4_o7 ne_o5_o6 ne_o5_o7 ne_o6_o7) hZ1 (W hw 86 rfl) (W hw 2 rfl) (by decide) (by decide)) (g := (mkF m 4 #[.val (.ref o1), .val (.int (1 : Int32)), .unset, .unset, .unset] [(.ref b1), (.int (1 : Int32)), (.ref o1)])) rfl (by rw [hml]; rfl) (Steps.refl _) (a := o1) (by rw [e1]; exact q2) q2' (argsL := [(.int (1 : Int32)), (.ref b1)]) (rest := []) (lenOf pd_5 rfl) rfl (by show 2 * 0 + _ ≤ _; exact Nat.le_of_eq rfl) (hb hby d13_4) (fun _ _ => ⟨rfl, e1, (by decide : 2 + 0 ≤ _), (by decide : 68 + 0 ≤ _)⟩)
  dsimp only [Pt.U, Pt.locs, Pt.cells, Pt.slots] at X2 l2 y2 z2 st2 hQ2
  subst l2 y2 z2
  obtain ⟨rfl, N2q, e2⟩ := hQ2
  have N2 := Fr.app N0 N2q
  obtain ⟨cq3, q3, q3'⟩ := E_o1_v1.cell
  obtain ⟨_, _, ⟨T3, L3, k3, n3⟩, -, X3, ⟨Lc3, hQ3, l3, y3, z3⟩, st3⟩ := X2.privateBack hx (y := (⟨s_0, "newBlock", "()I"⟩ : MethodName)) hown1 (mvT hZ1 (W hw 64 rfl)) (mvT hZ1 (W hw 65 rfl)) (own_selpriv (mvT hZ1 (W hw 1 rfl)) (Cond.privateMethod_at (mvP hZ1 (W hw 66 rfl) (args := #[]))) (mvT hZ1 (W hw 65 rfl)) (by decide)) (Cond.privateMethod_at (mvP hZ1 (W hw 66 rfl) (args := #[]))) (mvT hZ1 (W hw 67 rfl)) (by decide) (backOf (W := 0) (rm_40 l Z a0 hw w kk iw vw hN [] o1 o2 o3 o4 o5 o6 kc_o2 kc_o3 kc_o4 kc_o5 o7 kc_o7 h1 O1 gn_o1 E_o1_v1.lt E_o1_v1 gn_o2 V_o2_v1.lt F_o1_nextBlock_v1 gn_o3 V_o3_v1.lt F_o1_previousBlock_v1 gn_o4 V_o4_v1.lt F_o1_firstPiece_v1 gn_o5 V_o5_v1.lt F_o1_lastPiece_v1 gn_o6 E_o6_v1.lt F_o1_closed_v1 F_o1_firstBlock_v1 F_o1_lastBlock_v1 F_o1_blockCount_v1 V_o2_v1 V_o3_v1 V_o4_v1 V_o5_v1 E_o6_v1 F_o6_wordsInUse_v1 F_o6_sizeIsSticky_v1 gn_o7 V_o7_v1.lt F_o6_words_v1 V_o7_v1 ne_o1_o2 ne_o1_o3 ne_o1_o4 ne_o1_o5 ne_o1_o6 ne_o1_o7 ne_o2_o3 ne_o2_o4 ne_o2_o5 ne_o2_o6 ne_o2_o7 ne_o3_o4 ne_o3_o5 ne_o3_o6 ne_o3_o7 ne_o4_o5 ne_o4_o6 ne_o4_o7 ne_o5_o6 ne_o5_o7 ne_o6_o7) hZ1 (W hw 67 rfl) (W hw 2 rfl) (by decide) (by decide)) (g := (mkF m 9 #[.val (.ref o1), .val (.int (1 : Int32)), .val (.int (1 : Int32)), .unset, .unset] [(.ref o1)])) rfl (by rw [hml]; rfl) (Steps.refl _) (a := o1) (by rw [e2]; exact q3) q3' (argsL := []) (rest := []) (lenOf pd_4 rfl) rfl (by show 2 * 0 + _ ≤ _; exact Nat.le_of_eq rfl) (hb hby d13_9) (fun _ _ => ⟨rfl, e2, (by decide : 2 + 0 ≤ _), (by decide : 68 + 0 ≤ _)⟩)
  dsimp only [Pt.U, Pt.locs, Pt.cells, Pt.slots] at X3 l3 y3 z3 st3 hQ3
  subst l3 y3 z3
  obtain ⟨rfl, N3q, Kq3, tk3_0, tk3_1, tk3_2, tk3_3, tk3_4, tk3_5, tk3_6, tk3_7, tk3_8, tk3_9, tk3_10, tk3_11, tk3_12⟩ := hQ3
  have N3 := Fr.app N2 N3q
  have E_o1_v3 := E_o1_v1.keep Kq3
  have E_o6_v3 := E_o6_v1.keep Kq3
  have F_o6_wordsInUse_v3 := F_o6_wordsInUse_v1.keep Kq3 (ninS (Ne.symm ne_o1_o6) (ninS (Ne.symm ne_o2_o6) (ninS (Ne.symm ne_o3_o6) (ninS (Ne.symm ne_o4_o6) (ninS (Ne.symm ne_o5_o6) nin0)))))
  have F_o6_sizeIsSticky_v3 := F_o6_sizeIsSticky_v1.keep Kq3 (ninS (Ne.symm ne_o1_o6) (ninS (Ne.symm ne_o2_o6) (ninS (Ne.symm ne_o3_o6) (ninS (Ne.symm ne_o4_o6) (ninS (Ne.symm ne_o5_o6) nin0)))))
  have F_o6_words_v3 := F_o6_words_v1.keep Kq3 (ninS (Ne.symm ne_o1_o6) (ninS (Ne.symm ne_o2_o6) (ninS (Ne.symm ne_o3_o6) (ninS (Ne.symm ne_o4_o6) (ninS (Ne.symm ne_o5_o6) nin0)))))
  have V_o7_v3 := V_o7_v1.keep Kq3 (ninS (Ne.symm ne_o1_o7) (ninS (Ne.symm ne_o2_o7) (ninS (Ne.symm ne_o3_o7) (ninS (Ne.symm ne_o4_o7) (ninS (Ne.symm ne_o5_o7) nin0)))))
  have hk3 := Nat.le_trans hk1 Kq3.1
  have O3 := O1.keep Kq3 (allS gn_o1 (allS gn_o2 (allS gn_o3 (allS gn_o4 (allS gn_o5 all0)))))
  have K3 : Keep h0 T3.heap [o5, o4, o3, o2, o1] := K1.trans Kq3 (allS (Or.inl (List.mem_of_getElem? (i := 4) rfl)) (allS (Or.inl (List.mem_of_getElem? (i := 3) rfl)) (allS (Or.inl (List.mem_of_getElem? (i := 2) rfl)) (allS (Or.inl (List.mem_of_getElem? (i := 1) rfl)) (allS (Or.inl (List.mem_of_getElem? (i := 0) rfl)) all0)))))
  obtain ⟨T4, X4, e4, st4⟩ := getF X3 hx hZ1 hown1 (host := "") (Or.inl (W hw 12 rfl)) Via.refl rfl tk3_2 (g := (mkF m 14 #[.val (.ref o1), .val (.int (1 : Int32)), .val (.int (1 : Int32)), .val (.int (2 : Int32)), .unset] [(.ref o1)])) rfl rfl (hb hby d13_14)
  obtain ⟨cl5, Ar5, q5, Sz5, Ng5, Hv5, Gv5⟩ := id tk3_10
  have hin5 : ¬ ((1 : Int32) < 0 ∨ cl5.slots.size ≤ ((1 : Int32)).toNatClampNeg) := inb_of Sz5 ⟨by decide, by decide⟩
  have hat5 : cl5.slots[((1 : Int32)).toNatClampNeg]? = some (.int (0 : Int32)) := Has.at Hv5 hin5 (by rfl)
  obtain ⟨T6, X6, e6, st6⟩ := getF X4 hx hZ1 hown1 (host := "") (Or.inl (W hw 10 rfl)) Via.refl e4 tk3_1 (g := (mkF m 22 #[.val (.ref o1), .val (.int (1 : Int32)), .val (.int (1 : Int32)), .val (.int (2 : Int32)), .val (.int (0 : Int32))] [(.ref o1)])) rfl rfl (hb hby d13_22)
  obtain ⟨cl7, Ar7, q7, Sz7, Ng7, Hv7, Gv7⟩ := tk3_9
  have hin7 : ¬ ((2 : Int32) < 0 ∨ cl7.slots.size ≤ ((2 : Int32)).toNatClampNeg) := inb_of Sz7 ⟨by decide, by decide⟩
  obtain ⟨T8, h8, X8, e8, W8, st8⟩ := stI X6 hx hZ1 e6 Ar7 (j := (2 : Int32)) hin7 (g := (mkF m 27 #[.val (.ref o1), .val (.int (1 : Int32)), .val (.int (1 : Int32)), .val (.int (2 : Int32)), .val (.int (0 : Int32))] [(.int (1 : Int32)), (.int (2 : Int32)), (.ref o2)])) rfl rfl (hb hby d13_27)
  have V_o2_v8 : Arv Z h8 o2 kc_o2 .int (64 : Int32) [(.int (1 : Int32)), (.int (-1 : Int32)), (.int (1 : Int32))] (.int (0 : Int32)) := Arv.set Ar7 q7 Sz7 Ng7 Hv7 Gv7 rfl W8 2 rfl (Nat.le_of_ble_eq_true rfl)
  have N8 := Fr.snoc X8 N3 gn_o2
  have tk3_0_v8 := tk3_0.wr W8
  have E_o6_v8 := E_o6_v3.wr W8
  have F_o6_wordsInUse_v8 := F_o6_wordsInUse_v3.other W8 (Or.inl (Ne.symm ne_o2_o6))
  have F_o6_sizeIsSticky_v8 := F_o6_sizeIsSticky_v3.other W8 (Or.inl (Ne.symm ne_o2_o6))
  have F_o6_words_v8 := F_o6_words_v3.other W8 (Or.inl (Ne.symm ne_o2_o6))
  have V_o7_v8 := V_o7_v3.other W8 (Ne.symm ne_o2_o7)
  have tk3_1_v8 := tk3_1.other W8 (Or.inl ne_o1_o2)
  have tk3_2_v8 := tk3_2.other W8 (Or.inl ne_o1_o2)
  have tk3_3_v8 := tk3_3.other W8 (Or.inl ne_o1_o2)
  have tk3_4_v8 := tk3_4.other W8 (Or.inl ne_o1_o2)
  have tk3_5_v8 := tk3_5.other W8 (Or.inl ne_o1_o2)
  have tk3_6_v8 := tk3_6.other W8 (Or.inl ne_o1_o2)
  have tk3_7_v8 := tk3_7.other W8 (Or.inl ne_o1_o2)
  have tk3_8_v8 := tk3_8.other W8 (Or.inl ne_o1_o2)
  have tk3_10_v8 := tk3_10.other W8 (Ne.symm ne_o2_o3)
  have tk3_11_v8 := tk3_11.other W8 (Ne.symm ne_o2_o4)
  have tk3_12_v8 := tk3_12.other W8 (Ne.symm ne_o2_o5)
  have O8 := O3.wr W8 gn_o2
  have K8 : Keep h0 h8 [o5, o4, o3, o2, o1] := K3.wr W8 (Or.inl (List.mem_of_getElem? (i := 3) rfl))
  have hk8 := Nat.le_trans hk3 (Keep.of_wr W8).1
  obtain ⟨T9, X9, e9, st9⟩ := getF X8 hx hZ1 hown1 (host := "") (Or.inl (W hw 12 rfl)) Via.refl e8 tk3_2_v8 (g := (mkF m 29 #[.val (.ref o1), .val (.int (1 : Int32)), .val (.int (1 : Int32)), .val (.int (2 : Int32)), .val (.int (0 : Int32))] [(.ref o1)])) rfl rfl (hb hby d13_29)
  obtain ⟨cl10, Ar10, q10, Sz10, Ng10, Hv10, Gv10⟩ := tk3_10_v8
  have hin10 : ¬ ((2 : Int32) < 0 ∨ cl10.slots.size ≤ ((2 : Int32)).toNatClampNeg) := inb_of Sz10 ⟨by decide, by decide⟩
  obtain ⟨T11, h11, X11, e11, W11, st11⟩ := stI X9 hx hZ1 e9 Ar10 (j := (2 : Int32)) hin10 (g := (mkF m 35 #[.val (.ref o1), .val (.int (1 : Int32)), .val (.int (1 : Int32)), .val (.int (2 : Int32)), .val (.int (0 : Int32))] [(.int (0 : Int32)), (.int (2 : Int32)), (.ref o3)])) rfl rfl (hb hby d13_35)
  have V_o3_v11 : Arv Z h11 o3 kc_o3 .int (64 : Int32) [(.int (-1 : Int32)), (.int (0 : Int32)), (.int (0 : Int32))] (.int (0 : Int32)) := Arv.set Ar10 q10 Sz10 Ng10 Hv10 Gv10 rfl W11 2 rfl (Nat.le_of_ble_eq_true rfl)
  have N11 := Fr.snoc X11 N8 gn_o3
  have tk3_0_v11 := tk3_0_v8.wr W11
  have E_o6_v11 := E_o6_v8.wr W11
  have F_o6_wordsInUse_v11 := F_o6_wordsInUse_v8.other W11 (Or.inl (Ne.symm ne_o3_o6))
  have F_o6_sizeIsSticky_v11 := F_o6_sizeIsSticky_v8.other W11 (Or.inl (Ne.symm ne_o3_o6))
  have F_o6_words_v11 := F_o6_words_v8.other W11 (Or.inl (Ne.symm ne_o3_o6))
  have V_o7_v11 := V_o7_v8.other W11 (Ne.symm ne_o3_o7)
  have tk3_1_v11 := tk3_1_v8.other W11 (Or.inl ne_o1_o3)
  have tk3_2_v11 := tk3_2_v8.other W11 (Or.inl ne_o1_o3)
  have tk3_3_v11 := tk3_3_v8.other W11 (Or.inl ne_o1_o3)
  have tk3_4_v11 := tk3_4_v8.other W11 (Or.inl ne_o1_o3)
  have tk3_5_v11 := tk3_5_v8.other W11 (Or.inl ne_o1_o3)
  have tk3_6_v11 := tk3_6_v8.other W11 (Or.inl ne_o1_o3)
  have tk3_7_v11 := tk3_7_v8.other W11 (Or.inl ne_o1_o3)
  have tk3_8_v11 := tk3_8_v8.other W11 (Or.inl ne_o1_o3)
  have V_o2_v11 := V_o2_v8.other W11 ne_o2_o3
  have tk3_11_v11 := tk3_11_v8.other W11 (Ne.symm ne_o3_o4)
  have tk3_12_v11 := tk3_12_v8.other W11 (Ne.symm ne_o3_o5)
  have O11 := O8.wr W11 gn_o3
  have K11 : Keep h0 h11 [o5, o4, o3, o2, o1] := K8.wr W11 (Or.inl (List.mem_of_getElem? (i := 2) rfl))
  have hk11 := Nat.le_trans hk8 (Keep.of_wr W11).1
  obtain ⟨T12, X12, e12, st12⟩ := getF X11 hx hZ1 hown1 (host := "") (Or.inl (W hw 10 rfl)) Via.refl e11 tk3_1_v11 (g := (mkF m 51 #[.val (.ref o1), .val (.int (1 : Int32)), .val (.int (1 : Int32)), .val (.int (2 : Int32)), .val (.int (0 : Int32))] [(.ref o1)])) rfl rfl (hb hby d13_51)
  obtain ⟨cl13, Ar13, q13, Sz13, Ng13, Hv13, Gv13⟩ := V_o2_v11
  have hin13 : ¬ ((0 : Int32) < 0 ∨ cl13.slots.size ≤ ((0 : Int32)).toNatClampNeg) := inb_of Sz13 ⟨by decide, by decide⟩
  obtain ⟨T14, h14, X14, e14, W14, st14⟩ := stI X12 hx hZ1 e12 Ar13 (j := (0 : Int32)) hin13 (g := (mkF m 57 #[.val (.ref o1), .val (.int (1 : Int32)), .val (.int (1 : Int32)), .val (.int (2 : Int32)), .val (.int (0 : Int32))] [(.int (2 : Int32)), (.int (0 : Int32)), (.ref o2)])) rfl rfl (hb hby d13_57)
  have V_o2_v14 : Arv Z h14 o2 kc_o2 .int (64 : Int32) [(.int (2 : Int32)), (.int (-1 : Int32)), (.int (1 : Int32))] (.int (0 : Int32)) := Arv.set Ar13 q13 Sz13 Ng13 Hv13 Gv13 rfl W14 0 rfl (Nat.le_of_ble_eq_true rfl)
  have N14 := Fr.snoc X14 N11 gn_o2
  have tk3_0_v14 := tk3_0_v11.wr W14
  have E_o6_v14 := E_o6_v11.wr W14
  have F_o6_wordsInUse_v14 := F_o6_wordsInUse_v11.other W14 (Or.inl (Ne.symm ne_o2_o6))
  have F_o6_sizeIsSticky_v14 := F_o6_sizeIsSticky_v11.other W14 (Or.inl (Ne.symm ne_o2_o6))
  have F_o6_words_v14 := F_o6_words_v11.other W14 (Or.inl (Ne.symm ne_o2_o6))
  have V_o7_v14 := V_o7_v11.other W14 (Ne.symm ne_o2_o7)
  have tk3_1_v14 := tk3_1_v11.other W14 (Or.inl ne_o1_o2)
  have tk3_2_v14 := tk3_2_v11.other W14 (Or.inl ne_o1_o2)
  have tk3_3_v14 := tk3_3_v11.other W14 (Or.inl ne_o1_o2)
  have tk3_4_v14 := tk3_4_v11.other W14 (Or.inl ne_o1_o2)
  have tk3_5_v14 := tk3_5_v11.other W14 (Or.inl ne_o1_o2)
  have tk3_6_v14 := tk3_6_v11.other W14 (Or.inl ne_o1_o2)
  have tk3_7_v14 := tk3_7_v11.other W14 (Or.inl ne_o1_o2)
  have tk3_8_v14 := tk3_8_v11.other W14 (Or.inl ne_o1_o2)
  have V_o3_v14 := V_o3_v11.other W14 (Ne.symm ne_o2_o3)
  have tk3_11_v14 := tk3_11_v11.other W14 (Ne.symm ne_o2_o4)
  have tk3_12_v14 := tk3_12_v11.other W14 (Ne.symm ne_o2_o5)
  have O14 := O11.wr W14 gn_o2
  have K14 : Keep h0 h14 [o5, o4, o3, o2, o1] := K11.wr W14 (Or.inl (List.mem_of_getElem? (i := 3) rfl))
  have hk14 := Nat.le_trans hk11 (Keep.of_wr W14).1
  obtain ⟨T15, X15, e15, st15⟩ := getF X14 hx hZ1 hown1 (host := "") (Or.inl (W hw 12 rfl)) Via.refl e14 tk3_2_v14 (g := (mkF m 59 #[.val (.ref o1), .val (.int (1 : Int32)), .val (.int (1 : Int32)), .val (.int (2 : Int32)), .val (.int (0 : Int32))] [(.ref o1)])) rfl rfl (hb hby d13_59)
  obtain ⟨cl16, Ar16, q16, Sz16, Ng16, Hv16, Gv16⟩ := V_o3_v14
  have hin16 : ¬ ((1 : Int32) < 0 ∨ cl16.slots.size ≤ ((1 : Int32)).toNatClampNeg) := inb_of Sz16 ⟨by decide, by decide⟩
  obtain ⟨T17, h17, X17, e17, W17, st17⟩ := stI X15 hx hZ1 e15 Ar16 (j := (1 : Int32)) hin16 (g := (mkF m 64 #[.val (.ref o1), .val (.int (1 : Int32)), .val (.int (1 : Int32)), .val (.int (2 : Int32)), .val (.int (0 : Int32))] [(.int (2 : Int32)), (.int (1 : Int32)), (.ref o3)])) rfl rfl (hb hby d13_64)
  have V_o3_v17 : Arv Z h17 o3 kc_o3 .int (64 : Int32) [(.int (-1 : Int32)), (.int (2 : Int32)), (.int (0 : Int32))] (.int (0 : Int32)) := Arv.set Ar16 q16 Sz16 Ng16 Hv16 Gv16 rfl W17 1 rfl (Nat.le_of_ble_eq_true rfl)
  have N17 := Fr.snoc X17 N14 gn_o3
  have tk3_0_v17 := tk3_0_v14.wr W17
  have E_o6_v17 := E_o6_v14.wr W17
  have F_o6_wordsInUse_v17 := F_o6_wordsInUse_v14.other W17 (Or.inl (Ne.symm ne_o3_o6))
  have F_o6_sizeIsSticky_v17 := F_o6_sizeIsSticky_v14.other W17 (Or.inl (Ne.symm ne_o3_o6))
  have F_o6_words_v17 := F_o6_words_v14.other W17 (Or.inl (Ne.symm ne_o3_o6))
  have V_o7_v17 := V_o7_v14.other W17 (Ne.symm ne_o3_o7)
  have tk3_1_v17 := tk3_1_v14.other W17 (Or.inl ne_o1_o3)
  have tk3_2_v17 := tk3_2_v14.other W17 (Or.inl ne_o1_o3)
  have tk3_3_v17 := tk3_3_v14.other W17 (Or.inl ne_o1_o3)
  have tk3_4_v17 := tk3_4_v14.other W17 (Or.inl ne_o1_o3)
  have tk3_5_v17 := tk3_5_v14.other W17 (Or.inl ne_o1_o3)
  have tk3_6_v17 := tk3_6_v14.other W17 (Or.inl ne_o1_o3)
  have tk3_7_v17 := tk3_7_v14.other W17 (Or.inl ne_o1_o3)
  have tk3_8_v17 := tk3_8_v14.other W17 (Or.inl ne_o1_o3)
  have V_o2_v17 := V_o2_v14.other W17 ne_o2_o3
  have tk3_11_v17 := tk3_11_v14.other W17 (Ne.symm ne_o3_o4)
  have tk3_12_v17 := tk3_12_v14.other W17 (Ne.symm ne_o3_o5)
  have O17 := O14.wr W17 gn_o3
  have K17 : Keep h0 h17 [o5, o4, o3, o2, o1] := K14.wr W17 (Or.inl (List.mem_of_getElem? (i := 2) rfl))
  have hk17 := Nat.le_trans hk14 (Keep.of_wr W17).1
  refine ⟨T17, _, none, _, _, _, _, by decide, by decide, X17, hS1, (by rw [e17]; exact hk17), (fun _ => rfl), (by rw [e17]; exact ⟨rfl, N17, K17, tk3_0_v17, tk3_1_v17, tk3_2_v17, tk3_3_v17, tk3_4_v17, tk3_5_v17, tk3_6_v17, tk3_7_v17, tk3_8_v17, V_o2_v17, V_o3_v17, tk3_11_v17, tk3_12_v17⟩), fun fs hr => castTop (ef_7 m (.ref o1) rfl (.int (1 : Int32)) rfl) ?_⟩
  show Steps p.tables e below (s₁.setTop (mkF m 0 #[.val (.ref o1), .val (.int (1 : Int32)), .unset, .unset, .unset] [])) _
  refine XS.aloadN X0.here hx rfl (hb hby d13_0) rfl rfl ?_
  refine XS.iloadN X0.here hx rfl (hb hby d13_1) rfl ?_
  refine st1 _ ?_
  refine st2.trans ?_
  refine XS.istoreN X2.here hx rfl (hb hby d13_7) rfl (l' := #[.val (.ref o1), .val (.int (1 : Int32)), .val (.int (1 : Int32)), .unset, .unset]) rfl ?_
  refine XS.aloadN X2.here hx rfl (hb hby d13_8) rfl rfl ?_
  refine st3.trans ?_
  refine XS.istoreN X3.here hx rfl (hb hby d13_12) rfl (l' := #[.val (.ref o1), .val (.int (1 : Int32)), .val (.int (1 : Int32)), .val (.int (2 : Int32)), .unset]) rfl ?_
  show Steps p.tables e below (T3.setTop (mkF m 13 #[.val (.ref o1), .val (.int (1 : Int32)), .val (.int (1 : Int32)), .val (.int (2 : Int32)), .unset] [])) _
  refine XS.aloadN X3.here hx rfl (hb hby d13_13) rfl rfl ?_
  refine st4 _ ?_
  refine XS.iloadN X4.here hx rfl (hb hby d13_17) rfl ?_
  refine X4.iaload hx (j := (1 : Int32)) (v := (.int (0 : Int32))) (by rw [e4]; exact Ar5.1) (State.isArrayOf_alike hZ1.alike Ar5.2.1) Ar5.2.2 hin5 hat5 (g := (mkF m 18 #[.val (.ref o1), .val (.int (1 : Int32)), .val (.int (1 : Int32)), .val (.int (2 : Int32)), .unset] [(.int (1 : Int32)), (.ref o3)])) rfl rfl (hb hby d13_18) _ ?_
  refine XS.istore X4.here hx rfl (hb hby d13_19) rfl (l' := #[.val (.ref o1), .val (.int (1 : Int32)), .val (.int (1 : Int32)), .val (.int (2 : Int32)), .val (.int (0 : Int32))]) rfl ?_
  refine XS.aloadN X4.here hx rfl (hb hby d13_21) rfl rfl ?_
  refine st6 _ ?_
  refine XS.iloadN X6.here hx rfl (hb hby d13_25) rfl ?_
  show Steps p.tables e below (T6.setTop (mkF m 26 #[.val (.ref o1), .val (.int (1 : Int32)), .val (.int (1 : Int32)), .val (.int (2 : Int32)), .val (.int (0 : Int32))] [(.int (2 : Int32)), (.ref o2)])) _
  refine XS.iloadN X6.here hx rfl (hb hby d13_26) rfl ?_
  refine st8 _ ?_
  refine XS.aloadN X8.here hx rfl (hb hby d13_28) rfl rfl ?_
  refine st9 _ ?_
  refine XS.iloadN X9.here hx rfl (hb hby d13_32) rfl ?_
  refine XS.iload X9.here hx rfl (hb hby d13_33) rfl ?_
  refine st11 _ ?_
  refine XS.iload X11.here hx rfl (hb hby d13_36) rfl ?_
  show Steps p.tables e below (T11.setTop (mkF m 38 #[.val (.ref o1), .val (.int (1 : Int32)), .val (.int (1 : Int32)), .val (.int (2 : Int32)), .val (.int (0 : Int32))] [(.int (0 : Int32))])) _
  refine XS.iconst X11.here hx rfl (hb hby d13_38) ?_
  refine XS.icmpYes X11.here hx rfl (pc0 := 39) (pc' := 50) rfl (hb hby d13_39) rfl (feq (by decide : ¬ ((0 : Int32) = (-1 : Int32)))).2 (by decide) (by decide) ?_
  refine XS.aloadN X11.here hx rfl (hb hby d13_50) rfl rfl ?_
  refine st12 _ ?_
  refine XS.iload X12.here hx rfl (hb hby d13_54) rfl ?_
  refine XS.iloadN X12.here hx rfl (hb hby d13_56) rfl ?_
  refine st14 _ ?_
  refine XS.aloadN X14.here hx rfl (hb hby d13_58) rfl rfl ?_
  show Steps p.tables e below (T14.setTop (mkF m 59 #[.val (.ref o1), .val (.int (1 : Int32)), .val (.int (1 : Int32)), .val (.int (2 : Int32)), .val (.int (0 : Int32))] [(.ref o1)])) _
  refine st15 _ ?_
  refine XS.iloadN X15.here hx rfl (hb hby d13_62) rfl ?_
  refine XS.iloadN X15.here hx rfl (hb hby d13_63) rfl ?_
  refine st17 _ ?_
  show Steps p.tables e below (T17.setTop (mkF m 65 #[.val (.ref o1), .val (.int (1 : Int32)), .val (.int (1 : Int32)), .val (.int (2 : Int32)), .val (.int (0 : Int32))] [])) _
  exact X17.returnOut hx hret (hb hby d13_65) hr
set_option maxRecDepth 65536 in
set_option maxHeartbeats 40000000 in
theorem law_50 (l : Launch) (Z : State) (a0 : Array Value) (hw : ∀ d ∈ tables_1, d.before a0 Z = true) (w : Nat → Addr) (kk : Nat → ClassId) (iw : Nat → Int32) (vw : Nat → Value) (hN : Wd Z w kk iw vw) (ws : List Jvm.Cond) (p0 : Int32) (p1 : Int32) (p2 : Int32) (p3 : Int32) (h0 : Heap) (O0 : Old Z Z.heap.size h0) (hp0 : (p0 &&& (3 : Int32)) = (2 : Int32)) (hp1 : (p1 &&& (1 : Int32)) = (1 : Int32)) (hp2 : ((p2 &&& (2147483647 : Int32)) % (2 : Int32)) = (1 : Int32)) (hp3 : (p3 &&& (1 : Int32)) = (0 : Int32)) :
    MetFree l x (head1 (Jvm.Cond.code x code maxLocals ret :: ws) room_1) (fun a U => a = #[(.int p0), (.int p1), (.int p2), (.int p3)] ∧ Z.Warmed39 U.vm ∧ U.heap = h0) (fun _ _ _ _ _ => True) (fun _ U o U' => ∃ v L, o = .returned v ∧ OL (some (.int (1 : Int32))) Z.heap.size v U'.heap L ∧ ReturnedEndW U o U' L 32 3072) := by
  have hN' := hN
  have hL0 : Sta Z Z.heap s_1 s_4 "Z" (.int (1 : Int32)) := hN'
  refine MetFree.of_bodySF (plainFor_of_name pn_2) hisR ?_
  intro p e s m args below meth c s₁ Bd hml0 hP hK
  obtain ⟨rfl, hZ, hh⟩ := hP
  have hx := Bd.exec
  have hby := Bd.bytes
  have hml : c.maxLocals = 7 := hml0
  have hown : s.vm.findClass s_2 = some m.cls := findClass_of_methodNamed Bd.named
  have hnm := (name_of_methodNamed Bd.named Bd.method).1
  have X0 : Stand p l e room_1 s m #[(.int p0), (.int p1), (.int p2), (.int p3)] below meth c s₁ [] 0 0 := Stand.of_body Bd
  have e0 : s₁.heap = h0 := by rw [← hh, Bd.state]; rfl
  have N0 := Fr.nil Z.heap.size
  obtain ⟨T1, L1, b1_0, b1_1, b1_2, b1_3, b1_4, b1_5, b1_6, kb1_0, kb1_1, kb1_2, kb1_3, kb1_4, X1, st1, N1, Kq1, tk1_0, tk1_1, tk1_2, tk1_3, tk1_4, tk1_5, tk1_6, tk1_7, tk1_8, tk1_9, tk1_10, tk1_11, tk1_12, tk1_13, tk1_14, tk1_15, tk1_16, tk1_17, tk1_18, tk1_19, tk1_20, tk1_21, tk1_22, tk1_23, tk1_24, tk1_25, tk1_26, tk1_27, tk1_28, tk1_29, tk1_30, tk1_31, tk1_32, tk1_33, tk1_34, tk1_35, tk1_36, tk1_37, tk1_38, tk1_39, tk1_40, tk1_41, tk1_42, tk1_43, tk1_44, tk1_45⟩ := sg_33 w kk iw vw hN p0 p1 p2 p3 X0 hx hZ hw hby hml hown e0 O0 N0
  have gn_b1_0 : Z.heap.size ≤ b1_0 := Nat.le_trans O0.2.1 tk1_0
  have gn_b1_1 : Z.heap.size ≤ b1_1 := Nat.le_trans O0.2.1 tk1_1
  have gn_b1_2 : Z.heap.size ≤ b1_2 := Nat.le_trans O0.2.1 tk1_2
  have gn_b1_3 : Z.heap.size ≤ b1_3 := Nat.le_trans O0.2.1 tk1_3
  have gn_b1_4 : Z.heap.size ≤ b1_4 := Nat.le_trans O0.2.1 tk1_4
  have gn_b1_5 : Z.heap.size ≤ b1_5 := Nat.le_trans O0.2.1 tk1_5
  have gn_b1_6 : Z.heap.size ≤ b1_6 := Nat.le_trans O0.2.1 tk1_6
  have O1 := O0.keep Kq1 all0
  obtain ⟨cq2, kq2, q2a, q2b, q2c⟩ := isOf hZ rfl tk1_28
  obtain ⟨_, _, ⟨T2, L2, k2, n2⟩, -, X2, hSq2, hgr2, ⟨Lc2, hQ2, l2, y2, z2⟩, st2⟩ := X1.virtualBackS hx (y := (⟨s_0, "insertBlock", "(I)V"⟩ : MethodName)) (z := (⟨s_0, "insertBlock", "(I)V"⟩ : MethodName)) hown (mvT hZ (W hw 70 rfl)) (mvT hZ (W hw 71 rfl)) (notFace_of_selects (args := #[]) (mvT hZ (W hw 73 rfl))) (mvT hZ (W hw 73 rfl)) (mvT hZ (W hw 72 rfl)) (by decide) (backOfS (W := 0) (rm_49 l Z a0 hw w kk iw vw hN [] b1_0 b1_1 b1_2 b1_3 b1_4 b1_5 kb1_0 kb1_1 kb1_2 kb1_3 b1_6 kb1_4 T1.heap O1 gn_b1_0 tk1_28.lt tk1_28 gn_b1_1 tk1_37.lt tk1_29 gn_b1_2 tk1_38.lt tk1_30 gn_b1_3 tk1_39.lt tk1_31 gn_b1_4 tk1_40.lt tk1_32 gn_b1_5 tk1_41.lt tk1_33 tk1_34 tk1_35 tk1_36 tk1_37 tk1_38 tk1_39 tk1_40 tk1_41 tk1_42 tk1_43 gn_b1_6 tk1_45.lt tk1_44 tk1_45 tk1_7 tk1_8 tk1_9 tk1_10 tk1_11 tk1_12 tk1_13 tk1_14 tk1_15 tk1_16 tk1_17 tk1_18 tk1_19 tk1_20 tk1_21 tk1_22 tk1_23 tk1_24 tk1_25 tk1_26 tk1_27) hZ (W hw 74 rfl) (W hw 2 rfl) (by decide) (by decide)) q2a q2c (g := (mkF m 122 #[.val (.int p0), .val (.int p1), .val (.int p2), .val (.int p3), .val (.int (2 : Int32)), .val (.ref b1_0), .val (.int (1 : Int32))] [(.int (1 : Int32)), (.ref b1_0)])) rfl (by rw [hml]; rfl) (Steps.refl _) (argsL := [(.int (1 : Int32))]) (rest := []) (lenOf pd_1 rfl) rfl (by show 2 * 0 + _ ≤ _; exact Nat.le_of_eq rfl) (hb hby at_122) (fun _ _ => ⟨rfl, rfl, (by decide : 10 + 2 ≤ _), (by decide : 467 + 68 ≤ _)⟩)
  dsimp only [Pt.U, Pt.locs, Pt.cells, Pt.slots] at X2 l2 y2 z2 st2 hQ2 hSq2 hgr2
  subst l2 y2 z2
  have hS2 : s.Since T2.vm T2.heap.size := hSq2
  have hk2 : T2.heap.size ≤ T2.heap.size := Nat.le_refl _
  have hZ2 : Z.Warmed39 (s.setVm T2.vm).vm := State.Warmed39.trans (t := (s.setVm s.vm)) hZ hSq2.1
  have hown2 : (s.setVm T2.vm).vm.findClass s_2 = some m.cls := by rw [show (s.setVm T2.vm).vm = T2.vm from rfl, hSq2.1.alike.findClass]; exact hown
  have X2' : Stand p l e _ (s.setVm T2.vm) m _ below meth c T2 _ _ _ := X2
  obtain ⟨rfl, N2q, Kq2, tk2_0, tk2_1, tk2_2, tk2_3, tk2_4, tk2_5, tk2_6, tk2_7, tk2_8, tk2_9, tk2_10, tk2_11, tk2_12⟩ := hQ2
  have N2 := Fr.app N1 N2q
  have tk1_28_v2 := tk1_28.keep Kq2
  have tk1_41_v2 := tk1_41.keep Kq2
  have tk1_42_v2 := tk1_42.keep Kq2 (ninS (Ne.symm tk1_25) (ninS (Ne.symm tk1_23) (ninS (Ne.symm tk1_20) (ninS (Ne.symm tk1_16) (ninS (Ne.symm tk1_11) nin0)))))
  have tk1_43_v2 := tk1_43.keep Kq2 (ninS (Ne.symm tk1_25) (ninS (Ne.symm tk1_23) (ninS (Ne.symm tk1_20) (ninS (Ne.symm tk1_16) (ninS (Ne.symm tk1_11) nin0)))))
  have tk1_44_v2 := tk1_44.keep Kq2 (ninS (Ne.symm tk1_25) (ninS (Ne.symm tk1_23) (ninS (Ne.symm tk1_20) (ninS (Ne.symm tk1_16) (ninS (Ne.symm tk1_11) nin0)))))
  have tk1_45_v2 := tk1_45.keep Kq2 (ninS (Ne.symm tk1_26) (ninS (Ne.symm tk1_24) (ninS (Ne.symm tk1_21) (ninS (Ne.symm tk1_17) (ninS (Ne.symm tk1_12) nin0)))))
  have O2 := O1.keep Kq2 (allS gn_b1_4 (allS gn_b1_3 (allS gn_b1_2 (allS gn_b1_1 (allS gn_b1_0 all0)))))
  obtain ⟨cq3, kq3, q3a, q3b, q3c⟩ := isOf hZ2 rfl tk2_0
  obtain ⟨_, _, ⟨T3, L3, k3, n3⟩, -, X3, ⟨Lc3, hQ3, l3, y3, z3⟩, st3⟩ := X2'.virtualBack hx (y := (⟨s_0, "hasBlocks", "()Z"⟩ : MethodName)) (z := (⟨s_0, "hasBlocks", "()Z"⟩ : MethodName)) hown2 (mvT hZ2 (W hw 52 rfl)) (mvT hZ2 (W hw 53 rfl)) (notFace_of_selects (args := #[]) (mvT hZ2 (W hw 55 rfl))) (mvT hZ2 (W hw 55 rfl)) (mvT hZ2 (W hw 54 rfl)) (by decide) (backOf (W := 0) (rm_42 l Z a0 hw w kk iw vw hN [] b1_0 b1_5 b1_6 kb1_4 T2.heap O2 gn_b1_0 tk2_0.lt tk2_0 gn_b1_5 tk1_41_v2.lt tk2_5 tk2_8 tk1_41_v2 tk1_42_v2 tk1_43_v2 gn_b1_6 tk1_45_v2.lt tk1_44_v2 tk1_45_v2 tk1_11 tk1_12 tk1_27) hZ2 (W hw 56 rfl) (W hw 2 rfl) (by decide) (by decide)) q3a q3c (g := (mkF m 157 #[.val (.int p0), .val (.int p1), .val (.int p2), .val (.int p3), .val (.int (2 : Int32)), .val (.ref b1_0), .val (.int (1 : Int32))] [(.ref b1_0)])) rfl (by rw [hml]; rfl) (Steps.refl _) (argsL := []) (rest := []) (lenOf pd_3 rfl) rfl (by show 2 * 0 + _ ≤ _; exact Nat.le_of_eq rfl) (hb hby at_157) (fun _ _ => ⟨rfl, rfl, (by decide : 12 + 0 ≤ _), (by decide : 535 + 0 ≤ _)⟩)
  dsimp only [Pt.U, Pt.locs, Pt.cells, Pt.slots] at X3 l3 y3 z3 st3 hQ3
  subst l3 y3 z3
  obtain ⟨rfl, N3q, e3⟩ := hQ3
  have N3 := Fr.app N2 N3q
  obtain ⟨fs, hr, hrun, hended, w1, w2, w3, w4⟩ := X3.leaveW hS2 (by rw [e3]; exact hk2) (v := some (.int (1 : Int32))) (fun h => by rw [Bd.returns] at h; cases h)
  refine ⟨_, _, castTop (ef_3 m (.int p0) rfl (.int p1) rfl (.int p2) rfl (.int p3) rfl) ?_, hrun, hended, _, _, rfl, ?_, w1, w2, w3, w4.mono (by decide) (by decide)⟩
  · show Steps p.tables e below (s₁.setTop (mkF m 0 #[.val (.int p0), .val (.int p1), .val (.int p2), .val (.int p3), .unset, .unset, .unset] [])) _
    refine XS.iloadN X0.here hx rfl (hb hby at_0) rfl ?_
    refine XS.iconst X0.here hx rfl (hb hby at_1) ?_
    refine XS.iand X0.here hx rfl (hb hby at_2) rfl ?_
    show Steps p.tables e below (s₁.setTop (mkF m 3 #[.val (.int p0), .val (.int p1), .val (.int p2), .val (.int p3), .unset, .unset, .unset] [(.int (p0 &&& (3 : Int32)))])) _
    rw [hp0]
    refine XS.istore X0.here hx rfl (hb hby at_3) rfl (l' := #[.val (.int p0), .val (.int p1), .val (.int p2), .val (.int p3), .val (.int (2 : Int32)), .unset, .unset]) rfl ?_
    show Steps p.tables e below (s₁.setTop (mkF m 5 #[.val (.int p0), .val (.int p1), .val (.int p2), .val (.int p3), .val (.int (2 : Int32)), .unset, .unset] [])) _
    refine st1 _ ?_
    refine XS.iload X1.here hx rfl (hb hby at_102) rfl ?_
    refine XS.ifNo X1.here hx rfl (hb hby at_104) rfl ((if0 _ _).trans (tlt (by decide : (0 : Int32) < (2 : Int32))).2.2.2) ?_
    refine XS.iloadN X1.here hx rfl (hb hby at_107) rfl ?_
    refine XS.iconst X1.here hx rfl (hb hby at_108) ?_
    refine XS.iand X1.here hx rfl (hb hby at_109) rfl ?_
    show Steps p.tables e below (T1.setTop (mkF m 110 #[.val (.int p0), .val (.int p1), .val (.int p2), .val (.int p3), .val (.int (2 : Int32)), .val (.ref b1_0), .val (.int (1 : Int32))] [(.int (p1 &&& (1 : Int32)))])) _
    rw [hp1]
    refine XS.ifNo X1.here hx rfl (hb hby at_110) rfl ((if0 _ _).trans (feq (by decide : ¬ ((1 : Int32) = (0 : Int32)))).1) ?_
    refine XS.aload X1.here hx rfl (hb hby at_113) rfl rfl ?_
    show Steps p.tables e below (T1.setTop (mkF m 115 #[.val (.int p0), .val (.int p1), .val (.int p2), .val (.int p3), .val (.int (2 : Int32)), .val (.ref b1_0), .val (.int (1 : Int32))] [(.ref b1_0)])) _
    refine XS.iloadN X1.here hx rfl (hb hby at_115) rfl ?_
    refine X1.ldcInt hx hown (mvT hZ (W hw 69 rfl)) (g := (mkF m 116 #[.val (.int p0), .val (.int p1), .val (.int p2), .val (.int p3), .val (.int (2 : Int32)), .val (.ref b1_0), .val (.int (1 : Int32))] [(.int p2), (.ref b1_0)])) rfl (hb hby at_116) _ ?_
    refine XS.iand X1.here hx rfl (hb hby at_118) rfl ?_
    refine XS.iload X1.here hx rfl (hb hby at_119) rfl ?_
    refine iremM X1 hx rfl (hb hby at_121) rfl (by decide : ¬ ((2 : Int32) = (0 : Int32))) ?_
    show Steps p.tables e below (T1.setTop (mkF m 122 #[.val (.int p0), .val (.int p1), .val (.int p2), .val (.int p3), .val (.int (2 : Int32)), .val (.ref b1_0), .val (.int (1 : Int32))] [(.int ((p2 &&& (2147483647 : Int32)) % (2 : Int32))), (.ref b1_0)])) _
    rw [hp2]
    refine st2.trans ?_
    refine XS.iload X2'.here hx rfl (hb hby at_125) rfl ?_
    refine XS.ifNo X2'.here hx rfl (hb hby at_127) rfl ((if0 _ _).trans (tlt (by decide : (0 : Int32) < (2 : Int32))).2.2.2) ?_
    show Steps p.tables e below (T2.setTop (mkF m 130 #[.val (.int p0), .val (.int p1), .val (.int p2), .val (.int p3), .val (.int (2 : Int32)), .val (.ref b1_0), .val (.int (1 : Int32))] [])) _
    refine XS.iloadN X2'.here hx rfl (hb hby at_130) rfl ?_
    refine XS.iconst X2'.here hx rfl (hb hby at_131) ?_
    refine XS.iand X2'.here hx rfl (hb hby at_132) rfl ?_
    show Steps p.tables e below (T2.setTop (mkF m 133 #[.val (.int p0), .val (.int p1), .val (.int p2), .val (.int p3), .val (.int (2 : Int32)), .val (.ref b1_0), .val (.int (1 : Int32))] [(.int (p3 &&& (1 : Int32)))])) _
    rw [hp3]
    refine XS.ifYes X2'.here hx rfl (pc0 := 133) (pc' := 150) rfl (hb hby at_133) rfl ((if0 _ _).trans (teq (by decide : (0 : Int32) = (0 : Int32))).1) (by decide) (by decide) ?_
    refine XS.iload X2'.here hx rfl (hb hby at_150) rfl ?_
    refine XS.ifNo X2'.here hx rfl (hb hby at_152) rfl ((if0 _ _).trans (feq (by decide : ¬ ((1 : Int32) = (0 : Int32)))).1) ?_
    refine XS.aload X2'.here hx rfl (hb hby at_155) rfl rfl ?_
    refine st3.trans ?_
    show Steps p.tables e below (T3.setTop (mkF m 160 #[.val (.int p0), .val (.int p1), .val (.int p2), .val (.int p3), .val (.int (2 : Int32)), .val (.ref b1_0), .val (.int (1 : Int32))] [(.int (1 : Int32))])) _
    refine XS.iload X3.here hx rfl (hb hby at_160) rfl ?_
    refine XS.ifNo X3.here hx rfl (hb hby at_162) rfl ((if0 _ _).trans (tlt (by decide : (0 : Int32) < (2 : Int32))).2.2.2) ?_
    refine XS.iconst X3.here hx rfl (hb hby at_165) ?_
    refine XS.goto X3.here hx rfl (pc0 := 166) (pc' := 170) rfl (hb hby at_166) (by decide) (by decide) ?_
    refine XS.icmpNo X3.here hx rfl (hb hby at_170) rfl (teq (by decide : (1 : Int32) = (1 : Int32))).2 ?_
    refine XS.iconst X3.here hx rfl (hb hby at_173) ?_
    refine XS.goto X3.here hx rfl (pc0 := 174) (pc' := 178) rfl (hb hby at_174) (by decide) (by decide) ?_
    refine XS.istore X3.here hx rfl (hb hby at_178) rfl (l' := #[.val (.int p0), .val (.int p1), .val (.int p2), .val (.int p3), .val (.int (2 : Int32)), .val (.ref b1_0), .val (.int (1 : Int32))]) rfl ?_
    show Steps p.tables e below (T3.setTop (mkF m 180 #[.val (.int p0), .val (.int p1), .val (.int p2), .val (.int p3), .val (.int (2 : Int32)), .val (.ref b1_0), .val (.int (1 : Int32))] [])) _
    refine XS.iload X3.here hx rfl (hb hby at_180) rfl ?_
    show Steps p.tables e below (T3.setTop (mkF m 182 #[.val (.int p0), .val (.int p1), .val (.int p2), .val (.int p3), .val (.int (2 : Int32)), .val (.ref b1_0), .val (.int (1 : Int32))] [(.int (1 : Int32))])) _
    exact retN X3 hx (t := .boolean) Bd.returns (by simp) (hb hby at_182) hr
  · show OL (some (.int (1 : Int32))) Z.heap.size _ T3.heap _
    exact ⟨rfl, N3⟩
set_option maxRecDepth 65536 in
set_option maxHeartbeats 40000000 in
theorem law_51 (l : Launch) (Z : State) (a0 : Array Value) (hw : ∀ d ∈ tables_1, d.before a0 Z = true) (w : Nat → Addr) (kk : Nat → ClassId) (iw : Nat → Int32) (vw : Nat → Value) (hN : Wd Z w kk iw vw) (ws : List Jvm.Cond) (p0 : Int32) (p1 : Int32) (p2 : Int32) (p3 : Int32) (h0 : Heap) (O0 : Old Z Z.heap.size h0) (hp0 : (p0 &&& (3 : Int32)) = (2 : Int32)) (hp1 : (p1 &&& (1 : Int32)) = (1 : Int32)) (hp2 : ((p2 &&& (2147483647 : Int32)) % (2 : Int32)) = (1 : Int32)) (hp3 : (p3 &&& (1 : Int32)) = (1 : Int32)) (hp4 : ¬ (((((p3.toUInt32 >>> ((1 : Int32) &&& 31).toUInt32).toInt32) &&& (2147483647 : Int32)) % (2 : Int32)) < (0 : Int32))) (hp5 : ((((p3.toUInt32 >>> ((1 : Int32) &&& 31).toUInt32).toInt32) &&& (2147483647 : Int32)) % (2 : Int32)) < (3 : Int32)) (hp6 : (((((p3.toUInt32 >>> ((1 : Int32) &&& 31).toUInt32).toInt32) &&& (2147483647 : Int32)) % (2 : Int32)) >>> ((6 : Int32) &&& 31)) = (0 : Int32)) :
    MetFree l x (head1 (Jvm.Cond.code x code maxLocals ret :: ws) room_1) (fun a U => a = #[(.int p0), (.int p1), (.int p2), (.int p3)] ∧ Z.Warmed39 U.vm ∧ U.heap = h0) (fun _ _ _ _ _ => True) (fun _ U o U' => ∃ v L, o = .returned v ∧ OL (some (.int (1 : Int32))) Z.heap.size v U'.heap L ∧ ReturnedEndW U o U' L 32 3072) := by
  have hN' := hN
  have hL0 : Sta Z Z.heap s_1 s_4 "Z" (.int (1 : Int32)) := hN'
  refine MetFree.of_bodySF (plainFor_of_name pn_2) hisR ?_
  intro p e s m args below meth c s₁ Bd hml0 hP hK
  obtain ⟨rfl, hZ, hh⟩ := hP
  have hx := Bd.exec
  have hby := Bd.bytes
  have hml : c.maxLocals = 7 := hml0
  have hown : s.vm.findClass s_2 = some m.cls := findClass_of_methodNamed Bd.named
  have hnm := (name_of_methodNamed Bd.named Bd.method).1
  have X0 : Stand p l e room_1 s m #[(.int p0), (.int p1), (.int p2), (.int p3)] below meth c s₁ [] 0 0 := Stand.of_body Bd
  have e0 : s₁.heap = h0 := by rw [← hh, Bd.state]; rfl
  have N0 := Fr.nil Z.heap.size
  obtain ⟨T1, L1, b1_0, b1_1, b1_2, b1_3, b1_4, b1_5, b1_6, kb1_0, kb1_1, kb1_2, kb1_3, kb1_4, X1, st1, N1, Kq1, tk1_0, tk1_1, tk1_2, tk1_3, tk1_4, tk1_5, tk1_6, tk1_7, tk1_8, tk1_9, tk1_10, tk1_11, tk1_12, tk1_13, tk1_14, tk1_15, tk1_16, tk1_17, tk1_18, tk1_19, tk1_20, tk1_21, tk1_22, tk1_23, tk1_24, tk1_25, tk1_26, tk1_27, tk1_28, tk1_29, tk1_30, tk1_31, tk1_32, tk1_33, tk1_34, tk1_35, tk1_36, tk1_37, tk1_38, tk1_39, tk1_40, tk1_41, tk1_42, tk1_43, tk1_44, tk1_45⟩ := sg_33 w kk iw vw hN p0 p1 p2 p3 X0 hx hZ hw hby hml hown e0 O0 N0
  have gn_b1_0 : Z.heap.size ≤ b1_0 := Nat.le_trans O0.2.1 tk1_0
  have gn_b1_1 : Z.heap.size ≤ b1_1 := Nat.le_trans O0.2.1 tk1_1
  have gn_b1_2 : Z.heap.size ≤ b1_2 := Nat.le_trans O0.2.1 tk1_2
  have gn_b1_3 : Z.heap.size ≤ b1_3 := Nat.le_trans O0.2.1 tk1_3
  have gn_b1_4 : Z.heap.size ≤ b1_4 := Nat.le_trans O0.2.1 tk1_4
  have gn_b1_5 : Z.heap.size ≤ b1_5 := Nat.le_trans O0.2.1 tk1_5
  have gn_b1_6 : Z.heap.size ≤ b1_6 := Nat.le_trans O0.2.1 tk1_6
  have O1 := O0.keep Kq1 all0
  obtain ⟨cq2, kq2, q2a, q2b, q2c⟩ := isOf hZ rfl tk1_28
  obtain ⟨_, _, ⟨T2, L2, k2, n2⟩, -, X2, hSq2, hgr2, ⟨Lc2, hQ2, l2, y2, z2⟩, st2⟩ := X1.virtualBackS hx (y := (⟨s_0, "insertBlock", "(I)V"⟩ : MethodName)) (z := (⟨s_0, "insertBlock", "(I)V"⟩ : MethodName)) hown (mvT hZ (W hw 70 rfl)) (mvT hZ (W hw 71 rfl)) (notFace_of_selects (args := #[]) (mvT hZ (W hw 73 rfl))) (mvT hZ (W hw 73 rfl)) (mvT hZ (W hw 72 rfl)) (by decide) (backOfS (W := 0) (rm_49 l Z a0 hw w kk iw vw hN [] b1_0 b1_1 b1_2 b1_3 b1_4 b1_5 kb1_0 kb1_1 kb1_2 kb1_3 b1_6 kb1_4 T1.heap O1 gn_b1_0 tk1_28.lt tk1_28 gn_b1_1 tk1_37.lt tk1_29 gn_b1_2 tk1_38.lt tk1_30 gn_b1_3 tk1_39.lt tk1_31 gn_b1_4 tk1_40.lt tk1_32 gn_b1_5 tk1_41.lt tk1_33 tk1_34 tk1_35 tk1_36 tk1_37 tk1_38 tk1_39 tk1_40 tk1_41 tk1_42 tk1_43 gn_b1_6 tk1_45.lt tk1_44 tk1_45 tk1_7 tk1_8 tk1_9 tk1_10 tk1_11 tk1_12 tk1_13 tk1_14 tk1_15 tk1_16 tk1_17 tk1_18 tk1_19 tk1_20 tk1_21 tk1_22 tk1_23 tk1_24 tk1_25 tk1_26 tk1_27) hZ (W hw 74 rfl) (W hw 2 rfl) (by decide) (by decide)) q2a q2c (g := (mkF m 122 #[.val (.int p0), .val (.int p1), .val (.int p2), .val (.int p3), .val (.int (2 : Int32)), .val (.ref b1_0), .val (.int (1 : Int32))] [(.int (1 : Int32)), (.ref b1_0)])) rfl (by rw [hml]; rfl) (Steps.refl _) (argsL := [(.int (1 : Int32))]) (rest := []) (lenOf pd_1 rfl) rfl (by show 2 * 0 + _ ≤ _; exact Nat.le_of_eq rfl) (hb hby at_122) (fun _ _ => ⟨rfl, rfl, (by decide : 10 + 2 ≤ _), (by decide : 467 + 68 ≤ _)⟩)
  dsimp only [Pt.U, Pt.locs, Pt.cells, Pt.slots] at X2 l2 y2 z2 st2 hQ2 hSq2 hgr2
  subst l2 y2 z2
  have hS2 : s.Since T2.vm T2.heap.size := hSq2
  have hk2 : T2.heap.size ≤ T2.heap.size := Nat.le_refl _
  have hZ2 : Z.Warmed39 (s.setVm T2.vm).vm := State.Warmed39.trans (t := (s.setVm s.vm)) hZ hSq2.1
  have hown2 : (s.setVm T2.vm).vm.findClass s_2 = some m.cls := by rw [show (s.setVm T2.vm).vm = T2.vm from rfl, hSq2.1.alike.findClass]; exact hown
  have X2' : Stand p l e _ (s.setVm T2.vm) m _ below meth c T2 _ _ _ := X2
  obtain ⟨rfl, N2q, Kq2, tk2_0, tk2_1, tk2_2, tk2_3, tk2_4, tk2_5, tk2_6, tk2_7, tk2_8, tk2_9, tk2_10, tk2_11, tk2_12⟩ := hQ2
  have N2 := Fr.app N1 N2q
  have tk1_28_v2 := tk1_28.keep Kq2
  have tk1_41_v2 := tk1_41.keep Kq2
  have tk1_42_v2 := tk1_42.keep Kq2 (ninS (Ne.symm tk1_25) (ninS (Ne.symm tk1_23) (ninS (Ne.symm tk1_20) (ninS (Ne.symm tk1_16) (ninS (Ne.symm tk1_11) nin0)))))
  have tk1_43_v2 := tk1_43.keep Kq2 (ninS (Ne.symm tk1_25) (ninS (Ne.symm tk1_23) (ninS (Ne.symm tk1_20) (ninS (Ne.symm tk1_16) (ninS (Ne.symm tk1_11) nin0)))))
  have tk1_44_v2 := tk1_44.keep Kq2 (ninS (Ne.symm tk1_25) (ninS (Ne.symm tk1_23) (ninS (Ne.symm tk1_20) (ninS (Ne.symm tk1_16) (ninS (Ne.symm tk1_11) nin0)))))
  have tk1_45_v2 := tk1_45.keep Kq2 (ninS (Ne.symm tk1_26) (ninS (Ne.symm tk1_24) (ninS (Ne.symm tk1_21) (ninS (Ne.symm tk1_17) (ninS (Ne.symm tk1_12) nin0)))))
  have O2 := O1.keep Kq2 (allS gn_b1_4 (allS gn_b1_3 (allS gn_b1_2 (allS gn_b1_1 (allS gn_b1_0 all0)))))
  obtain ⟨cq3, kq3, q3a, q3b, q3c⟩ := isOf hZ2 rfl tk2_0
  obtain ⟨_, _, ⟨T3, L3, k3, n3⟩, -, X3, hSq3, hgr3, ⟨Lc3, hQ3, l3, y3, z3⟩, st3⟩ := X2'.virtualBackS hx (y := (⟨s_0, "closeBlock", "(I)V"⟩ : MethodName)) (z := (⟨s_0, "closeBlock", "(I)V"⟩ : MethodName)) hown2 (mvT hZ2 (W hw 87 rfl)) (mvT hZ2 (W hw 88 rfl)) (notFace_of_selects (args := #[]) (mvT hZ2 (W hw 90 rfl))) (mvT hZ2 (W hw 90 rfl)) (mvT hZ2 (W hw 89 rfl)) (by decide) (backOfS (W := 0) (rm_45 l Z a0 hw w kk iw vw hN [] b1_0 ((((p3.toUInt32 >>> ((1 : Int32) &&& 31).toUInt32).toInt32) &&& (2147483647 : Int32)) % (2 : Int32)) b1_5 b1_6 kb1_4 T2.heap O2 gn_b1_0 tk2_0.lt tk2_0 gn_b1_5 tk1_41_v2.lt tk2_5 tk2_8 tk1_41_v2 tk1_42_v2 tk1_43_v2 gn_b1_6 tk1_45_v2.lt tk1_44_v2 tk1_45_v2 tk1_11 tk1_12 tk1_27 hp4 hp5 hp6) hZ2 (W hw 91 rfl) (W hw 2 rfl) (by decide) (by decide)) q3a q3c (g := (mkF m 147 #[.val (.int p0), .val (.int p1), .val (.int p2), .val (.int p3), .val (.int (2 : Int32)), .val (.ref b1_0), .val (.int (1 : Int32))] [(.int ((((p3.toUInt32 >>> ((1 : Int32) &&& 31).toUInt32).toInt32) &&& (2147483647 : Int32)) % (2 : Int32))), (.ref b1_0)])) rfl (by rw [hml]; rfl) (Steps.refl _) (argsL := [(.int ((((p3.toUInt32 >>> ((1 : Int32) &&& 31).toUInt32).toInt32) &&& (2147483647 : Int32)) % (2 : Int32)))]) (rest := []) (lenOf pd_1 rfl) rfl (by show 2 * 0 + _ ≤ _; exact Nat.le_of_eq rfl) (hb hby at_147) (fun _ _ => ⟨rfl, rfl, (by decide : 12 + 2 ≤ _), (by decide : 535 + 60 ≤ _)⟩)
  dsimp only [Pt.U, Pt.locs, Pt.cells, Pt.slots] at X3 l3 y3 z3 st3 hQ3 hSq3 hgr3
  subst l3 y3 z3
  have hS3 : s.Since T3.vm T3.heap.size := foldS (T := T2) hS2 hk2 hSq3 hgr3
  have hk3 : T3.heap.size ≤ T3.heap.size := Nat.le_refl _
  have hZ3 : Z.Warmed39 (s.setVm T3.vm).vm := State.Warmed39.trans (t := (s.setVm T2.vm)) hZ2 hSq3.1
  have hown3 : (s.setVm T3.vm).vm.findClass s_2 = some m.cls := by rw [show (s.setVm T3.vm).vm = T3.vm from rfl, hSq3.1.alike.findClass]; exact hown2
  have X3' : Stand p l e _ (s.setVm T3.vm) m _ below meth c T3 _ _ _ := X3
  obtain ⟨rfl, N3q, Kq3, tk3_0, tk3_1, tk3_2, tk3_3, tk3_4⟩ := hQ3
  have N3 := Fr.app N2 N3q
  have tk2_0_v3 := tk2_0.keep Kq3
  have tk1_41_v3 := tk1_41_v2.keep Kq3
  have tk2_5_v3 := tk2_5.keep Kq3 (ninS tk1_12 (ninS tk1_11 nin0))
  have tk2_8_v3 := tk2_8.keep Kq3 (ninS tk1_12 (ninS tk1_11 nin0))
  have O3 := O2.keep Kq3 (allS gn_b1_6 (allS gn_b1_5 all0))
  obtain ⟨cq4, kq4, q4a, q4b, q4c⟩ := isOf hZ3 rfl tk2_0_v3
  obtain ⟨_, _, ⟨T4, L4, k4, n4⟩, -, X4, ⟨Lc4, hQ4, l4, y4, z4⟩, st4⟩ := X3'.virtualBack hx (y := (⟨s_0, "hasBlocks", "()Z"⟩ : MethodName)) (z := (⟨s_0, "hasBlocks", "()Z"⟩ : MethodName)) hown3 (mvT hZ3 (W hw 52 rfl)) (mvT hZ3 (W hw 53 rfl)) (notFace_of_selects (args := #[]) (mvT hZ3 (W hw 55 rfl))) (mvT hZ3 (W hw 55 rfl)) (mvT hZ3 (W hw 54 rfl)) (by decide) (backOf (W := 0) (rm_46 l Z a0 hw w kk iw vw hN [] b1_0 b1_5 b1_6 ((0 : Int64) ||| ((1 : Int64) <<< (((((p3.toUInt32 >>> ((1 : Int32) &&& 31).toUInt32).toInt32) &&& (2147483647 : Int32)) % (2 : Int32)) &&& 0x3f).toInt64)) kb1_4 T3.heap O3 gn_b1_0 tk2_0_v3.lt tk2_0_v3 gn_b1_5 tk3_0.lt tk2_5_v3 tk2_8_v3 tk3_0 tk3_1 tk3_2 gn_b1_6 tk3_4.lt tk3_3 tk3_4 tk1_11 tk1_12 tk1_27) hZ3 (W hw 56 rfl) (W hw 2 rfl) (by decide) (by decide)) q4a q4c (g := (mkF m 157 #[.val (.int p0), .val (.int p1), .val (.int p2), .val (.int p3), .val (.int (2 : Int32)), .val (.ref b1_0), .val (.int (1 : Int32))] [(.ref b1_0)])) rfl (by rw [hml]; rfl) (Steps.refl _) (argsL := []) (rest := []) (lenOf pd_3 rfl) rfl (by show 2 * 0 + _ ≤ _; exact Nat.le_of_eq rfl) (hb hby at_157) (fun _ _ => ⟨rfl, rfl, (by decide : 14 + 0 ≤ _), (by decide : 595 + 0 ≤ _)⟩)
  dsimp only [Pt.U, Pt.locs, Pt.cells, Pt.slots] at X4 l4 y4 z4 st4 hQ4
  subst l4 y4 z4
  obtain ⟨rfl, N4q, e4⟩ := hQ4
  have N4 := Fr.app N3 N4q
  obtain ⟨fs, hr, hrun, hended, w1, w2, w3, w4⟩ := X4.leaveW hS3 (by rw [e4]; exact hk3) (v := some (.int (1 : Int32))) (fun h => by rw [Bd.returns] at h; cases h)
  refine ⟨_, _, castTop (ef_3 m (.int p0) rfl (.int p1) rfl (.int p2) rfl (.int p3) rfl) ?_, hrun, hended, _, _, rfl, ?_, w1, w2, w3, w4.mono (by decide) (by decide)⟩
  · show Steps p.tables e below (s₁.setTop (mkF m 0 #[.val (.int p0), .val (.int p1), .val (.int p2), .val (.int p3), .unset, .unset, .unset] [])) _
    refine XS.iloadN X0.here hx rfl (hb hby at_0) rfl ?_
    refine XS.iconst X0.here hx rfl (hb hby at_1) ?_
    refine XS.iand X0.here hx rfl (hb hby at_2) rfl ?_
    show Steps p.tables e below (s₁.setTop (mkF m 3 #[.val (.int p0), .val (.int p1), .val (.int p2), .val (.int p3), .unset, .unset, .unset] [(.int (p0 &&& (3 : Int32)))])) _
    rw [hp0]
    refine XS.istore X0.here hx rfl (hb hby at_3) rfl (l' := #[.val (.int p0), .val (.int p1), .val (.int p2), .val (.int p3), .val (.int (2 : Int32)), .unset, .unset]) rfl ?_
    show Steps p.tables e below (s₁.setTop (mkF m 5 #[.val (.int p0), .val (.int p1), .val (.int p2), .val (.int p3), .val (.int (2 : Int32)), .unset, .unset] [])) _
    refine st1 _ ?_
    refine XS.iload X1.here hx rfl (hb hby at_102) rfl ?_
    refine XS.ifNo X1.here hx rfl (hb hby at_104) rfl ((if0 _ _).trans (tlt (by decide : (0 : Int32) < (2 : Int32))).2.2.2) ?_
    refine XS.iloadN X1.here hx rfl (hb hby at_107) rfl ?_
    refine XS.iconst X1.here hx rfl (hb hby at_108) ?_
    refine XS.iand X1.here hx rfl (hb hby at_109) rfl ?_
    show Steps p.tables e below (T1.setTop (mkF m 110 #[.val (.int p0), .val (.int p1), .val (.int p2), .val (.int p3), .val (.int (2 : Int32)), .val (.ref b1_0), .val (.int (1 : Int32))] [(.int (p1 &&& (1 : Int32)))])) _
    rw [hp1]
    refine XS.ifNo X1.here hx rfl (hb hby at_110) rfl ((if0 _ _).trans (feq (by decide : ¬ ((1 : Int32) = (0 : Int32)))).1) ?_
    refine XS.aload X1.here hx rfl (hb hby at_113) rfl rfl ?_
    show Steps p.tables e below (T1.setTop (mkF m 115 #[.val (.int p0), .val (.int p1), .val (.int p2), .val (.int p3), .val (.int (2 : Int32)), .val (.ref b1_0), .val (.int (1 : Int32))] [(.ref b1_0)])) _
    refine XS.iloadN X1.here hx rfl (hb hby at_115) rfl ?_
    refine X1.ldcInt hx hown (mvT hZ (W hw 69 rfl)) (g := (mkF m 116 #[.val (.int p0), .val (.int p1), .val (.int p2), .val (.int p3), .val (.int (2 : Int32)), .val (.ref b1_0), .val (.int (1 : Int32))] [(.int p2), (.ref b1_0)])) rfl (hb hby at_116) _ ?_
    refine XS.iand X1.here hx rfl (hb hby at_118) rfl ?_
    refine XS.iload X1.here hx rfl (hb hby at_119) rfl ?_
    refine iremM X1 hx rfl (hb hby at_121) rfl (by decide : ¬ ((2 : Int32) = (0 : Int32))) ?_
    show Steps p.tables e below (T1.setTop (mkF m 122 #[.val (.int p0), .val (.int p1), .val (.int p2), .val (.int p3), .val (.int (2 : Int32)), .val (.ref b1_0), .val (.int (1 : Int32))] [(.int ((p2 &&& (2147483647 : Int32)) % (2 : Int32))), (.ref b1_0)])) _
    rw [hp2]
    refine st2.trans ?_
    refine XS.iload X2'.here hx rfl (hb hby at_125) rfl ?_
    refine XS.ifNo X2'.here hx rfl (hb hby at_127) rfl ((if0 _ _).trans (tlt (by decide : (0 : Int32) < (2 : Int32))).2.2.2) ?_
    show Steps p.tables e below (T2.setTop (mkF m 130 #[.val (.int p0), .val (.int p1), .val (.int p2), .val (.int p3), .val (.int (2 : Int32)), .val (.ref b1_0), .val (.int (1 : Int32))] [])) _
    refine XS.iloadN X2'.here hx rfl (hb hby at_130) rfl ?_
    refine XS.iconst X2'.here hx rfl (hb hby at_131) ?_
    refine XS.iand X2'.here hx rfl (hb hby at_132) rfl ?_
    show Steps p.tables e below (T2.setTop (mkF m 133 #[.val (.int p0), .val (.int p1), .val (.int p2), .val (.int p3), .val (.int (2 : Int32)), .val (.ref b1_0), .val (.int (1 : Int32))] [(.int (p3 &&& (1 : Int32)))])) _
    rw [hp3]
    refine XS.ifNo X2'.here hx rfl (hb hby at_133) rfl ((if0 _ _).trans (feq (by decide : ¬ ((1 : Int32) = (0 : Int32)))).1) ?_
    refine XS.aload X2'.here hx rfl (hb hby at_136) rfl rfl ?_
    refine XS.iloadN X2'.here hx rfl (hb hby at_138) rfl ?_
    refine XS.iconst X2'.here hx rfl (hb hby at_139) ?_
    refine XS.iushr X2'.here hx rfl (hb hby at_140) rfl ?_
    show Steps p.tables e below (T2.setTop (mkF m 141 #[.val (.int p0), .val (.int p1), .val (.int p2), .val (.int p3), .val (.int (2 : Int32)), .val (.ref b1_0), .val (.int (1 : Int32))] [(.int ((p3.toUInt32 >>> ((1 : Int32) &&& 31).toUInt32).toInt32)), (.ref b1_0)])) _
    refine X2'.ldcInt hx hown2 (mvT hZ2 (W hw 69 rfl)) (g := (mkF m 141 #[.val (.int p0), .val (.int p1), .val (.int p2), .val (.int p3), .val (.int (2 : Int32)), .val (.ref b1_0), .val (.int (1 : Int32))] [(.int ((p3.toUInt32 >>> ((1 : Int32) &&& 31).toUInt32).toInt32)), (.ref b1_0)])) rfl (hb hby at_141) _ ?_
    refine XS.iand X2'.here hx rfl (hb hby at_143) rfl ?_
    refine XS.iload X2'.here hx rfl (hb hby at_144) rfl ?_
    refine iremM X2' hx rfl (hb hby at_146) rfl (by decide : ¬ ((2 : Int32) = (0 : Int32))) ?_
    refine st3.trans ?_
    refine XS.iload X3'.here hx rfl (hb hby at_150) rfl ?_
    refine XS.ifNo X3'.here hx rfl (hb hby at_152) rfl ((if0 _ _).trans (feq (by decide : ¬ ((1 : Int32) = (0 : Int32)))).1) ?_
    refine XS.aload X3'.here hx rfl (hb hby at_155) rfl rfl ?_
    show Steps p.tables e below (T3.setTop (mkF m 157 #[.val (.int p0), .val (.int p1), .val (.int p2), .val (.int p3), .val (.int (2 : Int32)), .val (.ref b1_0), .val (.int (1 : Int32))] [(.ref b1_0)])) _
    refine st4.trans ?_
    refine XS.iload X4.here hx rfl (hb hby at_160) rfl ?_
    refine XS.ifNo X4.here hx rfl (hb hby at_162) rfl ((if0 _ _).trans (tlt (by decide : (0 : Int32) < (2 : Int32))).2.2.2) ?_
    refine XS.iconst X4.here hx rfl (hb hby at_165) ?_
    refine XS.goto X4.here hx rfl (pc0 := 166) (pc' := 170) rfl (hb hby at_166) (by decide) (by decide) ?_
    refine XS.icmpNo X4.here hx rfl (hb hby at_170) rfl (teq (by decide : (1 : Int32) = (1 : Int32))).2 ?_
    refine XS.iconst X4.here hx rfl (hb hby at_173) ?_
    refine XS.goto X4.here hx rfl (pc0 := 174) (pc' := 178) rfl (hb hby at_174) (by decide) (by decide) ?_
    show Steps p.tables e below (T4.setTop (mkF m 178 #[.val (.int p0), .val (.int p1), .val (.int p2), .val (.int p3), .val (.int (2 : Int32)), .val (.ref b1_0), .val (.int (1 : Int32))] [(.int (1 : Int32))])) _
    refine XS.istore X4.here hx rfl (hb hby at_178) rfl (l' := #[.val (.int p0), .val (.int p1), .val (.int p2), .val (.int p3), .val (.int (2 : Int32)), .val (.ref b1_0), .val (.int (1 : Int32))]) rfl ?_
    refine XS.iload X4.here hx rfl (hb hby at_180) rfl ?_
    show Steps p.tables e below (T4.setTop (mkF m 182 #[.val (.int p0), .val (.int p1), .val (.int p2), .val (.int p3), .val (.int (2 : Int32)), .val (.ref b1_0), .val (.int (1 : Int32))] [(.int (1 : Int32))])) _
    exact retN X4 hx (t := .boolean) Bd.returns (by simp) (hb hby at_182) hr
  · show OL (some (.int (1 : Int32))) Z.heap.size _ T4.heap _
    exact ⟨rfl, N4⟩
def Qd_14 (Z : State) (w : Nat → Addr) (kk : Nat → ClassId) (iw : Nat → Int32) (vw : Nat → Value) (o1 : Addr) (o2 : Addr) (o3 : Addr) (o4 : Addr) (o5 : Addr) (o6 : Addr) (kc_o2 : ClassId) (kc_o3 : ClassId) (kc_o4 : ClassId) (kc_o5 : ClassId) (o7 : Addr) (kc_o7 : ClassId) (h0 : Heap) (n0 : Nat) (v : Option Value) (h : Heap) (L : List Loc) : Prop := v = none ∧ Fr n0 L ∧ Keep h0 h [o5, o4, o3, o2, o1] ∧ Exa Z h o1 s_0 ∧ Fld Z h o1 s_0 "nextBlock" "[I" (.ref o2) ∧ Fld Z h o1 s_0 s_5 "[I" (.ref o3) ∧ Fld Z h o1 s_0 "firstPiece" "[I" (.ref o4) ∧ Fld Z h o1 s_0 "lastPiece" "[I" (.ref o5) ∧ Fld Z h o1 s_0 "closed" s_3 (.ref o6) ∧ Fld Z h o1 s_0 "firstBlock" "I" (.int (0 : Int32)) ∧ Fld Z h o1 s_0 "lastBlock" "I" (.int (2 : Int32)) ∧ Fld Z h o1 s_0 "blockCount" "I" (.int (3 : Int32)) ∧ Arv Z h o2 kc_o2 .int (64 : Int32) [(.int (1 : Int32)), (.int (2 : Int32)), (.int (-1 : Int32))] (.int (0 : Int32)) ∧ Arv Z h o3 kc_o3 .int (64 : Int32) [(.int (-1 : Int32)), (.int (0 : Int32)), (.int (1 : Int32))] (.int (0 : Int32)) ∧ Arv Z h o4 kc_o4 .int (64 : Int32) [(.int (-1 : Int32)), (.int (-1 : Int32)), (.int (-1 : Int32))] (.int (0 : Int32)) ∧ Arv Z h o5 kc_o5 .int (64 : Int32) [(.int (-1 : Int32)), (.int (-1 : Int32)), (.int (-1 : Int32))] (.int (0 : Int32))
set_option maxRecDepth 65536 in
set_option maxHeartbeats 40000000 in
theorem rm_52 (l : Launch) (Z : State) (a0 : Array Value) (hw : ∀ d ∈ tables_1, d.before a0 Z = true) (w : Nat → Addr) (kk : Nat → ClassId) (iw : Nat → Int32) (vw : Nat → Value) (hN : Wd Z w kk iw vw) (ws : List Jvm.Cond) (o1 : Addr) (o2 : Addr) (o3 : Addr) (o4 : Addr) (o5 : Addr) (o6 : Addr) (kc_o2 : ClassId) (kc_o3 : ClassId) (kc_o4 : ClassId) (kc_o5 : ClassId) (o7 : Addr) (kc_o7 : ClassId) (h0 : Heap) (O0 : Old Z Z.heap.size h0) (gn_o1 : Z.heap.size ≤ o1) (lt_o1 : o1 < h0.size) (E_o1 : Exa Z h0 o1 s_0) (gn_o2 : Z.heap.size ≤ o2) (lt_o2 : o2 < h0.size) (F_o1_nextBlock : Fld Z h0 o1 s_0 "nextBlock" "[I" (.ref o2)) (gn_o3 : Z.heap.size ≤ o3) (lt_o3 : o3 < h0.size) (F_o1_previousBlock : Fld Z h0 o1 s_0 s_5 "[I" (.ref o3)) (gn_o4 : Z.heap.size ≤ o4) (lt_o4 : o4 < h0.size) (F_o1_firstPiece : Fld Z h0 o1 s_0 "firstPiece" "[I" (.ref o4)) (gn_o5 : Z.heap.size ≤ o5) (lt_o5 : o5 < h0.size) (F_o1_lastPiece : Fld Z h0 o1 s_0 "lastPiece" "[I" (.ref o5)) (gn_o6 : Z.heap.size ≤ o6) (lt_o6 : o6 < h0.size) (F_o1_closed : Fld Z h0 o1 s_0 "closed" s_3 (.ref o6)) (F_o1_firstBlock : Fld Z h0 o1 s_0 "firstBlock" "I" (.int (0 : Int32))) (F_o1_lastBlock : Fld Z h0 o1 s_0 "lastBlock" "I" (.int (1 : Int32))) (F_o1_blockCount : Fld Z h0 o1 s_0 "blockCount" "I" (.int (2 : Int32))) (V_o2 : Arv Z h0 o2 kc_o2 .int (64 : Int32) [(.int (1 : Int32)), (.int (-1 : Int32))] (.int (0 : Int32))) (V_o3 : Arv Z h0 o3 kc_o3 .int (64 : Int32) [(.int (-1 : Int32)), (.int (0 : Int32))] (.int (0 : Int32))) (V_o4 : Arv Z h0 o4 kc_o4 .int (64 : Int32) [(.int (-1 : Int32)), (.int (-1 : Int32))] (.int (0 : Int32))) (V_o5 : Arv Z h0 o5 kc_o5 .int (64 : Int32) [(.int (-1 : Int32)), (.int (-1 : Int32))] (.int (0 : Int32))) (E_o6 : Exa Z h0 o6 s_1) (F_o6_wordsInUse : Fld Z h0 o6 s_1 "wordsInUse" "I" (.int (0 : Int32))) (F_o6_sizeIsSticky : Fld Z h0 o6 s_1 s_6 "Z" (.int (0 : Int32))) (gn_o7 : Z.heap.size ≤ o7) (lt_o7 : o7 < h0.size) (F_o6_words : Fld Z h0 o6 s_1 "words" "[J" (.ref o7)) (V_o7 : Arv Z h0 o7 kc_o7 .long (1 : Int32) [] (.long (0 : Int64))) (ne_o1_o2 : o1 ≠ o2) (ne_o1_o3 : o1 ≠ o3) (ne_o1_o4 : o1 ≠ o4) (ne_o1_o5 : o1 ≠ o5) (ne_o1_o6 : o1 ≠ o6) (ne_o1_o7 : o1 ≠ o7) (ne_o2_o3 : o2 ≠ o3) (ne_o2_o4 : o2 ≠ o4) (ne_o2_o5 : o2 ≠ o5) (ne_o2_o6 : o2 ≠ o6) (ne_o2_o7 : o2 ≠ o7) (ne_o3_o4 : o3 ≠ o4) (ne_o3_o5 : o3 ≠ o5) (ne_o3_o6 : o3 ≠ o6) (ne_o3_o7 : o3 ≠ o7) (ne_o4_o5 : o4 ≠ o5) (ne_o4_o6 : o4 ≠ o6) (ne_o4_o7 : o4 ≠ o7) (ne_o5_o6 : o5 ≠ o6) (ne_o5_o7 : o5 ≠ o7) (ne_o6_o7 : o6 ≠ o7) :
    Met l Z (⟨s_0, "addBlock", "()V"⟩ : MethodName) (Jvm.Cond.code (⟨s_0, "addBlock", "()V"⟩ : MethodName) prog_20_method_3_code 2 none) ws (Rm 1 0 0 13) #[(.ref o1)] h0 (Qd_14 Z w kk iw vw o1 o2 o3 o4 o5 o6 kc_o2 kc_o3 kc_o4 kc_o5 o7 kc_o7 h0 Z.heap.size) := by
  have hN' := hN
  have hL0 : Sta Z Z.heap s_1 s_4 "Z" (.int (1 : Int32)) := hN'
  refine own_body (plainFor_of_name pn_1) hisR ?_
  intro p e s m below meth c s₁ hx hby hml hown hnm hret X0 hZ e0
  have N0 := Fr.nil Z.heap.size
  have K0 : Keep h0 h0 [o5, o4, o3, o2, o1] := Keep.refl _ _
  obtain ⟨cq1, q1, q1'⟩ := E_o1.cell
  obtain ⟨_, _, ⟨T1, L1, k1, n1⟩, -, X1, ⟨Lc1, hQ1, l1, y1, z1⟩, st1⟩ := X0.privateBack hx (y := (⟨s_0, "newBlock", "()I"⟩ : MethodName)) hown (mvT hZ (W hw 64 rfl)) (mvT hZ (W hw 65 rfl)) (own_selpriv (mvT hZ (W hw 1 rfl)) (Cond.privateMethod_at (mvP hZ (W hw 66 rfl) (args := #[]))) (mvT hZ (W hw 65 rfl)) (by decide)) (Cond.privateMethod_at (mvP hZ (W hw 66 rfl) (args := #[]))) (mvT hZ (W hw 67 rfl)) (by decide) (backOf (W := 0) (rm_40 l Z a0 hw w kk iw vw hN [] o1 o2 o3 o4 o5 o6 kc_o2 kc_o3 kc_o4 kc_o5 o7 kc_o7 h0 O0 gn_o1 E_o1.lt E_o1 gn_o2 V_o2.lt F_o1_nextBlock gn_o3 V_o3.lt F_o1_previousBlock gn_o4 V_o4.lt F_o1_firstPiece gn_o5 V_o5.lt F_o1_lastPiece gn_o6 E_o6.lt F_o1_closed F_o1_firstBlock F_o1_lastBlock F_o1_blockCount V_o2 V_o3 V_o4 V_o5 E_o6 F_o6_wordsInUse F_o6_sizeIsSticky gn_o7 V_o7.lt F_o6_words V_o7 ne_o1_o2 ne_o1_o3 ne_o1_o4 ne_o1_o5 ne_o1_o6 ne_o1_o7 ne_o2_o3 ne_o2_o4 ne_o2_o5 ne_o2_o6 ne_o2_o7 ne_o3_o4 ne_o3_o5 ne_o3_o6 ne_o3_o7 ne_o4_o5 ne_o4_o6 ne_o4_o7 ne_o5_o6 ne_o5_o7 ne_o6_o7) hZ (W hw 67 rfl) (W hw 2 rfl) (by decide) (by decide)) (g := (mkF m 1 #[.val (.ref o1), .unset] [(.ref o1)])) rfl (by rw [hml]; rfl) (Steps.refl _) (a := o1) (by rw [e0]; exact q1) q1' (argsL := []) (rest := []) (lenOf pd_4 rfl) rfl (by show 2 * 0 + _ ≤ _; exact Nat.le_of_eq rfl) (hb hby d5_1) (fun _ _ => ⟨rfl, e0, (by decide : 0 + 0 ≤ _), (by decide : 0 + 0 ≤ _)⟩)
  dsimp only [Pt.U, Pt.locs, Pt.cells, Pt.slots] at X1 l1 y1 z1 st1 hQ1
  subst l1 y1 z1
  obtain ⟨rfl, N1q, Kq1, tk1_0, tk1_1, tk1_2, tk1_3, tk1_4, tk1_5, tk1_6, tk1_7, tk1_8, tk1_9, tk1_10, tk1_11, tk1_12⟩ := hQ1
  have N1 := Fr.app N0 N1q
  have E_o1_v1 := E_o1.keep Kq1
  have E_o6_v1 := E_o6.keep Kq1
  have F_o6_wordsInUse_v1 := F_o6_wordsInUse.keep Kq1 (ninS (Ne.symm ne_o1_o6) (ninS (Ne.symm ne_o2_o6) (ninS (Ne.symm ne_o3_o6) (ninS (Ne.symm ne_o4_o6) (ninS (Ne.symm ne_o5_o6) nin0)))))
  have F_o6_sizeIsSticky_v1 := F_o6_sizeIsSticky.keep Kq1 (ninS (Ne.symm ne_o1_o6) (ninS (Ne.symm ne_o2_o6) (ninS (Ne.symm ne_o3_o6) (ninS (Ne.symm ne_o4_o6) (ninS (Ne.symm ne_o5_o6) nin0)))))
  have F_o6_words_v1 := F_o6_words.keep Kq1 (ninS (Ne.symm ne_o1_o6) (ninS (Ne.symm ne_o2_o6) (ninS (Ne.symm ne_o3_o6) (ninS (Ne.symm ne_o4_o6) (ninS (Ne.symm ne_o5_o6) nin0)))))
  have V_o7_v1 := V_o7.keep Kq1 (ninS (Ne.symm ne_o1_o7) (ninS (Ne.symm ne_o2_o7) (ninS (Ne.symm ne_o3_o7) (ninS (Ne.symm ne_o4_o7) (ninS (Ne.symm ne_o5_o7) nin0)))))
  have O1 := O0.keep Kq1 (allS gn_o1 (allS gn_o2 (allS gn_o3 (allS gn_o4 (allS gn_o5 all0)))))
  have K1 : Keep h0 T1.heap [o5, o4, o3, o2, o1] := K0.trans Kq1 (allS (Or.inl (List.mem_of_getElem? (i := 4) rfl)) (allS (Or.inl (List.mem_of_getElem? (i := 3) rfl)) (allS (Or.inl (List.mem_of_getElem? (i := 2) rfl)) (allS (Or.inl (List.mem_of_getElem? (i := 1) rfl)) (allS (Or.inl (List.mem_of_getElem? (i := 0) rfl)) all0)))))
  obtain ⟨T2, X2, e2, st2⟩ := getF X1 hx hZ hown (host := "") (Or.inl (W hw 12 rfl)) Via.refl rfl tk1_2 (g := (mkF m 6 #[.val (.ref o1), .val (.int (2 : Int32))] [(.ref o1)])) rfl rfl (hb hby d5_6)
  obtain ⟨T3, X3, e3, st3⟩ := getF X2 hx hZ hown (host := "") (Or.inl (W hw 44 rfl)) Via.refl e2 tk1_7 (g := (mkF m 11 #[.val (.ref o1), .val (.int (2 : Int32))] [(.ref o1), (.int (2 : Int32)), (.ref o3)])) rfl rfl (hb hby d5_11)
  obtain ⟨cl4, Ar4, q4, Sz4, Ng4, Hv4, Gv4⟩ := tk1_10
  have hin4 : ¬ ((2 : Int32) < 0 ∨ cl4.slots.size ≤ ((2 : Int32)).toNatClampNeg) := inb_of Sz4 ⟨by decide, by decide⟩
  obtain ⟨T5, h5, X5, e5, W5, st5⟩ := stI X3 hx hZ e3 Ar4 (j := (2 : Int32)) hin4 (g := (mkF m 14 #[.val (.ref o1), .val (.int (2 : Int32))] [(.int (1 : Int32)), (.int (2 : Int32)), (.ref o3)])) rfl rfl (hb hby d5_14)
  have V_o3_v5 : Arv Z h5 o3 kc_o3 .int (64 : Int32) [(.int (-1 : Int32)), (.int (0 : Int32)), (.int (1 : Int32))] (.int (0 : Int32)) := Arv.set Ar4 q4 Sz4 Ng4 Hv4 Gv4 rfl W5 2 rfl (Nat.le_of_ble_eq_true rfl)
  have N5 := Fr.snoc X5 N1 gn_o3
  have tk1_0_v5 := tk1_0.wr W5
  have E_o6_v5 := E_o6_v1.wr W5
  have F_o6_wordsInUse_v5 := F_o6_wordsInUse_v1.other W5 (Or.inl (Ne.symm ne_o3_o6))
  have F_o6_sizeIsSticky_v5 := F_o6_sizeIsSticky_v1.other W5 (Or.inl (Ne.symm ne_o3_o6))
  have F_o6_words_v5 := F_o6_words_v1.other W5 (Or.inl (Ne.symm ne_o3_o6))
  have V_o7_v5 := V_o7_v1.other W5 (Ne.symm ne_o3_o7)
  have tk1_1_v5 := tk1_1.other W5 (Or.inl ne_o1_o3)
  have tk1_2_v5 := tk1_2.other W5 (Or.inl ne_o1_o3)
  have tk1_3_v5 := tk1_3.other W5 (Or.inl ne_o1_o3)
  have tk1_4_v5 := tk1_4.other W5 (Or.inl ne_o1_o3)
  have tk1_5_v5 := tk1_5.other W5 (Or.inl ne_o1_o3)
  have tk1_6_v5 := tk1_6.other W5 (Or.inl ne_o1_o3)
  have tk1_7_v5 := tk1_7.other W5 (Or.inl ne_o1_o3)
  have tk1_8_v5 := tk1_8.other W5 (Or.inl ne_o1_o3)
  have tk1_9_v5 := tk1_9.other W5 ne_o2_o3
  have tk1_11_v5 := tk1_11.other W5 (Ne.symm ne_o3_o4)
  have tk1_12_v5 := tk1_12.other W5 (Ne.symm ne_o3_o5)
  have O5 := O1.wr W5 gn_o3
  have K5 : Keep h0 h5 [o5, o4, o3, o2, o1] := K1.wr W5 (Or.inl (List.mem_of_getElem? (i := 2) rfl))
  obtain ⟨T6, X6, e6, st6⟩ := getF X5 hx hZ hown (host := "") (Or.inl (W hw 44 rfl)) Via.refl e5 tk1_7_v5 (g := (mkF m 16 #[.val (.ref o1), .val (.int (2 : Int32))] [(.ref o1)])) rfl rfl (hb hby d5_16)
  obtain ⟨T7, X7, e7, st7⟩ := getF X6 hx hZ hown (host := "") (Or.inl (W hw 10 rfl)) Via.refl e6 tk1_1_v5 (g := (mkF m 32 #[.val (.ref o1), .val (.int (2 : Int32))] [(.ref o1)])) rfl rfl (hb hby d5_32)
  obtain ⟨T8, X8, e8, st8⟩ := getF X7 hx hZ hown (host := "") (Or.inl (W hw 44 rfl)) Via.refl e7 tk1_7_v5 (g := (mkF m 36 #[.val (.ref o1), .val (.int (2 : Int32))] [(.ref o1), (.ref o2)])) rfl rfl (hb hby d5_36)
  obtain ⟨cl9, Ar9, q9, Sz9, Ng9, Hv9, Gv9⟩ := tk1_9_v5
  have hin9 : ¬ ((1 : Int32) < 0 ∨ cl9.slots.size ≤ ((1 : Int32)).toNatClampNeg) := inb_of Sz9 ⟨by decide, by decide⟩
  obtain ⟨T10, h10, X10, e10, W10, st10⟩ := stI X8 hx hZ e8 Ar9 (j := (1 : Int32)) hin9 (g := (mkF m 40 #[.val (.ref o1), .val (.int (2 : Int32))] [(.int (2 : Int32)), (.int (1 : Int32)), (.ref o2)])) rfl rfl (hb hby d5_40)
  have V_o2_v10 : Arv Z h10 o2 kc_o2 .int (64 : Int32) [(.int (1 : Int32)), (.int (2 : Int32)), (.int (-1 : Int32))] (.int (0 : Int32)) := Arv.set Ar9 q9 Sz9 Ng9 Hv9 Gv9 rfl W10 1 rfl (Nat.le_of_ble_eq_true rfl)
  have N10 := Fr.snoc X10 N5 gn_o2
  have tk1_0_v10 := tk1_0_v5.wr W10
  have E_o6_v10 := E_o6_v5.wr W10
  have F_o6_wordsInUse_v10 := F_o6_wordsInUse_v5.other W10 (Or.inl (Ne.symm ne_o2_o6))
  have F_o6_sizeIsSticky_v10 := F_o6_sizeIsSticky_v5.other W10 (Or.inl (Ne.symm ne_o2_o6))
  have F_o6_words_v10 := F_o6_words_v5.other W10 (Or.inl (Ne.symm ne_o2_o6))
  have V_o7_v10 := V_o7_v5.other W10 (Ne.symm ne_o2_o7)
  have tk1_1_v10 := tk1_1_v5.other W10 (Or.inl ne_o1_o2)
  have tk1_2_v10 := tk1_2_v5.other W10 (Or.inl ne_o1_o2)
  have tk1_3_v10 := tk1_3_v5.other W10 (Or.inl ne_o1_o2)
  have tk1_4_v10 := tk1_4_v5.other W10 (Or.inl ne_o1_o2)
  have tk1_5_v10 := tk1_5_v5.other W10 (Or.inl ne_o1_o2)
  have tk1_6_v10 := tk1_6_v5.other W10 (Or.inl ne_o1_o2)
  have tk1_7_v10 := tk1_7_v5.other W10 (Or.inl ne_o1_o2)
  have tk1_8_v10 := tk1_8_v5.other W10 (Or.inl ne_o1_o2)
  have V_o3_v10 := V_o3_v5.other W10 (Ne.symm ne_o2_o3)
  have tk1_11_v10 := tk1_11_v5.other W10 (Ne.symm ne_o2_o4)
  have tk1_12_v10 := tk1_12_v5.other W10 (Ne.symm ne_o2_o5)
  have O10 := O5.wr W10 gn_o2
  have K10 : Keep h0 h10 [o5, o4, o3, o2, o1] := K5.wr W10 (Or.inl (List.mem_of_getElem? (i := 3) rfl))
  obtain ⟨T11, h11, X11, e11, W11, st11⟩ := putF X10 hx hZ hown (host := "") (Or.inl (W hw 44 rfl)) Via.refl e10 tk1_7_v10 tk1_0_v10 (Or.inl (W hw 45 rfl)) (W hw 1 rfl) (ty := .int) (by decide) rfl rfl (g := (mkF m 43 #[.val (.ref o1), .val (.int (2 : Int32))] [(.int (2 : Int32)), (.ref o1)])) rfl rfl (hb hby d5_43)
  have tk1_7_v11 := tk1_7_v10.same W11
  have N11 := Fr.snoc X11 N10 gn_o1
  have tk1_0_v11 := tk1_0_v10.wr W11
  have E_o6_v11 := E_o6_v10.wr W11
  have F_o6_wordsInUse_v11 := F_o6_wordsInUse_v10.other W11 (Or.inl (Ne.symm ne_o1_o6))
  have F_o6_sizeIsSticky_v11 := F_o6_sizeIsSticky_v10.other W11 (Or.inl (Ne.symm ne_o1_o6))
  have F_o6_words_v11 := F_o6_words_v10.other W11 (Or.inl (Ne.symm ne_o1_o6))
  have V_o7_v11 := V_o7_v10.other W11 (Ne.symm ne_o1_o7)
  have tk1_1_v11 := tk1_1_v10.other W11 (Or.inr (sn_66 hw))
  have tk1_2_v11 := tk1_2_v10.other W11 (Or.inr (sn_67 hw))
  have tk1_3_v11 := tk1_3_v10.other W11 (Or.inr (sn_68 hw))
  have tk1_4_v11 := tk1_4_v10.other W11 (Or.inr (sn_69 hw))
  have tk1_5_v11 := tk1_5_v10.other W11 (Or.inr (sn_70 hw))
  have tk1_6_v11 := tk1_6_v10.other W11 (Or.inr (sn_71 hw))
  have tk1_8_v11 := tk1_8_v10.other W11 (Or.inr (sn_75 hw))
  have V_o2_v11 := V_o2_v10.other W11 (Ne.symm ne_o1_o2)
  have V_o3_v11 := V_o3_v10.other W11 (Ne.symm ne_o1_o3)
  have tk1_11_v11 := tk1_11_v10.other W11 (Ne.symm ne_o1_o4)
  have tk1_12_v11 := tk1_12_v10.other W11 (Ne.symm ne_o1_o5)
  have O11 := O10.wr W11 gn_o1
  have K11 : Keep h0 h11 [o5, o4, o3, o2, o1] := K10.wr W11 (Or.inl (List.mem_of_getElem? (i := 4) rfl))
  refine ⟨T11, none, _, _, _, by decide, by decide, X11, (fun _ => rfl), (by rw [e11]; exact ⟨rfl, N11, K11, tk1_0_v11, tk1_1_v11, tk1_2_v11, tk1_3_v11, tk1_4_v11, tk1_5_v11, tk1_6_v11, tk1_7_v11, tk1_8_v11, V_o2_v11, V_o3_v11, tk1_11_v11, tk1_12_v11⟩), fun fs hr => castTop (ef_4 m (.ref o1) rfl) ?_⟩
  show Steps p.tables e below (s₁.setTop (mkF m 0 #[.val (.ref o1), .unset] [])) _
  refine XS.aloadN X0.here hx rfl (hb hby d5_0) rfl rfl ?_
  refine st1.trans ?_
  refine XS.istoreN X1.here hx rfl (hb hby d5_4) rfl (l' := #[.val (.ref o1), .val (.int (2 : Int32))]) rfl ?_
  refine XS.aloadN X1.here hx rfl (hb hby d5_5) rfl rfl ?_
  refine st2 _ ?_
  refine XS.iloadN X2.here hx rfl (hb hby d5_9) rfl ?_
  refine XS.aloadN X2.here hx rfl (hb hby d5_10) rfl rfl ?_
  refine st3 _ ?_
  show Steps p.tables e below (T3.setTop (mkF m 14 #[.val (.ref o1), .val (.int (2 : Int32))] [(.int (1 : Int32)), (.int (2 : Int32)), (.ref o3)])) _
  refine st5 _ ?_
  refine XS.aloadN X5.here hx rfl (hb hby d5_15) rfl rfl ?_
  refine st6 _ ?_
  refine XS.iconst X6.here hx rfl (hb hby d5_19) ?_
  refine XS.icmpYes X6.here hx rfl (pc0 := 20) (pc' := 31) rfl (hb hby d5_20) rfl (feq (by decide : ¬ ((1 : Int32) = (-1 : Int32)))).2 (by decide) (by decide) ?_
  refine XS.aloadN X6.here hx rfl (hb hby d5_31) rfl rfl ?_
  refine st7 _ ?_
  refine XS.aloadN X7.here hx rfl (hb hby d5_35) rfl rfl ?_
  show Steps p.tables e below (T7.setTop (mkF m 36 #[.val (.ref o1), .val (.int (2 : Int32))] [(.ref o1), (.ref o2)])) _
  refine st8 _ ?_
  refine XS.iloadN X8.here hx rfl (hb hby d5_39) rfl ?_
  refine st10 _ ?_
  refine XS.aloadN X10.here hx rfl (hb hby d5_41) rfl rfl ?_
  refine XS.iloadN X10.here hx rfl (hb hby d5_42) rfl ?_
  refine st11 _ ?_
  show Steps p.tables e below (T11.setTop (mkF m 46 #[.val (.ref o1), .val (.int (2 : Int32))] [])) _
  exact X11.returnOut hx hret (hb hby d5_46) hr
set_option maxRecDepth 65536 in
set_option maxHeartbeats 40000000 in
theorem sg_53 {p : Program} {l : Launch} {e : Env} {s : State} {m : MethodId} {args : Array Value} {below : List Frame} {meth : Method} {c : Code} {T0 : State} {Z : State} {a0 : Array Value} (w : Nat → Addr) (kk : Nat → ClassId) (iw : Nat → Int32) (vw : Nat → Value) (hN : Wd Z w kk iw vw) (i0 : Int32) (i1 : Int32) (i2 : Int32) (i3 : Int32) {h0 : Heap}
    (X0 : Stand p l e room_1 s m args below meth c T0 [] 0 0) (hx : p.tables.exec = Jvm.exec) (hZ : Z.Warmed39 s.vm) (hw : ∀ d ∈ tables_1, d.before a0 Z = true) (hby : c.code = code) (hml : c.maxLocals = 7) (hown : s.vm.findClass s_2 = some m.cls) (e0 : T0.heap = h0) (O0 : Old Z Z.heap.size h0) (N0 : Fr Z.heap.size []) :
    ∃ (T' : State) (L' : List Loc) (c1 : Addr) (c2 : Addr) (c3 : Addr) (c4 : Addr) (c5 : Addr) (c6 : Addr) (c7 : Addr) (kc1 : ClassId) (kc2 : ClassId) (kc3 : ClassId) (kc4 : ClassId) (kc5 : ClassId), Stand p l e room_1 s m args below meth c T' L' 10 467 ∧ (∀ target, Steps p.tables e below (T'.setTop (mkF m 102 #[.val (.int i0), .val (.int i1), .val (.int i2), .val (.int i3), .val (.int (3 : Int32)), .val (.ref c1), .val (.int (1 : Int32))] [])) target → Steps p.tables e below (T0.setTop (mkF m 5 #[.val (.int i0), .val (.int i1), .val (.int i2), .val (.int i3), .val (.int (3 : Int32)), .unset, .unset] [])) target) ∧ Fr Z.heap.size L' ∧ Keep h0 T'.heap [] ∧ h0.size ≤ c1 ∧ h0.size ≤ c2 ∧ h0.size ≤ c3 ∧ h0.size ≤ c4 ∧ h0.size ≤ c5 ∧ h0.size ≤ c6 ∧ h0.size ≤ c7 ∧ c1 ≠ c2 ∧ c1 ≠ c3 ∧ c1 ≠ c4 ∧ c1 ≠ c5 ∧ c1 ≠ c6 ∧ c1 ≠ c7 ∧ c2 ≠ c3 ∧ c2 ≠ c4 ∧ c2 ≠ c5 ∧ c2 ≠ c6 ∧ c2 ≠ c7 ∧ c3 ≠ c4 ∧ c3 ≠ c5 ∧ c3 ≠ c6 ∧ c3 ≠ c7 ∧ c4 ≠ c5 ∧ c4 ≠ c6 ∧ c4 ≠ c7 ∧ c5 ≠ c6 ∧ c5 ≠ c7 ∧ c6 ≠ c7 ∧ Exa Z T'.heap c1 s_0 ∧ Fld Z T'.heap c1 s_0 "nextBlock" "[I" (.ref c2) ∧ Fld Z T'.heap c1 s_0 s_5 "[I" (.ref c3) ∧ Fld Z T'.heap c1 s_0 "firstPiece" "[I" (.ref c4) ∧ Fld Z T'.heap c1 s_0 "lastPiece" "[I" (.ref c5) ∧ Fld Z T'.heap c1 s_0 "closed" s_3 (.ref c6) ∧ Fld Z T'.heap c1 s_0 "firstBlock" "I" (.int (0 : Int32)) ∧ Fld Z T'.heap c1 s_0 "lastBlock" "I" (.int (2 : Int32)) ∧ Fld Z T'.heap c1 s_0 "blockCount" "I" (.int (3 : Int32)) ∧ Arv Z T'.heap c2 kc1 .int (64 : Int32) [(.int (1 : Int32)), (.int (2 : Int32)), (.int (-1 : Int32))] (.int (0 : Int32)) ∧ Arv Z T'.heap c3 kc2 .int (64 : Int32) [(.int (-1 : Int32)), (.int (0 : Int32)), (.int (1 : Int32))] (.int (0 : Int32)) ∧ Arv Z T'.heap c4 kc3 .int (64 : Int32) [(.int (-1 : Int32)), (.int (-1 : Int32)), (.int (-1 : Int32))] (.int (0 : Int32)) ∧ Arv Z T'.heap c5 kc4 .int (64 : Int32) [(.int (-1 : Int32)), (.int (-1 : Int32)), (.int (-1 : Int32))] (.int (0 : Int32)) ∧ Exa Z T'.heap c6 s_1 ∧ Fld Z T'.heap c6 s_1 "wordsInUse" "I" (.int (0 : Int32)) ∧ Fld Z T'.heap c6 s_1 s_6 "Z" (.int (0 : Int32)) ∧ Fld Z T'.heap c6 s_1 "words" "[J" (.ref c7) ∧ Arv Z T'.heap c7 kc5 .long (1 : Int32) [] (.long (0 : Int64)) := by
  have hN' := hN
  have hL0 : Sta Z Z.heap s_1 s_4 "Z" (.int (1 : Int32)) := hN'
  have K0 : Keep h0 h0 [] := Keep.refl _ _
  obtain ⟨T1, h1, X1, e1, E1, A1, D1, -, st1⟩ := newO X0 hx hZ hown (W hw 0 rfl) (W hw 1 rfl) (W hw 2 rfl) e0 (g := (mkF m 5 #[.val (.int i0), .val (.int i1), .val (.int i2), .val (.int i3), .val (.int (3 : Int32)), .unset, .unset] [])) rfl (hb hby at_5) (by decide) (by decide)
  obtain ⟨b1, g1⟩ : ∃ z, z = h0.size := ⟨_, rfl⟩
  rw [← g1] at A1 st1 D1
  have gn_b1 : Z.heap.size ≤ b1 := Nat.le_trans O0.2.1 (Nat.le_of_eq g1.symm)
  have sz_b1 : h0.size ≤ b1 := Nat.le_trans K0.1 (Nat.le_of_eq g1.symm)
  have O1 := O0.ext E1
  have K1 := K0.ext E1
  have E_b1_v1 := A1
  have F_b1_nextBlock_v1 : Fld Z h1 b1 s_0 "nextBlock" "[I" .null := D1 (Or.inl (W hw 11 rfl)) (ty := (.array .int)) (by decide)
  have F_b1_previousBlock_v1 : Fld Z h1 b1 s_0 s_5 "[I" .null := D1 (Or.inl (W hw 13 rfl)) (ty := (.array .int)) (by decide)
  have F_b1_firstPiece_v1 : Fld Z h1 b1 s_0 "firstPiece" "[I" .null := D1 (Or.inl (W hw 15 rfl)) (ty := (.array .int)) (by decide)
  have F_b1_lastPiece_v1 : Fld Z h1 b1 s_0 "lastPiece" "[I" .null := D1 (Or.inl (W hw 17 rfl)) (ty := (.array .int)) (by decide)
  have F_b1_closed_v1 : Fld Z h1 b1 s_0 "closed" s_3 .null := D1 (Or.inr (W hw 41 rfl)) (ty := (.object s_1)) (by decide)
  have F_b1_firstBlock_v1 : Fld Z h1 b1 s_0 "firstBlock" "I" (.int (0 : Int32)) := D1 (Or.inl (W hw 43 rfl)) (ty := .int) (by decide)
  have F_b1_lastBlock_v1 : Fld Z h1 b1 s_0 "lastBlock" "I" (.int (0 : Int32)) := D1 (Or.inl (W hw 45 rfl)) (ty := .int) (by decide)
  have F_b1_pieceStart_v1 : Fld Z h1 b1 s_0 "pieceStart" "[J" .null := D1 (Or.inl (W hw 47 rfl)) (ty := (.array .long)) (by decide)
  have F_b1_pieceLength_v1 : Fld Z h1 b1 s_0 "pieceLength" "[I" .null := D1 (Or.inl (W hw 49 rfl)) (ty := (.array .int)) (by decide)
  have F_b1_nextPiece_v1 : Fld Z h1 b1 s_0 "nextPiece" "[I" .null := D1 (Or.inl (W hw 51 rfl)) (ty := (.array .int)) (by decide)
  have F_b1_blockCount_v1 : Fld Z h1 b1 s_0 "blockCount" "I" (.int (0 : Int32)) := D1 (Or.inl (W hw 58 rfl)) (ty := .int) (by decide)
  obtain ⟨_, _, ⟨T2, L2, k2, n2⟩, -, X2, ⟨Lc2, hQ2, l2, y2, z2⟩, st2⟩ := X1.specialBack hx (y := (⟨s_0, "<init>", "()V"⟩ : MethodName)) rfl hown (mvT hZ (W hw 3 rfl)) (mvT hZ (W hw 4 rfl)) (mvT hZ (W hw 5 rfl)) (by decide) (backOf (W := 1) (rm_4 l Z a0 hw w kk iw vw hN [] b1 h1 O1 gn_b1 E_b1_v1.lt E_b1_v1 F_b1_nextBlock_v1 F_b1_previousBlock_v1 F_b1_firstPiece_v1 F_b1_lastPiece_v1 F_b1_closed_v1 F_b1_firstBlock_v1 F_b1_lastBlock_v1 F_b1_pieceStart_v1 F_b1_pieceLength_v1 F_b1_nextPiece_v1 F_b1_blockCount_v1) hZ (W hw 5 rfl) (W hw 2 rfl) (by decide) (by decide)) (g := (mkF m 9 #[.val (.int i0), .val (.int i1), .val (.int i2), .val (.int i3), .val (.int (3 : Int32)), .unset, .unset] [(.ref b1), (.ref b1)])) rfl (by rw [hml]; rfl) (Steps.refl _) (a := b1) (argsL := []) (rest := [(.ref b1)]) (lenOf pd_2 rfl) rfl (by show 2 * 0 + _ ≤ _; exact Nat.le_of_eq rfl) (hb hby at_9) (fun _ _ => ⟨rfl, e1, (by decide : 1 + 9 ≤ _), (by decide : 15 + 452 ≤ _)⟩)
  dsimp only [Pt.U, Pt.locs, Pt.cells, Pt.slots] at X2 l2 y2 z2 st2 hQ2
  subst l2 y2 z2
  obtain ⟨b2_0, b2_1, b2_2, b2_3, b2_4, b2_5, b2_6, b2_7, b2_8, kb2_0, kb2_1, kb2_2, kb2_3, kb2_4, kb2_5, kb2_6, kb2_7, rfl, N2q, Kq2, tk2_0, tk2_1, tk2_2, tk2_3, tk2_4, tk2_5, tk2_6, tk2_7, tk2_8, tk2_9, tk2_10, tk2_11, tk2_12, tk2_13, tk2_14, tk2_15, tk2_16, tk2_17, tk2_18, tk2_19, tk2_20, tk2_21, tk2_22, tk2_23, tk2_24, tk2_25, tk2_26, tk2_27, tk2_28, tk2_29, tk2_30, tk2_31, tk2_32, tk2_33, tk2_34, tk2_35, tk2_36, tk2_37, tk2_38, tk2_39, tk2_40, tk2_41, tk2_42, tk2_43, tk2_44, tk2_45, tk2_46, tk2_47, tk2_48, tk2_49, tk2_50, tk2_51, tk2_52, tk2_53, tk2_54, tk2_55, tk2_56, tk2_57, tk2_58, tk2_59, tk2_60, tk2_61, tk2_62, tk2_63, tk2_64, tk2_65, tk2_66, tk2_67, tk2_68⟩ := hQ2
  have N2 := Fr.app N0 N2q
  have gn_b2_0 : Z.heap.size ≤ b2_0 := Nat.le_trans O1.2.1 tk2_0
  have sz_b2_0 : h0.size ≤ b2_0 := Nat.le_trans K1.1 tk2_0
  have ne_b1_b2_0 : b1 ≠ b2_0 := Nat.ne_of_lt (Nat.lt_of_lt_of_le E_b1_v1.lt tk2_0)
  have gn_b2_1 : Z.heap.size ≤ b2_1 := Nat.le_trans O1.2.1 tk2_1
  have sz_b2_1 : h0.size ≤ b2_1 := Nat.le_trans K1.1 tk2_1
  have ne_b1_b2_1 : b1 ≠ b2_1 := Nat.ne_of_lt (Nat.lt_of_lt_of_le E_b1_v1.lt tk2_1)
  have gn_b2_2 : Z.heap.size ≤ b2_2 := Nat.le_trans O1.2.1 tk2_2
  have sz_b2_2 : h0.size ≤ b2_2 := Nat.le_trans K1.1 tk2_2
  have ne_b1_b2_2 : b1 ≠ b2_2 := Nat.ne_of_lt (Nat.lt_of_lt_of_le E_b1_v1.lt tk2_2)
  have gn_b2_3 : Z.heap.size ≤ b2_3 := Nat.le_trans O1.2.1 tk2_3
  have sz_b2_3 : h0.size ≤ b2_3 := Nat.le_trans K1.1 tk2_3
  have ne_b1_b2_3 : b1 ≠ b2_3 := Nat.ne_of_lt (Nat.lt_of_lt_of_le E_b1_v1.lt tk2_3)
  have gn_b2_4 : Z.heap.size ≤ b2_4 := Nat.le_trans O1.2.1 tk2_4
  have sz_b2_4 : h0.size ≤ b2_4 := Nat.le_trans K1.1 tk2_4
  have ne_b1_b2_4 : b1 ≠ b2_4 := Nat.ne_of_lt (Nat.lt_of_lt_of_le E_b1_v1.lt tk2_4)
  have gn_b2_5 : Z.heap.size ≤ b2_5 := Nat.le_trans O1.2.1 tk2_5
  have sz_b2_5 : h0.size ≤ b2_5 := Nat.le_trans K1.1 tk2_5
  have ne_b1_b2_5 : b1 ≠ b2_5 := Nat.ne_of_lt (Nat.lt_of_lt_of_le E_b1_v1.lt tk2_5)
  have gn_b2_6 : Z.heap.size ≤ b2_6 := Nat.le_trans O1.2.1 tk2_6
  have sz_b2_6 : h0.size ≤ b2_6 := Nat.le_trans K1.1 tk2_6
  have ne_b1_b2_6 : b1 ≠ b2_6 := Nat.ne_of_lt (Nat.lt_of_lt_of_le E_b1_v1.lt tk2_6)
  have gn_b2_7 : Z.heap.size ≤ b2_7 := Nat.le_trans O1.2.1 tk2_7
  have sz_b2_7 : h0.size ≤ b2_7 := Nat.le_trans K1.1 tk2_7
  have ne_b1_b2_7 : b1 ≠ b2_7 := Nat.ne_of_lt (Nat.lt_of_lt_of_le E_b1_v1.lt tk2_7)
  have gn_b2_8 : Z.heap.size ≤ b2_8 := Nat.le_trans O1.2.1 tk2_8
  have sz_b2_8 : h0.size ≤ b2_8 := Nat.le_trans K1.1 tk2_8
  have ne_b1_b2_8 : b1 ≠ b2_8 := Nat.ne_of_lt (Nat.lt_of_lt_of_le E_b1_v1.lt tk2_8)
  have E_b1_v2 := E_b1_v1.keep Kq2
  have O2 := O1.keep Kq2 (allS gn_b1 all0)
  have K2 : Keep h0 T2.heap [] := K1.trans Kq2 (allS (Or.inr sz_b1) all0)
  obtain ⟨cq3, kq3, q3a, q3b, q3c⟩ := isOf hZ rfl tk2_45
  obtain ⟨_, _, ⟨T3, L3, k3, n3⟩, -, X3, ⟨Lc3, hQ3, l3, y3, z3⟩, st3⟩ := X2.virtualBack hx (y := (⟨s_0, "hasBlocks", "()Z"⟩ : MethodName)) (z := (⟨s_0, "hasBlocks", "()Z"⟩ : MethodName)) hown (mvT hZ (W hw 52 rfl)) (mvT hZ (W hw 53 rfl)) (notFace_of_selects (args := #[]) (mvT hZ (W hw 55 rfl))) (mvT hZ (W hw 55 rfl)) (mvT hZ (W hw 54 rfl)) (by decide) (backOf (W := 0) (rm_5 l Z a0 hw w kk iw vw hN [] b1 b2_0 b2_1 b2_2 b2_3 b2_4 kb2_0 kb2_1 kb2_2 kb2_3 b2_8 kb2_7 T2.heap O2 gn_b1 tk2_45.lt tk2_45 gn_b2_0 tk2_57.lt tk2_46 gn_b2_1 tk2_58.lt tk2_47 gn_b2_2 tk2_59.lt tk2_48 gn_b2_3 tk2_60.lt tk2_49 gn_b2_4 tk2_61.lt tk2_50 tk2_51 tk2_52 tk2_56 tk2_57 tk2_58 tk2_59 tk2_60 tk2_61 tk2_62 tk2_63 gn_b2_8 tk2_68.lt tk2_64 tk2_68 ne_b1_b2_0 ne_b1_b2_1 ne_b1_b2_2 ne_b1_b2_3 ne_b1_b2_4 ne_b1_b2_8 tk2_9 tk2_10 tk2_11 tk2_12 tk2_16 tk2_17 tk2_18 tk2_19 tk2_23 tk2_24 tk2_25 tk2_29 tk2_30 tk2_34 tk2_38) hZ (W hw 56 rfl) (W hw 2 rfl) (by decide) (by decide)) q3a q3c (g := (mkF m 16 #[.val (.int i0), .val (.int i1), .val (.int i2), .val (.int i3), .val (.int (3 : Int32)), .val (.ref b1), .unset] [(.ref b1)])) rfl (by rw [hml]; rfl) (Steps.refl _) (argsL := []) (rest := []) (lenOf pd_3 rfl) rfl (by show 2 * 0 + _ ≤ _; exact Nat.le_of_eq rfl) (hb hby at_16) (fun _ _ => ⟨rfl, rfl, (by decide : 10 + 0 ≤ _), (by decide : 467 + 0 ≤ _)⟩)
  dsimp only [Pt.U, Pt.locs, Pt.cells, Pt.slots] at X3 l3 y3 z3 st3 hQ3
  subst l3 y3 z3
  obtain ⟨rfl, N3q, e3⟩ := hQ3
  have N3 := Fr.app N2 N3q
  obtain ⟨cq4, kq4, q4a, q4b, q4c⟩ := isOf hZ e3 tk2_45
  obtain ⟨_, _, ⟨T4, L4, k4, n4⟩, -, X4, ⟨Lc4, hQ4, l4, y4, z4⟩, st4⟩ := X3.virtualBack hx (y := (⟨s_0, "addBlock", "()V"⟩ : MethodName)) (z := (⟨s_0, "addBlock", "()V"⟩ : MethodName)) hown (mvT hZ (W hw 59 rfl)) (mvT hZ (W hw 60 rfl)) (notFace_of_selects (args := #[]) (mvT hZ (W hw 62 rfl))) (mvT hZ (W hw 62 rfl)) (mvT hZ (W hw 61 rfl)) (by decide) (backOf (W := 0) (rm_9 l Z a0 hw w kk iw vw hN [] b1 b2_0 b2_1 b2_2 b2_3 b2_4 kb2_0 kb2_1 kb2_2 kb2_3 b2_8 kb2_7 T2.heap O2 gn_b1 tk2_45.lt tk2_45 gn_b2_0 tk2_57.lt tk2_46 gn_b2_1 tk2_58.lt tk2_47 gn_b2_2 tk2_59.lt tk2_48 gn_b2_3 tk2_60.lt tk2_49 gn_b2_4 tk2_61.lt tk2_50 tk2_51 tk2_52 tk2_56 tk2_57 tk2_58 tk2_59 tk2_60 tk2_61 tk2_62 tk2_63 gn_b2_8 tk2_68.lt tk2_64 tk2_68 ne_b1_b2_0 ne_b1_b2_1 ne_b1_b2_2 ne_b1_b2_3 ne_b1_b2_4 ne_b1_b2_8 tk2_9 tk2_10 tk2_11 tk2_12 tk2_16 tk2_17 tk2_18 tk2_19 tk2_23 tk2_24 tk2_25 tk2_29 tk2_30 tk2_34 tk2_38) hZ (W hw 63 rfl) (W hw 2 rfl) (by decide) (by decide)) q4a q4c (g := (mkF m 37 #[.val (.int i0), .val (.int i1), .val (.int i2), .val (.int i3), .val (.int (3 : Int32)), .val (.ref b1), .val (.int (1 : Int32))] [(.ref b1)])) rfl (by rw [hml]; rfl) (Steps.refl _) (argsL := []) (rest := []) (lenOf pd_2 rfl) rfl (by show 2 * 0 + _ ≤ _; exact Nat.le_of_eq rfl) (hb hby at_37) (fun _ _ => ⟨rfl, e3, (by decide : 10 + 0 ≤ _), (by decide : 467 + 0 ≤ _)⟩)
  dsimp only [Pt.U, Pt.locs, Pt.cells, Pt.slots] at X4 l4 y4 z4 st4 hQ4
  subst l4 y4 z4
  obtain ⟨rfl, N4q, Kq4, tk4_0, tk4_1, tk4_2, tk4_3, tk4_4, tk4_5, tk4_6, tk4_7, tk4_8, tk4_9, tk4_10, tk4_11, tk4_12⟩ := hQ4
  have N4 := Fr.app N3 N4q
  have tk2_45_v4 := tk2_45.keep Kq4
  have tk2_61_v4 := tk2_61.keep Kq4
  have tk2_62_v4 := tk2_62.keep Kq4 (ninS (Ne.symm tk2_30) (ninS (Ne.symm tk2_25) (ninS (Ne.symm tk2_19) (ninS (Ne.symm tk2_12) (ninS (Ne.symm ne_b1_b2_4) nin0)))))
  have tk2_63_v4 := tk2_63.keep Kq4 (ninS (Ne.symm tk2_30) (ninS (Ne.symm tk2_25) (ninS (Ne.symm tk2_19) (ninS (Ne.symm tk2_12) (ninS (Ne.symm ne_b1_b2_4) nin0)))))
  have tk2_64_v4 := tk2_64.keep Kq4 (ninS (Ne.symm tk2_30) (ninS (Ne.symm tk2_25) (ninS (Ne.symm tk2_19) (ninS (Ne.symm tk2_12) (ninS (Ne.symm ne_b1_b2_4) nin0)))))
  have tk2_68_v4 := tk2_68.keep Kq4 (ninS (Ne.symm tk2_34) (ninS (Ne.symm tk2_29) (ninS (Ne.symm tk2_23) (ninS (Ne.symm tk2_16) (ninS (Ne.symm ne_b1_b2_8) nin0)))))
  have O4 := O2.keep Kq4 (allS gn_b2_3 (allS gn_b2_2 (allS gn_b2_1 (allS gn_b2_0 (allS gn_b1 all0)))))
  have K4 : Keep h0 T4.heap [] := K2.trans Kq4 (allS (Or.inr sz_b2_3) (allS (Or.inr sz_b2_2) (allS (Or.inr sz_b2_1) (allS (Or.inr sz_b2_0) (allS (Or.inr sz_b1) all0)))))
  obtain ⟨cq5, kq5, q5a, q5b, q5c⟩ := isOf hZ rfl tk4_0
  obtain ⟨_, _, ⟨T5, L5, k5, n5⟩, -, X5, ⟨Lc5, hQ5, l5, y5, z5⟩, st5⟩ := X4.virtualBack hx (y := (⟨s_0, "hasBlocks", "()Z"⟩ : MethodName)) (z := (⟨s_0, "hasBlocks", "()Z"⟩ : MethodName)) hown (mvT hZ (W hw 52 rfl)) (mvT hZ (W hw 53 rfl)) (notFace_of_selects (args := #[]) (mvT hZ (W hw 55 rfl))) (mvT hZ (W hw 55 rfl)) (mvT hZ (W hw 54 rfl)) (by decide) (backOf (W := 0) (rm_10 l Z a0 hw w kk iw vw hN [] b1 b2_0 b2_1 b2_2 b2_3 b2_4 kb2_0 kb2_1 kb2_2 kb2_3 b2_8 kb2_7 T4.heap O4 gn_b1 tk4_0.lt tk4_0 gn_b2_0 tk4_9.lt tk4_1 gn_b2_1 tk4_10.lt tk4_2 gn_b2_2 tk4_11.lt tk4_3 gn_b2_3 tk4_12.lt tk4_4 gn_b2_4 tk2_61_v4.lt tk4_5 tk4_6 tk4_7 tk4_8 tk4_9 tk4_10 tk4_11 tk4_12 tk2_61_v4 tk2_62_v4 tk2_63_v4 gn_b2_8 tk2_68_v4.lt tk2_64_v4 tk2_68_v4 ne_b1_b2_0 ne_b1_b2_1 ne_b1_b2_2 ne_b1_b2_3 ne_b1_b2_4 ne_b1_b2_8 tk2_9 tk2_10 tk2_11 tk2_12 tk2_16 tk2_17 tk2_18 tk2_19 tk2_23 tk2_24 tk2_25 tk2_29 tk2_30 tk2_34 tk2_38) hZ (W hw 56 rfl) (W hw 2 rfl) (by decide) (by decide)) q5a q5c (g := (mkF m 47 #[.val (.int i0), .val (.int i1), .val (.int i2), .val (.int i3), .val (.int (3 : Int32)), .val (.ref b1), .val (.int (1 : Int32))] [(.ref b1)])) rfl (by rw [hml]; rfl) (Steps.refl _) (argsL := []) (rest := []) (lenOf pd_3 rfl) rfl (by show 2 * 0 + _ ≤ _; exact Nat.le_of_eq rfl) (hb hby at_47) (fun _ _ => ⟨rfl, rfl, (by decide : 10 + 0 ≤ _), (by decide : 467 + 0 ≤ _)⟩)
  dsimp only [Pt.U, Pt.locs, Pt.cells, Pt.slots] at X5 l5 y5 z5 st5 hQ5
  subst l5 y5 z5
  obtain ⟨rfl, N5q, e5⟩ := hQ5
  have N5 := Fr.app N4 N5q
  obtain ⟨cq6, kq6, q6a, q6b, q6c⟩ := isOf hZ e5 tk4_0
  obtain ⟨_, _, ⟨T6, L6, k6, n6⟩, -, X6, ⟨Lc6, hQ6, l6, y6, z6⟩, st6⟩ := X5.virtualBack hx (y := (⟨s_0, "addBlock", "()V"⟩ : MethodName)) (z := (⟨s_0, "addBlock", "()V"⟩ : MethodName)) hown (mvT hZ (W hw 59 rfl)) (mvT hZ (W hw 60 rfl)) (notFace_of_selects (args := #[]) (mvT hZ (W hw 62 rfl))) (mvT hZ (W hw 62 rfl)) (mvT hZ (W hw 61 rfl)) (by decide) (backOf (W := 0) (rm_31 l Z a0 hw w kk iw vw hN [] b1 b2_0 b2_1 b2_2 b2_3 b2_4 kb2_0 kb2_1 kb2_2 kb2_3 b2_8 kb2_7 T4.heap O4 gn_b1 tk4_0.lt tk4_0 gn_b2_0 tk4_9.lt tk4_1 gn_b2_1 tk4_10.lt tk4_2 gn_b2_2 tk4_11.lt tk4_3 gn_b2_3 tk4_12.lt tk4_4 gn_b2_4 tk2_61_v4.lt tk4_5 tk4_6 tk4_7 tk4_8 tk4_9 tk4_10 tk4_11 tk4_12 tk2_61_v4 tk2_62_v4 tk2_63_v4 gn_b2_8 tk2_68_v4.lt tk2_64_v4 tk2_68_v4 ne_b1_b2_0 ne_b1_b2_1 ne_b1_b2_2 ne_b1_b2_3 ne_b1_b2_4 ne_b1_b2_8 tk2_9 tk2_10 tk2_11 tk2_12 tk2_16 tk2_17 tk2_18 tk2_19 tk2_23 tk2_24 tk2_25 tk2_29 tk2_30 tk2_34 tk2_38) hZ (W hw 63 rfl) (W hw 2 rfl) (by decide) (by decide)) q6a q6c (g := (mkF m 68 #[.val (.int i0), .val (.int i1), .val (.int i2), .val (.int i3), .val (.int (3 : Int32)), .val (.ref b1), .val (.int (1 : Int32))] [(.ref b1)])) rfl (by rw [hml]; rfl) (Steps.refl _) (argsL := []) (rest := []) (lenOf pd_2 rfl) rfl (by show 2 * 0 + _ ≤ _; exact Nat.le_of_eq rfl) (hb hby at_68) (fun _ _ => ⟨rfl, e5, (by decide : 10 + 0 ≤ _), (by decide : 467 + 0 ≤ _)⟩)
  dsimp only [Pt.U, Pt.locs, Pt.cells, Pt.slots] at X6 l6 y6 z6 st6 hQ6
  subst l6 y6 z6
  obtain ⟨rfl, N6q, Kq6, tk6_0, tk6_1, tk6_2, tk6_3, tk6_4, tk6_5, tk6_6, tk6_7, tk6_8, tk6_9, tk6_10, tk6_11, tk6_12⟩ := hQ6
  have N6 := Fr.app N5 N6q
  have tk4_0_v6 := tk4_0.keep Kq6
  have tk2_61_v6 := tk2_61_v4.keep Kq6
  have tk2_62_v6 := tk2_62_v4.keep Kq6 (ninS (Ne.symm tk2_30) (ninS (Ne.symm tk2_25) (ninS (Ne.symm tk2_19) (ninS (Ne.symm tk2_12) (ninS (Ne.symm ne_b1_b2_4) nin0)))))
  have tk2_63_v6 := tk2_63_v4.keep Kq6 (ninS (Ne.symm tk2_30) (ninS (Ne.symm tk2_25) (ninS (Ne.symm tk2_19) (ninS (Ne.symm tk2_12) (ninS (Ne.symm ne_b1_b2_4) nin0)))))
  have tk2_64_v6 := tk2_64_v4.keep Kq6 (ninS (Ne.symm tk2_30) (ninS (Ne.symm tk2_25) (ninS (Ne.symm tk2_19) (ninS (Ne.symm tk2_12) (ninS (Ne.symm ne_b1_b2_4) nin0)))))
  have tk2_68_v6 := tk2_68_v4.keep Kq6 (ninS (Ne.symm tk2_34) (ninS (Ne.symm tk2_29) (ninS (Ne.symm tk2_23) (ninS (Ne.symm tk2_16) (ninS (Ne.symm ne_b1_b2_8) nin0)))))
  have O6 := O4.keep Kq6 (allS gn_b2_3 (allS gn_b2_2 (allS gn_b2_1 (allS gn_b2_0 (allS gn_b1 all0)))))
  have K6 : Keep h0 T6.heap [] := K4.trans Kq6 (allS (Or.inr sz_b2_3) (allS (Or.inr sz_b2_2) (allS (Or.inr sz_b2_1) (allS (Or.inr sz_b2_0) (allS (Or.inr sz_b1) all0)))))
  obtain ⟨cq7, kq7, q7a, q7b, q7c⟩ := isOf hZ rfl tk6_0
  obtain ⟨_, _, ⟨T7, L7, k7, n7⟩, -, X7, ⟨Lc7, hQ7, l7, y7, z7⟩, st7⟩ := X6.virtualBack hx (y := (⟨s_0, "hasBlocks", "()Z"⟩ : MethodName)) (z := (⟨s_0, "hasBlocks", "()Z"⟩ : MethodName)) hown (mvT hZ (W hw 52 rfl)) (mvT hZ (W hw 53 rfl)) (notFace_of_selects (args := #[]) (mvT hZ (W hw 55 rfl))) (mvT hZ (W hw 55 rfl)) (mvT hZ (W hw 54 rfl)) (by decide) (backOf (W := 0) (rm_32 l Z a0 hw w kk iw vw hN [] b1 b2_0 b2_1 b2_2 b2_3 b2_4 kb2_0 kb2_1 kb2_2 kb2_3 b2_8 kb2_7 T6.heap O6 gn_b1 tk6_0.lt tk6_0 gn_b2_0 tk6_9.lt tk6_1 gn_b2_1 tk6_10.lt tk6_2 gn_b2_2 tk6_11.lt tk6_3 gn_b2_3 tk6_12.lt tk6_4 gn_b2_4 tk2_61_v6.lt tk6_5 tk6_6 tk6_7 tk6_8 tk6_9 tk6_10 tk6_11 tk6_12 tk2_61_v6 tk2_62_v6 tk2_63_v6 gn_b2_8 tk2_68_v6.lt tk2_64_v6 tk2_68_v6 ne_b1_b2_0 ne_b1_b2_1 ne_b1_b2_2 ne_b1_b2_3 ne_b1_b2_4 ne_b1_b2_8 tk2_9 tk2_10 tk2_11 tk2_12 tk2_16 tk2_17 tk2_18 tk2_19 tk2_23 tk2_24 tk2_25 tk2_29 tk2_30 tk2_34 tk2_38) hZ (W hw 56 rfl) (W hw 2 rfl) (by decide) (by decide)) q7a q7c (g := (mkF m 78 #[.val (.int i0), .val (.int i1), .val (.int i2), .val (.int i3), .val (.int (3 : Int32)), .val (.ref b1), .val (.int (1 : Int32))] [(.ref b1)])) rfl (by rw [hml]; rfl) (Steps.refl _) (argsL := []) (rest := []) (lenOf pd_3 rfl) rfl (by show 2 * 0 + _ ≤ _; exact Nat.le_of_eq rfl) (hb hby at_78) (fun _ _ => ⟨rfl, rfl, (by decide : 10 + 0 ≤ _), (by decide : 467 + 0 ≤ _)⟩)
  dsimp only [Pt.U, Pt.locs, Pt.cells, Pt.slots] at X7 l7 y7 z7 st7 hQ7
  subst l7 y7 z7
  obtain ⟨rfl, N7q, e7⟩ := hQ7
  have N7 := Fr.app N6 N7q
  obtain ⟨cq8, kq8, q8a, q8b, q8c⟩ := isOf hZ e7 tk6_0
  obtain ⟨_, _, ⟨T8, L8, k8, n8⟩, -, X8, ⟨Lc8, hQ8, l8, y8, z8⟩, st8⟩ := X7.virtualBack hx (y := (⟨s_0, "addBlock", "()V"⟩ : MethodName)) (z := (⟨s_0, "addBlock", "()V"⟩ : MethodName)) hown (mvT hZ (W hw 59 rfl)) (mvT hZ (W hw 60 rfl)) (notFace_of_selects (args := #[]) (mvT hZ (W hw 62 rfl))) (mvT hZ (W hw 62 rfl)) (mvT hZ (W hw 61 rfl)) (by decide) (backOf (W := 0) (rm_52 l Z a0 hw w kk iw vw hN [] b1 b2_0 b2_1 b2_2 b2_3 b2_4 kb2_0 kb2_1 kb2_2 kb2_3 b2_8 kb2_7 T6.heap O6 gn_b1 tk6_0.lt tk6_0 gn_b2_0 tk6_9.lt tk6_1 gn_b2_1 tk6_10.lt tk6_2 gn_b2_2 tk6_11.lt tk6_3 gn_b2_3 tk6_12.lt tk6_4 gn_b2_4 tk2_61_v6.lt tk6_5 tk6_6 tk6_7 tk6_8 tk6_9 tk6_10 tk6_11 tk6_12 tk2_61_v6 tk2_62_v6 tk2_63_v6 gn_b2_8 tk2_68_v6.lt tk2_64_v6 tk2_68_v6 ne_b1_b2_0 ne_b1_b2_1 ne_b1_b2_2 ne_b1_b2_3 ne_b1_b2_4 ne_b1_b2_8 tk2_9 tk2_10 tk2_11 tk2_12 tk2_16 tk2_17 tk2_18 tk2_19 tk2_23 tk2_24 tk2_25 tk2_29 tk2_30 tk2_34 tk2_38) hZ (W hw 63 rfl) (W hw 2 rfl) (by decide) (by decide)) q8a q8c (g := (mkF m 99 #[.val (.int i0), .val (.int i1), .val (.int i2), .val (.int i3), .val (.int (3 : Int32)), .val (.ref b1), .val (.int (1 : Int32))] [(.ref b1)])) rfl (by rw [hml]; rfl) (Steps.refl _) (argsL := []) (rest := []) (lenOf pd_2 rfl) rfl (by show 2 * 0 + _ ≤ _; exact Nat.le_of_eq rfl) (hb hby at_99) (fun _ _ => ⟨rfl, e7, (by decide : 10 + 0 ≤ _), (by decide : 467 + 0 ≤ _)⟩)
  dsimp only [Pt.U, Pt.locs, Pt.cells, Pt.slots] at X8 l8 y8 z8 st8 hQ8
  subst l8 y8 z8
  obtain ⟨rfl, N8q, Kq8, tk8_0, tk8_1, tk8_2, tk8_3, tk8_4, tk8_5, tk8_6, tk8_7, tk8_8, tk8_9, tk8_10, tk8_11, tk8_12⟩ := hQ8
  have N8 := Fr.app N7 N8q
  have tk6_0_v8 := tk6_0.keep Kq8
  have tk2_61_v8 := tk2_61_v6.keep Kq8
  have tk2_62_v8 := tk2_62_v6.keep Kq8 (ninS (Ne.symm tk2_30) (ninS (Ne.symm tk2_25) (ninS (Ne.symm tk2_19) (ninS (Ne.symm tk2_12) (ninS (Ne.symm ne_b1_b2_4) nin0)))))
  have tk2_63_v8 := tk2_63_v6.keep Kq8 (ninS (Ne.symm tk2_30) (ninS (Ne.symm tk2_25) (ninS (Ne.symm tk2_19) (ninS (Ne.symm tk2_12) (ninS (Ne.symm ne_b1_b2_4) nin0)))))
  have tk2_64_v8 := tk2_64_v6.keep Kq8 (ninS (Ne.symm tk2_30) (ninS (Ne.symm tk2_25) (ninS (Ne.symm tk2_19) (ninS (Ne.symm tk2_12) (ninS (Ne.symm ne_b1_b2_4) nin0)))))
  have tk2_68_v8 := tk2_68_v6.keep Kq8 (ninS (Ne.symm tk2_34) (ninS (Ne.symm tk2_29) (ninS (Ne.symm tk2_23) (ninS (Ne.symm tk2_16) (ninS (Ne.symm ne_b1_b2_8) nin0)))))
  have O8 := O6.keep Kq8 (allS gn_b2_3 (allS gn_b2_2 (allS gn_b2_1 (allS gn_b2_0 (allS gn_b1 all0)))))
  have K8 : Keep h0 T8.heap [] := K6.trans Kq8 (allS (Or.inr sz_b2_3) (allS (Or.inr sz_b2_2) (allS (Or.inr sz_b2_1) (allS (Or.inr sz_b2_0) (allS (Or.inr sz_b1) all0)))))
  refine ⟨T8, _, b1, b2_0, b2_1, b2_2, b2_3, b2_4, b2_8, kb2_0, kb2_1, kb2_2, kb2_3, kb2_7, X8, fun target kt => ?_, N8, K8, sz_b1, sz_b2_0, sz_b2_1, sz_b2_2, sz_b2_3, sz_b2_4, sz_b2_8, ne_b1_b2_0, ne_b1_b2_1, ne_b1_b2_2, ne_b1_b2_3, ne_b1_b2_4, ne_b1_b2_8, tk2_9, tk2_10, tk2_11, tk2_12, tk2_16, tk2_17, tk2_18, tk2_19, tk2_23, tk2_24, tk2_25, tk2_29, tk2_30, tk2_34, tk2_38, tk8_0, tk8_1, tk8_2, tk8_3, tk8_4, tk8_5, tk8_6, tk8_7, tk8_8, tk8_9, tk8_10, tk8_11, tk8_12, tk2_61_v8, tk2_62_v8, tk2_63_v8, tk2_64_v8, tk2_68_v8⟩
  show Steps p.tables e below (T0.setTop (mkF m 5 #[.val (.int i0), .val (.int i1), .val (.int i2), .val (.int i3), .val (.int (3 : Int32)), .unset, .unset] [])) _
  refine st1 _ ?_
  refine XS.dup X1.here hx rfl (hb hby at_8) rfl rfl ?_
  refine st2.trans ?_
  refine XS.astore X2.here hx rfl (hb hby at_12) rfl rfl (l' := #[.val (.int i0), .val (.int i1), .val (.int i2), .val (.int i3), .val (.int (3 : Int32)), .val (.ref b1), .unset]) rfl ?_
  refine XS.aload X2.here hx rfl (hb hby at_14) rfl rfl ?_
  refine st3.trans ?_
  refine XS.ifNo X3.here hx rfl (hb hby at_19) rfl ((if0 _ _).trans (teq (by decide : (0 : Int32) = (0 : Int32))).2) ?_
  refine XS.iconst X3.here hx rfl (hb hby at_22) ?_
  show Steps p.tables e below (T3.setTop (mkF m 23 #[.val (.int i0), .val (.int i1), .val (.int i2), .val (.int i3), .val (.int (3 : Int32)), .val (.ref b1), .unset] [(.int (1 : Int32))])) _
  refine XS.goto X3.here hx rfl (pc0 := 23) (pc' := 27) rfl (hb hby at_23) (by decide) (by decide) ?_
  refine XS.istore X3.here hx rfl (hb hby at_27) rfl (l' := #[.val (.int i0), .val (.int i1), .val (.int i2), .val (.int i3), .val (.int (3 : Int32)), .val (.ref b1), .val (.int (1 : Int32))]) rfl ?_
  refine XS.iload X3.here hx rfl (hb hby at_29) rfl ?_
  refine XS.iconst X3.here hx rfl (hb hby at_31) ?_
  refine XS.icmpNo X3.here hx rfl (hb hby at_32) rfl (flt (by decide : ¬ ((3 : Int32) < (1 : Int32)))).1 ?_
  refine XS.aload X3.here hx rfl (hb hby at_35) rfl rfl ?_
  refine st4.trans ?_
  refine XS.iload X4.here hx rfl (hb hby at_40) rfl ?_
  show Steps p.tables e below (T4.setTop (mkF m 42 #[.val (.int i0), .val (.int i1), .val (.int i2), .val (.int i3), .val (.int (3 : Int32)), .val (.ref b1), .val (.int (1 : Int32))] [(.int (1 : Int32))])) _
  refine XS.ifNo X4.here hx rfl (hb hby at_42) rfl ((if0 _ _).trans (feq (by decide : ¬ ((1 : Int32) = (0 : Int32)))).1) ?_
  refine XS.aload X4.here hx rfl (hb hby at_45) rfl rfl ?_
  refine st5.trans ?_
  refine XS.ifNo X5.here hx rfl (hb hby at_50) rfl ((if0 _ _).trans (feq (by decide : ¬ ((1 : Int32) = (0 : Int32)))).1) ?_
  refine XS.iconst X5.here hx rfl (hb hby at_53) ?_
  refine XS.goto X5.here hx rfl (pc0 := 54) (pc' := 58) rfl (hb hby at_54) (by decide) (by decide) ?_
  refine XS.istore X5.here hx rfl (hb hby at_58) rfl (l' := #[.val (.int i0), .val (.int i1), .val (.int i2), .val (.int i3), .val (.int (3 : Int32)), .val (.ref b1), .val (.int (1 : Int32))]) rfl ?_
  refine XS.iload X5.here hx rfl (hb hby at_60) rfl ?_
  show Steps p.tables e below (T5.setTop (mkF m 62 #[.val (.int i0), .val (.int i1), .val (.int i2), .val (.int i3), .val (.int (3 : Int32)), .val (.ref b1), .val (.int (1 : Int32))] [(.int (3 : Int32))])) _
  refine XS.iconst X5.here hx rfl (hb hby at_62) ?_
  refine XS.icmpNo X5.here hx rfl (hb hby at_63) rfl (flt (by decide : ¬ ((3 : Int32) < (2 : Int32)))).1 ?_
  refine XS.aload X5.here hx rfl (hb hby at_66) rfl rfl ?_
  refine st6.trans ?_
  refine XS.iload X6.here hx rfl (hb hby at_71) rfl ?_
  refine XS.ifNo X6.here hx rfl (hb hby at_73) rfl ((if0 _ _).trans (feq (by decide : ¬ ((1 : Int32) = (0 : Int32)))).1) ?_
  refine XS.aload X6.here hx rfl (hb hby at_76) rfl rfl ?_
  refine st7.trans ?_
  show Steps p.tables e below (T7.setTop (mkF m 81 #[.val (.int i0), .val (.int i1), .val (.int i2), .val (.int i3), .val (.int (3 : Int32)), .val (.ref b1), .val (.int (1 : Int32))] [(.int (1 : Int32))])) _
  refine XS.ifNo X7.here hx rfl (hb hby at_81) rfl ((if0 _ _).trans (feq (by decide : ¬ ((1 : Int32) = (0 : Int32)))).1) ?_
  refine XS.iconst X7.here hx rfl (hb hby at_84) ?_
  refine XS.goto X7.here hx rfl (pc0 := 85) (pc' := 89) rfl (hb hby at_85) (by decide) (by decide) ?_
  refine XS.istore X7.here hx rfl (hb hby at_89) rfl (l' := #[.val (.int i0), .val (.int i1), .val (.int i2), .val (.int i3), .val (.int (3 : Int32)), .val (.ref b1), .val (.int (1 : Int32))]) rfl ?_
  refine XS.iload X7.here hx rfl (hb hby at_91) rfl ?_
  refine XS.iconst X7.here hx rfl (hb hby at_93) ?_
  refine XS.icmpNo X7.here hx rfl (hb hby at_94) rfl (flt (by decide : ¬ ((3 : Int32) < (3 : Int32)))).1 ?_
  refine XS.aload X7.here hx rfl (hb hby at_97) rfl rfl ?_
  show Steps p.tables e below (T7.setTop (mkF m 99 #[.val (.int i0), .val (.int i1), .val (.int i2), .val (.int i3), .val (.int (3 : Int32)), .val (.ref b1), .val (.int (1 : Int32))] [(.ref b1)])) _
  refine st8.trans ?_
  exact kt
set_option maxRecDepth 65536 in
set_option maxHeartbeats 40000000 in
theorem rm_54 (l : Launch) (Z : State) (a0 : Array Value) (hw : ∀ d ∈ tables_1, d.before a0 Z = true) (w : Nat → Addr) (kk : Nat → ClassId) (iw : Nat → Int32) (vw : Nat → Value) (hN : Wd Z w kk iw vw) (ws : List Jvm.Cond) (o1 : Addr) (o2 : Addr) (o3 : Addr) (o4 : Addr) (o5 : Addr) (o6 : Addr) (kc_o2 : ClassId) (kc_o3 : ClassId) (kc_o4 : ClassId) (kc_o5 : ClassId) (o7 : Addr) (kc_o7 : ClassId) (h0 : Heap) (O0 : Old Z Z.heap.size h0) (gn_o1 : Z.heap.size ≤ o1) (lt_o1 : o1 < h0.size) (E_o1 : Exa Z h0 o1 s_0) (gn_o2 : Z.heap.size ≤ o2) (lt_o2 : o2 < h0.size) (F_o1_nextBlock : Fld Z h0 o1 s_0 "nextBlock" "[I" (.ref o2)) (gn_o3 : Z.heap.size ≤ o3) (lt_o3 : o3 < h0.size) (F_o1_previousBlock : Fld Z h0 o1 s_0 s_5 "[I" (.ref o3)) (gn_o4 : Z.heap.size ≤ o4) (lt_o4 : o4 < h0.size) (F_o1_firstPiece : Fld Z h0 o1 s_0 "firstPiece" "[I" (.ref o4)) (gn_o5 : Z.heap.size ≤ o5) (lt_o5 : o5 < h0.size) (F_o1_lastPiece : Fld Z h0 o1 s_0 "lastPiece" "[I" (.ref o5)) (gn_o6 : Z.heap.size ≤ o6) (lt_o6 : o6 < h0.size) (F_o1_closed : Fld Z h0 o1 s_0 "closed" s_3 (.ref o6)) (F_o1_firstBlock : Fld Z h0 o1 s_0 "firstBlock" "I" (.int (0 : Int32))) (F_o1_lastBlock : Fld Z h0 o1 s_0 "lastBlock" "I" (.int (2 : Int32))) (F_o1_blockCount : Fld Z h0 o1 s_0 "blockCount" "I" (.int (3 : Int32))) (V_o2 : Arv Z h0 o2 kc_o2 .int (64 : Int32) [(.int (1 : Int32)), (.int (2 : Int32)), (.int (-1 : Int32))] (.int (0 : Int32))) (V_o3 : Arv Z h0 o3 kc_o3 .int (64 : Int32) [(.int (-1 : Int32)), (.int (0 : Int32)), (.int (1 : Int32))] (.int (0 : Int32))) (V_o4 : Arv Z h0 o4 kc_o4 .int (64 : Int32) [(.int (-1 : Int32)), (.int (-1 : Int32)), (.int (-1 : Int32))] (.int (0 : Int32))) (V_o5 : Arv Z h0 o5 kc_o5 .int (64 : Int32) [(.int (-1 : Int32)), (.int (-1 : Int32)), (.int (-1 : Int32))] (.int (0 : Int32))) (E_o6 : Exa Z h0 o6 s_1) (F_o6_wordsInUse : Fld Z h0 o6 s_1 "wordsInUse" "I" (.int (0 : Int32))) (F_o6_sizeIsSticky : Fld Z h0 o6 s_1 s_6 "Z" (.int (0 : Int32))) (gn_o7 : Z.heap.size ≤ o7) (lt_o7 : o7 < h0.size) (F_o6_words : Fld Z h0 o6 s_1 "words" "[J" (.ref o7)) (V_o7 : Arv Z h0 o7 kc_o7 .long (1 : Int32) [] (.long (0 : Int64))) (ne_o1_o2 : o1 ≠ o2) (ne_o1_o3 : o1 ≠ o3) (ne_o1_o4 : o1 ≠ o4) (ne_o1_o5 : o1 ≠ o5) (ne_o1_o6 : o1 ≠ o6) (ne_o1_o7 : o1 ≠ o7) (ne_o2_o3 : o2 ≠ o3) (ne_o2_o4 : o2 ≠ o4) (ne_o2_o5 : o2 ≠ o5) (ne_o2_o6 : o2 ≠ o6) (ne_o2_o7 : o2 ≠ o7) (ne_o3_o4 : o3 ≠ o4) (ne_o3_o5 : o3 ≠ o5) (ne_o3_o6 : o3 ≠ o6) (ne_o3_o7 : o3 ≠ o7) (ne_o4_o5 : o4 ≠ o5) (ne_o4_o6 : o4 ≠ o6) (ne_o4_o7 : o4 ≠ o7) (ne_o5_o6 : o5 ≠ o6) (ne_o5_o7 : o5 ≠ o7) (ne_o6_o7 : o6 ≠ o7) :
    Met l Z (⟨s_0, "hasBlocks", "()Z"⟩ : MethodName) (Jvm.Cond.code (⟨s_0, "hasBlocks", "()Z"⟩ : MethodName) prog_20_method_2_code 1 (some .boolean)) ws (Rm 0 0 0 0) #[(.ref o1)] h0 (OQ (some (.int (1 : Int32))) h0 Z.heap.size) := by
  have hN' := hN
  have hL0 : Sta Z Z.heap s_1 s_4 "Z" (.int (1 : Int32)) := hN'
  refine own_body (plainFor_of_name pn_1) hisR ?_
  intro p e s m below meth c s₁ hx hby hml hown hnm hret X0 hZ e0
  have N0 := Fr.nil Z.heap.size
  obtain ⟨T1, X1, e1, st1⟩ := getF X0 hx hZ hown (host := "") (Or.inl (W hw 57 rfl)) Via.refl e0 F_o1_blockCount (g := (mkF m 1 #[.val (.ref o1)] [(.ref o1)])) rfl rfl (hb hby d4_1)
  refine ⟨T1, some (.int (1 : Int32)), _, _, _, by decide, by decide, X1, nofun, (by rw [e1]; exact ⟨rfl, N0, rfl⟩), fun fs hr => castTop (ef_2 m (.ref o1) rfl) ?_⟩
  show Steps p.tables e below (s₁.setTop (mkF m 0 #[.val (.ref o1)] [])) _
  refine XS.aloadN X0.here hx rfl (hb hby d4_0) rfl rfl ?_
  refine st1 _ ?_
  refine XS.ifNo X1.here hx rfl (hb hby d4_4) rfl ((if0 _ _).trans (tlt (by decide : (0 : Int32) < (3 : Int32))).2.2.2) ?_
  refine XS.iconst X1.here hx rfl (hb hby d4_7) ?_
  refine XS.goto X1.here hx rfl (pc0 := 8) (pc' := 12) rfl (hb hby d4_8) (by decide) (by decide) ?_
  show Steps p.tables e below (T1.setTop (mkF m 12 #[.val (.ref o1)] [(.int (1 : Int32))])) _
  exact retN X1 hx (t := .boolean) hret (by simp) (hb hby d4_12) hr
set_option maxRecDepth 65536 in
set_option maxHeartbeats 40000000 in
theorem law_55 (l : Launch) (Z : State) (a0 : Array Value) (hw : ∀ d ∈ tables_1, d.before a0 Z = true) (w : Nat → Addr) (kk : Nat → ClassId) (iw : Nat → Int32) (vw : Nat → Value) (hN : Wd Z w kk iw vw) (ws : List Jvm.Cond) (p0 : Int32) (p1 : Int32) (p2 : Int32) (p3 : Int32) (h0 : Heap) (O0 : Old Z Z.heap.size h0) (hp0 : (p0 &&& (3 : Int32)) = (3 : Int32)) (hp1 : (p1 &&& (1 : Int32)) = (0 : Int32)) (hp2 : (p3 &&& (1 : Int32)) = (0 : Int32)) :
    MetFree l x (head1 (Jvm.Cond.code x code maxLocals ret :: ws) room_1) (fun a U => a = #[(.int p0), (.int p1), (.int p2), (.int p3)] ∧ Z.Warmed39 U.vm ∧ U.heap = h0) (fun _ _ _ _ _ => True) (fun _ U o U' => ∃ v L, o = .returned v ∧ OL (some (.int (1 : Int32))) Z.heap.size v U'.heap L ∧ ReturnedEndW U o U' L 32 3072) := by
  have hN' := hN
  have hL0 : Sta Z Z.heap s_1 s_4 "Z" (.int (1 : Int32)) := hN'
  refine MetFree.of_bodySF (plainFor_of_name pn_2) hisR ?_
  intro p e s m args below meth c s₁ Bd hml0 hP hK
  obtain ⟨rfl, hZ, hh⟩ := hP
  have hx := Bd.exec
  have hby := Bd.bytes
  have hml : c.maxLocals = 7 := hml0
  have hown : s.vm.findClass s_2 = some m.cls := findClass_of_methodNamed Bd.named
  have hnm := (name_of_methodNamed Bd.named Bd.method).1
  have X0 : Stand p l e room_1 s m #[(.int p0), (.int p1), (.int p2), (.int p3)] below meth c s₁ [] 0 0 := Stand.of_body Bd
  have e0 : s₁.heap = h0 := by rw [← hh, Bd.state]; rfl
  have N0 := Fr.nil Z.heap.size
  obtain ⟨T1, L1, b1_0, b1_1, b1_2, b1_3, b1_4, b1_5, b1_6, kb1_0, kb1_1, kb1_2, kb1_3, kb1_4, X1, st1, N1, Kq1, tk1_0, tk1_1, tk1_2, tk1_3, tk1_4, tk1_5, tk1_6, tk1_7, tk1_8, tk1_9, tk1_10, tk1_11, tk1_12, tk1_13, tk1_14, tk1_15, tk1_16, tk1_17, tk1_18, tk1_19, tk1_20, tk1_21, tk1_22, tk1_23, tk1_24, tk1_25, tk1_26, tk1_27, tk1_28, tk1_29, tk1_30, tk1_31, tk1_32, tk1_33, tk1_34, tk1_35, tk1_36, tk1_37, tk1_38, tk1_39, tk1_40, tk1_41, tk1_42, tk1_43, tk1_44, tk1_45⟩ := sg_53 w kk iw vw hN p0 p1 p2 p3 X0 hx hZ hw hby hml hown e0 O0 N0
  have gn_b1_0 : Z.heap.size ≤ b1_0 := Nat.le_trans O0.2.1 tk1_0
  have gn_b1_1 : Z.heap.size ≤ b1_1 := Nat.le_trans O0.2.1 tk1_1
  have gn_b1_2 : Z.heap.size ≤ b1_2 := Nat.le_trans O0.2.1 tk1_2
  have gn_b1_3 : Z.heap.size ≤ b1_3 := Nat.le_trans O0.2.1 tk1_3
  have gn_b1_4 : Z.heap.size ≤ b1_4 := Nat.le_trans O0.2.1 tk1_4
  have gn_b1_5 : Z.heap.size ≤ b1_5 := Nat.le_trans O0.2.1 tk1_5
  have gn_b1_6 : Z.heap.size ≤ b1_6 := Nat.le_trans O0.2.1 tk1_6
  have O1 := O0.keep Kq1 all0
  obtain ⟨cq2, kq2, q2a, q2b, q2c⟩ := isOf hZ rfl tk1_28
  obtain ⟨_, _, ⟨T2, L2, k2, n2⟩, -, X2, ⟨Lc2, hQ2, l2, y2, z2⟩, st2⟩ := X1.virtualBack hx (y := (⟨s_0, "hasBlocks", "()Z"⟩ : MethodName)) (z := (⟨s_0, "hasBlocks", "()Z"⟩ : MethodName)) hown (mvT hZ (W hw 52 rfl)) (mvT hZ (W hw 53 rfl)) (notFace_of_selects (args := #[]) (mvT hZ (W hw 55 rfl))) (mvT hZ (W hw 55 rfl)) (mvT hZ (W hw 54 rfl)) (by decide) (backOf (W := 0) (rm_54 l Z a0 hw w kk iw vw hN [] b1_0 b1_1 b1_2 b1_3 b1_4 b1_5 kb1_0 kb1_1 kb1_2 kb1_3 b1_6 kb1_4 T1.heap O1 gn_b1_0 tk1_28.lt tk1_28 gn_b1_1 tk1_37.lt tk1_29 gn_b1_2 tk1_38.lt tk1_30 gn_b1_3 tk1_39.lt tk1_31 gn_b1_4 tk1_40.lt tk1_32 gn_b1_5 tk1_41.lt tk1_33 tk1_34 tk1_35 tk1_36 tk1_37 tk1_38 tk1_39 tk1_40 tk1_41 tk1_42 tk1_43 gn_b1_6 tk1_45.lt tk1_44 tk1_45 tk1_7 tk1_8 tk1_9 tk1_10 tk1_11 tk1_12 tk1_13 tk1_14 tk1_15 tk1_16 tk1_17 tk1_18 tk1_19 tk1_20 tk1_21 tk1_22 tk1_23 tk1_24 tk1_25 tk1_26 tk1_27) hZ (W hw 56 rfl) (W hw 2 rfl) (by decide) (by decide)) q2a q2c (g := (mkF m 157 #[.val (.int p0), .val (.int p1), .val (.int p2), .val (.int p3), .val (.int (3 : Int32)), .val (.ref b1_0), .val (.int (1 : Int32))] [(.ref b1_0)])) rfl (by rw [hml]; rfl) (Steps.refl _) (argsL := []) (rest := []) (lenOf pd_3 rfl) rfl (by show 2 * 0 + _ ≤ _; exact Nat.le_of_eq rfl) (hb hby at_157) (fun _ _ => ⟨rfl, rfl, (by decide : 10 + 0 ≤ _), (by decide : 467 + 0 ≤ _)⟩)
  dsimp only [Pt.U, Pt.locs, Pt.cells, Pt.slots] at X2 l2 y2 z2 st2 hQ2
  subst l2 y2 z2
  obtain ⟨rfl, N2q, e2⟩ := hQ2
  have N2 := Fr.app N1 N2q
  obtain ⟨fs, hr, hrun, hended, hW, hsame⟩ := X2.leave (v := some (.int (1 : Int32))) (fun h => by rw [Bd.returns] at h; cases h)
  refine ⟨_, _, castTop (ef_3 m (.int p0) rfl (.int p1) rfl (.int p2) rfl (.int p3) rfl) ?_, hrun, hended, _, _, rfl, ?_, ⟨_, rfl⟩, hW.wide, hW.no_new_pair _, hsame.mono (by decide) (by decide)⟩
  · show Steps p.tables e below (s₁.setTop (mkF m 0 #[.val (.int p0), .val (.int p1), .val (.int p2), .val (.int p3), .unset, .unset, .unset] [])) _
    refine XS.iloadN X0.here hx rfl (hb hby at_0) rfl ?_
    refine XS.iconst X0.here hx rfl (hb hby at_1) ?_
    refine XS.iand X0.here hx rfl (hb hby at_2) rfl ?_
    show Steps p.tables e below (s₁.setTop (mkF m 3 #[.val (.int p0), .val (.int p1), .val (.int p2), .val (.int p3), .unset, .unset, .unset] [(.int (p0 &&& (3 : Int32)))])) _
    rw [hp0]
    refine XS.istore X0.here hx rfl (hb hby at_3) rfl (l' := #[.val (.int p0), .val (.int p1), .val (.int p2), .val (.int p3), .val (.int (3 : Int32)), .unset, .unset]) rfl ?_
    show Steps p.tables e below (s₁.setTop (mkF m 5 #[.val (.int p0), .val (.int p1), .val (.int p2), .val (.int p3), .val (.int (3 : Int32)), .unset, .unset] [])) _
    refine st1 _ ?_
    refine XS.iload X1.here hx rfl (hb hby at_102) rfl ?_
    refine XS.ifNo X1.here hx rfl (hb hby at_104) rfl ((if0 _ _).trans (tlt (by decide : (0 : Int32) < (3 : Int32))).2.2.2) ?_
    refine XS.iloadN X1.here hx rfl (hb hby at_107) rfl ?_
    refine XS.iconst X1.here hx rfl (hb hby at_108) ?_
    refine XS.iand X1.here hx rfl (hb hby at_109) rfl ?_
    show Steps p.tables e below (T1.setTop (mkF m 110 #[.val (.int p0), .val (.int p1), .val (.int p2), .val (.int p3), .val (.int (3 : Int32)), .val (.ref b1_0), .val (.int (1 : Int32))] [(.int (p1 &&& (1 : Int32)))])) _
    rw [hp1]
    refine XS.ifYes X1.here hx rfl (pc0 := 110) (pc' := 125) rfl (hb hby at_110) rfl ((if0 _ _).trans (teq (by decide : (0 : Int32) = (0 : Int32))).1) (by decide) (by decide) ?_
    refine XS.iload X1.here hx rfl (hb hby at_125) rfl ?_
    show Steps p.tables e below (T1.setTop (mkF m 127 #[.val (.int p0), .val (.int p1), .val (.int p2), .val (.int p3), .val (.int (3 : Int32)), .val (.ref b1_0), .val (.int (1 : Int32))] [(.int (3 : Int32))])) _
    refine XS.ifNo X1.here hx rfl (hb hby at_127) rfl ((if0 _ _).trans (tlt (by decide : (0 : Int32) < (3 : Int32))).2.2.2) ?_
    refine XS.iloadN X1.here hx rfl (hb hby at_130) rfl ?_
    refine XS.iconst X1.here hx rfl (hb hby at_131) ?_
    refine XS.iand X1.here hx rfl (hb hby at_132) rfl ?_
    show Steps p.tables e below (T1.setTop (mkF m 133 #[.val (.int p0), .val (.int p1), .val (.int p2), .val (.int p3), .val (.int (3 : Int32)), .val (.ref b1_0), .val (.int (1 : Int32))] [(.int (p3 &&& (1 : Int32)))])) _
    rw [hp2]
    refine XS.ifYes X1.here hx rfl (pc0 := 133) (pc' := 150) rfl (hb hby at_133) rfl ((if0 _ _).trans (teq (by decide : (0 : Int32) = (0 : Int32))).1) (by decide) (by decide) ?_
    refine XS.iload X1.here hx rfl (hb hby at_150) rfl ?_
    refine XS.ifNo X1.here hx rfl (hb hby at_152) rfl ((if0 _ _).trans (feq (by decide : ¬ ((1 : Int32) = (0 : Int32)))).1) ?_
    refine XS.aload X1.here hx rfl (hb hby at_155) rfl rfl ?_
    show Steps p.tables e below (T1.setTop (mkF m 157 #[.val (.int p0), .val (.int p1), .val (.int p2), .val (.int p3), .val (.int (3 : Int32)), .val (.ref b1_0), .val (.int (1 : Int32))] [(.ref b1_0)])) _
    refine st2.trans ?_
    refine XS.iload X2.here hx rfl (hb hby at_160) rfl ?_
    refine XS.ifNo X2.here hx rfl (hb hby at_162) rfl ((if0 _ _).trans (tlt (by decide : (0 : Int32) < (3 : Int32))).2.2.2) ?_
    refine XS.iconst X2.here hx rfl (hb hby at_165) ?_
    refine XS.goto X2.here hx rfl (pc0 := 166) (pc' := 170) rfl (hb hby at_166) (by decide) (by decide) ?_
    refine XS.icmpNo X2.here hx rfl (hb hby at_170) rfl (teq (by decide : (1 : Int32) = (1 : Int32))).2 ?_
    refine XS.iconst X2.here hx rfl (hb hby at_173) ?_
    refine XS.goto X2.here hx rfl (pc0 := 174) (pc' := 178) rfl (hb hby at_174) (by decide) (by decide) ?_
    show Steps p.tables e below (T2.setTop (mkF m 178 #[.val (.int p0), .val (.int p1), .val (.int p2), .val (.int p3), .val (.int (3 : Int32)), .val (.ref b1_0), .val (.int (1 : Int32))] [(.int (1 : Int32))])) _
    refine XS.istore X2.here hx rfl (hb hby at_178) rfl (l' := #[.val (.int p0), .val (.int p1), .val (.int p2), .val (.int p3), .val (.int (3 : Int32)), .val (.ref b1_0), .val (.int (1 : Int32))]) rfl ?_
    refine XS.iload X2.here hx rfl (hb hby at_180) rfl ?_
    show Steps p.tables e below (T2.setTop (mkF m 182 #[.val (.int p0), .val (.int p1), .val (.int p2), .val (.int p3), .val (.int (3 : Int32)), .val (.ref b1_0), .val (.int (1 : Int32))] [(.int (1 : Int32))])) _
    exact retN X2 hx (t := .boolean) Bd.returns (by simp) (hb hby at_182) hr
  · show OL (some (.int (1 : Int32))) Z.heap.size _ T2.heap _
    exact ⟨rfl, N2⟩
set_option maxRecDepth 65536 in
set_option maxHeartbeats 40000000 in
theorem rm_56 (l : Launch) (Z : State) (a0 : Array Value) (hw : ∀ d ∈ tables_1, d.before a0 Z = true) (w : Nat → Addr) (kk : Nat → ClassId) (iw : Nat → Int32) (vw : Nat → Value) (hN : Wd Z w kk iw vw) (ws : List Jvm.Cond) (o1 : Addr) (p1 : Int32) (o2 : Addr) (o3 : Addr) (o4 : Addr) (o5 : Addr) (o6 : Addr) (o7 : Addr) (kc_o3 : ClassId) (kc_o4 : ClassId) (kc_o5 : ClassId) (kc_o6 : ClassId) (o8 : Addr) (kc_o8 : ClassId) (h0 : Heap) (O0 : Old Z Z.heap.size h0) (gn_o1 : Z.heap.size ≤ o1) (lt_o1 : o1 < h0.size) (E_o1 : Exa Z h0 o1 s_0) (gn_o3 : Z.heap.size ≤ o3) (lt_o3 : o3 < h0.size) (F_o1_nextBlock : Fld Z h0 o1 s_0 "nextBlock" "[I" (.ref o3)) (gn_o4 : Z.heap.size ≤ o4) (lt_o4 : o4 < h0.size) (F_o1_previousBlock : Fld Z h0 o1 s_0 s_5 "[I" (.ref o4)) (gn_o5 : Z.heap.size ≤ o5) (lt_o5 : o5 < h0.size) (F_o1_firstPiece : Fld Z h0 o1 s_0 "firstPiece" "[I" (.ref o5)) (gn_o6 : Z.heap.size ≤ o6) (lt_o6 : o6 < h0.size) (F_o1_lastPiece : Fld Z h0 o1 s_0 "lastPiece" "[I" (.ref o6)) (gn_o7 : Z.heap.size ≤ o7) (lt_o7 : o7 < h0.size) (F_o1_closed : Fld Z h0 o1 s_0 "closed" s_3 (.ref o7)) (F_o1_firstBlock : Fld Z h0 o1 s_0 "firstBlock" "I" (.int (0 : Int32))) (F_o1_lastBlock : Fld Z h0 o1 s_0 "lastBlock" "I" (.int (2 : Int32))) (F_o1_blockCount : Fld Z h0 o1 s_0 "blockCount" "I" (.int (3 : Int32))) (V_o3 : Arv Z h0 o3 kc_o3 .int (64 : Int32) [(.int (1 : Int32)), (.int (2 : Int32)), (.int (-1 : Int32))] (.int (0 : Int32))) (V_o4 : Arv Z h0 o4 kc_o4 .int (64 : Int32) [(.int (-1 : Int32)), (.int (0 : Int32)), (.int (1 : Int32))] (.int (0 : Int32))) (V_o5 : Arv Z h0 o5 kc_o5 .int (64 : Int32) [(.int (-1 : Int32)), (.int (-1 : Int32)), (.int (-1 : Int32))] (.int (0 : Int32))) (V_o6 : Arv Z h0 o6 kc_o6 .int (64 : Int32) [(.int (-1 : Int32)), (.int (-1 : Int32)), (.int (-1 : Int32))] (.int (0 : Int32))) (E_o7 : Exa Z h0 o7 s_1) (F_o7_wordsInUse : Fld Z h0 o7 s_1 "wordsInUse" "I" (.int (0 : Int32))) (F_o7_sizeIsSticky : Fld Z h0 o7 s_1 s_6 "Z" (.int (0 : Int32))) (gn_o8 : Z.heap.size ≤ o8) (lt_o8 : o8 < h0.size) (F_o7_words : Fld Z h0 o7 s_1 "words" "[J" (.ref o8)) (V_o8 : Arv Z h0 o8 kc_o8 .long (1 : Int32) [] (.long (0 : Int64))) (ne_o1_o3 : o1 ≠ o3) (ne_o1_o4 : o1 ≠ o4) (ne_o1_o5 : o1 ≠ o5) (ne_o1_o6 : o1 ≠ o6) (ne_o1_o7 : o1 ≠ o7) (ne_o1_o8 : o1 ≠ o8) (ne_o3_o4 : o3 ≠ o4) (ne_o3_o5 : o3 ≠ o5) (ne_o3_o6 : o3 ≠ o6) (ne_o3_o7 : o3 ≠ o7) (ne_o3_o8 : o3 ≠ o8) (ne_o4_o5 : o4 ≠ o5) (ne_o4_o6 : o4 ≠ o6) (ne_o4_o7 : o4 ≠ o7) (ne_o4_o8 : o4 ≠ o8) (ne_o5_o6 : o5 ≠ o6) (ne_o5_o7 : o5 ≠ o7) (ne_o5_o8 : o5 ≠ o8) (ne_o6_o7 : o6 ≠ o7) (ne_o6_o8 : o6 ≠ o8) (ne_o7_o8 : o7 ≠ o8) (hp0 : ¬ (p1 < (0 : Int32))) (hp1 : p1 < (3 : Int32)) :
    Met l Z (⟨s_0, "find", s_7⟩ : MethodName) (Jvm.Cond.code (⟨s_0, "find", s_7⟩ : MethodName) prog_20_method_11_code 3 (some .int)) ws (Rm 0 0 0 0) #[(.ref o1), (.int p1), (.ref o2)] h0 (OQ (some (.int p1)) h0 Z.heap.size) := by
  have hN' := hN
  have hL0 : Sta Z Z.heap s_1 s_4 "Z" (.int (1 : Int32)) := hN'
  refine own_body (plainFor_of_name pn_1) hisR ?_
  intro p e s m below meth c s₁ hx hby hml hown hnm hret X0 hZ e0
  have N0 := Fr.nil Z.heap.size
  obtain ⟨T1, X1, e1, st1⟩ := getF X0 hx hZ hown (host := "") (Or.inl (W hw 57 rfl)) Via.refl e0 F_o1_blockCount (g := (mkF m 6 #[.val (.ref o1), .val (.int p1), .val (.ref o2)] [(.ref o1), (.int p1)])) rfl rfl (hb hby d8_6)
  refine ⟨T1, some (.int p1), _, _, _, by decide, by decide, X1, nofun, (by rw [e1]; exact ⟨rfl, N0, rfl⟩), fun fs hr => castTop (ef_5 m (.ref o1) rfl (.int p1) rfl (.ref o2) rfl) ?_⟩
  show Steps p.tables e below (s₁.setTop (mkF m 0 #[.val (.ref o1), .val (.int p1), .val (.ref o2)] [])) _
  refine XS.iloadN X0.here hx rfl (hb hby d8_0) rfl ?_
  refine XS.ifNo X0.here hx rfl (hb hby d8_1) rfl ((if0 _ _).trans (flt hp0).1) ?_
  refine XS.iloadN X0.here hx rfl (hb hby d8_4) rfl ?_
  refine XS.aloadN X0.here hx rfl (hb hby d8_5) rfl rfl ?_
  refine st1 _ ?_
  refine XS.icmpYes X1.here hx rfl (pc0 := 9) (pc' := 27) rfl (hb hby d8_9) rfl (tlt hp1).1 (by decide) (by decide) ?_
  refine XS.iloadN X1.here hx rfl (hb hby d8_27) rfl ?_
  show Steps p.tables e below (T1.setTop (mkF m 28 #[.val (.ref o1), .val (.int p1), .val (.ref o2)] [(.int p1)])) _
  exact retI X1 hx hret (hb hby d8_28) hr
set_option maxRecDepth 65536 in
set_option maxHeartbeats 40000000 in
theorem rm_57 (l : Launch) (Z : State) (a0 : Array Value) (hw : ∀ d ∈ tables_1, d.before a0 Z = true) (w : Nat → Addr) (kk : Nat → ClassId) (iw : Nat → Int32) (vw : Nat → Value) (hN : Wd Z w kk iw vw) (ws : List Jvm.Cond) (o1 : Addr) (p1 : Int32) (o2 : Addr) (o3 : Addr) (o4 : Addr) (o5 : Addr) (o6 : Addr) (kc_o2 : ClassId) (kc_o3 : ClassId) (kc_o4 : ClassId) (kc_o5 : ClassId) (o7 : Addr) (kc_o7 : ClassId) (h0 : Heap) (O0 : Old Z Z.heap.size h0) (gn_o1 : Z.heap.size ≤ o1) (lt_o1 : o1 < h0.size) (E_o1 : Exa Z h0 o1 s_0) (gn_o2 : Z.heap.size ≤ o2) (lt_o2 : o2 < h0.size) (F_o1_nextBlock : Fld Z h0 o1 s_0 "nextBlock" "[I" (.ref o2)) (gn_o3 : Z.heap.size ≤ o3) (lt_o3 : o3 < h0.size) (F_o1_previousBlock : Fld Z h0 o1 s_0 s_5 "[I" (.ref o3)) (gn_o4 : Z.heap.size ≤ o4) (lt_o4 : o4 < h0.size) (F_o1_firstPiece : Fld Z h0 o1 s_0 "firstPiece" "[I" (.ref o4)) (gn_o5 : Z.heap.size ≤ o5) (lt_o5 : o5 < h0.size) (F_o1_lastPiece : Fld Z h0 o1 s_0 "lastPiece" "[I" (.ref o5)) (gn_o6 : Z.heap.size ≤ o6) (lt_o6 : o6 < h0.size) (F_o1_closed : Fld Z h0 o1 s_0 "closed" s_3 (.ref o6)) (F_o1_firstBlock : Fld Z h0 o1 s_0 "firstBlock" "I" (.int (0 : Int32))) (F_o1_lastBlock : Fld Z h0 o1 s_0 "lastBlock" "I" (.int (2 : Int32))) (F_o1_blockCount : Fld Z h0 o1 s_0 "blockCount" "I" (.int (3 : Int32))) (V_o2 : Arv Z h0 o2 kc_o2 .int (64 : Int32) [(.int (1 : Int32)), (.int (2 : Int32)), (.int (-1 : Int32))] (.int (0 : Int32))) (V_o3 : Arv Z h0 o3 kc_o3 .int (64 : Int32) [(.int (-1 : Int32)), (.int (0 : Int32)), (.int (1 : Int32))] (.int (0 : Int32))) (V_o4 : Arv Z h0 o4 kc_o4 .int (64 : Int32) [(.int (-1 : Int32)), (.int (-1 : Int32)), (.int (-1 : Int32))] (.int (0 : Int32))) (V_o5 : Arv Z h0 o5 kc_o5 .int (64 : Int32) [(.int (-1 : Int32)), (.int (-1 : Int32)), (.int (-1 : Int32))] (.int (0 : Int32))) (E_o6 : Exa Z h0 o6 s_1) (F_o6_wordsInUse : Fld Z h0 o6 s_1 "wordsInUse" "I" (.int (0 : Int32))) (F_o6_sizeIsSticky : Fld Z h0 o6 s_1 s_6 "Z" (.int (0 : Int32))) (gn_o7 : Z.heap.size ≤ o7) (lt_o7 : o7 < h0.size) (F_o6_words : Fld Z h0 o6 s_1 "words" "[J" (.ref o7)) (V_o7 : Arv Z h0 o7 kc_o7 .long (1 : Int32) [] (.long (0 : Int64))) (ne_o1_o2 : o1 ≠ o2) (ne_o1_o3 : o1 ≠ o3) (ne_o1_o4 : o1 ≠ o4) (ne_o1_o5 : o1 ≠ o5) (ne_o1_o6 : o1 ≠ o6) (ne_o1_o7 : o1 ≠ o7) (ne_o2_o3 : o2 ≠ o3) (ne_o2_o4 : o2 ≠ o4) (ne_o2_o5 : o2 ≠ o5) (ne_o2_o6 : o2 ≠ o6) (ne_o2_o7 : o2 ≠ o7) (ne_o3_o4 : o3 ≠ o4) (ne_o3_o5 : o3 ≠ o5) (ne_o3_o6 : o3 ≠ o6) (ne_o3_o7 : o3 ≠ o7) (ne_o4_o5 : o4 ≠ o5) (ne_o4_o6 : o4 ≠ o6) (ne_o4_o7 : o4 ≠ o7) (ne_o5_o6 : o5 ≠ o6) (ne_o5_o7 : o5 ≠ o7) (ne_o6_o7 : o6 ≠ o7) (hp0 : ¬ (p1 < (0 : Int32))) (hp1 : p1 < (3 : Int32)) (hp2 : (p1 >>> ((6 : Int32) &&& 31)) = (0 : Int32)) :
    MetW l Z (⟨s_0, "closeBlock", "(I)V"⟩ : MethodName) (Jvm.Cond.code (⟨s_0, "closeBlock", "(I)V"⟩ : MethodName) prog_20_method_6_code 2 none) ws (Rm 3 2 60 42) #[(.ref o1), (.int p1)] h0 (Qd_6 Z w kk iw vw o1 p1 o2 o3 o4 o5 o6 kc_o2 kc_o3 kc_o4 kc_o5 o7 kc_o7 h0 Z.heap.size) := by
  have hN' := hN
  have hL0 : Sta Z Z.heap s_1 s_4 "Z" (.int (1 : Int32)) := hN'
  refine own_bodyW (plainFor_of_name pn_1) hisR ?_
  intro p e s m below meth c s₁ hx hby hml hown hnm hret X0 hZ e0
  have N0 := Fr.nil Z.heap.size
  have K0 : Keep h0 h0 [o7, o6] := Keep.refl _ _
  obtain ⟨T1, X1, e1, st1⟩ := getF X0 hx hZ hown (host := "") (Or.inl (W hw 40 rfl)) Via.refl e0 F_o1_closed (g := (mkF m 1 #[.val (.ref o1), .val (.int p1)] [(.ref o1)])) rfl rfl (hb hby d7_1)
  obtain ⟨b2, T2, h2, k2, X2, e2, E2, hS2, hk2, hZ2, hown2, st2⟩ := ldcS (s := s) (vm0 := s.vm) X1 hx hZ hown (W hw 92 rfl) (own_atoms hw) e1 (own_since s 0) (Nat.zero_le _) (g := (mkF m 6 #[.val (.ref o1), .val (.int p1)] [(.int p1), (.ref o1), (.ref o6)])) rfl (hb hby d7_6) (n := 56) (by decide) (by decide) (by decide) (by decide)
  have E_o1_v2 := E_o1.ext E2
  have F_o1_nextBlock_v2 := F_o1_nextBlock.ext E2
  have F_o1_previousBlock_v2 := F_o1_previousBlock.ext E2
  have F_o1_firstPiece_v2 := F_o1_firstPiece.ext E2
  have F_o1_lastPiece_v2 := F_o1_lastPiece.ext E2
  have F_o1_closed_v2 := F_o1_closed.ext E2
  have F_o1_firstBlock_v2 := F_o1_firstBlock.ext E2
  have F_o1_lastBlock_v2 := F_o1_lastBlock.ext E2
  have F_o1_blockCount_v2 := F_o1_blockCount.ext E2
  have V_o2_v2 := V_o2.ext E2
  have V_o3_v2 := V_o3.ext E2
  have V_o4_v2 := V_o4.ext E2
  have V_o5_v2 := V_o5.ext E2
  have E_o6_v2 := E_o6.ext E2
  have F_o6_wordsInUse_v2 := F_o6_wordsInUse.ext E2
  have F_o6_sizeIsSticky_v2 := F_o6_sizeIsSticky.ext E2
  have F_o6_words_v2 := F_o6_words.ext E2
  have V_o7_v2 := V_o7.ext E2
  have O2 := O0.ext E2
  have K2 := K0.ext E2
  obtain ⟨cq3, q3, q3'⟩ := E_o1_v2.cell
  obtain ⟨_, _, ⟨T3, L3, k3, n3⟩, -, X3, ⟨Lc3, hQ3, l3, y3, z3⟩, st3⟩ := X2.privateBack hx (y := (⟨s_0, "find", s_7⟩ : MethodName)) hown2 (mvT hZ2 (W hw 83 rfl)) (mvT hZ2 (W hw 84 rfl)) (own_selpriv (mvT hZ2 (W hw 1 rfl)) (Cond.privateMethod_at (mvP hZ2 (W hw 85 rfl) (args := #[]))) (mvT hZ2 (W hw 84 rfl)) (by decide)) (Cond.privateMethod_at (mvP hZ2 (W hw 85 rfl) (args := #[]))) (mvT hZ2 (W hw 86 rfl)) (by decide) (backOf (W := 1) (rm_56 l Z a0 hw w kk iw vw hN [] o1 p1 b2 o2 o3 o4 o5 o6 kc_o2 kc_o3 kc_o4 kc_o5 o7 kc_o7 h2 O2 gn_o1 E_o1_v2.lt E_o1_v2 gn_o2 V_o2_v2.lt F_o1_nextBlock_v2 gn_o3 V_o3_v2.lt F_o1_previousBlock_v2 gn_o4 V_o4_v2.lt F_o1_firstPiece_v2 gn_o5 V_o5_v2.lt F_o1_lastPiece_v2 gn_o6 E_o6_v2.lt F_o1_closed_v2 F_o1_firstBlock_v2 F_o1_lastBlock_v2 F_o1_blockCount_v2 V_o2_v2 V_o3_v2 V_o4_v2 V_o5_v2 E_o6_v2 F_o6_wordsInUse_v2 F_o6_sizeIsSticky_v2 gn_o7 V_o7_v2.lt F_o6_words_v2 V_o7_v2 ne_o1_o2 ne_o1_o3 ne_o1_o4 ne_o1_o5 ne_o1_o6 ne_o1_o7 ne_o2_o3 ne_o2_o4 ne_o2_o5 ne_o2_o6 ne_o2_o7 ne_o3_o4 ne_o3_o5 ne_o3_o6 ne_o3_o7 ne_o4_o5 ne_o4_o6 ne_o4_o7 ne_o5_o6 ne_o5_o7 ne_o6_o7 hp0 hp1) hZ2 (W hw 86 rfl) (W hw 2 rfl) (by decide) (by decide)) (g := (mkF m 8 #[.val (.ref o1), .val (.int p1)] [(.ref b2), (.int p1), (.ref o1), (.ref o6)])) rfl (by rw [hml]; rfl) (Steps.refl _) (a := o1) (by rw [e2]; exact q3) q3' (argsL := [(.int p1), (.ref b2)]) (rest := [(.ref o6)]) (lenOf pd_5 rfl) rfl (by show 2 * 0 + _ ≤ _; exact Nat.le_of_eq rfl) (hb hby d7_8) (fun _ _ => ⟨rfl, e2, (by decide : 2 + 0 ≤ _), (by decide : 60 + 0 ≤ _)⟩)
  dsimp only [Pt.U, Pt.locs, Pt.cells, Pt.slots] at X3 l3 y3 z3 st3 hQ3
  subst l3 y3 z3
  obtain ⟨rfl, N3q, e3⟩ := hQ3
  have N3 := Fr.app N0 N3q
  obtain ⟨cq4, kq4, q4a, q4b, q4c⟩ := isOf hZ2 e3 E_o6_v2
  obtain ⟨_, _, ⟨T4, L4, k4, n4⟩, -, X4, ⟨Lc4, hQ4, l4, y4, z4⟩, st4⟩ := X3.virtualBack hx (y := (⟨s_1, "set", "(I)V"⟩ : MethodName)) (z := (⟨s_1, "set", "(I)V"⟩ : MethodName)) hown2 (mvT hZ2 (W hw 93 rfl)) (mvT hZ2 (W hw 94 rfl)) (notFace_of_selects (args := #[]) (mvT hZ2 (W hw 96 rfl))) (mvT hZ2 (W hw 96 rfl)) (mvT hZ2 (W hw 95 rfl)) (by decide) (backOf (W := 0) (rm_18 l Z a0 hw w kk iw vw hN [] o6 p1 o7 kc_o7 h2 O2 gn_o6 E_o6_v2.lt E_o6_v2 F_o6_wordsInUse_v2 F_o6_sizeIsSticky_v2 gn_o7 V_o7_v2.lt F_o6_words_v2 V_o7_v2 ne_o6_o7 hp0 hp2) hZ2 (W hw 97 rfl) (W hw 20 rfl) (by decide) (by decide)) q4a q4c (g := (mkF m 11 #[.val (.ref o1), .val (.int p1)] [(.int p1), (.ref o6)])) rfl (by rw [hml]; rfl) (Steps.refl _) (argsL := [(.int p1)]) (rest := []) (lenOf pd_1 rfl) rfl (by show 2 * 0 + _ ≤ _; exact Nat.le_of_eq rfl) (hb hby d7_11) (fun _ _ => ⟨rfl, e3, (by decide : 2 + 0 ≤ _), (by decide : 60 + 0 ≤ _)⟩)
  dsimp only [Pt.U, Pt.locs, Pt.cells, Pt.slots] at X4 l4 y4 z4 st4 hQ4
  subst l4 y4 z4
  obtain ⟨rfl, N4q, Kq4, tk4_0, tk4_1, tk4_2, tk4_3, tk4_4⟩ := hQ4
  have N4 := Fr.app N3 N4q
  have E_o1_v4 := E_o1_v2.keep Kq4
  have F_o1_nextBlock_v4 := F_o1_nextBlock_v2.keep Kq4 (ninS ne_o1_o6 (ninS ne_o1_o7 nin0))
  have F_o1_previousBlock_v4 := F_o1_previousBlock_v2.keep Kq4 (ninS ne_o1_o6 (ninS ne_o1_o7 nin0))
  have F_o1_firstPiece_v4 := F_o1_firstPiece_v2.keep Kq4 (ninS ne_o1_o6 (ninS ne_o1_o7 nin0))
  have F_o1_lastPiece_v4 := F_o1_lastPiece_v2.keep Kq4 (ninS ne_o1_o6 (ninS ne_o1_o7 nin0))
  have F_o1_closed_v4 := F_o1_closed_v2.keep Kq4 (ninS ne_o1_o6 (ninS ne_o1_o7 nin0))
  have F_o1_firstBlock_v4 := F_o1_firstBlock_v2.keep Kq4 (ninS ne_o1_o6 (ninS ne_o1_o7 nin0))
  have F_o1_lastBlock_v4 := F_o1_lastBlock_v2.keep Kq4 (ninS ne_o1_o6 (ninS ne_o1_o7 nin0))
  have F_o1_blockCount_v4 := F_o1_blockCount_v2.keep Kq4 (ninS ne_o1_o6 (ninS ne_o1_o7 nin0))
  have V_o2_v4 := V_o2_v2.keep Kq4 (ninS ne_o2_o6 (ninS ne_o2_o7 nin0))
  have V_o3_v4 := V_o3_v2.keep Kq4 (ninS ne_o3_o6 (ninS ne_o3_o7 nin0))
  have V_o4_v4 := V_o4_v2.keep Kq4 (ninS ne_o4_o6 (ninS ne_o4_o7 nin0))
  have V_o5_v4 := V_o5_v2.keep Kq4 (ninS ne_o5_o6 (ninS ne_o5_o7 nin0))
  have E_o6_v4 := E_o6_v2.keep Kq4
  have hk4 := Nat.le_trans hk2 Kq4.1
  have O4 := O2.keep Kq4 (allS gn_o6 (allS gn_o7 all0))
  have K4 : Keep h0 T4.heap [o7, o6] := K2.trans Kq4 (allS (Or.inl (List.mem_of_getElem? (i := 1) rfl)) (allS (Or.inl (List.mem_of_getElem? (i := 0) rfl)) all0))
  refine ⟨T4, _, none, _, _, _, _, by decide, by decide, X4, hS2, hk4, (fun _ => rfl), ⟨rfl, N4, K4, tk4_0, tk4_1, tk4_2, tk4_3, tk4_4⟩, fun fs hr => castTop (ef_1 m (.ref o1) rfl (.int p1) rfl) ?_⟩
  show Steps p.tables e below (s₁.setTop (mkF m 0 #[.val (.ref o1), .val (.int p1)] [])) _
  refine XS.aloadN X0.here hx rfl (hb hby d7_0) rfl rfl ?_
  refine st1 _ ?_
  refine XS.aloadN X1.here hx rfl (hb hby d7_4) rfl rfl ?_
  refine XS.iloadN X1.here hx rfl (hb hby d7_5) rfl ?_
  refine st2 _ ?_
  refine st3.trans ?_
  refine st4.trans ?_
  show Steps p.tables e below (T4.setTop (mkF m 14 #[.val (.ref o1), .val (.int p1)] [])) _
  exact X4.returnOut hx hret (hb hby d7_14) hr
set_option maxRecDepth 65536 in
set_option maxHeartbeats 40000000 in
theorem rm_58 (l : Launch) (Z : State) (a0 : Array Value) (hw : ∀ d ∈ tables_1, d.before a0 Z = true) (w : Nat → Addr) (kk : Nat → ClassId) (iw : Nat → Int32) (vw : Nat → Value) (hN : Wd Z w kk iw vw) (ws : List Jvm.Cond) (o1 : Addr) (o2 : Addr) (o3 : Addr) (o4 : Addr) (o5 : Addr) (o6 : Addr) (kc_o2 : ClassId) (kc_o3 : ClassId) (kc_o4 : ClassId) (kc_o5 : ClassId) (o7 : Addr) (t0 : Int64) (kc_o7 : ClassId) (h0 : Heap) (O0 : Old Z Z.heap.size h0) (gn_o1 : Z.heap.size ≤ o1) (lt_o1 : o1 < h0.size) (E_o1 : Exa Z h0 o1 s_0) (gn_o2 : Z.heap.size ≤ o2) (lt_o2 : o2 < h0.size) (F_o1_nextBlock : Fld Z h0 o1 s_0 "nextBlock" "[I" (.ref o2)) (gn_o3 : Z.heap.size ≤ o3) (lt_o3 : o3 < h0.size) (F_o1_previousBlock : Fld Z h0 o1 s_0 s_5 "[I" (.ref o3)) (gn_o4 : Z.heap.size ≤ o4) (lt_o4 : o4 < h0.size) (F_o1_firstPiece : Fld Z h0 o1 s_0 "firstPiece" "[I" (.ref o4)) (gn_o5 : Z.heap.size ≤ o5) (lt_o5 : o5 < h0.size) (F_o1_lastPiece : Fld Z h0 o1 s_0 "lastPiece" "[I" (.ref o5)) (gn_o6 : Z.heap.size ≤ o6) (lt_o6 : o6 < h0.size) (F_o1_closed : Fld Z h0 o1 s_0 "closed" s_3 (.ref o6)) (F_o1_firstBlock : Fld Z h0 o1 s_0 "firstBlock" "I" (.int (0 : Int32))) (F_o1_lastBlock : Fld Z h0 o1 s_0 "lastBlock" "I" (.int (2 : Int32))) (F_o1_blockCount : Fld Z h0 o1 s_0 "blockCount" "I" (.int (3 : Int32))) (V_o2 : Arv Z h0 o2 kc_o2 .int (64 : Int32) [(.int (1 : Int32)), (.int (2 : Int32)), (.int (-1 : Int32))] (.int (0 : Int32))) (V_o3 : Arv Z h0 o3 kc_o3 .int (64 : Int32) [(.int (-1 : Int32)), (.int (0 : Int32)), (.int (1 : Int32))] (.int (0 : Int32))) (V_o4 : Arv Z h0 o4 kc_o4 .int (64 : Int32) [(.int (-1 : Int32)), (.int (-1 : Int32)), (.int (-1 : Int32))] (.int (0 : Int32))) (V_o5 : Arv Z h0 o5 kc_o5 .int (64 : Int32) [(.int (-1 : Int32)), (.int (-1 : Int32)), (.int (-1 : Int32))] (.int (0 : Int32))) (E_o6 : Exa Z h0 o6 s_1) (F_o6_wordsInUse : Fld Z h0 o6 s_1 "wordsInUse" "I" (.int (1 : Int32))) (F_o6_sizeIsSticky : Fld Z h0 o6 s_1 s_6 "Z" (.int (0 : Int32))) (gn_o7 : Z.heap.size ≤ o7) (lt_o7 : o7 < h0.size) (F_o6_words : Fld Z h0 o6 s_1 "words" "[J" (.ref o7)) (V_o7 : Arv Z h0 o7 kc_o7 .long (1 : Int32) [(.long t0)] (.long (0 : Int64))) (ne_o1_o2 : o1 ≠ o2) (ne_o1_o3 : o1 ≠ o3) (ne_o1_o4 : o1 ≠ o4) (ne_o1_o5 : o1 ≠ o5) (ne_o1_o6 : o1 ≠ o6) (ne_o1_o7 : o1 ≠ o7) (ne_o2_o3 : o2 ≠ o3) (ne_o2_o4 : o2 ≠ o4) (ne_o2_o5 : o2 ≠ o5) (ne_o2_o6 : o2 ≠ o6) (ne_o2_o7 : o2 ≠ o7) (ne_o3_o4 : o3 ≠ o4) (ne_o3_o5 : o3 ≠ o5) (ne_o3_o6 : o3 ≠ o6) (ne_o3_o7 : o3 ≠ o7) (ne_o4_o5 : o4 ≠ o5) (ne_o4_o6 : o4 ≠ o6) (ne_o4_o7 : o4 ≠ o7) (ne_o5_o6 : o5 ≠ o6) (ne_o5_o7 : o5 ≠ o7) (ne_o6_o7 : o6 ≠ o7) :
    Met l Z (⟨s_0, "hasBlocks", "()Z"⟩ : MethodName) (Jvm.Cond.code (⟨s_0, "hasBlocks", "()Z"⟩ : MethodName) prog_20_method_2_code 1 (some .boolean)) ws (Rm 0 0 0 0) #[(.ref o1)] h0 (OQ (some (.int (1 : Int32))) h0 Z.heap.size) := by
  have hN' := hN
  have hL0 : Sta Z Z.heap s_1 s_4 "Z" (.int (1 : Int32)) := hN'
  refine own_body (plainFor_of_name pn_1) hisR ?_
  intro p e s m below meth c s₁ hx hby hml hown hnm hret X0 hZ e0
  have N0 := Fr.nil Z.heap.size
  obtain ⟨T1, X1, e1, st1⟩ := getF X0 hx hZ hown (host := "") (Or.inl (W hw 57 rfl)) Via.refl e0 F_o1_blockCount (g := (mkF m 1 #[.val (.ref o1)] [(.ref o1)])) rfl rfl (hb hby d4_1)
  refine ⟨T1, some (.int (1 : Int32)), _, _, _, by decide, by decide, X1, nofun, (by rw [e1]; exact ⟨rfl, N0, rfl⟩), fun fs hr => castTop (ef_2 m (.ref o1) rfl) ?_⟩
  show Steps p.tables e below (s₁.setTop (mkF m 0 #[.val (.ref o1)] [])) _
  refine XS.aloadN X0.here hx rfl (hb hby d4_0) rfl rfl ?_
  refine st1 _ ?_
  refine XS.ifNo X1.here hx rfl (hb hby d4_4) rfl ((if0 _ _).trans (tlt (by decide : (0 : Int32) < (3 : Int32))).2.2.2) ?_
  refine XS.iconst X1.here hx rfl (hb hby d4_7) ?_
  refine XS.goto X1.here hx rfl (pc0 := 8) (pc' := 12) rfl (hb hby d4_8) (by decide) (by decide) ?_
  show Steps p.tables e below (T1.setTop (mkF m 12 #[.val (.ref o1)] [(.int (1 : Int32))])) _
  exact retN X1 hx (t := .boolean) hret (by simp) (hb hby d4_12) hr
set_option maxRecDepth 65536 in
set_option maxHeartbeats 40000000 in
theorem law_59 (l : Launch) (Z : State) (a0 : Array Value) (hw : ∀ d ∈ tables_1, d.before a0 Z = true) (w : Nat → Addr) (kk : Nat → ClassId) (iw : Nat → Int32) (vw : Nat → Value) (hN : Wd Z w kk iw vw) (ws : List Jvm.Cond) (p0 : Int32) (p1 : Int32) (p2 : Int32) (p3 : Int32) (h0 : Heap) (O0 : Old Z Z.heap.size h0) (hp0 : (p0 &&& (3 : Int32)) = (3 : Int32)) (hp1 : (p1 &&& (1 : Int32)) = (0 : Int32)) (hp2 : (p3 &&& (1 : Int32)) = (1 : Int32)) (hp3 : ¬ (((((p3.toUInt32 >>> ((1 : Int32) &&& 31).toUInt32).toInt32) &&& (2147483647 : Int32)) % (3 : Int32)) < (0 : Int32))) (hp4 : ((((p3.toUInt32 >>> ((1 : Int32) &&& 31).toUInt32).toInt32) &&& (2147483647 : Int32)) % (3 : Int32)) < (3 : Int32)) (hp5 : (((((p3.toUInt32 >>> ((1 : Int32) &&& 31).toUInt32).toInt32) &&& (2147483647 : Int32)) % (3 : Int32)) >>> ((6 : Int32) &&& 31)) = (0 : Int32)) :
    MetFree l x (head1 (Jvm.Cond.code x code maxLocals ret :: ws) room_1) (fun a U => a = #[(.int p0), (.int p1), (.int p2), (.int p3)] ∧ Z.Warmed39 U.vm ∧ U.heap = h0) (fun _ _ _ _ _ => True) (fun _ U o U' => ∃ v L, o = .returned v ∧ OL (some (.int (1 : Int32))) Z.heap.size v U'.heap L ∧ ReturnedEndW U o U' L 32 3072) := by
  have hN' := hN
  have hL0 : Sta Z Z.heap s_1 s_4 "Z" (.int (1 : Int32)) := hN'
  refine MetFree.of_bodySF (plainFor_of_name pn_2) hisR ?_
  intro p e s m args below meth c s₁ Bd hml0 hP hK
  obtain ⟨rfl, hZ, hh⟩ := hP
  have hx := Bd.exec
  have hby := Bd.bytes
  have hml : c.maxLocals = 7 := hml0
  have hown : s.vm.findClass s_2 = some m.cls := findClass_of_methodNamed Bd.named
  have hnm := (name_of_methodNamed Bd.named Bd.method).1
  have X0 : Stand p l e room_1 s m #[(.int p0), (.int p1), (.int p2), (.int p3)] below meth c s₁ [] 0 0 := Stand.of_body Bd
  have e0 : s₁.heap = h0 := by rw [← hh, Bd.state]; rfl
  have N0 := Fr.nil Z.heap.size
  obtain ⟨T1, L1, b1_0, b1_1, b1_2, b1_3, b1_4, b1_5, b1_6, kb1_0, kb1_1, kb1_2, kb1_3, kb1_4, X1, st1, N1, Kq1, tk1_0, tk1_1, tk1_2, tk1_3, tk1_4, tk1_5, tk1_6, tk1_7, tk1_8, tk1_9, tk1_10, tk1_11, tk1_12, tk1_13, tk1_14, tk1_15, tk1_16, tk1_17, tk1_18, tk1_19, tk1_20, tk1_21, tk1_22, tk1_23, tk1_24, tk1_25, tk1_26, tk1_27, tk1_28, tk1_29, tk1_30, tk1_31, tk1_32, tk1_33, tk1_34, tk1_35, tk1_36, tk1_37, tk1_38, tk1_39, tk1_40, tk1_41, tk1_42, tk1_43, tk1_44, tk1_45⟩ := sg_53 w kk iw vw hN p0 p1 p2 p3 X0 hx hZ hw hby hml hown e0 O0 N0
  have gn_b1_0 : Z.heap.size ≤ b1_0 := Nat.le_trans O0.2.1 tk1_0
  have gn_b1_1 : Z.heap.size ≤ b1_1 := Nat.le_trans O0.2.1 tk1_1
  have gn_b1_2 : Z.heap.size ≤ b1_2 := Nat.le_trans O0.2.1 tk1_2
  have gn_b1_3 : Z.heap.size ≤ b1_3 := Nat.le_trans O0.2.1 tk1_3
  have gn_b1_4 : Z.heap.size ≤ b1_4 := Nat.le_trans O0.2.1 tk1_4
  have gn_b1_5 : Z.heap.size ≤ b1_5 := Nat.le_trans O0.2.1 tk1_5
  have gn_b1_6 : Z.heap.size ≤ b1_6 := Nat.le_trans O0.2.1 tk1_6
  have O1 := O0.keep Kq1 all0
  obtain ⟨cq2, kq2, q2a, q2b, q2c⟩ := isOf hZ rfl tk1_28
  obtain ⟨_, _, ⟨T2, L2, k2, n2⟩, -, X2, hSq2, hgr2, ⟨Lc2, hQ2, l2, y2, z2⟩, st2⟩ := X1.virtualBackS hx (y := (⟨s_0, "closeBlock", "(I)V"⟩ : MethodName)) (z := (⟨s_0, "closeBlock", "(I)V"⟩ : MethodName)) hown (mvT hZ (W hw 87 rfl)) (mvT hZ (W hw 88 rfl)) (notFace_of_selects (args := #[]) (mvT hZ (W hw 90 rfl))) (mvT hZ (W hw 90 rfl)) (mvT hZ (W hw 89 rfl)) (by decide) (backOfS (W := 0) (rm_57 l Z a0 hw w kk iw vw hN [] b1_0 ((((p3.toUInt32 >>> ((1 : Int32) &&& 31).toUInt32).toInt32) &&& (2147483647 : Int32)) % (3 : Int32)) b1_1 b1_2 b1_3 b1_4 b1_5 kb1_0 kb1_1 kb1_2 kb1_3 b1_6 kb1_4 T1.heap O1 gn_b1_0 tk1_28.lt tk1_28 gn_b1_1 tk1_37.lt tk1_29 gn_b1_2 tk1_38.lt tk1_30 gn_b1_3 tk1_39.lt tk1_31 gn_b1_4 tk1_40.lt tk1_32 gn_b1_5 tk1_41.lt tk1_33 tk1_34 tk1_35 tk1_36 tk1_37 tk1_38 tk1_39 tk1_40 tk1_41 tk1_42 tk1_43 gn_b1_6 tk1_45.lt tk1_44 tk1_45 tk1_7 tk1_8 tk1_9 tk1_10 tk1_11 tk1_12 tk1_13 tk1_14 tk1_15 tk1_16 tk1_17 tk1_18 tk1_19 tk1_20 tk1_21 tk1_22 tk1_23 tk1_24 tk1_25 tk1_26 tk1_27 hp3 hp4 hp5) hZ (W hw 91 rfl) (W hw 2 rfl) (by decide) (by decide)) q2a q2c (g := (mkF m 147 #[.val (.int p0), .val (.int p1), .val (.int p2), .val (.int p3), .val (.int (3 : Int32)), .val (.ref b1_0), .val (.int (1 : Int32))] [(.int ((((p3.toUInt32 >>> ((1 : Int32) &&& 31).toUInt32).toInt32) &&& (2147483647 : Int32)) % (3 : Int32))), (.ref b1_0)])) rfl (by rw [hml]; rfl) (Steps.refl _) (argsL := [(.int ((((p3.toUInt32 >>> ((1 : Int32) &&& 31).toUInt32).toInt32) &&& (2147483647 : Int32)) % (3 : Int32)))]) (rest := []) (lenOf pd_1 rfl) rfl (by show 2 * 0 + _ ≤ _; exact Nat.le_of_eq rfl) (hb hby at_147) (fun _ _ => ⟨rfl, rfl, (by decide : 10 + 2 ≤ _), (by decide : 467 + 60 ≤ _)⟩)
  dsimp only [Pt.U, Pt.locs, Pt.cells, Pt.slots] at X2 l2 y2 z2 st2 hQ2 hSq2 hgr2
  subst l2 y2 z2
  have hS2 : s.Since T2.vm T2.heap.size := hSq2
  have hk2 : T2.heap.size ≤ T2.heap.size := Nat.le_refl _
  have hZ2 : Z.Warmed39 (s.setVm T2.vm).vm := State.Warmed39.trans (t := (s.setVm s.vm)) hZ hSq2.1
  have hown2 : (s.setVm T2.vm).vm.findClass s_2 = some m.cls := by rw [show (s.setVm T2.vm).vm = T2.vm from rfl, hSq2.1.alike.findClass]; exact hown
  have X2' : Stand p l e _ (s.setVm T2.vm) m _ below meth c T2 _ _ _ := X2
  obtain ⟨rfl, N2q, Kq2, tk2_0, tk2_1, tk2_2, tk2_3, tk2_4⟩ := hQ2
  have N2 := Fr.app N1 N2q
  have tk1_28_v2 := tk1_28.keep Kq2
  have tk1_29_v2 := tk1_29.keep Kq2 (ninS tk1_12 (ninS tk1_11 nin0))
  have tk1_30_v2 := tk1_30.keep Kq2 (ninS tk1_12 (ninS tk1_11 nin0))
  have tk1_31_v2 := tk1_31.keep Kq2 (ninS tk1_12 (ninS tk1_11 nin0))
  have tk1_32_v2 := tk1_32.keep Kq2 (ninS tk1_12 (ninS tk1_11 nin0))
  have tk1_33_v2 := tk1_33.keep Kq2 (ninS tk1_12 (ninS tk1_11 nin0))
  have tk1_34_v2 := tk1_34.keep Kq2 (ninS tk1_12 (ninS tk1_11 nin0))
  have tk1_35_v2 := tk1_35.keep Kq2 (ninS tk1_12 (ninS tk1_11 nin0))
  have tk1_36_v2 := tk1_36.keep Kq2 (ninS tk1_12 (ninS tk1_11 nin0))
  have tk1_37_v2 := tk1_37.keep Kq2 (ninS tk1_17 (ninS tk1_16 nin0))
  have tk1_38_v2 := tk1_38.keep Kq2 (ninS tk1_21 (ninS tk1_20 nin0))
  have tk1_39_v2 := tk1_39.keep Kq2 (ninS tk1_24 (ninS tk1_23 nin0))
  have tk1_40_v2 := tk1_40.keep Kq2 (ninS tk1_26 (ninS tk1_25 nin0))
  have tk1_41_v2 := tk1_41.keep Kq2
  have O2 := O1.keep Kq2 (allS gn_b1_6 (allS gn_b1_5 all0))
  obtain ⟨cq3, kq3, q3a, q3b, q3c⟩ := isOf hZ2 rfl tk1_28_v2
  obtain ⟨_, _, ⟨T3, L3, k3, n3⟩, -, X3, ⟨Lc3, hQ3, l3, y3, z3⟩, st3⟩ := X2'.virtualBack hx (y := (⟨s_0, "hasBlocks", "()Z"⟩ : MethodName)) (z := (⟨s_0, "hasBlocks", "()Z"⟩ : MethodName)) hown2 (mvT hZ2 (W hw 52 rfl)) (mvT hZ2 (W hw 53 rfl)) (notFace_of_selects (args := #[]) (mvT hZ2 (W hw 55 rfl))) (mvT hZ2 (W hw 55 rfl)) (mvT hZ2 (W hw 54 rfl)) (by decide) (backOf (W := 0) (rm_58 l Z a0 hw w kk iw vw hN [] b1_0 b1_1 b1_2 b1_3 b1_4 b1_5 kb1_0 kb1_1 kb1_2 kb1_3 b1_6 ((0 : Int64) ||| ((1 : Int64) <<< (((((p3.toUInt32 >>> ((1 : Int32) &&& 31).toUInt32).toInt32) &&& (2147483647 : Int32)) % (3 : Int32)) &&& 0x3f).toInt64)) kb1_4 T2.heap O2 gn_b1_0 tk1_28_v2.lt tk1_28_v2 gn_b1_1 tk1_37_v2.lt tk1_29_v2 gn_b1_2 tk1_38_v2.lt tk1_30_v2 gn_b1_3 tk1_39_v2.lt tk1_31_v2 gn_b1_4 tk1_40_v2.lt tk1_32_v2 gn_b1_5 tk2_0.lt tk1_33_v2 tk1_34_v2 tk1_35_v2 tk1_36_v2 tk1_37_v2 tk1_38_v2 tk1_39_v2 tk1_40_v2 tk2_0 tk2_1 tk2_2 gn_b1_6 tk2_4.lt tk2_3 tk2_4 tk1_7 tk1_8 tk1_9 tk1_10 tk1_11 tk1_12 tk1_13 tk1_14 tk1_15 tk1_16 tk1_17 tk1_18 tk1_19 tk1_20 tk1_21 tk1_22 tk1_23 tk1_24 tk1_25 tk1_26 tk1_27) hZ2 (W hw 56 rfl) (W hw 2 rfl) (by decide) (by decide)) q3a q3c (g := (mkF m 157 #[.val (.int p0), .val (.int p1), .val (.int p2), .val (.int p3), .val (.int (3 : Int32)), .val (.ref b1_0), .val (.int (1 : Int32))] [(.ref b1_0)])) rfl (by rw [hml]; rfl) (Steps.refl _) (argsL := []) (rest := []) (lenOf pd_3 rfl) rfl (by show 2 * 0 + _ ≤ _; exact Nat.le_of_eq rfl) (hb hby at_157) (fun _ _ => ⟨rfl, rfl, (by decide : 12 + 0 ≤ _), (by decide : 527 + 0 ≤ _)⟩)
  dsimp only [Pt.U, Pt.locs, Pt.cells, Pt.slots] at X3 l3 y3 z3 st3 hQ3
  subst l3 y3 z3
  obtain ⟨rfl, N3q, e3⟩ := hQ3
  have N3 := Fr.app N2 N3q
  obtain ⟨fs, hr, hrun, hended, w1, w2, w3, w4⟩ := X3.leaveW hS2 (by rw [e3]; exact hk2) (v := some (.int (1 : Int32))) (fun h => by rw [Bd.returns] at h; cases h)
  refine ⟨_, _, castTop (ef_3 m (.int p0) rfl (.int p1) rfl (.int p2) rfl (.int p3) rfl) ?_, hrun, hended, _, _, rfl, ?_, w1, w2, w3, w4.mono (by decide) (by decide)⟩
  · show Steps p.tables e below (s₁.setTop (mkF m 0 #[.val (.int p0), .val (.int p1), .val (.int p2), .val (.int p3), .unset, .unset, .unset] [])) _
    refine XS.iloadN X0.here hx rfl (hb hby at_0) rfl ?_
    refine XS.iconst X0.here hx rfl (hb hby at_1) ?_
    refine XS.iand X0.here hx rfl (hb hby at_2) rfl ?_
    show Steps p.tables e below (s₁.setTop (mkF m 3 #[.val (.int p0), .val (.int p1), .val (.int p2), .val (.int p3), .unset, .unset, .unset] [(.int (p0 &&& (3 : Int32)))])) _
    rw [hp0]
    refine XS.istore X0.here hx rfl (hb hby at_3) rfl (l' := #[.val (.int p0), .val (.int p1), .val (.int p2), .val (.int p3), .val (.int (3 : Int32)), .unset, .unset]) rfl ?_
    show Steps p.tables e below (s₁.setTop (mkF m 5 #[.val (.int p0), .val (.int p1), .val (.int p2), .val (.int p3), .val (.int (3 : Int32)), .unset, .unset] [])) _
    refine st1 _ ?_
    refine XS.iload X1.here hx rfl (hb hby at_102) rfl ?_
    refine XS.ifNo X1.here hx rfl (hb hby at_104) rfl ((if0 _ _).trans (tlt (by decide : (0 : Int32) < (3 : Int32))).2.2.2) ?_
    refine XS.iloadN X1.here hx rfl (hb hby at_107) rfl ?_
    refine XS.iconst X1.here hx rfl (hb hby at_108) ?_
    refine XS.iand X1.here hx rfl (hb hby at_109) rfl ?_
    show Steps p.tables e below (T1.setTop (mkF m 110 #[.val (.int p0), .val (.int p1), .val (.int p2), .val (.int p3), .val (.int (3 : Int32)), .val (.ref b1_0), .val (.int (1 : Int32))] [(.int (p1 &&& (1 : Int32)))])) _
    rw [hp1]
    refine XS.ifYes X1.here hx rfl (pc0 := 110) (pc' := 125) rfl (hb hby at_110) rfl ((if0 _ _).trans (teq (by decide : (0 : Int32) = (0 : Int32))).1) (by decide) (by decide) ?_
    refine XS.iload X1.here hx rfl (hb hby at_125) rfl ?_
    show Steps p.tables e below (T1.setTop (mkF m 127 #[.val (.int p0), .val (.int p1), .val (.int p2), .val (.int p3), .val (.int (3 : Int32)), .val (.ref b1_0), .val (.int (1 : Int32))] [(.int (3 : Int32))])) _
    refine XS.ifNo X1.here hx rfl (hb hby at_127) rfl ((if0 _ _).trans (tlt (by decide : (0 : Int32) < (3 : Int32))).2.2.2) ?_
    refine XS.iloadN X1.here hx rfl (hb hby at_130) rfl ?_
    refine XS.iconst X1.here hx rfl (hb hby at_131) ?_
    refine XS.iand X1.here hx rfl (hb hby at_132) rfl ?_
    show Steps p.tables e below (T1.setTop (mkF m 133 #[.val (.int p0), .val (.int p1), .val (.int p2), .val (.int p3), .val (.int (3 : Int32)), .val (.ref b1_0), .val (.int (1 : Int32))] [(.int (p3 &&& (1 : Int32)))])) _
    rw [hp2]
    refine XS.ifNo X1.here hx rfl (hb hby at_133) rfl ((if0 _ _).trans (feq (by decide : ¬ ((1 : Int32) = (0 : Int32)))).1) ?_
    refine XS.aload X1.here hx rfl (hb hby at_136) rfl rfl ?_
    refine XS.iloadN X1.here hx rfl (hb hby at_138) rfl ?_
    refine XS.iconst X1.here hx rfl (hb hby at_139) ?_
    show Steps p.tables e below (T1.setTop (mkF m 140 #[.val (.int p0), .val (.int p1), .val (.int p2), .val (.int p3), .val (.int (3 : Int32)), .val (.ref b1_0), .val (.int (1 : Int32))] [(.int (1 : Int32)), (.int p3), (.ref b1_0)])) _
    refine XS.iushr X1.here hx rfl (hb hby at_140) rfl ?_
    refine X1.ldcInt hx hown (mvT hZ (W hw 69 rfl)) (g := (mkF m 141 #[.val (.int p0), .val (.int p1), .val (.int p2), .val (.int p3), .val (.int (3 : Int32)), .val (.ref b1_0), .val (.int (1 : Int32))] [(.int ((p3.toUInt32 >>> ((1 : Int32) &&& 31).toUInt32).toInt32)), (.ref b1_0)])) rfl (hb hby at_141) _ ?_
    refine XS.iand X1.here hx rfl (hb hby at_143) rfl ?_
    refine XS.iload X1.here hx rfl (hb hby at_144) rfl ?_
    refine iremM X1 hx rfl (hb hby at_146) rfl (by decide : ¬ ((3 : Int32) = (0 : Int32))) ?_
    refine st2.trans ?_
    refine XS.iload X2'.here hx rfl (hb hby at_150) rfl ?_
    refine XS.ifNo X2'.here hx rfl (hb hby at_152) rfl ((if0 _ _).trans (feq (by decide : ¬ ((1 : Int32) = (0 : Int32)))).1) ?_
    show Steps p.tables e below (T2.setTop (mkF m 155 #[.val (.int p0), .val (.int p1), .val (.int p2), .val (.int p3), .val (.int (3 : Int32)), .val (.ref b1_0), .val (.int (1 : Int32))] [])) _
    refine XS.aload X2'.here hx rfl (hb hby at_155) rfl rfl ?_
    refine st3.trans ?_
    refine XS.iload X3.here hx rfl (hb hby at_160) rfl ?_
    refine XS.ifNo X3.here hx rfl (hb hby at_162) rfl ((if0 _ _).trans (tlt (by decide : (0 : Int32) < (3 : Int32))).2.2.2) ?_
    refine XS.iconst X3.here hx rfl (hb hby at_165) ?_
    refine XS.goto X3.here hx rfl (pc0 := 166) (pc' := 170) rfl (hb hby at_166) (by decide) (by decide) ?_
    refine XS.icmpNo X3.here hx rfl (hb hby at_170) rfl (teq (by decide : (1 : Int32) = (1 : Int32))).2 ?_
    refine XS.iconst X3.here hx rfl (hb hby at_173) ?_
    show Steps p.tables e below (T3.setTop (mkF m 174 #[.val (.int p0), .val (.int p1), .val (.int p2), .val (.int p3), .val (.int (3 : Int32)), .val (.ref b1_0), .val (.int (1 : Int32))] [(.int (1 : Int32))])) _
    refine XS.goto X3.here hx rfl (pc0 := 174) (pc' := 178) rfl (hb hby at_174) (by decide) (by decide) ?_
    refine XS.istore X3.here hx rfl (hb hby at_178) rfl (l' := #[.val (.int p0), .val (.int p1), .val (.int p2), .val (.int p3), .val (.int (3 : Int32)), .val (.ref b1_0), .val (.int (1 : Int32))]) rfl ?_
    refine XS.iload X3.here hx rfl (hb hby at_180) rfl ?_
    show Steps p.tables e below (T3.setTop (mkF m 182 #[.val (.int p0), .val (.int p1), .val (.int p2), .val (.int p3), .val (.int (3 : Int32)), .val (.ref b1_0), .val (.int (1 : Int32))] [(.int (1 : Int32))])) _
    exact retN X3 hx (t := .boolean) Bd.returns (by simp) (hb hby at_182) hr
  · show OL (some (.int (1 : Int32))) Z.heap.size _ T3.heap _
    exact ⟨rfl, N3⟩
theorem own_split_4 (x : Int32) : ((x &&& (2147483647 : Int32)) % (3 : Int32)) = (0 : Int32) ∨ ((x &&& (2147483647 : Int32)) % (3 : Int32)) = (1 : Int32) ∨ ((x &&& (2147483647 : Int32)) % (3 : Int32)) = (2 : Int32) := by
  have h1 := c_mask x (2147483647 : Int32) 31 (by decide) (by decide)
  have h2 := (c_irem (x &&& (2147483647 : Int32)) (3 : Int32) 3 (by decide)).1 (by omega)
  simp only [← Int32.toInt_inj, h2, (by decide : (0 : Int32).toInt = 0), (by decide : (1 : Int32).toInt = 1), (by decide : (2 : Int32).toInt = 2)]
  omega
set_option maxRecDepth 65536 in
set_option maxHeartbeats 40000000 in
theorem rm_60 (l : Launch) (Z : State) (a0 : Array Value) (hw : ∀ d ∈ tables_1, d.before a0 Z = true) (w : Nat → Addr) (kk : Nat → ClassId) (iw : Nat → Int32) (vw : Nat → Value) (hN : Wd Z w kk iw vw) (ws : List Jvm.Cond) (o1 : Addr) (o2 : Addr) (o3 : Addr) (o4 : Addr) (o5 : Addr) (o6 : Addr) (o7 : Addr) (kc_o3 : ClassId) (kc_o4 : ClassId) (kc_o5 : ClassId) (kc_o6 : ClassId) (o8 : Addr) (kc_o8 : ClassId) (h0 : Heap) (O0 : Old Z Z.heap.size h0) (gn_o1 : Z.heap.size ≤ o1) (lt_o1 : o1 < h0.size) (E_o1 : Exa Z h0 o1 s_0) (gn_o3 : Z.heap.size ≤ o3) (lt_o3 : o3 < h0.size) (F_o1_nextBlock : Fld Z h0 o1 s_0 "nextBlock" "[I" (.ref o3)) (gn_o4 : Z.heap.size ≤ o4) (lt_o4 : o4 < h0.size) (F_o1_previousBlock : Fld Z h0 o1 s_0 s_5 "[I" (.ref o4)) (gn_o5 : Z.heap.size ≤ o5) (lt_o5 : o5 < h0.size) (F_o1_firstPiece : Fld Z h0 o1 s_0 "firstPiece" "[I" (.ref o5)) (gn_o6 : Z.heap.size ≤ o6) (lt_o6 : o6 < h0.size) (F_o1_lastPiece : Fld Z h0 o1 s_0 "lastPiece" "[I" (.ref o6)) (gn_o7 : Z.heap.size ≤ o7) (lt_o7 : o7 < h0.size) (F_o1_closed : Fld Z h0 o1 s_0 "closed" s_3 (.ref o7)) (F_o1_firstBlock : Fld Z h0 o1 s_0 "firstBlock" "I" (.int (0 : Int32))) (F_o1_lastBlock : Fld Z h0 o1 s_0 "lastBlock" "I" (.int (2 : Int32))) (F_o1_blockCount : Fld Z h0 o1 s_0 "blockCount" "I" (.int (3 : Int32))) (V_o3 : Arv Z h0 o3 kc_o3 .int (64 : Int32) [(.int (1 : Int32)), (.int (2 : Int32)), (.int (-1 : Int32))] (.int (0 : Int32))) (V_o4 : Arv Z h0 o4 kc_o4 .int (64 : Int32) [(.int (-1 : Int32)), (.int (0 : Int32)), (.int (1 : Int32))] (.int (0 : Int32))) (V_o5 : Arv Z h0 o5 kc_o5 .int (64 : Int32) [(.int (-1 : Int32)), (.int (-1 : Int32)), (.int (-1 : Int32))] (.int (0 : Int32))) (V_o6 : Arv Z h0 o6 kc_o6 .int (64 : Int32) [(.int (-1 : Int32)), (.int (-1 : Int32)), (.int (-1 : Int32))] (.int (0 : Int32))) (E_o7 : Exa Z h0 o7 s_1) (F_o7_wordsInUse : Fld Z h0 o7 s_1 "wordsInUse" "I" (.int (0 : Int32))) (F_o7_sizeIsSticky : Fld Z h0 o7 s_1 s_6 "Z" (.int (0 : Int32))) (gn_o8 : Z.heap.size ≤ o8) (lt_o8 : o8 < h0.size) (F_o7_words : Fld Z h0 o7 s_1 "words" "[J" (.ref o8)) (V_o8 : Arv Z h0 o8 kc_o8 .long (1 : Int32) [] (.long (0 : Int64))) (ne_o1_o3 : o1 ≠ o3) (ne_o1_o4 : o1 ≠ o4) (ne_o1_o5 : o1 ≠ o5) (ne_o1_o6 : o1 ≠ o6) (ne_o1_o7 : o1 ≠ o7) (ne_o1_o8 : o1 ≠ o8) (ne_o3_o4 : o3 ≠ o4) (ne_o3_o5 : o3 ≠ o5) (ne_o3_o6 : o3 ≠ o6) (ne_o3_o7 : o3 ≠ o7) (ne_o3_o8 : o3 ≠ o8) (ne_o4_o5 : o4 ≠ o5) (ne_o4_o6 : o4 ≠ o6) (ne_o4_o7 : o4 ≠ o7) (ne_o4_o8 : o4 ≠ o8) (ne_o5_o6 : o5 ≠ o6) (ne_o5_o7 : o5 ≠ o7) (ne_o5_o8 : o5 ≠ o8) (ne_o6_o7 : o6 ≠ o7) (ne_o6_o8 : o6 ≠ o8) (ne_o7_o8 : o7 ≠ o8) :
    Met l Z (⟨s_0, "find", s_7⟩ : MethodName) (Jvm.Cond.code (⟨s_0, "find", s_7⟩ : MethodName) prog_20_method_11_code 3 (some .int)) ws (Rm 0 0 0 0) #[(.ref o1), (.int (0 : Int32)), (.ref o2)] h0 (OQ (some (.int (0 : Int32))) h0 Z.heap.size) := by
  have hN' := hN
  have hL0 : Sta Z Z.heap s_1 s_4 "Z" (.int (1 : Int32)) := hN'
  refine own_body (plainFor_of_name pn_1) hisR ?_
  intro p e s m below meth c s₁ hx hby hml hown hnm hret X0 hZ e0
  have N0 := Fr.nil Z.heap.size
  obtain ⟨T1, X1, e1, st1⟩ := getF X0 hx hZ hown (host := "") (Or.inl (W hw 57 rfl)) Via.refl e0 F_o1_blockCount (g := (mkF m 6 #[.val (.ref o1), .val (.int (0 : Int32)), .val (.ref o2)] [(.ref o1), (.int (0 : Int32))])) rfl rfl (hb hby d8_6)
  refine ⟨T1, some (.int (0 : Int32)), _, _, _, by decide, by decide, X1, nofun, (by rw [e1]; exact ⟨rfl, N0, rfl⟩), fun fs hr => castTop (ef_5 m (.ref o1) rfl (.int (0 : Int32)) rfl (.ref o2) rfl) ?_⟩
  show Steps p.tables e below (s₁.setTop (mkF m 0 #[.val (.ref o1), .val (.int (0 : Int32)), .val (.ref o2)] [])) _
  refine XS.iloadN X0.here hx rfl (hb hby d8_0) rfl ?_
  refine XS.ifNo X0.here hx rfl (hb hby d8_1) rfl ((if0 _ _).trans (flt (by decide : ¬ ((0 : Int32) < (0 : Int32)))).1) ?_
  refine XS.iloadN X0.here hx rfl (hb hby d8_4) rfl ?_
  refine XS.aloadN X0.here hx rfl (hb hby d8_5) rfl rfl ?_
  refine st1 _ ?_
  refine XS.icmpYes X1.here hx rfl (pc0 := 9) (pc' := 27) rfl (hb hby d8_9) rfl (tlt (by decide : (0 : Int32) < (3 : Int32))).1 (by decide) (by decide) ?_
  refine XS.iloadN X1.here hx rfl (hb hby d8_27) rfl ?_
  show Steps p.tables e below (T1.setTop (mkF m 28 #[.val (.ref o1), .val (.int (0 : Int32)), .val (.ref o2)] [(.int (0 : Int32))])) _
  exact retI X1 hx hret (hb hby d8_28) hr
theorem lf_5 : ((3 : Int32) + (1 : Int32)) = (4 : Int32) := by decide
def Qd_15 (Z : State) (w : Nat → Addr) (kk : Nat → ClassId) (iw : Nat → Int32) (vw : Nat → Value) (o1 : Addr) (o2 : Addr) (o3 : Addr) (o4 : Addr) (o5 : Addr) (o6 : Addr) (kc_o2 : ClassId) (kc_o3 : ClassId) (kc_o4 : ClassId) (kc_o5 : ClassId) (o7 : Addr) (kc_o7 : ClassId) (h0 : Heap) (n0 : Nat) (v : Option Value) (h : Heap) (L : List Loc) : Prop := v = some (.int (3 : Int32)) ∧ Fr n0 L ∧ Keep h0 h [o1, o2, o3, o4, o5] ∧ Exa Z h o1 s_0 ∧ Fld Z h o1 s_0 "nextBlock" "[I" (.ref o2) ∧ Fld Z h o1 s_0 s_5 "[I" (.ref o3) ∧ Fld Z h o1 s_0 "firstPiece" "[I" (.ref o4) ∧ Fld Z h o1 s_0 "lastPiece" "[I" (.ref o5) ∧ Fld Z h o1 s_0 "closed" s_3 (.ref o6) ∧ Fld Z h o1 s_0 "firstBlock" "I" (.int (0 : Int32)) ∧ Fld Z h o1 s_0 "lastBlock" "I" (.int (2 : Int32)) ∧ Fld Z h o1 s_0 "blockCount" "I" (.int (4 : Int32)) ∧ Arv Z h o2 kc_o2 .int (64 : Int32) [(.int (1 : Int32)), (.int (2 : Int32)), (.int (-1 : Int32)), (.int (-1 : Int32))] (.int (0 : Int32)) ∧ Arv Z h o3 kc_o3 .int (64 : Int32) [(.int (-1 : Int32)), (.int (0 : Int32)), (.int (1 : Int32)), (.int (-1 : Int32))] (.int (0 : Int32)) ∧ Arv Z h o4 kc_o4 .int (64 : Int32) [(.int (-1 : Int32)), (.int (-1 : Int32)), (.int (-1 : Int32)), (.int (-1 : Int32))] (.int (0 : Int32)) ∧ Arv Z h o5 kc_o5 .int (64 : Int32) [(.int (-1 : Int32)), (.int (-1 : Int32)), (.int (-1 : Int32)), (.int (-1 : Int32))] (.int (0 : Int32))
set_option maxRecDepth 65536 in
set_option maxHeartbeats 40000000 in
theorem rm_61 (l : Launch) (Z : State) (a0 : Array Value) (hw : ∀ d ∈ tables_1, d.before a0 Z = true) (w : Nat → Addr) (kk : Nat → ClassId) (iw : Nat → Int32) (vw : Nat → Value) (hN : Wd Z w kk iw vw) (ws : List Jvm.Cond) (o1 : Addr) (o2 : Addr) (o3 : Addr) (o4 : Addr) (o5 : Addr) (o6 : Addr) (kc_o2 : ClassId) (kc_o3 : ClassId) (kc_o4 : ClassId) (kc_o5 : ClassId) (o7 : Addr) (kc_o7 : ClassId) (h0 : Heap) (O0 : Old Z Z.heap.size h0) (gn_o1 : Z.heap.size ≤ o1) (lt_o1 : o1 < h0.size) (E_o1 : Exa Z h0 o1 s_0) (gn_o2 : Z.heap.size ≤ o2) (lt_o2 : o2 < h0.size) (F_o1_nextBlock : Fld Z h0 o1 s_0 "nextBlock" "[I" (.ref o2)) (gn_o3 : Z.heap.size ≤ o3) (lt_o3 : o3 < h0.size) (F_o1_previousBlock : Fld Z h0 o1 s_0 s_5 "[I" (.ref o3)) (gn_o4 : Z.heap.size ≤ o4) (lt_o4 : o4 < h0.size) (F_o1_firstPiece : Fld Z h0 o1 s_0 "firstPiece" "[I" (.ref o4)) (gn_o5 : Z.heap.size ≤ o5) (lt_o5 : o5 < h0.size) (F_o1_lastPiece : Fld Z h0 o1 s_0 "lastPiece" "[I" (.ref o5)) (gn_o6 : Z.heap.size ≤ o6) (lt_o6 : o6 < h0.size) (F_o1_closed : Fld Z h0 o1 s_0 "closed" s_3 (.ref o6)) (F_o1_firstBlock : Fld Z h0 o1 s_0 "firstBlock" "I" (.int (0 : Int32))) (F_o1_lastBlock : Fld Z h0 o1 s_0 "lastBlock" "I" (.int (2 : Int32))) (F_o1_blockCount : Fld Z h0 o1 s_0 "blockCount" "I" (.int (3 : Int32))) (V_o2 : Arv Z h0 o2 kc_o2 .int (64 : Int32) [(.int (1 : Int32)), (.int (2 : Int32)), (.int (-1 : Int32))] (.int (0 : Int32))) (V_o3 : Arv Z h0 o3 kc_o3 .int (64 : Int32) [(.int (-1 : Int32)), (.int (0 : Int32)), (.int (1 : Int32))] (.int (0 : Int32))) (V_o4 : Arv Z h0 o4 kc_o4 .int (64 : Int32) [(.int (-1 : Int32)), (.int (-1 : Int32)), (.int (-1 : Int32))] (.int (0 : Int32))) (V_o5 : Arv Z h0 o5 kc_o5 .int (64 : Int32) [(.int (-1 : Int32)), (.int (-1 : Int32)), (.int (-1 : Int32))] (.int (0 : Int32))) (E_o6 : Exa Z h0 o6 s_1) (F_o6_wordsInUse : Fld Z h0 o6 s_1 "wordsInUse" "I" (.int (0 : Int32))) (F_o6_sizeIsSticky : Fld Z h0 o6 s_1 s_6 "Z" (.int (0 : Int32))) (gn_o7 : Z.heap.size ≤ o7) (lt_o7 : o7 < h0.size) (F_o6_words : Fld Z h0 o6 s_1 "words" "[J" (.ref o7)) (V_o7 : Arv Z h0 o7 kc_o7 .long (1 : Int32) [] (.long (0 : Int64))) (ne_o1_o2 : o1 ≠ o2) (ne_o1_o3 : o1 ≠ o3) (ne_o1_o4 : o1 ≠ o4) (ne_o1_o5 : o1 ≠ o5) (ne_o1_o6 : o1 ≠ o6) (ne_o1_o7 : o1 ≠ o7) (ne_o2_o3 : o2 ≠ o3) (ne_o2_o4 : o2 ≠ o4) (ne_o2_o5 : o2 ≠ o5) (ne_o2_o6 : o2 ≠ o6) (ne_o2_o7 : o2 ≠ o7) (ne_o3_o4 : o3 ≠ o4) (ne_o3_o5 : o3 ≠ o5) (ne_o3_o6 : o3 ≠ o6) (ne_o3_o7 : o3 ≠ o7) (ne_o4_o5 : o4 ≠ o5) (ne_o4_o6 : o4 ≠ o6) (ne_o4_o7 : o4 ≠ o7) (ne_o5_o6 : o5 ≠ o6) (ne_o5_o7 : o5 ≠ o7) (ne_o6_o7 : o6 ≠ o7) :
    Met l Z (⟨s_0, "newBlock", "()I"⟩ : MethodName) (Jvm.Cond.code (⟨s_0, "newBlock", "()I"⟩ : MethodName) prog_20_method_9_code 2 (some .int)) ws (Rm 0 0 0 0) #[(.ref o1)] h0 (Qd_15 Z w kk iw vw o1 o2 o3 o4 o5 o6 kc_o2 kc_o3 kc_o4 kc_o5 o7 kc_o7 h0 Z.heap.size) := by
  have hN' := hN
  have hL0 : Sta Z Z.heap s_1 s_4 "Z" (.int (1 : Int32)) := hN'
  refine own_body (plainFor_of_name pn_1) hisR ?_
  intro p e s m below meth c s₁ hx hby hml hown hnm hret X0 hZ e0
  have N0 := Fr.nil Z.heap.size
  have K0 : Keep h0 h0 [o1, o2, o3, o4, o5] := Keep.refl _ _
  obtain ⟨T1, X1, e1, st1⟩ := getF X0 hx hZ hown (host := "") (Or.inl (W hw 57 rfl)) Via.refl e0 F_o1_blockCount (g := (mkF m 1 #[.val (.ref o1), .unset] [(.ref o1)])) rfl rfl (hb hby d6_1)
  obtain ⟨T2, X2, e2, st2⟩ := getF X1 hx hZ hown (host := "") (Or.inl (W hw 57 rfl)) Via.refl e1 F_o1_blockCount (g := (mkF m 20 #[.val (.ref o1), .unset] [(.ref o1)])) rfl rfl (hb hby d6_20)
  obtain ⟨T3, X3, e3, st3⟩ := getF X2 hx hZ hown (host := "") (Or.inl (W hw 10 rfl)) Via.refl e2 F_o1_nextBlock (g := (mkF m 24 #[.val (.ref o1), .unset] [(.ref o1), (.int (3 : Int32))])) rfl rfl (hb hby d6_24)
  obtain ⟨cl4, Ar4, q4, Sz4, Ng4, Hv4, Gv4⟩ := id V_o2
  obtain ⟨T5, X5, e5, st5⟩ := getF X3 hx hZ hown (host := "") (Or.inl (W hw 57 rfl)) Via.refl e3 F_o1_blockCount (g := (mkF m 88 #[.val (.ref o1), .unset] [(.ref o1), (.ref o1)])) rfl rfl (hb hby d6_88)
  obtain ⟨T6, h6, X6, e6, W6, st6⟩ := putF X5 hx hZ hown (host := "") (Or.inl (W hw 57 rfl)) Via.refl e5 F_o1_blockCount E_o1 (Or.inl (W hw 58 rfl)) (W hw 1 rfl) (ty := .int) (by decide) rfl rfl (g := (mkF m 94 #[.val (.ref o1), .unset] [(.int (4 : Int32)), (.ref o1), (.int (3 : Int32))])) rfl rfl (hb hby d6_94)
  have F_o1_blockCount_v6 := F_o1_blockCount.same W6
  have N6 := Fr.snoc X6 N0 gn_o1
  have E_o1_v6 := E_o1.wr W6
  have F_o1_nextBlock_v6 := F_o1_nextBlock.other W6 (Or.inr (sn_106 hw))
  have F_o1_previousBlock_v6 := F_o1_previousBlock.other W6 (Or.inr (sn_107 hw))
  have F_o1_firstPiece_v6 := F_o1_firstPiece.other W6 (Or.inr (sn_108 hw))
  have F_o1_lastPiece_v6 := F_o1_lastPiece.other W6 (Or.inr (sn_109 hw))
  have F_o1_closed_v6 := F_o1_closed.other W6 (Or.inr (sn_110 hw))
  have F_o1_firstBlock_v6 := F_o1_firstBlock.other W6 (Or.inr (sn_111 hw))
  have F_o1_lastBlock_v6 := F_o1_lastBlock.other W6 (Or.inr (sn_112 hw))
  have V_o2_v6 := V_o2.other W6 (Ne.symm ne_o1_o2)
  have V_o3_v6 := V_o3.other W6 (Ne.symm ne_o1_o3)
  have V_o4_v6 := V_o4.other W6 (Ne.symm ne_o1_o4)
  have V_o5_v6 := V_o5.other W6 (Ne.symm ne_o1_o5)
  have E_o6_v6 := E_o6.wr W6
  have F_o6_wordsInUse_v6 := F_o6_wordsInUse.other W6 (Or.inl (Ne.symm ne_o1_o6))
  have F_o6_sizeIsSticky_v6 := F_o6_sizeIsSticky.other W6 (Or.inl (Ne.symm ne_o1_o6))
  have F_o6_words_v6 := F_o6_words.other W6 (Or.inl (Ne.symm ne_o1_o6))
  have V_o7_v6 := V_o7.other W6 (Ne.symm ne_o1_o7)
  have O6 := O0.wr W6 gn_o1
  have K6 : Keep h0 h6 [o1, o2, o3, o4, o5] := K0.wr W6 (Or.inl (List.mem_of_getElem? (i := 0) rfl))
  obtain ⟨T7, X7, e7, st7⟩ := getF X6 hx hZ hown (host := "") (Or.inl (W hw 10 rfl)) Via.refl e6 F_o1_nextBlock_v6 (g := (mkF m 99 #[.val (.ref o1), .val (.int (3 : Int32))] [(.ref o1)])) rfl rfl (hb hby d6_99)
  have V_o2_v8 : Arv Z h6 o2 kc_o2 .int (64 : Int32) [(.int (1 : Int32)), (.int (2 : Int32)), (.int (-1 : Int32)), (.int (0 : Int32))] (.int (0 : Int32)) := V_o2_v6.pad (pad_rep [(.int (1 : Int32)), (.int (2 : Int32)), (.int (-1 : Int32))] (.int (0 : Int32)) 1)
  obtain ⟨cl9, Ar9, q9, Sz9, Ng9, Hv9, Gv9⟩ := V_o2_v8
  have hin9 : ¬ ((3 : Int32) < 0 ∨ cl9.slots.size ≤ ((3 : Int32)).toNatClampNeg) := inb_of Sz9 ⟨by decide, by decide⟩
  obtain ⟨T10, h10, X10, e10, W10, st10⟩ := stI X7 hx hZ e7 Ar9 (j := (3 : Int32)) hin9 (g := (mkF m 104 #[.val (.ref o1), .val (.int (3 : Int32))] [(.int (-1 : Int32)), (.int (3 : Int32)), (.ref o2)])) rfl rfl (hb hby d6_104)
  have V_o2_v10 : Arv Z h10 o2 kc_o2 .int (64 : Int32) [(.int (1 : Int32)), (.int (2 : Int32)), (.int (-1 : Int32)), (.int (-1 : Int32))] (.int (0 : Int32)) := Arv.set Ar9 q9 Sz9 Ng9 Hv9 Gv9 rfl W10 3 rfl (Nat.le_of_ble_eq_true rfl)
  have N10 := Fr.snoc X10 N6 gn_o2
  have E_o1_v10 := E_o1_v6.wr W10
  have F_o1_nextBlock_v10 := F_o1_nextBlock_v6.other W10 (Or.inl ne_o1_o2)
  have F_o1_previousBlock_v10 := F_o1_previousBlock_v6.other W10 (Or.inl ne_o1_o2)
  have F_o1_firstPiece_v10 := F_o1_firstPiece_v6.other W10 (Or.inl ne_o1_o2)
  have F_o1_lastPiece_v10 := F_o1_lastPiece_v6.other W10 (Or.inl ne_o1_o2)
  have F_o1_closed_v10 := F_o1_closed_v6.other W10 (Or.inl ne_o1_o2)
  have F_o1_firstBlock_v10 := F_o1_firstBlock_v6.other W10 (Or.inl ne_o1_o2)
  have F_o1_lastBlock_v10 := F_o1_lastBlock_v6.other W10 (Or.inl ne_o1_o2)
  have F_o1_blockCount_v10 := F_o1_blockCount_v6.other W10 (Or.inl ne_o1_o2)
  have V_o3_v10 := V_o3_v6.other W10 (Ne.symm ne_o2_o3)
  have V_o4_v10 := V_o4_v6.other W10 (Ne.symm ne_o2_o4)
  have V_o5_v10 := V_o5_v6.other W10 (Ne.symm ne_o2_o5)
  have E_o6_v10 := E_o6_v6.wr W10
  have F_o6_wordsInUse_v10 := F_o6_wordsInUse_v6.other W10 (Or.inl (Ne.symm ne_o2_o6))
  have F_o6_sizeIsSticky_v10 := F_o6_sizeIsSticky_v6.other W10 (Or.inl (Ne.symm ne_o2_o6))
  have F_o6_words_v10 := F_o6_words_v6.other W10 (Or.inl (Ne.symm ne_o2_o6))
  have V_o7_v10 := V_o7_v6.other W10 (Ne.symm ne_o2_o7)
  have O10 := O6.wr W10 gn_o2
  have K10 : Keep h0 h10 [o1, o2, o3, o4, o5] := K6.wr W10 (Or.inl (List.mem_of_getElem? (i := 1) rfl))
  obtain ⟨T11, X11, e11, st11⟩ := getF X10 hx hZ hown (host := "") (Or.inl (W hw 12 rfl)) Via.refl e10 F_o1_previousBlock_v10 (g := (mkF m 106 #[.val (.ref o1), .val (.int (3 : Int32))] [(.ref o1)])) rfl rfl (hb hby d6_106)
  have V_o3_v12 : Arv Z h10 o3 kc_o3 .int (64 : Int32) [(.int (-1 : Int32)), (.int (0 : Int32)), (.int (1 : Int32)), (.int (0 : Int32))] (.int (0 : Int32)) := V_o3_v10.pad (pad_rep [(.int (-1 : Int32)), (.int (0 : Int32)), (.int (1 : Int32))] (.int (0 : Int32)) 1)
  obtain ⟨cl13, Ar13, q13, Sz13, Ng13, Hv13, Gv13⟩ := V_o3_v12
  have hin13 : ¬ ((3 : Int32) < 0 ∨ cl13.slots.size ≤ ((3 : Int32)).toNatClampNeg) := inb_of Sz13 ⟨by decide, by decide⟩
  obtain ⟨T14, h14, X14, e14, W14, st14⟩ := stI X11 hx hZ e11 Ar13 (j := (3 : Int32)) hin13 (g := (mkF m 111 #[.val (.ref o1), .val (.int (3 : Int32))] [(.int (-1 : Int32)), (.int (3 : Int32)), (.ref o3)])) rfl rfl (hb hby d6_111)
  have V_o3_v14 : Arv Z h14 o3 kc_o3 .int (64 : Int32) [(.int (-1 : Int32)), (.int (0 : Int32)), (.int (1 : Int32)), (.int (-1 : Int32))] (.int (0 : Int32)) := Arv.set Ar13 q13 Sz13 Ng13 Hv13 Gv13 rfl W14 3 rfl (Nat.le_of_ble_eq_true rfl)
  have N14 := Fr.snoc X14 N10 gn_o3
  have E_o1_v14 := E_o1_v10.wr W14
  have F_o1_nextBlock_v14 := F_o1_nextBlock_v10.other W14 (Or.inl ne_o1_o3)
  have F_o1_previousBlock_v14 := F_o1_previousBlock_v10.other W14 (Or.inl ne_o1_o3)
  have F_o1_firstPiece_v14 := F_o1_firstPiece_v10.other W14 (Or.inl ne_o1_o3)
  have F_o1_lastPiece_v14 := F_o1_lastPiece_v10.other W14 (Or.inl ne_o1_o3)
  have F_o1_closed_v14 := F_o1_closed_v10.other W14 (Or.inl ne_o1_o3)
  have F_o1_firstBlock_v14 := F_o1_firstBlock_v10.other W14 (Or.inl ne_o1_o3)
  have F_o1_lastBlock_v14 := F_o1_lastBlock_v10.other W14 (Or.inl ne_o1_o3)
  have F_o1_blockCount_v14 := F_o1_blockCount_v10.other W14 (Or.inl ne_o1_o3)
  have V_o2_v14 := V_o2_v10.other W14 ne_o2_o3
  have V_o4_v14 := V_o4_v10.other W14 (Ne.symm ne_o3_o4)
  have V_o5_v14 := V_o5_v10.other W14 (Ne.symm ne_o3_o5)
  have E_o6_v14 := E_o6_v10.wr W14
  have F_o6_wordsInUse_v14 := F_o6_wordsInUse_v10.other W14 (Or.inl (Ne.symm ne_o3_o6))
  have F_o6_sizeIsSticky_v14 := F_o6_sizeIsSticky_v10.other W14 (Or.inl (Ne.symm ne_o3_o6))
  have F_o6_words_v14 := F_o6_words_v10.other W14 (Or.inl (Ne.symm ne_o3_o6))
  have V_o7_v14 := V_o7_v10.other W14 (Ne.symm ne_o3_o7)
  have O14 := O10.wr W14 gn_o3
  have K14 : Keep h0 h14 [o1, o2, o3, o4, o5] := K10.wr W14 (Or.inl (List.mem_of_getElem? (i := 2) rfl))
  obtain ⟨T15, X15, e15, st15⟩ := getF X14 hx hZ hown (host := "") (Or.inl (W hw 14 rfl)) Via.refl e14 F_o1_firstPiece_v14 (g := (mkF m 113 #[.val (.ref o1), .val (.int (3 : Int32))] [(.ref o1)])) rfl rfl (hb hby d6_113)
  have V_o4_v16 : Arv Z h14 o4 kc_o4 .int (64 : Int32) [(.int (-1 : Int32)), (.int (-1 : Int32)), (.int (-1 : Int32)), (.int (0 : Int32))] (.int (0 : Int32)) := V_o4_v14.pad (pad_rep [(.int (-1 : Int32)), (.int (-1 : Int32)), (.int (-1 : Int32))] (.int (0 : Int32)) 1)
  obtain ⟨cl17, Ar17, q17, Sz17, Ng17, Hv17, Gv17⟩ := V_o4_v16
  have hin17 : ¬ ((3 : Int32) < 0 ∨ cl17.slots.size ≤ ((3 : Int32)).toNatClampNeg) := inb_of Sz17 ⟨by decide, by decide⟩
  obtain ⟨T18, h18, X18, e18, W18, st18⟩ := stI X15 hx hZ e15 Ar17 (j := (3 : Int32)) hin17 (g := (mkF m 118 #[.val (.ref o1), .val (.int (3 : Int32))] [(.int (-1 : Int32)), (.int (3 : Int32)), (.ref o4)])) rfl rfl (hb hby d6_118)
  have V_o4_v18 : Arv Z h18 o4 kc_o4 .int (64 : Int32) [(.int (-1 : Int32)), (.int (-1 : Int32)), (.int (-1 : Int32)), (.int (-1 : Int32))] (.int (0 : Int32)) := Arv.set Ar17 q17 Sz17 Ng17 Hv17 Gv17 rfl W18 3 rfl (Nat.le_of_ble_eq_true rfl)
  have N18 := Fr.snoc X18 N14 gn_o4
  have E_o1_v18 := E_o1_v14.wr W18
  have F_o1_nextBlock_v18 := F_o1_nextBlock_v14.other W18 (Or.inl ne_o1_o4)
  have F_o1_previousBlock_v18 := F_o1_previousBlock_v14.other W18 (Or.inl ne_o1_o4)
  have F_o1_firstPiece_v18 := F_o1_firstPiece_v14.other W18 (Or.inl ne_o1_o4)
  have F_o1_lastPiece_v18 := F_o1_lastPiece_v14.other W18 (Or.inl ne_o1_o4)
  have F_o1_closed_v18 := F_o1_closed_v14.other W18 (Or.inl ne_o1_o4)
  have F_o1_firstBlock_v18 := F_o1_firstBlock_v14.other W18 (Or.inl ne_o1_o4)
  have F_o1_lastBlock_v18 := F_o1_lastBlock_v14.other W18 (Or.inl ne_o1_o4)
  have F_o1_blockCount_v18 := F_o1_blockCount_v14.other W18 (Or.inl ne_o1_o4)
  have V_o2_v18 := V_o2_v14.other W18 ne_o2_o4
  have V_o3_v18 := V_o3_v14.other W18 ne_o3_o4
  have V_o5_v18 := V_o5_v14.other W18 (Ne.symm ne_o4_o5)
  have E_o6_v18 := E_o6_v14.wr W18
  have F_o6_wordsInUse_v18 := F_o6_wordsInUse_v14.other W18 (Or.inl (Ne.symm ne_o4_o6))
  have F_o6_sizeIsSticky_v18 := F_o6_sizeIsSticky_v14.other W18 (Or.inl (Ne.symm ne_o4_o6))
  have F_o6_words_v18 := F_o6_words_v14.other W18 (Or.inl (Ne.symm ne_o4_o6))
  have V_o7_v18 := V_o7_v14.other W18 (Ne.symm ne_o4_o7)
  have O18 := O14.wr W18 gn_o4
  have K18 : Keep h0 h18 [o1, o2, o3, o4, o5] := K14.wr W18 (Or.inl (List.mem_of_getElem? (i := 3) rfl))
  obtain ⟨T19, X19, e19, st19⟩ := getF X18 hx hZ hown (host := "") (Or.inl (W hw 16 rfl)) Via.refl e18 F_o1_lastPiece_v18 (g := (mkF m 120 #[.val (.ref o1), .val (.int (3 : Int32))] [(.ref o1)])) rfl rfl (hb hby d6_120)
  have V_o5_v20 : Arv Z h18 o5 kc_o5 .int (64 : Int32) [(.int (-1 : Int32)), (.int (-1 : Int32)), (.int (-1 : Int32)), (.int (0 : Int32))] (.int (0 : Int32)) := V_o5_v18.pad (pad_rep [(.int (-1 : Int32)), (.int (-1 : Int32)), (.int (-1 : Int32))] (.int (0 : Int32)) 1)
  obtain ⟨cl21, Ar21, q21, Sz21, Ng21, Hv21, Gv21⟩ := V_o5_v20
  have hin21 : ¬ ((3 : Int32) < 0 ∨ cl21.slots.size ≤ ((3 : Int32)).toNatClampNeg) := inb_of Sz21 ⟨by decide, by decide⟩
  obtain ⟨T22, h22, X22, e22, W22, st22⟩ := stI X19 hx hZ e19 Ar21 (j := (3 : Int32)) hin21 (g := (mkF m 125 #[.val (.ref o1), .val (.int (3 : Int32))] [(.int (-1 : Int32)), (.int (3 : Int32)), (.ref o5)])) rfl rfl (hb hby d6_125)
  have V_o5_v22 : Arv Z h22 o5 kc_o5 .int (64 : Int32) [(.int (-1 : Int32)), (.int (-1 : Int32)), (.int (-1 : Int32)), (.int (-1 : Int32))] (.int (0 : Int32)) := Arv.set Ar21 q21 Sz21 Ng21 Hv21 Gv21 rfl W22 3 rfl (Nat.le_of_ble_eq_true rfl)
  have N22 := Fr.snoc X22 N18 gn_o5
  have E_o1_v22 := E_o1_v18.wr W22
  have F_o1_nextBlock_v22 := F_o1_nextBlock_v18.other W22 (Or.inl ne_o1_o5)
  have F_o1_previousBlock_v22 := F_o1_previousBlock_v18.other W22 (Or.inl ne_o1_o5)
  have F_o1_firstPiece_v22 := F_o1_firstPiece_v18.other W22 (Or.inl ne_o1_o5)
  have F_o1_lastPiece_v22 := F_o1_lastPiece_v18.other W22 (Or.inl ne_o1_o5)
  have F_o1_closed_v22 := F_o1_closed_v18.other W22 (Or.inl ne_o1_o5)
  have F_o1_firstBlock_v22 := F_o1_firstBlock_v18.other W22 (Or.inl ne_o1_o5)
  have F_o1_lastBlock_v22 := F_o1_lastBlock_v18.other W22 (Or.inl ne_o1_o5)
  have F_o1_blockCount_v22 := F_o1_blockCount_v18.other W22 (Or.inl ne_o1_o5)
  have V_o2_v22 := V_o2_v18.other W22 ne_o2_o5
  have V_o3_v22 := V_o3_v18.other W22 ne_o3_o5
  have V_o4_v22 := V_o4_v18.other W22 ne_o4_o5
  have E_o6_v22 := E_o6_v18.wr W22
  have F_o6_wordsInUse_v22 := F_o6_wordsInUse_v18.other W22 (Or.inl (Ne.symm ne_o5_o6))
  have F_o6_sizeIsSticky_v22 := F_o6_sizeIsSticky_v18.other W22 (Or.inl (Ne.symm ne_o5_o6))
  have F_o6_words_v22 := F_o6_words_v18.other W22 (Or.inl (Ne.symm ne_o5_o6))
  have V_o7_v22 := V_o7_v18.other W22 (Ne.symm ne_o5_o7)
  have O22 := O18.wr W22 gn_o5
  have K22 : Keep h0 h22 [o1, o2, o3, o4, o5] := K18.wr W22 (Or.inl (List.mem_of_getElem? (i := 4) rfl))
  refine ⟨T22, some (.int (3 : Int32)), _, _, _, by decide, by decide, X22, nofun, (by rw [e22]; exact ⟨rfl, N22, K22, E_o1_v22, F_o1_nextBlock_v22, F_o1_previousBlock_v22, F_o1_firstPiece_v22, F_o1_lastPiece_v22, F_o1_closed_v22, F_o1_firstBlock_v22, F_o1_lastBlock_v22, F_o1_blockCount_v22, V_o2_v22, V_o3_v22, V_o4_v22, V_o5_v22⟩), fun fs hr => castTop (ef_4 m (.ref o1) rfl) ?_⟩
  show Steps p.tables e below (s₁.setTop (mkF m 0 #[.val (.ref o1), .unset] [])) _
  refine XS.aloadN X0.here hx rfl (hb hby d6_0) rfl rfl ?_
  refine st1 _ ?_
  refine X1.ldcInt hx hown (mvT hZ (W hw 68 rfl)) (g := (mkF m 4 #[.val (.ref o1), .unset] [(.int (3 : Int32))])) rfl (hb hby d6_4) _ ?_
  refine XS.icmpYes X1.here hx rfl (pc0 := 6) (pc' := 19) rfl (hb hby d6_6) rfl (feq (by decide : ¬ ((3 : Int32) = (524288 : Int32)))).2 (by decide) (by decide) ?_
  refine XS.aloadN X1.here hx rfl (hb hby d6_19) rfl rfl ?_
  refine st2 _ ?_
  refine XS.aloadN X2.here hx rfl (hb hby d6_23) rfl rfl ?_
  refine st3 _ ?_
  show Steps p.tables e below (T3.setTop (mkF m 27 #[.val (.ref o1), .unset] [(.ref o2), (.int (3 : Int32))])) _
  refine X3.arraylength hx (by rw [e3]; exact Ar4.1) (State.isArrayOf_alike hZ.alike Ar4.2.1) (g := (mkF m 27 #[.val (.ref o1), .unset] [(.ref o2), (.int (3 : Int32))])) rfl rfl (hb hby d6_27) _ ?_
  rw [len_of Sz4 Ng4]
  refine XS.icmpYes X3.here hx rfl (pc0 := 28) (pc' := 86) rfl (hb hby d6_28) rfl (feq (by decide : ¬ ((3 : Int32) = (64 : Int32)))).2 (by decide) (by decide) ?_
  refine XS.aloadN X3.here hx rfl (hb hby d6_86) rfl rfl ?_
  refine XS.dup X3.here hx rfl (hb hby d6_87) rfl rfl ?_
  refine st5 _ ?_
  refine XS.dupX1 X5.here hx rfl (hb hby d6_91) rfl rfl rfl ?_
  refine XS.iconst X5.here hx rfl (hb hby d6_92) ?_
  refine XS.iadd X5.here hx rfl (hb hby d6_93) rfl ?_
  show Steps p.tables e below (T5.setTop (mkF m 94 #[.val (.ref o1), .unset] [(.int ((3 : Int32) + (1 : Int32))), (.ref o1), (.int (3 : Int32))])) _
  rw [lf_5]
  show Steps p.tables e below (T5.setTop (mkF m 94 #[.val (.ref o1), .unset] [(.int (4 : Int32)), (.ref o1), (.int (3 : Int32))])) _
  refine st6 _ ?_
  refine XS.istoreN X6.here hx rfl (hb hby d6_97) rfl (l' := #[.val (.ref o1), .val (.int (3 : Int32))]) rfl ?_
  refine XS.aloadN X6.here hx rfl (hb hby d6_98) rfl rfl ?_
  refine st7 _ ?_
  refine XS.iloadN X7.here hx rfl (hb hby d6_102) rfl ?_
  refine XS.iconst X7.here hx rfl (hb hby d6_103) ?_
  refine st10 _ ?_
  refine XS.aloadN X10.here hx rfl (hb hby d6_105) rfl rfl ?_
  show Steps p.tables e below (T10.setTop (mkF m 106 #[.val (.ref o1), .val (.int (3 : Int32))] [(.ref o1)])) _
  refine st11 _ ?_
  refine XS.iloadN X11.here hx rfl (hb hby d6_109) rfl ?_
  refine XS.iconst X11.here hx rfl (hb hby d6_110) ?_
  refine st14 _ ?_
  refine XS.aloadN X14.here hx rfl (hb hby d6_112) rfl rfl ?_
  refine st15 _ ?_
  refine XS.iloadN X15.here hx rfl (hb hby d6_116) rfl ?_
  refine XS.iconst X15.here hx rfl (hb hby d6_117) ?_
  show Steps p.tables e below (T15.setTop (mkF m 118 #[.val (.ref o1), .val (.int (3 : Int32))] [(.int (-1 : Int32)), (.int (3 : Int32)), (.ref o4)])) _
  refine st18 _ ?_
  refine XS.aloadN X18.here hx rfl (hb hby d6_119) rfl rfl ?_
  refine st19 _ ?_
  refine XS.iloadN X19.here hx rfl (hb hby d6_123) rfl ?_
  refine XS.iconst X19.here hx rfl (hb hby d6_124) ?_
  refine st22 _ ?_
  refine XS.iloadN X22.here hx rfl (hb hby d6_126) rfl ?_
  show Steps p.tables e below (T22.setTop (mkF m 127 #[.val (.ref o1), .val (.int (3 : Int32))] [(.int (3 : Int32))])) _
  exact retI X22 hx hret (hb hby d6_127) hr
def Qd_16 (Z : State) (w : Nat → Addr) (kk : Nat → ClassId) (iw : Nat → Int32) (vw : Nat → Value) (o1 : Addr) (o2 : Addr) (o3 : Addr) (o4 : Addr) (o5 : Addr) (o6 : Addr) (kc_o2 : ClassId) (kc_o3 : ClassId) (kc_o4 : ClassId) (kc_o5 : ClassId) (o7 : Addr) (kc_o7 : ClassId) (h0 : Heap) (n0 : Nat) (v : Option Value) (h : Heap) (L : List Loc) : Prop := v = none ∧ Fr n0 L ∧ Keep h0 h [o5, o4, o3, o2, o1] ∧ Exa Z h o1 s_0 ∧ Fld Z h o1 s_0 "nextBlock" "[I" (.ref o2) ∧ Fld Z h o1 s_0 s_5 "[I" (.ref o3) ∧ Fld Z h o1 s_0 "firstPiece" "[I" (.ref o4) ∧ Fld Z h o1 s_0 "lastPiece" "[I" (.ref o5) ∧ Fld Z h o1 s_0 "closed" s_3 (.ref o6) ∧ Fld Z h o1 s_0 "firstBlock" "I" (.int (3 : Int32)) ∧ Fld Z h o1 s_0 "lastBlock" "I" (.int (2 : Int32)) ∧ Fld Z h o1 s_0 "blockCount" "I" (.int (4 : Int32)) ∧ Arv Z h o2 kc_o2 .int (64 : Int32) [(.int (1 : Int32)), (.int (2 : Int32)), (.int (-1 : Int32)), (.int (0 : Int32))] (.int (0 : Int32)) ∧ Arv Z h o3 kc_o3 .int (64 : Int32) [(.int (3 : Int32)), (.int (0 : Int32)), (.int (1 : Int32)), (.int (-1 : Int32))] (.int (0 : Int32)) ∧ Arv Z h o4 kc_o4 .int (64 : Int32) [(.int (-1 : Int32)), (.int (-1 : Int32)), (.int (-1 : Int32)), (.int (-1 : Int32))] (.int (0 : Int32)) ∧ Arv Z h o5 kc_o5 .int (64 : Int32) [(.int (-1 : Int32)), (.int (-1 : Int32)), (.int (-1 : Int32)), (.int (-1 : Int32))] (.int (0 : Int32))
set_option maxRecDepth 65536 in
set_option maxHeartbeats 40000000 in
theorem rm_62 (l : Launch) (Z : State) (a0 : Array Value) (hw : ∀ d ∈ tables_1, d.before a0 Z = true) (w : Nat → Addr) (kk : Nat → ClassId) (iw : Nat → Int32) (vw : Nat → Value) (hN : Wd Z w kk iw vw) (ws : List Jvm.Cond) (o1 : Addr) (o2 : Addr) (o3 : Addr) (o4 : Addr) (o5 : Addr) (o6 : Addr) (kc_o2 : ClassId) (kc_o3 : ClassId) (kc_o4 : ClassId) (kc_o5 : ClassId) (o7 : Addr) (kc_o7 : ClassId) (h0 : Heap) (O0 : Old Z Z.heap.size h0) (gn_o1 : Z.heap.size ≤ o1) (lt_o1 : o1 < h0.size) (E_o1 : Exa Z h0 o1 s_0) (gn_o2 : Z.heap.size ≤ o2) (lt_o2 : o2 < h0.size) (F_o1_nextBlock : Fld Z h0 o1 s_0 "nextBlock" "[I" (.ref o2)) (gn_o3 : Z.heap.size ≤ o3) (lt_o3 : o3 < h0.size) (F_o1_previousBlock : Fld Z h0 o1 s_0 s_5 "[I" (.ref o3)) (gn_o4 : Z.heap.size ≤ o4) (lt_o4 : o4 < h0.size) (F_o1_firstPiece : Fld Z h0 o1 s_0 "firstPiece" "[I" (.ref o4)) (gn_o5 : Z.heap.size ≤ o5) (lt_o5 : o5 < h0.size) (F_o1_lastPiece : Fld Z h0 o1 s_0 "lastPiece" "[I" (.ref o5)) (gn_o6 : Z.heap.size ≤ o6) (lt_o6 : o6 < h0.size) (F_o1_closed : Fld Z h0 o1 s_0 "closed" s_3 (.ref o6)) (F_o1_firstBlock : Fld Z h0 o1 s_0 "firstBlock" "I" (.int (0 : Int32))) (F_o1_lastBlock : Fld Z h0 o1 s_0 "lastBlock" "I" (.int (2 : Int32))) (F_o1_blockCount : Fld Z h0 o1 s_0 "blockCount" "I" (.int (3 : Int32))) (V_o2 : Arv Z h0 o2 kc_o2 .int (64 : Int32) [(.int (1 : Int32)), (.int (2 : Int32)), (.int (-1 : Int32))] (.int (0 : Int32))) (V_o3 : Arv Z h0 o3 kc_o3 .int (64 : Int32) [(.int (-1 : Int32)), (.int (0 : Int32)), (.int (1 : Int32))] (.int (0 : Int32))) (V_o4 : Arv Z h0 o4 kc_o4 .int (64 : Int32) [(.int (-1 : Int32)), (.int (-1 : Int32)), (.int (-1 : Int32))] (.int (0 : Int32))) (V_o5 : Arv Z h0 o5 kc_o5 .int (64 : Int32) [(.int (-1 : Int32)), (.int (-1 : Int32)), (.int (-1 : Int32))] (.int (0 : Int32))) (E_o6 : Exa Z h0 o6 s_1) (F_o6_wordsInUse : Fld Z h0 o6 s_1 "wordsInUse" "I" (.int (0 : Int32))) (F_o6_sizeIsSticky : Fld Z h0 o6 s_1 s_6 "Z" (.int (0 : Int32))) (gn_o7 : Z.heap.size ≤ o7) (lt_o7 : o7 < h0.size) (F_o6_words : Fld Z h0 o6 s_1 "words" "[J" (.ref o7)) (V_o7 : Arv Z h0 o7 kc_o7 .long (1 : Int32) [] (.long (0 : Int64))) (ne_o1_o2 : o1 ≠ o2) (ne_o1_o3 : o1 ≠ o3) (ne_o1_o4 : o1 ≠ o4) (ne_o1_o5 : o1 ≠ o5) (ne_o1_o6 : o1 ≠ o6) (ne_o1_o7 : o1 ≠ o7) (ne_o2_o3 : o2 ≠ o3) (ne_o2_o4 : o2 ≠ o4) (ne_o2_o5 : o2 ≠ o5) (ne_o2_o6 : o2 ≠ o6) (ne_o2_o7 : o2 ≠ o7) (ne_o3_o4 : o3 ≠ o4) (ne_o3_o5 : o3 ≠ o5) (ne_o3_o6 : o3 ≠ o6) (ne_o3_o7 : o3 ≠ o7) (ne_o4_o5 : o4 ≠ o5) (ne_o4_o6 : o4 ≠ o6) (ne_o4_o7 : o4 ≠ o7) (ne_o5_o6 : o5 ≠ o6) (ne_o5_o7 : o5 ≠ o7) (ne_o6_o7 : o6 ≠ o7) :
    MetW l Z (⟨s_0, "insertBlock", "(I)V"⟩ : MethodName) (Jvm.Cond.code (⟨s_0, "insertBlock", "(I)V"⟩ : MethodName) prog_20_method_4_code 5 none) ws (Rm 1 2 68 14) #[(.ref o1), (.int (0 : Int32))] h0 (Qd_16 Z w kk iw vw o1 o2 o3 o4 o5 o6 kc_o2 kc_o3 kc_o4 kc_o5 o7 kc_o7 h0 Z.heap.size) := by
  have hN' := hN
  have hL0 : Sta Z Z.heap s_1 s_4 "Z" (.int (1 : Int32)) := hN'
  refine own_bodyW (plainFor_of_name pn_1) hisR ?_
  intro p e s m below meth c s₁ hx hby hml hown hnm hret X0 hZ e0
  have N0 := Fr.nil Z.heap.size
  have K0 : Keep h0 h0 [o5, o4, o3, o2, o1] := Keep.refl _ _
  obtain ⟨b1, T1, h1, k1, X1, e1, E1, hS1, hk1, hZ1, hown1, st1⟩ := ldcS (s := s) (vm0 := s.vm) X0 hx hZ hown (W hw 75 rfl) (own_atoms hw) e0 (own_since s 0) (Nat.zero_le _) (g := (mkF m 2 #[.val (.ref o1), .val (.int (0 : Int32)), .unset, .unset, .unset] [(.int (0 : Int32)), (.ref o1)])) rfl (hb hby d13_2) (n := 64) (by decide) (by decide) (by decide) (by decide)
  have E_o1_v1 := E_o1.ext E1
  have F_o1_nextBlock_v1 := F_o1_nextBlock.ext E1
  have F_o1_previousBlock_v1 := F_o1_previousBlock.ext E1
  have F_o1_firstPiece_v1 := F_o1_firstPiece.ext E1
  have F_o1_lastPiece_v1 := F_o1_lastPiece.ext E1
  have F_o1_closed_v1 := F_o1_closed.ext E1
  have F_o1_firstBlock_v1 := F_o1_firstBlock.ext E1
  have F_o1_lastBlock_v1 := F_o1_lastBlock.ext E1
  have F_o1_blockCount_v1 := F_o1_blockCount.ext E1
  have V_o2_v1 := V_o2.ext E1
  have V_o3_v1 := V_o3.ext E1
  have V_o4_v1 := V_o4.ext E1
  have V_o5_v1 := V_o5.ext E1
  have E_o6_v1 := E_o6.ext E1
  have F_o6_wordsInUse_v1 := F_o6_wordsInUse.ext E1
  have F_o6_sizeIsSticky_v1 := F_o6_sizeIsSticky.ext E1
  have F_o6_words_v1 := F_o6_words.ext E1
  have V_o7_v1 := V_o7.ext E1
  have O1 := O0.ext E1
  have K1 := K0.ext E1
  obtain ⟨cq2, q2, q2'⟩ := E_o1_v1.cell
  obtain ⟨_, _, ⟨T2, L2, k2, n2⟩, -, X2, ⟨Lc2, hQ2, l2, y2, z2⟩, st2⟩ := X1.privateBack hx (y := (⟨s_0, "find", s_7⟩ : MethodName)) hown1 (mvT hZ1 (W hw 83 rfl)) (mvT hZ1 (W hw 84 rfl)) (own_selpriv (mvT hZ1 (W hw 1 rfl)) (Cond.privateMethod_at (mvP hZ1 (W hw 85 rfl) (args := #[]))) (mvT hZ1 (W hw 84 rfl)) (by decide)) (Cond.privateMethod_at (mvP hZ1 (W hw 85 rfl) (args := #[]))) (mvT hZ1 (W hw 86 rfl)) (by decide) (backOf (W := 0) (rm_60 l Z a0 hw w kk iw vw hN [] o1 b1 o2 o3 o4 o5 o6 kc_o2 kc_o3 kc_o4 kc_o5 o7 kc_o7 h1 O1 gn_o1 E_o1_v1.lt E_o1_v1 gn_o2 V_o2_v1.lt F_o1_nextBlock_v1 gn_o3 V_o3_v1.lt F_o1_previousBlock_v1 gn_o4 V_o4_v1.lt F_o1_firstPiece_v1 gn_o5 V_o5_v1.lt F_o1_lastPiece_v1 gn_o6 E_o6_v1.lt F_o1_closed_v1 F_o1_firstBlock_v1 F_o1_lastBlock_v1 F_o1_blockCount_v1 V_o2_v1 V_o3_v1 V_o4_v1 V_o5_v1 E_o6_v1 F_o6_wordsInUse_v1 F_o6_sizeIsSticky_v1 gn_o7 V_o7_v1.lt F_o6_words_v1 V_o7_v1 ne_o1_o2 ne_o1_o3 ne_o1_o4 ne_o1_o5 ne_o1_o6 ne_o1_o7 ne_o2_o3 ne_o2_o4 ne_o2_o5 ne_o2_o6 ne_o2_o7 ne_o3_o4 ne_o3_o5 ne_o3_o6 ne_o3_o7 ne_o4_o5 ne_o4_o6 ne_o4_o7 ne_o5_o6 ne_o5_o7 ne_o6_o7) hZ1 (W hw 86 rfl) (W hw 2 rfl) (by decide) (by decide)) (g := (mkF m 4 #[.val (.ref o1), .val (.int (0 : Int32)), .unset, .unset, .unset] [(.ref b1), (.int (0 : Int32)), (.ref o1)])) rfl (by rw [hml]; rfl) (Steps.refl _) (a := o1) (by rw [e1]; exact q2) q2' (argsL := [(.int (0 : Int32)), (.ref b1)]) (rest := []) (lenOf pd_5 rfl) rfl (by show 2 * 0 + _ ≤ _; exact Nat.le_of_eq rfl) (hb hby d13_4) (fun _ _ => ⟨rfl, e1, (by decide : 2 + 0 ≤ _), (by decide : 68 + 0 ≤ _)⟩)
  dsimp only [Pt.U, Pt.locs, Pt.cells, Pt.slots] at X2 l2 y2 z2 st2 hQ2
  subst l2 y2 z2
  obtain ⟨rfl, N2q, e2⟩ := hQ2
  have N2 := Fr.app N0 N2q
  obtain ⟨cq3, q3, q3'⟩ := E_o1_v1.cell
  obtain ⟨_, _, ⟨T3, L3, k3, n3⟩, -, X3, ⟨Lc3, hQ3, l3, y3, z3⟩, st3⟩ := X2.privateBack hx (y := (⟨s_0, "newBlock", "()I"⟩ : MethodName)) hown1 (mvT hZ1 (W hw 64 rfl)) (mvT hZ1 (W hw 65 rfl)) (own_selpriv (mvT hZ1 (W hw 1 rfl)) (Cond.privateMethod_at (mvP hZ1 (W hw 66 rfl) (args := #[]))) (mvT hZ1 (W hw 65 rfl)) (by decide)) (Cond.privateMethod_at (mvP hZ1 (W hw 66 rfl) (args := #[]))) (mvT hZ1 (W hw 67 rfl)) (by decide) (backOf (W := 0) (rm_61 l Z a0 hw w kk iw vw hN [] o1 o2 o3 o4 o5 o6 kc_o2 kc_o3 kc_o4 kc_o5 o7 kc_o7 h1 O1 gn_o1 E_o1_v1.lt E_o1_v1 gn_o2 V_o2_v1.lt F_o1_nextBlock_v1 gn_o3 V_o3_v1.lt F_o1_previousBlock_v1 gn_o4 V_o4_v1.lt F_o1_firstPiece_v1 gn_o5 V_o5_v1.lt F_o1_lastPiece_v1 gn_o6 E_o6_v1.lt F_o1_closed_v1 F_o1_firstBlock_v1 F_o1_lastBlock_v1 F_o1_blockCount_v1 V_o2_v1 V_o3_v1 V_o4_v1 V_o5_v1 E_o6_v1 F_o6_wordsInUse_v1 F_o6_sizeIsSticky_v1 gn_o7 V_o7_v1.lt F_o6_words_v1 V_o7_v1 ne_o1_o2 ne_o1_o3 ne_o1_o4 ne_o1_o5 ne_o1_o6 ne_o1_o7 ne_o2_o3 ne_o2_o4 ne_o2_o5 ne_o2_o6 ne_o2_o7 ne_o3_o4 ne_o3_o5 ne_o3_o6 ne_o3_o7 ne_o4_o5 ne_o4_o6 ne_o4_o7 ne_o5_o6 ne_o5_o7 ne_o6_o7) hZ1 (W hw 67 rfl) (W hw 2 rfl) (by decide) (by decide)) (g := (mkF m 9 #[.val (.ref o1), .val (.int (0 : Int32)), .val (.int (0 : Int32)), .unset, .unset] [(.ref o1)])) rfl (by rw [hml]; rfl) (Steps.refl _) (a := o1) (by rw [e2]; exact q3) q3' (argsL := []) (rest := []) (lenOf pd_4 rfl) rfl (by show 2 * 0 + _ ≤ _; exact Nat.le_of_eq rfl) (hb hby d13_9) (fun _ _ => ⟨rfl, e2, (by decide : 2 + 0 ≤ _), (by decide : 68 + 0 ≤ _)⟩)
  dsimp only [Pt.U, Pt.locs, Pt.cells, Pt.slots] at X3 l3 y3 z3 st3 hQ3
  subst l3 y3 z3
  obtain ⟨rfl, N3q, Kq3, tk3_0, tk3_1, tk3_2, tk3_3, tk3_4, tk3_5, tk3_6, tk3_7, tk3_8, tk3_9, tk3_10, tk3_11, tk3_12⟩ := hQ3
  have N3 := Fr.app N2 N3q
  have E_o1_v3 := E_o1_v1.keep Kq3
  have E_o6_v3 := E_o6_v1.keep Kq3
  have F_o6_wordsInUse_v3 := F_o6_wordsInUse_v1.keep Kq3 (ninS (Ne.symm ne_o1_o6) (ninS (Ne.symm ne_o2_o6) (ninS (Ne.symm ne_o3_o6) (ninS (Ne.symm ne_o4_o6) (ninS (Ne.symm ne_o5_o6) nin0)))))
  have F_o6_sizeIsSticky_v3 := F_o6_sizeIsSticky_v1.keep Kq3 (ninS (Ne.symm ne_o1_o6) (ninS (Ne.symm ne_o2_o6) (ninS (Ne.symm ne_o3_o6) (ninS (Ne.symm ne_o4_o6) (ninS (Ne.symm ne_o5_o6) nin0)))))
  have F_o6_words_v3 := F_o6_words_v1.keep Kq3 (ninS (Ne.symm ne_o1_o6) (ninS (Ne.symm ne_o2_o6) (ninS (Ne.symm ne_o3_o6) (ninS (Ne.symm ne_o4_o6) (ninS (Ne.symm ne_o5_o6) nin0)))))
  have V_o7_v3 := V_o7_v1.keep Kq3 (ninS (Ne.symm ne_o1_o7) (ninS (Ne.symm ne_o2_o7) (ninS (Ne.symm ne_o3_o7) (ninS (Ne.symm ne_o4_o7) (ninS (Ne.symm ne_o5_o7) nin0)))))
  have hk3 := Nat.le_trans hk1 Kq3.1
  have O3 := O1.keep Kq3 (allS gn_o1 (allS gn_o2 (allS gn_o3 (allS gn_o4 (allS gn_o5 all0)))))
  have K3 : Keep h0 T3.heap [o5, o4, o3, o2, o1] := K1.trans Kq3 (allS (Or.inl (List.mem_of_getElem? (i := 4) rfl)) (allS (Or.inl (List.mem_of_getElem? (i := 3) rfl)) (allS (Or.inl (List.mem_of_getElem? (i := 2) rfl)) (allS (Or.inl (List.mem_of_getElem? (i := 1) rfl)) (allS (Or.inl (List.mem_of_getElem? (i := 0) rfl)) all0)))))
  obtain ⟨T4, X4, e4, st4⟩ := getF X3 hx hZ1 hown1 (host := "") (Or.inl (W hw 12 rfl)) Via.refl rfl tk3_2 (g := (mkF m 14 #[.val (.ref o1), .val (.int (0 : Int32)), .val (.int (0 : Int32)), .val (.int (3 : Int32)), .unset] [(.ref o1)])) rfl rfl (hb hby d13_14)
  obtain ⟨cl5, Ar5, q5, Sz5, Ng5, Hv5, Gv5⟩ := id tk3_10
  have hin5 : ¬ ((0 : Int32) < 0 ∨ cl5.slots.size ≤ ((0 : Int32)).toNatClampNeg) := inb_of Sz5 ⟨by decide, by decide⟩
  have hat5 : cl5.slots[((0 : Int32)).toNatClampNeg]? = some (.int (-1 : Int32)) := Has.at Hv5 hin5 (by rfl)
  obtain ⟨T6, X6, e6, st6⟩ := getF X4 hx hZ1 hown1 (host := "") (Or.inl (W hw 10 rfl)) Via.refl e4 tk3_1 (g := (mkF m 22 #[.val (.ref o1), .val (.int (0 : Int32)), .val (.int (0 : Int32)), .val (.int (3 : Int32)), .val (.int (-1 : Int32))] [(.ref o1)])) rfl rfl (hb hby d13_22)
  obtain ⟨cl7, Ar7, q7, Sz7, Ng7, Hv7, Gv7⟩ := tk3_9
  have hin7 : ¬ ((3 : Int32) < 0 ∨ cl7.slots.size ≤ ((3 : Int32)).toNatClampNeg) := inb_of Sz7 ⟨by decide, by decide⟩
  obtain ⟨T8, h8, X8, e8, W8, st8⟩ := stI X6 hx hZ1 e6 Ar7 (j := (3 : Int32)) hin7 (g := (mkF m 27 #[.val (.ref o1), .val (.int (0 : Int32)), .val (.int (0 : Int32)), .val (.int (3 : Int32)), .val (.int (-1 : Int32))] [(.int (0 : Int32)), (.int (3 : Int32)), (.ref o2)])) rfl rfl (hb hby d13_27)
  have V_o2_v8 : Arv Z h8 o2 kc_o2 .int (64 : Int32) [(.int (1 : Int32)), (.int (2 : Int32)), (.int (-1 : Int32)), (.int (0 : Int32))] (.int (0 : Int32)) := Arv.set Ar7 q7 Sz7 Ng7 Hv7 Gv7 rfl W8 3 rfl (Nat.le_of_ble_eq_true rfl)
  have N8 := Fr.snoc X8 N3 gn_o2
  have tk3_0_v8 := tk3_0.wr W8
  have E_o6_v8 := E_o6_v3.wr W8
  have F_o6_wordsInUse_v8 := F_o6_wordsInUse_v3.other W8 (Or.inl (Ne.symm ne_o2_o6))
  have F_o6_sizeIsSticky_v8 := F_o6_sizeIsSticky_v3.other W8 (Or.inl (Ne.symm ne_o2_o6))
  have F_o6_words_v8 := F_o6_words_v3.other W8 (Or.inl (Ne.symm ne_o2_o6))
  have V_o7_v8 := V_o7_v3.other W8 (Ne.symm ne_o2_o7)
  have tk3_1_v8 := tk3_1.other W8 (Or.inl ne_o1_o2)
  have tk3_2_v8 := tk3_2.other W8 (Or.inl ne_o1_o2)
  have tk3_3_v8 := tk3_3.other W8 (Or.inl ne_o1_o2)
  have tk3_4_v8 := tk3_4.other W8 (Or.inl ne_o1_o2)
  have tk3_5_v8 := tk3_5.other W8 (Or.inl ne_o1_o2)
  have tk3_6_v8 := tk3_6.other W8 (Or.inl ne_o1_o2)
  have tk3_7_v8 := tk3_7.other W8 (Or.inl ne_o1_o2)
  have tk3_8_v8 := tk3_8.other W8 (Or.inl ne_o1_o2)
  have tk3_10_v8 := tk3_10.other W8 (Ne.symm ne_o2_o3)
  have tk3_11_v8 := tk3_11.other W8 (Ne.symm ne_o2_o4)
  have tk3_12_v8 := tk3_12.other W8 (Ne.symm ne_o2_o5)
  have O8 := O3.wr W8 gn_o2
  have K8 : Keep h0 h8 [o5, o4, o3, o2, o1] := K3.wr W8 (Or.inl (List.mem_of_getElem? (i := 3) rfl))
  have hk8 := Nat.le_trans hk3 (Keep.of_wr W8).1
  obtain ⟨T9, X9, e9, st9⟩ := getF X8 hx hZ1 hown1 (host := "") (Or.inl (W hw 12 rfl)) Via.refl e8 tk3_2_v8 (g := (mkF m 29 #[.val (.ref o1), .val (.int (0 : Int32)), .val (.int (0 : Int32)), .val (.int (3 : Int32)), .val (.int (-1 : Int32))] [(.ref o1)])) rfl rfl (hb hby d13_29)
  obtain ⟨cl10, Ar10, q10, Sz10, Ng10, Hv10, Gv10⟩ := tk3_10_v8
  have hin10 : ¬ ((3 : Int32) < 0 ∨ cl10.slots.size ≤ ((3 : Int32)).toNatClampNeg) := inb_of Sz10 ⟨by decide, by decide⟩
  obtain ⟨T11, h11, X11, e11, W11, st11⟩ := stI X9 hx hZ1 e9 Ar10 (j := (3 : Int32)) hin10 (g := (mkF m 35 #[.val (.ref o1), .val (.int (0 : Int32)), .val (.int (0 : Int32)), .val (.int (3 : Int32)), .val (.int (-1 : Int32))] [(.int (-1 : Int32)), (.int (3 : Int32)), (.ref o3)])) rfl rfl (hb hby d13_35)
  have V_o3_v11 : Arv Z h11 o3 kc_o3 .int (64 : Int32) [(.int (-1 : Int32)), (.int (0 : Int32)), (.int (1 : Int32)), (.int (-1 : Int32))] (.int (0 : Int32)) := Arv.set Ar10 q10 Sz10 Ng10 Hv10 Gv10 rfl W11 3 rfl (Nat.le_of_ble_eq_true rfl)
  have N11 := Fr.snoc X11 N8 gn_o3
  have tk3_0_v11 := tk3_0_v8.wr W11
  have E_o6_v11 := E_o6_v8.wr W11
  have F_o6_wordsInUse_v11 := F_o6_wordsInUse_v8.other W11 (Or.inl (Ne.symm ne_o3_o6))
  have F_o6_sizeIsSticky_v11 := F_o6_sizeIsSticky_v8.other W11 (Or.inl (Ne.symm ne_o3_o6))
  have F_o6_words_v11 := F_o6_words_v8.other W11 (Or.inl (Ne.symm ne_o3_o6))
  have V_o7_v11 := V_o7_v8.other W11 (Ne.symm ne_o3_o7)
  have tk3_1_v11 := tk3_1_v8.other W11 (Or.inl ne_o1_o3)
  have tk3_2_v11 := tk3_2_v8.other W11 (Or.inl ne_o1_o3)
  have tk3_3_v11 := tk3_3_v8.other W11 (Or.inl ne_o1_o3)
  have tk3_4_v11 := tk3_4_v8.other W11 (Or.inl ne_o1_o3)
  have tk3_5_v11 := tk3_5_v8.other W11 (Or.inl ne_o1_o3)
  have tk3_6_v11 := tk3_6_v8.other W11 (Or.inl ne_o1_o3)
  have tk3_7_v11 := tk3_7_v8.other W11 (Or.inl ne_o1_o3)
  have tk3_8_v11 := tk3_8_v8.other W11 (Or.inl ne_o1_o3)
  have V_o2_v11 := V_o2_v8.other W11 ne_o2_o3
  have tk3_11_v11 := tk3_11_v8.other W11 (Ne.symm ne_o3_o4)
  have tk3_12_v11 := tk3_12_v8.other W11 (Ne.symm ne_o3_o5)
  have O11 := O8.wr W11 gn_o3
  have K11 : Keep h0 h11 [o5, o4, o3, o2, o1] := K8.wr W11 (Or.inl (List.mem_of_getElem? (i := 2) rfl))
  have hk11 := Nat.le_trans hk8 (Keep.of_wr W11).1
  obtain ⟨T12, h12, X12, e12, W12, st12⟩ := putF X11 hx hZ1 hown1 (host := "") (Or.inl (W hw 42 rfl)) Via.refl e11 tk3_6_v11 tk3_0_v11 (Or.inl (W hw 43 rfl)) (W hw 1 rfl) (ty := .int) (by decide) rfl rfl (g := (mkF m 44 #[.val (.ref o1), .val (.int (0 : Int32)), .val (.int (0 : Int32)), .val (.int (3 : Int32)), .val (.int (-1 : Int32))] [(.int (3 : Int32)), (.ref o1)])) rfl rfl (hb hby d13_44)
  have tk3_6_v12 := tk3_6_v11.same W12
  have N12 := Fr.snoc X12 N11 gn_o1
  have tk3_0_v12 := tk3_0_v11.wr W12
  have E_o6_v12 := E_o6_v11.wr W12
  have F_o6_wordsInUse_v12 := F_o6_wordsInUse_v11.other W12 (Or.inl (Ne.symm ne_o1_o6))
  have F_o6_sizeIsSticky_v12 := F_o6_sizeIsSticky_v11.other W12 (Or.inl (Ne.symm ne_o1_o6))
  have F_o6_words_v12 := F_o6_words_v11.other W12 (Or.inl (Ne.symm ne_o1_o6))
  have V_o7_v12 := V_o7_v11.other W12 (Ne.symm ne_o1_o7)
  have tk3_1_v12 := tk3_1_v11.other W12 (Or.inr (sn_56 hw))
  have tk3_2_v12 := tk3_2_v11.other W12 (Or.inr (sn_57 hw))
  have tk3_3_v12 := tk3_3_v11.other W12 (Or.inr (sn_58 hw))
  have tk3_4_v12 := tk3_4_v11.other W12 (Or.inr (sn_59 hw))
  have tk3_5_v12 := tk3_5_v11.other W12 (Or.inr (sn_60 hw))
  have tk3_7_v12 := tk3_7_v11.other W12 (Or.inr (sn_61 hw))
  have tk3_8_v12 := tk3_8_v11.other W12 (Or.inr (sn_65 hw))
  have V_o2_v12 := V_o2_v11.other W12 (Ne.symm ne_o1_o2)
  have V_o3_v12 := V_o3_v11.other W12 (Ne.symm ne_o1_o3)
  have tk3_11_v12 := tk3_11_v11.other W12 (Ne.symm ne_o1_o4)
  have tk3_12_v12 := tk3_12_v11.other W12 (Ne.symm ne_o1_o5)
  have O12 := O11.wr W12 gn_o1
  have K12 : Keep h0 h12 [o5, o4, o3, o2, o1] := K11.wr W12 (Or.inl (List.mem_of_getElem? (i := 4) rfl))
  have hk12 := Nat.le_trans hk11 (Keep.of_wr W12).1
  obtain ⟨T13, X13, e13, st13⟩ := getF X12 hx hZ1 hown1 (host := "") (Or.inl (W hw 12 rfl)) Via.refl e12 tk3_2_v12 (g := (mkF m 59 #[.val (.ref o1), .val (.int (0 : Int32)), .val (.int (0 : Int32)), .val (.int (3 : Int32)), .val (.int (-1 : Int32))] [(.ref o1)])) rfl rfl (hb hby d13_59)
  obtain ⟨cl14, Ar14, q14, Sz14, Ng14, Hv14, Gv14⟩ := V_o3_v12
  have hin14 : ¬ ((0 : Int32) < 0 ∨ cl14.slots.size ≤ ((0 : Int32)).toNatClampNeg) := inb_of Sz14 ⟨by decide, by decide⟩
  obtain ⟨T15, h15, X15, e15, W15, st15⟩ := stI X13 hx hZ1 e13 Ar14 (j := (0 : Int32)) hin14 (g := (mkF m 64 #[.val (.ref o1), .val (.int (0 : Int32)), .val (.int (0 : Int32)), .val (.int (3 : Int32)), .val (.int (-1 : Int32))] [(.int (3 : Int32)), (.int (0 : Int32)), (.ref o3)])) rfl rfl (hb hby d13_64)
  have V_o3_v15 : Arv Z h15 o3 kc_o3 .int (64 : Int32) [(.int (3 : Int32)), (.int (0 : Int32)), (.int (1 : Int32)), (.int (-1 : Int32))] (.int (0 : Int32)) := Arv.set Ar14 q14 Sz14 Ng14 Hv14 Gv14 rfl W15 0 rfl (Nat.le_of_ble_eq_true rfl)
  have N15 := Fr.snoc X15 N12 gn_o3
  have tk3_0_v15 := tk3_0_v12.wr W15
  have E_o6_v15 := E_o6_v12.wr W15
  have F_o6_wordsInUse_v15 := F_o6_wordsInUse_v12.other W15 (Or.inl (Ne.symm ne_o3_o6))
  have F_o6_sizeIsSticky_v15 := F_o6_sizeIsSticky_v12.other W15 (Or.inl (Ne.symm ne_o3_o6))
  have F_o6_words_v15 := F_o6_words_v12.other W15 (Or.inl (Ne.symm ne_o3_o6))
  have V_o7_v15 := V_o7_v12.other W15 (Ne.symm ne_o3_o7)
  have tk3_1_v15 := tk3_1_v12.other W15 (Or.inl ne_o1_o3)
  have tk3_2_v15 := tk3_2_v12.other W15 (Or.inl ne_o1_o3)
  have tk3_3_v15 := tk3_3_v12.other W15 (Or.inl ne_o1_o3)
  have tk3_4_v15 := tk3_4_v12.other W15 (Or.inl ne_o1_o3)
  have tk3_5_v15 := tk3_5_v12.other W15 (Or.inl ne_o1_o3)
  have tk3_6_v15 := tk3_6_v12.other W15 (Or.inl ne_o1_o3)
  have tk3_7_v15 := tk3_7_v12.other W15 (Or.inl ne_o1_o3)
  have tk3_8_v15 := tk3_8_v12.other W15 (Or.inl ne_o1_o3)
  have V_o2_v15 := V_o2_v12.other W15 ne_o2_o3
  have tk3_11_v15 := tk3_11_v12.other W15 (Ne.symm ne_o3_o4)
  have tk3_12_v15 := tk3_12_v12.other W15 (Ne.symm ne_o3_o5)
  have O15 := O12.wr W15 gn_o3
  have K15 : Keep h0 h15 [o5, o4, o3, o2, o1] := K12.wr W15 (Or.inl (List.mem_of_getElem? (i := 2) rfl))
  have hk15 := Nat.le_trans hk12 (Keep.of_wr W15).1
  refine ⟨T15, _, none, _, _, _, _, by decide, by decide, X15, hS1, (by rw [e15]; exact hk15), (fun _ => rfl), (by rw [e15]; exact ⟨rfl, N15, K15, tk3_0_v15, tk3_1_v15, tk3_2_v15, tk3_3_v15, tk3_4_v15, tk3_5_v15, tk3_6_v15, tk3_7_v15, tk3_8_v15, V_o2_v15, V_o3_v15, tk3_11_v15, tk3_12_v15⟩), fun fs hr => castTop (ef_7 m (.ref o1) rfl (.int (0 : Int32)) rfl) ?_⟩
  show Steps p.tables e below (s₁.setTop (mkF m 0 #[.val (.ref o1), .val (.int (0 : Int32)), .unset, .unset, .unset] [])) _
  refine XS.aloadN X0.here hx rfl (hb hby d13_0) rfl rfl ?_
  refine XS.iloadN X0.here hx rfl (hb hby d13_1) rfl ?_
  refine st1 _ ?_
  refine st2.trans ?_
  refine XS.istoreN X2.here hx rfl (hb hby d13_7) rfl (l' := #[.val (.ref o1), .val (.int (0 : Int32)), .val (.int (0 : Int32)), .unset, .unset]) rfl ?_
  refine XS.aloadN X2.here hx rfl (hb hby d13_8) rfl rfl ?_
  refine st3.trans ?_
  refine XS.istoreN X3.here hx rfl (hb hby d13_12) rfl (l' := #[.val (.ref o1), .val (.int (0 : Int32)), .val (.int (0 : Int32)), .val (.int (3 : Int32)), .unset]) rfl ?_
  show Steps p.tables e below (T3.setTop (mkF m 13 #[.val (.ref o1), .val (.int (0 : Int32)), .val (.int (0 : Int32)), .val (.int (3 : Int32)), .unset] [])) _
  refine XS.aloadN X3.here hx rfl (hb hby d13_13) rfl rfl ?_
  refine st4 _ ?_
  refine XS.iloadN X4.here hx rfl (hb hby d13_17) rfl ?_
  refine X4.iaload hx (j := (0 : Int32)) (v := (.int (-1 : Int32))) (by rw [e4]; exact Ar5.1) (State.isArrayOf_alike hZ1.alike Ar5.2.1) Ar5.2.2 hin5 hat5 (g := (mkF m 18 #[.val (.ref o1), .val (.int (0 : Int32)), .val (.int (0 : Int32)), .val (.int (3 : Int32)), .unset] [(.int (0 : Int32)), (.ref o3)])) rfl rfl (hb hby d13_18) _ ?_
  refine XS.istore X4.here hx rfl (hb hby d13_19) rfl (l' := #[.val (.ref o1), .val (.int (0 : Int32)), .val (.int (0 : Int32)), .val (.int (3 : Int32)), .val (.int (-1 : Int32))]) rfl ?_
  refine XS.aloadN X4.here hx rfl (hb hby d13_21) rfl rfl ?_
  refine st6 _ ?_
  refine XS.iloadN X6.here hx rfl (hb hby d13_25) rfl ?_
  show Steps p.tables e below (T6.setTop (mkF m 26 #[.val (.ref o1), .val (.int (0 : Int32)), .val (.int (0 : Int32)), .val (.int (3 : Int32)), .val (.int (-1 : Int32))] [(.int (3 : Int32)), (.ref o2)])) _
  refine XS.iloadN X6.here hx rfl (hb hby d13_26) rfl ?_
  refine st8 _ ?_
  refine XS.aloadN X8.here hx rfl (hb hby d13_28) rfl rfl ?_
  refine st9 _ ?_
  refine XS.iloadN X9.here hx rfl (hb hby d13_32) rfl ?_
  refine XS.iload X9.here hx rfl (hb hby d13_33) rfl ?_
  refine st11 _ ?_
  refine XS.iload X11.here hx rfl (hb hby d13_36) rfl ?_
  show Steps p.tables e below (T11.setTop (mkF m 38 #[.val (.ref o1), .val (.int (0 : Int32)), .val (.int (0 : Int32)), .val (.int (3 : Int32)), .val (.int (-1 : Int32))] [(.int (-1 : Int32))])) _
  refine XS.iconst X11.here hx rfl (hb hby d13_38) ?_
  refine XS.icmpNo X11.here hx rfl (hb hby d13_39) rfl (teq (by decide : (-1 : Int32) = (-1 : Int32))).2 ?_
  refine XS.aloadN X11.here hx rfl (hb hby d13_42) rfl rfl ?_
  refine XS.iloadN X11.here hx rfl (hb hby d13_43) rfl ?_
  refine st12 _ ?_
  refine XS.goto X12.here hx rfl (pc0 := 47) (pc' := 58) rfl (hb hby d13_47) (by decide) (by decide) ?_
  refine XS.aloadN X12.here hx rfl (hb hby d13_58) rfl rfl ?_
  refine st13 _ ?_
  show Steps p.tables e below (T13.setTop (mkF m 62 #[.val (.ref o1), .val (.int (0 : Int32)), .val (.int (0 : Int32)), .val (.int (3 : Int32)), .val (.int (-1 : Int32))] [(.ref o3)])) _
  refine XS.iloadN X13.here hx rfl (hb hby d13_62) rfl ?_
  refine XS.iloadN X13.here hx rfl (hb hby d13_63) rfl ?_
  refine st15 _ ?_
  show Steps p.tables e below (T15.setTop (mkF m 65 #[.val (.ref o1), .val (.int (0 : Int32)), .val (.int (0 : Int32)), .val (.int (3 : Int32)), .val (.int (-1 : Int32))] [])) _
  exact X15.returnOut hx hret (hb hby d13_65) hr
set_option maxRecDepth 65536 in
set_option maxHeartbeats 40000000 in
theorem rm_63 (l : Launch) (Z : State) (a0 : Array Value) (hw : ∀ d ∈ tables_1, d.before a0 Z = true) (w : Nat → Addr) (kk : Nat → ClassId) (iw : Nat → Int32) (vw : Nat → Value) (hN : Wd Z w kk iw vw) (ws : List Jvm.Cond) (o1 : Addr) (o2 : Addr) (o3 : Addr) (kc_o3 : ClassId) (h0 : Heap) (O0 : Old Z Z.heap.size h0) (gn_o1 : Z.heap.size ≤ o1) (lt_o1 : o1 < h0.size) (E_o1 : Exa Z h0 o1 s_0) (gn_o2 : Z.heap.size ≤ o2) (lt_o2 : o2 < h0.size) (F_o1_closed : Fld Z h0 o1 s_0 "closed" s_3 (.ref o2)) (F_o1_blockCount : Fld Z h0 o1 s_0 "blockCount" "I" (.int (4 : Int32))) (E_o2 : Exa Z h0 o2 s_1) (F_o2_wordsInUse : Fld Z h0 o2 s_1 "wordsInUse" "I" (.int (0 : Int32))) (F_o2_sizeIsSticky : Fld Z h0 o2 s_1 s_6 "Z" (.int (0 : Int32))) (gn_o3 : Z.heap.size ≤ o3) (lt_o3 : o3 < h0.size) (F_o2_words : Fld Z h0 o2 s_1 "words" "[J" (.ref o3)) (V_o3 : Arv Z h0 o3 kc_o3 .long (1 : Int32) [] (.long (0 : Int64))) (ne_o1_o2 : o1 ≠ o2) (ne_o1_o3 : o1 ≠ o3) (ne_o2_o3 : o2 ≠ o3) :
    Met l Z (⟨s_0, "hasBlocks", "()Z"⟩ : MethodName) (Jvm.Cond.code (⟨s_0, "hasBlocks", "()Z"⟩ : MethodName) prog_20_method_2_code 1 (some .boolean)) ws (Rm 0 0 0 0) #[(.ref o1)] h0 (OQ (some (.int (1 : Int32))) h0 Z.heap.size) := by
  have hN' := hN
  have hL0 : Sta Z Z.heap s_1 s_4 "Z" (.int (1 : Int32)) := hN'
  refine own_body (plainFor_of_name pn_1) hisR ?_
  intro p e s m below meth c s₁ hx hby hml hown hnm hret X0 hZ e0
  have N0 := Fr.nil Z.heap.size
  obtain ⟨T1, X1, e1, st1⟩ := getF X0 hx hZ hown (host := "") (Or.inl (W hw 57 rfl)) Via.refl e0 F_o1_blockCount (g := (mkF m 1 #[.val (.ref o1)] [(.ref o1)])) rfl rfl (hb hby d4_1)
  refine ⟨T1, some (.int (1 : Int32)), _, _, _, by decide, by decide, X1, nofun, (by rw [e1]; exact ⟨rfl, N0, rfl⟩), fun fs hr => castTop (ef_2 m (.ref o1) rfl) ?_⟩
  show Steps p.tables e below (s₁.setTop (mkF m 0 #[.val (.ref o1)] [])) _
  refine XS.aloadN X0.here hx rfl (hb hby d4_0) rfl rfl ?_
  refine st1 _ ?_
  refine XS.ifNo X1.here hx rfl (hb hby d4_4) rfl ((if0 _ _).trans (tlt (by decide : (0 : Int32) < (4 : Int32))).2.2.2) ?_
  refine XS.iconst X1.here hx rfl (hb hby d4_7) ?_
  refine XS.goto X1.here hx rfl (pc0 := 8) (pc' := 12) rfl (hb hby d4_8) (by decide) (by decide) ?_
  show Steps p.tables e below (T1.setTop (mkF m 12 #[.val (.ref o1)] [(.int (1 : Int32))])) _
  exact retN X1 hx (t := .boolean) hret (by simp) (hb hby d4_12) hr
set_option maxRecDepth 65536 in
set_option maxHeartbeats 40000000 in
theorem law_64 (l : Launch) (Z : State) (a0 : Array Value) (hw : ∀ d ∈ tables_1, d.before a0 Z = true) (w : Nat → Addr) (kk : Nat → ClassId) (iw : Nat → Int32) (vw : Nat → Value) (hN : Wd Z w kk iw vw) (ws : List Jvm.Cond) (p0 : Int32) (p1 : Int32) (p2 : Int32) (p3 : Int32) (h0 : Heap) (O0 : Old Z Z.heap.size h0) (hp0 : (p0 &&& (3 : Int32)) = (3 : Int32)) (hp1 : (p1 &&& (1 : Int32)) = (1 : Int32)) (hp2 : ((p2 &&& (2147483647 : Int32)) % (3 : Int32)) = (0 : Int32)) (hp3 : (p3 &&& (1 : Int32)) = (0 : Int32)) :
    MetFree l x (head1 (Jvm.Cond.code x code maxLocals ret :: ws) room_1) (fun a U => a = #[(.int p0), (.int p1), (.int p2), (.int p3)] ∧ Z.Warmed39 U.vm ∧ U.heap = h0) (fun _ _ _ _ _ => True) (fun _ U o U' => ∃ v L, o = .returned v ∧ OL (some (.int (1 : Int32))) Z.heap.size v U'.heap L ∧ ReturnedEndW U o U' L 32 3072) := by
  have hN' := hN
  have hL0 : Sta Z Z.heap s_1 s_4 "Z" (.int (1 : Int32)) := hN'
  refine MetFree.of_bodySF (plainFor_of_name pn_2) hisR ?_
  intro p e s m args below meth c s₁ Bd hml0 hP hK
  obtain ⟨rfl, hZ, hh⟩ := hP
  have hx := Bd.exec
  have hby := Bd.bytes
  have hml : c.maxLocals = 7 := hml0
  have hown : s.vm.findClass s_2 = some m.cls := findClass_of_methodNamed Bd.named
  have hnm := (name_of_methodNamed Bd.named Bd.method).1
  have X0 : Stand p l e room_1 s m #[(.int p0), (.int p1), (.int p2), (.int p3)] below meth c s₁ [] 0 0 := Stand.of_body Bd
  have e0 : s₁.heap = h0 := by rw [← hh, Bd.state]; rfl
  have N0 := Fr.nil Z.heap.size
  obtain ⟨T1, L1, b1_0, b1_1, b1_2, b1_3, b1_4, b1_5, b1_6, kb1_0, kb1_1, kb1_2, kb1_3, kb1_4, X1, st1, N1, Kq1, tk1_0, tk1_1, tk1_2, tk1_3, tk1_4, tk1_5, tk1_6, tk1_7, tk1_8, tk1_9, tk1_10, tk1_11, tk1_12, tk1_13, tk1_14, tk1_15, tk1_16, tk1_17, tk1_18, tk1_19, tk1_20, tk1_21, tk1_22, tk1_23, tk1_24, tk1_25, tk1_26, tk1_27, tk1_28, tk1_29, tk1_30, tk1_31, tk1_32, tk1_33, tk1_34, tk1_35, tk1_36, tk1_37, tk1_38, tk1_39, tk1_40, tk1_41, tk1_42, tk1_43, tk1_44, tk1_45⟩ := sg_53 w kk iw vw hN p0 p1 p2 p3 X0 hx hZ hw hby hml hown e0 O0 N0
  have gn_b1_0 : Z.heap.size ≤ b1_0 := Nat.le_trans O0.2.1 tk1_0
  have gn_b1_1 : Z.heap.size ≤ b1_1 := Nat.le_trans O0.2.1 tk1_1
  have gn_b1_2 : Z.heap.size ≤ b1_2 := Nat.le_trans O0.2.1 tk1_2
  have gn_b1_3 : Z.heap.size ≤ b1_3 := Nat.le_trans O0.2.1 tk1_3
  have gn_b1_4 : Z.heap.size ≤ b1_4 := Nat.le_trans O0.2.1 tk1_4
  have gn_b1_5 : Z.heap.size ≤ b1_5 := Nat.le_trans O0.2.1 tk1_5
  have gn_b1_6 : Z.heap.size ≤ b1_6 := Nat.le_trans O0.2.1 tk1_6
  have O1 := O0.keep Kq1 all0
  obtain ⟨cq2, kq2, q2a, q2b, q2c⟩ := isOf hZ rfl tk1_28
  obtain ⟨_, _, ⟨T2, L2, k2, n2⟩, -, X2, hSq2, hgr2, ⟨Lc2, hQ2, l2, y2, z2⟩, st2⟩ := X1.virtualBackS hx (y := (⟨s_0, "insertBlock", "(I)V"⟩ : MethodName)) (z := (⟨s_0, "insertBlock", "(I)V"⟩ : MethodName)) hown (mvT hZ (W hw 70 rfl)) (mvT hZ (W hw 71 rfl)) (notFace_of_selects (args := #[]) (mvT hZ (W hw 73 rfl))) (mvT hZ (W hw 73 rfl)) (mvT hZ (W hw 72 rfl)) (by decide) (backOfS (W := 0) (rm_62 l Z a0 hw w kk iw vw hN [] b1_0 b1_1 b1_2 b1_3 b1_4 b1_5 kb1_0 kb1_1 kb1_2 kb1_3 b1_6 kb1_4 T1.heap O1 gn_b1_0 tk1_28.lt tk1_28 gn_b1_1 tk1_37.lt tk1_29 gn_b1_2 tk1_38.lt tk1_30 gn_b1_3 tk1_39.lt tk1_31 gn_b1_4 tk1_40.lt tk1_32 gn_b1_5 tk1_41.lt tk1_33 tk1_34 tk1_35 tk1_36 tk1_37 tk1_38 tk1_39 tk1_40 tk1_41 tk1_42 tk1_43 gn_b1_6 tk1_45.lt tk1_44 tk1_45 tk1_7 tk1_8 tk1_9 tk1_10 tk1_11 tk1_12 tk1_13 tk1_14 tk1_15 tk1_16 tk1_17 tk1_18 tk1_19 tk1_20 tk1_21 tk1_22 tk1_23 tk1_24 tk1_25 tk1_26 tk1_27) hZ (W hw 74 rfl) (W hw 2 rfl) (by decide) (by decide)) q2a q2c (g := (mkF m 122 #[.val (.int p0), .val (.int p1), .val (.int p2), .val (.int p3), .val (.int (3 : Int32)), .val (.ref b1_0), .val (.int (1 : Int32))] [(.int (0 : Int32)), (.ref b1_0)])) rfl (by rw [hml]; rfl) (Steps.refl _) (argsL := [(.int (0 : Int32))]) (rest := []) (lenOf pd_1 rfl) rfl (by show 2 * 0 + _ ≤ _; exact Nat.le_of_eq rfl) (hb hby at_122) (fun _ _ => ⟨rfl, rfl, (by decide : 10 + 2 ≤ _), (by decide : 467 + 68 ≤ _)⟩)
  dsimp only [Pt.U, Pt.locs, Pt.cells, Pt.slots] at X2 l2 y2 z2 st2 hQ2 hSq2 hgr2
  subst l2 y2 z2
  have hS2 : s.Since T2.vm T2.heap.size := hSq2
  have hk2 : T2.heap.size ≤ T2.heap.size := Nat.le_refl _
  have hZ2 : Z.Warmed39 (s.setVm T2.vm).vm := State.Warmed39.trans (t := (s.setVm s.vm)) hZ hSq2.1
  have hown2 : (s.setVm T2.vm).vm.findClass s_2 = some m.cls := by rw [show (s.setVm T2.vm).vm = T2.vm from rfl, hSq2.1.alike.findClass]; exact hown
  have X2' : Stand p l e _ (s.setVm T2.vm) m _ below meth c T2 _ _ _ := X2
  obtain ⟨rfl, N2q, Kq2, tk2_0, tk2_1, tk2_2, tk2_3, tk2_4, tk2_5, tk2_6, tk2_7, tk2_8, tk2_9, tk2_10, tk2_11, tk2_12⟩ := hQ2
  have N2 := Fr.app N1 N2q
  have tk1_28_v2 := tk1_28.keep Kq2
  have tk1_41_v2 := tk1_41.keep Kq2
  have tk1_42_v2 := tk1_42.keep Kq2 (ninS (Ne.symm tk1_25) (ninS (Ne.symm tk1_23) (ninS (Ne.symm tk1_20) (ninS (Ne.symm tk1_16) (ninS (Ne.symm tk1_11) nin0)))))
  have tk1_43_v2 := tk1_43.keep Kq2 (ninS (Ne.symm tk1_25) (ninS (Ne.symm tk1_23) (ninS (Ne.symm tk1_20) (ninS (Ne.symm tk1_16) (ninS (Ne.symm tk1_11) nin0)))))
  have tk1_44_v2 := tk1_44.keep Kq2 (ninS (Ne.symm tk1_25) (ninS (Ne.symm tk1_23) (ninS (Ne.symm tk1_20) (ninS (Ne.symm tk1_16) (ninS (Ne.symm tk1_11) nin0)))))
  have tk1_45_v2 := tk1_45.keep Kq2 (ninS (Ne.symm tk1_26) (ninS (Ne.symm tk1_24) (ninS (Ne.symm tk1_21) (ninS (Ne.symm tk1_17) (ninS (Ne.symm tk1_12) nin0)))))
  have O2 := O1.keep Kq2 (allS gn_b1_4 (allS gn_b1_3 (allS gn_b1_2 (allS gn_b1_1 (allS gn_b1_0 all0)))))
  obtain ⟨cq3, kq3, q3a, q3b, q3c⟩ := isOf hZ2 rfl tk2_0
  obtain ⟨_, _, ⟨T3, L3, k3, n3⟩, -, X3, ⟨Lc3, hQ3, l3, y3, z3⟩, st3⟩ := X2'.virtualBack hx (y := (⟨s_0, "hasBlocks", "()Z"⟩ : MethodName)) (z := (⟨s_0, "hasBlocks", "()Z"⟩ : MethodName)) hown2 (mvT hZ2 (W hw 52 rfl)) (mvT hZ2 (W hw 53 rfl)) (notFace_of_selects (args := #[]) (mvT hZ2 (W hw 55 rfl))) (mvT hZ2 (W hw 55 rfl)) (mvT hZ2 (W hw 54 rfl)) (by decide) (backOf (W := 0) (rm_63 l Z a0 hw w kk iw vw hN [] b1_0 b1_5 b1_6 kb1_4 T2.heap O2 gn_b1_0 tk2_0.lt tk2_0 gn_b1_5 tk1_41_v2.lt tk2_5 tk2_8 tk1_41_v2 tk1_42_v2 tk1_43_v2 gn_b1_6 tk1_45_v2.lt tk1_44_v2 tk1_45_v2 tk1_11 tk1_12 tk1_27) hZ2 (W hw 56 rfl) (W hw 2 rfl) (by decide) (by decide)) q3a q3c (g := (mkF m 157 #[.val (.int p0), .val (.int p1), .val (.int p2), .val (.int p3), .val (.int (3 : Int32)), .val (.ref b1_0), .val (.int (1 : Int32))] [(.ref b1_0)])) rfl (by rw [hml]; rfl) (Steps.refl _) (argsL := []) (rest := []) (lenOf pd_3 rfl) rfl (by show 2 * 0 + _ ≤ _; exact Nat.le_of_eq rfl) (hb hby at_157) (fun _ _ => ⟨rfl, rfl, (by decide : 12 + 0 ≤ _), (by decide : 535 + 0 ≤ _)⟩)
  dsimp only [Pt.U, Pt.locs, Pt.cells, Pt.slots] at X3 l3 y3 z3 st3 hQ3
  subst l3 y3 z3
  obtain ⟨rfl, N3q, e3⟩ := hQ3
  have N3 := Fr.app N2 N3q
  obtain ⟨fs, hr, hrun, hended, w1, w2, w3, w4⟩ := X3.leaveW hS2 (by rw [e3]; exact hk2) (v := some (.int (1 : Int32))) (fun h => by rw [Bd.returns] at h; cases h)
  refine ⟨_, _, castTop (ef_3 m (.int p0) rfl (.int p1) rfl (.int p2) rfl (.int p3) rfl) ?_, hrun, hended, _, _, rfl, ?_, w1, w2, w3, w4.mono (by decide) (by decide)⟩
  · show Steps p.tables e below (s₁.setTop (mkF m 0 #[.val (.int p0), .val (.int p1), .val (.int p2), .val (.int p3), .unset, .unset, .unset] [])) _
    refine XS.iloadN X0.here hx rfl (hb hby at_0) rfl ?_
    refine XS.iconst X0.here hx rfl (hb hby at_1) ?_
    refine XS.iand X0.here hx rfl (hb hby at_2) rfl ?_
    show Steps p.tables e below (s₁.setTop (mkF m 3 #[.val (.int p0), .val (.int p1), .val (.int p2), .val (.int p3), .unset, .unset, .unset] [(.int (p0 &&& (3 : Int32)))])) _
    rw [hp0]
    refine XS.istore X0.here hx rfl (hb hby at_3) rfl (l' := #[.val (.int p0), .val (.int p1), .val (.int p2), .val (.int p3), .val (.int (3 : Int32)), .unset, .unset]) rfl ?_
    show Steps p.tables e below (s₁.setTop (mkF m 5 #[.val (.int p0), .val (.int p1), .val (.int p2), .val (.int p3), .val (.int (3 : Int32)), .unset, .unset] [])) _
    refine st1 _ ?_
    refine XS.iload X1.here hx rfl (hb hby at_102) rfl ?_
    refine XS.ifNo X1.here hx rfl (hb hby at_104) rfl ((if0 _ _).trans (tlt (by decide : (0 : Int32) < (3 : Int32))).2.2.2) ?_
    refine XS.iloadN X1.here hx rfl (hb hby at_107) rfl ?_
    refine XS.iconst X1.here hx rfl (hb hby at_108) ?_
    refine XS.iand X1.here hx rfl (hb hby at_109) rfl ?_
    show Steps p.tables e below (T1.setTop (mkF m 110 #[.val (.int p0), .val (.int p1), .val (.int p2), .val (.int p3), .val (.int (3 : Int32)), .val (.ref b1_0), .val (.int (1 : Int32))] [(.int (p1 &&& (1 : Int32)))])) _
    rw [hp1]
    refine XS.ifNo X1.here hx rfl (hb hby at_110) rfl ((if0 _ _).trans (feq (by decide : ¬ ((1 : Int32) = (0 : Int32)))).1) ?_
    refine XS.aload X1.here hx rfl (hb hby at_113) rfl rfl ?_
    show Steps p.tables e below (T1.setTop (mkF m 115 #[.val (.int p0), .val (.int p1), .val (.int p2), .val (.int p3), .val (.int (3 : Int32)), .val (.ref b1_0), .val (.int (1 : Int32))] [(.ref b1_0)])) _
    refine XS.iloadN X1.here hx rfl (hb hby at_115) rfl ?_
    refine X1.ldcInt hx hown (mvT hZ (W hw 69 rfl)) (g := (mkF m 116 #[.val (.int p0), .val (.int p1), .val (.int p2), .val (.int p3), .val (.int (3 : Int32)), .val (.ref b1_0), .val (.int (1 : Int32))] [(.int p2), (.ref b1_0)])) rfl (hb hby at_116) _ ?_
    refine XS.iand X1.here hx rfl (hb hby at_118) rfl ?_
    refine XS.iload X1.here hx rfl (hb hby at_119) rfl ?_
    refine iremM X1 hx rfl (hb hby at_121) rfl (by decide : ¬ ((3 : Int32) = (0 : Int32))) ?_
    show Steps p.tables e below (T1.setTop (mkF m 122 #[.val (.int p0), .val (.int p1), .val (.int p2), .val (.int p3), .val (.int (3 : Int32)), .val (.ref b1_0), .val (.int (1 : Int32))] [(.int ((p2 &&& (2147483647 : Int32)) % (3 : Int32))), (.ref b1_0)])) _
    rw [hp2]
    refine st2.trans ?_
    refine XS.iload X2'.here hx rfl (hb hby at_125) rfl ?_
    refine XS.ifNo X2'.here hx rfl (hb hby at_127) rfl ((if0 _ _).trans (tlt (by decide : (0 : Int32) < (3 : Int32))).2.2.2) ?_
    show Steps p.tables e below (T2.setTop (mkF m 130 #[.val (.int p0), .val (.int p1), .val (.int p2), .val (.int p3), .val (.int (3 : Int32)), .val (.ref b1_0), .val (.int (1 : Int32))] [])) _
    refine XS.iloadN X2'.here hx rfl (hb hby at_130) rfl ?_
    refine XS.iconst X2'.here hx rfl (hb hby at_131) ?_
    refine XS.iand X2'.here hx rfl (hb hby at_132) rfl ?_
    show Steps p.tables e below (T2.setTop (mkF m 133 #[.val (.int p0), .val (.int p1), .val (.int p2), .val (.int p3), .val (.int (3 : Int32)), .val (.ref b1_0), .val (.int (1 : Int32))] [(.int (p3 &&& (1 : Int32)))])) _
    rw [hp3]
    refine XS.ifYes X2'.here hx rfl (pc0 := 133) (pc' := 150) rfl (hb hby at_133) rfl ((if0 _ _).trans (teq (by decide : (0 : Int32) = (0 : Int32))).1) (by decide) (by decide) ?_
    refine XS.iload X2'.here hx rfl (hb hby at_150) rfl ?_
    refine XS.ifNo X2'.here hx rfl (hb hby at_152) rfl ((if0 _ _).trans (feq (by decide : ¬ ((1 : Int32) = (0 : Int32)))).1) ?_
    refine XS.aload X2'.here hx rfl (hb hby at_155) rfl rfl ?_
    refine st3.trans ?_
    show Steps p.tables e below (T3.setTop (mkF m 160 #[.val (.int p0), .val (.int p1), .val (.int p2), .val (.int p3), .val (.int (3 : Int32)), .val (.ref b1_0), .val (.int (1 : Int32))] [(.int (1 : Int32))])) _
    refine XS.iload X3.here hx rfl (hb hby at_160) rfl ?_
    refine XS.ifNo X3.here hx rfl (hb hby at_162) rfl ((if0 _ _).trans (tlt (by decide : (0 : Int32) < (3 : Int32))).2.2.2) ?_
    refine XS.iconst X3.here hx rfl (hb hby at_165) ?_
    refine XS.goto X3.here hx rfl (pc0 := 166) (pc' := 170) rfl (hb hby at_166) (by decide) (by decide) ?_
    refine XS.icmpNo X3.here hx rfl (hb hby at_170) rfl (teq (by decide : (1 : Int32) = (1 : Int32))).2 ?_
    refine XS.iconst X3.here hx rfl (hb hby at_173) ?_
    refine XS.goto X3.here hx rfl (pc0 := 174) (pc' := 178) rfl (hb hby at_174) (by decide) (by decide) ?_
    refine XS.istore X3.here hx rfl (hb hby at_178) rfl (l' := #[.val (.int p0), .val (.int p1), .val (.int p2), .val (.int p3), .val (.int (3 : Int32)), .val (.ref b1_0), .val (.int (1 : Int32))]) rfl ?_
    show Steps p.tables e below (T3.setTop (mkF m 180 #[.val (.int p0), .val (.int p1), .val (.int p2), .val (.int p3), .val (.int (3 : Int32)), .val (.ref b1_0), .val (.int (1 : Int32))] [])) _
    refine XS.iload X3.here hx rfl (hb hby at_180) rfl ?_
    show Steps p.tables e below (T3.setTop (mkF m 182 #[.val (.int p0), .val (.int p1), .val (.int p2), .val (.int p3), .val (.int (3 : Int32)), .val (.ref b1_0), .val (.int (1 : Int32))] [(.int (1 : Int32))])) _
    exact retN X3 hx (t := .boolean) Bd.returns (by simp) (hb hby at_182) hr
  · show OL (some (.int (1 : Int32))) Z.heap.size _ T3.heap _
    exact ⟨rfl, N3⟩
set_option maxRecDepth 65536 in
set_option maxHeartbeats 40000000 in
theorem rm_65 (l : Launch) (Z : State) (a0 : Array Value) (hw : ∀ d ∈ tables_1, d.before a0 Z = true) (w : Nat → Addr) (kk : Nat → ClassId) (iw : Nat → Int32) (vw : Nat → Value) (hN : Wd Z w kk iw vw) (ws : List Jvm.Cond) (o1 : Addr) (p1 : Int32) (o2 : Addr) (o3 : Addr) (o4 : Addr) (kc_o4 : ClassId) (h0 : Heap) (O0 : Old Z Z.heap.size h0) (gn_o1 : Z.heap.size ≤ o1) (lt_o1 : o1 < h0.size) (E_o1 : Exa Z h0 o1 s_0) (gn_o3 : Z.heap.size ≤ o3) (lt_o3 : o3 < h0.size) (F_o1_closed : Fld Z h0 o1 s_0 "closed" s_3 (.ref o3)) (F_o1_blockCount : Fld Z h0 o1 s_0 "blockCount" "I" (.int (4 : Int32))) (E_o3 : Exa Z h0 o3 s_1) (F_o3_wordsInUse : Fld Z h0 o3 s_1 "wordsInUse" "I" (.int (0 : Int32))) (F_o3_sizeIsSticky : Fld Z h0 o3 s_1 s_6 "Z" (.int (0 : Int32))) (gn_o4 : Z.heap.size ≤ o4) (lt_o4 : o4 < h0.size) (F_o3_words : Fld Z h0 o3 s_1 "words" "[J" (.ref o4)) (V_o4 : Arv Z h0 o4 kc_o4 .long (1 : Int32) [] (.long (0 : Int64))) (ne_o1_o3 : o1 ≠ o3) (ne_o1_o4 : o1 ≠ o4) (ne_o3_o4 : o3 ≠ o4) (hp0 : ¬ (p1 < (0 : Int32))) (hp1 : p1 < (4 : Int32)) :
    Met l Z (⟨s_0, "find", s_7⟩ : MethodName) (Jvm.Cond.code (⟨s_0, "find", s_7⟩ : MethodName) prog_20_method_11_code 3 (some .int)) ws (Rm 0 0 0 0) #[(.ref o1), (.int p1), (.ref o2)] h0 (OQ (some (.int p1)) h0 Z.heap.size) := by
  have hN' := hN
  have hL0 : Sta Z Z.heap s_1 s_4 "Z" (.int (1 : Int32)) := hN'
  refine own_body (plainFor_of_name pn_1) hisR ?_
  intro p e s m below meth c s₁ hx hby hml hown hnm hret X0 hZ e0
  have N0 := Fr.nil Z.heap.size
  obtain ⟨T1, X1, e1, st1⟩ := getF X0 hx hZ hown (host := "") (Or.inl (W hw 57 rfl)) Via.refl e0 F_o1_blockCount (g := (mkF m 6 #[.val (.ref o1), .val (.int p1), .val (.ref o2)] [(.ref o1), (.int p1)])) rfl rfl (hb hby d8_6)
  refine ⟨T1, some (.int p1), _, _, _, by decide, by decide, X1, nofun, (by rw [e1]; exact ⟨rfl, N0, rfl⟩), fun fs hr => castTop (ef_5 m (.ref o1) rfl (.int p1) rfl (.ref o2) rfl) ?_⟩
  show Steps p.tables e below (s₁.setTop (mkF m 0 #[.val (.ref o1), .val (.int p1), .val (.ref o2)] [])) _
  refine XS.iloadN X0.here hx rfl (hb hby d8_0) rfl ?_
  refine XS.ifNo X0.here hx rfl (hb hby d8_1) rfl ((if0 _ _).trans (flt hp0).1) ?_
  refine XS.iloadN X0.here hx rfl (hb hby d8_4) rfl ?_
  refine XS.aloadN X0.here hx rfl (hb hby d8_5) rfl rfl ?_
  refine st1 _ ?_
  refine XS.icmpYes X1.here hx rfl (pc0 := 9) (pc' := 27) rfl (hb hby d8_9) rfl (tlt hp1).1 (by decide) (by decide) ?_
  refine XS.iloadN X1.here hx rfl (hb hby d8_27) rfl ?_
  show Steps p.tables e below (T1.setTop (mkF m 28 #[.val (.ref o1), .val (.int p1), .val (.ref o2)] [(.int p1)])) _
  exact retI X1 hx hret (hb hby d8_28) hr
set_option maxRecDepth 65536 in
set_option maxHeartbeats 40000000 in
theorem rm_66 (l : Launch) (Z : State) (a0 : Array Value) (hw : ∀ d ∈ tables_1, d.before a0 Z = true) (w : Nat → Addr) (kk : Nat → ClassId) (iw : Nat → Int32) (vw : Nat → Value) (hN : Wd Z w kk iw vw) (ws : List Jvm.Cond) (o1 : Addr) (p1 : Int32) (o2 : Addr) (o3 : Addr) (kc_o3 : ClassId) (h0 : Heap) (O0 : Old Z Z.heap.size h0) (gn_o1 : Z.heap.size ≤ o1) (lt_o1 : o1 < h0.size) (E_o1 : Exa Z h0 o1 s_0) (gn_o2 : Z.heap.size ≤ o2) (lt_o2 : o2 < h0.size) (F_o1_closed : Fld Z h0 o1 s_0 "closed" s_3 (.ref o2)) (F_o1_blockCount : Fld Z h0 o1 s_0 "blockCount" "I" (.int (4 : Int32))) (E_o2 : Exa Z h0 o2 s_1) (F_o2_wordsInUse : Fld Z h0 o2 s_1 "wordsInUse" "I" (.int (0 : Int32))) (F_o2_sizeIsSticky : Fld Z h0 o2 s_1 s_6 "Z" (.int (0 : Int32))) (gn_o3 : Z.heap.size ≤ o3) (lt_o3 : o3 < h0.size) (F_o2_words : Fld Z h0 o2 s_1 "words" "[J" (.ref o3)) (V_o3 : Arv Z h0 o3 kc_o3 .long (1 : Int32) [] (.long (0 : Int64))) (ne_o1_o2 : o1 ≠ o2) (ne_o1_o3 : o1 ≠ o3) (ne_o2_o3 : o2 ≠ o3) (hp0 : ¬ (p1 < (0 : Int32))) (hp1 : p1 < (4 : Int32)) (hp2 : (p1 >>> ((6 : Int32) &&& 31)) = (0 : Int32)) :
    MetW l Z (⟨s_0, "closeBlock", "(I)V"⟩ : MethodName) (Jvm.Cond.code (⟨s_0, "closeBlock", "(I)V"⟩ : MethodName) prog_20_method_6_code 2 none) ws (Rm 3 2 60 42) #[(.ref o1), (.int p1)] h0 (Qd_9 Z w kk iw vw o1 p1 o2 o3 kc_o3 h0 Z.heap.size) := by
  have hN' := hN
  have hL0 : Sta Z Z.heap s_1 s_4 "Z" (.int (1 : Int32)) := hN'
  refine own_bodyW (plainFor_of_name pn_1) hisR ?_
  intro p e s m below meth c s₁ hx hby hml hown hnm hret X0 hZ e0
  have N0 := Fr.nil Z.heap.size
  have K0 : Keep h0 h0 [o3, o2] := Keep.refl _ _
  obtain ⟨T1, X1, e1, st1⟩ := getF X0 hx hZ hown (host := "") (Or.inl (W hw 40 rfl)) Via.refl e0 F_o1_closed (g := (mkF m 1 #[.val (.ref o1), .val (.int p1)] [(.ref o1)])) rfl rfl (hb hby d7_1)
  obtain ⟨b2, T2, h2, k2, X2, e2, E2, hS2, hk2, hZ2, hown2, st2⟩ := ldcS (s := s) (vm0 := s.vm) X1 hx hZ hown (W hw 92 rfl) (own_atoms hw) e1 (own_since s 0) (Nat.zero_le _) (g := (mkF m 6 #[.val (.ref o1), .val (.int p1)] [(.int p1), (.ref o1), (.ref o2)])) rfl (hb hby d7_6) (n := 56) (by decide) (by decide) (by decide) (by decide)
  have E_o1_v2 := E_o1.ext E2
  have F_o1_closed_v2 := F_o1_closed.ext E2
  have F_o1_blockCount_v2 := F_o1_blockCount.ext E2
  have E_o2_v2 := E_o2.ext E2
  have F_o2_wordsInUse_v2 := F_o2_wordsInUse.ext E2
  have F_o2_sizeIsSticky_v2 := F_o2_sizeIsSticky.ext E2
  have F_o2_words_v2 := F_o2_words.ext E2
  have V_o3_v2 := V_o3.ext E2
  have O2 := O0.ext E2
  have K2 := K0.ext E2
  obtain ⟨cq3, q3, q3'⟩ := E_o1_v2.cell
  obtain ⟨_, _, ⟨T3, L3, k3, n3⟩, -, X3, ⟨Lc3, hQ3, l3, y3, z3⟩, st3⟩ := X2.privateBack hx (y := (⟨s_0, "find", s_7⟩ : MethodName)) hown2 (mvT hZ2 (W hw 83 rfl)) (mvT hZ2 (W hw 84 rfl)) (own_selpriv (mvT hZ2 (W hw 1 rfl)) (Cond.privateMethod_at (mvP hZ2 (W hw 85 rfl) (args := #[]))) (mvT hZ2 (W hw 84 rfl)) (by decide)) (Cond.privateMethod_at (mvP hZ2 (W hw 85 rfl) (args := #[]))) (mvT hZ2 (W hw 86 rfl)) (by decide) (backOf (W := 1) (rm_65 l Z a0 hw w kk iw vw hN [] o1 p1 b2 o2 o3 kc_o3 h2 O2 gn_o1 E_o1_v2.lt E_o1_v2 gn_o2 E_o2_v2.lt F_o1_closed_v2 F_o1_blockCount_v2 E_o2_v2 F_o2_wordsInUse_v2 F_o2_sizeIsSticky_v2 gn_o3 V_o3_v2.lt F_o2_words_v2 V_o3_v2 ne_o1_o2 ne_o1_o3 ne_o2_o3 hp0 hp1) hZ2 (W hw 86 rfl) (W hw 2 rfl) (by decide) (by decide)) (g := (mkF m 8 #[.val (.ref o1), .val (.int p1)] [(.ref b2), (.int p1), (.ref o1), (.ref o2)])) rfl (by rw [hml]; rfl) (Steps.refl _) (a := o1) (by rw [e2]; exact q3) q3' (argsL := [(.int p1), (.ref b2)]) (rest := [(.ref o2)]) (lenOf pd_5 rfl) rfl (by show 2 * 0 + _ ≤ _; exact Nat.le_of_eq rfl) (hb hby d7_8) (fun _ _ => ⟨rfl, e2, (by decide : 2 + 0 ≤ _), (by decide : 60 + 0 ≤ _)⟩)
  dsimp only [Pt.U, Pt.locs, Pt.cells, Pt.slots] at X3 l3 y3 z3 st3 hQ3
  subst l3 y3 z3
  obtain ⟨rfl, N3q, e3⟩ := hQ3
  have N3 := Fr.app N0 N3q
  obtain ⟨cq4, kq4, q4a, q4b, q4c⟩ := isOf hZ2 e3 E_o2_v2
  obtain ⟨_, _, ⟨T4, L4, k4, n4⟩, -, X4, ⟨Lc4, hQ4, l4, y4, z4⟩, st4⟩ := X3.virtualBack hx (y := (⟨s_1, "set", "(I)V"⟩ : MethodName)) (z := (⟨s_1, "set", "(I)V"⟩ : MethodName)) hown2 (mvT hZ2 (W hw 93 rfl)) (mvT hZ2 (W hw 94 rfl)) (notFace_of_selects (args := #[]) (mvT hZ2 (W hw 96 rfl))) (mvT hZ2 (W hw 96 rfl)) (mvT hZ2 (W hw 95 rfl)) (by decide) (backOf (W := 0) (rm_18 l Z a0 hw w kk iw vw hN [] o2 p1 o3 kc_o3 h2 O2 gn_o2 E_o2_v2.lt E_o2_v2 F_o2_wordsInUse_v2 F_o2_sizeIsSticky_v2 gn_o3 V_o3_v2.lt F_o2_words_v2 V_o3_v2 ne_o2_o3 hp0 hp2) hZ2 (W hw 97 rfl) (W hw 20 rfl) (by decide) (by decide)) q4a q4c (g := (mkF m 11 #[.val (.ref o1), .val (.int p1)] [(.int p1), (.ref o2)])) rfl (by rw [hml]; rfl) (Steps.refl _) (argsL := [(.int p1)]) (rest := []) (lenOf pd_1 rfl) rfl (by show 2 * 0 + _ ≤ _; exact Nat.le_of_eq rfl) (hb hby d7_11) (fun _ _ => ⟨rfl, e3, (by decide : 2 + 0 ≤ _), (by decide : 60 + 0 ≤ _)⟩)
  dsimp only [Pt.U, Pt.locs, Pt.cells, Pt.slots] at X4 l4 y4 z4 st4 hQ4
  subst l4 y4 z4
  obtain ⟨rfl, N4q, Kq4, tk4_0, tk4_1, tk4_2, tk4_3, tk4_4⟩ := hQ4
  have N4 := Fr.app N3 N4q
  have E_o1_v4 := E_o1_v2.keep Kq4
  have F_o1_closed_v4 := F_o1_closed_v2.keep Kq4 (ninS ne_o1_o2 (ninS ne_o1_o3 nin0))
  have F_o1_blockCount_v4 := F_o1_blockCount_v2.keep Kq4 (ninS ne_o1_o2 (ninS ne_o1_o3 nin0))
  have E_o2_v4 := E_o2_v2.keep Kq4
  have hk4 := Nat.le_trans hk2 Kq4.1
  have O4 := O2.keep Kq4 (allS gn_o2 (allS gn_o3 all0))
  have K4 : Keep h0 T4.heap [o3, o2] := K2.trans Kq4 (allS (Or.inl (List.mem_of_getElem? (i := 1) rfl)) (allS (Or.inl (List.mem_of_getElem? (i := 0) rfl)) all0))
  refine ⟨T4, _, none, _, _, _, _, by decide, by decide, X4, hS2, hk4, (fun _ => rfl), ⟨rfl, N4, K4, tk4_0, tk4_1, tk4_2, tk4_3, tk4_4⟩, fun fs hr => castTop (ef_1 m (.ref o1) rfl (.int p1) rfl) ?_⟩
  show Steps p.tables e below (s₁.setTop (mkF m 0 #[.val (.ref o1), .val (.int p1)] [])) _
  refine XS.aloadN X0.here hx rfl (hb hby d7_0) rfl rfl ?_
  refine st1 _ ?_
  refine XS.aloadN X1.here hx rfl (hb hby d7_4) rfl rfl ?_
  refine XS.iloadN X1.here hx rfl (hb hby d7_5) rfl ?_
  refine st2 _ ?_
  refine st3.trans ?_
  refine st4.trans ?_
  show Steps p.tables e below (T4.setTop (mkF m 14 #[.val (.ref o1), .val (.int p1)] [])) _
  exact X4.returnOut hx hret (hb hby d7_14) hr
set_option maxRecDepth 65536 in
set_option maxHeartbeats 40000000 in
theorem rm_67 (l : Launch) (Z : State) (a0 : Array Value) (hw : ∀ d ∈ tables_1, d.before a0 Z = true) (w : Nat → Addr) (kk : Nat → ClassId) (iw : Nat → Int32) (vw : Nat → Value) (hN : Wd Z w kk iw vw) (ws : List Jvm.Cond) (o1 : Addr) (o2 : Addr) (o3 : Addr) (t0 : Int64) (kc_o3 : ClassId) (h0 : Heap) (O0 : Old Z Z.heap.size h0) (gn_o1 : Z.heap.size ≤ o1) (lt_o1 : o1 < h0.size) (E_o1 : Exa Z h0 o1 s_0) (gn_o2 : Z.heap.size ≤ o2) (lt_o2 : o2 < h0.size) (F_o1_closed : Fld Z h0 o1 s_0 "closed" s_3 (.ref o2)) (F_o1_blockCount : Fld Z h0 o1 s_0 "blockCount" "I" (.int (4 : Int32))) (E_o2 : Exa Z h0 o2 s_1) (F_o2_wordsInUse : Fld Z h0 o2 s_1 "wordsInUse" "I" (.int (1 : Int32))) (F_o2_sizeIsSticky : Fld Z h0 o2 s_1 s_6 "Z" (.int (0 : Int32))) (gn_o3 : Z.heap.size ≤ o3) (lt_o3 : o3 < h0.size) (F_o2_words : Fld Z h0 o2 s_1 "words" "[J" (.ref o3)) (V_o3 : Arv Z h0 o3 kc_o3 .long (1 : Int32) [(.long t0)] (.long (0 : Int64))) (ne_o1_o2 : o1 ≠ o2) (ne_o1_o3 : o1 ≠ o3) (ne_o2_o3 : o2 ≠ o3) :
    Met l Z (⟨s_0, "hasBlocks", "()Z"⟩ : MethodName) (Jvm.Cond.code (⟨s_0, "hasBlocks", "()Z"⟩ : MethodName) prog_20_method_2_code 1 (some .boolean)) ws (Rm 0 0 0 0) #[(.ref o1)] h0 (OQ (some (.int (1 : Int32))) h0 Z.heap.size) := by
  have hN' := hN
  have hL0 : Sta Z Z.heap s_1 s_4 "Z" (.int (1 : Int32)) := hN'
  refine own_body (plainFor_of_name pn_1) hisR ?_
  intro p e s m below meth c s₁ hx hby hml hown hnm hret X0 hZ e0
  have N0 := Fr.nil Z.heap.size
  obtain ⟨T1, X1, e1, st1⟩ := getF X0 hx hZ hown (host := "") (Or.inl (W hw 57 rfl)) Via.refl e0 F_o1_blockCount (g := (mkF m 1 #[.val (.ref o1)] [(.ref o1)])) rfl rfl (hb hby d4_1)
  refine ⟨T1, some (.int (1 : Int32)), _, _, _, by decide, by decide, X1, nofun, (by rw [e1]; exact ⟨rfl, N0, rfl⟩), fun fs hr => castTop (ef_2 m (.ref o1) rfl) ?_⟩
  show Steps p.tables e below (s₁.setTop (mkF m 0 #[.val (.ref o1)] [])) _
  refine XS.aloadN X0.here hx rfl (hb hby d4_0) rfl rfl ?_
  refine st1 _ ?_
  refine XS.ifNo X1.here hx rfl (hb hby d4_4) rfl ((if0 _ _).trans (tlt (by decide : (0 : Int32) < (4 : Int32))).2.2.2) ?_
  refine XS.iconst X1.here hx rfl (hb hby d4_7) ?_
  refine XS.goto X1.here hx rfl (pc0 := 8) (pc' := 12) rfl (hb hby d4_8) (by decide) (by decide) ?_
  show Steps p.tables e below (T1.setTop (mkF m 12 #[.val (.ref o1)] [(.int (1 : Int32))])) _
  exact retN X1 hx (t := .boolean) hret (by simp) (hb hby d4_12) hr
set_option maxRecDepth 65536 in
set_option maxHeartbeats 40000000 in
theorem law_68 (l : Launch) (Z : State) (a0 : Array Value) (hw : ∀ d ∈ tables_1, d.before a0 Z = true) (w : Nat → Addr) (kk : Nat → ClassId) (iw : Nat → Int32) (vw : Nat → Value) (hN : Wd Z w kk iw vw) (ws : List Jvm.Cond) (p0 : Int32) (p1 : Int32) (p2 : Int32) (p3 : Int32) (h0 : Heap) (O0 : Old Z Z.heap.size h0) (hp0 : (p0 &&& (3 : Int32)) = (3 : Int32)) (hp1 : (p1 &&& (1 : Int32)) = (1 : Int32)) (hp2 : ((p2 &&& (2147483647 : Int32)) % (3 : Int32)) = (0 : Int32)) (hp3 : (p3 &&& (1 : Int32)) = (1 : Int32)) (hp4 : ¬ (((((p3.toUInt32 >>> ((1 : Int32) &&& 31).toUInt32).toInt32) &&& (2147483647 : Int32)) % (3 : Int32)) < (0 : Int32))) (hp5 : ((((p3.toUInt32 >>> ((1 : Int32) &&& 31).toUInt32).toInt32) &&& (2147483647 : Int32)) % (3 : Int32)) < (4 : Int32)) (hp6 : (((((p3.toUInt32 >>> ((1 : Int32) &&& 31).toUInt32).toInt32) &&& (2147483647 : Int32)) % (3 : Int32)) >>> ((6 : Int32) &&& 31)) = (0 : Int32)) :
    MetFree l x (head1 (Jvm.Cond.code x code maxLocals ret :: ws) room_1) (fun a U => a = #[(.int p0), (.int p1), (.int p2), (.int p3)] ∧ Z.Warmed39 U.vm ∧ U.heap = h0) (fun _ _ _ _ _ => True) (fun _ U o U' => ∃ v L, o = .returned v ∧ OL (some (.int (1 : Int32))) Z.heap.size v U'.heap L ∧ ReturnedEndW U o U' L 32 3072) := by
  have hN' := hN
  have hL0 : Sta Z Z.heap s_1 s_4 "Z" (.int (1 : Int32)) := hN'
  refine MetFree.of_bodySF (plainFor_of_name pn_2) hisR ?_
  intro p e s m args below meth c s₁ Bd hml0 hP hK
  obtain ⟨rfl, hZ, hh⟩ := hP
  have hx := Bd.exec
  have hby := Bd.bytes
  have hml : c.maxLocals = 7 := hml0
  have hown : s.vm.findClass s_2 = some m.cls := findClass_of_methodNamed Bd.named
  have hnm := (name_of_methodNamed Bd.named Bd.method).1
  have X0 : Stand p l e room_1 s m #[(.int p0), (.int p1), (.int p2), (.int p3)] below meth c s₁ [] 0 0 := Stand.of_body Bd
  have e0 : s₁.heap = h0 := by rw [← hh, Bd.state]; rfl
  have N0 := Fr.nil Z.heap.size
  obtain ⟨T1, L1, b1_0, b1_1, b1_2, b1_3, b1_4, b1_5, b1_6, kb1_0, kb1_1, kb1_2, kb1_3, kb1_4, X1, st1, N1, Kq1, tk1_0, tk1_1, tk1_2, tk1_3, tk1_4, tk1_5, tk1_6, tk1_7, tk1_8, tk1_9, tk1_10, tk1_11, tk1_12, tk1_13, tk1_14, tk1_15, tk1_16, tk1_17, tk1_18, tk1_19, tk1_20, tk1_21, tk1_22, tk1_23, tk1_24, tk1_25, tk1_26, tk1_27, tk1_28, tk1_29, tk1_30, tk1_31, tk1_32, tk1_33, tk1_34, tk1_35, tk1_36, tk1_37, tk1_38, tk1_39, tk1_40, tk1_41, tk1_42, tk1_43, tk1_44, tk1_45⟩ := sg_53 w kk iw vw hN p0 p1 p2 p3 X0 hx hZ hw hby hml hown e0 O0 N0
  have gn_b1_0 : Z.heap.size ≤ b1_0 := Nat.le_trans O0.2.1 tk1_0
  have gn_b1_1 : Z.heap.size ≤ b1_1 := Nat.le_trans O0.2.1 tk1_1
  have gn_b1_2 : Z.heap.size ≤ b1_2 := Nat.le_trans O0.2.1 tk1_2
  have gn_b1_3 : Z.heap.size ≤ b1_3 := Nat.le_trans O0.2.1 tk1_3
  have gn_b1_4 : Z.heap.size ≤ b1_4 := Nat.le_trans O0.2.1 tk1_4
  have gn_b1_5 : Z.heap.size ≤ b1_5 := Nat.le_trans O0.2.1 tk1_5
  have gn_b1_6 : Z.heap.size ≤ b1_6 := Nat.le_trans O0.2.1 tk1_6
  have O1 := O0.keep Kq1 all0
  obtain ⟨cq2, kq2, q2a, q2b, q2c⟩ := isOf hZ rfl tk1_28
  obtain ⟨_, _, ⟨T2, L2, k2, n2⟩, -, X2, hSq2, hgr2, ⟨Lc2, hQ2, l2, y2, z2⟩, st2⟩ := X1.virtualBackS hx (y := (⟨s_0, "insertBlock", "(I)V"⟩ : MethodName)) (z := (⟨s_0, "insertBlock", "(I)V"⟩ : MethodName)) hown (mvT hZ (W hw 70 rfl)) (mvT hZ (W hw 71 rfl)) (notFace_of_selects (args := #[]) (mvT hZ (W hw 73 rfl))) (mvT hZ (W hw 73 rfl)) (mvT hZ (W hw 72 rfl)) (by decide) (backOfS (W := 0) (rm_62 l Z a0 hw w kk iw vw hN [] b1_0 b1_1 b1_2 b1_3 b1_4 b1_5 kb1_0 kb1_1 kb1_2 kb1_3 b1_6 kb1_4 T1.heap O1 gn_b1_0 tk1_28.lt tk1_28 gn_b1_1 tk1_37.lt tk1_29 gn_b1_2 tk1_38.lt tk1_30 gn_b1_3 tk1_39.lt tk1_31 gn_b1_4 tk1_40.lt tk1_32 gn_b1_5 tk1_41.lt tk1_33 tk1_34 tk1_35 tk1_36 tk1_37 tk1_38 tk1_39 tk1_40 tk1_41 tk1_42 tk1_43 gn_b1_6 tk1_45.lt tk1_44 tk1_45 tk1_7 tk1_8 tk1_9 tk1_10 tk1_11 tk1_12 tk1_13 tk1_14 tk1_15 tk1_16 tk1_17 tk1_18 tk1_19 tk1_20 tk1_21 tk1_22 tk1_23 tk1_24 tk1_25 tk1_26 tk1_27) hZ (W hw 74 rfl) (W hw 2 rfl) (by decide) (by decide)) q2a q2c (g := (mkF m 122 #[.val (.int p0), .val (.int p1), .val (.int p2), .val (.int p3), .val (.int (3 : Int32)), .val (.ref b1_0), .val (.int (1 : Int32))] [(.int (0 : Int32)), (.ref b1_0)])) rfl (by rw [hml]; rfl) (Steps.refl _) (argsL := [(.int (0 : Int32))]) (rest := []) (lenOf pd_1 rfl) rfl (by show 2 * 0 + _ ≤ _; exact Nat.le_of_eq rfl) (hb hby at_122) (fun _ _ => ⟨rfl, rfl, (by decide : 10 + 2 ≤ _), (by decide : 467 + 68 ≤ _)⟩)
  dsimp only [Pt.U, Pt.locs, Pt.cells, Pt.slots] at X2 l2 y2 z2 st2 hQ2 hSq2 hgr2
  subst l2 y2 z2
  have hS2 : s.Since T2.vm T2.heap.size := hSq2
  have hk2 : T2.heap.size ≤ T2.heap.size := Nat.le_refl _
  have hZ2 : Z.Warmed39 (s.setVm T2.vm).vm := State.Warmed39.trans (t := (s.setVm s.vm)) hZ hSq2.1
  have hown2 : (s.setVm T2.vm).vm.findClass s_2 = some m.cls := by rw [show (s.setVm T2.vm).vm = T2.vm from rfl, hSq2.1.alike.findClass]; exact hown
  have X2' : Stand p l e _ (s.setVm T2.vm) m _ below meth c T2 _ _ _ := X2
  obtain ⟨rfl, N2q, Kq2, tk2_0, tk2_1, tk2_2, tk2_3, tk2_4, tk2_5, tk2_6, tk2_7, tk2_8, tk2_9, tk2_10, tk2_11, tk2_12⟩ := hQ2
  have N2 := Fr.app N1 N2q
  have tk1_28_v2 := tk1_28.keep Kq2
  have tk1_41_v2 := tk1_41.keep Kq2
  have tk1_42_v2 := tk1_42.keep Kq2 (ninS (Ne.symm tk1_25) (ninS (Ne.symm tk1_23) (ninS (Ne.symm tk1_20) (ninS (Ne.symm tk1_16) (ninS (Ne.symm tk1_11) nin0)))))
  have tk1_43_v2 := tk1_43.keep Kq2 (ninS (Ne.symm tk1_25) (ninS (Ne.symm tk1_23) (ninS (Ne.symm tk1_20) (ninS (Ne.symm tk1_16) (ninS (Ne.symm tk1_11) nin0)))))
  have tk1_44_v2 := tk1_44.keep Kq2 (ninS (Ne.symm tk1_25) (ninS (Ne.symm tk1_23) (ninS (Ne.symm tk1_20) (ninS (Ne.symm tk1_16) (ninS (Ne.symm tk1_11) nin0)))))
  have tk1_45_v2 := tk1_45.keep Kq2 (ninS (Ne.symm tk1_26) (ninS (Ne.symm tk1_24) (ninS (Ne.symm tk1_21) (ninS (Ne.symm tk1_17) (ninS (Ne.symm tk1_12) nin0)))))
  have O2 := O1.keep Kq2 (allS gn_b1_4 (allS gn_b1_3 (allS gn_b1_2 (allS gn_b1_1 (allS gn_b1_0 all0)))))
  obtain ⟨cq3, kq3, q3a, q3b, q3c⟩ := isOf hZ2 rfl tk2_0
  obtain ⟨_, _, ⟨T3, L3, k3, n3⟩, -, X3, hSq3, hgr3, ⟨Lc3, hQ3, l3, y3, z3⟩, st3⟩ := X2'.virtualBackS hx (y := (⟨s_0, "closeBlock", "(I)V"⟩ : MethodName)) (z := (⟨s_0, "closeBlock", "(I)V"⟩ : MethodName)) hown2 (mvT hZ2 (W hw 87 rfl)) (mvT hZ2 (W hw 88 rfl)) (notFace_of_selects (args := #[]) (mvT hZ2 (W hw 90 rfl))) (mvT hZ2 (W hw 90 rfl)) (mvT hZ2 (W hw 89 rfl)) (by decide) (backOfS (W := 0) (rm_66 l Z a0 hw w kk iw vw hN [] b1_0 ((((p3.toUInt32 >>> ((1 : Int32) &&& 31).toUInt32).toInt32) &&& (2147483647 : Int32)) % (3 : Int32)) b1_5 b1_6 kb1_4 T2.heap O2 gn_b1_0 tk2_0.lt tk2_0 gn_b1_5 tk1_41_v2.lt tk2_5 tk2_8 tk1_41_v2 tk1_42_v2 tk1_43_v2 gn_b1_6 tk1_45_v2.lt tk1_44_v2 tk1_45_v2 tk1_11 tk1_12 tk1_27 hp4 hp5 hp6) hZ2 (W hw 91 rfl) (W hw 2 rfl) (by decide) (by decide)) q3a q3c (g := (mkF m 147 #[.val (.int p0), .val (.int p1), .val (.int p2), .val (.int p3), .val (.int (3 : Int32)), .val (.ref b1_0), .val (.int (1 : Int32))] [(.int ((((p3.toUInt32 >>> ((1 : Int32) &&& 31).toUInt32).toInt32) &&& (2147483647 : Int32)) % (3 : Int32))), (.ref b1_0)])) rfl (by rw [hml]; rfl) (Steps.refl _) (argsL := [(.int ((((p3.toUInt32 >>> ((1 : Int32) &&& 31).toUInt32).toInt32) &&& (2147483647 : Int32)) % (3 : Int32)))]) (rest := []) (lenOf pd_1 rfl) rfl (by show 2 * 0 + _ ≤ _; exact Nat.le_of_eq rfl) (hb hby at_147) (fun _ _ => ⟨rfl, rfl, (by decide : 12 + 2 ≤ _), (by decide : 535 + 60 ≤ _)⟩)
  dsimp only [Pt.U, Pt.locs, Pt.cells, Pt.slots] at X3 l3 y3 z3 st3 hQ3 hSq3 hgr3
  subst l3 y3 z3
  have hS3 : s.Since T3.vm T3.heap.size := foldS (T := T2) hS2 hk2 hSq3 hgr3
  have hk3 : T3.heap.size ≤ T3.heap.size := Nat.le_refl _
  have hZ3 : Z.Warmed39 (s.setVm T3.vm).vm := State.Warmed39.trans (t := (s.setVm T2.vm)) hZ2 hSq3.1
  have hown3 : (s.setVm T3.vm).vm.findClass s_2 = some m.cls := by rw [show (s.setVm T3.vm).vm = T3.vm from rfl, hSq3.1.alike.findClass]; exact hown2
  have X3' : Stand p l e _ (s.setVm T3.vm) m _ below meth c T3 _ _ _ := X3
  obtain ⟨rfl, N3q, Kq3, tk3_0, tk3_1, tk3_2, tk3_3, tk3_4⟩ := hQ3
  have N3 := Fr.app N2 N3q
  have tk2_0_v3 := tk2_0.keep Kq3
  have tk1_41_v3 := tk1_41_v2.keep Kq3
  have tk2_5_v3 := tk2_5.keep Kq3 (ninS tk1_12 (ninS tk1_11 nin0))
  have tk2_8_v3 := tk2_8.keep Kq3 (ninS tk1_12 (ninS tk1_11 nin0))
  have O3 := O2.keep Kq3 (allS gn_b1_6 (allS gn_b1_5 all0))
  obtain ⟨cq4, kq4, q4a, q4b, q4c⟩ := isOf hZ3 rfl tk2_0_v3
  obtain ⟨_, _, ⟨T4, L4, k4, n4⟩, -, X4, ⟨Lc4, hQ4, l4, y4, z4⟩, st4⟩ := X3'.virtualBack hx (y := (⟨s_0, "hasBlocks", "()Z"⟩ : MethodName)) (z := (⟨s_0, "hasBlocks", "()Z"⟩ : MethodName)) hown3 (mvT hZ3 (W hw 52 rfl)) (mvT hZ3 (W hw 53 rfl)) (notFace_of_selects (args := #[]) (mvT hZ3 (W hw 55 rfl))) (mvT hZ3 (W hw 55 rfl)) (mvT hZ3 (W hw 54 rfl)) (by decide) (backOf (W := 0) (rm_67 l Z a0 hw w kk iw vw hN [] b1_0 b1_5 b1_6 ((0 : Int64) ||| ((1 : Int64) <<< (((((p3.toUInt32 >>> ((1 : Int32) &&& 31).toUInt32).toInt32) &&& (2147483647 : Int32)) % (3 : Int32)) &&& 0x3f).toInt64)) kb1_4 T3.heap O3 gn_b1_0 tk2_0_v3.lt tk2_0_v3 gn_b1_5 tk3_0.lt tk2_5_v3 tk2_8_v3 tk3_0 tk3_1 tk3_2 gn_b1_6 tk3_4.lt tk3_3 tk3_4 tk1_11 tk1_12 tk1_27) hZ3 (W hw 56 rfl) (W hw 2 rfl) (by decide) (by decide)) q4a q4c (g := (mkF m 157 #[.val (.int p0), .val (.int p1), .val (.int p2), .val (.int p3), .val (.int (3 : Int32)), .val (.ref b1_0), .val (.int (1 : Int32))] [(.ref b1_0)])) rfl (by rw [hml]; rfl) (Steps.refl _) (argsL := []) (rest := []) (lenOf pd_3 rfl) rfl (by show 2 * 0 + _ ≤ _; exact Nat.le_of_eq rfl) (hb hby at_157) (fun _ _ => ⟨rfl, rfl, (by decide : 14 + 0 ≤ _), (by decide : 595 + 0 ≤ _)⟩)
  dsimp only [Pt.U, Pt.locs, Pt.cells, Pt.slots] at X4 l4 y4 z4 st4 hQ4
  subst l4 y4 z4
  obtain ⟨rfl, N4q, e4⟩ := hQ4
  have N4 := Fr.app N3 N4q
  obtain ⟨fs, hr, hrun, hended, w1, w2, w3, w4⟩ := X4.leaveW hS3 (by rw [e4]; exact hk3) (v := some (.int (1 : Int32))) (fun h => by rw [Bd.returns] at h; cases h)
  refine ⟨_, _, castTop (ef_3 m (.int p0) rfl (.int p1) rfl (.int p2) rfl (.int p3) rfl) ?_, hrun, hended, _, _, rfl, ?_, w1, w2, w3, w4.mono (by decide) (by decide)⟩
  · show Steps p.tables e below (s₁.setTop (mkF m 0 #[.val (.int p0), .val (.int p1), .val (.int p2), .val (.int p3), .unset, .unset, .unset] [])) _
    refine XS.iloadN X0.here hx rfl (hb hby at_0) rfl ?_
    refine XS.iconst X0.here hx rfl (hb hby at_1) ?_
    refine XS.iand X0.here hx rfl (hb hby at_2) rfl ?_
    show Steps p.tables e below (s₁.setTop (mkF m 3 #[.val (.int p0), .val (.int p1), .val (.int p2), .val (.int p3), .unset, .unset, .unset] [(.int (p0 &&& (3 : Int32)))])) _
    rw [hp0]
    refine XS.istore X0.here hx rfl (hb hby at_3) rfl (l' := #[.val (.int p0), .val (.int p1), .val (.int p2), .val (.int p3), .val (.int (3 : Int32)), .unset, .unset]) rfl ?_
    show Steps p.tables e below (s₁.setTop (mkF m 5 #[.val (.int p0), .val (.int p1), .val (.int p2), .val (.int p3), .val (.int (3 : Int32)), .unset, .unset] [])) _
    refine st1 _ ?_
    refine XS.iload X1.here hx rfl (hb hby at_102) rfl ?_
    refine XS.ifNo X1.here hx rfl (hb hby at_104) rfl ((if0 _ _).trans (tlt (by decide : (0 : Int32) < (3 : Int32))).2.2.2) ?_
    refine XS.iloadN X1.here hx rfl (hb hby at_107) rfl ?_
    refine XS.iconst X1.here hx rfl (hb hby at_108) ?_
    refine XS.iand X1.here hx rfl (hb hby at_109) rfl ?_
    show Steps p.tables e below (T1.setTop (mkF m 110 #[.val (.int p0), .val (.int p1), .val (.int p2), .val (.int p3), .val (.int (3 : Int32)), .val (.ref b1_0), .val (.int (1 : Int32))] [(.int (p1 &&& (1 : Int32)))])) _
    rw [hp1]
    refine XS.ifNo X1.here hx rfl (hb hby at_110) rfl ((if0 _ _).trans (feq (by decide : ¬ ((1 : Int32) = (0 : Int32)))).1) ?_
    refine XS.aload X1.here hx rfl (hb hby at_113) rfl rfl ?_
    show Steps p.tables e below (T1.setTop (mkF m 115 #[.val (.int p0), .val (.int p1), .val (.int p2), .val (.int p3), .val (.int (3 : Int32)), .val (.ref b1_0), .val (.int (1 : Int32))] [(.ref b1_0)])) _
    refine XS.iloadN X1.here hx rfl (hb hby at_115) rfl ?_
    refine X1.ldcInt hx hown (mvT hZ (W hw 69 rfl)) (g := (mkF m 116 #[.val (.int p0), .val (.int p1), .val (.int p2), .val (.int p3), .val (.int (3 : Int32)), .val (.ref b1_0), .val (.int (1 : Int32))] [(.int p2), (.ref b1_0)])) rfl (hb hby at_116) _ ?_
    refine XS.iand X1.here hx rfl (hb hby at_118) rfl ?_
    refine XS.iload X1.here hx rfl (hb hby at_119) rfl ?_
    refine iremM X1 hx rfl (hb hby at_121) rfl (by decide : ¬ ((3 : Int32) = (0 : Int32))) ?_
    show Steps p.tables e below (T1.setTop (mkF m 122 #[.val (.int p0), .val (.int p1), .val (.int p2), .val (.int p3), .val (.int (3 : Int32)), .val (.ref b1_0), .val (.int (1 : Int32))] [(.int ((p2 &&& (2147483647 : Int32)) % (3 : Int32))), (.ref b1_0)])) _
    rw [hp2]
    refine st2.trans ?_
    refine XS.iload X2'.here hx rfl (hb hby at_125) rfl ?_
    refine XS.ifNo X2'.here hx rfl (hb hby at_127) rfl ((if0 _ _).trans (tlt (by decide : (0 : Int32) < (3 : Int32))).2.2.2) ?_
    show Steps p.tables e below (T2.setTop (mkF m 130 #[.val (.int p0), .val (.int p1), .val (.int p2), .val (.int p3), .val (.int (3 : Int32)), .val (.ref b1_0), .val (.int (1 : Int32))] [])) _
    refine XS.iloadN X2'.here hx rfl (hb hby at_130) rfl ?_
    refine XS.iconst X2'.here hx rfl (hb hby at_131) ?_
    refine XS.iand X2'.here hx rfl (hb hby at_132) rfl ?_
    show Steps p.tables e below (T2.setTop (mkF m 133 #[.val (.int p0), .val (.int p1), .val (.int p2), .val (.int p3), .val (.int (3 : Int32)), .val (.ref b1_0), .val (.int (1 : Int32))] [(.int (p3 &&& (1 : Int32)))])) _
    rw [hp3]
    refine XS.ifNo X2'.here hx rfl (hb hby at_133) rfl ((if0 _ _).trans (feq (by decide : ¬ ((1 : Int32) = (0 : Int32)))).1) ?_
    refine XS.aload X2'.here hx rfl (hb hby at_136) rfl rfl ?_
    refine XS.iloadN X2'.here hx rfl (hb hby at_138) rfl ?_
    refine XS.iconst X2'.here hx rfl (hb hby at_139) ?_
    refine XS.iushr X2'.here hx rfl (hb hby at_140) rfl ?_
    show Steps p.tables e below (T2.setTop (mkF m 141 #[.val (.int p0), .val (.int p1), .val (.int p2), .val (.int p3), .val (.int (3 : Int32)), .val (.ref b1_0), .val (.int (1 : Int32))] [(.int ((p3.toUInt32 >>> ((1 : Int32) &&& 31).toUInt32).toInt32)), (.ref b1_0)])) _
    refine X2'.ldcInt hx hown2 (mvT hZ2 (W hw 69 rfl)) (g := (mkF m 141 #[.val (.int p0), .val (.int p1), .val (.int p2), .val (.int p3), .val (.int (3 : Int32)), .val (.ref b1_0), .val (.int (1 : Int32))] [(.int ((p3.toUInt32 >>> ((1 : Int32) &&& 31).toUInt32).toInt32)), (.ref b1_0)])) rfl (hb hby at_141) _ ?_
    refine XS.iand X2'.here hx rfl (hb hby at_143) rfl ?_
    refine XS.iload X2'.here hx rfl (hb hby at_144) rfl ?_
    refine iremM X2' hx rfl (hb hby at_146) rfl (by decide : ¬ ((3 : Int32) = (0 : Int32))) ?_
    refine st3.trans ?_
    refine XS.iload X3'.here hx rfl (hb hby at_150) rfl ?_
    refine XS.ifNo X3'.here hx rfl (hb hby at_152) rfl ((if0 _ _).trans (feq (by decide : ¬ ((1 : Int32) = (0 : Int32)))).1) ?_
    refine XS.aload X3'.here hx rfl (hb hby at_155) rfl rfl ?_
    show Steps p.tables e below (T3.setTop (mkF m 157 #[.val (.int p0), .val (.int p1), .val (.int p2), .val (.int p3), .val (.int (3 : Int32)), .val (.ref b1_0), .val (.int (1 : Int32))] [(.ref b1_0)])) _
    refine st4.trans ?_
    refine XS.iload X4.here hx rfl (hb hby at_160) rfl ?_
    refine XS.ifNo X4.here hx rfl (hb hby at_162) rfl ((if0 _ _).trans (tlt (by decide : (0 : Int32) < (3 : Int32))).2.2.2) ?_
    refine XS.iconst X4.here hx rfl (hb hby at_165) ?_
    refine XS.goto X4.here hx rfl (pc0 := 166) (pc' := 170) rfl (hb hby at_166) (by decide) (by decide) ?_
    refine XS.icmpNo X4.here hx rfl (hb hby at_170) rfl (teq (by decide : (1 : Int32) = (1 : Int32))).2 ?_
    refine XS.iconst X4.here hx rfl (hb hby at_173) ?_
    refine XS.goto X4.here hx rfl (pc0 := 174) (pc' := 178) rfl (hb hby at_174) (by decide) (by decide) ?_
    show Steps p.tables e below (T4.setTop (mkF m 178 #[.val (.int p0), .val (.int p1), .val (.int p2), .val (.int p3), .val (.int (3 : Int32)), .val (.ref b1_0), .val (.int (1 : Int32))] [(.int (1 : Int32))])) _
    refine XS.istore X4.here hx rfl (hb hby at_178) rfl (l' := #[.val (.int p0), .val (.int p1), .val (.int p2), .val (.int p3), .val (.int (3 : Int32)), .val (.ref b1_0), .val (.int (1 : Int32))]) rfl ?_
    refine XS.iload X4.here hx rfl (hb hby at_180) rfl ?_
    show Steps p.tables e below (T4.setTop (mkF m 182 #[.val (.int p0), .val (.int p1), .val (.int p2), .val (.int p3), .val (.int (3 : Int32)), .val (.ref b1_0), .val (.int (1 : Int32))] [(.int (1 : Int32))])) _
    exact retN X4 hx (t := .boolean) Bd.returns (by simp) (hb hby at_182) hr
  · show OL (some (.int (1 : Int32))) Z.heap.size _ T4.heap _
    exact ⟨rfl, N4⟩
set_option maxRecDepth 65536 in
set_option maxHeartbeats 40000000 in
theorem rm_69 (l : Launch) (Z : State) (a0 : Array Value) (hw : ∀ d ∈ tables_1, d.before a0 Z = true) (w : Nat → Addr) (kk : Nat → ClassId) (iw : Nat → Int32) (vw : Nat → Value) (hN : Wd Z w kk iw vw) (ws : List Jvm.Cond) (o1 : Addr) (o2 : Addr) (o3 : Addr) (o4 : Addr) (o5 : Addr) (o6 : Addr) (o7 : Addr) (kc_o3 : ClassId) (kc_o4 : ClassId) (kc_o5 : ClassId) (kc_o6 : ClassId) (o8 : Addr) (kc_o8 : ClassId) (h0 : Heap) (O0 : Old Z Z.heap.size h0) (gn_o1 : Z.heap.size ≤ o1) (lt_o1 : o1 < h0.size) (E_o1 : Exa Z h0 o1 s_0) (gn_o3 : Z.heap.size ≤ o3) (lt_o3 : o3 < h0.size) (F_o1_nextBlock : Fld Z h0 o1 s_0 "nextBlock" "[I" (.ref o3)) (gn_o4 : Z.heap.size ≤ o4) (lt_o4 : o4 < h0.size) (F_o1_previousBlock : Fld Z h0 o1 s_0 s_5 "[I" (.ref o4)) (gn_o5 : Z.heap.size ≤ o5) (lt_o5 : o5 < h0.size) (F_o1_firstPiece : Fld Z h0 o1 s_0 "firstPiece" "[I" (.ref o5)) (gn_o6 : Z.heap.size ≤ o6) (lt_o6 : o6 < h0.size) (F_o1_lastPiece : Fld Z h0 o1 s_0 "lastPiece" "[I" (.ref o6)) (gn_o7 : Z.heap.size ≤ o7) (lt_o7 : o7 < h0.size) (F_o1_closed : Fld Z h0 o1 s_0 "closed" s_3 (.ref o7)) (F_o1_firstBlock : Fld Z h0 o1 s_0 "firstBlock" "I" (.int (0 : Int32))) (F_o1_lastBlock : Fld Z h0 o1 s_0 "lastBlock" "I" (.int (2 : Int32))) (F_o1_blockCount : Fld Z h0 o1 s_0 "blockCount" "I" (.int (3 : Int32))) (V_o3 : Arv Z h0 o3 kc_o3 .int (64 : Int32) [(.int (1 : Int32)), (.int (2 : Int32)), (.int (-1 : Int32))] (.int (0 : Int32))) (V_o4 : Arv Z h0 o4 kc_o4 .int (64 : Int32) [(.int (-1 : Int32)), (.int (0 : Int32)), (.int (1 : Int32))] (.int (0 : Int32))) (V_o5 : Arv Z h0 o5 kc_o5 .int (64 : Int32) [(.int (-1 : Int32)), (.int (-1 : Int32)), (.int (-1 : Int32))] (.int (0 : Int32))) (V_o6 : Arv Z h0 o6 kc_o6 .int (64 : Int32) [(.int (-1 : Int32)), (.int (-1 : Int32)), (.int (-1 : Int32))] (.int (0 : Int32))) (E_o7 : Exa Z h0 o7 s_1) (F_o7_wordsInUse : Fld Z h0 o7 s_1 "wordsInUse" "I" (.int (0 : Int32))) (F_o7_sizeIsSticky : Fld Z h0 o7 s_1 s_6 "Z" (.int (0 : Int32))) (gn_o8 : Z.heap.size ≤ o8) (lt_o8 : o8 < h0.size) (F_o7_words : Fld Z h0 o7 s_1 "words" "[J" (.ref o8)) (V_o8 : Arv Z h0 o8 kc_o8 .long (1 : Int32) [] (.long (0 : Int64))) (ne_o1_o3 : o1 ≠ o3) (ne_o1_o4 : o1 ≠ o4) (ne_o1_o5 : o1 ≠ o5) (ne_o1_o6 : o1 ≠ o6) (ne_o1_o7 : o1 ≠ o7) (ne_o1_o8 : o1 ≠ o8) (ne_o3_o4 : o3 ≠ o4) (ne_o3_o5 : o3 ≠ o5) (ne_o3_o6 : o3 ≠ o6) (ne_o3_o7 : o3 ≠ o7) (ne_o3_o8 : o3 ≠ o8) (ne_o4_o5 : o4 ≠ o5) (ne_o4_o6 : o4 ≠ o6) (ne_o4_o7 : o4 ≠ o7) (ne_o4_o8 : o4 ≠ o8) (ne_o5_o6 : o5 ≠ o6) (ne_o5_o7 : o5 ≠ o7) (ne_o5_o8 : o5 ≠ o8) (ne_o6_o7 : o6 ≠ o7) (ne_o6_o8 : o6 ≠ o8) (ne_o7_o8 : o7 ≠ o8) :
    Met l Z (⟨s_0, "find", s_7⟩ : MethodName) (Jvm.Cond.code (⟨s_0, "find", s_7⟩ : MethodName) prog_20_method_11_code 3 (some .int)) ws (Rm 0 0 0 0) #[(.ref o1), (.int (1 : Int32)), (.ref o2)] h0 (OQ (some (.int (1 : Int32))) h0 Z.heap.size) := by
  have hN' := hN
  have hL0 : Sta Z Z.heap s_1 s_4 "Z" (.int (1 : Int32)) := hN'
  refine own_body (plainFor_of_name pn_1) hisR ?_
  intro p e s m below meth c s₁ hx hby hml hown hnm hret X0 hZ e0
  have N0 := Fr.nil Z.heap.size
  obtain ⟨T1, X1, e1, st1⟩ := getF X0 hx hZ hown (host := "") (Or.inl (W hw 57 rfl)) Via.refl e0 F_o1_blockCount (g := (mkF m 6 #[.val (.ref o1), .val (.int (1 : Int32)), .val (.ref o2)] [(.ref o1), (.int (1 : Int32))])) rfl rfl (hb hby d8_6)
  refine ⟨T1, some (.int (1 : Int32)), _, _, _, by decide, by decide, X1, nofun, (by rw [e1]; exact ⟨rfl, N0, rfl⟩), fun fs hr => castTop (ef_5 m (.ref o1) rfl (.int (1 : Int32)) rfl (.ref o2) rfl) ?_⟩
  show Steps p.tables e below (s₁.setTop (mkF m 0 #[.val (.ref o1), .val (.int (1 : Int32)), .val (.ref o2)] [])) _
  refine XS.iloadN X0.here hx rfl (hb hby d8_0) rfl ?_
  refine XS.ifNo X0.here hx rfl (hb hby d8_1) rfl ((if0 _ _).trans (flt (by decide : ¬ ((1 : Int32) < (0 : Int32)))).1) ?_
  refine XS.iloadN X0.here hx rfl (hb hby d8_4) rfl ?_
  refine XS.aloadN X0.here hx rfl (hb hby d8_5) rfl rfl ?_
  refine st1 _ ?_
  refine XS.icmpYes X1.here hx rfl (pc0 := 9) (pc' := 27) rfl (hb hby d8_9) rfl (tlt (by decide : (1 : Int32) < (3 : Int32))).1 (by decide) (by decide) ?_
  refine XS.iloadN X1.here hx rfl (hb hby d8_27) rfl ?_
  show Steps p.tables e below (T1.setTop (mkF m 28 #[.val (.ref o1), .val (.int (1 : Int32)), .val (.ref o2)] [(.int (1 : Int32))])) _
  exact retI X1 hx hret (hb hby d8_28) hr
def Qd_17 (Z : State) (w : Nat → Addr) (kk : Nat → ClassId) (iw : Nat → Int32) (vw : Nat → Value) (o1 : Addr) (o2 : Addr) (o3 : Addr) (o4 : Addr) (o5 : Addr) (o6 : Addr) (kc_o2 : ClassId) (kc_o3 : ClassId) (kc_o4 : ClassId) (kc_o5 : ClassId) (o7 : Addr) (kc_o7 : ClassId) (h0 : Heap) (n0 : Nat) (v : Option Value) (h : Heap) (L : List Loc) : Prop := v = none ∧ Fr n0 L ∧ Keep h0 h [o5, o4, o3, o2, o1] ∧ Exa Z h o1 s_0 ∧ Fld Z h o1 s_0 "nextBlock" "[I" (.ref o2) ∧ Fld Z h o1 s_0 s_5 "[I" (.ref o3) ∧ Fld Z h o1 s_0 "firstPiece" "[I" (.ref o4) ∧ Fld Z h o1 s_0 "lastPiece" "[I" (.ref o5) ∧ Fld Z h o1 s_0 "closed" s_3 (.ref o6) ∧ Fld Z h o1 s_0 "firstBlock" "I" (.int (0 : Int32)) ∧ Fld Z h o1 s_0 "lastBlock" "I" (.int (2 : Int32)) ∧ Fld Z h o1 s_0 "blockCount" "I" (.int (4 : Int32)) ∧ Arv Z h o2 kc_o2 .int (64 : Int32) [(.int (3 : Int32)), (.int (2 : Int32)), (.int (-1 : Int32)), (.int (1 : Int32))] (.int (0 : Int32)) ∧ Arv Z h o3 kc_o3 .int (64 : Int32) [(.int (-1 : Int32)), (.int (3 : Int32)), (.int (1 : Int32)), (.int (0 : Int32))] (.int (0 : Int32)) ∧ Arv Z h o4 kc_o4 .int (64 : Int32) [(.int (-1 : Int32)), (.int (-1 : Int32)), (.int (-1 : Int32)), (.int (-1 : Int32))] (.int (0 : Int32)) ∧ Arv Z h o5 kc_o5 .int (64 : Int32) [(.int (-1 : Int32)), (.int (-1 : Int32)), (.int (-1 : Int32)), (.int (-1 : Int32))] (.int (0 : Int32))
set_option maxRecDepth 65536 in
set_option maxHeartbeats 40000000 in
theorem rm_70 (l : Launch) (Z : State) (a0 : Array Value) (hw : ∀ d ∈ tables_1, d.before a0 Z = true) (w : Nat → Addr) (kk : Nat → ClassId) (iw : Nat → Int32) (vw : Nat → Value) (hN : Wd Z w kk iw vw) (ws : List Jvm.Cond) (o1 : Addr) (o2 : Addr) (o3 : Addr) (o4 : Addr) (o5 : Addr) (o6 : Addr) (kc_o2 : ClassId) (kc_o3 : ClassId) (kc_o4 : ClassId) (kc_o5 : ClassId) (o7 : Addr) (kc_o7 : ClassId) (h0 : Heap) (O0 : Old Z Z.heap.size h0) (gn_o1 : Z.heap.size ≤ o1) (lt_o1 : o1 < h0.size) (E_o1 : Exa Z h0 o1 s_0) (gn_o2 : Z.heap.size ≤ o2) (lt_o2 : o2 < h0.size) (F_o1_nextBlock : Fld Z h0 o1 s_0 "nextBlock" "[I" (.ref o2)) (gn_o3 : Z.heap.size ≤ o3) (lt_o3 : o3 < h0.size) (F_o1_previousBlock : Fld Z h0 o1 s_0 s_5 "[I" (.ref o3)) (gn_o4 : Z.heap.size ≤ o4) (lt_o4 : o4 < h0.size) (F_o1_firstPiece : Fld Z h0 o1 s_0 "firstPiece" "[I" (.ref o4)) (gn_o5 : Z.heap.size ≤ o5) (lt_o5 : o5 < h0.size) (F_o1_lastPiece : Fld Z h0 o1 s_0 "lastPiece" "[I" (.ref o5)) (gn_o6 : Z.heap.size ≤ o6) (lt_o6 : o6 < h0.size) (F_o1_closed : Fld Z h0 o1 s_0 "closed" s_3 (.ref o6)) (F_o1_firstBlock : Fld Z h0 o1 s_0 "firstBlock" "I" (.int (0 : Int32))) (F_o1_lastBlock : Fld Z h0 o1 s_0 "lastBlock" "I" (.int (2 : Int32))) (F_o1_blockCount : Fld Z h0 o1 s_0 "blockCount" "I" (.int (3 : Int32))) (V_o2 : Arv Z h0 o2 kc_o2 .int (64 : Int32) [(.int (1 : Int32)), (.int (2 : Int32)), (.int (-1 : Int32))] (.int (0 : Int32))) (V_o3 : Arv Z h0 o3 kc_o3 .int (64 : Int32) [(.int (-1 : Int32)), (.int (0 : Int32)), (.int (1 : Int32))] (.int (0 : Int32))) (V_o4 : Arv Z h0 o4 kc_o4 .int (64 : Int32) [(.int (-1 : Int32)), (.int (-1 : Int32)), (.int (-1 : Int32))] (.int (0 : Int32))) (V_o5 : Arv Z h0 o5 kc_o5 .int (64 : Int32) [(.int (-1 : Int32)), (.int (-1 : Int32)), (.int (-1 : Int32))] (.int (0 : Int32))) (E_o6 : Exa Z h0 o6 s_1) (F_o6_wordsInUse : Fld Z h0 o6 s_1 "wordsInUse" "I" (.int (0 : Int32))) (F_o6_sizeIsSticky : Fld Z h0 o6 s_1 s_6 "Z" (.int (0 : Int32))) (gn_o7 : Z.heap.size ≤ o7) (lt_o7 : o7 < h0.size) (F_o6_words : Fld Z h0 o6 s_1 "words" "[J" (.ref o7)) (V_o7 : Arv Z h0 o7 kc_o7 .long (1 : Int32) [] (.long (0 : Int64))) (ne_o1_o2 : o1 ≠ o2) (ne_o1_o3 : o1 ≠ o3) (ne_o1_o4 : o1 ≠ o4) (ne_o1_o5 : o1 ≠ o5) (ne_o1_o6 : o1 ≠ o6) (ne_o1_o7 : o1 ≠ o7) (ne_o2_o3 : o2 ≠ o3) (ne_o2_o4 : o2 ≠ o4) (ne_o2_o5 : o2 ≠ o5) (ne_o2_o6 : o2 ≠ o6) (ne_o2_o7 : o2 ≠ o7) (ne_o3_o4 : o3 ≠ o4) (ne_o3_o5 : o3 ≠ o5) (ne_o3_o6 : o3 ≠ o6) (ne_o3_o7 : o3 ≠ o7) (ne_o4_o5 : o4 ≠ o5) (ne_o4_o6 : o4 ≠ o6) (ne_o4_o7 : o4 ≠ o7) (ne_o5_o6 : o5 ≠ o6) (ne_o5_o7 : o5 ≠ o7) (ne_o6_o7 : o6 ≠ o7) :
    MetW l Z (⟨s_0, "insertBlock", "(I)V"⟩ : MethodName) (Jvm.Cond.code (⟨s_0, "insertBlock", "(I)V"⟩ : MethodName) prog_20_method_4_code 5 none) ws (Rm 1 2 68 14) #[(.ref o1), (.int (1 : Int32))] h0 (Qd_17 Z w kk iw vw o1 o2 o3 o4 o5 o6 kc_o2 kc_o3 kc_o4 kc_o5 o7 kc_o7 h0 Z.heap.size) := by
  have hN' := hN
  have hL0 : Sta Z Z.heap s_1 s_4 "Z" (.int (1 : Int32)) := hN'
  refine own_bodyW (plainFor_of_name pn_1) hisR ?_
  intro p e s m below meth c s₁ hx hby hml hown hnm hret X0 hZ e0
  have N0 := Fr.nil Z.heap.size
  have K0 : Keep h0 h0 [o5, o4, o3, o2, o1] := Keep.refl _ _
  obtain ⟨b1, T1, h1, k1, X1, e1, E1, hS1, hk1, hZ1, hown1, st1⟩ := ldcS (s := s) (vm0 := s.vm) X0 hx hZ hown (W hw 75 rfl) (own_atoms hw) e0 (own_since s 0) (Nat.zero_le _) (g := (mkF m 2 #[.val (.ref o1), .val (.int (1 : Int32)), .unset, .unset, .unset] [(.int (1 : Int32)), (.ref o1)])) rfl (hb hby d13_2) (n := 64) (by decide) (by decide) (by decide) (by decide)
  have E_o1_v1 := E_o1.ext E1
  have F_o1_nextBlock_v1 := F_o1_nextBlock.ext E1
  have F_o1_previousBlock_v1 := F_o1_previousBlock.ext E1
  have F_o1_firstPiece_v1 := F_o1_firstPiece.ext E1
  have F_o1_lastPiece_v1 := F_o1_lastPiece.ext E1
  have F_o1_closed_v1 := F_o1_closed.ext E1
  have F_o1_firstBlock_v1 := F_o1_firstBlock.ext E1
  have F_o1_lastBlock_v1 := F_o1_lastBlock.ext E1
  have F_o1_blockCount_v1 := F_o1_blockCount.ext E1
  have V_o2_v1 := V_o2.ext E1
  have V_o3_v1 := V_o3.ext E1
  have V_o4_v1 := V_o4.ext E1
  have V_o5_v1 := V_o5.ext E1
  have E_o6_v1 := E_o6.ext E1
  have F_o6_wordsInUse_v1 := F_o6_wordsInUse.ext E1
  have F_o6_sizeIsSticky_v1 := F_o6_sizeIsSticky.ext E1
  have F_o6_words_v1 := F_o6_words.ext E1
  have V_o7_v1 := V_o7.ext E1
  have O1 := O0.ext E1
  have K1 := K0.ext E1
  obtain ⟨cq2, q2, q2'⟩ := E_o1_v1.cell
  obtain ⟨_, _, ⟨T2, L2, k2, n2⟩, -, X2, ⟨Lc2, hQ2, l2, y2, z2⟩, st2⟩ := X1.privateBack hx (y := (⟨s_0, "find", s_7⟩ : MethodName)) hown1 (mvT hZ1 (W hw 83 rfl)) (mvT hZ1 (W hw 84 rfl)) (own_selpriv (mvT hZ1 (W hw 1 rfl)) (Cond.privateMethod_at (mvP hZ1 (W hw 85 rfl) (args := #[]))) (mvT hZ1 (W hw 84 rfl)) (by decide)) (Cond.privateMethod_at (mvP hZ1 (W hw 85 rfl) (args := #[]))) (mvT hZ1 (W hw 86 rfl)) (by decide) (backOf (W := 0) (rm_69 l Z a0 hw w kk iw vw hN [] o1 b1 o2 o3 o4 o5 o6 kc_o2 kc_o3 kc_o4 kc_o5 o7 kc_o7 h1 O1 gn_o1 E_o1_v1.lt E_o1_v1 gn_o2 V_o2_v1.lt F_o1_nextBlock_v1 gn_o3 V_o3_v1.lt F_o1_previousBlock_v1 gn_o4 V_o4_v1.lt F_o1_firstPiece_v1 gn_o5 V_o5_v1.lt F_o1_lastPiece_v1 gn_o6 E_o6_v1.lt F_o1_closed_v1 F_o1_firstBlock_v1 F_o1_lastBlock_v1 F_o1_blockCount_v1 V_o2_v1 V_o3_v1 V_o4_v1 V_o5_v1 E_o6_v1 F_o6_wordsInUse_v1 F_o6_sizeIsSticky_v1 gn_o7 V_o7_v1.lt F_o6_words_v1 V_o7_v1 ne_o1_o2 ne_o1_o3 ne_o1_o4 ne_o1_o5 ne_o1_o6 ne_o1_o7 ne_o2_o3 ne_o2_o4 ne_o2_o5 ne_o2_o6 ne_o2_o7 ne_o3_o4 ne_o3_o5 ne_o3_o6 ne_o3_o7 ne_o4_o5 ne_o4_o6 ne_o4_o7 ne_o5_o6 ne_o5_o7 ne_o6_o7) hZ1 (W hw 86 rfl) (W hw 2 rfl) (by decide) (by decide)) (g := (mkF m 4 #[.val (.ref o1), .val (.int (1 : Int32)), .unset, .unset, .unset] [(.ref b1), (.int (1 : Int32)), (.ref o1)])) rfl (by rw [hml]; rfl) (Steps.refl _) (a := o1) (by rw [e1]; exact q2) q2' (argsL := [(.int (1 : Int32)), (.ref b1)]) (rest := []) (lenOf pd_5 rfl) rfl (by show 2 * 0 + _ ≤ _; exact Nat.le_of_eq rfl) (hb hby d13_4) (fun _ _ => ⟨rfl, e1, (by decide : 2 + 0 ≤ _), (by decide : 68 + 0 ≤ _)⟩)
  dsimp only [Pt.U, Pt.locs, Pt.cells, Pt.slots] at X2 l2 y2 z2 st2 hQ2
  subst l2 y2 z2
  obtain ⟨rfl, N2q, e2⟩ := hQ2
  have N2 := Fr.app N0 N2q
  obtain ⟨cq3, q3, q3'⟩ := E_o1_v1.cell
  obtain ⟨_, _, ⟨T3, L3, k3, n3⟩, -, X3, ⟨Lc3, hQ3, l3, y3, z3⟩, st3⟩ := X2.privateBack hx (y := (⟨s_0, "newBlock", "()I"⟩ : MethodName)) hown1 (mvT hZ1 (W hw 64 rfl)) (mvT hZ1 (W hw 65 rfl)) (own_selpriv (mvT hZ1 (W hw 1 rfl)) (Cond.privateMethod_at (mvP hZ1 (W hw 66 rfl) (args := #[]))) (mvT hZ1 (W hw 65 rfl)) (by decide)) (Cond.privateMethod_at (mvP hZ1 (W hw 66 rfl) (args := #[]))) (mvT hZ1 (W hw 67 rfl)) (by decide) (backOf (W := 0) (rm_61 l Z a0 hw w kk iw vw hN [] o1 o2 o3 o4 o5 o6 kc_o2 kc_o3 kc_o4 kc_o5 o7 kc_o7 h1 O1 gn_o1 E_o1_v1.lt E_o1_v1 gn_o2 V_o2_v1.lt F_o1_nextBlock_v1 gn_o3 V_o3_v1.lt F_o1_previousBlock_v1 gn_o4 V_o4_v1.lt F_o1_firstPiece_v1 gn_o5 V_o5_v1.lt F_o1_lastPiece_v1 gn_o6 E_o6_v1.lt F_o1_closed_v1 F_o1_firstBlock_v1 F_o1_lastBlock_v1 F_o1_blockCount_v1 V_o2_v1 V_o3_v1 V_o4_v1 V_o5_v1 E_o6_v1 F_o6_wordsInUse_v1 F_o6_sizeIsSticky_v1 gn_o7 V_o7_v1.lt F_o6_words_v1 V_o7_v1 ne_o1_o2 ne_o1_o3 ne_o1_o4 ne_o1_o5 ne_o1_o6 ne_o1_o7 ne_o2_o3 ne_o2_o4 ne_o2_o5 ne_o2_o6 ne_o2_o7 ne_o3_o4 ne_o3_o5 ne_o3_o6 ne_o3_o7 ne_o4_o5 ne_o4_o6 ne_o4_o7 ne_o5_o6 ne_o5_o7 ne_o6_o7) hZ1 (W hw 67 rfl) (W hw 2 rfl) (by decide) (by decide)) (g := (mkF m 9 #[.val (.ref o1), .val (.int (1 : Int32)), .val (.int (1 : Int32)), .unset, .unset] [(.ref o1)])) rfl (by rw [hml]; rfl) (Steps.refl _) (a := o1) (by rw [e2]; exact q3) q3' (argsL := []) (rest := []) (lenOf pd_4 rfl) rfl (by show 2 * 0 + _ ≤ _; exact Nat.le_of_eq rfl) (hb hby d13_9) (fun _ _ => ⟨rfl, e2, (by decide : 2 + 0 ≤ _), (by decide : 68 + 0 ≤ _)⟩)
  dsimp only [Pt.U, Pt.locs, Pt.cells, Pt.slots] at X3 l3 y3 z3 st3 hQ3
  subst l3 y3 z3
  obtain ⟨rfl, N3q, Kq3, tk3_0, tk3_1, tk3_2, tk3_3, tk3_4, tk3_5, tk3_6, tk3_7, tk3_8, tk3_9, tk3_10, tk3_11, tk3_12⟩ := hQ3
  have N3 := Fr.app N2 N3q
  have E_o1_v3 := E_o1_v1.keep Kq3
  have E_o6_v3 := E_o6_v1.keep Kq3
  have F_o6_wordsInUse_v3 := F_o6_wordsInUse_v1.keep Kq3 (ninS (Ne.symm ne_o1_o6) (ninS (Ne.symm ne_o2_o6) (ninS (Ne.symm ne_o3_o6) (ninS (Ne.symm ne_o4_o6) (ninS (Ne.symm ne_o5_o6) nin0)))))
  have F_o6_sizeIsSticky_v3 := F_o6_sizeIsSticky_v1.keep Kq3 (ninS (Ne.symm ne_o1_o6) (ninS (Ne.symm ne_o2_o6) (ninS (Ne.symm ne_o3_o6) (ninS (Ne.symm ne_o4_o6) (ninS (Ne.symm ne_o5_o6) nin0)))))
  have F_o6_words_v3 := F_o6_words_v1.keep Kq3 (ninS (Ne.symm ne_o1_o6) (ninS (Ne.symm ne_o2_o6) (ninS (Ne.symm ne_o3_o6) (ninS (Ne.symm ne_o4_o6) (ninS (Ne.symm ne_o5_o6) nin0)))))
  have V_o7_v3 := V_o7_v1.keep Kq3 (ninS (Ne.symm ne_o1_o7) (ninS (Ne.symm ne_o2_o7) (ninS (Ne.symm ne_o3_o7) (ninS (Ne.symm ne_o4_o7) (ninS (Ne.symm ne_o5_o7) nin0)))))
  have hk3 := Nat.le_trans hk1 Kq3.1
  have O3 := O1.keep Kq3 (allS gn_o1 (allS gn_o2 (allS gn_o3 (allS gn_o4 (allS gn_o5 all0)))))
  have K3 : Keep h0 T3.heap [o5, o4, o3, o2, o1] := K1.trans Kq3 (allS (Or.inl (List.mem_of_getElem? (i := 4) rfl)) (allS (Or.inl (List.mem_of_getElem? (i := 3) rfl)) (allS (Or.inl (List.mem_of_getElem? (i := 2) rfl)) (allS (Or.inl (List.mem_of_getElem? (i := 1) rfl)) (allS (Or.inl (List.mem_of_getElem? (i := 0) rfl)) all0)))))
  obtain ⟨T4, X4, e4, st4⟩ := getF X3 hx hZ1 hown1 (host := "") (Or.inl (W hw 12 rfl)) Via.refl rfl tk3_2 (g := (mkF m 14 #[.val (.ref o1), .val (.int (1 : Int32)), .val (.int (1 : Int32)), .val (.int (3 : Int32)), .unset] [(.ref o1)])) rfl rfl (hb hby d13_14)
  obtain ⟨cl5, Ar5, q5, Sz5, Ng5, Hv5, Gv5⟩ := id tk3_10
  have hin5 : ¬ ((1 : Int32) < 0 ∨ cl5.slots.size ≤ ((1 : Int32)).toNatClampNeg) := inb_of Sz5 ⟨by decide, by decide⟩
  have hat5 : cl5.slots[((1 : Int32)).toNatClampNeg]? = some (.int (0 : Int32)) := Has.at Hv5 hin5 (by rfl)
  obtain ⟨T6, X6, e6, st6⟩ := getF X4 hx hZ1 hown1 (host := "") (Or.inl (W hw 10 rfl)) Via.refl e4 tk3_1 (g := (mkF m 22 #[.val (.ref o1), .val (.int (1 : Int32)), .val (.int (1 : Int32)), .val (.int (3 : Int32)), .val (.int (0 : Int32))] [(.ref o1)])) rfl rfl (hb hby d13_22)
  obtain ⟨cl7, Ar7, q7, Sz7, Ng7, Hv7, Gv7⟩ := tk3_9
  have hin7 : ¬ ((3 : Int32) < 0 ∨ cl7.slots.size ≤ ((3 : Int32)).toNatClampNeg) := inb_of Sz7 ⟨by decide, by decide⟩
  obtain ⟨T8, h8, X8, e8, W8, st8⟩ := stI X6 hx hZ1 e6 Ar7 (j := (3 : Int32)) hin7 (g := (mkF m 27 #[.val (.ref o1), .val (.int (1 : Int32)), .val (.int (1 : Int32)), .val (.int (3 : Int32)), .val (.int (0 : Int32))] [(.int (1 : Int32)), (.int (3 : Int32)), (.ref o2)])) rfl rfl (hb hby d13_27)
  have V_o2_v8 : Arv Z h8 o2 kc_o2 .int (64 : Int32) [(.int (1 : Int32)), (.int (2 : Int32)), (.int (-1 : Int32)), (.int (1 : Int32))] (.int (0 : Int32)) := Arv.set Ar7 q7 Sz7 Ng7 Hv7 Gv7 rfl W8 3 rfl (Nat.le_of_ble_eq_true rfl)
  have N8 := Fr.snoc X8 N3 gn_o2
  have tk3_0_v8 := tk3_0.wr W8
  have E_o6_v8 := E_o6_v3.wr W8
  have F_o6_wordsInUse_v8 := F_o6_wordsInUse_v3.other W8 (Or.inl (Ne.symm ne_o2_o6))
  have F_o6_sizeIsSticky_v8 := F_o6_sizeIsSticky_v3.other W8 (Or.inl (Ne.symm ne_o2_o6))
  have F_o6_words_v8 := F_o6_words_v3.other W8 (Or.inl (Ne.symm ne_o2_o6))
  have V_o7_v8 := V_o7_v3.other W8 (Ne.symm ne_o2_o7)
  have tk3_1_v8 := tk3_1.other W8 (Or.inl ne_o1_o2)
  have tk3_2_v8 := tk3_2.other W8 (Or.inl ne_o1_o2)
  have tk3_3_v8 := tk3_3.other W8 (Or.inl ne_o1_o2)
  have tk3_4_v8 := tk3_4.other W8 (Or.inl ne_o1_o2)
  have tk3_5_v8 := tk3_5.other W8 (Or.inl ne_o1_o2)
  have tk3_6_v8 := tk3_6.other W8 (Or.inl ne_o1_o2)
  have tk3_7_v8 := tk3_7.other W8 (Or.inl ne_o1_o2)
  have tk3_8_v8 := tk3_8.other W8 (Or.inl ne_o1_o2)
  have tk3_10_v8 := tk3_10.other W8 (Ne.symm ne_o2_o3)
  have tk3_11_v8 := tk3_11.other W8 (Ne.symm ne_o2_o4)
  have tk3_12_v8 := tk3_12.other W8 (Ne.symm ne_o2_o5)
  have O8 := O3.wr W8 gn_o2
  have K8 : Keep h0 h8 [o5, o4, o3, o2, o1] := K3.wr W8 (Or.inl (List.mem_of_getElem? (i := 3) rfl))
  have hk8 := Nat.le_trans hk3 (Keep.of_wr W8).1
  obtain ⟨T9, X9, e9, st9⟩ := getF X8 hx hZ1 hown1 (host := "") (Or.inl (W hw 12 rfl)) Via.refl e8 tk3_2_v8 (g := (mkF m 29 #[.val (.ref o1), .val (.int (1 : Int32)), .val (.int (1 : Int32)), .val (.int (3 : Int32)), .val (.int (0 : Int32))] [(.ref o1)])) rfl rfl (hb hby d13_29)
  obtain ⟨cl10, Ar10, q10, Sz10, Ng10, Hv10, Gv10⟩ := tk3_10_v8
  have hin10 : ¬ ((3 : Int32) < 0 ∨ cl10.slots.size ≤ ((3 : Int32)).toNatClampNeg) := inb_of Sz10 ⟨by decide, by decide⟩
  obtain ⟨T11, h11, X11, e11, W11, st11⟩ := stI X9 hx hZ1 e9 Ar10 (j := (3 : Int32)) hin10 (g := (mkF m 35 #[.val (.ref o1), .val (.int (1 : Int32)), .val (.int (1 : Int32)), .val (.int (3 : Int32)), .val (.int (0 : Int32))] [(.int (0 : Int32)), (.int (3 : Int32)), (.ref o3)])) rfl rfl (hb hby d13_35)
  have V_o3_v11 : Arv Z h11 o3 kc_o3 .int (64 : Int32) [(.int (-1 : Int32)), (.int (0 : Int32)), (.int (1 : Int32)), (.int (0 : Int32))] (.int (0 : Int32)) := Arv.set Ar10 q10 Sz10 Ng10 Hv10 Gv10 rfl W11 3 rfl (Nat.le_of_ble_eq_true rfl)
  have N11 := Fr.snoc X11 N8 gn_o3
  have tk3_0_v11 := tk3_0_v8.wr W11
  have E_o6_v11 := E_o6_v8.wr W11
  have F_o6_wordsInUse_v11 := F_o6_wordsInUse_v8.other W11 (Or.inl (Ne.symm ne_o3_o6))
  have F_o6_sizeIsSticky_v11 := F_o6_sizeIsSticky_v8.other W11 (Or.inl (Ne.symm ne_o3_o6))
  have F_o6_words_v11 := F_o6_words_v8.other W11 (Or.inl (Ne.symm ne_o3_o6))
  have V_o7_v11 := V_o7_v8.other W11 (Ne.symm ne_o3_o7)
  have tk3_1_v11 := tk3_1_v8.other W11 (Or.inl ne_o1_o3)
  have tk3_2_v11 := tk3_2_v8.other W11 (Or.inl ne_o1_o3)
  have tk3_3_v11 := tk3_3_v8.other W11 (Or.inl ne_o1_o3)
  have tk3_4_v11 := tk3_4_v8.other W11 (Or.inl ne_o1_o3)
  have tk3_5_v11 := tk3_5_v8.other W11 (Or.inl ne_o1_o3)
  have tk3_6_v11 := tk3_6_v8.other W11 (Or.inl ne_o1_o3)
  have tk3_7_v11 := tk3_7_v8.other W11 (Or.inl ne_o1_o3)
  have tk3_8_v11 := tk3_8_v8.other W11 (Or.inl ne_o1_o3)
  have V_o2_v11 := V_o2_v8.other W11 ne_o2_o3
  have tk3_11_v11 := tk3_11_v8.other W11 (Ne.symm ne_o3_o4)
  have tk3_12_v11 := tk3_12_v8.other W11 (Ne.symm ne_o3_o5)
  have O11 := O8.wr W11 gn_o3
  have K11 : Keep h0 h11 [o5, o4, o3, o2, o1] := K8.wr W11 (Or.inl (List.mem_of_getElem? (i := 2) rfl))
  have hk11 := Nat.le_trans hk8 (Keep.of_wr W11).1
  obtain ⟨T12, X12, e12, st12⟩ := getF X11 hx hZ1 hown1 (host := "") (Or.inl (W hw 10 rfl)) Via.refl e11 tk3_1_v11 (g := (mkF m 51 #[.val (.ref o1), .val (.int (1 : Int32)), .val (.int (1 : Int32)), .val (.int (3 : Int32)), .val (.int (0 : Int32))] [(.ref o1)])) rfl rfl (hb hby d13_51)
  obtain ⟨cl13, Ar13, q13, Sz13, Ng13, Hv13, Gv13⟩ := V_o2_v11
  have hin13 : ¬ ((0 : Int32) < 0 ∨ cl13.slots.size ≤ ((0 : Int32)).toNatClampNeg) := inb_of Sz13 ⟨by decide, by decide⟩
  obtain ⟨T14, h14, X14, e14, W14, st14⟩ := stI X12 hx hZ1 e12 Ar13 (j := (0 : Int32)) hin13 (g := (mkF m 57 #[.val (.ref o1), .val (.int (1 : Int32)), .val (.int (1 : Int32)), .val (.int (3 : Int32)), .val (.int (0 : Int32))] [(.int (3 : Int32)), (.int (0 : Int32)), (.ref o2)])) rfl rfl (hb hby d13_57)
  have V_o2_v14 : Arv Z h14 o2 kc_o2 .int (64 : Int32) [(.int (3 : Int32)), (.int (2 : Int32)), (.int (-1 : Int32)), (.int (1 : Int32))] (.int (0 : Int32)) := Arv.set Ar13 q13 Sz13 Ng13 Hv13 Gv13 rfl W14 0 rfl (Nat.le_of_ble_eq_true rfl)
  have N14 := Fr.snoc X14 N11 gn_o2
  have tk3_0_v14 := tk3_0_v11.wr W14
  have E_o6_v14 := E_o6_v11.wr W14
  have F_o6_wordsInUse_v14 := F_o6_wordsInUse_v11.other W14 (Or.inl (Ne.symm ne_o2_o6))
  have F_o6_sizeIsSticky_v14 := F_o6_sizeIsSticky_v11.other W14 (Or.inl (Ne.symm ne_o2_o6))
  have F_o6_words_v14 := F_o6_words_v11.other W14 (Or.inl (Ne.symm ne_o2_o6))
  have V_o7_v14 := V_o7_v11.other W14 (Ne.symm ne_o2_o7)
  have tk3_1_v14 := tk3_1_v11.other W14 (Or.inl ne_o1_o2)
  have tk3_2_v14 := tk3_2_v11.other W14 (Or.inl ne_o1_o2)
  have tk3_3_v14 := tk3_3_v11.other W14 (Or.inl ne_o1_o2)
  have tk3_4_v14 := tk3_4_v11.other W14 (Or.inl ne_o1_o2)
  have tk3_5_v14 := tk3_5_v11.other W14 (Or.inl ne_o1_o2)
  have tk3_6_v14 := tk3_6_v11.other W14 (Or.inl ne_o1_o2)
  have tk3_7_v14 := tk3_7_v11.other W14 (Or.inl ne_o1_o2)
  have tk3_8_v14 := tk3_8_v11.other W14 (Or.inl ne_o1_o2)
  have V_o3_v14 := V_o3_v11.other W14 (Ne.symm ne_o2_o3)
  have tk3_11_v14 := tk3_11_v11.other W14 (Ne.symm ne_o2_o4)
  have tk3_12_v14 := tk3_12_v11.other W14 (Ne.symm ne_o2_o5)
  have O14 := O11.wr W14 gn_o2
  have K14 : Keep h0 h14 [o5, o4, o3, o2, o1] := K11.wr W14 (Or.inl (List.mem_of_getElem? (i := 3) rfl))
  have hk14 := Nat.le_trans hk11 (Keep.of_wr W14).1
  obtain ⟨T15, X15, e15, st15⟩ := getF X14 hx hZ1 hown1 (host := "") (Or.inl (W hw 12 rfl)) Via.refl e14 tk3_2_v14 (g := (mkF m 59 #[.val (.ref o1), .val (.int (1 : Int32)), .val (.int (1 : Int32)), .val (.int (3 : Int32)), .val (.int (0 : Int32))] [(.ref o1)])) rfl rfl (hb hby d13_59)
  obtain ⟨cl16, Ar16, q16, Sz16, Ng16, Hv16, Gv16⟩ := V_o3_v14
  have hin16 : ¬ ((1 : Int32) < 0 ∨ cl16.slots.size ≤ ((1 : Int32)).toNatClampNeg) := inb_of Sz16 ⟨by decide, by decide⟩
  obtain ⟨T17, h17, X17, e17, W17, st17⟩ := stI X15 hx hZ1 e15 Ar16 (j := (1 : Int32)) hin16 (g := (mkF m 64 #[.val (.ref o1), .val (.int (1 : Int32)), .val (.int (1 : Int32)), .val (.int (3 : Int32)), .val (.int (0 : Int32))] [(.int (3 : Int32)), (.int (1 : Int32)), (.ref o3)])) rfl rfl (hb hby d13_64)
  have V_o3_v17 : Arv Z h17 o3 kc_o3 .int (64 : Int32) [(.int (-1 : Int32)), (.int (3 : Int32)), (.int (1 : Int32)), (.int (0 : Int32))] (.int (0 : Int32)) := Arv.set Ar16 q16 Sz16 Ng16 Hv16 Gv16 rfl W17 1 rfl (Nat.le_of_ble_eq_true rfl)
  have N17 := Fr.snoc X17 N14 gn_o3
  have tk3_0_v17 := tk3_0_v14.wr W17
  have E_o6_v17 := E_o6_v14.wr W17
  have F_o6_wordsInUse_v17 := F_o6_wordsInUse_v14.other W17 (Or.inl (Ne.symm ne_o3_o6))
  have F_o6_sizeIsSticky_v17 := F_o6_sizeIsSticky_v14.other W17 (Or.inl (Ne.symm ne_o3_o6))
  have F_o6_words_v17 := F_o6_words_v14.other W17 (Or.inl (Ne.symm ne_o3_o6))
  have V_o7_v17 := V_o7_v14.other W17 (Ne.symm ne_o3_o7)
  have tk3_1_v17 := tk3_1_v14.other W17 (Or.inl ne_o1_o3)
  have tk3_2_v17 := tk3_2_v14.other W17 (Or.inl ne_o1_o3)
  have tk3_3_v17 := tk3_3_v14.other W17 (Or.inl ne_o1_o3)
  have tk3_4_v17 := tk3_4_v14.other W17 (Or.inl ne_o1_o3)
  have tk3_5_v17 := tk3_5_v14.other W17 (Or.inl ne_o1_o3)
  have tk3_6_v17 := tk3_6_v14.other W17 (Or.inl ne_o1_o3)
  have tk3_7_v17 := tk3_7_v14.other W17 (Or.inl ne_o1_o3)
  have tk3_8_v17 := tk3_8_v14.other W17 (Or.inl ne_o1_o3)
  have V_o2_v17 := V_o2_v14.other W17 ne_o2_o3
  have tk3_11_v17 := tk3_11_v14.other W17 (Ne.symm ne_o3_o4)
  have tk3_12_v17 := tk3_12_v14.other W17 (Ne.symm ne_o3_o5)
  have O17 := O14.wr W17 gn_o3
  have K17 : Keep h0 h17 [o5, o4, o3, o2, o1] := K14.wr W17 (Or.inl (List.mem_of_getElem? (i := 2) rfl))
  have hk17 := Nat.le_trans hk14 (Keep.of_wr W17).1
  refine ⟨T17, _, none, _, _, _, _, by decide, by decide, X17, hS1, (by rw [e17]; exact hk17), (fun _ => rfl), (by rw [e17]; exact ⟨rfl, N17, K17, tk3_0_v17, tk3_1_v17, tk3_2_v17, tk3_3_v17, tk3_4_v17, tk3_5_v17, tk3_6_v17, tk3_7_v17, tk3_8_v17, V_o2_v17, V_o3_v17, tk3_11_v17, tk3_12_v17⟩), fun fs hr => castTop (ef_7 m (.ref o1) rfl (.int (1 : Int32)) rfl) ?_⟩
  show Steps p.tables e below (s₁.setTop (mkF m 0 #[.val (.ref o1), .val (.int (1 : Int32)), .unset, .unset, .unset] [])) _
  refine XS.aloadN X0.here hx rfl (hb hby d13_0) rfl rfl ?_
  refine XS.iloadN X0.here hx rfl (hb hby d13_1) rfl ?_
  refine st1 _ ?_
  refine st2.trans ?_
  refine XS.istoreN X2.here hx rfl (hb hby d13_7) rfl (l' := #[.val (.ref o1), .val (.int (1 : Int32)), .val (.int (1 : Int32)), .unset, .unset]) rfl ?_
  refine XS.aloadN X2.here hx rfl (hb hby d13_8) rfl rfl ?_
  refine st3.trans ?_
  refine XS.istoreN X3.here hx rfl (hb hby d13_12) rfl (l' := #[.val (.ref o1), .val (.int (1 : Int32)), .val (.int (1 : Int32)), .val (.int (3 : Int32)), .unset]) rfl ?_
  show Steps p.tables e below (T3.setTop (mkF m 13 #[.val (.ref o1), .val (.int (1 : Int32)), .val (.int (1 : Int32)), .val (.int (3 : Int32)), .unset] [])) _
  refine XS.aloadN X3.here hx rfl (hb hby d13_13) rfl rfl ?_
  refine st4 _ ?_
  refine XS.iloadN X4.here hx rfl (hb hby d13_17) rfl ?_
  refine X4.iaload hx (j := (1 : Int32)) (v := (.int (0 : Int32))) (by rw [e4]; exact Ar5.1) (State.isArrayOf_alike hZ1.alike Ar5.2.1) Ar5.2.2 hin5 hat5 (g := (mkF m 18 #[.val (.ref o1), .val (.int (1 : Int32)), .val (.int (1 : Int32)), .val (.int (3 : Int32)), .unset] [(.int (1 : Int32)), (.ref o3)])) rfl rfl (hb hby d13_18) _ ?_
  refine XS.istore X4.here hx rfl (hb hby d13_19) rfl (l' := #[.val (.ref o1), .val (.int (1 : Int32)), .val (.int (1 : Int32)), .val (.int (3 : Int32)), .val (.int (0 : Int32))]) rfl ?_
  refine XS.aloadN X4.here hx rfl (hb hby d13_21) rfl rfl ?_
  refine st6 _ ?_
  refine XS.iloadN X6.here hx rfl (hb hby d13_25) rfl ?_
  show Steps p.tables e below (T6.setTop (mkF m 26 #[.val (.ref o1), .val (.int (1 : Int32)), .val (.int (1 : Int32)), .val (.int (3 : Int32)), .val (.int (0 : Int32))] [(.int (3 : Int32)), (.ref o2)])) _
  refine XS.iloadN X6.here hx rfl (hb hby d13_26) rfl ?_
  refine st8 _ ?_
  refine XS.aloadN X8.here hx rfl (hb hby d13_28) rfl rfl ?_
  refine st9 _ ?_
  refine XS.iloadN X9.here hx rfl (hb hby d13_32) rfl ?_
  refine XS.iload X9.here hx rfl (hb hby d13_33) rfl ?_
  refine st11 _ ?_
  refine XS.iload X11.here hx rfl (hb hby d13_36) rfl ?_
  show Steps p.tables e below (T11.setTop (mkF m 38 #[.val (.ref o1), .val (.int (1 : Int32)), .val (.int (1 : Int32)), .val (.int (3 : Int32)), .val (.int (0 : Int32))] [(.int (0 : Int32))])) _
  refine XS.iconst X11.here hx rfl (hb hby d13_38) ?_
  refine XS.icmpYes X11.here hx rfl (pc0 := 39) (pc' := 50) rfl (hb hby d13_39) rfl (feq (by decide : ¬ ((0 : Int32) = (-1 : Int32)))).2 (by decide) (by decide) ?_
  refine XS.aloadN X11.here hx rfl (hb hby d13_50) rfl rfl ?_
  refine st12 _ ?_
  refine XS.iload X12.here hx rfl (hb hby d13_54) rfl ?_
  refine XS.iloadN X12.here hx rfl (hb hby d13_56) rfl ?_
  refine st14 _ ?_
  refine XS.aloadN X14.here hx rfl (hb hby d13_58) rfl rfl ?_
  show Steps p.tables e below (T14.setTop (mkF m 59 #[.val (.ref o1), .val (.int (1 : Int32)), .val (.int (1 : Int32)), .val (.int (3 : Int32)), .val (.int (0 : Int32))] [(.ref o1)])) _
  refine st15 _ ?_
  refine XS.iloadN X15.here hx rfl (hb hby d13_62) rfl ?_
  refine XS.iloadN X15.here hx rfl (hb hby d13_63) rfl ?_
  refine st17 _ ?_
  show Steps p.tables e below (T17.setTop (mkF m 65 #[.val (.ref o1), .val (.int (1 : Int32)), .val (.int (1 : Int32)), .val (.int (3 : Int32)), .val (.int (0 : Int32))] [])) _
  exact X17.returnOut hx hret (hb hby d13_65) hr
set_option maxRecDepth 65536 in
set_option maxHeartbeats 40000000 in
theorem law_71 (l : Launch) (Z : State) (a0 : Array Value) (hw : ∀ d ∈ tables_1, d.before a0 Z = true) (w : Nat → Addr) (kk : Nat → ClassId) (iw : Nat → Int32) (vw : Nat → Value) (hN : Wd Z w kk iw vw) (ws : List Jvm.Cond) (p0 : Int32) (p1 : Int32) (p2 : Int32) (p3 : Int32) (h0 : Heap) (O0 : Old Z Z.heap.size h0) (hp0 : (p0 &&& (3 : Int32)) = (3 : Int32)) (hp1 : (p1 &&& (1 : Int32)) = (1 : Int32)) (hp2 : ((p2 &&& (2147483647 : Int32)) % (3 : Int32)) = (1 : Int32)) (hp3 : (p3 &&& (1 : Int32)) = (0 : Int32)) :
    MetFree l x (head1 (Jvm.Cond.code x code maxLocals ret :: ws) room_1) (fun a U => a = #[(.int p0), (.int p1), (.int p2), (.int p3)] ∧ Z.Warmed39 U.vm ∧ U.heap = h0) (fun _ _ _ _ _ => True) (fun _ U o U' => ∃ v L, o = .returned v ∧ OL (some (.int (1 : Int32))) Z.heap.size v U'.heap L ∧ ReturnedEndW U o U' L 32 3072) := by
  have hN' := hN
  have hL0 : Sta Z Z.heap s_1 s_4 "Z" (.int (1 : Int32)) := hN'
  refine MetFree.of_bodySF (plainFor_of_name pn_2) hisR ?_
  intro p e s m args below meth c s₁ Bd hml0 hP hK
  obtain ⟨rfl, hZ, hh⟩ := hP
  have hx := Bd.exec
  have hby := Bd.bytes
  have hml : c.maxLocals = 7 := hml0
  have hown : s.vm.findClass s_2 = some m.cls := findClass_of_methodNamed Bd.named
  have hnm := (name_of_methodNamed Bd.named Bd.method).1
  have X0 : Stand p l e room_1 s m #[(.int p0), (.int p1), (.int p2), (.int p3)] below meth c s₁ [] 0 0 := Stand.of_body Bd
  have e0 : s₁.heap = h0 := by rw [← hh, Bd.state]; rfl
  have N0 := Fr.nil Z.heap.size
  obtain ⟨T1, L1, b1_0, b1_1, b1_2, b1_3, b1_4, b1_5, b1_6, kb1_0, kb1_1, kb1_2, kb1_3, kb1_4, X1, st1, N1, Kq1, tk1_0, tk1_1, tk1_2, tk1_3, tk1_4, tk1_5, tk1_6, tk1_7, tk1_8, tk1_9, tk1_10, tk1_11, tk1_12, tk1_13, tk1_14, tk1_15, tk1_16, tk1_17, tk1_18, tk1_19, tk1_20, tk1_21, tk1_22, tk1_23, tk1_24, tk1_25, tk1_26, tk1_27, tk1_28, tk1_29, tk1_30, tk1_31, tk1_32, tk1_33, tk1_34, tk1_35, tk1_36, tk1_37, tk1_38, tk1_39, tk1_40, tk1_41, tk1_42, tk1_43, tk1_44, tk1_45⟩ := sg_53 w kk iw vw hN p0 p1 p2 p3 X0 hx hZ hw hby hml hown e0 O0 N0
  have gn_b1_0 : Z.heap.size ≤ b1_0 := Nat.le_trans O0.2.1 tk1_0
  have gn_b1_1 : Z.heap.size ≤ b1_1 := Nat.le_trans O0.2.1 tk1_1
  have gn_b1_2 : Z.heap.size ≤ b1_2 := Nat.le_trans O0.2.1 tk1_2
  have gn_b1_3 : Z.heap.size ≤ b1_3 := Nat.le_trans O0.2.1 tk1_3
  have gn_b1_4 : Z.heap.size ≤ b1_4 := Nat.le_trans O0.2.1 tk1_4
  have gn_b1_5 : Z.heap.size ≤ b1_5 := Nat.le_trans O0.2.1 tk1_5
  have gn_b1_6 : Z.heap.size ≤ b1_6 := Nat.le_trans O0.2.1 tk1_6
  have O1 := O0.keep Kq1 all0
  obtain ⟨cq2, kq2, q2a, q2b, q2c⟩ := isOf hZ rfl tk1_28
  obtain ⟨_, _, ⟨T2, L2, k2, n2⟩, -, X2, hSq2, hgr2, ⟨Lc2, hQ2, l2, y2, z2⟩, st2⟩ := X1.virtualBackS hx (y := (⟨s_0, "insertBlock", "(I)V"⟩ : MethodName)) (z := (⟨s_0, "insertBlock", "(I)V"⟩ : MethodName)) hown (mvT hZ (W hw 70 rfl)) (mvT hZ (W hw 71 rfl)) (notFace_of_selects (args := #[]) (mvT hZ (W hw 73 rfl))) (mvT hZ (W hw 73 rfl)) (mvT hZ (W hw 72 rfl)) (by decide) (backOfS (W := 0) (rm_70 l Z a0 hw w kk iw vw hN [] b1_0 b1_1 b1_2 b1_3 b1_4 b1_5 kb1_0 kb1_1 kb1_2 kb1_3 b1_6 kb1_4 T1.heap O1 gn_b1_0 tk1_28.lt tk1_28 gn_b1_1 tk1_37.lt tk1_29 gn_b1_2 tk1_38.lt tk1_30 gn_b1_3 tk1_39.lt tk1_31 gn_b1_4 tk1_40.lt tk1_32 gn_b1_5 tk1_41.lt tk1_33 tk1_34 tk1_35 tk1_36 tk1_37 tk1_38 tk1_39 tk1_40 tk1_41 tk1_42 tk1_43 gn_b1_6 tk1_45.lt tk1_44 tk1_45 tk1_7 tk1_8 tk1_9 tk1_10 tk1_11 tk1_12 tk1_13 tk1_14 tk1_15 tk1_16 tk1_17 tk1_18 tk1_19 tk1_20 tk1_21 tk1_22 tk1_23 tk1_24 tk1_25 tk1_26 tk1_27) hZ (W hw 74 rfl) (W hw 2 rfl) (by decide) (by decide)) q2a q2c (g := (mkF m 122 #[.val (.int p0), .val (.int p1), .val (.int p2), .val (.int p3), .val (.int (3 : Int32)), .val (.ref b1_0), .val (.int (1 : Int32))] [(.int (1 : Int32)), (.ref b1_0)])) rfl (by rw [hml]; rfl) (Steps.refl _) (argsL := [(.int (1 : Int32))]) (rest := []) (lenOf pd_1 rfl) rfl (by show 2 * 0 + _ ≤ _; exact Nat.le_of_eq rfl) (hb hby at_122) (fun _ _ => ⟨rfl, rfl, (by decide : 10 + 2 ≤ _), (by decide : 467 + 68 ≤ _)⟩)
  dsimp only [Pt.U, Pt.locs, Pt.cells, Pt.slots] at X2 l2 y2 z2 st2 hQ2 hSq2 hgr2
  subst l2 y2 z2
  have hS2 : s.Since T2.vm T2.heap.size := hSq2
  have hk2 : T2.heap.size ≤ T2.heap.size := Nat.le_refl _
  have hZ2 : Z.Warmed39 (s.setVm T2.vm).vm := State.Warmed39.trans (t := (s.setVm s.vm)) hZ hSq2.1
  have hown2 : (s.setVm T2.vm).vm.findClass s_2 = some m.cls := by rw [show (s.setVm T2.vm).vm = T2.vm from rfl, hSq2.1.alike.findClass]; exact hown
  have X2' : Stand p l e _ (s.setVm T2.vm) m _ below meth c T2 _ _ _ := X2
  obtain ⟨rfl, N2q, Kq2, tk2_0, tk2_1, tk2_2, tk2_3, tk2_4, tk2_5, tk2_6, tk2_7, tk2_8, tk2_9, tk2_10, tk2_11, tk2_12⟩ := hQ2
  have N2 := Fr.app N1 N2q
  have tk1_28_v2 := tk1_28.keep Kq2
  have tk1_41_v2 := tk1_41.keep Kq2
  have tk1_42_v2 := tk1_42.keep Kq2 (ninS (Ne.symm tk1_25) (ninS (Ne.symm tk1_23) (ninS (Ne.symm tk1_20) (ninS (Ne.symm tk1_16) (ninS (Ne.symm tk1_11) nin0)))))
  have tk1_43_v2 := tk1_43.keep Kq2 (ninS (Ne.symm tk1_25) (ninS (Ne.symm tk1_23) (ninS (Ne.symm tk1_20) (ninS (Ne.symm tk1_16) (ninS (Ne.symm tk1_11) nin0)))))
  have tk1_44_v2 := tk1_44.keep Kq2 (ninS (Ne.symm tk1_25) (ninS (Ne.symm tk1_23) (ninS (Ne.symm tk1_20) (ninS (Ne.symm tk1_16) (ninS (Ne.symm tk1_11) nin0)))))
  have tk1_45_v2 := tk1_45.keep Kq2 (ninS (Ne.symm tk1_26) (ninS (Ne.symm tk1_24) (ninS (Ne.symm tk1_21) (ninS (Ne.symm tk1_17) (ninS (Ne.symm tk1_12) nin0)))))
  have O2 := O1.keep Kq2 (allS gn_b1_4 (allS gn_b1_3 (allS gn_b1_2 (allS gn_b1_1 (allS gn_b1_0 all0)))))
  obtain ⟨cq3, kq3, q3a, q3b, q3c⟩ := isOf hZ2 rfl tk2_0
  obtain ⟨_, _, ⟨T3, L3, k3, n3⟩, -, X3, ⟨Lc3, hQ3, l3, y3, z3⟩, st3⟩ := X2'.virtualBack hx (y := (⟨s_0, "hasBlocks", "()Z"⟩ : MethodName)) (z := (⟨s_0, "hasBlocks", "()Z"⟩ : MethodName)) hown2 (mvT hZ2 (W hw 52 rfl)) (mvT hZ2 (W hw 53 rfl)) (notFace_of_selects (args := #[]) (mvT hZ2 (W hw 55 rfl))) (mvT hZ2 (W hw 55 rfl)) (mvT hZ2 (W hw 54 rfl)) (by decide) (backOf (W := 0) (rm_63 l Z a0 hw w kk iw vw hN [] b1_0 b1_5 b1_6 kb1_4 T2.heap O2 gn_b1_0 tk2_0.lt tk2_0 gn_b1_5 tk1_41_v2.lt tk2_5 tk2_8 tk1_41_v2 tk1_42_v2 tk1_43_v2 gn_b1_6 tk1_45_v2.lt tk1_44_v2 tk1_45_v2 tk1_11 tk1_12 tk1_27) hZ2 (W hw 56 rfl) (W hw 2 rfl) (by decide) (by decide)) q3a q3c (g := (mkF m 157 #[.val (.int p0), .val (.int p1), .val (.int p2), .val (.int p3), .val (.int (3 : Int32)), .val (.ref b1_0), .val (.int (1 : Int32))] [(.ref b1_0)])) rfl (by rw [hml]; rfl) (Steps.refl _) (argsL := []) (rest := []) (lenOf pd_3 rfl) rfl (by show 2 * 0 + _ ≤ _; exact Nat.le_of_eq rfl) (hb hby at_157) (fun _ _ => ⟨rfl, rfl, (by decide : 12 + 0 ≤ _), (by decide : 535 + 0 ≤ _)⟩)
  dsimp only [Pt.U, Pt.locs, Pt.cells, Pt.slots] at X3 l3 y3 z3 st3 hQ3
  subst l3 y3 z3
  obtain ⟨rfl, N3q, e3⟩ := hQ3
  have N3 := Fr.app N2 N3q
  obtain ⟨fs, hr, hrun, hended, w1, w2, w3, w4⟩ := X3.leaveW hS2 (by rw [e3]; exact hk2) (v := some (.int (1 : Int32))) (fun h => by rw [Bd.returns] at h; cases h)
  refine ⟨_, _, castTop (ef_3 m (.int p0) rfl (.int p1) rfl (.int p2) rfl (.int p3) rfl) ?_, hrun, hended, _, _, rfl, ?_, w1, w2, w3, w4.mono (by decide) (by decide)⟩
  · show Steps p.tables e below (s₁.setTop (mkF m 0 #[.val (.int p0), .val (.int p1), .val (.int p2), .val (.int p3), .unset, .unset, .unset] [])) _
    refine XS.iloadN X0.here hx rfl (hb hby at_0) rfl ?_
    refine XS.iconst X0.here hx rfl (hb hby at_1) ?_
    refine XS.iand X0.here hx rfl (hb hby at_2) rfl ?_
    show Steps p.tables e below (s₁.setTop (mkF m 3 #[.val (.int p0), .val (.int p1), .val (.int p2), .val (.int p3), .unset, .unset, .unset] [(.int (p0 &&& (3 : Int32)))])) _
    rw [hp0]
    refine XS.istore X0.here hx rfl (hb hby at_3) rfl (l' := #[.val (.int p0), .val (.int p1), .val (.int p2), .val (.int p3), .val (.int (3 : Int32)), .unset, .unset]) rfl ?_
    show Steps p.tables e below (s₁.setTop (mkF m 5 #[.val (.int p0), .val (.int p1), .val (.int p2), .val (.int p3), .val (.int (3 : Int32)), .unset, .unset] [])) _
    refine st1 _ ?_
    refine XS.iload X1.here hx rfl (hb hby at_102) rfl ?_
    refine XS.ifNo X1.here hx rfl (hb hby at_104) rfl ((if0 _ _).trans (tlt (by decide : (0 : Int32) < (3 : Int32))).2.2.2) ?_
    refine XS.iloadN X1.here hx rfl (hb hby at_107) rfl ?_
    refine XS.iconst X1.here hx rfl (hb hby at_108) ?_
    refine XS.iand X1.here hx rfl (hb hby at_109) rfl ?_
    show Steps p.tables e below (T1.setTop (mkF m 110 #[.val (.int p0), .val (.int p1), .val (.int p2), .val (.int p3), .val (.int (3 : Int32)), .val (.ref b1_0), .val (.int (1 : Int32))] [(.int (p1 &&& (1 : Int32)))])) _
    rw [hp1]
    refine XS.ifNo X1.here hx rfl (hb hby at_110) rfl ((if0 _ _).trans (feq (by decide : ¬ ((1 : Int32) = (0 : Int32)))).1) ?_
    refine XS.aload X1.here hx rfl (hb hby at_113) rfl rfl ?_
    show Steps p.tables e below (T1.setTop (mkF m 115 #[.val (.int p0), .val (.int p1), .val (.int p2), .val (.int p3), .val (.int (3 : Int32)), .val (.ref b1_0), .val (.int (1 : Int32))] [(.ref b1_0)])) _
    refine XS.iloadN X1.here hx rfl (hb hby at_115) rfl ?_
    refine X1.ldcInt hx hown (mvT hZ (W hw 69 rfl)) (g := (mkF m 116 #[.val (.int p0), .val (.int p1), .val (.int p2), .val (.int p3), .val (.int (3 : Int32)), .val (.ref b1_0), .val (.int (1 : Int32))] [(.int p2), (.ref b1_0)])) rfl (hb hby at_116) _ ?_
    refine XS.iand X1.here hx rfl (hb hby at_118) rfl ?_
    refine XS.iload X1.here hx rfl (hb hby at_119) rfl ?_
    refine iremM X1 hx rfl (hb hby at_121) rfl (by decide : ¬ ((3 : Int32) = (0 : Int32))) ?_
    show Steps p.tables e below (T1.setTop (mkF m 122 #[.val (.int p0), .val (.int p1), .val (.int p2), .val (.int p3), .val (.int (3 : Int32)), .val (.ref b1_0), .val (.int (1 : Int32))] [(.int ((p2 &&& (2147483647 : Int32)) % (3 : Int32))), (.ref b1_0)])) _
    rw [hp2]
    refine st2.trans ?_
    refine XS.iload X2'.here hx rfl (hb hby at_125) rfl ?_
    refine XS.ifNo X2'.here hx rfl (hb hby at_127) rfl ((if0 _ _).trans (tlt (by decide : (0 : Int32) < (3 : Int32))).2.2.2) ?_
    show Steps p.tables e below (T2.setTop (mkF m 130 #[.val (.int p0), .val (.int p1), .val (.int p2), .val (.int p3), .val (.int (3 : Int32)), .val (.ref b1_0), .val (.int (1 : Int32))] [])) _
    refine XS.iloadN X2'.here hx rfl (hb hby at_130) rfl ?_
    refine XS.iconst X2'.here hx rfl (hb hby at_131) ?_
    refine XS.iand X2'.here hx rfl (hb hby at_132) rfl ?_
    show Steps p.tables e below (T2.setTop (mkF m 133 #[.val (.int p0), .val (.int p1), .val (.int p2), .val (.int p3), .val (.int (3 : Int32)), .val (.ref b1_0), .val (.int (1 : Int32))] [(.int (p3 &&& (1 : Int32)))])) _
    rw [hp3]
    refine XS.ifYes X2'.here hx rfl (pc0 := 133) (pc' := 150) rfl (hb hby at_133) rfl ((if0 _ _).trans (teq (by decide : (0 : Int32) = (0 : Int32))).1) (by decide) (by decide) ?_
    refine XS.iload X2'.here hx rfl (hb hby at_150) rfl ?_
    refine XS.ifNo X2'.here hx rfl (hb hby at_152) rfl ((if0 _ _).trans (feq (by decide : ¬ ((1 : Int32) = (0 : Int32)))).1) ?_
    refine XS.aload X2'.here hx rfl (hb hby at_155) rfl rfl ?_
    refine st3.trans ?_
    show Steps p.tables e below (T3.setTop (mkF m 160 #[.val (.int p0), .val (.int p1), .val (.int p2), .val (.int p3), .val (.int (3 : Int32)), .val (.ref b1_0), .val (.int (1 : Int32))] [(.int (1 : Int32))])) _
    refine XS.iload X3.here hx rfl (hb hby at_160) rfl ?_
    refine XS.ifNo X3.here hx rfl (hb hby at_162) rfl ((if0 _ _).trans (tlt (by decide : (0 : Int32) < (3 : Int32))).2.2.2) ?_
    refine XS.iconst X3.here hx rfl (hb hby at_165) ?_
    refine XS.goto X3.here hx rfl (pc0 := 166) (pc' := 170) rfl (hb hby at_166) (by decide) (by decide) ?_
    refine XS.icmpNo X3.here hx rfl (hb hby at_170) rfl (teq (by decide : (1 : Int32) = (1 : Int32))).2 ?_
    refine XS.iconst X3.here hx rfl (hb hby at_173) ?_
    refine XS.goto X3.here hx rfl (pc0 := 174) (pc' := 178) rfl (hb hby at_174) (by decide) (by decide) ?_
    refine XS.istore X3.here hx rfl (hb hby at_178) rfl (l' := #[.val (.int p0), .val (.int p1), .val (.int p2), .val (.int p3), .val (.int (3 : Int32)), .val (.ref b1_0), .val (.int (1 : Int32))]) rfl ?_
    show Steps p.tables e below (T3.setTop (mkF m 180 #[.val (.int p0), .val (.int p1), .val (.int p2), .val (.int p3), .val (.int (3 : Int32)), .val (.ref b1_0), .val (.int (1 : Int32))] [])) _
    refine XS.iload X3.here hx rfl (hb hby at_180) rfl ?_
    show Steps p.tables e below (T3.setTop (mkF m 182 #[.val (.int p0), .val (.int p1), .val (.int p2), .val (.int p3), .val (.int (3 : Int32)), .val (.ref b1_0), .val (.int (1 : Int32))] [(.int (1 : Int32))])) _
    exact retN X3 hx (t := .boolean) Bd.returns (by simp) (hb hby at_182) hr
  · show OL (some (.int (1 : Int32))) Z.heap.size _ T3.heap _
    exact ⟨rfl, N3⟩
set_option maxRecDepth 65536 in
set_option maxHeartbeats 40000000 in
theorem law_72 (l : Launch) (Z : State) (a0 : Array Value) (hw : ∀ d ∈ tables_1, d.before a0 Z = true) (w : Nat → Addr) (kk : Nat → ClassId) (iw : Nat → Int32) (vw : Nat → Value) (hN : Wd Z w kk iw vw) (ws : List Jvm.Cond) (p0 : Int32) (p1 : Int32) (p2 : Int32) (p3 : Int32) (h0 : Heap) (O0 : Old Z Z.heap.size h0) (hp0 : (p0 &&& (3 : Int32)) = (3 : Int32)) (hp1 : (p1 &&& (1 : Int32)) = (1 : Int32)) (hp2 : ((p2 &&& (2147483647 : Int32)) % (3 : Int32)) = (1 : Int32)) (hp3 : (p3 &&& (1 : Int32)) = (1 : Int32)) (hp4 : ¬ (((((p3.toUInt32 >>> ((1 : Int32) &&& 31).toUInt32).toInt32) &&& (2147483647 : Int32)) % (3 : Int32)) < (0 : Int32))) (hp5 : ((((p3.toUInt32 >>> ((1 : Int32) &&& 31).toUInt32).toInt32) &&& (2147483647 : Int32)) % (3 : Int32)) < (4 : Int32)) (hp6 : (((((p3.toUInt32 >>> ((1 : Int32) &&& 31).toUInt32).toInt32) &&& (2147483647 : Int32)) % (3 : Int32)) >>> ((6 : Int32) &&& 31)) = (0 : Int32)) :
    MetFree l x (head1 (Jvm.Cond.code x code maxLocals ret :: ws) room_1) (fun a U => a = #[(.int p0), (.int p1), (.int p2), (.int p3)] ∧ Z.Warmed39 U.vm ∧ U.heap = h0) (fun _ _ _ _ _ => True) (fun _ U o U' => ∃ v L, o = .returned v ∧ OL (some (.int (1 : Int32))) Z.heap.size v U'.heap L ∧ ReturnedEndW U o U' L 32 3072) := by
  have hN' := hN
  have hL0 : Sta Z Z.heap s_1 s_4 "Z" (.int (1 : Int32)) := hN'
  refine MetFree.of_bodySF (plainFor_of_name pn_2) hisR ?_
  intro p e s m args below meth c s₁ Bd hml0 hP hK
  obtain ⟨rfl, hZ, hh⟩ := hP
  have hx := Bd.exec
  have hby := Bd.bytes
  have hml : c.maxLocals = 7 := hml0
  have hown : s.vm.findClass s_2 = some m.cls := findClass_of_methodNamed Bd.named
  have hnm := (name_of_methodNamed Bd.named Bd.method).1
  have X0 : Stand p l e room_1 s m #[(.int p0), (.int p1), (.int p2), (.int p3)] below meth c s₁ [] 0 0 := Stand.of_body Bd
  have e0 : s₁.heap = h0 := by rw [← hh, Bd.state]; rfl
  have N0 := Fr.nil Z.heap.size
  obtain ⟨T1, L1, b1_0, b1_1, b1_2, b1_3, b1_4, b1_5, b1_6, kb1_0, kb1_1, kb1_2, kb1_3, kb1_4, X1, st1, N1, Kq1, tk1_0, tk1_1, tk1_2, tk1_3, tk1_4, tk1_5, tk1_6, tk1_7, tk1_8, tk1_9, tk1_10, tk1_11, tk1_12, tk1_13, tk1_14, tk1_15, tk1_16, tk1_17, tk1_18, tk1_19, tk1_20, tk1_21, tk1_22, tk1_23, tk1_24, tk1_25, tk1_26, tk1_27, tk1_28, tk1_29, tk1_30, tk1_31, tk1_32, tk1_33, tk1_34, tk1_35, tk1_36, tk1_37, tk1_38, tk1_39, tk1_40, tk1_41, tk1_42, tk1_43, tk1_44, tk1_45⟩ := sg_53 w kk iw vw hN p0 p1 p2 p3 X0 hx hZ hw hby hml hown e0 O0 N0
  have gn_b1_0 : Z.heap.size ≤ b1_0 := Nat.le_trans O0.2.1 tk1_0
  have gn_b1_1 : Z.heap.size ≤ b1_1 := Nat.le_trans O0.2.1 tk1_1
  have gn_b1_2 : Z.heap.size ≤ b1_2 := Nat.le_trans O0.2.1 tk1_2
  have gn_b1_3 : Z.heap.size ≤ b1_3 := Nat.le_trans O0.2.1 tk1_3
  have gn_b1_4 : Z.heap.size ≤ b1_4 := Nat.le_trans O0.2.1 tk1_4
  have gn_b1_5 : Z.heap.size ≤ b1_5 := Nat.le_trans O0.2.1 tk1_5
  have gn_b1_6 : Z.heap.size ≤ b1_6 := Nat.le_trans O0.2.1 tk1_6
  have O1 := O0.keep Kq1 all0
  obtain ⟨cq2, kq2, q2a, q2b, q2c⟩ := isOf hZ rfl tk1_28
  obtain ⟨_, _, ⟨T2, L2, k2, n2⟩, -, X2, hSq2, hgr2, ⟨Lc2, hQ2, l2, y2, z2⟩, st2⟩ := X1.virtualBackS hx (y := (⟨s_0, "insertBlock", "(I)V"⟩ : MethodName)) (z := (⟨s_0, "insertBlock", "(I)V"⟩ : MethodName)) hown (mvT hZ (W hw 70 rfl)) (mvT hZ (W hw 71 rfl)) (notFace_of_selects (args := #[]) (mvT hZ (W hw 73 rfl))) (mvT hZ (W hw 73 rfl)) (mvT hZ (W hw 72 rfl)) (by decide) (backOfS (W := 0) (rm_70 l Z a0 hw w kk iw vw hN [] b1_0 b1_1 b1_2 b1_3 b1_4 b1_5 kb1_0 kb1_1 kb1_2 kb1_3 b1_6 kb1_4 T1.heap O1 gn_b1_0 tk1_28.lt tk1_28 gn_b1_1 tk1_37.lt tk1_29 gn_b1_2 tk1_38.lt tk1_30 gn_b1_3 tk1_39.lt tk1_31 gn_b1_4 tk1_40.lt tk1_32 gn_b1_5 tk1_41.lt tk1_33 tk1_34 tk1_35 tk1_36 tk1_37 tk1_38 tk1_39 tk1_40 tk1_41 tk1_42 tk1_43 gn_b1_6 tk1_45.lt tk1_44 tk1_45 tk1_7 tk1_8 tk1_9 tk1_10 tk1_11 tk1_12 tk1_13 tk1_14 tk1_15 tk1_16 tk1_17 tk1_18 tk1_19 tk1_20 tk1_21 tk1_22 tk1_23 tk1_24 tk1_25 tk1_26 tk1_27) hZ (W hw 74 rfl) (W hw 2 rfl) (by decide) (by decide)) q2a q2c (g := (mkF m 122 #[.val (.int p0), .val (.int p1), .val (.int p2), .val (.int p3), .val (.int (3 : Int32)), .val (.ref b1_0), .val (.int (1 : Int32))] [(.int (1 : Int32)), (.ref b1_0)])) rfl (by rw [hml]; rfl) (Steps.refl _) (argsL := [(.int (1 : Int32))]) (rest := []) (lenOf pd_1 rfl) rfl (by show 2 * 0 + _ ≤ _; exact Nat.le_of_eq rfl) (hb hby at_122) (fun _ _ => ⟨rfl, rfl, (by decide : 10 + 2 ≤ _), (by decide : 467 + 68 ≤ _)⟩)
  dsimp only [Pt.U, Pt.locs, Pt.cells, Pt.slots] at X2 l2 y2 z2 st2 hQ2 hSq2 hgr2
  subst l2 y2 z2
  have hS2 : s.Since T2.vm T2.heap.size := hSq2
  have hk2 : T2.heap.size ≤ T2.heap.size := Nat.le_refl _
  have hZ2 : Z.Warmed39 (s.setVm T2.vm).vm := State.Warmed39.trans (t := (s.setVm s.vm)) hZ hSq2.1
  have hown2 : (s.setVm T2.vm).vm.findClass s_2 = some m.cls := by rw [show (s.setVm T2.vm).vm = T2.vm from rfl, hSq2.1.alike.findClass]; exact hown
  have X2' : Stand p l e _ (s.setVm T2.vm) m _ below meth c T2 _ _ _ := X2
  obtain ⟨rfl, N2q, Kq2, tk2_0, tk2_1, tk2_2, tk2_3, tk2_4, tk2_5, tk2_6, tk2_7, tk2_8, tk2_9, tk2_10, tk2_11, tk2_12⟩ := hQ2
  have N2 := Fr.app N1 N2q
  have tk1_28_v2 := tk1_28.keep Kq2
  have tk1_41_v2 := tk1_41.keep Kq2
  have tk1_42_v2 := tk1_42.keep Kq2 (ninS (Ne.symm tk1_25) (ninS (Ne.symm tk1_23) (ninS (Ne.symm tk1_20) (ninS (Ne.symm tk1_16) (ninS (Ne.symm tk1_11) nin0)))))
  have tk1_43_v2 := tk1_43.keep Kq2 (ninS (Ne.symm tk1_25) (ninS (Ne.symm tk1_23) (ninS (Ne.symm tk1_20) (ninS (Ne.symm tk1_16) (ninS (Ne.symm tk1_11) nin0)))))
  have tk1_44_v2 := tk1_44.keep Kq2 (ninS (Ne.symm tk1_25) (ninS (Ne.symm tk1_23) (ninS (Ne.symm tk1_20) (ninS (Ne.symm tk1_16) (ninS (Ne.symm tk1_11) nin0)))))
  have tk1_45_v2 := tk1_45.keep Kq2 (ninS (Ne.symm tk1_26) (ninS (Ne.symm tk1_24) (ninS (Ne.symm tk1_21) (ninS (Ne.symm tk1_17) (ninS (Ne.symm tk1_12) nin0)))))
  have O2 := O1.keep Kq2 (allS gn_b1_4 (allS gn_b1_3 (allS gn_b1_2 (allS gn_b1_1 (allS gn_b1_0 all0)))))
  obtain ⟨cq3, kq3, q3a, q3b, q3c⟩ := isOf hZ2 rfl tk2_0
  obtain ⟨_, _, ⟨T3, L3, k3, n3⟩, -, X3, hSq3, hgr3, ⟨Lc3, hQ3, l3, y3, z3⟩, st3⟩ := X2'.virtualBackS hx (y := (⟨s_0, "closeBlock", "(I)V"⟩ : MethodName)) (z := (⟨s_0, "closeBlock", "(I)V"⟩ : MethodName)) hown2 (mvT hZ2 (W hw 87 rfl)) (mvT hZ2 (W hw 88 rfl)) (notFace_of_selects (args := #[]) (mvT hZ2 (W hw 90 rfl))) (mvT hZ2 (W hw 90 rfl)) (mvT hZ2 (W hw 89 rfl)) (by decide) (backOfS (W := 0) (rm_66 l Z a0 hw w kk iw vw hN [] b1_0 ((((p3.toUInt32 >>> ((1 : Int32) &&& 31).toUInt32).toInt32) &&& (2147483647 : Int32)) % (3 : Int32)) b1_5 b1_6 kb1_4 T2.heap O2 gn_b1_0 tk2_0.lt tk2_0 gn_b1_5 tk1_41_v2.lt tk2_5 tk2_8 tk1_41_v2 tk1_42_v2 tk1_43_v2 gn_b1_6 tk1_45_v2.lt tk1_44_v2 tk1_45_v2 tk1_11 tk1_12 tk1_27 hp4 hp5 hp6) hZ2 (W hw 91 rfl) (W hw 2 rfl) (by decide) (by decide)) q3a q3c (g := (mkF m 147 #[.val (.int p0), .val (.int p1), .val (.int p2), .val (.int p3), .val (.int (3 : Int32)), .val (.ref b1_0), .val (.int (1 : Int32))] [(.int ((((p3.toUInt32 >>> ((1 : Int32) &&& 31).toUInt32).toInt32) &&& (2147483647 : Int32)) % (3 : Int32))), (.ref b1_0)])) rfl (by rw [hml]; rfl) (Steps.refl _) (argsL := [(.int ((((p3.toUInt32 >>> ((1 : Int32) &&& 31).toUInt32).toInt32) &&& (2147483647 : Int32)) % (3 : Int32)))]) (rest := []) (lenOf pd_1 rfl) rfl (by show 2 * 0 + _ ≤ _; exact Nat.le_of_eq rfl) (hb hby at_147) (fun _ _ => ⟨rfl, rfl, (by decide : 12 + 2 ≤ _), (by decide : 535 + 60 ≤ _)⟩)
  dsimp only [Pt.U, Pt.locs, Pt.cells, Pt.slots] at X3 l3 y3 z3 st3 hQ3 hSq3 hgr3
  subst l3 y3 z3
  have hS3 : s.Since T3.vm T3.heap.size := foldS (T := T2) hS2 hk2 hSq3 hgr3
  have hk3 : T3.heap.size ≤ T3.heap.size := Nat.le_refl _
  have hZ3 : Z.Warmed39 (s.setVm T3.vm).vm := State.Warmed39.trans (t := (s.setVm T2.vm)) hZ2 hSq3.1
  have hown3 : (s.setVm T3.vm).vm.findClass s_2 = some m.cls := by rw [show (s.setVm T3.vm).vm = T3.vm from rfl, hSq3.1.alike.findClass]; exact hown2
  have X3' : Stand p l e _ (s.setVm T3.vm) m _ below meth c T3 _ _ _ := X3
  obtain ⟨rfl, N3q, Kq3, tk3_0, tk3_1, tk3_2, tk3_3, tk3_4⟩ := hQ3
  have N3 := Fr.app N2 N3q
  have tk2_0_v3 := tk2_0.keep Kq3
  have tk1_41_v3 := tk1_41_v2.keep Kq3
  have tk2_5_v3 := tk2_5.keep Kq3 (ninS tk1_12 (ninS tk1_11 nin0))
  have tk2_8_v3 := tk2_8.keep Kq3 (ninS tk1_12 (ninS tk1_11 nin0))
  have O3 := O2.keep Kq3 (allS gn_b1_6 (allS gn_b1_5 all0))
  obtain ⟨cq4, kq4, q4a, q4b, q4c⟩ := isOf hZ3 rfl tk2_0_v3
  obtain ⟨_, _, ⟨T4, L4, k4, n4⟩, -, X4, ⟨Lc4, hQ4, l4, y4, z4⟩, st4⟩ := X3'.virtualBack hx (y := (⟨s_0, "hasBlocks", "()Z"⟩ : MethodName)) (z := (⟨s_0, "hasBlocks", "()Z"⟩ : MethodName)) hown3 (mvT hZ3 (W hw 52 rfl)) (mvT hZ3 (W hw 53 rfl)) (notFace_of_selects (args := #[]) (mvT hZ3 (W hw 55 rfl))) (mvT hZ3 (W hw 55 rfl)) (mvT hZ3 (W hw 54 rfl)) (by decide) (backOf (W := 0) (rm_67 l Z a0 hw w kk iw vw hN [] b1_0 b1_5 b1_6 ((0 : Int64) ||| ((1 : Int64) <<< (((((p3.toUInt32 >>> ((1 : Int32) &&& 31).toUInt32).toInt32) &&& (2147483647 : Int32)) % (3 : Int32)) &&& 0x3f).toInt64)) kb1_4 T3.heap O3 gn_b1_0 tk2_0_v3.lt tk2_0_v3 gn_b1_5 tk3_0.lt tk2_5_v3 tk2_8_v3 tk3_0 tk3_1 tk3_2 gn_b1_6 tk3_4.lt tk3_3 tk3_4 tk1_11 tk1_12 tk1_27) hZ3 (W hw 56 rfl) (W hw 2 rfl) (by decide) (by decide)) q4a q4c (g := (mkF m 157 #[.val (.int p0), .val (.int p1), .val (.int p2), .val (.int p3), .val (.int (3 : Int32)), .val (.ref b1_0), .val (.int (1 : Int32))] [(.ref b1_0)])) rfl (by rw [hml]; rfl) (Steps.refl _) (argsL := []) (rest := []) (lenOf pd_3 rfl) rfl (by show 2 * 0 + _ ≤ _; exact Nat.le_of_eq rfl) (hb hby at_157) (fun _ _ => ⟨rfl, rfl, (by decide : 14 + 0 ≤ _), (by decide : 595 + 0 ≤ _)⟩)
  dsimp only [Pt.U, Pt.locs, Pt.cells, Pt.slots] at X4 l4 y4 z4 st4 hQ4
  subst l4 y4 z4
  obtain ⟨rfl, N4q, e4⟩ := hQ4
  have N4 := Fr.app N3 N4q
  obtain ⟨fs, hr, hrun, hended, w1, w2, w3, w4⟩ := X4.leaveW hS3 (by rw [e4]; exact hk3) (v := some (.int (1 : Int32))) (fun h => by rw [Bd.returns] at h; cases h)
  refine ⟨_, _, castTop (ef_3 m (.int p0) rfl (.int p1) rfl (.int p2) rfl (.int p3) rfl) ?_, hrun, hended, _, _, rfl, ?_, w1, w2, w3, w4.mono (by decide) (by decide)⟩
  · show Steps p.tables e below (s₁.setTop (mkF m 0 #[.val (.int p0), .val (.int p1), .val (.int p2), .val (.int p3), .unset, .unset, .unset] [])) _
    refine XS.iloadN X0.here hx rfl (hb hby at_0) rfl ?_
    refine XS.iconst X0.here hx rfl (hb hby at_1) ?_
    refine XS.iand X0.here hx rfl (hb hby at_2) rfl ?_
    show Steps p.tables e below (s₁.setTop (mkF m 3 #[.val (.int p0), .val (.int p1), .val (.int p2), .val (.int p3), .unset, .unset, .unset] [(.int (p0 &&& (3 : Int32)))])) _
    rw [hp0]
    refine XS.istore X0.here hx rfl (hb hby at_3) rfl (l' := #[.val (.int p0), .val (.int p1), .val (.int p2), .val (.int p3), .val (.int (3 : Int32)), .unset, .unset]) rfl ?_
    show Steps p.tables e below (s₁.setTop (mkF m 5 #[.val (.int p0), .val (.int p1), .val (.int p2), .val (.int p3), .val (.int (3 : Int32)), .unset, .unset] [])) _
    refine st1 _ ?_
    refine XS.iload X1.here hx rfl (hb hby at_102) rfl ?_
    refine XS.ifNo X1.here hx rfl (hb hby at_104) rfl ((if0 _ _).trans (tlt (by decide : (0 : Int32) < (3 : Int32))).2.2.2) ?_
    refine XS.iloadN X1.here hx rfl (hb hby at_107) rfl ?_
    refine XS.iconst X1.here hx rfl (hb hby at_108) ?_
    refine XS.iand X1.here hx rfl (hb hby at_109) rfl ?_
    show Steps p.tables e below (T1.setTop (mkF m 110 #[.val (.int p0), .val (.int p1), .val (.int p2), .val (.int p3), .val (.int (3 : Int32)), .val (.ref b1_0), .val (.int (1 : Int32))] [(.int (p1 &&& (1 : Int32)))])) _
    rw [hp1]
    refine XS.ifNo X1.here hx rfl (hb hby at_110) rfl ((if0 _ _).trans (feq (by decide : ¬ ((1 : Int32) = (0 : Int32)))).1) ?_
    refine XS.aload X1.here hx rfl (hb hby at_113) rfl rfl ?_
    show Steps p.tables e below (T1.setTop (mkF m 115 #[.val (.int p0), .val (.int p1), .val (.int p2), .val (.int p3), .val (.int (3 : Int32)), .val (.ref b1_0), .val (.int (1 : Int32))] [(.ref b1_0)])) _
    refine XS.iloadN X1.here hx rfl (hb hby at_115) rfl ?_
    refine X1.ldcInt hx hown (mvT hZ (W hw 69 rfl)) (g := (mkF m 116 #[.val (.int p0), .val (.int p1), .val (.int p2), .val (.int p3), .val (.int (3 : Int32)), .val (.ref b1_0), .val (.int (1 : Int32))] [(.int p2), (.ref b1_0)])) rfl (hb hby at_116) _ ?_
    refine XS.iand X1.here hx rfl (hb hby at_118) rfl ?_
    refine XS.iload X1.here hx rfl (hb hby at_119) rfl ?_
    refine iremM X1 hx rfl (hb hby at_121) rfl (by decide : ¬ ((3 : Int32) = (0 : Int32))) ?_
    show Steps p.tables e below (T1.setTop (mkF m 122 #[.val (.int p0), .val (.int p1), .val (.int p2), .val (.int p3), .val (.int (3 : Int32)), .val (.ref b1_0), .val (.int (1 : Int32))] [(.int ((p2 &&& (2147483647 : Int32)) % (3 : Int32))), (.ref b1_0)])) _
    rw [hp2]
    refine st2.trans ?_
    refine XS.iload X2'.here hx rfl (hb hby at_125) rfl ?_
    refine XS.ifNo X2'.here hx rfl (hb hby at_127) rfl ((if0 _ _).trans (tlt (by decide : (0 : Int32) < (3 : Int32))).2.2.2) ?_
    show Steps p.tables e below (T2.setTop (mkF m 130 #[.val (.int p0), .val (.int p1), .val (.int p2), .val (.int p3), .val (.int (3 : Int32)), .val (.ref b1_0), .val (.int (1 : Int32))] [])) _
    refine XS.iloadN X2'.here hx rfl (hb hby at_130) rfl ?_
    refine XS.iconst X2'.here hx rfl (hb hby at_131) ?_
    refine XS.iand X2'.here hx rfl (hb hby at_132) rfl ?_
    show Steps p.tables e below (T2.setTop (mkF m 133 #[.val (.int p0), .val (.int p1), .val (.int p2), .val (.int p3), .val (.int (3 : Int32)), .val (.ref b1_0), .val (.int (1 : Int32))] [(.int (p3 &&& (1 : Int32)))])) _
    rw [hp3]
    refine XS.ifNo X2'.here hx rfl (hb hby at_133) rfl ((if0 _ _).trans (feq (by decide : ¬ ((1 : Int32) = (0 : Int32)))).1) ?_
    refine XS.aload X2'.here hx rfl (hb hby at_136) rfl rfl ?_
    refine XS.iloadN X2'.here hx rfl (hb hby at_138) rfl ?_
    refine XS.iconst X2'.here hx rfl (hb hby at_139) ?_
    refine XS.iushr X2'.here hx rfl (hb hby at_140) rfl ?_
    show Steps p.tables e below (T2.setTop (mkF m 141 #[.val (.int p0), .val (.int p1), .val (.int p2), .val (.int p3), .val (.int (3 : Int32)), .val (.ref b1_0), .val (.int (1 : Int32))] [(.int ((p3.toUInt32 >>> ((1 : Int32) &&& 31).toUInt32).toInt32)), (.ref b1_0)])) _
    refine X2'.ldcInt hx hown2 (mvT hZ2 (W hw 69 rfl)) (g := (mkF m 141 #[.val (.int p0), .val (.int p1), .val (.int p2), .val (.int p3), .val (.int (3 : Int32)), .val (.ref b1_0), .val (.int (1 : Int32))] [(.int ((p3.toUInt32 >>> ((1 : Int32) &&& 31).toUInt32).toInt32)), (.ref b1_0)])) rfl (hb hby at_141) _ ?_
    refine XS.iand X2'.here hx rfl (hb hby at_143) rfl ?_
    refine XS.iload X2'.here hx rfl (hb hby at_144) rfl ?_
    refine iremM X2' hx rfl (hb hby at_146) rfl (by decide : ¬ ((3 : Int32) = (0 : Int32))) ?_
    refine st3.trans ?_
    refine XS.iload X3'.here hx rfl (hb hby at_150) rfl ?_
    refine XS.ifNo X3'.here hx rfl (hb hby at_152) rfl ((if0 _ _).trans (feq (by decide : ¬ ((1 : Int32) = (0 : Int32)))).1) ?_
    refine XS.aload X3'.here hx rfl (hb hby at_155) rfl rfl ?_
    show Steps p.tables e below (T3.setTop (mkF m 157 #[.val (.int p0), .val (.int p1), .val (.int p2), .val (.int p3), .val (.int (3 : Int32)), .val (.ref b1_0), .val (.int (1 : Int32))] [(.ref b1_0)])) _
    refine st4.trans ?_
    refine XS.iload X4.here hx rfl (hb hby at_160) rfl ?_
    refine XS.ifNo X4.here hx rfl (hb hby at_162) rfl ((if0 _ _).trans (tlt (by decide : (0 : Int32) < (3 : Int32))).2.2.2) ?_
    refine XS.iconst X4.here hx rfl (hb hby at_165) ?_
    refine XS.goto X4.here hx rfl (pc0 := 166) (pc' := 170) rfl (hb hby at_166) (by decide) (by decide) ?_
    refine XS.icmpNo X4.here hx rfl (hb hby at_170) rfl (teq (by decide : (1 : Int32) = (1 : Int32))).2 ?_
    refine XS.iconst X4.here hx rfl (hb hby at_173) ?_
    refine XS.goto X4.here hx rfl (pc0 := 174) (pc' := 178) rfl (hb hby at_174) (by decide) (by decide) ?_
    show Steps p.tables e below (T4.setTop (mkF m 178 #[.val (.int p0), .val (.int p1), .val (.int p2), .val (.int p3), .val (.int (3 : Int32)), .val (.ref b1_0), .val (.int (1 : Int32))] [(.int (1 : Int32))])) _
    refine XS.istore X4.here hx rfl (hb hby at_178) rfl (l' := #[.val (.int p0), .val (.int p1), .val (.int p2), .val (.int p3), .val (.int (3 : Int32)), .val (.ref b1_0), .val (.int (1 : Int32))]) rfl ?_
    refine XS.iload X4.here hx rfl (hb hby at_180) rfl ?_
    show Steps p.tables e below (T4.setTop (mkF m 182 #[.val (.int p0), .val (.int p1), .val (.int p2), .val (.int p3), .val (.int (3 : Int32)), .val (.ref b1_0), .val (.int (1 : Int32))] [(.int (1 : Int32))])) _
    exact retN X4 hx (t := .boolean) Bd.returns (by simp) (hb hby at_182) hr
  · show OL (some (.int (1 : Int32))) Z.heap.size _ T4.heap _
    exact ⟨rfl, N4⟩
set_option maxRecDepth 65536 in
set_option maxHeartbeats 40000000 in
theorem rm_73 (l : Launch) (Z : State) (a0 : Array Value) (hw : ∀ d ∈ tables_1, d.before a0 Z = true) (w : Nat → Addr) (kk : Nat → ClassId) (iw : Nat → Int32) (vw : Nat → Value) (hN : Wd Z w kk iw vw) (ws : List Jvm.Cond) (o1 : Addr) (o2 : Addr) (o3 : Addr) (o4 : Addr) (o5 : Addr) (o6 : Addr) (o7 : Addr) (kc_o3 : ClassId) (kc_o4 : ClassId) (kc_o5 : ClassId) (kc_o6 : ClassId) (o8 : Addr) (kc_o8 : ClassId) (h0 : Heap) (O0 : Old Z Z.heap.size h0) (gn_o1 : Z.heap.size ≤ o1) (lt_o1 : o1 < h0.size) (E_o1 : Exa Z h0 o1 s_0) (gn_o3 : Z.heap.size ≤ o3) (lt_o3 : o3 < h0.size) (F_o1_nextBlock : Fld Z h0 o1 s_0 "nextBlock" "[I" (.ref o3)) (gn_o4 : Z.heap.size ≤ o4) (lt_o4 : o4 < h0.size) (F_o1_previousBlock : Fld Z h0 o1 s_0 s_5 "[I" (.ref o4)) (gn_o5 : Z.heap.size ≤ o5) (lt_o5 : o5 < h0.size) (F_o1_firstPiece : Fld Z h0 o1 s_0 "firstPiece" "[I" (.ref o5)) (gn_o6 : Z.heap.size ≤ o6) (lt_o6 : o6 < h0.size) (F_o1_lastPiece : Fld Z h0 o1 s_0 "lastPiece" "[I" (.ref o6)) (gn_o7 : Z.heap.size ≤ o7) (lt_o7 : o7 < h0.size) (F_o1_closed : Fld Z h0 o1 s_0 "closed" s_3 (.ref o7)) (F_o1_firstBlock : Fld Z h0 o1 s_0 "firstBlock" "I" (.int (0 : Int32))) (F_o1_lastBlock : Fld Z h0 o1 s_0 "lastBlock" "I" (.int (2 : Int32))) (F_o1_blockCount : Fld Z h0 o1 s_0 "blockCount" "I" (.int (3 : Int32))) (V_o3 : Arv Z h0 o3 kc_o3 .int (64 : Int32) [(.int (1 : Int32)), (.int (2 : Int32)), (.int (-1 : Int32))] (.int (0 : Int32))) (V_o4 : Arv Z h0 o4 kc_o4 .int (64 : Int32) [(.int (-1 : Int32)), (.int (0 : Int32)), (.int (1 : Int32))] (.int (0 : Int32))) (V_o5 : Arv Z h0 o5 kc_o5 .int (64 : Int32) [(.int (-1 : Int32)), (.int (-1 : Int32)), (.int (-1 : Int32))] (.int (0 : Int32))) (V_o6 : Arv Z h0 o6 kc_o6 .int (64 : Int32) [(.int (-1 : Int32)), (.int (-1 : Int32)), (.int (-1 : Int32))] (.int (0 : Int32))) (E_o7 : Exa Z h0 o7 s_1) (F_o7_wordsInUse : Fld Z h0 o7 s_1 "wordsInUse" "I" (.int (0 : Int32))) (F_o7_sizeIsSticky : Fld Z h0 o7 s_1 s_6 "Z" (.int (0 : Int32))) (gn_o8 : Z.heap.size ≤ o8) (lt_o8 : o8 < h0.size) (F_o7_words : Fld Z h0 o7 s_1 "words" "[J" (.ref o8)) (V_o8 : Arv Z h0 o8 kc_o8 .long (1 : Int32) [] (.long (0 : Int64))) (ne_o1_o3 : o1 ≠ o3) (ne_o1_o4 : o1 ≠ o4) (ne_o1_o5 : o1 ≠ o5) (ne_o1_o6 : o1 ≠ o6) (ne_o1_o7 : o1 ≠ o7) (ne_o1_o8 : o1 ≠ o8) (ne_o3_o4 : o3 ≠ o4) (ne_o3_o5 : o3 ≠ o5) (ne_o3_o6 : o3 ≠ o6) (ne_o3_o7 : o3 ≠ o7) (ne_o3_o8 : o3 ≠ o8) (ne_o4_o5 : o4 ≠ o5) (ne_o4_o6 : o4 ≠ o6) (ne_o4_o7 : o4 ≠ o7) (ne_o4_o8 : o4 ≠ o8) (ne_o5_o6 : o5 ≠ o6) (ne_o5_o7 : o5 ≠ o7) (ne_o5_o8 : o5 ≠ o8) (ne_o6_o7 : o6 ≠ o7) (ne_o6_o8 : o6 ≠ o8) (ne_o7_o8 : o7 ≠ o8) :
    Met l Z (⟨s_0, "find", s_7⟩ : MethodName) (Jvm.Cond.code (⟨s_0, "find", s_7⟩ : MethodName) prog_20_method_11_code 3 (some .int)) ws (Rm 0 0 0 0) #[(.ref o1), (.int (2 : Int32)), (.ref o2)] h0 (OQ (some (.int (2 : Int32))) h0 Z.heap.size) := by
  have hN' := hN
  have hL0 : Sta Z Z.heap s_1 s_4 "Z" (.int (1 : Int32)) := hN'
  refine own_body (plainFor_of_name pn_1) hisR ?_
  intro p e s m below meth c s₁ hx hby hml hown hnm hret X0 hZ e0
  have N0 := Fr.nil Z.heap.size
  obtain ⟨T1, X1, e1, st1⟩ := getF X0 hx hZ hown (host := "") (Or.inl (W hw 57 rfl)) Via.refl e0 F_o1_blockCount (g := (mkF m 6 #[.val (.ref o1), .val (.int (2 : Int32)), .val (.ref o2)] [(.ref o1), (.int (2 : Int32))])) rfl rfl (hb hby d8_6)
  refine ⟨T1, some (.int (2 : Int32)), _, _, _, by decide, by decide, X1, nofun, (by rw [e1]; exact ⟨rfl, N0, rfl⟩), fun fs hr => castTop (ef_5 m (.ref o1) rfl (.int (2 : Int32)) rfl (.ref o2) rfl) ?_⟩
  show Steps p.tables e below (s₁.setTop (mkF m 0 #[.val (.ref o1), .val (.int (2 : Int32)), .val (.ref o2)] [])) _
  refine XS.iloadN X0.here hx rfl (hb hby d8_0) rfl ?_
  refine XS.ifNo X0.here hx rfl (hb hby d8_1) rfl ((if0 _ _).trans (flt (by decide : ¬ ((2 : Int32) < (0 : Int32)))).1) ?_
  refine XS.iloadN X0.here hx rfl (hb hby d8_4) rfl ?_
  refine XS.aloadN X0.here hx rfl (hb hby d8_5) rfl rfl ?_
  refine st1 _ ?_
  refine XS.icmpYes X1.here hx rfl (pc0 := 9) (pc' := 27) rfl (hb hby d8_9) rfl (tlt (by decide : (2 : Int32) < (3 : Int32))).1 (by decide) (by decide) ?_
  refine XS.iloadN X1.here hx rfl (hb hby d8_27) rfl ?_
  show Steps p.tables e below (T1.setTop (mkF m 28 #[.val (.ref o1), .val (.int (2 : Int32)), .val (.ref o2)] [(.int (2 : Int32))])) _
  exact retI X1 hx hret (hb hby d8_28) hr
def Qd_18 (Z : State) (w : Nat → Addr) (kk : Nat → ClassId) (iw : Nat → Int32) (vw : Nat → Value) (o1 : Addr) (o2 : Addr) (o3 : Addr) (o4 : Addr) (o5 : Addr) (o6 : Addr) (kc_o2 : ClassId) (kc_o3 : ClassId) (kc_o4 : ClassId) (kc_o5 : ClassId) (o7 : Addr) (kc_o7 : ClassId) (h0 : Heap) (n0 : Nat) (v : Option Value) (h : Heap) (L : List Loc) : Prop := v = none ∧ Fr n0 L ∧ Keep h0 h [o5, o4, o3, o2, o1] ∧ Exa Z h o1 s_0 ∧ Fld Z h o1 s_0 "nextBlock" "[I" (.ref o2) ∧ Fld Z h o1 s_0 s_5 "[I" (.ref o3) ∧ Fld Z h o1 s_0 "firstPiece" "[I" (.ref o4) ∧ Fld Z h o1 s_0 "lastPiece" "[I" (.ref o5) ∧ Fld Z h o1 s_0 "closed" s_3 (.ref o6) ∧ Fld Z h o1 s_0 "firstBlock" "I" (.int (0 : Int32)) ∧ Fld Z h o1 s_0 "lastBlock" "I" (.int (2 : Int32)) ∧ Fld Z h o1 s_0 "blockCount" "I" (.int (4 : Int32)) ∧ Arv Z h o2 kc_o2 .int (64 : Int32) [(.int (1 : Int32)), (.int (3 : Int32)), (.int (-1 : Int32)), (.int (2 : Int32))] (.int (0 : Int32)) ∧ Arv Z h o3 kc_o3 .int (64 : Int32) [(.int (-1 : Int32)), (.int (0 : Int32)), (.int (3 : Int32)), (.int (1 : Int32))] (.int (0 : Int32)) ∧ Arv Z h o4 kc_o4 .int (64 : Int32) [(.int (-1 : Int32)), (.int (-1 : Int32)), (.int (-1 : Int32)), (.int (-1 : Int32))] (.int (0 : Int32)) ∧ Arv Z h o5 kc_o5 .int (64 : Int32) [(.int (-1 : Int32)), (.int (-1 : Int32)), (.int (-1 : Int32)), (.int (-1 : Int32))] (.int (0 : Int32))
set_option maxRecDepth 65536 in
set_option maxHeartbeats 40000000 in
theorem rm_74 (l : Launch) (Z : State) (a0 : Array Value) (hw : ∀ d ∈ tables_1, d.before a0 Z = true) (w : Nat → Addr) (kk : Nat → ClassId) (iw : Nat → Int32) (vw : Nat → Value) (hN : Wd Z w kk iw vw) (ws : List Jvm.Cond) (o1 : Addr) (o2 : Addr) (o3 : Addr) (o4 : Addr) (o5 : Addr) (o6 : Addr) (kc_o2 : ClassId) (kc_o3 : ClassId) (kc_o4 : ClassId) (kc_o5 : ClassId) (o7 : Addr) (kc_o7 : ClassId) (h0 : Heap) (O0 : Old Z Z.heap.size h0) (gn_o1 : Z.heap.size ≤ o1) (lt_o1 : o1 < h0.size) (E_o1 : Exa Z h0 o1 s_0) (gn_o2 : Z.heap.size ≤ o2) (lt_o2 : o2 < h0.size) (F_o1_nextBlock : Fld Z h0 o1 s_0 "nextBlock" "[I" (.ref o2)) (gn_o3 : Z.heap.size ≤ o3) (lt_o3 : o3 < h0.size) (F_o1_previousBlock : Fld Z h0 o1 s_0 s_5 "[I" (.ref o3)) (gn_o4 : Z.heap.size ≤ o4) (lt_o4 : o4 < h0.size) (F_o1_firstPiece : Fld Z h0 o1 s_0 "firstPiece" "[I" (.ref o4)) (gn_o5 : Z.heap.size ≤ o5) (lt_o5 : o5 < h0.size) (F_o1_lastPiece : Fld Z h0 o1 s_0 "lastPiece" "[I" (.ref o5)) (gn_o6 : Z.heap.size ≤ o6) (lt_o6 : o6 < h0.size) (F_o1_closed : Fld Z h0 o1 s_0 "closed" s_3 (.ref o6)) (F_o1_firstBlock : Fld Z h0 o1 s_0 "firstBlock" "I" (.int (0 : Int32))) (F_o1_lastBlock : Fld Z h0 o1 s_0 "lastBlock" "I" (.int (2 : Int32))) (F_o1_blockCount : Fld Z h0 o1 s_0 "blockCount" "I" (.int (3 : Int32))) (V_o2 : Arv Z h0 o2 kc_o2 .int (64 : Int32) [(.int (1 : Int32)), (.int (2 : Int32)), (.int (-1 : Int32))] (.int (0 : Int32))) (V_o3 : Arv Z h0 o3 kc_o3 .int (64 : Int32) [(.int (-1 : Int32)), (.int (0 : Int32)), (.int (1 : Int32))] (.int (0 : Int32))) (V_o4 : Arv Z h0 o4 kc_o4 .int (64 : Int32) [(.int (-1 : Int32)), (.int (-1 : Int32)), (.int (-1 : Int32))] (.int (0 : Int32))) (V_o5 : Arv Z h0 o5 kc_o5 .int (64 : Int32) [(.int (-1 : Int32)), (.int (-1 : Int32)), (.int (-1 : Int32))] (.int (0 : Int32))) (E_o6 : Exa Z h0 o6 s_1) (F_o6_wordsInUse : Fld Z h0 o6 s_1 "wordsInUse" "I" (.int (0 : Int32))) (F_o6_sizeIsSticky : Fld Z h0 o6 s_1 s_6 "Z" (.int (0 : Int32))) (gn_o7 : Z.heap.size ≤ o7) (lt_o7 : o7 < h0.size) (F_o6_words : Fld Z h0 o6 s_1 "words" "[J" (.ref o7)) (V_o7 : Arv Z h0 o7 kc_o7 .long (1 : Int32) [] (.long (0 : Int64))) (ne_o1_o2 : o1 ≠ o2) (ne_o1_o3 : o1 ≠ o3) (ne_o1_o4 : o1 ≠ o4) (ne_o1_o5 : o1 ≠ o5) (ne_o1_o6 : o1 ≠ o6) (ne_o1_o7 : o1 ≠ o7) (ne_o2_o3 : o2 ≠ o3) (ne_o2_o4 : o2 ≠ o4) (ne_o2_o5 : o2 ≠ o5) (ne_o2_o6 : o2 ≠ o6) (ne_o2_o7 : o2 ≠ o7) (ne_o3_o4 : o3 ≠ o4) (ne_o3_o5 : o3 ≠ o5) (ne_o3_o6 : o3 ≠ o6) (ne_o3_o7 : o3 ≠ o7) (ne_o4_o5 : o4 ≠ o5) (ne_o4_o6 : o4 ≠ o6) (ne_o4_o7 : o4 ≠ o7) (ne_o5_o6 : o5 ≠ o6) (ne_o5_o7 : o5 ≠ o7) (ne_o6_o7 : o6 ≠ o7) :
    MetW l Z (⟨s_0, "insertBlock", "(I)V"⟩ : MethodName) (Jvm.Cond.code (⟨s_0, "insertBlock", "(I)V"⟩ : MethodName) prog_20_method_4_code 5 none) ws (Rm 1 2 68 14) #[(.ref o1), (.int (2 : Int32))] h0 (Qd_18 Z w kk iw vw o1 o2 o3 o4 o5 o6 kc_o2 kc_o3 kc_o4 kc_o5 o7 kc_o7 h0 Z.heap.size) := by
  have hN' := hN
  have hL0 : Sta Z Z.heap s_1 s_4 "Z" (.int (1 : Int32)) := hN'
  refine own_bodyW (plainFor_of_name pn_1) hisR ?_
  intro p e s m below meth c s₁ hx hby hml hown hnm hret X0 hZ e0
  have N0 := Fr.nil Z.heap.size
  have K0 : Keep h0 h0 [o5, o4, o3, o2, o1] := Keep.refl _ _
  obtain ⟨b1, T1, h1, k1, X1, e1, E1, hS1, hk1, hZ1, hown1, st1⟩ := ldcS (s := s) (vm0 := s.vm) X0 hx hZ hown (W hw 75 rfl) (own_atoms hw) e0 (own_since s 0) (Nat.zero_le _) (g := (mkF m 2 #[.val (.ref o1), .val (.int (2 : Int32)), .unset, .unset, .unset] [(.int (2 : Int32)), (.ref o1)])) rfl (hb hby d13_2) (n := 64) (by decide) (by decide) (by decide) (by decide)
  have E_o1_v1 := E_o1.ext E1
  have F_o1_nextBlock_v1 := F_o1_nextBlock.ext E1
  have F_o1_previousBlock_v1 := F_o1_previousBlock.ext E1
  have F_o1_firstPiece_v1 := F_o1_firstPiece.ext E1
  have F_o1_lastPiece_v1 := F_o1_lastPiece.ext E1
  have F_o1_closed_v1 := F_o1_closed.ext E1
  have F_o1_firstBlock_v1 := F_o1_firstBlock.ext E1
  have F_o1_lastBlock_v1 := F_o1_lastBlock.ext E1
  have F_o1_blockCount_v1 := F_o1_blockCount.ext E1
  have V_o2_v1 := V_o2.ext E1
  have V_o3_v1 := V_o3.ext E1
  have V_o4_v1 := V_o4.ext E1
  have V_o5_v1 := V_o5.ext E1
  have E_o6_v1 := E_o6.ext E1
  have F_o6_wordsInUse_v1 := F_o6_wordsInUse.ext E1
  have F_o6_sizeIsSticky_v1 := F_o6_sizeIsSticky.ext E1
  have F_o6_words_v1 := F_o6_words.ext E1
  have V_o7_v1 := V_o7.ext E1
  have O1 := O0.ext E1
  have K1 := K0.ext E1
  obtain ⟨cq2, q2, q2'⟩ := E_o1_v1.cell
  obtain ⟨_, _, ⟨T2, L2, k2, n2⟩, -, X2, ⟨Lc2, hQ2, l2, y2, z2⟩, st2⟩ := X1.privateBack hx (y := (⟨s_0, "find", s_7⟩ : MethodName)) hown1 (mvT hZ1 (W hw 83 rfl)) (mvT hZ1 (W hw 84 rfl)) (own_selpriv (mvT hZ1 (W hw 1 rfl)) (Cond.privateMethod_at (mvP hZ1 (W hw 85 rfl) (args := #[]))) (mvT hZ1 (W hw 84 rfl)) (by decide)) (Cond.privateMethod_at (mvP hZ1 (W hw 85 rfl) (args := #[]))) (mvT hZ1 (W hw 86 rfl)) (by decide) (backOf (W := 0) (rm_73 l Z a0 hw w kk iw vw hN [] o1 b1 o2 o3 o4 o5 o6 kc_o2 kc_o3 kc_o4 kc_o5 o7 kc_o7 h1 O1 gn_o1 E_o1_v1.lt E_o1_v1 gn_o2 V_o2_v1.lt F_o1_nextBlock_v1 gn_o3 V_o3_v1.lt F_o1_previousBlock_v1 gn_o4 V_o4_v1.lt F_o1_firstPiece_v1 gn_o5 V_o5_v1.lt F_o1_lastPiece_v1 gn_o6 E_o6_v1.lt F_o1_closed_v1 F_o1_firstBlock_v1 F_o1_lastBlock_v1 F_o1_blockCount_v1 V_o2_v1 V_o3_v1 V_o4_v1 V_o5_v1 E_o6_v1 F_o6_wordsInUse_v1 F_o6_sizeIsSticky_v1 gn_o7 V_o7_v1.lt F_o6_words_v1 V_o7_v1 ne_o1_o2 ne_o1_o3 ne_o1_o4 ne_o1_o5 ne_o1_o6 ne_o1_o7 ne_o2_o3 ne_o2_o4 ne_o2_o5 ne_o2_o6 ne_o2_o7 ne_o3_o4 ne_o3_o5 ne_o3_o6 ne_o3_o7 ne_o4_o5 ne_o4_o6 ne_o4_o7 ne_o5_o6 ne_o5_o7 ne_o6_o7) hZ1 (W hw 86 rfl) (W hw 2 rfl) (by decide) (by decide)) (g := (mkF m 4 #[.val (.ref o1), .val (.int (2 : Int32)), .unset, .unset, .unset] [(.ref b1), (.int (2 : Int32)), (.ref o1)])) rfl (by rw [hml]; rfl) (Steps.refl _) (a := o1) (by rw [e1]; exact q2) q2' (argsL := [(.int (2 : Int32)), (.ref b1)]) (rest := []) (lenOf pd_5 rfl) rfl (by show 2 * 0 + _ ≤ _; exact Nat.le_of_eq rfl) (hb hby d13_4) (fun _ _ => ⟨rfl, e1, (by decide : 2 + 0 ≤ _), (by decide : 68 + 0 ≤ _)⟩)
  dsimp only [Pt.U, Pt.locs, Pt.cells, Pt.slots] at X2 l2 y2 z2 st2 hQ2
  subst l2 y2 z2
  obtain ⟨rfl, N2q, e2⟩ := hQ2
  have N2 := Fr.app N0 N2q
  obtain ⟨cq3, q3, q3'⟩ := E_o1_v1.cell
  obtain ⟨_, _, ⟨T3, L3, k3, n3⟩, -, X3, ⟨Lc3, hQ3, l3, y3, z3⟩, st3⟩ := X2.privateBack hx (y := (⟨s_0, "newBlock", "()I"⟩ : MethodName)) hown1 (mvT hZ1 (W hw 64 rfl)) (mvT hZ1 (W hw 65 rfl)) (own_selpriv (mvT hZ1 (W hw 1 rfl)) (Cond.privateMethod_at (mvP hZ1 (W hw 66 rfl) (args := #[]))) (mvT hZ1 (W hw 65 rfl)) (by decide)) (Cond.privateMethod_at (mvP hZ1 (W hw 66 rfl) (args := #[]))) (mvT hZ1 (W hw 67 rfl)) (by decide) (backOf (W := 0) (rm_61 l Z a0 hw w kk iw vw hN [] o1 o2 o3 o4 o5 o6 kc_o2 kc_o3 kc_o4 kc_o5 o7 kc_o7 h1 O1 gn_o1 E_o1_v1.lt E_o1_v1 gn_o2 V_o2_v1.lt F_o1_nextBlock_v1 gn_o3 V_o3_v1.lt F_o1_previousBlock_v1 gn_o4 V_o4_v1.lt F_o1_firstPiece_v1 gn_o5 V_o5_v1.lt F_o1_lastPiece_v1 gn_o6 E_o6_v1.lt F_o1_closed_v1 F_o1_firstBlock_v1 F_o1_lastBlock_v1 F_o1_blockCount_v1 V_o2_v1 V_o3_v1 V_o4_v1 V_o5_v1 E_o6_v1 F_o6_wordsInUse_v1 F_o6_sizeIsSticky_v1 gn_o7 V_o7_v1.lt F_o6_words_v1 V_o7_v1 ne_o1_o2 ne_o1_o3 ne_o1_o4 ne_o1_o5 ne_o1_o6 ne_o1_o7 ne_o2_o3 ne_o2_o4 ne_o2_o5 ne_o2_o6 ne_o2_o7 ne_o3_o4 ne_o3_o5 ne_o3_o6 ne_o3_o7 ne_o4_o5 ne_o4_o6 ne_o4_o7 ne_o5_o6 ne_o5_o7 ne_o6_o7) hZ1 (W hw 67 rfl) (W hw 2 rfl) (by decide) (by decide)) (g := (mkF m 9 #[.val (.ref o1), .val (.int (2 : Int32)), .val (.int (2 : Int32)), .unset, .unset] [(.ref o1)])) rfl (by rw [hml]; rfl) (Steps.refl _) (a := o1) (by rw [e2]; exact q3) q3' (argsL := []) (rest := []) (lenOf pd_4 rfl) rfl (by show 2 * 0 + _ ≤ _; exact Nat.le_of_eq rfl) (hb hby d13_9) (fun _ _ => ⟨rfl, e2, (by decide : 2 + 0 ≤ _), (by decide : 68 + 0 ≤ _)⟩)
  dsimp only [Pt.U, Pt.locs, Pt.cells, Pt.slots] at X3 l3 y3 z3 st3 hQ3
  subst l3 y3 z3
  obtain ⟨rfl, N3q, Kq3, tk3_0, tk3_1, tk3_2, tk3_3, tk3_4, tk3_5, tk3_6, tk3_7, tk3_8, tk3_9, tk3_10, tk3_11, tk3_12⟩ := hQ3
  have N3 := Fr.app N2 N3q
  have E_o1_v3 := E_o1_v1.keep Kq3
  have E_o6_v3 := E_o6_v1.keep Kq3
  have F_o6_wordsInUse_v3 := F_o6_wordsInUse_v1.keep Kq3 (ninS (Ne.symm ne_o1_o6) (ninS (Ne.symm ne_o2_o6) (ninS (Ne.symm ne_o3_o6) (ninS (Ne.symm ne_o4_o6) (ninS (Ne.symm ne_o5_o6) nin0)))))
  have F_o6_sizeIsSticky_v3 := F_o6_sizeIsSticky_v1.keep Kq3 (ninS (Ne.symm ne_o1_o6) (ninS (Ne.symm ne_o2_o6) (ninS (Ne.symm ne_o3_o6) (ninS (Ne.symm ne_o4_o6) (ninS (Ne.symm ne_o5_o6) nin0)))))
  have F_o6_words_v3 := F_o6_words_v1.keep Kq3 (ninS (Ne.symm ne_o1_o6) (ninS (Ne.symm ne_o2_o6) (ninS (Ne.symm ne_o3_o6) (ninS (Ne.symm ne_o4_o6) (ninS (Ne.symm ne_o5_o6) nin0)))))
  have V_o7_v3 := V_o7_v1.keep Kq3 (ninS (Ne.symm ne_o1_o7) (ninS (Ne.symm ne_o2_o7) (ninS (Ne.symm ne_o3_o7) (ninS (Ne.symm ne_o4_o7) (ninS (Ne.symm ne_o5_o7) nin0)))))
  have hk3 := Nat.le_trans hk1 Kq3.1
  have O3 := O1.keep Kq3 (allS gn_o1 (allS gn_o2 (allS gn_o3 (allS gn_o4 (allS gn_o5 all0)))))
  have K3 : Keep h0 T3.heap [o5, o4, o3, o2, o1] := K1.trans Kq3 (allS (Or.inl (List.mem_of_getElem? (i := 4) rfl)) (allS (Or.inl (List.mem_of_getElem? (i := 3) rfl)) (allS (Or.inl (List.mem_of_getElem? (i := 2) rfl)) (allS (Or.inl (List.mem_of_getElem? (i := 1) rfl)) (allS (Or.inl (List.mem_of_getElem? (i := 0) rfl)) all0)))))
  obtain ⟨T4, X4, e4, st4⟩ := getF X3 hx hZ1 hown1 (host := "") (Or.inl (W hw 12 rfl)) Via.refl rfl tk3_2 (g := (mkF m 14 #[.val (.ref o1), .val (.int (2 : Int32)), .val (.int (2 : Int32)), .val (.int (3 : Int32)), .unset] [(.ref o1)])) rfl rfl (hb hby d13_14)
  obtain ⟨cl5, Ar5, q5, Sz5, Ng5, Hv5, Gv5⟩ := id tk3_10
  have hin5 : ¬ ((2 : Int32) < 0 ∨ cl5.slots.size ≤ ((2 : Int32)).toNatClampNeg) := inb_of Sz5 ⟨by decide, by decide⟩
  have hat5 : cl5.slots[((2 : Int32)).toNatClampNeg]? = some (.int (1 : Int32)) := Has.at Hv5 hin5 (by rfl)
  obtain ⟨T6, X6, e6, st6⟩ := getF X4 hx hZ1 hown1 (host := "") (Or.inl (W hw 10 rfl)) Via.refl e4 tk3_1 (g := (mkF m 22 #[.val (.ref o1), .val (.int (2 : Int32)), .val (.int (2 : Int32)), .val (.int (3 : Int32)), .val (.int (1 : Int32))] [(.ref o1)])) rfl rfl (hb hby d13_22)
  obtain ⟨cl7, Ar7, q7, Sz7, Ng7, Hv7, Gv7⟩ := tk3_9
  have hin7 : ¬ ((3 : Int32) < 0 ∨ cl7.slots.size ≤ ((3 : Int32)).toNatClampNeg) := inb_of Sz7 ⟨by decide, by decide⟩
  obtain ⟨T8, h8, X8, e8, W8, st8⟩ := stI X6 hx hZ1 e6 Ar7 (j := (3 : Int32)) hin7 (g := (mkF m 27 #[.val (.ref o1), .val (.int (2 : Int32)), .val (.int (2 : Int32)), .val (.int (3 : Int32)), .val (.int (1 : Int32))] [(.int (2 : Int32)), (.int (3 : Int32)), (.ref o2)])) rfl rfl (hb hby d13_27)
  have V_o2_v8 : Arv Z h8 o2 kc_o2 .int (64 : Int32) [(.int (1 : Int32)), (.int (2 : Int32)), (.int (-1 : Int32)), (.int (2 : Int32))] (.int (0 : Int32)) := Arv.set Ar7 q7 Sz7 Ng7 Hv7 Gv7 rfl W8 3 rfl (Nat.le_of_ble_eq_true rfl)
  have N8 := Fr.snoc X8 N3 gn_o2
  have tk3_0_v8 := tk3_0.wr W8
  have E_o6_v8 := E_o6_v3.wr W8
  have F_o6_wordsInUse_v8 := F_o6_wordsInUse_v3.other W8 (Or.inl (Ne.symm ne_o2_o6))
  have F_o6_sizeIsSticky_v8 := F_o6_sizeIsSticky_v3.other W8 (Or.inl (Ne.symm ne_o2_o6))
  have F_o6_words_v8 := F_o6_words_v3.other W8 (Or.inl (Ne.symm ne_o2_o6))
  have V_o7_v8 := V_o7_v3.other W8 (Ne.symm ne_o2_o7)
  have tk3_1_v8 := tk3_1.other W8 (Or.inl ne_o1_o2)
  have tk3_2_v8 := tk3_2.other W8 (Or.inl ne_o1_o2)
  have tk3_3_v8 := tk3_3.other W8 (Or.inl ne_o1_o2)
  have tk3_4_v8 := tk3_4.other W8 (Or.inl ne_o1_o2)
  have tk3_5_v8 := tk3_5.other W8 (Or.inl ne_o1_o2)
  have tk3_6_v8 := tk3_6.other W8 (Or.inl ne_o1_o2)
  have tk3_7_v8 := tk3_7.other W8 (Or.inl ne_o1_o2)
  have tk3_8_v8 := tk3_8.other W8 (Or.inl ne_o1_o2)
  have tk3_10_v8 := tk3_10.other W8 (Ne.symm ne_o2_o3)
  have tk3_11_v8 := tk3_11.other W8 (Ne.symm ne_o2_o4)
  have tk3_12_v8 := tk3_12.other W8 (Ne.symm ne_o2_o5)
  have O8 := O3.wr W8 gn_o2
  have K8 : Keep h0 h8 [o5, o4, o3, o2, o1] := K3.wr W8 (Or.inl (List.mem_of_getElem? (i := 3) rfl))
  have hk8 := Nat.le_trans hk3 (Keep.of_wr W8).1
  obtain ⟨T9, X9, e9, st9⟩ := getF X8 hx hZ1 hown1 (host := "") (Or.inl (W hw 12 rfl)) Via.refl e8 tk3_2_v8 (g := (mkF m 29 #[.val (.ref o1), .val (.int (2 : Int32)), .val (.int (2 : Int32)), .val (.int (3 : Int32)), .val (.int (1 : Int32))] [(.ref o1)])) rfl rfl (hb hby d13_29)
  obtain ⟨cl10, Ar10, q10, Sz10, Ng10, Hv10, Gv10⟩ := tk3_10_v8
  have hin10 : ¬ ((3 : Int32) < 0 ∨ cl10.slots.size ≤ ((3 : Int32)).toNatClampNeg) := inb_of Sz10 ⟨by decide, by decide⟩
  obtain ⟨T11, h11, X11, e11, W11, st11⟩ := stI X9 hx hZ1 e9 Ar10 (j := (3 : Int32)) hin10 (g := (mkF m 35 #[.val (.ref o1), .val (.int (2 : Int32)), .val (.int (2 : Int32)), .val (.int (3 : Int32)), .val (.int (1 : Int32))] [(.int (1 : Int32)), (.int (3 : Int32)), (.ref o3)])) rfl rfl (hb hby d13_35)
  have V_o3_v11 : Arv Z h11 o3 kc_o3 .int (64 : Int32) [(.int (-1 : Int32)), (.int (0 : Int32)), (.int (1 : Int32)), (.int (1 : Int32))] (.int (0 : Int32)) := Arv.set Ar10 q10 Sz10 Ng10 Hv10 Gv10 rfl W11 3 rfl (Nat.le_of_ble_eq_true rfl)
  have N11 := Fr.snoc X11 N8 gn_o3
  have tk3_0_v11 := tk3_0_v8.wr W11
  have E_o6_v11 := E_o6_v8.wr W11
  have F_o6_wordsInUse_v11 := F_o6_wordsInUse_v8.other W11 (Or.inl (Ne.symm ne_o3_o6))
  have F_o6_sizeIsSticky_v11 := F_o6_sizeIsSticky_v8.other W11 (Or.inl (Ne.symm ne_o3_o6))
  have F_o6_words_v11 := F_o6_words_v8.other W11 (Or.inl (Ne.symm ne_o3_o6))
  have V_o7_v11 := V_o7_v8.other W11 (Ne.symm ne_o3_o7)
  have tk3_1_v11 := tk3_1_v8.other W11 (Or.inl ne_o1_o3)
  have tk3_2_v11 := tk3_2_v8.other W11 (Or.inl ne_o1_o3)
  have tk3_3_v11 := tk3_3_v8.other W11 (Or.inl ne_o1_o3)
  have tk3_4_v11 := tk3_4_v8.other W11 (Or.inl ne_o1_o3)
  have tk3_5_v11 := tk3_5_v8.other W11 (Or.inl ne_o1_o3)
  have tk3_6_v11 := tk3_6_v8.other W11 (Or.inl ne_o1_o3)
  have tk3_7_v11 := tk3_7_v8.other W11 (Or.inl ne_o1_o3)
  have tk3_8_v11 := tk3_8_v8.other W11 (Or.inl ne_o1_o3)
  have V_o2_v11 := V_o2_v8.other W11 ne_o2_o3
  have tk3_11_v11 := tk3_11_v8.other W11 (Ne.symm ne_o3_o4)
  have tk3_12_v11 := tk3_12_v8.other W11 (Ne.symm ne_o3_o5)
  have O11 := O8.wr W11 gn_o3
  have K11 : Keep h0 h11 [o5, o4, o3, o2, o1] := K8.wr W11 (Or.inl (List.mem_of_getElem? (i := 2) rfl))
  have hk11 := Nat.le_trans hk8 (Keep.of_wr W11).1
  obtain ⟨T12, X12, e12, st12⟩ := getF X11 hx hZ1 hown1 (host := "") (Or.inl (W hw 10 rfl)) Via.refl e11 tk3_1_v11 (g := (mkF m 51 #[.val (.ref o1), .val (.int (2 : Int32)), .val (.int (2 : Int32)), .val (.int (3 : Int32)), .val (.int (1 : Int32))] [(.ref o1)])) rfl rfl (hb hby d13_51)
  obtain ⟨cl13, Ar13, q13, Sz13, Ng13, Hv13, Gv13⟩ := V_o2_v11
  have hin13 : ¬ ((1 : Int32) < 0 ∨ cl13.slots.size ≤ ((1 : Int32)).toNatClampNeg) := inb_of Sz13 ⟨by decide, by decide⟩
  obtain ⟨T14, h14, X14, e14, W14, st14⟩ := stI X12 hx hZ1 e12 Ar13 (j := (1 : Int32)) hin13 (g := (mkF m 57 #[.val (.ref o1), .val (.int (2 : Int32)), .val (.int (2 : Int32)), .val (.int (3 : Int32)), .val (.int (1 : Int32))] [(.int (3 : Int32)), (.int (1 : Int32)), (.ref o2)])) rfl rfl (hb hby d13_57)
  have V_o2_v14 : Arv Z h14 o2 kc_o2 .int (64 : Int32) [(.int (1 : Int32)), (.int (3 : Int32)), (.int (-1 : Int32)), (.int (2 : Int32))] (.int (0 : Int32)) := Arv.set Ar13 q13 Sz13 Ng13 Hv13 Gv13 rfl W14 1 rfl (Nat.le_of_ble_eq_true rfl)
  have N14 := Fr.snoc X14 N11 gn_o2
  have tk3_0_v14 := tk3_0_v11.wr W14
  have E_o6_v14 := E_o6_v11.wr W14
  have F_o6_wordsInUse_v14 := F_o6_wordsInUse_v11.other W14 (Or.inl (Ne.symm ne_o2_o6))
  have F_o6_sizeIsSticky_v14 := F_o6_sizeIsSticky_v11.other W14 (Or.inl (Ne.symm ne_o2_o6))
  have F_o6_words_v14 := F_o6_words_v11.other W14 (Or.inl (Ne.symm ne_o2_o6))
  have V_o7_v14 := V_o7_v11.other W14 (Ne.symm ne_o2_o7)
  have tk3_1_v14 := tk3_1_v11.other W14 (Or.inl ne_o1_o2)
  have tk3_2_v14 := tk3_2_v11.other W14 (Or.inl ne_o1_o2)
  have tk3_3_v14 := tk3_3_v11.other W14 (Or.inl ne_o1_o2)
  have tk3_4_v14 := tk3_4_v11.other W14 (Or.inl ne_o1_o2)
  have tk3_5_v14 := tk3_5_v11.other W14 (Or.inl ne_o1_o2)
  have tk3_6_v14 := tk3_6_v11.other W14 (Or.inl ne_o1_o2)
  have tk3_7_v14 := tk3_7_v11.other W14 (Or.inl ne_o1_o2)
  have tk3_8_v14 := tk3_8_v11.other W14 (Or.inl ne_o1_o2)
  have V_o3_v14 := V_o3_v11.other W14 (Ne.symm ne_o2_o3)
  have tk3_11_v14 := tk3_11_v11.other W14 (Ne.symm ne_o2_o4)
  have tk3_12_v14 := tk3_12_v11.other W14 (Ne.symm ne_o2_o5)
  have O14 := O11.wr W14 gn_o2
  have K14 : Keep h0 h14 [o5, o4, o3, o2, o1] := K11.wr W14 (Or.inl (List.mem_of_getElem? (i := 3) rfl))
  have hk14 := Nat.le_trans hk11 (Keep.of_wr W14).1
  obtain ⟨T15, X15, e15, st15⟩ := getF X14 hx hZ1 hown1 (host := "") (Or.inl (W hw 12 rfl)) Via.refl e14 tk3_2_v14 (g := (mkF m 59 #[.val (.ref o1), .val (.int (2 : Int32)), .val (.int (2 : Int32)), .val (.int (3 : Int32)), .val (.int (1 : Int32))] [(.ref o1)])) rfl rfl (hb hby d13_59)
  obtain ⟨cl16, Ar16, q16, Sz16, Ng16, Hv16, Gv16⟩ := V_o3_v14
  have hin16 : ¬ ((2 : Int32) < 0 ∨ cl16.slots.size ≤ ((2 : Int32)).toNatClampNeg) := inb_of Sz16 ⟨by decide, by decide⟩
  obtain ⟨T17, h17, X17, e17, W17, st17⟩ := stI X15 hx hZ1 e15 Ar16 (j := (2 : Int32)) hin16 (g := (mkF m 64 #[.val (.ref o1), .val (.int (2 : Int32)), .val (.int (2 : Int32)), .val (.int (3 : Int32)), .val (.int (1 : Int32))] [(.int (3 : Int32)), (.int (2 : Int32)), (.ref o3)])) rfl rfl (hb hby d13_64)
  have V_o3_v17 : Arv Z h17 o3 kc_o3 .int (64 : Int32) [(.int (-1 : Int32)), (.int (0 : Int32)), (.int (3 : Int32)), (.int (1 : Int32))] (.int (0 : Int32)) := Arv.set Ar16 q16 Sz16 Ng16 Hv16 Gv16 rfl W17 2 rfl (Nat.le_of_ble_eq_true rfl)
  have N17 := Fr.snoc X17 N14 gn_o3
  have tk3_0_v17 := tk3_0_v14.wr W17
  have E_o6_v17 := E_o6_v14.wr W17
  have F_o6_wordsInUse_v17 := F_o6_wordsInUse_v14.other W17 (Or.inl (Ne.symm ne_o3_o6))
  have F_o6_sizeIsSticky_v17 := F_o6_sizeIsSticky_v14.other W17 (Or.inl (Ne.symm ne_o3_o6))
  have F_o6_words_v17 := F_o6_words_v14.other W17 (Or.inl (Ne.symm ne_o3_o6))
  have V_o7_v17 := V_o7_v14.other W17 (Ne.symm ne_o3_o7)
  have tk3_1_v17 := tk3_1_v14.other W17 (Or.inl ne_o1_o3)
  have tk3_2_v17 := tk3_2_v14.other W17 (Or.inl ne_o1_o3)
  have tk3_3_v17 := tk3_3_v14.other W17 (Or.inl ne_o1_o3)
  have tk3_4_v17 := tk3_4_v14.other W17 (Or.inl ne_o1_o3)
  have tk3_5_v17 := tk3_5_v14.other W17 (Or.inl ne_o1_o3)
  have tk3_6_v17 := tk3_6_v14.other W17 (Or.inl ne_o1_o3)
  have tk3_7_v17 := tk3_7_v14.other W17 (Or.inl ne_o1_o3)
  have tk3_8_v17 := tk3_8_v14.other W17 (Or.inl ne_o1_o3)
  have V_o2_v17 := V_o2_v14.other W17 ne_o2_o3
  have tk3_11_v17 := tk3_11_v14.other W17 (Ne.symm ne_o3_o4)
  have tk3_12_v17 := tk3_12_v14.other W17 (Ne.symm ne_o3_o5)
  have O17 := O14.wr W17 gn_o3
  have K17 : Keep h0 h17 [o5, o4, o3, o2, o1] := K14.wr W17 (Or.inl (List.mem_of_getElem? (i := 2) rfl))
  have hk17 := Nat.le_trans hk14 (Keep.of_wr W17).1
  refine ⟨T17, _, none, _, _, _, _, by decide, by decide, X17, hS1, (by rw [e17]; exact hk17), (fun _ => rfl), (by rw [e17]; exact ⟨rfl, N17, K17, tk3_0_v17, tk3_1_v17, tk3_2_v17, tk3_3_v17, tk3_4_v17, tk3_5_v17, tk3_6_v17, tk3_7_v17, tk3_8_v17, V_o2_v17, V_o3_v17, tk3_11_v17, tk3_12_v17⟩), fun fs hr => castTop (ef_7 m (.ref o1) rfl (.int (2 : Int32)) rfl) ?_⟩
  show Steps p.tables e below (s₁.setTop (mkF m 0 #[.val (.ref o1), .val (.int (2 : Int32)), .unset, .unset, .unset] [])) _
  refine XS.aloadN X0.here hx rfl (hb hby d13_0) rfl rfl ?_
  refine XS.iloadN X0.here hx rfl (hb hby d13_1) rfl ?_
  refine st1 _ ?_
  refine st2.trans ?_
  refine XS.istoreN X2.here hx rfl (hb hby d13_7) rfl (l' := #[.val (.ref o1), .val (.int (2 : Int32)), .val (.int (2 : Int32)), .unset, .unset]) rfl ?_
  refine XS.aloadN X2.here hx rfl (hb hby d13_8) rfl rfl ?_
  refine st3.trans ?_
  refine XS.istoreN X3.here hx rfl (hb hby d13_12) rfl (l' := #[.val (.ref o1), .val (.int (2 : Int32)), .val (.int (2 : Int32)), .val (.int (3 : Int32)), .unset]) rfl ?_
  show Steps p.tables e below (T3.setTop (mkF m 13 #[.val (.ref o1), .val (.int (2 : Int32)), .val (.int (2 : Int32)), .val (.int (3 : Int32)), .unset] [])) _
  refine XS.aloadN X3.here hx rfl (hb hby d13_13) rfl rfl ?_
  refine st4 _ ?_
  refine XS.iloadN X4.here hx rfl (hb hby d13_17) rfl ?_
  refine X4.iaload hx (j := (2 : Int32)) (v := (.int (1 : Int32))) (by rw [e4]; exact Ar5.1) (State.isArrayOf_alike hZ1.alike Ar5.2.1) Ar5.2.2 hin5 hat5 (g := (mkF m 18 #[.val (.ref o1), .val (.int (2 : Int32)), .val (.int (2 : Int32)), .val (.int (3 : Int32)), .unset] [(.int (2 : Int32)), (.ref o3)])) rfl rfl (hb hby d13_18) _ ?_
  refine XS.istore X4.here hx rfl (hb hby d13_19) rfl (l' := #[.val (.ref o1), .val (.int (2 : Int32)), .val (.int (2 : Int32)), .val (.int (3 : Int32)), .val (.int (1 : Int32))]) rfl ?_
  refine XS.aloadN X4.here hx rfl (hb hby d13_21) rfl rfl ?_
  refine st6 _ ?_
  refine XS.iloadN X6.here hx rfl (hb hby d13_25) rfl ?_
  show Steps p.tables e below (T6.setTop (mkF m 26 #[.val (.ref o1), .val (.int (2 : Int32)), .val (.int (2 : Int32)), .val (.int (3 : Int32)), .val (.int (1 : Int32))] [(.int (3 : Int32)), (.ref o2)])) _
  refine XS.iloadN X6.here hx rfl (hb hby d13_26) rfl ?_
  refine st8 _ ?_
  refine XS.aloadN X8.here hx rfl (hb hby d13_28) rfl rfl ?_
  refine st9 _ ?_
  refine XS.iloadN X9.here hx rfl (hb hby d13_32) rfl ?_
  refine XS.iload X9.here hx rfl (hb hby d13_33) rfl ?_
  refine st11 _ ?_
  refine XS.iload X11.here hx rfl (hb hby d13_36) rfl ?_
  show Steps p.tables e below (T11.setTop (mkF m 38 #[.val (.ref o1), .val (.int (2 : Int32)), .val (.int (2 : Int32)), .val (.int (3 : Int32)), .val (.int (1 : Int32))] [(.int (1 : Int32))])) _
  refine XS.iconst X11.here hx rfl (hb hby d13_38) ?_
  refine XS.icmpYes X11.here hx rfl (pc0 := 39) (pc' := 50) rfl (hb hby d13_39) rfl (feq (by decide : ¬ ((1 : Int32) = (-1 : Int32)))).2 (by decide) (by decide) ?_
  refine XS.aloadN X11.here hx rfl (hb hby d13_50) rfl rfl ?_
  refine st12 _ ?_
  refine XS.iload X12.here hx rfl (hb hby d13_54) rfl ?_
  refine XS.iloadN X12.here hx rfl (hb hby d13_56) rfl ?_
  refine st14 _ ?_
  refine XS.aloadN X14.here hx rfl (hb hby d13_58) rfl rfl ?_
  show Steps p.tables e below (T14.setTop (mkF m 59 #[.val (.ref o1), .val (.int (2 : Int32)), .val (.int (2 : Int32)), .val (.int (3 : Int32)), .val (.int (1 : Int32))] [(.ref o1)])) _
  refine st15 _ ?_
  refine XS.iloadN X15.here hx rfl (hb hby d13_62) rfl ?_
  refine XS.iloadN X15.here hx rfl (hb hby d13_63) rfl ?_
  refine st17 _ ?_
  show Steps p.tables e below (T17.setTop (mkF m 65 #[.val (.ref o1), .val (.int (2 : Int32)), .val (.int (2 : Int32)), .val (.int (3 : Int32)), .val (.int (1 : Int32))] [])) _
  exact X17.returnOut hx hret (hb hby d13_65) hr
set_option maxRecDepth 65536 in
set_option maxHeartbeats 40000000 in
theorem law_75 (l : Launch) (Z : State) (a0 : Array Value) (hw : ∀ d ∈ tables_1, d.before a0 Z = true) (w : Nat → Addr) (kk : Nat → ClassId) (iw : Nat → Int32) (vw : Nat → Value) (hN : Wd Z w kk iw vw) (ws : List Jvm.Cond) (p0 : Int32) (p1 : Int32) (p2 : Int32) (p3 : Int32) (h0 : Heap) (O0 : Old Z Z.heap.size h0) (hp0 : (p0 &&& (3 : Int32)) = (3 : Int32)) (hp1 : (p1 &&& (1 : Int32)) = (1 : Int32)) (hp2 : ((p2 &&& (2147483647 : Int32)) % (3 : Int32)) = (2 : Int32)) (hp3 : (p3 &&& (1 : Int32)) = (0 : Int32)) :
    MetFree l x (head1 (Jvm.Cond.code x code maxLocals ret :: ws) room_1) (fun a U => a = #[(.int p0), (.int p1), (.int p2), (.int p3)] ∧ Z.Warmed39 U.vm ∧ U.heap = h0) (fun _ _ _ _ _ => True) (fun _ U o U' => ∃ v L, o = .returned v ∧ OL (some (.int (1 : Int32))) Z.heap.size v U'.heap L ∧ ReturnedEndW U o U' L 32 3072) := by
  have hN' := hN
  have hL0 : Sta Z Z.heap s_1 s_4 "Z" (.int (1 : Int32)) := hN'
  refine MetFree.of_bodySF (plainFor_of_name pn_2) hisR ?_
  intro p e s m args below meth c s₁ Bd hml0 hP hK
  obtain ⟨rfl, hZ, hh⟩ := hP
  have hx := Bd.exec
  have hby := Bd.bytes
  have hml : c.maxLocals = 7 := hml0
  have hown : s.vm.findClass s_2 = some m.cls := findClass_of_methodNamed Bd.named
  have hnm := (name_of_methodNamed Bd.named Bd.method).1
  have X0 : Stand p l e room_1 s m #[(.int p0), (.int p1), (.int p2), (.int p3)] below meth c s₁ [] 0 0 := Stand.of_body Bd
  have e0 : s₁.heap = h0 := by rw [← hh, Bd.state]; rfl
  have N0 := Fr.nil Z.heap.size
  obtain ⟨T1, L1, b1_0, b1_1, b1_2, b1_3, b1_4, b1_5, b1_6, kb1_0, kb1_1, kb1_2, kb1_3, kb1_4, X1, st1, N1, Kq1, tk1_0, tk1_1, tk1_2, tk1_3, tk1_4, tk1_5, tk1_6, tk1_7, tk1_8, tk1_9, tk1_10, tk1_11, tk1_12, tk1_13, tk1_14, tk1_15, tk1_16, tk1_17, tk1_18, tk1_19, tk1_20, tk1_21, tk1_22, tk1_23, tk1_24, tk1_25, tk1_26, tk1_27, tk1_28, tk1_29, tk1_30, tk1_31, tk1_32, tk1_33, tk1_34, tk1_35, tk1_36, tk1_37, tk1_38, tk1_39, tk1_40, tk1_41, tk1_42, tk1_43, tk1_44, tk1_45⟩ := sg_53 w kk iw vw hN p0 p1 p2 p3 X0 hx hZ hw hby hml hown e0 O0 N0
  have gn_b1_0 : Z.heap.size ≤ b1_0 := Nat.le_trans O0.2.1 tk1_0
  have gn_b1_1 : Z.heap.size ≤ b1_1 := Nat.le_trans O0.2.1 tk1_1
  have gn_b1_2 : Z.heap.size ≤ b1_2 := Nat.le_trans O0.2.1 tk1_2
  have gn_b1_3 : Z.heap.size ≤ b1_3 := Nat.le_trans O0.2.1 tk1_3
  have gn_b1_4 : Z.heap.size ≤ b1_4 := Nat.le_trans O0.2.1 tk1_4
  have gn_b1_5 : Z.heap.size ≤ b1_5 := Nat.le_trans O0.2.1 tk1_5
  have gn_b1_6 : Z.heap.size ≤ b1_6 := Nat.le_trans O0.2.1 tk1_6
  have O1 := O0.keep Kq1 all0
  obtain ⟨cq2, kq2, q2a, q2b, q2c⟩ := isOf hZ rfl tk1_28
  obtain ⟨_, _, ⟨T2, L2, k2, n2⟩, -, X2, hSq2, hgr2, ⟨Lc2, hQ2, l2, y2, z2⟩, st2⟩ := X1.virtualBackS hx (y := (⟨s_0, "insertBlock", "(I)V"⟩ : MethodName)) (z := (⟨s_0, "insertBlock", "(I)V"⟩ : MethodName)) hown (mvT hZ (W hw 70 rfl)) (mvT hZ (W hw 71 rfl)) (notFace_of_selects (args := #[]) (mvT hZ (W hw 73 rfl))) (mvT hZ (W hw 73 rfl)) (mvT hZ (W hw 72 rfl)) (by decide) (backOfS (W := 0) (rm_74 l Z a0 hw w kk iw vw hN [] b1_0 b1_1 b1_2 b1_3 b1_4 b1_5 kb1_0 kb1_1 kb1_2 kb1_3 b1_6 kb1_4 T1.heap O1 gn_b1_0 tk1_28.lt tk1_28 gn_b1_1 tk1_37.lt tk1_29 gn_b1_2 tk1_38.lt tk1_30 gn_b1_3 tk1_39.lt tk1_31 gn_b1_4 tk1_40.lt tk1_32 gn_b1_5 tk1_41.lt tk1_33 tk1_34 tk1_35 tk1_36 tk1_37 tk1_38 tk1_39 tk1_40 tk1_41 tk1_42 tk1_43 gn_b1_6 tk1_45.lt tk1_44 tk1_45 tk1_7 tk1_8 tk1_9 tk1_10 tk1_11 tk1_12 tk1_13 tk1_14 tk1_15 tk1_16 tk1_17 tk1_18 tk1_19 tk1_20 tk1_21 tk1_22 tk1_23 tk1_24 tk1_25 tk1_26 tk1_27) hZ (W hw 74 rfl) (W hw 2 rfl) (by decide) (by decide)) q2a q2c (g := (mkF m 122 #[.val (.int p0), .val (.int p1), .val (.int p2), .val (.int p3), .val (.int (3 : Int32)), .val (.ref b1_0), .val (.int (1 : Int32))] [(.int (2 : Int32)), (.ref b1_0)])) rfl (by rw [hml]; rfl) (Steps.refl _) (argsL := [(.int (2 : Int32))]) (rest := []) (lenOf pd_1 rfl) rfl (by show 2 * 0 + _ ≤ _; exact Nat.le_of_eq rfl) (hb hby at_122) (fun _ _ => ⟨rfl, rfl, (by decide : 10 + 2 ≤ _), (by decide : 467 + 68 ≤ _)⟩)
  dsimp only [Pt.U, Pt.locs, Pt.cells, Pt.slots] at X2 l2 y2 z2 st2 hQ2 hSq2 hgr2
  subst l2 y2 z2
  have hS2 : s.Since T2.vm T2.heap.size := hSq2
  have hk2 : T2.heap.size ≤ T2.heap.size := Nat.le_refl _
  have hZ2 : Z.Warmed39 (s.setVm T2.vm).vm := State.Warmed39.trans (t := (s.setVm s.vm)) hZ hSq2.1
  have hown2 : (s.setVm T2.vm).vm.findClass s_2 = some m.cls := by rw [show (s.setVm T2.vm).vm = T2.vm from rfl, hSq2.1.alike.findClass]; exact hown
  have X2' : Stand p l e _ (s.setVm T2.vm) m _ below meth c T2 _ _ _ := X2
  obtain ⟨rfl, N2q, Kq2, tk2_0, tk2_1, tk2_2, tk2_3, tk2_4, tk2_5, tk2_6, tk2_7, tk2_8, tk2_9, tk2_10, tk2_11, tk2_12⟩ := hQ2
  have N2 := Fr.app N1 N2q
  have tk1_28_v2 := tk1_28.keep Kq2
  have tk1_41_v2 := tk1_41.keep Kq2
  have tk1_42_v2 := tk1_42.keep Kq2 (ninS (Ne.symm tk1_25) (ninS (Ne.symm tk1_23) (ninS (Ne.symm tk1_20) (ninS (Ne.symm tk1_16) (ninS (Ne.symm tk1_11) nin0)))))
  have tk1_43_v2 := tk1_43.keep Kq2 (ninS (Ne.symm tk1_25) (ninS (Ne.symm tk1_23) (ninS (Ne.symm tk1_20) (ninS (Ne.symm tk1_16) (ninS (Ne.symm tk1_11) nin0)))))
  have tk1_44_v2 := tk1_44.keep Kq2 (ninS (Ne.symm tk1_25) (ninS (Ne.symm tk1_23) (ninS (Ne.symm tk1_20) (ninS (Ne.symm tk1_16) (ninS (Ne.symm tk1_11) nin0)))))
  have tk1_45_v2 := tk1_45.keep Kq2 (ninS (Ne.symm tk1_26) (ninS (Ne.symm tk1_24) (ninS (Ne.symm tk1_21) (ninS (Ne.symm tk1_17) (ninS (Ne.symm tk1_12) nin0)))))
  have O2 := O1.keep Kq2 (allS gn_b1_4 (allS gn_b1_3 (allS gn_b1_2 (allS gn_b1_1 (allS gn_b1_0 all0)))))
  obtain ⟨cq3, kq3, q3a, q3b, q3c⟩ := isOf hZ2 rfl tk2_0
  obtain ⟨_, _, ⟨T3, L3, k3, n3⟩, -, X3, ⟨Lc3, hQ3, l3, y3, z3⟩, st3⟩ := X2'.virtualBack hx (y := (⟨s_0, "hasBlocks", "()Z"⟩ : MethodName)) (z := (⟨s_0, "hasBlocks", "()Z"⟩ : MethodName)) hown2 (mvT hZ2 (W hw 52 rfl)) (mvT hZ2 (W hw 53 rfl)) (notFace_of_selects (args := #[]) (mvT hZ2 (W hw 55 rfl))) (mvT hZ2 (W hw 55 rfl)) (mvT hZ2 (W hw 54 rfl)) (by decide) (backOf (W := 0) (rm_63 l Z a0 hw w kk iw vw hN [] b1_0 b1_5 b1_6 kb1_4 T2.heap O2 gn_b1_0 tk2_0.lt tk2_0 gn_b1_5 tk1_41_v2.lt tk2_5 tk2_8 tk1_41_v2 tk1_42_v2 tk1_43_v2 gn_b1_6 tk1_45_v2.lt tk1_44_v2 tk1_45_v2 tk1_11 tk1_12 tk1_27) hZ2 (W hw 56 rfl) (W hw 2 rfl) (by decide) (by decide)) q3a q3c (g := (mkF m 157 #[.val (.int p0), .val (.int p1), .val (.int p2), .val (.int p3), .val (.int (3 : Int32)), .val (.ref b1_0), .val (.int (1 : Int32))] [(.ref b1_0)])) rfl (by rw [hml]; rfl) (Steps.refl _) (argsL := []) (rest := []) (lenOf pd_3 rfl) rfl (by show 2 * 0 + _ ≤ _; exact Nat.le_of_eq rfl) (hb hby at_157) (fun _ _ => ⟨rfl, rfl, (by decide : 12 + 0 ≤ _), (by decide : 535 + 0 ≤ _)⟩)
  dsimp only [Pt.U, Pt.locs, Pt.cells, Pt.slots] at X3 l3 y3 z3 st3 hQ3
  subst l3 y3 z3
  obtain ⟨rfl, N3q, e3⟩ := hQ3
  have N3 := Fr.app N2 N3q
  obtain ⟨fs, hr, hrun, hended, w1, w2, w3, w4⟩ := X3.leaveW hS2 (by rw [e3]; exact hk2) (v := some (.int (1 : Int32))) (fun h => by rw [Bd.returns] at h; cases h)
  refine ⟨_, _, castTop (ef_3 m (.int p0) rfl (.int p1) rfl (.int p2) rfl (.int p3) rfl) ?_, hrun, hended, _, _, rfl, ?_, w1, w2, w3, w4.mono (by decide) (by decide)⟩
  · show Steps p.tables e below (s₁.setTop (mkF m 0 #[.val (.int p0), .val (.int p1), .val (.int p2), .val (.int p3), .unset, .unset, .unset] [])) _
    refine XS.iloadN X0.here hx rfl (hb hby at_0) rfl ?_
    refine XS.iconst X0.here hx rfl (hb hby at_1) ?_
    refine XS.iand X0.here hx rfl (hb hby at_2) rfl ?_
    show Steps p.tables e below (s₁.setTop (mkF m 3 #[.val (.int p0), .val (.int p1), .val (.int p2), .val (.int p3), .unset, .unset, .unset] [(.int (p0 &&& (3 : Int32)))])) _
    rw [hp0]
    refine XS.istore X0.here hx rfl (hb hby at_3) rfl (l' := #[.val (.int p0), .val (.int p1), .val (.int p2), .val (.int p3), .val (.int (3 : Int32)), .unset, .unset]) rfl ?_
    show Steps p.tables e below (s₁.setTop (mkF m 5 #[.val (.int p0), .val (.int p1), .val (.int p2), .val (.int p3), .val (.int (3 : Int32)), .unset, .unset] [])) _
    refine st1 _ ?_
    refine XS.iload X1.here hx rfl (hb hby at_102) rfl ?_
    refine XS.ifNo X1.here hx rfl (hb hby at_104) rfl ((if0 _ _).trans (tlt (by decide : (0 : Int32) < (3 : Int32))).2.2.2) ?_
    refine XS.iloadN X1.here hx rfl (hb hby at_107) rfl ?_
    refine XS.iconst X1.here hx rfl (hb hby at_108) ?_
    refine XS.iand X1.here hx rfl (hb hby at_109) rfl ?_
    show Steps p.tables e below (T1.setTop (mkF m 110 #[.val (.int p0), .val (.int p1), .val (.int p2), .val (.int p3), .val (.int (3 : Int32)), .val (.ref b1_0), .val (.int (1 : Int32))] [(.int (p1 &&& (1 : Int32)))])) _
    rw [hp1]
    refine XS.ifNo X1.here hx rfl (hb hby at_110) rfl ((if0 _ _).trans (feq (by decide : ¬ ((1 : Int32) = (0 : Int32)))).1) ?_
    refine XS.aload X1.here hx rfl (hb hby at_113) rfl rfl ?_
    show Steps p.tables e below (T1.setTop (mkF m 115 #[.val (.int p0), .val (.int p1), .val (.int p2), .val (.int p3), .val (.int (3 : Int32)), .val (.ref b1_0), .val (.int (1 : Int32))] [(.ref b1_0)])) _
    refine XS.iloadN X1.here hx rfl (hb hby at_115) rfl ?_
    refine X1.ldcInt hx hown (mvT hZ (W hw 69 rfl)) (g := (mkF m 116 #[.val (.int p0), .val (.int p1), .val (.int p2), .val (.int p3), .val (.int (3 : Int32)), .val (.ref b1_0), .val (.int (1 : Int32))] [(.int p2), (.ref b1_0)])) rfl (hb hby at_116) _ ?_
    refine XS.iand X1.here hx rfl (hb hby at_118) rfl ?_
    refine XS.iload X1.here hx rfl (hb hby at_119) rfl ?_
    refine iremM X1 hx rfl (hb hby at_121) rfl (by decide : ¬ ((3 : Int32) = (0 : Int32))) ?_
    show Steps p.tables e below (T1.setTop (mkF m 122 #[.val (.int p0), .val (.int p1), .val (.int p2), .val (.int p3), .val (.int (3 : Int32)), .val (.ref b1_0), .val (.int (1 : Int32))] [(.int ((p2 &&& (2147483647 : Int32)) % (3 : Int32))), (.ref b1_0)])) _
    rw [hp2]
    refine st2.trans ?_
    refine XS.iload X2'.here hx rfl (hb hby at_125) rfl ?_
    refine XS.ifNo X2'.here hx rfl (hb hby at_127) rfl ((if0 _ _).trans (tlt (by decide : (0 : Int32) < (3 : Int32))).2.2.2) ?_
    show Steps p.tables e below (T2.setTop (mkF m 130 #[.val (.int p0), .val (.int p1), .val (.int p2), .val (.int p3), .val (.int (3 : Int32)), .val (.ref b1_0), .val (.int (1 : Int32))] [])) _
    refine XS.iloadN X2'.here hx rfl (hb hby at_130) rfl ?_
    refine XS.iconst X2'.here hx rfl (hb hby at_131) ?_
    refine XS.iand X2'.here hx rfl (hb hby at_132) rfl ?_
    show Steps p.tables e below (T2.setTop (mkF m 133 #[.val (.int p0), .val (.int p1), .val (.int p2), .val (.int p3), .val (.int (3 : Int32)), .val (.ref b1_0), .val (.int (1 : Int32))] [(.int (p3 &&& (1 : Int32)))])) _
    rw [hp3]
    refine XS.ifYes X2'.here hx rfl (pc0 := 133) (pc' := 150) rfl (hb hby at_133) rfl ((if0 _ _).trans (teq (by decide : (0 : Int32) = (0 : Int32))).1) (by decide) (by decide) ?_
    refine XS.iload X2'.here hx rfl (hb hby at_150) rfl ?_
    refine XS.ifNo X2'.here hx rfl (hb hby at_152) rfl ((if0 _ _).trans (feq (by decide : ¬ ((1 : Int32) = (0 : Int32)))).1) ?_
    refine XS.aload X2'.here hx rfl (hb hby at_155) rfl rfl ?_
    refine st3.trans ?_
    show Steps p.tables e below (T3.setTop (mkF m 160 #[.val (.int p0), .val (.int p1), .val (.int p2), .val (.int p3), .val (.int (3 : Int32)), .val (.ref b1_0), .val (.int (1 : Int32))] [(.int (1 : Int32))])) _
    refine XS.iload X3.here hx rfl (hb hby at_160) rfl ?_
    refine XS.ifNo X3.here hx rfl (hb hby at_162) rfl ((if0 _ _).trans (tlt (by decide : (0 : Int32) < (3 : Int32))).2.2.2) ?_
    refine XS.iconst X3.here hx rfl (hb hby at_165) ?_
    refine XS.goto X3.here hx rfl (pc0 := 166) (pc' := 170) rfl (hb hby at_166) (by decide) (by decide) ?_
    refine XS.icmpNo X3.here hx rfl (hb hby at_170) rfl (teq (by decide : (1 : Int32) = (1 : Int32))).2 ?_
    refine XS.iconst X3.here hx rfl (hb hby at_173) ?_
    refine XS.goto X3.here hx rfl (pc0 := 174) (pc' := 178) rfl (hb hby at_174) (by decide) (by decide) ?_
    refine XS.istore X3.here hx rfl (hb hby at_178) rfl (l' := #[.val (.int p0), .val (.int p1), .val (.int p2), .val (.int p3), .val (.int (3 : Int32)), .val (.ref b1_0), .val (.int (1 : Int32))]) rfl ?_
    show Steps p.tables e below (T3.setTop (mkF m 180 #[.val (.int p0), .val (.int p1), .val (.int p2), .val (.int p3), .val (.int (3 : Int32)), .val (.ref b1_0), .val (.int (1 : Int32))] [])) _
    refine XS.iload X3.here hx rfl (hb hby at_180) rfl ?_
    show Steps p.tables e below (T3.setTop (mkF m 182 #[.val (.int p0), .val (.int p1), .val (.int p2), .val (.int p3), .val (.int (3 : Int32)), .val (.ref b1_0), .val (.int (1 : Int32))] [(.int (1 : Int32))])) _
    exact retN X3 hx (t := .boolean) Bd.returns (by simp) (hb hby at_182) hr
  · show OL (some (.int (1 : Int32))) Z.heap.size _ T3.heap _
    exact ⟨rfl, N3⟩
set_option maxRecDepth 65536 in
set_option maxHeartbeats 40000000 in
theorem law_76 (l : Launch) (Z : State) (a0 : Array Value) (hw : ∀ d ∈ tables_1, d.before a0 Z = true) (w : Nat → Addr) (kk : Nat → ClassId) (iw : Nat → Int32) (vw : Nat → Value) (hN : Wd Z w kk iw vw) (ws : List Jvm.Cond) (p0 : Int32) (p1 : Int32) (p2 : Int32) (p3 : Int32) (h0 : Heap) (O0 : Old Z Z.heap.size h0) (hp0 : (p0 &&& (3 : Int32)) = (3 : Int32)) (hp1 : (p1 &&& (1 : Int32)) = (1 : Int32)) (hp2 : ((p2 &&& (2147483647 : Int32)) % (3 : Int32)) = (2 : Int32)) (hp3 : (p3 &&& (1 : Int32)) = (1 : Int32)) (hp4 : ¬ (((((p3.toUInt32 >>> ((1 : Int32) &&& 31).toUInt32).toInt32) &&& (2147483647 : Int32)) % (3 : Int32)) < (0 : Int32))) (hp5 : ((((p3.toUInt32 >>> ((1 : Int32) &&& 31).toUInt32).toInt32) &&& (2147483647 : Int32)) % (3 : Int32)) < (4 : Int32)) (hp6 : (((((p3.toUInt32 >>> ((1 : Int32) &&& 31).toUInt32).toInt32) &&& (2147483647 : Int32)) % (3 : Int32)) >>> ((6 : Int32) &&& 31)) = (0 : Int32)) :
    MetFree l x (head1 (Jvm.Cond.code x code maxLocals ret :: ws) room_1) (fun a U => a = #[(.int p0), (.int p1), (.int p2), (.int p3)] ∧ Z.Warmed39 U.vm ∧ U.heap = h0) (fun _ _ _ _ _ => True) (fun _ U o U' => ∃ v L, o = .returned v ∧ OL (some (.int (1 : Int32))) Z.heap.size v U'.heap L ∧ ReturnedEndW U o U' L 32 3072) := by
  have hN' := hN
  have hL0 : Sta Z Z.heap s_1 s_4 "Z" (.int (1 : Int32)) := hN'
  refine MetFree.of_bodySF (plainFor_of_name pn_2) hisR ?_
  intro p e s m args below meth c s₁ Bd hml0 hP hK
  obtain ⟨rfl, hZ, hh⟩ := hP
  have hx := Bd.exec
  have hby := Bd.bytes
  have hml : c.maxLocals = 7 := hml0
  have hown : s.vm.findClass s_2 = some m.cls := findClass_of_methodNamed Bd.named
  have hnm := (name_of_methodNamed Bd.named Bd.method).1
  have X0 : Stand p l e room_1 s m #[(.int p0), (.int p1), (.int p2), (.int p3)] below meth c s₁ [] 0 0 := Stand.of_body Bd
  have e0 : s₁.heap = h0 := by rw [← hh, Bd.state]; rfl
  have N0 := Fr.nil Z.heap.size
  obtain ⟨T1, L1, b1_0, b1_1, b1_2, b1_3, b1_4, b1_5, b1_6, kb1_0, kb1_1, kb1_2, kb1_3, kb1_4, X1, st1, N1, Kq1, tk1_0, tk1_1, tk1_2, tk1_3, tk1_4, tk1_5, tk1_6, tk1_7, tk1_8, tk1_9, tk1_10, tk1_11, tk1_12, tk1_13, tk1_14, tk1_15, tk1_16, tk1_17, tk1_18, tk1_19, tk1_20, tk1_21, tk1_22, tk1_23, tk1_24, tk1_25, tk1_26, tk1_27, tk1_28, tk1_29, tk1_30, tk1_31, tk1_32, tk1_33, tk1_34, tk1_35, tk1_36, tk1_37, tk1_38, tk1_39, tk1_40, tk1_41, tk1_42, tk1_43, tk1_44, tk1_45⟩ := sg_53 w kk iw vw hN p0 p1 p2 p3 X0 hx hZ hw hby hml hown e0 O0 N0
  have gn_b1_0 : Z.heap.size ≤ b1_0 := Nat.le_trans O0.2.1 tk1_0
  have gn_b1_1 : Z.heap.size ≤ b1_1 := Nat.le_trans O0.2.1 tk1_1
  have gn_b1_2 : Z.heap.size ≤ b1_2 := Nat.le_trans O0.2.1 tk1_2
  have gn_b1_3 : Z.heap.size ≤ b1_3 := Nat.le_trans O0.2.1 tk1_3
  have gn_b1_4 : Z.heap.size ≤ b1_4 := Nat.le_trans O0.2.1 tk1_4
  have gn_b1_5 : Z.heap.size ≤ b1_5 := Nat.le_trans O0.2.1 tk1_5
  have gn_b1_6 : Z.heap.size ≤ b1_6 := Nat.le_trans O0.2.1 tk1_6
  have O1 := O0.keep Kq1 all0
  obtain ⟨cq2, kq2, q2a, q2b, q2c⟩ := isOf hZ rfl tk1_28
  obtain ⟨_, _, ⟨T2, L2, k2, n2⟩, -, X2, hSq2, hgr2, ⟨Lc2, hQ2, l2, y2, z2⟩, st2⟩ := X1.virtualBackS hx (y := (⟨s_0, "insertBlock", "(I)V"⟩ : MethodName)) (z := (⟨s_0, "insertBlock", "(I)V"⟩ : MethodName)) hown (mvT hZ (W hw 70 rfl)) (mvT hZ (W hw 71 rfl)) (notFace_of_selects (args := #[]) (mvT hZ (W hw 73 rfl))) (mvT hZ (W hw 73 rfl)) (mvT hZ (W hw 72 rfl)) (by decide) (backOfS (W := 0) (rm_74 l Z a0 hw w kk iw vw hN [] b1_0 b1_1 b1_2 b1_3 b1_4 b1_5 kb1_0 kb1_1 kb1_2 kb1_3 b1_6 kb1_4 T1.heap O1 gn_b1_0 tk1_28.lt tk1_28 gn_b1_1 tk1_37.lt tk1_29 gn_b1_2 tk1_38.lt tk1_30 gn_b1_3 tk1_39.lt tk1_31 gn_b1_4 tk1_40.lt tk1_32 gn_b1_5 tk1_41.lt tk1_33 tk1_34 tk1_35 tk1_36 tk1_37 tk1_38 tk1_39 tk1_40 tk1_41 tk1_42 tk1_43 gn_b1_6 tk1_45.lt tk1_44 tk1_45 tk1_7 tk1_8 tk1_9 tk1_10 tk1_11 tk1_12 tk1_13 tk1_14 tk1_15 tk1_16 tk1_17 tk1_18 tk1_19 tk1_20 tk1_21 tk1_22 tk1_23 tk1_24 tk1_25 tk1_26 tk1_27) hZ (W hw 74 rfl) (W hw 2 rfl) (by decide) (by decide)) q2a q2c (g := (mkF m 122 #[.val (.int p0), .val (.int p1), .val (.int p2), .val (.int p3), .val (.int (3 : Int32)), .val (.ref b1_0), .val (.int (1 : Int32))] [(.int (2 : Int32)), (.ref b1_0)])) rfl (by rw [hml]; rfl) (Steps.refl _) (argsL := [(.int (2 : Int32))]) (rest := []) (lenOf pd_1 rfl) rfl (by show 2 * 0 + _ ≤ _; exact Nat.le_of_eq rfl) (hb hby at_122) (fun _ _ => ⟨rfl, rfl, (by decide : 10 + 2 ≤ _), (by decide : 467 + 68 ≤ _)⟩)
  dsimp only [Pt.U, Pt.locs, Pt.cells, Pt.slots] at X2 l2 y2 z2 st2 hQ2 hSq2 hgr2
  subst l2 y2 z2
  have hS2 : s.Since T2.vm T2.heap.size := hSq2
  have hk2 : T2.heap.size ≤ T2.heap.size := Nat.le_refl _
  have hZ2 : Z.Warmed39 (s.setVm T2.vm).vm := State.Warmed39.trans (t := (s.setVm s.vm)) hZ hSq2.1
  have hown2 : (s.setVm T2.vm).vm.findClass s_2 = some m.cls := by rw [show (s.setVm T2.vm).vm = T2.vm from rfl, hSq2.1.alike.findClass]; exact hown
  have X2' : Stand p l e _ (s.setVm T2.vm) m _ below meth c T2 _ _ _ := X2
  obtain ⟨rfl, N2q, Kq2, tk2_0, tk2_1, tk2_2, tk2_3, tk2_4, tk2_5, tk2_6, tk2_7, tk2_8, tk2_9, tk2_10, tk2_11, tk2_12⟩ := hQ2
  have N2 := Fr.app N1 N2q
  have tk1_28_v2 := tk1_28.keep Kq2
  have tk1_41_v2 := tk1_41.keep Kq2
  have tk1_42_v2 := tk1_42.keep Kq2 (ninS (Ne.symm tk1_25) (ninS (Ne.symm tk1_23) (ninS (Ne.symm tk1_20) (ninS (Ne.symm tk1_16) (ninS (Ne.symm tk1_11) nin0)))))
  have tk1_43_v2 := tk1_43.keep Kq2 (ninS (Ne.symm tk1_25) (ninS (Ne.symm tk1_23) (ninS (Ne.symm tk1_20) (ninS (Ne.symm tk1_16) (ninS (Ne.symm tk1_11) nin0)))))
  have tk1_44_v2 := tk1_44.keep Kq2 (ninS (Ne.symm tk1_25) (ninS (Ne.symm tk1_23) (ninS (Ne.symm tk1_20) (ninS (Ne.symm tk1_16) (ninS (Ne.symm tk1_11) nin0)))))
  have tk1_45_v2 := tk1_45.keep Kq2 (ninS (Ne.symm tk1_26) (ninS (Ne.symm tk1_24) (ninS (Ne.symm tk1_21) (ninS (Ne.symm tk1_17) (ninS (Ne.symm tk1_12) nin0)))))
  have O2 := O1.keep Kq2 (allS gn_b1_4 (allS gn_b1_3 (allS gn_b1_2 (allS gn_b1_1 (allS gn_b1_0 all0)))))
  obtain ⟨cq3, kq3, q3a, q3b, q3c⟩ := isOf hZ2 rfl tk2_0
  obtain ⟨_, _, ⟨T3, L3, k3, n3⟩, -, X3, hSq3, hgr3, ⟨Lc3, hQ3, l3, y3, z3⟩, st3⟩ := X2'.virtualBackS hx (y := (⟨s_0, "closeBlock", "(I)V"⟩ : MethodName)) (z := (⟨s_0, "closeBlock", "(I)V"⟩ : MethodName)) hown2 (mvT hZ2 (W hw 87 rfl)) (mvT hZ2 (W hw 88 rfl)) (notFace_of_selects (args := #[]) (mvT hZ2 (W hw 90 rfl))) (mvT hZ2 (W hw 90 rfl)) (mvT hZ2 (W hw 89 rfl)) (by decide) (backOfS (W := 0) (rm_66 l Z a0 hw w kk iw vw hN [] b1_0 ((((p3.toUInt32 >>> ((1 : Int32) &&& 31).toUInt32).toInt32) &&& (2147483647 : Int32)) % (3 : Int32)) b1_5 b1_6 kb1_4 T2.heap O2 gn_b1_0 tk2_0.lt tk2_0 gn_b1_5 tk1_41_v2.lt tk2_5 tk2_8 tk1_41_v2 tk1_42_v2 tk1_43_v2 gn_b1_6 tk1_45_v2.lt tk1_44_v2 tk1_45_v2 tk1_11 tk1_12 tk1_27 hp4 hp5 hp6) hZ2 (W hw 91 rfl) (W hw 2 rfl) (by decide) (by decide)) q3a q3c (g := (mkF m 147 #[.val (.int p0), .val (.int p1), .val (.int p2), .val (.int p3), .val (.int (3 : Int32)), .val (.ref b1_0), .val (.int (1 : Int32))] [(.int ((((p3.toUInt32 >>> ((1 : Int32) &&& 31).toUInt32).toInt32) &&& (2147483647 : Int32)) % (3 : Int32))), (.ref b1_0)])) rfl (by rw [hml]; rfl) (Steps.refl _) (argsL := [(.int ((((p3.toUInt32 >>> ((1 : Int32) &&& 31).toUInt32).toInt32) &&& (2147483647 : Int32)) % (3 : Int32)))]) (rest := []) (lenOf pd_1 rfl) rfl (by show 2 * 0 + _ ≤ _; exact Nat.le_of_eq rfl) (hb hby at_147) (fun _ _ => ⟨rfl, rfl, (by decide : 12 + 2 ≤ _), (by decide : 535 + 60 ≤ _)⟩)
  dsimp only [Pt.U, Pt.locs, Pt.cells, Pt.slots] at X3 l3 y3 z3 st3 hQ3 hSq3 hgr3
  subst l3 y3 z3
  have hS3 : s.Since T3.vm T3.heap.size := foldS (T := T2) hS2 hk2 hSq3 hgr3
  have hk3 : T3.heap.size ≤ T3.heap.size := Nat.le_refl _
  have hZ3 : Z.Warmed39 (s.setVm T3.vm).vm := State.Warmed39.trans (t := (s.setVm T2.vm)) hZ2 hSq3.1
  have hown3 : (s.setVm T3.vm).vm.findClass s_2 = some m.cls := by rw [show (s.setVm T3.vm).vm = T3.vm from rfl, hSq3.1.alike.findClass]; exact hown2
  have X3' : Stand p l e _ (s.setVm T3.vm) m _ below meth c T3 _ _ _ := X3
  obtain ⟨rfl, N3q, Kq3, tk3_0, tk3_1, tk3_2, tk3_3, tk3_4⟩ := hQ3
  have N3 := Fr.app N2 N3q
  have tk2_0_v3 := tk2_0.keep Kq3
  have tk1_41_v3 := tk1_41_v2.keep Kq3
  have tk2_5_v3 := tk2_5.keep Kq3 (ninS tk1_12 (ninS tk1_11 nin0))
  have tk2_8_v3 := tk2_8.keep Kq3 (ninS tk1_12 (ninS tk1_11 nin0))
  have O3 := O2.keep Kq3 (allS gn_b1_6 (allS gn_b1_5 all0))
  obtain ⟨cq4, kq4, q4a, q4b, q4c⟩ := isOf hZ3 rfl tk2_0_v3
  obtain ⟨_, _, ⟨T4, L4, k4, n4⟩, -, X4, ⟨Lc4, hQ4, l4, y4, z4⟩, st4⟩ := X3'.virtualBack hx (y := (⟨s_0, "hasBlocks", "()Z"⟩ : MethodName)) (z := (⟨s_0, "hasBlocks", "()Z"⟩ : MethodName)) hown3 (mvT hZ3 (W hw 52 rfl)) (mvT hZ3 (W hw 53 rfl)) (notFace_of_selects (args := #[]) (mvT hZ3 (W hw 55 rfl))) (mvT hZ3 (W hw 55 rfl)) (mvT hZ3 (W hw 54 rfl)) (by decide) (backOf (W := 0) (rm_67 l Z a0 hw w kk iw vw hN [] b1_0 b1_5 b1_6 ((0 : Int64) ||| ((1 : Int64) <<< (((((p3.toUInt32 >>> ((1 : Int32) &&& 31).toUInt32).toInt32) &&& (2147483647 : Int32)) % (3 : Int32)) &&& 0x3f).toInt64)) kb1_4 T3.heap O3 gn_b1_0 tk2_0_v3.lt tk2_0_v3 gn_b1_5 tk3_0.lt tk2_5_v3 tk2_8_v3 tk3_0 tk3_1 tk3_2 gn_b1_6 tk3_4.lt tk3_3 tk3_4 tk1_11 tk1_12 tk1_27) hZ3 (W hw 56 rfl) (W hw 2 rfl) (by decide) (by decide)) q4a q4c (g := (mkF m 157 #[.val (.int p0), .val (.int p1), .val (.int p2), .val (.int p3), .val (.int (3 : Int32)), .val (.ref b1_0), .val (.int (1 : Int32))] [(.ref b1_0)])) rfl (by rw [hml]; rfl) (Steps.refl _) (argsL := []) (rest := []) (lenOf pd_3 rfl) rfl (by show 2 * 0 + _ ≤ _; exact Nat.le_of_eq rfl) (hb hby at_157) (fun _ _ => ⟨rfl, rfl, (by decide : 14 + 0 ≤ _), (by decide : 595 + 0 ≤ _)⟩)
  dsimp only [Pt.U, Pt.locs, Pt.cells, Pt.slots] at X4 l4 y4 z4 st4 hQ4
  subst l4 y4 z4
  obtain ⟨rfl, N4q, e4⟩ := hQ4
  have N4 := Fr.app N3 N4q
  obtain ⟨fs, hr, hrun, hended, w1, w2, w3, w4⟩ := X4.leaveW hS3 (by rw [e4]; exact hk3) (v := some (.int (1 : Int32))) (fun h => by rw [Bd.returns] at h; cases h)
  refine ⟨_, _, castTop (ef_3 m (.int p0) rfl (.int p1) rfl (.int p2) rfl (.int p3) rfl) ?_, hrun, hended, _, _, rfl, ?_, w1, w2, w3, w4.mono (by decide) (by decide)⟩
  · show Steps p.tables e below (s₁.setTop (mkF m 0 #[.val (.int p0), .val (.int p1), .val (.int p2), .val (.int p3), .unset, .unset, .unset] [])) _
    refine XS.iloadN X0.here hx rfl (hb hby at_0) rfl ?_
    refine XS.iconst X0.here hx rfl (hb hby at_1) ?_
    refine XS.iand X0.here hx rfl (hb hby at_2) rfl ?_
    show Steps p.tables e below (s₁.setTop (mkF m 3 #[.val (.int p0), .val (.int p1), .val (.int p2), .val (.int p3), .unset, .unset, .unset] [(.int (p0 &&& (3 : Int32)))])) _
    rw [hp0]
    refine XS.istore X0.here hx rfl (hb hby at_3) rfl (l' := #[.val (.int p0), .val (.int p1), .val (.int p2), .val (.int p3), .val (.int (3 : Int32)), .unset, .unset]) rfl ?_
    show Steps p.tables e below (s₁.setTop (mkF m 5 #[.val (.int p0), .val (.int p1), .val (.int p2), .val (.int p3), .val (.int (3 : Int32)), .unset, .unset] [])) _
    refine st1 _ ?_
    refine XS.iload X1.here hx rfl (hb hby at_102) rfl ?_
    refine XS.ifNo X1.here hx rfl (hb hby at_104) rfl ((if0 _ _).trans (tlt (by decide : (0 : Int32) < (3 : Int32))).2.2.2) ?_
    refine XS.iloadN X1.here hx rfl (hb hby at_107) rfl ?_
    refine XS.iconst X1.here hx rfl (hb hby at_108) ?_
    refine XS.iand X1.here hx rfl (hb hby at_109) rfl ?_
    show Steps p.tables e below (T1.setTop (mkF m 110 #[.val (.int p0), .val (.int p1), .val (.int p2), .val (.int p3), .val (.int (3 : Int32)), .val (.ref b1_0), .val (.int (1 : Int32))] [(.int (p1 &&& (1 : Int32)))])) _
    rw [hp1]
    refine XS.ifNo X1.here hx rfl (hb hby at_110) rfl ((if0 _ _).trans (feq (by decide : ¬ ((1 : Int32) = (0 : Int32)))).1) ?_
    refine XS.aload X1.here hx rfl (hb hby at_113) rfl rfl ?_
    show Steps p.tables e below (T1.setTop (mkF m 115 #[.val (.int p0), .val (.int p1), .val (.int p2), .val (.int p3), .val (.int (3 : Int32)), .val (.ref b1_0), .val (.int (1 : Int32))] [(.ref b1_0)])) _
    refine XS.iloadN X1.here hx rfl (hb hby at_115) rfl ?_
    refine X1.ldcInt hx hown (mvT hZ (W hw 69 rfl)) (g := (mkF m 116 #[.val (.int p0), .val (.int p1), .val (.int p2), .val (.int p3), .val (.int (3 : Int32)), .val (.ref b1_0), .val (.int (1 : Int32))] [(.int p2), (.ref b1_0)])) rfl (hb hby at_116) _ ?_
    refine XS.iand X1.here hx rfl (hb hby at_118) rfl ?_
    refine XS.iload X1.here hx rfl (hb hby at_119) rfl ?_
    refine iremM X1 hx rfl (hb hby at_121) rfl (by decide : ¬ ((3 : Int32) = (0 : Int32))) ?_
    show Steps p.tables e below (T1.setTop (mkF m 122 #[.val (.int p0), .val (.int p1), .val (.int p2), .val (.int p3), .val (.int (3 : Int32)), .val (.ref b1_0), .val (.int (1 : Int32))] [(.int ((p2 &&& (2147483647 : Int32)) % (3 : Int32))), (.ref b1_0)])) _
    rw [hp2]
    refine st2.trans ?_
    refine XS.iload X2'.here hx rfl (hb hby at_125) rfl ?_
    refine XS.ifNo X2'.here hx rfl (hb hby at_127) rfl ((if0 _ _).trans (tlt (by decide : (0 : Int32) < (3 : Int32))).2.2.2) ?_
    show Steps p.tables e below (T2.setTop (mkF m 130 #[.val (.int p0), .val (.int p1), .val (.int p2), .val (.int p3), .val (.int (3 : Int32)), .val (.ref b1_0), .val (.int (1 : Int32))] [])) _
    refine XS.iloadN X2'.here hx rfl (hb hby at_130) rfl ?_
    refine XS.iconst X2'.here hx rfl (hb hby at_131) ?_
    refine XS.iand X2'.here hx rfl (hb hby at_132) rfl ?_
    show Steps p.tables e below (T2.setTop (mkF m 133 #[.val (.int p0), .val (.int p1), .val (.int p2), .val (.int p3), .val (.int (3 : Int32)), .val (.ref b1_0), .val (.int (1 : Int32))] [(.int (p3 &&& (1 : Int32)))])) _
    rw [hp3]
    refine XS.ifNo X2'.here hx rfl (hb hby at_133) rfl ((if0 _ _).trans (feq (by decide : ¬ ((1 : Int32) = (0 : Int32)))).1) ?_
    refine XS.aload X2'.here hx rfl (hb hby at_136) rfl rfl ?_
    refine XS.iloadN X2'.here hx rfl (hb hby at_138) rfl ?_
    refine XS.iconst X2'.here hx rfl (hb hby at_139) ?_
    refine XS.iushr X2'.here hx rfl (hb hby at_140) rfl ?_
    show Steps p.tables e below (T2.setTop (mkF m 141 #[.val (.int p0), .val (.int p1), .val (.int p2), .val (.int p3), .val (.int (3 : Int32)), .val (.ref b1_0), .val (.int (1 : Int32))] [(.int ((p3.toUInt32 >>> ((1 : Int32) &&& 31).toUInt32).toInt32)), (.ref b1_0)])) _
    refine X2'.ldcInt hx hown2 (mvT hZ2 (W hw 69 rfl)) (g := (mkF m 141 #[.val (.int p0), .val (.int p1), .val (.int p2), .val (.int p3), .val (.int (3 : Int32)), .val (.ref b1_0), .val (.int (1 : Int32))] [(.int ((p3.toUInt32 >>> ((1 : Int32) &&& 31).toUInt32).toInt32)), (.ref b1_0)])) rfl (hb hby at_141) _ ?_
    refine XS.iand X2'.here hx rfl (hb hby at_143) rfl ?_
    refine XS.iload X2'.here hx rfl (hb hby at_144) rfl ?_
    refine iremM X2' hx rfl (hb hby at_146) rfl (by decide : ¬ ((3 : Int32) = (0 : Int32))) ?_
    refine st3.trans ?_
    refine XS.iload X3'.here hx rfl (hb hby at_150) rfl ?_
    refine XS.ifNo X3'.here hx rfl (hb hby at_152) rfl ((if0 _ _).trans (feq (by decide : ¬ ((1 : Int32) = (0 : Int32)))).1) ?_
    refine XS.aload X3'.here hx rfl (hb hby at_155) rfl rfl ?_
    show Steps p.tables e below (T3.setTop (mkF m 157 #[.val (.int p0), .val (.int p1), .val (.int p2), .val (.int p3), .val (.int (3 : Int32)), .val (.ref b1_0), .val (.int (1 : Int32))] [(.ref b1_0)])) _
    refine st4.trans ?_
    refine XS.iload X4.here hx rfl (hb hby at_160) rfl ?_
    refine XS.ifNo X4.here hx rfl (hb hby at_162) rfl ((if0 _ _).trans (tlt (by decide : (0 : Int32) < (3 : Int32))).2.2.2) ?_
    refine XS.iconst X4.here hx rfl (hb hby at_165) ?_
    refine XS.goto X4.here hx rfl (pc0 := 166) (pc' := 170) rfl (hb hby at_166) (by decide) (by decide) ?_
    refine XS.icmpNo X4.here hx rfl (hb hby at_170) rfl (teq (by decide : (1 : Int32) = (1 : Int32))).2 ?_
    refine XS.iconst X4.here hx rfl (hb hby at_173) ?_
    refine XS.goto X4.here hx rfl (pc0 := 174) (pc' := 178) rfl (hb hby at_174) (by decide) (by decide) ?_
    show Steps p.tables e below (T4.setTop (mkF m 178 #[.val (.int p0), .val (.int p1), .val (.int p2), .val (.int p3), .val (.int (3 : Int32)), .val (.ref b1_0), .val (.int (1 : Int32))] [(.int (1 : Int32))])) _
    refine XS.istore X4.here hx rfl (hb hby at_178) rfl (l' := #[.val (.int p0), .val (.int p1), .val (.int p2), .val (.int p3), .val (.int (3 : Int32)), .val (.ref b1_0), .val (.int (1 : Int32))]) rfl ?_
    refine XS.iload X4.here hx rfl (hb hby at_180) rfl ?_
    show Steps p.tables e below (T4.setTop (mkF m 182 #[.val (.int p0), .val (.int p1), .val (.int p2), .val (.int p3), .val (.int (3 : Int32)), .val (.ref b1_0), .val (.int (1 : Int32))] [(.int (1 : Int32))])) _
    exact retN X4 hx (t := .boolean) Bd.returns (by simp) (hb hby at_182) hr
  · show OL (some (.int (1 : Int32))) Z.heap.size _ T4.heap _
    exact ⟨rfl, N4⟩
set_option maxRecDepth 65536 in
set_option maxHeartbeats 40000000 in
theorem law_all (l : Launch) (Z : State) (a0 : Array Value) (hw : ∀ d ∈ tables_1, d.before a0 Z = true) (w : Nat → Addr) (kk : Nat → ClassId) (iw : Nat → Int32) (vw : Nat → Value) (hN : Wd Z w kk iw vw) (ws : List Jvm.Cond) (p0 : Int32) (p1 : Int32) (p2 : Int32) (p3 : Int32) (h0 : Heap) (O0 : Old Z Z.heap.size h0) :
    MetFree l x (head1 (Jvm.Cond.code x code maxLocals ret :: ws) room_1) (fun a U => a = #[(.int p0), (.int p1), (.int p2), (.int p3)] ∧ Z.Warmed39 U.vm ∧ U.heap = h0) (fun _ _ _ _ _ => True) (fun _ U o U' => ∃ v L, o = .returned v ∧ OL (some (.int (1 : Int32))) Z.heap.size v U'.heap L ∧ ReturnedEndW U o U' L 32 3072) := by
  rcases (own_split_0 p0) with hd0 | hd0 | hd0 | hd0
  · exact law_7 l Z a0 hw w kk iw vw hN ws p0 p1 p2 p3 h0 O0 hd0
  · rcases (own_split_1 p1) with hd1 | hd1
    · rcases (own_split_1 p3) with hd2 | hd2
      · exact law_12 l Z a0 hw w kk iw vw hN ws p0 p1 p2 p3 h0 O0 hd0 hd1 hd2
      · have hi4_0 : ¬ (((((p3.toUInt32 >>> ((1 : Int32) &&& 31).toUInt32).toInt32) &&& (2147483647 : Int32)) % (1 : Int32)) < (0 : Int32)) := (own_rm_1 ((p3.toUInt32 >>> ((1 : Int32) &&& 31).toUInt32).toInt32)).1
        have hi4_1 : ((((p3.toUInt32 >>> ((1 : Int32) &&& 31).toUInt32).toInt32) &&& (2147483647 : Int32)) % (1 : Int32)) < (1 : Int32) := (own_rm_1 ((p3.toUInt32 >>> ((1 : Int32) &&& 31).toUInt32).toInt32)).2.1
        have hi4_2 : (((((p3.toUInt32 >>> ((1 : Int32) &&& 31).toUInt32).toInt32) &&& (2147483647 : Int32)) % (1 : Int32)) >>> ((6 : Int32) &&& 31)) = (0 : Int32) := (own_rm_1 ((p3.toUInt32 >>> ((1 : Int32) &&& 31).toUInt32).toInt32)).2.2.2
        exact law_21 l Z a0 hw w kk iw vw hN ws p0 p1 p2 p3 h0 O0 hd0 hd1 hd2 hi4_0 hi4_1 hi4_2
    · rcases (own_split_2 p2) with hd2
      · rcases (own_split_1 p3) with hd3 | hd3
        · exact law_26 l Z a0 hw w kk iw vw hN ws p0 p1 p2 p3 h0 O0 hd0 hd1 hd2 hd3
        · have hi5_0 : ¬ (((((p3.toUInt32 >>> ((1 : Int32) &&& 31).toUInt32).toInt32) &&& (2147483647 : Int32)) % (1 : Int32)) < (0 : Int32)) := (own_rm_1 ((p3.toUInt32 >>> ((1 : Int32) &&& 31).toUInt32).toInt32)).1
          have hi5_1 : ((((p3.toUInt32 >>> ((1 : Int32) &&& 31).toUInt32).toInt32) &&& (2147483647 : Int32)) % (1 : Int32)) < (2 : Int32) := (own_rm_1 ((p3.toUInt32 >>> ((1 : Int32) &&& 31).toUInt32).toInt32)).2.2.1
          have hi5_2 : (((((p3.toUInt32 >>> ((1 : Int32) &&& 31).toUInt32).toInt32) &&& (2147483647 : Int32)) % (1 : Int32)) >>> ((6 : Int32) &&& 31)) = (0 : Int32) := (own_rm_1 ((p3.toUInt32 >>> ((1 : Int32) &&& 31).toUInt32).toInt32)).2.2.2
          exact law_30 l Z a0 hw w kk iw vw hN ws p0 p1 p2 p3 h0 O0 hd0 hd1 hd2 hd3 hi5_0 hi5_1 hi5_2
  · rcases (own_split_1 p1) with hd1 | hd1
    · rcases (own_split_1 p3) with hd2 | hd2
      · exact law_34 l Z a0 hw w kk iw vw hN ws p0 p1 p2 p3 h0 O0 hd0 hd1 hd2
      · have hi4_0 : ¬ (((((p3.toUInt32 >>> ((1 : Int32) &&& 31).toUInt32).toInt32) &&& (2147483647 : Int32)) % (2 : Int32)) < (0 : Int32)) := (own_rm_2 ((p3.toUInt32 >>> ((1 : Int32) &&& 31).toUInt32).toInt32)).1
        have hi4_1 : ((((p3.toUInt32 >>> ((1 : Int32) &&& 31).toUInt32).toInt32) &&& (2147483647 : Int32)) % (2 : Int32)) < (2 : Int32) := (own_rm_2 ((p3.toUInt32 >>> ((1 : Int32) &&& 31).toUInt32).toInt32)).2.1
        have hi4_2 : (((((p3.toUInt32 >>> ((1 : Int32) &&& 31).toUInt32).toInt32) &&& (2147483647 : Int32)) % (2 : Int32)) >>> ((6 : Int32) &&& 31)) = (0 : Int32) := (own_rm_2 ((p3.toUInt32 >>> ((1 : Int32) &&& 31).toUInt32).toInt32)).2.2.2
        exact law_38 l Z a0 hw w kk iw vw hN ws p0 p1 p2 p3 h0 O0 hd0 hd1 hd2 hi4_0 hi4_1 hi4_2
    · rcases (own_split_3 p2) with hd2 | hd2
      · rcases (own_split_1 p3) with hd3 | hd3
        · exact law_43 l Z a0 hw w kk iw vw hN ws p0 p1 p2 p3 h0 O0 hd0 hd1 hd2 hd3
        · have hi5_0 : ¬ (((((p3.toUInt32 >>> ((1 : Int32) &&& 31).toUInt32).toInt32) &&& (2147483647 : Int32)) % (2 : Int32)) < (0 : Int32)) := (own_rm_2 ((p3.toUInt32 >>> ((1 : Int32) &&& 31).toUInt32).toInt32)).1
          have hi5_1 : ((((p3.toUInt32 >>> ((1 : Int32) &&& 31).toUInt32).toInt32) &&& (2147483647 : Int32)) % (2 : Int32)) < (3 : Int32) := (own_rm_2 ((p3.toUInt32 >>> ((1 : Int32) &&& 31).toUInt32).toInt32)).2.2.1
          have hi5_2 : (((((p3.toUInt32 >>> ((1 : Int32) &&& 31).toUInt32).toInt32) &&& (2147483647 : Int32)) % (2 : Int32)) >>> ((6 : Int32) &&& 31)) = (0 : Int32) := (own_rm_2 ((p3.toUInt32 >>> ((1 : Int32) &&& 31).toUInt32).toInt32)).2.2.2
          exact law_47 l Z a0 hw w kk iw vw hN ws p0 p1 p2 p3 h0 O0 hd0 hd1 hd2 hd3 hi5_0 hi5_1 hi5_2
      · rcases (own_split_1 p3) with hd3 | hd3
        · exact law_50 l Z a0 hw w kk iw vw hN ws p0 p1 p2 p3 h0 O0 hd0 hd1 hd2 hd3
        · have hi5_0 : ¬ (((((p3.toUInt32 >>> ((1 : Int32) &&& 31).toUInt32).toInt32) &&& (2147483647 : Int32)) % (2 : Int32)) < (0 : Int32)) := (own_rm_2 ((p3.toUInt32 >>> ((1 : Int32) &&& 31).toUInt32).toInt32)).1
          have hi5_1 : ((((p3.toUInt32 >>> ((1 : Int32) &&& 31).toUInt32).toInt32) &&& (2147483647 : Int32)) % (2 : Int32)) < (3 : Int32) := (own_rm_2 ((p3.toUInt32 >>> ((1 : Int32) &&& 31).toUInt32).toInt32)).2.2.1
          have hi5_2 : (((((p3.toUInt32 >>> ((1 : Int32) &&& 31).toUInt32).toInt32) &&& (2147483647 : Int32)) % (2 : Int32)) >>> ((6 : Int32) &&& 31)) = (0 : Int32) := (own_rm_2 ((p3.toUInt32 >>> ((1 : Int32) &&& 31).toUInt32).toInt32)).2.2.2
          exact law_51 l Z a0 hw w kk iw vw hN ws p0 p1 p2 p3 h0 O0 hd0 hd1 hd2 hd3 hi5_0 hi5_1 hi5_2
  · rcases (own_split_1 p1) with hd1 | hd1
    · rcases (own_split_1 p3) with hd2 | hd2
      · exact law_55 l Z a0 hw w kk iw vw hN ws p0 p1 p2 p3 h0 O0 hd0 hd1 hd2
      · have hi4_0 : ¬ (((((p3.toUInt32 >>> ((1 : Int32) &&& 31).toUInt32).toInt32) &&& (2147483647 : Int32)) % (3 : Int32)) < (0 : Int32)) := (own_rm_3 ((p3.toUInt32 >>> ((1 : Int32) &&& 31).toUInt32).toInt32)).1
        have hi4_1 : ((((p3.toUInt32 >>> ((1 : Int32) &&& 31).toUInt32).toInt32) &&& (2147483647 : Int32)) % (3 : Int32)) < (3 : Int32) := (own_rm_3 ((p3.toUInt32 >>> ((1 : Int32) &&& 31).toUInt32).toInt32)).2.1
        have hi4_2 : (((((p3.toUInt32 >>> ((1 : Int32) &&& 31).toUInt32).toInt32) &&& (2147483647 : Int32)) % (3 : Int32)) >>> ((6 : Int32) &&& 31)) = (0 : Int32) := (own_rm_3 ((p3.toUInt32 >>> ((1 : Int32) &&& 31).toUInt32).toInt32)).2.2.2
        exact law_59 l Z a0 hw w kk iw vw hN ws p0 p1 p2 p3 h0 O0 hd0 hd1 hd2 hi4_0 hi4_1 hi4_2
    · rcases (own_split_4 p2) with hd2 | hd2 | hd2
      · rcases (own_split_1 p3) with hd3 | hd3
        · exact law_64 l Z a0 hw w kk iw vw hN ws p0 p1 p2 p3 h0 O0 hd0 hd1 hd2 hd3
        · have hi5_0 : ¬ (((((p3.toUInt32 >>> ((1 : Int32) &&& 31).toUInt32).toInt32) &&& (2147483647 : Int32)) % (3 : Int32)) < (0 : Int32)) := (own_rm_3 ((p3.toUInt32 >>> ((1 : Int32) &&& 31).toUInt32).toInt32)).1
          have hi5_1 : ((((p3.toUInt32 >>> ((1 : Int32) &&& 31).toUInt32).toInt32) &&& (2147483647 : Int32)) % (3 : Int32)) < (4 : Int32) := (own_rm_3 ((p3.toUInt32 >>> ((1 : Int32) &&& 31).toUInt32).toInt32)).2.2.1
          have hi5_2 : (((((p3.toUInt32 >>> ((1 : Int32) &&& 31).toUInt32).toInt32) &&& (2147483647 : Int32)) % (3 : Int32)) >>> ((6 : Int32) &&& 31)) = (0 : Int32) := (own_rm_3 ((p3.toUInt32 >>> ((1 : Int32) &&& 31).toUInt32).toInt32)).2.2.2
          exact law_68 l Z a0 hw w kk iw vw hN ws p0 p1 p2 p3 h0 O0 hd0 hd1 hd2 hd3 hi5_0 hi5_1 hi5_2
      · rcases (own_split_1 p3) with hd3 | hd3
        · exact law_71 l Z a0 hw w kk iw vw hN ws p0 p1 p2 p3 h0 O0 hd0 hd1 hd2 hd3
        · have hi5_0 : ¬ (((((p3.toUInt32 >>> ((1 : Int32) &&& 31).toUInt32).toInt32) &&& (2147483647 : Int32)) % (3 : Int32)) < (0 : Int32)) := (own_rm_3 ((p3.toUInt32 >>> ((1 : Int32) &&& 31).toUInt32).toInt32)).1
          have hi5_1 : ((((p3.toUInt32 >>> ((1 : Int32) &&& 31).toUInt32).toInt32) &&& (2147483647 : Int32)) % (3 : Int32)) < (4 : Int32) := (own_rm_3 ((p3.toUInt32 >>> ((1 : Int32) &&& 31).toUInt32).toInt32)).2.2.1
          have hi5_2 : (((((p3.toUInt32 >>> ((1 : Int32) &&& 31).toUInt32).toInt32) &&& (2147483647 : Int32)) % (3 : Int32)) >>> ((6 : Int32) &&& 31)) = (0 : Int32) := (own_rm_3 ((p3.toUInt32 >>> ((1 : Int32) &&& 31).toUInt32).toInt32)).2.2.2
          exact law_72 l Z a0 hw w kk iw vw hN ws p0 p1 p2 p3 h0 O0 hd0 hd1 hd2 hd3 hi5_0 hi5_1 hi5_2
      · rcases (own_split_1 p3) with hd3 | hd3
        · exact law_75 l Z a0 hw w kk iw vw hN ws p0 p1 p2 p3 h0 O0 hd0 hd1 hd2 hd3
        · have hi5_0 : ¬ (((((p3.toUInt32 >>> ((1 : Int32) &&& 31).toUInt32).toInt32) &&& (2147483647 : Int32)) % (3 : Int32)) < (0 : Int32)) := (own_rm_3 ((p3.toUInt32 >>> ((1 : Int32) &&& 31).toUInt32).toInt32)).1
          have hi5_1 : ((((p3.toUInt32 >>> ((1 : Int32) &&& 31).toUInt32).toInt32) &&& (2147483647 : Int32)) % (3 : Int32)) < (4 : Int32) := (own_rm_3 ((p3.toUInt32 >>> ((1 : Int32) &&& 31).toUInt32).toInt32)).2.2.1
          have hi5_2 : (((((p3.toUInt32 >>> ((1 : Int32) &&& 31).toUInt32).toInt32) &&& (2147483647 : Int32)) % (3 : Int32)) >>> ((6 : Int32) &&& 31)) = (0 : Int32) := (own_rm_3 ((p3.toUInt32 >>> ((1 : Int32) &&& 31).toUInt32).toInt32)).2.2.2
          exact law_76 l Z a0 hw w kk iw vw hN ws p0 p1 p2 p3 h0 O0 hd0 hd1 hd2 hd3 hi5_0 hi5_1 hi5_2
set_option maxRecDepth 65536 in
set_option maxHeartbeats 40000000 in
theorem comes_1 {Post : Tables → Env → Array Value → State → Outcome → State → Prop} (hpost : ∀ tb e args s v u, (limb_1_1.after args s (.returned v) u = true ∧ limb_1_2.after args s (.returned v) u = true ∧ True) → ReturnedEndW s (.returned v) u (Jvm.fieldLocs frame_1_writes args s ++ Jvm.arrayLocs frame_1_arrays args s ++ Jvm.staticLocs frame_1_statics s) 32 3072 → Post tb e args s (.returned v) u) :
    ArmFor flags0 classFile x code maxLocals ret World_1 tables_1 room_1 Calls_1 rest_1 Pre_1 Post := by
  intro l hfl _ _ p e ha hc hk s m args below hf hA hF happ hP
  obtain ⟨hcalls, hrest, hpre⟩ := hP
  obtain ⟨-, -, -, hnamed, -, -, -, hat⟩ := (Spec.applies_iff hf).mp happ
  obtain ⟨hg, hn⟩ := and_e (Cond.before_iff.mp (show (Jvm.Cond.and given_1 narrow_1).before args s = true from hpre))
  obtain ⟨g1, g2⟩ := and_e hg
  obtain ⟨g3, g4⟩ := and_e g2
  obtain ⟨g5, g6⟩ := and_e g4
  obtain ⟨g7, g8⟩ := and_e g6
  obtain ⟨w0, w1, w2, w3, rfl⟩ : ∃ w0 w1 w2 w3 : Value, args = #[w0, w1, w2, w3] := by
    have hs : args.size = 4 := by simpa [Cond.value, given_1] using g1
    obtain ⟨L⟩ := args
    match L, hs with
    | [w0, w1, w2, w3], _ => exact ⟨w0, w1, w2, w3, rfl⟩
  have hw := fun d (hd : d ∈ tables_1) => atoms_spec (ws := Jvm.Cond.code x code maxLocals ret :: tables_1) hat d (List.mem_cons_of_mem _ hd)
  have hfit : Fit s := fun {y c} hc i hi => by
    obtain ⟨ha, rfl⟩ := Array.getElem?_eq_some_iff.mp hc
    have q := List.all_eq_true.mp ((Array.all_eq_true_iff_forall_mem.mp hF) _ (Array.getElem_mem ha)) i (List.mem_range.mpr hi)
    simpa [Array.getElem?_eq_getElem hi] using q
  obtain ⟨i0, ei0⟩ := is_v g3
  obtain rfl : w0 = (.int i0) := Option.some.inj ei0
  obtain ⟨i1, ei1⟩ := is_v g5
  obtain rfl : w1 = (.int i1) := Option.some.inj ei1
  obtain ⟨i2, ei2⟩ := is_v g7
  obtain rfl : w2 = (.int i2) := Option.some.inj ei2
  obtain ⟨i3, ei3⟩ := is_v g8
  obtain rfl : w3 = (.int i3) := Option.some.inj ei3
  obtain ⟨hsets, hown0⟩ := atoms_of _ (rest_1_c_eq ▸ (show rest_1_c.before _ s = true from hrest))
  have hN : Wd s (fun n => [].getD n 0) (fun n => [].getD n 0) (fun n => [].getD n 0) (fun n => [].getD n .null) := Sta.start (own_eqv (Cond.before_iff.mp (hsets _ (List.mem_of_getElem? (i := 2) rfl))) (Term.int_eval _)) (Or.inl (hsets _ (List.mem_of_getElem? (i := 1) rfl)))
  obtain ⟨n, o, h1, h2, h3, _, L, rfl, ⟨rfl, N⟩, hq⟩ := law_all l s _ hw _ _ _ _ hN tables_1 i0 i1 i2 i3 s.heap (Old.start s) p e ha hc hk s m _ below hf ((Spec.applies_iff_loose hf).mp happ).1 ⟨rfl, State.Warmed39.refl s, rfl⟩ trivial
  refine ⟨n, _, h1, h2, h3, hpost _ _ _ _ _ _ ⟨Cond.after_iff.mpr rfl, Cond.after_iff.mpr (eq_i res_at (Term.int_eval (1)) rfl), trivial⟩ ⟨hq.1, hq.2.1, hq.2.2.1, (hq.2.2.2.sift fun y hy => Or.inr (N y hy)).mono (by decide) (by decide)⟩⟩
theorem main_1_1 : Claimed_1_1 := comes_1 fun _ _ _ _ _ _ h hF => ⟨h.1, hF⟩
theorem main_1_2 : Claimed_1_2 := comes_1 fun _ _ _ _ _ _ h hF => ⟨h.2.1, hF⟩
end Jvm.Pilot.@@N@@
namespace Jvm.Pilot.@@N@@
open Jvm Jvm.ClassFile Sem Op Lib Jvm.Free Jvm.Stand Jvm.Pilot.@@N@@.Jvm.D
/-! MADE BY PROGRAM (witnessworld.py) out of the Statement's table words and the real class files: 18 classes; the members and pool entries that the words name. The judged class is class 1, her method 1. -/
namespace start1
open Jvm.ClassFile
def u (s : String) : CpInfo := .utf8 (stringToUtf16 s)
/-- a pool by its gaps: so many unusable entries, then the entry; so many at the end -/
def gap : Nat → List CpInfo → List CpInfo
  | 0, r => r
  | n + 1, r => .unusable :: gap n r
def poolList (es : List (Nat × CpInfo)) (last : Nat) : List CpInfo := es.foldr (fun e r => gap e.1 (e.2 :: r)) (gap last [])
def pool (es : List (Nat × CpInfo)) (last : Nat) : Array CpInfo := ⟨poolList es last⟩
def fileOf (pool : Array CpInfo) (this : Nat) (attrs : Array Attribute := #[]) (ms : Array MethodInfo := #[]) (fl : Nat := 33) (sup : Nat := 0) (ifs : Array Nat := #[]) (fds : Array FieldInfo := #[]) : ClassFile where
  minorVersion := 0
  majorVersion := 65
  constantPool := pool
  accessFlags := fl
  thisClass := this
  superClass := sup
  interfaces := ifs
  fields := fds
  methods := ms
  attributes := attrs
def plain (name : String) (sup : Option ClassId) : Class where
  name := name
  kind := .ordinary
  loader := none
  accessFlags := 33
  super := sup
  interfaces := #[]
  cf := none
  fields := #[]
  methods := #[]
  instanceTypes := #[]
  staticTypes := #[]
  resolved := #[]
  callSites := []
  init := .initialized
  statics := none
  mirror := none

def pool0 : Array CpInfo := pool [(5, u "<init>"), (0, u "()V"), (1, .class_ 10), (1, u "java/lang/Object")] 113

def k0c0 : Code := { maxStack := 0, maxLocals := 1, code := object_method_1_code, exceptionTable := #[], attributes := #[] }
def k0m0 : Method := { name := "<init>", desc := "()V", sig := { parameters := [], returnType := none }, accessFlags := 1, code := some k0c0 }
/-- java/lang/Object -/
def k0 : Class := { plain "java/lang/Object" none with
  accessFlags := 33
  interfaces := #[]
  cf := some (fileOf pool0 8 #[] #[{ accessFlags := 1, nameIndex := 5, descriptorIndex := 6, attributes := #[] }] 33 0 #[] #[])
  fields := #[]
  methods := #[k0m0]
  instanceTypes := #[]
  staticTypes := #[]
  resolved := Array.replicate 124 none
  statics := none }

def pool1 : Array CpInfo := pool [(2, .class_ 4), (0, .nameAndType 5 6), (0, u "java/lang/Object"), (0, u "<init>"), (0, u "()V"), (0, .class_ 8), (0, u "com/example/tsunagi/tsunagi/client/FragmentedResult"), (0, .methodref 7 3), (0, .methodref 7 11), (0, .nameAndType 12 13), (0, u "hasBlocks"), (0, u "()Z"), (0, .methodref 7 15), (0, .nameAndType 16 6), (0, u "addBlock"), (0, .integer 2147483647), (0, .methodref 7 19), (0, .nameAndType 20 21), (0, u "insertBlock"), (0, u "(I)V"), (0, .methodref 7 23), (0, .nameAndType 24 21), (0, u "closeBlock"), (0, .class_ 26), (0, u "com/example/tsunagi/tsunagi/client/FragmentedResultHasBlocksPinLaw"), (2, u "law"), (0, u "(IIII)Z")] 6

def k1m0 : Method := { name := "<init>", desc := "()V", sig := { parameters := [], returnType := none }, accessFlags := 1, code := none }
def k1c1 : Code := { maxStack := 3, maxLocals := 7, code := code, exceptionTable := #[], attributes := #[] }
def k1m1 : Method := { name := "law", desc := "(IIII)Z", sig := { parameters := [.int, .int, .int, .int], returnType := some .boolean }, accessFlags := 9, code := some k1c1 }
/-- com/example/tsunagi/tsunagi/client/FragmentedResultHasBlocksPinLaw -/
def k1 : Class := { plain "com/example/tsunagi/tsunagi/client/FragmentedResultHasBlocksPinLaw" (some 0) with
  accessFlags := 49
  interfaces := #[]
  cf := some (fileOf pool1 25 #[] #[{ accessFlags := 1, nameIndex := 5, descriptorIndex := 6, attributes := #[] }, { accessFlags := 9, nameIndex := 29, descriptorIndex := 30, attributes := #[] }] 49 2 #[] #[])
  fields := #[]
  methods := #[k1m0, k1m1]
  instanceTypes := #[]
  staticTypes := #[]
  resolved := Array.replicate 37 none
  statics := none }

def pool2 : Array CpInfo := pool [(1, .class_ 2), (0, u "java/lang/AutoCloseable"), (0, .class_ 4), (0, u "java/lang/Object")] 7

/-- java/lang/AutoCloseable -/
def k2 : Class := { plain "java/lang/AutoCloseable" (some 0) with
  accessFlags := 1537
  interfaces := #[]
  cf := some (fileOf pool2 1 #[] #[] 1537 3 #[] #[])
  fields := #[]
  methods := #[]
  instanceTypes := #[]
  staticTypes := #[]
  resolved := Array.replicate 12 none
  statics := none }

def pool3 : Array CpInfo := pool [(1, .methodref 2 3), (0, .class_ 4), (0, .nameAndType 5 6), (0, u "java/lang/Object"), (0, u "<init>"), (0, u "()V"), (0, .class_ 8), (0, u "com/example/tsunagi/tsunagi/client/FragmentedResult"), (0, .fieldref 7 10), (0, .nameAndType 11 12), (0, u "nextBlock"), (0, u "[I"), (0, .fieldref 7 14), (0, .nameAndType 15 12), (0, u "previousBlock"), (0, .fieldref 7 17), (0, .nameAndType 18 12), (0, u "firstPiece"), (0, .fieldref 7 20), (0, .nameAndType 21 12), (0, u "lastPiece"), (0, .class_ 23), (0, u "java/util/BitSet"), (0, .methodref 22 3), (0, .fieldref 7 26), (0, .nameAndType 27 28), (0, u "closed"), (0, u "Ljava/util/BitSet;"), (0, .fieldref 7 30), (0, .nameAndType 31 32), (0, u "firstBlock"), (0, u "I"), (0, .fieldref 7 34), (0, .nameAndType 35 32), (0, u "lastBlock"), (0, .fieldref 7 37), (0, .nameAndType 38 39), (0, u "pieceStart"), (0, u "[J"), (0, .fieldref 7 41), (0, .nameAndType 42 12), (0, u "pieceLength"), (0, .fieldref 7 44), (0, .nameAndType 45 12), (0, u "nextPiece"), (0, .fieldref 7 47), (0, .nameAndType 48 32), (0, u "blockCount"), (0, .methodref 7 50), (0, .nameAndType 51 52), (0, u "newBlock"), (0, u "()I"), (0, .string 54), (0, u "s13 with anchor "), (0, .methodref 7 56), (0, .nameAndType 57 58), (0, u "find"), (0, u "(ILjava/lang/String;)I"), (22, u "held"), (0, u "J"), (9, u "appender"), (5, .string 99), (0, u "s18 for block "), (0, .methodref 22 101), (0, .nameAndType 102 103), (0, u "set"), (0, u "(I)V"), (2, u "file"), (0, u "Ljava/nio/channels/FileChannel;"), (2, u "Ljava/io/OutputStream;"), (23, .integer 524288), (10, u "pieceCount"), (117, .class_ 264), (0, u "java/lang/AutoCloseable"), (0, u "MAX_BLOCKS"), (1, u "MAX_PIECES"), (0, u "BUFFER"), (0, u "INITIAL_ROOM"), (1, u "NONE"), (3, u "hasBlocks"), (0, u "()Z"), (1, u "addBlock"), (1, u "insertBlock"), (2, u "closeBlock")] 26

def k3c0 : Code := { maxStack := 3, maxLocals := 1, code := prog_20_method_1_code, exceptionTable := #[], attributes := #[] }
def k3m0 : Method := { name := "<init>", desc := "()V", sig := { parameters := [], returnType := none }, accessFlags := 0, code := some k3c0 }
def k3c1 : Code := { maxStack := 1, maxLocals := 1, code := prog_20_method_2_code, exceptionTable := #[], attributes := #[] }
def k3m1 : Method := { name := "hasBlocks", desc := "()Z", sig := { parameters := [], returnType := some .boolean }, accessFlags := 0, code := some k3c1 }
def k3c2 : Code := { maxStack := 3, maxLocals := 2, code := prog_20_method_3_code, exceptionTable := #[], attributes := #[] }
def k3m2 : Method := { name := "addBlock", desc := "()V", sig := { parameters := [], returnType := none }, accessFlags := 0, code := some k3c2 }
def k3c3 : Code := { maxStack := 3, maxLocals := 5, code := prog_20_method_4_code, exceptionTable := #[], attributes := #[] }
def k3m3 : Method := { name := "insertBlock", desc := "(I)V", sig := { parameters := [.int], returnType := none }, accessFlags := 0, code := some k3c3 }
def k3c4 : Code := { maxStack := 4, maxLocals := 2, code := prog_20_method_6_code, exceptionTable := #[], attributes := #[] }
def k3m4 : Method := { name := "closeBlock", desc := "(I)V", sig := { parameters := [.int], returnType := none }, accessFlags := 0, code := some k3c4 }
def k3c5 : Code := { maxStack := 4, maxLocals := 2, code := prog_20_method_9_code, exceptionTable := #[], attributes := #[] }
def k3m5 : Method := { name := "newBlock", desc := "()I", sig := { parameters := [], returnType := some .int }, accessFlags := 2, code := some k3c5 }
def k3c6 : Code := { maxStack := 4, maxLocals := 3, code := prog_20_method_11_code, exceptionTable := #[], attributes := #[] }
def k3m6 : Method := { name := "find", desc := "(ILjava/lang/String;)I", sig := { parameters := [.int, (.object "java/lang/String")], returnType := some .int }, accessFlags := 2, code := some k3c6 }
/-- com/example/tsunagi/tsunagi/client/FragmentedResult -/
def k3 : Class := { plain "com/example/tsunagi/tsunagi/client/FragmentedResult" (some 0) with
  accessFlags := 48
  interfaces := #[2]
  cf := some (fileOf pool3 7 #[] #[{ accessFlags := 0, nameIndex := 5, descriptorIndex := 6, attributes := #[] }, { accessFlags := 0, nameIndex := 275, descriptorIndex := 276, attributes := #[] }, { accessFlags := 0, nameIndex := 278, descriptorIndex := 6, attributes := #[] }, { accessFlags := 0, nameIndex := 280, descriptorIndex := 103, attributes := #[] }, { accessFlags := 0, nameIndex := 283, descriptorIndex := 103, attributes := #[] }, { accessFlags := 2, nameIndex := 51, descriptorIndex := 52, attributes := #[] }, { accessFlags := 2, nameIndex := 57, descriptorIndex := 58, attributes := #[] }] 48 2 #[263] #[{ accessFlags := 24, nameIndex := 265, descriptorIndex := 32, attributes := #[] }, { accessFlags := 24, nameIndex := 267, descriptorIndex := 32, attributes := #[] }, { accessFlags := 26, nameIndex := 268, descriptorIndex := 32, attributes := #[] }, { accessFlags := 26, nameIndex := 269, descriptorIndex := 32, attributes := #[] }, { accessFlags := 26, nameIndex := 271, descriptorIndex := 32, attributes := #[] }, { accessFlags := 2, nameIndex := 48, descriptorIndex := 32, attributes := #[] }, { accessFlags := 2, nameIndex := 11, descriptorIndex := 12, attributes := #[] }, { accessFlags := 2, nameIndex := 15, descriptorIndex := 12, attributes := #[] }, { accessFlags := 2, nameIndex := 18, descriptorIndex := 12, attributes := #[] }, { accessFlags := 2, nameIndex := 21, descriptorIndex := 12, attributes := #[] }, { accessFlags := 18, nameIndex := 27, descriptorIndex := 28, attributes := #[] }, { accessFlags := 2, nameIndex := 31, descriptorIndex := 32, attributes := #[] }, { accessFlags := 2, nameIndex := 35, descriptorIndex := 32, attributes := #[] }, { accessFlags := 2, nameIndex := 145, descriptorIndex := 32, attributes := #[] }, { accessFlags := 2, nameIndex := 38, descriptorIndex := 39, attributes := #[] }, { accessFlags := 2, nameIndex := 42, descriptorIndex := 12, attributes := #[] }, { accessFlags := 2, nameIndex := 45, descriptorIndex := 12, attributes := #[] }, { accessFlags := 2, nameIndex := 106, descriptorIndex := 107, attributes := #[] }, { accessFlags := 2, nameIndex := 92, descriptorIndex := 110, attributes := #[] }, { accessFlags := 2, nameIndex := 81, descriptorIndex := 82, attributes := #[] }])
  fields := #[{ name := "MAX_BLOCKS", type := .int, accessFlags := 24, slot := 0, constantValue := 0 }, { name := "MAX_PIECES", type := .int, accessFlags := 24, slot := 1, constantValue := 0 }, { name := "BUFFER", type := .int, accessFlags := 26, slot := 2, constantValue := 0 }, { name := "INITIAL_ROOM", type := .int, accessFlags := 26, slot := 3, constantValue := 0 }, { name := "NONE", type := .int, accessFlags := 26, slot := 4, constantValue := 0 }, { name := "blockCount", type := .int, accessFlags := 2, slot := 0, constantValue := 0 }, { name := "nextBlock", type := (.array .int), accessFlags := 2, slot := 1, constantValue := 0 }, { name := "previousBlock", type := (.array .int), accessFlags := 2, slot := 2, constantValue := 0 }, { name := "firstPiece", type := (.array .int), accessFlags := 2, slot := 3, constantValue := 0 }, { name := "lastPiece", type := (.array .int), accessFlags := 2, slot := 4, constantValue := 0 }, { name := "closed", type := (.object "java/util/BitSet"), accessFlags := 18, slot := 5, constantValue := 0 }, { name := "firstBlock", type := .int, accessFlags := 2, slot := 6, constantValue := 0 }, { name := "lastBlock", type := .int, accessFlags := 2, slot := 7, constantValue := 0 }, { name := "pieceCount", type := .int, accessFlags := 2, slot := 8, constantValue := 0 }, { name := "pieceStart", type := (.array .long), accessFlags := 2, slot := 9, constantValue := 0 }, { name := "pieceLength", type := (.array .int), accessFlags := 2, slot := 10, constantValue := 0 }, { name := "nextPiece", type := (.array .int), accessFlags := 2, slot := 11, constantValue := 0 }, { name := "file", type := (.object "java/nio/channels/FileChannel"), accessFlags := 2, slot := 12, constantValue := 0 }, { name := "appender", type := (.object "java/io/OutputStream"), accessFlags := 2, slot := 13, constantValue := 0 }, { name := "held", type := .long, accessFlags := 2, slot := 14, constantValue := 0 }]
  methods := #[k3m0, k3m1, k3m2, k3m3, k3m4, k3m5, k3m6]
  instanceTypes := #[.int, (.array .int), (.array .int), (.array .int), (.array .int), (.object "java/util/BitSet"), .int, .int, .int, (.array .long), (.array .int), (.array .int), (.object "java/nio/channels/FileChannel"), (.object "java/io/OutputStream"), .long]
  staticTypes := #[.int, .int, .int, .int, .int]
  resolved := Array.replicate 310 none
  statics := none }

def pool4 : Array CpInfo := pool [(1, .class_ 2), (0, u "java/lang/Cloneable"), (0, .class_ 4), (0, u "java/lang/Object")] 2

/-- java/lang/Cloneable -/
def k4 : Class := { plain "java/lang/Cloneable" (some 0) with
  accessFlags := 1537
  interfaces := #[]
  cf := some (fileOf pool4 1 #[] #[] 1537 3 #[] #[])
  fields := #[]
  methods := #[]
  instanceTypes := #[]
  staticTypes := #[]
  resolved := Array.replicate 7 none
  statics := none }

def pool5 : Array CpInfo := pool [(1, .class_ 2), (0, u "java/io/Serializable"), (0, .class_ 4), (0, u "java/lang/Object")] 2

/-- java/io/Serializable -/
def k5 : Class := { plain "java/io/Serializable" (some 0) with
  accessFlags := 1537
  interfaces := #[]
  cf := some (fileOf pool5 1 #[] #[] 1537 3 #[] #[])
  fields := #[]
  methods := #[]
  instanceTypes := #[]
  staticTypes := #[]
  resolved := Array.replicate 7 none
  statics := none }

def pool6 : Array CpInfo := pool [(1, .class_ 2), (0, u "java/util/BitSet"), (0, .fieldref 1 4), (0, .nameAndType 5 6), (0, u "$assertionsDisabled"), (0, u "Z"), (0, .fieldref 1 8), (0, .nameAndType 9 10), (0, u "wordsInUse"), (0, u "I"), (0, .fieldref 1 12), (0, .nameAndType 13 14), (0, u "words"), (0, u "[J"), (3, .nameAndType 19 20), (0, u "<init>"), (0, u "()V"), (0, .methodref 22 18), (0, .class_ 23), (0, u "java/lang/Object"), (0, .fieldref 1 25), (0, .nameAndType 26 6), (0, u "sizeIsSticky"), (0, .methodref 1 28), (0, .nameAndType 29 30), (0, u "initWords"), (0, u "(I)V"), (21, .methodref 1 53), (0, .nameAndType 54 55), (0, u "wordIndex"), (0, u "(I)I"), (0, .methodref 1 57), (0, .nameAndType 58 20), (0, u "checkInvariants"), (80, .methodref 1 140), (0, .nameAndType 141 30), (0, u "ensureCapacity"), (13, .methodref 1 156), (0, .nameAndType 157 30), (0, u "expandTo"), (11, u "set"), (99, .class_ 270), (0, u "java/util/BitSet$1BitSetSpliterator"), (22, u "serialPersistentFields"), (0, u "[Ljava/io/ObjectStreamField;"), (0, .class_ 296), (0, u "java/lang/Cloneable"), (0, .class_ 298), (0, u "java/io/Serializable"), (0, u "ADDRESS_BITS_PER_WORD"), (2, u "BITS_PER_WORD"), (1, u "BIT_INDEX_MASK"), (1, u "WORD_MASK"), (0, u "J"), (0, u "serialVersionUID")] 108

def k6c0 : Code := { maxStack := 2, maxLocals := 1, code := jdk_92_method_1_code, exceptionTable := #[], attributes := #[] }
def k6m0 : Method := { name := "wordIndex", desc := "(I)I", sig := { parameters := [.int], returnType := some .int }, accessFlags := 10, code := some k6c0 }
def k6c1 : Code := { maxStack := 4, maxLocals := 1, code := jdk_92_method_2_code, exceptionTable := #[], attributes := #[] }
def k6m1 : Method := { name := "checkInvariants", desc := "()V", sig := { parameters := [], returnType := none }, accessFlags := 2, code := some k6c1 }
def k6c2 : Code := { maxStack := 2, maxLocals := 1, code := jdk_92_method_4_code, exceptionTable := #[], attributes := #[] }
def k6m2 : Method := { name := "<init>", desc := "()V", sig := { parameters := [], returnType := none }, accessFlags := 1, code := some k6c2 }
def k6c3 : Code := { maxStack := 3, maxLocals := 2, code := jdk_92_method_6_code, exceptionTable := #[], attributes := #[] }
def k6m3 : Method := { name := "initWords", desc := "(I)V", sig := { parameters := [.int], returnType := none }, accessFlags := 2, code := some k6c3 }
def k6c4 : Code := { maxStack := 3, maxLocals := 3, code := jdk_92_method_14_code, exceptionTable := #[], attributes := #[] }
def k6m4 : Method := { name := "ensureCapacity", desc := "(I)V", sig := { parameters := [.int], returnType := none }, accessFlags := 2, code := some k6c4 }
def k6c5 : Code := { maxStack := 2, maxLocals := 3, code := jdk_92_method_15_code, exceptionTable := #[], attributes := #[] }
def k6m5 : Method := { name := "expandTo", desc := "(I)V", sig := { parameters := [.int], returnType := none }, accessFlags := 2, code := some k6c5 }
def k6c6 : Code := { maxStack := 7, maxLocals := 3, code := jdk_92_method_19_code, exceptionTable := #[], attributes := #[] }
def k6m6 : Method := { name := "set", desc := "(I)V", sig := { parameters := [.int], returnType := none }, accessFlags := 1, code := some k6c6 }
/-- java/util/BitSet -/
def k6 : Class := { plain "java/util/BitSet" (some 0) with
  accessFlags := 33
  interfaces := #[4, 5]
  cf := some (fileOf pool6 1 #[.nestMembers #[269]] #[{ accessFlags := 10, nameIndex := 54, descriptorIndex := 55, attributes := #[] }, { accessFlags := 2, nameIndex := 58, descriptorIndex := 20, attributes := #[] }, { accessFlags := 1, nameIndex := 19, descriptorIndex := 20, attributes := #[] }, { accessFlags := 2, nameIndex := 29, descriptorIndex := 30, attributes := #[] }, { accessFlags := 2, nameIndex := 141, descriptorIndex := 30, attributes := #[] }, { accessFlags := 2, nameIndex := 157, descriptorIndex := 30, attributes := #[] }, { accessFlags := 1, nameIndex := 169, descriptorIndex := 30, attributes := #[] }] 33 22 #[295, 297] #[{ accessFlags := 26, nameIndex := 299, descriptorIndex := 10, attributes := #[] }, { accessFlags := 26, nameIndex := 302, descriptorIndex := 10, attributes := #[] }, { accessFlags := 26, nameIndex := 304, descriptorIndex := 10, attributes := #[] }, { accessFlags := 26, nameIndex := 306, descriptorIndex := 307, attributes := #[] }, { accessFlags := 26, nameIndex := 293, descriptorIndex := 294, attributes := #[] }, { accessFlags := 2, nameIndex := 13, descriptorIndex := 14, attributes := #[] }, { accessFlags := 130, nameIndex := 9, descriptorIndex := 10, attributes := #[] }, { accessFlags := 130, nameIndex := 26, descriptorIndex := 6, attributes := #[] }, { accessFlags := 26, nameIndex := 308, descriptorIndex := 307, attributes := #[] }, { accessFlags := 4120, nameIndex := 5, descriptorIndex := 6, attributes := #[] }])
  fields := #[{ name := "ADDRESS_BITS_PER_WORD", type := .int, accessFlags := 26, slot := 0, constantValue := 0 }, { name := "BITS_PER_WORD", type := .int, accessFlags := 26, slot := 1, constantValue := 0 }, { name := "BIT_INDEX_MASK", type := .int, accessFlags := 26, slot := 2, constantValue := 0 }, { name := "WORD_MASK", type := .long, accessFlags := 26, slot := 3, constantValue := 0 }, { name := "serialPersistentFields", type := (.array (.object "java/io/ObjectStreamField")), accessFlags := 26, slot := 4, constantValue := 0 }, { name := "words", type := (.array .long), accessFlags := 2, slot := 0, constantValue := 0 }, { name := "wordsInUse", type := .int, accessFlags := 130, slot := 1, constantValue := 0 }, { name := "sizeIsSticky", type := .boolean, accessFlags := 130, slot := 2, constantValue := 0 }, { name := "serialVersionUID", type := .long, accessFlags := 26, slot := 5, constantValue := 0 }, { name := "$assertionsDisabled", type := .boolean, accessFlags := 4120, slot := 6, constantValue := 0 }]
  methods := #[k6m0, k6m1, k6m2, k6m3, k6m4, k6m5, k6m6]
  instanceTypes := #[(.array .long), .int, .boolean]
  staticTypes := #[.int, .int, .int, .long, (.array (.object "java/io/ObjectStreamField")), .long, .boolean]
  resolved := Array.replicate 417 none
  statics := some 0 }

def pool7 : Array CpInfo := pool [(1, .class_ 2), (0, u "java/lang/Comparable"), (0, .class_ 4), (0, u "java/lang/Object")] 7

/-- java/lang/Comparable -/
def k7 : Class := { plain "java/lang/Comparable" (some 0) with
  accessFlags := 1537
  interfaces := #[]
  cf := some (fileOf pool7 1 #[] #[] 1537 3 #[] #[])
  fields := #[]
  methods := #[]
  instanceTypes := #[]
  staticTypes := #[]
  resolved := Array.replicate 12 none
  statics := none }

def pool8 : Array CpInfo := pool [(2, .class_ 4), (1, u "java/lang/CharSequence"), (42, .class_ 48), (0, u "java/lang/CharSequence$1CodePointIterator"), (10, .class_ 60), (0, u "java/lang/CharSequence$1CharIterator"), (5, .class_ 67), (0, u "java/lang/Object")] 63

/-- java/lang/CharSequence -/
def k8 : Class := { plain "java/lang/CharSequence" (some 0) with
  accessFlags := 1537
  interfaces := #[]
  cf := some (fileOf pool8 2 #[.nestMembers #[47, 59]] #[] 1537 66 #[] #[])
  fields := #[]
  methods := #[]
  instanceTypes := #[]
  staticTypes := #[]
  resolved := Array.replicate 131 none
  statics := none }

def pool9 : Array CpInfo := pool [(1, .class_ 2), (0, u "java/lang/constant/Constable"), (0, .class_ 4), (0, u "java/lang/Object")] 6

/-- java/lang/constant/Constable -/
def k9 : Class := { plain "java/lang/constant/Constable" (some 0) with
  accessFlags := 1537
  interfaces := #[]
  cf := some (fileOf pool9 1 #[] #[] 1537 3 #[] #[])
  fields := #[]
  methods := #[]
  instanceTypes := #[]
  staticTypes := #[]
  resolved := Array.replicate 11 none
  statics := none }

def pool10 : Array CpInfo := pool [(1, .class_ 2), (0, u "java/lang/constant/ConstantDesc"), (0, .class_ 4), (0, u "java/lang/Object")] 32

/-- java/lang/constant/ConstantDesc -/
def k10 : Class := { plain "java/lang/constant/ConstantDesc" (some 0) with
  accessFlags := 1537
  interfaces := #[]
  cf := some (fileOf pool10 1 #[] #[] 1537 3 #[] #[])
  fields := #[]
  methods := #[]
  instanceTypes := #[]
  staticTypes := #[]
  resolved := Array.replicate 37 none
  statics := none }

def pool11 : Array CpInfo := pool [(2, .class_ 4), (1, u "java/lang/Object"), (0, u "<init>"), (0, u "()V"), (3, .class_ 12), (1, u "java/lang/String"), (0, u "value"), (0, u "[B"), (2, u "coder"), (0, u "B"), (2, u "hash"), (0, u "I"), (2, u "hashIsZero"), (0, u "Z"), (13, u "COMPACT_STRINGS"), (534, .class_ 576), (0, u "java/lang/CharSequence"), (22, u "CASE_INSENSITIVE_ORDER"), (0, u "Ljava/util/Comparator;"), (500, u "serialPersistentFields"), (0, u "[Ljava/io/ObjectStreamField;"), (0, .class_ 1104), (0, u "java/lang/String$CaseInsensitiveComparator"), (1, .class_ 1107), (0, u "java/io/Serializable"), (0, .class_ 1109), (0, u "java/lang/Comparable"), (0, .class_ 1111), (0, u "java/lang/constant/Constable"), (0, .class_ 1113), (0, u "java/lang/constant/ConstantDesc"), (2, u "serialVersionUID"), (0, u "J"), (3, u "REPL"), (0, u "C"), (2, u "LATIN1"), (1, u "UTF16")] 323

def k11m0 : Method := { name := "<init>", desc := "()V", sig := { parameters := [], returnType := none }, accessFlags := 1, code := none }
/-- java/lang/String -/
def k11 : Class := { plain "java/lang/String" (some 0) with
  accessFlags := 49
  interfaces := #[5, 7, 8, 9, 10]
  cf := some (fileOf pool11 10 #[.nestMembers #[1103]] #[{ accessFlags := 1, nameIndex := 5, descriptorIndex := 6, attributes := #[] }] 49 2 #[1106, 1108, 575, 1110, 1112] #[{ accessFlags := 18, nameIndex := 13, descriptorIndex := 14, attributes := #[] }, { accessFlags := 18, nameIndex := 17, descriptorIndex := 18, attributes := #[] }, { accessFlags := 2, nameIndex := 21, descriptorIndex := 22, attributes := #[] }, { accessFlags := 2, nameIndex := 25, descriptorIndex := 26, attributes := #[] }, { accessFlags := 26, nameIndex := 1116, descriptorIndex := 1117, attributes := #[] }, { accessFlags := 24, nameIndex := 40, descriptorIndex := 26, attributes := #[] }, { accessFlags := 26, nameIndex := 1101, descriptorIndex := 1102, attributes := #[] }, { accessFlags := 26, nameIndex := 1121, descriptorIndex := 1122, attributes := #[] }, { accessFlags := 25, nameIndex := 599, descriptorIndex := 600, attributes := #[] }, { accessFlags := 24, nameIndex := 1125, descriptorIndex := 18, attributes := #[] }, { accessFlags := 24, nameIndex := 1127, descriptorIndex := 18, attributes := #[] }])
  fields := #[{ name := "value", type := (.array .byte), accessFlags := 18, slot := 0, constantValue := 0 }, { name := "coder", type := .byte, accessFlags := 18, slot := 1, constantValue := 0 }, { name := "hash", type := .int, accessFlags := 2, slot := 2, constantValue := 0 }, { name := "hashIsZero", type := .boolean, accessFlags := 2, slot := 3, constantValue := 0 }, { name := "serialVersionUID", type := .long, accessFlags := 26, slot := 0, constantValue := 0 }, { name := "COMPACT_STRINGS", type := .boolean, accessFlags := 24, slot := 1, constantValue := 0 }, { name := "serialPersistentFields", type := (.array (.object "java/io/ObjectStreamField")), accessFlags := 26, slot := 2, constantValue := 0 }, { name := "REPL", type := .char, accessFlags := 26, slot := 3, constantValue := 0 }, { name := "CASE_INSENSITIVE_ORDER", type := (.object "java/util/Comparator"), accessFlags := 25, slot := 4, constantValue := 0 }, { name := "LATIN1", type := .byte, accessFlags := 24, slot := 5, constantValue := 0 }, { name := "UTF16", type := .byte, accessFlags := 24, slot := 6, constantValue := 0 }]
  methods := #[k11m0]
  instanceTypes := #[(.array .byte), .byte, .int, .boolean]
  staticTypes := #[.long, .boolean, (.array (.object "java/io/ObjectStreamField")), .char, (.object "java/util/Comparator"), .byte, .byte]
  resolved := Array.replicate 1451 none
  statics := none }

/-- the primitive byte -/
def k12 : Class := { plain "byte" none with kind := .primitive 'B', accessFlags := 0x411 }
/-- [B -/
def k13 : Class := { plain "[B" (some 0) with kind := .array 12 .byte, interfaces := #[4, 5], accessFlags := 1041 }

/-- the primitive int -/
def k14 : Class := { plain "int" none with kind := .primitive 'I', accessFlags := 0x411 }
/-- [I -/
def k15 : Class := { plain "[I" (some 0) with kind := .array 14 .int, interfaces := #[4, 5], accessFlags := 1041 }

/-- the primitive long -/
def k16 : Class := { plain "long" none with kind := .primitive 'J', accessFlags := 0x411 }
/-- [J -/
def k17 : Class := { plain "[J" (some 0) with kind := .array 16 .long, interfaces := #[4, 5], accessFlags := 1041 }

def heap : Heap := #[{ cls := 6, slots := #[.int 0, .int 0, .int 0, .long 0, .null, .long 0, .int 1], vm := .statics 6 }]
def classes : Array Class := #[k0, k1, k2, k3, k4, k5, k6, k7, k8, k9, k10, k11, k12, k13, k14, k15, k16, k17]
def interned : List (Array UInt16 × Addr) := []
def slotsUsed : Nat := 7
def theMethod : MethodId := ⟨1, 1⟩
def args0 : Array Value := #[.int 1, .int 2, .int 3, .int 4]
def aboutOver (below : List Frame) : State where
  vm := { classes := classes, interned := interned.toArray }
  heap := heap
  slotsUsed := slotsUsed
  threads := #[{ frames := .invoking theMethod args0 :: below }]
def below0 : List Frame := [.native { method := ⟨0, 0⟩, args := #[] }]
def about1 : State := aboutOver below0
def p0 : Program := .bare "" "" ""
def e0 : Env := launch0.env 0 0 0
theorem w_frames : about1.frames = Frame.invoking theMethod args0 :: below0 := rfl
set_option maxRecDepth 65536 in
theorem w_args : argsFit about1.vm theMethod args0 = true := by decide +kernel
set_option maxRecDepth 65536 in
theorem w_heap : heapFits about1 = true := by decide +kernel
set_option maxRecDepth 65536 in
theorem w_runnable : about1.curStatus? = some .runnable := by decide +kernel
set_option maxRecDepth 65536 in
theorem w_alone : about1.alone = true := by decide +kernel
set_option maxRecDepth 65536 in
theorem w_named : about1.methodNamed? x = some theMethod := by decide +kernel
set_option maxRecDepth 65536 in
theorem w_hears : about1.hears theMethod below0 = true := by decide +kernel
set_option maxRecDepth 65536 in
theorem w_ripe : about1.ripe theMethod args0 below0 = true := by decide +kernel
theorem w_running : about1.status = .running := rfl
set_option maxRecDepth 65536 in
theorem w_room : about1.hasRoom e0.platform room_1 = true :=
  launch0.hasRoom_least _ room_1 (by decide +kernel) (by decide +kernel) (by decide +kernel) (by decide +kernel) (by decide +kernel) (by decide +kernel)
theorem allAtoms_all (ts : List Jvm.Cond) (a : Array Jvm.Value) (st : Jvm.State) : (allAtoms ts).before a st = ts.all (fun c => c.before a st) := by
  induction ts with
  | nil => rfl
  | cons c t ih =>
    show (Jvm.Cond.and c (allAtoms t)).before a st = _
    rw [Jvm.Cond.before_and, ih, List.all_cons]
def words1 : List Jvm.Cond := Jvm.Cond.code x code maxLocals ret :: tables_1
/-- a 'code' word, met by the world's own term for the bytes: nothing is compared byte by byte -/
theorem code_word {y : MethodName} {bytes : ByteArray} {mx : Nat} {rt : Option FieldType} {a : Array Value} {s : State} {m : MethodId} {meth : Method} {c : Code} (h1 : s.methodNamed? y = some m) (h2 : s.vm.method? m = some meth) (h3 : meth.code = some c) (h4 : c.code = bytes)
    (h5 : (c.maxLocals == mx && c.exceptionTable.isEmpty && decide (c.maxStack ≤ mostOperands) && decide (meth.sig.returnType = rt) && !meth.locks && decide (parseMethodDescriptor y.desc = some meth.sig)) = true) : (Jvm.Cond.code y bytes mx rt).before a s = true := by
  simp only [Bool.and_eq_true, beq_iff_eq, Bool.not_eq_true', decide_eq_true_eq] at h5
  obtain ⟨⟨⟨⟨⟨g1, g2⟩, g3⟩, g4⟩, g5⟩, g6⟩ := h5
  simp [Cond.before, Cond.holds, Cond.value, h1, h2, h3, h4, g1, g2, g3, g4, g5, g6]
def isCode : Jvm.Cond → Bool
  | .code _ _ _ _ => true
  | _ => false
theorem all_split {L : List Jvm.Cond} {P : Jvm.Cond → Bool} (h1 : L.all (fun c => isCode c || P c) = true) (h2 : ∀ c ∈ L.filter isCode, P c = true) : L.all P = true := by
  refine List.all_eq_true.mpr fun c hc => ?_
  have h := List.all_eq_true.mp h1 c hc
  rcases Bool.eq_false_or_eq_true (isCode c) with hi | hi
  · exact h2 c (List.mem_filter.mpr ⟨hc, hi⟩)
  · simpa [hi] using h
set_option maxRecDepth 65536 in
theorem w_c0 : (Jvm.Cond.code x code maxLocals ret).before args0 about1 = true := code_word (m := ⟨1, 1⟩) (meth := k1m1) (c := k1c1) (by decide +kernel) rfl rfl rfl (by decide +kernel)
set_option maxRecDepth 65536 in
theorem w_c1 : (Jvm.Cond.code ({ cls := "com/example/tsunagi/tsunagi/client/FragmentedResult", name := "<init>", desc := "()V" } : Jvm.MethodName) prog_20_method_1_code (1 : Nat) (Option.none : Option Jvm.ClassFile.FieldType)).before args0 about1 = true := code_word (m := ⟨3, 0⟩) (meth := k3m0) (c := k3c0) (by decide +kernel) rfl rfl rfl (by decide +kernel)
set_option maxRecDepth 65536 in
theorem w_c2 : (Jvm.Cond.code ({ cls := "java/lang/Object", name := "<init>", desc := "()V" } : Jvm.MethodName) object_method_1_code (1 : Nat) (Option.none : Option Jvm.ClassFile.FieldType)).before args0 about1 = true := code_word (m := ⟨0, 0⟩) (meth := k0m0) (c := k0c0) (by decide +kernel) rfl rfl rfl (by decide +kernel)
set_option maxRecDepth 65536 in
theorem w_c3 : (Jvm.Cond.code ({ cls := "java/util/BitSet", name := "<init>", desc := "()V" } : Jvm.MethodName) jdk_92_method_4_code (1 : Nat) (Option.none : Option Jvm.ClassFile.FieldType)).before args0 about1 = true := code_word (m := ⟨6, 2⟩) (meth := k6m2) (c := k6c2) (by decide +kernel) rfl rfl rfl (by decide +kernel)
set_option maxRecDepth 65536 in
theorem w_c4 : (Jvm.Cond.code ({ cls := "java/util/BitSet", name := "initWords", desc := "(I)V" } : Jvm.MethodName) jdk_92_method_6_code (2 : Nat) (Option.none : Option Jvm.ClassFile.FieldType)).before args0 about1 = true := code_word (m := ⟨6, 3⟩) (meth := k6m3) (c := k6c3) (by decide +kernel) rfl rfl rfl (by decide +kernel)
set_option maxRecDepth 65536 in
theorem w_c5 : (Jvm.Cond.code ({ cls := "java/util/BitSet", name := "wordIndex", desc := "(I)I" } : Jvm.MethodName) jdk_92_method_1_code (1 : Nat) (Option.some Jvm.ClassFile.FieldType.int)).before args0 about1 = true := code_word (m := ⟨6, 0⟩) (meth := k6m0) (c := k6c0) (by decide +kernel) rfl rfl rfl (by decide +kernel)
set_option maxRecDepth 65536 in
theorem w_c6 : (Jvm.Cond.code ({ cls := "com/example/tsunagi/tsunagi/client/FragmentedResult", name := "hasBlocks", desc := "()Z" } : Jvm.MethodName) prog_20_method_2_code (1 : Nat) (Option.some Jvm.ClassFile.FieldType.boolean)).before args0 about1 = true := code_word (m := ⟨3, 1⟩) (meth := k3m1) (c := k3c1) (by decide +kernel) rfl rfl rfl (by decide +kernel)
set_option maxRecDepth 65536 in
theorem w_c7 : (Jvm.Cond.code ({ cls := "com/example/tsunagi/tsunagi/client/FragmentedResult", name := "addBlock", desc := "()V" } : Jvm.MethodName) prog_20_method_3_code (2 : Nat) (Option.none : Option Jvm.ClassFile.FieldType)).before args0 about1 = true := code_word (m := ⟨3, 2⟩) (meth := k3m2) (c := k3c2) (by decide +kernel) rfl rfl rfl (by decide +kernel)
set_option maxRecDepth 65536 in
theorem w_c8 : (Jvm.Cond.code ({ cls := "com/example/tsunagi/tsunagi/client/FragmentedResult", name := "newBlock", desc := "()I" } : Jvm.MethodName) prog_20_method_9_code (2 : Nat) (Option.some Jvm.ClassFile.FieldType.int)).before args0 about1 = true := code_word (m := ⟨3, 5⟩) (meth := k3m5) (c := k3c5) (by decide +kernel) rfl rfl rfl (by decide +kernel)
set_option maxRecDepth 65536 in
theorem w_c9 : (Jvm.Cond.code ({ cls := "com/example/tsunagi/tsunagi/client/FragmentedResult", name := "insertBlock", desc := "(I)V" } : Jvm.MethodName) prog_20_method_4_code (5 : Nat) (Option.none : Option Jvm.ClassFile.FieldType)).before args0 about1 = true := code_word (m := ⟨3, 3⟩) (meth := k3m3) (c := k3c3) (by decide +kernel) rfl rfl rfl (by decide +kernel)
set_option maxRecDepth 65536 in
theorem w_c10 : (Jvm.Cond.code ({ cls := "com/example/tsunagi/tsunagi/client/FragmentedResult", name := "find", desc := "(ILjava/lang/String;)I" } : Jvm.MethodName) prog_20_method_11_code (3 : Nat) (Option.some Jvm.ClassFile.FieldType.int)).before args0 about1 = true := code_word (m := ⟨3, 6⟩) (meth := k3m6) (c := k3c6) (by decide +kernel) rfl rfl rfl (by decide +kernel)
set_option maxRecDepth 65536 in
theorem w_c11 : (Jvm.Cond.code ({ cls := "com/example/tsunagi/tsunagi/client/FragmentedResult", name := "closeBlock", desc := "(I)V" } : Jvm.MethodName) prog_20_method_6_code (2 : Nat) (Option.none : Option Jvm.ClassFile.FieldType)).before args0 about1 = true := code_word (m := ⟨3, 4⟩) (meth := k3m4) (c := k3c4) (by decide +kernel) rfl rfl rfl (by decide +kernel)
set_option maxRecDepth 65536 in
theorem w_c12 : (Jvm.Cond.code ({ cls := "java/util/BitSet", name := "set", desc := "(I)V" } : Jvm.MethodName) jdk_92_method_19_code (3 : Nat) (Option.none : Option Jvm.ClassFile.FieldType)).before args0 about1 = true := code_word (m := ⟨6, 6⟩) (meth := k6m6) (c := k6c6) (by decide +kernel) rfl rfl rfl (by decide +kernel)
set_option maxRecDepth 65536 in
theorem w_c13 : (Jvm.Cond.code ({ cls := "java/util/BitSet", name := "expandTo", desc := "(I)V" } : Jvm.MethodName) jdk_92_method_15_code (3 : Nat) (Option.none : Option Jvm.ClassFile.FieldType)).before args0 about1 = true := code_word (m := ⟨6, 5⟩) (meth := k6m5) (c := k6c5) (by decide +kernel) rfl rfl rfl (by decide +kernel)
set_option maxRecDepth 65536 in
theorem w_c14 : (Jvm.Cond.code ({ cls := "java/util/BitSet", name := "ensureCapacity", desc := "(I)V" } : Jvm.MethodName) jdk_92_method_14_code (3 : Nat) (Option.none : Option Jvm.ClassFile.FieldType)).before args0 about1 = true := code_word (m := ⟨6, 4⟩) (meth := k6m4) (c := k6c4) (by decide +kernel) rfl rfl rfl (by decide +kernel)
set_option maxRecDepth 65536 in
theorem w_c15 : (Jvm.Cond.code ({ cls := "java/util/BitSet", name := "checkInvariants", desc := "()V" } : Jvm.MethodName) jdk_92_method_2_code (1 : Nat) (Option.none : Option Jvm.ClassFile.FieldType)).before args0 about1 = true := code_word (m := ⟨6, 1⟩) (meth := k6m1) (c := k6c1) (by decide +kernel) rfl rfl rfl (by decide +kernel)
def codes1 : List Jvm.Cond := [Jvm.Cond.code x code maxLocals ret, Jvm.Cond.code ({ cls := "com/example/tsunagi/tsunagi/client/FragmentedResult", name := "<init>", desc := "()V" } : Jvm.MethodName) prog_20_method_1_code (1 : Nat) (Option.none : Option Jvm.ClassFile.FieldType), Jvm.Cond.code ({ cls := "java/lang/Object", name := "<init>", desc := "()V" } : Jvm.MethodName) object_method_1_code (1 : Nat) (Option.none : Option Jvm.ClassFile.FieldType), Jvm.Cond.code ({ cls := "java/util/BitSet", name := "<init>", desc := "()V" } : Jvm.MethodName) jdk_92_method_4_code (1 : Nat) (Option.none : Option Jvm.ClassFile.FieldType), Jvm.Cond.code ({ cls := "java/util/BitSet", name := "initWords", desc := "(I)V" } : Jvm.MethodName) jdk_92_method_6_code (2 : Nat) (Option.none : Option Jvm.ClassFile.FieldType), Jvm.Cond.code ({ cls := "java/util/BitSet", name := "wordIndex", desc := "(I)I" } : Jvm.MethodName) jdk_92_method_1_code (1 : Nat) (Option.some Jvm.ClassFile.FieldType.int), Jvm.Cond.code ({ cls := "com/example/tsunagi/tsunagi/client/FragmentedResult", name := "hasBlocks", desc := "()Z" } : Jvm.MethodName) prog_20_method_2_code (1 : Nat) (Option.some Jvm.ClassFile.FieldType.boolean), Jvm.Cond.code ({ cls := "com/example/tsunagi/tsunagi/client/FragmentedResult", name := "addBlock", desc := "()V" } : Jvm.MethodName) prog_20_method_3_code (2 : Nat) (Option.none : Option Jvm.ClassFile.FieldType), Jvm.Cond.code ({ cls := "com/example/tsunagi/tsunagi/client/FragmentedResult", name := "newBlock", desc := "()I" } : Jvm.MethodName) prog_20_method_9_code (2 : Nat) (Option.some Jvm.ClassFile.FieldType.int), Jvm.Cond.code ({ cls := "com/example/tsunagi/tsunagi/client/FragmentedResult", name := "insertBlock", desc := "(I)V" } : Jvm.MethodName) prog_20_method_4_code (5 : Nat) (Option.none : Option Jvm.ClassFile.FieldType), Jvm.Cond.code ({ cls := "com/example/tsunagi/tsunagi/client/FragmentedResult", name := "find", desc := "(ILjava/lang/String;)I" } : Jvm.MethodName) prog_20_method_11_code (3 : Nat) (Option.some Jvm.ClassFile.FieldType.int), Jvm.Cond.code ({ cls := "com/example/tsunagi/tsunagi/client/FragmentedResult", name := "closeBlock", desc := "(I)V" } : Jvm.MethodName) prog_20_method_6_code (2 : Nat) (Option.none : Option Jvm.ClassFile.FieldType), Jvm.Cond.code ({ cls := "java/util/BitSet", name := "set", desc := "(I)V" } : Jvm.MethodName) jdk_92_method_19_code (3 : Nat) (Option.none : Option Jvm.ClassFile.FieldType), Jvm.Cond.code ({ cls := "java/util/BitSet", name := "expandTo", desc := "(I)V" } : Jvm.MethodName) jdk_92_method_15_code (3 : Nat) (Option.none : Option Jvm.ClassFile.FieldType), Jvm.Cond.code ({ cls := "java/util/BitSet", name := "ensureCapacity", desc := "(I)V" } : Jvm.MethodName) jdk_92_method_14_code (3 : Nat) (Option.none : Option Jvm.ClassFile.FieldType), Jvm.Cond.code ({ cls := "java/util/BitSet", name := "checkInvariants", desc := "()V" } : Jvm.MethodName) jdk_92_method_2_code (1 : Nat) (Option.none : Option Jvm.ClassFile.FieldType)]
set_option maxRecDepth 65536 in
theorem codes_eq : words1.filter isCode = codes1 := rfl
theorem w_codes : ∀ c ∈ words1.filter isCode, c.before args0 about1 = true := by
  rw [codes_eq]
  intro c hc
  simp only [codes1, List.mem_cons, List.not_mem_nil, or_false] at hc
  rcases hc with rfl | rfl | rfl | rfl | rfl | rfl | rfl | rfl | rfl | rfl | rfl | rfl | rfl | rfl | rfl | rfl
  · exact w_c0
  · exact w_c1
  · exact w_c2
  · exact w_c3
  · exact w_c4
  · exact w_c5
  · exact w_c6
  · exact w_c7
  · exact w_c8
  · exact w_c9
  · exact w_c10
  · exact w_c11
  · exact w_c12
  · exact w_c13
  · exact w_c14
  · exact w_c15
set_option maxRecDepth 65536 in
theorem w_t1 : (words1.take 24).all (fun c => isCode c || c.before args0 about1) = true := by decide +kernel
set_option maxRecDepth 65536 in
theorem w_t2 : ((words1.drop 24).take 24).all (fun c => isCode c || c.before args0 about1) = true := by decide +kernel
set_option maxRecDepth 65536 in
theorem w_t3 : (((words1.drop 24).drop 24).take 24).all (fun c => isCode c || c.before args0 about1) = true := by decide +kernel
set_option maxRecDepth 65536 in
theorem w_t4 : ((((words1.drop 24).drop 24).drop 24).take 24).all (fun c => isCode c || c.before args0 about1) = true := by decide +kernel
set_option maxRecDepth 65536 in
theorem w_t5 : ((((words1.drop 24).drop 24).drop 24).drop 24).all (fun c => isCode c || c.before args0 about1) = true := by decide +kernel
theorem w_tables : (allAtoms (Jvm.Cond.code x code maxLocals ret :: tables_1)).before args0 about1 = true := by
  rw [allAtoms_all]
  show words1.all (fun c => c.before args0 about1) = true
  refine all_split ?_ w_codes
  rw [← List.take_append_drop 24 words1, List.all_append, w_t1, ← List.take_append_drop 24 (words1.drop 24), List.all_append, w_t2, ← List.take_append_drop 24 ((words1.drop 24).drop 24), List.all_append, w_t3, ← List.take_append_drop 24 (((words1.drop 24).drop 24).drop 24), List.all_append, w_t4, w_t5]
  rfl
set_option maxRecDepth 65536 in
theorem w_rest : rest_1_c.before args0 about1 = true := by decide +kernel
set_option maxRecDepth 65536 in
theorem w_case : (Jvm.Cond.and given_1 narrow_1).before args0 about1 = true := by decide +kernel
theorem w_applies : (headSpec (Jvm.Cond.code x code maxLocals ret :: tables_1) room_1).applies x e0.platform about1 = true :=
  (Spec.applies_iff w_frames).mpr ⟨w_running, w_runnable, w_alone, w_named, w_hears, w_ripe, w_room, w_tables⟩
theorem atStart : AtStart classFile x code maxLocals ret World_1 tables_1 room_1 Calls_1 rest_1 Pre_1 launch0 p0 e0 about1 theMethod args0 below0 :=
  ⟨lists_1, trivial, launch0.admits_env _ _ _, launch0.least_env, fairChoices_fair.cas, fairChoices_fair.clock, w_frames, w_args, w_heap, w_applies, trivial, w_rest, w_case⟩
end start1
theorem witness_1 : WitnessClaimed_1 := ⟨start1.p0, start1.e0, start1.about1, start1.theMethod, start1.args0, start1.below0, start1.atStart⟩
end Jvm.Pilot.@@N@@
